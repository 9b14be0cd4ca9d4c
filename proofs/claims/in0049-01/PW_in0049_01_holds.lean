import PyProof.Rows.All
import Wide.All
import OpenK.AllK
import Wide.FinOn
import Lean
import PySem.Challenge.RW_in0049_01
open PySem PySem.W PyProof.Rows
set_option Elab.async false
set_option maxRecDepth 100000
set_option maxHeartbeats 8000000
set_option linter.all false
set_option compiler.extract_closed false
namespace Mine
open PySem PySem.W PySem.Calls PyProof.Rows
abbrev pg : Program := PySem.Challenge.pw_in0049_01
def stAt (i : Nat) : Stmt := pg.main.body.getD i (.Pass ⟨0, 0, 0, 0⟩)
def fdOf (st : Stmt) (pm : Value) (cd : Addr) : FuncData := match st with | .FunctionDef n a b _ _ _ sc _ _ _ => docDef n a b sc pm (.ref cd) .none | _ => default
def bodyOf (st : Stmt) : List Stmt := match st with | .FunctionDef _ _ b _ _ _ _ _ _ _ => b | _ => []
noncomputable def fdIW : FuncData := fdOf (stAt 2) (.str "cpy313.xml.etree.ElementPath" 282) 37
noncomputable def fdPT : FuncData := fdOf (stAt 3) (.str "cpy313.xml.etree.ElementPath" 282) 44
noncomputable def fdPC : FuncData := fdOf (stAt 4) (.str "cpy313.xml.etree.ElementPath" 282) 51
noncomputable def fdTR : FuncData := fdOf (stAt 7) (.str "cpy313.fnmatch" 317) 63
noncomputable def fdES : FuncData := fdOf (stAt 10) (.str "re" 366) 75
noncomputable def fdTS : FuncData := fdOf (stAt 12) (.str "cpy313.fnmatch" 521) 82
noncomputable def fdJN : FuncData := fdOf (stAt 13) (.str "cpy313.fnmatch" 521) 89
noncomputable def fdTX : FuncData := fdOf (stAt 15) (.str "law_in0049_01" 555) 96
noncomputable def fdDR : FuncData := fdOf (stAt 16) (.str "law_in0049_01" 555) 101
noncomputable def fdND : FuncData := fdOf (stAt 17) (.str "law_in0049_01" 555) 108
noncomputable def fdQU : FuncData := fdOf (stAt 18) (.str "law_in0049_01" 555) 113
noncomputable def fdSY : FuncData := fdOf (stAt 19) (.str "law_in0049_01" 555) 120
noncomputable def fdPL : FuncData := fdOf (stAt 20) (.str "law_in0049_01" 555) 127
noncomputable def fdCU : FuncData := fdOf (stAt 21) (.str "law_in0049_01" 555) 134
noncomputable def fdTK : FuncData := fdOf (stAt 22) (.str "law_in0049_01" 555) 139
noncomputable def fdRF : FuncData := fdOf (stAt 23) (.str "law_in0049_01" 555) 146
noncomputable def fdLW : FuncData := fdOf (stAt 24) (.str "law_in0049_01" 555) 151
/-- what of the heap behind the top is looked at: the globals, the defs, their codes, the pattern, the table -/
noncomputable def KK (P : Params) : Frag := [
  (3, { cls := Value.type "dict", data := Data.dict #[{ hash := PyData.keyHash P (Str.ofString "__name__"), key := Value.str (Str.ofString "__name__") 165, val := Value.str (Str.ofString "law_in0049_01") 555 }, { hash := PyData.keyHash P (Str.ofString "__doc__"), key := Value.str (Str.ofString "__doc__") 166, val := Value.none }, { hash := PyData.keyHash P (Str.ofString "__package__"), key := Value.str (Str.ofString "__package__") 167, val := Value.none }, { hash := PyData.keyHash P (Str.ofString "__loader__"), key := Value.str (Str.ofString "__loader__") 168, val := Value.builtin "__main__.__loader__#opaque" }, { hash := PyData.keyHash P (Str.ofString "__spec__"), key := Value.str (Str.ofString "__spec__") 169, val := Value.none }, { hash := PyData.keyHash P (Str.ofString "__annotations__"), key := Value.str (Str.ofString "__annotations__") 170, val := Value.ref 6 }, { hash := PyData.keyHash P (Str.ofString "__builtins__"), key := Value.str (Str.ofString "__builtins__") 171, val := Value.ref 4 }, { hash := PyData.keyHash P (Str.ofString "__file__"), key := Value.str (Str.ofString "__file__") 173, val := Value.str (Str.ofString "/claim/cut.py") 172 }, { hash := PyData.keyHash P (Str.ofString "__cached__"), key := Value.str (Str.ofString "__cached__") 174, val := Value.none }, { hash := PyData.keyHash P (Str.ofString "_sre"), key := Value.str (Str.ofString "_sre") 275, val := Value.ref 12 }, { hash := PyData.keyHash P (Str.ofString "_is_wildcard_tag"), key := Value.str (Str.ofString "_is_wildcard_tag") 290, val := Value.ref 38 }, { hash := PyData.keyHash P (Str.ofString "_prepare_tag"), key := Value.str (Str.ofString "_prepare_tag") 305, val := Value.ref 45 }, { hash := PyData.keyHash P (Str.ofString "prepare_child"), key := Value.str (Str.ofString "prepare_child") 316, val := Value.ref 52 }, { hash := PyData.keyHash P (Str.ofString "_twin_re_1"), key := Value.str (Str.ofString "_twin_re_1") 356, val := Value.ref 57 }, { hash := PyData.keyHash P (Str.ofString "translate"), key := Value.str (Str.ofString "translate") 365, val := Value.ref 64 }, { hash := PyData.keyHash P (Str.ofString "_special_chars_map"), key := Value.str (Str.ofString "_special_chars_map") 513, val := Value.ref 66 }, { hash := PyData.keyHash P (Str.ofString "escape"), key := Value.str (Str.ofString "escape") 520, val := Value.ref 76 }, { hash := PyData.keyHash P (Str.ofString "_translate"), key := Value.str (Str.ofString "_translate") 541, val := Value.ref 83 }, { hash := PyData.keyHash P (Str.ofString "_join_translated_parts"), key := Value.str (Str.ofString "_join_translated_parts") 554, val := Value.ref 90 }, { hash := PyData.keyHash P (Str.ofString "_law_texts"), key := Value.str (Str.ofString "_law_texts") 566, val := Value.ref 97 }, { hash := PyData.keyHash P (Str.ofString "_law_drawn"), key := Value.str (Str.ofString "_law_drawn") 572, val := Value.ref 102 }, { hash := PyData.keyHash P (Str.ofString "_law_node"), key := Value.str (Str.ofString "_law_node") 581, val := Value.ref 109 }, { hash := PyData.keyHash P (Str.ofString "_law_quoted"), key := Value.str (Str.ofString "_law_quoted") 587, val := Value.ref 114 }, { hash := PyData.keyHash P (Str.ofString "_law_says"), key := Value.str (Str.ofString "_law_says") 594, val := Value.ref 121 }, { hash := PyData.keyHash P (Str.ofString "_law_plain"), key := Value.str (Str.ofString "_law_plain") 602, val := Value.ref 128 }, { hash := PyData.keyHash P (Str.ofString "_law_cut"), key := Value.str (Str.ofString "_law_cut") 613, val := Value.ref 135 }, { hash := PyData.keyHash P (Str.ofString "_law_takes"), key := Value.str (Str.ofString "_law_takes") 619, val := Value.ref 140 }, { hash := PyData.keyHash P (Str.ofString "_law_refused"), key := Value.str (Str.ofString "_law_refused") 627, val := Value.ref 147 }, { hash := PyData.keyHash P (Str.ofString "law"), key := Value.str (Str.ofString "law") 633, val := Value.ref 152 }] 29 }),
  (37, { cls := Value.type "code", data := Data.fields #[Value.str (Str.ofString "_is_wildcard_tag") 284, Value.str (Str.ofString "_is_wildcard_tag") 285, Value.str (Str.ofString "/claim/cut.py") 286, Value.int 3 0, Value.int 1 0, Value.int 0 0, Value.int 0 0, Value.int 3 0, Value.ref 32, Value.bool true, Value.int 276 0, Value.ref 33, Value.none, Value.ref 34, Value.ref 35, Value.ref 36, Value.int 288 0, Value.int 3 0, Value.str (Str.ofString "/claim/cut.py") 289] }),
  (38, { cls := .type "function", data := .func fdIW }),
  (44, { cls := Value.type "code", data := Data.fields #[Value.str (Str.ofString "_prepare_tag") 291, Value.str (Str.ofString "_prepare_tag") 292, Value.str (Str.ofString "/claim/cut.py") 293, Value.int 5 0, Value.int 1 0, Value.int 0 0, Value.int 0 0, Value.int 3 0, Value.ref 39, Value.bool true, Value.int 276 0, Value.ref 40, Value.none, Value.ref 41, Value.ref 42, Value.ref 43, Value.int 303 0, Value.int 5 0, Value.str (Str.ofString "/claim/cut.py") 304] }),
  (45, { cls := .type "function", data := .func fdPT }),
  (51, { cls := Value.type "code", data := Data.fields #[Value.str (Str.ofString "prepare_child") 306, Value.str (Str.ofString "prepare_child") 307, Value.str (Str.ofString "/claim/cut.py") 308, Value.int 42 0, Value.int 2 0, Value.int 0 0, Value.int 0 0, Value.int 3 0, Value.ref 46, Value.bool true, Value.int 276 0, Value.ref 47, Value.none, Value.ref 48, Value.ref 49, Value.ref 50, Value.int 314 0, Value.int 42 0, Value.str (Str.ofString "/claim/cut.py") 315] }),
  (52, { cls := .type "function", data := .func fdPC }),
  (56, { cls := Value.type "tuple", data := Data.seq #[Value.int 14 0, Value.int 14 0, Value.int 4 0, Value.int 1 0, Value.int 1 0, Value.int 9 0, Value.int 0 0, Value.int 64 0, Value.int 0 0, Value.int 1342177280 0, Value.int 0 0, Value.int 0 0, Value.int 0 0, Value.int 0 0, Value.int 0 0, Value.int 17 0, Value.int 0 0, Value.int 13 0, Value.int 11 0, Value.int 9 0, Value.int 0 0, Value.int 64 0, Value.int 0 0, Value.int 1342177280 0, Value.int 0 0, Value.int 0 0, Value.int 0 0, Value.int 0 0, Value.int 0 0, Value.int 17 0, Value.int 1 0, Value.int 1 0] }),
  (57, { cls := Value.type "re.Pattern", data := Data.fields #[Value.str (Str.ofString "([&~|])") 320, Value.int 32 355, Value.int 1 0, Value.none, Value.none, Value.ref 56, Value.int 0 0] }),
  (63, { cls := Value.type "code", data := Data.fields #[Value.str (Str.ofString "translate") 357, Value.str (Str.ofString "translate") 358, Value.str (Str.ofString "/claim/cut.py") 359, Value.int 65 0, Value.int 1 0, Value.int 0 0, Value.int 0 0, Value.int 3 0, Value.ref 58, Value.bool true, Value.int 276 0, Value.ref 59, Value.none, Value.ref 60, Value.ref 61, Value.ref 62, Value.int 363 0, Value.int 65 0, Value.str (Str.ofString "/claim/cut.py") 364] }),
  (64, { cls := .type "function", data := .func fdTR }),
  (66, { cls := Value.type "dict", data := Data.dict #[{ hash := 40, key := Value.int 40 369, val := Value.str (Str.ofString "\\(") 373 }, { hash := 41, key := Value.int 41 375, val := Value.str (Str.ofString "\\)") 379 }, { hash := 91, key := Value.int 91 381, val := Value.str (Str.ofString "\\[") 385 }, { hash := 93, key := Value.int 93 387, val := Value.str (Str.ofString "\\]") 391 }, { hash := 123, key := Value.int 123 393, val := Value.str (Str.ofString "\\{") 397 }, { hash := 125, key := Value.int 125 399, val := Value.str (Str.ofString "\\}") 403 }, { hash := 63, key := Value.int 63 405, val := Value.str (Str.ofString "\\?") 409 }, { hash := 42, key := Value.int 42 411, val := Value.str (Str.ofString "\\*") 415 }, { hash := 43, key := Value.int 43 417, val := Value.str (Str.ofString "\\+") 421 }, { hash := 45, key := Value.int 45 423, val := Value.str (Str.ofString "\\-") 427 }, { hash := 124, key := Value.int 124 429, val := Value.str (Str.ofString "\\|") 433 }, { hash := 94, key := Value.int 94 435, val := Value.str (Str.ofString "\\^") 439 }, { hash := 36, key := Value.int 36 441, val := Value.str (Str.ofString "\\$") 445 }, { hash := 92, key := Value.int 92 447, val := Value.str (Str.ofString "\\\\") 451 }, { hash := 46, key := Value.int 46 453, val := Value.str (Str.ofString "\\.") 457 }, { hash := 38, key := Value.int 38 459, val := Value.str (Str.ofString "\\&") 463 }, { hash := 126, key := Value.int 126 465, val := Value.str (Str.ofString "\\~") 469 }, { hash := 35, key := Value.int 35 471, val := Value.str (Str.ofString "\\#") 475 }, { hash := 32, key := Value.int 32 477, val := Value.str (Str.ofString "\\ ") 481 }, { hash := 9, key := Value.int 9 483, val := Value.str (Str.ofString "\\\t") 487 }, { hash := 10, key := Value.int 10 489, val := Value.str (Str.ofString "\\\n") 493 }, { hash := 13, key := Value.int 13 495, val := Value.str (Str.ofString "\\\x0d") 499 }, { hash := 11, key := Value.int 11 501, val := Value.str (Str.ofString "\\\x0b") 505 }, { hash := 12, key := Value.int 12 507, val := Value.str (Str.ofString "\\\x0c") 511 }] 24 }),
  (75, { cls := Value.type "code", data := Data.fields #[Value.str (Str.ofString "escape") 514, Value.str (Str.ofString "escape") 515, Value.str (Str.ofString "/claim/cut.py") 516, Value.int 71 0, Value.int 1 0, Value.int 0 0, Value.int 0 0, Value.int 3 0, Value.ref 70, Value.bool true, Value.int 276 0, Value.ref 71, Value.none, Value.ref 72, Value.ref 73, Value.ref 74, Value.int 518 0, Value.int 71 0, Value.str (Str.ofString "/claim/cut.py") 519] }),
  (76, { cls := .type "function", data := .func fdES }),
  (82, { cls := Value.type "code", data := Data.fields #[Value.str (Str.ofString "_translate") 523, Value.str (Str.ofString "_translate") 524, Value.str (Str.ofString "/claim/cut.py") 525, Value.int 78 0, Value.int 3 0, Value.int 0 0, Value.int 0 0, Value.int 3 0, Value.ref 77, Value.bool true, Value.int 276 0, Value.ref 78, Value.none, Value.ref 79, Value.ref 80, Value.ref 81, Value.int 539 0, Value.int 78 0, Value.str (Str.ofString "/claim/cut.py") 540] }),
  (83, { cls := .type "function", data := .func fdTS }),
  (89, { cls := Value.type "code", data := Data.fields #[Value.str (Str.ofString "_join_translated_parts") 542, Value.str (Str.ofString "_join_translated_parts") 543, Value.str (Str.ofString "/claim/cut.py") 544, Value.int 140 0, Value.int 2 0, Value.int 0 0, Value.int 0 0, Value.int 3 0, Value.ref 84, Value.bool true, Value.int 276 0, Value.ref 85, Value.none, Value.ref 86, Value.ref 87, Value.ref 88, Value.int 552 0, Value.int 140 0, Value.str (Str.ofString "/claim/cut.py") 553] }),
  (90, { cls := .type "function", data := .func fdJN }),
  (96, { cls := Value.type "code", data := Data.fields #[Value.str (Str.ofString "_law_texts") 557, Value.str (Str.ofString "_law_texts") 558, Value.str (Str.ofString "/claim/cut.py") 559, Value.int 168 0, Value.int 1 0, Value.int 0 0, Value.int 0 0, Value.int 3 0, Value.ref 91, Value.bool true, Value.int 276 0, Value.ref 92, Value.none, Value.ref 93, Value.ref 94, Value.ref 95, Value.int 564 0, Value.int 168 0, Value.str (Str.ofString "/claim/cut.py") 565] }),
  (97, { cls := .type "function", data := .func fdTX }),
  (101, { cls := Value.type "code", data := Data.fields #[Value.str (Str.ofString "_law_drawn") 567, Value.str (Str.ofString "_law_drawn") 568, Value.str (Str.ofString "/claim/cut.py") 569, Value.int 173 0, Value.int 1 0, Value.int 0 0, Value.int 0 0, Value.int 3 0, Value.ref 98, Value.bool true, Value.int 276 0, Value.ref 99, Value.none, Value.none, Value.none, Value.ref 100, Value.int 570 0, Value.int 173 0, Value.str (Str.ofString "/claim/cut.py") 571] }),
  (102, { cls := .type "function", data := .func fdDR }),
  (108, { cls := Value.type "code", data := Data.fields #[Value.str (Str.ofString "_law_node") 573, Value.str (Str.ofString "_law_node") 574, Value.str (Str.ofString "/claim/cut.py") 575, Value.int 182 0, Value.int 2 0, Value.int 0 0, Value.int 0 0, Value.int 3 0, Value.ref 103, Value.bool true, Value.int 276 0, Value.ref 104, Value.none, Value.ref 105, Value.ref 106, Value.ref 107, Value.int 579 0, Value.int 182 0, Value.str (Str.ofString "/claim/cut.py") 580] }),
  (109, { cls := .type "function", data := .func fdND }),
  (113, { cls := Value.type "code", data := Data.fields #[Value.str (Str.ofString "_law_quoted") 582, Value.str (Str.ofString "_law_quoted") 583, Value.str (Str.ofString "/claim/cut.py") 584, Value.int 187 0, Value.int 1 0, Value.int 0 0, Value.int 0 0, Value.int 3 0, Value.ref 110, Value.bool true, Value.int 276 0, Value.ref 111, Value.none, Value.none, Value.none, Value.ref 112, Value.int 585 0, Value.int 187 0, Value.str (Str.ofString "/claim/cut.py") 586] }),
  (114, { cls := .type "function", data := .func fdQU }),
  (120, { cls := Value.type "code", data := Data.fields #[Value.str (Str.ofString "_law_says") 588, Value.str (Str.ofString "_law_says") 589, Value.str (Str.ofString "/claim/cut.py") 590, Value.int 189 0, Value.int 1 0, Value.int 0 0, Value.int 0 0, Value.int 3 0, Value.ref 115, Value.bool true, Value.int 276 0, Value.ref 116, Value.none, Value.ref 117, Value.ref 118, Value.ref 119, Value.int 592 0, Value.int 189 0, Value.str (Str.ofString "/claim/cut.py") 593] }),
  (121, { cls := .type "function", data := .func fdSY }),
  (127, { cls := Value.type "code", data := Data.fields #[Value.str (Str.ofString "_law_plain") 595, Value.str (Str.ofString "_law_plain") 596, Value.str (Str.ofString "/claim/cut.py") 597, Value.int 201 0, Value.int 2 0, Value.int 0 0, Value.int 0 0, Value.int 3 0, Value.ref 122, Value.bool true, Value.int 276 0, Value.ref 123, Value.none, Value.ref 124, Value.ref 125, Value.ref 126, Value.int 600 0, Value.int 201 0, Value.str (Str.ofString "/claim/cut.py") 601] }),
  (128, { cls := .type "function", data := .func fdPL }),
  (134, { cls := Value.type "code", data := Data.fields #[Value.str (Str.ofString "_law_cut") 603, Value.str (Str.ofString "_law_cut") 604, Value.str (Str.ofString "/claim/cut.py") 605, Value.int 215 0, Value.int 1 0, Value.int 0 0, Value.int 0 0, Value.int 3 0, Value.ref 129, Value.bool true, Value.int 276 0, Value.ref 130, Value.none, Value.ref 131, Value.ref 132, Value.ref 133, Value.int 611 0, Value.int 215 0, Value.str (Str.ofString "/claim/cut.py") 612] }),
  (135, { cls := .type "function", data := .func fdCU }),
  (139, { cls := Value.type "code", data := Data.fields #[Value.str (Str.ofString "_law_takes") 614, Value.str (Str.ofString "_law_takes") 615, Value.str (Str.ofString "/claim/cut.py") 616, Value.int 243 0, Value.int 2 0, Value.int 0 0, Value.int 0 0, Value.int 3 0, Value.ref 136, Value.bool true, Value.int 276 0, Value.ref 137, Value.none, Value.none, Value.none, Value.ref 138, Value.int 617 0, Value.int 243 0, Value.str (Str.ofString "/claim/cut.py") 618] }),
  (140, { cls := .type "function", data := .func fdTK }),
  (146, { cls := Value.type "code", data := Data.fields #[Value.str (Str.ofString "_law_refused") 620, Value.str (Str.ofString "_law_refused") 621, Value.str (Str.ofString "/claim/cut.py") 622, Value.int 253 0, Value.int 1 0, Value.int 0 0, Value.int 0 0, Value.int 3 0, Value.ref 141, Value.bool true, Value.int 276 0, Value.ref 142, Value.none, Value.ref 143, Value.ref 144, Value.ref 145, Value.int 625 0, Value.int 253 0, Value.str (Str.ofString "/claim/cut.py") 626] }),
  (147, { cls := .type "function", data := .func fdRF }),
  (151, { cls := Value.type "code", data := Data.fields #[Value.str (Str.ofString "law") 628, Value.str (Str.ofString "law") 629, Value.str (Str.ofString "/claim/cut.py") 630, Value.int 259 0, Value.int 1 0, Value.int 0 0, Value.int 0 0, Value.int 3 0, Value.ref 148, Value.bool true, Value.int 276 0, Value.ref 149, Value.none, Value.none, Value.none, Value.ref 150, Value.int 631 0, Value.int 259 0, Value.str (Str.ofString "/claim/cut.py") 632] }),
  (152, { cls := .type "function", data := .func fdLW })]
end Mine
namespace Mine
open PySem PySem.W PySem.Calls PyProof.Rows
/-- the head: the law's top run once by the kernel, the heap behind it read off at the places of KK -/
noncomputable def view : Program := { pg with main := { pg.main with body := [0, 2, 3, 4, 6, 7, 9, 10, 12, 13, 15, 16, 17, 18, 19, 20, 21, 22, 23, 24].map stAt } }
noncomputable abbrev rO : OpenRow := PySem.Challenge.rw_in0049_01.row
abbrev lse : List Str := ["_twin_re_1", "_special_chars_map"]
def kAs : List Addr := [3, 37, 38, 44, 45, 51, 52, 56, 57, 63, 64, 66, 75, 76, 82, 83, 89, 90, 96, 97, 101, 102, 108, 109, 113, 114, 120, 121, 127, 128, 134, 135, 139, 140, 146, 147, 151, 152]
theorem kAs_of (P : Params) : kAs = (KK P).map (·.1) := by kernel_rfl
noncomputable abbrev hk : Hook := kmHook KK kAs kAs_of [104, 78, 47, 40]
def Lf (w : World) : Prop := (openEnds treeTable pg w 3930).map (fun s => (openSeen view lse (importedModules pg.main.body) (fun s => xlAt view [] s && recOk rO.records s) true s, hk.obs s)) = some (openGood view lse, hk.val w)
theorem lf00 (w : World) : Lf ((w.withFollow "comprehension-iter-twice" false).withFollow "special-get-raises" false) := by
  unfold Lf
  kernel_rfl
theorem lf10 (w : World) : Lf ((w.withFollow "comprehension-iter-twice" true).withFollow "special-get-raises" false) := by
  unfold Lf
  kernel_rfl
theorem lf01 (w : World) : Lf ((w.withFollow "comprehension-iter-twice" false).withFollow "special-get-raises" true) := by
  unfold Lf
  kernel_rfl
theorem lf11 (w : World) : Lf ((w.withFollow "comprehension-iter-twice" true).withFollow "special-get-raises" true) := by
  unfold Lf
  kernel_rfl
theorem lf (w : World) : Lf w := byRow2 "special-get-raises" (P := Lf)
  (byRow2 "comprehension-iter-twice" (P := fun w => Lf (w.withFollow "special-get-raises" false)) lf00 lf10)
  (byRow2 "comprehension-iter-twice" (P := fun w => Lf (w.withFollow "special-get-raises" true)) lf01 lf11) w
end Mine
namespace Mine
open PySem PySem.W PySem.Calls PyProof.Rows
def recOf (st : Stmt) : DefRec := match st with | .FunctionDef n a b _ _ _ sc _ _ p => ⟨n, a, b, sc, p⟩ | _ => ⟨"", ⟨[], [], none, [], [], none, []⟩, [], { kind := .function, names := [], isGenerator := false, isCoroutine := false }, ⟨0, 0, 0, 0⟩⟩
noncomputable abbrev lawD : DefRec := recOf (stAt 24)
theorem said : PySem.Challenge.rw_in0049_01.wellSaid = true := by kernel_rfl
theorem hd_def : defOf view rO.name = some (lawD, []) := by kernel_rfl
theorem hd_the : rO.prog.theDef rO.name = some (lawD.params, lawD.body, lawD.scope) := by kernel_rfl
theorem hd_kw : kwWritten? lawD.params.kwonlyargs lawD.params.kw_defaults = some [] := by kernel_rfl
theorem hd_ok : (chainsOk view && opensWell rO.prog && (frees rO.toRowW && rO.within.isEmpty)) = true := by kernel_rfl
theorem hd_bare : rO.prog.bare := ⟨rfl, rfl, rfl, rfl, rfl, by decide +kernel⟩
theorem hd_prom : PySem.Challenge.rw_in0049_01.row.toRowW.promised := by w_witness2
theorem head (h : WalkO view lse (XL view []) hk.says rO.toRowW lawD [] fun f vs => PySem.call f vs) : PySem.Challenge.rw_in0049_01.Holds :=
  holds_law said fun s => holds_open (N := 3930) (Xt := fun s => xlAt view [] s && recOk rO.records s) (Yf := hk.obs) (Ya := hk.val) lf hk.of hk.keeps (fun s e => xl_of s (Bool.and_eq_true_iff.mp e).1) XL.keeps hd_def hd_the hd_kw
    (fun s e => recFacts_of (Bool.and_eq_true_iff.mp e).2) (by rfl) s hd_ok hd_bare hd_prom h
end Mine
namespace Mine
open PySem PySem.W PySem.Calls PyProof.Rows
abbrev MM (w : World) : Model := model pg w
/-- an object that is no code table and no code record -/
def nrm (o : Obj) : Prop := ∀ vs, o.data = .fields vs → o.cls ≠ .none ∧ o.cls ≠ .type "code"
def At (h : Heap) (a : Addr) (φ : Obj → Prop) : Prop := ∃ o, h.get? a = some o ∧ φ o
theorem At.lt {h : Heap} {a : Addr} {φ : Obj → Prop} (x : At h a φ) : a < h.objs.size := let ⟨_, e, _⟩ := x; Heap.lt_size e
theorem At.push {h : Heap} {a : Addr} {φ : Obj → Prop} (x : At h a φ) (o : Obj) : At (h.push o) a φ := let ⟨o', e, p⟩ := x; ⟨o', Heap.get?_push_of_some _ e, p⟩
theorem At.ext {h h' : Heap} {a b : Addr} {φ : Obj → Prop} (x : At h a φ) (hx : Heap.ExtBut b h h') (hab : a ≠ b) : At h' a φ := let ⟨o, e, p⟩ := x; ⟨o, hx _ _ hab e, p⟩
theorem At.imp {h : Heap} {a : Addr} {φ ψ : Obj → Prop} (x : At h a φ) (f : ∀ o, φ o → ψ o) : At h a ψ := let ⟨o, e, p⟩ := x; ⟨o, e, f o p⟩
/-- everything is kept; a code table may have grown -/
def Kp (h h' : Heap) : Prop := ∀ b o, h.get? b = some o → h'.get? b = some o ∨ ∃ vs more, o = tabObj vs ∧ h'.get? b = some (tabObj (vs ++ more))
theorem Kp.refl (h : Heap) : Kp h h := fun _ _ e => .inl e
theorem Kp.trans {h h₁ h₂ : Heap} (x : Kp h h₁) (y : Kp h₁ h₂) : Kp h h₂ := fun b o e => by
  rcases x b o e with e1 | ⟨vs, more, eo, e1⟩
  · exact y b o e1
  · rcases y b _ e1 with e2 | ⟨vs', more', e', e2⟩
    · exact .inr ⟨vs, more, eo, e2⟩
    · have : vs ++ more = vs' := by have q := congrArg Obj.data e'; injection q
      subst this
      exact .inr ⟨vs, more ++ more', eo, by rw [e2, Array.append_assoc]⟩
theorem Kp.keep {h h' : Heap} (x : Kp h h') {b : Addr} {o : Obj} (e : h.get? b = some o) (hn : nrm o) : h'.get? b = some o := by
  rcases x b o e with e | ⟨vs, more, rfl, e⟩
  · exact e
  · exact absurd rfl (hn vs rfl).1
theorem Kp.there {h h' : Heap} (x : Kp h h') {b : Addr} (e : h'.get? b = none) : h.get? b = none := by
  cases q : h.get? b with
  | none => rfl
  | some o =>
    rcases x b o q with e1 | ⟨_, _, _, e1⟩ <;> (rw [e] at e1; cases e1)
theorem Kp.at {h h' : Heap} (x : Kp h h') {a : Addr} {φ : Obj → Prop} (y : At h a φ) (hn : ∀ o, φ o → nrm o) : At h' a φ := let ⟨o, e, p⟩ := y; ⟨o, x.keep e (hn o p), p⟩
theorem Kp.of_keep {h h' : Heap} (k : ∀ b o, h.get? b = some o → h'.get? b = some o) : Kp h h' := fun b o e => .inl (k b o e)
theorem Kp.push (h : Heap) (o : Obj) : Kp h (h.push o) := .of_keep fun _ _ e => Heap.get?_push_of_some _ e
structure Wd where
  w : World
  mg : Str → Option Value
  mb : Str → Option Value
  old : Heap
def CodeQ0 (h : Heap) (cv : Value) (q : Str) : Prop := ∃ c o vs t, cv = .ref c ∧ h.get? c = some o ∧ o.cls = .type "code" ∧ o.data = .fields vs ∧ vs[1]? = some (.str q t)
def TabQ0 (h : Heap) (P : Addr) (q : Str) : Prop := ∃ vs, h.get? P = some (tabObj vs) ∧ TriplesOk vs.toList ∧ ∀ pos cv, codeAmong pos vs.toList = some cv → CodeQ0 h cv q
def tabA : List Addr := [104, 78, 40, 47]
/-- a table that is none of the heap's constant ones -/
def NK (W : Wd) (P : Addr) : Prop := (KK W.w.params).lookup P = none ∧ (P ∈ tabA ∨ W.old.get? P = none)
def CodeQ1 (p : Wd) (h : Heap) (cv : Value) (q q' : Str) : Prop := CodeQ0 h cv q ∧ ∃ c P, cv = .ref c ∧ CodeHd h c P ∧ (P ∉ tabA ∧ NK p P) ∧ TabQ0 h P q'
def TabQ1 (p : Wd) (h : Heap) (P : Addr) (q q' : Str) : Prop := ∃ vs, h.get? P = some (tabObj vs) ∧ TriplesOk vs.toList ∧ ∀ pos cv, codeAmong pos vs.toList = some cv → CodeQ1 p h cv q q'
def qSel : Str := "prepare_child.<locals>.select"
def qSelC : Str := "prepare_child.<locals>.select.<locals>.select_child"
structure Tabs (p : Wd) (h : Heap) : Prop where
  node : TabQ0 h 104 "_law_node.<locals>.<lambda>"
  tran : TabQ0 h 78 "_translate.<locals>.<lambda>"
  tag : TabQ0 h 40 "_prepare_tag.<locals>.select"
  child : TabQ1 p h 47 qSel qSelC
/-- a step that leaves code records and code tables as they are -/
def Calm (h h' : Heap) : Prop := ∀ b o, h.get? b = some o → ¬ nrm o → h'.get? b = some o
theorem Calm.of_ext {h h' : Heap} {a : Addr} (hx : Heap.ExtBut a h h') (ha : ∀ o, h.get? a = some o → nrm o) : Calm h h' := fun b o e hn => hx b o (fun q => by subst q; exact hn (ha o e)) e
theorem Calm.of_keep {h h' : Heap} (k : ∀ b o, h.get? b = some o → h'.get? b = some o) : Calm h h' := fun b o e _ => k b o e
theorem nn_code {o : Obj} {vs : Array Value} (h : o.cls = .type "code") (hd : o.data = .fields vs) : ¬ nrm o := fun x => (x vs hd).2 h
theorem nn_tab {vs : Array Value} : ¬ nrm (tabObj vs) := fun x => (x vs rfl).1 rfl
theorem CodeQ0.calm {h h' : Heap} {cv q} (x : CodeQ0 h cv q) (k : Calm h h') : CodeQ0 h' cv q := by obtain ⟨c, o, vs, t, a, b, d, e, r⟩ := x; exact ⟨c, o, vs, t, a, k _ _ b (nn_code d e), d, e, r⟩
theorem TabQ0.calm {h h' : Heap} {P q} (x : TabQ0 h P q) (k : Calm h h') : TabQ0 h' P q := let ⟨vs, a, b, d⟩ := x; ⟨vs, k _ _ a nn_tab, b, fun p cv e => (d p cv e).calm k⟩
theorem codeHd_calm {h h' : Heap} {c P} (x : CodeHd h c P) (k : Calm h h') : CodeHd h' c P := by obtain ⟨o, vs, file, tf, flags, tg, inF, text, tt, a, b, e, r⟩ := x; exact ⟨o, vs, file, tf, flags, tg, inF, text, tt, k _ _ a (nn_code b e), b, e, r⟩
theorem CodeQ1.calm {p : Wd} {h h' : Heap} {cv q q'} (x : CodeQ1 p h cv q q') (k : Calm h h') : CodeQ1 p h' cv q q' := by obtain ⟨a, c, P, b, d, n, e⟩ := x; exact ⟨a.calm k, c, P, b, codeHd_calm d k, n, e.calm k⟩
theorem TabQ1.calm {p : Wd} {h h' : Heap} {P q q'} (x : TabQ1 p h P q q') (k : Calm h h') : TabQ1 p h' P q q' := let ⟨vs, a, b, d⟩ := x; ⟨vs, k _ _ a nn_tab, b, fun p cv e => (d p cv e).calm k⟩
theorem Tabs.calm {p : Wd} {h h' : Heap} (x : Tabs p h) (k : Calm h h') : Tabs p h' := ⟨x.node.calm k, x.tran.calm k, x.tag.calm k, x.child.calm k⟩
theorem CodeQ0.rec {h : Heap} {cv q} (x : CodeQ0 h cv q) : h.CodeRec cv q := by obtain ⟨c, o, vs, t, a, b, _, d, e⟩ := x; exact ⟨c, o, vs, t, a, b, d, e⟩
structure Base (W : Wd) (h : Heap) : Prop where
  K : (KK W.w.params).In h
  g : h.Ns mainGlobals W.mg
  b : h.Ns builtinsNs W.mb
  bb : ∀ x : Str, x ≠ "__name__" → W.mb x = bootBuiltins x
  nl : h.NoLimit
  bm : ∃ ob, h.get? 4 = some ob ∧ ob.cls = .type "module" ∧ ob.dict = some builtinsNs ∧ ob.data = .plain
  tb : Tabs W h
  od : ∀ b o, W.old.get? b = some o → h.get? b = some o ∨ (b ∈ tabA ∧ ∃ vs more, o = tabObj vs ∧ h.get? b = some (tabObj (vs ++ more)))
theorem Base.od_there {W : Wd} {h : Heap} (B : Base W h) {b : Addr} {o : Obj} (e : W.old.get? b = some o) : ∃ o', h.get? b = some o' := by
  rcases B.od b o e with x | ⟨_, _, _, _, x⟩
  · exact ⟨_, x⟩
  · exact ⟨_, x⟩
theorem ns_there {h : Heap} {a : Addr} {m : Str → Option Value} (x : h.Ns a m) : ∃ o, h.get? a = some o := let ⟨o, _, _, e, _⟩ := x; ⟨o, e⟩
theorem nl_there {h : Heap} (x : h.NoLimit) : ∃ o, h.get? cStatics = some o := let ⟨_, a, _⟩ := x; ns_there a
/-- a step at an address of the call's own -/
theorem Base.ext {W : Wd} {h₀ h h' : Heap} {a : Addr} (B₀ : Base W h₀) (B : Base W h) (hx : Heap.ExtBut a h h') (ha : h₀.get? a = none) (hn : ∀ o, h.get? a = some o → nrm o) : Base W h' := by
  have ne : ∀ b, (∃ o, h₀.get? b = some o) → b ≠ a := fun b ⟨o, e⟩ q => by rw [q, ha] at e; cases e
  exact {
    K := fun b o e => hx b o (ne b ⟨o, B₀.K b o e⟩) (B.K b o e)
    g := B.g.extBut hx (ne _ (ns_there B₀.g))
    b := B.b.extBut hx (ne _ (ns_there B₀.b))
    bb := B.bb
    nl := B.nl.extBut hx (ne _ (nl_there B₀.nl))
    bm := let ⟨ob, e, r⟩ := B.bm; ⟨ob, hx 4 ob (ne _ (let ⟨o, e, _⟩ := B₀.bm; ⟨o, e⟩)) e, r⟩
    tb := B.tb.calm (.of_ext hx hn)
    od := fun b o e => by
      have hb := ne b (B₀.od_there e)
      rcases B.od b o e with x | ⟨q, vs, more, r, x⟩
      · exact .inl (hx b _ hb x)
      · exact .inr ⟨q, vs, more, r, hx b _ hb x⟩ }
theorem Base.keep {W : Wd} {h h' : Heap} (B : Base W h) (k : ∀ b o, h.get? b = some o → h'.get? b = some o) : Base W h' where
  K := B.K.keeps k
  g := B.g.keeps k
  b := B.b.keeps k
  bb := B.bb
  nl := B.nl.keeps k
  bm := let ⟨ob, e, r⟩ := B.bm; ⟨ob, k _ _ e, r⟩
  tb := B.tb.calm (.of_keep k)
  od := fun b o e => by
    rcases B.od b o e with x | ⟨q, vs, more, r, x⟩
    · exact .inl (k b _ x)
    · exact .inr ⟨q, vs, more, r, k b _ x⟩
abbrev Ent := Addr × (Obj → Prop)
/-- it holds on when a code table grows -/
def stb (φ : Obj → Prop) : Prop := ∀ vs more, φ (tabObj vs) → φ (tabObj (vs ++ more))
theorem stb_nrm {φ : Obj → Prop} (hn : ∀ o, φ o → nrm o) : stb φ := fun vs _ x => absurd rfl (hn _ x vs rfl).1
/-- a code of that table -/
def inT (cv : Value) (o : Obj) : Prop := ∃ vs pos, o = tabObj vs ∧ codeAmong pos vs.toList = some cv
theorem Kp.atS {h h' : Heap} (x : Kp h h') {a : Addr} {φ : Obj → Prop} (y : At h a φ) (hs : stb φ) : At h' a φ := by
  obtain ⟨o, e, p⟩ := y
  rcases x a o e with e1 | ⟨vs, more, rfl, e1⟩
  · exact ⟨o, e1, p⟩
  · exact ⟨_, e1, hs _ _ p⟩
/-- things made that will not turn any more -/
def Frz (Z : List Ent) (h : Heap) : Prop := ∀ e ∈ Z, At h e.1 e.2 ∧ stb e.2
theorem Frz.kp {Z : List Ent} {h h' : Heap} (x : Frz Z h) (k : Kp h h') : Frz Z h' := fun e he => ⟨k.atS (x e he).1 (x e he).2, (x e he).2⟩
theorem Frz.nil {h : Heap} : Frz [] h := fun _ he => nomatch he
theorem tab_there {W : Wd} {h : Heap} (B : Base W h) {a : Addr} (ha : a ∈ tabA) : ∃ o, h.get? a = some o := by
  simp only [tabA, List.mem_cons, List.not_mem_nil, or_false] at ha
  rcases ha with rfl | rfl | rfl | rfl
  · exact let ⟨vs, e, _⟩ := B.tb.node; ⟨_, e⟩
  · exact let ⟨vs, e, _⟩ := B.tb.tran; ⟨_, e⟩
  · exact let ⟨vs, e, _⟩ := B.tb.tag; ⟨_, e⟩
  · exact let ⟨vs, e, _⟩ := B.tb.child; ⟨_, e⟩
structure Fm (W : Wd) (h₀ : Heap) (Z R : List Ent) (h : Heap) : Prop where
  base : Base W h
  kp : Kp h₀ h
  base₀ : Base W h₀
  z : Frz Z h
  r : ∀ e ∈ R, At h e.1 e.2 ∧ ∀ o, e.2 o → nrm o
  rf : ∀ e ∈ R, h₀.get? e.1 = none
  rn : (R.map (·.1)).Nodup
  zr : ∀ e ∈ Z, ∀ e' ∈ R, e.1 ≠ e'.1
section
variable {W : Wd} {h₀ h h' : Heap} {Z R : List Ent} {i : Nat} {a : Addr} {φ φ' : Obj → Prop}
theorem Fm.at (F : Fm W h₀ Z R h) (hi : R[i]? = some (a, φ)) : At h a φ := (F.r _ (List.mem_of_getElem? hi)).1
theorem Fm.atZ (F : Fm W h₀ Z R h) (hm : (a, φ) ∈ Z) : At h a φ := (F.z _ hm).1
theorem Fm.keep (F : Fm W h₀ Z R h) (k : ∀ b o, h.get? b = some o → h'.get? b = some o) : Fm W h₀ Z R h' where
  base := F.base.keep k
  kp := F.kp.trans (.of_keep k)
  base₀ := F.base₀
  z := F.z.kp (.of_keep k)
  r := fun e he => ⟨(Kp.of_keep k).at (F.r e he).1 (F.r e he).2, (F.r e he).2⟩
  rf := F.rf
  rn := F.rn
  zr := F.zr
theorem Fm.push (F : Fm W h₀ Z R h) (o : Obj) : Fm W h₀ Z R (h.push o) := F.keep fun _ _ e => Heap.get?_push_of_some _ e
theorem get_none {h : Heap} {a : Addr} (x : h.objs.size ≤ a) : h.get? a = none := by
  cases q : h.get? a with
  | none => rfl
  | some o => exact absurd (Heap.lt_size q) (Nat.not_lt.mpr x)
theorem At.ne {h : Heap} {a b : Addr} {φ : Obj → Prop} (x : At h a φ) (y : h.get? b = none) : a ≠ b := fun q => by obtain ⟨o, e, _⟩ := x; rw [q, y] at e; cases e
/-- new things that the frame goes on to hold -/
theorem Fm.add {Y : List Ent} (F : Fm W h₀ Z R h) (k : Kp h h') (B : Base W h') (hy : ∀ e ∈ Y, At h' e.1 e.2 ∧ ∀ o, e.2 o → nrm o) (hf : ∀ e ∈ Y, h.get? e.1 = none) (hn : (Y.map (·.1)).Nodup) : Fm W h₀ Z (R ++ Y) h' := by
  refine ⟨B, F.kp.trans k, F.base₀, F.z.kp k, fun e he => ?_, fun e he => ?_, ?_, fun e he e' he' => ?_⟩
  · rcases List.mem_append.mp he with he | he
    · exact ⟨k.at (F.r e he).1 (F.r e he).2, (F.r e he).2⟩
    · exact hy e he
  · rcases List.mem_append.mp he with he | he
    · exact F.rf e he
    · exact F.kp.there (hf e he)
  · rw [List.map_append, List.nodup_append]
    refine ⟨F.rn, hn, fun x hx y hy' => ?_⟩
    obtain ⟨e, he, rfl⟩ := List.mem_map.mp hx
    obtain ⟨e', he', rfl⟩ := List.mem_map.mp hy'
    exact (F.r e he).1.ne (hf e' he')
  · rcases List.mem_append.mp he' with he' | he'
    · exact F.zr e he e' he'
    · exact (F.z e he).1.ne (hf e' he')
/-- a new object that the frame goes on to turn -/
theorem Fm.new (F : Fm W h₀ Z R h) (o : Obj) (hf : o.isFreed = false) (hn : ∀ o, φ o → nrm o) (hφ : φ o) : Fm W h₀ Z (R ++ [(h.objs.size, φ)]) (h.push o) :=
  F.add (.push _ _) (F.push o).base (fun e he => by rw [List.mem_singleton.mp he]; exact ⟨⟨o, Heap.get?_push_size _ hf, hφ⟩, hn⟩) (fun e he => by rw [List.mem_singleton.mp he]; exact get_none (Nat.le_refl _)) (by simp)
theorem nodup_idx : ∀ {l : List Addr} {i j : Nat} {a : Addr}, l.Nodup → l[i]? = some a → l[j]? = some a → i = j
  | [], _, _, _, _, h, _ => by cases h
  | x :: l, 0, 0, _, _, _, _ => rfl
  | x :: l, 0, j + 1, a, n, hi, hj => by
    simp only [List.getElem?_cons_zero, Option.some.injEq] at hi
    subst hi
    exact absurd (List.mem_of_getElem? (by simpa using hj)) (List.nodup_cons.mp n).1
  | x :: l, i + 1, 0, a, n, hi, hj => by
    simp only [List.getElem?_cons_zero, Option.some.injEq] at hj
    subst hj
    exact absurd (List.mem_of_getElem? (by simpa using hi)) (List.nodup_cons.mp n).1
  | x :: l, i + 1, j + 1, a, n, hi, hj => by
    exact congrArg (· + 1) (nodup_idx (i := i) (j := j) (List.nodup_cons.mp n).2 (by simpa using hi) (by simpa using hj))
/-- the object at place i has turned -/
theorem Fm.turn (F : Fm W h₀ Z R h) (hi : R[i]? = some (a, φ)) (hx : Heap.ExtBut a h h') (hn : ∀ o, φ' o → nrm o) (ha : At h' a φ') : Fm W h₀ Z (R.set i (a, φ')) h' := by
  have hm := List.mem_of_getElem? hi
  have hla : h₀.get? a = none := F.rf _ hm
  have nna : ∀ o, h.get? a = some o → nrm o := fun o e => by
    obtain ⟨o', e', p⟩ := (F.r _ hm).1
    rw [e] at e'; cases e'
    exact (F.r _ hm).2 o p
  have keyset : (R.set i (a, φ')).map (·.1) = R.map (·.1) := by
    have q : (R.map (·.1))[i]? = some a := by rw [List.getElem?_map, hi]; rfl
    have e := List.map_set (f := fun x : Ent => x.1) (l := R) (i := i) (a := (a, φ'))
    exact e.trans (PySem.W.X.set_same q)
  have ismem : ∀ e ∈ R.set i (a, φ'), e = (a, φ') ∨ (e ∈ R ∧ e.1 ≠ a) := fun e he => by
    obtain ⟨j, hj⟩ := List.getElem?_of_mem he
    by_cases q : j = i
    · subst q
      have : j < R.length := (List.getElem?_eq_some_iff.mp hi).1
      rw [List.getElem?_set_self this] at hj
      exact .inl (Option.some.inj hj).symm
    · rw [List.getElem?_set_ne (Ne.symm q)] at hj
      refine .inr ⟨List.mem_of_getElem? hj, fun z => q ?_⟩
      exact nodup_idx (a := a) F.rn (by rw [List.getElem?_map, hj]; exact congrArg some z) (by rw [List.getElem?_map, hi]; rfl)
  refine ⟨F.base₀.ext F.base hx hla nna, fun b o e => ?_, F.base₀, fun e he => ⟨((F.z e he).1).ext hx (F.zr e he _ hm), (F.z e he).2⟩, fun e he => ?_, fun e he => ?_, by rw [keyset]; exact F.rn, fun e he e' he' => ?_⟩
  · have nb : b ≠ a := fun q => by rw [q, hla] at e; cases e
    rcases F.kp b o e with e1 | ⟨vs, more, eo, e1⟩
    · exact .inl (hx _ _ nb e1)
    · exact .inr ⟨vs, more, eo, hx _ _ nb e1⟩
  · rcases ismem e he with rfl | ⟨he, ne⟩
    · exact ⟨ha, hn⟩
    · exact ⟨((F.r e he).1).ext hx ne, (F.r e he).2⟩
  · rcases ismem e he with rfl | ⟨he, ne⟩
    · exact hla
    · exact F.rf e he
  · rcases ismem e' he' with rfl | ⟨he', ne⟩
    · exact F.zr e he (a, φ) hm
    · exact F.zr e he e' he'
/-- a call came back; it made what Z' says -/
theorem Fm.callT {Z' : List Ent} (F : Fm W h₀ Z R h) (k : Kp h h') (B : Base W h') (hz : Frz Z' h') (hf : ∀ e ∈ Z', h.get? e.1 = none ∨ e.1 ∈ tabA) : Fm W h₀ (Z' ++ Z) R h' where
  base := B
  kp := F.kp.trans k
  base₀ := F.base₀
  z := fun e he => by
    rcases List.mem_append.mp he with he | he
    · exact hz e he
    · exact (F.z.kp k) e he
  r := fun e he => ⟨k.at (F.r e he).1 (F.r e he).2, (F.r e he).2⟩
  rf := F.rf
  rn := F.rn
  zr := fun e he e' he' => by
    rcases List.mem_append.mp he with he | he
    · rcases hf e he with q | q
      · exact ((F.r e' he').1.ne q).symm
      · intro z
        obtain ⟨o, eo⟩ := tab_there F.base₀ q
        rw [z, F.rf e' he'] at eo; cases eo
    · exact F.zr e he e' he'
theorem Fm.call {Z' : List Ent} (F : Fm W h₀ Z R h) (k : Kp h h') (B : Base W h') (hz : Frz Z' h') (hf : ∀ e ∈ Z', h.get? e.1 = none) : Fm W h₀ (Z' ++ Z) R h' := F.callT k B hz fun e he => .inl (hf e he)
theorem Fm.call0 (F : Fm W h₀ Z R h) (k : Kp h h') (B : Base W h') : Fm W h₀ Z R h' := F.call (Z' := []) k B (fun _ he => nomatch he) fun _ he => nomatch he
end
end Mine
namespace Mine
open PySem PySem.W PySem.Calls PyProof.Rows PySem.Builtin PySem.Builtin.Str
def upd (m : Str → Option Value) (x : Str) (v : Value) : Str → Option Value := fun y => if y = x then some v else m y
def nsO (m : Str → Option Value) (o : Obj) : Prop := ∃ es ep, o.data = .dict es ep ∧ StrKeys es ∧ ∀ name, nsFind es name = m name
theorem nrm_ns {m : Str → Option Value} : ∀ o, nsO m o → nrm o := fun o ⟨es, ep, e, _⟩ vs e' => by rw [e] at e'; cases e'
theorem at_ns {h : Heap} {a : Addr} {m} : At h a (nsO m) ↔ h.Ns a m := ⟨fun ⟨o, e, es, ep, a, b, c⟩ => ⟨o, es, ep, e, a, b, c⟩, fun ⟨o, es, ep, e, a, b, c⟩ => ⟨o, e, es, ep, a, b, c⟩⟩
section
variable {M : Model} {A : Around} {E : Value → Shared → Prop} {s : Shared} {env : Env} {st : Stmt} {rest : List Stmt} {Q : Flow → Shared → Prop}
/-- what is asked behind a statement -/
def Ct (M : Model) (A : Around) (E : Value → Shared → Prop) (rest : List Stmt) (env : Env) (Q : Flow → Shared → Prop) (f : Flow) (s : Shared) : Prop := match f with | .next => wpAny M A (execs rest env) Q E s | f => Q f s
theorem x_cons (h : wpAny M A (exec st env) (Ct M A E rest env Q) E s) : wpAny M A (execs (st :: rest) env) Q E s := wpAny_execs_cons (wpAny_mono h (fun f s' x => by cases f <;> exact x) fun _ _ x => x)
theorem ct_next (h : wpAny M A (execs rest env) Q E s) : Ct M A E rest env Q .next s := h
theorem ct_ret {v : Value} (h : Q (.ret v) s) : Ct M A E rest env Q (.ret v) s := h
theorem ct_brk (h : Q .brk s) : Ct M A E rest env Q .brk s := h
theorem ct_cont (h : Q .cont s) : Ct M A E rest env Q .cont s := h
end
/-- room left for n more frames -/
structure Rm (n : Nat) (A : Around) : Prop where
  d : A.depth + n < recursionLimit
  u : A.units + 8 * n + 40 < cLine
  hd : A.handled = none
theorem Rm.deeper {n : Nat} {A : Around} (x : Rm (n + 1) A) (env : Env) : Rm n (A.deeper env) := ⟨by have := x.d; show A.depth + 1 + n < _; omega, by have := x.u; show A.units + 3 + 8 * n + 40 < _; omega, x.hd⟩
theorem Rm.le {n k : Nat} {A : Around} (x : Rm n A) (h : k ≤ n) : Rm k A := ⟨by have := x.d; omega, by have := x.u; omega, x.hd⟩
theorem Rm.depth {n : Nat} {A : Around} (x : Rm n A) : A.depth < recursionLimit := by have := x.d; omega
theorem Rm.units {n : Nat} {A : Around} (x : Rm n A) : A.units < cLine := by have := x.u; omega
def flv : Flow → Value | .ret v => v | _ => .none
section
variable {W : Wd} {A : Around} {E : Value → Shared → Prop} {h₀ h : Heap} {gs : Array GenState} {d : Drawn} {t : Nat} {os : OsState} {Z R : List Ent} {env : Env}
  {m : Str → Option Value} {Q : Value → Shared → Prop} {x : Str} {v : Value} {pos : Pos} {i : Nat}
theorem enter {f : Addr} {o : Obj} {fd : FuncData} {body : List Stmt} {args : List Value} {binds : List (Str × Value)}
    (B : Base W h) (hz : Frz Z h) (hroom : A.depth < recursionLimit) (ho : h.get? f = some o) (hd : o.data = .func fd) (hcd : h.CodeRec fd.code fd.qualname)
    (hbody : fd.body = .stmts body) (hbind : bindArgs fd ⟨args, []⟩ = pure binds) (hloc : ∀ y ∈ binds, fd.scope.names.lookup y.1 = some .local) (hcell : ∀ x ∈ fd.scope.names, x.2 ≠ .cell)
    (hco : fd.scope.isCoroutine = false) (hgen : fd.scope.isGenerator = false) (hk : fd.scope.kind = .function)
    (k : ∀ L h₁ t₁, Fm W h Z [(L, nsO fun x => binds.reverse.lookup x)] h₁ →
      wpAny (MM W.w) (A.deeper (callEnv fd L f)) (execs body (callEnv fd L f)) (fun fl s' => Q (flv fl) s')
        (fun e s' => wpAny (MM W.w) (A.deeper (callEnv fd L f)) (leaving (callEnv fd L f) e) (fun _ s'' => E e s'') (fun e' s'' => E e' s'') s') ⟨h₁, gs, d, t₁, os⟩) :
    wpAny (MM W.w) A (call (.ref f) args) Q E ⟨h, gs, d, t, os⟩ := by
  refine wpAny_call (codeAny_call_def hroom ho hd B.nl hcd hbody (.of_eq hbind) hcell hloc (fun h₁ hn hk₁ => ?_) hco hgen hk)
  have hz₁ : Frz Z h₁ := hz.kp (.of_keep hk₁)
  refine wpAny_mono (k h.objs.size h₁ _ ⟨B.keep hk₁, .of_keep hk₁, B, hz₁, fun e he => ?_, fun e he => ?_, by simp, fun e he e' he' => ?_⟩) (fun fl s' q => by cases fl <;> exact q) fun _ _ q => q
  · rw [List.mem_singleton.mp he]; exact ⟨at_ns.mpr hn, nrm_ns⟩
  · rw [List.mem_singleton.mp he]; exact get_none (Nat.le_refl _)
  · rw [List.mem_singleton.mp he']; exact (hz e he).1.ne (get_none (Nat.le_refl _))
theorem v_local (F : Fm W h₀ Z R h) (hi : R[i]? = some (env.locals, nsO m)) (hv : m x = some v) (hk : env.scope.kind = .function) (hx : env.kindOf x = some .local) (q : Q v ⟨h, gs, d, t, os⟩)
    (hd : (x == ("__debug__" : Str)) = false := by decide) : wpAny (MM W.w) A (eval (.Name x pos) env) Q E ⟨h, gs, d, t, os⟩ := wpAny_Name (wpAny_loadName_local hk hx (at_ns.mp (F.at hi)) hv q) hd
theorem v_storeR {R' : List Ent} {Q : Unit → Shared → Prop} (F : Fm W h₀ Z R h) (hi : R[i]? = some (env.locals, nsO m)) (hk : env.scope.kind = .function) (hx : env.kindOf x = some .local) (hR : R.set i (env.locals, nsO (upd m x v)) = R')
    (q : ∀ h', Fm W h₀ Z R' h' → Q () ⟨h', gs, d, t + 1, os⟩) : wpAny (MM W.w) A (storeName env x v) Q E ⟨h, gs, d, t, os⟩ := wpAny_storeName_local hx (at_ns.mp (F.at hi)) (fun h' hn hs => q h' (hR ▸ F.turn hi hs.extBut nrm_ns (at_ns.mpr hn))) (by rw [hk]; rfl)
theorem v_store {Q : Unit → Shared → Prop} (F : Fm W h₀ Z R h) (hi : R[i]? = some (env.locals, nsO m)) (hk : env.scope.kind = .function) (hx : env.kindOf x = some .local)
    (q : ∀ h', Fm W h₀ Z (R.set i (env.locals, nsO (upd m x v))) h' → Q () ⟨h', gs, d, t + 1, os⟩) : wpAny (MM W.w) A (storeName env x v) Q E ⟨h, gs, d, t, os⟩ :=
  wpAny_storeName_local hx (at_ns.mp (F.at hi)) (fun h' hn hs => q h' (F.turn hi hs.extBut nrm_ns (at_ns.mpr hn))) (by rw [hk]; rfl)
def SliceThen (w : World) (A : Around) (E : Value → Shared → Prop) (o vl vu : Value) (Q : Value → Shared → Prop) (s : Shared) : Prop :=
  ∃ x t l u, o = .str x t ∧ vl = partValue l ∧ vu = partValue u ∧ (sliceMade x t l u none).post Q { s with heap := s.heap.push { cls := .type "slice", data := .fields #[vl, vu, .none] } }
theorem v_sliceStr {value : Expr} {lower upper : Option Expr} {p : Pos} {s : Shared}
    (q : wpAny (MM W.w) A (eval value env) (fun o s₁ => wpAny (MM W.w) A (evalPart lower env) (fun vl s₂ => wpAny (MM W.w) A (evalPart upper env) (fun vu s₃ => SliceThen W.w A E o vl vu Q s₃) E s₂) E s₁) E s)
    (ht : ∀ o r, letTemporaryGo value o r = pure () := by intro _ _; rfl) : wpAny (MM W.w) A (eval (.Subscript value (.Slice lower upper none p) pos) env) Q E s := wpAny_Subscript_str_slice q ht
theorem v_cut_ns {y : Str} {ty : Tok} {j : Int} {tj : Tok} (F : Fm W h₀ Z R h) (hsz : y.length ≤ sizeLine) (q : ∀ h' tk t', Fm W h₀ Z R h' → Q (.str (Txt.slice y none (some j)) tk) ⟨h', gs, d, t', os⟩) :
    SliceThen W.w A E (.str y ty) .none (.int j tj) Q ⟨h, gs, d, t, os⟩ :=
  ⟨y, ty, none, some (j, tj), rfl, rfl, rfl, post_val_or_str ⟨Nat.le_trans (Txt.slice_le y _ _) hsz, fun t' k => q _ t' k (F.push _)⟩⟩
theorem v_cut_sn {y : Str} {ty : Tok} {j : Int} {tj : Tok} (F : Fm W h₀ Z R h) (hsz : y.length ≤ sizeLine) (q : ∀ h' tk t', Fm W h₀ Z R h' → Q (.str (Txt.slice y (some j) none) tk) ⟨h', gs, d, t', os⟩) :
    SliceThen W.w A E (.str y ty) (.int j tj) .none Q ⟨h, gs, d, t, os⟩ :=
  ⟨y, ty, some (j, tj), none, rfl, rfl, rfl, post_val_or_str ⟨Nat.le_trans (Txt.slice_le y _ _) hsz, fun t' k => q _ t' k (F.push _)⟩⟩
theorem v_cut_ss {y : Str} {ty : Tok} {i j : Int} {ti tj : Tok} (F : Fm W h₀ Z R h) (hsz : y.length ≤ sizeLine) (q : ∀ h' tk t', Fm W h₀ Z R h' → Q (.str (Txt.slice y (some i) (some j)) tk) ⟨h', gs, d, t', os⟩) :
    SliceThen W.w A E (.str y ty) (.int i ti) (.int j tj) Q ⟨h, gs, d, t, os⟩ :=
  ⟨y, ty, some (i, ti), some (j, tj), rfl, rfl, rfl, post_val_or_str ⟨Nat.le_trans (Txt.slice_le y _ _) hsz, fun t' k => q _ t' k (F.push _)⟩⟩
theorem v_int {n : Int} {k : Nat} (q : Q (.int n t) ⟨h, gs, d, t + 1, os⟩) : wpAny (MM W.w) A (eval (.Constant (.int n) k pos) env) Q E ⟨h, gs, d, t, os⟩ := fun _ _ _ => q
theorem v_str {y : Str} {k : Nat} (q : Q (.str y t) ⟨h, gs, d, t + 1, os⟩) : wpAny (MM W.w) A (eval (.Constant (.str y) k pos) env) Q E ⟨h, gs, d, t, os⟩ := fun _ _ _ => q
theorem v_part_none {s : Shared} (q : Q .none s) : wpAny (MM W.w) A (evalPart none env) Q E s := wpAny_pure q
theorem v_part_some {e : Expr} {s : Shared} (q : wpAny (MM W.w) A (eval e env) Q E s) : wpAny (MM W.w) A (evalPart (some e) env) Q E s := q
theorem v_eqStr {y z : Str} {ty tz : Tok} {s : Shared} (q : Q (.bool (y == z)) s) : wpAny (MM W.w) A (compareOp .Eq (.str y ty) (.str z tz)) Q E s := PyProof.Rows.eq_str q
end
theorem kf_IW (P : Params) : (KK P).lookup 38 = some { cls := .type "function", data := .func fdIW } := by kernel_rfl
theorem cd_IW (P : Params) : codeIn (KK P) fdIW.code fdIW.qualname = true := by kernel_rfl
end Mine
namespace Mine
open PySem PySem.W PySem.Calls PyProof.Rows PySem.Builtin PySem.Builtin.Str
section
variable {W : Wd} {h : Heap}
theorem Base.glob {x : Str} {v : Value} (B : Base W h) (e : nsIn (KK W.w.params) mainGlobals x = some (some v)) : W.mg x = some v := mg_of B.K B.g e
theorem Base.noglob {x : Str} (B : Base W h) (e : nsIn (KK W.w.params) mainGlobals x = some none) : W.mg x = none := mg_none_of B.K B.g e
theorem g_is_wild (B : Base W h) : W.mg "_is_wildcard_tag" = some (.ref 38) := B.glob (by kernel_rfl)
theorem g_prep_tag (B : Base W h) : W.mg "_prepare_tag" = some (.ref 45) := B.glob (by kernel_rfl)
theorem g_prep_child (B : Base W h) : W.mg "prepare_child" = some (.ref 52) := B.glob (by kernel_rfl)
theorem g_twin (B : Base W h) : W.mg "_twin_re_1" = some (.ref 57) := B.glob (by kernel_rfl)
theorem g_translate (B : Base W h) : W.mg "translate" = some (.ref 64) := B.glob (by kernel_rfl)
theorem g_map (B : Base W h) : W.mg "_special_chars_map" = some (.ref 66) := B.glob (by kernel_rfl)
theorem g_escape (B : Base W h) : W.mg "escape" = some (.ref 76) := B.glob (by kernel_rfl)
theorem g_translate_ (B : Base W h) : W.mg "_translate" = some (.ref 83) := B.glob (by kernel_rfl)
theorem g_join (B : Base W h) : W.mg "_join_translated_parts" = some (.ref 90) := B.glob (by kernel_rfl)
theorem g_texts (B : Base W h) : W.mg "_law_texts" = some (.ref 97) := B.glob (by kernel_rfl)
theorem g_drawn (B : Base W h) : W.mg "_law_drawn" = some (.ref 102) := B.glob (by kernel_rfl)
theorem g_node (B : Base W h) : W.mg "_law_node" = some (.ref 109) := B.glob (by kernel_rfl)
theorem g_quoted (B : Base W h) : W.mg "_law_quoted" = some (.ref 114) := B.glob (by kernel_rfl)
theorem g_says (B : Base W h) : W.mg "_law_says" = some (.ref 121) := B.glob (by kernel_rfl)
theorem g_plain (B : Base W h) : W.mg "_law_plain" = some (.ref 128) := B.glob (by kernel_rfl)
theorem g_cut (B : Base W h) : W.mg "_law_cut" = some (.ref 135) := B.glob (by kernel_rfl)
theorem g_takes (B : Base W h) : W.mg "_law_takes" = some (.ref 140) := B.glob (by kernel_rfl)
theorem g_refused (B : Base W h) : W.mg "_law_refused" = some (.ref 147) := B.glob (by kernel_rfl)
theorem Base.blt {x : Str} {v : Value} (B : Base W h) (e : nsIn (KK W.w.params) mainGlobals x = some none) (hn : x ≠ "__name__") (hb : bootBuiltins x = some v) : W.mg x = none ∧ W.mb x = some v := ⟨B.noglob e, (B.bb x hn).trans hb⟩
theorem b_isinstance (B : Base W h) : W.mg "isinstance" = none ∧ W.mb "isinstance" = some (.builtin "isinstance") := B.blt (by kernel_rfl) (by decide) (by rfl)
theorem b_len (B : Base W h) : W.mg "len" = none ∧ W.mb "len" = some (.builtin "len") := B.blt (by kernel_rfl) (by decide) (by rfl)
theorem b_chr (B : Base W h) : W.mg "chr" = none ∧ W.mb "chr" = some (.builtin "chr") := B.blt (by kernel_rfl) (by decide) (by rfl)
theorem b_str (B : Base W h) : W.mg "str" = none ∧ W.mb "str" = some (.type "str") := B.blt (by kernel_rfl) (by decide) (by rfl)
theorem b_range (B : Base W h) : W.mg "range" = none ∧ W.mb "range" = some (.type "range") := B.blt (by kernel_rfl) (by decide) (by rfl)
theorem b_slice (B : Base W h) : W.mg "slice" = none ∧ W.mb "slice" = some (.type "slice") := B.blt (by kernel_rfl) (by decide) (by rfl)
theorem b_object (B : Base W h) : W.mg "object" = none ∧ W.mb "object" = some (.type "object") := B.blt (by kernel_rfl) (by decide) (by rfl)
theorem b_rterr (B : Base W h) : W.mg "RuntimeError" = none ∧ W.mb "RuntimeError" = some (.type "RuntimeError") := B.blt (by kernel_rfl) (by decide) (by rfl)
end
theorem le_line {n : Nat} (h : n ≤ 1000000) : n ≤ sizeLine := Nat.le_trans h (by decide)
theorem fit63 {n : Nat} (h : n ≤ 1000000) : ¬ (n : Int) ≥ 2 ^ 63 := by omega
/-- a call of it leaves no mark behind -/
def Kept (w : World) (h : Heap) (f : Value) : Prop := ∃ k, (k = Keeper.frame ∨ k = Keeper.machine ∨ k = Keeper.boundFrame) ∧ Looks (MM w) h (keeperOf f) k
theorem kept_builtin {w : World} {h : Heap} {id : String} : Kept w h (.builtin id) := ⟨.machine, .inr (.inl rfl), Looks.of_pure rfl⟩
theorem kept_type {w : World} {h : Heap} {T : String} : Kept w h (.type T) := ⟨.machine, .inr (.inl rfl), Looks.of_pure rfl⟩
theorem kept_fn {w : World} {h : Heap} {f : Addr} {o : Obj} {fd : FuncData} (e : h.get? f = some o) (hd : o.data = .func fd) : Kept w h (.ref f) := ⟨.frame, .inl rfl, fun A Q E s k q => by
  show wpAny _ A (load f >>= _) Q E s
  refine wpAny_bind (wpAny_load (k _ _ e) ?_)
  rw [hd]; exact wpAny_pure q⟩
section
variable {W : Wd} {A : Around} {E : Value → Shared → Prop} {h₀ h : Heap} {gs : Array GenState} {d : Drawn} {t : Nat} {os : OsState} {Z R : List Ent} {env : Env}
  {m : Str → Option Value} {Q : Value → Shared → Prop} {x : Str} {v : Value} {pos : Pos} {i : Nat}
theorem v_glob (F : Fm W h₀ Z R h) (hv : Base W h → W.mg x = some v) (hg : env.globals = mainGlobals) (hk : env.scope.kind = .function) (hx : env.kindOf x = some .globalImplicit) (q : Q v ⟨h, gs, d, t, os⟩)
    (hd : (x == ("__debug__" : Str)) = false := by decide) : wpAny (MM W.w) A (eval (.Name x pos) env) Q E ⟨h, gs, d, t, os⟩ :=
  Name_function_global hk hx (loadGlobal_global (hg ▸ F.base.g) (hv F.base) q) hd
theorem v_blt (F : Fm W h₀ Z R h) (hv : Base W h → W.mg x = none ∧ W.mb x = some v) (hg : env.globals = mainGlobals) (hb : env.builtins = builtinsNs) (hk : env.scope.kind = .function) (hx : env.kindOf x = some .globalImplicit) (q : Q v ⟨h, gs, d, t, os⟩)
    (hd : (x == ("__debug__" : Str)) = false := by decide) : wpAny (MM W.w) A (eval (.Name x pos) env) Q E ⟨h, gs, d, t, os⟩ :=
  Name_function_global hk hx (loadGlobal_builtin (hg ▸ F.base.g) (hv F.base).1 (hb ▸ F.base.b) (hv F.base).2 q) hd
theorem v_call {s : Shared} {n : Str} {np : Pos} {e : Expr} {rest : List Expr}
    (q : wpAny (MM W.w) A (eval (.Name n np) env) (fun f s₁ => wpAny (MM W.w) A (spliced (backTo pos (starEach (e :: rest) env))) (fun vs s₂ => Kept W.w s₂.heap f ∧ wpAny (MM W.w) A (call f vs) Q E s₂) E s₁) E s)
    (he : starEach (e :: rest) env = (false, eval e env) :: starEach rest env := by rfl) (hplain : (backTo pos (starEach rest env)).any (·.1) = false := by rfl) :
    wpAny (MM W.w) A (eval (.Call (.Name n np) (e :: rest) [] pos) env) Q E s := by
  show wpAny _ A (do callWith pos (← eval (.Name n np) env) [] (backTo pos (starEach (e :: rest) env)) (backToKw pos (keywordEach [] env))) Q E s
  refine wpAny_bind (wpAny_mono q (fun f s₁ h₁ => ?_) fun _ _ z => z)
  rw [he] at h₁ ⊢
  refine callWith_of (P := fun h => Kept W.w h f) ?_ (fun _ z => z) (evalArgs_plain ?_)
  · show ((false || (backTo pos (starEach rest env)).any (·.1)) || false) = false
    rw [hplain]; rfl
  · exact h₁
theorem v_call0 {s : Shared} {n : Str} {np : Pos} (q : wpAny (MM W.w) A (eval (.Name n np) env) (fun f s₁ => Kept W.w s₁.heap f ∧ wpAny (MM W.w) A (call f []) Q E s₁) E s) :
    wpAny (MM W.w) A (eval (.Call (.Name n np) [] [] pos) env) Q E s := by
  show wpAny _ A (do callWith pos (← eval (.Name n np) env) [] (backTo pos (starEach [] env)) (backToKw pos (keywordEach [] env))) Q E s
  refine wpAny_bind (wpAny_mono q (fun f s₁ h₁ => ?_) fun _ _ z => z)
  exact callWith_of (P := fun h => Kept W.w h f) rfl (fun _ z => z) (evalArgs_nil3 h₁)
theorem v_none {k : Nat} {s : Shared} (q : Q .none s) : wpAny (MM W.w) A (eval (.Constant .none k pos) env) Q E s := fun _ _ _ => q
theorem v_bool {b : Bool} {k : Nat} {s : Shared} (q : Q (.bool b) s) : wpAny (MM W.w) A (eval (.Constant (.bool b) k pos) env) Q E s := fun _ _ _ => q
theorem v_neStr {y z : Str} {ty tz : Tok} {s : Shared} (q : Q (.bool (y != z)) s) : wpAny (MM W.w) A (compareOp .NotEq (.str y ty) (.str z tz)) Q E s := PyProof.Rows.ne_str q
theorem v_neg {n : Int} {tn : Tok} (q : Q (.int (-n) t) ⟨h, gs, d, t + 1, os⟩) : wpAny (MM W.w) A (unaryOp .USub (.int n tn)) Q E ⟨h, gs, d, t, os⟩ := PyProof.Rows.neg_int q
theorem v_tbool {b : Bool} {Q : Bool → Shared → Prop} {s : Shared} (q : Q b s) : wpAny (MM W.w) A (truthy (.bool b)) Q E s := fun _ _ _ => q
theorem v_spl0 {Q : List Value → Shared → Prop} {s : Shared} (q : Q [] s) : wpAny (MM W.w) A (spliced (backTo pos (starEach [] env))) Q E s := wpAny_pure q
theorem v_isi_str {y : Str} {ty : Tok} {s : Shared} (q : Q (.bool true) s) : wpAny (MM W.w) A (call (.builtin "isinstance") [.str y ty, .type "str"]) Q E s := by
  exact IsiPair.str_str q
theorem v_isi_int {n : Int} {ty : Tok} (q : Q (.bool false) ⟨h, gs, d, t + 1, os⟩) : wpAny (MM W.w) A (call (.builtin "isinstance") [.int n ty, .type "str"]) Q E ⟨h, gs, d, t, os⟩ := by
  exact IsiPair.int_str q
theorem v_isi_none (q : Q (.bool false) ⟨h, gs, d, t + 1, os⟩) : wpAny (MM W.w) A (call (.builtin "isinstance") [.none, .type "str"]) Q E ⟨h, gs, d, t, os⟩ := by
  exact IsiPair.NoneType_str q
theorem v_meth1 {s : Shared} {o e : Expr} {name : Str} {apos : Pos} (q : wpAny (MM W.w) A (eval o env) (fun ov s₁ => MethodOnS pg W.w A E name ov pos [(false, eval e env)] Q s₁) E s)
    (hbase : attributeBase o name env (eval o env) = eval o env := by rfl) (hs : starEach [e] env = [(false, eval e env)] := by rfl) (hline : (apos.endLine == pos.line) = true := by rfl) :
    wpAny (MM W.w) A (eval (.Call (.Attribute o name apos) [e] [] pos) env) Q E s := Call_method1 hbase hs hline q
theorem v_meth0 {s : Shared} {o : Expr} {name : Str} {apos : Pos} (q : wpAny (MM W.w) A (eval o env) (fun ov s₁ => MethodOnS pg W.w A E name ov pos [] Q s₁) E s)
    (hbase : attributeBase o name env (eval o env) = eval o env := by rfl) (hline : (apos.endLine == pos.line) = true := by rfl) :
    wpAny (MM W.w) A (eval (.Call (.Attribute o name apos) [] [] pos) env) Q E s := Call_method0 hbase hline q
theorem strE {y : Str} {ty : Tok} {P : Str → Prop} (q : P y) : ∃ y' u, Value.str y ty = .str y' u ∧ P y' := ⟨y, ty, rfl, q⟩
theorem v_subS_ns {value slice : Expr} {y : Str} {ty : Tok} {j : Int} {tj : Tok} (F : Fm W h₀ Z R h) (hsz : y.length ≤ 1000000) (q : ∀ h' tk t', (Txt.slice y none (some j)).length ≤ y.length → Fm W h₀ Z R h' → Q (.str (Txt.slice y none (some j)) tk) ⟨h', gs, d, t', os⟩)
    (hs : subscripted slice false (.str y ty) (.ref h.objs.size) = operate [.ref h.objs.size, .str y ty] (getItem (.str y ty) (.ref h.objs.size)) := by with_unfolding_all rfl) (ht : ∀ r, letTemporaryGo value (.str y ty) r = pure () := by intro _; with_unfolding_all rfl) :
    wpAny (MM W.w) A (subscriptTail value slice (.str y ty) (.ref h.objs.size)) Q E ⟨h.push { cls := .type "slice", data := .fields #[.none, .int j tj, .none] }, gs, d, t, os⟩ :=
  tail_of_ItemOn (SBH.sliceItem_ns (s := ⟨h, gs, d, t, os⟩) (P := fun h => Fm W h₀ Z R h) (fun _ _ G => G.push _) F (fun h' t' k a => q h' t' k (Txt.slice_le _ _ _) a) (le_line hsz)) hs ht
theorem v_subS_sn {value slice : Expr} {y : Str} {ty : Tok} {j : Int} {tj : Tok} (F : Fm W h₀ Z R h) (hsz : y.length ≤ 1000000) (q : ∀ h' tk t', (Txt.slice y (some j) none).length ≤ y.length → Fm W h₀ Z R h' → Q (.str (Txt.slice y (some j) none) tk) ⟨h', gs, d, t', os⟩)
    (hs : subscripted slice false (.str y ty) (.ref h.objs.size) = operate [.ref h.objs.size, .str y ty] (getItem (.str y ty) (.ref h.objs.size)) := by with_unfolding_all rfl) (ht : ∀ r, letTemporaryGo value (.str y ty) r = pure () := by intro _; with_unfolding_all rfl) :
    wpAny (MM W.w) A (subscriptTail value slice (.str y ty) (.ref h.objs.size)) Q E ⟨h.push { cls := .type "slice", data := .fields #[.int j tj, .none, .none] }, gs, d, t, os⟩ :=
  tail_of_ItemOn (SBH.sliceItem_sn (s := ⟨h, gs, d, t, os⟩) (P := fun h => Fm W h₀ Z R h) (fun _ _ G => G.push _) F (fun h' t' k a => q h' t' k (Txt.slice_le _ _ _) a) (le_line hsz)) hs ht
theorem v_subS_ss {value slice : Expr} {y : Str} {ty : Tok} {i j : Int} {ti tj : Tok} (F : Fm W h₀ Z R h) (hsz : y.length ≤ 1000000) (q : ∀ h' tk t', (Txt.slice y (some i) (some j)).length ≤ y.length → Fm W h₀ Z R h' → Q (.str (Txt.slice y (some i) (some j)) tk) ⟨h', gs, d, t', os⟩)
    (hs : subscripted slice false (.str y ty) (.ref h.objs.size) = operate [.ref h.objs.size, .str y ty] (getItem (.str y ty) (.ref h.objs.size)) := by with_unfolding_all rfl) (ht : ∀ r, letTemporaryGo value (.str y ty) r = pure () := by intro _; with_unfolding_all rfl) :
    wpAny (MM W.w) A (subscriptTail value slice (.str y ty) (.ref h.objs.size)) Q E ⟨h.push { cls := .type "slice", data := .fields #[.int i ti, .int j tj, .none] }, gs, d, t, os⟩ :=
  tail_of_ItemOn (SBH.sliceItem_ss (s := ⟨h, gs, d, t, os⟩) (P := fun h => Fm W h₀ Z R h) (fun _ _ G => G.push _) F (fun h' t' k a => q h' t' k (Txt.slice_le _ _ _) a) (le_line hsz)) hs ht
def SlQ (Q : Value → Shared → Prop) (l u : Value) (s : Shared) : Prop := Q (.ref s.heap.objs.size) { s with heap := s.heap.push { cls := .type "slice", data := .fields #[l, u, .none] } }
theorem slq {l u : Value} (q : Q (.ref h.objs.size) ⟨h.push { cls := .type "slice", data := .fields #[l, u, .none] }, gs, d, t, os⟩) : SlQ Q l u ⟨h, gs, d, t, os⟩ := q
theorem v_slice {s : Shared} {lower upper : Option Expr} {p : Pos}
    (q : wpAny (MM W.w) A (evalPart lower env) (fun l s₁ => wpAny (MM W.w) A (evalPart upper env) (fun u s₂ => SlQ Q l u s₂) E s₁) E s) :
    wpAny (MM W.w) A (eval (.Slice lower upper none p) env) Q E s := wpAny_Slice (wpAny_mono q (fun _ _ q => wpAny_mono q (fun _ _ q => wpAny_pure q) fun _ _ z => z) fun _ _ z => z)
theorem iteB {c : Bool} {A B : Prop} (h1 : c = true → A) (h2 : c = false → B) : if c = true then A else B := by
  cases c with
  | true => exact h1 rfl
  | false => exact h2 rfl
theorem v_end {v' : Value} (F : Fm W h₀ Z R h) (q : ∀ h' t', Kp h₀ h' → Base W h' → Q v' ⟨h', gs, d, t', os⟩) (e : v = v') : Q v ⟨h, gs, d, t, os⟩ := e ▸ q h t F.kp F.base
end
end Mine
namespace Mine
open PySem PySem.W PySem.Calls PyProof.Rows PySem.Builtin PySem.Builtin.Str
theorem kept_IW {W : Wd} {h : Heap} (B : Base W h) : Kept W.w h (.ref 38) := kept_fn (B.K 38 _ (kf_IW _)) rfl
theorem cr_IW {W : Wd} {h : Heap} (B : Base W h) : h.CodeRec fdIW.code fdIW.qualname := codeRec_of B.K (cd_IW _)
theorem kf_PT (P : Params) : (KK P).lookup 45 = some { cls := .type "function", data := .func fdPT } := by kernel_rfl
theorem cd_PT (P : Params) : codeIn (KK P) fdPT.code fdPT.qualname = true := by kernel_rfl
theorem kept_PT {W : Wd} {h : Heap} (B : Base W h) : Kept W.w h (.ref 45) := kept_fn (B.K 45 _ (kf_PT _)) rfl
theorem cr_PT {W : Wd} {h : Heap} (B : Base W h) : h.CodeRec fdPT.code fdPT.qualname := codeRec_of B.K (cd_PT _)
theorem kf_PC (P : Params) : (KK P).lookup 52 = some { cls := .type "function", data := .func fdPC } := by kernel_rfl
theorem cd_PC (P : Params) : codeIn (KK P) fdPC.code fdPC.qualname = true := by kernel_rfl
theorem kept_PC {W : Wd} {h : Heap} (B : Base W h) : Kept W.w h (.ref 52) := kept_fn (B.K 52 _ (kf_PC _)) rfl
theorem cr_PC {W : Wd} {h : Heap} (B : Base W h) : h.CodeRec fdPC.code fdPC.qualname := codeRec_of B.K (cd_PC _)
theorem kf_TR (P : Params) : (KK P).lookup 64 = some { cls := .type "function", data := .func fdTR } := by kernel_rfl
theorem cd_TR (P : Params) : codeIn (KK P) fdTR.code fdTR.qualname = true := by kernel_rfl
theorem kept_TR {W : Wd} {h : Heap} (B : Base W h) : Kept W.w h (.ref 64) := kept_fn (B.K 64 _ (kf_TR _)) rfl
theorem cr_TR {W : Wd} {h : Heap} (B : Base W h) : h.CodeRec fdTR.code fdTR.qualname := codeRec_of B.K (cd_TR _)
theorem kf_ES (P : Params) : (KK P).lookup 76 = some { cls := .type "function", data := .func fdES } := by kernel_rfl
theorem cd_ES (P : Params) : codeIn (KK P) fdES.code fdES.qualname = true := by kernel_rfl
theorem kept_ES {W : Wd} {h : Heap} (B : Base W h) : Kept W.w h (.ref 76) := kept_fn (B.K 76 _ (kf_ES _)) rfl
theorem cr_ES {W : Wd} {h : Heap} (B : Base W h) : h.CodeRec fdES.code fdES.qualname := codeRec_of B.K (cd_ES _)
theorem kf_TS (P : Params) : (KK P).lookup 83 = some { cls := .type "function", data := .func fdTS } := by kernel_rfl
theorem cd_TS (P : Params) : codeIn (KK P) fdTS.code fdTS.qualname = true := by kernel_rfl
theorem kept_TS {W : Wd} {h : Heap} (B : Base W h) : Kept W.w h (.ref 83) := kept_fn (B.K 83 _ (kf_TS _)) rfl
theorem cr_TS {W : Wd} {h : Heap} (B : Base W h) : h.CodeRec fdTS.code fdTS.qualname := codeRec_of B.K (cd_TS _)
theorem kf_JN (P : Params) : (KK P).lookup 90 = some { cls := .type "function", data := .func fdJN } := by kernel_rfl
theorem cd_JN (P : Params) : codeIn (KK P) fdJN.code fdJN.qualname = true := by kernel_rfl
theorem kept_JN {W : Wd} {h : Heap} (B : Base W h) : Kept W.w h (.ref 90) := kept_fn (B.K 90 _ (kf_JN _)) rfl
theorem cr_JN {W : Wd} {h : Heap} (B : Base W h) : h.CodeRec fdJN.code fdJN.qualname := codeRec_of B.K (cd_JN _)
theorem kf_TX (P : Params) : (KK P).lookup 97 = some { cls := .type "function", data := .func fdTX } := by kernel_rfl
theorem cd_TX (P : Params) : codeIn (KK P) fdTX.code fdTX.qualname = true := by kernel_rfl
theorem kept_TX {W : Wd} {h : Heap} (B : Base W h) : Kept W.w h (.ref 97) := kept_fn (B.K 97 _ (kf_TX _)) rfl
theorem cr_TX {W : Wd} {h : Heap} (B : Base W h) : h.CodeRec fdTX.code fdTX.qualname := codeRec_of B.K (cd_TX _)
theorem kf_DR (P : Params) : (KK P).lookup 102 = some { cls := .type "function", data := .func fdDR } := by kernel_rfl
theorem cd_DR (P : Params) : codeIn (KK P) fdDR.code fdDR.qualname = true := by kernel_rfl
theorem kept_DR {W : Wd} {h : Heap} (B : Base W h) : Kept W.w h (.ref 102) := kept_fn (B.K 102 _ (kf_DR _)) rfl
theorem cr_DR {W : Wd} {h : Heap} (B : Base W h) : h.CodeRec fdDR.code fdDR.qualname := codeRec_of B.K (cd_DR _)
theorem kf_ND (P : Params) : (KK P).lookup 109 = some { cls := .type "function", data := .func fdND } := by kernel_rfl
theorem cd_ND (P : Params) : codeIn (KK P) fdND.code fdND.qualname = true := by kernel_rfl
theorem kept_ND {W : Wd} {h : Heap} (B : Base W h) : Kept W.w h (.ref 109) := kept_fn (B.K 109 _ (kf_ND _)) rfl
theorem cr_ND {W : Wd} {h : Heap} (B : Base W h) : h.CodeRec fdND.code fdND.qualname := codeRec_of B.K (cd_ND _)
theorem kf_QU (P : Params) : (KK P).lookup 114 = some { cls := .type "function", data := .func fdQU } := by kernel_rfl
theorem cd_QU (P : Params) : codeIn (KK P) fdQU.code fdQU.qualname = true := by kernel_rfl
theorem kept_QU {W : Wd} {h : Heap} (B : Base W h) : Kept W.w h (.ref 114) := kept_fn (B.K 114 _ (kf_QU _)) rfl
theorem cr_QU {W : Wd} {h : Heap} (B : Base W h) : h.CodeRec fdQU.code fdQU.qualname := codeRec_of B.K (cd_QU _)
theorem kf_SY (P : Params) : (KK P).lookup 121 = some { cls := .type "function", data := .func fdSY } := by kernel_rfl
theorem cd_SY (P : Params) : codeIn (KK P) fdSY.code fdSY.qualname = true := by kernel_rfl
theorem kept_SY {W : Wd} {h : Heap} (B : Base W h) : Kept W.w h (.ref 121) := kept_fn (B.K 121 _ (kf_SY _)) rfl
theorem cr_SY {W : Wd} {h : Heap} (B : Base W h) : h.CodeRec fdSY.code fdSY.qualname := codeRec_of B.K (cd_SY _)
theorem kf_PL (P : Params) : (KK P).lookup 128 = some { cls := .type "function", data := .func fdPL } := by kernel_rfl
theorem cd_PL (P : Params) : codeIn (KK P) fdPL.code fdPL.qualname = true := by kernel_rfl
theorem kept_PL {W : Wd} {h : Heap} (B : Base W h) : Kept W.w h (.ref 128) := kept_fn (B.K 128 _ (kf_PL _)) rfl
theorem cr_PL {W : Wd} {h : Heap} (B : Base W h) : h.CodeRec fdPL.code fdPL.qualname := codeRec_of B.K (cd_PL _)
theorem kf_CU (P : Params) : (KK P).lookup 135 = some { cls := .type "function", data := .func fdCU } := by kernel_rfl
theorem cd_CU (P : Params) : codeIn (KK P) fdCU.code fdCU.qualname = true := by kernel_rfl
theorem kept_CU {W : Wd} {h : Heap} (B : Base W h) : Kept W.w h (.ref 135) := kept_fn (B.K 135 _ (kf_CU _)) rfl
theorem cr_CU {W : Wd} {h : Heap} (B : Base W h) : h.CodeRec fdCU.code fdCU.qualname := codeRec_of B.K (cd_CU _)
theorem kf_TK (P : Params) : (KK P).lookup 140 = some { cls := .type "function", data := .func fdTK } := by kernel_rfl
theorem cd_TK (P : Params) : codeIn (KK P) fdTK.code fdTK.qualname = true := by kernel_rfl
theorem kept_TK {W : Wd} {h : Heap} (B : Base W h) : Kept W.w h (.ref 140) := kept_fn (B.K 140 _ (kf_TK _)) rfl
theorem cr_TK {W : Wd} {h : Heap} (B : Base W h) : h.CodeRec fdTK.code fdTK.qualname := codeRec_of B.K (cd_TK _)
theorem kf_RF (P : Params) : (KK P).lookup 147 = some { cls := .type "function", data := .func fdRF } := by kernel_rfl
theorem cd_RF (P : Params) : codeIn (KK P) fdRF.code fdRF.qualname = true := by kernel_rfl
theorem kept_RF {W : Wd} {h : Heap} (B : Base W h) : Kept W.w h (.ref 147) := kept_fn (B.K 147 _ (kf_RF _)) rfl
theorem cr_RF {W : Wd} {h : Heap} (B : Base W h) : h.CodeRec fdRF.code fdRF.qualname := codeRec_of B.K (cd_RF _)
theorem kf_LW (P : Params) : (KK P).lookup 152 = some { cls := .type "function", data := .func fdLW } := by kernel_rfl
theorem cd_LW (P : Params) : codeIn (KK P) fdLW.code fdLW.qualname = true := by kernel_rfl
theorem kept_LW {W : Wd} {h : Heap} (B : Base W h) : Kept W.w h (.ref 152) := kept_fn (B.K 152 _ (kf_LW _)) rfl
theorem cr_LW {W : Wd} {h : Heap} (B : Base W h) : h.CodeRec fdLW.code fdLW.qualname := codeRec_of B.K (cd_LW _)
theorem kept_known {W : Wd} {h : Heap} {a : Addr} (B : Base W h) (m : [38, 45, 52, 64, 76, 83, 90, 97, 102, 109, 114, 121, 128, 135, 140, 147].contains a = true) : Kept W.w h (.ref a) := by
  have hm := List.contains_iff_mem.mp m
  simp only [List.mem_cons, List.not_mem_nil, or_false] at hm
  rcases hm with rfl | rfl | rfl | rfl | rfl | rfl | rfl | rfl | rfl | rfl | rfl | rfl | rfl | rfl | rfl | rfl
  · exact kept_IW B
  · exact kept_PT B
  · exact kept_PC B
  · exact kept_TR B
  · exact kept_ES B
  · exact kept_TS B
  · exact kept_JN B
  · exact kept_TX B
  · exact kept_DR B
  · exact kept_ND B
  · exact kept_QU B
  · exact kept_SY B
  · exact kept_PL B
  · exact kept_CU B
  · exact kept_TK B
  · exact kept_RF B
end Mine
namespace Mine
open PySem PySem.W PySem.Calls PyProof.Rows PySem.Builtin PySem.Builtin.Str
section
variable {W : Wd} {A : Around} {E : Value → Shared → Prop} {h₀ h : Heap} {gs : Array GenState} {d : Drawn} {t : Nat} {os : OsState} {Z R : List Ent} {env : Env}
  {m : Str → Option Value} {Q : Value → Shared → Prop} {x : Str} {v : Value} {pos : Pos} {i : Nat}
theorem n_local (hx : env.kindOf x = some .local) (F : Fm W h₀ Z R h) (hi : R[i]? = some (env.locals, nsO m)) (hv : m x = some v) (hk : env.scope.kind = .function) (q : Q v ⟨h, gs, d, t, os⟩)
    (hd : (x == ("__debug__" : Str)) = false := by decide) : wpAny (MM W.w) A (eval (.Name x pos) env) Q E ⟨h, gs, d, t, os⟩ := v_local F hi hv hk hx q hd
theorem n_glob (hx : env.kindOf x = some .globalImplicit) (F : Fm W h₀ Z R h) (hv : Base W h → W.mg x = some v) (hg : env.globals = mainGlobals) (hk : env.scope.kind = .function) (q : Q v ⟨h, gs, d, t, os⟩)
    (hd : (x == ("__debug__" : Str)) = false := by decide) : wpAny (MM W.w) A (eval (.Name x pos) env) Q E ⟨h, gs, d, t, os⟩ := v_glob F hv hg hk hx q hd
theorem n_blt (hx : env.kindOf x = some .globalImplicit) (F : Fm W h₀ Z R h) (hv : Base W h → W.mg x = none ∧ W.mb x = some v) (hg : env.globals = mainGlobals) (hb : env.builtins = builtinsNs) (hk : env.scope.kind = .function) (q : Q v ⟨h, gs, d, t, os⟩)
    (hd : (x == ("__debug__" : Str)) = false := by decide) : wpAny (MM W.w) A (eval (.Name x pos) env) Q E ⟨h, gs, d, t, os⟩ := v_blt F hv hg hb hk hx q hd
end
end Mine
namespace Mine
open PySem PySem.W PySem.Calls PyProof.Rows PySem.Builtin PySem.Builtin.Str
theorem nrm_cls {T : String} {o : Obj} (e : o.cls = .type T) (hT : T ≠ "code") : nrm o := fun _ _ => ⟨by rw [e]; exact fun z => (nomatch z), by rw [e]; intro z; injection z with z; exact hT z⟩
/-- a list object -/
def lsO (vs : List Value) (o : Obj) : Prop := o.cls = .type "list" ∧ ∃ n, o.data = .seq vs.toArray n
theorem nrm_ls {vs : List Value} : ∀ o, lsO vs o → nrm o := fun o ⟨_, n, e⟩ vs e' => by rw [e] at e'; cases e'
theorem at_ls {h : Heap} {a : Addr} {vs : List Value} : At h a (lsO vs) ↔ h.IsList a vs.toArray := Iff.rfl
def liO (l : Addr) (i : Nat) (o : Obj) : Prop := o.cls = .type "list_iterator" ∧ o.data = .fields #[.ref l, .int i 0]
theorem nrm_li {l : Addr} {i : Nat} : ∀ o, liO l i o → nrm o := fun o ⟨e, _⟩ => nrm_cls e (by decide)
def tuO (vs : List Value) (o : Obj) : Prop := o.cls = .type "tuple" ∧ ∃ n, o.data = .seq vs.toArray n
theorem nrm_tu {vs : List Value} : ∀ o, tuO vs o → nrm o := fun o ⟨_, n, e⟩ vs e' => by rw [e] at e'; cases e'
def clO (v : Option Value) (o : Obj) : Prop := o.data = .cell v
theorem nrm_cl {v : Option Value} : ∀ o, clO v o → nrm o := fun o e vs e' => by rw [e] at e'; cases e'
section
variable {W : Wd} {h₀ h h' : Heap} {Z R R' : List Ent} {i : Nat} {a : Addr} {φ φ' : Obj → Prop}
theorem Fm.atR (F : Fm W h₀ Z R h) (hm : (a, φ) ∈ R) : At h a φ := (F.r _ hm).1
theorem Fm.frz (F : Fm W h₀ Z (R ++ (a, φ) :: R') h) : Fm W h₀ ((a, φ) :: Z) (R ++ R') h where
  base := F.base
  kp := F.kp
  base₀ := F.base₀
  z := fun e he => by
    rcases List.mem_cons.mp he with rfl | he
    · have := F.r (a, φ) (by simp)
      exact ⟨this.1, stb_nrm this.2⟩
    · exact F.z e he
  r := fun e he => F.r e (by rcases List.mem_append.mp he with q | q <;> simp [q])
  rf := fun e he => F.rf e (by rcases List.mem_append.mp he with q | q <;> simp [q])
  rn := by
    have := F.rn
    simp only [List.map_append, List.map_cons] at this ⊢
    exact this.sublist (List.Sublist.append_left (List.sublist_cons_self _ _) _)
  zr := fun e he e' he' => by
    rcases List.mem_cons.mp he with rfl | he
    · have := F.rn
      simp only [List.map_append, List.map_cons, List.nodup_append, List.nodup_cons] at this
      rcases List.mem_append.mp he' with q | q
      · exact (this.2.2 e'.1 (List.mem_map_of_mem q) a (by simp)).symm
      · exact fun z => this.2.1.1 (by rw [show a = e'.1 from z]; exact List.mem_map_of_mem q)
    · exact F.zr e he e' (by rcases List.mem_append.mp he' with q | q <;> simp [q])
/-- an own thing at the end turned and goes out of sight -/
theorem Fm.out (F : Fm W h₀ Z (R ++ [(a, φ)]) h) (hx : Heap.ExtBut a h h') : Fm W h₀ Z R h' := by
  have hm : (a, φ) ∈ R ++ [(a, φ)] := by simp
  have hla : h₀.get? a = none := F.rf _ hm
  have nna : ∀ o, h.get? a = some o → nrm o := fun o e => by
    obtain ⟨o', e', p⟩ := (F.r _ hm).1
    rw [e] at e'; cases e'
    exact (F.r _ hm).2 o p
  have rn := F.rn
  simp only [List.map_append, List.map_cons, List.map_nil, List.nodup_append] at rn
  refine ⟨F.base₀.ext F.base hx hla nna, fun b o e => ?_, F.base₀, fun e he => ⟨((F.z e he).1).ext hx (F.zr e he _ hm), (F.z e he).2⟩, fun e he => ?_, fun e he => F.rf e (by simp [he]), rn.1, fun e he e' he' => F.zr e he e' (by simp [he'])⟩
  · have nb : b ≠ a := fun q => by rw [q, hla] at e; cases e
    rcases F.kp b o e with e1 | ⟨vs, more, eo, e1⟩
    · exact .inl (hx _ _ nb e1)
    · exact .inr ⟨vs, more, eo, hx _ _ nb e1⟩
  · have he' : e ∈ R ++ [(a, φ)] := by simp [he]
    exact ⟨((F.r e he').1).ext hx (rn.2.2 e.1 (List.mem_map_of_mem he) a (by simp)), (F.r e he').2⟩
/-- own things at the end go out of sight -/
theorem Fm.cut (F : Fm W h₀ Z (R ++ R') h) : Fm W h₀ Z R h where
  base := F.base
  kp := F.kp
  base₀ := F.base₀
  z := F.z
  r := fun e he => F.r e (by simp [he])
  rf := fun e he => F.rf e (by simp [he])
  rn := by have := F.rn; simp only [List.map_append, List.nodup_append] at this; exact this.1
  zr := fun e he e' he' => F.zr e he e' (by simp [he'])
theorem at_mid {R R' : List Ent} {e : Ent} : (R ++ e :: R')[R.length]? = some e := by simp
theorem set_mid {R R' : List Ent} {e e' : Ent} : (R ++ e :: R').set R.length e' = R ++ e' :: R' := by simp
theorem Fm.turnM (F : Fm W h₀ Z (R ++ (a, φ) :: R') h) (hx : Heap.ExtBut a h h') (hn : ∀ o, φ' o → nrm o) (ha : At h' a φ') : Fm W h₀ Z (R ++ (a, φ') :: R') h' := set_mid ▸ F.turn at_mid hx hn ha
end
/-- what walks over a thing, one item after the other -/
structure Iter (W : Wd) (A : Around) (it : Addr) (n : Nat) (item : Nat → Value → Prop) (ι : Nat → Obj → Prop) (live : Heap → Prop) : Prop where
  nr : ∀ k o, ι k o → nrm o
  next : ∀ k, k < n → ∀ {E : Value → Shared → Prop} {Q : Option Value → Shared → Prop} {h : Heap} {gs d t os}, live h → At h it (ι k) → (∀ v h' t', item k v → Heap.ExtBut it h h' → At h' it (ι (k + 1)) → Q (some v) ⟨h', gs, d, t', os⟩) →
    wpAny (MM W.w) A (pyNext (.ref it)) Q E ⟨h, gs, d, t, os⟩
  stop : ∀ {E : Value → Shared → Prop} {Q : Option Value → Shared → Prop} {h : Heap} {gs d t os}, live h → At h it (ι n) → (∀ h', Heap.ExtBut it h h' → Q none ⟨h', gs, d, t, os⟩) → wpAny (MM W.w) A (pyNext (.ref it)) Q E ⟨h, gs, d, t, os⟩
theorem Iter.list {W : Wd} {A : Around} {it l : Addr} {vs : List Value} (hh : A.handled = none) : Iter W A it vs.length (fun k v => vs[k]? = some v) (liO l) (fun h => h.IsList l vs.toArray) where
  nr := fun k o => nrm_li o
  next := fun k hk _ _ _ _ _ _ _ hl hit q => by
    obtain ⟨v, hv⟩ : ∃ v, vs[k]? = some v := ⟨_, List.getElem?_eq_getElem hk⟩
    exact wpAny_pyNext_list_item hit hl (by simpa using hv) fun h' hi hs => q v h' _ hv hs.extBut hi
  stop := fun hl hit q => wpAny_pyNext_list_end hh hit hl (by simp) fun h' hs => q h' hs
abbrev rgO (x left : Int) (o : Obj) : Prop := o = { cls := .type "range_iterator", dict := none, data := .fields #[rawInt x, rawInt left, rawInt 1], slots := #[] }
theorem Iter.range {W : Wd} {A : Around} {it : Addr} {n : Nat} (hh : A.handled = none) : Iter W A it n (fun k v => ∃ t, v = .int k t) (fun k => rgO k ((n : Int) - k)) (fun _ => True) where
  nr := fun k o e => by subst e; exact nrm_cls rfl (by decide)
  next := fun k hk _ _ _ _ _ _ _ _ hit q => by
    obtain ⟨o, ho, rfl⟩ := hit
    refine wpAny_pyNext_range_item (x := k) (left := (n : Int) - k) (step := 1) ho (by omega) fun h' hi hs => ?_
    refine q _ h' _ ⟨_, rfl⟩ hs.extBut ⟨_, hi, ?_⟩
    show _ = _
    rw [show ((k + 1 : Nat) : Int) = (k : Int) + 1 from rfl, show (n : Int) - ((k : Int) + 1) = (n : Int) - k - 1 by omega]
  stop := fun _ hit q => by
    obtain ⟨o, ho, rfl⟩ := hit
    exact wpAny_pyNext_range_end hh ho (by omega) fun h' hs => q h' hs
def siO (ty : String) (x : Str) (t : Tok) (i : Nat) (o : Obj) : Prop := o.cls = .type ty ∧ o.data = .fields #[.str x t, .int i 0]
def sTy (x : Str) : String := if x.cps.all (· < 128) then "str_ascii_iterator" else "str_iterator"
theorem Iter.str {W : Wd} {A : Around} {it : Addr} {x : Str} {tx : Tok} (hh : A.handled = none) : Iter W A it x.length (fun k v => ∃ t c, x.cps[k]? = some c ∧ v = .str ⟨#[c]⟩ t) (siO (sTy x) x tx) (fun _ => True) where
  nr := fun k o ⟨e, _⟩ => nrm_cls e (by unfold sTy; split <;> decide)
  next := fun k hk _ _ _ _ _ _ _ _ hit q => by
    obtain ⟨c, hc⟩ : ∃ c, x.cps[k]? = some c := ⟨_, Array.getElem?_eq_getElem hk⟩
    unfold sTy at *
    split at hit
    · rename_i ha
      rw [if_pos ha] at q
      exact wpAny_pyNext_ascii_item hit hc fun h' hi hs => q _ h' _ ⟨_, c, hc, rfl⟩ hs.extBut hi
    · rename_i ha
      rw [if_neg ha] at q
      exact wpAny_pyNext_wide_item hit hc fun h' hi hs => q _ h' _ ⟨_, c, hc, rfl⟩ hs.extBut hi
  stop := fun _ hit q => by
    have hc : x.cps[x.length]? = none := by
      show x.cps[x.cps.size]? = none
      simp
    unfold sTy at *
    split at hit
    · exact wpAny_pyNext_ascii_end hh hit hc fun h' hs => q h' hs
    · exact wpAny_pyNext_wide_end hh hit hc fun h' hs => q h' hs
section
variable {W : Wd} {A : Around} {E : Value → Shared → Prop} {h₀ h : Heap} {gs : Array GenState} {d : Drawn} {t : Nat} {os : OsState} {Z R : List Ent} {env : Env}
  {m : Str → Option Value} {Q : Value → Shared → Prop} {x : Str} {v : Value} {pos : Pos} {i : Nat}
theorem v_it_list {l : Addr} {vs : List Value} (F : Fm W h₀ Z R h) (hl : h.IsList l vs.toArray) (q : ∀ it h', Fm W h₀ Z (R ++ [(it, liO l 0)]) h' → h'.IsList l vs.toArray → Q (.ref it) ⟨h', gs, d, t, os⟩) :
    wpAny (MM W.w) A (pyIter (.ref l)) Q E ⟨h, gs, d, t, os⟩ :=
  wpAny_pyIter_list hl (q _ _ (F.new _ rfl nrm_li ⟨rfl, rfl⟩) (hl.push _))
theorem v_it_range {r : Addr} {n : Nat} {t1 u1 v1 : Tok} (F : Fm W h₀ Z R h) (hr : IsRange h r 0 n 1 t1 u1 v1) (hn : n ≤ 1000000) (q : ∀ it h', Fm W h₀ Z (R ++ [(it, rgO 0 n)]) h' → Q (.ref it) ⟨h', gs, d, t, os⟩) :
    wpAny (MM W.w) A (pyIter (.ref r)) Q E ⟨h, gs, d, t, os⟩ := by
  have rs : Builtin.Range.rangeSize 0 n 1 = n := by
    unfold Builtin.Range.rangeSize
    simp
    omega
  refine wpAny_pyIter_range hr ?_ ?_
  · unfold Builtin.Range.small
    rw [rs]
    have e : Builtin.Range.rangeFitsLong n = true := by unfold Builtin.Range.rangeFitsLong; simp; omega
    have e0 : Builtin.Range.rangeFitsLong 0 = true := by decide
    have e1 : Builtin.Range.rangeFitsLong 1 = true := by decide
    simp [e, e0, e1]
  · refine q _ _ ?_
    have := F.new (φ := rgO 0 n) { cls := .type "range_iterator", data := .fields #[rawInt 0, rawInt (Builtin.Range.rangeSize 0 n 1), rawInt 1] } rfl (fun o e => by subst e; exact nrm_cls rfl (by decide)) (by rw [rs])
    exact this
theorem v_it_str {y : Str} {ty : Tok} (F : Fm W h₀ Z R h) (q : ∀ it h', Fm W h₀ Z (R ++ [(it, siO (sTy y) y ty 0)]) h' → Q (.ref it) ⟨h', gs, d, t, os⟩) :
    wpAny (MM W.w) A (pyIter (.str y ty)) Q E ⟨h, gs, d, t, os⟩ := by
  have nr : ∀ (s : String), s ≠ "code" → ∀ o, siO s y ty 0 o → nrm o := fun s hs o ⟨e, _⟩ => nrm_cls e hs
  unfold sTy at q
  split at q
  · rename_i ha
    exact wpAny_pyIter_ascii ha (q _ _ (F.new _ rfl (nr _ (by decide)) ⟨rfl, rfl⟩))
  · rename_i ha
    exact wpAny_pyIter_wide (by simpa using ha) (q _ _ (F.new _ rfl (nr _ (by decide)) ⟨rfl, rfl⟩))
abbrev testsOf (ifs : List Expr) (env : Env) : Sem Bool := forIn ifs true fun c r => if r = true then do let ok ← isTrue c env (eval c env); pure (ForInStep.yield ok) else pure (ForInStep.yield r)
/-- the heart of a comprehension over an own iterator -/
theorem comp_core {elt iter : Expr} {px : Pos} {ifs : List Expr} {scope : Scope} {cl : List (Str × Addr)} {RR : Value → Addr → Result → Shared → Prop}
    {it : Addr} {n : Nat} {item : Nat → Value → Prop} {ι : Nat → Obj → Prop} {live : Heap → Prop} (I : Iter W A it n item ι live) (F : Fm W h₀ Z (R ++ [(it, ι 0)]) h)
    (J : Nat → List Ent → List Value → Prop) (hlive : ∀ Z' h' R', (∀ e ∈ Z, e ∈ Z') → Fm W h₀ Z' (R ++ R') h' → live h') (hn : n ≤ 1000000) (J0 : J 0 Z [])
    (hself : ∀ {E : Value → Shared → Prop} {Q : Value → Shared → Prop} {s : Shared}, At s.heap it (ι 0) → Q (.ref it) s → wpAny (MM W.w) A (pyIter (.ref it)) Q E s)
    (hcell : ∀ y ∈ scope.names, y.2 ≠ .cell) (hkind : scope.kind = .function) (hx : scope.names.lookup x = some .local)
    (turn : ∀ E' D C k Z' ys ι' m h' t' v, k < n → J k Z' ys → ys.length ≤ k → (∀ e ∈ Z, e ∈ Z') → Fm W h₀ Z' (R ++ [(it, ι'), (D, lsO ys), (C, nsO (upd m x v))]) h' → item k v →
      wpAny (MM W.w) A (testsOf ifs (compEnvC scope cl C env)) (fun ok s₃ => if ok = true then
          wpAny (MM W.w) A (eval elt (compEnvC scope cl C env)) (fun y s₄ => ∃ Z'' h₄ t₄, s₄ = ⟨h₄, gs, d, t₄, os⟩ ∧ Fm W h₀ Z'' (R ++ [(it, ι'), (D, lsO ys), (C, nsO (upd m x v))]) h₄ ∧ (∀ e ∈ Z, e ∈ Z'') ∧ J (k + 1) Z'' (ys ++ [y])) E' s₃
        else ∃ Z'' h₄ t₄, s₃ = ⟨h₄, gs, d, t₄, os⟩ ∧ Fm W h₀ Z'' (R ++ [(it, ι'), (D, lsO ys), (C, nsO (upd m x v))]) h₄ ∧ (∀ e ∈ Z, e ∈ Z'') ∧ J (k + 1) Z'' ys) E' ⟨h', gs, d, t', os⟩)
    (done : ∀ D C Z' ys m h' t', J n Z' ys → (∀ e ∈ Z, e ∈ Z') → Fm W h₀ Z' (R ++ [(D, lsO ys), (C, nsO m)]) h' → RR (.ref D) C (.ok .next) ⟨h', gs, d, t', os⟩) :
    wpAny (MM W.w) A (newList []) (fun acc s₃ => wpAny (MM W.w) A (newFunctionEnv scope env.globals cl [] env.qual none .none (some env)) (fun cenv s₄ =>
      codeAny (MM W.w) A (.compStart (.ListComp elt [⟨.Name x px, iter, ifs, 0⟩] scope pos) 0 (.ref it) acc { cenv with scope := relabel scope env }) (RR acc cenv.locals) s₄) E s₃) E ⟨h, gs, d, t, os⟩ := by
  refine wpAny_newObj_type (wpAny_newFunctionEnv hcell (by intro y hy; simp at hy) (fun h₁ hns₁ hsb₁ => ?_) hkind)
  dsimp only at hns₁ hsb₁ ⊢
  have F1 := F.new (φ := lsO []) { cls := .type "list", dict := none, data := .seq ([] : List Value).toArray } rfl nrm_ls ⟨rfl, _, rfl⟩
  generalize hH2 : h.push { cls := .type "list", dict := none, data := .seq ([] : List Value).toArray } = H2 at hns₁ hsb₁ F1 ⊢
  generalize h.objs.size = D at F1 ⊢
  have hk1 : ∀ b o, H2.get? b = some o → h₁.get? b = some o := fun b o e => by
    have : b ≠ H2.objs.size := Nat.ne_of_lt (Heap.lt_size e)
    exact hsb₁.extBut b o this (Heap.get?_push_of_some _ e)
  have F2 : Fm W h₀ Z (R ++ [(it, ι 0), (D, lsO []), (H2.objs.size, nsO fun _ => none)]) h₁ := by
    have := F1.add (Y := [(H2.objs.size, nsO fun x => ([] : List (Str × Value)).reverse.lookup x)]) (.of_keep hk1) (F1.base.keep hk1)
      (fun e he => by rw [List.mem_singleton.mp he]; exact ⟨at_ns.mpr hns₁, nrm_ns⟩) (fun e he => by rw [List.mem_singleton.mp he]; exact get_none (Nat.le_refl _)) (by simp)
    simpa using this
  generalize H2.objs.size = C at F2 hns₁ ⊢
  clear hk1 hsb₁ hns₁ hH2 F1
  have loop : ∀ s₃ : Shared, s₃ = ⟨h₁, gs, d, t + ([] : List (Str × Value)).length, os⟩ →
      codeAny (MM W.w) A (.compLoop (.ListComp elt [⟨.Name x px, iter, ifs, 0⟩] scope pos) 0 (.ref it) (.ref D) (compEnvC scope cl C env)) (RR (.ref D) C) s₃ := by
    rintro s₃ rfl
    refine codeAny_compLoop_tests (fun k s' => ∃ i Z' ys m' h' t', k = n + 1 - i ∧ i ≤ n ∧ s' = ⟨h', gs, d, t', os⟩ ∧ J i Z' ys ∧ ys.length ≤ i ∧ (∀ e ∈ Z, e ∈ Z') ∧
      Fm W h₀ Z' (R ++ [(it, ι i), (D, lsO ys), (C, nsO m')]) h') ?_ (n + 1) ⟨0, Z, [], _, _, _, rfl, Nat.zero_le _, rfl, J0, Nat.le_refl _, fun _ e => e, F2⟩
    rintro k s' ⟨i, Z', ys, m', h', t', rfl, hi, rfl, hJ, hys, hZ, G⟩
    have hlv := hlive Z' h' _ hZ G
    have hat : At h' it (ι i) := G.atR (by simp)
    by_cases hlt : i < n
    · refine I.next i hlt hlv hat fun v h₂ t₂ hv hx2 hat2 => ?_
      have G2 := G.turnM hx2 (I.nr _) hat2
      have G2' : Fm W h₀ Z' ((R ++ [(it, ι (i + 1)), (D, lsO ys)]) ++ (C, nsO m') :: []) h₂ := by simpa using G2
      refine wpAny_assign_Name (wpAny_storeName_local (env := compEnvC scope cl C env) (lookup_relabel_local hx) (m := m') (at_ns.mp (G2'.atR (List.mem_append.mpr (.inr (List.mem_singleton.mpr rfl))))) (fun h₃ hn₃ hs₃ => ?_) (by simp [compEnvC, relabel, hkind]))
      have G3 := G2'.turnM (φ' := nsO (upd m' x v)) hs₃.extBut nrm_ns (at_ns.mpr hn₃)
      have G3' : Fm W h₀ Z' (R ++ [(it, ι (i + 1)), (D, lsO ys), (C, nsO (upd m' x v))]) h₃ := by simpa using G3
      refine wpAny_mono (turn _ D C i Z' ys _ m' h₃ _ v hlt hJ hys hZ G3' hv) (fun ok s₃ h₃ => ?_) fun _ _ z => z
      cases ok with
      | false =>
        obtain ⟨Z'', h₄, t₄, rfl, G4, hZ4, hJ4⟩ := h₃
        exact ⟨n + 1 - (i + 1), by omega, i + 1, Z'', ys, _, h₄, t₄, rfl, hlt, rfl, hJ4, by omega, hZ4, G4⟩
      | true =>
        refine wpAny_mono h₃ (fun y s₄ h₄ => ?_) fun _ _ z => z
        obtain ⟨Z'', h₄, t₄, rfl, G4, hZ4, hJ4⟩ := h₄
        have G4' : Fm W h₀ Z'' ((R ++ [(it, ι (i + 1))]) ++ (D, lsO ys) :: [(C, nsO (upd m' x v))]) h₄ := by simpa using G4
        refine wpAny_list_append (at_ls.mp (G4'.atR (φ := lsO ys) (by simp))) (fun h₅ hl₅ hs₅ => ?_) (le_line (by simp; omega))
        have G5 := G4'.turnM (φ' := lsO (ys ++ [y])) hs₅.extBut nrm_ls (at_ls.mpr (by simpa using hl₅))
        exact ⟨n + 1 - (i + 1), by omega, i + 1, Z'', ys ++ [y], _, h₅, t₄, rfl, hlt, rfl, hJ4, by simp; omega, hZ4, by simpa using G5⟩
    · have : i = n := by omega
      subst this
      refine I.stop hlv hat fun h₂ hx2 => ?_
      have G2 : Fm W h₀ Z' (R ++ [(D, lsO ys), (C, nsO m')]) h₂ := by
        have hm : (it, ι i) ∈ R ++ [(it, ι i), (D, lsO ys), (C, nsO m')] := by simp
        refine Fm.out (a := it) (φ := ι i) (h := h') ?_ hx2
        refine ⟨G.base, G.kp, G.base₀, G.z, fun e he => G.r e ?_, fun e he => G.rf e ?_, ?_, fun e he e' he' => G.zr e he e' ?_⟩
        · revert he; simp only [List.mem_append, List.mem_cons]; intro he; rcases he with (q | q | q | q) | q | q <;> simp_all
        · revert he; simp only [List.mem_append, List.mem_cons]; intro he; rcases he with (q | q | q | q) | q | q <;> simp_all
        · have := G.rn
          refine (List.Perm.nodup_iff ?_).mp this
          simp only [List.map_append, List.map_cons, List.map_nil, List.append_assoc]
          refine List.Perm.append_left _ ?_
          exact (List.perm_append_comm (l₁ := [it]) (l₂ := [D, C]))
        · revert he'; simp only [List.mem_append, List.mem_cons]; intro he'; rcases he' with (q | q | q | q) | q | q <;> simp_all
      exact done D C Z' ys m' h₂ t' hJ hZ G2
  exact codeAny_compStart_list (loop _ rfl) (hself (F2.atR (by simp)) (loop _ rfl))
def CompOn (W : Wd) (A : Around) (E : Value → Shared → Prop) (env : Env) (elt iter : Expr) (x : Str) (px : Pos) (ifs : List Expr) (scope : Scope) (pos : Pos) (cl : List (Str × Addr)) (RR : Value → Addr → Result → Shared → Prop) (it : Value) (s : Shared) : Prop :=
  wpAny (MM W.w) A (newList []) (fun acc s₃ => wpAny (MM W.w) A (newFunctionEnv scope env.globals cl [] env.qual none .none (some env)) (fun cenv s₄ =>
      codeAny (MM W.w) A (.compStart (.ListComp elt [⟨.Name x px, iter, ifs, 0⟩] scope pos) 0 it acc { cenv with scope := relabel scope env }) (RR acc cenv.locals) s₄) E s₃) E s
theorem v_lcomp {s : Shared} {elt iter : Expr} {px : Pos} {ifs : List Expr} {scope : Scope} {cl : List (Str × Addr)}
    (h : wpAny (MM W.w) A (eval iter env) (fun xv s₁ => wpAny (MM W.w) A (pyIter xv) (fun it s₂ => CompOn W A E env elt iter x px ifs scope pos cl (fun acc C => compPost (MM W.w) A E none Q acc C) it s₂) E s₁) E s)
    (hclos : closureFor scope env = pure cl) (hkind : scope.kind = .function)
    (hnames : ∀ y ∈ scope.names, y.2 = .local → scope.names.lookup y.1 = some .local) (hs : ∀ x, foldedSetIterable iter env x = pure x := by intro _; rfl) :
    wpAny (MM W.w) A (eval (.ListComp elt [⟨.Name x px, iter, ifs, 0⟩] scope pos) env) Q E s := by
  rw [eval_ListComp]
  exact wpAny_comprehension_free (use := none) rfl hs hclos hkind hnames h
theorem v_lcompU {s : Shared} {elt iter : Expr} {y : Str} {px py : Pos} {ifs : List Expr} {scope : Scope} {cl : List (Str × Addr)} {spos : Pos} {Q : Flow → Shared → Prop}
    (h : wpAny (MM W.w) A (eval iter env) (fun xv s₁ => wpAny (MM W.w) A (pyIter xv) (fun it s₂ => CompOn W A E env elt iter x px ifs scope pos cl (fun acc C => compPost (MM W.w) A E (some (assign (.Name y py) env)) (fun _ s' => Q .next s') acc C) it s₂) E s₁) E s)
    (hsw : swapsWith (.ListComp elt [⟨.Name x px, iter, ifs, 0⟩] scope pos) (some (.Name y py)) spos.line env = pure true)
    (hclos : closureFor scope env = pure cl) (hkind : scope.kind = .function)
    (hnames : ∀ y ∈ scope.names, y.2 = .local → scope.names.lookup y.1 = some .local) (hs : ∀ x, foldedSetIterable iter env x = pure x := by intro _; rfl) :
    wpAny (MM W.w) A (exec (.Assign [.Name y py] (.ListComp elt [⟨.Name x px, iter, ifs, 0⟩] scope pos) spos) env) Q E s := by
  rw [exec_Assign_Name_used _ _ _ _ hsw]
  refine wpAny_bind (wpAny_standAt (wpAny_bind ?_))
  show wpAny _ A (do let _ ← comprehension (.ListComp elt [⟨.Name x px, iter, ifs, 0⟩] scope pos) scope env _ (newList []) false (eval iter env) (some (assign (.Name y py) env))) _ _ s
  exact wpAny_bind (wpAny_mono (wpAny_comprehension_free (use := some (assign (.Name y py) env)) (Q := fun _ s' => Q .next s') rfl hs hclos hkind hnames h) (fun _ s' hq => wpAny_pure (wpAny_pure hq)) fun _ _ e => e)
/-- the turns of a comprehension -/
def TurnsC (W : Wd) (A : Around) (env : Env) (elt : Expr) (x : Str) (ifs : List Expr) (scope : Scope) (cl : List (Str × Addr)) (h₀ : Heap) (Z R : List Ent) (it : Addr) (n : Nat) (item : Nat → Value → Prop) (J : Nat → List Ent → List Value → Prop) (gs : Array GenState) (d : Drawn) (os : OsState) : Prop :=
  ∀ E' D C k Z' ys ι' m h' t' v, k < n → J k Z' ys → ys.length ≤ k → (∀ e ∈ Z, e ∈ Z') → Fm W h₀ Z' (R ++ [(it, ι'), (D, lsO ys), (C, nsO (upd m x v))]) h' → item k v →
      wpAny (MM W.w) A (testsOf ifs (compEnvC scope cl C env)) (fun ok s₃ => if ok = true then
          wpAny (MM W.w) A (eval elt (compEnvC scope cl C env)) (fun y s₄ => ∃ Z'' h₄ t₄, s₄ = ⟨h₄, gs, d, t₄, os⟩ ∧ Fm W h₀ Z'' (R ++ [(it, ι'), (D, lsO ys), (C, nsO (upd m x v))]) h₄ ∧ (∀ e ∈ Z, e ∈ Z'') ∧ J (k + 1) Z'' (ys ++ [y])) E' s₃
        else ∃ Z'' h₄ t₄, s₃ = ⟨h₄, gs, d, t₄, os⟩ ∧ Fm W h₀ Z'' (R ++ [(it, ι'), (D, lsO ys), (C, nsO (upd m x v))]) h₄ ∧ (∀ e ∈ Z, e ∈ Z'') ∧ J (k + 1) Z'' ys) E' ⟨h', gs, d, t', os⟩
theorem comp_none {elt iter : Expr} {px : Pos} {ifs : List Expr} {scope : Scope} {cl : List (Str × Addr)}
    {it : Addr} {n : Nat} {item : Nat → Value → Prop} {ι : Nat → Obj → Prop} {live : Heap → Prop} (I : Iter W A it n item ι live) (F : Fm W h₀ Z (R ++ [(it, ι 0)]) h)
    (J : Nat → List Ent → List Value → Prop) (hlive : ∀ Z' h' R', (∀ e ∈ Z, e ∈ Z') → Fm W h₀ Z' (R ++ R') h' → live h') (hn : n ≤ 1000000) (J0 : J 0 Z [])
    (hself : ∀ {E : Value → Shared → Prop} {Q : Value → Shared → Prop} {s : Shared}, At s.heap it (ι 0) → Q (.ref it) s → wpAny (MM W.w) A (pyIter (.ref it)) Q E s)
    (hcell : ∀ y ∈ scope.names, y.2 ≠ .cell) (hkind : scope.kind = .function) (hx : scope.names.lookup x = some .local)
    (turn : TurnsC W A env elt x ifs scope cl h₀ Z R it n item J gs d os)
    (done : ∀ D Z' ys h' t', h₀.get? D = none → J n Z' ys → (∀ e ∈ Z, e ∈ Z') → Fm W h₀ ((D, lsO ys) :: Z') R h' → Q (.ref D) ⟨h', gs, d, t', os⟩) :
    CompOn W A E env elt iter x px ifs scope pos cl (fun acc C => compPost (MM W.w) A E none Q acc C) (.ref it) ⟨h, gs, d, t, os⟩ := by
  refine comp_core I F J hlive hn J0 hself hcell hkind hx turn fun D C Z' ys m h' t' hJ hZ G => ?_
  have G1 : Fm W h₀ Z' ((R ++ [(D, lsO ys)]) ++ [(C, nsO m)]) h' := by simpa using G
  refine ⟨m, at_ns.mp (G1.atR (by simp)), fun h'' hs => done D Z' ys h'' t' (G1.rf (D, lsO ys) (by simp)) hJ hZ ?_⟩
  simpa using (G1.out hs.extBut).frz
theorem comp_use {elt iter : Expr} {px py : Pos} {ifs : List Expr} {scope : Scope} {cl : List (Str × Addr)} {y : Str} {Q : Shared → Prop}
    {it : Addr} {n : Nat} {item : Nat → Value → Prop} {ι : Nat → Obj → Prop} {live : Heap → Prop} (I : Iter W A it n item ι live) (F : Fm W h₀ Z (R ++ [(it, ι 0)]) h)
    (J : Nat → List Ent → List Value → Prop) (hlive : ∀ Z' h' R', (∀ e ∈ Z, e ∈ Z') → Fm W h₀ Z' (R ++ R') h' → live h') (hn : n ≤ 1000000) (J0 : J 0 Z [])
    (hself : ∀ {E : Value → Shared → Prop} {Q : Value → Shared → Prop} {s : Shared}, At s.heap it (ι 0) → Q (.ref it) s → wpAny (MM W.w) A (pyIter (.ref it)) Q E s)
    (hcell : ∀ y ∈ scope.names, y.2 ≠ .cell) (hkind : scope.kind = .function) (hx : scope.names.lookup x = some .local)
    (hi : R[i]? = some (env.locals, nsO m)) (hek : env.scope.kind = .function) (hy : env.kindOf y = some .local)
    (turn : TurnsC W A env elt x ifs scope cl h₀ Z R it n item J gs d os)
    (done : ∀ D Z' ys h' t', h₀.get? D = none → J n Z' ys → (∀ e ∈ Z, e ∈ Z') → Fm W h₀ ((D, lsO ys) :: Z') (R.set i (env.locals, nsO (upd m y (.ref D)))) h' → Q ⟨h', gs, d, t', os⟩) :
    CompOn W A E env elt iter x px ifs scope pos cl (fun acc C => compPost (MM W.w) A E (some (assign (.Name y py) env)) (fun _ s' => Q s') acc C) (.ref it) ⟨h, gs, d, t, os⟩ := by
  refine comp_core I F J hlive hn J0 hself hcell hkind hx turn fun D C Z' ys m' h' t' hJ hZ G => ?_
  have lt : i < R.length := (List.getElem?_eq_some_iff.mp hi).1
  show wpAny _ A (assign (.Name y py) env (.ref D)) _ _ _
  refine wpAny_assign_Name (v_store (i := i) (m := m) G (by rw [List.getElem?_append_left lt]; exact hi) hek hy fun h₂ G2 => ?_)
  rw [List.set_append_left _ _ lt] at G2
  have G3 : Fm W h₀ Z' ((R.set i (env.locals, nsO (upd m y (.ref D))) ++ [(D, lsO ys)]) ++ [(C, nsO m')]) h₂ := by simpa using G2
  refine ⟨m', at_ns.mp (G3.atR (by simp)), fun h'' hs => done D Z' ys h'' _ (G3.rf (D, lsO ys) (by simp)) hJ hZ ?_⟩
  simpa using (G3.out hs.extBut).frz
end
section
variable {W : Wd} {A : Around} {E : Value → Shared → Prop} {h₀ h : Heap} {gs : Array GenState} {d : Drawn} {t : Nat} {os : OsState} {Z R : List Ent} {env : Env}
  {m : Str → Option Value} {Q : Value → Shared → Prop} {x : Str} {v : Value} {pos : Pos} {i : Nat}
/-- a call came back with one thing that it made -/
theorem Fm.ret1 {h' : Heap} {Z' R' : List Ent} {D : Addr} {φ : Obj → Prop} (F : Fm W h₀ Z R h) (G : Fm W h Z' R' h') (hm : (D, φ) ∈ Z') (hD : h.get? D = none) : Fm W h₀ ((D, φ) :: Z) R h' :=
  F.call (Z' := [(D, φ)]) G.kp G.base (fun e he => by rw [List.mem_singleton.mp he]; exact G.z _ hm) (fun e he => by rw [List.mem_singleton.mp he]; exact hD)
theorem Fm.ret {h' : Heap} {Z' R' : List Ent} (Y : List Ent) (F : Fm W h₀ Z R h) (G : Fm W h Z' R' h') (hY : ∀ e ∈ Y, e ∈ Z' ∧ h.get? e.1 = none) : Fm W h₀ (Y ++ Z) R h' :=
  F.call (Z' := Y) G.kp G.base (fun e he => G.z _ (hY e he).1) (fun e he => (hY e he).2)
theorem Fm.retT {h' : Heap} {Z' R' : List Ent} (Y : List Ent) (F : Fm W h₀ Z R h) (G : Fm W h Z' R' h') (hY : ∀ e ∈ Y, e ∈ Z' ∧ (h.get? e.1 = none ∨ e.1 ∈ tabA)) : Fm W h₀ (Y ++ Z) R h' :=
  F.callT (Z' := Y) G.kp G.base (fun e he => G.z _ (hY e he).1) (fun e he => (hY e he).2)
theorem Fm.ret0 {h' : Heap} {Z' R' : List Ent} (F : Fm W h₀ Z R h) (G : Fm W h Z' R' h') : Fm W h₀ Z R h' := F.call0 G.kp G.base
theorem Fm.newZ {φ : Obj → Prop} (F : Fm W h₀ Z R h) (o : Obj) (hf : o.isFreed = false) (hn : ∀ o, φ o → nrm o) (hφ : φ o) : h₀.get? h.objs.size = none ∧ Fm W h₀ ((h.objs.size, φ) :: Z) R (h.push o) := by
  have G := F.new o hf hn hφ
  exact ⟨G.rf (h.objs.size, φ) (by simp), by simpa using G.frz⟩
theorem v_mod {a b : Int} {ta tb : Tok} (hb : 0 < b) (q : Q (.int (a % b) t) ⟨h, gs, d, t + 1, os⟩) : wpAny (MM W.w) A (binaryOp .Mod (.int a ta) (.int b tb)) Q E ⟨h, gs, d, t, os⟩ :=
  PyProof.Rows.mod_int (by omega) (by rw [Int.fmod_eq_emod_of_nonneg _ (by omega)]; exact q)
theorem v_fdiv {a b : Int} {ta tb : Tok} (hb : 0 < b) (hp : Builtin.divisionGoesByPylong a b = false) (q : Q (.int (a / b) t) ⟨h, gs, d, t + 1, os⟩) : wpAny (MM W.w) A (binaryOp .FloorDiv (.int a ta) (.int b tb)) Q E ⟨h, gs, d, t, os⟩ :=
  PyProof.Rows.floordiv_int (by omega) (by rw [Int.fdiv_eq_ediv_of_nonneg _ (by omega)]; exact q) (.inl hp)
theorem v_for {target : Expr} {body : List Stmt} {it : Addr} {n : Nat} {item : Nat → Value → Prop} {ι : Nat → Obj → Prop} {live : Heap → Prop} {Q : Flow → Shared → Prop} (I : Iter W A it n item ι live) (F : Fm W h₀ Z (R ++ [(it, ι 0)]) h)
    (J : Nat → List Ent → List Ent → Array GenState → Prop) (hlive : ∀ k Z' R' gs' h' R'', J k Z' R' gs' → Fm W h₀ Z' (R' ++ R'') h' → live h') (J0 : J 0 Z R gs)
    (turn : ∀ E' k Z' R' gs' ι' h' t' v, k < n → J k Z' R' gs' → Fm W h₀ Z' (R' ++ [(it, ι')]) h' → item k v → wpAny (MM W.w) A (assign target env v) (fun _ s₂ => wpAny (MM W.w) A (execs body env) (fun f s₃ =>
      f = .next ∧ ∃ Z'' R'' gs'' h'' t'', s₃ = ⟨h'', gs'', d, t'', os⟩ ∧ J (k + 1) Z'' R'' gs'' ∧ Fm W h₀ Z'' (R'' ++ [(it, ι')]) h'') E' s₂) E' ⟨h', gs', d, t', os⟩)
    (done : ∀ Z' R' gs' h' t', J n Z' R' gs' → Fm W h₀ Z' R' h' → Q .next ⟨h', gs', d, t', os⟩) (ht : ∀ v, letOwnedTupleGo target (.ref it) v = pure () := by intro _; rfl) :
    codeAny (MM W.w) A (.forLoop target (.ref it) body [] env) (fun r s' => match r with | .ok f => Q f s' | .error e => cameBackBy (MM W.w) A env E e s') ⟨h, gs, d, t, os⟩ := by
  refine codeAny_forLoop (fun k s' => ∃ i Z' R' gs' h' t', k = n + 1 - i ∧ i ≤ n ∧ s' = ⟨h', gs', d, t', os⟩ ∧ J i Z' R' gs' ∧ Fm W h₀ Z' (R' ++ [(it, ι i)]) h') ?_ (n + 1) ⟨0, Z, R, gs, h, t, rfl, Nat.zero_le _, rfl, J0, F⟩ ht
  rintro k s' ⟨i, Z', R', gs', h', t', rfl, hi, rfl, hJ, G⟩
  have hlv := hlive i Z' R' gs' h' _ hJ G
  have hat : At h' it (ι i) := G.atR (by simp)
  by_cases hlt : i < n
  · refine I.next i hlt hlv hat fun v h₂ t₂ hv hx2 hat2 => ?_
    have G2 := G.turnM hx2 (I.nr _) hat2
    refine wpAny_mono (turn _ i Z' R' gs' _ h₂ t₂ v hlt hJ G2 hv) (fun _ s₂ h₂ => wpAny_mono h₂ (fun f s₃ h₃ => ?_) fun _ _ z => z) fun _ _ z => z
    obtain ⟨rfl, Z'', R'', gs'', h'', t'', rfl, hJ'', G''⟩ := h₃
    exact ⟨n + 1 - (i + 1), by omega, i + 1, Z'', R'', gs'', h'', t'', rfl, hlt, rfl, hJ'', G''⟩
  · have : i = n := by omega
    subst this
    exact I.stop hlv hat fun h₂ hx2 => wpAny_execs_nil (done Z' R' gs' h₂ t' hJ (G.out hx2))
theorem v_while {test : Expr} {body : List Stmt} {Q : Flow → Shared → Prop} (F : Fm W h₀ Z R h) (J : Nat → List Ent → List Ent → Prop) (n : Nat) (J0 : J n Z R)
    (turn : ∀ E' n Z' R' h' t', J n Z' R' → Fm W h₀ Z' R' h' → wpAny (MM W.w) A (isTrue test env (eval test env)) (fun b s₂ => if b = true then wpAny (MM W.w) A (execs body env) (fun f s₃ => match f with
      | .next | .cont => ∃ m, m < n ∧ ∃ Z'' R'' h'' t'', s₃ = ⟨h'', gs, d, t'', os⟩ ∧ J m Z'' R'' ∧ Fm W h₀ Z'' R'' h''
      | .brk => Q .next s₃
      | .ret v => Q (.ret v) s₃) E' s₂ else Q .next s₂) E' ⟨h', gs, d, t', os⟩) :
    codeAny (MM W.w) A (.whileLoop test body [] env) (fun r s' => match r with | .ok f => Q f s' | .error e => cameBackBy (MM W.w) A env E e s') ⟨h, gs, d, t, os⟩ := by
  refine codeAny_whileLoop (fun k s' => ∃ Z' R' h' t', s' = ⟨h', gs, d, t', os⟩ ∧ J k Z' R' ∧ Fm W h₀ Z' R' h') ?_ n ⟨Z, R, h, t, rfl, J0, F⟩
  rintro k s' ⟨Z', R', h', t', rfl, hJ, G⟩
  refine wpAny_mono (turn _ k Z' R' h' t' hJ G) (fun b s₂ h₂ => ?_) fun _ _ z => z
  cases b with
  | false => exact wpAny_execs_nil h₂
  | true => exact wpAny_mono h₂ (fun f s₃ h₃ => h₃) fun _ _ z => z
theorem v_setL {l : Addr} {items : List Value} {k : Int} {tk : Tok} {v : Value} {Q : Unit → Shared → Prop} (F : Fm W h₀ Z R h) (hi : R[i]? = some (l, lsO items)) (h0 : 0 ≤ k) (hfit : k < 2 ^ 63) (hn : k < items.length)
    (q : ∀ h', Fm W h₀ Z (R.set i (l, lsO (items.set k.toNat v))) h' → Q () ⟨h', gs, d, t, os⟩) : wpAny (MM W.w) A (setItem (.ref l) (.int k tk) v) Q E ⟨h, gs, d, t, os⟩ :=
  wpAny_setItem_list (at_ls.mp (F.at hi)) h0 hfit (by simpa using hn) fun h' hl hs => q h' (F.turn hi hs.extBut nrm_ls (at_ls.mpr (by simpa using hl)))
theorem v_app {l : Addr} {items : List Value} {v : Value} (F : Fm W h₀ Z R h) (hi : R[i]? = some (l, lsO items)) (hn : items.length ≤ 1000000)
    (q : ∀ h', Fm W h₀ Z (R.set i (l, lsO (items ++ [v]))) h' → Q .none ⟨h', gs, d, t, os⟩) : wpAny (MM W.w) A (call (.builtin "list.append") [.ref l, v]) Q E ⟨h, gs, d, t, os⟩ :=
  wpAny_list_append (at_ls.mp (F.at hi)) (fun h' hl hs => q h' (F.turn hi hs.extBut nrm_ls (at_ls.mpr (by simpa using hl)))) (le_line (by simpa using hn))
theorem v_newL {vs : List Value} (F : Fm W h₀ Z R h) (hsz : vs.length ≤ 1000000) (q : ∀ D h', h₀.get? D = none → Fm W h₀ ((D, lsO vs) :: Z) R h' → Q (.ref D) ⟨h', gs, d, t, os⟩) : wpAny (MM W.w) A (newList vs) Q E ⟨h, gs, d, t, os⟩ :=
  wpAny_newList (let ⟨a, b⟩ := F.newZ (φ := lsO vs) _ rfl nrm_ls ⟨rfl, _, rfl⟩; q _ _ a b) (le_line hsz)
theorem v_newT {vs : List Value} (F : Fm W h₀ Z R h) (hsz : vs.length ≤ 1000000) (q : ∀ D h', h₀.get? D = none → Fm W h₀ ((D, tuO vs) :: Z) R h' → Q (.ref D) ⟨h', gs, d, t, os⟩) : wpAny (MM W.w) A (newTuple vs) Q E ⟨h, gs, d, t, os⟩ :=
  wpAny_newTuple (let ⟨a, b⟩ := F.newZ (φ := tuO vs) _ rfl nrm_tu ⟨rfl, _, rfl⟩; q _ _ a b) (le_line hsz)
theorem v_newLM {vs : List Value} (F : Fm W h₀ Z R h) (hsz : vs.length ≤ 1000000) (q : ∀ D h', Fm W h₀ Z (R ++ [(D, lsO vs)]) h' → Q (.ref D) ⟨h', gs, d, t, os⟩) : wpAny (MM W.w) A (newList vs) Q E ⟨h, gs, d, t, os⟩ :=
  wpAny_newList (q _ _ (F.new (φ := lsO vs) _ rfl nrm_ls ⟨rfl, _, rfl⟩)) (le_line hsz)
theorem v_item {value slice : Expr} {a : Addr} {l : List Value} {k : Int} {u : Tok} (hl : h.IsList a l.toArray) (h0 : 0 ≤ k) (hlt : k < l.length) (hfit : k < 2 ^ 63) (q : ∀ x, l[k.toNat]? = some x → Q x ⟨h, gs, d, t, os⟩)
    (hs : subscripted slice false (.ref a) (.int k u) = operate [.ref a, .int k u] (getItem (.ref a) (.int k u)) := by with_unfolding_all rfl) :
    wpAny (MM W.w) A (subscriptTail value slice (.ref a) (.int k u)) Q E ⟨h, gs, d, t, os⟩ := by
  obtain ⟨x, hx⟩ : ∃ x, l[k.toNat]? = some x := ⟨_, List.getElem?_eq_getElem (by omega)⟩
  exact tail_any hl.typeIs slot_list_getitem.lookup (wpAny_getItem_list hl h0 hfit (by simpa using hx) (q x hx)) hs
theorem v_slL {value slice : Expr} {l : Addr} {items : List Value} {vl vu : Value} {lo hi : Option Int} (F : Fm W h₀ Z R h) (hl : h.IsList l items.toArray) (pl : IsPart vl lo) (pu : IsPart vu hi) (hsz : items.length ≤ 1000000)
    (q : ∀ D h', h₀.get? D = none → Fm W h₀ ((D, lsO (slicePick items.toArray lo hi none).toList) :: Z) R h' → Q (.ref D) ⟨h', gs, d, t, os⟩)
    (hs : subscripted slice false (.ref l) (.ref h.objs.size) = operate [.ref h.objs.size, .ref l] (getItem (.ref l) (.ref h.objs.size)) := by with_unfolding_all rfl) :
    wpAny (MM W.w) A (subscriptTail value slice (.ref l) (.ref h.objs.size)) Q E ⟨h.push { cls := .type "slice", data := .fields #[vl, vu, .none] }, gs, d, t, os⟩ := by
  refine tail_any (Heap.IsList.typeIs (s := ⟨h.push { cls := .type "slice", data := .fields #[vl, vu, .none] }, gs, d, t, os⟩) (hl.push _)) list_getitem_lookup
    (wpAny_getItem_list_slice (hl.push _) (Heap.IsSliceOf.new ..) pl pu .none (by simp) ?_ (by rw [List.size_toArray]; exact le_line hsz)) hs
  have ⟨a, b⟩ := (F.push { cls := .type "slice", data := .fields #[vl, vu, .none] }).newZ (φ := lsO (slicePick items.toArray lo hi none).toList) { cls := .type "list", data := .seq (slicePick items.toArray lo hi none) } rfl nrm_ls ⟨rfl, _, by simp; rfl⟩
  exact q _ _ a b
end
theorem v_mjoin {W : Wd} {A : Around} {E Q : Value → Shared → Prop} {x : Str} {u : Tok} {pos : Pos} {e : Sem Value} {s : Shared}
    (q : wpAny (MM W.w) A e (fun v s₁ => wpAny (MM W.w) A (call (.builtin "str.join") [.str x u, v]) Q E s₁) E s) : MethodOnS pg W.w A E "join" (.str x u) pos [(false, e)] Q s :=
  ⟨"str", "str.join", PySem.F.plainAttrs_str, PySem.F.slot_str_join, PySem.F.type_str_join, typeIs_str _ _ _, (fun _ e => nomatch e),
    Calls.callWith_builtin rfl (Calls.evalArgs_plain (Calls.spliced_cons (wpAny_mono q (fun _ _ h₁ => Calls.spliced_nil h₁) fun _ _ e => e)))⟩
theorem self_range {W : Wd} {A : Around} {it : Addr} {x left : Int} {E Q : Value → Shared → Prop} {s : Shared} (y : At s.heap it (rgO x left)) (q : Q (.ref it) s) : wpAny (MM W.w) A (pyIter (.ref it)) Q E s := by
  obtain ⟨o, e, rfl⟩ := y
  exact wpAny_pyIter_rangeiter e q
theorem self_str {W : Wd} {A : Around} {it : Addr} {x : Str} {u : Tok} {k : Nat} {E Q : Value → Shared → Prop} {s : Shared} (y : At s.heap it (siO (sTy x) x u k)) (q : Q (.ref it) s) : wpAny (MM W.w) A (pyIter (.ref it)) Q E s := by
  unfold sTy at y
  split at y
  · exact wpAny_pyIter_striter_ascii y q
  · exact wpAny_pyIter_striter_wide y q
theorem len1 {c : Nat} : (⟨#[c]⟩ : Str).length = 1 := rfl
theorem lenA {x y : Str} : (x ++ y).length = x.length + y.length := by show (x.cps ++ y.cps).size = _; simp [Str.length]
theorem ll_lb : (Str.ofString "[").length = 1 := rfl
theorem ll_rb : (Str.ofString "]").length = 1 := rfl
theorem ll_st : (Str.ofString "*").length = 1 := rfl
theorem ll_em : (Str.ofString "").length = 0 := rfl
theorem ll_er : (Str.ofString "internal parser error, got ").length = 27 := rfl
theorem ll_ds : (Str.ofString ".*").length = 2 := rfl
theorem ll_ca : (Str.ofString "^").length = 1 := rfl
theorem ll_bs : (Str.ofString "\\").length = 1 := rfl
theorem ll_at : (Str.ofString "(?>.*?").length = 6 := rfl
theorem ll_cl : (Str.ofString ")").length = 1 := rfl
theorem ll_s : (Str.ofString "(?s:").length = 4 := rfl
theorem ll_z : (Str.ofString ")\\Z").length = 3 := rfl
theorem self_list {W : Wd} {A : Around} {it l : Addr} {k : Nat} {E Q : Value → Shared → Prop} {s : Shared} (x : At s.heap it (liO l k)) (q : Q (.ref it) s) : wpAny (MM W.w) A (pyIter (.ref it)) Q E s := wpAny_pyIter_listiter x q
end Mine
namespace Mine
open PySem PySem.W PySem.Calls PyProof.Rows PySem.Builtin PySem.Builtin.Str
theorem codeAmong_app {pos : Pos} : ∀ {l : List Value} (more : List Value) {cv : Value}, codeAmong pos l = some cv → codeAmong pos (l ++ more) = some cv := by
  intro l more cv
  fun_induction codeAmong pos l with
  | case1 line t col u c rest h => intro e; simp only [List.cons_append]; unfold codeAmong; rw [if_pos h]; exact e
  | case2 line t col u c rest h ih => intro e; simp only [List.cons_append]; unfold codeAmong; rw [if_neg h]; exact ih e
  | case3 => intro e; cases e
theorem codeAmong_cases {pos : Pos} {a b : Int} {t u : Tok} {c : Value} : ∀ {l : List Value}, TriplesOk l → ∀ {cv : Value}, codeAmong pos (l ++ [.int a t, .int b u, c]) = some cv → codeAmong pos l = some cv ∨ cv = c := by
  intro l ht
  fun_induction TriplesOk l with
  | case1 =>
    intro cv e
    simp only [List.nil_append] at e
    unfold codeAmong at e
    split at e
    · exact .inr (Option.some.inj e).symm
    · cases e
  | case2 _ _ _ _ x rest ih =>
    intro cv e
    simp only [List.cons_append] at e
    unfold codeAmong at e ⊢
    split at e
    · rename_i h; rw [if_pos h]; exact .inl e
    · rename_i h; rw [if_neg h]; exact ih ht e
  | case3 => exact ht.elim
theorem stb_inT {cv : Value} : stb (inT cv) := fun vs more ⟨vs', pos, e, q⟩ => by
  have : vs = vs' := by have q := congrArg Obj.data e; injection q
  subst this
  exact ⟨_, pos, rfl, by rw [Array.toList_append]; exact codeAmong_app _ q⟩
/-- one code table grows by one code -/
structure Grow (h h' : Heap) (P : Addr) (ps : Array Value) (pos : Pos) (cv : Value) : Prop where
  ext : Heap.ExtBut P h h'
  old : h.get? P = some (tabObj ps)
  new : h'.get? P = some (tabObj (ps ++ #[rawInt pos.line, rawInt pos.col, cv]))
  ok : TriplesOk (ps ++ #[rawInt pos.line, rawInt pos.col, cv]).toList
  ok₀ : TriplesOk ps.toList
section
variable {h h' : Heap} {P : Addr} {ps : Array Value} {pos : Pos} {cv : Value}
theorem Grow.kp (G : Grow h h' P ps pos cv) : Kp h h' := fun b o e => by
  by_cases q : b = P
  · subst q; rw [G.old] at e; cases e
    exact .inr ⟨ps, _, rfl, G.new⟩
  · exact .inl (G.ext b o q e)
theorem Grow.notTab (G : Grow h h' P ps pos cv) {b : Addr} {o : Obj} (e : h.get? b = some o) (hc : o.cls ≠ .none) : h'.get? b = some o := G.ext b o (fun q => by subst q; rw [G.old] at e; cases e; exact hc rfl) e
theorem Grow.code0 (G : Grow h h' P ps pos cv) {v q} (x : CodeQ0 h v q) : CodeQ0 h' v q := by obtain ⟨c, o, vs, t, a, b, d, e, r⟩ := x; exact ⟨c, o, vs, t, a, G.notTab b (by rw [d]; exact fun z => (nomatch z)), d, e, r⟩
theorem Grow.hd (G : Grow h h' P ps pos cv) {c P'} (x : CodeHd h c P') : CodeHd h' c P' := by obtain ⟨o, vs, file, tf, flags, tg, inF, text, tt, a, b, e, r⟩ := x; exact ⟨o, vs, file, tf, flags, tg, inF, text, tt, G.notTab a (by rw [b]; exact fun z => (nomatch z)), b, e, r⟩
theorem Grow.tab0 (G : Grow h h' P ps pos cv) {P' q} (x : TabQ0 h P' q) (hq : P' = P → CodeQ0 h' cv q) : TabQ0 h' P' q := by
  obtain ⟨vs, a, b, d⟩ := x
  by_cases e : P' = P
  · subst e
    rw [G.old] at a
    have : ps = vs := by have q := congrArg Obj.data (Option.some.inj a); injection q
    subst this
    refine ⟨_, G.new, G.ok, fun p v hv => ?_⟩
    rw [Array.toList_append] at hv
    rcases codeAmong_cases G.ok₀ hv with q1 | rfl
    · exact G.code0 (d p v q1)
    · exact hq rfl
  · exact ⟨vs, G.ext _ _ e a, b, fun p v hv => G.code0 (d p v hv)⟩
theorem Grow.code1 (G : Grow h h' P ps pos cv) {p v q q'} (x : CodeQ1 p h v q q') (hq : P ∉ tabA → CodeQ0 h' cv q') : CodeQ1 p h' v q q' := by
  obtain ⟨a, c, P', b, d, n, e⟩ := x
  exact ⟨G.code0 a, c, P', b, G.hd d, n, G.tab0 e fun z => hq (z ▸ n.1)⟩
theorem Grow.tab1 (G : Grow h h' P ps pos cv) {p P' q q'} (x : TabQ1 p h P' q q') (hq : P' = P → CodeQ1 p h' cv q q') (hq' : P ∉ tabA → CodeQ0 h' cv q') : TabQ1 p h' P' q q' := by
  obtain ⟨vs, a, b, d⟩ := x
  by_cases e : P' = P
  · subst e
    rw [G.old] at a
    have : ps = vs := by have q := congrArg Obj.data (Option.some.inj a); injection q
    subst this
    refine ⟨_, G.new, G.ok, fun p v hv => ?_⟩
    rw [Array.toList_append] at hv
    rcases codeAmong_cases G.ok₀ hv with q1 | rfl
    · exact G.code1 (d p v q1) hq'
    · exact hq rfl
  · exact ⟨vs, G.ext _ _ e a, b, fun p v hv => G.code1 (d p v hv) hq'⟩
/-- which codes a table holds -/
structure Fits (p : Wd) (h : Heap) (P : Addr) (cv : Value) : Prop where
  a : P = 104 → CodeQ0 h cv "_law_node.<locals>.<lambda>"
  b : P = 78 → CodeQ0 h cv "_translate.<locals>.<lambda>"
  c : P = 40 → CodeQ0 h cv "_prepare_tag.<locals>.select"
  d : P = 47 → CodeQ1 p h cv qSel qSelC
  e : P ∉ tabA → CodeQ0 h cv qSelC
theorem Base.grow {W : Wd} (B : Base W h) (G : Grow h h' P ps pos cv) (hK : NK W P) (hq : Fits W h' P cv) : Base W h' := by
  have nsne : ∀ {a m}, h.Ns a m → a ≠ P := fun {a m} x q => by
    obtain ⟨o, es, ep, e, hd, _⟩ := x
    rw [q, G.old] at e; cases e; cases hd
  exact {
    K := fun b o e => G.ext b o (fun q => by rw [q, hK.1] at e; cases e) (B.K b o e)
    g := B.g.extBut G.ext (nsne B.g)
    b := B.b.extBut G.ext (nsne B.b)
    bb := B.bb
    nl := B.nl.extBut G.ext (by obtain ⟨_, a, _⟩ := B.nl; exact nsne a)
    bm := let ⟨ob, e, c, r⟩ := B.bm; ⟨ob, G.notTab e (by rw [c]; exact fun z => (nomatch z)), c, r⟩
    tb := ⟨G.tab0 B.tb.node fun e => hq.a e.symm, G.tab0 B.tb.tran fun e => hq.b e.symm, G.tab0 B.tb.tag fun e => hq.c e.symm, G.tab1 B.tb.child (fun e => hq.d e.symm) hq.e⟩
    od := fun b o e => by
      by_cases hb : b = P
      · subst hb
        have hA : b ∈ tabA := hK.2.resolve_right fun z => by rw [z] at e; cases e
        rcases B.od b o e with x | ⟨_, vs, more, r, x⟩
        · rw [G.old] at x; cases x
          exact .inr ⟨hA, ps, _, rfl, G.new⟩
        · rw [G.old] at x
          have q : ps = vs ++ more := by have q := congrArg Obj.data (Option.some.inj x); injection q
          refine .inr ⟨hA, vs, more ++ #[rawInt pos.line, rawInt pos.col, cv], r, ?_⟩
          rw [← Array.append_assoc, ← q]; exact G.new
      · rcases B.od b o e with x | ⟨q, vs, more, r, x⟩
        · exact .inl (G.ext b _ hb x)
        · exact .inr ⟨q, vs, more, r, G.ext b _ hb x⟩ }
end
def fnO (fd : FuncData) (o : Obj) : Prop := o = { cls := .type "function", data := .func fd }
theorem nrm_fn {fd : FuncData} : ∀ o, fnO fd o → nrm o := fun o e vs e' => by subst e; cases e'
def FitsNew (p : Wd) (P : Addr) (qual : Str) : Prop := ∀ h cv, (∀ q', CodeQ1 p h cv qual q') → Fits p h P cv
def docN : FuncBody → Option Str | .stmts b => docOf b | .expr _ => none
abbrev mkFd (name qual : Str) (params : Arguments) (fb : FuncBody) (scope : Scope) (cl : List (Str × Addr)) (pm cdv ct : Value) : FuncData :=
  { name, qualname := qual, params, body := fb, scope, globals := mainGlobals, closure := cl, defaults := .none, kwdefaults := .none, doc := .none, pyModule := pm, annotations := none, code := cdv, closureTuple := ct, builtins := builtinsNs }
def docV (fb : FuncBody) : Sem Value := match fb with
  | .stmts b => (match docOf b with | some s => mkText s | none => pure .none)
  | .expr _ => pure .none
def tail3 (name qual : Str) (params : Arguments) (fb : FuncBody) (scope : Scope) (env : Env) (clos : List (Str × Addr)) (ctv cv : Value) : Sem Value := do
  let b ← builtinsFor mainGlobals env.builtins
  let m ← nsGet mainGlobals "__name__"
  let dd ← docV fb
  newObj (.type "function") (.func { name, qualname := qual, params, body := fb, scope, globals := mainGlobals, closure := clos, closureTuple := ctv, code := cv, builtins := b, defaults := .none, kwdefaults := .none, annotations := none, pyModule := m.getD .none, doc := dd })
def tail2 (name qual : Str) (params : Arguments) (fb : FuncBody) (scope : Scope) (env : Env) (clos : List (Str × Addr)) (ctv : Value) (pos : Pos) (firstLine : Nat) : Sem Value := do
  let cv ← functionCode env pos firstLine name qual params scope fb
  tail3 name qual params fb scope env clos ctv cv
section
variable {W : Wd} {A : Around} {E : Value → Shared → Prop} {h₀ h : Heap} {gs : Array GenState} {d : Drawn} {t : Nat} {os : OsState} {Z R : List Ent} {env : Env}
  {name qual : Str} {params : Arguments} {fb : FuncBody} {scope : Scope} {clos : List (Str × Addr)} {c P : Addr} {pos : Pos} {firstLine : Nat}
theorem Base.mbm (B : Base W h) : W.mg "__builtins__" = some (.ref 4) := B.glob (by kernel_rfl)
theorem Fm.grow {h' : Heap} {ps : Array Value} {cv : Value} (F : Fm W h₀ Z R h) (G : Grow h h' P ps pos cv) (B : Base W h') : Fm W h₀ Z R h' := F.call0 G.kp B
theorem v_make {Q : Value → Shared → Prop} (F : Fm W h₀ Z R h) (hcl : closureFor scope env = pure clos) (hg0 : env.globals = mainGlobals) (hcode : env.code = .ref c) (C : CodeHd h c P) (T : TabQ0 h P qual) (hK : NK W P)
    (hfit : FitsNew W P qual) (hdoc : docN fb = none)
    (q : ∀ f cv ctv h' t', CodeQ0 h' cv qual → At h' P (inT cv) → Fm W h₀ Z (R ++ [(f, fnO (mkFd name qual params fb scope clos ((W.mg "__name__").getD .none) cv ctv))]) h' → Q (.ref f) ⟨h', gs, d, t', os⟩) :
    wpAny (MM W.w) A (makeFunction name qual params fb scope env [] [] [] pos firstLine) Q E ⟨h, gs, d, t, os⟩ := by
  rw [makeFunction_eq]
  simp only [List.zip_nil_right, List.filterMap_nil, List.isEmpty_nil, if_true, pure_bind]
  unfold makeTail
  rw [hcl, hg0]
  refine wpAny_bind (wpAny_pure ?_)
  have core : ∀ (ctv : Value) (h₁ : Heap) (t₁ : Nat), Fm W h₀ Z R h₁ → CodeHd h₁ c P → TabQ0 h₁ P qual → wpAny (MM W.w) A (tail2 name qual params fb scope env clos ctv pos firstLine) Q E ⟨h₁, gs, d, t₁, os⟩ := by
    intro ctv h₁ t₁ F₁ C₁ ⟨ps, hps, htr, hT⟩
    have fin : ∀ (cv : Value) (h₂ : Heap) (t₂ : Nat), Fm W h₀ Z R h₂ → CodeQ0 h₂ cv qual → At h₂ P (inT cv) → wpAny (MM W.w) A (tail3 name qual params fb scope env clos ctv cv) Q E ⟨h₂, gs, d, t₂, os⟩ := by
      intro cv h₂ t₂ F₂ hcv hin
      obtain ⟨ob, b1, b2, b3, b4⟩ := F₂.base.bm
      refine wpAny_bind (wpAny_builtinsFor F₂.base.g F₂.base.mbm (by decide) b1 b2 b3 b4 ?_)
      refine wpAny_bind (wpAny_nsGet F₂.base.g ?_)
      have last : wpAny (MM W.w) A (newObj (.type "function") (.func (mkFd name qual params fb scope clos ((W.mg "__name__").getD .none) cv ctv))) Q E ⟨h₂, gs, d, t₂, os⟩ := by
        refine wpAny_newObj_type ?_ (by size_fits)
        have b := F₂.new (φ := fnO (mkFd name qual params fb scope clos ((W.mg "__name__").getD .none) cv ctv)) { cls := .type "function", data := .func (mkFd name qual params fb scope clos ((W.mg "__name__").getD .none) cv ctv) } rfl nrm_fn rfl
        refine q _ cv ctv _ _ ?_ (hin.push _) b
        obtain ⟨c, o, vs, t, e, g, r⟩ := hcv
        exact ⟨c, o, vs, t, e, Heap.get?_push_of_some _ g, r⟩
      have hd : docV fb = pure .none := by
        cases fb with
        | expr e => rfl
        | stmts b =>
          have : docOf b = none := hdoc
          simp only [docV, this]
      rw [hd]
      exact wpAny_bind (wpAny_pure last)
    cases hf : codeAmong pos ps.toList with
    | some cv =>
      exact wpAny_bind (wpAny_functionCode_hit hcode (C₁.code hps htr) hf (fin cv h₁ t₁ F₁ (hT pos cv hf) ⟨_, hps, ps, pos, rfl, hf⟩))
    | none =>
      refine wpAny_bind (wpAny_functionCodeX hcode (C₁.code hps htr) (C₁.tab hps) hf fun c' h₂ t₂ hx hge hlt hisc hrec htb hnew => ?_)
      have htok : TriplesOk (ps ++ #[rawInt pos.line, rawInt pos.col, .ref c']).toList := by
        obtain ⟨_, _, _, _, _, _, _, _, _, _, _, _, _, _, _, _, _, _, _, ok, _⟩ := hisc
        exact ok
      have G : Grow h₁ h₂ P ps pos (.ref c') := ⟨hx, hps, htb.2, htok, htr⟩
      obtain ⟨P', hP', hic', htc'⟩ := hnew
      have hc0 : CodeQ0 h₂ (.ref c') qual := by
        obtain ⟨c2, o, vs, tq, e, g, dd, r⟩ := hrec
        cases e
        obtain ⟨⟨o', vs', g', cl', _⟩, _⟩ := htc'
        rw [g] at g'; cases g'
        exact ⟨c', o, vs, tq, rfl, g, cl', dd, r⟩
      have fresh : h₁.get? P' = none := get_none hP'
      have hc1 : ∀ q', CodeQ1 W h₂ (.ref c') qual q' := fun q' => by
        refine ⟨hc0, c', P', rfl, CodeHd.of hic' htc', ⟨fun z => ?_, ?_, .inr ?_⟩, #[], htc'.2, trivial, fun p v hv => by cases hv⟩
        · obtain ⟨o, eo⟩ := tab_there F₁.base z
          rw [fresh] at eo; cases eo
        · cases z : (KK W.w.params).lookup P' with
          | none => rfl
          | some o => have := F₁.base.K _ _ z; rw [fresh] at this; cases this
        · cases z : W.old.get? P' with
          | none => rfl
          | some o => obtain ⟨o', eo⟩ := F₁.base.od_there z; rw [fresh] at eo; cases eo
      have B₂ := F₁.base.grow G hK (hfit _ _ hc1)
      refine fin _ h₂ t₂ (F₁.grow G B₂) hc0 ⟨_, htb.2, _, pos, rfl, ?_⟩
      rw [Array.toList_append]
      exact codeAmong_snoc _ htr hf
  cases hcl' : clos with
  | nil =>
    subst hcl'
    simp only [List.isEmpty_nil, if_true]
    cases fb <;> exact wpAny_bind (wpAny_pure (core .none h t F C T))
  | cons a r =>
    rw [← hcl']
    have : clos.isEmpty = false := by rw [hcl']; rfl
    simp only [this, Bool.false_eq_true, if_false]
    refine wpAny_bind (wpAny_newTextTuple ?_)
    have key : wpAny (MM W.w) A (tail2 name qual params fb scope env clos (.ref h.objs.size) pos firstLine) Q E ⟨h.push { cls := .type "tuple", data := .seq ((clos.mergeSort fun a b => a.1.cps.toList ≤ b.1.cps.toList).map (.ref ·.2)).toArray }, gs, d, t, os⟩ := by
      refine core _ _ _ (F.push _) ?_ ?_
      · obtain ⟨o, vs, file, tf, flags, tg, inF, text, tt, a, r⟩ := C
        exact ⟨o, vs, file, tf, flags, tg, inF, text, tt, Heap.get?_push_of_some _ a, r⟩
      · obtain ⟨vs, a, b, d⟩ := T
        refine ⟨vs, Heap.get?_push_of_some _ a, b, fun p cv e => ?_⟩
        obtain ⟨c, o, vs, t, e, g, r⟩ := d p cv e
        exact ⟨c, o, vs, t, e, Heap.get?_push_of_some _ g, r⟩
    cases fb <;> exact key
end
end Mine
namespace Mine
open PySem PySem.W PySem.Calls PyProof.Rows PySem.Builtin PySem.Builtin.ObjectAttr
theorem sf_fn : StoreFacts "function" [.type "function", .type "object"] "object.__setattr__" "object" where
  mro := by kernel_rfl
  slot := .of (owner := "object") (n := "__setattr__") (by rw [typeLookup_type, builtinLookup_eq_fast]; kernel_rfl) (by decide +kernel) (by decide +kernel) (by decide +kernel)
    (by first | exact .inl (by decide +kernel) | exact .inr (by decide +kernel)) (by rw [isSubtype_type]; kernel_rfl)
  entry := PySem.F.entry_object_sa
  kind := by decide +kernel
  split := by decide +kernel
  hasOwner := by decide +kernel
  args := fun a b c => by unfold argsOk; kernel_rfl
  passes := fun self => by kernel_rfl
theorem lk_fn_ga : typeLookup (.type "function") "__getattribute__" = pure (some (.builtin "object.__getattribute__")) := by rw [typeLookup_type, builtinLookup_eq_fast]; kernel_rfl
theorem htd : typeHasDict (.type "function") = true := by
  show ((Manifest.find? "function").elim false fun x => x.hasDict) = true
  decide +kernel
theorem lk_fn_tag : typeLookup (.type "function") "tag" = pure none := by rw [typeLookup_type, builtinLookup_eq_fast]; kernel_rfl
theorem lk_fn_place : typeLookup (.type "function") "place" = pure none := by rw [typeLookup_type, builtinLookup_eq_fast]; kernel_rfl
theorem sl_fn_ga : Slot "function" "__getattribute__" "object.__getattribute__" := .of (owner := "object") (n := "__getattribute__") (by rw [typeLookup_type, builtinLookup_eq_fast]; kernel_rfl) (by decide +kernel) (by decide +kernel) (by decide +kernel)
    (by first | exact .inl (by decide +kernel) | exact .inr (by decide +kernel)) (by rw [isSubtype_type]; kernel_rfl)
theorem entry_ga : entryFor table "object.__getattribute__" = some Builtin.«object.__getattribute__» := entryFor_of_tree (by kernel_rfl)
theorem args_ga (a b : Value) : argsOk "object.__getattribute__" ⟨[a, b], []⟩ := by unfold argsOk; kernel_rfl
/-- a function object with a namespace of its own -/
def Fnx (h : Heap) (x : Addr) (mA : Str → Option Value) : Prop :=
  ∃ o fd, h.get? x = some o ∧ o.cls = .type "function" ∧ o.data = .func fd ∧ ((o.dict = none ∧ ∀ n, mA n = none) ∨ ∃ d, o.dict = some d ∧ d ≠ x ∧ h.Ns1 d mA)
section
variable {prog : Program} {w : World} {A : Around} {E : Value → Shared → Prop} {h : Heap} {g : Array GenState} {d : Drawn} {t : Nat} {os : OsState}
  {x : Addr} {mA : Str → Option Value} {name : Str} {v : Value}
theorem fn_load_entry {tk : Tok} {Q : Fin → Shared → Prop} (hB : typeLookup (.type "function") name = pure none) (I : Fnx h x mA) (hv : mA name = some v) (hq : Q (.done (.ret v)) ⟨h, g, d, t, os⟩) :
    wpAny (model prog w) A (Builtin.«object.__getattribute__» ⟨[.ref x, .str name tk], []⟩) Q E ⟨h, g, d, t, os⟩ := by
  obtain ⟨o, fd, hx, hc, hfd, hd⟩ := I
  rcases hd with ⟨_, hmA⟩ | ⟨dx, hdx, hne, hns⟩
  · rw [hmA name] at hv; cases hv
  unfold Builtin.«object.__getattribute__»
  repeat (first | (with_reducible refine wpAny_loadPart_at hx ?_; rw [hc]) | (with_reducible refine wpAny_of_eq hB ?_) | wp_step)
  rw [hfd]
  dsimp only
  unfold instanceDict
  repeat (first | (with_reducible refine wpAny_loadPart_at hx ?_; rw [hc]) | wp_step)
  rw [hdx]
  repeat (first | (with_reducible refine wpAny_nsGet hns.ns ?_; rw [hv]) | wp_step)
  exact hq
theorem fn_load {expr : Bool} {Q : Value → Shared → Prop} (hB : typeLookup (.type "function") name = pure none) (I : Fnx h x mA) (hv : mA name = some v) (hh : handedOut v = pure v) (hq : Q v ⟨h, g, d, t + 1, os⟩) :
    wpAny (model prog w) A (getAttr (.ref x) name expr) Q E ⟨h, g, d, t, os⟩ := by
  obtain ⟨o, fd, hx, hc, hfd, hd⟩ := id I
  have hT : ∀ tk', (⟨h, g, d, tk', os⟩ : Shared).TypeIs (.ref x) "function" := fun _ => ⟨_, hx, hc⟩
  have f4 := sl_fn_ga.bind (.ref x)
  unfold getAttr getAttrBy
  repeat (first | (with_reducible refine wpAny_loadPart_at hx ?_; rw [hc]) | (with_reducible refine wpAny_of_eq lk_fn_ga ?_) | wp_step)
  have key : ∀ E', wpAny (model prog w) A (boundAndCalled (.builtin "object.__getattribute__") (.ref x) (.str name t)) (fun a s' => a = v ∧ s' = ⟨h, g, d, t + 1, os⟩) E' ⟨h, g, d, t + 1, os⟩ := by
    intro E'
    unfold boundAndCalled
    repeat (any_goals (first | assumption | exact hT _ | ((with_reducible show wpAny _ _ (call (Value.builtin "object.__getattribute__") _) _ _ _); refine wpAny_call_entry sl_fn_ga (hT _) entry_ga (fn_load_entry hB I hv ?_) (args_ga _ _)) | wp_step))
    exact ⟨v, rfl, rfl, rfl⟩
  have : (expr && onTheHeap (Value.builtin "object.__getattribute__")) = false := by cases expr <;> rfl
  rw [this]
  refine wpAny_mono (key _) (fun a s' hq => ?_) fun e s' he => he
  obtain ⟨rfl, rfl⟩ := hq
  show wpAny _ _ (handedOut _) _ _ _
  rw [hh]
  exact wpAny_pure (by assumption)
theorem fn_store_entry {tk : Tok} {Q : Fin → Shared → Prop} {ns : List Str} (hB : typeLookup (.type "function") name = pure none) (I : Fnx h x mA)
    (hq : ∀ h' tk', Fnx h' x (fun y => if y = name then some v else mA y) →
      (∀ b o, b ≠ x → (∀ o₀ dx, h.get? x = some o₀ → o₀.dict = some dx → b ≠ dx) → h.get? b = some o → h'.get? b = some o) →
      (∀ o₀, h.get? x = some o₀ → ∃ o₁ dx, h'.get? x = some o₁ ∧ o₁.cls = o₀.cls ∧ o₁.data = o₀.data ∧ o₁.dict = some dx ∧ (o₀.dict = none → h.get? dx = none) ∧ ∀ dx', o₀.dict = some dx' → dx = dx') → Q (.done (.ret .none)) ⟨h', g, d, tk', os⟩) (hw : Within mA ns) (hsz : ns.length ≤ sizeLine) :
    wpAny (model prog w) A (Builtin.«object.__setattr__» ⟨[.ref x, .str name tk, v], []⟩) Q E ⟨h, g, d, t, os⟩ := by
  obtain ⟨o, fd, hx, hc, hfd, hd⟩ := I
  have hpass := sf_fn.passes (.ref x)
  unfold Builtin.«object.__setattr__»
  repeat (first | (rw [refuse_eq]) | (rw [hpass]) | (with_reducible refine wpAny_loadPart_at hx ?_; rw [hc]) | (with_reducible refine wpAny_of_eq sf_fn.mro ?_) | (with_reducible refine wpAny_of_eq hB ?_) | wp_step)
  rcases hd with ⟨hdn, hmA⟩ | ⟨dx, hdx, hne, hns⟩
  · rw [hdn, if_neg (by rw [htd]; simp), hfd]
    dsimp only
    have hx₁ : (h.push { cls := .type "dict", data := .dict #[] }).get? x = some o := Heap.get?_push_of_some _ hx
    have hxs : x ≠ h.objs.size := Nat.ne_of_lt (Heap.lt_size hx)
    refine wpAny_bind (wpAny_alloc' ?_)
    refine wpAny_bind (wpAny_update' hx₁ ?_)
    refine wpAny_of_eq (a := some h.objs.size) (by rfl) ?_
    have hgd : ((h.push { cls := .type "dict", data := .dict #[] }).update x fun o => { cls := o.cls, dict := some h.objs.size, data := o.data, slots := o.slots }).get? h.objs.size
        = some { cls := .type "dict", data := .dict #[] } :=
      (Heap.get?_update_ne _ _ _ _ hxs.symm).trans (Heap.get?_push_at rfl rfl)
    have hnd : ((h.push { cls := .type "dict", data := .dict #[] }).update x fun o => { cls := o.cls, dict := some h.objs.size, data := o.data, slots := o.slots }).Ns h.objs.size (fun _ => none) :=
      ⟨_, #[], _, hgd, rfl, fun e he => absurd he (by simp), fun _ => rfl⟩
    show wpAny _ _ (storeInDict h.objs.size (.str name tk) name v) _ _ _
    unfold storeInDict newKeyGuard
    refine wpAny_bind (wpAny_pure (wpAny_bind (wpAny_nsSet1 (Heap.Ns1.of_empty hnd) fun h' hn' hs => ?_)))
    obtain ⟨oD, esD, epD, hoD, hdD, hcD⟩ := hn'.count (Within.cons name v Within.nil)
    refine wpAny_bind (wpAny_lookBehind hoD (by rw [hdD]; exact pastItsLine_dict (Nat.le_trans hcD (by rw [List.length_cons, List.length_nil, sizeLine_eq]; omega))) ?_)
    wp_walk
    have hx' : h'.get? x = some { cls := o.cls, dict := some h.objs.size, data := o.data, slots := o.slots } := by
      refine (hs.2 x hxs).trans (Heap.get?_update_self _ hx₁ ?_)
      obtain ⟨oc, od, odt, osl⟩ := o
      cases hfd
      rfl
    refine hq h' _ ⟨{ cls := o.cls, dict := some h.objs.size, data := o.data, slots := o.slots }, fd, hx', hc, hfd, .inr ⟨h.objs.size, rfl, hxs.symm, ?_⟩⟩ (fun b ob hbx _ hb => ?_)
      (fun o₀ h₀ => by obtain rfl : o = o₀ := Option.some.inj (hx.symm.trans h₀); exact ⟨_, h.objs.size, hx', rfl, rfl, rfl, fun _ => get_none (Nat.le_refl _), fun dx e => by rw [hdn] at e; cases e⟩)
    · obtain ⟨o', es, ep, e1, e2, e3, eu, e4⟩ := hn'
      exact ⟨o', es, ep, e1, e2, e3, eu, fun y => by rw [e4 y]; by_cases hy : y = name <;> simp [hy, hmA]⟩
    · exact (hs.2 b (Nat.ne_of_lt (Heap.lt_size hb))).trans ((Heap.get?_update_ne _ _ _ _ hbx).trans (Heap.get?_push_of_some _ hb))
  · rw [hdx]
    refine wpAny_pure ?_
    show wpAny _ _ (storeInDict dx (.str name tk) name v) _ _ _
    unfold storeInDict newKeyGuard
    refine wpAny_bind (wpAny_pure (wpAny_bind (wpAny_nsSet1 hns fun h' hn' hs => ?_)))
    obtain ⟨oD, esD, epD, hoD, hdD, hcD⟩ := hn'.count (Within.cons name v hw)
    refine wpAny_bind (wpAny_lookBehind hoD (by rw [hdD]; exact pastItsLine_dict (Nat.le_trans hcD (by rw [List.length_cons]; omega))) ?_)
    wp_walk
    refine hq h' _ ⟨o, fd, (hs.2 x hne.symm).trans hx, hc, hfd, .inr ⟨dx, hdx, hne, hn'⟩⟩ (fun b ob _ hbd hb => ?_)
      (fun o₀ h₀ => by obtain rfl : o = o₀ := Option.some.inj (hx.symm.trans h₀); exact ⟨o, dx, (hs.2 x hne.symm).trans h₀, rfl, rfl, hdx, (fun e => by rw [hdx] at e; cases e), fun dx' e => by rw [hdx] at e; exact Option.some.inj e⟩)
    exact (hs.2 b (hbd o dx hx hdx)).trans hb
theorem fn_store {Q : Unit → Shared → Prop} {ns : List Str} (hB : typeLookup (.type "function") name = pure none) (I : Fnx h x mA)
    (hq : ∀ h' tk', Fnx h' x (fun y => if y = name then some v else mA y) →
      (∀ b o, b ≠ x → (∀ o₀ dx, h.get? x = some o₀ → o₀.dict = some dx → b ≠ dx) → h.get? b = some o → h'.get? b = some o) →
      (∀ o₀, h.get? x = some o₀ → ∃ o₁ dx, h'.get? x = some o₁ ∧ o₁.cls = o₀.cls ∧ o₁.data = o₀.data ∧ o₁.dict = some dx ∧ (o₀.dict = none → h.get? dx = none) ∧ ∀ dx', o₀.dict = some dx' → dx = dx') → Q () ⟨h', g, d, tk', os⟩) (hw : Within mA ns) (hsz : ns.length ≤ sizeLine) :
    wpAny (model prog w) A (setAttr (.ref x) name v) Q E ⟨h, g, d, t, os⟩ := by
  obtain ⟨o, fd, hx, hc, _⟩ := id I
  unfold setAttr
  refine wpAny_bind (wpAny_mkText (wpAny_bind ?_))
  refine wpAny_callSpecial?_slot (name := Str.ofString "__setattr__") (T := "function") ⟨o, hx, hc⟩ sf_fn.slot ?_
  refine wpAny_call_entry sf_fn.slot ⟨o, hx, hc⟩ sf_fn.entry (fn_store_entry hB I (fun h' tk' I' hk hs => ?_) hw hsz) (sf_fn.args _ _ _)
  exact ⟨_, rfl, wpAny_pure (hq h' tk' I' hk hs)⟩
end
theorem Base.extS {W : Wd} {h₀ h h' : Heap} (B₀ : Base W h₀) (B : Base W h) (hk : ∀ b o, ((∃ o₀, h₀.get? b = some o₀) ∨ ¬ nrm o) → h.get? b = some o → h'.get? b = some o) : Base W h' where
  K := fun b o e => hk b o (.inl ⟨o, B₀.K b o e⟩) (B.K b o e)
  g := B.g.at' fun o e => hk _ o (.inl (ns_there B₀.g)) e
  b := B.b.at' fun o e => hk _ o (.inl (ns_there B₀.b)) e
  bb := B.bb
  nl := let ⟨mc, a, r⟩ := B.nl; ⟨mc, a.at' fun o e => hk _ o (.inl (nl_there B₀.nl)) e, r⟩
  bm := let ⟨ob, e, r⟩ := B.bm; ⟨ob, hk 4 ob (.inl (let ⟨o, e, _⟩ := B₀.bm; ⟨o, e⟩)) e, r⟩
  tb := B.tb.calm fun b o e hn => hk b o (.inr hn) e
  od := fun b o e => by
    rcases B.od b o e with x | ⟨q, vs, more, r, x⟩
    · exact .inl (hk b _ (.inl (B₀.od_there e)) x)
    · exact .inr ⟨q, vs, more, r, hk b _ (.inl (B₀.od_there e)) x⟩
section
variable {W : Wd} {h₀ h h' : Heap} {Z R R' : List Ent} {a : Addr} {φ : Obj → Prop}
/-- own things have turned all at once -/
theorem Fm.re (F : Fm W h₀ Z R h) (hR : R'.map (·.1) = R.map (·.1)) (hk : ∀ b o, (∀ e ∈ R, b ≠ e.1) → h.get? b = some o → h'.get? b = some o) (hR' : ∀ e ∈ R', At h' e.1 e.2 ∧ ∀ o, e.2 o → nrm o) : Fm W h₀ Z R' h' := by
  have key : ∀ e ∈ R', ∃ e' ∈ R, e'.1 = e.1 := fun e he => by
    have : e.1 ∈ R.map (·.1) := hR ▸ List.mem_map_of_mem he
    obtain ⟨e', he', q⟩ := List.mem_map.mp this
    exact ⟨e', he', q⟩
  have old : ∀ b o₀, h₀.get? b = some o₀ → ∀ e ∈ R, b ≠ e.1 := fun b o₀ e₀ e he q => by have := F.rf e he; rw [← q, e₀] at this; cases this
  have keep : ∀ b o, ((∃ o₀, h₀.get? b = some o₀) ∨ ¬ nrm o) → h.get? b = some o → h'.get? b = some o := fun b o hb e => by
    refine hk b o (fun e' he' q => ?_) e
    rcases hb with ⟨o₀, e₀⟩ | hn
    · exact old b o₀ e₀ e' he' q
    · obtain ⟨⟨o', e1, p⟩, n⟩ := F.r e' he'
      rw [← q, e] at e1; cases e1
      exact hn (n o p)
  refine ⟨F.base₀.extS F.base keep, fun b o e => ?_, F.base₀, fun e he => ⟨?_, (F.z e he).2⟩, hR', fun e he => ?_, by rw [hR]; exact F.rn, fun e he e' he' => ?_⟩
  · rcases F.kp b o e with e1 | ⟨vs, more, eo, e1⟩
    · exact .inl (keep b o (.inl ⟨o, e⟩) e1)
    · exact .inr ⟨vs, more, eo, keep b _ (.inl ⟨o, e⟩) e1⟩
  · obtain ⟨o, e1, p⟩ := (F.z e he).1
    exact ⟨o, hk _ o (fun e' he' => F.zr e he e' he') e1, p⟩
  · obtain ⟨e', he', q⟩ := key e he
    rw [← q]; exact F.rf e' he'
  · obtain ⟨e'', he'', q⟩ := key e' he'
    rw [← q]; exact F.zr e he e'' he''
theorem Fm.also (F : Fm W h₀ Z R h) (G : Fm W h₀ Z R' h') (hR : R'.map (·.1) = R.map (·.1)) (hd : h.get? a = none) (ha : At h' a φ) (hn : ∀ o, φ o → nrm o) : Fm W h₀ Z (R' ++ [(a, φ)]) h' where
  base := G.base
  kp := G.kp
  base₀ := G.base₀
  z := G.z
  r := fun e he => by
    rcases List.mem_append.mp he with he | he
    · exact G.r e he
    · rw [List.mem_singleton.mp he]; exact ⟨ha, hn⟩
  rf := fun e he => by
    rcases List.mem_append.mp he with he | he
    · exact G.rf e he
    · rw [List.mem_singleton.mp he]; exact F.kp.there hd
  rn := by
    rw [List.map_append, hR, List.nodup_append]
    refine ⟨F.rn, by simp, fun x hx y hy => ?_⟩
    obtain ⟨e, he, rfl⟩ := List.mem_map.mp hx
    simp only [List.map_cons, List.map_nil, List.mem_singleton] at hy
    subst hy
    exact (F.r e he).1.ne hd
  zr := fun e he e' he' => by
    rcases List.mem_append.mp he' with he' | he'
    · exact G.zr e he e' he'
    · rw [List.mem_singleton.mp he']; exact (F.z e he).1.ne hd
end
def ns1O (m : Str → Option Value) (o : Obj) : Prop := ∃ es ep, o.data = .dict es ep ∧ StrKeys es ∧ UniqKeys es ∧ ∀ name, nsFind es name = m name
theorem nrm_ns1 {m : Str → Option Value} : ∀ o, ns1O m o → nrm o := fun o ⟨es, ep, e, _⟩ vs e' => by rw [e] at e'; cases e'
theorem at_ns1 {h : Heap} {a : Addr} {m} : At h a (ns1O m) ↔ h.Ns1 a m := ⟨fun ⟨o, e, es, ep, a, b, c⟩ => ⟨o, es, ep, e, a, b, c⟩, fun ⟨o, es, ep, e, a, b, c⟩ => ⟨o, e, es, ep, a, b, c⟩⟩
def fnD (dx : Addr) (o : Obj) : Prop := o.cls = .type "function" ∧ (∃ fd, o.data = .func fd) ∧ o.dict = some dx
theorem nrm_fnD {dx : Addr} : ∀ o, fnD dx o → nrm o := fun o ⟨_, ⟨fd, e⟩, _⟩ vs e' => by rw [e] at e'; cases e'
theorem fnx_of {h : Heap} {f dx : Addr} {m} (a : At h f (fnD dx)) (b : At h dx (ns1O m)) (hne : dx ≠ f) : Fnx h f m := let ⟨o, e, c, ⟨fd, g⟩, k⟩ := a; ⟨o, fd, e, c, g, .inr ⟨dx, k, hne, at_ns1.mp b⟩⟩
section
variable {W : Wd} {A : Around} {E : Value → Shared → Prop} {h₀ h : Heap} {gs : Array GenState} {d : Drawn} {t : Nat} {os : OsState} {Z R : List Ent} {L f dx : Addr} {fd : FuncData} {φ : Obj → Prop} {name : Str} {v : Value} {mA : Str → Option Value}
theorem v_sa1 {Q : Unit → Shared → Prop} (F : Fm W h₀ Z [(L, φ), (f, fnO fd)] h) (hB : typeLookup (.type "function") name = pure none)
    (q : ∀ dx h' t', Fm W h₀ Z [(L, φ), (f, fnD dx), (dx, ns1O (fun y => if y = name then some v else none))] h' → Q () ⟨h', gs, d, t', os⟩) :
    wpAny (MM W.w) A (setAttr (.ref f) name v) Q E ⟨h, gs, d, t, os⟩ := by
  obtain ⟨o, hx, rfl⟩ := F.atR (a := f) (φ := fnO fd) (by simp)
  have LF : L ≠ f := by have := F.rn; simp at this; exact this
  refine fn_store (ns := []) hB ⟨_, fd, hx, rfl, rfl, .inl ⟨rfl, fun _ => rfl⟩⟩ (fun h' tk' I hk hs => ?_) .nil (by decide)
  obtain ⟨o₁, dx, e1, e2, e3, e4, e5, _⟩ := hs _ hx
  have hdx := e5 rfl
  obtain ⟨o', fd', e1', c1, c2, c3⟩ := I
  rw [e1] at e1'; cases e1'
  rcases c3 with ⟨c3, _⟩ | ⟨dx', c3, hne, hns⟩
  · rw [e4] at c3; cases c3
  rw [e4] at c3; cases c3
  have keep : ∀ b o, b ≠ f → h.get? b = some o → h'.get? b = some o := fun b o hb e => hk b o hb (fun o₀ dx h₁ h₂ => by rw [hx] at h₁; cases h₁; cases h₂) e
  have G : Fm W h₀ Z [(L, φ), (f, fnD dx)] h' := F.re (by rfl) (fun b o hb e => keep b o (hb (f, fnO fd) (by simp)) e) fun e he => by
    simp only [List.mem_cons, List.not_mem_nil, or_false] at he
    rcases he with rfl | rfl
    · obtain ⟨⟨o, e, p⟩, n⟩ := F.r (L, φ) (by simp)
      exact ⟨⟨o, keep _ _ LF e, p⟩, n⟩
    · exact ⟨⟨o₁, e1, c1, ⟨_, c2⟩, e4⟩, nrm_fnD⟩
  exact q dx h' tk' (F.also G (by rfl) hdx (at_ns1.mpr hns) nrm_ns1)
theorem v_sa2 {Q : Unit → Shared → Prop} {ns : List Str} (F : Fm W h₀ Z [(L, φ), (f, fnD dx), (dx, ns1O mA)] h) (hB : typeLookup (.type "function") name = pure none) (hw : Within mA ns) (hsz : ns.length ≤ sizeLine)
    (q : ∀ h' t', Fm W h₀ Z [(L, φ), (f, fnD dx), (dx, ns1O (fun y => if y = name then some v else mA y))] h' → Q () ⟨h', gs, d, t', os⟩) :
    wpAny (MM W.w) A (setAttr (.ref f) name v) Q E ⟨h, gs, d, t, os⟩ := by
  obtain ⟨o, hx, hc, ⟨fd, hfd⟩, hdx⟩ := F.atR (a := f) (φ := fnD dx) (by simp)
  have hns := at_ns1.mp (F.atR (a := dx) (φ := ns1O mA) (by simp))
  have rn := F.rn
  simp only [List.map_cons, List.map_nil, List.nodup_cons, List.mem_cons, List.not_mem_nil, or_false, not_or, List.nodup_nil, and_true, not_false_eq_true] at rn
  refine fn_store (ns := ns) hB ⟨_, fd, hx, hc, hfd, .inr ⟨dx, hdx, Ne.symm rn.2, hns⟩⟩ (fun h' tk' I hk hs => ?_) hw hsz
  obtain ⟨o₁, dx', e1, e2, e3, e4, _, e6⟩ := hs _ hx
  obtain rfl := e6 _ hdx
  obtain ⟨o', fd', e1', c1, c2, c3⟩ := I
  rw [e1] at e1'; cases e1'
  rcases c3 with ⟨c3, _⟩ | ⟨dx'', c3, hne, hns'⟩
  · rw [e4] at c3; cases c3
  rw [e4] at c3; cases c3
  have keep : ∀ b o, b ≠ f → b ≠ dx' → h.get? b = some o → h'.get? b = some o := fun b o hb hb' e => hk b o hb (fun o₀ dx₀ h₁ h₂ => by rw [hx] at h₁; cases h₁; rw [hdx] at h₂; cases h₂; exact hb') e
  refine q h' tk' (F.re (by rfl) (fun b o hb e => keep b o (hb (f, fnD dx') (by simp)) (hb (dx', ns1O mA) (by simp)) e) fun e he => ?_)
  simp only [List.mem_cons, List.not_mem_nil, or_false] at he
  rcases he with rfl | rfl | rfl
  · obtain ⟨⟨o, e, p⟩, n⟩ := F.r (L, φ) (by simp)
    exact ⟨⟨o, keep _ _ rn.1.1 rn.1.2 e, p⟩, n⟩
  · exact ⟨⟨o₁, e1, c1, ⟨_, c2⟩, e4⟩, nrm_fnD⟩
  · exact ⟨at_ns1.mpr hns', nrm_ns1⟩
theorem v_attr {m : Str → Option Value} {expr : Bool} {Q : Value → Shared → Prop} (F : Fm W h₀ Z R h) (h1 : (f, fnD dx) ∈ Z) (h2 : (dx, ns1O m) ∈ Z) (hne : dx ≠ f) (hB : typeLookup (.type "function") name = pure none) (hv : m name = some v) (hh : handedOut v = pure v)
    (q : Q v ⟨h, gs, d, t + 1, os⟩) : wpAny (MM W.w) A (getAttr (.ref f) name expr) Q E ⟨h, gs, d, t, os⟩ :=
  fn_load hB (fnx_of (F.atZ h1) (F.atZ h2) hne) hv hh q
theorem v_lam {params : Arguments} {body : Expr} {scope : Scope} {pos : Pos} {env : Env} {Q : Value → Shared → Prop} {s : Shared}
    (h : wpAny (MM W.w) A (makeFunction "<lambda>" (env.qual ++ "<lambda>") params (.expr body) scope env [] [] [] pos pos.line) Q E s) (hdef : defaultsOf params env = ([], [])) :
    wpAny (MM W.w) A (eval (.Lambda params body scope pos) env) Q E s := kla_eval hdef h
end
end Mine
namespace Mine
open PySem PySem.W PySem.Calls PyProof.Rows PySem.Builtin PySem.Builtin.ObjectAttr
theorem lk_list_append : typeLookup (.type "list") "append" = pure (some (.builtin "list.append")) := by rw [typeLookup_type, builtinLookup_eq_fast]; kernel_rfl
theorem bk_la : builtinKind "list.append" = some .method := by decide +kernel
theorem lk_md_get : typeLookup (.type "method_descriptor") "__get__" = pure (some (.builtin "method_descriptor.__get__")) := by rw [typeLookup_type, builtinLookup_eq_fast]; kernel_rfl
theorem sl_md_get : Slot "method_descriptor" "__get__" "method_descriptor.__get__" := .of (owner := "method_descriptor") (n := "__get__") (by rw [typeLookup_type, builtinLookup_eq_fast]; kernel_rfl) (by decide +kernel) (by decide +kernel) (by decide +kernel)
    (by first | exact .inl (by decide +kernel) | exact .inr (by decide +kernel)) (by rw [isSubtype_type]; kernel_rfl)
theorem entry_md_get : entryFor table "method_descriptor.__get__" = some Builtin.«method_descriptor.__get__» := entryFor_of_tree (by kernel_rfl)
theorem args_md (a b c : Value) : argsOk "method_descriptor.__get__" ⟨[a, b, c], []⟩ := by unfold argsOk; kernel_rfl
theorem lk_md_set : typeLookup (.type "method_descriptor") "__set__" = pure none := by rw [typeLookup_type, builtinLookup_eq_fast]; kernel_rfl
theorem lk_md_del : typeLookup (.type "method_descriptor") "__delete__" = pure none := by rw [typeLookup_type, builtinLookup_eq_fast]; kernel_rfl
theorem typeIs_la (s : Shared) : s.TypeIs (.builtin "list.append") "method_descriptor" := by
  show builtinType _ = _; rw [builtinType_eq_fast]; kernel_rfl
theorem sub_la : isSubtype (.type "list") (.type (".".intercalate ("list.append".cutAt '.').dropLast)) = pure true := by rw [isSubtype_type]; kernel_rfl
theorem chk_la : match Manifest.signature? "list.append" with | some sig => ∀ a b, Bind.checkArgs "list.append" { sig with full := "list.append" } ⟨[a, b], []⟩ = pure () | none => True := by
  rw [signature?_of (id := "list.append") (n := ['d', 'n', 'e', 'p', 'p', 'a']) (o := ['t', 's', 'i', 'l']) (by kernel_rfl) PySem.F.owner_list]
  intro _ _; kernel_rfl
theorem nm_la : (toString (Bind.lastOf "list") ++ toString "." ++ toString (Bind.lastOf "list.append")) = "list.append" := by decide +kernel
section
variable {prog : Program} {w : World} {A : Around} {E : Value → Shared → Prop} {h : Heap} {g : Array GenState} {d : Drawn} {t : Nat} {os : OsState} {l : Addr} {items : Array Value}
theorem app_entry {tk : Tok} {Q : Fin → Shared → Prop} (hl : h.PlainList l items) (hq : Q (.done (.ret (.ref h.objs.size))) ⟨h.push { cls := .type "builtin_function_or_method", data := .fields #[.builtin "list.append", .ref l] }, g, d, t, os⟩) :
    wpAny (model prog w) A (Builtin.«object.__getattribute__» ⟨[.ref l, .str "append" tk], []⟩) Q E ⟨h, g, d, t, os⟩ := by
  obtain ⟨n, hx⟩ := hl
  unfold Builtin.«object.__getattribute__»
  repeat (first | (with_reducible refine wpAny_loadPart_at hx ?_) | (with_reducible refine wpAny_of_eq lk_list_append ?_) | wp_step)
  simp only [bk_la]
  repeat (first | (with_reducible refine wpAny_loadPart_at hx ?_) | (with_reducible refine wpAny_of_eq lk_md_get ?_) | (with_reducible refine wpAny_of_eq lk_md_set ?_) | (with_reducible refine wpAny_of_eq lk_md_del ?_) | (simp only [bk_la]) | ((with_reducible show wpAny _ _ (call (Value.builtin "method_descriptor.__get__") _) _ _ _); refine wpAny_call_entry (T := "method_descriptor") sl_md_get (typeIs_la _) entry_md_get ?_ (args_md _ _ _)) | wp_step)
  refine wpAny_of_eq sub_la ?_
  repeat wp_step
  exact ⟨_, rfl, wpAny_pure hq⟩
theorem app_load {expr : Bool} {Q : Value → Shared → Prop} (hl : h.PlainList l items) (hq : Q (.ref h.objs.size) ⟨h.push { cls := .type "builtin_function_or_method", data := .fields #[.builtin "list.append", .ref l] }, g, d, t + 1, os⟩) :
    wpAny (model prog w) A (getAttr (.ref l) "append" expr) Q E ⟨h, g, d, t, os⟩ := by
  obtain ⟨n, hx⟩ := id hl
  have hT : ∀ tk', (⟨h, g, d, tk', os⟩ : Shared).TypeIs (.ref l) "list" := fun _ => ⟨_, hx, rfl⟩
  have f4 := PySem.F.slot_list_getattribute.bind (.ref l)
  have f3 := PySem.F.slot_list_getattribute.lookup
  unfold getAttr getAttrBy
  repeat (first | (with_reducible refine wpAny_loadPart_at hx ?_) | (with_reducible refine wpAny_of_eq f3 ?_) | wp_step)
  have key : ∀ E', wpAny (model prog w) A (boundAndCalled (.builtin "list.__getattribute__") (.ref l) (.str "append" t)) (fun a s' => a = .ref h.objs.size ∧ s' = ⟨h.push { cls := .type "builtin_function_or_method", data := .fields #[.builtin "list.append", .ref l] }, g, d, t + 1, os⟩) E' ⟨h, g, d, t + 1, os⟩ := by
    intro E'
    unfold boundAndCalled
    repeat (any_goals (first | assumption | exact hT _ | ((with_reducible show wpAny _ _ (call (Value.builtin "list.__getattribute__") _) _ _ _); refine wpAny_call_entry PySem.F.slot_list_getattribute (hT _) am_entry_list_getattribute (app_entry hl ?_) (PySem.F.args_list_getattribute_2 _ _)) | wp_step))
    exact ⟨_, rfl, rfl, rfl⟩
  have : (expr && onTheHeap (Value.builtin "list.__getattribute__")) = false := by cases expr <;> rfl
  rw [this]
  refine wpAny_mono (key _) (fun a s' hq => ?_) fun e s' he => he
  obtain ⟨rfl, rfl⟩ := hq
  exact wpAny_pure (by assumption)
theorem app_call {m : Addr} {om : Obj} {x : Value} {R : Result → Shared → Prop} (hl : h.IsList l items) (hm : h.get? m = some om) (hc : om.cls = .type "builtin_function_or_method") (hd : om.data = .fields #[.builtin "list.append", .ref l]) (hsz : items.size ≤ sizeLine)
    (hQ : ∀ h', h'.IsList l (items.push x) → Heap.SameBut l h h' → R (.ok (.ret .none)) ⟨h', g, d, t, os⟩) :
    codeAny (model prog w) A (.call (.ref m) ⟨[x], []⟩) R ⟨h, g, d, t, os⟩ := by
  obtain ⟨ol, hol, hcl, nl, hdl⟩ := id hl
  refine codeAny_of_tree ?_
  show wpAny _ A.in1 (callAny (.ref m) ⟨[x], []⟩) _ _ _
  simp only [callAny]
  refine wpAny_bind (wpAny_load hm ?_)
  simp only [hd, hc]
  rw [if_pos (by decide)]
  show wpAny _ _ (if (Value.type "builtin_function_or_method" != Value.type "method") = true then _ else _) _ _ _
  rw [if_pos (by decide)]
  have chk : wpAny (model prog w) A.in1 (checkBoundCall "list.append" ⟨[.ref l, x], []⟩) (fun _ s' => s' = ⟨h, g, d, t, os⟩) (fun e s' => R (.error e) s') ⟨h, g, d, t, os⟩ := by
    unfold checkBoundCall
    simp only [bk_la]
    have ck := chk_la
    cases hs : Manifest.signature? "list.append" with
    | none => exact wpAny_pure rfl
    | some sig =>
      rw [hs] at ck
      have f1 : isSubtype (.type "list") (.type "module") = pure false := by rw [isSubtype_type]; kernel_rfl
      have f2 : Manifest.varargsMethods.contains "list.append" = false := by decide +kernel
      have ckk : Bind.checkArgs "list.append" { machinery := sig.machinery, full := toString (Bind.lastOf "list") ++ toString "." ++ toString (Bind.lastOf "list.append"), short := sig.short, receiver := sig.receiver, params := sig.params } ⟨[.ref l, x], []⟩ = pure () := by
        rw [nm_la]; exact ck _ _
      dsimp only
      rw [if_neg (by decide)]
      unfold isInstance isType
      repeat (first | (with_reducible refine wpAny_of_eq ckk ?_) | (with_reducible refine wpAny_loadPart_at hol ?_; rw [hcl]) | (with_reducible refine wpAny_of_eq f1 ?_) | (simp only [f2]; done) | wp_step)
  refine wpAny_bind (wpAny_mono chk (fun _ s' q => ?_) fun _ _ z => z)
  subst q
  refine wpAny_pure ⟨Code.quiet_builtin _ (by decide +kernel), ?_⟩
  refine codeAny_builtin entry_list_append ?_
  obtain ⟨o, ho, hc', n, hd'⟩ := id hl
  obtain ⟨n', hd2⟩ := Obj.data_mapSeq hd' (·.push x)
  show wpAny _ _ (updateSeq l (·.push x) >>= fun _ => ret .none) _ _ _
  refine wpAny_bind ?_
  refine wpAny_updateSeq ho hd' (wpAny_pure (hQ _ ?_ (Heap.SameBut.update ..)))
  exact ⟨_, Heap.get?_update_self _ ho (Obj.isFreed_of_seq hd2), (Obj.cls_mapSeq ..).trans hc', n', hd2⟩
end
end Mine
namespace Mine
open PySem PySem.W PySem.Calls PyProof.Rows PySem.Builtin PySem.Builtin.Str
/-- the signs of a str -/
def cp (y : Str) : List Nat := y.cps.toList
theorem cp_len {y : Str} : (cp y).length = y.length := by simp [cp, Str.length]
theorem cp_inj {x y : Str} (h : cp x = cp y) : x = y := by
  cases x; cases y
  simpa [cp, Array.toList_inj] using h
theorem cp_app {x y : Str} : cp (x ++ y) = cp x ++ cp y := by show (x.cps ++ y.cps).toList = _; simp [cp]
theorem cp_one {c : Nat} : cp ⟨#[c]⟩ = [c] := rfl
theorem cp_mk {l : List Nat} : cp ⟨l.toArray⟩ = l := by simp [cp]
theorem mk_cp {y : Str} : (⟨(cp y).toArray⟩ : Str) = y := cp_inj cp_mk
theorem cp_join : ∀ xs : List Str, cp (Txt.join "" xs) = xs.flatMap cp
  | [] => rfl
  | [x] => by rw [show Txt.join "" [x] = x from (StrLaws.glued_eq_join _ _).trans rfl]; simp
  | x :: y :: r => by
    have ih := cp_join (y :: r)
    have e : Txt.join "" (x :: y :: r) = x ++ "" ++ Txt.join "" (y :: r) := (StrLaws.glued_eq_join _ _).trans (by rw [show Txt.join "" (y :: r) = _ from StrLaws.glued_eq_join _ _]; rfl)
    rw [e, cp_app, cp_app, ih]
    simp only [List.flatMap_cons]
    show cp x ++ cp "" ++ _ = _
    rw [show cp (Str.ofString "") = [] from rfl]; simp
theorem beq_cp {x y : Str} : (x == y) = (cp x == cp y) := by
  rw [Bool.eq_iff_iff, beq_iff_eq, beq_iff_eq]
  exact ⟨fun h => by rw [h], cp_inj⟩
/-- the place that an end of a slice means -/
def clipN (n : Nat) (d : Nat) : Option Int → Nat
  | none => d
  | some i => (max 0 (min (if i < 0 then i + n else i) n)).toNat
theorem clip_nat {n d k : Nat} : clipN n d (some (k : Int)) = min k n := by
  unfold clipN
  simp only []
  rw [if_neg (by omega : ¬ (k : Int) < 0)]
  omega
theorem clip_eq {n d k : Nat} {i : Int} (hi : i = k) (h : k ≤ n) : clipN n d (some i) = k := by
  subst hi
  rw [clip_nat]
  exact Nat.min_eq_left h
theorem clip_neg {n d k : Nat} {i : Int} (hi : i = -(k : Int)) (h : 0 < k) : clipN n d (some i) = n - k := by
  subst hi
  unfold clipN
  simp only []
  rw [if_pos (by omega : -(k : Int) < 0)]
  omega
theorem range_eq (a b : Int) (ha : 0 ≤ a) : sliceRange a b 1 = (List.range (b.toNat - a.toNat)).map (fun k => a.toNat + k) := by
  unfold sliceRange
  simp only [show (1 : Int) > 0 by decide, if_true, Int.ediv_one, Int.one_mul]
  have e : (if a < b then b - a + 1 - 1 else 0).toNat = b.toNat - a.toNat := by split <;> omega
  rw [e]
  refine List.map_congr_left fun k _ => ?_
  omega
theorem indices_eq (l u : Option Int) (n : Nat) : strSliceIndices l u 1 n = (List.range (clipN n n u - clipN n 0 l)).map (fun k => clipN n 0 l + k) := by
  unfold strSliceIndices
  simp only [show (1 : Int) > 0 by decide, if_true]
  rw [range_eq]
  · cases l <;> cases u <;> rfl
  · cases l with
    | none => simp
    | some i => simp only []; omega
theorem filter_range (xs : List Nat) : ∀ (m a : Nat), ((List.range m).map (fun k => a + k)).filterMap (fun i => xs[i]?) = (xs.drop a).take m := by
  intro m
  induction m with
  | zero => intro a; simp
  | succ m ih =>
    intro a
    rw [List.range_succ_eq_map]
    simp only [List.map_cons, List.map_map, List.filterMap_cons, Nat.add_zero]
    have e : (List.range m).map ((fun k => a + k) ∘ Nat.succ) = (List.range m).map (fun k => (a + 1) + k) := List.map_congr_left fun k _ => by simp only [Function.comp]; omega
    rw [e, ih (a + 1)]
    cases h : xs[a]? with
    | none =>
      have : xs.length ≤ a := by simpa using h
      rw [List.drop_eq_nil_of_le this, List.drop_eq_nil_of_le (by omega)]; simp
    | some c =>
      have lt : a < xs.length := (List.getElem?_eq_some_iff.mp h).1
      rw [List.drop_eq_getElem_cons lt, List.take_succ_cons]
      have : xs[a] = c := (List.getElem?_eq_some_iff.mp h).2
      rw [this]
theorem cp_slice (y : Str) (l u : Option Int) : cp (Txt.slice y l u) = ((cp y).drop (clipN y.length 0 l)).take (clipN y.length y.length u - clipN y.length 0 l) := by
  have key : cp ⟨((strSliceIndices l u 1 y.length).filterMap (y.cps[·]?)).toArray⟩ = ((cp y).drop (clipN y.length 0 l)).take (clipN y.length y.length u - clipN y.length 0 l) := by
    rw [cp_mk, indices_eq, ← filter_range]
    exact congrArg (fun f => List.filterMap f _) (funext fun i => by simp [cp])
  unfold Txt.slice
  split
  · rename_i h
    rw [← key, cp_mk, indices_eq]
    simp only [Bool.and_eq_true, beq_iff_eq] at h
    have h2 := h.2
    rw [indices_eq] at h2
    simp only [List.length_map, List.length_range] at h2
    have hl : clipN y.length 0 l = 0 ∧ clipN y.length y.length u = y.length := by
      have : clipN y.length y.length u ≤ y.length := by cases u <;> simp only [clipN] <;> omega
      have : clipN y.length 0 l ≤ y.length := by cases l <;> simp only [clipN] <;> omega
      omega
    rw [hl.1, hl.2]
    simp only [Nat.sub_zero, Nat.zero_add, List.map_id']
    have := filter_range (cp y) y.length 0
    simp only [Nat.zero_add, List.map_id', List.drop_zero] at this
    rw [List.take_of_length_le (Nat.le_of_eq cp_len)] at this
    refine this.symm.trans ?_
    exact congrArg (fun f => List.filterMap f _) (funext fun i => by simp [cp])
  · exact key
theorem cp_startswith {x y : Str} : Txt.startswith x y = (cp y).isPrefixOf (cp x) := by
  unfold Txt.startswith
  rw [StrLaws.subAt_eq, Bool.eq_iff_iff, List.isPrefixOf_iff_prefix]
  simp only [List.drop_zero, Bool.and_eq_true, decide_eq_true_eq, Nat.zero_add, beq_iff_eq]
  constructor
  · rintro ⟨_, h⟩
    exact ⟨(cp x).drop y.length, by rw [show cp y = _ from h.symm]; exact List.take_append_drop _ _⟩
  · rintro ⟨r, h⟩
    refine ⟨?_, ?_⟩
    · rw [← cp_len, ← cp_len, ← h]; simp
    · show (cp x).take y.length = cp y
      rw [← h, ← cp_len]; simp
theorem cp_endswith {x y : Str} : Txt.endswith x y = (cp y).isSuffixOf (cp x) := by
  unfold Txt.endswith
  rw [StrLaws.subAt_eq, Bool.eq_iff_iff, List.isSuffixOf_iff_suffix]
  simp only [Bool.and_eq_true, decide_eq_true_eq, Nat.zero_add, beq_iff_eq]
  constructor
  · rintro ⟨h1, h⟩
    rw [List.take_of_length_le (by rw [List.length_drop]; show (cp x).length - _ ≤ _; rw [cp_len]; omega)] at h
    exact ⟨(cp x).take (x.length - y.length), by rw [show cp y = (cp x).drop (x.length - y.length) from h.symm]; exact List.take_append_drop _ _⟩
  · rintro ⟨r, h⟩
    have hl : r.length + y.length = x.length := by rw [← cp_len (y := x), ← h, List.length_append, cp_len]
    refine ⟨by omega, ?_⟩
    show ((cp x).drop (x.length - y.length)).take y.length = cp y
    rw [← h, show x.length - y.length = r.length by omega, List.drop_left, List.take_of_length_le (Nat.le_of_eq cp_len)]
theorem contains_one {x : Str} {c : Nat} : Txt.contains x ⟨#[c]⟩ = decide (c ∈ cp x) := StrLaws.found_one x c
end Mine
namespace Mine
open PySem PySem.W PySem.Calls PyProof.Rows PySem.Builtin PySem.Builtin.Re
def codeN : Array Nat := #[14, 14, 4, 1, 1, 9, 0, 64, 0, 1342177280, 0, 0, 0, 0, 0, 17, 0, 13, 11, 9, 0, 64, 0, 1342177280, 0, 0, 0, 0, 0, 17, 1, 1]
theorem run_st (g : Setting) : X.skim g 2000 (reRunToEnd (Sre.forSearch codeN #[42] 1 0 1 false)) = .pure none := by kernel_rfl
theorem run_qu (g : Setting) : X.skim g 2000 (reRunToEnd (Sre.forSearch codeN #[63] 1 0 1 false)) = .pure none := by kernel_rfl
theorem run_br (g : Setting) : X.skim g 2000 (reRunToEnd (Sre.forSearch codeN #[91] 1 0 1 false)) = .pure none := by kernel_rfl
theorem run_ne (g : Setting) : X.skim g 2000 (reRunToEnd (Sre.forSearch codeN #[33, 123] 1 0 2 false)) = .pure none := by kernel_rfl
theorem sl_sub : Slot "re.Pattern" "sub" "re.Pattern.sub" := .of (owner := "re.Pattern") (n := "sub") (by rw [typeLookup_type, builtinLookup_eq_fast]; kernel_rfl) (by decide +kernel) (by decide +kernel) (by decide +kernel)
    (by first | exact .inl (by decide +kernel) | exact .inr (by decide +kernel)) (by rw [isSubtype_type]; kernel_rfl)
theorem pa_sub : PlainAttrs "re.Pattern" :=
  ⟨⟨"object.__getattribute__", by rw [typeLookup_type, builtinLookup_eq_fast]; kernel_rfl, by decide +kernel⟩, by rw [typeLookup_type, builtinLookup_eq_fast]; kernel_rfl⟩
theorem ty_sub : typeOf (.builtin "re.Pattern.sub") = pure (.type "method_descriptor") := by show builtinType _ = _; rw [builtinType_eq_fast]; kernel_rfl
theorem en_sub : entryFor table "re.Pattern.sub" = some Builtin.«re.Pattern.sub» := entryFor_of_tree (by kernel_rfl)
theorem en_subl : entryFor table "re.Pattern.sub.loop" = some Builtin.«re.Pattern.sub.loop» := entryFor_of_tree (by kernel_rfl)
theorem ar_sub (a b c : Value) : argsOk "re.Pattern.sub" ⟨[a, b, c], []⟩ := by unfold argsOk; kernel_rfl
theorem lk_fn_call : ∃ id, typeLookup (.type "function") "__call__" = pure (some (.builtin id)) := ⟨"function.__call__", by rw [typeLookup_type, builtinLookup_eq_fast]; kernel_rfl⟩
def patOk (K : Frag) : Bool := (match K.lookup 57 with
  | some ⟨.type T, none, .fields vs, _⟩ => T == "re.Pattern" && (match vs.getD 5 .none with | .ref b => Nat.beq b 56 | _ => false) && Nat.beq (reRawNat (vs.getD 6 .none)) 0 && Nat.beq (reRawNat (vs.getD 2 .none)) 1
  | _ => false) && (match K.lookup 56 with
  | some ⟨_, _, .seq xs _, _⟩ => decide ((xs.map reRawOf).map (·.toNat) = codeN)
  | _ => false)
theorem pat_ok (P : Params) : patOk (KK P) = true := by kernel_rfl
structure PatAt (h : Heap) : Prop where
  p : ∃ vs sl, h.get? 57 = some ⟨.type "re.Pattern", none, .fields vs, sl⟩ ∧ vs.getD 5 .none = .ref 56 ∧ reRawNat (vs.getD 6 .none) = 0 ∧ reRawNat (vs.getD 2 .none) = 1
  c : ∃ o xs n, h.get? 56 = some o ∧ o.data = .seq xs n ∧ (xs.map reRawOf).map (·.toNat) = codeN
theorem pat_at {W : Wd} {h : Heap} (B : Base W h) : PatAt h := by
  have := pat_ok W.w.params
  unfold patOk at this
  simp only [Bool.and_eq_true] at this
  obtain ⟨a, b⟩ := this
  constructor
  · split at a
    · rename_i T vs sl hK
      simp only [Bool.and_eq_true] at a
      obtain ⟨⟨⟨a1, a2⟩, a3⟩, a4⟩ := a
      refine ⟨vs, sl, ?_, ?_, Nat.eq_of_beq_eq_true a3, Nat.eq_of_beq_eq_true a4⟩
      · rw [← eq_of_beq a1]; exact B.K 57 _ hK
      · split at a2
        · rename_i b hb; rw [hb, Nat.eq_of_beq_eq_true a2]
        · cases a2
    · cases a
  · split at b
    · rename_i oc od xs n sl hK
      exact ⟨_, xs, n, B.K 56 _ hK, rfl, of_decide_eq_true b⟩
    · cases b
section
variable {W : Wd} {A : Around} {E : Value → Shared → Prop} {h₀ h : Heap} {Z R : List Ent} {gs : Array GenState} {d : Drawn} {t : Nat} {os : OsState} {Q : Value → Shared → Prop}
theorem v_sub {f : Addr} {x : Str} {u : Tok} {of : Obj} (F : Fm W h₀ Z R h) (hf : h.get? f = some of) (hfc : of.cls = .type "function")
    (hrun : ∀ g, X.skim g 2000 (reRunToEnd (Sre.forSearch codeN x.cps 1 0 x.cps.size false)) = .pure none) (hx : 0 < x.cps.size ∧ x.cps.size ≤ 2)
    (q : ∀ h' tk t', Fm W h₀ Z R h' → Q (.str x tk) ⟨h', gs, d, t', os⟩) :
    wpAny (MM W.w) A (call (.builtin "re.Pattern.sub") [.ref 57, .ref f, .str x u]) Q E ⟨h, gs, d, t, os⟩ := by
  obtain ⟨⟨vs, sl, hp, hv5, hv6, hv2⟩, ⟨oc, xs, n, hc, hcd, hcode⟩⟩ := pat_at F.base
  have hT : (⟨h, gs, d, t, os⟩ : Shared).TypeIs (.ref 57) "re.Pattern" := ⟨_, hp, rfl⟩
  have hTf : (⟨h, gs, d, t, os⟩ : Shared).TypeIs (.ref f) "function" := ⟨_, hf, hfc⟩
  obtain ⟨cid, hcall⟩ := lk_fn_call
  refine wpAny_call (codeAny_call_builtin sl_sub.plain en_sub (sl_sub.check _ _ _ _ _ _ _ _ hT (ar_sub _ _ _) ?_))
  unfold Builtin.«re.Pattern.sub» reSubstitute
  repeat (first | (with_reducible refine wpAny_loadPart_at hf ?_; rw [hfc]) | (with_reducible refine wpAny_of_eq hcall ?_) | wp_step)
  simp only [hv6, hv5, hv2]
  rw [if_neg (by decide)]
  repeat (first | (with_reducible refine wpAny_seqItems hc hcd ?_) | (with_reducible refine wpAny_loadPart_at hf ?_; rw [hfc]) | (with_reducible refine wpAny_of_eq hcall ?_) | wp_step)
  have fb : isSubtype (.type "str") (.type "bytearray") = pure false := by rw [isSubtype_type]; kernel_rfl
  refine wpAny_of_eq fb ?_
  repeat (first | (with_reducible refine wpAny_seqItems hc hcd ?_) | wp_step)
  refine ⟨Code.quiet_builtin _ (by decide +kernel), codeAny_builtin en_subl ?_⟩
  have F1 := F.new (φ := lsO []) { cls := .type "list", data := .seq #[] } rfl nrm_ls ⟨rfl, _, rfl⟩
  have hp1 := Heap.get?_push_of_some { cls := .type "list", data := .seq #[] } hp
  have hc1 := Heap.get?_push_of_some { cls := .type "list", data := .seq #[] } hc
  have hD : (h.push { cls := .type "list", data := .seq #[] }).get? h.objs.size = some { cls := .type "list", data := .seq #[] } := Heap.get?_push_size _ rfl
  generalize h.push { cls := .type "list", data := .seq #[] } = h1 at F1 hp1 hc1 hD ⊢
  generalize h.objs.size = D at F1 hD ⊢
  clear hT hTf
  unfold Builtin.«re.Pattern.sub.loop»
  dsimp only
  repeat (first | (with_reducible refine wpAny_seqItems hc1 hcd ?_) | wp_step)
  simp only [hv6, hv5, hv2]
  rw [if_neg (by decide)]
  have nf : ∀ {A' : Around} {E' : Value → Shared → Prop} {Q' : Option Sre.M → Shared → Prop} {s : Shared} (T : ReTarget) (n : Nat), Q' none s → T.code = codeN → T.text = x.cps → T.groups = 1 → T.lim = x.cps.size → n = 0 → wpAny (model pg W.w) A' (reNextFound T n false) Q' E' s := by
    intro A' E' Q' s T n hq h1 h2 h3 h4 h5
    subst h5
    unfold reNextFound
    rw [h1, h2, h3, h4]
    refine X.x_skim 2000 ?_
    rw [hrun]
    exact wpAny_pure hq
  repeat (first | (with_reducible refine wpAny_seqItems hc1 hcd ?_) | ((with_reducible refine nf _ _ ?_ ?_ ?_ ?_ ?_ ?_); rotate_left; exact hcode; rfl; rfl; rfl; rfl) | wp_step)
  dsimp only
  have ex : (⟨x.cps.extract (Int.toNat 0) x.cps.size⟩ : Str) = x := by cases x; simp
  have lx : ¬ x.length > sizeLine := by have := le_line (n := x.length) (by show x.cps.size ≤ _; omega); omega
  simp only [ex, if_neg lx]
  refine wpAny_bind (wpAny_fresh (wpAny_pure ?_))
  dsimp only
  obtain ⟨n', hd2⟩ := Obj.data_mapSeq (o := { cls := .type "list", data := .seq #[] }) rfl (·.push (.str x t))
  refine wpAny_bind (wpAny_updateSeq hD rfl ?_)
  have G2 : Fm W h₀ Z (R ++ (D, lsO [.str x t]) :: []) (h1.update D fun o => o.mapSeq (·.push (.str x t))) :=
    Fm.turnM F1 (Heap.SameBut.update ..).extBut nrm_ls ⟨_, Heap.get?_update_self _ hD (Obj.isFreed_of_seq hd2), (Obj.cls_mapSeq ..).trans rfl, n', hd2⟩
  obtain ⟨o2, ho2, hc2, n2, hn2⟩ := G2.atR (a := D) (φ := lsO [.str x t]) (by simp)
  refine wpAny_bind ?_
  show wpAny _ _ (mkStr ⟨x.cps.extract 0 0⟩) _ _ _
  have e0 : (⟨x.cps.extract 0 0⟩ : Str) = "" := by cases x; simp; rfl
  rw [e0]
  refine wpAny_mkStr ?_ (by decide)
  refine wpAny_bind (wpAny_seqItems ho2 hn2 ?_)
  show wpAny _ _ (if (([Value.str x t].toArray).isEmpty) = true then _ else _) _ _ _
  rw [if_neg (by simp)]
  refine wpAny_bind ?_
  show wpAny _ _ (call (.builtin "str.join") [_, .ref D]) _ _ _
  refine join_listW (items := [Value.str x t].toArray) (ys := [x]) ⟨o2, ho2, hc2, n2, hn2⟩ (.cons _ _ .nil) (by decide) (by simp [Str.length]; omega) fun t' k => ?_
  rw [show Txt.join "" [x] = x from (StrLaws.glued_eq_join _ _).trans rfl]
  exact wpAny_pure (q _ _ _ (by simpa using G2.cut))
end
end Mine
namespace Mine
open PySem PySem.W PySem.Calls PyProof.Rows PySem.Builtin
theorem deeper_hd {n : Nat} {A : Around} {env : Env} (rm : Rm n A) : (A.deeper env).handled = none := rm.hd
section
variable {W : Wd} {A : Around} {E : Value → Shared → Prop} {h₀ h : Heap} {gs : Array GenState} {d : Drawn} {t : Nat} {os : OsState} {Z R : List Ent} {env : Env} {Q : Value → Shared → Prop} {x : Str} {v : Value} {m : Str → Option Value} {i : Nat}
theorem v_unpack2 {Q : Flow → Shared → Prop} {a b : Str} {pa pb : Pos} {k : Nat} {tp : Pos} {value : Expr} {pos : Pos} (_F : Fm W h₀ Z R h)
    (q : wpAny (MM W.w) A (eval value env) (fun v s₁ => ∃ T va vb Z' R' h' gs' t', v = .ref T ∧ s₁ = ⟨h', gs', d, t', os⟩ ∧ Fm W h₀ Z' R' h' ∧ (T, tuO [va, vb]) ∈ Z' ∧
      ∀ h'', Fm W h₀ Z' R' h'' → wpAny (MM W.w) A (storeName env a va) (fun _ s₂ => wpAny (MM W.w) A (storeName env b vb) (fun _ s₃ => Q .next s₃) E s₂) E ⟨h'', gs', d, t', os⟩) E ⟨h, gs, d, t, os⟩)
    (hh : A.handled = none)
    (hs : swapsWithSole [.Tuple [.Name a pa, .Name b pb] k tp] value pos.line env = pure false) (hw : swappedStores [.Tuple [.Name a pa, .Name b pb] k tp] value env = pure none) :
    wpAny (MM W.w) A (exec (.Assign [.Tuple [.Name a pa, .Name b pb] k tp] value pos) env) Q E ⟨h, gs, d, t, os⟩ := by
  refine Assign_Tuple (wpAny_mono q (fun v s₁ h₁ => ?_) fun _ _ z => z) hs hw
  obtain ⟨T, va, vb, Z', R', h', gs', t', rfl, rfl, F, hT, K⟩ := h₁
  obtain ⟨o, ho, hc, n, hd⟩ := F.atZ hT
  refine assign_Tuple_tuple (items := #[va, vb]) hh ⟨o, ho, hc, n, hd⟩ (by rfl) (by rfl) fun h'' hx => ?_
  have F' : Fm W h₀ Z' R' h'' := F.keep fun b o e => hx b o (Nat.ne_of_lt (Heap.lt_size e)) e
  have := K h'' F'
  show wpAny _ _ (assignInOrder [assign (.Name a pa) env, assign (.Name b pb) env] [va, vb]) _ _ _
  unfold assignInOrder
  refine wpAny_bind (wpAny_holding (wpAny_assign_Name (wpAny_mono this (fun _ s₂ h₂ => ?_) fun _ _ z => z)))
  unfold assignInOrder
  refine wpAny_bind (wpAny_holding (wpAny_assign_Name (wpAny_mono h₂ (fun _ s₃ h₃ => ?_) fun _ _ z => z)))
  unfold assignInOrder
  exact wpAny_pure h₃
theorem v_unpack2S {Q : Flow → Shared → Prop} {a b : Str} {pa pb : Pos} {k : Nat} {tp : Pos} {value : Expr} {pos : Pos} (_F : Fm W h₀ Z R h)
    (q : wpAny (MM W.w) A (eval value env) (fun v s₁ => ∃ T va vb Z' R' h' gs' t', v = .ref T ∧ s₁ = ⟨h', gs', d, t', os⟩ ∧ Fm W h₀ Z' R' h' ∧ (T, tuO [va, vb]) ∈ Z' ∧
      ∀ h'', Fm W h₀ Z' R' h'' → wpAny (MM W.w) A (storeName env b vb) (fun _ s₂ => wpAny (MM W.w) A (storeName env a va) (fun _ s₃ => Q .next s₃) E s₂) E ⟨h'', gs', d, t', os⟩) E ⟨h, gs, d, t, os⟩)
    (hh : A.handled = none)
    (hs : swapsWithSole [.Tuple [.Name a pa, .Name b pb] k tp] value pos.line env = pure false) (hw : swappedStores [.Tuple [.Name a pa, .Name b pb] k tp] value env = pure (some [a, b])) :
    wpAny (MM W.w) A (exec (.Assign [.Tuple [.Name a pa, .Name b pb] k tp] value pos) env) Q E ⟨h, gs, d, t, os⟩ := by
  refine Assign_Tuple_swapped (names := [a, b]) (wpAny_mono q (fun v s₁ h₁ => ?_) fun _ _ z => z) hs hw
  obtain ⟨T, va, vb, Z', R', h', gs', t', rfl, rfl, F, hT, K⟩ := h₁
  obtain ⟨o, ho, hc, n, hd⟩ := F.atZ hT
  refine unpackItems_tuple (items := #[va, vb]) hh ⟨o, ho, hc, n, hd⟩ fun h'' hx => ?_
  have F' : Fm W h₀ Z' R' h'' := F.keep fun b o e => hx b o (Nat.ne_of_lt (Heap.lt_size e)) e
  have := K h'' F'
  show wpAny _ _ (assignInOrder [bindName env b, bindName env a] [vb, va]) _ _ _
  unfold assignInOrder
  refine wpAny_bind (wpAny_holding (wpAny_bindName (wpAny_mono this (fun _ s₂ h₂ => ?_) fun _ _ z => z)))
  unfold assignInOrder
  refine wpAny_bind (wpAny_holding (wpAny_bindName (wpAny_mono h₂ (fun _ s₃ h₃ => ?_) fun _ _ z => z)))
  unfold assignInOrder
  exact wpAny_pure h₃
theorem v_load (F : Fm W h₀ Z R h) (hi : R[i]? = some (env.locals, nsO m)) (hv : m x = some v) (hk : env.scope.kind = .function) (hx : env.kindOf x = some .local) (q : Q v ⟨h, gs, d, t, os⟩) : wpAny (MM W.w) A (loadName env x) Q E ⟨h, gs, d, t, os⟩ :=
  wpAny_loadName_local hk hx (at_ns.mp (F.at hi)) hv q
theorem v_lenS {y : Str} {ty : Tok} (hy : y.length ≤ 1000000) (q : Q (.int y.length (t + 1)) ⟨h, gs, d, t + 1 + 1, os⟩) : wpAny (MM W.w) A (call (.builtin "len") [.str y ty]) Q E ⟨h, gs, d, t, os⟩ := len_str (fit63 hy) q
theorem v_lenL {l : Addr} {vs : List Value} (hl : h.IsList l vs.toArray) (hy : vs.length ≤ 1000000) (q : Q (.int vs.length (t + 1)) ⟨h, gs, d, t + 1 + 1, os⟩) : wpAny (MM W.w) A (call (.builtin "len") [.ref l]) Q E ⟨h, gs, d, t, os⟩ :=
  call_len_list hl (by rw [List.size_toArray]; omega) (by rw [List.size_toArray]; exact q)
theorem v_isnot_sr {y : Str} {ty : Tok} {S : Addr} {s : Shared} (q : Q (.bool true) s) : wpAny (MM W.w) A (compareOp .IsNot (.str y ty) (.ref S)) Q E s := wpAny_isNot_plain rfl q
theorem v_isnot_rr {S : Addr} {s : Shared} (q : Q (.bool false) s) : wpAny (MM W.w) A (compareOp .IsNot (.ref S) (.ref S)) Q E s := wpAny_isNot_ref_self q
theorem v_is_rr {S : Addr} {s : Shared} (q : Q (.bool true) s) : wpAny (MM W.w) A (compareOp .Is (.ref S) (.ref S)) Q E s := wpAny_is_ref_self q
/-- one more part of an f-string -/
theorem v_jp {out : Str} {x : Sem Value} {rest : List (Sem Value)} {s : Shared}
    (q : wpAny (MM W.w) A x (fun v s₁ => ∃ y u, v = .str y u ∧ ((out ++ y).length ≤ 1000000 ∧ wpAny (MM W.w) A (joinParts (out ++ y) rest) Q E s₁)) E s) : wpAny (MM W.w) A (joinParts out (x :: rest)) Q E s :=
  joinParts_cons (wpAny_mono q (fun v s₁ h₁ => by obtain ⟨y, u, rfl, a, b⟩ := h₁; exact ⟨le_line a, b⟩) fun _ _ z => z)
theorem v_jp0 {out : Str} (hs : out.length ≤ 1000000) (q : Q (.str out t) ⟨h, gs, d, t + 1, os⟩) : wpAny (MM W.w) A (joinParts out []) Q E ⟨h, gs, d, t, os⟩ := joinParts_nil q (le_line hs)
theorem v_ff {y : Str} {ty : Tok} (hs : y.length ≤ 1000000) (q : ∀ tk t', Q (.str y tk) ⟨h, gs, d, t', os⟩) : wpAny (MM W.w) A (formatField (.str y ty) Str.empty) Q E ⟨h, gs, d, t, os⟩ := formatField_str (fun t' k => q t' k) (le_line hs)
/-- a list made as a plain object, that will turn -/
def lsP (vs : List Value) (o : Obj) : Prop := ∃ n, o = { cls := .type "list", data := .seq vs.toArray n }
theorem nrm_lsP {vs : List Value} : ∀ o, lsP vs o → nrm o := fun o ⟨n, e⟩ vs e' => by subst e; cases e'
theorem v_newLP {vs : List Value} (F : Fm W h₀ Z R h) (hsz : vs.length ≤ 1000000) (q : ∀ D h', Fm W h₀ Z (R ++ [(D, lsP vs)]) h' → Q (.ref D) ⟨h', gs, d, t, os⟩) : wpAny (MM W.w) A (newList vs) Q E ⟨h, gs, d, t, os⟩ :=
  wpAny_newList (q _ _ (F.new (φ := lsP vs) _ rfl nrm_lsP ⟨_, rfl⟩)) (le_line hsz)
/-- a bound method of a list -/
def bmO (l : Addr) (o : Obj) : Prop := o.cls = .type "builtin_function_or_method" ∧ o.data = .fields #[.builtin "list.append", .ref l]
theorem nrm_bm {l : Addr} : ∀ o, bmO l o → nrm o := fun o ⟨e, _⟩ => nrm_cls e (by decide)
/-- the bound append; the list goes on as an own list -/
theorem v_bound {l : Addr} {vs : List Value} {expr : Bool} {φ : Obj → Prop} {L : Addr} (F : Fm W h₀ Z [(L, φ), (l, lsP vs)] h)
    (q : ∀ a h', Fm W h₀ Z [(L, φ), (l, lsO vs), (a, bmO l)] h' → Q (.ref a) ⟨h', gs, d, t + 1, os⟩) : wpAny (MM W.w) A (getAttr (.ref l) "append" expr) Q E ⟨h, gs, d, t, os⟩ := by
  obtain ⟨o, ho, n, rfl⟩ := F.atR (a := l) (φ := lsP vs) (by simp)
  refine app_load ⟨n, ho⟩ (q _ _ ?_)
  have G : Fm W h₀ Z [(L, φ), (l, lsO vs)] h := F.re (by rfl) (fun b o _ e => e) fun e he => by
    simp only [List.mem_cons, List.not_mem_nil, or_false] at he
    rcases he with rfl | rfl
    · exact F.r (L, φ) (by simp)
    · exact ⟨⟨_, ho, rfl, n, rfl⟩, nrm_ls⟩
  exact G.new (φ := bmO l) _ rfl nrm_bm ⟨rfl, rfl⟩
theorem v_addcall {l a : Addr} {vs : List Value} {v : Value} {φ : Obj → Prop} {L : Addr} {R' : List Ent} (F : Fm W h₀ Z ((L, φ) :: (l, lsO vs) :: (a, bmO l) :: R') h) (hsz : vs.length ≤ 1000000)
    (q : ∀ h', Fm W h₀ Z ((L, φ) :: (l, lsO (vs ++ [v])) :: (a, bmO l) :: R') h' → Q .none ⟨h', gs, d, t, os⟩) : wpAny (MM W.w) A (call (.ref a) [v]) Q E ⟨h, gs, d, t, os⟩ := by
  obtain ⟨o, ho, hc, hd⟩ := F.atR (a := a) (φ := bmO l) (by simp)
  have hl := at_ls.mp (F.atR (a := l) (φ := lsO vs) (by simp))
  refine wpAny_call (app_call hl ho hc hd (by rw [List.size_toArray]; exact le_line hsz) fun h' hl' hs => ?_)
  have := F.turn (i := 1) rfl hs.extBut nrm_ls (at_ls.mpr (show h'.IsList l (vs ++ [v]).toArray by simpa using hl'))
  simp only [List.set_cons_succ, List.set_cons_zero] at this
  exact q h' this
theorem kept_bm {a l : Addr} (x : At h a (bmO l)) : Kept W.w h (.ref a) := by
  obtain ⟨o, ho, hc, hd⟩ := x
  refine ⟨.machine, .inr (.inl rfl), fun A Q E s k q => ?_⟩
  show wpAny _ A (load a >>= _) Q E s
  refine wpAny_bind (wpAny_load (k _ _ ho) ?_)
  rw [hd]
  dsimp only
  rw [hc]
  exact wpAny_pure q
end
end Mine
namespace Mine
open PySem PySem.W PySem.Calls PyProof.Rows PySem.Builtin
theorem cells_names : ∀ (names : List (Str × NameKind)) (n : Nat) (acc : List (Str × Addr)), (cellsFrom n names acc).map (·.1) = ((names.filter fun x => x.2 == .cell).map (·.1)).reverse ++ acc.map (·.1)
  | [], _, _ => by simp [cellsFrom]
  | (x, k) :: r, n, acc => by
    unfold cellsFrom
    split
    · rename_i h
      rw [cells_names r]
      simp [h]
    · rename_i h
      rw [cells_names r]
      simp [h]
theorem lookup_of_mem {α : Type} : ∀ {l : List (Str × α)} {p : Str × α}, (l.map (·.1)).Nodup → p ∈ l → l.lookup p.1 = some p.2
  | q :: r, p, hn, hp => by
    rw [List.map_cons, List.nodup_cons] at hn
    rcases List.mem_cons.mp hp with rfl | hp
    · obtain ⟨a, b⟩ := p
      rw [List.lookup_cons, beq_self_eq_true]
    · have : (p.1 == q.1) = false := by
        rw [beq_eq_false_iff_ne]
        intro e
        exact hn.1 (e ▸ List.mem_map_of_mem hp)
      rw [List.lookup_cons, this]
      exact lookup_of_mem hn.2 hp
abbrev cellEnts (fd : FuncData) (L f : Addr) (binds : List (Str × Value)) : List Ent := (cellsFrom (L + 1) fd.scope.names []).reverse.map fun p => (p.2, clO (bindC (callEnvC fd L f).kindOf binds (fun _ => none) p.1))
section
variable {W : Wd} {A : Around} {E : Value → Shared → Prop} {h₀ h : Heap} {gs : Array GenState} {d : Drawn} {t : Nat} {os : OsState} {Z R : List Ent} {env : Env} {Q : Value → Shared → Prop} {x : Str} {v : Value} {m : Str → Option Value} {i : Nat} {pos : Pos}
theorem enterC {f : Addr} {o : Obj} {fd : FuncData} {body : List Stmt} {args : List Value} {binds : List (Str × Value)}
    (B : Base W h) (hz : Frz Z h) (hroom : A.depth < recursionLimit) (ho : h.get? f = some o) (hd : o.data = .func fd) (hcd : h.CodeRec fd.code fd.qualname)
    (hbody : fd.body = .stmts body) (hbind : bindArgs fd ⟨args, []⟩ = pure binds) (hcl : fd.closure = [])
    (hkind : ∀ L, ∀ x ∈ binds, fd.scope.names.lookup x.1 = some .local ∨ (fd.scope.names.lookup x.1 = some .cell ∧ ((cellsFrom (L + 1) fd.scope.names []).lookup x.1).isSome = true))
    (hnd : ((fd.scope.names.filter fun x => x.2 == .cell).map (·.1)).Nodup)
    (hco : fd.scope.isCoroutine = false) (hgen : fd.scope.isGenerator = false) (hk : fd.scope.kind = .function)
    (k : ∀ L h₁ t₁, Fm W h Z ((L, nsO (bindL (callEnvC fd L f).kindOf binds fun _ => none)) :: cellEnts fd L f binds) h₁ →
      wpAny (MM W.w) (A.deeper (callEnvC fd L f)) (execs body (callEnvC fd L f)) (fun fl s' => Q (flv fl) s')
        (fun e s' => wpAny (MM W.w) (A.deeper (callEnvC fd L f)) (leaving (callEnvC fd L f) e) (fun _ s'' => E e s'') (fun e' s'' => E e' s'') s') ⟨h₁, gs, d, t₁, os⟩) :
    wpAny (MM W.w) A (call (.ref f) args) Q E ⟨h, gs, d, t, os⟩ := by
  refine wpAny_call (codeAny_call_function hroom ho hd hco hgen hbody hcd ?_)
  rw [hbind, hcl]
  refine wpAny_pure (wpAny_newFunctionEnv_cells hk (hkind _) fun env he s' I => ?_)
  obtain ⟨⟨⟨h₁, t₁, rfl⟩, hns, hkeep, hle⟩, hc, hap, hab⟩ := I
  have hL : env.locals = h.objs.size := by rw [he]; rfl
  have henv : env = callEnvC fd h.objs.size f := he
  subst henv
  have FF : Fm W h Z ((h.objs.size, nsO (bindL (callEnvC fd h.objs.size f).kindOf binds fun _ => none)) :: cellEnts fd h.objs.size f binds) h₁ := by
    have mem : ∀ e ∈ cellEnts fd h.objs.size f binds, ∃ p ∈ cellsFrom (h.objs.size + 1) fd.scope.names [], e = (p.2, clO (bindC (callEnvC fd h.objs.size f).kindOf binds (fun _ => none) p.1)) := fun e he => by
      obtain ⟨p, hp, rfl⟩ := List.mem_map.mp he
      exact ⟨p, List.mem_reverse.mp hp, rfl⟩
    have nd : ((cellsFrom (h.objs.size + 1) fd.scope.names []).map (·.1)).Nodup := by
      rw [cells_names]; simpa using (List.reverse_perm _).nodup_iff.mpr hnd
    have big : ∀ e ∈ ((h.objs.size, nsO (bindL (callEnvC fd h.objs.size f).kindOf binds fun _ => none)) :: cellEnts fd h.objs.size f binds), h.objs.size ≤ e.1 := fun e he => by
      rcases List.mem_cons.mp he with rfl | he
      · exact Nat.le_refl _
      · obtain ⟨p, hp, rfl⟩ := mem e he
        exact Nat.le_of_lt (hab p.1 p.2 hp)
    refine ⟨B.keep hkeep, .of_keep hkeep, B, hz.kp (.of_keep hkeep), fun e he => ?_, fun e he => get_none (big e he), ?_, fun e he e' he' => (hz e he).1.ne (get_none (big e' he'))⟩
    · rcases List.mem_cons.mp he with rfl | he
      · exact ⟨at_ns.mpr hns, nrm_ns⟩
      · obtain ⟨p, hp, rfl⟩ := mem e he
        obtain ⟨o, e1, e2⟩ := hc p.1 p.2 (lookup_of_mem nd hp)
        exact ⟨⟨o, e1, e2⟩, nrm_cl⟩
    · rw [List.map_cons, List.nodup_cons]
      refine ⟨fun hm => ?_, ?_⟩
      · obtain ⟨e, he, q⟩ := List.mem_map.mp hm
        obtain ⟨p, hp, rfl⟩ := mem e he
        have := hab p.1 p.2 hp
        exact absurd q (Nat.ne_of_gt this)
      · have e : (cellEnts fd h.objs.size f binds).map (·.1) = ((cellsFrom (h.objs.size + 1) fd.scope.names []).map (·.2)).reverse := by
          simp [cellEnts, List.map_reverse, Function.comp_def]
        rw [e]
        exact (List.reverse_perm _).nodup_iff.mpr (List.pairwise_map.mpr hap)
  refine ⟨FF.base.nl, codeAny_func ?_⟩
  exact wpAny_mono (k h.objs.size h₁ t₁ FF) (fun fl s' q => by cases fl <;> exact q) fun _ _ q => q
theorem v_cell {c : Addr} (F : Fm W h₀ Z R h) (hc : env.cells.lookup x = some c) (hi : R[i]? = some (c, clO (some v))) (hk : env.scope.kind = .function) (hx : env.kindOf x = some .cell) (q : Q v ⟨h, gs, d, t, os⟩)
    (hd : (x == ("__debug__" : Str)) = false := by decide) : wpAny (MM W.w) A (eval (.Name x pos) env) Q E ⟨h, gs, d, t, os⟩ := wpAny_Name (wpAny_loadName_cell hk hx hc (F.at hi) q) hd
theorem v_free {c : Addr} (F : Fm W h₀ Z R h) (hc : env.cells.lookup x = some c) (hi : At h c (clO (some v))) (hk : env.scope.kind = .function) (hx : env.kindOf x = some .free) (q : Q v ⟨h, gs, d, t, os⟩)
    (hn : (x == ("__classdict__" : Str)) = false := by decide) (hd : (x == ("__debug__" : Str)) = false := by decide) : wpAny (MM W.w) A (eval (.Name x pos) env) Q E ⟨h, gs, d, t, os⟩ := wpAny_Name (wpAny_loadName_free hk hx hc hi q hn) hd
theorem v_storeC {R' : List Ent} {c : Addr} {v₀ : Option Value} {Q : Unit → Shared → Prop} (F : Fm W h₀ Z R h) (hc : env.cells.lookup x = some c) (hi : R[i]? = some (c, clO v₀)) (hk : env.scope.kind = .function) (hx : env.kindOf x = some .cell) (hR : R.set i (c, clO (some v)) = R')
    (q : ∀ h', Fm W h₀ Z R' h' → Q () ⟨h', gs, d, t, os⟩) : wpAny (MM W.w) A (storeName env x v) Q E ⟨h, gs, d, t, os⟩ :=
  wpAny_storeName_cell hk hx hc (F.at hi) fun h' hn hs => q h' (hR ▸ F.turn hi hs.extBut nrm_cl hn)
end
end Mine
namespace Mine
open PySem PySem.W PySem.Calls PyProof.Rows PySem.Builtin
theorem lookup_relabel_cell {env : Env} : ∀ {names : List (Str × NameKind)} {x : Str}, names.lookup x = some .cell →
    (names.map fun (n, k) => if (k == NameKind.free && env.scope.kind == .function && env.kindOf n == some .cell) then (n, NameKind.cell) else (n, k)).lookup x = some .cell
  | [], _, h => by simp at h
  | (n, k) :: r, x, h => by
    have ih := @lookup_relabel_cell env r x
    show List.lookup x ((if (k == NameKind.free && env.scope.kind == .function && env.kindOf n == some .cell) = true then (n, NameKind.cell) else (n, k)) :: _) = _
    cases hx : x == n with
    | true =>
      simp only [List.lookup_cons, hx] at h
      cases h
      simp [List.lookup_cons, hx]
    | false =>
      simp only [List.lookup_cons, hx] at h
      by_cases hc : (k == NameKind.free && env.scope.kind == .function && env.kindOf n == some .cell) = true
      · rw [if_pos hc]; simp only [List.lookup_cons, hx]; exact ih h
      · rw [if_neg hc]; simp only [List.lookup_cons, hx]; exact ih h
theorem Fm.permJ {W : Wd} {h₀ h : Heap} {Z R R' : List Ent} (F : Fm W h₀ Z R h) (hp : R.Perm R') : Fm W h₀ Z R' h :=
  ⟨F.base, F.kp, F.base₀, F.z, fun e he => F.r e (hp.mem_iff.mpr he), fun e he => F.rf e (hp.mem_iff.mpr he), ((hp.map _).nodup_iff).mp F.rn, fun e he e' he' => F.zr e he e' (hp.mem_iff.mpr he')⟩
section
variable {W : Wd} {A : Around} {E : Value → Shared → Prop} {h₀ h : Heap} {gs : Array GenState} {d : Drawn} {t : Nat} {os : OsState} {Z R : List Ent} {env : Env}
  {m : Str → Option Value} {x : Str} {v : Value} {pos : Pos} {i : Nat}
/-- the variables of a comprehension of which one is a cell -/
theorem newEnvK {scope : Scope} {cl : List (Str × Addr)} {Q : Env → Shared → Prop} (hn : ∀ (n : Nat), cellsFrom n scope.names cl = (x, n) :: cl) (hp : ∀ h : Heap, pushCells h scope.names = h.push { cls := .type "cell", data := .cell none })
    (hQ : ∀ C K h', Fm W h₀ Z (R ++ [(C, nsO fun _ => none), (K, clO none)]) h' → Q (newEnv scope C env.globals ((x, K) :: cl) env.qual none .none (some env) builtinsNs) ⟨h', gs, d, t, os⟩) (F : Fm W h₀ Z R h) :
    wpAny (MM W.w) A (newFunctionEnv scope env.globals cl [] env.qual none .none (some env)) Q E ⟨h, gs, d, t, os⟩ := by
  simp only [newFunctionEnv, Option.isSome_some, if_true]
  refine wpAny_bind (wpAny_alloc ?_)
  refine wpAny_bind (wpAny_layCells _ (fun name kind cells => by cases hkc : kind == NameKind.cell <;> simp [hkc]) _ _ _ _ ?_)
  rw [hn, hp]
  refine wpAny_bind ?_
  rw [List.forIn_nil]
  refine wpAny_pure (wpAny_pure ?_)
  have F1 := F.new (φ := nsO fun _ => none) { cls := .type "dict", data := .dict #[] } rfl nrm_ns ⟨#[], _, rfl, (fun e he => absurd he (by simp)), fun _ => rfl⟩
  have F2 := F1.new (φ := clO none) { cls := .type "cell", data := .cell none } rfl nrm_cl rfl
  exact hQ _ _ _ (by simpa using F2)
theorem comp_useK {elt iter : Expr} {px py : Pos} {ifs : List Expr} {scope : Scope} {cl : List (Str × Addr)} {y : Str} {Q : Shared → Prop}
    {it : Addr} {n : Nat} {item : Nat → Value → Prop} {ι : Nat → Obj → Prop} {live : Heap → Prop} (I : Iter W A it n item ι live) (F : Fm W h₀ Z (R ++ [(it, ι 0)]) h)
    (J : Nat → List Value → Prop) (hlive : ∀ Z' h' R', (∀ e ∈ Z, e ∈ Z') → Fm W h₀ Z' (R ++ R') h' → live h') (hn : n ≤ 1000000) (J0 : J 0 [])
    (hself : ∀ {E : Value → Shared → Prop} {Q : Value → Shared → Prop} {s : Shared}, At s.heap it (ι 0) → Q (.ref it) s → wpAny (MM W.w) A (pyIter (.ref it)) Q E s)
    (hcl : ∀ (n : Nat), cellsFrom n scope.names cl = (x, n) :: cl) (hpc : ∀ h : Heap, pushCells h scope.names = h.push { cls := .type "cell", data := .cell none }) (hkind : scope.kind = .function) (hx : scope.names.lookup x = some .cell)
    (hi : R[i]? = some (env.locals, nsO m)) (hek : env.scope.kind = .function) (hy : env.kindOf y = some .local)
    (turn : ∀ E' D C K k Z' ys ι' h' t' v, k < n → J k ys → ys.length ≤ k → (∀ e ∈ Z, e ∈ Z') → Fm W h₀ Z' (R ++ [(it, ι'), (D, lsO ys), (C, nsO fun _ => none), (K, clO (some v))]) h' → item k v →
      wpAny (MM W.w) A (testsOf ifs (compEnvC scope ((x, K) :: cl) C env)) (fun ok s₃ => if ok = true then
          wpAny (MM W.w) A (eval elt (compEnvC scope ((x, K) :: cl) C env)) (fun y s₄ => ∃ Z'' h₄ t₄, s₄ = ⟨h₄, gs, d, t₄, os⟩ ∧ Fm W h₀ Z'' (R ++ [(it, ι'), (D, lsO ys), (C, nsO fun _ => none), (K, clO (some v))]) h₄ ∧ (∀ e ∈ Z, e ∈ Z'') ∧ J (k + 1) (ys ++ [y])) E' s₃
        else ∃ Z'' h₄ t₄, s₃ = ⟨h₄, gs, d, t₄, os⟩ ∧ Fm W h₀ Z'' (R ++ [(it, ι'), (D, lsO ys), (C, nsO fun _ => none), (K, clO (some v))]) h₄ ∧ (∀ e ∈ Z, e ∈ Z'') ∧ J (k + 1) ys) E' ⟨h', gs, d, t', os⟩)
    (done : ∀ D Z' ys h' t', h₀.get? D = none → J n ys → (∀ e ∈ Z, e ∈ Z') → Fm W h₀ ((D, lsO ys) :: Z') (R.set i (env.locals, nsO (upd m y (.ref D)))) h' → Q ⟨h', gs, d, t', os⟩) :
    CompOn W A E env elt iter x px ifs scope pos cl (fun acc C => compPost (MM W.w) A E (some (assign (.Name y py) env)) (fun _ s' => Q s') acc C) (.ref it) ⟨h, gs, d, t, os⟩ := by
  refine wpAny_newObj_type ?_
  dsimp only
  have F1 := F.new (φ := lsO []) { cls := .type "list", dict := none, data := .seq ([] : List Value).toArray } rfl nrm_ls ⟨rfl, _, rfl⟩
  generalize h.push { cls := .type "list", dict := none, data := .seq ([] : List Value).toArray } = H2 at F1 ⊢
  generalize h.objs.size = D at F1 ⊢
  refine newEnvK hcl hpc (fun C K h₁ F2' => ?_) F1
  have F2 : Fm W h₀ Z (R ++ [(it, ι 0), (D, lsO []), (C, nsO fun _ => none), (K, clO none)]) h₁ := by simpa using F2'
  clear F2' F1
  have post : ∀ D C K Z' ys v0 h' t', J n ys → (∀ e ∈ Z, e ∈ Z') → Fm W h₀ Z' (R ++ [(D, lsO ys), (C, nsO fun _ => none), (K, clO v0)]) h' →
      wpAny (MM W.w) A (assign (.Name y py) env (.ref D)) (fun _ s'' => ∃ m, s''.heap.Ns C m ∧ ∀ h', Heap.SameBut C s''.heap h' → Q { s'' with heap := h' }) E ⟨h', gs, d, t', os⟩ := by
    intro D C K Z' ys v0 h' t' hJ hZ G
    have lt : i < R.length := (List.getElem?_eq_some_iff.mp hi).1
    refine wpAny_assign_Name (v_store (i := i) (m := m) G (by rw [List.getElem?_append_left lt]; exact hi) hek hy fun h₂ G2 => ?_)
    rw [List.set_append_left _ _ lt] at G2
    have G2' : Fm W h₀ Z' ((R.set i (env.locals, nsO (upd m y (.ref D))) ++ [(D, lsO ys)]) ++ [(C, nsO fun _ => none), (K, clO v0)]) h₂ := by simpa using G2
    have G3 : Fm W h₀ Z' ((R.set i (env.locals, nsO (upd m y (.ref D))) ++ [(D, lsO ys)]) ++ [(C, nsO fun _ => none)]) h₂ := by
      refine Fm.cut (R' := [(K, clO v0)]) ?_
      simpa using G2'
    refine ⟨fun _ => none, at_ns.mp (G3.atR (φ := nsO fun _ => none) (by simp)), fun h'' hs => done D Z' ys h'' _ (G3.rf (D, lsO ys) (by simp)) hJ hZ ?_⟩
    simpa using (G3.out hs.extBut).frz
  have loop : ∀ s₃ : Shared, s₃ = ⟨h₁, gs, d, t, os⟩ →
      codeAny (MM W.w) A (.compLoop (.ListComp elt [⟨.Name x px, iter, ifs, 0⟩] scope pos) 0 (.ref it) (.ref D) (compEnvC scope ((x, K) :: cl) C env)) (compPost (MM W.w) A E (some (assign (.Name y py) env)) (fun _ s' => Q s') (.ref D) C) s₃ := by
    rintro s₃ rfl
    refine codeAny_compLoop_tests (fun k s' => ∃ i Z' ys v0 h' t', k = n + 1 - i ∧ i ≤ n ∧ s' = ⟨h', gs, d, t', os⟩ ∧ J i ys ∧ ys.length ≤ i ∧ (∀ e ∈ Z, e ∈ Z') ∧
      Fm W h₀ Z' (R ++ [(it, ι i), (D, lsO ys), (C, nsO fun _ => none), (K, clO v0)]) h') ?_ (n + 1) ⟨0, Z, [], none, _, _, rfl, Nat.zero_le _, rfl, J0, Nat.le_refl _, fun _ e => e, F2⟩
    rintro k s' ⟨i, Z', ys, v0, h', t', rfl, hi, rfl, hJ, hys, hZ, G⟩
    have hlv := hlive Z' h' _ hZ G
    have hat : At h' it (ι i) := G.atR (by simp)
    by_cases hlt : i < n
    · refine I.next i hlt hlv hat fun v h₂ t₂ hv hx2 hat2 => ?_
      have G2 := G.turnM hx2 (I.nr _) hat2
      have G2' : Fm W h₀ Z' ((R ++ [(it, ι (i + 1)), (D, lsO ys), (C, nsO fun _ => none)]) ++ (K, clO v0) :: []) h₂ := by simpa using G2
      refine wpAny_assign_Name (wpAny_storeName_cell (env := compEnvC scope ((x, K) :: cl) C env) (by simp [compEnvC, relabel, hkind]) (lookup_relabel_cell hx) (by simp [compEnvC]) (G2'.atR (φ := clO v0) (List.mem_append.mpr (.inr (List.mem_singleton.mpr rfl)))) fun h₃ hn₃ hs₃ => ?_)
      have G3 := G2'.turnM (φ' := clO (some v)) hs₃.extBut nrm_cl hn₃
      have G3' : Fm W h₀ Z' (R ++ [(it, ι (i + 1)), (D, lsO ys), (C, nsO fun _ => none), (K, clO (some v))]) h₃ := by simpa using G3
      refine wpAny_mono (turn _ D C K i Z' ys _ h₃ _ v hlt hJ hys hZ G3' hv) (fun ok s₃ h₃ => ?_) fun _ _ z => z
      cases ok with
      | false =>
        obtain ⟨Z'', h₄, t₄, rfl, G4, hZ4, hJ4⟩ := h₃
        exact ⟨n + 1 - (i + 1), by omega, i + 1, Z'', ys, _, h₄, t₄, rfl, hlt, rfl, hJ4, by omega, hZ4, G4⟩
      | true =>
        refine wpAny_mono h₃ (fun y s₄ h₄ => ?_) fun _ _ z => z
        obtain ⟨Z'', h₄, t₄, rfl, G4, hZ4, hJ4⟩ := h₄
        have G4' : Fm W h₀ Z'' ((R ++ [(it, ι (i + 1))]) ++ (D, lsO ys) :: [(C, nsO fun _ => none), (K, clO (some v))]) h₄ := by simpa using G4
        refine wpAny_list_append (at_ls.mp (G4'.atR (φ := lsO ys) (by simp))) (fun h₅ hl₅ hs₅ => ?_) (le_line (by simp; omega))
        have G5 := G4'.turnM (φ' := lsO (ys ++ [y])) hs₅.extBut nrm_ls (at_ls.mpr (by simpa using hl₅))
        exact ⟨n + 1 - (i + 1), by omega, i + 1, Z'', ys ++ [y], _, h₅, t₄, rfl, hlt, rfl, hJ4, by simp; omega, hZ4, by simpa using G5⟩
    · have : i = n := by omega
      subst this
      refine I.stop hlv hat fun h₂ hx2 => ?_
      have G2 : Fm W h₀ Z' (R ++ [(D, lsO ys), (C, nsO fun _ => none), (K, clO v0)]) h₂ := by
        refine Fm.out (a := it) (φ := ι i) (h := h') (G.permJ ?_) hx2
        simp only [List.append_assoc]
        refine List.Perm.append_left _ ?_
        exact List.perm_append_comm (l₁ := [(it, ι i)]) (l₂ := [(D, lsO ys), (C, nsO fun _ => none), (K, clO v0)])
      exact post D C K Z' ys v0 h₂ t' hJ hZ G2
  exact codeAny_compStart_list (loop _ rfl) (hself (F2.atR (by simp)) (loop _ rfl))
end
end Mine
namespace Mine
open PySem PySem.W PySem.Calls PyProof.Rows PySem.Builtin
inductive IsInts : List Value → List Int → Prop
  | nil : IsInts [] []
  | cons {k : Int} {u : Tok} {vs : List Value} {ks : List Int} : IsInts vs ks → IsInts (.int k u :: vs) (k :: ks)
theorem IsInts.app {vs ws : List Value} {ks js : List Int} (x : IsInts vs ks) (y : IsInts ws js) : IsInts (vs ++ ws) (ks ++ js) := by
  induction x with
  | nil => exact y
  | cons _ ih => exact .cons ih
theorem IsInts.len {vs : List Value} {ks : List Int} (x : IsInts vs ks) : vs.length = ks.length := by
  induction x with
  | nil => rfl
  | cons _ ih => simp [ih]
theorem IsInts.at {vs : List Value} {ks : List Int} (x : IsInts vs ks) : ∀ {ws}, IsInts ws ks → ∀ j (h1 : j < vs.length) (h2 : j < ws.length), ∃ k u u', vs[j] = .int k u ∧ ws[j] = .int k u' := by
  induction x with
  | nil => intro ws _ j h1; exact absurd h1 (Nat.not_lt_zero _)
  | cons _ ih =>
    intro ws y j h1 h2
    cases y with
    | cons y =>
      cases j with
      | zero => exact ⟨_, _, _, rfl, rfl⟩
      | succ j => exact ih y j (by simpa using h1) (by simpa using h2)
section
variable {W : Wd} {A : Around} {E : Value → Shared → Prop} {h₀ h : Heap} {gs : Array GenState} {d : Drawn} {t : Nat} {os : OsState} {Z R : List Ent} {Q : Value → Shared → Prop}
theorem v_inB {l : Addr} {bs : List Bool} (hl : h.IsList l (bs.map Value.bool).toArray) (q : Q (.bool (bs.any id)) ⟨h, gs, d, t, os⟩) : wpAny (MM W.w) A (compareOp .In (.bool true) (.ref l)) Q E ⟨h, gs, d, t, os⟩ := by
  refine PySem.SeqAt.in_listAt (fun y => match y with | .bool b => b == true | _ => false) hl (fun y hy => ?_) ?_
  · obtain ⟨b, _, rfl⟩ := List.mem_map.mp (List.mem_toArray.mp hy)
    exact PySem.SeqAt.EqAt.bool_bool b true
  · have : ((bs.map Value.bool).toArray.any fun y => match y with | .bool b => b == true | _ => false) = bs.any id := by
      rw [List.any_toArray, List.any_map]
      congr 1
      funext b
      cases b <;> rfl
    rw [this]; exact q
theorem v_neI {l b : Addr} {vs ws : List Value} {ks : List Int} (hl : h.IsList l vs.toArray) (hb : h.IsList b ws.toArray) (x : IsInts vs ks) (y : IsInts ws ks) (hu : A.units < cLine) (q : Q (.bool false) ⟨h, gs, d, t, os⟩) :
    wpAny (MM W.w) A (compareOp .NotEq (.ref l) (.ref b)) Q E ⟨h, gs, d, t, os⟩ := by
  refine PySem.SeqAt.RcNeAt.lists (e := fun _ => true) hl hb (by simp [x.len, y.len]) hu (fun j h1 h2 => ?_) _ _ E Q ?_
  · obtain ⟨k, u, u', e1, e2⟩ := x.at y j (by simpa using h1) (by simpa using h2)
    have e1' : vs.toArray[j] = .int k u := by simpa using e1
    have e2' : ws.toArray[j] = .int k u' := by simpa using e2
    rw [e1', e2']
    have := PySem.SeqAt.EqAt.int_int (A := A.in1) (s := ⟨h, gs, d, t, os⟩) k u k u'
    rwa [beq_self_eq_true] at this
  · have : (!(List.range vs.toArray.size).all fun _ => true) = false := by simp
    rw [this]; exact q
theorem v_isnotB {a b : Bool} (q : Q (.bool (a != b)) ⟨h, gs, d, t, os⟩) : wpAny (MM W.w) A (compareOp .IsNot (.bool a) (.bool b)) Q E ⟨h, gs, d, t, os⟩ := by
  have e : (!(Value.bool a == Value.bool b)) = (a != b) := by cases a <;> cases b <;> rfl
  exact wpAny_pure (a := Value.bool (!(Value.bool a == Value.bool b))) (by rw [e]; exact q)
end
end Mine
namespace Mine
open PySem PySem.W PySem.Calls PyProof.Rows PySem.Builtin PySem.Builtin.Str
theorem lenE : (Str.empty : Str).length = 0 := rfl
section
variable {W : Wd} {A : Around} {E : Value → Shared → Prop} {h₀ h : Heap} {gs : Array GenState} {d : Drawn} {t : Nat} {os : OsState} {Z R : List Ent} {env : Env} {Q : Value → Shared → Prop} {x : Str} {v : Value} {m : Str → Option Value} {i : Nat} {pos : Pos}
theorem v_meth2 {s : Shared} {o e e' : Expr} {name : Str} {apos : Pos} (q : wpAny (MM W.w) A (eval o env) (fun ov s₁ => MethodOnS pg W.w A E name ov pos [(false, eval e env), (false, eval e' env)] Q s₁) E s)
    (hbase : attributeBase o name env (eval o env) = eval o env := by rfl) (hs : starEach [e, e'] env = [(false, eval e env), (false, eval e' env)] := by rfl) (hline : (apos.endLine == pos.line) = true := by rfl) :
    wpAny (MM W.w) A (eval (.Call (.Attribute o name apos) [e, e'] [] pos) env) Q E s := Call_method2 hbase hs hline q
theorem v_mreplace {y : Str} {u : Tok} {e e' : Sem Value} {s : Shared}
    (q : wpAny (MM W.w) A e (fun v s₁ => wpAny (MM W.w) A e' (fun v' s₂ => wpAny (MM W.w) A (call (.builtin "str.replace") [.str y u, v, v']) Q E s₂) E s₁) E s) : MethodOnS pg W.w A E "replace" (.str y u) pos [(false, e), (false, e')] Q s :=
  ⟨"str", "str.replace", PySem.F.plainAttrs_str, PySem.F.slot_str_replace, PySem.F.type_str_replace, typeIs_str _ _ _, (fun _ e => nomatch e),
    Calls.callWith_builtin rfl (Calls.evalArgs_plain (Calls.spliced_cons (wpAny_mono q (fun _ _ h₁ => Calls.spliced_cons (wpAny_mono h₁ (fun _ _ h₂ => Calls.spliced_nil h₂) fun _ _ e => e)) fun _ _ e => e)))⟩
/-- replace where the sought str is not there -/
theorem n_cell {c : Addr} (hx : env.kindOf x = some .cell) (F : Fm W h₀ Z R h) (hc : env.cells.lookup x = some c) (hi : R[i]? = some (c, clO (some v))) (hk : env.scope.kind = .function) (q : Q v ⟨h, gs, d, t, os⟩)
    (hd : (x == ("__debug__" : Str)) = false := by decide) : wpAny (MM W.w) A (eval (.Name x pos) env) Q E ⟨h, gs, d, t, os⟩ := v_cell F hc hi hk hx q hd
theorem n_storeC {R' : List Ent} {c : Addr} {v₀ : Option Value} {Q : Unit → Shared → Prop} (hx : env.kindOf x = some .cell) (F : Fm W h₀ Z R h) (hc : env.cells.lookup x = some c) (hi : R[i]? = some (c, clO v₀)) (hk : env.scope.kind = .function) (hR : R.set i (c, clO (some v)) = R')
    (q : ∀ h', Fm W h₀ Z R' h' → Q () ⟨h', gs, d, t, os⟩) : wpAny (MM W.w) A (storeName env x v) Q E ⟨h, gs, d, t, os⟩ := v_storeC F hc hi hk hx hR q
theorem n_localD (q : Q v ⟨h, gs, d, t, os⟩) (hx : env.kindOf x = some .local := by with_unfolding_all rfl) (F : Fm W h₀ Z R h := by assumption) (hi : R[i]? = some (env.locals, nsO m) := by with_unfolding_all rfl) (hv : m x = some v := by wtm_at "xlook") (hk : env.scope.kind = .function := by with_unfolding_all rfl)
    (hd : (x == ("__debug__" : Str)) = false := by decide) : wpAny (MM W.w) A (eval (.Name x pos) env) Q E ⟨h, gs, d, t, os⟩ := v_local F hi hv hk hx q hd
theorem n_cellD {c : Addr} (q : Q v ⟨h, gs, d, t, os⟩) (hx : env.kindOf x = some .cell := by with_unfolding_all rfl) (F : Fm W h₀ Z R h := by assumption) (hc : env.cells.lookup x = some c := by with_unfolding_all rfl) (hi : R[i]? = some (c, clO (some v)) := by with_unfolding_all rfl) (hk : env.scope.kind = .function := by with_unfolding_all rfl)
    (hd : (x == ("__debug__" : Str)) = false := by decide) : wpAny (MM W.w) A (eval (.Name x pos) env) Q E ⟨h, gs, d, t, os⟩ := v_cell F hc hi hk hx q hd
theorem n_storeCD {R' : List Ent} {c : Addr} {v₀ : Option Value} {Q : Unit → Shared → Prop} (q : ∀ h', Fm W h₀ Z R' h' → Q () ⟨h', gs, d, t, os⟩) (hx : env.kindOf x = some .cell := by with_unfolding_all rfl) (F : Fm W h₀ Z R h := by assumption) (hc : env.cells.lookup x = some c := by with_unfolding_all rfl) (hi : R[i]? = some (c, clO v₀) := by with_unfolding_all rfl) (hk : env.scope.kind = .function := by with_unfolding_all rfl)
    (hR : R.set i (c, clO (some v)) = R' := by simp only [List.set_cons_zero, List.set_cons_succ]; with_unfolding_all rfl) : wpAny (MM W.w) A (storeName env x v) Q E ⟨h, gs, d, t, os⟩ := v_storeC F hc hi hk hx hR q
theorem noE {M : Model} {α : Type} {c : Sem α} {Q : α → Shared → Prop} {s : Shared} (h : ∀ E1, wpAny M A c Q E1 s) : wpAny M A c Q E s := h E
/-- a while loop, what is asked behind a turn hidden -/
theorem v_whileQ {test : Expr} {body : List Stmt} {Q : Flow → Shared → Prop} (F : Fm W h₀ Z R h) (J : Nat → List Ent → List Ent → Prop) (n : Nat) (J0 : J n Z R)
    (turn : ∀ E' (Q' : Flow → Shared → Prop) n Z' R' h' t', J n Z' R' → Fm W h₀ Z' R' h' → (∀ m Z'' R'' h'' t'', m < n → J m Z'' R'' → Fm W h₀ Z'' R'' h'' → Q' .next ⟨h'', gs, d, t'', os⟩ ∧ Q' .cont ⟨h'', gs, d, t'', os⟩) →
      (∀ s, Q .next s → Q' .brk s) → (∀ v s, Q (.ret v) s → Q' (.ret v) s) →
      wpAny (MM W.w) A (isTrue test env (eval test env)) (fun b s₂ => if b = true then wpAny (MM W.w) A (execs body env) Q' E' s₂ else Q .next s₂) E' ⟨h', gs, d, t', os⟩) :
    codeAny (MM W.w) A (.whileLoop test body [] env) (fun r s' => match r with | .ok f => Q f s' | .error e => cameBackBy (MM W.w) A env E e s') ⟨h, gs, d, t, os⟩ :=
  v_while F J n J0 fun E' n Z' R' h' t' hJ G => turn E' _ n Z' R' h' t' hJ G (fun m Z'' R'' h'' t'' a b c => ⟨⟨m, a, Z'', R'', h'', t'', rfl, b, c⟩, ⟨m, a, Z'', R'', h'', t'', rfl, b, c⟩⟩) (fun _ x => x) (fun _ _ x => x)
/-- the same, the state of the loop told by what varies in it (z, a, b, c, u) -/
theorem v_whileJ {ζ α β γ : Type} {test : Expr} {body : List Stmt} {Q : Flow → Shared → Prop} (J : Nat → ζ → α → β → γ → Tok → Prop) (Zf : ζ → List Ent) (Rf : α → β → γ → List Ent) (n : Nat) (z : ζ) (a : α) (b : β) (c : γ) (u : Tok)
    (F : Fm W h₀ (Zf z) (Rf a b c) h) (J0 : J n z a b c u)
    (turn : ∀ E' (Q' : Flow → Shared → Prop) n z a b c u h' t', J n z a b c u → Fm W h₀ (Zf z) (Rf a b c) h' → (∀ m z a b c u h'' t'', m < n → Fm W h₀ (Zf z) (Rf a b c) h'' → J m z a b c u → Q' .next ⟨h'', gs, d, t'', os⟩ ∧ Q' .cont ⟨h'', gs, d, t'', os⟩) →
      (∀ s, Q .next s → Q' .brk s) → (∀ v s, Q (.ret v) s → Q' (.ret v) s) →
      wpAny (MM W.w) A (isTrue test env (eval test env)) (fun b s₂ => if b = true then wpAny (MM W.w) A (execs body env) Q' E' s₂ else Q .next s₂) E' ⟨h', gs, d, t', os⟩) :
    codeAny (MM W.w) A (.whileLoop test body [] env) (fun r s' => match r with | .ok f => Q f s' | .error e => cameBackBy (MM W.w) A env E e s') ⟨h, gs, d, t, os⟩ :=
  v_whileQ F (fun n Z' R' => ∃ z a b c u, J n z a b c u ∧ Z' = Zf z ∧ R' = Rf a b c) n ⟨z, a, b, c, u, J0, rfl, rfl⟩ fun E' Q' n Z' R' h' t' ⟨z, a, b, c, u, hJ, e1, e2⟩ G qn => by
    subst e1 e2
    exact turn E' Q' n z a b c u h' t' hJ G fun m z a b c u h'' t'' hm G hJ => qn m _ _ h'' t'' hm ⟨z, a, b, c, u, hJ, rfl, rfl⟩ G
/-- an element of a list, told what it is -/
theorem v_itemX {value slice : Expr} {a : Addr} {l : List Value} {k : Int} {u : Tok} {x : Value} {Q : Value → Shared → Prop} (hl : h.IsList a l.toArray) (h0 : 0 ≤ k) (hfit : k < 2 ^ 63) (hx : l[k.toNat]? = some x) (q : Q x ⟨h, gs, d, t, os⟩)
    (hs : subscripted slice false (.ref a) (.int k u) = operate [.ref a, .int k u] (getItem (.ref a) (.int k u)) := by with_unfolding_all rfl) :
    wpAny (MM W.w) A (subscriptTail value slice (.ref a) (.int k u)) Q E ⟨h, gs, d, t, os⟩ :=
  v_item hl h0 (by have := (List.getElem?_eq_some_iff.mp hx).1; omega) hfit (fun y hy => by rw [← Option.some.inj (hx.symm.trans hy)]; exact q) hs
/-- the same with more that varies -/
theorem v_whileJ5 {ζ α β γ δ ε : Type} {test : Expr} {body : List Stmt} {Q : Flow → Shared → Prop} (J : Nat → ζ → α → β → γ → δ → ε → Tok → Prop) (Zf : ζ → List Ent) (Rf : α → β → γ → δ → ε → List Ent) (n : Nat) (z : ζ) (a : α) (b : β) (c : γ) (x : δ) (y : ε) (u : Tok)
    (F : Fm W h₀ (Zf z) (Rf a b c x y) h) (J0 : J n z a b c x y u)
    (turn : ∀ E' (Q' : Flow → Shared → Prop) n z a b c x y u h' t', J n z a b c x y u → Fm W h₀ (Zf z) (Rf a b c x y) h' → (∀ m z a b c x y u h'' t'', m < n → Fm W h₀ (Zf z) (Rf a b c x y) h'' → J m z a b c x y u → Q' .next ⟨h'', gs, d, t'', os⟩ ∧ Q' .cont ⟨h'', gs, d, t'', os⟩) →
      (∀ s, Q .next s → Q' .brk s) → (∀ v s, Q (.ret v) s → Q' (.ret v) s) →
      wpAny (MM W.w) A (isTrue test env (eval test env)) (fun b s₂ => if b = true then wpAny (MM W.w) A (execs body env) Q' E' s₂ else Q .next s₂) E' ⟨h', gs, d, t', os⟩) :
    codeAny (MM W.w) A (.whileLoop test body [] env) (fun r s' => match r with | .ok f => Q f s' | .error e => cameBackBy (MM W.w) A env E e s') ⟨h, gs, d, t, os⟩ :=
  v_whileQ F (fun n Z' R' => ∃ z a b c x y u, J n z a b c x y u ∧ Z' = Zf z ∧ R' = Rf a b c x y) n ⟨z, a, b, c, x, y, u, J0, rfl, rfl⟩ fun E' Q' n Z' R' h' t' ⟨z, a, b, c, x, y, u, hJ, e1, e2⟩ G qn => by
    subst e1 e2
    exact turn E' Q' n z a b c x y u h' t' hJ G fun m z a b c x y u h'' t'' hm G hJ => qn m _ _ h'' t'' hm ⟨z, a, b, c, x, y, u, hJ, rfl, rfl⟩ G
end
end Mine
namespace Mine
/-- rows of tactics, told as lists in brackets: a word of a row. `?` is a goal left open, `!` an assumption, `~` rfl with all unfolded, 'key what wtm_at "key" finds, %word a string -/
def rdWord (t : String) : Lean.MacroM Lean.Syntax :=
  if t == "_" then `(_) else if t == "?" then `(?_) else if t == "!" then `(by assumption) else if t == "~" then `(by with_unfolding_all rfl)
  else if t.startsWith "'" then do return (← `(by wtm_at $(Lean.quote (t.drop 1).toString)))
  else if t.startsWith "%" then return Lean.Syntax.mkStrLit (t.drop 1).toString
  else match t.toNat? with
    | some n => return (Lean.quote n : Lean.TSyntax `term)
    | none => return Lean.mkIdent t.toName
def rdTac (s : Lean.Syntax) : Lean.MacroM (Lean.TSyntax `tactic) :=
  if s.isIdent then
    if s.getId == `assumption then `(tactic| assumption) else if s.getId == `omega then `(tactic| omega) else if s.getId == `decide then `(tactic| decide)
    else if s.getId == `rfl then `(tactic| rfl) else `(tactic| simp)
  else return ⟨s⟩
def rdFirst (ts : Array (Lean.TSyntax `tactic)) : Lean.MacroM Lean.Syntax := `(tactic| first $[| $ts:tactic]* | fail)
def rdHoles (n : Nat) : Lean.MacroM (Lean.TSyntax `tactic) := do let h ← `(_); let xs := Array.replicate n h; `(tactic| intro $[$xs]*)
/-- a list of a row, by its first word -/
def rdNode (x : Lean.Syntax) (xs : Array Lean.Syntax) : Lean.MacroM Lean.Syntax := do
  let a : Lean.TSyntax `term := ⟨xs[0]?.getD .missing⟩
  let go (f : Lean.TSyntax `tactic → Lean.MacroM Lean.Syntax) : Lean.MacroM Lean.Syntax := do f (← rdTac a)
  match (if x.isIdent then x.getId.toString else "") with
  | "first" => rdFirst (← xs.mapM rdTac)
  | "do" => let ts ← xs.mapM rdTac; `(tactic| ($[$ts];*))
  | "exact" => `(tactic| exact $a)
  | "refine" => `(tactic| refine $a)
  | "show" => `(tactic| show $a)
  | "wp" => `(tactic| with_reducible show wpAny _ _ $a _ _ _)
  | "wr" => go fun t => `(tactic| with_reducible $t:tactic)
  | "wu" => go fun t => `(tactic| with_unfolding_all $t:tactic)
  | "intro" => rdHoles a.raw.toNat
  | "at" => `(tactic| wtm_at $(Lean.quote a.raw.getId.toString))
  | "by" => go fun t => `(by $t:tactic)
  | "rules" => rdFirst (← xs.mapM fun x => `(tactic| with_reducible refine $(⟨x⟩) ?_))
  | "exacts" => rdFirst (← xs.mapM fun x => `(tactic| exact $(⟨x⟩)))
  | "places" => rdFirst (← (xs.drop 1).mapM fun k => `(tactic| with_reducible refine $a (i := $(⟨k⟩)) ?_))
  | "is" => `(Lean.Parser.Term.namedArgument| ($(⟨a.raw⟩) := $(⟨xs[1]?.getD .missing⟩)))
  | "list" => let ts : Array (Lean.TSyntax `term) := xs.map (⟨·⟩); `([$[$ts],*])
  | "mk" => let ts : Array (Lean.TSyntax `term) := xs.map (⟨·⟩); `(⟨$[$ts],*⟩)
  | "and" => `($a ∧ $(⟨xs[1]?.getD .missing⟩))
  | "cons" => `($a :: $(⟨xs[1]?.getD .missing⟩))
  | _ => return Lean.Syntax.mkApp ⟨x⟩ (xs.map (⟨·⟩))
def rdStep (st : List (Array Lean.Syntax)) (t : String) : Lean.MacroM (List (Array Lean.Syntax)) := do
  if t == "" then return st
  else if t == "(" then return #[] :: st
  else if t == ")" then match st with
    | xs :: ys :: r => return ys.push (← rdNode (xs[0]?.getD .missing) (xs.drop 1)) :: r
    | _ => return st
  else match st with
    | xs :: r => return xs.push (← rdWord t) :: r
    | [] => return st
/-- the tactic that the rows tell: the first row that does it -/
def rd (s : String) : Lean.MacroM (Lean.TSyntax `tactic) := do
  match ← ((((s.replace "\n" " ").replace "(" " ( ").replace ")" " ) ").splitOn " ").foldlM rdStep [#[]] with
  | xs :: _ => return ⟨← rdFirst (← xs.mapM rdTac)⟩
  | [] => return ⟨.missing⟩
end Mine
namespace Mine
open PySem PySem.W PySem.Calls PyProof.Rows PySem.Builtin
local macro_rules | `(tactic| wtm_at "om") => rd "(wr (first assumption (exact (Nat.le_trans ! (by decide))) (exact (Int.natCast_nonneg _)) (exact (Eq.refl (is α Int) _)) (exact (Int.ofNat_lt.mpr !)))) omega"
local macro_rules | `(tactic| wtm_at "xhd") => rd "(exact (deeper_hd !)) assumption"
local macro_rules | `(tactic| wtm_at "xll") => `(tactic| simp only [List.length_append, List.length_cons, List.length_nil])
local macro_rules | `(tactic| wtm_at "xfit") => rd "(at om) (do (at xll) (at om))"
local macro_rules | `(tactic| wtm_at "xlook") => rd "(wu rfl) (wr assumption) (wu assumption)"
local macro_rules | `(tactic| wtm_at "xmem") => `(tactic| exact (by assumption : ∀ e ∈ _, e ∈ _) _ (by with_reducible assumption))
local macro_rules | `(tactic| wtm_at "xmem") => rd "(exact List.mem_cons_self) (wr assumption) (exact (List.mem_cons_of_mem _ List.mem_cons_self)) (exact (List.mem_cons_of_mem _ (by (wr assumption))))
  (exact (List.mem_cons_of_mem _ (List.mem_cons_of_mem _ List.mem_cons_self))) (exact (List.mem_cons_of_mem _ (List.mem_cons_of_mem _ (by (wr assumption)))))
  (exact (List.mem_cons_of_mem _ (List.mem_cons_of_mem _ (List.mem_cons_of_mem _ (by (wr assumption)))))) assumption simp"
local macro_rules | `(tactic| wtm_at "xlen") => `(tactic| ((try simp only [lenA, len1, ll_lb, ll_rb, ll_st, ll_em, ll_er, ll_ds, ll_ca, ll_bs, ll_at, ll_cl, ll_s, ll_z, lenE]); wtm_at "om"))
local macro_rules | `(tactic| wtm_at "xname") => rd "(places n_localD 0 3 1 2 4)
  (wr (refine (n_blt ~ ! (by (exacts b_isinstance b_len b_chr b_str b_range b_slice b_object b_rterr)) ~ ~ ~ ?)))
  (wr (refine (n_glob ~ ! (by (exacts g_is_wild g_prep_tag g_prep_child g_twin g_translate g_map g_escape g_translate_ g_join g_texts g_drawn g_node g_quoted g_says g_plain g_cut g_takes g_refused)) ~ ~ ?)))"
local macro_rules | `(tactic| wtm_at "xexec") => rd "(rules wpAny_Return_some wpAny_If wpAny_AugAssign_Name wpAny_Assert_holds wpAny_Break wpAny_While)
  (wr (refine (v_lcompU ? ~ ~ ~ (by decide) (by (at xir)))))
  (wr (refine (wpAny_Assign_Name (is hs ~) ?)))
  (wr (refine (wpAny_Expr (is hi ~) (is hs ~) ?)))
  (wr (refine (v_unpack2S ! ? 'xhd ~ ~)))
  (wr (refine (v_unpack2 ! ? 'xhd ~ ~)))
  (wr (refine (wpAny_For ? (is hs (by (at xir))))))
  (wr (refine (wpAny_Assign_Subscript ? (is hs ~))))"
local macro_rules | `(tactic| wtm_at "xir") => rd "(wu (do (intro 1) rfl))"
local macro_rules | `(tactic| wtm_at "xeval") => rd "(do (wp (PySem.eval (Expr.Name _ _) _)) (at xname))
  (rules v_int v_str v_none v_bool Subscript_ v_slice wpAny_BinOp wpAny_UnaryOp wpAny_Or2 wpAny_And2 wpAny_IfExp v_call0 Attribute_name List_ Tuple_)
  (wr (refine (wpAny_Compare1 (is hm ~) ?)))
  (wr (refine (v_call (is he ~) (is hplain ~) ?)))
  (wr (refine (v_meth1 (is hbase ~) (is hs ~) (is hline ~) ?)))
  (wr (refine (v_meth0 (is hbase ~) (is hline ~) ?)))
  (wr (refine (v_lcomp ? ~ ~ (by decide) (by (at xir)))))"
local macro_rules | `(tactic| wtm_at "xcall") => rd "(rules v_isi_str v_isi_int v_isi_none)
  (do (wp (call (Value.builtin %chr) _)) (wr (refine (chr_of_range 'om 'om ?))))
  (do (wp (call (Value.builtin %len) (list (Value.str _ _)))) (wr (refine (v_lenS 'om ?))))
  (do (wp (call (Value.builtin %len) (list (Value.ref _)))) (wr (refine (v_lenL (at_ls.mp (Fm.atZ (is φ (lsO _)) ! 'xmem)) 'om ?))))
  (do (wp (call (Value.ref _) (list _))) (wr (refine (v_addcall ! 'xfit ?))) (intro 2))"
local macro_rules | `(tactic| wtm_at "xbase") => rd "assumption (exact (Fm.base !))"
local macro_rules | `(tactic| wtm_at "xkept") => rd "(refine (And.intro (by (first (exacts kept_builtin kept_type) (exact (kept_known 'xbase ~)))) ?))"
local macro_rules | `(tactic| wtm_at "xroom") => rd "(exact (Rm.deeper ! _)) (exact (Rm.le (Rm.deeper ! _) (by decide))) assumption"
local macro_rules | `(tactic| wtm_at "xnew") => rd "(do (first (wr (refine (v_newL ! 'xfit ?))) (wr (refine (v_newT ! 'xfit ?)))) (intro 4))"
local macro_rules | `(tactic| wtm_at "xop") => rd "(wr (refine (v_mod (by decide) ?)))
  (wr (refine (PyProof.Rows.pow_int_small (by decide) (by decide) (by decide) ?)))
  (wr (refine (v_fdiv (by decide) (PyProof.noPylong_small 'om) ?)))
  (rules PySem.P.add_int PySem.P.sub_int)"
local macro_rules | `(tactic| wtm_at "xset") => `(tactic| (simp only [List.set_cons_zero, List.cons_append, List.nil_append]; with_unfolding_all rfl))
local macro_rules | `(tactic| wtm_at "xmil") => `(tactic| with_reducible show _ ≤ 1000000 ∧ _)
local macro_rules | `(tactic| wtm_at "x3") => rd "(do (wp (PySem.eval (Expr.JoinedStr (cons _ (cons _ _)) _) _)) (wr (refine (JoinedStr_many ?))))
  (do (wp (formatField (Value.str _ _) _)) (wr (refine (v_ff 'xlen ?))) (intro 2))
  (do (at xmil) (wr (refine (And.intro 'xlen ?))))
  (do (wp (subscriptTail _ _ (Value.str _ _) (Value.ref _))) (first
    (do (wr (show (wpAny _ _ _ _ _ (mk (Heap.push _ (mk _ _ (Data.fields (List.toArray (list Value.none _ _))) _)) _ _ _ _)))) (wr (refine (v_subS_ns ! 'om ?))))
    (do (wr (show (wpAny _ _ _ _ _ (mk (Heap.push _ (mk _ _ (Data.fields (List.toArray (list _ Value.none _))) _)) _ _ _ _)))) (wr (refine (v_subS_sn ! 'om ?))))
    (wr (refine (v_subS_ss ! 'om ?)))) (intro 5))
  (do (wr (show (MethodOnS _ _ _ _ %replace (Value.str _ _) _ _ _ _))) (wr (refine (v_mreplace ?))))
  (do (wp (joinParts _ (evalEach (list) _))) (refine (v_jp0 'xlen ?)))
  (do (wp (joinParts _ (list))) (refine (v_jp0 'xlen ?)))
  (do (wp (joinParts _ _)) (refine (v_jp ?)))
  (do (wr (show (Exists _))) (refine (mk _ _ _ _ _ _ _ _ rfl rfl ! 'xmem ?)) (intro 2))
  (wr (refine (v_meth2 (is hbase ~) (is hs ~) (is hline ~) ?)))"
local macro_rules | `(tactic| wtm_at "x4") => `(tactic| ((with_reducible refine iteB ?_ ?_) <;> intro hb <;> (try (exfalso; exact absurd hb (by decide)))))
local macro_rules | `(tactic| wtm_at "x2") => rd "(rules wpAny_isTrue_Not wpAny_isTrue_BoolOp)
  (do (wp (isTrue _ _ _)) (refine (wpAny_isTrue_value ?)))
  (do (wp (call _ _)) (at xcall))
  (do (wp (newList _)) (at xnew))
  (do (wp (newTuple _)) (at xnew))
  (do (wp (binaryOp _ (Value.int _ _) (Value.int _ _))) (at xop))
  (wr (refine (wpAny_items_cons (is he ~) ?)))
  (do (wr (refine (v_it_str ! ?))) (intro 3))
  (do (wr (refine (SB.add ? (le_line 'xlen)))) (intro 2))
  (do (wp (storeName _ _ _)) (wr (refine (v_storeR (is i 0) ! ~ ~ ~ 'xset ?))) (intro 2))
  (do (wp (loadName _ _)) (wr (refine (v_load (is i 0) ! ~ 'xlook ~ ~ ?))))
  (rules SB.startswith SB.endswith SB.isalnum v_mjoin v_spl0 wpAny_assign_Name SB.contains wpAny_tests_nil wpAny_tests_one PySem.P.iadd_int PySem.P.eq_int FormattedValue_plain v_isnot_sr v_isnot_rr v_is_rr PySem.P.lt_int v_part_none slq v_part_some v_eqStr v_neStr v_neg not_value v_tbool wpAny_allTrue_And_nil wpAny_allTrue_Or_nil wpAny_allTrue_And_cons wpAny_allTrue_Or_cons PySem.P.ge_int SB.notContains)
  (at x3) (at x4)"
local macro_rules | `(tactic| wtm_at "x1") => rd "(do (wp (exec _ _)) (at xexec))
  (do (wp (PySem.eval _ _)) (at xeval))
  (rules strE x_cons ct_next ct_ret ct_brk ct_cont wpAny_execs_nil)
  (do (wr (show (and (Kept _ _ _) _))) (at xkept))
  (wr (refine (wpAny_isTrue_Compare1 (is hm ~) ?)))
  (at x2)"
section
open PySem PySem.W PySem.Calls PyProof.Rows PySem.Builtin PySem.Builtin.Str
def mapRows : List (Nat × Tok × Tok) := [(40, 369, 373), (41, 375, 379), (91, 381, 385), (93, 387, 391), (123, 393, 397), (125, 399, 403), (63, 405, 409), (42, 411, 415), (43, 417, 421), (45, 423, 427), (124, 429, 433), (94, 435, 439), (36, 441, 445), (92, 447, 451), (46, 453, 457), (38, 459, 463), (126, 465, 469), (35, 471, 475), (32, 477, 481), (9, 483, 487), (10, 489, 493), (13, 495, 499), (11, 501, 505), (12, 507, 511)]
def mapEnt (r : Nat × Tok × Tok) : DictEntry := ⟨(r.1 : Int), .int (r.1 : Int) r.2.1, .str ⟨#[92, r.1]⟩ r.2.2⟩
def isSpec (c : Nat) : Bool := mapRows.any fun r => r.1 == c
def escS (c : Nat) : Str := if isSpec c then ⟨#[92, c]⟩ else ⟨#[c]⟩
theorem kf_map (P : Params) : (KK P).lookup 66 = some { cls := .type "dict", data := .dict (mapRows.map mapEnt).toArray 24 } := by kernel_rfl
def mapF (k : Int) : Option Value := (mapRows.find? fun r => (r.1 : Int) == k).map fun r => .str ⟨#[92, r.1]⟩ r.2.2
theorem hashes_ok : mapRows.all (fun r => hashInt (r.1 : Int) == (r.1 : Int)) = true := by decide +kernel
theorem map_at {W : Wd} {h : Heap} (B : Base W h) : h.MapOf (intKind pg W.w) 66 mapF := by
  refine ⟨_, _, 24, B.K 66 _ (kf_map _), ⟨rfl, rfl, rfl⟩, rfl, fun e he => ?_, fun k => ?_⟩
  · have he' : e ∈ mapRows.map mapEnt := by simpa using he
    obtain ⟨r, hr, rfl⟩ := List.mem_map.mp he'
    refine ⟨(r.1 : Int), by simp [intKind, mapEnt, Value.isInt], ?_⟩
    have := List.all_eq_true.mp hashes_ok r hr
    exact (beq_iff_eq.mp this).symm
  · unfold findBy mapF
    rw [← Array.find?_toList]
    generalize mapRows = l
    induction l with
    | nil => rfl
    | cons r l ih =>
      simp only [List.map_cons, List.find?_cons]
      have e : (intKind pg W.w).is k (mapEnt r).key = ((r.1 : Int) == k) := by
        show Value.isInt k (.int (r.1 : Int) r.2.1) = _
        simp [Value.isInt]
      rw [e]
      cases ((r.1 : Int) == k) with
      | true => rfl
      | false => exact ih
theorem mapF_spec (c : Nat) : mapF (c : Int) = if isSpec c then (mapRows.find? fun r => r.1 == c).map fun r => .str ⟨#[92, c]⟩ r.2.2 else none := by
  unfold mapF isSpec
  generalize mapRows = l
  induction l with
  | nil => rfl
  | cons r l ih =>
    by_cases q : r.1 = c
    · subst q; simp
    · have e1 : ((r.1 : Int) == (c : Int)) = false := by
        rw [beq_eq_false_iff_ne]
        intro z
        exact q (Int.ofNat_inj.mp z)
      have e2 : (r.1 == c) = false := by rw [beq_eq_false_iff_ne]; exact q
      simp only [List.find?_cons, List.any_cons, e1, e2, Bool.false_or]
      exact ih
theorem mapF_yes {c : Nat} (h : isSpec c = true) : ∃ u, mapF (c : Int) = some (.str ⟨#[92, c]⟩ u) := by
  rw [mapF_spec, if_pos h]
  unfold isSpec at h
  obtain ⟨r, hr, e⟩ := List.any_eq_true.mp h
  cases q : mapRows.find? fun r => r.1 == c with
  | none => exact absurd e (by simpa using List.find?_eq_none.mp q r hr)
  | some r => exact ⟨_, rfl⟩
theorem mapF_no {c : Nat} (h : isSpec c = false) : mapF (c : Int) = none := by rw [mapF_spec, if_neg (by rw [h]; exact Bool.false_ne_true)]
theorem key_sub_lookup : isSubtype (.type "KeyError") (.type "LookupError") = pure true := by rw [isSubtype_type]; kernel_rfl
section
variable {W : Wd} {A : Around} {E : Value → Shared → Prop} {h₀ h : Heap} {gs : Array GenState} {d : Drawn} {t : Nat} {os : OsState} {Z R : List Ent}
theorem tl_no {c : Nat} {Q : Mapped → Shared → Prop} (hh : A.handled = none) (F : Fm W h₀ Z R h) (hc : isSpec c = false) (q : ∀ h' t', Fm W h₀ Z R h' → Q .keep ⟨h', gs, d, t', os⟩) : wpAny (MM W.w) A (tableLookup (.ref 66) c) Q E ⟨h, gs, d, t, os⟩ := by
  unfold tableLookup
  refine wpAny_bind (wpAny_attempt (wpAny_bind (wpAny_mkInt ?_)))
  refine wpAny_getItem_missing_of (knd := intKind pg W.w) (s := ⟨h, gs, d, t + 1, os⟩) (intKind_is _ _ _ _) (by decide) hh (map_at F.base) (mapF_no hc) fun h' e ne => ?_
  show wpAny _ A (isInstance (.ref e) (.type "LookupError") >>= _) Q E _
  obtain ⟨ob, tt, e1, e2, e3⟩ := ne.there
  refine wpAny_bind (wpAny_isInstance (T := "KeyError") (b := true) ⟨ob, e1, e2⟩ key_sub_lookup ?_)
  show wpAny _ A (rule "str.translate.not-in-table" >>= fun _ => pure Mapped.keep) Q E _
  exact wpAny_bind (wpAny_rule (wpAny_pure (q h' _ (F.keep ne.keeps))))
theorem tl_yes {c : Nat} {Q : Mapped → Shared → Prop} (F : Fm W h₀ Z R h) (hc : isSpec c = true) (q : Q (.text ⟨#[92, c]⟩) ⟨h, gs, d, t + 1 + 1, os⟩) : wpAny (MM W.w) A (tableLookup (.ref 66) c) Q E ⟨h, gs, d, t, os⟩ := by
  unfold tableLookup
  obtain ⟨u, hu⟩ := mapF_yes hc
  refine wpAny_bind (wpAny_attempt (wpAny_bind (wpAny_mkInt ?_)))
  refine wpAny_getItem_of (knd := intKind pg W.w) (s := ⟨h, gs, d, t + 1, os⟩) (intKind_is _ _ _ _) (map_at F.base) hu ?_
  exact wpAny_pure q
theorem v_trans {c : Nat} {u : Tok} {Q : Value → Shared → Prop} (hh : A.handled = none) (F : Fm W h₀ Z R h) (q : ∀ h' tk t', Fm W h₀ Z R h' → Q (.str (escS c) tk) ⟨h', gs, d, t', os⟩) :
    wpAny (MM W.w) A (call (.builtin "str.translate") [.str ⟨#[c]⟩ u, .ref 66]) Q E ⟨h, gs, d, t, os⟩ := by
  refine wpAny_call_entry PySem.F.slot_str_translate (typeIs_str _ _ _) PySem.F.entry_str_translate ?_ (PySem.F.args_str_translate_2 _ _)
  unfold Builtin.«str.translate»
  refine wpAny_bind (wpAny_of_eq (a := (.str ⟨#[c]⟩ u, ⟨#[c]⟩, .ref 66)) rfl ?_)
  dsimp only
  rw [if_neg (by show ¬ (((1 : Nat) == 0) = true); decide)]
  rw [show (#[c] : Array Nat) = [c].toArray from rfl]
  simp only [List.forIn_toArray, List.forIn_cons, List.forIn_nil, List.all_toArray, List.all_cons, List.all_nil, Bool.and_true, List.lookup_nil, show tooLong 0 = false from by decide, Bool.false_eq_true, if_false]
  have small : isSpec c = true → c < 128 := by
    intro q
    unfold isSpec at q
    obtain ⟨r, hr, e⟩ := List.any_eq_true.mp q
    have k : mapRows.all (fun r => decide (r.1 < 128)) = true := by decide
    have := of_decide_eq_true (List.all_eq_true.mp k r hr)
    have e := beq_iff_eq.mp e
    omega
  have fin : ∀ (p : Str) (n : Nat) (b : Bool) (l : List (Nat × Option Nat)) (b' : Bool) (h' : Heap) (t' : Nat), p = escS c → n ≤ 2 → Fm W h₀ Z R h' →
      wpAny (model pg W.w) A.in1 (pure (ForInStep.yield ([p], n, b, l, b')) : Sem (ForInStep (List Str × Nat × Bool × List (Nat × Option Nat) × Bool)))
        (fun x s' => wpAny (model pg W.w) A.in1 (match x with | ForInStep.done b => pure b | ForInStep.yield b => pure b) (fun st s' => wpAny (model pg W.w) A.in1 (if tooLong st.2.1 = true then do
          unsupported "str.translate:memory"
          retStr { cps := List.foldl (fun acc p => acc ++ p.cps) #[] st.1.reverse }
        else retStr { cps := List.foldl (fun acc p => acc ++ p.cps) #[] st.1.reverse })
    (fun fin s' => ∃ v, fin = Fin.done (Flow.ret v) ∧ Q v s') E s') E s') E ⟨h', gs, d, t', os⟩ := by
    intro p n b l b' h' t' hp hn G
    refine wpAny_pure (wpAny_pure ?_)
    have tl : tooLong n = false := by
      have : n = 0 ∨ n = 1 ∨ n = 2 := by omega
      rcases this with rfl | rfl | rfl <;> decide
    show wpAny _ _ (if tooLong n = true then _ else _) _ _ _
    rw [if_neg (by rw [tl]; exact Bool.false_ne_true)]
    have e : ({ cps := List.foldl (fun acc p => acc ++ p.cps) #[] [p].reverse } : Str) = escS c := by
      rw [hp]; simp [List.foldl]
    show wpAny _ _ (retStr { cps := List.foldl (fun acc p => acc ++ p.cps) #[] [p].reverse }) _ _ _
    rw [e]
    unfold retStr mkStr
    have : ¬ (escS c).length > sizeLine := by
      have : (escS c).length ≤ 2 := by unfold escS; split <;> first | exact Nat.le_refl 2 | exact Nat.le_succ 1
      have := le_line (n := (escS c).length) (by omega)
      omega
    rw [if_neg this]
    exact wpAny_bind (wpAny_bind (wpAny_fresh (wpAny_pure (wpAny_pure ⟨_, rfl, q _ _ _ G⟩))))
  refine wpAny_bind (wpAny_bind ?_)
  cases hs : isSpec c with
  | true =>
    rw [if_pos (decide_eq_true (small hs))]
    refine wpAny_bind (tl_yes F hs ?_)
    refine wpAny_bind (wpAny_of_eq (a := none) rfl ?_)
    refine wpAny_bind (wpAny_rule (wpAny_bind (tl_yes F hs ?_)))
    exact fin _ _ _ _ _ _ _ (by unfold escS; rw [hs]; rfl) (Nat.le_refl 2) F
  | false =>
    have hp : (⟨#[c]⟩ : Str) = escS c := by unfold escS; rw [hs]; rfl
    by_cases hb : c < 128
    · rw [if_pos (decide_eq_true hb)]
      refine wpAny_bind (tl_no hh F hs fun h' t' G => ?_)
      refine wpAny_bind (wpAny_of_eq (a := some (some c)) rfl ?_)
      exact fin _ _ _ _ _ _ _ hp (by decide) G
    · rw [if_neg (by rw [decide_eq_false hb]; exact Bool.false_ne_true)]
      refine wpAny_bind (tl_no hh F hs fun h' t' G => ?_)
      exact fin _ _ _ _ _ _ _ hp (by decide) G
theorem v_mtrans {c : Nat} {u : Tok} {pos : Pos} {e : Sem Value} {s : Shared} {Q : Value → Shared → Prop}
    (q : wpAny (MM W.w) A e (fun v s₁ => wpAny (MM W.w) A (call (.builtin "str.translate") [.str ⟨#[c]⟩ u, v]) Q E s₁) E s) : MethodOnS pg W.w A E "translate" (.str ⟨#[c]⟩ u) pos [(false, e)] Q s :=
  ⟨"str", "str.translate", PySem.F.plainAttrs_str, PySem.F.slot_str_translate, PySem.F.type_str_translate, typeIs_str _ _ _, (fun _ e => nomatch e),
    Calls.callWith_builtin rfl (Calls.evalArgs_plain (Calls.spliced_cons (wpAny_mono q (fun _ _ h₁ => Calls.spliced_nil h₁) fun _ _ e => e)))⟩
/-- escape of one sign -/
theorem c_escape {c : Nat} {u : Tok} {Q : Value → Shared → Prop} (B : Base W h) (rm : Rm 1 A) (q : ∀ h' tk t', Kp h h' → Base W h' → Q (.str (escS c) tk) ⟨h', gs, d, t', os⟩) :
    wpAny (MM W.w) A (call (.ref 76) [.str ⟨#[c]⟩ u]) Q E ⟨h, gs, d, t, os⟩ := by
  refine enter (Z := []) (fd := fdES) (body := bodyOf (stAt 10)) (binds := [("pattern", .str ⟨#[c]⟩ u)]) B .nil rm.depth (B.K 76 _ (kf_ES _)) rfl (cr_ES B) (by rfl) (by rfl) (locs (by rfl)) (by decide) (by rfl) (by rfl) (by rfl) ?_
  intro L h₁ t₁ F
  refine x_cons ?_
  repeat' (wtm_at "x1")
  refine v_mtrans ?_
  repeat' (wtm_at "x1")
  refine v_trans rm.hd F fun h' tk t' G => ?_
  exact q _ _ _ G.kp G.base
end
end
section
open PySem PySem.W PySem.Calls PyProof.Rows PySem.Builtin PySem.Builtin.Str
section
variable {W : Wd} {A : Around} {E : Value → Shared → Prop} {h : Heap} {gs : Array GenState} {d : Drawn} {t : Nat} {os : OsState} {Q : Value → Shared → Prop}
def isWildB (y : Str) : Bool := Txt.slice y none (some 3) == ("{*}" : Str) || Txt.slice y (some (-2)) none == ("}*" : Str)
theorem c_iswild {y : Str} {ty : Tok} (B : Base W h) (rm : Rm 1 A) (hy : y.length ≤ 100000) (q : ∀ h' t', Kp h h' → Base W h' → Q (.bool (isWildB y)) ⟨h', gs, d, t', os⟩) :
    wpAny (MM W.w) A (call (.ref 38) [.str y ty]) Q E ⟨h, gs, d, t, os⟩ := by
  refine enter (Z := []) (fd := fdIW) (body := bodyOf (stAt 2)) (binds := [("tag", .str y ty)]) B .nil rm.depth (B.K 38 _ (kf_IW _)) rfl (cr_IW B) (by rfl) (by rfl) (locs (by rfl)) (by decide) (by rfl) (by rfl) (by rfl) ?_
  intro L h₁ t₁ F
  refine x_cons ?_
  repeat' (wtm_at "x1")
  all_goals (refine v_end (by assumption) q ?_; simp_all [isWildB, flv])
def TagIs (v : Value) (τ : Option Str) : Prop := (∃ s u, v = .str s u ∧ τ = some s) ∨ (τ = none ∧ (v = .none ∨ ∃ n u, v = .int n u))
def plainB (w : Str) (τ : Option Str) : Bool := match τ with
  | none => false
  | some s =>
    if w == ("{*}*" : Str) then true
    else if w == ("{}*" : Str) then !Txt.startswith s "{"
    else if Txt.startswith w "{*}" then s == Txt.slice w (some 3) none || Txt.endswith s (Txt.slice w (some 2) none)
    else if Txt.endswith w "}*" then Txt.startswith s (Txt.slice w none (some (-1)))
    else if Txt.startswith w "{}" then s == Txt.slice w (some 2) none
    else s == w
theorem c_plain {y : Str} {ty : Tok} {v : Value} {τ : Option Str} (B : Base W h) (rm : Rm 1 A) (hy : y.length ≤ 100000) (hv : TagIs v τ) (q : ∀ h' t', Kp h h' → Base W h' → Q (.bool (plainB y τ)) ⟨h', gs, d, t', os⟩) :
    wpAny (MM W.w) A (call (.ref 128) [.str y ty, v]) Q E ⟨h, gs, d, t, os⟩ := by
  rcases hv with ⟨s, u, rfl, rfl⟩ | ⟨rfl, rfl | ⟨n, u, rfl⟩⟩
  all_goals
    refine enter (Z := []) (fd := fdPL) (body := bodyOf (stAt 20)) (binds := [("wish", .str y ty), ("tag", _)]) B .nil rm.depth (B.K 128 _ (kf_PL _)) rfl (cr_PL B) (by rfl) (by rfl) (locs (by rfl)) (by decide) (by rfl) (by rfl) (by rfl) ?_
    intro L h₁ t₁ F
    refine x_cons ?_
    repeat' (wtm_at "x1")
    all_goals (refine v_end (by assumption) q ?_; simp_all [plainB, flv])
end
end
section
open PySem PySem.W PySem.Calls PyProof.Rows PySem.Builtin PySem.Builtin.Str
section
variable {W : Wd} {A : Around} {E : Value → Shared → Prop} {h : Heap} {gs : Array GenState} {d : Drawn} {t : Nat} {os : OsState} {Q : Value → Shared → Prop}
def qz (c : Nat) : Str := if Txt.contains "*?[" ⟨#[c]⟩ then "[" ++ ⟨#[c]⟩ ++ "]" else ⟨#[c]⟩
def quoted (y : Str) : Str := Txt.join "" (y.cps.toList.map qz)
theorem strs_snoc {vs : List Value} {xs : List Str} (h : StrsAre vs xs) (x : Str) (u : Tok) : StrsAre (vs ++ [.str x u]) (xs ++ [x]) := by
  induction h with
  | nil => exact .cons _ _ .nil
  | cons _ _ _ ih => exact .cons _ _ ih
theorem qz_len (c : Nat) : (qz c).length ≤ 3 := by
  unfold qz; split
  · exact Nat.le_of_eq (by rw [lenA, lenA]; rfl)
  · exact Nat.le_trans (Nat.le_of_eq len1) (by decide)
theorem qz_sum : ∀ l : List Nat, (((l.map qz).map (·.length)).sum) ≤ 3 * l.length
  | [] => Nat.le_refl _
  | c :: l => by
    have := qz_sum l
    have := qz_len c
    simp only [List.map_cons, List.sum_cons, List.length_cons]
    omega
theorem c_quoted {y : Str} {ty : Tok} (B : Base W h) (rm : Rm 1 A) (hy : y.length ≤ 100000) (q : ∀ h' tk t', Kp h h' → Base W h' → Q (.str (quoted y) tk) ⟨h', gs, d, t', os⟩) :
    wpAny (MM W.w) A (call (.ref 114) [.str y ty]) Q E ⟨h, gs, d, t, os⟩ := by
  refine enter (Z := []) (fd := fdQU) (body := bodyOf (stAt 18)) (binds := [("text", .str y ty)]) B .nil rm.depth (B.K 114 _ (kf_QU _)) rfl (cr_QU B) (by rfl) (by rfl) (locs (by rfl)) (by decide) (by rfl) (by rfl) (by rfl) ?_
  intro L h₁ t₁ F
  refine x_cons ?_
  repeat' (wtm_at "x1")
  refine comp_none (Iter.str (show (A.deeper _).handled = none from rm.hd)) (by assumption) (fun k Z' ys => StrsAre ys ((y.cps.toList.take k).map qz)) (fun _ _ _ _ _ => trivial) (Nat.le_trans hy (by decide)) .nil self_str (by decide) (by rfl) (by rfl) ?_ ?_
  · rintro E' D C k Z' ys ι' m h' t' v hk hJ hys hZ G ⟨tv, c, hc, rfl⟩
    have step : ((y.cps.toList.take (k + 1)).map qz) = ((y.cps.toList.take k).map qz) ++ [qz c] := by rw [List.take_add_one, show y.cps.toList[k]? = some c by simpa using hc]; simp
    repeat' (wtm_at "x1")
    · exact ⟨Z', _, _, rfl, by assumption, hZ, by show StrsAre _ ((y.cps.toList.take (k + 1)).map qz); rw [step, show qz c = "[" ++ ⟨#[c]⟩ ++ "]" by unfold qz; rw [if_pos (by assumption)]]; exact strs_snoc hJ _ _⟩
    · exact ⟨Z', _, _, rfl, by assumption, hZ, by show StrsAre _ ((y.cps.toList.take (k + 1)).map qz); rw [step, show qz c = ⟨#[c]⟩ by unfold qz; rw [if_neg (Bool.eq_false_iff.mp (by assumption))]]; exact strs_snoc hJ _ _⟩
  · intro D Z' ys h' t' _ hJ hZ G
    have hJ' : StrsAre ys (y.cps.toList.map qz) := by rw [List.take_of_length_le (Nat.le_of_eq (by simp [Str.length]))] at hJ; exact hJ
    have hs := qz_sum y.cps.toList
    have hl : y.cps.toList.length = y.length := by simp [Str.length]
    refine join_listW (at_ls.mp (G.atZ (φ := lsO ys) (by simp))) (by simpa using hJ') (by decide) (by rw [List.length_map]; omega) fun t' k' => ?_
    exact q _ _ _ G.kp G.base
end
end
section
open PySem PySem.W PySem.Calls PyProof.Rows PySem.Builtin PySem.Builtin.Str
section
variable {W : Wd} {A : Around} {E : Value → Shared → Prop} {h₀ h : Heap} {Z R : List Ent} {gs : Array GenState} {d : Drawn} {t : Nat} {os : OsState} {Q : Value → Shared → Prop}
theorem k_iswild {y : Str} {ty : Tok} (F : Fm W h₀ Z R h) (rm : Rm 1 A) (hy : y.length ≤ 1000) (q : ∀ h' t', Fm W h₀ Z R h' → Q (.bool (isWildB y)) ⟨h', gs, d, t', os⟩) :
    wpAny (MM W.w) A (call (.ref 38) [.str y ty]) Q E ⟨h, gs, d, t, os⟩ := c_iswild F.base rm (by omega) fun h' t' k B => q h' t' (F.call0 k B)
theorem k_plain {y : Str} {ty : Tok} {v : Value} {τ : Option Str} (F : Fm W h₀ Z R h) (rm : Rm 1 A) (hy : y.length ≤ 1000) (hv : TagIs v τ) (q : ∀ h' t', Fm W h₀ Z R h' → Q (.bool (plainB y τ)) ⟨h', gs, d, t', os⟩) :
    wpAny (MM W.w) A (call (.ref 128) [.str y ty, v]) Q E ⟨h, gs, d, t, os⟩ := c_plain F.base rm (by omega) hv fun h' t' k B => q h' t' (F.call0 k B)
theorem k_escape {c : Nat} {u : Tok} (F : Fm W h₀ Z R h) (rm : Rm 1 A) (q : ∀ h' tk t', Fm W h₀ Z R h' → Q (.str (escS c) tk) ⟨h', gs, d, t', os⟩) :
    wpAny (MM W.w) A (call (.ref 76) [.str ⟨#[c]⟩ u]) Q E ⟨h, gs, d, t, os⟩ := c_escape F.base rm fun h' tk t' k B => q h' tk t' (F.call0 k B)
theorem quoted_len {y : Str} : (quoted y).length ≤ 3 * y.length := by
  have h1 := StrLaws.join_length_le "" (y.cps.toList.map qz)
  rw [show quoted y = Str.join "" (y.cps.toList.map qz) from StrLaws.glued_eq_join _ _]
  have h2 := qz_sum y.cps.toList
  have h3 : y.cps.toList.length = y.length := by simp [Str.length]
  rw [show (Str.ofString "").length = 0 from rfl] at h1
  omega
theorem k_quoted {y : Str} {ty : Tok} (F : Fm W h₀ Z R h) (rm : Rm 1 A) (hy : y.length ≤ 1000) (q : ∀ h' tk t', (quoted y).length ≤ 3 * y.length → Fm W h₀ Z R h' → Q (.str (quoted y) tk) ⟨h', gs, d, t', os⟩) :
    wpAny (MM W.w) A (call (.ref 114) [.str y ty]) Q E ⟨h, gs, d, t, os⟩ := c_quoted F.base rm (by omega) fun h' tk t' k B => q h' tk t' quoted_len (F.call0 k B)
local macro_rules | `(tactic| wtm_at "xcall") => rd "(do (refine (k_iswild ! 'xroom (by omega) ?)) (intro 3)) (do (refine (k_quoted ! 'xroom (by omega) ?)) (intro 5))"
def saysB (y : Str) : List Str :=
  if y == ("{*}*" : Str) then ["*"] else if y == ("{}*" : Str) then ["[!{]*"]
  else if Txt.slice y none (some 3) == ("{*}" : Str) then [quoted (Txt.slice y (some 3) none), "*" ++ quoted (Txt.slice y (some 2) none)]
  else if Txt.slice y (some (-2)) none == ("}*" : Str) then [quoted (Txt.slice y none (some (-1))) ++ "*"]
  else if Txt.slice y none (some 2) == ("{}" : Str) then [quoted (Txt.slice y (some 2) none)] else [quoted y]
theorem k_says {y : Str} {ty : Tok} (F : Fm W h₀ Z R h) (rm : Rm 2 A) (hy : y.length ≤ 100) (q : ∀ D vs h' t', h₀.get? D = none → StrsAre vs (saysB y) → Fm W h₀ ((D, lsO vs) :: Z) R h' → Q (.ref D) ⟨h', gs, d, t', os⟩) :
    wpAny (MM W.w) A (call (.ref 121) [.str y ty]) Q E ⟨h, gs, d, t, os⟩ := by
  refine enter (Z := []) (fd := fdSY) (body := bodyOf (stAt 19)) (binds := [("wish", .str y ty)]) F.base .nil rm.depth (F.base.K 121 _ (kf_SY _)) rfl (cr_SY F.base) (by rfl) (by rfl) (locs (by rfl)) (by decide) (by rfl) (by rfl) (by rfl) ?_
  intro L h₁ t₁ G
  with_reducible refine noE fun E1 => ?_
  have fin : ∀ {D : Addr} {vs : List Value} {h' t'}, h.get? D = none → StrsAre vs (saysB y) → Fm W h ((D, lsO vs) :: []) [(L, nsO fun x => List.lookup x [((Str.ofString "wish"), Value.str y ty)].reverse)] h' → Q (.ref D) ⟨h', gs, d, t', os⟩ :=
    fun {D vs h' t'} hD hs G' => q D vs h' t' (F.kp.there hD) hs (F.call (Z' := [(D, lsO vs)]) G'.kp G'.base (fun e he => G'.z e he) (fun e he => by rw [List.mem_singleton.mp he]; exact hD))
  refine x_cons ?_
  repeat' (wtm_at "x1")
  all_goals (show Q (.ref _) _; refine fin (by assumption) ?_ (by assumption))
  all_goals simp only [saysB, *, Bool.false_eq_true, if_true, if_false]
  all_goals (repeat constructor)
end
end
section
open PySem PySem.W PySem.Calls PyProof.Rows PySem.Builtin PySem.Builtin.Str
section
variable {W : Wd} {A : Around} {E : Value → Shared → Prop} {h₀ h : Heap} {Z R : List Ent} {gs : Array GenState} {d : Drawn} {t : Nat} {os : OsState} {Q : Value → Shared → Prop}
def SV (lo hi : Nat) (v : Value) : Prop := ∃ s u, v = .str s u ∧ lo ≤ s.length ∧ s.length ≤ hi
inductive SVs (lo hi : Nat) : List Value → Prop
  | nil : SVs lo hi []
  | cons {v l} : SV lo hi v → SVs lo hi l → SVs lo hi (v :: l)
theorem SVs.get {lo hi : Nat} {l : List Value} (x : SVs lo hi l) : ∀ {k : Nat} {v : Value}, l[k]? = some v → SV lo hi v := by
  induction x with
  | nil => intro k v e; cases e
  | cons a _ ih =>
    intro k v e
    cases k with
    | zero => cases e; exact a
    | succ k => exact ih e
theorem ll_lc : (Str.ofString "{").length = 1 := rfl
theorem ll_rc : (Str.ofString "}").length = 1 := rfl
theorem ll_rcs : (Str.ofString "}*").length = 2 := rfl
theorem ll_any : (Str.ofString "{*}").length = 3 := rfl
theorem ll_non : (Str.ofString "{}").length = 2 := rfl
local macro_rules | `(tactic| wtm_at "svs") => `(tactic| (repeat' (first | exact SVs.nil | refine SVs.cons ⟨_, _, rfl, ?_, ?_⟩ ?_)) <;> (first | exact Nat.le_of_ble_eq_true rfl | ((try simp only [lenA, len1, ll_lc, ll_rc, ll_rcs, ll_any, ll_non]); wtm_at "om")))
local macro_rules | `(tactic| wtm_at "xlen") => `(tactic| ((try simp only [lenA, len1, ll_lc, ll_rc, ll_rcs, ll_any, ll_non]); wtm_at "om"))
theorem k_texts {y : Int} {ty : Tok} (F : Fm W h₀ Z R h) (rm : Rm 1 A)
    (q : ∀ D vs u h' t', h₀.get? D = none → SVs 1 20 vs → vs.length = 6 → Fm W h₀ ((D, lsO (vs ++ [.none, .int 7 u])) :: Z) R h' → Q (.ref D) ⟨h', gs, d, t', os⟩) :
    wpAny (MM W.w) A (call (.ref 97) [.int y ty]) Q E ⟨h, gs, d, t, os⟩ := by
  refine enter (Z := []) (fd := fdTX) (body := bodyOf (stAt 15)) (binds := [("y", .int y ty)]) F.base .nil rm.depth (F.base.K 97 _ (kf_TX _)) rfl (cr_TX F.base) (by rfl) (by rfl) (locs (by rfl)) (by decide) (by rfl) (by rfl) (by rfl) ?_
  intro L h₁ t₁ G
  with_reducible refine noE fun E1 => ?_
  refine x_cons ?_
  repeat' (wtm_at "x1")
  refine v_item (at_ls.mp (Fm.atZ (φ := lsO _) (by assumption) (by wtm_at "xmem"))) (by wtm_at "om") (by simp only [List.length_cons, List.length_nil]; wtm_at "om") (by wtm_at "om") ?_
  intro x hx
  obtain ⟨s1, u1, rfl, a1, b1⟩ := SVs.get (lo := 1) (hi := 5) (by wtm_at "svs") hx
  repeat' (wtm_at "x1")
  refine v_item (at_ls.mp (Fm.atZ (φ := lsO _) (by assumption) (by wtm_at "xmem"))) (by wtm_at "om") (by simp only [List.length_cons, List.length_nil]; wtm_at "om") (by wtm_at "om") ?_
  intro x hx
  obtain ⟨s2, u2, rfl, a2, b2⟩ := SVs.get (lo := 0) (hi := 5) (by wtm_at "svs") hx
  repeat' (wtm_at "x1")
  refine v_item (at_ls.mp (Fm.atZ (φ := lsO _) (by assumption) (by wtm_at "xmem"))) (by wtm_at "om") (by simp only [List.length_cons, List.length_nil]; wtm_at "om") (by wtm_at "om") ?_
  intro x hx
  obtain ⟨s3, u3, rfl, a3, b3⟩ := SVs.get (lo := 1) (hi := 5) (by wtm_at "svs") hx
  repeat' (wtm_at "x1")
  have fin : ∀ {D : Addr} {vs l : List Value} {u : Tok} {h' t' Z' R'}, h.get? D = none → SVs 1 20 vs → vs.length = 6 → l = vs ++ [.none, .int 7 u] → Fm W h Z' R' h' → (D, lsO l) ∈ Z' → Q (.ref D) ⟨h', gs, d, t', os⟩ :=
    fun {D vs l u h' t' Z' R'} hD hs hl el G' hm => q D vs u h' t' (F.kp.there hD) hs hl (el ▸ F.ret1 G' hm hD)
  show Q (.ref _) _
  refine fin (vs := [_, _, _, _, _, _]) (by assumption) ?_ rfl rfl (by assumption) (by wtm_at "xmem")
  wtm_at "svs"
end
end
section
open PySem PySem.W PySem.Calls PyProof.Rows PySem.Builtin PySem.Builtin.Str
section
variable {W : Wd} {A : Around} {E : Value → Shared → Prop} {h₀ h : Heap} {Z R : List Ent} {gs : Array GenState} {d : Drawn} {t : Nat} {os : OsState} {Q : Value → Shared → Prop}
local macro_rules | `(tactic| wtm_at "xcall") => rd "(do (refine (k_texts ! 'xroom ?)) (intro 9))"
local macro_rules | `(tactic| wtm_at "xnew") => rd "(do (wp (newList (list _ _ _ _ _ _ _ _ _ _))) (refine (v_newLM ! (by (do (at xll) (at om))) ?)) (intro 3))"
def AllI (l : List Value) : Prop := ∀ v ∈ l, ∃ n u, v = .int n u
def TG (v : Value) : Prop := ∃ τ, TagIs v τ ∧ ∀ s, τ = some s → 1 ≤ s.length ∧ s.length ≤ 20
def IV (n : Nat) (v : Value) : Prop := ∃ (k : Int) (u : Tok), v = .int k u ∧ 0 ≤ k ∧ k < n
inductive IVs (n : Nat) : List Value → Prop
  | nil : IVs n []
  | cons {v l} : IV n v → IVs n l → IVs n (v :: l)
theorem IV.get {n : Nat} {l : List Value} (x : IVs n l) : ∀ {k : Nat} {v : Value}, l[k]? = some v → IV n v := by
  induction x with
  | nil => intro k v e; cases e
  | cons a _ ih =>
    intro k v e
    cases k with
    | zero => cases e; exact a
    | succ k => exact ih e
local macro_rules | `(tactic| wtm_at "ivs") => `(tactic| (repeat' (first | exact IVs.nil | refine IVs.cons ⟨_, _, rfl, ?_, ?_⟩ ?_)) <;> decide)
theorem SVs.all {lo hi : Nat} {l : List Value} (x : SVs lo hi l) : ∀ v ∈ l, SV lo hi v := fun v hv => let ⟨_, h⟩ := List.getElem?_of_mem hv; x.get h
theorem sv_of {vs : List Value} {u : Tok} {k : Nat} {x : Value} (hs : SVs 1 20 vs) (hl : vs.length = 6) (hk : k < 6) (hx : (vs ++ [.none, .int 7 u])[k]? = some x) : SV 1 20 x := by
  rw [List.getElem?_append_left (by wtm_at "om")] at hx
  exact hs.get hx
theorem tg_of {vs : List Value} {u : Tok} {k : Nat} {x : Value} (hs : SVs 1 20 vs) (hl : vs.length = 6) (hx : (vs ++ [.none, .int 7 u])[k]? = some x) : TG x := by
  rcases List.mem_append.mp (List.mem_of_getElem? hx) with h | h
  · obtain ⟨s, u, rfl, a, b⟩ := hs.all x h
    exact ⟨some s, .inl ⟨s, u, rfl, rfl⟩, fun s' e => by cases e; exact ⟨a, b⟩⟩
  · simp only [List.mem_cons, List.not_mem_nil, or_false] at h
    rcases h with rfl | rfl
    · exact ⟨none, .inr ⟨rfl, .inl rfl⟩, fun _ e => nomatch e⟩
    · exact ⟨none, .inr ⟨rfl, .inr ⟨_, _, rfl⟩⟩, fun _ e => nomatch e⟩
theorem all_snoc {P : Value → Prop} {l : List Value} {x : Value} (h : ∀ v ∈ l, P v) (hx : P x) : ∀ v ∈ l ++ [x], P v := fun v hv => by
  rcases List.mem_append.mp hv with q | q
  · exact h v q
  · rw [List.mem_singleton.mp q]; exact hx
theorem k_drawn {l : Addr} {xs : List Value} (F : Fm W h₀ Z R h) (rm : Rm 2 A) (hl : (l, lsO xs) ∈ Z) (hx : AllI xs) (hn : xs.length ≤ 63)
    (q : ∀ T D1 D2 tags wished h' t', h₀.get? T = none → h₀.get? D1 = none → h₀.get? D2 = none → (∀ v ∈ tags, TG v) → tags.length = 6 → (∀ v ∈ wished, SV 1 20 v) → wished.length = 4 →
      Fm W h₀ ((T, tuO [.ref D1, .ref D2]) :: (D1, lsO tags) :: (D2, lsO wished) :: Z) R h' → Q (.ref T) ⟨h', gs, d, t', os⟩) :
    wpAny (MM W.w) A (call (.ref 102) [.ref l]) Q E ⟨h, gs, d, t, os⟩ := by
  refine enter (Z := Z) (fd := fdDR) (body := bodyOf (stAt 16)) (binds := [("script", .ref l)]) F.base F.z rm.depth (F.base.K 102 _ (kf_DR _)) rfl (cr_DR F.base) (by rfl) (by rfl) (locs (by rfl)) (by decide) (by rfl) (by rfl) (by rfl) ?_
  intro L h₁ t₁ G
  with_reducible refine noE fun E1 => ?_
  refine x_cons ?_
  repeat' (wtm_at "x1")
  refine v_slL (by assumption) (at_ls.mp (Fm.atZ (φ := lsO _) (by assumption) (by wtm_at "xmem"))) .none (.int _ _) (by wtm_at "om") ?_
  intro S h₂ _ G2
  rw [show (slicePick xs.toArray none (some 60) none).toList = xs.take 60 by rw [show (60 : Int) = ((60 : Nat) : Int) from rfl, slicePick_upto']] at G2
  have hs : AllI (xs.take 60) := fun v hv => hx v (List.mem_of_mem_take hv)
  refine v_it_list G2 (at_ls.mp (Fm.atZ (φ := lsO _) (by assumption) (by wtm_at "xmem"))) ?_
  intro it h₃ G3 hl3
  refine v_for (Iter.list (vs := xs.take 60) (show (A.deeper _).handled = none from rm.hd)) G3 (fun k Z' R' gs' => gs' = gs ∧ (S, lsO (xs.take 60)) ∈ Z' ∧ ∃ m D told u, R' = [(L, nsO m), (D, lsO told)] ∧ m "told" = some (.ref D) ∧ m "place" = some (.int k u) ∧ told.length = 10 ∧ AllI told) ?_ ?_ ?_ ?_
  · rintro k Z' R' gs' h' R'' ⟨_, hm, _⟩ G'
    exact at_ls.mp (G'.atZ hm)
  · exact ⟨rfl, by simp, _, _, _, _, rfl, rfl, rfl, rfl, by intro v hv; simp at hv; rcases hv with rfl | rfl | rfl | rfl | rfl | rfl | rfl | rfl | rfl | rfl <;> exact ⟨_, _, rfl⟩⟩
  · rintro E' k Z' R' gs' ι' h' t' v hk ⟨rfl, hm, m, D, told, u, rfl, hm1, hm2, hl10, hti⟩ G' hv
    obtain ⟨n, un, rfl⟩ := hs v (List.mem_of_getElem? hv)
    simp only [List.cons_append, List.nil_append] at G'
    repeat' (wtm_at "x1")
    refine v_item (at_ls.mp (Fm.at (i := 1) (by assumption) rfl)) (by wtm_at "om") (by wtm_at "om") (by wtm_at "om") ?_
    intro x hx
    obtain ⟨n1, u1, rfl⟩ := hti x (List.mem_of_getElem? hx)
    repeat' (wtm_at "x1")
    refine v_setL (i := 1) (by assumption) rfl (by wtm_at "om") (by wtm_at "om") (by wtm_at "om") ?_
    intro h5 G5
    simp only [List.set_cons_succ, List.set_cons_zero] at G5
    repeat' (wtm_at "x1")
    refine ⟨rfl, Z', [(L, nsO _), (D, lsO _)], gs', _, _, rfl, ?_, by assumption⟩
    refine ⟨rfl, hm, _, D, _, _, rfl, by wtm_at "xlook", by wtm_at "xlook", by simpa using hl10, ?_⟩
    intro v hv
    rcases List.mem_or_eq_of_mem_set hv with hv | rfl
    · exact hti v hv
    · exact ⟨_, _, rfl⟩
  · rintro Z' R' gs' h' t' ⟨rfl, hm, m, D, told, u, rfl, hm1, hm2, hl10, hti⟩ G'
    repeat' (wtm_at "x1")
    refine v_slL (by assumption) (at_ls.mp (Fm.at (i := 1) (by assumption) rfl)) .none (.int _ _) (by wtm_at "om") ?_
    intro S2 h₂ hS2 G2
    rw [show (slicePick told.toArray none (some 6) none).toList = told.take 6 by rw [show (6 : Int) = ((6 : Nat) : Int) from rfl, slicePick_upto']] at G2
    refine v_it_list G2 (at_ls.mp (Fm.atZ (φ := lsO _) (by assumption) (by wtm_at "xmem"))) ?_
    intro it2 h₃ G3 hl3
    refine comp_use (i := 0) (Iter.list (vs := told.take 6) (show (A.deeper _).handled = none from rm.hd)) G3 (fun k Z' ys => ys.length = k ∧ ∀ v ∈ ys, TG v) ?_ (by rw [List.length_take]; wtm_at "om") ⟨rfl, fun _ hv => nomatch hv⟩ self_list (by decide) (by rfl) (by rfl) (by rfl) (by rfl) (by rfl) ?_ ?_
    · intro Z'' h'' R'' hZ G''
      exact at_ls.mp (G''.atZ (hZ _ (by simp)))
    · rintro E' D' C k Z'' ys ι' m' h' t' v hk ⟨hJ1, hJ2⟩ hys hZ G'' hv
      obtain ⟨n, un, rfl⟩ := hti v (List.mem_of_mem_take (List.mem_of_getElem? hv))
      repeat' (wtm_at "x1")
      refine v_item (at_ls.mp (Fm.atZ (φ := lsO _) (by assumption) (by wtm_at "xmem"))) (by wtm_at "om") (by simp only [List.length_cons, List.length_nil]; wtm_at "om") (by wtm_at "om") ?_
      intro x hx
      obtain ⟨j, uj, rfl, hj0, hj8⟩ := IV.get (n := 8) (by wtm_at "ivs") hx
      refine v_item (at_ls.mp (Fm.atZ (φ := lsO (_ ++ [.none, .int 7 _])) (by assumption) (by wtm_at "xmem"))) (by wtm_at "om") (by simp only [List.length_cons, List.length_nil, List.length_append]; wtm_at "om") (by wtm_at "om") ?_
      intro x hx
      have hT := tg_of (by assumption) (by assumption) hx
      exact ⟨_, _, _, rfl, by assumption, by intro e he; simp [hZ e he], by simp [hJ1], all_snoc hJ2 hT⟩
    · rintro D1 Z'' tags h' t' hD1 ⟨hJ1, hJ2⟩ hZ G''
      simp only [List.set_cons_zero] at G''
      repeat' (wtm_at "x1")
      refine v_slL (by assumption) (at_ls.mp (Fm.at (i := 1) (by assumption) rfl)) (.int _ _) .none (by wtm_at "om") ?_
      intro S3 h₂ hS3 G2
      rw [show (slicePick told.toArray (some 6) none none).toList = told.drop 6 by rw [show (6 : Int) = ((6 : Nat) : Int) from rfl, slicePick_from']] at G2
      refine v_it_list G2 (at_ls.mp (Fm.atZ (φ := lsO _) (by assumption) (by wtm_at "xmem"))) ?_
      intro it2 h₃ G3 hl3
      refine comp_use (i := 0) (Iter.list (vs := told.drop 6) (show (A.deeper _).handled = none from rm.hd)) G3 (fun k Z' ys => ys.length = k ∧ ∀ v ∈ ys, SV 1 20 v) ?_ (by rw [List.length_drop]; wtm_at "om") ⟨rfl, fun _ hv => nomatch hv⟩ self_list (by decide) (by rfl) (by rfl) (by rfl) (by rfl) (by rfl) ?_ ?_
      · intro Z'' h'' R'' hZ G''
        exact at_ls.mp (G''.atZ (hZ _ (by simp)))
      · rintro E' D' C k Z'' ys ι' m' h' t' v hk ⟨hJ1, hJ2⟩ hys hZ G'' hv
        obtain ⟨n, un, rfl⟩ := hti v (List.mem_of_mem_drop (List.mem_of_getElem? hv))
        repeat' (wtm_at "x1")
        refine v_item (at_ls.mp (Fm.atZ (φ := lsO _) (by assumption) (by wtm_at "xmem"))) (by wtm_at "om") (by simp only [List.length_cons, List.length_nil]; wtm_at "om") (by wtm_at "om") ?_
        intro x hx
        obtain ⟨j, uj, rfl, hj0, hj8⟩ := IV.get (n := 6) (by wtm_at "ivs") hx
        refine v_item (at_ls.mp (Fm.atZ (φ := lsO (_ ++ [.none, .int 7 _])) (by assumption) (by wtm_at "xmem"))) (by wtm_at "om") (by simp only [List.length_cons, List.length_nil, List.length_append]; wtm_at "om") (by wtm_at "om") ?_
        intro x hx
        have hT := sv_of (by assumption) (by assumption) (by wtm_at "om") hx
        exact ⟨_, _, _, rfl, by assumption, by intro e he; simp [hZ e he], by simp [hJ1], all_snoc hJ2 hT⟩
      · rintro D2 Z3 wished h' t' hD2 ⟨hK1, hK2⟩ hZ3 G3
        simp only [List.set_cons_zero] at G3
        repeat' (wtm_at "x1")
        rename_i T hX hT G4
        show Q (.ref _) _
        refine q T D1 D2 tags wished _ _ (F.kp.there hT) (F.kp.there hD1) (F.kp.there hD2) hJ2 (by rw [hJ1, List.length_take]; wtm_at "om") hK2 (by rw [hK1, List.length_drop]; wtm_at "om") (F.ret [(T, tuO [.ref D1, .ref D2]), (D1, lsO tags), (D2, lsO wished)] G4 ?_)
        intro e he
        simp only [List.mem_cons, List.not_mem_nil, or_false] at he
        rcases he with rfl | rfl | rfl
        · exact ⟨by simp, hT⟩
        · exact ⟨by simp [hZ3 (D1, lsO tags) (by simp)], hD1⟩
        · exact ⟨by simp, hD2⟩
end
end
section
open PySem PySem.W PySem.Calls PyProof.Rows PySem.Builtin PySem.Builtin.Str
def cdHd (K : Frag) (c P : Addr) : Bool := match K.lookup c with
  | some ⟨.type T, _, .fields vs, _⟩ => T == "code" && (match (vs[11]? : Option Value) with | some (.ref Q) => Nat.beq Q P | _ => false) && (match vs.getD 18 .none with | .str _ _ => true | _ => false) &&
      (match vs.getD 7 .none with | .int _ _ => true | _ => false) && (match vs.getD 9 .none with | .bool _ => true | _ => false) && (match vs.getD 10 .none with | .int _ _ => true | _ => false) && !(Nat.beq c P)
  | _ => false
theorem cdHd_ok {K : Frag} {h : Heap} {c P : Addr} (X : K.In h) (e : cdHd K c P = true) : CodeHd h c P := by
  unfold cdHd at e
  split at e
  · rename_i T od vs sl hK
    simp only [Bool.and_eq_true] at e
    obtain ⟨⟨⟨⟨⟨⟨e1, e2⟩, e3⟩, e4⟩, e5⟩, e6⟩, e7⟩ := e
    split at e2
    · rename_i Q hQ
      have hQ' : Q = P := Nat.eq_of_beq_eq_true e2
      subst hQ'
      split at e3 <;> try cases e3
      rename_i f tf h3
      split at e4 <;> try cases e4
      rename_i fl tg h4
      split at e5 <;> try cases e5
      rename_i b h5
      split at e6 <;> try cases e6
      rename_i tx tt h6
      refine ⟨_, vs, f, tf, fl, tg, b, tx, tt, X c _ hK, by rw [eq_of_beq e1], rfl, hQ, ?_, h3, h4, h5, h6, ?_⟩
      · rw [Array.getD_eq_getD_getElem?, hQ]; rfl
      · intro z; subst z; simp at e7
    · cases e2
  · cases e
section
variable {W : Wd} {A : Around} {E : Value → Shared → Prop} {h₀ h : Heap} {Z R : List Ent} {gs : Array GenState} {d : Drawn} {t : Nat} {os : OsState} {Q : Value → Shared → Prop}
theorem hd_ND (B : Base W h) : CodeHd h 108 104 := cdHd_ok B.K (by kernel_rfl)
theorem hd_TS (B : Base W h) : CodeHd h 82 78 := cdHd_ok B.K (by kernel_rfl)
theorem hd_PT (B : Base W h) : CodeHd h 44 40 := cdHd_ok B.K (by kernel_rfl)
theorem hd_PC (B : Base W h) : CodeHd h 51 47 := cdHd_ok B.K (by kernel_rfl)
theorem nl_104 (P : Params) : (KK P).lookup 104 = none := by kernel_rfl
theorem nk_104 (W : Wd) : NK W 104 := ⟨nl_104 _, .inl (by decide)⟩
theorem nl_78 (P : Params) : (KK P).lookup 78 = none := by kernel_rfl
theorem nk_78 (W : Wd) : NK W 78 := ⟨nl_78 _, .inl (by decide)⟩
theorem nl_40 (P : Params) : (KK P).lookup 40 = none := by kernel_rfl
theorem nk_40 (W : Wd) : NK W 40 := ⟨nl_40 _, .inl (by decide)⟩
theorem nl_47 (P : Params) : (KK P).lookup 47 = none := by kernel_rfl
theorem nk_47 (W : Wd) : NK W 47 := ⟨nl_47 _, .inl (by decide)⟩
theorem fit_104 {p : Wd} : FitsNew p 104 "_law_node.<locals>.<lambda>" := fun h cv x => ⟨fun _ => (x "").1, fun e => absurd e (by decide), fun e => absurd e (by decide), fun e => absurd e (by decide), fun e => absurd (by decide) e⟩
theorem fit_78 {p : Wd} : FitsNew p 78 "_translate.<locals>.<lambda>" := fun h cv x => ⟨fun e => absurd e (by decide), fun _ => (x "").1, fun e => absurd e (by decide), fun e => absurd e (by decide), fun e => absurd (by decide) e⟩
theorem fit_40 {p : Wd} : FitsNew p 40 "_prepare_tag.<locals>.select" := fun h cv x => ⟨fun e => absurd e (by decide), fun e => absurd e (by decide), fun _ => (x "").1, fun e => absurd e (by decide), fun e => absurd (by decide) e⟩
theorem fit_47 {p : Wd} : FitsNew p 47 qSel := fun h cv x => ⟨fun e => absurd e (by decide), fun e => absurd e (by decide), fun e => absurd e (by decide), fun _ => x _, fun e => absurd (by decide) e⟩
theorem fit_P {p : Wd} {P : Addr} (hP : P ∉ tabA) : FitsNew p P qSelC := fun h cv x => ⟨fun e => absurd (by subst e; decide) hP, fun e => absurd (by subst e; decide) hP, fun e => absurd (by subst e; decide) hP, fun e => absurd (by subst e; decide) hP, fun _ => (x "").1⟩
theorem k_node {v : Value} {k : Int} {u : Tok} (F : Fm W h₀ Z R h) (rm : Rm 1 A)
    (q : ∀ f dx m h' t', h₀.get? f = none → h₀.get? dx = none → dx ≠ f → m "tag" = some v → m "place" = some (.int k u) → Fm W h₀ ((f, fnD dx) :: (dx, ns1O m) :: Z) R h' → Q (.ref f) ⟨h', gs, d, t', os⟩) :
    wpAny (MM W.w) A (call (.ref 109) [v, .int k u]) Q E ⟨h, gs, d, t, os⟩ := by
  refine enter (Z := []) (fd := fdND) (body := bodyOf (stAt 17)) (binds := [("tag", v), ("place", .int k u)]) F.base .nil rm.depth (F.base.K 109 _ (kf_ND _)) rfl (cr_ND F.base) (by rfl) (by rfl) (locs (by rfl)) (by decide) (by rfl) (by rfl) (by rfl) ?_
  intro L h₁ t₁ G
  with_reducible refine noE fun E1 => ?_
  refine x_cons ?_
  repeat' (wtm_at "x1")
  refine v_lam ?_ (by rfl)
  refine v_make (c := 108) (P := 104) (qual := "_law_node.<locals>.<lambda>") G (by rfl) (by rfl) (by rfl) (hd_ND G.base) G.base.tb.node (nk_104 _) fit_104 (by rfl) ?_
  intro f cv ctv h₂ t₂ hcv hin G2
  simp only [List.cons_append, List.nil_append] at G2
  repeat' (wtm_at "x1")
  refine plainObj_wpAny_Assign_Attribute ?_ (by rfl)
  repeat' (wtm_at "x1")
  refine v_sa1 (by assumption) lk_fn_tag ?_
  intro dx h₃ t₃ G3
  repeat' (wtm_at "x1")
  refine plainObj_wpAny_Assign_Attribute ?_ (by rfl)
  repeat' (wtm_at "x1")
  refine v_sa2 (by assumption) lk_fn_place (Within.cons _ _ Within.nil) (by decide) ?_
  intro h₄ t₄ G4
  repeat' (wtm_at "x1")
  show Q (.ref _) _
  obtain ⟨m, hm1, hm2, G4⟩ : ∃ m, m "tag" = some v ∧ m "place" = some (.int k u) ∧ Fm W h _ [(L, _), (f, fnD dx), (dx, ns1O m)] h₄ := ⟨fun (y : Str) => if y = "place" then some (.int k u) else (fun (y : Str) => if y = "tag" then some v else none) y, by rfl, by rfl, G4⟩
  have hf := G4.rf (f, fnD dx) (by simp)
  have hdx := G4.rf (dx, ns1O m) (by simp)
  have rn := G4.rn
  simp only [List.map_cons, List.map_nil, List.nodup_cons, List.mem_cons, List.not_mem_nil, or_false, not_or, List.nodup_nil, and_true, not_false_eq_true] at rn
  have G6 := Fm.frz (R := [_]) (R' := [_]) G4
  have G7 := Fm.frz (R := [_]) (R' := []) G6
  refine q f dx m _ _ (F.kp.there hf) (F.kp.there hdx) (Ne.symm rn.2) hm1 hm2 (F.ret [(f, fnD dx), (dx, ns1O m)] G7 ?_)
  intro e he
  simp only [List.mem_cons, List.not_mem_nil, or_false] at he
  rcases he with rfl | rfl
  · exact ⟨by simp, hf⟩
  · exact ⟨by simp, hdx⟩
end
end
section
open PySem PySem.W PySem.Calls PyProof.Rows PySem.Builtin
/-- one piece of a pattern -/
inductive It
  | lit (c : Nat)
  | br (c : Nat)
  | neg
  | star
deriving DecidableEq
def It.ok : It → Bool
  | .lit c => c != 42 && c != 63 && c != 91
  | .br c => c == 42 || c == 63 || c == 91
  | .neg => true
  | .star => true
def It.src : It → List Nat
  | .lit c => [c]
  | .br c => [91, c, 93]
  | .neg => [91, 33, 123, 93]
  | .star => [42]
def It.out : It → Str
  | .lit c => escS c
  | .br c => if c = 91 then ⟨#[91, 92, 91, 93]⟩ else ⟨#[91, c, 93]⟩
  | .neg => ⟨#[91, 94, 123, 93]⟩
  | .star => ⟨#[46, 42]⟩
def srcL (p : List It) : List Nat := p.flatMap It.src
/-- the values that _translate lays: strs, and STAR -/
inductive VIs (S : Addr) : List Value → List It → Prop
  | nil : VIs S [] []
  | it {vs p i u} : i ≠ .star → VIs S vs p → VIs S (vs ++ [.str i.out u]) (p ++ [i])
  | star {vs p} : VIs S vs p → VIs S (vs ++ [.ref S]) (p ++ [.star])
theorem VIs.len {S : Addr} {vs : List Value} {p : List It} (x : VIs S vs p) : vs.length = p.length := by
  induction x with
  | nil => rfl
  | it _ _ ih => simp [ih]
  | star _ ih => simp [ih]
theorem VIs.get {S : Addr} {vs : List Value} {p : List It} (x : VIs S vs p) : ∀ {k : Nat} {i : It}, p[k]? = some i → (i ≠ .star ∧ ∃ u, vs[k]? = some (.str i.out u)) ∨ (i = .star ∧ vs[k]? = some (.ref S)) := by
  induction x with
  | nil => intro k i e; cases e
  | @it vs p j u hj x ih =>
    intro k i e
    have hl := x.len
    by_cases q : k < p.length
    · rw [List.getElem?_append_left q] at e
      rw [List.getElem?_append_left (by omega)]
      exact ih e
    · have : k = p.length := by
        have := (List.getElem?_eq_some_iff.mp e).1
        simp at this; omega
      subst this
      simp at e
      subst e
      exact .inl ⟨hj, u, by rw [← hl]; simp⟩
  | @star vs p x ih =>
    intro k i e
    have hl := x.len
    by_cases q : k < p.length
    · rw [List.getElem?_append_left q] at e
      rw [List.getElem?_append_left (by omega)]
      exact ih e
    · have : k = p.length := by
        have := (List.getElem?_eq_some_iff.mp e).1
        simp at this; omega
      subst this
      simp at e
      subst e
      exact .inr ⟨rfl, by rw [← hl]; simp⟩
theorem slice_mid {y : Str} {a b c : List Nat} (h : cp y = a ++ b ++ c) (i j : Int) (hi : i = a.length) (hj : j = a.length + b.length) : Txt.slice y (some i) (some j) = ⟨b.toArray⟩ := by
  apply cp_inj
  have hl : y.length = a.length + b.length + c.length := by rw [← cp_len, h]; simp [Nat.add_assoc]
  have e1 : clipN y.length 0 (some i) = a.length := clip_eq hi (by omega)
  have e2 : clipN y.length y.length (some j) = a.length + b.length := clip_eq (by omega) (by omega)
  rw [cp_slice, e1, e2, h, List.append_assoc, List.drop_left, show a.length + b.length - a.length = b.length by omega, List.take_left]
  exact cp_mk.symm
end
section
open PySem PySem.W PySem.Calls PyProof.Rows PySem.Builtin PySem.Builtin.Str
theorem one_ne {c k : Nat} (h : c ≠ k) : ((⟨#[c]⟩ : Str) == ⟨#[k]⟩) = false := by rw [beq_cp]; simp [cp_one, h]
/-- the frame as it stands -/
theorem Fm.here {W : Wd} {h₀ h : Heap} {Z R : List Ent} (F : Fm W h₀ Z R h) : Fm W h₀ Z R h := F
section
variable {W : Wd} {A : Around} {E : Value → Shared → Prop} {h₀ h : Heap} {gs : Array GenState} {d : Drawn} {t : Nat} {os : OsState} {Z R : List Ent} {env : Env} {Q : Value → Shared → Prop} {x : Str} {v : Value} {m : Str → Option Value} {i : Nat} {pos : Pos}
theorem charAt_cp {y : Str} {i : Int} {c : Nat} (h0 : 0 ≤ i) (hc : (cp y)[i.toNat]? = some c) : Txt.charAt y i = some c := by
  have hl : i.toNat < y.length := by rw [← cp_len]; exact (List.getElem?_eq_some_iff.mp hc).1
  unfold Txt.charAt
  have e : seqIndex? i y.length = some i.toNat := by
    unfold seqIndex?
    have h1 : ¬ i < 0 := by omega
    simp only [h1, if_false]
    rw [if_pos (by simp only [Bool.and_eq_true, decide_eq_true_eq]; omega)]
  rw [e]
  show y.cps[i.toNat]? = some c
  simpa [cp] using hc
theorem v_chr {value slice : Expr} {y : Str} {ty : Tok} {i : Int} {c : Nat} {u : Tok} (h0 : 0 ≤ i) (hc : (cp y)[i.toNat]? = some c) (hy : y.length ≤ 1000000) (q : Q (.str ⟨#[c]⟩ t) ⟨h, gs, d, t + 1, os⟩)
    (hs : subscripted slice false (.str y ty) (.int i u) = operate [.str y ty, .int i u] (getItem (.str y ty) (.int i u)) := by with_unfolding_all rfl)
    (ht : ∀ r, letTemporaryGo value (.str y ty) r = pure () := by intro _; with_unfolding_all rfl) :
    wpAny (MM W.w) A (subscriptTail value slice (.str y ty) (.int i u)) Q E ⟨h, gs, d, t, os⟩ := by
  have hl : i.toNat < y.length := by rw [← cp_len]; exact (List.getElem?_eq_some_iff.mp hc).1
  refine PyProof.Rows.item_str (s := ⟨h, gs, d, t, os⟩) ?_ (by omega) (by omega) (fun _ => ?_) hs ht
  · unfold fitsSsize; simp; omega
  · rw [show Txt.item y i = ⟨#[c]⟩ by unfold Txt.item; rw [charAt_cp h0 hc]; rfl]
    exact q
theorem v_last {value slice : Expr} {a : Addr} {l : List Value} {x : Value} {u : Tok} (hl : h.IsList a (l ++ [x]).toArray) (hsz : l.length ≤ 1000000) (q : Q x ⟨h, gs, d, t, os⟩)
    (hs : subscripted slice false (.ref a) (.int (-1) u) = operate [.ref a, .int (-1) u] (getItem (.ref a) (.int (-1) u)) := by with_unfolding_all rfl) :
    wpAny (MM W.w) A (subscriptTail value slice (.ref a) (.int (-1) u)) Q E ⟨h, gs, d, t, os⟩ := by
  have hn : (l ++ [x]).toArray.size = l.length + 1 := by simp
  refine tail_any hl.typeIs slot_list_getitem.lookup (wpAny_getItem_list_neg (x := x) hl (by decide) (by rw [hn]; omega) (by decide) ?_ q) hs
  rw [hn, show ((-1 : Int) + ((l.length + 1 : Nat) : Int)).toNat = l.length by omega]
  simp
theorem v_tlist {l : Addr} {vs : List Value} {Q : Bool → Shared → Prop} (hl : h.IsList l vs.toArray) (hsz : vs.length ≤ 1000000) (q : Q (!vs.isEmpty) ⟨h, gs, d, t + 1 + 1, os⟩) : wpAny (MM W.w) A (truthy (.ref l)) Q E ⟨h, gs, d, t, os⟩ :=
  wpAny_truthy_list hl (by simp; omega) (by simpa using q)
theorem v_slcE {value slice : Expr} {y r : Str} {ty : Tok} {i j : Int} {ti tj : Tok} (F : Fm W h₀ Z R h) (hsz : y.length ≤ 1000000) (e : Txt.slice y (some i) (some j) = r) (q : ∀ h' tk t', Fm W h₀ Z R h' → Q (.str r tk) ⟨h', gs, d, t', os⟩)
    (hs : subscripted slice false (.str y ty) (.ref h.objs.size) = operate [.ref h.objs.size, .str y ty] (getItem (.str y ty) (.ref h.objs.size)) := by with_unfolding_all rfl) (ht : ∀ r, letTemporaryGo value (.str y ty) r = pure () := by intro _; with_unfolding_all rfl) :
    wpAny (MM W.w) A (subscriptTail value slice (.str y ty) (.ref h.objs.size)) Q E ⟨h.push { cls := .type "slice", data := .fields #[.int i ti, .int j tj, .none] }, gs, d, t, os⟩ :=
  v_subS_ss F hsz (fun h' tk t' _ G => e ▸ q h' tk t' G) hs ht
theorem v_tstr {y : Str} {ty : Tok} {Q : Bool → Shared → Prop} (hy : y.length ≤ 1000000) (q : Q ((y.length : Int) != 0) ⟨h, gs, d, t + 1 + 1, os⟩) : wpAny (MM W.w) A (truthy (.str y ty)) Q E ⟨h, gs, d, t, os⟩ := P.truthy_str (fit63 hy) q
theorem v_tlist0 {l : Addr} {Q : Bool → Shared → Prop} (hl : h.IsList l ([] : List Value).toArray) (q : Q false ⟨h, gs, d, t + 1 + 1, os⟩) : wpAny (MM W.w) A (truthy (.ref l)) Q E ⟨h, gs, d, t, os⟩ := v_tlist hl (by decide) q
theorem v_tlist1 {l : Addr} {vs : List Value} {v : Value} {Q : Bool → Shared → Prop} (hl : h.IsList l (vs ++ [v]).toArray) (hsz : vs.length ≤ 100000) (q : Q true ⟨h, gs, d, t + 1 + 1, os⟩) : wpAny (MM W.w) A (truthy (.ref l)) Q E ⟨h, gs, d, t, os⟩ := v_tlist hl (by rw [List.length_append]; simp; omega) (by rw [show (vs ++ [v]).isEmpty = false by simp]; exact q)
theorem v_msub {e e' : Sem Value} {s : Shared} (B : Base W s.heap)
    (q : wpAny (MM W.w) A e (fun v s₁ => wpAny (MM W.w) A e' (fun v' s₂ => wpAny (MM W.w) A (call (.builtin "re.Pattern.sub") [.ref 57, v, v']) Q E s₂) E s₁) E s) : MethodOnS pg W.w A E "sub" (.ref 57) pos [(false, e), (false, e')] Q s :=
  let ⟨vs, sl, hp, _⟩ := (pat_at B).p
  ⟨"re.Pattern", "re.Pattern.sub", pa_sub, sl_sub, ty_sub, ⟨_, hp, rfl⟩, (fun a e => by cases e; exact ⟨_, hp, rfl⟩),
    Calls.callWith_builtin rfl (Calls.evalArgs_plain (Calls.spliced_cons (wpAny_mono q (fun _ _ h₁ => Calls.spliced_cons (wpAny_mono h₁ (fun _ _ h₂ => Calls.spliced_nil h₂) fun _ _ e => e)) fun _ _ e => e)))⟩
theorem v_repl {y z z' r : Str} {u v w : Tok} (hr : Txt.replace y z z' = r) (hy : y.length ≤ 1000) (hz : z'.length ≤ 14) (hne : (z == z') = false) (hv : v ≠ 0) (hw : w ≠ 0) (hvw : v ≠ w) (q : ∀ tk t', Q (.str r tk) ⟨h, gs, d, t', os⟩) :
    wpAny (MM W.w) A (call (.builtin "str.replace") [.str y u, .str z v, .str z' w]) Q E ⟨h, gs, d, t, os⟩ :=
  SC.replaceW hv hw hvw hne (by omega) hz fun t' k => hr ▸ q t' k
/-- a sign in a written tuple of strs -/
theorem v_intup {T : Addr} {vs : List Value} {ys : List Str} {y : Str} {u : Tok} (hT : At h T (tuO vs)) (hs : StrsAre vs ys) (q : Q (.bool (ys.any (· == y))) ⟨h, gs, d, t, os⟩) : wpAny (MM W.w) A (compareOp .In (.str y u) (.ref T)) Q E ⟨h, gs, d, t, os⟩ := by
  refine in_tuple_strs (s := ⟨h, gs, d, t, os⟩) (items := vs.toArray) ?_ (by simpa using hs) q
  obtain ⟨o, ho, hc, n, hd⟩ := hT
  exact ⟨o, ho, hc, n, hd⟩
theorem at_lsP {h : Heap} {a : Addr} {vs : List Value} : At h a (lsP vs) ↔ h.PlainList a vs.toArray := ⟨fun ⟨_, e, n, q⟩ => ⟨n, q ▸ e⟩, fun ⟨n, e⟩ => ⟨_, e, n, rfl⟩⟩
theorem lsP_ls {vs : List Value} {o : Obj} (x : lsP vs o) : lsO vs o := let ⟨n, e⟩ := x; e ▸ ⟨rfl, n, rfl⟩
theorem v_mapp {l : Addr} {vs : List Value} {e : Sem Value} {s : Shared} (F : At s.heap l (lsP vs))
    (q : wpAny (MM W.w) A e (fun v s₁ => wpAny (MM W.w) A (call (.builtin "list.append") [.ref l, v]) Q E s₁) E s) : MethodOnS pg W.w A E "append" (.ref l) pos [(false, e)] Q s :=
  let ⟨_, hx, n, hq⟩ := F
  ⟨"list", "list.append", PySem.F.plainAttrs_list, slot_list_append, PySem.F.type_list_append, ⟨_, hx, by rw [hq]⟩, (fun a e => by cases e; exact ⟨_, hx, by rw [hq]⟩),
    Calls.callWith_builtin rfl (Calls.evalArgs_plain (Calls.spliced_cons (wpAny_mono q (fun _ _ h₁ => Calls.spliced_nil h₁) fun _ _ e => e)))⟩
theorem v_appP {R' : List Ent} {l : Addr} {vs : List Value} (F : Fm W h₀ Z R h) (hi : R[i]? = some (l, lsP vs)) (hsz : vs.length ≤ 1000000) (hR : R.set i (l, lsP (vs ++ [v])) = R')
    (q : ∀ h', Fm W h₀ Z R' h' → Q .none ⟨h', gs, d, t, os⟩) : wpAny (MM W.w) A (call (.builtin "list.append") [.ref l, v]) Q E ⟨h, gs, d, t, os⟩ :=
  wpAny_list_append_plain (at_lsP.mp (F.at hi)) (fun h' hl' hs => q h' (hR ▸ F.turn hi hs.extBut nrm_lsP (at_lsP.mpr (by simpa using hl')))) (by rw [List.size_toArray]; exact le_line hsz)
end
end
section
open PySem PySem.W PySem.Calls PyProof.Rows PySem.Builtin
theorem mro_obj : mroOf (.type "object") = pure [.type "object"] := by rw [mroOf_type]; kernel_rfl
theorem lk_obj_new : typeLookup (.type "object") "__new__" = pure (some (.builtin "object.__new__")) := by rw [typeLookup_type, builtinLookup_eq_fast]; kernel_rfl
theorem sl_obj_init : Slot "object" "__init__" "object.__init__" := .of (owner := "object") (n := "__init__") (by rw [typeLookup_type, builtinLookup_eq_fast]; kernel_rfl) (by decide +kernel) (by decide +kernel) (by decide +kernel)
    (by first | exact .inl (by decide +kernel) | exact .inr (by decide +kernel)) (by rw [isSubtype_type]; kernel_rfl)
theorem cl_obj : TypeCalled "object" "object.__new__" "object.__init__" :=
  ⟨by decide +kernel, by decide +kernel, ⟨_, _, mro_obj⟩, madeBy_type mro_obj lk_obj_new (by decide +kernel), by decide +kernel, by rw [isSubtype_type]; kernel_rfl, sl_obj_init⟩
theorem tc_obj : checkTypeCall "object" ⟨[], []⟩ = pure () := by kernel_rfl
theorem nc_obj : checkBuiltinCall "object.__new__" ⟨[.type "object"], []⟩ = pure () := by kernel_rfl
theorem en_obj_new : entryFor table "object.__new__" = some Builtin.«object.__new__» := entryFor_of_tree (by kernel_rfl)
theorem ar_obj (a : Value) : argsOk "object.__init__" ⟨[a], []⟩ := PySem.F.args_object_init_1 a
theorem mh_obj : Bind.madeHere "object.__new__" (.type "object") = pure () := by kernel_rfl
theorem ms_obj : Meets (Builtin.«object.__new__» ⟨[.type "object"], []⟩) (fun _ R s => R (.ok (.ret (.ref s.heap.objs.size))) { s with heap := s.heap.push { cls := .type "object", data := .plain } }) := by
  refine Meets.of_wp fun prog w A R s hs => ?_
  unfold Builtin.«object.__new__»
  have e1 : isType (.type "object") = pure true := by rfl
  have e2 : ((Manifest.find? "object").elim false (·.mro.any fun t => (Manifest.find? t).elim false (·.noNew))) = false := by decide +kernel
  have e3 : typeHasDict (.type "object") = false := by
    show ((Manifest.find? "object").elim false fun x => x.hasDict) = false
    decide +kernel
  have e4 : diesByItsTypesDel "object" = false := by decide +kernel
  dsimp only
  refine wpAny_bind (wpAny_of_eq e1 ?_)
  simp only [e2, e3, e4, Bool.not_true, Bool.false_eq_true, if_false]
  repeat (first | (with_reducible refine wpAny_of_eq mh_obj ?_) | wp_step)
  exact ⟨_, rfl, hs⟩
section
variable {W : Wd} {A : Around} {E : Value → Shared → Prop} {h₀ h : Heap} {gs : Array GenState} {d : Drawn} {t : Nat} {os : OsState} {Z R : List Ent} {env : Env} {Q : Value → Shared → Prop} {x : Str} {v : Value} {m : Str → Option Value} {i : Nat} {pos : Pos}
theorem v_object (F : Fm W h₀ Z R h) (q : ∀ a h', Fm W h₀ Z R h' → Q (.ref a) ⟨h', gs, d, t, os⟩) : wpAny (MM W.w) A (call (.type "object") []) Q E ⟨h, gs, d, t, os⟩ := by
  refine callType_meets (Q₁ := fun obj s₁ => obj = .ref h.objs.size ∧ s₁ = ⟨h.push { cls := .type "object", data := .plain }, gs, d, t, os⟩) cl_obj tc_obj nc_obj en_obj_new PySem.F.entry_object_init ms_obj ⟨rfl, rfl⟩ fun obj s₁ hq => ?_
  obtain ⟨rfl, rfl⟩ := hq
  refine ⟨⟨_, Heap.get?_push_size _ rfl, rfl⟩, ar_obj _, fun _ R s => R (.ok (.ret .none)) s, Meets.of_wp fun _ _ _ _ _ hs => wpAny_pure ⟨_, rfl, hs⟩, rfl, q _ _ (F.push _)⟩
end
end
section
open PySem PySem.W PySem.Calls PyProof.Rows PySem.Builtin PySem.Builtin.Str
local macro_rules | `(tactic| wtm_at "xkept") => rd "(refine (And.intro (kept_bm (Fm.at (is i 2) ! rfl)) ?))"
local macro_rules | `(tactic| wtm_at "xnew") => rd "(do (wr (refine (v_newLP ! (by simp) ?))) (intro 3))"
section
variable {W : Wd} {A : Around} {E : Value → Shared → Prop} {h₀ h : Heap} {Z R : List Ent} {gs : Array GenState} {d : Drawn} {t : Nat} {os : OsState} {Q : Value → Shared → Prop}
def outs (p : List It) : Str := Txt.join "" (p.map It.out)
def joinB (pre : List It) : Option (List It) → Str
  | none => "(?s:" ++ outs pre ++ ")\\Z"
  | some post => "(?s:" ++ (outs pre ++ ".*" ++ outs post) ++ ")\\Z"
def patL (pre : List It) : Option (List It) → List It
  | none => pre
  | some post => pre ++ .star :: post
theorem out_len (i : It) : i.out.length ≤ 4 := by
  cases i with
  | lit c => exact Nat.le_trans (show (escS c).length ≤ 2 by unfold escS; split <;> first | exact Nat.le_refl 2 | exact Nat.le_succ 1) (by decide)
  | br c => unfold It.out; dsimp only; split <;> first | exact Nat.le_refl 4 | exact Nat.le_succ 3
  | neg => exact Nat.le_refl 4
  | star => exact Nat.le_of_ble_eq_true rfl
theorem out_sum : ∀ l : List It, ((l.map It.out).map (·.length)).sum ≤ 4 * l.length
  | [] => Nat.le_refl _
  | c :: l => by
    have := out_sum l
    have := out_len c
    simp only [List.map_cons, List.sum_cons, List.length_cons]
    wtm_at "om"
theorem outs_len (l : List It) : (Txt.join "" (l.map It.out)).length ≤ 4 * l.length := by
  have h1 := StrLaws.join_length_le "" (l.map It.out)
  rw [show Txt.join "" (l.map It.out) = Str.join "" (l.map It.out) from StrLaws.glued_eq_join _ _]
  have h2 := out_sum l
  rw [show (Str.ofString "").length = 0 from rfl] at h1
  wtm_at "om"
/-- what the first loop keeps -/
inductive JC (pre : List It) (D S Res Ad : Addr) (N : Nat) (u5 : Tok) (n k : Nat) (m : Str → Option Value) (xs : List Value) (u : Tok) : Prop
  | mk : n + k = pre.length → StrsAre xs ((pre.take k).map It.out) → m "res" = some (.ref Res) → m "add" = some (.ref Ad) → m "inp" = some (.ref D) → m "STAR" = some (.ref S) → m "n" = some (.int N u5) → m "i" = some (.int k u) → JC pre D S Res Ad N u5 n k m xs u
/-- what the loop over the fixed part keeps -/
inductive JD (post : List It) (D S Res Ad Fx : Addr) (N a : Nat) (u5 : Tok) (n k : Nat) (m : Str → Option Value) (fs : List Value) (u : Tok) : Prop
  | mk : n + k = post.length → StrsAre fs ((post.take k).map It.out) → m "res" = some (.ref Res) → m "add" = some (.ref Ad) → m "inp" = some (.ref D) → m "STAR" = some (.ref S) → m "n" = some (.int N u5) → m "i" = some (.int (a + k : Nat) u) →
    m "fixed" = some (.ref Fx) → JD post D S Res Ad Fx N a u5 n k m fs u
def JSt (D S Res Ad : Addr) (n : Nat) (m : Str → Option Value) (k : Nat) : Prop := m "res" = some (.ref Res) ∧ m "add" = some (.ref Ad) ∧ m "inp" = some (.ref D) ∧ m "STAR" = some (.ref S) ∧ (∃ u, m "n" = some (.int n u)) ∧ ∃ u, m "i" = some (.int k u)
theorem k_join {D S : Addr} {vs : List Value} {pre : List It} {tail : Option (List It)} (F : Fm W h₀ Z R h) (rm : Rm 1 A) (hD : (D, lsO vs) ∈ Z) (hv : VIs S vs (patL pre tail)) (hlen : vs.length ≤ 1000)
    (hpre : ∀ i ∈ pre, i ≠ .star) (hpost : ∀ p, tail = some p → ∀ i ∈ p, i ≠ .star)
    (q : ∀ h' tk t', Fm W h₀ Z R h' → Q (.str (joinB pre tail) tk) ⟨h', gs, d, t', os⟩) :
    wpAny (MM W.w) A (call (.ref 90) [.ref D, .ref S]) Q E ⟨h, gs, d, t, os⟩ := by
  refine enter (Z := Z) (fd := fdJN) (body := bodyOf (stAt 13)) (binds := [("inp", .ref D), ("STAR", .ref S)]) F.base F.z rm.depth (F.base.K 90 _ (kf_JN _)) rfl (cr_JN F.base) (by rfl) (by rfl) (locs (by rfl)) (by decide) (by rfl) (by rfl) (by rfl) ?_
  intro L h₁ t₁ G
  with_reducible refine noE fun E1 => ?_
  refine x_cons ?_
  repeat' (wtm_at "x1")
  refine v_bound (by assumption) ?_
  intro ad h₂ G2
  repeat' (wtm_at "x1")
  rename_i h3 G4
  refine v_whileJ (fun n (_ : Unit) k m xs u => JC pre D S _ ad vs.length _ n k m xs u) (fun _ => _) (fun _ m xs => [(L, nsO m), (_, lsO xs), (ad, bmO _)]) pre.length () 0 _ [] _ G4 ⟨by wtm_at "om", .nil, by rfl, by rfl, by rfl, by rfl, by rfl, by rfl⟩ ?_
  rintro E' Q1 n _ k m xs u6 h' t' ⟨hn, hs, m1, m2, m3, m4, m5, m6⟩ G5 qn qb qr
  have hvl := hv.len
  by_cases hk : k < pre.length
  · have hp : (patL pre tail)[k]? = some pre[k] := by
      cases tail with
      | none => exact List.getElem?_eq_getElem hk
      | some post => exact (List.getElem?_append_left hk).trans (List.getElem?_eq_getElem hk)
    have hkl : k < vs.length := by rw [hvl]; exact (List.getElem?_eq_some_iff.mp hp).1
    repeat' (wtm_at "x1")
    rotate_left
    · have := of_decide_eq_false (by assumption : decide ((k : Int) < (vs.length : Int)) = false)
      wtm_at "om"
    rcases hv.get hp with ⟨_, u, e⟩ | ⟨e, _⟩
    rotate_left
    · exact absurd e (hpre _ (List.getElem_mem hk))
    refine v_itemX (at_ls.mp (G5.atZ (φ := lsO vs) (List.mem_cons_of_mem _ hD))) (by wtm_at "om") (by wtm_at "om") e ?_
    have hsl : xs.length = k := by rw [hs.length, List.length_map, List.length_take]; wtm_at "om"
    repeat' (wtm_at "x1")
    refine v_itemX (at_ls.mp (G5.atZ (φ := lsO vs) (List.mem_cons_of_mem _ hD))) (by wtm_at "om") (by wtm_at "om") e ?_
    repeat' (wtm_at "x1")
    refine (qn (n - 1) () (k + 1) _ _ _ _ _ (by wtm_at "om") (by assumption) ⟨by wtm_at "om", ?_, by wtm_at "xlook", by wtm_at "xlook", by wtm_at "xlook", by wtm_at "xlook", by wtm_at "xlook", by wtm_at "xlook"⟩).1
    rw [List.take_add_one, List.getElem?_eq_getElem hk, List.map_append]
    exact strs_snoc hs _ _
  · have hk' : k = pre.length := by wtm_at "om"
    subst hk'
    rw [List.take_length] at hs
    have hpl : (patL pre tail)[pre.length]? = (match tail with | none => none | some _ => some .star) := by
      cases tail with
      | none => exact List.getElem?_eq_none (Nat.le_refl _)
      | some post => simp [patL]
    cases tail with
    | none =>
      have hvn : vs.length = pre.length := hvl
      repeat' (wtm_at "x1")
      · have := of_decide_eq_true (by assumption : decide ((pre.length : Int) < (vs.length : Int)) = true)
        wtm_at "om"
      refine v_whileQ G5 (fun n Z' R' => Z' = _ ∧ R' = _) 0 ⟨rfl, rfl⟩ ?_
      rintro E'' Q2 n' Z'' R'' h'' t'' ⟨rfl, rfl⟩ G6 qn2 qb2 qr2
      repeat' (wtm_at "x1")
      · have := of_decide_eq_true (by assumption : decide ((pre.length : Int) < (vs.length : Int)) = true)
        wtm_at "om"
      refine ⟨by rw [hvn]; simp, ?_⟩
      repeat' (wtm_at "x1")
      refine join_listW (items := xs.toArray) (at_ls.mp (Fm.at (i := 1) (by assumption) rfl)) (by simpa using hs) (by decide) ?_ ?_
      · have := out_sum pre
        rw [List.length_map]; wtm_at "om"
      have hol : (Txt.join "" (pre.map It.out)).length ≤ 10000 := by have := outs_len pre; wtm_at "om"
      intro tk k'
      repeat' (wtm_at "x1")
      show Q (.str _ _) _
      rw [show (Str.empty ++ Str.ofString "(?s:" ++ Txt.join (Str.ofString "") (List.map It.out pre) ++ Str.ofString ")\\Z") = joinB pre none from cp_inj (by simp only [joinB, outs, cp_app]; rfl)]
      exact q _ _ _ (F.ret0 (by assumption))
    | some post =>
      have hp : (patL pre (some post))[pre.length]? = some .star := hpl
      have hvn : vs.length = pre.length + (post.length + 1) := by rw [hvl]; simp [patL]
      have hsl : xs.length = pre.length := by rw [hs.length, List.length_map]
      repeat' (wtm_at "x1")
      rotate_left
      · have := of_decide_eq_false (by assumption : decide ((pre.length : Int) < (vs.length : Int)) = false)
        wtm_at "om"
      rcases hv.get hp with ⟨e, _⟩ | ⟨_, hst⟩
      · exact absurd rfl e
      refine v_itemX (at_ls.mp (G5.atZ (φ := lsO vs) (List.mem_cons_of_mem _ hD))) (by wtm_at "om") (by wtm_at "om") hst ?_
      repeat' (wtm_at "x1")
      refine v_whileQ G5 (fun n Z' R' => (n = 1 ∧ Z' = _ ∧ R' = _) ∨ (n = 0 ∧ ∃ r m xs' fx fs, R' = [(L, nsO m), (r, lsO xs'), (ad, bmO r), (fx, lsP fs)] ∧ StrsAre xs' (pre.map It.out ++ [(".*" : Str), outs post]) ∧ JSt D S r ad vs.length m vs.length)) 1 (.inl ⟨rfl, rfl, rfl⟩) ?_
      rintro E'' Q2 n' Z'' R'' h'' t'' (⟨rfl, rfl, rfl⟩ | ⟨rfl, r, m', xs', fx, fs, rfl, hs', ⟨n1, n2, n3, n4, ⟨u7, n5⟩, ⟨u8, n6⟩⟩⟩) G6 qn2 qb2 qr2
      · repeat' (wtm_at "x1")
        rotate_left
        · have := of_decide_eq_false (by assumption : decide ((pre.length : Int) < (vs.length : Int)) = false)
          wtm_at "om"
        refine v_itemX (at_ls.mp (G6.atZ (φ := lsO vs) (List.mem_cons_of_mem _ hD))) (by wtm_at "om") (by wtm_at "om") hst ?_
        repeat' (wtm_at "x1")
        refine ⟨rfl, ?_⟩
        repeat' (wtm_at "x1")
        · have h0 : post.length = 0 := by
            have := eq_of_beq (by assumption : ((pre.length : Int) + 1 == (vs.length : Int)) = true)
            wtm_at "om"
          have hpn : post = [] := List.eq_nil_of_length_eq_zero h0
          refine qb2 _ ?_
          repeat' (wtm_at "x1")
          refine ⟨by assumption, ?_⟩
          repeat' (wtm_at "x1")
          refine join_listW (items := (xs ++ [_]).toArray) (ys := pre.map It.out ++ [(".*" : Str)]) (at_ls.mp (Fm.at (i := 1) (by assumption) rfl)) (by simpa using strs_snoc hs _ _) (by decide) ?_ ?_
          · have := out_sum pre
            have h2 : (Str.ofString ".*").length = 2 := rfl
            simp only [List.map_append, List.map_cons, List.map_nil, List.sum_append, List.sum_cons, List.sum_nil, List.length_append, List.length_map, List.length_cons, List.length_nil]
            wtm_at "om"
          have hol : (Txt.join "" (pre.map It.out ++ [(".*" : Str)])).length ≤ 10000 := by
            rw [← cp_len, cp_join]
            have e1 := outs_len pre
            have h2 : (cp (Str.ofString ".*")).length = 2 := rfl
            rw [← cp_len, cp_join] at e1
            simp only [List.flatMap_append, List.length_append, List.flatMap_cons, List.flatMap_nil, List.length_nil]
            wtm_at "om"
          intro tk k'
          repeat' (wtm_at "x1")
          show Q (.str _ _) _
          rw [show (Str.empty ++ Str.ofString "(?s:" ++ Txt.join (Str.ofString "") (List.map It.out pre ++ [Str.ofString ".*"]) ++ Str.ofString ")\\Z") = joinB pre (some post) from cp_inj (by
            simp only [joinB, hpn, cp_app, cp_join, outs, List.flatMap_append, List.flatMap_cons, List.flatMap_nil, List.append_nil, List.append_assoc, List.map_nil]; rfl)]
          exact q _ _ _ (F.ret0 (by assumption))
        · have h0 : post.length ≠ 0 := by
            have := ne_of_beq_false (by assumption : ((pre.length : Int) + 1 == (vs.length : Int)) = false)
            wtm_at "om"
          have hpat : ∀ j, j < post.length → ∃ u, vs[pre.length + 1 + j]? = some (.str ((post.map It.out)[j]?.getD "") u) := fun j hj => by
            have e0 : (patL pre (some post))[pre.length + 1 + j]? = some post[j] := by
              simp only [patL]
              rw [List.getElem?_append_right (by wtm_at "om"), show pre.length + 1 + j - pre.length = j + 1 by wtm_at "om"]
              simp [hj]
            rcases hv.get e0 with ⟨_, u, e⟩ | ⟨e, _⟩
            · exact ⟨u, by rw [e]; simp [hj]⟩
            · exact absurd e (hpost _ rfl _ (List.getElem_mem hj))
          obtain ⟨u0, hu0⟩ := hpat 0 (by wtm_at "om")
          refine v_itemX (at_ls.mp (Fm.atZ (φ := lsO vs) (by assumption) (List.mem_cons_of_mem _ hD))) (by wtm_at "om") (by wtm_at "om") hu0 ?_
          repeat' (wtm_at "x1")
          refine ⟨rfl, ?_⟩
          repeat' (wtm_at "x1")
          rename_i G8
          refine v_whileJ (fun n (_ : Unit) k m fs u => JD post D S _ ad _ vs.length (pre.length + 1) _ n k m fs u) (fun _ => _) (fun _ m fs => [(L, nsO m), (_, lsO xs), (ad, bmO _), (_, lsP fs)]) post.length () 0 _ [] _ G8 ⟨by wtm_at "om", .nil, by wtm_at "xlook", by wtm_at "xlook", by wtm_at "xlook", by wtm_at "xlook", by wtm_at "xlook", by wtm_at "xlook", by wtm_at "xlook"⟩ ?_
          rintro E3 Q3 n3 _ k m3 fs u6 h9 t9 ⟨hn3, hs3, b1, b2, b3, b4, b5, b6, b7⟩ G9 qn3 qb3 qr3
          have hfl : fs.length = ((post.take k).map It.out).length := hs3.length
          rw [List.length_map, List.length_take] at hfl
          by_cases hk3 : k < post.length
          · obtain ⟨u0, hu0⟩ := hpat k hk3
            repeat' (wtm_at "x1")
            rotate_left
            · have := of_decide_eq_false (by assumption : decide (((pre.length + 1 + k : Nat) : Int) < (vs.length : Int)) = false)
              wtm_at "om"
            refine v_itemX (at_ls.mp (Fm.atZ (φ := lsO vs) (by assumption) (List.mem_cons_of_mem _ hD))) (by wtm_at "om") (by wtm_at "om") hu0 ?_
            repeat' (wtm_at "x1")
            refine v_mapp (Fm.at (i := 3) (by assumption) rfl) ?_
            repeat' (wtm_at "x1")
            refine v_itemX (at_ls.mp (Fm.atZ (φ := lsO vs) (by assumption) (List.mem_cons_of_mem _ hD))) (by wtm_at "om") (by wtm_at "om") hu0 ?_
            refine v_appP (i := 3) (by assumption) rfl (by wtm_at "om") rfl ?_
            intro h10 G10
            simp only [List.set_cons_succ, List.set_cons_zero] at G10
            repeat' (wtm_at "x1")
            refine (qn3 (n3 - 1) () (k + 1) _ _ _ _ _ (by wtm_at "om") (by assumption) ⟨by wtm_at "om", ?_, by wtm_at "xlook", by wtm_at "xlook", by wtm_at "xlook", by wtm_at "xlook", by wtm_at "xlook", by wtm_at "xlook", by wtm_at "xlook"⟩).1
            rw [List.take_add_one, List.getElem?_eq_getElem hk3, List.map_append]
            have e0 : (post.map It.out)[k]?.getD "" = (post[k]).out := by simp [hk3]
            rw [e0]
            exact strs_snoc hs3 _ _
          · have hk' : k = post.length := by wtm_at "om"
            subst hk'
            rw [List.take_length] at hs3
            repeat' (wtm_at "x1")
            · have := of_decide_eq_true (by assumption : decide (((pre.length + 1 + post.length : Nat) : Int) < (vs.length : Int)) = true)
              wtm_at "om"
            refine join_listW (items := fs.toArray) (ys := post.map It.out) (let ⟨o, e, q⟩ := Fm.at (i := 3) G9 rfl; at_ls.mp ⟨o, e, lsP_ls q⟩) (by simpa using hs3) (by decide) ?_ ?_
            · have := out_sum post
              rw [List.length_map]; wtm_at "om"
            intro tk k'
            repeat' (wtm_at "x1")
            rotate_left
            · have := ne_of_beq_false (by assumption : (((pre.length + 1 + post.length : Nat) : Int) == (vs.length : Int)) = false)
              wtm_at "om"
            refine (qn2 0 _ [(L, nsO _), (_, lsO _), (ad, bmO _), (_, lsP _)] _ _ (by wtm_at "om") ?_ (by assumption)).1
            refine .inr ⟨rfl, _, _, _, _, _, rfl, ?_, by wtm_at "xlook", by wtm_at "xlook", by wtm_at "xlook", by wtm_at "xlook", ⟨_, by wtm_at "xlook"⟩, ⟨u6, ?_⟩⟩
            · rw [show pre.map It.out ++ [(".*" : Str), outs post] = (pre.map It.out ++ [(".*" : Str)]) ++ [outs post] by simp]
              exact strs_snoc (strs_snoc hs _ _) _ _
            · rw [show ((vs.length : Nat) : Int) = ((pre.length + 1 + post.length : Nat) : Int) by wtm_at "om"]
              wtm_at "xlook"
      · repeat' (wtm_at "x1")
        · have := of_decide_eq_true (by assumption : decide ((vs.length : Int) < (vs.length : Int)) = true)
          wtm_at "om"
        refine ⟨by simp, ?_⟩
        repeat' (wtm_at "x1")
        refine join_listW (items := xs'.toArray) (at_ls.mp (Fm.at (i := 1) (by assumption) rfl)) (by simpa using hs') (by decide) ?_ ?_
        · have := out_sum pre
          have := outs_len post
          have : (outs post).length ≤ 4 * post.length := this
          have h2 : (Str.ofString ".*").length = 2 := rfl
          simp only [List.map_append, List.map_cons, List.map_nil, List.sum_append, List.sum_cons, List.sum_nil, List.length_append, List.length_map, List.length_cons, List.length_nil]
          wtm_at "om"
        have hol : (Txt.join "" (pre.map It.out ++ [(".*" : Str), outs post])).length ≤ 10000 := by
          rw [← cp_len, cp_join]
          have e1 := outs_len pre
          have e2 := outs_len post
          have h2 : (cp (Str.ofString ".*")).length = 2 := rfl
          rw [← cp_len, cp_join] at e1
          have e3 : (cp (outs post)).length ≤ 4 * post.length := by rw [cp_len]; exact e2
          simp only [List.flatMap_append, List.length_append, List.flatMap_cons, List.flatMap_nil, List.length_nil]
          wtm_at "om"
        intro tk k'
        repeat' (wtm_at "x1")
        show Q (.str _ _) _
        rw [show (Str.empty ++ Str.ofString "(?s:" ++ Txt.join (Str.ofString "") (List.map It.out pre ++ [Str.ofString ".*", outs post]) ++ Str.ofString ")\\Z") = joinB pre (some post) from cp_inj (by
          simp only [joinB, cp_app, cp_join, outs, List.flatMap_append, List.flatMap_cons, List.flatMap_nil, List.append_nil, List.append_assoc]; rfl)]
        exact q _ _ _ (F.ret0 (by assumption))
end
end
local macro_rules | `(tactic| wtm_at "x1") => `(tactic|
  ((with_reducible refine iteB ?_ ?_) <;> intro hb <;> (try (exfalso; first | exact absurd hb (by decide) | exact absurd (of_decide_eq_true hb) (by wtm_at "om") | exact absurd (of_decide_eq_false hb) (by wtm_at "om") | exact absurd (eq_of_beq hb) (by wtm_at "om") | exact absurd (beq_eq_false_iff_ne.mp hb) (by wtm_at "om") | exact Bool.noConfusion (hb.symm.trans (by with_reducible assumption : _ = false)) | exact Bool.noConfusion (hb.symm.trans (by with_reducible assumption : _ = true))))))
section
open PySem PySem.W PySem.Calls PyProof.Rows PySem.Builtin PySem.Builtin.Str PySem.Builtin.Re
theorem srcL_split {p : List It} {k : Nat} {i : It} (hp : p[k]? = some i) : srcL p = srcL (p.take k) ++ i.src ++ srcL (p.drop (k + 1)) := by
  have hk := (List.getElem?_eq_some_iff.mp hp).1
  have e : p = p.take k ++ i :: p.drop (k + 1) := by
    have h1 : p.drop k = i :: p.drop (k + 1) := by rw [List.drop_eq_getElem_cons hk, (List.getElem?_eq_some_iff.mp hp).2]
    rw [← h1, List.take_append_drop]
  conv => lhs; rw [e]
  simp [srcL, List.flatMap_append]
theorem src_at {y : Str} {p : List It} {k j a : Nat} {i : It} {c : Nat} {z : Int} (hy : cp y = srcL p := by with_reducible assumption) (hp : p[k]? = some i := by with_reducible assumption) (ha : (srcL (p.take k)).length = a := by with_reducible assumption) (hj : i.src[j]? = some c := by with_unfolding_all rfl) (hz : z = a + j := by omega) : (cp y)[z.toNat]? = some c := by
  rw [hy, srcL_split hp, show z.toNat = (srcL (p.take k)).length + j by omega, List.append_assoc, List.getElem?_append_right (by omega), Nat.add_sub_cancel_left,
    List.getElem?_append_left (List.getElem?_eq_some_iff.mp hj).1]
  exact hj
theorem src_len {p : List It} {k : Nat} {i : It} (hp : p[k]? = some i) : (srcL (p.take (k + 1))).length = (srcL (p.take k)).length + i.src.length := by
  rw [List.take_add_one, hp]
  simp [srcL]
theorem src_le {p : List It} {k : Nat} : (srcL (p.take k)).length ≤ (srcL p).length := by
  have e : srcL p = srcL (p.take k) ++ srcL (p.drop k) := by unfold srcL; rw [← List.flatMap_append, List.take_append_drop]
  have := congrArg List.length e
  rw [List.length_append] at this
  omega
theorem src_ge : ∀ p : List It, p.length ≤ (srcL p).length
  | [] => Nat.le_refl _
  | i :: p => by
    have := src_ge p
    have : 1 ≤ i.src.length := by cases i <;> simp [It.src]
    simp only [srcL, List.flatMap_cons, List.length_append, List.length_cons] at *
    omega
theorem one_at {c : Nat} : (cp ⟨#[c]⟩)[(0 : Int).toNat]? = some c := rfl
theorem two_at {c e : Nat} : (cp ⟨#[c, e]⟩)[(0 : Int).toNat]? = some c := rfl
local macro_rules | `(tactic| wtm_at "xch") => rd "(exacts one_at two_at (src_at (is j 0)) (src_at (is j 1)) (src_at (is j 2)) (src_at (is j 3)))"
local macro_rules | `(tactic| wtm_at "xble") => rd "(exact (Nat.le_of_ble_eq_true ~)) (at om)"
local macro_rules | `(tactic| wtm_at "x1") => rd "(do (wp (subscriptTail _ _ (Value.str _ _) (Value.int _ _))) (wr (refine (v_chr 'om 'xch 'xble ?))))
  (do (wp (subscriptTail _ _ (Value.str _ _) (Value.ref _))) (wr (refine (v_slcE ! 'om (by (wr assumption)) ?))) (intro 4))
  (do (wp (truthy (Value.str _ _))) (wr (refine (v_tstr 'xble ?))))
  (do (wp (compareOp CmpOp.In (Value.str _ _) (Value.ref _))) (wr (refine (v_intup (Fm.atZ (is φ (tuO (list _ _))) ! 'xmem) (StrsAre.cons _ _ (StrsAre.cons _ _ StrsAre.nil)) ?))))
  (do (wp (call (Value.builtin %str.replace) (list (Value.str _ _) (Value.str _ _) (Value.str _ _)))) (wr (refine (v_repl (by (wr assumption)) (Nat.le_of_ble_eq_true ~) (by decide) (by decide) (Nat.succ_ne_zero _) (Nat.succ_ne_zero _) (Nat.ne_of_lt (Nat.lt_succ_self _)) ?))) (intro 2))"
local macro_rules | `(tactic| wtm_at "xkept") => rd "(refine (And.intro (by (first (exact (kept_bm (Fm.at (is i 2) ! rfl))) (exacts kept_builtin kept_type) (exact (kept_ES 'xbase)))) ?))"
local macro_rules | `(tactic| wtm_at "xnew") => rd "(do (wr (refine (v_newLP ! (by simp) ?))) (intro 3))"
section
variable {W : Wd} {A : Around} {E : Value → Shared → Prop} {h₀ h : Heap} {Z R : List Ent} {gs : Array GenState} {d : Drawn} {t : Nat} {os : OsState} {Q : Value → Shared → Prop}
/-- what the outer loop keeps -/
inductive JA (p : List It) (S Res Ad : Addr) (y : Str) (u4 u5 u6 : Tok) (n k : Nat) (m : Str → Option Value) (xs : List Value) (u : Tok) : Prop
  | mk : n + k = p.length → VIs S xs (p.take k) → m "res" = some (.ref Res) → m "add" = some (.ref Ad) → m "STAR" = some (.ref S) → m "pat" = some (.str y u4) → m "QUESTION_MARK" = some (.str "." u5) → m "n" = some (.int y.length u6) →
    m "i" = some (.int (srcL (p.take k)).length u) → JA p S Res Ad y u4 u5 u6 n k m xs u
/-- what the inner loops keep -/
inductive JB (S Res Ad : Addr) (y : Str) (u4 u5 u6 u7 : Tok) (a b n j : Nat) (m : Str → Option Value) (u : Tok) : Prop
  | mk : n + j = b + 1 → b ≤ j → m "res" = some (.ref Res) → m "add" = some (.ref Ad) → m "STAR" = some (.ref S) → m "pat" = some (.str y u4) → m "QUESTION_MARK" = some (.str "." u5) → m "n" = some (.int y.length u6) →
    m "i" = some (.int (a + 1 : Nat) u7) → m "j" = some (.int j u) → JB S Res Ad y u4 u5 u6 u7 a b n j m u
theorem k_translate_ {y : Str} {ty uq : Tok} {p : List It} {S : Addr} (F : Fm W h₀ Z R h) (rm : Rm 2 A) (hy : cp y = srcL p) (hl : y.length ≤ 500) (hok : ∀ i ∈ p, i.ok = true)
    (hone : ∀ (k j : Nat) (i : It), p[k]? = some It.star → j < k → p[j]? = some i → i ≠ It.star)
    (q : ∀ D vs h' t', h₀.get? D = none → VIs S vs p → Fm W h₀ ((D, lsO vs) :: Z) R h' → Q (.ref D) ⟨h', gs, d, t', os⟩) :
    wpAny (MM W.w) A (call (.ref 83) [.str y ty, .ref S, .str "." uq]) Q E ⟨h, gs, d, t, os⟩ := by
  refine enter (Z := Z) (fd := fdTS) (body := bodyOf (stAt 12)) (binds := [("pat", .str y ty), ("STAR", .ref S), ("QUESTION_MARK", .str "." uq)]) F.base F.z rm.depth (F.base.K 83 _ (kf_TS _)) rfl (cr_TS F.base) (by rfl) (by rfl) (locs (by rfl)) (by decide) (by rfl) (by rfl) (by rfl) ?_
  intro L h₁ t₁ G
  with_reducible refine noE fun E1 => ?_
  refine x_cons ?_
  repeat' (wtm_at "x1")
  refine v_bound (by assumption) ?_
  intro ad h₂ G2
  repeat' (wtm_at "x1")
  rename_i h3 G4
  refine v_whileJ (fun n _ k m xs u => JA p S _ ad y _ _ _ n k m xs u) (fun Z => Z) (fun _ m xs => [(L, nsO m), (_, lsO xs), (ad, bmO _)]) p.length _ 0 _ [] _ G4 ⟨by wtm_at "om", by exact .nil, by rfl, by rfl, by rfl, by rfl, by rfl, by rfl, by rfl⟩ ?_
  rintro E' Q1 n Z' k m xs u7 h' t' ⟨hn, hs, m1, m2, m3, m4, m5, m6, m7⟩ G5 qn qb qr
  have hvl := hs.len
  have hxl : xs.length ≤ k := by rw [hvl, List.length_take]; wtm_at "om"
  by_cases hk : k < p.length
  · have hp : p[k]? = some p[k] := List.getElem?_eq_getElem hk
    have hik := hok _ (List.getElem_mem hk)
    have hst := hone k
    generalize p[k] = it at hp hik
    have hsl := src_len hp
    have hsle : (srcL (p.take (k + 1))).length ≤ y.length := by rw [← cp_len, hy]; exact src_le
    have hka : k ≤ 500 := by have := src_ge p; rw [← hy, cp_len] at this; wtm_at "om"
    generalize ha : (srcL (p.take k)).length = a at hsl m7
    cases it with
    | lit c =>
      simp only [It.ok, Bool.and_eq_true, bne_iff_ne] at hik
      have e42 : ((⟨#[c]⟩ : Str) == Str.ofString "*") = false := one_ne hik.1.1
      have e63 : ((⟨#[c]⟩ : Str) == Str.ofString "?") = false := one_ne hik.1.2
      have e91 : ((⟨#[c]⟩ : Str) == Str.ofString "[") = false := one_ne hik.2
      have hlen : (It.lit c).src.length = 1 := rfl
      repeat' (wtm_at "x1")
      refine k_escape (by assumption) (by wtm_at "xroom") ?_
      intro _ _ _ _
      repeat' (wtm_at "x1")
      refine (qn (n - 1) _ (k + 1) _ _ _ _ _ (by wtm_at "om") (by assumption) ⟨by wtm_at "om", ?_, by wtm_at "xlook", by wtm_at "xlook", by wtm_at "xlook", by wtm_at "xlook", by wtm_at "xlook", by wtm_at "xlook", by rw [hsl]; wtm_at "xlook"⟩).1
      rw [List.take_add_one, hp]
      exact VIs.it (i := .lit c) (by intro e; cases e) hs
    | star =>
      have hlen : It.star.src.length = 1 := rfl
      repeat' (wtm_at "x1")
      rcases (by simpa using List.eq_nil_or_concat xs : xs = [] ∨ ∃ l x, xs = l ++ [x]) with rfl | ⟨xs', x, rfl⟩
      · refine v_tlist0 (at_ls.mp (Fm.at (i := 1) (by assumption) rfl)) ?_
        repeat' (wtm_at "x1")
        refine (qn (n - 1) _ (k + 1) _ _ _ _ _ (by wtm_at "om") (by assumption) ⟨by wtm_at "om", ?_, by wtm_at "xlook", by wtm_at "xlook", by wtm_at "xlook", by wtm_at "xlook", by wtm_at "xlook", by wtm_at "xlook", by rw [hsl]; wtm_at "xlook"⟩).1
        rw [List.take_add_one, hp]
        exact VIs.star hs
      · have hx1 : xs'.length + 1 ≤ k := by simpa using hxl
        have hkp : (p.take k).length = k := by rw [List.length_take]; wtm_at "om"
        have hkx : xs'.length + 1 = k := by rw [← hkp, ← hvl]; simp
        obtain ⟨i0, hi0⟩ : ∃ i0, p[k - 1]? = some i0 := ⟨_, List.getElem?_eq_getElem (by wtm_at "om")⟩
        have hi1 : (p.take k)[k - 1]? = some i0 := by rw [List.getElem?_take, if_pos (by wtm_at "om"), hi0]
        have hxv : ∃ u, x = .str i0.out u := by
          rcases hs.get hi1 with ⟨_, u, e⟩ | ⟨e, _⟩
          · refine ⟨u, ?_⟩
            rw [show k - 1 = xs'.length by wtm_at "om"] at e
            simpa using e
          · exact absurd e (hst _ _ hp (by wtm_at "om") hi0)
        obtain ⟨u0, rfl⟩ := hxv
        refine v_tlist1 (at_ls.mp (Fm.at (i := 1) (by assumption) rfl)) (by wtm_at "om") ?_
        repeat' (wtm_at "x1")
        refine v_last (at_ls.mp (Fm.at (i := 1) (by assumption) rfl)) (by wtm_at "om") ?_
        repeat' (wtm_at "x1")
        refine (qn (n - 1) _ (k + 1) _ _ _ _ _ (by wtm_at "om") (by assumption) ⟨by wtm_at "om", ?_, by wtm_at "xlook", by wtm_at "xlook", by wtm_at "xlook", by wtm_at "xlook", by wtm_at "xlook", by wtm_at "xlook", by rw [hsl]; wtm_at "xlook"⟩).1
        rw [List.take_add_one, hp]
        exact VIs.star hs
    | neg =>
      have hlen : It.neg.src.length = 4 := rfl
      have es : Txt.slice y (some ((a + 1 : Nat) : Int)) (some (((a + 3 : Nat) : Int))) = ⟨#[33, 123]⟩ := slice_mid (a := srcL (p.take k) ++ [91]) (b := [33, 123]) (c := [93] ++ srcL (p.drop (k + 1))) (by rw [hy, srcL_split hp]; simp [It.src]) _ _ (by rw [List.length_append, ha]; rfl) (by rw [List.length_append, ha]; rfl)
      have en : (!Txt.contains ⟨#[33, 123]⟩ (Str.ofString "-")) = true := by rw [show Txt.contains ⟨#[33, 123]⟩ (Str.ofString "-") = _ from contains_one]; decide
      have er : Txt.replace ⟨#[33, 123]⟩ (Str.ofString "\\") (Str.ofString "\\\\") = ⟨#[33, 123]⟩ := replace_dbl _ _ _ 92 rfl rfl
      have en0 : (!(((⟨#[33, 123]⟩ : Str).length : Int) != 0)) = false := rfl
      have es1 : Txt.slice ⟨#[33, 123]⟩ (some 1) none = ⟨#[123]⟩ := cp_inj (by rw [cp_slice]; decide)
      repeat' (wtm_at "x1")
      have G8 := Fm.here (by assumption)
      refine v_whileJ (fun n (_ : Unit) j m (_ : Unit) u => JB S _ ad y _ _ _ _ a (a + 2) n j m u) (fun _ => _) (fun _ m _ => [(L, nsO m), (_, lsO xs), (ad, bmO _)]) 1 () (a + 2) _ () _ G8 ⟨by wtm_at "om", by wtm_at "om", by wtm_at "xlook", by wtm_at "xlook", by wtm_at "xlook", by wtm_at "xlook", by wtm_at "xlook", by wtm_at "xlook", by wtm_at "xlook", by wtm_at "xlook"⟩ ?_
      clear G8 G5 G4 G2 G
      rintro E3 Q3 n3 _ j m _ v8 h9 t9 ⟨hn3, hj3, b1, b2, b3, b4, b5, b6, b7, b8⟩ G9 qn3 qb3 qr3
      have hj : j = a + 2 ∨ j = a + 3 := by wtm_at "om"
      rcases hj with rfl | rfl
      · repeat' (wtm_at "x1")
        refine (qn3 0 () (a + 3) _ () _ _ _ (by wtm_at "om") (by assumption) ⟨by wtm_at "om", by wtm_at "om", by wtm_at "xlook", by wtm_at "xlook", by wtm_at "xlook", by wtm_at "xlook", by wtm_at "xlook", by wtm_at "xlook", by wtm_at "xlook", by wtm_at "xlook"⟩).1
      · repeat' (wtm_at "x1")
        have G10 := Fm.here (by assumption)
        refine v_msub G10.base ?_
        refine v_lam ?_ (by rfl)
        refine v_make (c := 82) (P := 78) (qual := "_translate.<locals>.<lambda>") G10 (by rfl) (by rfl) (by rfl) (hd_TS G10.base) G10.base.tb.tran (nk_78 _) fit_78 (by rfl) ?_
        intro f cv ctv h11 t11 hcv hin G11
        simp only [List.cons_append, List.nil_append] at G11
        obtain ⟨fo, hfo, hfe⟩ := G11.at (i := 3) rfl
        repeat' (wtm_at "x1")
        refine v_sub (by assumption) hfo (by rw [hfe]) run_ne ⟨Nat.le_of_ble_eq_true rfl, Nat.le_of_ble_eq_true rfl⟩ ?_
        intro _ _ _ _
        repeat' (wtm_at "x1")
        refine v_subS_sn (by assumption) (Nat.le_of_ble_eq_true rfl) ?_
        intro _ _ _ _ _
        rw [es1]
        repeat' (wtm_at "x1")
        refine (qn (n - 1) _ (k + 1) _ _ _ _ _ (by wtm_at "om") (Fm.cut (R' := [_]) (by assumption)) ⟨by wtm_at "om", ?_, by wtm_at "xlook", by wtm_at "xlook", by wtm_at "xlook", by wtm_at "xlook", by wtm_at "xlook", by wtm_at "xlook", by rw [hsl]; wtm_at "xlook"⟩).1
        rw [List.take_add_one, hp]
        rw [show (Str.empty ++ Str.ofString "[" ++ (Str.ofString "^" ++ ⟨#[123]⟩) ++ Str.ofString "]" : Str) = It.neg.out by rfl]
        exact VIs.it (i := .neg) (by intro e; cases e) hs
    | br c =>
      have hlen : (It.br c).src.length = 3 := rfl
      have hc : c = 42 ∨ c = 63 ∨ c = 91 := by simpa [It.ok, or_assoc] using hik
      have e33 : ((⟨#[c]⟩ : Str) == Str.ofString "!") = false := one_ne (k := 33) (by wtm_at "om")
      have e93 : ((⟨#[c]⟩ : Str) == Str.ofString "]") = false := one_ne (k := 93) (by wtm_at "om")
      have f93 : ((⟨#[c]⟩ : Str) != Str.ofString "]") = true := by rw [bne, e93]; rfl
      have es : Txt.slice y (some ((a + 1 : Nat) : Int)) (some (((a + 2 : Nat) : Int))) = ⟨#[c]⟩ := slice_mid (a := srcL (p.take k) ++ [91]) (b := [c]) (c := [93] ++ srcL (p.drop (k + 1))) (by rw [hy, srcL_split hp]; simp [It.src]) _ _ (by rw [List.length_append, ha]; rfl) (by rw [List.length_append, ha]; rfl)
      have en : (!Txt.contains ⟨#[c]⟩ (Str.ofString "-")) = true := by rw [show Txt.contains ⟨#[c]⟩ (Str.ofString "-") = _ from contains_one, cp_one]; simp; wtm_at "om"
      have er : Txt.replace ⟨#[c]⟩ (Str.ofString "\\") (Str.ofString "\\\\") = ⟨#[c]⟩ := (replace_dbl _ _ _ 92 rfl rfl).trans (by simp [StrLaws.dbl]; wtm_at "om")
      have en0 : (!(((⟨#[c]⟩ : Str).length : Int) != 0)) = false := rfl
      have hrun : ∀ g, X.skim g 2000 (reRunToEnd (Sre.forSearch codeN #[c] 1 0 1 false)) = .pure none := by
        rcases hc with rfl | rfl | rfl
        · exact run_st
        · exact run_qu
        · exact run_br
      repeat' (wtm_at "x1")
      have G8 := Fm.here (by assumption)
      refine v_whileJ (fun n (_ : Unit) j m (_ : Unit) u => JB S _ ad y _ _ _ _ a (a + 1) n j m u) (fun _ => _) (fun _ m _ => [(L, nsO m), (_, lsO xs), (ad, bmO _)]) 1 () (a + 1) _ () _ G8 ⟨by wtm_at "om", by wtm_at "om", by wtm_at "xlook", by wtm_at "xlook", by wtm_at "xlook", by wtm_at "xlook", by wtm_at "xlook", by wtm_at "xlook", by wtm_at "xlook", by wtm_at "xlook"⟩ ?_
      clear G8 G5 G4 G2 G
      rintro E3 Q3 n3 _ j m _ v8 h9 t9 ⟨hn3, hj3, b1, b2, b3, b4, b5, b6, b7, b8⟩ G9 qn3 qb3 qr3
      have hj : j = a + 1 ∨ j = a + 2 := by wtm_at "om"
      rcases hj with rfl | rfl
      · repeat' (wtm_at "x1")
        refine (qn3 0 () (a + 2) _ () _ _ _ (by wtm_at "om") (by assumption) ⟨by wtm_at "om", by wtm_at "om", by wtm_at "xlook", by wtm_at "xlook", by wtm_at "xlook", by wtm_at "xlook", by wtm_at "xlook", by wtm_at "xlook", by wtm_at "xlook", by wtm_at "xlook"⟩).1
      · repeat' (wtm_at "x1")
        have G10 := Fm.here (by assumption)
        refine v_msub G10.base ?_
        refine v_lam ?_ (by rfl)
        refine v_make (c := 82) (P := 78) (qual := "_translate.<locals>.<lambda>") G10 (by rfl) (by rfl) (by rfl) (hd_TS G10.base) G10.base.tb.tran (nk_78 _) fit_78 (by rfl) ?_
        intro f cv ctv h11 t11 hcv hin G11
        simp only [List.cons_append, List.nil_append] at G11
        obtain ⟨fo, hfo, hfe⟩ := G11.at (i := 3) rfl
        repeat' (wtm_at "x1")
        refine v_sub (by assumption) hfo (by rw [hfe]) hrun ⟨Nat.le_of_ble_eq_true rfl, Nat.le_of_ble_eq_true rfl⟩ ?_
        intro _ _ _ _
        repeat' (wtm_at "x1")
        all_goals
          refine (qn (n - 1) _ (k + 1) _ _ _ _ _ (by wtm_at "om") (Fm.cut (R' := [_]) (by assumption)) ⟨by wtm_at "om", ?_, by wtm_at "xlook", by wtm_at "xlook", by wtm_at "xlook", by wtm_at "xlook", by wtm_at "xlook", by wtm_at "xlook", by rw [hsl]; wtm_at "xlook"⟩).1
          rw [List.take_add_one, hp]
        · have : c = 91 := by
            have hb := (by assumption : ([Str.ofString "^", Str.ofString "["].any fun x => x == ⟨#[c]⟩) = true)
            simp [beq_cp, cp_one, show cp (Str.ofString "^") = [94] from rfl, show cp (Str.ofString "[") = [91] from rfl] at hb
            wtm_at "om"
          subst this
          exact VIs.it (i := .br 91) (by intro e; cases e) hs
        · have : c ≠ 91 := by
            have hb := (by assumption : ([Str.ofString "^", Str.ofString "["].any fun x => x == ⟨#[c]⟩) = false)
            intro e
            subst e
            revert hb
            decide
          have eo : (It.br c).out = ⟨#[91, c, 93]⟩ := by show (if c = 91 then _ else _) = _; rw [if_neg this]
          rw [show (Str.empty ++ Str.ofString "[" ++ ⟨#[c]⟩ ++ Str.ofString "]" : Str) = (It.br c).out by rw [eo]; rfl]
          exact VIs.it (i := .br c) (by intro e; cases e) hs
  · have hk' : k = p.length := by wtm_at "om"
    subst hk'
    rw [List.take_length] at hs
    have hyl : (srcL (p.take p.length)).length = y.length := by rw [List.take_length, ← hy, cp_len]
    rw [hyl] at m7
    repeat' (wtm_at "x1")
    refine ⟨by simp, ?_⟩
    repeat' (wtm_at "x1")
    show Q (.ref _) _
    exact q _ xs _ _ (F.kp.there (G5.rf (_, lsO xs) (by simp))) hs (F.ret1 (Fm.frz (R := [_]) (R' := [_]) G5) (by simp) (G5.rf (_, lsO xs) (by simp)))
end
end
section
open PySem PySem.W PySem.Calls PyProof.Rows PySem.Builtin PySem.Builtin.Str
section
variable {W : Wd} {A : Around} {E : Value → Shared → Prop} {h₀ h : Heap} {Z R : List Ent} {gs : Array GenState} {d : Drawn} {t : Nat} {os : OsState} {Q : Value → Shared → Prop}
theorem patL_one {pre : List It} {tail : Option (List It)} (hpre : ∀ i ∈ pre, i ≠ .star) (hpost : ∀ p, tail = some p → ∀ i ∈ p, i ≠ .star) :
    ∀ (k j : Nat) (i : It), (patL pre tail)[k]? = some It.star → j < k → (patL pre tail)[j]? = some i → i ≠ It.star := by
  intro k j i hk hj hi
  have key : ∀ (k : Nat), (patL pre tail)[k]? = some It.star → k = pre.length := fun k hk => by
    cases tail with
    | none => exact absurd rfl (hpre _ (List.mem_of_getElem? hk))
    | some post =>
      by_cases q : k < pre.length
      · rw [show patL pre (some post) = pre ++ .star :: post from rfl, List.getElem?_append_left q] at hk
        exact absurd rfl (hpre _ (List.mem_of_getElem? hk))
      · by_cases q2 : k = pre.length
        · exact q2
        · rw [show patL pre (some post) = pre ++ .star :: post from rfl, List.getElem?_append_right (by omega)] at hk
          obtain ⟨m, hm⟩ : ∃ m, k - pre.length = m + 1 := ⟨k - pre.length - 1, by omega⟩
          rw [hm, List.getElem?_cons_succ] at hk
          exact absurd rfl (hpost _ rfl _ (List.mem_of_getElem? hk))
  intro e
  subst e
  have := key k hk
  have := key j hi
  omega
/-- a pattern that this proof speaks of -/
structure Pat (y : Str) (pre : List It) (tail : Option (List It)) : Prop where
  cp : cp y = srcL (patL pre tail)
  len : y.length ≤ 500
  ok : ∀ i ∈ patL pre tail, i.ok = true
  pre : ∀ i ∈ pre, i ≠ .star
  post : ∀ p, tail = some p → ∀ i ∈ p, i ≠ .star
theorem k_translate {y : Str} {ty : Tok} {pre : List It} {tail : Option (List It)} (F : Fm W h₀ Z R h) (rm : Rm 4 A) (P : Pat y pre tail)
    (q : ∀ h' tk t', Fm W h₀ Z R h' → Q (.str (joinB pre tail) tk) ⟨h', gs, d, t', os⟩) :
    wpAny (MM W.w) A (call (.ref 64) [.str y ty]) Q E ⟨h, gs, d, t, os⟩ := by
  refine enter (Z := []) (fd := fdTR) (body := bodyOf (stAt 7)) (binds := [("pat", .str y ty)]) F.base .nil rm.depth (F.base.K 64 _ (kf_TR _)) rfl (cr_TR F.base) (by rfl) (by rfl) (locs (by rfl)) (by decide) (by rfl) (by rfl) (by rfl) ?_
  intro L h₁ t₁ G
  with_reducible refine noE fun E1 => ?_
  refine x_cons ?_
  repeat' (wtm_at "x1")
  refine v_object (by assumption) ?_
  intro S h₂ G2
  repeat' (wtm_at "x1")
  refine k_translate_ (p := patL pre tail) (by assumption) (by wtm_at "xroom") P.cp P.len P.ok (patL_one P.pre P.post) ?_
  intro D vs h₃ _ hD hv G3
  repeat' (wtm_at "x1")
  have hvl : vs.length ≤ 1000 := by
    have h1 := src_ge (patL pre tail)
    have h2 := P.len
    rw [← P.cp, cp_len] at h1
    rw [hv.len]; omega
  refine k_join (by assumption) (by wtm_at "xroom") List.mem_cons_self hv hvl P.pre P.post ?_
  intro _ _ _ _
  exact q _ _ _ (F.ret0 (by assumption))
end
end
section
open PySem PySem.W PySem.Calls PyProof.Rows PySem.Builtin PySem.Builtin.Str
def It.bar : It → Bool
  | .neg => true
  | _ => false
def It.ch : It → Nat
  | .lit c => c
  | .br c => c
  | .neg => 123
  | .star => 0
/-- one test of a cut text: a tuple of a bool and a sign -/
def tsO (i : It) (o : Obj) : Prop := ∃ u, tuO [.bool i.bar, .str ⟨#[i.ch]⟩ u] o
theorem nrm_ts {i : It} : ∀ o, tsO i o → nrm o := fun o ⟨_, x⟩ => nrm_tu o x
inductive TVs (Z : List Ent) : List Value → List It → Prop
  | nil : TVs Z [] []
  | snoc {vs p T i} : TVs Z vs p → (T, tsO i) ∈ Z → TVs Z (vs ++ [.ref T]) (p ++ [i])
theorem TVs.mono {Z Z' : List Ent} {vs p} (x : TVs Z vs p) (h : ∀ e ∈ Z, e ∈ Z') : TVs Z' vs p := by
  induction x with
  | nil => exact .nil
  | snoc _ hm ih => exact .snoc ih (h _ hm)
theorem TVs.len {Z : List Ent} {vs p} (x : TVs Z vs p) : vs.length = p.length := by
  induction x with
  | nil => rfl
  | snoc _ _ ih => simp [ih]
theorem TVs.get {Z : List Ent} {vs p} (x : TVs Z vs p) : ∀ {k : Nat} {i : It}, p[k]? = some i → ∃ T, vs[k]? = some (.ref T) ∧ (T, tsO i) ∈ Z := by
  induction x with
  | nil => intro k i e; cases e
  | @snoc vs p T j x hm ih =>
    intro k i e
    have hl := x.len
    by_cases q : k < p.length
    · rw [List.getElem?_append_left q] at e
      rw [List.getElem?_append_left (by omega)]
      exact ih e
    · have : k = p.length := by
        have := (List.getElem?_eq_some_iff.mp e).1
        simp at this; omega
      subst this
      simp at e
      subst e
      exact ⟨T, by rw [← hl]; simp, hm⟩
theorem TVs.app {Z : List Ent} {vs p vs' p'} (x : TVs Z vs p) (y : TVs Z vs' p') : TVs Z (vs ++ vs') (p ++ p') := by
  induction y with
  | nil => simpa using x
  | snoc _ hm ih => rw [← List.append_assoc, ← List.append_assoc]; exact .snoc ih hm
/-- what _law_cut gives back -/
def PartsAt (Z : List Ent) (D : Addr) (pre : List It) : Option (List It) → Prop
  | none => ∃ A as, (D, lsO [.ref A]) ∈ Z ∧ (A, lsO as) ∈ Z ∧ TVs Z as pre
  | some post => ∃ A B as bs, (D, lsO [.ref A, .ref B]) ∈ Z ∧ (A, lsO as) ∈ Z ∧ (B, lsO bs) ∈ Z ∧ TVs Z as pre ∧ TVs Z bs post
theorem PartsAt.mono {Z Z' : List Ent} {D pre tail} (x : PartsAt Z D pre tail) (h : ∀ e ∈ Z, e ∈ Z') : PartsAt Z' D pre tail := by
  cases tail with
  | none => obtain ⟨A, as, a, b, c⟩ := x; exact ⟨A, as, h _ a, h _ b, c.mono h⟩
  | some post => obtain ⟨A, B, as, bs, a, b, c, e, f⟩ := x; exact ⟨A, B, as, bs, h _ a, h _ b, h _ c, e.mono h, f.mono h⟩
def outL (p : List It) : List Nat := p.flatMap fun i => cp i.out
theorem outL_split {p : List It} {k : Nat} {i : It} (hp : p[k]? = some i) : outL p = outL (p.take k) ++ cp i.out ++ outL (p.drop (k + 1)) := by
  have hk := (List.getElem?_eq_some_iff.mp hp).1
  have e : p = p.take k ++ i :: p.drop (k + 1) := by
    have h1 : p.drop k = i :: p.drop (k + 1) := by rw [List.drop_eq_getElem_cons hk, (List.getElem?_eq_some_iff.mp hp).2]
    rw [← h1, List.take_append_drop]
  conv => lhs; rw [e]
  simp [outL, List.flatMap_append]
theorem out_at {y : Str} {p : List It} {k j a : Nat} {i : It} {l : List Nat} {c : Nat} {z : Int} (hy : cp y = outL p := by with_reducible assumption) (hp : p[k]? = some i := by with_reducible assumption) (ha : (outL (p.take k)).length = a := by with_reducible assumption) (ho : cp i.out = l := by with_reducible assumption) (hj : l[j]? = some c := by with_unfolding_all rfl) (hz : z = a + j := by omega) : (cp y)[z.toNat]? = some c := by
  subst ho
  rw [hy, outL_split hp, show z.toNat = (outL (p.take k)).length + j by omega, List.append_assoc, List.getElem?_append_right (by omega), Nat.add_sub_cancel_left,
    List.getElem?_append_left (List.getElem?_eq_some_iff.mp hj).1]
  exact hj
theorem out_len1 {p : List It} {k : Nat} {i : It} {l : List Nat} (hp : p[k]? = some i) (ho : cp i.out = l) : (outL (p.take (k + 1))).length = (outL (p.take k)).length + l.length := by
  rw [List.take_add_one, hp, ← ho]
  simp [outL]
theorem outL_le {p : List It} {k : Nat} : (outL (p.take k)).length ≤ (outL p).length := by
  have e : outL p = outL (p.take k) ++ outL (p.drop k) := by unfold outL; rw [← List.flatMap_append, List.take_append_drop]
  have := congrArg List.length e
  rw [List.length_append] at this
  omega
theorem outL_ge : ∀ p : List It, p.length ≤ (outL p).length
  | [] => Nat.le_refl _
  | i :: p => by
    have := outL_ge p
    have : 1 ≤ (cp i.out).length := by
      cases i with
      | lit c => show 1 ≤ (cp (escS c)).length; unfold escS; split <;> exact Nat.le_of_ble_eq_true rfl
      | br c => show 1 ≤ (cp (if c = 91 then _ else _)).length; split <;> exact Nat.le_of_ble_eq_true rfl
      | neg => exact Nat.le_of_ble_eq_true rfl
      | star => exact Nat.le_of_ble_eq_true rfl
    simp only [outL, List.flatMap_cons, List.length_append, List.length_cons] at *
    omega
theorem outL_le4 : ∀ p : List It, (outL p).length ≤ 4 * p.length
  | [] => Nat.le_refl _
  | i :: p => by
    have := outL_le4 p
    have h := out_len i
    rw [← cp_len] at h
    simp only [outL, List.flatMap_cons, List.length_append, List.length_cons] at *
    omega
theorem cp_join_B {pre : List It} {tail : Option (List It)} : cp (joinB pre tail) = [40, 63, 115, 58] ++ outL (patL pre tail) ++ [41, 92, 90] := by
  have e : ∀ p : List It, cp (outs p) = outL p := fun p => by unfold outs outL; rw [cp_join, List.flatMap_map]
  cases tail with
  | none => simp only [joinB, cp_app, e, patL]; rfl
  | some post => simp only [joinB, cp_app, e, patL, outL, List.flatMap_append, List.flatMap_cons, List.append_assoc]; rfl
theorem slice_one {y : Str} {c : Nat} {z z' : Int} (h0 : 0 ≤ z) (hc : (cp y)[z.toNat]? = some c) (hz : z' = z + 1) : Txt.slice y (some z) (some z') = ⟨#[c]⟩ := by
  have hk := (List.getElem?_eq_some_iff.mp hc).1
  have e : cp y = (cp y).take z.toNat ++ [c] ++ (cp y).drop (z.toNat + 1) := by
    have h1 : (cp y).drop z.toNat = c :: (cp y).drop (z.toNat + 1) := by rw [List.drop_eq_getElem_cons hk, (List.getElem?_eq_some_iff.mp hc).2]
    rw [List.append_assoc, List.singleton_append, ← h1, List.take_append_drop]
  exact slice_mid e z z' (by rw [List.length_take]; omega) (by rw [List.length_take, List.length_singleton]; omega)
/-- two signs, of which the first is not a dot -/
theorem slice_two_ne {y : Str} {c : Nat} {z z' : Int} (h0 : 0 ≤ z) (hc : (cp y)[z.toNat]? = some c) (hne : c ≠ 46) (hz : z' = z + 2) : (Txt.slice y (some z) (some z') == (Str.ofString ".*")) = false := by
  have hk := (List.getElem?_eq_some_iff.mp hc).1
  rw [beq_cp, cp_slice]
  have hl : (cp y).length = y.length := cp_len
  have e1 : clipN y.length 0 (some z) = z.toNat := clip_eq (Int.toNat_of_nonneg h0).symm (by omega)
  rw [e1, beq_eq_false_iff_ne]
  have h1 : (cp y).drop z.toNat = c :: (cp y).drop (z.toNat + 1) := by rw [List.drop_eq_getElem_cons hk, (List.getElem?_eq_some_iff.mp hc).2]
  rw [h1]
  obtain ⟨m, hm⟩ : ∃ m, clipN y.length y.length (some z') - z.toNat = m + 1 := ⟨min (z.toNat + 2) y.length - z.toNat - 1, by rw [show z' = ((z.toNat + 2 : Nat) : Int) by omega, clip_nat]; omega⟩
  rw [hm, List.take_succ_cons]
  intro e
  have : c = 46 := by
    have e2 : cp (Str.ofString ".*") = [46, 42] := rfl
    rw [e2] at e
    exact (List.cons.inj e).1
  exact hne this
theorem spec_alnum {c : Nat} (h : isSpec c = true) : Txt.isalnum ⟨#[c]⟩ = false := by
  unfold isSpec at h
  obtain ⟨r, hr, e⟩ := List.any_eq_true.mp h
  have e := beq_iff_eq.mp e
  subst e
  have k : mapRows.all (fun r => Txt.isalnum ⟨#[r.1]⟩ == false) = true := by decide +kernel
  exact eq_of_beq (List.all_eq_true.mp k r hr)
theorem nospec_cont {c : Nat} (h : isSpec c = false) : Txt.contains (Str.ofString "().{?*+|^$\\") ⟨#[c]⟩ = false := by
  rw [contains_one, decide_eq_false_iff_not]
  intro hm
  have k : (cp (Str.ofString "().{?*+|^$\\")).all isSpec = true := by decide +kernel
  rw [List.all_eq_true.mp k c hm] at h
  cases h
theorem nospec_ne {c k : Nat} (h : isSpec c = false) (hk : isSpec k = true := by decide +kernel) : c ≠ k := fun e => by subst e; rw [h] at hk; cases hk
end
section
open PySem PySem.W PySem.Calls PyProof.Rows PySem.Builtin PySem.Builtin.Str
section
variable {W : Wd} {A : Around} {E : Value → Shared → Prop} {h₀ h : Heap} {gs : Array GenState} {d : Drawn} {t : Nat} {os : OsState} {Z R : List Ent} {env : Env} {Q : Value → Shared → Prop} {x : Str} {v : Value} {m : Str → Option Value} {i : Nat} {pos : Pos}
theorem v_addL {l b : Addr} {vs ws : List Value} (F : Fm W h₀ Z R h) (hl : h.IsList l vs.toArray) (hb : h.IsList b ws.toArray) (hsz : vs.length + ws.length ≤ 1000000)
    (q : ∀ D h', h₀.get? D = none → Fm W h₀ ((D, lsO (vs ++ ws)) :: Z) R h' → Q (.ref D) ⟨h', gs, d, t, os⟩) : wpAny (MM W.w) A (binaryOp .Add (.ref l) (.ref b)) Q E ⟨h, gs, d, t, os⟩ := by
  obtain ⟨⟨cls, dd, data, sl⟩, ho, hc, n, hd⟩ := id hl
  obtain ⟨⟨cls2, dd2, data2, sl2⟩, ho2, hc2, n2, hd2⟩ := id hb
  simp only at hc hd hc2 hd2
  subst hc hd hc2 hd2
  have e : vs.toArray ++ ws.toArray = (vs ++ ws).toArray := by simp
  refine concat_meets ⟨_, ho, rfl⟩ ⟨_, ho2, rfl⟩ noFill_list_add seq_list_add PySem.F.slot_list_add PySem.F.entry_list_add (PySem.F.args_list_add_2 _ _) (list_addW l b vs.toArray ws.toArray n n2 dd dd2 sl sl2 (by simpa using le_line hsz)) ⟨ho, ho2, ?_⟩
  rw [e]
  have ⟨a, c⟩ := F.newZ (φ := lsO (vs ++ ws)) { cls := .type "list", data := .seq (vs ++ ws).toArray } rfl nrm_ls ⟨rfl, _, rfl⟩
  exact q _ _ a c
theorem v_itemT {value slice : Expr} {T : Addr} {vs : List Value} {k : Nat} {u : Tok} {x : Value} (hT : At h T (tuO vs)) (hx : vs[k]? = some x) (hk : k < 1000) (q : Q x ⟨h, gs, d, t, os⟩)
    (hs : subscripted slice false (.ref T) (.int (k : Int) u) = operate [.ref T, .int (k : Int) u] (getItem (.ref T) (.int (k : Int) u)) := by with_unfolding_all rfl) :
    wpAny (MM W.w) A (subscriptTail value slice (.ref T) (.int (k : Int) u)) Q E ⟨h, gs, d, t, os⟩ := by
  obtain ⟨o, ho, hc, n, hd⟩ := hT
  have hlt := (List.getElem?_eq_some_iff.mp hx).1
  have ht : IsTup h T vs.toArray := ⟨o, ho, hc, n, hd⟩
  refine tail_any ht.typeIs PySem.F.slot_tuple_getitem.lookup (getItem_tuple (j := k) ht (by omega) (by omega) ?_ (by simpa using hx) q) hs
  unfold seqIndex?
  have h1 : ¬ ((k : Int) < 0) := by omega
  simp only [h1, if_false]
  rw [if_pos (by simp only [List.size_toArray, Bool.and_eq_true, decide_eq_true_eq]; omega)]
  rfl
theorem v_lenN {l : Addr} {vs : List Value} (n : Nat) (hl : h.IsList l vs.toArray) (hn : vs.length = n) (hn' : n ≤ 1000000) (q : Q (.int n (t + 1)) ⟨h, gs, d, t + 1 + 1, os⟩) : wpAny (MM W.w) A (call (.builtin "len") [.ref l]) Q E ⟨h, gs, d, t, os⟩ :=
  v_lenL hl (by omega) (by rw [hn]; exact q)
theorem v_item0 {value slice : Expr} {T : Addr} {x : Value} {vs : List Value} {u : Tok} (hT : At h T (tuO (x :: vs))) (q : Q x ⟨h, gs, d, t, os⟩)
    (hs : subscripted slice false (.ref T) (.int 0 u) = operate [.ref T, .int 0 u] (getItem (.ref T) (.int 0 u)) := by with_unfolding_all rfl) :
    wpAny (MM W.w) A (subscriptTail value slice (.ref T) (.int 0 u)) Q E ⟨h, gs, d, t, os⟩ := v_itemT (k := 0) hT rfl (by decide) q hs
theorem v_item1 {value slice : Expr} {T : Addr} {x x₀ : Value} {vs : List Value} {u : Tok} (hT : At h T (tuO (x₀ :: x :: vs))) (q : Q x ⟨h, gs, d, t, os⟩)
    (hs : subscripted slice false (.ref T) (.int 1 u) = operate [.ref T, .int 1 u] (getItem (.ref T) (.int 1 u)) := by with_unfolding_all rfl) :
    wpAny (MM W.w) A (subscriptTail value slice (.ref T) (.int 1 u)) Q E ⟨h, gs, d, t, os⟩ := v_itemT (k := 1) hT rfl (by decide) q hs
theorem v_range1 {n : Int} {u : Tok} (F : Fm W h₀ Z R h) (q : ∀ r h' t1 u1 v1 t', IsRange h' r 0 n 1 t1 u1 v1 → Fm W h₀ Z R h' → Q (.ref r) ⟨h', gs, d, t', os⟩) : wpAny (MM W.w) A (call (.type "range") [.int n u]) Q E ⟨h, gs, d, t, os⟩ :=
  call_range_1 (q _ _ _ _ _ _ (IsRange.new ..) (F.push _))
theorem v_eqNil {l b : Addr} (hl : h.IsList l ([] : List Value).toArray) (hb : h.IsList b ([] : List Value).toArray) (hu : A.units < cLine) (q : Q (.bool true) ⟨h, gs, d, t, os⟩) : wpAny (MM W.w) A (compareOp .Eq (.ref l) (.ref b)) Q E ⟨h, gs, d, t, os⟩ :=
  PySem.SeqAt.eq_listAt (e := fun _ => true) hl hb rfl hu (fun j h1 _ => absurd h1 (Nat.not_lt_zero _)) q
theorem v_eqNe {l b : Addr} {vs ws : List Value} (hl : h.IsList l vs.toArray) (hb : h.IsList b ws.toArray) (hne : vs.length ≠ ws.length) (hu : A.units < cLine) (q : Q (.bool false) ⟨h, gs, d, t, os⟩) : wpAny (MM W.w) A (compareOp .Eq (.ref l) (.ref b)) Q E ⟨h, gs, d, t, os⟩ :=
  PySem.SeqAt.eq_list_lengthsAt hl hb (by simpa using hne) hu q
end
def okT (i : It) (c : Nat) : Bool := (c == i.ch) != i.bar
def tests (pre : List It) (tail : Option (List It)) : List It := pre ++ tail.getD []
def signs (pre : List It) (tail : Option (List It)) (n : List Nat) : List Nat := n.take pre.length ++ n.drop (n.length - (tail.getD []).length)
def fits (pre : List It) (tail : Option (List It)) (n : List Nat) : Bool := decide (pre.length + (tail.getD []).length ≤ n.length) && (tail.isSome || n.length == pre.length)
def takesB (pre : List It) (tail : Option (List It)) (n : List Nat) : Bool := fits pre tail n && ((signs pre tail n).zip (tests pre tail)).all fun x => okT x.2 x.1
theorem zip_all {sg : List Nat} {its : List It} (hl : sg.length = its.length) : (sg.zip its).all (fun x => okT x.2 x.1) = true ↔ ∀ j, j < its.length → okT (its.getD j .star) (sg.getD j 0) = true := by
  rw [List.all_eq_true]
  constructor
  · intro h j hj
    have hm : (sg[j]'(by omega), its[j]) ∈ sg.zip its := by
      rw [List.mem_iff_getElem]
      exact ⟨j, by simp; omega, by simp⟩
    have := h _ hm
    simpa [List.getD, hj, show j < sg.length by omega] using this
  · intro h x hx
    obtain ⟨j, hj, e⟩ := List.mem_iff_getElem.mp hx
    rw [List.getElem_zip] at e
    subst e
    have hj' : j < its.length := by simp at hj; omega
    have := h j hj'
    simpa [List.getD, hj', show j < sg.length by omega] using this
end
section
open PySem PySem.W PySem.Calls PyProof.Rows PySem.Builtin PySem.Builtin.Str
section
variable {W : Wd} {h₀ h h' : Heap} {Z R R' : List Ent} {a : Addr} {φ ψ : Obj → Prop}
theorem Fm.perm (F : Fm W h₀ Z R h) (hp : R.Perm R') : Fm W h₀ Z R' h :=
  ⟨F.base, F.kp, F.base₀, F.z, fun e he => F.r e (hp.mem_iff.mpr he), fun e he => F.rf e (hp.mem_iff.mpr he), ((hp.map _).nodup_iff).mp F.rn, fun e he e' he' => F.zr e he e' (hp.mem_iff.mpr he')⟩
theorem Fm.impZ (F : Fm W h₀ ((a, φ) :: Z) R h) (hi : ∀ o, φ o → ψ o) (hs : stb ψ) : Fm W h₀ ((a, ψ) :: Z) R h :=
  ⟨F.base, F.kp, F.base₀, fun e he => by
    rcases List.mem_cons.mp he with rfl | he
    · exact ⟨(F.z (a, φ) (by simp)).1.imp hi, hs⟩
    · exact F.z e (List.mem_cons_of_mem _ he), F.r, F.rf, F.rn, fun e he e' he' => by
    rcases List.mem_cons.mp he with rfl | he
    · exact F.zr (a, φ) (by simp) e' he'
    · exact F.zr e (List.mem_cons_of_mem _ he) e' he'⟩
theorem Fm.frzL {vs : List Value} (F : Fm W h₀ Z (R ++ (a, lsP vs) :: R') h) : Fm W h₀ ((a, lsO vs) :: Z) (R ++ R') h := (Fm.frz F).impZ (fun _ => lsP_ls) (stb_nrm nrm_ls)
end
def CInv (pre : List It) (tail : Option (List It)) (Z : List Ent) (k : Nat) (ps cs : List Value) : Prop :=
  (ps = [] ∧ k ≤ pre.length ∧ TVs Z cs (pre.take k)) ∨ (∃ post A as, tail = some post ∧ pre.length < k ∧ ps = [.ref A] ∧ (A, lsO as) ∈ Z ∧ TVs Z as pre ∧ TVs Z cs (post.take (k - pre.length - 1)))
theorem CInv.step {pre tail Z Z' k ps cs T i} (x : CInv pre tail Z k ps cs) (hp : (patL pre tail)[k]? = some i) (hi : i ≠ .star) (hT : (T, tsO i) ∈ Z') (hZ : ∀ e ∈ Z, e ∈ Z') : CInv pre tail Z' (k + 1) ps (cs ++ [.ref T]) := by
  rcases x with ⟨rfl, hk, hc⟩ | ⟨post, A, as, rfl, hk, rfl, hA, ha, hc⟩
  · have hlt : k < pre.length ∧ pre[k]? = some i := by
      cases tail with
      | none => exact ⟨(List.getElem?_eq_some_iff.mp hp).1, hp⟩
      | some post =>
        by_cases q : k < pre.length
        · exact ⟨q, by rw [show patL pre (some post) = pre ++ .star :: post from rfl, List.getElem?_append_left q] at hp; exact hp⟩
        · have : k = pre.length := by omega
          subst this
          rw [show patL pre (some post) = pre ++ .star :: post from rfl, List.getElem?_append_right (by omega)] at hp
          simp at hp
          exact absurd hp.symm hi
    refine .inl ⟨rfl, hlt.1, ?_⟩
    rw [List.take_add_one, hlt.2]
    exact .snoc (hc.mono hZ) hT
  · refine .inr ⟨post, A, as, rfl, by omega, rfl, hZ _ hA, ha.mono hZ, ?_⟩
    rw [show patL pre (some post) = pre ++ .star :: post from rfl, List.getElem?_append_right (by omega)] at hp
    obtain ⟨m, hm⟩ : ∃ m, k - pre.length = m + 1 := ⟨k - pre.length - 1, by omega⟩
    rw [hm, List.getElem?_cons_succ] at hp
    rw [show k + 1 - pre.length - 1 = m + 1 by omega, List.take_add_one, hp]
    rw [show k - pre.length - 1 = m by omega] at hc
    exact .snoc (hc.mono hZ) hT
theorem CInv.star {pre tail Z k ps cs} (x : CInv pre tail Z k ps cs) (hp : (patL pre tail)[k]? = some .star) (hpre : ∀ i ∈ pre, i ≠ .star) (hpost : ∀ p, tail = some p → ∀ i ∈ p, i ≠ .star) : ps = [] ∧ k = pre.length ∧ TVs Z cs pre ∧ ∃ post, tail = some post := by
  rcases x with ⟨rfl, hk, hc⟩ | ⟨post, A, as, rfl, hk, rfl, hA, ha, hc⟩
  · by_cases q : k < pre.length
    · have : pre[k]? = some .star := by
        cases tail with
        | none => exact hp
        | some post => rw [show patL pre (some post) = pre ++ .star :: post from rfl, List.getElem?_append_left q] at hp; exact hp
      exact absurd rfl (hpre _ (List.mem_of_getElem? this))
    · have : k = pre.length := by omega
      subst this
      rw [List.take_length] at hc
      refine ⟨rfl, rfl, hc, ?_⟩
      cases tail with
      | none => rw [show patL pre none = pre from rfl, List.getElem?_eq_none (Nat.le_refl _)] at hp; cases hp
      | some post => exact ⟨post, rfl⟩
  · rw [show patL pre (some post) = pre ++ .star :: post from rfl, List.getElem?_append_right (by omega)] at hp
    obtain ⟨m, hm⟩ : ∃ m, k - pre.length = m + 1 := ⟨k - pre.length - 1, by omega⟩
    rw [hm, List.getElem?_cons_succ] at hp
    exact absurd rfl (hpost _ rfl _ (List.mem_of_getElem? hp))
section
variable {W : Wd} {A : Around} {E : Value → Shared → Prop} {h₀ h : Heap} {Z R : List Ent} {gs : Array GenState} {d : Drawn} {t : Nat} {os : OsState} {Q : Value → Shared → Prop}
theorem fr_cons {T : Addr} {φ : Obj → Prop} (hT : h.get? T = none) (hz : ∀ e ∈ Z, h.get? e.1 = none) : ∀ e ∈ (T, φ) :: Z, h.get? e.1 = none := fun e he => by
  rcases List.mem_cons.mp he with rfl | he
  · exact hT
  · exact hz e he
theorem lastP {a : Addr} {l : List Value} {x : Value} {i : Nat} (F : Fm W h₀ Z R h) (hi : R[i]? = some (a, lsP (l ++ [x]))) : h.IsList a (l ++ [x]).toArray := let ⟨_, e, q⟩ := F.at hi; at_ls.mp ⟨_, e, lsP_ls q⟩
theorem v_slE_ns {value slice : Expr} {y r : Str} {ty : Tok} {j : Int} {tj : Tok} (F : Fm W h₀ Z R h) (hsz : y.length ≤ 1000000) (e : Txt.slice y none (some j) = r) (q : ∀ h' tk t', Fm W h₀ Z R h' → Q (.str r tk) ⟨h', gs, d, t', os⟩)
    (hs : subscripted slice false (.str y ty) (.ref h.objs.size) = operate [.ref h.objs.size, .str y ty] (getItem (.str y ty) (.ref h.objs.size)) := by with_unfolding_all rfl) (ht : ∀ r, letTemporaryGo value (.str y ty) r = pure () := by intro _; with_unfolding_all rfl) :
    wpAny (MM W.w) A (subscriptTail value slice (.str y ty) (.ref h.objs.size)) Q E ⟨h.push { cls := .type "slice", data := .fields #[.none, .int j tj, .none] }, gs, d, t, os⟩ :=
  v_subS_ns F hsz (fun h' tk t' _ G => e ▸ q h' tk t' G) hs ht
theorem v_slE_sn {value slice : Expr} {y r : Str} {ty : Tok} {j : Int} {tj : Tok} (F : Fm W h₀ Z R h) (hsz : y.length ≤ 1000000) (e : Txt.slice y (some j) none = r) (q : ∀ h' tk t', Fm W h₀ Z R h' → Q (.str r tk) ⟨h', gs, d, t', os⟩)
    (hs : subscripted slice false (.str y ty) (.ref h.objs.size) = operate [.ref h.objs.size, .str y ty] (getItem (.str y ty) (.ref h.objs.size)) := by with_unfolding_all rfl) (ht : ∀ r, letTemporaryGo value (.str y ty) r = pure () := by intro _; with_unfolding_all rfl) :
    wpAny (MM W.w) A (subscriptTail value slice (.str y ty) (.ref h.objs.size)) Q E ⟨h.push { cls := .type "slice", data := .fields #[.int j tj, .none, .none] }, gs, d, t, os⟩ :=
  v_subS_sn F hsz (fun h' tk t' _ G => e ▸ q h' tk t' G) hs ht
end
local macro_rules | `(tactic| wtm_at "xch") => rd "(exacts (out_at (is j 0)) (out_at (is j 1)) (out_at (is j 2)) (out_at (is j 3)))"
local macro_rules | `(tactic| wtm_at "x1") => rd "(do (wp (subscriptTail _ _ (Value.str _ _) (Value.int _ _))) (wr (refine (v_chr (by omega) 'xch (by omega) ?))))
  (do (wp (subscriptTail _ _ (Value.str _ _) (Value.ref _))) (first (wr (refine (v_slE_ns ! (by omega) (by (wr assumption)) ?))) (wr (refine (v_slE_sn ! (by omega) (by (wr assumption)) ?)))
    (wr (refine (v_slcE ! (by omega) (by (wr assumption)) ?))) (wr (refine (v_slcE ! (by omega) (slice_one (by omega) 'xch (by omega)) ?)))) (intro 4))
  (do (wp (subscriptTail _ _ (Value.ref _) (Value.int (Neg.neg 1) _))) (wr (refine (v_last (lastP (is i 1) ! ~) (by omega) ?))))
  (do (wr (show (MethodOnS _ _ _ _ %append (Value.ref _) _ _ _ _))) (wr (refine (v_mapp (Fm.at (is i 2) ! ~) ?))))
  (do (wp (call (Value.builtin %list.append) (list (Value.ref _) _))) (wr (refine (v_appP (is i 2) ! ~ (by omega) 'xset2 ?))) (intro 2))"
local macro_rules | `(tactic| wtm_at "xset2") => `(tactic| (simp only [List.set_cons_zero, List.set_cons_succ]; with_unfolding_all rfl))
local macro_rules | `(tactic| wtm_at "xnew") => rd "(do (wr (refine (v_newLP ! (by simp) ?))) (intro 3)) (do (wr (refine (v_newT ! (by (do (at xll) omega)) ?))) (intro 4))"
section
variable {W : Wd} {A : Around} {E : Value → Shared → Prop} {h₀ h : Heap} {Z R : List Ent} {gs : Array GenState} {d : Drawn} {t : Nat} {os : OsState} {Q : Value → Shared → Prop}
/-- what the loop keeps -/
inductive JE (p pre : List It) (tail : Option (List It)) (h : Heap) (P : Addr) (b : Str) (u2 : Tok) (n : Nat) (Z : List Ent) (k : Nat) (m : Str → Option Value) (ps : List Value) (cs : List Value) (u : Tok) : Prop
  | mk : n + k = p.length → ps.length ≤ 1 → cs.length ≤ k → m "parts" = some (.ref P) → m "body" = some (.str b u2) → m "k" = some (.int (outL (p.take k)).length u) → CInv pre tail Z k ps cs → (∀ e ∈ Z, h.get? e.1 = none) → JE p pre tail h P b u2 n Z k m ps cs u
theorem k_cut {y : Str} {ty : Tok} {pre : List It} {tail : Option (List It)} (F : Fm W h₀ Z R h) (rm : Rm 1 A) (hy : cp y = [40, 63, 115, 58] ++ outL (patL pre tail) ++ [41, 92, 90]) (hl : (patL pre tail).length ≤ 500) (hok : ∀ i ∈ patL pre tail, i.ok = true)
    (hpre : ∀ i ∈ pre, i ≠ .star) (hpost : ∀ p, tail = some p → ∀ i ∈ p, i ≠ .star)
    (q : ∀ D Y h' t', h₀.get? D = none → PartsAt Y D pre tail → Fm W h₀ (Y ++ Z) R h' → Q (.ref D) ⟨h', gs, d, t', os⟩) :
    wpAny (MM W.w) A (call (.ref 135) [.str y ty]) Q E ⟨h, gs, d, t, os⟩ := by
  refine enter (Z := []) (fd := fdCU) (body := bodyOf (stAt 21)) (binds := [("text", .str y ty)]) F.base .nil rm.depth (F.base.K 135 _ (kf_CU _)) rfl (cr_CU F.base) (by rfl) (by rfl) (locs (by rfl)) (by decide) (by rfl) (by rfl) (by rfl) ?_
  intro L h₁ t₁ G
  with_reducible refine noE fun E1 => ?_
  generalize hpe : patL pre tail = p at *
  have hyl : y.length = 7 + (outL p).length := by rw [← cp_len, hy]; simp [Nat.add_comm]; omega
  have hpl := outL_le4 p
  have h4 : Txt.slice y none (some 4) = Str.ofString "(?s:" := cp_inj (by
    have e1 : clipN y.length 0 none = 0 := rfl
    have e2 : clipN y.length y.length (some 4) = 4 := clip_eq rfl (by omega)
    rw [cp_slice, e1, e2, hy]; rfl)
  have h3 : Txt.slice y (some (-3)) none = Str.ofString ")\\Z" := cp_inj (by
    have e1 : clipN y.length 0 (some (-3)) = 4 + (outL p).length := (clip_neg (k := 3) rfl (by decide)).trans (by omega)
    have e2 : clipN y.length y.length none = y.length := rfl
    rw [cp_slice, e1, e2, hy, List.drop_append_of_le_length (by simp; omega), List.drop_of_length_le (by simp; omega)]
    rw [hyl, show 7 + (outL p).length - (4 + (outL p).length) = 3 by omega]; rfl)
  obtain ⟨b, hb⟩ : ∃ b : Str, b = ⟨(outL p).toArray⟩ := ⟨_, rfl⟩
  have hbc : cp b = outL p := by rw [hb]; exact cp_mk
  have hbb : Txt.slice y (some 4) (some (-3)) = b := cp_inj (by
    have e1 : clipN y.length 0 (some 4) = 4 := clip_eq rfl (by omega)
    have e2 : clipN y.length y.length (some (-3)) = 4 + (outL p).length := (clip_neg (k := 3) rfl (by decide)).trans (by omega)
    rw [cp_slice, e1, e2, hy, hbc, show 4 + (outL p).length - 4 = (outL p).length by omega, List.append_assoc, List.drop_append_of_le_length (by simp), List.drop_of_length_le (by simp), List.nil_append, List.take_left])
  have hbl : b.length = (outL p).length := by rw [← cp_len, hbc]
  clear hb
  refine x_cons ?_
  repeat' (wtm_at "x1")
  have G5 := Fm.here (by assumption)
  refine v_whileJ5 (fun n Z k m ps _ cs u => JE p pre tail h _ b _ n Z k m ps cs u) (fun Z => Z) (fun _ m ps C cs => [(L, nsO m), (_, lsP (ps ++ [.ref C])), (C, lsP cs)]) p.length _ 0 _ [] _ [] _ (Fm.perm G5 (List.Perm.cons _ (List.Perm.swap _ _ _)))
    ⟨by omega, by decide, by decide, by wtm_at "xlook", by wtm_at "xlook", by wtm_at "xlook", .inl ⟨rfl, Nat.zero_le _, .nil⟩, fun _ he => nomatch he⟩ ?_
  clear G5 G h4 h3 hbb hy
  rintro E' Q1 n Z' k m ps C cs u3 h' t' ⟨hn, hps, hcs, m1, m2, m3, hI, hfr⟩ G5 qn qb qr
  by_cases hk : k < p.length
  · have hp : p[k]? = some p[k] := List.getElem?_eq_getElem hk
    have hik := hok _ (List.getElem_mem hk)
    generalize p[k] = it at hp hik
    have hle : (outL (p.take (k + 1))).length ≤ b.length := by rw [hbl]; exact outL_le
    have hst : it ≠ .star → ∀ T Z'', (T, tsO it) ∈ Z'' → (∀ e ∈ Z', e ∈ Z'') → CInv pre tail Z'' (k + 1) ps (cs ++ [.ref T]) := fun hi T Z'' hT hZ => hI.step (hpe ▸ hp) hi hT hZ
    cases it with
    | lit c =>
      simp only [It.ok, Bool.and_eq_true, bne_iff_ne] at hik
      cases hsp : isSpec c with
      | true =>
        have ho : cp (It.lit c).out = [92, c] := by show cp (escS c) = _; unfold escS; rw [hsp]; rfl
        have hol := out_len1 hp ho
        generalize ha : (outL (p.take k)).length = a at hol m3
        have hol : (outL (p.take (k + 1))).length = a + 2 := hol
        have hc0 : (cp b)[(a : Int).toNat]? = some 92 := out_at hbc hp ha ho (j := 0) rfl (by omega)
        have e1 : (Txt.slice b (some (a : Int)) (some ((a : Int) + 2)) == Str.ofString ".*") = false := slice_two_ne (by omega) hc0 (by decide) rfl
        have e2 : (!Txt.isalnum ⟨#[c]⟩) = true := by rw [spec_alnum hsp]; rfl
        repeat' (wtm_at "x1")
        refine (qn (n - 1) _ (k + 1) _ ps C _ _ _ _ (by omega) (Fm.impZ (ψ := tsO (.lit c)) (by assumption) (fun o x => ⟨_, x⟩) (stb_nrm nrm_ts)) ⟨by omega, hps, by simp; omega, by wtm_at "xlook", by wtm_at "xlook", by rw [hol]; wtm_at "xlook", hst (by intro e; cases e) _ _ List.mem_cons_self fun e he => List.mem_cons_of_mem _ he, fr_cons (by assumption) hfr⟩).1
      | false =>
        have ho : cp (It.lit c).out = [c] := by show cp (escS c) = _; unfold escS; rw [hsp]; rfl
        have hol := out_len1 hp ho
        generalize ha : (outL (p.take k)).length = a at hol m3
        have hol : (outL (p.take (k + 1))).length = a + 1 := hol
        have hc0 : (cp b)[(a : Int).toNat]? = some c := out_at hbc hp ha ho (j := 0) rfl (by omega)
        have e1 : (Txt.slice b (some (a : Int)) (some ((a : Int) + 2)) == Str.ofString ".*") = false := slice_two_ne (by omega) hc0 (nospec_ne hsp) rfl
        have e2 : ((⟨#[c]⟩ : Str) == Str.ofString "[") = false := one_ne (k := 91) (nospec_ne hsp)
        have e3 : ((⟨#[c]⟩ : Str) == Str.ofString "\\") = false := one_ne (k := 92) (nospec_ne hsp)
        have e4 := nospec_cont hsp
        repeat' (wtm_at "x1")
        refine (qn (n - 1) _ (k + 1) _ ps C _ _ _ _ (by omega) (Fm.impZ (ψ := tsO (.lit c)) (by assumption) (fun o x => ⟨_, x⟩) (stb_nrm nrm_ts)) ⟨by omega, hps, by simp; omega, by wtm_at "xlook", by wtm_at "xlook", by rw [hol]; wtm_at "xlook", hst (by intro e; cases e) _ _ List.mem_cons_self fun e he => List.mem_cons_of_mem _ he, fr_cons (by assumption) hfr⟩).1
    | star =>
      obtain ⟨rfl, hkp, hcs', post, htail⟩ := hI.star (hpe ▸ hp) hpre hpost
      have ho : cp It.star.out = [46, 42] := rfl
      have hol := out_len1 hp ho
      generalize ha : (outL (p.take k)).length = a at hol m3
      have hol : (outL (p.take (k + 1))).length = a + 2 := hol
      have es : Txt.slice b (some (a : Int)) (some ((a : Int) + 2)) = Str.ofString ".*" := slice_mid (a := outL (p.take k)) (b := [46, 42]) (c := outL (p.drop (k + 1))) (by rw [hbc, outL_split hp, ho]) _ _ (by rw [ha]) (by rw [ha]; rfl)
      repeat' (wtm_at "x1")
      refine v_lenN (vs := [] ++ [.ref C]) 1 (lastP (i := 1) (by assumption) rfl) rfl (by decide) ?_
      repeat' (wtm_at "x1")
      refine v_mapp (Fm.at (i := 1) (by assumption) rfl) ?_
      repeat' (wtm_at "x1")
      refine v_appP (i := 1) (by assumption) rfl (Nat.le_of_ble_eq_true rfl) (by simp only [List.set_cons_zero, List.set_cons_succ, List.cons_append, List.nil_append]; rfl) ?_
      intro h9 G9
      repeat' (wtm_at "x1")
      have G10 := Fm.here (by assumption)
      have hCf := G10.rf (C, lsP cs) (by simp)
      refine (qn (n - 1) _ (k + 1) _ [.ref C] _ [] _ _ _ (by omega) (Fm.frzL (R := [_, _]) (R' := [_]) G10) ⟨by omega, by simp, by simp, by wtm_at "xlook", by wtm_at "xlook", by rw [hol]; wtm_at "xlook",
        .inr ⟨post, C, cs, htail, by omega, rfl, List.mem_cons_self, hcs'.mono fun e he => List.mem_cons_of_mem _ he, by rw [show k + 1 - pre.length - 1 = 0 by omega]; exact .nil⟩, fr_cons hCf hfr⟩).1
    | neg =>
      have ho : cp It.neg.out = [91, 94, 123, 93] := rfl
      have hol := out_len1 hp ho
      generalize ha : (outL (p.take k)).length = a at hol m3
      have hol : (outL (p.take (k + 1))).length = a + 4 := hol
      have hc0 : (cp b)[(a : Int).toNat]? = some 91 := out_at hbc hp ha ho (j := 0) rfl (by omega)
      have e1 : (Txt.slice b (some (a : Int)) (some ((a : Int) + 2)) == Str.ofString ".*") = false := slice_two_ne (by omega) hc0 (by decide) rfl
      repeat' (wtm_at "x1")
      refine (qn (n - 1) _ (k + 1) _ ps C _ _ _ _ (by omega) (Fm.impZ (ψ := tsO .neg) (by assumption) (fun o x => ⟨_, x⟩) (stb_nrm nrm_ts)) ⟨by omega, hps, by simp; omega, by wtm_at "xlook", by wtm_at "xlook", by rw [hol]; wtm_at "xlook", hst (by intro e; cases e) _ _ List.mem_cons_self fun e he => List.mem_cons_of_mem _ he, fr_cons (by assumption) hfr⟩).1
    | br c =>
      have hc : c = 42 ∨ c = 63 ∨ c = 91 := by simpa [It.ok, or_assoc] using hik
      have e93 : ((⟨#[c]⟩ : Str) == Str.ofString "^") = false := one_ne (k := 94) (by omega)
      have e94 : ((⟨#[c]⟩ : Str) == Str.ofString "\\") = false := one_ne (k := 92) (by omega)
      by_cases hc9 : c = 91
      · subst hc9
        have ho : cp (It.br 91).out = [91, 92, 91, 93] := rfl
        have hol := out_len1 hp ho
        generalize ha : (outL (p.take k)).length = a at hol m3
        have hol : (outL (p.take (k + 1))).length = a + 4 := hol
        have hc0 : (cp b)[(a : Int).toNat]? = some 91 := out_at hbc hp ha ho (j := 0) rfl (by omega)
        have e1 : (Txt.slice b (some (a : Int)) (some ((a : Int) + 2)) == Str.ofString ".*") = false := slice_two_ne (by omega) hc0 (by decide) rfl
        repeat' (wtm_at "x1")
        refine (qn (n - 1) _ (k + 1) _ ps C _ _ _ _ (by omega) (Fm.impZ (ψ := tsO (.br 91)) (by assumption) (fun o x => ⟨_, x⟩) (stb_nrm nrm_ts)) ⟨by omega, hps, by simp; omega, by wtm_at "xlook", by wtm_at "xlook", by rw [hol]; wtm_at "xlook", hst (by intro e; cases e) _ _ List.mem_cons_self fun e he => List.mem_cons_of_mem _ he, fr_cons (by assumption) hfr⟩).1
      · have ho : cp (It.br c).out = [91, c, 93] := by show cp (if c = 91 then _ else _) = _; rw [if_neg hc9]; rfl
        have hol := out_len1 hp ho
        generalize ha : (outL (p.take k)).length = a at hol m3
        have hol : (outL (p.take (k + 1))).length = a + 3 := hol
        have hc0 : (cp b)[(a : Int).toNat]? = some 91 := out_at hbc hp ha ho (j := 0) rfl (by omega)
        have e1 : (Txt.slice b (some (a : Int)) (some ((a : Int) + 2)) == Str.ofString ".*") = false := slice_two_ne (by omega) hc0 (by decide) rfl
        repeat' (wtm_at "x1")
        have G9 := Fm.here (by assumption)
        rw [e93] at G9
        refine (qn (n - 1) _ (k + 1) _ ps C _ _ _ _ (by omega) (Fm.impZ (ψ := tsO (.br c)) G9 (fun o x => ⟨_, x⟩) (stb_nrm nrm_ts)) ⟨by omega, hps, by simp; omega, by wtm_at "xlook", by wtm_at "xlook", by rw [hol]; wtm_at "xlook", hst (by intro e; cases e) _ _ List.mem_cons_self fun e he => List.mem_cons_of_mem _ he, fr_cons (by assumption) hfr⟩).1
  · have hk' : k = p.length := by omega
    subst hk'
    rw [List.take_length, ← hbl] at m3
    repeat' (wtm_at "x1")
    show Q (.ref _) _
    have f1 := G5.rf _ (List.mem_cons_of_mem _ List.mem_cons_self)
    have f2 := G5.rf _ (List.mem_cons_of_mem _ (List.mem_cons_of_mem _ List.mem_cons_self))
    have G6 := Fm.frzL (R := [_]) (R' := [_]) G5
    have G7 := Fm.frzL (R := [_]) (R' := []) G6
    have hfr2 := fr_cons (φ := lsO cs) f2 (fr_cons (φ := lsO (ps ++ [.ref C])) f1 hfr)
    refine q _ ((C, lsO cs) :: (_, lsO (ps ++ [.ref C])) :: Z') _ _ (F.kp.there f1) ?_ (F.ret _ G7 fun e he => ⟨he, hfr2 e he⟩)
    subst hpe
    rcases hI with ⟨rfl, hk, hc⟩ | ⟨post, A1, as, rfl, hk, rfl, hA, ha, hc⟩
    · cases tail with
      | none =>
        rw [show (patL pre none).length = pre.length from rfl, List.take_length] at hc
        exact ⟨C, cs, List.mem_cons_of_mem _ List.mem_cons_self, List.mem_cons_self, hc.mono fun e he => List.mem_cons_of_mem _ (List.mem_cons_of_mem _ he)⟩
      | some post => exact absurd hk (by rw [show patL pre (some post) = pre ++ .star :: post from rfl]; simp)
    · have e : (patL pre (some post)).length - pre.length - 1 = post.length := by rw [show patL pre (some post) = pre ++ .star :: post from rfl]; simp
      rw [e, List.take_length] at hc
      exact ⟨A1, C, as, cs, List.mem_cons_of_mem _ List.mem_cons_self, List.mem_cons_of_mem _ (List.mem_cons_of_mem _ hA), List.mem_cons_self, ha.mono fun e he => List.mem_cons_of_mem _ (List.mem_cons_of_mem _ he), hc.mono fun e he => List.mem_cons_of_mem _ (List.mem_cons_of_mem _ he)⟩
end
end
section
open PySem PySem.W PySem.Calls PyProof.Rows PySem.Builtin PySem.Builtin.Str
theorem okT_of {i : It} {c : Nat} : ((((⟨#[c]⟩ : Str) == ⟨#[i.ch]⟩) == i.bar) = true) ↔ okT i c = false := by
  have e : ((⟨#[c]⟩ : Str) == ⟨#[i.ch]⟩) = (c == i.ch) := by
    rw [beq_cp, cp_one, cp_one, Bool.eq_iff_iff]
    simp
  rw [e]
  unfold okT
  cases (c == i.ch) <;> cases i.bar <;> decide
local macro_rules | `(tactic| wtm_at "xname") => rd "(places n_localD 5) (places n_cellD 1 2)"
local macro_rules | `(tactic| wtm_at "x1") => rd "(at xst) (rules PyProof.Rows.eq_bool PySem.P.ne_int)
  (do (wp (binaryOp Operator.Add (Value.ref _) (Value.ref _))) (wr (refine (v_addL ! (at_ls.mp (Fm.atZ (is φ (lsO _)) ! 'xmem)) (at_ls.mp (Fm.atZ (is φ (lsO _)) ! 'xmem)) 'om ?))) (intro 4))"
local macro_rules | `(tactic| wtm_at "xst") => rd "(do (wp (storeName _ _ _)) (places n_storeCD 1 2) (intro 2))"
section
variable {W : Wd} {A : Around} {E : Value → Shared → Prop} {h₀ h : Heap} {Z R : List Ent} {gs : Array GenState} {d : Drawn} {t : Nat} {os : OsState} {Q : Value → Shared → Prop}
theorem k_takes {D : Addr} {y : Str} {uy : Tok} {pre : List It} {tail : Option (List It)} (F : Fm W h₀ Z R h) (rm : Rm 1 A) (P : PartsAt Z D pre tail) (hy : y.length ≤ 1000) (hl : pre.length + (tail.getD []).length ≤ 500)
    (q : ∀ h' t', Fm W h₀ Z R h' → Q (.bool (takesB pre tail (cp y))) ⟨h', gs, d, t', os⟩) :
    wpAny (MM W.w) A (call (.ref 140) [.ref D, .str y uy]) Q E ⟨h, gs, d, t, os⟩ := by
  refine enterC (Z := Z) (fd := fdTK) (body := bodyOf (stAt 22)) (binds := [("parts", .ref D), ("name", .str y uy)]) F.base F.z rm.depth (F.base.K 140 _ (kf_TK _)) rfl (cr_TK F.base) (by rfl) (by rfl) (by rfl) (by intro L x hx; simp only [List.mem_cons, List.not_mem_nil, or_false] at hx; rcases hx with rfl | rfl <;> exact .inl rfl) (by decide) (by rfl) (by rfl) (by rfl) ?_
  intro L h₁ t₁ G
  with_reducible refine noE fun E1 => ?_
  have G : Fm W h Z [(L, nsO (bindL (callEnvC fdTK L 140).kindOf [("parts", .ref D), ("name", .str y uy)] fun _ => none)), (L + 1, clO none), (L + 2, clO none)] h₁ := G
  have hu : (A.deeper (callEnvC fdTK L 140)).units < cLine := by have := rm.u; show A.units + 3 < _; wtm_at "om"
  have fin : ∀ (E1 : Value → Shared → Prop) (Z' : List Ent) (as bs : List Value) (A1 B1 : Addr) (m : Str → Option Value) (h' : Heap) (t' : Nat), Fm W h Z' [(L, nsO m), (L + 1, clO none), (L + 2, clO none)] h' → m "name" = some (.str y uy) → m "head" = some (.ref A1) → m "tail" = some (.ref B1) →
      (A1, lsO as) ∈ Z' → (B1, lsO bs) ∈ Z' → TVs Z' as pre → TVs Z' bs (tail.getD []) → fits pre tail (cp y) = true →
      wpAny (MM W.w) (A.deeper (callEnvC fdTK L 140)) (execs ((bodyOf (stAt 22)).drop 4) (callEnvC fdTK L 140)) (fun fl s' => Q (flv fl) s') E1 ⟨h', gs, d, t', os⟩ := by
    intro E1 Z' as bs A1 B1 m h' t' G m2 m3 m4 hA hB hTa hTb hfit
    have hla := hTa.len
    have hlb := hTb.len
    have hT := hTa.app hTb
    have hfit' := hfit
    simp only [fits, Bool.and_eq_true, decide_eq_true_eq, cp_len] at hfit'
    refine x_cons ?_
    repeat' (wtm_at "x1")
    refine v_lenL (vs := as ++ bs) (at_ls.mp (Fm.atZ (by assumption) List.mem_cons_self)) (by rw [List.length_append]; wtm_at "om") ?_
    repeat' (wtm_at "x1")
    refine v_range1 (by assumption) ?_
    intro r h2 t1 u1 v1 t2 hr G2
    refine v_it_range (n := (as ++ bs).length) G2 hr (by rw [List.length_append]; wtm_at "om") ?_
    intro it h3 G3
    have hsg : (signs pre tail (cp y)).length = (tests pre tail).length := by
      unfold signs tests
      rw [List.length_append, List.length_append, List.length_take, List.length_drop, cp_len]; wtm_at "om"
    have hS : cp (Txt.slice y none (some (as.length : Int)) ++ Txt.slice y (some ((y.length : Int) - (bs.length : Int))) none) = signs pre tail (cp y) := by
      have e1 : clipN y.length 0 none = 0 := rfl
      have e2 : clipN y.length y.length none = y.length := rfl
      have e3 : clipN y.length y.length (some (as.length : Int)) = pre.length := (clip_eq rfl (by wtm_at "om")).trans (by wtm_at "om")
      have e4 : clipN y.length 0 (some ((y.length : Int) - (bs.length : Int))) = y.length - (tail.getD []).length := (clip_eq (k := y.length - bs.length) (by wtm_at "om") (by wtm_at "om")).trans (by wtm_at "om")
      rw [cp_app, cp_slice, cp_slice, e1, e2, e3, e4]
      unfold signs
      rw [cp_len, List.drop_zero, Nat.sub_zero]
      congr 1
      exact List.take_of_length_le (by rw [List.length_drop, cp_len]; wtm_at "om")
    have hSl : (Txt.slice y none (some (as.length : Int)) ++ Txt.slice y (some ((y.length : Int) - (bs.length : Int))) none).length = as.length + bs.length := by
      rw [← cp_len, hS, hsg]; unfold tests; rw [List.length_append]; wtm_at "om"
    generalize Txt.slice y none (some (as.length : Int)) ++ Txt.slice y (some ((y.length : Int) - (bs.length : Int))) none = S at *
    refine comp_none (Iter.range (n := (as ++ bs).length) (show (A.deeper _).handled = none from rm.hd)) G3 (fun k Z'' ys => ys.length ≤ k ∧ (ys = [] ↔ ∀ j, j < k → okT ((tests pre tail).getD j .star) ((signs pre tail (cp y)).getD j 0) = true)) (fun _ _ _ _ _ => trivial) (by rw [List.length_append]; wtm_at "om") ⟨Nat.le_refl _, fun _ j hj => absurd hj (Nat.not_lt_zero _), fun _ => rfl⟩ self_range (by decide) (by rfl) (by rfl) ?_ ?_
    · rintro E' D' C k Z'' ys ι' m' h4 t4 v hk ⟨hJ1, hJ⟩ hys hZ G4 ⟨tv, rfl⟩
      have hk' : k < (tests pre tail).length := by unfold tests; rw [List.length_append] at hk ⊢; wtm_at "om"
      have hkS : k < (signs pre tail (cp y)).length := by wtm_at "om"
      have hi : (tests pre tail)[k]? = some (tests pre tail)[k] := List.getElem?_eq_getElem hk'
      obtain ⟨T, hT1, hT2⟩ := hT.get hi
      have hc : (cp S)[((k : Nat) : Int).toNat]? = some (signs pre tail (cp y))[k] := by rw [hS, Int.toNat_natCast]; exact List.getElem?_eq_getElem hkS
      have gi : (tests pre tail).getD k .star = (tests pre tail)[k] := by simp [List.getD, hk']
      have gc : (signs pre tail (cp y)).getD k 0 = (signs pre tail (cp y))[k] := by simp [List.getD, hkS]
      have hmD := hZ _ List.mem_cons_self
      have hmT := hZ _ (List.mem_cons_of_mem _ hT2)
      generalize (tests pre tail)[k] = it1 at *
      generalize (signs pre tail (cp y))[k] = c at *
      repeat' (wtm_at "x1")
      refine v_chr (by wtm_at "om") hc (by wtm_at "om") ?_
      repeat' (wtm_at "x1")
      refine v_item (at_ls.mp (Fm.atZ (by assumption) hmD)) (by wtm_at "om") (by wtm_at "om") (by rw [List.length_append] at hk; wtm_at "om") ?_
      intro x hx
      have : x = .ref T := by
        have hx' : (as ++ bs)[k]? = some x := hx
        rw [hT1] at hx'; exact (Option.some.inj hx').symm
      subst this
      obtain ⟨u0, hAt⟩ : ∃ u0, At _ T (tuO [.bool it1.bar, .str ⟨#[it1.ch]⟩ u0]) := by
        have hh := (Fm.here (by assumption)).atZ hmT
        obtain ⟨o, ho, u, hu⟩ := hh
        exact ⟨u, o, ho, hu⟩
      repeat' (wtm_at "x1")
      refine v_item1 hAt ?_
      repeat' (wtm_at "x1")
      refine v_item (at_ls.mp (Fm.atZ (by assumption) hmD)) (by wtm_at "om") (by wtm_at "om") (by rw [List.length_append] at hk; wtm_at "om") ?_
      intro x hx
      have : x = .ref T := by
        have hx' : (as ++ bs)[k]? = some x := hx
        rw [hT1] at hx'; exact (Option.some.inj hx').symm
      subst this
      repeat' (wtm_at "x1")
      refine v_item0 hAt ?_
      repeat' (wtm_at "x1")
      · refine ⟨_, _, _, rfl, by assumption, hZ, by simp; wtm_at "om", ?_⟩
        have hb := okT_of.mp (by assumption : ((({ cps := #[c] } : Str) == { cps := #[it1.ch] }) == it1.bar) = true)
        constructor
        · intro e; exact absurd (congrArg List.length e) (by simp)
        · intro ha
          have := ha k (Nat.lt_succ_self k)
          rw [gi, gc, hb] at this; cases this
      · refine ⟨_, _, _, rfl, by assumption, hZ, by wtm_at "om", ?_⟩
        have hb : okT it1 c = true := by
          cases ho : okT it1 c with
          | true => rfl
          | false =>
            have h1 := okT_of.mpr ho
            have h2 := (by assumption : ((({ cps := #[c] } : Str) == { cps := #[it1.ch] }) == it1.bar) = false)
            rw [h1] at h2; cases h2
        rw [hJ]
        constructor
        · intro ha j hj
          by_cases e : j = k
          · subst e; rw [gi, gc]; exact hb
          · exact ha j (by wtm_at "om")
        · intro ha j hj
          exact ha j (by wtm_at "om")
    · rintro D' Z'' ys h4 t4 hD' ⟨hJ1, hJ⟩ hZ G4
      rw [show (as ++ bs).length = (tests pre tail).length by unfold tests; rw [List.length_append, List.length_append]; wtm_at "om", ← zip_all hsg] at hJ
      repeat' (wtm_at "x1")
      have hE := Fm.atZ (Fm.here (by assumption)) (List.mem_cons_self)
      have hD2 := Fm.atZ (Fm.here (by assumption)) (List.mem_cons_of_mem _ List.mem_cons_self)
      cases ys with
      | nil =>
        refine v_eqNil (at_ls.mp hD2) (at_ls.mp hE) hu ?_
        show Q (.bool true) _
        have : takesB pre tail (cp y) = true := by unfold takesB; rw [hfit, hJ.mp rfl]; rfl
        rw [← this]
        exact q _ _ (F.ret0 (by assumption))
      | cons v ys =>
        refine v_eqNe (at_ls.mp hD2) (at_ls.mp hE) (by simp) hu ?_
        show Q (.bool false) _
        have : takesB pre tail (cp y) = false := by
          unfold takesB
          cases ha : ((signs pre tail (cp y)).zip (tests pre tail)).all (fun x => okT x.2 x.1) with
          | true => exact absurd (hJ.mpr ha) (by simp)
          | false => exact Bool.and_false _
        rw [← this]
        exact q _ _ (F.ret0 (by assumption))
  have rest : ∀ (E1 : Value → Shared → Prop) (Z' : List Ent) (ps as bs : List Value) (A1 B1 : Addr) (m : Str → Option Value) (h' : Heap) (t' : Nat), Fm W h Z' [(L, nsO m), (L + 1, clO none), (L + 2, clO none)] h' → m "parts" = some (.ref D) → m "name" = some (.str y uy) → m "head" = some (.ref A1) → m "tail" = some (.ref B1) →
      (D, lsO ps) ∈ Z' → (A1, lsO as) ∈ Z' → (B1, lsO bs) ∈ Z' → TVs Z' as pre → TVs Z' bs (tail.getD []) → (tail.isSome = true ↔ ps.length ≠ 1) → ps.length ≤ 2 →
      wpAny (MM W.w) (A.deeper (callEnvC fdTK L 140)) (execs ((bodyOf (stAt 22)).drop 3) (callEnvC fdTK L 140)) (fun fl s' => Q (flv fl) s') E1 ⟨h', gs, d, t', os⟩ := by
    intro E1 Z' ps as bs A1 B1 m h' t' G m1 m2 m3 m4 hD hA hB hTa hTb hps hps2
    have hla := hTa.len
    have hlb := hTb.len
    have hcy : (cp y).length = y.length := cp_len
    refine x_cons ?_
    (with_reducible refine wpAny_If ?_)
    repeat' ((fail_if_success (with_reducible show wpAny _ _ (execs [Stmt.Assign _ _ _, Stmt.Assign _ _ _, Stmt.Return _ _] _) _ _ _)); wtm_at "x1")
    · have hb := of_decide_eq_true (by assumption : decide ((y.length : Int) < (as.length : Int) + (bs.length : Int)) = true)
      have : takesB pre tail (cp y) = false := by
        unfold takesB fits
        rw [decide_eq_false (by wtm_at "om")]; rfl
      show Q (.bool false) _
      rw [← this]
      exact q _ _ (F.ret0 (by assumption))
    · have hb := (by assumption : ((ps.length : Int) == 1) = true)
      have hb2 := (by assumption : ((y.length : Int) != (as.length : Int)) = true)
      have : takesB pre tail (cp y) = false := by
        have h1 : ps.length = 1 := by have := eq_of_beq hb; wtm_at "om"
        have h2 : y.length ≠ pre.length := fun e => by rw [e, hla] at hb2; simp at hb2
        have h3 : tail.isSome = false := by cases hq : tail.isSome with | true => exact absurd h1 (hps.mp hq) | false => rfl
        unfold takesB fits
        rw [h3, hcy, show (y.length == pre.length) = false by rw [beq_eq_false_iff_ne]; exact h2]
        simp
      show Q (.bool false) _
      rw [← this]
      exact q _ _ (F.ret0 (by assumption))
    · have hb0 := of_decide_eq_false (by assumption : decide ((y.length : Int) < (as.length : Int) + (bs.length : Int)) = false)
      have hb2 := (by assumption : ((y.length : Int) != (as.length : Int)) = false)
      have h2 : y.length = pre.length := by simp at hb2; wtm_at "om"
      refine fin _ _ as bs A1 B1 _ _ _ (by assumption) m2 m3 m4 hA hB hTa hTb ?_
      unfold fits
      rw [hcy, decide_eq_true (by wtm_at "om"), show (y.length == pre.length) = true by simp [h2]]
      simp
    · have hb0 := of_decide_eq_false (by assumption : decide ((y.length : Int) < (as.length : Int) + (bs.length : Int)) = false)
      have hb := (by assumption : ((ps.length : Int) == 1) = false)
      have h3 : tail.isSome = true := hps.mpr (fun e => by rw [e] at hb; simp at hb)
      refine fin _ _ as bs A1 B1 _ _ _ (by assumption) m2 m3 m4 hA hB hTa hTb ?_
      unfold fits
      rw [hcy, decide_eq_true (by wtm_at "om"), h3]
      simp
  refine x_cons ?_
  repeat' (wtm_at "x1")
  cases tail with
  | none =>
    obtain ⟨A1, as, pD, pA, pT⟩ := P
    refine v_eqNe (vs := [.ref A1]) (at_ls.mp (Fm.atZ (by assumption) (List.mem_cons_of_mem _ pD))) (at_ls.mp (Fm.atZ (φ := lsO []) (by assumption) List.mem_cons_self)) (by simp) hu ?_
    repeat' (wtm_at "x1")
    refine v_item (l := [.ref A1]) (at_ls.mp (Fm.atZ (by assumption) (List.mem_cons_of_mem _ pD))) (by decide) (by simp) (by decide) ?_
    intro x hx
    obtain rfl : Value.ref A1 = x := Option.some.inj hx
    repeat' (wtm_at "x1")
    refine v_lenN (vs := [.ref A1]) 1 (at_ls.mp (Fm.atZ (by assumption) (List.mem_cons_of_mem _ pD))) rfl (by decide) ?_
    repeat' ((fail_if_success (with_reducible show wpAny _ _ (execs (Stmt.If _ _ _ _ :: _) _) _ _ _)); wtm_at "x1")
    exact rest _ _ [.ref A1] as [] A1 _ _ _ _ (by assumption) (by wtm_at "xlook") (by wtm_at "xlook") (by wtm_at "xlook") (by wtm_at "xlook") (List.mem_cons_of_mem _ (List.mem_cons_of_mem _ pD)) (List.mem_cons_of_mem _ (List.mem_cons_of_mem _ pA)) List.mem_cons_self (pT.mono fun e he => List.mem_cons_of_mem _ (List.mem_cons_of_mem _ he)) .nil (by simp) (by simp)
  | some post =>
    obtain ⟨A1, B1, as, bs, pD, pA, pB, pT, pT2⟩ := P
    refine v_eqNe (vs := [.ref A1, .ref B1]) (at_ls.mp (Fm.atZ (by assumption) (List.mem_cons_of_mem _ pD))) (at_ls.mp (Fm.atZ (φ := lsO []) (by assumption) List.mem_cons_self)) (by simp) hu ?_
    repeat' (wtm_at "x1")
    refine v_item (l := [.ref A1, .ref B1]) (at_ls.mp (Fm.atZ (by assumption) (List.mem_cons_of_mem _ pD))) (by decide) (by simp) (by decide) ?_
    intro x hx
    obtain rfl : Value.ref A1 = x := Option.some.inj hx
    repeat' (wtm_at "x1")
    refine v_lenN (vs := [.ref A1, .ref B1]) 2 (at_ls.mp (Fm.atZ (by assumption) (List.mem_cons_of_mem _ pD))) rfl (by decide) ?_
    repeat' (wtm_at "x1")
    refine v_last (l := [.ref A1]) (at_ls.mp (Fm.atZ (by assumption) (List.mem_cons_of_mem _ pD))) (by simp) ?_
    repeat' ((fail_if_success (with_reducible show wpAny _ _ (execs (Stmt.If _ _ _ _ :: _) _) _ _ _)); wtm_at "x1")
    exact rest _ _ [.ref A1, .ref B1] as bs A1 B1 _ _ _ (by assumption) (by wtm_at "xlook") (by wtm_at "xlook") (by wtm_at "xlook") (by wtm_at "xlook") (List.mem_cons_of_mem _ pD) (List.mem_cons_of_mem _ pA) (List.mem_cons_of_mem _ pB) (pT.mono fun e he => List.mem_cons_of_mem _ he) (pT2.mono fun e he => List.mem_cons_of_mem _ he) (by simp) (by simp)
end
end
section
open PySem PySem.W PySem.W.X PySem.Calls PyProof.Rows PySem.Builtin
section
variable {prog : Program} {w : World} {A : Around} {c : Code} {fs : List Frame} {P : End → Shared → Prop} {env : Env} {gd : Bool → Bool} {lv : List Value → List Value} {s : Shared}
theorem x_wrap {α : Type} {m : Sem α} {K : α → Sem Fin} {H : Value → Sem Fin}
    (h : wpAny (model prog w) (A.over c fs) m (fun a s' => SegX (model prog w) A c (K a) fs s' P) (fun x s' => SegX (model prog w) A c (H x) fs s' P) s) : SegX (model prog w) A c (m.wrap K H gd lv) fs s P := by
  rintro Γ p rfl hΓ
  obtain ⟨e, s', hr, hq⟩ := runs_wrap_of_wp (Φ := fun e s' => e.quiet = true ∧ P e s') K H gd lv m (h (Γ.over fs) p (hΓ.over fs)) (fun a p' s' h' => h' Γ p' rfl hΓ) (fun x p' s' h' => h' Γ p' rfl hΓ)
  exact ⟨e, s', hr, hq⟩
theorem x_bind {α β : Type} {m : Sem α} {f : α → Sem β} {K : β → Sem Fin} {H : Value → Sem Fin}
    (h : wpAny (model prog w) (A.over c fs) m (fun a s' => SegX (model prog w) A c ((f a).wrap K H gd lv) fs s' P) (fun x s' => SegX (model prog w) A c (H x) fs s' P) s) : SegX (model prog w) A c ((m >>= f).wrap K H gd lv) fs s P := by
  rw [Sem.bind_eq_wrap', Sem.wrap_wrap]
  exact x_wrap h
variable {K : Flow → Sem Fin} {H : Value → Sem Fin}
theorem x_execs_nil (h : SegX (model prog w) A c (K .next) fs s P) : SegX (model prog w) A c ((execs [] env).wrap K H gd lv) fs s P := h
theorem x_execs_cons {st : Stmt} {rest : List Stmt}
    (h : SegX (model prog w) A c ((exec st env).wrap (fun f => match f with | .next => (execs rest env).wrap K H gd lv | f => K f) H gd lv) fs s P) : SegX (model prog w) A c ((execs (st :: rest) env).wrap K H gd lv) fs s P := by
  rw [execs_cons_wrap]; exact h
theorem x_exec {st : Stmt} (h : wpAny (model prog w) (A.over c fs) (exec st env) (fun f s' => SegX (model prog w) A c (K f) fs s' P) (fun x s' => SegX (model prog w) A c (H x) fs s' P) s) : SegX (model prog w) A c ((exec st env).wrap K H gd lv) fs s P := x_wrap h
theorem x_If {test : Expr} {body orelse : List Stmt} {pos : Pos}
    (h : wpAny (model prog w) (A.over c fs) (isTrue test env (eval test env)) (fun b s' => if b = true then SegX (model prog w) A c ((execs body env).wrap K H gd lv) fs s' P else SegX (model prog w) A c ((execs orelse env).wrap K H gd lv) fs s' P)
      (fun x s' => SegX (model prog w) A c (H x) fs s' P) s) : SegX (model prog w) A c ((exec (.If test body orelse pos) env).wrap K H gd lv) fs s P := by
  rw [exec_If]
  refine x_bind (wpAny_standAt (x_bind (wpAny_mono h (fun b s' hb => ?_) fun _ _ x => x)))
  cases b with
  | true => exact hb
  | false => exact hb
/-- how a loop's end goes on in the code that called it -/
def comesBack (c : Code) (kk : Result → Sem Fin) (K : Flow → Sem Fin) (prog : Program) (w : World) (fs : List Frame) : Prop :=
  ∀ A f s P, SegX (model prog w) A c (K f) fs s P → SegX (model prog w) A c (kk (.ok f)) fs s P
theorem x_For {target iter : Expr} {body orelse : List Stmt} {pos : Pos} (hgd : gd false = false)
    (h : wpAny (model prog w) (A.over c fs) (eval iter env) (fun x s₁ => wpAny (model prog w) (A.over c fs) (pyIter x) (fun it s₂ => ∀ kk l p, comesBack c kk K prog w fs →
        SegX (model prog w) A (.forLoop target it body orelse env) (denote table (.forLoop target it body orelse env)) (.ret kk none false l c p [] :: fs) s₂ P)
      (fun x s' => SegX (model prog w) A c (H x) fs s' P) s₁) (fun x s' => SegX (model prog w) A c (H x) fs s' P) s)
    (hs : ∀ x, foldedSetIterable iter env x = pure x := by intro _; rfl) :
    SegX (model prog w) A c ((exec (.For target iter body orelse pos) env).wrap K H gd lv) fs s P := by
  rw [exec_For]
  refine x_bind (wpAny_standAt (x_bind (wpAny_mono h (fun x s₁ h₁ => ?_) fun _ _ z => z)))
  refine x_bind (wpAny_of_eq (hs x) (x_bind (wpAny_standAt (x_bind (wpAny_holding (wpAny_mono h₁ (fun it s₂ h₂ => ?_) fun _ _ z => z))))))
  show SegX _ A c ((Sem.onRaise (run _ none) _).wrap K H gd lv) fs s₂ P
  unfold run
  refine s_call prog w A c fs P s₂ (.forLoop target it body orelse env) none (gd false) (lv []) _ fun p => ?_
  rw [hgd]
  exact h₂ _ _ _ fun A f s P hf => hf
theorem x_forLoop {target : Expr} {it : Value} {body orelse : List Stmt} (hq : Code.quiet (.forLoop target it body orelse env) = true) (hq' : Code.quiet (.block orelse env) = true)
    (h : wpAny (model prog w) (A.over (.forLoop target it body orelse env) fs) (pyNext it) (fun r s₁ => match r with
      | none => SegX (model prog w) A (.block orelse env) (denote table (.block orelse env)) fs s₁ P
      | some v => wpAny (model prog w) (A.over (.forLoop target it body orelse env) fs) (assign target env v) (fun _ s₂ =>
          ∀ H', SegX (model prog w) A (.forLoop target it body orelse env) ((execs body env).wrap (fun f => match f with | .next | .cont => .pure (.again (.forLoop target it body orelse env)) | .brk => .pure (.done .next) | .ret v => .pure (.done (.ret v))) H' id id) fs s₂ P)
          (fun _ _ => False) s₁) (fun _ _ => False) s)
    (ht : ∀ v, letOwnedTupleGo target it v = pure () := by intro _; rfl) :
    SegX (model prog w) A (.forLoop target it body orelse env) (denote table (.forLoop target it body orelse env)) fs s P := by
  show SegX _ A _ ((forTurn target it body orelse env).onRaise (fun x => do noteFrame x env; theTreesLotGoes x)) fs s P
  rw [Sem.onRaise_eq_wrap]
  unfold forTurn
  refine x_bind (wpAny_standAt (x_bind (wpAny_onRaise (wpAny_mono h (fun r s₁ h₁ => ?_) fun _ _ z => z.elim))))
  cases r with
  | none => exact s_again prog w A _ fs P s₁ (.block orelse env) hq' h₁
  | some v =>
    refine x_bind (wpAny_of_eq (ht v) (x_bind (wpAny_mono h₁ (fun _ s₂ h₂ => ?_) fun _ _ z => z.elim)))
    have := h₂ (fun e => (Sem.bind (do noteFrame e env; theTreesLotGoes e) fun _ => .raise e))
    rw [Sem.bind_eq_wrap', Sem.wrap_wrap]
    refine s_eq prog w A _ fs P s₂ _ _ (Sem.wrap_congr (execs body env) _ _ (fun f => ?_) (fun e => ?_)) this
    · cases f <;> rfl
    · rfl
theorem x_func {body : List Stmt}
    (h : ∀ H', SegX (model prog w) A (.func body env) ((execs body env).wrap (fun f => .pure (.done (.ret (match f with | .ret v => v | _ => .none)))) H' id id) fs s P) :
    SegX (model prog w) A (.func body env) (denote table (.func body env)) fs s P := by
  show SegX _ A _ (.point [] fun _ => ((execs body env).onRaise (leaving env)) >>= _) fs s P
  refine s_cmd prog w A _ fs P (m := point) (k := fun _ => ((execs body env).onRaise (leaving env)) >>= fun f => match f with | .ret v => ret v | _ => ret .none) (wpAny_point ?_)
  rw [Sem.onRaise_eq_wrap, Sem.bind_eq_wrap', Sem.wrap_wrap]
  exact s_eq prog w A _ fs P s _ _ (Sem.wrap_congr (execs body env) _ _ (K' := fun f => .pure (.done (.ret (match f with | .ret v => v | _ => .none)))) (fun f => by cases f <;> rfl) (fun e => rfl)) (h _)
theorem x_Yield {e : Expr} {ypos pos : Pos} (hfs : splitAtGen fs = none) (hgd : gd false = false) (hfg : fs.any Frame.guarded = false)
    (h : wpAny (model prog w) (A.over c fs) (eval e env) (fun v s' => ∀ (k : Resume → Sem Fin) l p, k (.send .none) = K .next → P (.susp v false l k c p fs) s') (fun x s' => SegX (model prog w) A c (H x) fs s' P) s)
    (hco : env.scope.isCoroutine = false := by rfl) (hi : interactive env = false := by rfl) :
    SegX (model prog w) A c ((exec (.Expr (.Yield (some e) ypos) pos) env).wrap K H gd lv) fs s P := by
  rw [exec_Expr env _ pos hi rfl]
  have hy : ∀ v, yieldOut env v = yieldValue v := fun v => by simp only [yieldOut, hco, Bool.false_eq_true, if_false]
  show SegX _ A c ((standAt pos >>= fun _ => ((eval e env >>= fun v => (standAt ypos >>= fun _ => yieldOut env v)) >>= fun x => dropValue (.Yield (some e) ypos) pos x)).wrap K H gd lv) fs s P
  simp only [hy]
  refine x_bind (wpAny_standAt ?_)
  rw [Sem.bind_eq_wrap', Sem.bind_eq_wrap', Sem.wrap_wrap, Sem.wrap_wrap]
  refine x_wrap (wpAny_mono h (fun v s' h' => ?_) fun _ _ x => x)
  refine s_cmd prog w A c fs P (m := standAt ypos) (k := fun _ => (yieldValue v).wrap (fun x => (dropValue (.Yield (some e) ypos) pos x).wrap K H gd lv) (fun x => H x) (fun g => gd (id g)) (fun l => lv (id l))) (wpAny_standAt ?_)
  show SegX _ A c (.yield v (gd false) (lv []) _) fs s' P
  rw [hgd]
  exact s_yield prog w A c fs P s' v _ _ hfs hfg fun p => h' _ _ _ rfl
theorem x_block_nil (h : ∀ t, t = leafOf (.ok .next) → SegX (model prog w) A (.block [] env) t fs s P) : SegX (model prog w) A (.block [] env) (denote table (.block [] env)) fs s P := h _ rfl
end
end
section
open PySem PySem.W PySem.W.X PySem.Calls PyProof.Rows PySem.Builtin
def StAs (st : GenState) (c₀ : Code) (t₀ : Sem Fin) (fs₀ : List Frame) : Prop := (st = .fresh c₀ ∧ t₀ = denote table c₀ ∧ fs₀ = []) ∨ (∃ k₀ l₀ p₀ cl, st = .suspended k₀ l₀ c₀ p₀ fs₀ cl ∧ t₀ = k₀ (.send .none))
section
variable {prog : Program} {w : World} {A : Around} {E : Value → Shared → Prop} {s : Shared}
theorem wpAny_pyNext_X {a : Addr} {g : Nat} {st : GenState} {c₀ : Code} {t₀ : Sem Fin} {fs₀ : List Frame} {P : End → Shared → Prop} {Q : Option Value → Shared → Prop} (hh : A.handled = none)
    (hl : s.heap.NoLimit) (hroom : A.depth < recursionLimit) (hg : s.heap.IsGen a g) (hgs : s.gens[g]? = some st) (hst : StAs st c₀ t₀ fs₀)
    (x : SegX (model prog w) A.in1 c₀ t₀ fs₀ (s.setGen g .running) P)
    (hP : ∀ e s₁, P e s₁ → (e = .ret (.ok (.ret .none)) ∧ ∀ h', (∀ b o, s₁.heap.get? b = some o → h'.get? b = some o) → Q none { s₁.setGen g .finished with heap := h' }) ∨
      ∃ v l k c p fs, e = .susp v false l k c p fs ∧ Q (some v) (s₁.setGen g (End.susp v false l k c p fs).genState)) :
    wpAny (model prog w) A (pyNext (.ref a)) Q E s := by
  unfold pyNext
  refine wpAny_bind (wpAny_attempt (wpAny_callSpecial?_slot (name := Str.ofString "__next__") hg.typeIs slot_gen_next
    (wpAny_call_entry slot_gen_next hg.typeIs entry_gen_next ?_ (args_gen_next _))))
  show wpAny _ A.in1 (Builtin.Generator.genWake (.ref a) (.send .none)) _ _ s
  unfold Builtin.Generator.genWake
  refine wpAny_bind (wpAny_holding (wpAny_genNumber hg (wpAny_bind (wpAny_genState hgs ?_))))
  have key : ∀ {α : Type} {l : List Value} {k : GenResult → Sem α} {Q' : α → Shared → Prop} {E' : Value → Shared → Prop}, (∀ e s₁, P e s₁ → wpAny (model prog w) A.in1 (k e.result) Q' E' (s₁.setGen g e.genState)) →
      wpAny (model prog w) A.in1 (.resume g (.send .none) l k) Q' E' s := by
    intro α l k Q' E' hk
    refine wake_any α prog w hgs (c₀ := c₀) (t₀ := t₀) (fs₀ := fs₀) ?_ (fun Γ => Γ.In A.in1) (fun _ h => h) (x.mono fun e s₁ hp => hk e s₁ hp)
    rcases hst with ⟨a1, a2, a3⟩ | ⟨k₀, l₀, p₀, cl, a1, a2⟩
    · exact .inl ⟨a1, rfl, a2, a3⟩
    · exact .inr ⟨k₀, l₀, p₀, cl, a1, a2⟩
  have fin : ∀ e s₁, P e s₁ → _ := fun e s₁ hp => hP e s₁ hp
  rcases hst with ⟨rfl, -, -⟩ | ⟨k₀, l₀, p₀, cl, rfl, -⟩
  all_goals
    refine wpAny_bind (wpAny_roomToWake hl hroom ?_)
    show wpAny _ A.in1 (.resume g (.send .none) [] _) _ _ s
    refine key fun e s₁ hp => ?_
    rcases fin e s₁ hp with ⟨rfl, hq⟩ | ⟨v, l, k, c, p, fs, rfl, hq⟩
    · show wpAny _ A.in1 (newExc (.type "StopIteration") [] >>= _) _ _ _
      refine wpAny_bind ?_
      simp only [newExc, newTuple]
      refine wpAny_bind (wpAny_newObj_type ?_ (by size_fits))
      refine wpAny_bind (m := firstArgMember _ _) (wpAny_of_eq (a := Value.none) (by first | rfl | (simp only [firstArgMember]; rfl)) ?_)
      refine wpAny_newObj_type ?_ (by size_fits)
      simp only [raiseNew]
      refine wpAny_bind (wpAny_bind (wpAny_handled ?_))
      first | rw [show A.in1.handled = none from hh] | rw [hh]
      refine wpAny_throw ?_
      refine wpAny_bind (wpAny_isInstance (T := "StopIteration") (b := true) ⟨_, Heap.get?_push_size _ rfl, rfl⟩ isSubtype_stop ?_)
      exact wpAny_pure (hq _ fun b o hb => Heap.get?_push_of_some _ (Heap.get?_push_of_some _ hb))
    · exact wpAny_pure ⟨v, rfl, wpAny_pure hq⟩
end
abbrev GEnt := Nat × GenState
def GenPre (GG : List GEnt) (gs : Array GenState) : Prop := ∀ p ∈ GG, gs[p.1]? = some p.2
structure GenStep (GG GG' : List GEnt) (gs gs' : Array GenState) : Prop where
  keys : GG'.map (·.1) = GG.map (·.1)
  pre : GenPre GG' gs'
  old : ∀ i, i ∉ GG.map (·.1) → gs'[i]? = gs[i]?
theorem GenStep.refl {GG : List GEnt} {gs : Array GenState} (h : GenPre GG gs) : GenStep GG GG gs gs := ⟨rfl, h, fun _ _ => rfl⟩
theorem GenStep.nil {gs : Array GenState} : GenStep [] [] gs gs := .refl fun _ h => nomatch h
def genO (g : Nat) (o : Obj) : Prop := ∃ nm qn, o.cls = .type "generator" ∧ o.data = .fields #[.int g 0, nm, qn] ∧ o.slots = #[]
theorem nrm_gen {g : Nat} : ∀ o, genO g o → nrm o := fun o ⟨_, _, e, _⟩ => nrm_cls e (by decide)
def Fin' (GG : List GEnt) : Prop := ∀ p ∈ GG, p.2 = .finished
/-- what hands out the values one by one; RG its own things, GG its own generators -/
def Src (W : Wd) (it : Addr) (Zn : List Ent) (n : Nat) : List Value → List Ent → List GEnt → Prop
  | [], RG, GG => ∀ (A : Around) (E : Value → Shared → Prop) (Q : Option Value → Shared → Prop) (h₀ : Heap) (Z R : List Ent) (h : Heap) (gs : Array GenState) (d : Drawn) (t : Nat) (os : OsState), Rm n A → (∀ e ∈ Zn, e ∈ Z) → Fm W h₀ Z (RG ++ R) h → GenPre GG gs →
      (∀ GG' h' gs' t', Fm W h₀ Z R h' → GenStep GG GG' gs gs' → Fin' GG' → Q none ⟨h', gs', d, t', os⟩) → wpAny (MM W.w) A (pyNext (.ref it)) Q E ⟨h, gs, d, t, os⟩
  | v :: vs, RG, GG => ∀ (A : Around) (E : Value → Shared → Prop) (Q : Option Value → Shared → Prop) (h₀ : Heap) (Z R : List Ent) (h : Heap) (gs : Array GenState) (d : Drawn) (t : Nat) (os : OsState), Rm n A → (∀ e ∈ Zn, e ∈ Z) → Fm W h₀ Z (RG ++ R) h → GenPre GG gs →
      (∀ RG' GG' h' gs' t', Src W it Zn n vs RG' GG' → Fm W h₀ Z (RG' ++ R) h' → GenStep GG GG' gs gs' → Q (some v) ⟨h', gs', d, t', os⟩) → wpAny (MM W.w) A (pyNext (.ref it)) Q E ⟨h, gs, d, t, os⟩
/-- a generator's state that will hand out the values -/
def Gb (W : Wd) (Zn : List Ent) (n : Nat) : List Value → List Ent → List GEnt → GenState → Prop
  | [], RG, GG, st => ∃ c₀ t₀ fs₀, StAs st c₀ t₀ fs₀ ∧ ∀ (A : Around) (h₀ : Heap) (Z R : List Ent) (h : Heap) (gs : Array GenState) (d : Drawn) (t : Nat) (os : OsState), Rm n A → (∀ e ∈ Zn, e ∈ Z) → Fm W h₀ Z (RG ++ R) h → GenPre GG gs →
      SegX (MM W.w) A c₀ t₀ fs₀ ⟨h, gs, d, t, os⟩ fun e s' => e = .ret (.ok (.ret .none)) ∧ ∃ GG' h' gs' t', s' = ⟨h', gs', d, t', os⟩ ∧ Fm W h₀ Z R h' ∧ GenStep GG GG' gs gs' ∧ Fin' GG'
  | v :: vs, RG, GG, st => ∃ c₀ t₀ fs₀, StAs st c₀ t₀ fs₀ ∧ ∀ (A : Around) (h₀ : Heap) (Z R : List Ent) (h : Heap) (gs : Array GenState) (d : Drawn) (t : Nat) (os : OsState), Rm n A → (∀ e ∈ Zn, e ∈ Z) → Fm W h₀ Z (RG ++ R) h → GenPre GG gs →
      SegX (MM W.w) A c₀ t₀ fs₀ ⟨h, gs, d, t, os⟩ fun e s' => ∃ l k c p fs RG' GG' h' gs' t', e = .susp v false l k c p fs ∧ s' = ⟨h', gs', d, t', os⟩ ∧ Fm W h₀ Z (RG' ++ R) h' ∧ GenStep GG GG' gs gs' ∧ Gb W Zn n vs RG' GG' (End.susp v false l k c p fs).genState
section
variable {W : Wd}
theorem Fm.out0 {h₀ h h' : Heap} {Z R : List Ent} {a : Addr} {φ : Obj → Prop} (F : Fm W h₀ Z ((a, φ) :: R) h) (hx : Heap.ExtBut a h h') : Fm W h₀ Z R h' := Fm.out (F.perm (List.perm_append_comm (l₁ := [(a, φ)]) (l₂ := R))) hx
theorem Src.list {l it : Addr} {items : List Value} {Zn : List Ent} {n : Nat} (hl : (l, lsO items) ∈ Zn) (hne : l ≠ it) : ∀ (vs : List Value) (k : Nat), items.drop k = vs → Src W it Zn n vs [(it, liO l k)] []
  | [], k, e => by
    intro A E Q h₀ Z R h gs d t os rm hZ F hG q
    have hk : items.length ≤ k := by simpa using e
    refine wpAny_pyNext_list_end (items := items.toArray) rm.hd (F.at (i := 0) rfl) (at_ls.mp (F.atZ (hZ _ hl))) (by simp; omega) fun h' hx => ?_
    exact q [] h' gs t (F.out0 hx) .nil (fun _ h => nomatch h)
  | v :: vs, k, e => by
    intro A E Q h₀ Z R h gs d t os rm hZ F hG q
    have hk : k < items.length := by
      rcases Nat.lt_or_ge k items.length with q | q
      · exact q
      · rw [List.drop_eq_nil_of_le q] at e; cases e
    rw [List.drop_eq_getElem_cons hk] at e
    injection e with e1 e2
    refine wpAny_pyNext_list_item (items := items.toArray) (x := v) (F.at (i := 0) rfl) (at_ls.mp (F.atZ (hZ _ hl))) (by simp [hk, e1]) fun h' hi hs => ?_
    exact q [(it, liO l (k + 1))] [] h' gs t (Src.list hl hne vs (k + 1) e2) (F.turn (i := 0) rfl hs.extBut nrm_li hi) .nil
theorem isGen_of {h : Heap} {a : Addr} {g : Nat} (x : At h a (genO g)) : h.IsGen a g := let ⟨o, e, nm, qn, a, b, c⟩ := x; ⟨o, nm, qn, e, a, b, c⟩
theorem setGen_get {s : Shared} {g : Nat} {st : GenState} {x : GenState} (hg : s.gens[g]? = some x) : (s.setGen g st).gens[g]? = some st := setGen_self hg
end
end
section
open PySem PySem.W PySem.W.X PySem.Calls PyProof.Rows PySem.Builtin
theorem set_ne {gs : Array GenState} {g i : Nat} {x : GenState} (h : i ≠ g) : (gs.setIfInBounds g x)[i]? = gs[i]? := by
  rw [Array.getElem?_setIfInBounds_ne (Ne.symm h)]
theorem set_eq {gs : Array GenState} {g : Nat} {x y : GenState} (h : gs[g]? = some y) : (gs.setIfInBounds g x)[g]? = some x := by
  have hlt : g < gs.size := (Array.getElem?_eq_some_iff.mp h).1
  rw [Array.getElem?_setIfInBounds_self_of_lt hlt]
theorem step_gen {GG GG' : List GEnt} {gs gs' : Array GenState} {g : Nat} {st st' : GenState} (hg : gs[g]? = some st) (hn : g ∉ GG.map (·.1)) (hs : GenStep GG GG' (gs.setIfInBounds g .running) gs') :
    GenStep ((g, st) :: GG) ((g, st') :: GG') gs (gs'.setIfInBounds g st') where
  keys := by simp only [List.map_cons, hs.keys]
  pre := fun p hp => by
    rcases List.mem_cons.mp hp with rfl | hp
    · have := hs.old g hn
      rw [set_eq hg] at this
      exact set_eq this
    · have hne : p.1 ≠ g := fun e => hn (by rw [← hs.keys, ← e]; exact List.mem_map_of_mem hp)
      rw [set_ne hne]; exact hs.pre p hp
  old := fun i hi => by
    simp only [List.map_cons, List.mem_cons, not_or] at hi
    rw [set_ne hi.1, hs.old i hi.2, set_ne hi.1]
theorem pre_run {GG : List GEnt} {gs : Array GenState} {g : Nat} {st x : GenState} (hn : g ∉ GG.map (·.1)) (h : GenPre ((g, st) :: GG) gs) : GenPre GG (gs.setIfInBounds g x) := fun p hp => by
  have hne : p.1 ≠ g := fun e => hn (by rw [← e]; exact List.mem_map_of_mem hp)
  rw [set_ne hne]; exact h p (List.mem_cons_of_mem _ hp)
theorem Rm.in1 {n : Nat} {A : Around} (x : Rm (n + 1) A) : Rm n A.in1 := ⟨by have := x.d; show A.depth + n < _; omega, by have := x.u; show A.units + 1 + 8 * n + 40 < _; omega, x.hd⟩
theorem Src.gen {W : Wd} {it : Addr} {g n : Nat} {Zn : List Ent} (hit : (it, genO g) ∈ Zn) : ∀ (vs : List Value) (RG : List Ent) (GG : List GEnt) (st : GenState), g ∉ GG.map (·.1) → Gb W Zn n vs RG GG st → Src W it Zn (n + 1) vs RG ((g, st) :: GG)
  | [], RG, GG, st, hn, hb => by
    obtain ⟨c₀, t₀, fs₀, hst, hx⟩ := hb
    intro A E Q h₀ Z R h gs d t os rm hZ F hG q
    have hgs := hG (g, st) List.mem_cons_self
    refine wpAny_pyNext_X rm.hd F.base.nl rm.depth (isGen_of (F.atZ (hZ _ hit))) hgs hst (hx A.in1 h₀ Z R h (gs.setIfInBounds g .running) d t os rm.in1 hZ F (pre_run hn hG)) fun e s₁ hp => ?_
    obtain ⟨rfl, GG', h', gs', t', rfl, F', hs, hf⟩ := hp
    refine .inl ⟨rfl, fun h'' hk => ?_⟩
    exact q ((g, .finished) :: GG') h'' (gs'.setIfInBounds g .finished) t' (F'.keep hk) (step_gen hgs hn hs) fun p hp => by
      rcases List.mem_cons.mp hp with rfl | hp
      · rfl
      · exact hf p hp
  | v :: vs, RG, GG, st, hn, hb => by
    obtain ⟨c₀, t₀, fs₀, hst, hx⟩ := hb
    intro A E Q h₀ Z R h gs d t os rm hZ F hG q
    have hgs := hG (g, st) List.mem_cons_self
    refine wpAny_pyNext_X rm.hd F.base.nl rm.depth (isGen_of (F.atZ (hZ _ hit))) hgs hst (hx A.in1 h₀ Z R h (gs.setIfInBounds g .running) d t os rm.in1 hZ F (pre_run hn hG)) fun e s₁ hp => ?_
    obtain ⟨l, k, c, p, fs, RG', GG', h', gs', t', rfl, rfl, F', hs, hb'⟩ := hp
    refine .inr ⟨v, l, k, c, p, fs, rfl, ?_⟩
    exact q RG' ((g, (End.susp v false l k c p fs).genState) :: GG') h' (gs'.setIfInBounds g _) t' (Src.gen hit vs RG' GG' _ (by rw [hs.keys]; exact hn) hb') F' (step_gen hgs hn hs)
section
variable {W : Wd} {A : Around} {E : Value → Shared → Prop} {h₀ h : Heap} {gs : Array GenState} {d : Drawn} {t : Nat} {os : OsState} {Z R : List Ent} {env : Env}
  {m : Str → Option Value} {Q : Value → Shared → Prop} {x : Str} {v : Value} {pos : Pos}
/-- a comprehension over a source -/
theorem comp_src {elt iter : Expr} {px : Pos} {scope : Scope} {cl : List (Str × Addr)} {it : Addr} {Zn : List Ent} {n : Nat} {vs : List Value} {RG : List Ent} {GG : List GEnt}
    (S : Src W it Zn n vs RG GG) (rm : Rm n A) (hZ : ∀ e ∈ Zn, e ∈ Z) (F : Fm W h₀ Z (RG ++ R) h) (hG : GenPre GG gs) (hn : vs.length ≤ 1000000)
    (J : Nat → List Value → Prop) (J0 : J 0 [])
    (hself : ∀ {E : Value → Shared → Prop} {Q : Value → Shared → Prop} {s : Shared}, (∃ R', Fm W h₀ Z R' s.heap) → Q (.ref it) s → wpAny (MM W.w) A (pyIter (.ref it)) Q E s)
    (hcell : ∀ y ∈ scope.names, y.2 ≠ .cell) (hkind : scope.kind = .function) (hx : scope.names.lookup x = some .local)
    (turn : ∀ E' D C k ys RG' m h' t' gs' v, vs[k]? = some v → J k ys → Fm W h₀ Z (RG' ++ (R ++ [(D, lsO ys), (C, nsO (upd m x v))])) h' →
      wpAny (MM W.w) A (eval elt (compEnvC scope cl C env)) (fun y s₄ => ∃ h₄ t₄, s₄ = ⟨h₄, gs', d, t₄, os⟩ ∧ Fm W h₀ Z (RG' ++ (R ++ [(D, lsO ys), (C, nsO (upd m x v))])) h₄ ∧ J (k + 1) (ys ++ [y])) E' ⟨h', gs', d, t', os⟩)
    (done : ∀ D ys h' t' gs' GG', h₀.get? D = none → J vs.length ys → Fm W h₀ ((D, lsO ys) :: Z) R h' → GenStep GG GG' gs gs' → Fin' GG' → Q (.ref D) ⟨h', gs', d, t', os⟩) :
    CompOn W A E env elt iter x px [] scope pos cl (fun acc C => compPost (MM W.w) A E none Q acc C) (.ref it) ⟨h, gs, d, t, os⟩ := by
  refine wpAny_newObj_type (wpAny_newFunctionEnv hcell (by intro y hy; simp at hy) (fun h₁ hns₁ hsb₁ => ?_) hkind)
  dsimp only at hns₁ hsb₁ ⊢
  have F1 := F.new (φ := lsO []) { cls := .type "list", dict := none, data := .seq ([] : List Value).toArray } rfl nrm_ls ⟨rfl, _, rfl⟩
  generalize hH2 : h.push { cls := .type "list", dict := none, data := .seq ([] : List Value).toArray } = H2 at hns₁ hsb₁ F1 ⊢
  generalize h.objs.size = D at F1 ⊢
  have hk1 : ∀ b o, H2.get? b = some o → h₁.get? b = some o := fun b o e => by
    have : b ≠ H2.objs.size := Nat.ne_of_lt (Heap.lt_size e)
    exact hsb₁.extBut b o this (Heap.get?_push_of_some _ e)
  have F2 : Fm W h₀ Z (RG ++ (R ++ [(D, lsO []), (H2.objs.size, nsO fun _ => none)])) h₁ := by
    have := F1.add (Y := [(H2.objs.size, nsO fun x => ([] : List (Str × Value)).reverse.lookup x)]) (.of_keep hk1) (F1.base.keep hk1)
      (fun e he => by rw [List.mem_singleton.mp he]; exact ⟨at_ns.mpr hns₁, nrm_ns⟩) (fun e he => by rw [List.mem_singleton.mp he]; exact get_none (Nat.le_refl _)) (by simp)
    simpa using this
  generalize H2.objs.size = C at F2 hns₁ ⊢
  clear hk1 hsb₁ hns₁ hH2 F1
  have loop : ∀ s₃ : Shared, s₃ = ⟨h₁, gs, d, t + ([] : List (Str × Value)).length, os⟩ →
      codeAny (MM W.w) A (.compLoop (.ListComp elt [⟨.Name x px, iter, [], 0⟩] scope pos) 0 (.ref it) (.ref D) (compEnvC scope cl C env)) (compPost (MM W.w) A E none Q (.ref D) C) s₃ := by
    rintro s₃ rfl
    refine codeAny_compLoop_tests (fun k s' => ∃ i ys m' RG' GG' h' t' gs', k = vs.length + 1 - i ∧ i ≤ vs.length ∧ s' = ⟨h', gs', d, t', os⟩ ∧ J i ys ∧ ys.length = i ∧ Src W it Zn n (vs.drop i) RG' GG' ∧ GenStep GG GG' gs gs' ∧
      Fm W h₀ Z (RG' ++ (R ++ [(D, lsO ys), (C, nsO m')])) h') ?_ (vs.length + 1) ⟨0, [], _, RG, GG, _, _, gs, rfl, Nat.zero_le _, rfl, J0, rfl, by rw [List.drop_zero]; exact S, .refl hG, F2⟩
    rintro k s' ⟨i, ys, m', RG', GG', h', t', gs', rfl, hi, rfl, hJ, hys, hS, hst, G⟩
    by_cases hlt : i < vs.length
    · rw [List.drop_eq_getElem_cons hlt] at hS
      refine hS A _ _ h₀ Z _ h' gs' d t' os rm hZ G hst.pre fun RG2 GG2 h₂ gs₂ t₂ hS2 G2 hst2 => ?_
      have G2' : Fm W h₀ Z ((RG2 ++ (R ++ [(D, lsO ys)])) ++ (C, nsO m') :: []) h₂ := by simpa using G2
      refine wpAny_assign_Name (wpAny_storeName_local (env := compEnvC scope cl C env) (lookup_relabel_local hx) (m := m') (at_ns.mp (G2'.atR (List.mem_append.mpr (.inr (List.mem_singleton.mpr rfl))))) (fun h₃ hn₃ hs₃ => ?_) (by simp [compEnvC, relabel, hkind]))
      have G3 := G2'.turnM (φ' := nsO (upd m' x vs[i])) hs₃.extBut nrm_ns (at_ns.mpr hn₃)
      have G3' : Fm W h₀ Z (RG2 ++ (R ++ [(D, lsO ys), (C, nsO (upd m' x vs[i]))])) h₃ := by simpa using G3
      refine wpAny_tests_nil ?_
      show wpAny _ _ _ _ _ _
      refine wpAny_mono (turn _ D C i ys RG2 m' h₃ _ gs₂ vs[i] (List.getElem?_eq_getElem hlt) hJ G3') (fun y s₄ h₄ => ?_) fun _ _ z => z
      obtain ⟨h₄, t₄, rfl, G4, hJ4⟩ := h₄
      have G4' : Fm W h₀ Z ((RG2 ++ R) ++ (D, lsO ys) :: [(C, nsO (upd m' x vs[i]))]) h₄ := by simpa using G4
      refine wpAny_list_append (at_ls.mp (G4'.atR (φ := lsO ys) (by simp))) (fun h₅ hl₅ hs₅ => ?_) (le_line (by simp; omega))
      have G5 := G4'.turnM (φ' := lsO (ys ++ [y])) hs₅.extBut nrm_ls (at_ls.mpr (by simpa using hl₅))
      refine ⟨vs.length + 1 - (i + 1), by omega, i + 1, ys ++ [y], _, RG2, GG2, h₅, t₄, gs₂, rfl, hlt, rfl, hJ4, by simp [hys], hS2, ⟨hst2.keys.trans hst.keys, hst2.pre, fun j hj => (hst2.old j (by rw [hst.keys]; exact hj)).trans (hst.old j hj)⟩, by simpa using G5⟩
    · have : i = vs.length := by omega
      subst this
      rw [List.drop_length] at hS
      refine hS A _ _ h₀ Z _ h' gs' d t' os rm hZ G hst.pre fun GG2 h₂ gs₂ t₂ G2 hst2 hf => ?_
      have G1 : Fm W h₀ Z ((R ++ [(D, lsO ys)]) ++ [(C, nsO m')]) h₂ := by simpa using G2
      refine ⟨m', at_ns.mp (G1.atR (by simp)), fun h'' hs => done D ys h'' t₂ gs₂ GG2 (G1.rf (D, lsO ys) (by simp)) hJ ?_ ⟨hst2.keys.trans hst.keys, hst2.pre, fun j hj => (hst2.old j (by rw [hst.keys]; exact hj)).trans (hst.old j hj)⟩ hf⟩
      simpa using (G1.out hs.extBut).frz
  exact codeAny_compStart_list (loop _ rfl) (hself ⟨_, F2⟩ (loop _ rfl))
end
end
section
open PySem PySem.W PySem.W.X PySem.Calls PyProof.Rows PySem.Builtin
def PG (W : Wd) (Zn : List Ent) (n : Nat) (h₀ : Heap) (Z R : List Ent) (d : Drawn) (os : OsState) (GG : List GEnt) (gs : Array GenState) : List Value → End → Shared → Prop
  | [], e, s' => e = .ret (.ok (.ret .none)) ∧ ∃ GG' h' gs' t', s' = ⟨h', gs', d, t', os⟩ ∧ Fm W h₀ Z R h' ∧ GenStep GG GG' gs gs' ∧ Fin' GG'
  | v :: vs, e, s' => ∃ l k c p fs RG' GG' h' gs' t', e = .susp v false l k c p fs ∧ s' = ⟨h', gs', d, t', os⟩ ∧ Fm W h₀ Z (RG' ++ R) h' ∧ GenStep GG GG' gs gs' ∧ Gb W Zn n vs RG' GG' (End.susp v false l k c p fs).genState
/-- the tree, run in those frames, hands out the values -/
def Go (W : Wd) (Zn : List Ent) (n : Nat) (c : Code) (t₀ : Sem Fin) (fs : List Frame) (vs : List Value) (RG : List Ent) (GG : List GEnt) : Prop :=
  ∀ (A : Around) (h₀ : Heap) (Z R : List Ent) (h : Heap) (gs : Array GenState) (d : Drawn) (t : Nat) (os : OsState), Rm n A → (∀ e ∈ Zn, e ∈ Z) → Fm W h₀ Z (RG ++ R) h → GenPre GG gs →
    SegX (MM W.w) A c t₀ fs ⟨h, gs, d, t, os⟩ (PG W Zn n h₀ Z R d os GG gs vs)
theorem Gb.of {W : Wd} {Zn : List Ent} {n : Nat} {vs : List Value} {RG : List Ent} {GG : List GEnt} {st : GenState} {c : Code} {t : Sem Fin} {fs : List Frame} (hs : StAs st c t fs) (h : Go W Zn n c t fs vs RG GG) : Gb W Zn n vs RG GG st := by
  cases vs with
  | nil => exact ⟨c, t, fs, hs, h⟩
  | cons v vs => exact ⟨c, t, fs, hs, h⟩
theorem GenStep.trans {GG GG' GG'' : List GEnt} {gs gs' gs'' : Array GenState} (x : GenStep GG GG' gs gs') (y : GenStep GG' GG'' gs' gs'') : GenStep GG GG'' gs gs'' :=
  ⟨y.keys.trans x.keys, y.pre, fun j hj => (y.old j (by rw [x.keys]; exact hj)).trans (x.old j hj)⟩
theorem PG.trans {W : Wd} {Zn : List Ent} {n : Nat} {h₀ : Heap} {Z R : List Ent} {d : Drawn} {os : OsState} {GG GG' : List GEnt} {gs gs' : Array GenState} {vs : List Value} {e : End} {s : Shared} (x : GenStep GG GG' gs gs') (y : PG W Zn n h₀ Z R d os GG' gs' vs e s) : PG W Zn n h₀ Z R d os GG gs vs e s := by
  cases vs with
  | nil =>
    obtain ⟨rfl, GG2, h2, gs2, t2, rfl, F, st, hf⟩ := y
    exact ⟨rfl, GG2, h2, gs2, t2, rfl, F, x.trans st, hf⟩
  | cons v vs =>
    obtain ⟨l, k, c, p, fs, RG2, GG2, h2, gs2, t2, rfl, rfl, F, st, hb⟩ := y
    exact ⟨l, k, c, p, fs, RG2, GG2, h2, gs2, t2, rfl, rfl, F, x.trans st, hb⟩
theorem GenStep.eq {GG' : List GEnt} {gs gs' : Array GenState} (x : GenStep [] GG' gs gs') : gs' = gs ∧ GG' = [] :=
  ⟨Array.ext_getElem? fun i => x.old i (by simp), by have := x.keys; simpa using this⟩
/-- the end of a source, then no more -/
theorem PG.fin {W : Wd} {Zn : List Ent} {n : Nat} {h₀ : Heap} {Z R : List Ent} {d : Drawn} {os : OsState} {GG GG' : List GEnt} {gs gs' : Array GenState} {e : End} {s : Shared} (x : GenStep GG GG' gs gs') (hf : Fin' GG') (y : PG W Zn n h₀ Z R d os [] gs' [] e s) : PG W Zn n h₀ Z R d os GG gs [] e s := by
  obtain ⟨rfl, GG2, h2, gs2, t2, rfl, F, st, _⟩ := y
  obtain ⟨rfl, rfl⟩ := st.eq
  exact ⟨rfl, GG', h2, _, t2, rfl, F, x, hf⟩
abbrev Kf (c' : Code) : Flow → Sem Fin := fun f => match f with | .next | .cont => .pure (.again c') | .brk => .pure (.done .next) | .ret v => .pure (.done (.ret v))
theorem upd_eta {m : Str → Option Value} {x : Str} {v : Value} : (fun y => if y = x then some v else m y) = upd m x v := rfl
section
variable {W : Wd}
/-- a loop that hands out what passes the test -/
theorem loop_go {x : Str} {px : Pos} {body : List Stmt} {env : Env} {it C : Addr} {Zn : List Ent} {n n₁ : Nat} {fs' : List Frame} {sel : Value → Bool} {ok : Value → Prop} {RGo : List Ent} {tl : List Value}
    (hrm : ∀ A, Rm n A → Rm n₁ (A.over (.forLoop (.Name x px) (.ref it) body [] env) fs')) (hC : env.locals = C) (hk : env.scope.kind = .function) (hx : env.kindOf x = some .local)
    (hbody : ∀ v, ok v → ∀ (A : Around) (h₀ : Heap) (Z R' : List Ent) (h : Heap) (gs : Array GenState) (d : Drawn) (t : Nat) (os : OsState) (P : End → Shared → Prop) (m : Str → Option Value) (H' : Value → Sem Fin),
      Rm n₁ (A.over (.forLoop (.Name x px) (.ref it) body [] env) fs') → (∀ e ∈ Zn, e ∈ Z) → Fm W h₀ Z ((C, nsO (upd m x v)) :: R') h →
      (sel v = false → (∀ m' h' t', Fm W h₀ Z ((C, nsO m') :: R') h' → SegX (MM W.w) A (.forLoop (.Name x px) (.ref it) body [] env) (.pure (.again (.forLoop (.Name x px) (.ref it) body [] env))) fs' ⟨h', gs, d, t', os⟩ P) →
        SegX (MM W.w) A (.forLoop (.Name x px) (.ref it) body [] env) ((execs body env).wrap (Kf (.forLoop (.Name x px) (.ref it) body [] env)) H' id id) fs' ⟨h, gs, d, t, os⟩ P) ∧
      (sel v = true → (∀ m' h' t' k l p, Fm W h₀ Z ((C, nsO m') :: R') h' → k (.send .none) = .pure (.again (.forLoop (.Name x px) (.ref it) body [] env)) → P (.susp v false l k (.forLoop (.Name x px) (.ref it) body [] env) p fs') ⟨h', gs, d, t', os⟩) →
        SegX (MM W.w) A (.forLoop (.Name x px) (.ref it) body [] env) ((execs body env).wrap (Kf (.forLoop (.Name x px) (.ref it) body [] env)) H' id id) fs' ⟨h, gs, d, t, os⟩ P))
    (hafter : ∀ m, Go W Zn n (.block [] env) (leafOf (.ok .next)) fs' tl ((C, nsO m) :: RGo) []) :
    ∀ (vs : List Value) (RGs : List Ent) (GGs : List GEnt) (m : Str → Option Value), (∀ v ∈ vs, ok v) → (tl = [] ∨ GGs = []) → Src W it Zn n₁ vs RGs GGs →
      Go W Zn n (.forLoop (.Name x px) (.ref it) body [] env) (denote table (.forLoop (.Name x px) (.ref it) body [] env)) fs' (vs.filter sel ++ tl) ((C, nsO m) :: (RGs ++ RGo)) GGs
  | [], RGs, GGs, m, hok, hg, S => by
    intro A h₀ Z R h gs d t os rm hZ F hG
    refine x_forLoop rfl rfl ?_
    refine S _ _ _ h₀ Z ((C, nsO m) :: (RGo ++ R)) h gs d t os (hrm A rm) hZ (F.perm ?_) hG fun GG' h' gs' t' F' st hf => ?_
    · simp only [List.cons_append, List.append_assoc]
      exact List.perm_middle.symm
    · refine x_block_nil fun t ht => ?_
      subst ht
      rcases hg with rfl | rfl
      · exact (hafter m A h₀ Z R h' gs' d t' os rm hZ (by simpa using F') (fun _ h => nomatch h)).mono fun e s hp => PG.fin st hf hp
      · obtain ⟨rfl, rfl⟩ := st.eq
        exact hafter m A h₀ Z R h' _ d t' os rm hZ (by simpa using F') (fun _ h => nomatch h)
  | v :: vs, RGs, GGs, m, hok, hg, S => by
    intro A h₀ Z R h gs d t os rm hZ F hG
    refine x_forLoop rfl rfl ?_
    refine S _ _ _ h₀ Z ((C, nsO m) :: (RGo ++ R)) h gs d t os (hrm A rm) hZ (F.perm ?_) hG fun RG' GG' h' gs' t' S' F' st => ?_
    · simp only [List.cons_append, List.append_assoc]
      exact List.perm_middle.symm
    · have F2 : Fm W h₀ Z ((C, nsO m) :: (RG' ++ (RGo ++ R))) h' := F'.perm List.perm_middle
      refine wpAny_assign_Name (v_store (i := 0) (m := m) F2 (by rw [hC]; rfl) hk hx fun h2 F3 => ?_)
      intro H'
      have F3 : Fm W h₀ Z ((C, nsO (upd m x v)) :: (RG' ++ (RGo ++ R))) h2 := by rw [hC] at F3; exact F3
      have hg' : tl = [] ∨ GG' = [] := hg.imp id fun e => by subst e; exact st.eq.2
      have ih : ∀ m', Go W Zn n (.forLoop (.Name x px) (.ref it) body [] env) (denote table (.forLoop (.Name x px) (.ref it) body [] env)) fs' (vs.filter sel ++ tl) ((C, nsO m') :: (RG' ++ RGo)) GG' :=
        fun m' => loop_go hrm hC hk hx hbody hafter vs RG' GG' m' (fun v hv => hok v (List.mem_cons_of_mem _ hv)) hg' S'
      obtain ⟨b1, b2⟩ := hbody v (hok v List.mem_cons_self) A h₀ Z (RG' ++ (RGo ++ R)) h2 gs' d _ os (PG W Zn n h₀ Z R d os GGs gs ((v :: vs).filter sel ++ tl)) m H' (hrm A rm) hZ F3
      cases hs : sel v with
      | false =>
        refine b1 hs fun m' h3 t3 F4 => ?_
        rw [List.filter_cons_of_neg (by rw [hs]; exact Bool.false_ne_true)]
        refine s_again _ _ A _ fs' _ _ _ rfl ?_
        exact (ih m' A h₀ Z R h3 gs' d t3 os rm hZ (by simpa using F4) st.pre).mono fun e s hp => PG.trans st hp
      | true =>
        refine b2 hs fun m' h3 t3 k l p F4 hkk => ?_
        rw [List.filter_cons_of_pos hs]
        refine ⟨l, k, _, p, fs', (C, nsO m') :: (RG' ++ RGo), GG', h3, gs', t3, rfl, rfl, by simpa using F4, st, ?_⟩
        refine Gb.of (c := .forLoop (.Name x px) (.ref it) body [] env) (t := .pure (.again (.forLoop (.Name x px) (.ref it) body [] env))) (fs := fs') (.inr ⟨k, l, p, _, rfl, hkk.symm⟩) ?_
        intro A' h₀' Z2 R2 h4 gs4 d4 t4 os4 rm4 hZ4 F5 hG4
        refine s_again _ _ A' _ fs' _ _ _ rfl ?_
        exact ih m' A' h₀' Z2 R2 h4 gs4 d4 t4 os4 rm4 hZ4 F5 hG4
end
end
section
open PySem PySem.W PySem.W.X PySem.Calls PyProof.Rows PySem.Builtin
abbrev yfC (it : Addr) : Code := .builtin "proto.yield_from" ⟨[.ref it, .bool false, .none], []⟩
def stepT (it : Addr) : Sem Value := holding [Value.none] (do
  rule "yield-from.next"
  match ← callSpecial? (.ref it) "__next__" with
  | some v => pure v
  | none => do rule "yield-from.send-none"; call (← getAttr (.ref it) "send") [.none])
def yfJ (it : Addr) (y : Value) (X Y : Value → Sem Fin) (q : Bool) : Sem Fin := (Generator.sleptOver (.ref it) true >>= fun _ => (suspend y (cleanup := !q) >>= fun woken => (Generator.sleptOver (.ref it) false >>= fun _ => match woken with
  | .send v => X v
  | .throw e => Y e)))
theorem en_yf : entryFor table "proto.yield_from" = some Builtin.«proto.yield_from» := entryFor_of_tree (by kernel_rfl)
theorem den_of {id : String} {b : Builtin} {x : Args} (e : entryFor table id = some b) : denote table (.builtin id x) = b x := by
  show (match entryFor table id with | some b => b x | none => _) = _
  rw [e]
theorem den_yf (it : Addr) : denote table (yfC it) = Builtin.«proto.yield_from» ⟨[.ref it, .bool false, .none], []⟩ := den_of en_yf
theorem yf_split (it : Addr) : ∃ rest : Except Value Value → Sem Fin, Builtin.«proto.yield_from» ⟨[.ref it, .bool false, .none], []⟩ = ((stepT it).attempt >>= rest) ∧
    (∀ e, ∃ no : Sem Fin, rest (.error e) = (Generator.endsTheTurnAsAValue false e >>= fun b => if b = true then (rule "yield-from.value" >>= fun _ => (field e 5 >>= fun v => ret v)) else no)) ∧
    (∀ y, ∃ X Y : Value → Sem Fin, rest (.ok y) = (typeOf (.ref it) >>= fun ty => match ty with
      | .type n => (typeLookup (.type n) "close" >>= fun r => (pure r.isNone >>= fun q => yfJ it y X Y q))
      | _ => (pure false >>= fun q => yfJ it y X Y q)) ∧ X .none = Sem.pure (.again (yfC it))) := by
  refine ⟨_, rfl, ?_, ?_⟩
  · intro e
    exact ⟨_, rfl⟩
  · intro y
    refine ⟨_, _, rfl, ?_⟩
    rfl
theorem lk_li_close : typeLookup (.type "list_iterator") "close" = pure none := by rw [typeLookup_type, builtinLookup_eq_fast]; kernel_rfl
end
section
open PySem PySem.W PySem.W.X PySem.Calls PyProof.Rows PySem.Builtin
theorem x_seq {prog : Program} {w : World} {A : Around} {c : Code} {fs : List Frame} {P : End → Shared → Prop} {s : Shared} {α : Type} {m : Sem α} {k : α → Sem Fin}
    (h : wpAny (model prog w) (A.over c fs) m (fun a s' => SegX (model prog w) A c (k a) fs s' P) (fun x s' => SegX (model prog w) A c (.raise x) fs s' P) s) : SegX (model prog w) A c (m >>= k) fs s P := by
  rw [Sem.bind_eq_wrap']; exact s_cmd prog w A c fs P h
section
variable {W : Wd} {A : Around} {E : Value → Shared → Prop} {h₀ h : Heap} {gs : Array GenState} {d : Drawn} {t : Nat} {os : OsState} {Z R : List Ent} {Q : Value → Shared → Prop}
theorem step_item {it l : Addr} {items : List Value} {k : Nat} {v : Value} (F : Fm W h₀ Z ((it, liO l k) :: R) h) (hl : h.IsList l items.toArray) (hk : items[k]? = some v) (q : ∀ h', Fm W h₀ Z ((it, liO l (k + 1)) :: R) h' → Q v ⟨h', gs, d, t, os⟩) :
    wpAny (MM W.w) A (stepT it) Q E ⟨h, gs, d, t, os⟩ := by
  have hit : h.IsListIter it l k := F.at (i := 0) rfl
  obtain ⟨o, ho, hc, hd⟩ := id hit
  obtain ⟨ol, hol, _, nl, hdl⟩ := id hl
  unfold stepT
  refine wpAny_holding (wpAny_bind (wpAny_rule (wpAny_bind (wpAny_callSpecial?_slot (s := ⟨h, gs, d, t, os⟩) (name := Str.ofString "__next__") ⟨o, ho, hc⟩ slot_listiter_next
    (wpAny_call_entry slot_listiter_next ⟨o, ho, hc⟩ entry_listiter_next ?_ (args_listiter_next _))))))
  show wpAny _ _ (field (.ref it) 0 >>= _) _ _ _
  refine wpAny_bind (wpAny_field ho hd (x := .ref l) rfl ?_)
  show wpAny _ _ (if (Value.ref l == Value.none) = true then _ else _) _ _ _
  rw [if_neg (show ¬ ((Value.ref l == Value.none) = true) from Bool.false_ne_true)]
  show wpAny _ _ (field (.ref it) 1 >>= _) _ _ _
  refine wpAny_bind (wpAny_field ho hd (x := .int k 0) rfl ?_)
  show wpAny _ _ (seqItems? (.ref l) >>= _) _ _ _
  refine wpAny_bind (wpAny_seqItems hol hdl ?_)
  simp only [Int.toNat_natCast, show items.toArray[k]? = some v by simpa using hk]
  refine wpAny_bind (wpAny_setField ho hd (by simp) (wpAny_pure ⟨v, rfl, wpAny_pure (q _ (F.turn (i := 0) rfl (Heap.SameBut.update ..).extBut nrm_li ?_))⟩))
  exact ⟨_, Heap.get?_update_self _ ho (Obj.isFreed_of_fields (Obj.data_mapFields hd _)), (Obj.cls_mapFields ..).trans hc, by
    rw [Obj.data_mapFields hd]; simp [rawInt]⟩
theorem step_end {it l : Addr} {items : List Value} {k : Nat} (hh : A.handled = none) (F : Fm W h₀ Z ((it, liO l k) :: R) h) (hl : h.IsList l items.toArray) (hk : items[k]? = none)
    (q : ∀ e h' o vs, Fm W h₀ Z R h' → h'.get? e = some o → o.cls = .type "StopIteration" → o.data = .fields vs → vs[5]? = some .none → E (.ref e) ⟨h', gs, d, t, os⟩) :
    wpAny (MM W.w) A (stepT it) Q E ⟨h, gs, d, t, os⟩ := by
  have hit : h.IsListIter it l k := F.at (i := 0) rfl
  obtain ⟨o, ho, hc, hd⟩ := id hit
  obtain ⟨ol, hol, _, nl, hdl⟩ := id hl
  unfold stepT
  refine wpAny_holding (wpAny_bind (wpAny_rule (wpAny_bind (wpAny_callSpecial?_slot (s := ⟨h, gs, d, t, os⟩) (name := Str.ofString "__next__") ⟨o, ho, hc⟩ slot_listiter_next
    (wpAny_call_entry slot_listiter_next ⟨o, ho, hc⟩ entry_listiter_next ?_ (args_listiter_next _))))))
  show wpAny _ _ (field (.ref it) 0 >>= _) _ _ _
  refine wpAny_bind (wpAny_field ho hd (x := .ref l) rfl ?_)
  show wpAny _ _ (if (Value.ref l == Value.none) = true then _ else _) _ _ _
  rw [if_neg (show ¬ ((Value.ref l == Value.none) = true) from Bool.false_ne_true)]
  show wpAny _ _ (field (.ref it) 1 >>= _) _ _ _
  refine wpAny_bind (wpAny_field ho hd (x := .int k 0) rfl ?_)
  show wpAny _ _ (seqItems? (.ref l) >>= _) _ _ _
  refine wpAny_bind (wpAny_seqItems hol hdl ?_)
  simp only [Int.toNat_natCast, show items.toArray[k]? = none by simpa using hk]
  refine wpAny_bind (wpAny_rule (wpAny_bind (wpAny_setField ho hd (by simp) ?_)))
  show wpAny _ _ (newExc (.type "StopIteration") [] >>= _) _ _ _
  refine wpAny_bind ?_
  simp only [newExc, newTuple]
  refine wpAny_bind (wpAny_newObj_type ?_ (by size_fits))
  refine wpAny_bind (m := firstArgMember _ _) (wpAny_of_eq (a := Value.none) (by first | rfl | (simp only [firstArgMember]; rfl)) ?_)
  refine wpAny_newObj_type ?_ (by size_fits)
  simp only [raiseNew]
  refine wpAny_bind (wpAny_handled ?_)
  rw [show A.in1.handled = none from hh]
  refine wpAny_bind (wpAny_pure (wpAny_throw ?_))
  refine q _ _ _ _ (F.out0 (((Heap.SameBut.update ..).extBut.push _).push _)) (Heap.get?_push_size _ rfl) rfl rfl ?_
  rw [Array.getElem?_append_left (by simp)]
  rfl
theorem ends_ok {e : Addr} {o : Obj} {Q : Bool → Shared → Prop} (ho : h.get? e = some o) (hc : o.cls = .type "StopIteration") (q : Q true ⟨h, gs, d, t, os⟩) : wpAny (MM W.w) A (Generator.endsTheTurnAsAValue false (.ref e)) Q E ⟨h, gs, d, t, os⟩ := by
  unfold Generator.endsTheTurnAsAValue Generator.isStopAndMetaclass
  repeat (first | (with_reducible refine wpAny_loadPart_at ho ?_; rw [hc]) | (with_reducible refine wpAny_of_eq isSubtype_stop ?_) | wp_step)
  exact q
/-- yield from a list's iterator -/
theorem yf_go {it l : Addr} {items : List Value} {Zn : List Ent} {n : Nat} {fs : List Frame} {tl : List Value} {RGo : List Ent} (hl : (l, lsO items) ∈ Zn) (hfs : splitAtGen fs = none) (hfg : fs.any Frame.guarded = false) (hm : (marksOver fs (none, none)).1 = none)
    (hafter : Go W Zn n (yfC it) (leafOf (.ok (.ret .none))) fs tl RGo []) :
    ∀ (vs : List Value) (k : Nat), items.drop k = vs → Go W Zn n (yfC it) (denote table (yfC it)) fs (vs ++ tl) ((it, liO l k) :: RGo) []
  | [], k, e => by
    intro A h₀ Z R h gs d t os rm hZ F hG
    have hk : items.length ≤ k := by simpa using e
    have hhd : (A.over (yfC it) fs).handled = none := by show (marksOver fs (A.handled, A.handled)).1 = none; rw [rm.hd]; exact hm
    obtain ⟨rest, h1, h2, h3⟩ := yf_split it
    rw [den_yf, h1]
    refine x_seq (wpAny_attempt (step_end hhd F (at_ls.mp (F.atZ (hZ _ hl))) (by simp [hk]) fun e h' o vs F' ho hc hd h5 => ?_))
    obtain ⟨no, h4⟩ := h2 (.ref e)
    rw [h4]
    refine x_seq (ends_ok ho hc ?_)
    rw [if_pos rfl]
    refine x_seq (wpAny_rule (x_seq (wpAny_field ho hd h5 ?_)))
    exact hafter A h₀ Z R h' gs d t os rm hZ F' hG
  | v :: vs, k, e => by
    intro A h₀ Z R h gs d t os rm hZ F hG
    have hk : k < items.length := by
      rcases Nat.lt_or_ge k items.length with q | q
      · exact q
      · rw [List.drop_eq_nil_of_le q] at e; cases e
    rw [List.drop_eq_getElem_cons hk] at e
    injection e with e1 e2
    obtain ⟨rest, h1, h2, h3⟩ := yf_split it
    have ih := yf_go hl hfs hfg hm hafter vs (k + 1) e2
    rw [den_yf, h1]
    refine x_seq (wpAny_attempt (step_item F (at_ls.mp (F.atZ (hZ _ hl))) (by rw [List.getElem?_eq_getElem hk, e1]) fun h' F' => ?_))
    obtain ⟨X, Y, h4, h5⟩ := h3 v
    obtain ⟨o, ho, hc, hd⟩ := F'.at (i := 0) rfl
    rw [h4]
    refine x_seq ?_
    show wpAny _ _ (typeOf (.ref it)) _ _ _
    unfold typeOf
    repeat (first | (with_reducible refine wpAny_loadPart_at ho ?_; rw [hc]) | wp_step)
    refine x_seq (wpAny_of_eq lk_li_close (x_seq (wpAny_pure ?_)))
    unfold yfJ
    have sl : ∀ {A' : Around} {E' : Value → Shared → Prop} {Q' : Unit → Shared → Prop} {b : Bool} {h'' : Heap} {o'' : Obj} {gs' d' t' os'}, h''.get? it = some o'' → o''.cls = .type "list_iterator" → Q' () ⟨h'', gs', d', t', os'⟩ → wpAny (MM W.w) A' (Generator.sleptOver (.ref it) b) Q' E' ⟨h'', gs', d', t', os'⟩ := by
      intro A' E' Q' b h'' o'' gs' d' t' os' ho' hc' hq
      unfold Generator.sleptOver
      dsimp only
      refine wpAny_bind (wpAny_load ho' ?_)
      rw [hc']
      exact wpAny_pure hq
    refine x_seq (sl ho hc ?_)
    show SegX _ A _ (.yield v (!Option.isNone (none : Option Value)) [] _) fs _ _
    refine s_yield _ _ A _ fs _ _ v _ _ hfs hfg fun p => ?_
    refine ⟨_, _, _, p, fs, (it, liO l (k + 1)) :: RGo, [], h', gs, t, rfl, rfl, F', .nil, ?_⟩
    refine Gb.of (.inr ⟨_, _, _, _, rfl, rfl⟩) ?_
    intro A' h₀' Z2 R2 h4' gs4 d4 t4 os4 rm4 hZ4 F5 hG4
    obtain ⟨o2, ho2, hc2, hd2⟩ := F5.at (i := 0) rfl
    show SegX _ A' _ (Generator.sleptOver (.ref it) false >>= fun _ => X .none) fs _ _
    refine x_seq (sl ho2 hc2 ?_)
    rw [h5]
    refine s_again _ _ A' _ fs _ _ _ (Code.quiet_builtin _ (by decide +kernel)) ?_
    exact ih A' h₀' Z2 R2 h4' gs4 d4 t4 os4 rm4 hZ4 F5 hG4
end
end
section
open PySem PySem.W PySem.W.X PySem.Calls PyProof.Rows PySem.Builtin
/-- a node of the law: a function object with tag and place -/
def NodeIs (Z : List Ent) (v : Value) (τ : Option Str) (p : Int) : Prop := ∃ f dx m tv u, v = .ref f ∧ (f, fnD dx) ∈ Z ∧ (dx, ns1O m) ∈ Z ∧ dx ≠ f ∧ m "tag" = some tv ∧ m "place" = some (.int p u) ∧ TagIs tv τ ∧ ∀ s, τ = some s → 1 ≤ s.length ∧ s.length ≤ 20
theorem NodeIs.mono {Z Z' : List Ent} {v τ p} (x : NodeIs Z v τ p) (h : ∀ e ∈ Z, e ∈ Z') : NodeIs Z' v τ p := by obtain ⟨f, dx, m, tv, u, a, b, c, r⟩ := x; exact ⟨f, dx, m, tv, u, a, h _ b, h _ c, r⟩
/-- what a for-loop may walk over -/
def ItSrc (W : Wd) (r : Addr) (Zn : List Ent) (n : Nat) (vs : List Value) (RG : List Ent) (GG : List GEnt) : Prop :=
  ∀ (A : Around) (E Q : Value → Shared → Prop) (h₀ : Heap) (Z R : List Ent) (h : Heap) (gs : Array GenState) (d : Drawn) (t : Nat) (os : OsState), (∀ e ∈ Zn, e ∈ Z) → Fm W h₀ Z (RG ++ R) h →
    (∀ it RG' h' , Src W it Zn n vs RG' GG → Fm W h₀ Z (RG' ++ R) h' → Q (.ref it) ⟨h', gs, d, t, os⟩) → wpAny (MM W.w) A (pyIter (.ref r)) Q E ⟨h, gs, d, t, os⟩
section
variable {W : Wd} {A : Around} {E : Value → Shared → Prop} {h₀ h : Heap} {gs : Array GenState} {d : Drawn} {t : Nat} {os : OsState} {Z R : List Ent} {Q : Value → Shared → Prop}
theorem ItSrc.list {l : Addr} {items : List Value} {Zn : List Ent} {n : Nat} (hl : (l, lsO items) ∈ Zn) : ItSrc W l Zn n items [] [] := by
  intro A E Q h₀ Z R h gs d t os hZ F q
  have hL := at_ls.mp (F.atZ (hZ _ hl))
  refine v_it_list (R := R) F hL fun it h' F' hl' => ?_
  refine q it [(it, liO l 0)] h' (Src.list hl (fun e => ?_) items 0 rfl) (F'.perm (List.perm_append_comm))
  have := F'.zr _ (hZ _ hl) (it, liO l 0) (by simp)
  exact this e
theorem ItSrc.gen {it : Addr} {g n : Nat} {Zn : List Ent} {vs : List Value} {RG : List Ent} {GG : List GEnt} {st : GenState} (hit : (it, genO g) ∈ Zn) (hg : g ∉ GG.map (·.1)) (hb : Gb W Zn n vs RG GG st) : ItSrc W it Zn (n + 1) vs RG ((g, st) :: GG) := by
  intro A E Q h₀ Z R h gs d t os hZ F q
  exact wpAny_pyIter_gen (isGen_of (F.atZ (hZ _ hit))) (q it RG h (Src.gen hit vs RG GG st hg hb) F)
/-- a call of a generator function makes a generator -/
theorem enterG {f : Addr} {o : Obj} {fd : FuncData} {body : List Stmt} {args : List Value} {binds : List (Str × Value)}
    (F : Fm W h₀ Z R h) (hroom : A.depth < recursionLimit) (ho : h.get? f = some o) (hd : o.data = .func fd) (hcd : h.CodeRec fd.code fd.qualname)
    (hbody : fd.body = .stmts body) (hbind : bindArgs fd ⟨args, []⟩ = pure binds) (hloc : ∀ y ∈ binds, fd.scope.names.lookup y.1 = some .local) (hcell : ∀ x ∈ fd.scope.names, x.2 ≠ .cell)
    (hco : fd.scope.isCoroutine = false) (hgen : fd.scope.isGenerator = true) (hk : fd.scope.kind = .function)
    (k : ∀ a C h' t', h₀.get? a = none → Fm W h₀ ((a, genO gs.size) :: Z) (R ++ [(C, nsO fun x => binds.reverse.lookup x)]) h' → Q (.ref a) ⟨h', gs.push (.fresh (.func body (callEnv fd C f))), d, t', os⟩) :
    wpAny (MM W.w) A (call (.ref f) args) Q E ⟨h, gs, d, t, os⟩ := by
  refine wpAny_call (codeAny_call_generator hroom ho hd hco hgen hbody hcd ?_)
  rw [hbind]
  refine wpAny_pure (wpAny_newFunctionEnv hcell hloc (fun h₁ hn hsb => ?_) hk)
  have hk1 : ∀ b o, h.get? b = some o → h₁.get? b = some o := fun b o e => hsb.extBut b o (Nat.ne_of_lt (Heap.lt_size e)) (Heap.get?_push_of_some _ e)
  have F1 : Fm W h₀ Z (R ++ [(h.objs.size, nsO fun x => binds.reverse.lookup x)]) h₁ := F.add (Y := [(h.objs.size, nsO fun x => binds.reverse.lookup x)]) (.of_keep hk1) (F.base.keep hk1)
    (fun e he => by rw [List.mem_singleton.mp he]; exact ⟨at_ns.mpr hn, nrm_ns⟩) (fun e he => by rw [List.mem_singleton.mp he]; exact get_none (Nat.le_refl _)) (by simp)
  refine ⟨F1.base.nl, ?_⟩
  obtain ⟨ha, F2⟩ := F1.newZ (φ := genO gs.size) { cls := .type "generator", data := .fields #[.int gs.size 0, .str fd.name (t + binds.length), .str fd.qualname (t + binds.length + 1)] } rfl nrm_gen ⟨_, _, rfl, rfl, rfl⟩
  exact k _ _ _ _ ha F2
theorem n_free {env : Env} {x : Str} {v : Value} {pos : Pos} {c : Addr} (hx : env.kindOf x = some .free) (F : Fm W h₀ Z R h) (hc : env.cells.lookup x = some c) (hi : (c, clO (some v)) ∈ Z) (hk : env.scope.kind = .function) (q : Q v ⟨h, gs, d, t, os⟩)
    (hn : (x == ("__classdict__" : Str)) = false := by decide) (hd : (x == ("__debug__" : Str)) = false := by decide) : wpAny (MM W.w) A (eval (.Name x pos) env) Q E ⟨h, gs, d, t, os⟩ := v_free F hc (F.atZ hi) hk hx q hn hd
theorem n_freeD {env : Env} {x : Str} {v : Value} {pos : Pos} {c : Addr} (q : Q v ⟨h, gs, d, t, os⟩) (hx : env.kindOf x = some .free := by with_unfolding_all rfl) (F : Fm W h₀ Z R h := by assumption) (hc : env.cells.lookup x = some c := by with_unfolding_all rfl) (hi : (c, clO (some v)) ∈ Z := by wtm_at "xmem") (hk : env.scope.kind = .function := by with_unfolding_all rfl)
    (hn : (x == ("__classdict__" : Str)) = false := by decide) (hd : (x == ("__debug__" : Str)) = false := by decide) : wpAny (MM W.w) A (eval (.Name x pos) env) Q E ⟨h, gs, d, t, os⟩ := v_free F hc (F.atZ hi) hk hx q hn hd
end
end
section
open PySem PySem.W PySem.W.X PySem.Calls PyProof.Rows PySem.Builtin
theorem rm_over1 {n : Nat} {A : Around} {t : Expr} {it : Value} {b o bd : List Stmt} {env env' : Env} {kk : Result → Sem Fin} {l : List Value} {p : Pos} (rm : Rm (n + 2) A) : Rm n (A.over (.forLoop t it b o env) [.ret kk none false l (.func bd env') p []]) := by
  constructor
  · have := rm.d
    show A.depth + frameCount [((.func bd env' : Code), p)] + (Code.forLoop t it b o env).weight + n < _
    rw [frameCount_cons, show frameCount [] = 0 from rfl]
    have e1 : (Code.func bd env').weight ≤ 1 := by unfold Code.weight; exact Nat.le_of_ble_eq_true rfl
    have e2 : (Code.forLoop t it b o env).weight ≤ 1 := by unfold Code.weight; exact Nat.le_of_ble_eq_true rfl
    omega
  · have := rm.u
    show A.units + unitsOf [((.func bd env' : Code), p)] + (Code.forLoop t it b o env).cUnits + 8 * n + 40 < _
    rw [unitsOf_cons, unitsOf_nil]
    have e1 : (Code.func bd env').cUnits ≤ 3 := Nat.le_of_ble_eq_true rfl
    have e2 : (Code.forLoop t it b o env).cUnits ≤ 3 := Nat.le_of_ble_eq_true rfl
    omega
  · show (marksOver [.ret kk none false l (.func bd env') p []] (A.handled, A.handled)).1 = none
    rw [rm.hd]; rfl
section
variable {W : Wd}
theorem Fm.cutC {h₀ h : Heap} {Z R : List Ent} {e : Ent} (F : Fm W h₀ Z (e :: R) h) : Fm W h₀ Z R h := Fm.cut (R' := [e]) (F.perm (List.perm_append_comm (l₁ := [e]) (l₂ := R)))
/-- a generator whose body is one loop that hands out what passes -/
theorem for_gb {x y : Str} {px py pos : Pos} {body : List Stmt} {env : Env} {C r : Addr} {Zn : List Ent} {n : Nat} {sel : Value → Bool} {ok : Value → Prop} {vs : List Value} {RG : List Ent} {GG : List GEnt} {m0 : Str → Option Value}
    (hC : env.locals = C) (hk : env.scope.kind = .function) (hx : env.kindOf x = some .local) (hy : env.kindOf y = some .local) (hdy : (y == ("__debug__" : Str)) = false) (hm : m0 y = some (.ref r)) (S : ItSrc W r Zn n vs RG GG) (hok : ∀ v ∈ vs, ok v)
    (hbody : ∀ (it : Addr) (fs' : List Frame), splitAtGen fs' = none → fs'.any Frame.guarded = false → ∀ v, ok v → ∀ (A : Around) (h₀ : Heap) (Z R' : List Ent) (h : Heap) (gs : Array GenState) (d : Drawn) (t : Nat) (os : OsState) (P : End → Shared → Prop) (m : Str → Option Value) (H' : Value → Sem Fin),
      Rm n (A.over (.forLoop (.Name x px) (.ref it) body [] env) fs') → (∀ e ∈ Zn, e ∈ Z) → Fm W h₀ Z ((C, nsO (upd m x v)) :: R') h →
      (sel v = false → (∀ m' h' t', Fm W h₀ Z ((C, nsO m') :: R') h' → SegX (MM W.w) A (.forLoop (.Name x px) (.ref it) body [] env) (.pure (.again (.forLoop (.Name x px) (.ref it) body [] env))) fs' ⟨h', gs, d, t', os⟩ P) →
        SegX (MM W.w) A (.forLoop (.Name x px) (.ref it) body [] env) ((execs body env).wrap (Kf (.forLoop (.Name x px) (.ref it) body [] env)) H' id id) fs' ⟨h, gs, d, t, os⟩ P) ∧
      (sel v = true → (∀ m' h' t' k l p, Fm W h₀ Z ((C, nsO m') :: R') h' → k (.send .none) = .pure (.again (.forLoop (.Name x px) (.ref it) body [] env)) → P (.susp v false l k (.forLoop (.Name x px) (.ref it) body [] env) p fs') ⟨h', gs, d, t', os⟩) →
        SegX (MM W.w) A (.forLoop (.Name x px) (.ref it) body [] env) ((execs body env).wrap (Kf (.forLoop (.Name x px) (.ref it) body [] env)) H' id id) fs' ⟨h, gs, d, t, os⟩ P))
    (hs : ∀ x, foldedSetIterable (.Name y py) env x = pure x) :
    Gb W Zn (n + 2) (vs.filter sel) ((C, nsO m0) :: RG) GG (.fresh (.func [.For (.Name x px) (.Name y py) body [] pos] env)) := by
  refine Gb.of (.inl ⟨rfl, rfl, rfl⟩) ?_
  intro A h₀ Z R h gs d t os rm hZ F hG
  refine x_func fun H' => ?_
  refine x_execs_cons (x_For rfl ?_ hs)
  refine v_local (i := 0) F (by rw [hC]; rfl) hm hk hy ?_ hdy
  refine S _ _ _ h₀ Z ((C, nsO m0) :: R) h gs d t os hZ (F.perm ?_) fun it RG' h' S' F' => ?_
  · simp only [List.cons_append]
    exact List.perm_middle.symm
  intro kk l p hcb
  have F2 : Fm W h₀ Z (((C, nsO m0) :: (RG' ++ [])) ++ R) h' := by
    have := F'.perm List.perm_middle
    simpa using this
  have := loop_go (x := x) (px := px) (body := body) (env := env) (it := it) (C := C) (Zn := Zn) (n := n + 2) (n₁ := n) (fs' := [.ret kk none false l (.func [.For (.Name x px) (.Name y py) body [] pos] env) p []]) (sel := sel) (ok := ok) (RGo := []) (tl := [])
    (fun A rm => rm_over1 rm) hC hk hx (hbody it _ rfl rfl) (fun m => ?_) vs RG' GG m0 hok (.inl rfl) S' A h₀ Z R h' gs d t os rm hZ F2 hG
  · simpa using this
  · intro A2 h2 Z2 R2 h3 gs3 d3 t3 os3 rm3 hZ3 F3 hG3
    refine s_pop _ _ A2 _ [] _ _ (.ok .next) _ rfl _ _ _ _ _ _ _ (hcb A2 .next _ _ ?_)
    refine s_end _ _ A2 _ _ _ (.ok (.ret .none)) _ rfl ?_
    exact ⟨rfl, [], h3, gs3, t3, rfl, Fm.cutC F3, .nil, fun _ h => nomatch h⟩
end
end
section
open PySem PySem.W PySem.W.X PySem.Calls PyProof.Rows PySem.Builtin
def bAt (l : List Stmt) (i : Nat) : Stmt := l.getD i (.Pass ⟨0, 0, 0, 0⟩)
def ifThen : Stmt → List Stmt
  | .If _ b _ _ => b
  | _ => []
def ifElse : Stmt → List Stmt
  | .If _ _ b _ => b
  | _ => []
def forBody : Stmt → List Stmt
  | .For _ _ b _ _ => b
  | _ => []
def E1 : Stmt := bAt (bodyOf (stAt 3)) 1
def E2 : Stmt := bAt (ifElse E1) 0
def E3 : Stmt := bAt (ifElse E2) 0
def E4 : Stmt := bAt (ifElse E3) 0
def S1 : Stmt := bAt (ifThen E1) 0
def S2 : Stmt := bAt (ifThen E2) 0
def S3 : Stmt := bAt (ifThen E3) 3
def S4 : Stmt := bAt (ifThen E4) 2
def B1 : Stmt := bAt (bodyOf (stAt 4)) 1
def S5 : Stmt := bAt (ifThen B1) 1
def S6 : Stmt := bAt (bodyOf S5) 0
def S7 : Stmt := bAt (ifElse B1) 1
def argsOf : Stmt → Arguments
  | .FunctionDef _ a _ _ _ _ _ _ _ _ => a
  | _ => default
def scopeOf : Stmt → Scope
  | .FunctionDef _ _ _ _ _ _ sc _ _ _ => sc
  | _ => default
/-- the data of a function made from that statement -/
abbrev fdM (S : Stmt) (name qual : Str) (clos : List (Str × Addr)) (pm cv ctv : Value) : FuncData := mkFd name qual (argsOf S) (.stmts (bodyOf S)) (scopeOf S) clos pm cv ctv
/-- a slice object -/
def slcO (a b : Value) (o : Obj) : Prop := o.cls = .type "slice" ∧ o.data = .fields #[a, b, .none]
theorem nrm_slc {a b : Value} : ∀ o, slcO a b o → nrm o := fun o ⟨e, _⟩ => nrm_cls e (by decide)
section
variable {W : Wd} {A : Around} {E : Value → Shared → Prop} {h : Heap} {gs : Array GenState} {d : Drawn} {t : Nat} {os : OsState} {Q : Value → Shared → Prop}
theorem v_slcR {value slice : Expr} {sl : Addr} {y : Str} {ty : Tok} {l u : Option (Int × Tok)} (hsl : At h sl (slcO (partValue l) (partValue u))) (hsz : y.length ≤ 1000000) (q : ∀ tk t', Q (.str (Txt.slice y (l.map (·.1)) (u.map (·.1))) tk) ⟨h, gs, d, t', os⟩)
    (hs : subscripted slice false (.str y ty) (.ref sl) = operate [.str y ty, .ref sl] (getItem (.str y ty) (.ref sl)) := by with_unfolding_all rfl) :
    wpAny (MM W.w) A (subscriptTail value slice (.str y ty) (.ref sl)) Q E ⟨h, gs, d, t, os⟩ :=
  tail_any (typeIs_str _ _ _) PySem.F.slot_str_getitem.lookup (wpAny_getItem_str_slice (l := l) (u := u) (st := none) (let ⟨o, a, b, c⟩ := hsl; ⟨o, a, b, c⟩) rfl
    (post_val_or_str ⟨Nat.le_trans (Txt.slice_le y _ _) (le_line hsz), fun t' k => q _ _⟩)) hs
theorem v_slcLo {value slice : Expr} {sl : Addr} {y : Str} {ty : Tok} {i : Int} {ul : Tok} (hsl : At h sl (slcO (.int i ul) .none)) (hsz : y.length ≤ 1000000) (q : ∀ tk t', Q (.str (Txt.slice y (some i) none) tk) ⟨h, gs, d, t', os⟩)
    (hs : subscripted slice false (.str y ty) (.ref sl) = operate [.str y ty, .ref sl] (getItem (.str y ty) (.ref sl)) := by with_unfolding_all rfl) :
    wpAny (MM W.w) A (subscriptTail value slice (.str y ty) (.ref sl)) Q E ⟨h, gs, d, t, os⟩ := v_slcR (l := some (i, ul)) (u := none) hsl hsz q hs
theorem v_slcHi {value slice : Expr} {sl : Addr} {y : Str} {ty : Tok} {i : Int} {ul : Tok} (hsl : At h sl (slcO .none (.int i ul))) (hsz : y.length ≤ 1000000) (q : ∀ tk t', Q (.str (Txt.slice y none (some i)) tk) ⟨h, gs, d, t', os⟩)
    (hs : subscripted slice false (.str y ty) (.ref sl) = operate [.str y ty, .ref sl] (getItem (.str y ty) (.ref sl)) := by with_unfolding_all rfl) :
    wpAny (MM W.w) A (subscriptTail value slice (.str y ty) (.ref sl)) Q E ⟨h, gs, d, t, os⟩ := v_slcR (l := none) (u := some (i, ul)) hsl hsz q hs
end
/-- what a loop's body does with one value -/
def HB (W : Wd) (C it : Addr) (x : Str) (px : Pos) (body : List Stmt) (env : Env) (fs' : List Frame) (Zn : List Ent) (n : Nat) (sel : Value → Bool) (v : Value) : Prop :=
  ∀ (A : Around) (h₀ : Heap) (Z R' : List Ent) (h : Heap) (gs : Array GenState) (d : Drawn) (t : Nat) (os : OsState) (P : End → Shared → Prop) (m : Str → Option Value) (H' : Value → Sem Fin),
      Rm n (A.over (.forLoop (.Name x px) (.ref it) body [] env) fs') → (∀ e ∈ Zn, e ∈ Z) → Fm W h₀ Z ((C, nsO (upd m x v)) :: R') h →
      (sel v = false → (∀ m' h' t', Fm W h₀ Z ((C, nsO m') :: R') h' → SegX (MM W.w) A (.forLoop (.Name x px) (.ref it) body [] env) (.pure (.again (.forLoop (.Name x px) (.ref it) body [] env))) fs' ⟨h', gs, d, t', os⟩ P) →
        SegX (MM W.w) A (.forLoop (.Name x px) (.ref it) body [] env) ((execs body env).wrap (Kf (.forLoop (.Name x px) (.ref it) body [] env)) H' id id) fs' ⟨h, gs, d, t, os⟩ P) ∧
      (sel v = true → (∀ m' h' t' k l p, Fm W h₀ Z ((C, nsO m') :: R') h' → k (.send .none) = .pure (.again (.forLoop (.Name x px) (.ref it) body [] env)) → P (.susp v false l k (.forLoop (.Name x px) (.ref it) body [] env) p fs') ⟨h', gs, d, t', os⟩) →
        SegX (MM W.w) A (.forLoop (.Name x px) (.ref it) body [] env) ((execs body env).wrap (Kf (.forLoop (.Name x px) (.ref it) body [] env)) H' id id) fs' ⟨h, gs, d, t, os⟩ P)
def headNot (s : Str) : Bool := (cp s).head? != some 123
def selP1 (τ : Option Str) : Bool := τ.isSome
def selP2 : Option Str → Bool
  | none => false
  | some s => headNot s
def selP3 (tag suf : Str) : Option Str → Bool
  | none => false
  | some s => s == tag || Txt.slice s (some (-(suf.length : Int))) none == suf
def selP4 (ns : Str) : Option Str → Bool
  | none => false
  | some s => Txt.slice s none (some (ns.length : Int)) == ns
def selP7 (tag : Str) : Option Str → Bool
  | none => false
  | some s => s == tag
local macro_rules | `(tactic| wtm_at "xname") => rd "(rules n_freeD)"
local macro_rules | `(tactic| wtm_at "x1") => rd "(rules EqNone.eq_none_str EqMixed.eq_int_str)"
section
variable {W : Wd} {C f it : Addr} {qual : Str} {pm cv ctv : Value} {Zn : List Ent} {n : Nat} {sel : Value → Bool} {fs' : List Frame} {v : Value} {px : Pos} {body : List Stmt} {env : Env}
theorem body1 {cs ci  : Addr} (h1 : (ci, clO (some (.builtin "isinstance"))) ∈ Zn) (h2 : (cs, clO (some (.type "str"))) ∈ Zn) (hfs : splitAtGen fs' = none) (hfg : fs'.any Frame.guarded = false)
    (hv : ∃ τ p, NodeIs Zn v τ p ∧ sel v = selP1 τ) (he : env = callEnv (fdM S1 "select" qual [("_str", cs), ("_isinstance", ci)] pm cv ctv) C f) (hb : body = forBody (bAt (bodyOf S1) 0)) : HB W C it "elem" px body env fs' Zn n sel v := by
  intro A h₀ Z R' h gs d t os P m H' rm hZ F
  obtain ⟨τ, p, ⟨f0, dx, mm, tv, u, rfl, n1, n2, n3, n4, n5, n6, n7⟩, hsel⟩ := hv
  have n1' := hZ _ n1
  have n2' := hZ _ n2
  subst he
  subst hb
  rcases n6 with ⟨s, u6, rfl, rfl⟩ | ⟨rfl, rfl | ⟨k6, u6, rfl⟩⟩
  · refine ⟨fun e => Bool.noConfusion ((hsel.symm.trans e : true = false)), fun _ hP => ?_⟩
    refine x_execs_cons (x_If ?_)
    repeat' (wtm_at "x1")
    refine v_attr (by assumption) n1' n2' n3 lk_fn_tag n4 rfl ?_
    repeat' (wtm_at "x1")
    refine x_execs_cons (x_Yield hfs rfl hfg ?_)
    repeat' (wtm_at "x1")
    intro k l p hk
    exact hP _ _ _ _ _ _ (by assumption) hk
  · refine ⟨fun _ hP => ?_, fun e => Bool.noConfusion ((hsel.symm.trans e : false = true))⟩
    refine x_execs_cons (x_If ?_)
    repeat' (wtm_at "x1")
    refine v_attr (by assumption) n1' n2' n3 lk_fn_tag n4 rfl ?_
    repeat' (wtm_at "x1")
    exact hP _ _ _ (by assumption)
  · refine ⟨fun _ hP => ?_, fun e => Bool.noConfusion ((hsel.symm.trans e : false = true))⟩
    refine x_execs_cons (x_If ?_)
    repeat' (wtm_at "x1")
    refine v_attr (by assumption) n1' n2' n3 lk_fn_tag n4 rfl ?_
    repeat' (wtm_at "x1")
    exact hP _ _ _ (by assumption)
theorem body2 {cs ci  : Addr} (h1 : (ci, clO (some (.builtin "isinstance"))) ∈ Zn) (h2 : (cs, clO (some (.type "str"))) ∈ Zn) (hfs : splitAtGen fs' = none) (hfg : fs'.any Frame.guarded = false)
    (hv : ∃ τ p, NodeIs Zn v τ p ∧ sel v = selP2 τ) (he : env = callEnv (fdM S2 "select" qual [("_str", cs), ("_isinstance", ci)] pm cv ctv) C f) (hb : body = forBody (bAt (bodyOf S2) 0)) : HB W C it "elem" px body env fs' Zn n sel v := by
  intro A h₀ Z R' h gs d t os P m H' rm hZ F
  obtain ⟨τ, p, ⟨f0, dx, mm, tv, u, rfl, n1, n2, n3, n4, n5, n6, n7⟩, hsel⟩ := hv
  have n1' := hZ _ n1
  have n2' := hZ _ n2
  subst he
  subst hb
  rcases n6 with ⟨s, u6, rfl, rfl⟩ | ⟨rfl, rfl | ⟨k6, u6, rfl⟩⟩
  · obtain ⟨s1, s2⟩ := n7 s rfl
    obtain ⟨c, hc⟩ : ∃ c, (cp s)[(0 : Int).toNat]? = some c := ⟨_, List.getElem?_eq_getElem (by rw [cp_len]; show 0 < _; wtm_at "om")⟩
    have hh : headNot s = (c != 123) := by
      unfold headNot
      rw [List.head?_eq_getElem?, show (cp s)[0]? = some c from hc]
      rfl
    have hq : ((⟨#[c]⟩ : Str) != Str.ofString "{") = (c != 123) := by
      rw [bne, show ((⟨#[c]⟩ : Str) == Str.ofString "{") = (c == 123) by rw [beq_cp, cp_one, show cp (Str.ofString "{") = [123] from rfl, Bool.eq_iff_iff]; simp]
      rfl
    refine ⟨fun e hP => ?_, fun e hP => ?_⟩
    · have hne : ((⟨#[c]⟩ : Str) != Str.ofString "{") = false := by rw [hq, ← hh]; exact hsel.symm.trans e
      refine x_execs_cons (x_exec ?_)
      repeat' (wtm_at "x1")
      refine v_attr (by assumption) n1' n2' n3 lk_fn_tag n4 rfl ?_
      repeat' (wtm_at "x1")
      refine x_execs_cons (x_If ?_)
      repeat' (wtm_at "x1")
      refine v_chr (by wtm_at "om") hc (by wtm_at "om") ?_
      repeat' (wtm_at "x1")
      exact hP _ _ _ (by assumption)
    · have hne : ((⟨#[c]⟩ : Str) != Str.ofString "{") = true := by rw [hq, ← hh]; exact hsel.symm.trans e
      refine x_execs_cons (x_exec ?_)
      repeat' (wtm_at "x1")
      refine v_attr (by assumption) n1' n2' n3 lk_fn_tag n4 rfl ?_
      repeat' (wtm_at "x1")
      refine x_execs_cons (x_If ?_)
      repeat' (wtm_at "x1")
      refine v_chr (by wtm_at "om") hc (by wtm_at "om") ?_
      repeat' (wtm_at "x1")
      refine x_execs_cons (x_Yield hfs rfl hfg ?_)
      repeat' (wtm_at "x1")
      intro k l p hk
      exact hP _ _ _ _ _ _ (by assumption) hk
  · refine ⟨fun _ hP => ?_, fun e => Bool.noConfusion ((hsel.symm.trans e : false = true))⟩
    refine x_execs_cons (x_exec ?_)
    repeat' (wtm_at "x1")
    refine v_attr (by assumption) n1' n2' n3 lk_fn_tag n4 rfl ?_
    repeat' (wtm_at "x1")
    refine x_execs_cons (x_If ?_)
    repeat' (wtm_at "x1")
    exact hP _ _ _ (by assumption)
  · refine ⟨fun _ hP => ?_, fun e => Bool.noConfusion ((hsel.symm.trans e : false = true))⟩
    refine x_execs_cons (x_exec ?_)
    repeat' (wtm_at "x1")
    refine v_attr (by assumption) n1' n2' n3 lk_fn_tag n4 rfl ?_
    repeat' (wtm_at "x1")
    refine x_execs_cons (x_If ?_)
    repeat' (wtm_at "x1")
    exact hP _ _ _ (by assumption)
theorem body3 {cs ci cn cu ct sl : Addr} (h1 : (ci, clO (some (.builtin "isinstance"))) ∈ Zn) (h2 : (cs, clO (some (.type "str"))) ∈ Zn) {tag suf : Str} {ut uu ul : Tok} (h3 : (cn, clO (some (.ref sl))) ∈ Zn) (h4 : (cu, clO (some (.str suf uu))) ∈ Zn) (h5 : (ct, clO (some (.str tag ut))) ∈ Zn) (hsl : (sl, slcO (.int (-(suf.length : Int)) ul) .none) ∈ Zn) (hfs : splitAtGen fs' = none) (hfg : fs'.any Frame.guarded = false)
    (hv : ∃ τ p, NodeIs Zn v τ p ∧ sel v = selP3 tag suf τ) (he : env = callEnv (fdM S3 "select" qual [("tag", ct), ("suffix", cu), ("no_ns", cn), ("_str", cs), ("_isinstance", ci)] pm cv ctv) C f) (hb : body = forBody (bAt (bodyOf S3) 0)) : HB W C it "elem" px body env fs' Zn n sel v := by
  intro A h₀ Z R' h gs d t os P m H' rm hZ F
  obtain ⟨τ, p, ⟨f0, dx, mm, tv, u, rfl, n1, n2, n3, n4, n5, n6, n7⟩, hsel⟩ := hv
  have n1' := hZ _ n1
  have n2' := hZ _ n2
  subst he
  subst hb
  rcases n6 with ⟨s, u6, rfl, rfl⟩ | ⟨rfl, rfl | ⟨k6, u6, rfl⟩⟩
  · obtain ⟨s1, s2⟩ := n7 s rfl
    have hsl' := hZ _ hsl
    have e3 : selP3 tag suf (some s) = (s == tag || Txt.slice s (some (-(suf.length : Int))) none == suf) := rfl
    cases ht : (s == tag) with
    | true =>
      refine ⟨fun e hP => absurd (hsel.symm.trans e) (by rw [e3, ht]; simp), fun e hP => ?_⟩
      refine x_execs_cons (x_exec ?_)
      repeat' (wtm_at "x1")
      refine v_attr (by assumption) n1' n2' n3 lk_fn_tag n4 rfl ?_
      repeat' (wtm_at "x1")
      refine x_execs_cons (x_If ?_)
      repeat' (wtm_at "x1")
      refine x_execs_cons (x_Yield hfs rfl hfg ?_)
      repeat' (wtm_at "x1")
      intro k l p hk
      exact hP _ _ _ _ _ _ (by assumption) hk
    | false =>
      cases hu : (Txt.slice s (some (-(suf.length : Int))) none == suf) with
      | true =>
        refine ⟨fun e hP => absurd (hsel.symm.trans e) (by rw [e3, hu]; simp), fun e hP => ?_⟩
        refine x_execs_cons (x_exec ?_)
        repeat' (wtm_at "x1")
        refine v_attr (by assumption) n1' n2' n3 lk_fn_tag n4 rfl ?_
        repeat' (wtm_at "x1")
        refine x_execs_cons (x_If ?_)
        repeat' (wtm_at "x1")
        refine v_slcLo (Fm.atZ (by assumption) hsl') (by wtm_at "om") ?_
        intro _ _
        repeat' (wtm_at "x1")
        refine x_execs_cons (x_Yield hfs rfl hfg ?_)
        repeat' (wtm_at "x1")
        intro k l p hk
        exact hP _ _ _ _ _ _ (by assumption) hk
      | false =>
        refine ⟨fun e hP => ?_, fun e hP => absurd (hsel.symm.trans e) (by rw [e3, ht, hu]; simp)⟩
        refine x_execs_cons (x_exec ?_)
        repeat' (wtm_at "x1")
        refine v_attr (by assumption) n1' n2' n3 lk_fn_tag n4 rfl ?_
        repeat' (wtm_at "x1")
        refine x_execs_cons (x_If ?_)
        repeat' (wtm_at "x1")
        refine v_slcLo (Fm.atZ (by assumption) hsl') (by wtm_at "om") ?_
        intro _ _
        repeat' (wtm_at "x1")
        exact hP _ _ _ (by assumption)
  · refine ⟨fun _ hP => ?_, fun e => Bool.noConfusion ((hsel.symm.trans e : false = true))⟩
    refine x_execs_cons (x_exec ?_)
    repeat' (wtm_at "x1")
    refine v_attr (by assumption) n1' n2' n3 lk_fn_tag n4 rfl ?_
    repeat' (wtm_at "x1")
    refine x_execs_cons (x_If ?_)
    repeat' (wtm_at "x1")
    exact hP _ _ _ (by assumption)
  · refine ⟨fun _ hP => ?_, fun e => Bool.noConfusion ((hsel.symm.trans e : false = true))⟩
    refine x_execs_cons (x_exec ?_)
    repeat' (wtm_at "x1")
    refine v_attr (by assumption) n1' n2' n3 lk_fn_tag n4 rfl ?_
    repeat' (wtm_at "x1")
    refine x_execs_cons (x_If ?_)
    repeat' (wtm_at "x1")
    exact hP _ _ _ (by assumption)
theorem body4 {cs ci cn cu sl : Addr} (h1 : (ci, clO (some (.builtin "isinstance"))) ∈ Zn) (h2 : (cs, clO (some (.type "str"))) ∈ Zn) {nsv : Str} {uu ul : Tok} (h3 : (cn, clO (some (.ref sl))) ∈ Zn) (h4 : (cu, clO (some (.str nsv uu))) ∈ Zn) (hsl : (sl, slcO .none (.int (nsv.length : Int) ul)) ∈ Zn) (hfs : splitAtGen fs' = none) (hfg : fs'.any Frame.guarded = false)
    (hv : ∃ τ p, NodeIs Zn v τ p ∧ sel v = selP4 nsv τ) (he : env = callEnv (fdM S4 "select" qual [("ns_only", cn), ("ns", cu), ("_str", cs), ("_isinstance", ci)] pm cv ctv) C f) (hb : body = forBody (bAt (bodyOf S4) 0)) : HB W C it "elem" px body env fs' Zn n sel v := by
  intro A h₀ Z R' h gs d t os P m H' rm hZ F
  obtain ⟨τ, p, ⟨f0, dx, mm, tv, u, rfl, n1, n2, n3, n4, n5, n6, n7⟩, hsel⟩ := hv
  have n1' := hZ _ n1
  have n2' := hZ _ n2
  subst he
  subst hb
  rcases n6 with ⟨s, u6, rfl, rfl⟩ | ⟨rfl, rfl | ⟨k6, u6, rfl⟩⟩
  · obtain ⟨s1, s2⟩ := n7 s rfl
    have hsl' := hZ _ hsl
    have e4 : selP4 nsv (some s) = (Txt.slice s none (some (nsv.length : Int)) == nsv) := rfl
    cases hu : (Txt.slice s none (some (nsv.length : Int)) == nsv) with
    | true =>
      refine ⟨fun e hP => absurd (hsel.symm.trans e) (by rw [e4, hu]; simp), fun e hP => ?_⟩
      refine x_execs_cons (x_exec ?_)
      repeat' (wtm_at "x1")
      refine v_attr (by assumption) n1' n2' n3 lk_fn_tag n4 rfl ?_
      repeat' (wtm_at "x1")
      refine x_execs_cons (x_If ?_)
      repeat' (wtm_at "x1")
      refine v_slcHi (Fm.atZ (by assumption) hsl') (by wtm_at "om") ?_
      intro _ _
      repeat' (wtm_at "x1")
      refine x_execs_cons (x_Yield hfs rfl hfg ?_)
      repeat' (wtm_at "x1")
      intro k l p hk
      exact hP _ _ _ _ _ _ (by assumption) hk
    | false =>
      refine ⟨fun e hP => ?_, fun e hP => absurd (hsel.symm.trans e) (by rw [e4, hu]; simp)⟩
      refine x_execs_cons (x_exec ?_)
      repeat' (wtm_at "x1")
      refine v_attr (by assumption) n1' n2' n3 lk_fn_tag n4 rfl ?_
      repeat' (wtm_at "x1")
      refine x_execs_cons (x_If ?_)
      repeat' (wtm_at "x1")
      refine v_slcHi (Fm.atZ (by assumption) hsl') (by wtm_at "om") ?_
      intro _ _
      repeat' (wtm_at "x1")
      exact hP _ _ _ (by assumption)
  · refine ⟨fun _ hP => ?_, fun e => Bool.noConfusion ((hsel.symm.trans e : false = true))⟩
    refine x_execs_cons (x_exec ?_)
    repeat' (wtm_at "x1")
    refine v_attr (by assumption) n1' n2' n3 lk_fn_tag n4 rfl ?_
    repeat' (wtm_at "x1")
    refine x_execs_cons (x_If ?_)
    repeat' (wtm_at "x1")
    exact hP _ _ _ (by assumption)
  · refine ⟨fun _ hP => ?_, fun e => Bool.noConfusion ((hsel.symm.trans e : false = true))⟩
    refine x_execs_cons (x_exec ?_)
    repeat' (wtm_at "x1")
    refine v_attr (by assumption) n1' n2' n3 lk_fn_tag n4 rfl ?_
    repeat' (wtm_at "x1")
    refine x_execs_cons (x_If ?_)
    repeat' (wtm_at "x1")
    exact hP _ _ _ (by assumption)
end
end
section
open PySem PySem.W PySem.W.X PySem.Calls PyProof.Rows PySem.Builtin
section
variable {prog : Program} {w : World} {A : Around} {c : Code} {fs : List Frame} {P : End → Shared → Prop} {env : Env} {gd : Bool → Bool} {lv : List Value → List Value} {s : Shared} {K : Flow → Sem Fin} {H : Value → Sem Fin}
theorem x_YieldFrom {e : Expr} {ypos pos : Pos} (hgd : gd false = false)
    (h : wpAny (model prog w) (A.over c fs) (eval e env) (fun v s₁ => ∃ a T, v = .ref a ∧ s₁.TypeIs v T ∧ T ≠ "coroutine" ∧ wpAny (model prog w) (A.over c fs) (pyIter v) (fun it s₂ => ∀ kk l p, (∀ A' s' P', SegX (model prog w) A' c (K .next) fs s' P' → SegX (model prog w) A' c (kk (.ok (.ret .none))) fs s' P') →
        SegX (model prog w) A (.builtin "proto.yield_from" ⟨[it, .bool false, .none], []⟩) (denote table (.builtin "proto.yield_from" ⟨[it, .bool false, .none], []⟩)) (.ret kk none false l c p [] :: fs) s₂ P)
      (fun x s' => SegX (model prog w) A c (H x) fs s' P) s₁) (fun x s' => SegX (model prog w) A c (H x) fs s' P) s)
    (hi : interactive env = false := by rfl) :
    SegX (model prog w) A c ((exec (.Expr (.YieldFrom e ypos) pos) env).wrap K H gd lv) fs s P := by
  rw [exec_Expr env _ pos hi rfl]
  show SegX _ A c ((standAt pos >>= fun _ => ((eval e env >>= fun v => (standAt ypos >>= fun _ => yieldFrom env v)) >>= fun x => dropValue (.YieldFrom e ypos) pos x)).wrap K H gd lv) fs s P
  refine x_bind (wpAny_standAt ?_)
  rw [Sem.bind_eq_wrap', Sem.bind_eq_wrap', Sem.wrap_wrap, Sem.wrap_wrap]
  refine x_wrap (wpAny_mono h (fun v s' h' => ?_) fun _ _ x => x)
  obtain ⟨a, T, rfl, hT, hne, h'⟩ := h'
  refine s_cmd prog w A c fs P (m := standAt ypos) (k := fun _ => (yieldFrom env (.ref a)).wrap (fun x => (dropValue (.YieldFrom e ypos) pos x).wrap K H gd lv) (fun x => H x) (fun g => gd (id g)) (fun l => lv (id l))) (wpAny_standAt ?_)
  obtain ⟨o, ho, hc⟩ := hT
  unfold yieldFrom
  refine x_bind ?_
  unfold typeOf
  refine wpAny_bind (wpAny_loadPart_at ho ?_)
  rw [hc]
  refine wpAny_pure ?_
  have hb : (Value.type T == Value.type "coroutine") = false := by
    rw [beq_eq_false_iff_ne]; intro z; injection z with z; exact hne z
  rw [if_neg (by rw [hb]; exact Bool.false_ne_true)]
  refine x_bind (wpAny_holding (wpAny_mono h' (fun it s₂ h₂ => ?_) fun _ _ z => z))
  unfold runValue run
  refine s_call prog w A c fs P s₂ _ none (gd false) _ _ fun p => ?_
  rw [hgd]
  exact h₂ _ _ _ fun A' s' P' hf => hf
end
theorem rm_over2 {n : Nat} {A : Around} {t t2 : Expr} {it it2 : Value} {b b2 o o2 bd : List Stmt} {env env' env2 : Env} {kk kk2 : Result → Sem Fin} {l l2 : List Value} {p p2 : Pos} (rm : Rm (n + 3) A) :
    Rm n (A.over (.forLoop t it b o env) [.ret kk none false l (.forLoop t2 it2 b2 o2 env2) p [], .ret kk2 none false l2 (.func bd env') p2 []]) := by
  constructor
  · have := rm.d
    show A.depth + frameCount [((.forLoop t2 it2 b2 o2 env2 : Code), p), ((.func bd env' : Code), p2)] + (Code.forLoop t it b o env).weight + n < _
    rw [frameCount_cons, frameCount_cons, show frameCount [] = 0 from rfl]
    have e1 : (Code.func bd env').weight ≤ 1 := by unfold Code.weight; exact Nat.le_of_ble_eq_true rfl
    have e2 : (Code.forLoop t it b o env).weight ≤ 1 := by unfold Code.weight; exact Nat.le_of_ble_eq_true rfl
    have e3 : (Code.forLoop t2 it2 b2 o2 env2).weight ≤ 1 := by unfold Code.weight; exact Nat.le_of_ble_eq_true rfl
    omega
  · have := rm.u
    show A.units + unitsOf [((.forLoop t2 it2 b2 o2 env2 : Code), p), ((.func bd env' : Code), p2)] + (Code.forLoop t it b o env).cUnits + 8 * n + 40 < _
    rw [unitsOf_cons, unitsOf_cons, unitsOf_nil]
    have e1 : (Code.func bd env').cUnits ≤ 3 := Nat.le_of_ble_eq_true rfl
    have e2 : (Code.forLoop t it b o env).cUnits ≤ 3 := Nat.le_of_ble_eq_true rfl
    have e3 : (Code.forLoop t2 it2 b2 o2 env2).cUnits ≤ 3 := Nat.le_of_ble_eq_true rfl
    omega
  · show (marksOver [.ret kk none false l (.forLoop t2 it2 b2 o2 env2) p [], .ret kk2 none false l2 (.func bd env') p2 []] (A.handled, A.handled)).1 = none
    rw [rm.hd]; rfl
/-- rows: values that are lists, with what stands in them -/
inductive Rows (Z : List Ent) (ok : Value → Prop) : List Value → List Value → Prop
  | nil : Rows Z ok [] []
  | cons {l items vs out} : (l, lsO items) ∈ Z → (∀ v ∈ items, ok v) → Rows Z ok vs out → Rows Z ok (.ref l :: vs) (items ++ out)
theorem Rows.mono {Z Z' : List Ent} {ok ok' : Value → Prop} {vs out : List Value} (x : Rows Z ok vs out) (h : ∀ e ∈ Z, e ∈ Z') (ho : ∀ v, ok v → ok' v) : Rows Z' ok' vs out := by
  induction x with
  | nil => exact .nil
  | cons a b _ ih => exact .cons (h _ a) (fun v hv => ho v (b v hv)) ih
section
variable {W : Wd}
theorem upd_go {x : Str} {px : Pos} {body : List Stmt} {env : Env} {it C : Addr} {Zn : List Ent} {n n₁ : Nat} {fs' : List Frame} {sel : Value → Bool} {ok : Value → Prop}
    (hrm : ∀ A, Rm n A → Rm n₁ (A.over (.forLoop (.Name x px) (.ref it) body [] env) fs')) (hC : env.locals = C) (hk : env.scope.kind = .function) (hx : env.kindOf x = some .local)
    (hrow : ∀ l items, (l, lsO items) ∈ Zn → (∀ v ∈ items, ok v) → ∀ (RGo : List Ent) (tl : List Value) (m : Str → Option Value) (H' : Value → Sem Fin),
      (∀ m', Go W Zn n (.forLoop (.Name x px) (.ref it) body [] env) (.pure (.again (.forLoop (.Name x px) (.ref it) body [] env))) fs' tl ((C, nsO m') :: RGo) []) →
      Go W Zn n (.forLoop (.Name x px) (.ref it) body [] env) ((execs body env).wrap (Kf (.forLoop (.Name x px) (.ref it) body [] env)) H' id id) fs' (items.filter sel ++ tl) ((C, nsO (upd m x (.ref l))) :: RGo) [])
    (hafter : ∀ m, Go W Zn n (.block [] env) (leafOf (.ok .next)) fs' [] [(C, nsO m)] []) :
    ∀ (vs out : List Value) (RGs : List Ent) (m : Str → Option Value), Rows Zn ok vs out → Src W it Zn n₁ vs RGs [] →
      Go W Zn n (.forLoop (.Name x px) (.ref it) body [] env) (denote table (.forLoop (.Name x px) (.ref it) body [] env)) fs' (out.filter sel) ((C, nsO m) :: RGs) []
  | _, _, RGs, m, .nil, S => by
    intro A h₀ Z R h gs d t os rm hZ F hG
    refine x_forLoop rfl rfl ?_
    refine S _ _ _ h₀ Z ((C, nsO m) :: R) h gs d t os (hrm A rm) hZ (F.perm ?_) hG fun GG' h' gs' t' F' st hf => ?_
    · simp only [List.cons_append]
      exact List.perm_middle.symm
    · refine x_block_nil fun t ht => ?_
      subst ht
      obtain ⟨rfl, rfl⟩ := st.eq
      exact hafter m A h₀ Z R h' _ d t' os rm hZ F' (fun _ h => nomatch h)
  | _, _, RGs, m, .cons (l := l) (items := items) (vs := vs) (out := out) hl hit hr, S => by
    intro A h₀ Z R h gs d t os rm hZ F hG
    refine x_forLoop rfl rfl ?_
    refine S _ _ _ h₀ Z ((C, nsO m) :: R) h gs d t os (hrm A rm) hZ (F.perm ?_) hG fun RG' GG' h' gs' t' S' F' st => ?_
    · simp only [List.cons_append]
      exact List.perm_middle.symm
    · have F2 : Fm W h₀ Z ((C, nsO m) :: (RG' ++ R)) h' := F'.perm List.perm_middle
      obtain ⟨rfl, rfl⟩ := st.eq
      refine wpAny_assign_Name (v_store (i := 0) (m := m) F2 (by rw [hC]; rfl) hk hx fun h2 F3 => ?_)
      intro H'
      have F3 : Fm W h₀ Z (((C, nsO (upd m x (.ref l))) :: RG') ++ R) h2 := by rw [hC] at F3; exact F3
      have ih : ∀ m', Go W Zn n (.forLoop (.Name x px) (.ref it) body [] env) (denote table (.forLoop (.Name x px) (.ref it) body [] env)) fs' (out.filter sel) ((C, nsO m') :: RG') [] :=
        fun m' => upd_go hrm hC hk hx hrow hafter vs out RG' m' hr S'
      rw [List.filter_append]
      refine hrow l items hl hit RG' (out.filter sel) m H' (fun m' => ?_) A h₀ Z R h2 _ d _ os rm hZ F3 (fun _ h => nomatch h)
      intro A' h₀' Z2 R2 h4 gs4 d4 t4 os4 rm4 hZ4 F5 hG4
      exact s_again _ _ A' _ fs' _ _ _ rfl (ih m' A' h₀' Z2 R2 h4 gs4 d4 t4 os4 rm4 hZ4 F5 hG4)
/-- a generator whose body is one loop over rows -/
theorem rows_gb {x y : Str} {px py pos : Pos} {body : List Stmt} {env : Env} {C r : Addr} {Zn : List Ent} {n : Nat} {sel : Value → Bool} {ok : Value → Prop} {vs out : List Value} {m0 : Str → Option Value}
    (hC : env.locals = C) (hk : env.scope.kind = .function) (hx : env.kindOf x = some .local) (hy : env.kindOf y = some .local) (hdy : (y == ("__debug__" : Str)) = false) (hm : m0 y = some (.ref r)) (hr : (r, lsO vs) ∈ Zn) (hrows : Rows Zn ok vs out)
    (hrow : ∀ (it : Addr) kk lv p, let fs' : List Frame := [.ret kk none false lv (.func [.For (.Name x px) (.Name y py) body [] pos] env) p []]; ∀ l items, (l, lsO items) ∈ Zn → (∀ v ∈ items, ok v) → ∀ (RGo : List Ent) (tl : List Value) (m : Str → Option Value) (H' : Value → Sem Fin),
      (∀ m', Go W Zn (n + 2) (.forLoop (.Name x px) (.ref it) body [] env) (.pure (.again (.forLoop (.Name x px) (.ref it) body [] env))) fs' tl ((C, nsO m') :: RGo) []) →
      Go W Zn (n + 2) (.forLoop (.Name x px) (.ref it) body [] env) ((execs body env).wrap (Kf (.forLoop (.Name x px) (.ref it) body [] env)) H' id id) fs' (items.filter sel ++ tl) ((C, nsO (upd m x (.ref l))) :: RGo) [])
    (hs : ∀ x, foldedSetIterable (.Name y py) env x = pure x) :
    Gb W Zn (n + 2) (out.filter sel) [(C, nsO m0)] [] (.fresh (.func [.For (.Name x px) (.Name y py) body [] pos] env)) := by
  refine Gb.of (.inl ⟨rfl, rfl, rfl⟩) ?_
  intro A h₀ Z R h gs d t os rm hZ F hG
  refine x_func fun H' => ?_
  refine x_execs_cons (x_For rfl ?_ hs)
  refine v_local (i := 0) F (by rw [hC]; rfl) hm hk hy ?_ hdy
  refine ItSrc.list (n := n) hr _ _ _ h₀ Z ((C, nsO m0) :: R) h gs d t os hZ F fun it RG' h' S' F' => ?_
  intro kk l p hcb
  have F2 : Fm W h₀ Z (((C, nsO m0) :: RG') ++ R) h' := F'.perm List.perm_middle
  refine upd_go (n := n + 2) (n₁ := n) (fun A rm => rm_over1 rm) hC hk hx (hrow it kk l p) (fun m => ?_) vs out RG' m0 hrows S' A h₀ Z R h' gs d t os rm hZ F2 hG
  intro A2 h2 Z2 R2 h3 gs3 d3 t3 os3 rm3 hZ3 F3 hG3
  refine s_pop _ _ A2 _ [] _ _ (.ok .next) _ rfl _ _ _ _ _ _ _ (hcb A2 .next _ _ ?_)
  refine s_end _ _ A2 _ _ _ (.ok (.ret .none)) _ rfl ?_
  exact ⟨rfl, [], h3, gs3, t3, rfl, Fm.cutC F3, .nil, fun _ h => nomatch h⟩
end
end
section
open PySem PySem.W PySem.W.X PySem.Calls PyProof.Rows PySem.Builtin
local macro_rules | `(tactic| wtm_at "xname") => rd "(rules n_freeD)"
local macro_rules | `(tactic| wtm_at "x1") => rd "(rules EqNone.eq_none_str EqMixed.eq_int_str)"
section
variable {W : Wd} {C f it : Addr} {qual : Str} {pm cv ctv : Value} {Zn : List Ent} {n : Nat} {sel : Value → Bool} {fs' : List Frame} {v : Value} {px : Pos} {body : List Stmt} {env : Env}
theorem row6 {kk : Result → Sem Fin} {lv : List Value} {c₁ : Code} {p : Pos} (hfs : fs' = [.ret kk none false lv c₁ p []])
    (he : env = callEnv (fdM S6 "select_child" qual [] pm cv ctv) C f) (hb : body = forBody (bAt (bodyOf S6) 0)) {l : Addr} {items : List Value} (hl : (l, lsO items) ∈ Zn) (RGo : List Ent) (tl : List Value) (m : Str → Option Value) (H' : Value → Sem Fin)
    (hafter : ∀ m', Go W Zn n (.forLoop (.Name "elem" px) (.ref it) body [] env) (.pure (.again (.forLoop (.Name "elem" px) (.ref it) body [] env))) fs' tl ((C, nsO m') :: RGo) []) :
    Go W Zn n (.forLoop (.Name "elem" px) (.ref it) body [] env) ((execs body env).wrap (Kf (.forLoop (.Name "elem" px) (.ref it) body [] env)) H' id id) fs' (items ++ tl) ((C, nsO (upd m "elem" (.ref l))) :: RGo) [] := by
  intro A h₀ Z R h gs d t os rm hZ F hG
  subst he
  subst hb
  have hL := at_ls.mp (F.atZ (hZ _ hl))
  refine x_execs_cons (x_YieldFrom rfl ?_)
  repeat' (wtm_at "x1")
  refine ⟨l, "list", rfl, let ⟨o, a, b, _⟩ := hL; ⟨o, a, b⟩, by decide, ?_⟩
  refine v_it_list F hL fun it2 h' F' hl' => ?_
  intro kk2 l2 p2 hcb
  have F2 : Fm W h₀ Z (((it2, liO l 0) :: (C, nsO (upd m "elem" (.ref l))) :: RGo) ++ R) h' := F'.perm (List.perm_append_comm (l₂ := [(it2, liO l 0)]))
  refine yf_go (items := items) (tl := tl) (RGo := (C, nsO (upd m "elem" (.ref l))) :: RGo) hl (by subst hfs; rfl) (by subst hfs; rfl) (by subst hfs; rfl) ?_ items 0 rfl A h₀ Z R h' gs d _ os rm hZ F2 hG
  intro A2 h2 Z2 R2 h3 gs3 d3 t3 os3 rm3 hZ3 F3 hG3
  refine s_pop _ _ A2 _ fs' _ _ (.ok (.ret .none)) _ rfl _ _ _ _ _ _ _ (hcb A2 _ _ ?_)
  exact hafter _ A2 h2 Z2 R2 h3 gs3 d3 t3 os3 rm3 hZ3 F3 hG3
theorem body7 {ct : Addr} {tag : Str} {ut : Tok} {px2 : Pos} {it2 : Addr} {fs2 : List Frame} (h5 : (ct, clO (some (.str tag ut))) ∈ Zn) (hfs : splitAtGen fs2 = none) (hfg : fs2.any Frame.guarded = false)
    (hv : ∃ τ p, NodeIs Zn v τ p ∧ sel v = selP7 tag τ) (he : env = callEnv (fdM S7 "select" qual [("tag", ct)] pm cv ctv) C f) (hb : body = forBody (bAt (forBody (bAt (bodyOf S7) 0)) 0)) : HB W C it2 "e" px2 body env fs2 Zn n sel v := by
  intro A h₀ Z R' h gs d t os P m H' rm hZ F
  obtain ⟨τ, p, ⟨f0, dx, mm, tv, u, rfl, n1, n2, n3, n4, n5, n6, n7⟩, hsel⟩ := hv
  have n1' := hZ _ n1
  have n2' := hZ _ n2
  subst he
  subst hb
  rcases n6 with ⟨s, u6, rfl, rfl⟩ | ⟨rfl, rfl | ⟨k6, u6, rfl⟩⟩
  · have e7 : selP7 tag (some s) = (s == tag) := rfl
    cases ht : (s == tag) with
    | true =>
      refine ⟨fun e hP => absurd (hsel.symm.trans e) (by rw [e7, ht]; simp), fun e hP => ?_⟩
      refine x_execs_cons (x_If ?_)
      repeat' (wtm_at "x1")
      refine v_attr (by assumption) n1' n2' n3 lk_fn_tag n4 rfl ?_
      repeat' (wtm_at "x1")
      refine x_execs_cons (x_Yield hfs rfl hfg ?_)
      repeat' (wtm_at "x1")
      intro k l p hk
      exact hP _ _ _ _ _ _ (by assumption) hk
    | false =>
      refine ⟨fun e hP => ?_, fun e hP => absurd (hsel.symm.trans e) (by rw [e7, ht]; simp)⟩
      refine x_execs_cons (x_If ?_)
      repeat' (wtm_at "x1")
      refine v_attr (by assumption) n1' n2' n3 lk_fn_tag n4 rfl ?_
      repeat' (wtm_at "x1")
      exact hP _ _ _ (by assumption)
  · refine ⟨fun _ hP => ?_, fun e => Bool.noConfusion ((hsel.symm.trans e : false = true))⟩
    refine x_execs_cons (x_If ?_)
    repeat' (wtm_at "x1")
    refine v_attr (by assumption) n1' n2' n3 lk_fn_tag n4 rfl ?_
    repeat' (wtm_at "x1")
    exact hP _ _ _ (by assumption)
  · refine ⟨fun _ hP => ?_, fun e => Bool.noConfusion ((hsel.symm.trans e : false = true))⟩
    refine x_execs_cons (x_If ?_)
    repeat' (wtm_at "x1")
    refine v_attr (by assumption) n1' n2' n3 lk_fn_tag n4 rfl ?_
    repeat' (wtm_at "x1")
    exact hP _ _ _ (by assumption)
theorem row7 {kk : Result → Sem Fin} {lv : List Value} {bd : List Stmt} {env1 : Env} {p : Pos} {ct : Addr} {tag : Str} {ut : Tok} (h5 : (ct, clO (some (.str tag ut))) ∈ Zn) (hfs : fs' = [.ret kk none false lv (.func bd env1) p []])
    (he : env = callEnv (fdM S7 "select" qual [("tag", ct)] pm cv ctv) C f) (hb : body = forBody (bAt (bodyOf S7) 0)) {l : Addr} {items : List Value} (hl : (l, lsO items) ∈ Zn) (hit : ∀ v ∈ items, ∃ τ p, NodeIs Zn v τ p ∧ sel v = selP7 tag τ) (RGo : List Ent) (tl : List Value) (m : Str → Option Value) (H' : Value → Sem Fin)
    (hafter : ∀ m', Go W Zn (n + 3) (.forLoop (.Name "elem" px) (.ref it) body [] env) (.pure (.again (.forLoop (.Name "elem" px) (.ref it) body [] env))) fs' tl ((C, nsO m') :: RGo) []) :
    Go W Zn (n + 3) (.forLoop (.Name "elem" px) (.ref it) body [] env) ((execs body env).wrap (Kf (.forLoop (.Name "elem" px) (.ref it) body [] env)) H' id id) fs' (items.filter sel ++ tl) ((C, nsO (upd m "elem" (.ref l))) :: RGo) [] := by
  intro A h₀ Z R h gs d t os rm hZ F hG
  have hL := at_ls.mp (F.atZ (hZ _ hl))
  have he' := he
  subst he
  subst hb
  refine x_execs_cons (x_For rfl ?_)
  repeat' (wtm_at "x1")
  refine v_it_list F hL fun it2 h' F' hl' => ?_
  intro kk2 l2 p2 hcb
  have hne : l ≠ it2 := fun e => F'.zr _ (hZ _ hl) (it2, liO l 0) (by simp) e
  have F2 : Fm W h₀ Z (((C, nsO (upd m "elem" (.ref l))) :: ([(it2, liO l 0)] ++ RGo)) ++ R) h' := F'.perm (by
    simp only [List.cons_append, List.append_assoc, List.nil_append]
    refine List.Perm.cons _ ?_
    exact (List.perm_append_comm (l₁ := RGo ++ R) (l₂ := [(it2, liO l 0)])) |>.symm |>.symm |> fun q => by simpa using q)
  subst hfs
  refine loop_go (n := n + 3) (n₁ := n) (sel := sel) (ok := fun v => ∃ τ p, NodeIs Zn v τ p ∧ sel v = selP7 tag τ) (RGo := RGo) (tl := tl) (fun A rm => rm_over2 rm) rfl rfl rfl (fun v hv => body7 h5 rfl rfl hv he' rfl) (fun m' => ?_) items [(it2, liO l 0)] [] _ hit (.inr rfl) (Src.list hl hne items 0 rfl) A h₀ Z R h' gs d _ os rm hZ F2 hG
  intro A2 h2 Z2 R2 h3 gs3 d3 t3 os3 rm3 hZ3 F3 hG3
  refine s_pop _ _ A2 _ _ _ _ (.ok .next) _ rfl _ _ _ _ _ _ _ (hcb A2 .next _ _ ?_)
  exact hafter _ A2 h2 Z2 R2 h3 gs3 d3 t3 os3 rm3 hZ3 F3 hG3
end
end
section
open PySem PySem.W PySem.W.X PySem.Calls PyProof.Rows PySem.Builtin
theorem code_of_tab {h : Heap} {P : Addr} {q : Str} {cv : Value} (T : TabQ0 h P q) (x : At h P (inT cv)) : CodeQ0 h cv q := by
  obtain ⟨vs, a, b, k⟩ := T
  obtain ⟨o, e, vs', pos, rfl, hc⟩ := x
  rw [a] at e
  have : vs = vs' := by have q := congrArg Obj.data (Option.some.inj e); injection q
  subst this
  exact k pos cv hc
def qTag : Str := "_prepare_tag.<locals>.select"
/-- a select function of _prepare_tag, as a thing that may be called -/
structure SelFn (W : Wd) (Y : List Ent) (f : Addr) (selP : Option Str → Bool) : Prop where
  fn : ∃ fd, (f, fnO fd) ∈ Y
  call : ∀ {A : Around} {E Q : Value → Shared → Prop} {h₀ : Heap} {Z R : List Ent} {h : Heap} {gs : Array GenState} {d : Drawn} {t : Nat} {os : OsState} {r : Addr} {Zn : List Ent} {n : Nat} {vs : List Value} {RG : List Ent} {GG : List GEnt} {sel : Value → Bool},
    A.depth < recursionLimit → (∀ e ∈ Y, e ∈ Z) → Fm W h₀ Z R h → (∀ e ∈ Y, e ∈ Zn) → ItSrc W r Zn n vs RG GG → (∀ v ∈ vs, ∃ τ p, NodeIs Zn v τ p ∧ sel v = selP τ) →
    (∀ a C m0 st h' t', h₀.get? a = none → Gb W Zn (n + 2) (vs.filter sel) ((C, nsO m0) :: RG) GG st → Fm W h₀ ((a, genO gs.size) :: Z) (R ++ [(C, nsO m0)]) h' → Q (.ref a) ⟨h', gs.push st, d, t', os⟩) →
    wpAny (MM W.w) A (call (.ref f) [.none, .ref r]) Q E ⟨h, gs, d, t, os⟩
theorem SelFn.mono {W : Wd} {Y Y' : List Ent} {f : Addr} {selP : Option Str → Bool} (x : SelFn W Y f selP) (h : ∀ e ∈ Y, e ∈ Y') : SelFn W Y' f selP :=
  ⟨let ⟨fd, m⟩ := x.fn; ⟨fd, h _ m⟩, fun hA hZ F hZn S hv q => x.call hA (fun e he => hZ e (h e he)) F (fun e he => hZn e (h e he)) S hv q⟩
section
variable {W : Wd} {Y : List Ent} {f cs ci : Addr} {pm cv ctv : Value}
theorem sel_fn1 (hf : (f, fnO (fdM S1 "select" qTag [("_str", cs), ("_isinstance", ci)] pm cv ctv)) ∈ Y) (ht : (40, inT cv) ∈ Y) (h1 : (ci, clO (some (.builtin "isinstance"))) ∈ Y) (h2 : (cs, clO (some (.type "str"))) ∈ Y) : SelFn W Y f selP1 where
  fn := ⟨_, hf⟩
  call := fun {A E Q h₀ Z R h gs d t os r Zn n vs RG GG sel} hA hZ F hZn S hv q => by
    obtain ⟨o, ho, rfl⟩ := F.atZ (hZ _ hf)
    refine enterG (fd := fdM S1 "select" qTag [("_str", cs), ("_isinstance", ci)] pm cv ctv) (body := bodyOf S1) (binds := [("context", .none), ("result", .ref r)]) F hA ho rfl (code_of_tab F.base.tb.tag (F.atZ (hZ _ ht))).rec rfl (by rfl) (locs (by rfl)) (show ∀ x ∈ (scopeOf S1).names, x.2 ≠ .cell by decide) (by rfl) (by rfl) (by rfl) fun a C h' t' ha F' => ?_
    refine q a C _ _ h' t' ha ?_ F'
    exact for_gb (C := C) (r := r) (ok := fun v => ∃ τ p, NodeIs Zn v τ p ∧ sel v = selP1 τ) (x := "elem") (y := "result") rfl rfl rfl rfl rfl rfl S hv (fun it fs' hfs hfg v hv => body1 (hZn _ h1) (hZn _ h2) hfs hfg hv rfl rfl) (by intro _; rfl)
theorem sel_fn2 (hf : (f, fnO (fdM S2 "select" qTag [("_str", cs), ("_isinstance", ci)] pm cv ctv)) ∈ Y) (ht : (40, inT cv) ∈ Y) (h1 : (ci, clO (some (.builtin "isinstance"))) ∈ Y) (h2 : (cs, clO (some (.type "str"))) ∈ Y) : SelFn W Y f selP2 where
  fn := ⟨_, hf⟩
  call := fun {A E Q h₀ Z R h gs d t os r Zn n vs RG GG sel} hA hZ F hZn S hv q => by
    obtain ⟨o, ho, rfl⟩ := F.atZ (hZ _ hf)
    refine enterG (fd := fdM S2 "select" qTag [("_str", cs), ("_isinstance", ci)] pm cv ctv) (body := bodyOf S2) (binds := [("context", .none), ("result", .ref r)]) F hA ho rfl (code_of_tab F.base.tb.tag (F.atZ (hZ _ ht))).rec rfl (by rfl) (locs (by rfl)) (show ∀ x ∈ (scopeOf S2).names, x.2 ≠ .cell by decide) (by rfl) (by rfl) (by rfl) fun a C h' t' ha F' => ?_
    refine q a C _ _ h' t' ha ?_ F'
    exact for_gb (C := C) (r := r) (ok := fun v => ∃ τ p, NodeIs Zn v τ p ∧ sel v = selP2 τ) (x := "elem") (y := "result") rfl rfl rfl rfl rfl rfl S hv (fun it fs' hfs hfg v hv => body2 (hZn _ h1) (hZn _ h2) hfs hfg hv rfl rfl) (by intro _; rfl)
theorem sel_fn3 {cn cu ct sl : Addr} {tag suf : Str} {ut uu ul : Tok} (hf : (f, fnO (fdM S3 "select" qTag [("tag", ct), ("suffix", cu), ("no_ns", cn), ("_str", cs), ("_isinstance", ci)] pm cv ctv)) ∈ Y) (ht : (40, inT cv) ∈ Y) (h1 : (ci, clO (some (.builtin "isinstance"))) ∈ Y) (h2 : (cs, clO (some (.type "str"))) ∈ Y)
    (h3 : (cn, clO (some (.ref sl))) ∈ Y) (h4 : (cu, clO (some (.str suf uu))) ∈ Y) (h5 : (ct, clO (some (.str tag ut))) ∈ Y) (hsl : (sl, slcO (.int (-(suf.length : Int)) ul) .none) ∈ Y) : SelFn W Y f (selP3 tag suf) where
  fn := ⟨_, hf⟩
  call := fun {A E Q h₀ Z R h gs d t os r Zn n vs RG GG sel} hA hZ F hZn S hv q => by
    obtain ⟨o, ho, rfl⟩ := F.atZ (hZ _ hf)
    refine enterG (fd := fdM S3 "select" qTag [("tag", ct), ("suffix", cu), ("no_ns", cn), ("_str", cs), ("_isinstance", ci)] pm cv ctv) (body := bodyOf S3) (binds := [("context", .none), ("result", .ref r)]) F hA ho rfl (code_of_tab F.base.tb.tag (F.atZ (hZ _ ht))).rec rfl (by rfl) (locs (by rfl)) (show ∀ x ∈ (scopeOf S3).names, x.2 ≠ .cell by decide) (by rfl) (by rfl) (by rfl) fun a C h' t' ha F' => ?_
    refine q a C _ _ h' t' ha ?_ F'
    exact for_gb (C := C) (r := r) (ok := fun v => ∃ τ p, NodeIs Zn v τ p ∧ sel v = selP3 tag suf τ) (x := "elem") (y := "result") rfl rfl rfl rfl rfl rfl S hv (fun it fs' hfs hfg v hv => body3 (hZn _ h1) (hZn _ h2) (hZn _ h3) (hZn _ h4) (hZn _ h5) (hZn _ hsl) hfs hfg hv rfl rfl) (by intro _; rfl)
theorem sel_fn4 {cn cu sl : Addr} {nsv : Str} {uu ul : Tok} (hf : (f, fnO (fdM S4 "select" qTag [("ns_only", cn), ("ns", cu), ("_str", cs), ("_isinstance", ci)] pm cv ctv)) ∈ Y) (ht : (40, inT cv) ∈ Y) (h1 : (ci, clO (some (.builtin "isinstance"))) ∈ Y) (h2 : (cs, clO (some (.type "str"))) ∈ Y)
    (h3 : (cn, clO (some (.ref sl))) ∈ Y) (h4 : (cu, clO (some (.str nsv uu))) ∈ Y) (hsl : (sl, slcO .none (.int (nsv.length : Int) ul)) ∈ Y) : SelFn W Y f (selP4 nsv) where
  fn := ⟨_, hf⟩
  call := fun {A E Q h₀ Z R h gs d t os r Zn n vs RG GG sel} hA hZ F hZn S hv q => by
    obtain ⟨o, ho, rfl⟩ := F.atZ (hZ _ hf)
    refine enterG (fd := fdM S4 "select" qTag [("ns_only", cn), ("ns", cu), ("_str", cs), ("_isinstance", ci)] pm cv ctv) (body := bodyOf S4) (binds := [("context", .none), ("result", .ref r)]) F hA ho rfl (code_of_tab F.base.tb.tag (F.atZ (hZ _ ht))).rec rfl (by rfl) (locs (by rfl)) (show ∀ x ∈ (scopeOf S4).names, x.2 ≠ .cell by decide) (by rfl) (by rfl) (by rfl) fun a C h' t' ha F' => ?_
    refine q a C _ _ h' t' ha ?_ F'
    exact for_gb (C := C) (r := r) (ok := fun v => ∃ τ p, NodeIs Zn v τ p ∧ sel v = selP4 nsv τ) (x := "elem") (y := "result") rfl rfl rfl rfl rfl rfl S hv (fun it fs' hfs hfg v hv => body4 (hZn _ h1) (hZn _ h2) (hZn _ h3) (hZn _ h4) (hZn _ hsl) hfs hfg hv rfl rfl) (by intro _; rfl)
end
end
section
open PySem PySem.W PySem.W.X PySem.Calls PyProof.Rows PySem.Builtin
theorem mro_slice : mroOf (.type "slice") = pure [.type "slice", .type "object"] := by rw [mroOf_type]; kernel_rfl
theorem lk_slice_new : typeLookup (.type "slice") "__new__" = pure (some (.builtin "slice.__new__")) := by rw [typeLookup_type, builtinLookup_eq_fast]; kernel_rfl
theorem sl_slice_init : Slot "slice" "__init__" "object.__init__" := .of (owner := "object") (n := "__init__") (by rw [typeLookup_type, builtinLookup_eq_fast]; kernel_rfl) (by decide +kernel) (by decide +kernel) (by decide +kernel)
    (by first | exact .inl (by decide +kernel) | exact .inr (by decide +kernel)) (by rw [isSubtype_type]; kernel_rfl)
theorem sub_slice : isSubtype (.type "slice") (.type "slice") = pure true := by rw [isSubtype_type]; kernel_rfl
theorem cl_slice : TypeCalled "slice" "slice.__new__" "object.__init__" :=
  ⟨by decide +kernel, by decide +kernel, ⟨_, _, mro_slice⟩, madeBy_type mro_slice lk_slice_new (by decide +kernel), by decide +kernel, sub_slice, sl_slice_init⟩
theorem tc_slice (a b : Value) : checkTypeCall "slice" ⟨[a, b], []⟩ = pure () := by kernel_rfl
theorem nc_slice (a b : Value) : checkBuiltinCall "slice.__new__" ⟨[.type "slice", a, b], []⟩ = pure () := by kernel_rfl
theorem en_slice : entryFor table "slice.__new__" = some Builtin.«slice.__new__» := entryFor_of_tree (by kernel_rfl)
theorem ms_slice (a b : Value) : Meets (Builtin.«slice.__new__» ⟨[.type "slice", a, b], []⟩) (fun _ R s => R (.ok (.ret (.ref s.heap.objs.size))) { s with heap := s.heap.push { cls := .type "slice", data := .fields #[a, b, .none] } }) := by
  refine Meets.of_wp fun prog w A R s hs => ?_
  unfold Builtin.«slice.__new__»
  have e1 : isType (.type "slice") = pure true := by rfl
  dsimp only
  refine wpAny_bind (wpAny_of_eq e1 ?_)
  simp only [Bool.not_true, Bool.false_eq_true, if_false]
  repeat (first | (with_reducible refine wpAny_of_eq sub_slice ?_) | wp_step)
  exact ⟨_, rfl, hs⟩
theorem isWild_of {y : Str} (h : isWildB y = true) : (Txt.slice y none (some 3) == Str.ofString "{*}") = true ∨ (Txt.slice y (some (-2)) none == Str.ofString "}*") = true := by
  unfold isWildB at h
  simpa using h
def selOf (y : Str) : Option Str → Bool :=
  if y == Str.ofString "{*}*" then selP1 else if y == Str.ofString "{}*" then selP2 else if Txt.slice y none (some 3) == Str.ofString "{*}" then selP3 (Txt.slice y (some 3) none) (Txt.slice y (some 2) none) else selP4 (Txt.slice y none (some (-1)))
section
variable {W : Wd} {A : Around} {E : Value → Shared → Prop} {h₀ h : Heap} {gs : Array GenState} {d : Drawn} {t : Nat} {os : OsState} {Z R R' : List Ent} {Q : Value → Shared → Prop}
theorem v_slice2 {a b : Value} (F : Fm W h₀ Z R h) (q : ∀ sl h', h₀.get? sl = none → Fm W h₀ ((sl, slcO a b) :: Z) R h' → Q (.ref sl) ⟨h', gs, d, t, os⟩) : wpAny (MM W.w) A (call (.type "slice") [a, b]) Q E ⟨h, gs, d, t, os⟩ := by
  refine callType_new cl_slice (by decide) (tc_slice _ _) (nc_slice _ _) (fun obj => PySem.F.initArgs_range_2 obj _ _) en_slice (ms_slice a b) ⟨⟨_, Heap.get?_push_size _ rfl, rfl⟩, ?_⟩
  have ⟨x, y⟩ := F.newZ (φ := slcO a b) { cls := .type "slice", data := .fields #[a, b, .none] } rfl nrm_slc ⟨rfl, rfl⟩
  exact q _ _ x y
theorem Fm.frzT (F : Fm W h₀ Z (R ++ R') h) : Fm W h₀ (R' ++ Z) R h where
  base := F.base
  kp := F.kp
  base₀ := F.base₀
  z := fun e he => by
    rcases List.mem_append.mp he with he | he
    · have := F.r e (List.mem_append.mpr (.inr he))
      exact ⟨this.1, stb_nrm this.2⟩
    · exact F.z e he
  r := fun e he => F.r e (List.mem_append.mpr (.inl he))
  rf := fun e he => F.rf e (List.mem_append.mpr (.inl he))
  rn := by have := F.rn; simp only [List.map_append, List.nodup_append] at this; exact this.1
  zr := fun e he e' he' => by
    rcases List.mem_append.mp he with he | he
    · have := F.rn
      simp only [List.map_append, List.nodup_append] at this
      exact (this.2.2 e'.1 (List.mem_map_of_mem he') e.1 (List.mem_map_of_mem he)).symm
    · exact F.zr e he e' (List.mem_append.mpr (.inl he'))
theorem Fm.addZ {a : Addr} {φ : Obj → Prop} (F : Fm W h₀ Z R h) (hat : At h a φ) (hs : stb φ) (hne : ∀ e ∈ R, a ≠ e.1) : Fm W h₀ ((a, φ) :: Z) R h where
  base := F.base
  kp := F.kp
  base₀ := F.base₀
  z := fun e he => by
    rcases List.mem_cons.mp he with rfl | he
    · exact ⟨hat, hs⟩
    · exact F.z e he
  r := F.r
  rf := F.rf
  rn := F.rn
  zr := fun e he e' he' => by
    rcases List.mem_cons.mp he with rfl | he
    · exact hne e' he'
    · exact F.zr e he e' he'
def FrT (h : Heap) (Z : List Ent) : Prop := ∀ e ∈ Z, h.get? e.1 = none ∨ e.1 ∈ tabA
theorem FrT.nil : FrT h [] := fun _ h => nomatch h
theorem FrT.cons {a : Addr} {φ : Obj → Prop} (ha : h.get? a = none ∨ a ∈ tabA) (hz : FrT h Z) : FrT h ((a, φ) :: Z) := fun e he => by
  rcases List.mem_cons.mp he with rfl | he
  · exact ha
  · exact hz e he
theorem FrT.all {h' : Heap} {e₀ : Ent} (G : Fm W h Z (e₀ :: R') h') (hz : FrT h Z) : FrT h (R' ++ Z) := fun e he => by
  rcases List.mem_append.mp he with he | he
  · exact .inl (G.rf e (List.mem_cons_of_mem _ he))
  · exact hz e he
theorem tab_ne (F : Fm W h₀ Z R h) {a : Addr} (ha : a ∈ tabA) : ∀ e ∈ R, a ≠ e.1 := fun e he z => by
  obtain ⟨o, eo⟩ := tab_there F.base₀ ha
  rw [z, F.rf e he] at eo; cases eo
end
local macro_rules | `(tactic| wtm_at "xname") => rd "(places n_cellD 1 2 3 4 5 6 7)"
local macro_rules | `(tactic| wtm_at "x1") => rd "(do (wp (storeName _ _ _)) (places n_storeCD 1 2 3 4 5 6 7) (intro 2))
  (do (wp (call (Value.type %slice) (list _ _))) (wr (refine (v_slice2 ! ?))) (intro 4))
  (do (wp (exec (Stmt.FunctionDef _ _ _ _ _ _ _ _ _ _) _)) (wr (refine (nestDef_K ~ ~ ~ ?))))"
section
variable {W : Wd} {A : Around} {E : Value → Shared → Prop} {h₀ h : Heap} {gs : Array GenState} {d : Drawn} {t : Nat} {os : OsState} {Z R : List Ent} {Q : Value → Shared → Prop}
theorem k_prep {y : Str} {uy : Tok} (F : Fm W h₀ Z R h) (rm : Rm 1 A) (hy : y.length ≤ 1000) (hw : isWildB y = true)
    (q : ∀ f Y h' t', SelFn W Y f (selOf y) → FrT h₀ Y → Fm W h₀ (Y ++ Z) R h' → Q (.ref f) ⟨h', gs, d, t', os⟩) :
    wpAny (MM W.w) A (call (.ref 45) [.str y uy]) Q E ⟨h, gs, d, t, os⟩ := by
  refine enterC (Z := []) (fd := fdPT) (body := bodyOf (stAt 3)) (binds := [("tag", .str y uy)]) F.base .nil rm.depth (F.base.K 45 _ (kf_PT _)) rfl (cr_PT F.base) (by rfl) (by rfl) (by rfl) (by intro L x hx; simp only [List.mem_cons, List.not_mem_nil, or_false] at hx; subst hx; exact .inr ⟨rfl, rfl⟩) (by decide) (by rfl) (by rfl) (by rfl) ?_
  intro L h₁ t₁ G
  with_reducible refine noE fun E1 => ?_
  have G : Fm W h [] [(L, nsO (bindL (callEnvC fdPT L 45).kindOf [("tag", .str y uy)] fun _ => none)), (L + 1, clO (some (.str y uy))), (L + 2, clO none), (L + 3, clO none), (L + 4, clO none), (L + 5, clO none), (L + 6, clO none), (L + 7, clO none)] h₁ := G
  refine x_cons ?_
  repeat' (wtm_at "x1")
  · have G9 := Fm.here (by assumption)
    refine v_make (c := 44) (P := 40) (qual := qTag) G9 (by rfl) (by rfl) (by rfl) (hd_PT G9.base) G9.base.tb.tag (nk_40 _) fit_40 (by rfl) ?_
    intro f cv ctv h2 t2 hcv hin G10
    simp only [List.cons_append, List.nil_append] at G10
    have G10 := Fm.addZ G10 hin stb_inT (tab_ne G10 (by decide))
    repeat' (wtm_at "x1")
    have G11 := Fm.here (by assumption)
    show Q (.ref f) _
    have G12 := Fm.frzT (R := [_]) (R' := [_, _, _, _, _, _, _, _]) G11
    have hfr := FrT.all G11 (.cons (.inr (by decide)) (.cons (.inl (by assumption)) .nil))
    refine q f _ _ _ ?_ (fun e he => (hfr e he).imp F.kp.there id) (F.retT _ G12 fun e he => ⟨he, hfr e he⟩)
    have hb := (by assumption : (y == Str.ofString "{*}*") = true)
    rw [show selOf y = selP1 by unfold selOf; rw [if_pos hb]]
    exact sel_fn1 (cs := L + 3) (ci := L + 2) (List.mem_append_left _ (List.mem_of_getElem? (i := 7) rfl)) (List.mem_append_right _ List.mem_cons_self) (List.mem_append_left _ (List.mem_of_getElem? (i := 1) rfl)) (List.mem_append_left _ (List.mem_of_getElem? (i := 2) rfl))
  · have G9 := Fm.here (by assumption)
    refine v_make (c := 44) (P := 40) (qual := qTag) G9 (by rfl) (by rfl) (by rfl) (hd_PT G9.base) G9.base.tb.tag (nk_40 _) fit_40 (by rfl) ?_
    intro f cv ctv h2 t2 hcv hin G10
    simp only [List.cons_append, List.nil_append] at G10
    have G10 := Fm.addZ G10 hin stb_inT (tab_ne G10 (by decide))
    repeat' (wtm_at "x1")
    have G11 := Fm.here (by assumption)
    show Q (.ref f) _
    have G12 := Fm.frzT (R := [_]) (R' := [_, _, _, _, _, _, _, _]) G11
    have hfr := FrT.all G11 (.cons (.inr (by decide)) (.cons (.inl (by assumption)) .nil))
    refine q f _ _ _ ?_ (fun e he => (hfr e he).imp F.kp.there id) (F.retT _ G12 fun e he => ⟨he, hfr e he⟩)
    have hb := (by assumption : (y == Str.ofString "{*}*") = false)
    have hb2 := (by assumption : (y == Str.ofString "{}*") = true)
    rw [show selOf y = selP2 by unfold selOf; rw [if_neg (by rw [hb]; exact Bool.false_ne_true), if_pos hb2]]
    exact sel_fn2 (cs := L + 3) (ci := L + 2) (List.mem_append_left _ (List.mem_of_getElem? (i := 7) rfl)) (List.mem_append_right _ List.mem_cons_self) (List.mem_append_left _ (List.mem_of_getElem? (i := 1) rfl)) (List.mem_append_left _ (List.mem_of_getElem? (i := 2) rfl))
  · have G9 := Fm.here (by assumption)
    refine v_make (c := 44) (P := 40) (qual := qTag) G9 (by rfl) (by rfl) (by rfl) (hd_PT G9.base) G9.base.tb.tag (nk_40 _) fit_40 (by rfl) ?_
    intro f cv ctv h2 t2 hcv hin G10
    simp only [List.cons_append, List.nil_append] at G10
    have G10 := Fm.addZ G10 hin stb_inT (tab_ne G10 (by decide))
    repeat' (wtm_at "x1")
    have G11 := Fm.here (by assumption)
    show Q (.ref f) _
    have G12 := Fm.frzT (R := [_]) (R' := [_, _, _, _, _, _, _, _]) G11
    have hfr := FrT.all G11 (.cons (.inr (by decide)) (.cons (.inl (by assumption)) (.cons (.inl (by assumption)) .nil)))
    refine q f _ _ _ ?_ (fun e he => (hfr e he).imp F.kp.there id) (F.retT _ G12 fun e he => ⟨he, hfr e he⟩)
    have hb := (by assumption : (y == Str.ofString "{*}*") = false)
    have hb2 := (by assumption : (y == Str.ofString "{}*") = false)
    have hb3 := (by assumption : (Txt.slice y none (some 3) == Str.ofString "{*}") = true)
    rw [show selOf y = selP3 (Txt.slice y (some 3) none) (Txt.slice y (some 2) none) by unfold selOf; rw [if_neg (by rw [hb]; exact Bool.false_ne_true), if_neg (by rw [hb2]; exact Bool.false_ne_true), if_pos hb3]]
    exact sel_fn3 (cs := L + 3) (ci := L + 2) (cn := L + 4) (cu := L + 7) (ct := L + 1) (List.mem_append_left _ (List.mem_of_getElem? (i := 7) rfl)) (List.mem_append_right _ List.mem_cons_self) (List.mem_append_left _ (List.mem_of_getElem? (i := 1) rfl)) (List.mem_append_left _ (List.mem_of_getElem? (i := 2) rfl)) (List.mem_append_left _ (List.mem_of_getElem? (i := 3) rfl)) (List.mem_append_left _ (List.mem_of_getElem? (i := 6) rfl)) (List.mem_append_left _ (List.mem_of_getElem? (i := 0) rfl)) (List.mem_append_right _ (List.mem_cons_of_mem _ List.mem_cons_self))
  · have G9 := Fm.here (by assumption)
    refine v_make (c := 44) (P := 40) (qual := qTag) G9 (by rfl) (by rfl) (by rfl) (hd_PT G9.base) G9.base.tb.tag (nk_40 _) fit_40 (by rfl) ?_
    intro f cv ctv h2 t2 hcv hin G10
    simp only [List.cons_append, List.nil_append] at G10
    have G10 := Fm.addZ G10 hin stb_inT (tab_ne G10 (by decide))
    repeat' (wtm_at "x1")
    have G11 := Fm.here (by assumption)
    show Q (.ref f) _
    have G12 := Fm.frzT (R := [_]) (R' := [_, _, _, _, _, _, _, _]) G11
    have hfr := FrT.all G11 (.cons (.inr (by decide)) (.cons (.inl (by assumption)) (.cons (.inl (by assumption)) .nil)))
    refine q f _ _ _ ?_ (fun e he => (hfr e he).imp F.kp.there id) (F.retT _ G12 fun e he => ⟨he, hfr e he⟩)
    have hb := (by assumption : (y == Str.ofString "{*}*") = false)
    have hb2 := (by assumption : (y == Str.ofString "{}*") = false)
    have hb3 := (by assumption : (Txt.slice y none (some 3) == Str.ofString "{*}") = false)
    rw [show selOf y = selP4 (Txt.slice y none (some (-1))) by unfold selOf; rw [if_neg (by rw [hb]; exact Bool.false_ne_true), if_neg (by rw [hb2]; exact Bool.false_ne_true), if_neg (by rw [hb3]; exact Bool.false_ne_true)]]
    exact sel_fn4 (cs := L + 3) (ci := L + 2) (cn := L + 6) (cu := L + 5) (List.mem_append_left _ (List.mem_of_getElem? (i := 7) rfl)) (List.mem_append_right _ List.mem_cons_self) (List.mem_append_left _ (List.mem_of_getElem? (i := 1) rfl)) (List.mem_append_left _ (List.mem_of_getElem? (i := 2) rfl)) (List.mem_append_left _ (List.mem_of_getElem? (i := 5) rfl)) (List.mem_append_left _ (List.mem_of_getElem? (i := 4) rfl)) (List.mem_append_right _ (List.mem_cons_of_mem _ List.mem_cons_self))
  · exfalso
    have hb := (by assumption : (Txt.slice y none (some 3) == Str.ofString "{*}") = false)
    have hb2 := (by assumption : (Txt.slice y (some (-2)) none == Str.ofString "}*") = false)
    rcases isWild_of hw with e | e
    · rw [hb] at e; cases e
    · rw [hb2] at e; cases e
end
end
section
open PySem PySem.W PySem.W.X PySem.Calls PyProof.Rows PySem.Builtin
def codO (q : Str) (o : Obj) : Prop := o.cls = .type "code" ∧ ∃ vs t, o.data = .fields vs ∧ vs[1]? = some (.str q t)
theorem stb_cod {q : Str} : stb (codO q) := fun vs more ⟨e, _⟩ => by cases e
theorem cod_of {h : Heap} {cv : Value} {q : Str} (x : CodeQ0 h cv q) : ∃ c, cv = .ref c ∧ At h c (codO q) := let ⟨c, o, vs, t, a, b, d, e, r⟩ := x; ⟨c, a, o, b, d, vs, t, e, r⟩
theorem of_cod {h : Heap} {c : Addr} {q : Str} (x : At h c (codO q)) : CodeQ0 h (.ref c) q := let ⟨o, b, d, vs, t, e, r⟩ := x; ⟨c, o, vs, t, rfl, b, d, e, r⟩
section
variable {W : Wd} {A : Around} {E : Value → Shared → Prop} {h₀ h : Heap} {gs : Array GenState} {d : Drawn} {t : Nat} {os : OsState} {Z R : List Ent} {Q : Value → Shared → Prop}
theorem cod_ne {c : Addr} {q : Str} (F : Fm W h₀ Z R h) (x : At h c (codO q)) : ∀ e ∈ R, c ≠ e.1 := fun e he z => by
  obtain ⟨o, e1, hc, vs, _, hd, _⟩ := x
  obtain ⟨⟨o', e2, p⟩, n⟩ := F.r e he
  rw [← z, e1] at e2; cases e2
  exact (n o p vs hd).2 hc
theorem kept_fnO {f : Addr} {fd : FuncData} (x : At h f (fnO fd)) : Kept W.w h (.ref f) := by
  obtain ⟨o, e, rfl⟩ := x
  exact kept_fn e rfl
end
theorem push_old {gs : Array GenState} {x y : GenState} {i : Nat} (hi : i ≠ gs.size) (h : (gs.push x)[i]? = some y) : gs[i]? = some y := by
  rw [Array.getElem?_push, if_neg hi] at h
  exact h
/-- a select function of prepare_child -/
structure ChildFn (W : Wd) (Y : List Ent) (f : Addr) (selP : Option Str → Bool) : Prop where
  fn : ∃ fd, (f, fnO fd) ∈ Y
  call : ∀ {A : Around} {E Q : Value → Shared → Prop} {h₀ : Heap} {Z R : List Ent} {h : Heap} {gs : Array GenState} {d : Drawn} {t : Nat} {os : OsState} {r : Addr} {Zn : List Ent} {vs out : List Value} {sel : Value → Bool},
    Rm 2 A → (∀ e ∈ Y, e ∈ Zn) → (∀ e ∈ Zn, e ∈ Z) → Fm W h₀ Z R h → (r, lsO vs) ∈ Zn → Rows Zn (fun v => ∃ τ p, NodeIs Zn v τ p ∧ sel v = selP τ) vs out →
    (∀ a g Zn' RG GG Z' gs' h' t', (∀ e ∈ Z, e ∈ Z') → (∀ e ∈ Zn', e ∈ Z') → (a, genO g) ∈ Zn' → Src W a Zn' 12 (out.filter sel) RG GG → GenPre GG gs' → (∀ i y, i ∉ GG.map (·.1) → gs'[i]? = some y → gs[i]? = some y) → Fm W h₀ Z' (R ++ RG) h' → Q (.ref a) ⟨h', gs', d, t', os⟩) →
    wpAny (MM W.w) A (call (.ref f) [.none, .ref r]) Q E ⟨h, gs, d, t, os⟩
section
variable {W : Wd} {Y : List Ent} {f ct : Addr} {pm cv ctv : Value}
theorem qsel_code {h : Heap} {cv : Value} (B : Base W h) (x : At h 47 (inT cv)) : CodeQ1 W h cv qSel qSelC := by
  obtain ⟨vs, a, b, k⟩ := B.tb.child
  obtain ⟨o, e, vs', pos, rfl, hc⟩ := x
  rw [a] at e
  have : vs = vs' := by have q := congrArg Obj.data (Option.some.inj e); injection q
  subst this
  exact k pos cv hc
theorem child_fn7 {tag : Str} {ut : Tok} (hf : (f, fnO (fdM S7 "select" qSel [("tag", ct)] pm cv ctv)) ∈ Y) (ht : (47, inT cv) ∈ Y) (h5 : (ct, clO (some (.str tag ut))) ∈ Y) : ChildFn W Y f (selP7 tag) where
  fn := ⟨_, hf⟩
  call := fun {A E Q h₀ Z R h gs d t os r Zn vs out sel} rm hY hZ F hr hrows q => by
    obtain ⟨o, ho, rfl⟩ := F.atZ (hZ _ (hY _ hf))
    refine enterG (fd := fdM S7 "select" qSel [("tag", ct)] pm cv ctv) (body := bodyOf S7) (binds := [("context", .none), ("result", .ref r)]) F rm.depth ho rfl (qsel_code F.base (F.atZ (hZ _ (hY _ ht)))).1.rec rfl (by rfl) (locs (by rfl)) (show ∀ x ∈ (scopeOf S7).names, x.2 ≠ .cell by decide) (by rfl) (by rfl) (by rfl) fun a C h' t' ha F' => ?_
    have hm : ∀ e ∈ Zn, e ∈ (a, genO gs.size) :: Zn := fun e he => List.mem_cons_of_mem _ he
    have gb : Gb W ((a, genO gs.size) :: Zn) 11 (out.filter sel) [(C, nsO fun x => List.lookup x [((Str.ofString "context"), Value.none), ((Str.ofString "result"), .ref r)].reverse)] [] (.fresh (.func (bodyOf S7) (callEnv (fdM S7 "select" qSel [("tag", ct)] pm cv ctv) C f))) :=
      rows_gb (n := 9) (C := C) (r := r) (vs := vs) (ok := fun v => ∃ τ p, NodeIs ((a, genO gs.size) :: Zn) v τ p ∧ sel v = selP7 tag τ) (x := "elem") (y := "result") rfl rfl rfl rfl rfl rfl (hm _ hr) (hrows.mono hm fun v ⟨τ, p, hn, hs⟩ => ⟨τ, p, hn.mono hm, hs⟩)
        (fun it kk lv p l items hl hit RGo tl m H' ha => row7 (n := 8) (hm _ (hY _ h5)) rfl rfl rfl hl hit RGo tl m H' ha) (by intro _; rfl)
    exact q a gs.size _ _ _ _ _ h' t' (fun e he => List.mem_cons_of_mem _ he) (fun e he => (List.mem_cons.mp he).elim (fun e1 => e1 ▸ List.mem_cons_self) fun he => List.mem_cons_of_mem _ (hZ e he)) List.mem_cons_self (Src.gen List.mem_cons_self _ _ [] _ (by simp) gb) (fun p hp => by
      rw [List.mem_singleton.mp hp]; exact Array.getElem?_push_size) (fun i y hi hy => push_old (by simpa using hi) hy) F'
end
theorem Gb.mono {W : Wd} {Zn Zn' : List Ent} {n : Nat} (hs : ∀ e ∈ Zn, e ∈ Zn') {vs : List Value} : ∀ {RG : List Ent} {GG : List GEnt} {st : GenState}, Gb W Zn n vs RG GG st → Gb W Zn' n vs RG GG st := by
  induction vs with
  | nil =>
    rintro RG GG st ⟨c, t, fs, a, b⟩
    exact ⟨c, t, fs, a, fun A h₀ Z R h gs d t os rm hZ F hG => b A h₀ Z R h gs d t os rm (fun e he => hZ e (hs e he)) F hG⟩
  | cons v vs ih =>
    rintro RG GG st ⟨c, t, fs, a, b⟩
    refine ⟨c, t, fs, a, fun A h₀ Z R h gs d t os rm hZ F hG => (b A h₀ Z R h gs d t os rm (fun e he => hZ e (hs e he)) F hG).mono fun e s H => ?_⟩
    obtain ⟨l, k, c, p, fs, RG', GG', h', gs', t', e1, e2, e3, e4, e5⟩ := H
    exact ⟨l, k, c, p, fs, RG', GG', h', gs', t', e1, e2, e3, e4, ih e5⟩
theorem Rows.all {Z : List Ent} {ok : Value → Prop} {vs out : List Value} (x : Rows Z ok vs out) : ∀ v ∈ out, ok v := by
  induction x with
  | nil => exact fun _ h => nomatch h
  | cons _ b _ ih => exact fun v hv => (List.mem_append.mp hv).elim (b v) (ih v)
theorem Fm.retR {W : Wd} {h₀ h h' : Heap} {Z R Z' R1 Y : List Ent} (Yz : List Ent) (F : Fm W h₀ Z R h) (G : Fm W h Z' (R1 ++ Y) h') (hYz : ∀ e ∈ Yz, e ∈ Z' ∧ h.get? e.1 = none) : Fm W h₀ (Yz ++ Z) (R ++ Y) h' := by
  have F1 := F.add (Y := Y) G.kp G.base (fun e he => G.r e (List.mem_append_right _ he)) (fun e he => G.rf e (List.mem_append_right _ he)) (by have := G.rn; simp only [List.map_append, List.nodup_append] at this; exact this.2.1)
  exact { F1 with
    z := fun e he => (List.mem_append.mp he).elim (fun he => G.z e (hYz e he).1) (F1.z e)
    zr := fun e he e' he' => (List.mem_append.mp he).elim (fun he => (List.mem_append.mp he').elim (fun he' => ((F.r e' he').1.ne (hYz e he).2).symm) fun he' => G.zr e (hYz e he).1 e' (List.mem_append_right _ he')) fun he => F1.zr e he e' he' }
local macro_rules | `(tactic| wtm_at "xname") => rd "(rules n_freeD)"
local macro_rules | `(tactic| wtm_at "x1") => rd "(rules EqNone.eq_none_str EqMixed.eq_int_str)"
section
variable {W : Wd} {Y : List Ent} {f ct : Addr} {pm cv ctv : Value}
theorem qn5 (clos : List (Str × Addr)) (pm cv ctv : Value) (L f : Addr) : qualnameIn (callEnv (fdM S5 "select" qSel clos pm cv ctv) L f) "select_child" "select_child" = qSelC := by kernel_rfl
theorem child_fn5 {cst g0 : Addr} {selP : Option Str → Bool} (hf : (f, fnO (fdM S5 "select" qSel [("select_tag", cst)] pm cv ctv)) ∈ Y) (ht : (47, inT cv) ∈ Y) (hc : (cst, clO (some (.ref g0))) ∈ Y) (S : SelFn W Y g0 selP) : ChildFn W Y f selP where
  fn := ⟨_, hf⟩
  call := fun {A E Q h₀ Z R h gs d t os r Zn vs out sel} rm hY hZ F hr hrows q => by
    obtain ⟨o, ho, rfl⟩ := F.atZ (hZ _ (hY _ hf))
    have hcZ := hZ _ (hY _ hc)
    refine enter (Z := Z) (fd := fdM S5 "select" qSel [("select_tag", cst)] pm cv ctv) (body := bodyOf S5) (binds := [("context", .none), ("result", .ref r)]) F.base F.z rm.depth ho rfl (qsel_code F.base (F.atZ (hZ _ (hY _ ht)))).1.rec rfl (by rfl) (locs (by rfl)) (show ∀ x ∈ (scopeOf S5).names, x.2 ≠ .cell by decide) (by rfl) (by rfl) (by rfl) ?_
    intro L h₁ t₁ G
    refine x_cons (nestDef_K (by rfl) (by rfl) (by rfl) ?_)
    rw [qn5]
    obtain ⟨-, c, P, rfl, hC, ⟨hP, hK⟩, hT⟩ := qsel_code G.base (G.atZ (hZ _ (hY _ ht)))
    refine v_make (c := c) (P := P) (qual := qSelC) G (by rfl) (by rfl) (by rfl) hC hT hK (fit_P hP) (by rfl) ?_
    intro f2 cv2 ctv2 h2 t2 hcv2 hin2 G2
    simp only [List.cons_append, List.nil_append] at G2
    obtain ⟨c2, rfl, hat2⟩ := cod_of hcv2
    have G3 := Fm.addZ G2 hat2 stb_cod (cod_ne G2 hat2)
    clear G2 hcv2 hin2 G hat2
    repeat' (wtm_at "x1")
    refine And.intro (kept_fnO (Fm.at (i := 1) (by assumption) rfl)) ?_
    have G5 := Fm.here (by assumption)
    obtain ⟨o2, ho2, rfl⟩ := G5.at (i := 1) rfl
    refine enterG (fd := fdM S6 "select_child" qSelC [] ((W.mg "__name__").getD .none) (.ref c2) ctv2) (body := bodyOf S6) (binds := [("result", .ref r)]) G5 (by have := rm.d; show A.depth + 1 < _; omega) ho2 rfl (of_cod (G5.atZ List.mem_cons_self)).rec rfl (by rfl) (locs (by rfl)) (show ∀ x ∈ (scopeOf S6).names, x.2 ≠ .cell by decide) (by rfl) (by rfl) (by rfl) fun a1 C1 h5 t5 ha1 F5 => ?_
    simp only [List.cons_append, List.nil_append] at F5
    repeat' (wtm_at "x1")
    obtain ⟨fg, hfg⟩ := S.fn
    refine And.intro (kept_fnO (F5.atZ (List.mem_cons_of_mem _ (List.mem_cons_of_mem _ (hZ _ (hY _ hfg)))))) ?_
    have hm1 : ∀ e ∈ Zn, e ∈ (a1, genO gs.size) :: Zn := fun e he => List.mem_cons_of_mem _ he
    have hsub : ∀ e ∈ (a1, genO gs.size) :: Zn, e ∈ (a1, genO gs.size) :: (c2, codO qSelC) :: Z := fun e he => (List.mem_cons.mp he).elim (fun e1 => e1 ▸ List.mem_cons_self) fun he => List.mem_cons_of_mem _ (List.mem_cons_of_mem _ (hZ e he))
    have gb1 : Gb W ((a1, genO gs.size) :: Zn) 8 out [(C1, nsO fun x => List.lookup x [((Str.ofString "result"), Value.ref r)].reverse)] [] (.fresh (.func (bodyOf S6) (callEnv (fdM S6 "select_child" qSelC [] ((W.mg "__name__").getD .none) (.ref c2) ctv2) C1 f2))) := by
      have := rows_gb (W := W) (Zn := (a1, genO gs.size) :: Zn) (n := 6) (C := C1) (r := r) (vs := vs) (out := out) (sel := fun _ => true) (ok := fun _ => True) (m0 := fun x => List.lookup x [((Str.ofString "result"), Value.ref r)].reverse) (body := forBody (bAt (bodyOf S6) 0)) (env := callEnv (fdM S6 "select_child" qSelC [] ((W.mg "__name__").getD .none) (.ref c2) ctv2) C1 f2) (x := "elem") (y := "result") (px := ⟨50, 20, 50, 24⟩) (py := ⟨50, 28, 50, 34⟩) (pos := ⟨50, 16, 51, 35⟩) rfl rfl rfl rfl rfl rfl (hm1 _ hr) (hrows.mono hm1 fun v _ => trivial)
        (fun it kk lv p l items hl _ RGo tl m H' ha => by rw [List.filter_eq_self.mpr (fun _ _ => rfl)]; exact row6 (n := 8) rfl rfl rfl hl RGo tl m H' ha) (by intro _; rfl)
      rw [List.filter_eq_self.mpr (fun _ _ => rfl)] at this
      exact this
    generalize hst : GenState.fresh (.func (bodyOf S6) (callEnv (fdM S6 "select_child" qSelC [] ((W.mg "__name__").getD .none) (.ref c2) ctv2) C1 f2)) = st1 at gb1 ⊢
    generalize hns : (nsO fun x => List.lookup x [((Str.ofString "result"), Value.ref r)].reverse) = ns1 at gb1 F5
    refine S.call (Zn := (a1, genO gs.size) :: Zn) (vs := out) (RG := [(C1, ns1)]) (GG := [(gs.size, st1)]) (sel := sel) (by have := rm.d; show A.depth + 1 < _; omega) (fun e he => hsub e (hm1 e (hY e he))) F5 (fun e he => hm1 e (hY e he)) (ItSrc.gen List.mem_cons_self (by simp) gb1) (fun v hv => let ⟨τ, p, hn, hs⟩ := hrows.all v hv; ⟨τ, p, hn.mono hm1, hs⟩) ?_
    intro a2 C2 m2 st2 h6 t6 ha2 gb2 F6
    simp only [List.cons_append, List.nil_append] at F6
    have hsz : (gs.push st1).size = gs.size + 1 := Array.size_push ..
    rw [hsz] at F6
    have F7 := Fm.retR (R1 := [_, _]) (Y := [(C1, ns1), (C2, nsO m2)]) [(a2, genO (gs.size + 1)), (a1, genO gs.size)] F F6 (fun e he => by
      simp only [List.mem_cons, List.not_mem_nil, or_false] at he
      rcases he with rfl | rfl
      · exact ⟨List.mem_cons_self, ha2⟩
      · exact ⟨List.mem_cons_of_mem _ List.mem_cons_self, ha1⟩)
    show Q (.ref a2) _
    have hm2 : ∀ e ∈ (a1, genO gs.size) :: Zn, e ∈ (a2, genO (gs.size + 1)) :: (a1, genO gs.size) :: Zn := fun e he => List.mem_cons_of_mem _ he
    refine q a2 (gs.size + 1) ((a2, genO (gs.size + 1)) :: (a1, genO gs.size) :: Zn) [(C2, nsO m2), (C1, ns1)] [(gs.size + 1, st2), (gs.size, st1)] _ _ h6 t6 (fun e he => List.mem_append_right _ he) ?_ List.mem_cons_self
      (Src.gen (n := 11) List.mem_cons_self _ _ _ _ (by simp) (gb2.mono hm2)) ?_ ?_ (F7.perm (List.Perm.append_left _ (List.Perm.swap _ _ _)))
    · intro e he
      simp only [List.mem_cons] at he
      rcases he with rfl | rfl | he
      · exact List.mem_cons_self
      · exact List.mem_cons_of_mem _ List.mem_cons_self
      · exact List.mem_append_right _ (hZ e he)
    · intro p hp
      simp only [List.mem_cons, List.not_mem_nil, or_false] at hp
      rcases hp with rfl | rfl
      · show ((gs.push st1).push st2)[gs.size + 1]? = _
        rw [← hsz]; exact Array.getElem?_push_size
      · show ((gs.push st1).push st2)[gs.size]? = _
        rw [Array.getElem?_push, if_neg (by rw [hsz]; omega)]
        exact Array.getElem?_push_size
    · intro i y hi hy
      simp only [List.map_cons, List.map_nil, List.mem_cons, List.not_mem_nil, or_false, not_or] at hi
      exact push_old hi.2 (push_old (by rw [hsz]; exact hi.1) hy)
end
end
section
open PySem PySem.W PySem.W.X PySem.Calls PyProof.Rows PySem.Builtin
theorem qn52 (L : Addr) : qualnameIn (callEnvC fdPC L 52) "select" "select" = qSel := by kernel_rfl
theorem tab0_of {p : Wd} {h : Heap} {P : Addr} {q q' : Str} (x : TabQ1 p h P q q') : TabQ0 h P q := let ⟨vs, a, b, d⟩ := x; ⟨vs, a, b, fun p cv e => (d p cv e).1⟩
def childOf (y : Str) : Option Str → Bool :=
  if isWildB y then selOf y else if Txt.slice y none (some 2) == Str.ofString "{}" then selP7 (Txt.slice y (some 2) none) else selP7 y
local macro_rules | `(tactic| wtm_at "xname") => rd "(places n_cellD 1 2)"
local macro_rules | `(tactic| wtm_at "x1") => rd "(do (wp (storeName _ _ _)) (places n_storeCD 1 2) (intro 2))
  (do (wp (call (Value.ref 38) _)) (wr (refine (k_iswild ! 'xroom (by omega) ?))) (intro 3))
  (do (wp (exec (Stmt.FunctionDef _ _ _ _ _ _ _ _ _ _) _)) (wr (refine (nestDef_K ~ ~ ~ ?))))"
section
variable {W : Wd} {A : Around} {E : Value → Shared → Prop} {h₀ h : Heap} {gs : Array GenState} {d : Drawn} {t : Nat} {os : OsState} {Z R : List Ent} {Q : Value → Shared → Prop}
theorem fin_of {e₀ : Ent} {RR Y0 : List Ent} {φ : Obj → Prop} {h' : Heap} (F : Fm W h₀ Z R h) (G : Fm W h ((47, φ) :: (Y0 ++ Z)) (e₀ :: RR) h') (hF0 : FrT h Y0) : FrT h (RR ++ (47, φ) :: Y0) ∧ Fm W h₀ ((RR ++ (47, φ) :: Y0) ++ Z) R h' := by
  have hfr : FrT h (RR ++ (47, φ) :: Y0) := fun e he => by
    rcases List.mem_append.mp he with he | he
    · exact .inl (G.rf e (List.mem_cons_of_mem _ he))
    · exact FrT.cons (.inr (by decide)) hF0 e he
  have G12 := Fm.frzT (R := [e₀]) (R' := RR) G
  exact ⟨hfr, F.retT _ G12 fun e he => ⟨by
    rcases List.mem_append.mp he with he | he
    · exact List.mem_append_left _ he
    · rcases List.mem_cons.mp he with rfl | he
      · exact List.mem_append_right _ List.mem_cons_self
      · exact List.mem_append_right _ (List.mem_cons_of_mem _ (List.mem_append_left _ he)), hfr e he⟩⟩
theorem k_child {T : Addr} {y : Str} {u0 u1 : Tok} (F : Fm W h₀ Z R h) (rm : Rm 2 A) (hT : (T, tuO [.str "" u0, .str y u1]) ∈ Z) (hy : y.length ≤ 1000)
    (q : ∀ f Y h' t', ChildFn W Y f (childOf y) → FrT h₀ Y → Fm W h₀ (Y ++ Z) R h' → Q (.ref f) ⟨h', gs, d, t', os⟩) :
    wpAny (MM W.w) A (call (.ref 52) [.none, .ref T]) Q E ⟨h, gs, d, t, os⟩ := by
  refine enterC (Z := Z) (fd := fdPC) (body := bodyOf (stAt 4)) (binds := [("next", .none), ("token", .ref T)]) F.base F.z rm.depth (F.base.K 52 _ (kf_PC _)) rfl (cr_PC F.base) (by rfl) (by rfl) (by rfl) (by intro L x hx; simp only [List.mem_cons, List.not_mem_nil, or_false] at hx; rcases hx with rfl | rfl <;> exact .inl rfl) (by decide) (by rfl) (by rfl) (by rfl) ?_
  intro L h₁ t₁ G
  with_reducible refine noE fun E1 => ?_
  have G : Fm W h Z [(L, nsO (bindL (callEnvC fdPC L 52).kindOf [("next", .none), ("token", .ref T)] fun _ => none)), (L + 1, clO none), (L + 2, clO none)] h₁ := G
  refine x_cons ?_
  repeat' (wtm_at "x1")
  refine v_item1 (G.atZ hT) ?_
  repeat' (wtm_at "x1")
  · refine k_prep (by assumption) (by wtm_at "xroom") hy (by assumption) ?_
    intro g0 Y0 h2 t2 hS hF0 G2
    repeat' (wtm_at "x1")
    rw [qn52]
    have G9 := Fm.here (by assumption)
    refine v_make (c := 51) (P := 47) (qual := qSel) G9 (by rfl) (by rfl) (by rfl) (hd_PC G9.base) (tab0_of G9.base.tb.child) (nk_47 _) fit_47 (by rfl) ?_
    intro f cv ctv h3 t3 hcv hin G10
    simp only [List.cons_append, List.nil_append] at G10
    have G10 := Fm.addZ G10 hin stb_inT (tab_ne G10 (by decide))
    repeat' (wtm_at "x1")
    have G11 := Fm.here (by assumption)
    show Q (.ref f) _
    have ⟨hfr, G13⟩ := fin_of (Y0 := Y0) F G11 hF0
    refine q f _ _ _ ?_ (fun e he => (hfr e he).imp F.kp.there id) G13
    rw [show childOf y = selOf y by unfold childOf; rw [if_pos (by assumption)]]
    exact child_fn5 (cst := L + 1) (g0 := g0) (List.mem_append_left _ (List.mem_of_getElem? (i := 2) rfl)) (List.mem_append_right _ List.mem_cons_self) (List.mem_append_left _ (List.mem_of_getElem? (i := 0) rfl)) (hS.mono fun e he => List.mem_append_right _ (List.mem_cons_of_mem _ he))
  · rw [qn52]
    have G9 := Fm.here (by assumption)
    refine v_make (c := 51) (P := 47) (qual := qSel) G9 (by rfl) (by rfl) (by rfl) (hd_PC G9.base) (tab0_of G9.base.tb.child) (nk_47 _) fit_47 (by rfl) ?_
    intro f cv ctv h3 t3 hcv hin G10
    simp only [List.cons_append, List.nil_append] at G10
    have G10 := Fm.addZ G10 hin stb_inT (tab_ne G10 (by decide))
    repeat' (wtm_at "x1")
    have G11 := Fm.here (by assumption)
    show Q (.ref f) _
    have ⟨hfr, G13⟩ := fin_of (Y0 := []) F G11 .nil
    refine q f _ _ _ ?_ (fun e he => (hfr e he).imp F.kp.there id) G13
    rw [show childOf y = selP7 (Txt.slice y (some 2) none) by unfold childOf; rw [if_neg (Bool.eq_false_iff.mp (by assumption)), if_pos (by assumption)]]
    exact child_fn7 (ct := L + 2) (List.mem_append_left _ (List.mem_of_getElem? (i := 2) rfl)) (List.mem_append_right _ List.mem_cons_self) (List.mem_append_left _ (List.mem_of_getElem? (i := 1) rfl))
  · rw [qn52]
    have G9 := Fm.here (by assumption)
    refine v_make (c := 51) (P := 47) (qual := qSel) G9 (by rfl) (by rfl) (by rfl) (hd_PC G9.base) (tab0_of G9.base.tb.child) (nk_47 _) fit_47 (by rfl) ?_
    intro f cv ctv h3 t3 hcv hin G10
    simp only [List.cons_append, List.nil_append] at G10
    have G10 := Fm.addZ G10 hin stb_inT (tab_ne G10 (by decide))
    repeat' (wtm_at "x1")
    have G11 := Fm.here (by assumption)
    show Q (.ref f) _
    have ⟨hfr, G13⟩ := fin_of (Y0 := []) F G11 .nil
    refine q f _ _ _ ?_ (fun e he => (hfr e he).imp F.kp.there id) G13
    rw [show childOf y = selP7 y by unfold childOf; rw [if_neg (Bool.eq_false_iff.mp (by assumption)), if_neg (Bool.eq_false_iff.mp (by assumption))]]
    exact child_fn7 (ct := L + 2) (List.mem_append_left _ (List.mem_of_getElem? (i := 2) rfl)) (List.mem_append_right _ List.mem_cons_self) (List.mem_append_left _ (List.mem_of_getElem? (i := 1) rfl))
end
end
section
open PySem PySem.W PySem.Calls PyProof.Rows PySem.Builtin
/-- a slice from the start is a beginning -/
theorem slice_starts {y p : Str} {k : Int} (hk : k = p.length) : (Txt.slice y none (some k) == p) = Txt.startswith y p := by
  subst hk
  rw [beq_cp, cp_slice, cp_startswith, Bool.eq_iff_iff, beq_iff_eq, List.isPrefixOf_iff_prefix, List.prefix_iff_eq_take, cp_len]
  have e0 : clipN y.length 0 none = 0 := rfl
  have e1 : clipN y.length y.length (some (p.length : Int)) = min p.length y.length := clip_nat
  rw [e0, e1, List.drop_zero, Nat.sub_zero]
  have e2 : (cp y).take (min p.length y.length) = (cp y).take p.length := by
    by_cases h : p.length ≤ y.length
    · rw [Nat.min_eq_left h]
    · rw [Nat.min_eq_right (by omega), List.take_of_length_le (Nat.le_of_eq cp_len), List.take_of_length_le (by rw [cp_len]; omega)]
  rw [e2]; exact eq_comm
/-- a slice up to the end is an end -/
theorem slice_ends {y p : Str} {k : Int} (hk : k = -(p.length : Int)) (h0 : 0 < p.length) : (Txt.slice y (some k) none == p) = Txt.endswith y p := by
  subst hk
  rw [beq_cp, cp_slice, cp_endswith, Bool.eq_iff_iff, beq_iff_eq, List.isSuffixOf_iff_suffix, List.suffix_iff_eq_drop, cp_len, cp_len]
  have e0 : clipN y.length 0 (some (-(p.length : Int))) = y.length - p.length := clip_neg rfl h0
  have e1 : clipN y.length y.length none = y.length := rfl
  rw [e0, e1, List.take_of_length_le (by rw [List.length_drop, cp_len]; omega)]
  exact eq_comm
theorem wild_iff {y : Str} : isWildB y = (Txt.startswith y "{*}" || Txt.endswith y "}*") := by
  unfold isWildB
  rw [slice_starts (p := Str.ofString "{*}") (k := 3) rfl, slice_ends (p := Str.ofString "}*") (k := -2) rfl (by decide)]
theorem head_not {s : Str} : headNot s = !Txt.startswith s "{" := by
  unfold headNot
  rw [cp_startswith, show cp (Str.ofString "{") = [123] from rfl]
  cases h : cp s with
  | nil => rfl
  | cons a l =>
    by_cases e : a = 123
    · subst e; rfl
    · have e' : ¬ 123 = a := fun x => e x.symm
      simp only [List.head?_cons, List.isPrefixOf, bne, Bool.and_true]
      rw [beq_eq_false_iff_ne.mpr (show (some a : Option Nat) ≠ some 123 from fun x => e (Option.some.inj x)), beq_eq_false_iff_ne.mpr (show (123 : Nat) ≠ a from e')]
theorem child_plain {y : Str} : ∀ τ, childOf y τ = plainB y τ
  | none => by
    show childOf y none = false
    unfold childOf selOf
    repeat' split
    all_goals rfl
  | some s => by
    unfold childOf selOf plainB
    rw [wild_iff, slice_starts (p := Str.ofString "{*}") (k := 3) rfl, slice_starts (p := Str.ofString "{}") (k := 2) rfl]
    by_cases h1 : (y == Str.ofString "{*}*") = true
    · have : y = Str.ofString "{*}*" := by simpa using h1
      subst this
      rfl
    by_cases h2 : (y == Str.ofString "{}*") = true
    · have : y = Str.ofString "{}*" := by simpa using h2
      subst this
      exact head_not
    simp only [h1, h2, Bool.false_eq_true, if_false]
    by_cases h3 : Txt.startswith y (Str.ofString "{*}") = true
    · simp only [h3, Bool.true_or, if_true, selP3]
      have hl : 3 ≤ (cp y).length := by
        rw [cp_startswith, List.isPrefixOf_iff_prefix] at h3
        exact h3.length_le
      have hp : 0 < (Txt.slice y (some 2) none).length := by
        rw [← cp_len, cp_slice]
        rw [cp_len] at hl
        simp only [clipN, List.length_take, List.length_drop, cp_len]
        omega
      rw [slice_ends rfl hp]
    · simp only [h3, Bool.false_or, Bool.false_eq_true, if_false]
      by_cases h4 : Txt.endswith y (Str.ofString "}*") = true
      · simp only [h4, if_true, selP4]
        exact slice_starts rfl
      · simp only [h4, Bool.false_eq_true, if_false]
        split <;> rfl
end
section
open PySem PySem.W PySem.Calls PyProof.Rows PySem.Builtin
/-- a sign as an item of a pattern -/
def qi (c : Nat) : It := if c == 42 || c == 63 || c == 91 then .br c else .lit c
theorem ok_qi {c x : Nat} : okT (qi c) x = (x == c) := by
  unfold qi okT
  split
  · show ((x == c) != false) = _
    cases (x == c) <;> rfl
  · show ((x == c) != false) = _
    cases (x == c) <;> rfl
theorem zip_qi : ∀ (s l : List Nat), s.length = l.length → ((s.zip (l.map qi)).all fun x => okT x.2 x.1) = (s == l)
  | [], [], _ => rfl
  | [], _ :: _, h => by simp at h
  | _ :: _, [], h => by simp at h
  | a :: s, b :: l, h => by
    have ih := zip_qi s l (by simpa using h)
    show (okT (qi b) a && ((s.zip (l.map qi)).all fun x => okT x.2 x.1)) = ((a == b) && (s == l))
    rw [ih, ok_qi]
/-- a pattern without a star takes one text -/
theorem takes_none {a n : List Nat} : takesB (a.map qi) none n = (n == a) := by
  unfold takesB fits signs tests
  simp only [Option.getD_none, List.length_nil, Nat.add_zero, List.length_map, Option.isSome_none, Bool.false_or, Nat.sub_zero, List.drop_length, List.append_nil]
  by_cases h : n.length = a.length
  · rw [h, List.take_of_length_le (Nat.le_of_eq h), zip_qi n a h]
    simp
  · have : (n == a) = false := by
      rw [beq_eq_false_iff_ne]; intro e; exact h (by rw [e])
    rw [this]
    simp [h]
/-- a pattern with a star takes what begins and ends so -/
theorem takes_some {a b n : List Nat} : takesB (a.map qi) (some (b.map qi)) n = (decide (a.length + b.length ≤ n.length) && (a.isPrefixOf n && b.isSuffixOf n)) := by
  unfold takesB fits signs tests
  simp only [Option.getD_some, List.length_map, Option.isSome_some, Bool.true_or, Bool.and_true]
  by_cases h : a.length + b.length ≤ n.length
  · rw [← List.map_append, zip_qi _ _ (by simp only [List.length_append, List.length_take, List.length_drop]; omega)]
    simp only [h, decide_true, Bool.true_and]
    rw [Bool.eq_iff_iff, beq_iff_eq, Bool.and_eq_true, List.isPrefixOf_iff_prefix, List.isSuffixOf_iff_suffix, List.prefix_iff_eq_take, List.suffix_iff_eq_drop]
    constructor
    · intro e
      have := List.append_inj e (by rw [List.length_take]; omega)
      exact ⟨this.1.symm, this.2.symm⟩
    · rintro ⟨e1, e2⟩
      rw [← e1, ← e2]
  · simp [h]
/-- the law's two wild patterns say what _is_wildcard_tag says -/
theorem wild_takes {y : Str} : isWildB y = (takesB ([123, 42, 125].map qi) (some []) (cp y) || takesB [] (some ([125, 42].map qi)) (cp y)) := by
  have e1 := takes_some (a := [123, 42, 125]) (b := []) (n := cp y)
  have e2 := takes_some (a := []) (b := [125, 42]) (n := cp y)
  rw [show takesB ([123, 42, 125].map qi) (some []) (cp y) = _ from e1, show takesB [] (some ([125, 42].map qi)) (cp y) = _ from e2, wild_iff, cp_startswith, cp_endswith,
    show cp (Str.ofString "{*}") = [123, 42, 125] from rfl, show cp (Str.ofString "}*") = [125, 42] from rfl]
  rw [Bool.eq_iff_iff]
  simp only [Bool.or_eq_true, Bool.and_eq_true, decide_eq_true_eq, List.isPrefixOf_iff_prefix, List.isSuffixOf_iff_suffix, List.length_cons, List.length_nil]
  constructor
  · rintro (h | h)
    · exact .inl ⟨h.length_le, h, List.nil_suffix⟩
    · exact .inr ⟨h.length_le, List.nil_prefix, h⟩
  · rintro (h | h)
    · exact .inl h.2.1
    · exact .inr h.2.2
end
section
open PySem PySem.W PySem.Calls PyProof.Rows PySem.Builtin
theorem qz_src {c : Nat} : cp (qz c) = (qi c).src := by
  unfold qz qi
  rw [contains_one]
  by_cases h : c = 42 ∨ c = 63 ∨ c = 91
  · rcases h with rfl | rfl | rfl <;> rfl
  · have h1 : ¬ c = 42 := fun e => h (.inl e)
    have h2 : ¬ c = 63 := fun e => h (.inr (.inl e))
    have h3 : ¬ c = 91 := fun e => h (.inr (.inr e))
    have e1 : decide (c ∈ cp (Str.ofString "*?[")) = false := by
      rw [decide_eq_false_iff_not, show cp (Str.ofString "*?[") = [42, 63, 91] from rfl]
      simp [h1, h2, h3]
    have e2 : (c == 42 || c == 63 || c == 91) = false := by simp [h1, h2, h3]
    rw [e1, e2]
    rfl
theorem quoted_src {x : Str} : cp (quoted x) = srcL ((cp x).map qi) := by
  unfold quoted srcL
  rw [cp_join, List.flatMap_map, List.flatMap_map]
  unfold cp
  generalize x.cps.toList = l
  show l.flatMap (fun c => cp (qz c)) = (l.flatMap fun c => (qi c).src)
  rw [show (fun c => cp (qz c)) = (fun c => (qi c).src) from funext fun c => qz_src]
theorem qi_star (c : Nat) : qi c ≠ .star := by unfold qi; split <;> intro e <;> cases e
theorem qi_ok (c : Nat) : (qi c).ok = true := by
  unfold qi
  split
  · assumption
  · rename_i h
    show (c != 42 && c != 63 && c != 91) = true
    simp only [Bool.or_eq_true, beq_iff_eq, not_or] at h
    simp [h.1.1, h.1.2, h.2]
/-- one pattern, read -/
abbrev Sc := List It × Option (List It)
theorem pat_none {p : Str} {a : List Nat} (h : cp p = srcL (a.map qi)) (hl : p.length ≤ 500) : Pat p (a.map qi) none where
  cp := h
  len := hl
  ok := fun i hi => by obtain ⟨c, _, rfl⟩ := List.mem_map.mp hi; exact qi_ok c
  pre := fun i hi => by obtain ⟨c, _, rfl⟩ := List.mem_map.mp hi; exact qi_star c
  post := fun _ e => by cases e
theorem pat_some {p : Str} {a b : List Nat} (h : cp p = srcL (a.map qi) ++ 42 :: srcL (b.map qi)) (hl : p.length ≤ 500) : Pat p (a.map qi) (some (b.map qi)) where
  cp := h.trans (by show _ = srcL (a.map qi ++ It.star :: b.map qi); unfold srcL; rw [List.flatMap_append, List.flatMap_cons]; rfl)
  len := hl
  ok := fun i hi => by
    rcases List.mem_append.mp (show i ∈ a.map qi ++ It.star :: b.map qi from hi) with hi | hi
    · obtain ⟨c, _, rfl⟩ := List.mem_map.mp hi; exact qi_ok c
    · rcases List.mem_cons.mp hi with rfl | hi
      · rfl
      · obtain ⟨c, _, rfl⟩ := List.mem_map.mp hi; exact qi_ok c
  pre := fun i hi => by obtain ⟨c, _, rfl⟩ := List.mem_map.mp hi; exact qi_star c
  post := fun p e i hi => by
    cases e
    obtain ⟨c, _, rfl⟩ := List.mem_map.mp hi; exact qi_star c
/-- the law's two wild patterns, read -/
theorem pat_w1 : Pat (Str.ofString "{[*]}*") ([123, 42, 125].map qi) (some []) := pat_some (b := []) rfl (by decide)
theorem pat_w2 : Pat (Str.ofString "*}[*]") [] (some ([125, 42].map qi)) := pat_some (a := []) rfl (by decide)
/-- what _law_says gives, read -/
def scOf (y : Str) : List Sc :=
  if y == ("{*}*" : Str) then [([], some [])] else if y == ("{}*" : Str) then [([It.neg], some [])]
  else if Txt.slice y none (some 3) == ("{*}" : Str) then [((cp (Txt.slice y (some 3) none)).map qi, none), ([], some ((cp (Txt.slice y (some 2) none)).map qi))]
  else if Txt.slice y (some (-2)) none == ("}*" : Str) then [((cp (Txt.slice y none (some (-1)))).map qi, some [])]
  else if Txt.slice y none (some 2) == ("{}" : Str) then [((cp (Txt.slice y (some 2) none)).map qi, none)] else [((cp y).map qi, none)]
inductive AllPat : List Str → List Sc → Prop
  | nil : AllPat [] []
  | cons {p : Str} {s : Sc} {ps : List Str} {ss : List Sc} : Pat p s.1 s.2 → AllPat ps ss → AllPat (p :: ps) (s :: ss)
theorem says_sc {y : Str} (hy : y.length ≤ 100) : AllPat (saysB y) (scOf y) := by
  have sl : ∀ a b, (Txt.slice y a b).length ≤ 100 := fun a b => by
    have := congrArg List.length (cp_slice y a b)
    rw [cp_len, List.length_take, List.length_drop, cp_len] at this
    omega
  have ql : ∀ x : Str, x.length ≤ 100 → (quoted x).length ≤ 300 := fun x hx => by have := quoted_len (y := x); omega
  have none_q : ∀ x : Str, x.length ≤ 100 → Pat (quoted x) ((cp x).map qi) none := fun x hx => pat_none quoted_src (by have := ql x hx; omega)
  unfold saysB scOf
  repeat' split
  · exact .cons (pat_some (a := []) (b := []) rfl (by decide)) .nil
  · refine .cons ⟨rfl, by decide, ?_, ?_, ?_⟩ .nil
    · intro i hi; revert i; decide
    · intro i hi; revert i; decide
    · intro p e i hi; cases e; cases hi
  · refine .cons (none_q _ (sl _ _)) (.cons (pat_some (a := []) ?_ ?_) .nil)
    · rw [cp_app, quoted_src]; rfl
    · have := ql _ (sl (some 2) none)
      rw [← cp_len, cp_app, List.length_append, cp_len, cp_len]
      have : (Str.ofString "*").length = 1 := rfl
      omega
  · refine .cons (pat_some (b := []) ?_ ?_) .nil
    · rw [cp_app, quoted_src]; rfl
    · have := ql _ (sl none (some (-1)))
      rw [← cp_len, cp_app, List.length_append, cp_len, cp_len]
      have : (Str.ofString "*").length = 1 := rfl
      omega
  · exact .cons (none_q _ (sl _ _)) .nil
  · exact .cons (none_q _ hy) .nil
theorem plain_some {w s : Str} : plainB w (some s) =
    if w == ("{*}*" : Str) then true
    else if w == ("{}*" : Str) then !Txt.startswith s "{"
    else if Txt.startswith w "{*}" then s == Txt.slice w (some 3) none || Txt.endswith s (Txt.slice w (some 2) none)
    else if Txt.endswith w "}*" then Txt.startswith s (Txt.slice w none (some (-1)))
    else if Txt.startswith w "{}" then s == Txt.slice w (some 2) none
    else s == w := rfl
/-- one of the patterns takes the name just if the plain words do -/
theorem says_plain {y s : Str} (hs : 0 < s.length) : ((scOf y).any fun p => takesB p.1 p.2 (cp s)) = plainB y (some s) := by
  have neg1 : takesB [It.neg] (some []) (cp s) = !Txt.startswith s (Str.ofString "{") := by
    rw [cp_startswith, show cp (Str.ofString "{") = [123] from rfl]
    cases h : cp s with
    | nil => rw [← cp_len, h] at hs; cases hs
    | cons a l =>
      have e0 : takesB [It.neg] (some []) (a :: l) = ((a == 123) != true) := by
        unfold takesB fits signs tests
        simp only [Option.getD_some, List.length_nil, List.length_cons, Nat.sub_zero, Option.isSome_some, Bool.true_or, Bool.and_true, List.append_nil]
        rw [List.drop_eq_nil_of_le (by simp), show (a :: l).take (0 + 1) = [a] from rfl, decide_eq_true (by omega)]
        show (true && (okT It.neg a && true)) = _
        rw [Bool.true_and, Bool.and_true]; rfl
      rw [e0]
      by_cases e : a = 123
      · subst e; rfl
      · have e' : ¬ 123 = a := fun x => e x.symm
        simp only [List.isPrefixOf, Bool.and_true]
        rw [beq_eq_false_iff_ne.mpr e, beq_eq_false_iff_ne.mpr e']; rfl
  unfold scOf
  rw [plain_some, slice_starts (p := Str.ofString "{*}") (k := 3) rfl, slice_ends (p := Str.ofString "}*") (k := -2) rfl (by decide), slice_starts (p := Str.ofString "{}") (k := 2) rfl]
  have e0 : ∀ x : Str, takesB ((cp x).map qi) none (cp s) = (s == x) := fun x => by rw [takes_none, beq_cp]
  have e1 : ∀ x : Str, takesB [] (some ((cp x).map qi)) (cp s) = Txt.endswith s x := fun x => by
    rw [show takesB [] (some ((cp x).map qi)) (cp s) = _ from takes_some (a := []), cp_endswith, Bool.eq_iff_iff]
    simp only [Bool.and_eq_true, decide_eq_true_eq, List.isPrefixOf_iff_prefix, List.isSuffixOf_iff_suffix, List.length_nil, Nat.zero_add]
    exact ⟨fun h => h.2.2, fun h => ⟨h.length_le, List.nil_prefix, h⟩⟩
  have e2 : ∀ x : Str, takesB ((cp x).map qi) (some []) (cp s) = Txt.startswith s x := fun x => by
    rw [show takesB ((cp x).map qi) (some []) (cp s) = _ from takes_some (b := []), cp_startswith, Bool.eq_iff_iff]
    simp only [Bool.and_eq_true, decide_eq_true_eq, List.isPrefixOf_iff_prefix, List.isSuffixOf_iff_suffix, List.length_nil, Nat.add_zero]
    exact ⟨fun h => h.2.1, fun h => ⟨h.length_le, h, List.nil_suffix⟩⟩
  have e3 : takesB [] (some []) (cp s) = true := by
    rw [show takesB [] (some []) (cp s) = _ from takes_some (a := []) (b := [])]
    simp [List.isSuffixOf]
  repeat' split
  all_goals simp only [List.any_cons, List.any_nil, Bool.or_false, e0, e1, e2, e3, neg1, *]
end
section
open PySem PySem.W PySem.W.X PySem.Calls PyProof.Rows PySem.Builtin
section
variable {W : Wd} {A : Around} {E : Value → Shared → Prop} {h₀ h h₁ : Heap} {gs : Array GenState} {d : Drawn} {t : Nat} {os : OsState} {Z R Y : List Ent} {Q : Value → Shared → Prop}
/-- the callee's own things put in front of the caller's, all of them still own -/
theorem Fm.stack (F : Fm W h₀ Z R h) (G : Fm W h Z Y h₁) : Fm W h₀ Z (Y ++ R) h₁ where
  base := G.base
  kp := F.kp.trans G.kp
  base₀ := F.base₀
  z := G.z
  r := fun e he => by
    rcases List.mem_append.mp he with he | he
    · exact G.r e he
    · exact ⟨G.kp.at (F.r e he).1 (F.r e he).2, (F.r e he).2⟩
  rf := fun e he => by
    rcases List.mem_append.mp he with he | he
    · exact F.kp.there (G.rf e he)
    · exact F.rf e he
  rn := by
    rw [List.map_append, List.nodup_append]
    refine ⟨G.rn, F.rn, fun x hx y hy => ?_⟩
    obtain ⟨e, he, rfl⟩ := List.mem_map.mp hx
    obtain ⟨e', he', rfl⟩ := List.mem_map.mp hy
    exact ((F.r e' he').1.ne (G.rf e he)).symm
  zr := fun e he e' he' => by
    rcases List.mem_append.mp he' with he' | he'
    · exact G.zr e he e' he'
    · exact F.zr e he e' he'
/-- the callee's things let go -/
theorem Fm.unstack (F : Fm W h₀ Z (Y ++ R) h) : Fm W h₀ Z R h where
  base := F.base
  kp := F.kp
  base₀ := F.base₀
  z := F.z
  r := fun e he => F.r e (List.mem_append.mpr (.inr he))
  rf := fun e he => F.rf e (List.mem_append.mpr (.inr he))
  rn := by have := F.rn; rw [List.map_append, List.nodup_append] at this; exact this.2.1
  zr := fun e he e' he' => F.zr e he e' (List.mem_append.mpr (.inr he'))
end
end
section
open PySem PySem.W PySem.W.X PySem.Calls PyProof.Rows PySem.Builtin
local macro_rules | `(tactic| wtm_at "xname") => rd "(places n_cellD 1)"
local macro_rules | `(tactic| wtm_at "x1") => rd "(do (wp (storeName _ _ _)) (places n_storeCD 2 3) (intro 2))"
section
variable {W : Wd} {A : Around} {E : Value → Shared → Prop} {h₀ h : Heap} {gs : Array GenState} {d : Drawn} {t : Nat} {os : OsState} {Z R : List Ent} {Q : Value → Shared → Prop}
theorem ne_of_wild {y : Str} (hw : isWildB y = false) : (y == Str.ofString "{*}*") = false ∧ (y == Str.ofString "{}*") = false ∧ (Txt.slice y none (some 3) == Str.ofString "{*}") = false ∧ (Txt.slice y (some (-2)) none == Str.ofString "}*") = false := by
  have h34 := hw
  unfold isWildB at h34
  rw [Bool.or_eq_false_iff] at h34
  refine ⟨?_, ?_, h34.1, h34.2⟩
  · rw [beq_eq_false_iff_ne]; rintro rfl; exact absurd hw (by decide)
  · rw [beq_eq_false_iff_ne]; rintro rfl; exact absurd hw (by decide)
theorem k_prepR {y : Str} {uy : Tok} (F : Fm W h₀ Z R h) (rm : Rm 1 A) (hy : y.length ≤ 1000) (hw : isWildB y = false)
    (q : ∀ L m hm hx e u tx Z' R', Fm W h Z' ((L, nsO m) :: R') hm → (∀ e ∈ Z, e ∈ Z') → Heap.MadeExc hm hx e "RuntimeError" [.str (Str.empty ++ Str.ofString "internal parser error, got " ++ y) u] →
      wpAny (MM W.w) (A.deeper (callEnvC fdPT L 45)) (leaving (callEnvC fdPT L 45) (.ref e)) (fun _ s'' => E (.ref e) s'') (fun e' s'' => E e' s'') ⟨hx, gs, d, tx, os⟩) :
    wpAny (MM W.w) A (call (.ref 45) [.str y uy]) Q E ⟨h, gs, d, t, os⟩ := by
  obtain ⟨w1, w2, w3, w4⟩ := ne_of_wild hw
  refine enterC (Z := Z) (fd := fdPT) (body := bodyOf (stAt 3)) (binds := [("tag", .str y uy)]) F.base F.z rm.depth (F.base.K 45 _ (kf_PT _)) rfl (cr_PT F.base) (by rfl) (by rfl) (by rfl) (by intro L x hx; simp only [List.mem_cons, List.not_mem_nil, or_false] at hx; subst hx; exact .inr ⟨rfl, rfl⟩) (by decide) (by rfl) (by rfl) (by rfl) ?_
  intro L h₁ t₁ G
  have G : Fm W h Z [(L, nsO (bindL (callEnvC fdPT L 45).kindOf [("tag", .str y uy)] fun _ => none)), (L + 1, clO (some (.str y uy))), (L + 2, clO none), (L + 3, clO none), (L + 4, clO none), (L + 5, clO none), (L + 6, clO none), (L + 7, clO none)] h₁ := G
  refine x_cons ?_
  repeat' ((fail_if_success (with_reducible show wpAny _ _ (exec (Stmt.Raise _ _ _) _) _ _ _)); wtm_at "x1")
  refine Raise_madeB PySem.F.excCall_RuntimeError PySem.F.excRaise_RuntimeError rm.hd ?_ (by with_unfolding_all rfl) (by with_unfolding_all rfl)
  repeat' (wtm_at "x1")
  refine ⟨rfl, ?_⟩
  repeat' (wtm_at "x1")
  refine ⟨le_line (n := 1) (by decide), fun h' e hm => ?_⟩
  have G1 := Fm.here (by assumption)
  exact q L _ _ _ _ _ _ _ _ G1 (fun e he => List.mem_cons_of_mem _ he) hm
end
end
section
open PySem PySem.W PySem.W.X PySem.Calls PyProof.Rows PySem.Builtin
section
variable {W : Wd} {A : Around} {E : Value → Shared → Prop} {h₀ h : Heap} {gs : Array GenState} {d : Drawn} {t : Nat} {os : OsState} {Z R : List Ent} {Q : Value → Shared → Prop}
theorem fun_frames {hm base : Heap} : ∀ {l : List Env}, (∀ v ∈ l, v.scope.kind ≠ .module ∧ ∃ L m, v.frame = some L ∧ base.get? L = none ∧ At hm L (nsO m)) → hm.FunFrames base l
  | [], _ => trivial
  | v :: l, x => by
    obtain ⟨a, L, m, b, c, o, ho, es, ep, hd, _⟩ := x v List.mem_cons_self
    exact ⟨a, ⟨L, o, b, c, ho, fun vs e => by rw [hd] at e; cases e⟩, fun_frames fun v hv => x v (List.mem_cons_of_mem _ hv)⟩
theorem same_ent : ∀ {l : List Ent} {e e' : Ent}, (l.map (·.1)).Nodup → e ∈ l → e' ∈ l → e.1 = e'.1 → e = e'
  | x :: r, e, e', hn, he, he', q => by
    rw [List.map_cons, List.nodup_cons] at hn
    rcases List.mem_cons.mp he with a | a
    · rcases List.mem_cons.mp he' with b | b
      · rw [a, b]
      · exact absurd (by rw [← a, q]; exact List.mem_map_of_mem b) hn.1
    · rcases List.mem_cons.mp he' with b | b
      · exact absurd (by rw [← b, ← q]; exact List.mem_map_of_mem a) hn.1
      · exact same_ent hn.2 a b q
/-- slots of frames' locals may change: all that the frame says holds still -/
theorem Fm.slots {hm h' : Heap} {ls : List Addr} (F : Fm W h₀ Z R hm) (hl : ∀ a ∈ ls, ∃ m, (a, nsO m) ∈ R) (k : (hideAll hm ls).StaysIn h') (u : hm.UpToSlots h') : Fm W h₀ Z R h' := by
  have keep : ∀ b o, b ∉ ls → hm.get? b = some o → h'.get? b = some o := fun b o hb e => k b o (hideAll_get ls e hb)
  refine F.re rfl (fun b o hb e => keep b o (fun hx => ?_) e) fun e he => ⟨?_, (F.r e he).2⟩
  · obtain ⟨m, hm⟩ := hl b hx
    exact hb _ hm rfl
  · by_cases hx : e.1 ∈ ls
    · obtain ⟨m, hm'⟩ := hl _ hx
      have := same_ent F.rn he hm' rfl
      obtain ⟨o, ho, hφ⟩ := (F.r e he).1
      rw [this] at hφ ⊢
      obtain ⟨es, ep, hd, hq⟩ := hφ
      obtain ⟨sl, hs⟩ := u _ o ho fun ws q => by rw [hd] at q; cases q
      exact ⟨_, hs, es, ep, hd, hq⟩
    · obtain ⟨o, ho, hφ⟩ := (F.r e he).1
      exact ⟨o, keep _ _ hx ho, hφ⟩
theorem k_prepF {y : Str} {uy : Tok} {outer : List Env} (F : Fm W h₀ Z R h) (rm : Rm 1 A) (hy : y.length ≤ 1000) (hw : isWildB y = false) (hfr : A.frames = some outer)
    (hout : ∀ v ∈ outer, v.scope.kind ≠ .module ∧ ∃ L m, v.frame = some L ∧ (L, nsO m) ∈ R)
    (q : ∀ base h' e tt u tx, Fm W h₀ Z R h' → Heap.FlyingW base outer e (.type "RuntimeError") (.ref tt) h' → h'.TupAt tt [.str (Str.empty ++ Str.ofString "internal parser error, got " ++ y) u] → base.get? tt = none →
      (∀ x ∈ R, e ≠ x.1 ∧ tt ≠ x.1) → (∀ h'', base.StaysIn h'' → h'.UpToSlots h'' → Fm W h₀ Z R h'') → E (.ref e) ⟨h', gs, d, tx, os⟩) :
    wpAny (MM W.w) A (call (.ref 45) [.str y uy]) Q E ⟨h, gs, d, t, os⟩ := by
  refine k_prepR F rm hy hw fun L m hm hx e u tx Z' R' G hz me => ?_
  have G1 : Fm W h Z ((L, nsO m) :: R') hm := ⟨G.base, G.kp, G.base₀, fun x hx => G.z x (hz x hx), G.r, G.rf, G.rn, fun x hx y hy => G.zr x (hz x hx) y hy⟩
  have G2 := F.stack G1
  have G3 : Fm W h₀ Z R hm := G2.unstack
  have env_ok : ∀ v ∈ callEnvC fdPT L 45 :: outer, v.scope.kind ≠ .module ∧ ∃ L' m', v.frame = some L' ∧ At hm L' (nsO m') := fun v hv => by
    rcases List.mem_cons.mp hv with rfl | hv
    · exact ⟨(by intro x; cases x), L, m, rfl, (G1.r _ List.mem_cons_self).1⟩
    · obtain ⟨a, L', m', b, c⟩ := hout v hv
      exact ⟨a, L', m', b, (G3.r _ c).1⟩
  refine wpAny_leaves_madeW (base := hideAll hm ((callEnvC fdPT L 45 :: outer).filterMap fun v => v.frame)) (Around.frames_deeper hfr) rfl (fun b o x => of_hideAll _ x) (fun_frames fun v hv => ?_) me.of fun h' tt k1 k2 k3 k4 => ?_
  · obtain ⟨a, L', m', b, c⟩ := env_ok v hv
    exact ⟨a, L', m', b, hideAll_none _ (List.mem_filterMap.mpr ⟨v, hv, b⟩), c⟩
  · have hl : ∀ a ∈ (callEnvC fdPT L 45 :: outer).filterMap fun v => v.frame, ∃ m', (a, nsO m') ∈ ((L, nsO m) :: R') ++ R := fun a ha => by
      obtain ⟨v, hv, b⟩ := List.mem_filterMap.mp ha
      rcases List.mem_cons.mp hv with rfl | hv
      · cases b
        exact ⟨m, List.mem_append_left _ List.mem_cons_self⟩
      · obtain ⟨_, L', m', b', c⟩ := hout v hv
        rw [b] at b'; cases b'
        exact ⟨m', List.mem_append_right _ c⟩
    have um := (Heap.UpToSlots.of_keeps me.keeps).trans k4
    have re : ∀ h'', (hideAll hm ((callEnvC fdPT L 45 :: outer).filterMap fun v => v.frame)).StaysIn h'' → h'.UpToSlots h'' → Fm W h₀ Z (((L, nsO m) :: R') ++ R) h'' := fun h'' k u => Fm.slots G2 hl k (um.trans u)
    have G4 := re h' k1.1 (.refl _)
    have off : ∀ a : Addr, (hideAll hm ((callEnvC fdPT L 45 :: outer).filterMap fun v => v.frame)).get? a = none → (∀ m', ¬ At h' a (nsO m')) → ∀ x ∈ R, a ≠ x.1 := fun a hn hd x hx hq => by
      obtain ⟨o, ho, _⟩ := (G3.r x hx).1
      rw [← hq] at ho
      by_cases ha : a ∈ (callEnvC fdPT L 45 :: outer).filterMap fun v => v.frame
      · obtain ⟨m', hm'⟩ := hl a ha
        exact hd m' (G4.r _ hm').1
      · rw [hideAll_get _ ho ha] at hn; cases hn
    refine q _ h' e tt u tx G4.unstack k1 k2 k3 (fun x hx => ⟨off e k1.2.1 (fun m' y => ?_) x hx, off tt k3 (fun m' y => ?_) x hx⟩) fun h'' a b => (re h'' a b).unstack
    · obtain ⟨oe, vs, he, _, hd, _⟩ := k1.first
      obtain ⟨o, ho, es, ep, hd', _⟩ := y
      rw [he] at ho; cases ho
      rw [hd] at hd'; cases hd'
    · obtain ⟨oe, n, he, _, hd⟩ := k2
      obtain ⟨o, ho, es, ep, hd', _⟩ := y
      rw [he] at ho; cases ho
      rw [hd] at hd'; cases hd'
end
end
section
open PySem PySem.W PySem.W.X PySem.Calls PyProof.Rows PySem.Builtin
local macro_rules | `(tactic| wtm_at "x1") => rd "(do (wp (call (Value.ref 45) _)) (wr (refine (k_prep ! 'xroom (by omega) ! ?))) (intro 7))
  (wr (refine (wpAny_Try_except ?)))
  (do (wp (exec (Stmt.Expr _ _) _)) (wr (refine (wpAny_Expr_any ? ~ ~))))"
section
variable {W : Wd} {A : Around} {E : Value → Shared → Prop} {h₀ h : Heap} {gs : Array GenState} {d : Drawn} {t : Nat} {os : OsState} {Z R : List Ent} {Q : Value → Shared → Prop}
theorem k_refusedW {y : Str} {uy : Tok} (F : Fm W h₀ Z R h) (rm : Rm 2 A) (hy : y.length ≤ 1000) (hw : isWildB y = true)
    (q : ∀ h' tk t', Fm W h₀ Z R h' → Q (.str "" tk) ⟨h', gs, d, t', os⟩) :
    wpAny (MM W.w) A (call (.ref 147) [.str y uy]) Q E ⟨h, gs, d, t, os⟩ := by
  refine enter (Z := []) (fd := fdRF) (body := bodyOf (stAt 23)) (binds := [("wish", .str y uy)]) F.base .nil rm.depth (F.base.K 147 _ (kf_RF _)) rfl (cr_RF F.base) (by rfl) (by rfl) (locs (by rfl)) (by decide) (by rfl) (by rfl) (by rfl) ?_
  intro L h₁ t₁ G
  refine x_cons ?_
  repeat' (wtm_at "x1")
  have G1 := Fm.here (by assumption)
  show Q (.str (Str.ofString "") _) _
  exact q _ _ _ (F.call0 G1.kp G1.base)
end
end
section
open PySem PySem.W PySem.W.X PySem.Calls PyProof.Rows PySem.Builtin
def exO (X : String) (a0 : Value) (o : Obj) : Prop := ∃ vs, o.cls = .type X ∧ o.data = .fields vs ∧ vs[0]? = some a0
def tpO (vs : List Value) (o : Obj) : Prop := ∃ n, o.cls = .type "tuple" ∧ o.data = .seq vs.toArray n
theorem stb_ex {X : String} {a0 : Value} : stb (exO X a0) := fun vs more ⟨_, a, _⟩ => by cases a
theorem stb_tp {l : List Value} : stb (tpO l) := fun vs more ⟨_, a, _⟩ => by cases a
section
variable {W : Wd} {A : Around} {E : Value → Shared → Prop} {h₀ h : Heap} {gs : Array GenState} {d : Drawn} {t : Nat} {os : OsState} {Z R : List Ent} {env : Env} {m : Str → Option Value} {i : Nat}
theorem v_goes {x : Str} {pos : Pos} {Q : Unit → Shared → Prop} (F : Fm W h₀ Z R h) (hi : R[i]? = some (env.locals, nsO m)) (hk : env.scope.kind = .function) (hx : env.kindOf x = some .local)
    (q : ∀ h' m', Fm W h₀ Z (R.set i (env.locals, nsO m')) h' → Q () ⟨h', gs, d, t + 1, os⟩) : wpAny (MM W.w) A (do bindName env x .none; unbindBehindTheSuite env x pos) Q E ⟨h, gs, d, t, os⟩ :=
  wpAny_nameGoes_keeps hx (at_ns.mp (F.at hi)) (by rw [hk]; rfl) fun h' v hn hs => q h' _ (F.turn hi hs.extBut nrm_ns (at_ns.mpr hn))
theorem v_strE {e tt : Addr} {y : Str} {u : Tok} {Q : Value → Shared → Prop} (F : Fm W h₀ Z R h) (he : (e, exO "RuntimeError" (.ref tt)) ∈ Z) (ht : (tt, tpO [.str y u]) ∈ Z) (hu : A.units + 2 < cLine)
    (q : Q (.str y u) ⟨h, gs, d, t, os⟩) : wpAny (MM W.w) A (call (.type "str") [.ref e]) Q E ⟨h, gs, d, t, os⟩ := by
  obtain ⟨o, ho, vs, a, b, c⟩ := F.atZ he
  obtain ⟨o', ho', n, a', b'⟩ := F.atZ ht
  exact P.str_of_exc_one PySem.F.excStr_RuntimeError hu ⟨o, vs, ho, a, b, c⟩ ⟨o', n, ho', a', b'⟩ q
theorem Fm.less {Z' : List Ent} (F : Fm W h₀ (Z' ++ Z) R h) : Fm W h₀ Z R h :=
  ⟨F.base, F.kp, F.base₀, fun e he => F.z e (List.mem_append_right _ he), F.r, F.rf, F.rn, fun e he => F.zr e (List.mem_append_right _ he)⟩
end
local macro_rules | `(tactic| wtm_at "x1") => rd "(wr (refine (wpAny_Try_except ?))) (do (wp (exec (Stmt.Expr _ _) _)) (wr (refine (wpAny_Expr_any ? ~ ~))))"
section
variable {W : Wd} {A : Around} {E : Value → Shared → Prop} {h₀ h : Heap} {gs : Array GenState} {d : Drawn} {t : Nat} {os : OsState} {Z R : List Ent} {Q : Value → Shared → Prop}
theorem k_refusedR {y : Str} {uy : Tok} {outer : List Env} (F : Fm W h₀ Z R h) (rm : Rm 2 A) (hy : y.length ≤ 1000) (hw : isWildB y = false) (hfr : A.frames = some outer)
    (hout : ∀ v ∈ outer, v.scope.kind ≠ .module ∧ ∃ L m, v.frame = some L ∧ (L, nsO m) ∈ R)
    (q : ∀ h' tk t', Fm W h₀ Z R h' → Q (.str (Str.ofString "internal parser error, got " ++ y) tk) ⟨h', gs, d, t', os⟩) :
    wpAny (MM W.w) A (call (.ref 147) [.str y uy]) Q E ⟨h, gs, d, t, os⟩ := by
  refine enter (Z := Z) (fd := fdRF) (body := bodyOf (stAt 23)) (binds := [("wish", .str y uy)]) F.base F.z rm.depth (F.base.K 147 _ (kf_RF _)) rfl (cr_RF F.base) (by rfl) (by rfl) (locs (by rfl)) (by decide) (by rfl) (by rfl) (by rfl) ?_
  intro L h₁ t₁ G
  have G2 := F.stack G
  simp only [List.cons_append, List.nil_append] at G2
  clear G
  refine x_cons ?_
  repeat' ((fail_if_success (with_reducible show wpAny _ _ (call (.ref 45) _) _ _ _)); wtm_at "x1")
  refine k_prepF (outer := callEnv fdRF L 147 :: outer) (by assumption) (by wtm_at "xroom") (by omega) hw (Around.frames_deeper hfr) (fun v hv => ?_) ?_
  · rcases List.mem_cons.mp hv with rfl | hv
    · exact ⟨(by intro x; cases x), L, _, rfl, List.mem_cons_self⟩
    · obtain ⟨a, L', m', b, c⟩ := hout v hv
      exact ⟨a, L', m', b, List.mem_cons_of_mem _ c⟩
  intro base h' e tt u tx G3 fl tup hb off re
  refine wpAny_looks_onW (Around.frames_deeper hfr) rfl fl fun h₄ held₄ sm₄ => ?_
  refine wpAny_landsW held₄ fun h₅ fl₅ sm₅' => ?_
  have F₅ := re h₅ fl₅.1 (sm₄.trans sm₅')
  obtain ⟨ob, hob, hobc⟩ := fl₅.there
  clear G2 G3
  refine wpAny_handleBy_builtin_as (X := "RuntimeError") (T := "RuntimeError") (b := true) PySem.F.isExc_RuntimeError PySem.F.notTuple_RuntimeError (by rw [isSubtype_type]; kernel_rfl) ?_
  wtm_at "x1"
  refine ⟨rfl, ⟨ob, hob, hobc⟩, ?_⟩
  rw [if_pos rfl]
  refine lands_againW fl₅ fun h₆ fl₆ sm₆ => ?_
  have F₆ := re h₆ fl₆.1 ((sm₄.trans sm₅').trans sm₆)
  obtain ⟨oe, ws, hoe, hoec, hoed, hoe0⟩ := fl₆.first
  obtain ⟨ot, nt, hot, hotc, hotd⟩ := tup.of_slots ((sm₄.trans sm₅').trans sm₆)
  have F₇ := (F₆.addZ (a := e) (φ := exO "RuntimeError" (.ref tt)) ⟨oe, hoe, ws, hoec, hoed, hoe0⟩ stb_ex fun x hx => (off x hx).1).addZ (a := tt) (φ := tpO [.str (Str.empty ++ Str.ofString "internal parser error, got " ++ y) u]) ⟨ot, hot, nt, hotc, hotd⟩ stb_tp fun x hx => (off x hx).2
  clear F₅ F₆
  repeat' (wtm_at "x1")
  refine v_strE (by assumption) (List.mem_cons_of_mem _ List.mem_cons_self) List.mem_cons_self (by have := rm.u; show A.units + 3 + 2 < _; omega) ?_
  show wpAny _ _ (do bindName (callEnv fdRF L 147) (Str.ofString "error") .none; unbindBehindTheSuite (callEnv fdRF L 147) (Str.ofString "error") _) _ _ _
  refine v_goes (i := 0) (by assumption) rfl rfl (by rfl) ?_
  intro h₈ m₈ F₈
  have e0 : Str.empty ++ Str.ofString "internal parser error, got " ++ y = Str.ofString "internal parser error, got " ++ y := cp_inj (by rw [cp_app, cp_app, cp_app]; rfl)
  show Q (.str (Str.empty ++ Str.ofString "internal parser error, got " ++ y) u) _
  rw [e0]
  exact q _ _ _ (Fm.less (Z' := [_, _]) (Fm.unstack (Y := [_]) F₈))
end
end
section
open PySem PySem.W PySem.W.X PySem.Calls PyProof.Rows PySem.Builtin
theorem good_true {cl : Str → Option Addr} {mean : ExcName → Option Value} {args : List WData} {s₁ s' : Shared} (hk : OldK s₁.heap s'.heap) (hos : s'.os = s₁.os) (hb : AllBare s'.gens) :
    GoodWG PySem.Challenge.rw_in0049_01.row.claim cl mean args s₁ (.ok (.ret (.bool true))) s' := by
  refine ⟨.inl ⟨.bool true, .bool true, [], rfl, ?_, ?_, ?_, ?_⟩, hk, hos, hb⟩
  · intro c
    rfl
  · constructor
  · kernel_rfl
  · intro e; simp
theorem oldK_of {W : Wd} {h : Heap} (B : Base W h) (T : TabsAt [(108, 104), (82, 78), (51, 47), (44, 40)] W.old) : OldK W.old h := by
  refine ⟨fun b o e => ?_, fun b o e => B.od_there e⟩
  rcases B.od b o e with x | ⟨hb, vs, more, rfl, x⟩
  · exact .inl x
  · have : ∃ c, (c, b) ∈ [(108, 104), (82, 78), (51, 47), (44, 40)] := by
      simp only [tabA, List.mem_cons, List.not_mem_nil, or_false] at hb
      rcases hb with rfl | rfl | rfl | rfl
      · exact ⟨108, by simp⟩
      · exact ⟨82, by simp⟩
      · exact ⟨44, by simp⟩
      · exact ⟨51, by simp⟩
    obtain ⟨c, hc⟩ := this
    have t := T _ hc
    exact .inr (.inl ⟨by obtain ⟨o, vs, file, tf, flags, tg, inF, text, tt, a, b, e, r⟩ := t.1; exact ⟨c, o, vs, a, b, e, r.1⟩, rfl, vs, more, rfl, x⟩)
theorem tabs_of {p : Params} {h : Heap} (K : (KK p).In h) (tb : ∀ P ∈ [104, 78, 47, 40], h.get? P = some (tabObj #[])) : TabsAt [(108, 104), (82, 78), (51, 47), (44, 40)] h := fun q hq => by
  simp only [List.mem_cons, List.not_mem_nil, or_false] at hq
  rcases hq with rfl | rfl | rfl | rfl
  · exact ⟨codeHd_of_K K (by kernel_rfl), tb _ (by decide)⟩
  · exact ⟨codeHd_of_K K (by kernel_rfl), tb _ (by decide)⟩
  · exact ⟨codeHd_of_K K (by kernel_rfl), tb _ (by decide)⟩
  · exact ⟨codeHd_of_K K (by kernel_rfl), tb _ (by decide)⟩
theorem law_at {p : Params} {mg : Str → Option Value} {h : Heap} (K : (KK p).In h) (g : h.Ns mainGlobals mg) {fa : Addr} (e : mg "law" = some (.ref fa)) : fa = 152 := by
  have : mg "law" = some (.ref 152) := mg_of K g (by kernel_rfl)
  rw [e] at this
  cases this
  rfl
theorem bm_at {p : Params} {mg : Str → Option Value} {h : Heap} (K : (KK p).In h) (g : h.Ns mainGlobals mg) : mg "__builtins__" = some (.ref 4) := mg_of K g (by kernel_rfl)
theorem base0 {w : World} {mg mb : Str → Option Value} {h : Heap} (K : (KK w.params).In h) (g : h.Ns mainGlobals mg) (b : h.Ns builtinsNs mb) (bb : ∀ x : Str, x ≠ "__name__" → mb x = bootBuiltins x) (nl : h.NoLimit)
    (bm : ∃ bm ob, mg "__builtins__" = some (.ref bm) ∧ bm ≠ builtinsNs ∧ h.get? bm = some ob ∧ ob.cls = .type "module" ∧ ob.dict = some builtinsNs ∧ ob.data = .plain) (tb : ∀ P ∈ [104, 78, 47, 40], h.get? P = some (tabObj #[])) : Base ⟨w, mg, mb, h⟩ h where
  K := K
  g := g
  b := b
  bb := bb
  nl := nl
  bm := by
    obtain ⟨bm, ob, e, _, a, b, c, d⟩ := bm
    rw [bm_at K g] at e
    cases e
    exact ⟨ob, a, b, c, d⟩
  tb := ⟨⟨#[], tb _ (by decide), trivial, fun _ _ e => by cases e⟩, ⟨#[], tb _ (by decide), trivial, fun _ _ e => by cases e⟩, ⟨#[], tb _ (by decide), trivial, fun _ _ e => by cases e⟩, ⟨#[], tb _ (by decide), trivial, fun _ _ e => by cases e⟩⟩
  od := fun _ _ e => .inl e
end
section
open PySem PySem.W PySem.W.X PySem.Calls PyProof.Rows PySem.Builtin
/-- the places at which the names pass -/
def ksFrom (P : Option Str → Bool) : List (Option Str) → Int → List Int
  | [], _ => []
  | τ :: τs, p => if P τ then p :: ksFrom P τs (p + 1) else ksFrom P τs (p + 1)
theorem ksFrom_snoc (P : Option Str → Bool) (τ : Option Str) : ∀ (τs : List (Option Str)) (p : Int), ksFrom P (τs ++ [τ]) p = ksFrom P τs p ++ if P τ then [p + τs.length] else []
  | [], p => by simp only [List.nil_append, ksFrom]; split <;> simp
  | σ :: τs, p => by
    have ih := ksFrom_snoc P τ τs (p + 1)
    have e : p + 1 + (τs.length : Int) = p + ((σ :: τs).length : Int) := by simp; omega
    simp only [List.cons_append, ksFrom]
    rw [ih, e]
    split <;> simp
theorem ksFrom_take {P : Option Str → Bool} {τs : List (Option Str)} {k : Nat} {τ : Option Str} (h : τs[k]? = some τ) : ksFrom P (τs.take (k + 1)) 0 = ksFrom P (τs.take k) 0 ++ if P τ then [(k : Int)] else [] := by
  rw [List.take_succ, h, show (some τ).toList = [τ] from rfl, ksFrom_snoc]
  have hk : k < τs.length := (List.getElem?_eq_some_iff.mp h).1
  have : (τs.take k).length = k := by rw [List.length_take]; omega
  rw [this]
  simp
theorem ints_step {P : Option Str → Bool} {τs : List (Option Str)} {k : Nat} {τ : Option Str} {ys : List Value} {u : Tok} (hτ : τs[k]? = some τ) (hJ : IsInts ys (ksFrom P (τs.take k) 0)) :
    (P τ = true → IsInts (ys ++ [.int (k : Int) u]) (ksFrom P (τs.take (k + 1)) 0)) ∧ (P τ = false → IsInts ys (ksFrom P (τs.take (k + 1)) 0)) := by
  rw [ksFrom_take hτ]
  constructor
  · intro hP
    rw [if_pos hP]
    exact hJ.app (.cons .nil)
  · intro hP
    rw [hP, if_neg (by decide), List.append_nil]
    exact hJ
/-- the drawn names -/
inductive Tgs : List Value → List (Option Str) → Prop
  | nil : Tgs [] []
  | cons {v : Value} {τ : Option Str} {vs : List Value} {τs : List (Option Str)} : TagIs v τ → (∀ s, τ = some s → 1 ≤ s.length ∧ s.length ≤ 20) → Tgs vs τs → Tgs (v :: vs) (τ :: τs)
theorem Tgs.of : ∀ {vs : List Value}, (∀ v ∈ vs, TG v) → ∃ τs, Tgs vs τs
  | [], _ => ⟨[], .nil⟩
  | v :: vs, h => by
    obtain ⟨τ, a, b⟩ := h v List.mem_cons_self
    obtain ⟨τs, c⟩ := Tgs.of (vs := vs) fun v hv => h v (List.mem_cons_of_mem _ hv)
    exact ⟨τ :: τs, .cons a b c⟩
theorem Tgs.len {vs : List Value} {τs : List (Option Str)} (x : Tgs vs τs) : vs.length = τs.length := by
  induction x with
  | nil => rfl
  | cons _ _ _ ih => simp [ih]
theorem Tgs.get {vs : List Value} {τs : List (Option Str)} (x : Tgs vs τs) : ∀ {k : Nat} {v : Value}, vs[k]? = some v → ∃ τ, τs[k]? = some τ ∧ TagIs v τ ∧ ∀ s, τ = some s → 1 ≤ s.length ∧ s.length ≤ 20 := by
  induction x with
  | nil => intro k v h; simp at h
  | cons a b _ ih =>
    intro k v h
    cases k with
    | zero => simp at h; subst h; exact ⟨_, rfl, a, b⟩
    | succ k => exact ih (by simpa using h)
/-- the nodes -/
inductive Nds (Z : List Ent) : List Value → List (Option Str) → Int → Prop
  | nil {p : Int} : Nds Z [] [] p
  | cons {v : Value} {τ : Option Str} {vs : List Value} {τs : List (Option Str)} {p : Int} : NodeIs Z v τ p → Nds Z vs τs (p + 1) → Nds Z (v :: vs) (τ :: τs) p
theorem Nds.mono {Z Z' : List Ent} {vs τs p} (x : Nds Z vs τs p) (h : ∀ e ∈ Z, e ∈ Z') : Nds Z' vs τs p := by
  induction x with
  | nil => exact .nil
  | cons a _ ih => exact .cons (a.mono h) ih
theorem Nds.snoc {Z : List Ent} {vs : List Value} {τs : List (Option Str)} {p : Int} {v : Value} {τ : Option Str} (x : Nds Z vs τs p) (y : NodeIs Z v τ (p + τs.length)) : Nds Z (vs ++ [v]) (τs ++ [τ]) p := by
  induction x with
  | nil => exact .cons (by simpa using y) .nil
  | @cons v' τ' vs τs p a b ih =>
    refine .cons a (ih ?_)
    have e : p + 1 + (τs.length : Int) = p + ((τ' :: τs).length : Int) := by simp; omega
    rw [e]; exact y
theorem Nds.len {Z : List Ent} {vs : List Value} {τs : List (Option Str)} {p : Int} (x : Nds Z vs τs p) : vs.length = τs.length := by
  induction x with
  | nil => rfl
  | cons _ _ ih => simp [ih]
/-- nodes and their places -/
inductive Outs (Z : List Ent) : List Value → List Int → Prop
  | nil : Outs Z [] []
  | cons {v : Value} {τ : Option Str} {vs : List Value} {ks : List Int} {p : Int} : NodeIs Z v τ p → Outs Z vs ks → Outs Z (v :: vs) (p :: ks)
theorem Outs.len {Z : List Ent} {vs : List Value} {ks : List Int} (x : Outs Z vs ks) : vs.length = ks.length := by
  induction x with
  | nil => rfl
  | cons _ _ ih => simp [ih]
theorem Outs.get {Z : List Ent} {vs : List Value} {ks : List Int} (x : Outs Z vs ks) : ∀ {k : Nat} {v : Value}, vs[k]? = some v → ∃ p τ, ks[k]? = some p ∧ NodeIs Z v τ p := by
  induction x with
  | nil => intro k v h; simp at h
  | cons a _ ih =>
    intro k v h
    cases k with
    | zero => simp at h; subst h; exact ⟨_, _, rfl, a⟩
    | succ k => exact ih (by simpa using h)
theorem TagIs.uniq {v : Value} {τ τ' : Option Str} (x : TagIs v τ) (y : TagIs v τ') : τ = τ' := by
  rcases x with ⟨s, u, rfl, rfl⟩ | ⟨rfl, rfl | ⟨n, u, rfl⟩⟩
  · rcases y with ⟨s', u', e, rfl⟩ | ⟨rfl, e | ⟨n', u', e⟩⟩ <;> cases e
    rfl
  · rcases y with ⟨s', u', e, rfl⟩ | ⟨rfl, e | ⟨n', u', e⟩⟩ <;> cases e
    rfl
  · rcases y with ⟨s', u', e, rfl⟩ | ⟨rfl, e | ⟨n', u', e⟩⟩ <;> cases e
    rfl
section
variable {W : Wd} {h₀ h : Heap} {Z R : List Ent}
theorem NodeIs.uniq {v : Value} {τ τ' : Option Str} {p p' : Int} (F : Fm W h₀ Z R h) (x : NodeIs Z v τ p) (y : NodeIs Z v τ' p') : τ = τ' := by
  obtain ⟨f, dx, m, tv, u, rfl, a1, a2, _, a3, _, a4, _⟩ := x
  obtain ⟨f', dx', m', tv', u', e, b1, b2, _, b3, _, b4, _⟩ := y
  cases e
  obtain ⟨o, ho, _, _, hd⟩ := F.atZ a1
  obtain ⟨o', ho', _, _, hd'⟩ := F.atZ b1
  rw [ho] at ho'; cases ho'
  rw [hd] at hd'; cases hd'
  obtain ⟨o, ho, es, ep, e1, _, _, e2⟩ := F.atZ a2
  obtain ⟨o', ho', es', ep', e1', _, _, e2'⟩ := F.atZ b2
  rw [ho] at ho'; cases ho'
  rw [e1] at e1'
  cases e1'
  have : m "tag" = m' "tag" := by rw [← e2, ← e2']
  rw [a3, b3] at this
  cases this
  exact a4.uniq b4
open Classical in
/-- what a selection takes, as a test of values -/
noncomputable def selV (Z : List Ent) (P : Option Str → Bool) (v : Value) : Bool := decide (∃ τ p, NodeIs Z v τ p ∧ P τ = true)
open Classical in
theorem selV_of {P : Option Str → Bool} {v : Value} {τ : Option Str} {p : Int} (F : Fm W h₀ Z R h) (x : NodeIs Z v τ p) : selV Z P v = P τ := by
  unfold selV
  cases hP : P τ with
  | true => exact decide_eq_true ⟨τ, p, x, hP⟩
  | false =>
    refine decide_eq_false ?_
    rintro ⟨τ', p', y, h'⟩
    rw [← NodeIs.uniq F x y, hP] at h'
    cases h'
theorem Nds.outs {P : Option Str → Bool} {vs : List Value} {τs : List (Option Str)} {p : Int} (F : Fm W h₀ Z R h) (x : Nds Z vs τs p) : Outs Z (vs.filter (selV Z P)) (ksFrom P τs p) := by
  induction x with
  | nil => exact .nil
  | cons a _ ih =>
    rw [List.filter_cons, selV_of F a]
    unfold ksFrom
    split
    · exact .cons a ih
    · exact ih
theorem Nds.all {vs : List Value} {τs : List (Option Str)} {p : Int} (x : Nds Z vs τs p) : ∀ v ∈ vs, ∃ τ p, NodeIs Z v τ p := by
  induction x with
  | nil => exact fun _ h => nomatch h
  | cons a _ ih => exact fun v hv => (List.mem_cons.mp hv).elim (fun e => e ▸ ⟨_, _, a⟩) (ih v)
end
theorem Outs.mono {Z Z' : List Ent} {vs : List Value} {ks : List Int} (x : Outs Z vs ks) (h : ∀ e ∈ Z, e ∈ Z') : Outs Z' vs ks := by
  induction x with
  | nil => exact .nil
  | cons a _ ih => exact .cons (a.mono h) ih
/-- cut patterns -/
inductive Cuts (Z : List Ent) : List Value → List Sc → Prop
  | nil : Cuts Z [] []
  | cons {D : Addr} {p : Sc} {vs : List Value} {ps : List Sc} : PartsAt Z D p.1 p.2 → p.1.length + (p.2.getD []).length ≤ 500 → Cuts Z vs ps → Cuts Z (.ref D :: vs) (p :: ps)
theorem Cuts.mono {Z Z' : List Ent} {vs ps} (x : Cuts Z vs ps) (h : ∀ e ∈ Z, e ∈ Z') : Cuts Z' vs ps := by
  induction x with
  | nil => exact .nil
  | cons a b _ ih => exact .cons (a.mono h) b ih
theorem Cuts.app {Z : List Ent} {vs ws : List Value} {ps qs : List Sc} (x : Cuts Z vs ps) (y : Cuts Z ws qs) : Cuts Z (vs ++ ws) (ps ++ qs) := by
  induction x with
  | nil => exact y
  | cons a b _ ih => exact .cons a b ih
theorem Cuts.len {Z : List Ent} {vs : List Value} {ps : List Sc} (x : Cuts Z vs ps) : vs.length = ps.length := by
  induction x with
  | nil => rfl
  | cons _ _ _ ih => simp [ih]
theorem Cuts.get {Z : List Ent} {vs : List Value} {ps : List Sc} (x : Cuts Z vs ps) : ∀ {k : Nat} {v : Value}, vs[k]? = some v → ∃ D p, v = .ref D ∧ ps[k]? = some p ∧ PartsAt Z D p.1 p.2 ∧ p.1.length + (p.2.getD []).length ≤ 500 := by
  induction x with
  | nil => intro k v h; simp at h
  | cons a b _ ih =>
    intro k v h
    cases k with
    | zero => simp at h; subst h; exact ⟨_, _, rfl, rfl, a, b⟩
    | succ k => exact ih (by simpa using h)
theorem AllPat.get {ps : List Str} {ss : List Sc} (x : AllPat ps ss) : ∀ {vs : List Value}, StrsAre vs ps → ∀ {k : Nat} {v : Value}, vs[k]? = some v → ∃ p u s, v = .str p u ∧ ss[k]? = some s ∧ Pat p s.1 s.2 := by
  induction x with
  | nil => intro vs y k v h; cases y; simp at h
  | cons a _ ih =>
    intro vs y k v h
    cases y with
    | cons _ _ y =>
      cases k with
      | zero => simp at h; subst h; exact ⟨_, _, _, rfl, rfl, a⟩
      | succ k => exact ih y (by simpa using h)
theorem AllPat.len {ps : List Str} {ss : List Sc} (x : AllPat ps ss) : ps.length = ss.length := by
  induction x with
  | nil => rfl
  | cons _ _ ih => simp [ih]
theorem strs_len {vs : List Value} {ps : List Str} (x : StrsAre vs ps) : vs.length = ps.length := by
  induction x with
  | nil => rfl
  | cons _ _ _ ih => simp [ih]
theorem It.src_pos (i : It) : 1 ≤ i.src.length := by cases i <;> simp [It.src]
theorem srcL_len : ∀ p : List It, p.length ≤ (srcL p).length
  | [] => Nat.le_refl _
  | i :: p => by
    have := srcL_len p
    have := It.src_pos i
    show _ ≤ (i.src ++ srcL p).length
    rw [List.length_append, List.length_cons]
    omega
theorem Pat.patL_len {y : Str} {pre : List It} {tail : Option (List It)} (P : Pat y pre tail) : (patL pre tail).length ≤ 500 := by
  have h1 := P.len
  have h2 := congrArg List.length P.cp
  have h3 := srcL_len (patL pre tail)
  rw [cp_len] at h2
  omega
theorem Pat.tests_len {y : Str} {pre : List It} {tail : Option (List It)} (P : Pat y pre tail) : pre.length + (tail.getD []).length ≤ 500 := by
  have h1 := P.patL_len
  cases tail with
  | none => simpa [patL] using h1
  | some post =>
    simp only [patL, List.length_append, List.length_cons] at h1
    simp only [Option.getD_some]
    omega
def wildSc : List Sc := [([123, 42, 125].map qi, some []), ([], some ([125, 42].map qi))]
/-- what holds in the law's loop -/
structure LC (Z : List Ent) (m : Str → Option Value) (D1 N RW WL : Addr) (tags nds : List Value) (τs : List (Option Str)) : Prop where
  m1 : m "nodes" = some (.ref N)
  m2 : m "rows" = some (.ref RW)
  m3 : m "wilds" = some (.ref WL)
  t : (D1, lsO tags) ∈ Z
  tg : Tgs tags τs
  t6 : tags.length = 6
  n : (N, lsO nds) ∈ Z
  nd : Nds Z nds τs 0
  r : ∃ rs, (RW, lsO rs) ∈ Z ∧ ∀ ok : Value → Prop, (∀ v ∈ nds, ok v) → Rows Z ok rs nds
  w : ∃ cs, (WL, lsO cs) ∈ Z ∧ Cuts Z cs wildSc
theorem LC.next {Z Z' : List Ent} {m m' : Str → Option Value} {D1 N RW WL : Addr} {tags nds : List Value} {τs : List (Option Str)} (x : LC Z m D1 N RW WL tags nds τs) (h : ∀ e ∈ Z, e ∈ Z')
    (h1 : m' "nodes" = m "nodes") (h2 : m' "rows" = m "rows") (h3 : m' "wilds" = m "wilds") : LC Z' m' D1 N RW WL tags nds τs :=
  ⟨h1.trans x.m1, h2.trans x.m2, h3.trans x.m3, h _ x.t, x.tg, x.t6, h _ x.n, x.nd.mono h, let ⟨rs, a, b⟩ := x.r; ⟨rs, h _ a, fun ok ho => (b ok ho).mono h fun _ y => y⟩, let ⟨cs, a, b⟩ := x.w; ⟨cs, h _ a, b.mono h⟩⟩
theorem LC.n6 {Z : List Ent} {m : Str → Option Value} {D1 N RW WL : Addr} {tags nds : List Value} {τs : List (Option Str)} (x : LC Z m D1 N RW WL tags nds τs) : nds.length = 6 := by
  rw [x.nd.len, ← x.tg.len, x.t6]
theorem wild_any {y : Str} : ((wildSc.map fun p => takesB p.1 p.2 (cp y)).any id) = isWildB y := by
  rw [wild_takes]
  simp [wildSc]
theorem bare_step {GG GG' : List GEnt} {gs gs' : Array GenState} (x : GenStep GG GG' gs gs') (f : Fin' GG') (h : ∀ i y, i ∉ GG.map (·.1) → gs[i]? = some y → y.bare = true) : AllBare gs' := fun y hy => by
  obtain ⟨i, hi, rfl⟩ := Array.mem_iff_getElem.mp hy
  have e : gs'[i]? = some gs'[i] := Array.getElem?_eq_getElem hi
  by_cases hk : i ∈ GG.map (·.1)
  · rw [← x.keys] at hk
    obtain ⟨p, hp, rfl⟩ := List.mem_map.mp hk
    have := x.pre p hp
    rw [e, f p hp] at this
    rw [Option.some.inj this]
    rfl
  · rw [x.old i hk] at e
    exact h i _ hk e
theorem bare_at {gs : Array GenState} (h : AllBare gs) {i : Nat} {y : GenState} (e : gs[i]? = some y) : y.bare = true := h y (Array.mem_of_getElem? e)
end
section
open PySem PySem.W PySem.W.X PySem.Calls PyProof.Rows PySem.Builtin
noncomputable abbrev lawEnv (L : Addr) : Env := callEnvC fdLW L 152
abbrev LB : List Stmt := forBody (bAt (bodyOf (stAt 24)) 4)
/-- the law's own things in its loop -/
abbrev LF (L D1 : Addr) (m : Str → Option Value) (v2 v3 : Option Value) (it : Addr) (ι' : Obj → Prop) : List Ent := [(L, nsO m), (L + 1, clO (some (.ref D1))), (L + 2, clO v2), (L + 3, clO v3), (it, ι')]
/-- a turn of the law's loop may end so -/
def Nx (W : Wd) (h₀ : Heap) (d : Drawn) (os : OsState) (L it D1 N RW WL : Addr) (ι' : Obj → Prop) (tags nds : List Value) (τs : List (Option Str)) (Z : List Ent) (Q : Flow → Shared → Prop) : Prop :=
  ∀ Z' m' v2 v3 gs' h' t', (∀ e ∈ Z, e ∈ Z') → LC Z' m' D1 N RW WL tags nds τs → AllBare gs' → Fm W h₀ Z' (LF L D1 m' v2 v3 it ι') h' → Q .next ⟨h', gs', d, t', os⟩
theorem Nx.mono {W : Wd} {h₀ : Heap} {d : Drawn} {os : OsState} {L it D1 N RW WL : Addr} {ι' : Obj → Prop} {tags nds : List Value} {τs : List (Option Str)} {Z Z₂ : List Ent} {Q : Flow → Shared → Prop}
    (x : Nx W h₀ d os L it D1 N RW WL ι' tags nds τs Z Q) (h : ∀ e ∈ Z, e ∈ Z₂) : Nx W h₀ d os L it D1 N RW WL ι' tags nds τs Z₂ Q := fun Z' m' v2 v3 gs' h' t' hZ => x Z' m' v2 v3 gs' h' t' fun e he => hZ e (h e he)
section
variable {W : Wd} {A : Around} {E : Value → Shared → Prop} {h₀ h : Heap} {gs : Array GenState} {d : Drawn} {t : Nat} {os : OsState} {Z R : List Ent} {env : Env} {m : Str → Option Value}
theorem v_localM {x : Str} {v : Value} {pos : Pos} {Q : Value → Shared → Prop} (F : Fm W h₀ Z R h) (hm : (env.locals, nsO m) ∈ R) (hv : m x = some v) (hk : env.scope.kind = .function) (hx : env.kindOf x = some .local) (q : Q v ⟨h, gs, d, t, os⟩)
    (hd : (x == ("__debug__" : Str)) = false := by decide) : wpAny (MM W.w) A (eval (.Name x pos) env) Q E ⟨h, gs, d, t, os⟩ := wpAny_Name (wpAny_loadName_local hk hx (at_ns.mp (F.atR hm)) hv q) hd
/-- the places of the nodes that a source hands out -/
theorem nodePlaces {px pe pi : Pos} {iter : Expr} {scope : Scope} {pos : Pos} {it : Addr} {Zn : List Ent} {n : Nat} {vs : List Value} {ks : List Int} {RG : List Ent} {GG : List GEnt} {Q : Value → Shared → Prop}
    (S : Src W it Zn n vs RG GG) (rm : Rm n A) (hZ : ∀ e ∈ Zn, e ∈ Z) (hit : ∃ g, (it, genO g) ∈ Z) (F : Fm W h₀ Z (RG ++ R) h) (hG : GenPre GG gs) (hn : vs.length ≤ 1000) (ho : Outs Z vs ks) (hb : ∀ i y, i ∉ GG.map (·.1) → gs[i]? = some y → y.bare = true)
    (hcell : ∀ y ∈ scope.names, y.2 ≠ .cell) (hkind : scope.kind = .function) (hx : scope.names.lookup (Str.ofString "node") = some NameKind.local)
    (done : ∀ D ys h' t' gs', IsInts ys ks → AllBare gs' → Fm W h₀ ((D, lsO ys) :: Z) R h' → Q (.ref D) ⟨h', gs', d, t', os⟩) :
    CompOn W A E env (.Attribute (.Name "node" pe) "place" pi) iter "node" px [] scope pos [] (fun acc C => compPost (MM W.w) A E none Q acc C) (.ref it) ⟨h, gs, d, t, os⟩ := by
  refine comp_src S rm hZ F hG (by omega) (fun k ys => IsInts ys (ks.take k)) .nil (fun ⟨R', F'⟩ q => ?_) hcell hkind hx ?_ ?_
  · obtain ⟨g, hg⟩ := hit
    exact wpAny_pyIter_gen (isGen_of (F'.atZ hg)) q
  · intro E' D C k ys RG' m h' t' gs' v hv hJ F'
    obtain ⟨p, τ, hp, f, dx, mn, tv, u, rfl, a1, a2, a3, a4, a5, _⟩ := ho.get hv
    refine Attribute_name ?_
    refine v_localM (m := upd m "node" (.ref f)) (v := .ref f) F' (by simp [compEnvC]) (by simp [upd]) (by simp [compEnvC, relabel, hkind]) (lookup_relabel_local hx) ?_
    refine v_attr F' a1 a2 a3 lk_fn_place a5 rfl ?_
    refine ⟨_, _, rfl, F', ?_⟩
    rw [List.take_succ, hp]
    exact hJ.app (.cons .nil)
  · intro D ys h' t' gs' GG' _ hJ F' hst hf
    rw [ho.len, List.take_length] at hJ
    exact done D ys h' t' gs' hJ (bare_step hst hf hb) F'
end
end
section
local macro_rules | `(tactic| wtm_at "xname") => rd "(places n_cellD 1 2 3) (places n_localD 7)"
local macro_rules | `(tactic| wtm_at "x1") => rd "(at xst) (rules v_isnotB)"
local macro_rules | `(tactic| wtm_at "xst") => rd "(do (wp (storeName _ _ _)) (places n_storeCD 1 2 3) (intro 2))"
local macro_rules | `(tactic| wtm_at "xmem") => rd "(exact List.mem_cons_self) assumption simp"
section
open PySem PySem.W PySem.W.X PySem.Calls PyProof.Rows PySem.Builtin
section
variable {W : Wd} {A : Around} {E : Value → Shared → Prop} {h₀ h : Heap} {gs : Array GenState} {d : Drawn} {t : Nat} {os : OsState} {Z R : List Ent} {m : Str → Option Value} {Q : Flow → Shared → Prop}
  {L D1 N RW WL TK it : Addr} {ι' : Obj → Prop} {w : Str} {uw : Tok} {v3 : Option Value} {tags nds tks : List Value} {τs : List (Option Str)}
/-- if wild: what _prepare_tag gives picks the same -/
theorem lb8 (F : Fm W h₀ Z (LF L D1 m (some (.str w uw)) v3 it ι') h) (rm : Rm 12 A) (hw : w.length ≤ 20) (C : LC Z m D1 N RW WL tags nds τs) (hb : AllBare gs)
    (m4 : m "wild" = some (.bool (isWildB w))) (m5 : m "taken" = some (.ref TK)) (hTK : (TK, lsO tks) ∈ Z) (hks : IsInts tks (ksFrom (plainB w) τs 0)) (q : Nx W h₀ d os L it D1 N RW WL ι' tags nds τs Z Q) :
    wpAny (MM W.w) A (execs (LB.drop 8) (lawEnv L)) Q E ⟨h, gs, d, t, os⟩ := by
  have m1 := C.m1
  have n6 := C.n6
  refine x_cons ?_
  repeat' ((fail_if_success (with_reducible show wpAny _ _ (call (.ref 45) _) _ _ _)); wtm_at "x1")
  · have hb1 : isWildB w = true := by assumption
    refine k_prep (by assumption) (rm.le (by decide)) (by wtm_at "om") hb1 ?_
    intro f Y h1 t1 S fr F1
    have eP : selOf w = plainB w := by
      have : childOf w = selOf w := by unfold childOf; rw [if_pos hb1]
      rw [← this]
      exact funext child_plain
    have hYZ : ∀ e ∈ Z, e ∈ Y ++ Z := fun e he => List.mem_append_right _ he
    repeat' ((fail_if_success (with_reducible show Kept _ _ _ ∧ _)); wtm_at "x1")
    obtain ⟨fd, hfd⟩ := S.fn
    have F2 := Fm.here (by assumption)
    refine And.intro (kept_fnO (F2.atZ (List.mem_append_left _ hfd))) ?_
    repeat' ((fail_if_success (with_reducible show wpAny _ _ (call (.ref _) _) _ _ _)); wtm_at "x1")
    refine S.call (Zn := Y ++ Z) (n := 0) (vs := nds) (RG := []) (GG := []) (sel := selV (Y ++ Z) (selOf w)) rm.depth (fun e he => List.mem_append_left _ he) F2 (fun e he => List.mem_append_left _ he) (ItSrc.list (hYZ _ C.n)) (fun v hv => ?_) ?_
    · obtain ⟨τ, p, hn⟩ := (C.nd.mono hYZ).all v hv
      exact ⟨τ, p, hn, selV_of F2 hn⟩
    intro a C1 m0 st h3 t3 ha gb F3
    have hsub : ∀ e ∈ Y ++ Z, e ∈ (a, genO gs.size) :: (Y ++ Z) := fun e he => List.mem_cons_of_mem _ he
    refine wpAny_pyIter_gen (isGen_of (F3.atZ List.mem_cons_self)) ?_
    refine nodePlaces (Zn := (a, genO gs.size) :: (Y ++ Z)) (Src.gen List.mem_cons_self _ _ [] _ (by simp) (gb.mono hsub)) (rm.le (by decide)) (fun _ e => e) ⟨_, List.mem_cons_self⟩ (F3.perm List.perm_append_comm) (fun p hp => by rw [List.mem_singleton.mp hp]; exact Array.getElem?_push_size)
      (Nat.le_trans (List.length_filter_le _ _) (by wtm_at "om")) (((C.nd.mono hYZ).outs F2).mono hsub) (fun i y hi hy => bare_at hb (push_old (by simpa using hi) hy)) (by decide) (by rfl) (by rfl) ?_
    intro D ys h4 t4 gs4 hys hb4 F4
    rw [eP] at hys
    have hsub2 : ∀ e ∈ Z, e ∈ (D, lsO ys) :: (a, genO gs.size) :: (Y ++ Z) := fun e he => List.mem_cons_of_mem _ (hsub e (hYZ e he))
    repeat' ((fail_if_success (with_reducible show wpAny _ _ (compareOp _ _ _) _ _ _)); wtm_at "x1")
    refine v_neI (at_ls.mp (F4.atZ List.mem_cons_self)) (at_ls.mp (F4.atZ (hsub2 _ hTK))) hys hks rm.units ?_
    repeat' (wtm_at "x1")
    have F5 := Fm.here (by assumption)
    exact q _ _ _ _ _ _ _ hsub2 (C.next hsub2 (by with_unfolding_all rfl) (by with_unfolding_all rfl) (by with_unfolding_all rfl)) hb4 F5
  · exact q _ _ _ _ _ _ _ (fun _ e => e) C hb (by assumption)
end
end
section
open PySem PySem.W PySem.W.X PySem.Calls PyProof.Rows PySem.Builtin
section
variable {W : Wd} {A : Around} {E : Value → Shared → Prop} {h₀ h : Heap} {gs : Array GenState} {d : Drawn} {t : Nat} {os : OsState} {Z R Y : List Ent} {m : Str → Option Value} {Q : Flow → Shared → Prop}
  {L D1 N RW WL TK it f : Addr} {ι' : Obj → Prop} {w : Str} {uw : Tok} {v3 : Option Value} {tags nds tks : List Value} {τs : List (Option Str)}
/-- what prepare_child gives picks the same -/
theorem lb7 (F : Fm W h₀ Z (LF L D1 m (some (.str w uw)) v3 it ι') h) (rm : Rm 12 A) (hw : w.length ≤ 20) (C : LC Z m D1 N RW WL tags nds τs) (hb : AllBare gs)
    (m4 : m "wild" = some (.bool (isWildB w))) (m5 : m "taken" = some (.ref TK)) (hTK : (TK, lsO tks) ∈ Z) (hks : IsInts tks (ksFrom (plainB w) τs 0))
    (m6 : m "select" = some (.ref f)) (S : ChildFn W Y f (childOf w)) (hY : ∀ e ∈ Y, e ∈ Z) (q : Nx W h₀ d os L it D1 N RW WL ι' tags nds τs Z Q) :
    wpAny (MM W.w) A (execs (LB.drop 7) (lawEnv L)) Q E ⟨h, gs, d, t, os⟩ := by
  have m2 := C.m2
  have n6 := C.n6
  have eP : childOf w = plainB w := funext child_plain
  obtain ⟨fd, hfd⟩ := S.fn
  obtain ⟨rs, hRW, hrs⟩ := C.r
  refine x_cons ?_
  repeat' ((fail_if_success (with_reducible show Kept _ _ _ ∧ _)); wtm_at "x1")
  refine And.intro (kept_fnO (F.atZ (hY _ hfd))) ?_
  repeat' ((fail_if_success (with_reducible show wpAny _ _ (call (.ref _) _) _ _ _)); wtm_at "x1")
  refine S.call (Zn := Z) (vs := rs) (out := nds) (sel := selV Z (childOf w)) (rm.le (by decide)) hY (fun _ e => e) F hRW (hrs _ fun v hv => ?_) ?_
  · obtain ⟨τ, p, hn⟩ := C.nd.all v hv
    exact ⟨τ, p, hn, selV_of F hn⟩
  intro a g Zn' RG GG Z' gs' h3 t3 hZ hZn hag Sr hG hold F3
  refine wpAny_pyIter_gen (isGen_of (F3.atZ (hZn _ hag))) ?_
  refine nodePlaces Sr rm hZn ⟨g, hZn _ hag⟩ (F3.perm List.perm_append_comm) hG (Nat.le_trans (List.length_filter_le _ _) (by wtm_at "om")) ((C.nd.outs F).mono hZ) (fun i y hi hy => bare_at hb (hold i y hi hy)) (by decide) (by rfl) (by rfl) ?_
  intro D ys h4 t4 gs4 hys hb4 F4
  rw [eP] at hys
  have hsub : ∀ e ∈ Z, e ∈ (D, lsO ys) :: Z' := fun e he => List.mem_cons_of_mem _ (hZ e he)
  repeat' ((fail_if_success (with_reducible show wpAny _ _ (compareOp _ _ _) _ _ _)); wtm_at "x1")
  refine v_neI (at_ls.mp (F4.atZ List.mem_cons_self)) (at_ls.mp (F4.atZ (hsub _ hTK))) hys hks rm.units ?_
  repeat' ((fail_if_success (with_reducible show wpAny _ _ (execs (_ :: _) _) _ _ _)); wtm_at "x1")
  exact lb8 F4 rm hw (C.next hsub rfl rfl rfl) hb4 m4 m5 (hsub _ hTK) hks (q.mono hsub)
/-- select = prepare_child(None, ('', wish)) -/
theorem lb6 (F : Fm W h₀ Z (LF L D1 m (some (.str w uw)) v3 it ι') h) (rm : Rm 12 A) (hw : w.length ≤ 20) (C : LC Z m D1 N RW WL tags nds τs) (hb : AllBare gs)
    (m4 : m "wild" = some (.bool (isWildB w))) (m5 : m "taken" = some (.ref TK)) (hTK : (TK, lsO tks) ∈ Z) (hks : IsInts tks (ksFrom (plainB w) τs 0)) (q : Nx W h₀ d os L it D1 N RW WL ι' tags nds τs Z Q) :
    wpAny (MM W.w) A (execs (LB.drop 6) (lawEnv L)) Q E ⟨h, gs, d, t, os⟩ := by
  refine x_cons ?_
  repeat' ((fail_if_success (with_reducible show wpAny _ _ (call (.ref 52) _) _ _ _)); wtm_at "x1")
  refine k_child (by assumption) (rm.le (by decide)) List.mem_cons_self (by wtm_at "om") ?_
  intro f Y h1 t1 S fr F1
  repeat' ((fail_if_success (with_reducible show wpAny _ _ (execs (_ :: _) _) _ _ _)); wtm_at "x1")
  have F2 := Fm.here (by assumption)
  exact lb7 F2 rm hw (C.next (fun e he => List.mem_append_right _ (List.mem_cons_of_mem _ he)) (by with_unfolding_all rfl) (by with_unfolding_all rfl) (by with_unfolding_all rfl)) hb (by with_unfolding_all exact m4) (by with_unfolding_all exact m5) (List.mem_append_right _ (List.mem_cons_of_mem _ hTK)) hks
    (by with_unfolding_all rfl) S (fun e he => List.mem_append_left _ he) (q.mono fun e he => List.mem_append_right _ (List.mem_cons_of_mem _ he))
end
end
section
open PySem PySem.W PySem.W.X PySem.Calls PyProof.Rows PySem.Builtin
section
variable {W : Wd} {A : Around} {E : Value → Shared → Prop} {h₀ h : Heap} {gs : Array GenState} {d : Drawn} {t : Nat} {os : OsState} {Z R Y : List Ent} {m : Str → Option Value} {Q : Flow → Shared → Prop}
  {L D1 N RW WL TK it f : Addr} {ι' : Obj → Prop} {w : Str} {uw : Tok} {v3 : Option Value} {tags nds tks : List Value} {τs : List (Option Str)}
/-- taken is what the law's plain reading picks -/
theorem lb5 (F : Fm W h₀ Z (LF L D1 m (some (.str w uw)) v3 it ι') h) (rm : Rm 12 A) (hw : w.length ≤ 20) (C : LC Z m D1 N RW WL tags nds τs) (hb : AllBare gs)
    (m4 : m "wild" = some (.bool (isWildB w))) (m5 : m "taken" = some (.ref TK)) (hTK : (TK, lsO tks) ∈ Z) (hks : IsInts tks (ksFrom (plainB w) τs 0)) (q : Nx W h₀ d os L it D1 N RW WL ι' tags nds τs Z Q) :
    wpAny (MM W.w) A (execs (LB.drop 5) (lawEnv L)) Q E ⟨h, gs, d, t, os⟩ := by
  have t6 := C.t6
  have hlen : τs.length = 6 := by rw [← C.tg.len, t6]
  refine x_cons ?_
  repeat' (wtm_at "x1")
  refine v_range1 (by assumption) ?_
  intro r h2 t1 u1 v1 t2 hr G2
  refine v_it_range (n := 6) G2 hr (by wtm_at "om") ?_
  intro it2 h3 G3
  refine comp_none (Iter.range (n := 6) rm.hd) G3 (fun k Z'' ys => IsInts ys (ksFrom (plainB w) (τs.take k) 0)) (fun _ _ _ _ _ => trivial) (by wtm_at "om") .nil self_range (by decide) (by rfl) (by rfl) ?_ ?_
  · rintro E' D C' k Z'' ys ι2 m' h4 t4 v hk hJ hys hZ G4 ⟨tv, rfl⟩
    repeat' (wtm_at "x1")
    refine v_item (at_ls.mp (Fm.atZ (by assumption) (hZ _ C.t))) (by wtm_at "om") (by wtm_at "om") (by wtm_at "om") ?_
    intro x hx
    rw [Int.toNat_natCast] at hx
    obtain ⟨τ, hτ, hx1, _⟩ := C.tg.get hx
    repeat' ((fail_if_success (with_reducible show wpAny _ _ (call (.ref 128) _) _ _ _)); wtm_at "x1")
    have G5 := Fm.here (by assumption)
    refine k_plain (y := w) G5 (rm.le (by decide)) (by wtm_at "om") hx1 ?_
    intro h5 t5 G6
    repeat' (wtm_at "x1")
    · have hP : plainB w τ = true := by assumption
      exact ⟨_, _, _, rfl, by assumption, hZ, (ints_step hτ hJ).1 hP⟩
    · have hP : plainB w τ = false := by assumption
      exact ⟨_, _, _, rfl, by assumption, hZ, (ints_step (u := 0) hτ hJ).2 hP⟩
  · intro D Z' ys h5 t5 hD hJ hZ F5
    rw [List.take_of_length_le (by wtm_at "om")] at hJ
    have hsub : ∀ e ∈ Z, e ∈ (D, lsO ys) :: Z' := fun e he => List.mem_cons_of_mem _ (hZ e he)
    refine v_neI (at_ls.mp (F5.atZ (hsub _ hTK))) (at_ls.mp (F5.atZ List.mem_cons_self)) hks hJ rm.units ?_
    repeat' ((fail_if_success (with_reducible show wpAny _ _ (execs (_ :: _) _) _ _ _)); wtm_at "x1")
    exact lb6 F5 rm hw (C.next hsub rfl rfl rfl) hb m4 m5 (hsub _ hTK) hks (q.mono hsub)
end
end
section
open PySem PySem.W PySem.W.X PySem.Calls PyProof.Rows PySem.Builtin
local macro_rules | `(tactic| wtm_at "xname") => rd "(places n_cellD 8) (places n_localD 11)"
section
variable {W : Wd} {A : Around} {E : Value → Shared → Prop} {h₀ h : Heap} {gs : Array GenState} {d : Drawn} {t : Nat} {os : OsState} {Z R Y : List Ent} {m : Str → Option Value} {Q : Flow → Shared → Prop}
  {L D1 N RW WL CT it f : Addr} {ι' : Obj → Prop} {w : Str} {uw : Tok} {tags nds cs : List Value} {τs : List (Option Str)}
/-- taken = [k for k in range(6) if isinstance(tags[k], str) and True in [..]] -/
theorem lb4 (F : Fm W h₀ Z (LF L D1 m (some (.str w uw)) (some (.ref CT)) it ι') h) (rm : Rm 12 A) (hw : w.length ≤ 20) (C : LC Z m D1 N RW WL tags nds τs) (hb : AllBare gs)
    (m4 : m "wild" = some (.bool (isWildB w))) (hCT : (CT, lsO cs) ∈ Z) (hcs : Cuts Z cs (scOf w)) (hc9 : cs.length ≤ 1000) (q : Nx W h₀ d os L it D1 N RW WL ι' tags nds τs Z Q) :
    wpAny (MM W.w) A (execs (LB.drop 4) (lawEnv L)) Q E ⟨h, gs, d, t, os⟩ := by
  have t6 := C.t6
  have hlen : τs.length = 6 := by rw [← C.tg.len, t6]
  refine x_cons ?_
  repeat' (wtm_at "x1")
  refine v_range1 (by assumption) ?_
  intro r h2 t1 u1 v1 t2 hr G2
  refine v_it_range (n := 6) G2 hr (by wtm_at "om") ?_
  intro it2 h3 G3
  refine comp_useK (i := 0) (Iter.range (n := 6) rm.hd) G3 (fun k ys => IsInts ys (ksFrom (plainB w) (τs.take k) 0)) (fun _ _ _ _ _ => trivial) (by wtm_at "om") .nil self_range (fun n => rfl) (fun h => rfl) (by rfl) (by rfl) (by rfl) (by rfl) (by rfl) ?_ ?_
  · rintro E' D C' K k Z'' ys ι2 h4 t4 v hk hJ hys hZ G4 ⟨tv, rfl⟩
    have no : plainB w none = false := rfl
    repeat' (wtm_at "x1")
    refine v_item (at_ls.mp (Fm.atZ (by assumption) (hZ _ C.t))) (by wtm_at "om") (by wtm_at "om") (by wtm_at "om") ?_
    intro x hx
    have hx0 := hx
    rw [Int.toNat_natCast] at hx
    obtain ⟨τ, hτ, hx1, hx2⟩ := C.tg.get hx
    have G5 := Fm.here (by assumption)
    rcases hx1 with ⟨s, us, rfl, rfl⟩ | ⟨rfl, rfl | ⟨n, un, rfl⟩⟩
    · obtain ⟨s1, s2⟩ := hx2 s rfl
      repeat' (wtm_at "x1")
      refine v_it_list (by assumption) (at_ls.mp (Fm.atZ (by assumption) (hZ _ hCT))) ?_
      intro it3 h5 G6 _
      refine comp_none (Iter.list (vs := cs) rm.hd) G6 (fun k2 Z2 ys2 => ys2 = (((scOf w).take k2).map fun p => takesB p.1 p.2 (cp s)).map Value.bool) (fun Z2 h2 R2 hZ2 F2 => at_ls.mp (F2.atZ (hZ2 _ (hZ _ hCT)))) (by wtm_at "om") rfl self_list (by decide) (by rfl) (by rfl) ?_ ?_
      · rintro E2 D2 C2 k2 Z2 ys2 ι3 m3 h6 t6' v hk2 rfl hys2 hZ2 G7 hv
        obtain ⟨Dc, p, rfl, hp, hpa, hpl⟩ := hcs.get hv
        repeat' (wtm_at "x1")
        refine v_item (at_ls.mp (Fm.atZ (by assumption) (hZ2 _ (hZ _ C.t)))) (by wtm_at "om") (by wtm_at "om") (by wtm_at "om") ?_
        intro x hx'
        rw [hx0] at hx'
        cases hx'
        repeat' ((fail_if_success (with_reducible show wpAny _ _ (call (.ref 140) _) _ _ _)); wtm_at "x1")
        have G8 := Fm.here (by assumption)
        refine k_takes (y := s) G8 (rm.le (by decide)) (hpa.mono fun e he => hZ2 e (hZ e he)) (by wtm_at "om") hpl ?_
        intro h7 t7 G9
        refine ⟨_, _, _, rfl, G9, hZ2, ?_⟩
        show _ = (((scOf w).take (k2 + 1)).map fun p => takesB p.1 p.2 (cp s)).map Value.bool
        rw [List.take_succ, hp]
        simp
      · intro D3 Z3 ys3 h6 t6' hD3 hJ3 hZ3 G7
        subst hJ3
        rw [hcs.len, List.take_length] at G7
        refine v_inB (at_ls.mp (G7.atZ List.mem_cons_self)) ?_
        have hany : (((scOf w).map fun p => takesB p.1 p.2 (cp s)).any id) = plainB w (some s) := by
          rw [← says_plain (by wtm_at "om"), List.any_map]
          rfl
        rw [hany]
        have hZ4 : ∀ e ∈ Z, e ∈ (D3, lsO (((scOf w).map fun p => takesB p.1 p.2 (cp s)).map Value.bool)) :: Z3 := fun e he => List.mem_cons_of_mem _ (hZ3 e (hZ e he))
        repeat' (wtm_at "x1")
        · have hP : plainB w (some s) = true := by assumption
          exact ⟨_, _, _, rfl, by assumption, hZ4, (ints_step hτ hJ).1 hP⟩
        · have hP : plainB w (some s) = false := by assumption
          exact ⟨_, _, _, rfl, by assumption, hZ4, (ints_step (u := 0) hτ hJ).2 hP⟩
    · repeat' (wtm_at "x1")
      exact ⟨_, _, _, rfl, by assumption, hZ, (ints_step (u := 0) hτ hJ).2 no⟩
    · repeat' (wtm_at "x1")
      exact ⟨_, _, _, rfl, by assumption, hZ, (ints_step (u := 0) hτ hJ).2 no⟩
  · intro D Z' ys h5 t5 hD hJ hZ F5
    rw [List.take_of_length_le (by wtm_at "om")] at hJ
    have hsub : ∀ e ∈ Z, e ∈ (D, lsO ys) :: Z' := fun e he => List.mem_cons_of_mem _ (hZ e he)
    simp only [List.set_cons_zero] at F5
    exact lb5 F5 rm hw (C.next hsub (by with_unfolding_all rfl) (by with_unfolding_all rfl) (by with_unfolding_all rfl)) hb (by with_unfolding_all exact m4) (by with_unfolding_all rfl) List.mem_cons_self hJ (q.mono hsub)
end
end
section
open PySem PySem.W PySem.W.X PySem.Calls PyProof.Rows PySem.Builtin
section
variable {W : Wd} {A : Around} {E : Value → Shared → Prop} {h₀ h : Heap} {gs : Array GenState} {d : Drawn} {t : Nat} {os : OsState} {Z R Y : List Ent} {m : Str → Option Value} {Q : Flow → Shared → Prop}
  {L D1 N RW WL CT it f : Addr} {ι' : Obj → Prop} {w : Str} {uw : Tok} {v3 : Option Value} {tags nds cs : List Value} {τs : List (Option Str)}
theorem scOf_len (w : Str) : (scOf w).length ≤ 2 := by
  unfold scOf
  repeat' split
  all_goals simp
/-- cuts = [_law_cut(translate(pattern)) for pattern in _law_says(wish)] -/
theorem lb3 (F : Fm W h₀ Z (LF L D1 m (some (.str w uw)) v3 it ι') h) (rm : Rm 12 A) (hw : w.length ≤ 20) (C : LC Z m D1 N RW WL tags nds τs) (hb : AllBare gs)
    (m4 : m "wild" = some (.bool (isWildB w))) (q : Nx W h₀ d os L it D1 N RW WL ι' tags nds τs Z Q) :
    wpAny (MM W.w) A (execs (LB.drop 3) (lawEnv L)) Q E ⟨h, gs, d, t, os⟩ := by
  have hAP := says_sc (y := w) (by wtm_at "om")
  have hsl := scOf_len w
  refine x_cons ?_
  repeat' ((fail_if_success (with_reducible show wpAny _ _ (call (.ref 121) _) _ _ _)); wtm_at "x1")
  refine k_says (y := w) (by assumption) (rm.le (by decide)) (by wtm_at "om") ?_
  intro S vs h1 t1 hS hvs F1
  have hvl : vs.length = (scOf w).length := by rw [strs_len hvs, hAP.len]
  refine v_it_list F1 (at_ls.mp (F1.atZ List.mem_cons_self)) ?_
  intro it2 h2 G2 _
  refine comp_none (Iter.list (vs := vs) rm.hd) G2 (fun k Z'' ys => Cuts Z'' ys ((scOf w).take k)) (fun Z2 h2 R2 hZ2 F2 => at_ls.mp (F2.atZ (hZ2 _ List.mem_cons_self))) (by wtm_at "om") .nil self_list (by decide) (by rfl) (by rfl) ?_ ?_
  · rintro E' D C' k Z'' ys ι2 m' h4 t4 v hk hJ hys hZ G4 hv
    obtain ⟨p, u, sc, rfl, hsc, P⟩ := hAP.get hvs hv
    repeat' ((fail_if_success (with_reducible show wpAny _ _ (call (.ref 64) _) _ _ _)); wtm_at "x1")
    refine k_translate (by assumption) (rm.le (by decide)) P ?_
    intro h5 tk t5 G5
    repeat' ((fail_if_success (with_reducible show wpAny _ _ (call (.ref 135) _) _ _ _)); wtm_at "x1")
    refine k_cut (by assumption) (rm.le (by decide)) cp_join_B P.patL_len P.ok P.pre P.post ?_
    intro Dc Y h6 t6 hD hY G6
    refine ⟨Y ++ Z'', _, _, rfl, by assumption, fun e he => List.mem_append_right _ (hZ e he), ?_⟩
    show Cuts _ _ ((scOf w).take (k + 1))
    rw [List.take_succ, hsc]
    exact (hJ.mono fun e he => List.mem_append_right _ he).app (.cons (hY.mono fun e he => List.mem_append_left _ he) P.tests_len .nil)
  · intro D Z' ys h5 t5 hD hJ hZ F5
    rw [List.take_of_length_le (by wtm_at "om")] at hJ
    have hsub : ∀ e ∈ Z, e ∈ (D, lsO ys) :: Z' := fun e he => List.mem_cons_of_mem _ (hZ e (List.mem_cons_of_mem _ he))
    have hJ' : Cuts ((D, lsO ys) :: Z') ys (scOf w) := hJ.mono fun e he => List.mem_cons_of_mem _ he
    have hl := hJ.len
    repeat' ((fail_if_success (with_reducible show wpAny _ _ (execs (_ :: _) _) _ _ _)); wtm_at "x1")
    have F6 := Fm.here (by assumption)
    exact lb4 F6 rm hw (C.next hsub rfl rfl rfl) hb m4 List.mem_cons_self hJ' (by wtm_at "om") (q.mono hsub)
end
end
section
open PySem PySem.W PySem.W.X PySem.Calls PyProof.Rows PySem.Builtin
section
variable {W : Wd} {A : Around} {E : Value → Shared → Prop} {h₀ h : Heap} {gs : Array GenState} {d : Drawn} {t : Nat} {os : OsState} {Z R Y : List Ent} {m : Str → Option Value} {Q : Flow → Shared → Prop}
  {L D1 N RW WL CT it f : Addr} {ι' : Obj → Prop} {w : Str} {uw : Tok} {v3 : Option Value} {tags nds cs : List Value} {τs : List (Option Str)}
/-- if _law_refused(wish) != ('' if wild else 'internal parser error, got ' + wish) -/
theorem lb2 (F : Fm W h₀ Z (LF L D1 m (some (.str w uw)) v3 it ι') h) (rm : Rm 12 A) (hfr : A.frames = some [lawEnv L]) (hw : w.length ≤ 20) (C : LC Z m D1 N RW WL tags nds τs) (hb : AllBare gs)
    (m4 : m "wild" = some (.bool (isWildB w))) (q : Nx W h₀ d os L it D1 N RW WL ι' tags nds τs Z Q) :
    wpAny (MM W.w) A (execs (LB.drop 2) (lawEnv L)) Q E ⟨h, gs, d, t, os⟩ := by
  refine x_cons ?_
  repeat' ((fail_if_success (with_reducible show wpAny _ _ (call (.ref 147) _) _ _ _)); wtm_at "x1")
  have F0 := Fm.here (by assumption)
  cases hwl : isWildB w with
  | true =>
    rw [hwl] at m4
    refine k_refusedW (y := w) F0 (rm.le (by decide)) (by wtm_at "om") hwl ?_
    intro h1 tk t1 F1
    repeat' ((fail_if_success (with_reducible show wpAny _ _ (compareOp _ _ _) _ _ _)); wtm_at "x1")
    refine v_neStr ?_
    rw [bne_self_eq_false]
    repeat' ((fail_if_success (with_reducible show wpAny _ _ (execs (_ :: _) _) _ _ _)); wtm_at "x1")
    exact lb3 F1 rm hw C hb (by rw [hwl]; exact m4) q
  | false =>
    rw [hwl] at m4
    refine k_refusedR (y := w) F0 (rm.le (by decide)) (by wtm_at "om") hwl hfr (fun v hv => ?_) ?_
    · rw [List.mem_singleton.mp hv]
      exact ⟨(by intro x; cases x), L, m, rfl, List.mem_cons_self⟩
    intro h1 tk t1 F1
    repeat' ((fail_if_success (with_reducible show wpAny _ _ (compareOp _ _ _) _ _ _)); wtm_at "x1")
    refine v_neStr ?_
    rw [bne_self_eq_false]
    repeat' ((fail_if_success (with_reducible show wpAny _ _ (execs (_ :: _) _) _ _ _)); wtm_at "x1")
    exact lb3 F1 rm hw C hb (by rw [hwl]; exact m4) q
/-- if _is_wildcard_tag(wish) is not wild -/
theorem lb1 (F : Fm W h₀ Z (LF L D1 m (some (.str w uw)) v3 it ι') h) (rm : Rm 12 A) (hfr : A.frames = some [lawEnv L]) (hw : w.length ≤ 20) (C : LC Z m D1 N RW WL tags nds τs) (hb : AllBare gs)
    (m4 : m "wild" = some (.bool (isWildB w))) (q : Nx W h₀ d os L it D1 N RW WL ι' tags nds τs Z Q) :
    wpAny (MM W.w) A (execs (LB.drop 1) (lawEnv L)) Q E ⟨h, gs, d, t, os⟩ := by
  refine x_cons ?_
  repeat' ((fail_if_success (with_reducible show wpAny _ _ (call (.ref 38) _) _ _ _)); wtm_at "x1")
  refine k_iswild (y := w) (by assumption) (rm.le (by decide)) (by wtm_at "om") ?_
  intro h1 t1 F1
  repeat' ((fail_if_success (with_reducible show wpAny _ _ (compareOp _ _ _) _ _ _)); wtm_at "x1")
  refine v_isnotB ?_
  rw [bne_self_eq_false]
  repeat' ((fail_if_success (with_reducible show wpAny _ _ (execs (_ :: _) _) _ _ _)); wtm_at "x1")
  exact lb2 F1 rm hfr hw C hb m4 q
/-- wild = True in [_law_takes(parts, wish) for parts in wilds] -/
theorem lb0 (F : Fm W h₀ Z (LF L D1 m (some (.str w uw)) v3 it ι') h) (rm : Rm 12 A) (hfr : A.frames = some [lawEnv L]) (hw : w.length ≤ 20) (C : LC Z m D1 N RW WL tags nds τs) (hb : AllBare gs)
    (q : Nx W h₀ d os L it D1 N RW WL ι' tags nds τs Z Q) :
    wpAny (MM W.w) A (execs LB (lawEnv L)) Q E ⟨h, gs, d, t, os⟩ := by
  have m3 := C.m3
  obtain ⟨cs, hWL, hcs⟩ := C.w
  have hcl : cs.length = 2 := hcs.len
  refine x_cons ?_
  repeat' (wtm_at "x1")
  refine v_it_list (by assumption) (at_ls.mp (Fm.atZ (by assumption) hWL)) ?_
  intro it2 h2 G2 _
  refine comp_none (Iter.list (vs := cs) rm.hd) G2 (fun k Z'' ys => ys = ((wildSc.take k).map fun p => takesB p.1 p.2 (cp w)).map Value.bool) (fun Z2 h2 R2 hZ2 F2 => at_ls.mp (F2.atZ (hZ2 _ hWL))) (by wtm_at "om") rfl self_list (by decide) (by rfl) (by rfl) ?_ ?_
  · rintro E' D' C' k Z'' ys ι2 m' h4 t4 v hk rfl hys hZ G4 hv
    obtain ⟨Dc, p, rfl, hp, hpa, hpl⟩ := hcs.get hv
    repeat' ((fail_if_success (with_reducible show wpAny _ _ (call (.ref 140) _) _ _ _)); wtm_at "x1")
    refine k_takes (y := w) (by assumption) (rm.le (by decide)) (hpa.mono hZ) (by wtm_at "om") hpl ?_
    intro h7 t7 G9
    refine ⟨_, _, _, rfl, G9, hZ, ?_⟩
    show _ = ((wildSc.take (k + 1)).map fun p => takesB p.1 p.2 (cp w)).map Value.bool
    rw [List.take_succ, hp]
    simp
  · intro D Z' ys h5 t5 hD hJ hZ F5
    subst hJ
    rw [show cs.length = wildSc.length from hcl, List.take_length] at F5
    refine v_inB (at_ls.mp (F5.atZ List.mem_cons_self)) ?_
    rw [wild_any]
    have hsub : ∀ e ∈ Z, e ∈ (D, lsO ((wildSc.map fun p => takesB p.1 p.2 (cp w)).map Value.bool)) :: Z' := fun e he => List.mem_cons_of_mem _ (hZ e he)
    repeat' ((fail_if_success (with_reducible show wpAny _ _ (execs (_ :: _) _) _ _ _)); wtm_at "x1")
    have F6 := Fm.here (by assumption)
    exact lb1 F6 rm hfr hw (C.next hsub (by with_unfolding_all rfl) (by with_unfolding_all rfl) (by with_unfolding_all rfl)) hb (by with_unfolding_all rfl) (q.mono hsub)
end
end
section
open PySem PySem.W PySem.W.X PySem.Calls PyProof.Rows PySem.Builtin
local macro_rules | `(tactic| wtm_at "xname") => rd "(places n_localD 6)"
section
variable {W : Wd} {A : Around} {E : Value → Shared → Prop} {h₀ h : Heap} {gs : Array GenState} {d : Drawn} {t : Nat} {os : OsState} {Z R Y : List Ent} {m : Str → Option Value} {Q : Flow → Shared → Prop}
  {L D1 D2 N RW WL CT it f : Addr} {v2 v3 : Option Value} {tags wished nds cs : List Value} {τs : List (Option Str)}
/-- the loop and the end -/
theorem lw4 (F : Fm W h₀ Z [(L, nsO m), (L + 1, clO (some (.ref D1))), (L + 2, clO v2), (L + 3, clO v3)] h) (rm : Rm 12 A) (hfr : A.frames = some [lawEnv L]) (C : LC Z m D1 N RW WL tags nds τs) (hb : AllBare gs)
    (m4 : m "wished" = some (.ref D2)) (hD2 : (D2, lsO wished) ∈ Z) (hws : ∀ v ∈ wished, SV 1 20 v) (hwl : wished.length = 4)
    (q : ∀ Z' R' gs' h' t', AllBare gs' → Fm W h₀ Z' R' h' → Q (.ret (.bool true)) ⟨h', gs', d, t', os⟩) :
    wpAny (MM W.w) A (execs ((bodyOf (stAt 24)).drop 4) (lawEnv L)) Q E ⟨h, gs, d, t, os⟩ := by
  refine x_cons ?_
  repeat' (wtm_at "x1")
  refine v_it_list (by assumption) (at_ls.mp (Fm.atZ (by assumption) hD2)) ?_
  intro it h2 G2 _
  refine v_for (Iter.list (vs := wished) rm.hd) G2 (fun k Z' R' gs' => (∀ e ∈ Z, e ∈ Z') ∧ AllBare gs' ∧ ∃ m' v2 v3, R' = [(L, nsO m'), (L + 1, clO (some (.ref D1))), (L + 2, clO v2), (L + 3, clO v3)] ∧ LC Z' m' D1 N RW WL tags nds τs) ?_ ⟨fun _ e => e, hb, _, _, _, rfl, C⟩ ?_ ?_
  · rintro k Z' R' gs' h' R'' ⟨hZ, _⟩ F'
    exact at_ls.mp (F'.atZ (hZ _ hD2))
  · rintro E' k Z' R' gs' ι' h' t' v hk ⟨hZ, hb', m', v2', v3', rfl, C'⟩ F' hv
    obtain ⟨w, uw, rfl, hw1, hw2⟩ := hws v (List.mem_of_getElem? hv)
    simp only [List.cons_append, List.nil_append] at F'
    repeat' ((fail_if_success (with_reducible show wpAny _ _ (execs (_ :: _) _) _ _ _)); wtm_at "x1")
    have F6 := Fm.here (by assumption)
    refine lb0 F6 rm hfr hw2 C' hb' ?_
    intro Z2 m2 v22 v32 gs2 h3 t3 hZ2 C2 hb2 F3
    exact ⟨rfl, Z2, [_, _, _, _], gs2, h3, t3, rfl, ⟨fun e he => hZ2 e (hZ e he), hb2, m2, v22, v32, rfl, C2⟩, F3⟩
  · rintro Z' R' gs' h' t' ⟨hZ, hb', m', v2', v3', rfl, C'⟩ F'
    repeat' (wtm_at "x1")
    exact q _ _ _ _ _ hb' F'
end
end
section
open PySem PySem.W PySem.W.X PySem.Calls PyProof.Rows PySem.Builtin
theorem six {α : Type} {l : List α} (h : l.length = 6) : ∃ a b c d e f, l = [a, b, c, d, e, f] := by
  rcases l with _ | ⟨a, _ | ⟨b, _ | ⟨c, _ | ⟨d, _ | ⟨e, _ | ⟨f, _ | ⟨g, r⟩⟩⟩⟩⟩⟩⟩ <;> simp at h
  exact ⟨a, b, c, d, e, f, rfl⟩
local macro_rules | `(tactic| wtm_at "xname") => rd "(places n_localD 6)"
section
variable {W : Wd} {A : Around} {E : Value → Shared → Prop} {h₀ h : Heap} {gs : Array GenState} {d : Drawn} {t : Nat} {os : OsState} {Z R Y : List Ent} {m : Str → Option Value} {Q : Flow → Shared → Prop}
  {L D1 D2 N RW WL CT it f l : Addr} {v2 v3 : Option Value} {tags wished nds cs xs : List Value} {τs : List (Option Str)}
theorem lc_of {a0 a1 a2 a3 a4 a5 : Value} {r1 r2 r3 r4 Dc1 Dc2 : Addr} {Y1 Y2 : List Ent} (m1 : m "nodes" = some (.ref N)) (hD1 : (D1, lsO tags) ∈ Z) (htg : Tgs tags τs) (ht6 : tags.length = 6) (hN : (N, lsO [a0, a1, a2, a3, a4, a5]) ∈ Z)
    (hn : Nds Z [a0, a1, a2, a3, a4, a5] τs 0) (hY1 : PartsAt Y1 Dc1 ([123, 42, 125].map qi) (some [])) (hY2 : PartsAt Y2 Dc2 [] (some ([125, 42].map qi))) :
    LC ((WL, lsO [.ref Dc1, .ref Dc2]) :: (Y2 ++ (Y1 ++ ((RW, lsO [.ref r1, .ref r2, .ref r3, .ref r4]) :: (r4, lsO [a5]) :: (r3, lsO [a2, a3, a4]) :: (r2, lsO []) :: (r1, lsO [a0, a1]) :: Z))))
      (upd (upd m (Str.ofString "rows") (.ref RW)) (Str.ofString "wilds") (.ref WL)) D1 N RW WL tags [a0, a1, a2, a3, a4, a5] τs := by
  have up : ∀ x ∈ ((RW, lsO [.ref r1, .ref r2, .ref r3, .ref r4]) :: (r4, lsO [a5]) :: (r3, lsO [a2, a3, a4]) :: (r2, lsO []) :: (r1, lsO [a0, a1]) :: Z), x ∈ (WL, lsO [.ref Dc1, .ref Dc2]) :: (Y2 ++ (Y1 ++ ((RW, lsO [.ref r1, .ref r2, .ref r3, .ref r4]) :: (r4, lsO [a5]) :: (r3, lsO [a2, a3, a4]) :: (r2, lsO []) :: (r1, lsO [a0, a1]) :: Z))) := fun x hx =>
    List.mem_cons_of_mem _ (List.mem_append_right _ (List.mem_append_right _ hx))
  have sub : ∀ x ∈ Z, x ∈ (WL, lsO [.ref Dc1, .ref Dc2]) :: (Y2 ++ (Y1 ++ ((RW, lsO [.ref r1, .ref r2, .ref r3, .ref r4]) :: (r4, lsO [a5]) :: (r3, lsO [a2, a3, a4]) :: (r2, lsO []) :: (r1, lsO [a0, a1]) :: Z))) := fun x hx =>
    up x (List.mem_cons_of_mem _ (List.mem_cons_of_mem _ (List.mem_cons_of_mem _ (List.mem_cons_of_mem _ (List.mem_cons_of_mem _ hx)))))
  have e : ∀ ok : Value → Prop, (∀ v ∈ [a0, a1, a2, a3, a4, a5], ok v) → ∀ l : List Value, (∀ v ∈ l, v ∈ [a0, a1, a2, a3, a4, a5]) → ∀ v ∈ l, ok v := fun ok h l hl v hv => h v (hl v hv)
  refine ⟨by with_unfolding_all exact m1, by with_unfolding_all rfl, by with_unfolding_all rfl, sub _ hD1, htg, ht6, sub _ hN, hn.mono sub, ⟨_, up _ List.mem_cons_self, fun ok ho => ?_⟩, ⟨_, List.mem_cons_self, ?_⟩⟩
  · exact .cons (items := [a0, a1]) (up _ (by simp)) (e ok ho _ (by simp)) (.cons (items := []) (up _ (by simp)) (e ok ho _ (by simp)) (.cons (items := [a2, a3, a4]) (up _ (by simp)) (e ok ho _ (by simp)) (.cons (items := [a5]) (up _ (by simp)) (e ok ho _ (by simp)) .nil)))
  · exact .cons (p := (_, _)) (hY1.mono fun x hx => List.mem_cons_of_mem _ (List.mem_append_right _ (List.mem_append_left _ hx))) (by decide) (.cons (p := (_, _)) (hY2.mono fun x hx => List.mem_cons_of_mem _ (List.mem_append_left _ hx)) (by decide) .nil)
/-- rows, wilds -/
theorem lw2 (F : Fm W h₀ Z [(L, nsO m), (L + 1, clO (some (.ref D1))), (L + 2, clO v2), (L + 3, clO v3)] h) (rm : Rm 12 A) (hfr : A.frames = some [lawEnv L]) (hb : AllBare gs)
    (m1 : m "nodes" = some (.ref N)) (hD1 : (D1, lsO tags) ∈ Z) (htg : Tgs tags τs) (ht6 : tags.length = 6) (hN : (N, lsO nds) ∈ Z) (hn : Nds Z nds τs 0)
    (m4 : m "wished" = some (.ref D2)) (hD2 : (D2, lsO wished) ∈ Z) (hws : ∀ v ∈ wished, SV 1 20 v) (hwl : wished.length = 4)
    (q : ∀ Z' R' gs' h' t', AllBare gs' → Fm W h₀ Z' R' h' → Q (.ret (.bool true)) ⟨h', gs', d, t', os⟩) :
    wpAny (MM W.w) A (execs ((bodyOf (stAt 24)).drop 2) (lawEnv L)) Q E ⟨h, gs, d, t, os⟩ := by
  obtain ⟨a0, a1, a2, a3, a4, a5, rfl⟩ := six (show nds.length = 6 by rw [hn.len, ← htg.len, ht6])
  refine x_cons ?_
  repeat' (wtm_at "x1")
  refine v_slL (by assumption) (at_ls.mp (Fm.atZ (by assumption) hN)) .none (.int _ _) (by simp) ?_
  intro r1 h1 _ G1
  rw [show (slicePick [a0, a1, a2, a3, a4, a5].toArray none (some 2) none).toList = [a0, a1] by rw [show (2 : Int) = ((2 : Nat) : Int) from rfl, slicePick_upto']; rfl] at G1
  repeat' (wtm_at "x1")
  have G2 := Fm.here (by assumption)
  refine v_slL G2 (at_ls.mp (Fm.atZ (by assumption) (List.mem_cons_of_mem _ (List.mem_cons_of_mem _ hN)))) (.int _ _) (.int _ _) (by simp) ?_
  intro r3 h3 _ G3
  rw [show (slicePick [a0, a1, a2, a3, a4, a5].toArray (some 2) (some 5) none).toList = [a2, a3, a4] by rw [show (2 : Int) = ((2 : Nat) : Int) from rfl, show (5 : Int) = ((5 : Nat) : Int) from rfl, slicePick_run _ _ _ (by simp) (by decide)]; rfl] at G3
  repeat' (wtm_at "x1")
  refine v_slL (by assumption) (at_ls.mp (Fm.atZ (by assumption) (List.mem_cons_of_mem _ (List.mem_cons_of_mem _ (List.mem_cons_of_mem _ hN))))) (.int _ _) .none (by simp) ?_
  intro r4 h4 _ G4
  rw [show (slicePick [a0, a1, a2, a3, a4, a5].toArray (some 5) none none).toList = [a5] by rw [show (5 : Int) = ((5 : Nat) : Int) from rfl, slicePick_from']; rfl] at G4
  repeat' ((fail_if_success (with_reducible show wpAny _ _ (call (.ref 64) _) _ _ _)); wtm_at "x1")
  refine k_translate (by assumption) (rm.le (by decide)) pat_w1 ?_
  intro h5 tk5 t5 G5
  repeat' ((fail_if_success (with_reducible show wpAny _ _ (call (.ref 135) _) _ _ _)); wtm_at "x1")
  refine k_cut (by assumption) (rm.le (by decide)) cp_join_B pat_w1.patL_len pat_w1.ok pat_w1.pre pat_w1.post ?_
  intro Dc1 Y1 h6 t6 _ hY1 G6
  repeat' ((fail_if_success (with_reducible show wpAny _ _ (call (.ref 64) _) _ _ _)); wtm_at "x1")
  refine k_translate (by assumption) (rm.le (by decide)) pat_w2 ?_
  intro h7 tk7 t7 G7
  repeat' ((fail_if_success (with_reducible show wpAny _ _ (call (.ref 135) _) _ _ _)); wtm_at "x1")
  refine k_cut (by assumption) (rm.le (by decide)) cp_join_B pat_w2.patL_len pat_w2.ok pat_w2.pre pat_w2.post ?_
  intro Dc2 Y2 h8 t8 _ hY2 G8
  repeat' ((fail_if_success (with_reducible show wpAny _ _ (execs (_ :: _) _) _ _ _)); wtm_at "x1")
  have G9 := Fm.here (by assumption)
  have sub : ∀ {a b c e f : Ent} {g : Ent}, ∀ x ∈ Z, x ∈ g :: (Y2 ++ (Y1 ++ (a :: b :: c :: e :: f :: Z))) := fun x hx =>
    List.mem_cons_of_mem _ (List.mem_append_right _ (List.mem_append_right _ (List.mem_cons_of_mem _ (List.mem_cons_of_mem _ (List.mem_cons_of_mem _ (List.mem_cons_of_mem _ (List.mem_cons_of_mem _ hx)))))))
  exact lw4 G9 rm hfr (lc_of m1 hD1 htg ht6 hN hn hY1 hY2) hb (by with_unfolding_all exact m4) (sub _ hD2) hws hwl q
/-- nodes -/
theorem lw1 (F : Fm W h₀ Z [(L, nsO m), (L + 1, clO (some (.ref D1))), (L + 2, clO v2), (L + 3, clO v3)] h) (rm : Rm 12 A) (hfr : A.frames = some [lawEnv L]) (hb : AllBare gs)
    (hD1 : (D1, lsO tags) ∈ Z) (htg : Tgs tags τs) (ht6 : tags.length = 6)
    (m4 : m "wished" = some (.ref D2)) (hD2 : (D2, lsO wished) ∈ Z) (hws : ∀ v ∈ wished, SV 1 20 v) (hwl : wished.length = 4)
    (q : ∀ Z' R' gs' h' t', AllBare gs' → Fm W h₀ Z' R' h' → Q (.ret (.bool true)) ⟨h', gs', d, t', os⟩) :
    wpAny (MM W.w) A (execs ((bodyOf (stAt 24)).drop 1) (lawEnv L)) Q E ⟨h, gs, d, t, os⟩ := by
  have hlen : τs.length = 6 := by rw [← htg.len, ht6]
  refine x_cons ?_
  repeat' (wtm_at "x1")
  refine v_range1 (by assumption) ?_
  intro r h2 t1 u1 v1 t2 hr G2
  refine v_it_range (n := 6) G2 hr (by wtm_at "om") ?_
  intro it2 h3 G3
  refine comp_use (i := 0) (Iter.range (n := 6) rm.hd) G3 (fun k Z'' ys => Nds Z'' ys (τs.take k) 0) (fun _ _ _ _ _ => trivial) (by wtm_at "om") .nil self_range (by decide) (by rfl) (by rfl) (by rfl) (by rfl) (by rfl) ?_ ?_
  · rintro E' D C' k Z'' ys ι2 m' h4 t4 v hk hJ hys hZ G4 ⟨tv, rfl⟩
    repeat' (wtm_at "x1")
    refine v_item (at_ls.mp (Fm.atZ (by assumption) (hZ _ hD1))) (by wtm_at "om") (by wtm_at "om") (by wtm_at "om") ?_
    intro x hx
    rw [Int.toNat_natCast] at hx
    obtain ⟨τ, hτ, hx1, hx2⟩ := htg.get hx
    repeat' ((fail_if_success (with_reducible show wpAny _ _ (call (.ref 109) _) _ _ _)); wtm_at "x1")
    refine k_node (by assumption) (rm.le (by decide)) ?_
    intro f dx mm h5 t5 hf hdx hne mtag mplace G5
    refine ⟨_, _, _, rfl, by assumption, fun e he => List.mem_cons_of_mem _ (List.mem_cons_of_mem _ (hZ e he)), ?_⟩
    show Nds _ _ (τs.take (k + 1)) 0
    rw [List.take_succ, hτ]
    refine (hJ.mono fun e he => List.mem_cons_of_mem _ (List.mem_cons_of_mem _ he)).snoc ⟨f, dx, mm, x, tv, rfl, List.mem_cons_self, List.mem_cons_of_mem _ List.mem_cons_self, hne, mtag, ?_, hx1, hx2⟩
    rw [mplace, List.length_take, Nat.min_eq_left (by wtm_at "om"), Int.zero_add]
  · rintro D Z' ys h5 t5 hD hJ hZ F5
    rw [List.take_of_length_le (by wtm_at "om")] at hJ
    simp only [List.set_cons_zero] at F5
    exact lw2 F5 rm hfr hb (by with_unfolding_all rfl) (List.mem_cons_of_mem _ (hZ _ hD1)) htg ht6 List.mem_cons_self (hJ.mono fun e he => List.mem_cons_of_mem _ he) (by with_unfolding_all exact m4) (List.mem_cons_of_mem _ (hZ _ hD2)) hws hwl q
/-- the body -/
theorem lw0 (F : Fm W h₀ Z [(L, nsO m), (L + 1, clO none), (L + 2, clO none), (L + 3, clO none)] h) (rm : Rm 12 A) (hfr : A.frames = some [lawEnv L]) (hb : AllBare gs)
    (ms : m "script" = some (.ref l)) (hl : (l, lsO xs) ∈ Z) (hx : AllI xs) (hn : xs.length ≤ 63)
    (q : ∀ Z' R' gs' h' t', AllBare gs' → Fm W h₀ Z' R' h' → Q (.ret (.bool true)) ⟨h', gs', d, t', os⟩) :
    wpAny (MM W.w) A (execs (bodyOf (stAt 24)) (lawEnv L)) Q E ⟨h, gs, d, t, os⟩ := by
  have hhd := rm.hd
  refine x_cons ?_
  repeat' ((fail_if_success (with_reducible show wpAny _ _ (call (.ref 102) _) _ _ _)); wtm_at "x1")
  refine k_drawn (by assumption) (rm.le (by decide)) hl hx hn ?_
  intro T D1 D2 tags wished h1 t1 _ _ _ htg ht6 hws hw4 F1
  obtain ⟨τs, hτs⟩ := Tgs.of htg
  repeat' ((fail_if_success (with_reducible show wpAny _ _ (execs (_ :: _) _) _ _ _)); wtm_at "x1")
  have F2 := Fm.here (by assumption)
  exact lw1 F2 rm hfr hb (List.mem_cons_of_mem _ List.mem_cons_self) hτs ht6 (by with_unfolding_all rfl) (List.mem_cons_of_mem _ (List.mem_cons_of_mem _ List.mem_cons_self)) hws hw4 q
end
section
variable {W : Wd} {A : Around} {E : Value → Shared → Prop} {h : Heap} {gs : Array GenState} {d : Drawn} {t : Nat} {os : OsState} {Q : Value → Shared → Prop}
theorem k_law {l : Addr} {xs : List Value} (B : Base W h) (rm : Rm 13 A) (hfr : A.frames = some []) (hl : h.IsList l xs.toArray) (hx : AllI xs) (hn : xs.length ≤ 63) (hb : AllBare gs)
    (q : ∀ Z' R' gs' h' t', AllBare gs' → Fm W h Z' R' h' → Q (.bool true) ⟨h', gs', d, t', os⟩) :
    wpAny (MM W.w) A (call (.ref 152) [.ref l]) Q E ⟨h, gs, d, t, os⟩ := by
  have hz : Frz [(l, lsO xs)] h := fun e he => by rw [List.mem_singleton.mp he]; exact ⟨at_ls.mpr hl, stb_nrm nrm_ls⟩
  refine enterC (Z := [(l, lsO xs)]) (fd := fdLW) (body := bodyOf (stAt 24)) (binds := [("script", .ref l)]) B hz rm.depth (B.K 152 _ (kf_LW _)) rfl (cr_LW B) (by rfl) (by rfl) (by rfl) (by intro L x hx; simp only [List.mem_cons, List.not_mem_nil, or_false] at hx; subst hx; exact .inl rfl) (by decide) (by rfl) (by rfl) (by rfl) ?_
  intro L h₁ t₁ G
  have G : Fm W h [(l, lsO xs)] [(L, nsO (bindL (callEnvC fdLW L 152).kindOf [("script", .ref l)] fun _ => none)), (L + 1, clO none), (L + 2, clO none), (L + 3, clO none)] h₁ := G
  exact lw0 G (rm.deeper _) (Around.frames_deeper hfr) hb (by with_unfolding_all rfl) List.mem_cons_self hx hn q
end
end
end
section
open PySem PySem.W PySem.W.X PySem.Calls PyProof.Rows PySem.Builtin
theorem allI_of {vs : List Value} {ns : List Int} (x : IntsAre vs ns) : AllI vs := by
  induction x with
  | nil => exact fun _ h => nomatch h
  | cons _ _ _ ih => exact fun v hv => (List.mem_cons.mp hv).elim (fun e => ⟨_, _, e⟩) (ih v)
theorem len_of {vs : List Value} {ns : List Int} (x : IntsAre vs ns) : vs.length = ns.length := by
  induction x with
  | nil => rfl
  | cons _ _ _ ih => simp [ih]
theorem rm_top : Rm 13 callerA := ⟨by decide +kernel, by decide +kernel, rfl⟩
end
end Mine
theorem PySem.Challenge.cw_in0049_01_holds : PySem.Challenge.rw_in0049_01.Holds := by
  refine Mine.head ?_
  intro w s₀ s₁ mg mb G Y fa o pm cd doc dV kV ho hd hcd hD hmg hg args vals as hpre hlay hrd hwl hlo
  have KX := km_in_of Y
  have T8 := km_tabs_of Y
  have T9 := Mine.tabs_of KX T8
  have X := (Ground.X G).1
  have V := (Ground.X G).2
  refine Ground.open G ?_
  intro T B D TE TW
  have BB := Mine.base0 KX T.g T.b T.builtins T.nolimit T.bmain T8
  have e1 := Mine.law_at KX T.g hmg
  subst e1
  clear ho hd hcd hD hmg
  wrow_args hpre hlay hrd hwl hlo
  rename _root_.PySem.Heap.IsList _ _ _ => hL
  rename IntsAre _ _ => hI
  have h63 := Mine.len_of hI
  refine Mine.k_law (W := ⟨w, mg, mb, s₁.heap⟩) BB Mine.rm_top rfl hL (Mine.allI_of hI) (by omega) (by rw [hg]; exact AllBare.empty) ?_
  intro Z' R' gs' h' t' hb F
  exact Mine.good_true (Mine.oldK_of F.base T9) rfl hb
