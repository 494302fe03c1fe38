import PyProof.Rows.All
import Wide.All
import OpenK.AllK
import Wide.FinOn
import Lean
import PySem.Challenge.RW_kl0519_01
open PySem PySem.W PySem.Calls PyProof.Rows
set_option Elab.async false
set_option maxRecDepth 100000
set_option maxHeartbeats 0
set_option linter.unusedVariables false
set_option linter.all false
namespace Mine
noncomputable section
noncomputable abbrev pw : Program := PySem.Challenge.pw_kl0519_01
noncomputable def bdy : List Stmt := behindTheImports pw
/-- the def that stands at this place of the text -/
noncomputable def fD (i : Nat) : Arguments × List Stmt × Scope := match pw.main.body[i]? with
  | some (.FunctionDef _ a b _ _ _ sc _ _ _) => (a, b, sc)
  | _ => (⟨[], [], none, [], [], none, []⟩, [], default)
noncomputable def fP (i : Nat) : Arguments := (fD i).1
noncomputable def fB (i : Nat) : List Stmt := (fD i).2.1
noncomputable def fS (i : Nat) : Scope := (fD i).2.2
noncomputable def envB : Env := { scope := pw.main.scope, locals := mainNs, globals := mainNs, cells := [], code := (.ref 13), frame := some 14 }
noncomputable def cB : Code := .body bdy envB
/-- the loop of the top that stands at this place -/
noncomputable def loopAt (i : Nat) (it : Value) : Code := match bdy[i]? with
  | some (.For t _ b o _) => .forLoop t it b o envB
  | _ => cB
noncomputable def compAt (i d : Nat) (it acc : Value) (env : Env) : Code := match bdy[i]? with
  | some (.Assign _ (.ListComp e g sc p) _) => .compLoop (.ListComp e g sc p) d it acc { env with scope := sc }
  | _ => cB
noncomputable abbrev qB : Pos := ⟨0, 0, 0, 0⟩
noncomputable def sts (a n : Nat) : List Stmt := (bdy.drop a).take n
noncomputable def kOf : Option (SharedT × Thread) → Result → Sem Fin
  | some (_, ⟨_, _, _, .ret k _ _ _ _ _ _ :: _⟩) => k
  | _ => fun _ => .unsupported ""
noncomputable abbrev oA_11 (P : Params) : Obj := ⟨(.type "tuple"), none, (.seq #[] 0), #[]⟩
noncomputable abbrev oA_12 (P : Params) : Obj := ⟨.none, none, (.fields #[]), #[]⟩
noncomputable abbrev oA_13 (P : Params) : Obj := ⟨(.type "code"), none, (.fields #[(.str "<module>" 182), (.str "<module>" 183), (.str "/claim/cut.py" 184), (.int 1 0), (.int 0 0), (.int 0 0), (.int 0 0), (.int 0 0), (.ref 11), (.bool false), (.int 181 0), (.ref 12), .none, .none, .none, .none, (.int 185 0), (.int 1 0), (.str "/claim/cut.py" 186)]), #[]⟩
noncomputable abbrev oA_14 (P : Params) : Obj := ⟨(.type "frame"), none, .plain, #[(some (.ref 13)), (some (.ref 3)), (some (.ref 3)), none, (some (.str "__main__" 164)), none, (some (.ref 0))]⟩
noncomputable abbrev tA (P : Params) : BT := (.node (boot_o_0 P) (.node (boot_o_1 P) (.node (boot_o_3 P) (.node (boot_o_7 P) .nil .nil) (.node (oA_11 P) .nil .nil)) (.node (boot_o_5 P) (.node (boot_o_9 P) .nil .nil) (.node (oA_13 P) .nil .nil))) (.node (boot_o_2 P) (.node (boot_o_4 P) (.node (boot_o_8 P) .nil .nil) (.node (oA_12 P) .nil .nil)) (.node (boot_o_6 P) (.node (boot_o_10 P) .nil .nil) (.node (oA_14 P) .nil .nil))))
noncomputable abbrev SA (w : World) (os : OsState) : SharedT := ⟨tA w.params, 15, ⟨[], [], [], 0, [], [], false, #[], [], 0, false, false, false, 0, [2000, 10, 10], false, 0, true, [], [], 0, false⟩, #[], ⟨0, 0, 0, 0⟩, 187, os⟩
theorem preGo (w : World) (os : OsState) : topGo treeTable pw w 11 (some (.ref 6)) 12 ⟨boot_heap w.params, ⟨[]⟩, boot_drawn, boot_toks, os⟩ (topStub pw) = some ((SA w os).abs, ⟨denote treeTable cB, cB, ⟨0, 0, 0, 0⟩, [topFrame qB]⟩) := by kernel_rfl
theorem blkGo (w : World) (os : OsState) : segRun treeTable pw w 11 (some (.ref 6)) 1 1 (SA w os).abs (blockOf bdy envB cB ⟨0, 0, 0, 0⟩ [topFrame qB]) = some (.next, (SA w os).abs, cB, ⟨0, 0, 0, 0⟩) := by kernel_rfl
noncomputable abbrev oB_3 (P : Params) : Obj := ⟨(.type "dict"), none, (.dict #[⟨(PyData.keyHash P "__name__"), (.str "__name__" 165), (.str "cpy313.unittest.util" 187)⟩, ⟨(PyData.keyHash P "__doc__"), (.str "__doc__" 166), .none⟩, ⟨(PyData.keyHash P "__package__"), (.str "__package__" 167), .none⟩, ⟨(PyData.keyHash P "__loader__"), (.str "__loader__" 168), (.builtin "__main__.__loader__#opaque")⟩, ⟨(PyData.keyHash P "__spec__"), (.str "__spec__" 169), .none⟩, ⟨(PyData.keyHash P "__annotations__"), (.str "__annotations__" 170), (.ref 6)⟩, ⟨(PyData.keyHash P "__builtins__"), (.str "__builtins__" 171), (.ref 4)⟩, ⟨(PyData.keyHash P "__file__"), (.str "__file__" 173), (.str "/claim/cut.py" 172)⟩, ⟨(PyData.keyHash P "__cached__"), (.str "__cached__" 174), .none⟩, ⟨(PyData.keyHash P "_MAX_LENGTH"), (.str "_MAX_LENGTH" 190), (.int 80 189)⟩, ⟨(PyData.keyHash P "safe_repr"), (.str "safe_repr" 199), (.ref 22)⟩, ⟨(PyData.keyHash P "CRLF"), (.str "CRLF" 201), (.str "\x0d\n" 200)⟩, ⟨(PyData.keyHash P "NL"), (.str "NL" 203), (.str "\n" 202)⟩] 13), #[]⟩
noncomputable abbrev oB_12 (P : Params) : Obj := ⟨.none, none, (.fields #[(.int 3 0), (.int 0 0), (.ref 21)]), #[]⟩
noncomputable abbrev oB_15 (P : Params) : Obj := ⟨(.type "tuple"), none, (.seq #[(.bool false)] 0), #[]⟩
noncomputable abbrev oB_16 (P : Params) : Obj := ⟨(.type "tuple"), none, (.seq #[] 0), #[]⟩
noncomputable abbrev oB_17 (P : Params) : Obj := ⟨.none, none, (.fields #[]), #[]⟩
noncomputable abbrev oB_18 (P : Params) : Obj := ⟨(.type "tuple"), none, (.seq #[(.str "obj" 194), (.str "short" 195), (.str "result" 196)] 0), #[]⟩
noncomputable abbrev oB_19 (P : Params) : Obj := ⟨(.type "tuple"), none, (.seq #[] 0), #[]⟩
noncomputable abbrev oB_20 (P : Params) : Obj := ⟨.none, none, (.func ⟨"safe_repr", "safe_repr", fP 2, (.stmts (fB 2)), fS 2, 0, [], .none, .none, .none, .none, none, .none, .none, 0⟩), #[]⟩
noncomputable abbrev oB_21 (P : Params) : Obj := ⟨(.type "code"), none, (.fields #[(.str "safe_repr" 191), (.str "safe_repr" 192), (.str "/claim/cut.py" 193), (.int 3 0), (.int 2 0), (.int 0 0), (.int 0 0), (.int 3 0), (.ref 16), (.bool true), (.int 181 0), (.ref 17), .none, (.ref 18), (.ref 19), (.ref 20), (.int 197 0), (.int 3 0), (.str "/claim/cut.py" 198)]), #[]⟩
noncomputable abbrev oB_22 (P : Params) : Obj := ⟨(.type "function"), none, (.func ⟨"safe_repr", "safe_repr", fP 2, (.stmts (fB 2)), fS 2, 3, [], (.ref 15), .none, .none, (.str "cpy313.unittest.util" 187), none, (.ref 21), .none, 0⟩), #[]⟩
noncomputable abbrev tB (P : Params) : BT := (.node (boot_o_0 P) (.node (boot_o_1 P) (.node (oB_3 P) (.node (boot_o_7 P) (.node (oB_15 P) .nil .nil) .nil) (.node (oA_11 P) (.node (oB_19 P) .nil .nil) .nil)) (.node (boot_o_5 P) (.node (boot_o_9 P) (.node (oB_17 P) .nil .nil) .nil) (.node (oA_13 P) (.node (oB_21 P) .nil .nil) .nil))) (.node (boot_o_2 P) (.node (boot_o_4 P) (.node (boot_o_8 P) (.node (oB_16 P) .nil .nil) .nil) (.node (oB_12 P) (.node (oB_20 P) .nil .nil) .nil)) (.node (boot_o_6 P) (.node (boot_o_10 P) (.node (oB_18 P) .nil .nil) .nil) (.node (oA_14 P) (.node (oB_22 P) .nil .nil) .nil))))
noncomputable abbrev SB (w : World) (os : OsState) : SharedT := ⟨tB w.params, 23, ⟨[], [], [], 0, [], [], false, #[], [], 0, false, false, false, 0, [2000, 10, 10], false, 0, true, [], [], 0, false⟩, #[], ⟨0, 0, 0, 0⟩, 204, os⟩
theorem segB (w : World) (os : OsState) : segRunT treeTable pw w 11 (some (.ref 6)) 1 88 (SA w os) (piecesOf (sts 0 5) envB cB ⟨0, 0, 0, 0⟩ [topFrame qB]) = some (.next, SB w os, cB, ⟨12, 0, 12, 2⟩) := by kernel_rfl
theorem runB (w : World) (os : OsState) : segRun treeTable pw w 11 (some (.ref 6)) 1 88 (SA w os).abs (piecesOf (sts 0 5) envB cB ⟨0, 0, 0, 0⟩ [topFrame qB]) = some (.next, (SB w os).abs, cB, ⟨12, 0, 12, 2⟩) := segRun_of (segB w os)
noncomputable abbrev oC1_23 (P : Params) : Obj := ⟨(.type "range"), none, (.fields #[(.int 0 205), (.int 256 204), (.int 1 206)]), #[]⟩
noncomputable abbrev oC1_24 (P : Params) : Obj := ⟨(.type "range_iterator"), none, (.fields #[(.int 0 0), (.int 256 0), (.int 1 0)]), #[]⟩
noncomputable abbrev oC1_25 (P : Params) : Obj := ⟨(.type "list"), none, (.seq #[] 0), #[]⟩
noncomputable abbrev oC1_26 (P : Params) : Obj := ⟨(.type "dict"), none, (.dict #[] 0), #[]⟩
noncomputable abbrev tC1 (P : Params) : BT := (.node (boot_o_0 P) (.node (boot_o_1 P) (.node (oB_3 P) (.node (boot_o_7 P) (.node (oB_15 P) .nil .nil) (.node (oC1_23 P) .nil .nil)) (.node (oA_11 P) (.node (oB_19 P) .nil .nil) .nil)) (.node (boot_o_5 P) (.node (boot_o_9 P) (.node (oB_17 P) .nil .nil) (.node (oC1_25 P) .nil .nil)) (.node (oA_13 P) (.node (oB_21 P) .nil .nil) .nil))) (.node (boot_o_2 P) (.node (boot_o_4 P) (.node (boot_o_8 P) (.node (oB_16 P) .nil .nil) (.node (oC1_24 P) .nil .nil)) (.node (oB_12 P) (.node (oB_20 P) .nil .nil) .nil)) (.node (boot_o_6 P) (.node (boot_o_10 P) (.node (oB_18 P) .nil .nil) (.node (oC1_26 P) .nil .nil)) (.node (oA_14 P) (.node (oB_22 P) .nil .nil) .nil))))
noncomputable abbrev SC1 (w : World) (os : OsState) : SharedT := ⟨tC1 w.params, 27, ⟨[], [], [], 0, [], [], false, #[], [], 0, false, false, false, 0, [2000, 10, 10], false, 0, true, [], [], 0, false⟩, #[], ⟨0, 0, 0, 0⟩, 207, os⟩
noncomputable abbrev oC2_24 (P : Params) : Obj := ⟨(.type "range_iterator"), none, (.fields #[(.int 256 0), (.int 0 0), (.int 1 0)]), #[]⟩
noncomputable abbrev oC2_25 (P : Params) : Obj := ⟨(.type "list"), none, (.seq #[(.str ⟨#[61, 48, 48]⟩ 210), (.str ⟨#[61, 48, 49]⟩ 214), (.str ⟨#[61, 48, 50]⟩ 218), (.str ⟨#[61, 48, 51]⟩ 222), (.str ⟨#[61, 48, 52]⟩ 226), (.str ⟨#[61, 48, 53]⟩ 230), (.str ⟨#[61, 48, 54]⟩ 234), (.str ⟨#[61, 48, 55]⟩ 238), (.str ⟨#[61, 48, 56]⟩ 242), (.str ⟨#[61, 48, 57]⟩ 246), (.str ⟨#[61, 48, 65]⟩ 250), (.str ⟨#[61, 48, 66]⟩ 254), (.str ⟨#[61, 48, 67]⟩ 258), (.str ⟨#[61, 48, 68]⟩ 262), (.str ⟨#[61, 48, 69]⟩ 266), (.str ⟨#[61, 48, 70]⟩ 270), (.str ⟨#[61, 49, 48]⟩ 274), (.str ⟨#[61, 49, 49]⟩ 278), (.str ⟨#[61, 49, 50]⟩ 282), (.str ⟨#[61, 49, 51]⟩ 286), (.str ⟨#[61, 49, 52]⟩ 290), (.str ⟨#[61, 49, 53]⟩ 294), (.str ⟨#[61, 49, 54]⟩ 298), (.str ⟨#[61, 49, 55]⟩ 302), (.str ⟨#[61, 49, 56]⟩ 306), (.str ⟨#[61, 49, 57]⟩ 310), (.str ⟨#[61, 49, 65]⟩ 314), (.str ⟨#[61, 49, 66]⟩ 318), (.str ⟨#[61, 49, 67]⟩ 322), (.str ⟨#[61, 49, 68]⟩ 326), (.str ⟨#[61, 49, 69]⟩ 330), (.str ⟨#[61, 49, 70]⟩ 334), (.str ⟨#[61, 50, 48]⟩ 338), (.str ⟨#[61, 50, 49]⟩ 342), (.str ⟨#[61, 50, 50]⟩ 346), (.str ⟨#[61, 50, 51]⟩ 350), (.str ⟨#[61, 50, 52]⟩ 354), (.str ⟨#[61, 50, 53]⟩ 358), (.str ⟨#[61, 50, 54]⟩ 362), (.str ⟨#[61, 50, 55]⟩ 366), (.str ⟨#[61, 50, 56]⟩ 370), (.str ⟨#[61, 50, 57]⟩ 374), (.str ⟨#[61, 50, 65]⟩ 378), (.str ⟨#[61, 50, 66]⟩ 382), (.str ⟨#[61, 50, 67]⟩ 386), (.str ⟨#[61, 50, 68]⟩ 390), (.str ⟨#[61, 50, 69]⟩ 394), (.str ⟨#[61, 50, 70]⟩ 398), (.str ⟨#[61, 51, 48]⟩ 402), (.str ⟨#[61, 51, 49]⟩ 406), (.str ⟨#[61, 51, 50]⟩ 410), (.str ⟨#[61, 51, 51]⟩ 414), (.str ⟨#[61, 51, 52]⟩ 418), (.str ⟨#[61, 51, 53]⟩ 422), (.str ⟨#[61, 51, 54]⟩ 426), (.str ⟨#[61, 51, 55]⟩ 430), (.str ⟨#[61, 51, 56]⟩ 434), (.str ⟨#[61, 51, 57]⟩ 438), (.str ⟨#[61, 51, 65]⟩ 442), (.str ⟨#[61, 51, 66]⟩ 446), (.str ⟨#[61, 51, 67]⟩ 450), (.str ⟨#[61, 51, 68]⟩ 454), (.str ⟨#[61, 51, 69]⟩ 458), (.str ⟨#[61, 51, 70]⟩ 462), (.str ⟨#[61, 52, 48]⟩ 466), (.str ⟨#[61, 52, 49]⟩ 470), (.str ⟨#[61, 52, 50]⟩ 474), (.str ⟨#[61, 52, 51]⟩ 478), (.str ⟨#[61, 52, 52]⟩ 482), (.str ⟨#[61, 52, 53]⟩ 486), (.str ⟨#[61, 52, 54]⟩ 490), (.str ⟨#[61, 52, 55]⟩ 494), (.str ⟨#[61, 52, 56]⟩ 498), (.str ⟨#[61, 52, 57]⟩ 502), (.str ⟨#[61, 52, 65]⟩ 506), (.str ⟨#[61, 52, 66]⟩ 510), (.str ⟨#[61, 52, 67]⟩ 514), (.str ⟨#[61, 52, 68]⟩ 518), (.str ⟨#[61, 52, 69]⟩ 522), (.str ⟨#[61, 52, 70]⟩ 526), (.str ⟨#[61, 53, 48]⟩ 530), (.str ⟨#[61, 53, 49]⟩ 534), (.str ⟨#[61, 53, 50]⟩ 538), (.str ⟨#[61, 53, 51]⟩ 542), (.str ⟨#[61, 53, 52]⟩ 546), (.str ⟨#[61, 53, 53]⟩ 550), (.str ⟨#[61, 53, 54]⟩ 554), (.str ⟨#[61, 53, 55]⟩ 558), (.str ⟨#[61, 53, 56]⟩ 562), (.str ⟨#[61, 53, 57]⟩ 566), (.str ⟨#[61, 53, 65]⟩ 570), (.str ⟨#[61, 53, 66]⟩ 574), (.str ⟨#[61, 53, 67]⟩ 578), (.str ⟨#[61, 53, 68]⟩ 582), (.str ⟨#[61, 53, 69]⟩ 586), (.str ⟨#[61, 53, 70]⟩ 590), (.str ⟨#[61, 54, 48]⟩ 594), (.str ⟨#[61, 54, 49]⟩ 598), (.str ⟨#[61, 54, 50]⟩ 602), (.str ⟨#[61, 54, 51]⟩ 606), (.str ⟨#[61, 54, 52]⟩ 610), (.str ⟨#[61, 54, 53]⟩ 614), (.str ⟨#[61, 54, 54]⟩ 618), (.str ⟨#[61, 54, 55]⟩ 622), (.str ⟨#[61, 54, 56]⟩ 626), (.str ⟨#[61, 54, 57]⟩ 630), (.str ⟨#[61, 54, 65]⟩ 634), (.str ⟨#[61, 54, 66]⟩ 638), (.str ⟨#[61, 54, 67]⟩ 642), (.str ⟨#[61, 54, 68]⟩ 646), (.str ⟨#[61, 54, 69]⟩ 650), (.str ⟨#[61, 54, 70]⟩ 654), (.str ⟨#[61, 55, 48]⟩ 658), (.str ⟨#[61, 55, 49]⟩ 662), (.str ⟨#[61, 55, 50]⟩ 666), (.str ⟨#[61, 55, 51]⟩ 670), (.str ⟨#[61, 55, 52]⟩ 674), (.str ⟨#[61, 55, 53]⟩ 678), (.str ⟨#[61, 55, 54]⟩ 682), (.str ⟨#[61, 55, 55]⟩ 686), (.str ⟨#[61, 55, 56]⟩ 690), (.str ⟨#[61, 55, 57]⟩ 694), (.str ⟨#[61, 55, 65]⟩ 698), (.str ⟨#[61, 55, 66]⟩ 702), (.str ⟨#[61, 55, 67]⟩ 706), (.str ⟨#[61, 55, 68]⟩ 710), (.str ⟨#[61, 55, 69]⟩ 714), (.str ⟨#[61, 55, 70]⟩ 718), (.str ⟨#[61, 56, 48]⟩ 722), (.str ⟨#[61, 56, 49]⟩ 726), (.str ⟨#[61, 56, 50]⟩ 730), (.str ⟨#[61, 56, 51]⟩ 734), (.str ⟨#[61, 56, 52]⟩ 738), (.str ⟨#[61, 56, 53]⟩ 742), (.str ⟨#[61, 56, 54]⟩ 746), (.str ⟨#[61, 56, 55]⟩ 750), (.str ⟨#[61, 56, 56]⟩ 754), (.str ⟨#[61, 56, 57]⟩ 758), (.str ⟨#[61, 56, 65]⟩ 762), (.str ⟨#[61, 56, 66]⟩ 766), (.str ⟨#[61, 56, 67]⟩ 770), (.str ⟨#[61, 56, 68]⟩ 774), (.str ⟨#[61, 56, 69]⟩ 778), (.str ⟨#[61, 56, 70]⟩ 782), (.str ⟨#[61, 57, 48]⟩ 786), (.str ⟨#[61, 57, 49]⟩ 790), (.str ⟨#[61, 57, 50]⟩ 794), (.str ⟨#[61, 57, 51]⟩ 798), (.str ⟨#[61, 57, 52]⟩ 802), (.str ⟨#[61, 57, 53]⟩ 806), (.str ⟨#[61, 57, 54]⟩ 810), (.str ⟨#[61, 57, 55]⟩ 814), (.str ⟨#[61, 57, 56]⟩ 818), (.str ⟨#[61, 57, 57]⟩ 822), (.str ⟨#[61, 57, 65]⟩ 826), (.str ⟨#[61, 57, 66]⟩ 830), (.str ⟨#[61, 57, 67]⟩ 834), (.str ⟨#[61, 57, 68]⟩ 838), (.str ⟨#[61, 57, 69]⟩ 842), (.str ⟨#[61, 57, 70]⟩ 846), (.str ⟨#[61, 65, 48]⟩ 850), (.str ⟨#[61, 65, 49]⟩ 854), (.str ⟨#[61, 65, 50]⟩ 858), (.str ⟨#[61, 65, 51]⟩ 862), (.str ⟨#[61, 65, 52]⟩ 866), (.str ⟨#[61, 65, 53]⟩ 870), (.str ⟨#[61, 65, 54]⟩ 874), (.str ⟨#[61, 65, 55]⟩ 878), (.str ⟨#[61, 65, 56]⟩ 882), (.str ⟨#[61, 65, 57]⟩ 886), (.str ⟨#[61, 65, 65]⟩ 890), (.str ⟨#[61, 65, 66]⟩ 894), (.str ⟨#[61, 65, 67]⟩ 898), (.str ⟨#[61, 65, 68]⟩ 902), (.str ⟨#[61, 65, 69]⟩ 906), (.str ⟨#[61, 65, 70]⟩ 910), (.str ⟨#[61, 66, 48]⟩ 914), (.str ⟨#[61, 66, 49]⟩ 918), (.str ⟨#[61, 66, 50]⟩ 922), (.str ⟨#[61, 66, 51]⟩ 926), (.str ⟨#[61, 66, 52]⟩ 930), (.str ⟨#[61, 66, 53]⟩ 934), (.str ⟨#[61, 66, 54]⟩ 938), (.str ⟨#[61, 66, 55]⟩ 942), (.str ⟨#[61, 66, 56]⟩ 946), (.str ⟨#[61, 66, 57]⟩ 950), (.str ⟨#[61, 66, 65]⟩ 954), (.str ⟨#[61, 66, 66]⟩ 958), (.str ⟨#[61, 66, 67]⟩ 962), (.str ⟨#[61, 66, 68]⟩ 966), (.str ⟨#[61, 66, 69]⟩ 970), (.str ⟨#[61, 66, 70]⟩ 974), (.str ⟨#[61, 67, 48]⟩ 978), (.str ⟨#[61, 67, 49]⟩ 982), (.str ⟨#[61, 67, 50]⟩ 986), (.str ⟨#[61, 67, 51]⟩ 990), (.str ⟨#[61, 67, 52]⟩ 994), (.str ⟨#[61, 67, 53]⟩ 998), (.str ⟨#[61, 67, 54]⟩ 1002), (.str ⟨#[61, 67, 55]⟩ 1006), (.str ⟨#[61, 67, 56]⟩ 1010), (.str ⟨#[61, 67, 57]⟩ 1014), (.str ⟨#[61, 67, 65]⟩ 1018), (.str ⟨#[61, 67, 66]⟩ 1022), (.str ⟨#[61, 67, 67]⟩ 1026), (.str ⟨#[61, 67, 68]⟩ 1030), (.str ⟨#[61, 67, 69]⟩ 1034), (.str ⟨#[61, 67, 70]⟩ 1038), (.str ⟨#[61, 68, 48]⟩ 1042), (.str ⟨#[61, 68, 49]⟩ 1046), (.str ⟨#[61, 68, 50]⟩ 1050), (.str ⟨#[61, 68, 51]⟩ 1054), (.str ⟨#[61, 68, 52]⟩ 1058), (.str ⟨#[61, 68, 53]⟩ 1062), (.str ⟨#[61, 68, 54]⟩ 1066), (.str ⟨#[61, 68, 55]⟩ 1070), (.str ⟨#[61, 68, 56]⟩ 1074), (.str ⟨#[61, 68, 57]⟩ 1078), (.str ⟨#[61, 68, 65]⟩ 1082), (.str ⟨#[61, 68, 66]⟩ 1086), (.str ⟨#[61, 68, 67]⟩ 1090), (.str ⟨#[61, 68, 68]⟩ 1094), (.str ⟨#[61, 68, 69]⟩ 1098), (.str ⟨#[61, 68, 70]⟩ 1102), (.str ⟨#[61, 69, 48]⟩ 1106), (.str ⟨#[61, 69, 49]⟩ 1110), (.str ⟨#[61, 69, 50]⟩ 1114), (.str ⟨#[61, 69, 51]⟩ 1118), (.str ⟨#[61, 69, 52]⟩ 1122), (.str ⟨#[61, 69, 53]⟩ 1126), (.str ⟨#[61, 69, 54]⟩ 1130), (.str ⟨#[61, 69, 55]⟩ 1134), (.str ⟨#[61, 69, 56]⟩ 1138), (.str ⟨#[61, 69, 57]⟩ 1142), (.str ⟨#[61, 69, 65]⟩ 1146), (.str ⟨#[61, 69, 66]⟩ 1150), (.str ⟨#[61, 69, 67]⟩ 1154), (.str ⟨#[61, 69, 68]⟩ 1158), (.str ⟨#[61, 69, 69]⟩ 1162), (.str ⟨#[61, 69, 70]⟩ 1166), (.str ⟨#[61, 70, 48]⟩ 1170), (.str ⟨#[61, 70, 49]⟩ 1174), (.str ⟨#[61, 70, 50]⟩ 1178), (.str ⟨#[61, 70, 51]⟩ 1182), (.str ⟨#[61, 70, 52]⟩ 1186), (.str ⟨#[61, 70, 53]⟩ 1190), (.str ⟨#[61, 70, 54]⟩ 1194), (.str ⟨#[61, 70, 55]⟩ 1198), (.str ⟨#[61, 70, 56]⟩ 1202), (.str ⟨#[61, 70, 57]⟩ 1206), (.str ⟨#[61, 70, 65]⟩ 1210), (.str ⟨#[61, 70, 66]⟩ 1214), (.str ⟨#[61, 70, 67]⟩ 1218), (.str ⟨#[61, 70, 68]⟩ 1222), (.str ⟨#[61, 70, 69]⟩ 1226), (.str ⟨#[61, 70, 70]⟩ 1230)] 256), #[]⟩
noncomputable abbrev oC2_26 (P : Params) : Obj := ⟨(.type "dict"), none, (.dict #[⟨(PyData.keyHash P "c"), (.str "c" 208), (.int 255 1227)⟩] 1), #[]⟩
noncomputable abbrev oC2_27 (P : Params) : Obj := ⟨(.type "tuple"), none, (.seq #[] 0), #[]⟩
noncomputable abbrev oC2_28 (P : Params) : Obj := ⟨(.type "StopIteration"), none, (.fields #[(.ref 27), .none, .none, .none, (.bool false), .none]), #[]⟩
noncomputable abbrev tC2 (P : Params) : BT := (.node (boot_o_0 P) (.node (boot_o_1 P) (.node (oB_3 P) (.node (boot_o_7 P) (.node (oB_15 P) .nil .nil) (.node (oC1_23 P) .nil .nil)) (.node (oA_11 P) (.node (oB_19 P) .nil .nil) (.node (oC2_27 P) .nil .nil))) (.node (boot_o_5 P) (.node (boot_o_9 P) (.node (oB_17 P) .nil .nil) (.node (oC2_25 P) .nil .nil)) (.node (oA_13 P) (.node (oB_21 P) .nil .nil) .nil))) (.node (boot_o_2 P) (.node (boot_o_4 P) (.node (boot_o_8 P) (.node (oB_16 P) .nil .nil) (.node (oC2_24 P) .nil .nil)) (.node (oB_12 P) (.node (oB_20 P) .nil .nil) (.node (oC2_28 P) .nil .nil))) (.node (boot_o_6 P) (.node (boot_o_10 P) (.node (oB_18 P) .nil .nil) (.node (oC2_26 P) .nil .nil)) (.node (oA_14 P) (.node (oB_22 P) .nil .nil) .nil))))
noncomputable abbrev SC2 (w : World) (os : OsState) : SharedT := ⟨tC2 w.params, 29, ⟨[], [], [], 0, [], [], false, #[], [], 0, false, false, false, 0, [2000, 10, 10], false, 0, true, [], [], 0, false⟩, #[], ⟨0, 0, 0, 0⟩, 1231, os⟩
noncomputable abbrev oC_3 (P : Params) : Obj := ⟨(.type "dict"), none, (.dict #[⟨(PyData.keyHash P "__name__"), (.str "__name__" 165), (.str "cpy313.unittest.util" 187)⟩, ⟨(PyData.keyHash P "__doc__"), (.str "__doc__" 166), .none⟩, ⟨(PyData.keyHash P "__package__"), (.str "__package__" 167), .none⟩, ⟨(PyData.keyHash P "__loader__"), (.str "__loader__" 168), (.builtin "__main__.__loader__#opaque")⟩, ⟨(PyData.keyHash P "__spec__"), (.str "__spec__" 169), .none⟩, ⟨(PyData.keyHash P "__annotations__"), (.str "__annotations__" 170), (.ref 6)⟩, ⟨(PyData.keyHash P "__builtins__"), (.str "__builtins__" 171), (.ref 4)⟩, ⟨(PyData.keyHash P "__file__"), (.str "__file__" 173), (.str "/claim/cut.py" 172)⟩, ⟨(PyData.keyHash P "__cached__"), (.str "__cached__" 174), .none⟩, ⟨(PyData.keyHash P "_MAX_LENGTH"), (.str "_MAX_LENGTH" 190), (.int 80 189)⟩, ⟨(PyData.keyHash P "safe_repr"), (.str "safe_repr" 199), (.ref 22)⟩, ⟨(PyData.keyHash P "CRLF"), (.str "CRLF" 201), (.str "\x0d\n" 200)⟩, ⟨(PyData.keyHash P "NL"), (.str "NL" 203), (.str "\n" 202)⟩, ⟨(PyData.keyHash P "_QUOPRI_MAP"), (.str "_QUOPRI_MAP" 1231), (.ref 25)⟩] 14), #[]⟩
noncomputable abbrev oC_26 (P : Params) : Obj := ⟨(.type "dict"), none, (.dict #[] 2), #[]⟩
noncomputable abbrev tC (P : Params) : BT := (.node (boot_o_0 P) (.node (boot_o_1 P) (.node (oC_3 P) (.node (boot_o_7 P) (.node (oB_15 P) .nil .nil) (.node (oC1_23 P) .nil .nil)) (.node (oA_11 P) (.node (oB_19 P) .nil .nil) (.node (oC2_27 P) .nil .nil))) (.node (boot_o_5 P) (.node (boot_o_9 P) (.node (oB_17 P) .nil .nil) (.node (oC2_25 P) .nil .nil)) (.node (oA_13 P) (.node (oB_21 P) .nil .nil) .nil))) (.node (boot_o_2 P) (.node (boot_o_4 P) (.node (boot_o_8 P) (.node (oB_16 P) .nil .nil) (.node (oC2_24 P) .nil .nil)) (.node (oB_12 P) (.node (oB_20 P) .nil .nil) (.node (oC2_28 P) .nil .nil))) (.node (boot_o_6 P) (.node (boot_o_10 P) (.node (oB_18 P) .nil .nil) (.node (oC_26 P) .nil .nil)) (.node (oA_14 P) (.node (oB_22 P) .nil .nil) .nil))))
noncomputable abbrev SC (w : World) (os : OsState) : SharedT := ⟨tC w.params, 29, ⟨[], [], [], 0, [], [], false, #[], [], 0, false, false, false, 0, [2000, 10, 10], false, 0, true, [], [], 0, false⟩, #[], ⟨0, 0, 0, 0⟩, 1232, os⟩
noncomputable def LC : Code := (compAt 5 0 (.ref 24) (.ref 25) ⟨⟨.module, [], false, false, []⟩, 26, 3, [], "", none, (.ref 13), (some 14), 0⟩)
theorem mainC (w : World) (os : OsState) (k : Result → Sem Fin) : segGoT treeTable pw w 11 (some (.ref 6)) 1 9487 (SC1 w os) ⟨denote treeTable LC, LC, ⟨13, 36, 13, 46⟩, [.ret k none true [(.ref 26), (.ref 25)] cB ⟨13, 36, 13, 46⟩ [], topFrame qB]⟩ = some (SC2 w os, ⟨k (.ok .next), cB, ⟨13, 36, 13, 46⟩, [topFrame qB]⟩) := by kernel_rfl
theorem preCff (w : World) (os : OsState) : (segGoT treeTable pw ((w.withFollow "comprehension-iter-twice" false).withFollow "special-get-raises" false) 11 (some (.ref 6)) 1 52 (SB ((w.withFollow "comprehension-iter-twice" false).withFollow "special-get-raises" false) os) (piecesOf (sts 5 1) envB cB ⟨12, 0, 12, 2⟩ [topFrame qB])) = some (SC1 ((w.withFollow "comprehension-iter-twice" false).withFollow "special-get-raises" false) os, ⟨denote treeTable LC, LC, ⟨13, 36, 13, 46⟩, [.ret (kOf (segGoT treeTable pw ((w.withFollow "comprehension-iter-twice" false).withFollow "special-get-raises" false) 11 (some (.ref 6)) 1 52 (SB ((w.withFollow "comprehension-iter-twice" false).withFollow "special-get-raises" false) os) (piecesOf (sts 5 1) envB cB ⟨12, 0, 12, 2⟩ [topFrame qB]))) none true [(.ref 26), (.ref 25)] cB ⟨13, 36, 13, 46⟩ [], topFrame qB]⟩) := by kernel_rfl
theorem sufCff (w : World) (os : OsState) : segRunT treeTable pw ((w.withFollow "comprehension-iter-twice" false).withFollow "special-get-raises" false) 11 (some (.ref 6)) 1 32 (SC2 ((w.withFollow "comprehension-iter-twice" false).withFollow "special-get-raises" false) os) ⟨kOf (segGoT treeTable pw ((w.withFollow "comprehension-iter-twice" false).withFollow "special-get-raises" false) 11 (some (.ref 6)) 1 52 (SB ((w.withFollow "comprehension-iter-twice" false).withFollow "special-get-raises" false) os) (piecesOf (sts 5 1) envB cB ⟨12, 0, 12, 2⟩ [topFrame qB])) (.ok .next), cB, ⟨13, 36, 13, 46⟩, [topFrame qB]⟩ = some (.next, SC ((w.withFollow "comprehension-iter-twice" false).withFollow "special-get-raises" false) os, cB, ⟨13, 0, 13, 11⟩) := by kernel_rfl
theorem segCff (w : World) (os : OsState) : segRun treeTable pw ((w.withFollow "comprehension-iter-twice" false).withFollow "special-get-raises" false) 11 (some (.ref 6)) 1 9571 (SB ((w.withFollow "comprehension-iter-twice" false).withFollow "special-get-raises" false) os).abs (piecesOf (sts 5 1) envB cB ⟨12, 0, 12, 2⟩ [topFrame qB]) = some (.next, (SC ((w.withFollow "comprehension-iter-twice" false).withFollow "special-get-raises" false) os).abs, cB, ⟨13, 0, 13, 11⟩) :=
  seg_go (n := 52) (N := 9519) (segGo_of (preCff w os)) (seg_go (n := 9487) (N := 32) (segGo_of (mainC ((w.withFollow "comprehension-iter-twice" false).withFollow "special-get-raises" false) os _)) (segRun_of (sufCff w os)))
theorem preCft (w : World) (os : OsState) : (segGoT treeTable pw ((w.withFollow "comprehension-iter-twice" true).withFollow "special-get-raises" false) 11 (some (.ref 6)) 1 42 (SB ((w.withFollow "comprehension-iter-twice" true).withFollow "special-get-raises" false) os) (piecesOf (sts 5 1) envB cB ⟨12, 0, 12, 2⟩ [topFrame qB])) = some (SC1 ((w.withFollow "comprehension-iter-twice" true).withFollow "special-get-raises" false) os, ⟨denote treeTable LC, LC, ⟨13, 36, 13, 46⟩, [.ret (kOf (segGoT treeTable pw ((w.withFollow "comprehension-iter-twice" true).withFollow "special-get-raises" false) 11 (some (.ref 6)) 1 42 (SB ((w.withFollow "comprehension-iter-twice" true).withFollow "special-get-raises" false) os) (piecesOf (sts 5 1) envB cB ⟨12, 0, 12, 2⟩ [topFrame qB]))) none true [(.ref 26), (.ref 25)] cB ⟨13, 36, 13, 46⟩ [], topFrame qB]⟩) := by kernel_rfl
theorem sufCft (w : World) (os : OsState) : segRunT treeTable pw ((w.withFollow "comprehension-iter-twice" true).withFollow "special-get-raises" false) 11 (some (.ref 6)) 1 42 (SC2 ((w.withFollow "comprehension-iter-twice" true).withFollow "special-get-raises" false) os) ⟨kOf (segGoT treeTable pw ((w.withFollow "comprehension-iter-twice" true).withFollow "special-get-raises" false) 11 (some (.ref 6)) 1 42 (SB ((w.withFollow "comprehension-iter-twice" true).withFollow "special-get-raises" false) os) (piecesOf (sts 5 1) envB cB ⟨12, 0, 12, 2⟩ [topFrame qB])) (.ok .next), cB, ⟨13, 36, 13, 46⟩, [topFrame qB]⟩ = some (.next, SC ((w.withFollow "comprehension-iter-twice" true).withFollow "special-get-raises" false) os, cB, ⟨13, 0, 13, 11⟩) := by kernel_rfl
theorem segCft (w : World) (os : OsState) : segRun treeTable pw ((w.withFollow "comprehension-iter-twice" true).withFollow "special-get-raises" false) 11 (some (.ref 6)) 1 9571 (SB ((w.withFollow "comprehension-iter-twice" true).withFollow "special-get-raises" false) os).abs (piecesOf (sts 5 1) envB cB ⟨12, 0, 12, 2⟩ [topFrame qB]) = some (.next, (SC ((w.withFollow "comprehension-iter-twice" true).withFollow "special-get-raises" false) os).abs, cB, ⟨13, 0, 13, 11⟩) :=
  seg_go (n := 42) (N := 9529) (segGo_of (preCft w os)) (seg_go (n := 9487) (N := 42) (segGo_of (mainC ((w.withFollow "comprehension-iter-twice" true).withFollow "special-get-raises" false) os _)) (segRun_of (sufCft w os)))
theorem preCtf (w : World) (os : OsState) : (segGoT treeTable pw ((w.withFollow "comprehension-iter-twice" false).withFollow "special-get-raises" true) 11 (some (.ref 6)) 1 52 (SB ((w.withFollow "comprehension-iter-twice" false).withFollow "special-get-raises" true) os) (piecesOf (sts 5 1) envB cB ⟨12, 0, 12, 2⟩ [topFrame qB])) = some (SC1 ((w.withFollow "comprehension-iter-twice" false).withFollow "special-get-raises" true) os, ⟨denote treeTable LC, LC, ⟨13, 36, 13, 46⟩, [.ret (kOf (segGoT treeTable pw ((w.withFollow "comprehension-iter-twice" false).withFollow "special-get-raises" true) 11 (some (.ref 6)) 1 52 (SB ((w.withFollow "comprehension-iter-twice" false).withFollow "special-get-raises" true) os) (piecesOf (sts 5 1) envB cB ⟨12, 0, 12, 2⟩ [topFrame qB]))) none true [(.ref 26), (.ref 25)] cB ⟨13, 36, 13, 46⟩ [], topFrame qB]⟩) := by kernel_rfl
theorem sufCtf (w : World) (os : OsState) : segRunT treeTable pw ((w.withFollow "comprehension-iter-twice" false).withFollow "special-get-raises" true) 11 (some (.ref 6)) 1 32 (SC2 ((w.withFollow "comprehension-iter-twice" false).withFollow "special-get-raises" true) os) ⟨kOf (segGoT treeTable pw ((w.withFollow "comprehension-iter-twice" false).withFollow "special-get-raises" true) 11 (some (.ref 6)) 1 52 (SB ((w.withFollow "comprehension-iter-twice" false).withFollow "special-get-raises" true) os) (piecesOf (sts 5 1) envB cB ⟨12, 0, 12, 2⟩ [topFrame qB])) (.ok .next), cB, ⟨13, 36, 13, 46⟩, [topFrame qB]⟩ = some (.next, SC ((w.withFollow "comprehension-iter-twice" false).withFollow "special-get-raises" true) os, cB, ⟨13, 0, 13, 11⟩) := by kernel_rfl
theorem segCtf (w : World) (os : OsState) : segRun treeTable pw ((w.withFollow "comprehension-iter-twice" false).withFollow "special-get-raises" true) 11 (some (.ref 6)) 1 9571 (SB ((w.withFollow "comprehension-iter-twice" false).withFollow "special-get-raises" true) os).abs (piecesOf (sts 5 1) envB cB ⟨12, 0, 12, 2⟩ [topFrame qB]) = some (.next, (SC ((w.withFollow "comprehension-iter-twice" false).withFollow "special-get-raises" true) os).abs, cB, ⟨13, 0, 13, 11⟩) :=
  seg_go (n := 52) (N := 9519) (segGo_of (preCtf w os)) (seg_go (n := 9487) (N := 32) (segGo_of (mainC ((w.withFollow "comprehension-iter-twice" false).withFollow "special-get-raises" true) os _)) (segRun_of (sufCtf w os)))
theorem preCtt (w : World) (os : OsState) : (segGoT treeTable pw ((w.withFollow "comprehension-iter-twice" true).withFollow "special-get-raises" true) 11 (some (.ref 6)) 1 42 (SB ((w.withFollow "comprehension-iter-twice" true).withFollow "special-get-raises" true) os) (piecesOf (sts 5 1) envB cB ⟨12, 0, 12, 2⟩ [topFrame qB])) = some (SC1 ((w.withFollow "comprehension-iter-twice" true).withFollow "special-get-raises" true) os, ⟨denote treeTable LC, LC, ⟨13, 36, 13, 46⟩, [.ret (kOf (segGoT treeTable pw ((w.withFollow "comprehension-iter-twice" true).withFollow "special-get-raises" true) 11 (some (.ref 6)) 1 42 (SB ((w.withFollow "comprehension-iter-twice" true).withFollow "special-get-raises" true) os) (piecesOf (sts 5 1) envB cB ⟨12, 0, 12, 2⟩ [topFrame qB]))) none true [(.ref 26), (.ref 25)] cB ⟨13, 36, 13, 46⟩ [], topFrame qB]⟩) := by kernel_rfl
theorem sufCtt (w : World) (os : OsState) : segRunT treeTable pw ((w.withFollow "comprehension-iter-twice" true).withFollow "special-get-raises" true) 11 (some (.ref 6)) 1 42 (SC2 ((w.withFollow "comprehension-iter-twice" true).withFollow "special-get-raises" true) os) ⟨kOf (segGoT treeTable pw ((w.withFollow "comprehension-iter-twice" true).withFollow "special-get-raises" true) 11 (some (.ref 6)) 1 42 (SB ((w.withFollow "comprehension-iter-twice" true).withFollow "special-get-raises" true) os) (piecesOf (sts 5 1) envB cB ⟨12, 0, 12, 2⟩ [topFrame qB])) (.ok .next), cB, ⟨13, 36, 13, 46⟩, [topFrame qB]⟩ = some (.next, SC ((w.withFollow "comprehension-iter-twice" true).withFollow "special-get-raises" true) os, cB, ⟨13, 0, 13, 11⟩) := by kernel_rfl
theorem segCtt (w : World) (os : OsState) : segRun treeTable pw ((w.withFollow "comprehension-iter-twice" true).withFollow "special-get-raises" true) 11 (some (.ref 6)) 1 9571 (SB ((w.withFollow "comprehension-iter-twice" true).withFollow "special-get-raises" true) os).abs (piecesOf (sts 5 1) envB cB ⟨12, 0, 12, 2⟩ [topFrame qB]) = some (.next, (SC ((w.withFollow "comprehension-iter-twice" true).withFollow "special-get-raises" true) os).abs, cB, ⟨13, 0, 13, 11⟩) :=
  seg_go (n := 42) (N := 9529) (segGo_of (preCtt w os)) (seg_go (n := 9487) (N := 42) (segGo_of (mainC ((w.withFollow "comprehension-iter-twice" true).withFollow "special-get-raises" true) os _)) (segRun_of (sufCtt w os)))
theorem runC (w : World) (os : OsState) : segRun treeTable pw w 11 (some (.ref 6)) 1 9571 (SB w os).abs (piecesOf (sts 5 1) envB cB ⟨12, 0, 12, 2⟩ [topFrame qB]) = some (.next, (SC w os).abs, cB, ⟨13, 0, 13, 11⟩) :=
  byRow2 "special-get-raises" (P := fun w => segRun treeTable pw w 11 (some (.ref 6)) 1 9571 (SB w os).abs (piecesOf (sts 5 1) envB cB ⟨12, 0, 12, 2⟩ [topFrame qB]) = some (.next, (SC w os).abs, cB, ⟨13, 0, 13, 11⟩)) (byRow2 "comprehension-iter-twice" (P := fun v => (fun w => segRun treeTable pw w 11 (some (.ref 6)) 1 9571 (SB w os).abs (piecesOf (sts 5 1) envB cB ⟨12, 0, 12, 2⟩ [topFrame qB]) = some (.next, (SC w os).abs, cB, ⟨13, 0, 13, 11⟩)) (v.withFollow "special-get-raises" false)) (fun w => segCff w os) (fun w => segCft w os)) (byRow2 "comprehension-iter-twice" (P := fun v => (fun w => segRun treeTable pw w 11 (some (.ref 6)) 1 9571 (SB w os).abs (piecesOf (sts 5 1) envB cB ⟨12, 0, 12, 2⟩ [topFrame qB]) = some (.next, (SC w os).abs, cB, ⟨13, 0, 13, 11⟩)) (v.withFollow "special-get-raises" true)) (fun w => segCtf w os) (fun w => segCtt w os)) w
noncomputable abbrev oD_3 (P : Params) : Obj := ⟨(.type "dict"), none, (.dict #[⟨(PyData.keyHash P "__name__"), (.str "__name__" 165), (.str "cpy313.email.quoprimime" 1247)⟩, ⟨(PyData.keyHash P "__doc__"), (.str "__doc__" 166), .none⟩, ⟨(PyData.keyHash P "__package__"), (.str "__package__" 167), .none⟩, ⟨(PyData.keyHash P "__loader__"), (.str "__loader__" 168), (.builtin "__main__.__loader__#opaque")⟩, ⟨(PyData.keyHash P "__spec__"), (.str "__spec__" 169), .none⟩, ⟨(PyData.keyHash P "__annotations__"), (.str "__annotations__" 170), (.ref 6)⟩, ⟨(PyData.keyHash P "__builtins__"), (.str "__builtins__" 171), (.ref 4)⟩, ⟨(PyData.keyHash P "__file__"), (.str "__file__" 173), (.str "/claim/cut.py" 172)⟩, ⟨(PyData.keyHash P "__cached__"), (.str "__cached__" 174), .none⟩, ⟨(PyData.keyHash P "_MAX_LENGTH"), (.str "_MAX_LENGTH" 190), (.int 80 189)⟩, ⟨(PyData.keyHash P "safe_repr"), (.str "safe_repr" 199), (.ref 22)⟩, ⟨(PyData.keyHash P "CRLF"), (.str "CRLF" 201), (.str "\x0d\n" 200)⟩, ⟨(PyData.keyHash P "NL"), (.str "NL" 203), (.str "\n" 202)⟩, ⟨(PyData.keyHash P "_QUOPRI_MAP"), (.str "_QUOPRI_MAP" 1231), (.ref 25)⟩, ⟨(PyData.keyHash P "_QUOPRI_HEADER_MAP"), (.str "_QUOPRI_HEADER_MAP" 1232), (.ref 30)⟩, ⟨(PyData.keyHash P "_QUOPRI_BODY_MAP"), (.str "_QUOPRI_BODY_MAP" 1233), (.ref 32)⟩, ⟨(PyData.keyHash P "ascii_lowercase"), (.str "ascii_lowercase" 1235), (.str "abcdefghijklmnopqrstuvwxyz" 1234)⟩, ⟨(PyData.keyHash P "ascii_uppercase"), (.str "ascii_uppercase" 1237), (.str "ABCDEFGHIJKLMNOPQRSTUVWXYZ" 1236)⟩, ⟨(PyData.keyHash P "ascii_letters"), (.str "ascii_letters" 1239), (.str "abcdefghijklmnopqrstuvwxyzABCDEFGHIJKLMNOPQRSTUVWXYZ" 1238)⟩, ⟨(PyData.keyHash P "digits"), (.str "digits" 1241), (.str "0123456789" 1240)⟩, ⟨(PyData.keyHash P "hexdigits"), (.str "hexdigits" 1246), (.str "0123456789abcdefABCDEF" 1245)⟩] 21), #[]⟩
noncomputable abbrev oD_29 (P : Params) : Obj := ⟨(.type "slice"), none, (.fields #[.none, .none, .none]), #[]⟩
noncomputable abbrev oD_30 (P : Params) : Obj := ⟨(.type "list"), none, (.seq #[(.str ⟨#[61, 48, 48]⟩ 210), (.str ⟨#[61, 48, 49]⟩ 214), (.str ⟨#[61, 48, 50]⟩ 218), (.str ⟨#[61, 48, 51]⟩ 222), (.str ⟨#[61, 48, 52]⟩ 226), (.str ⟨#[61, 48, 53]⟩ 230), (.str ⟨#[61, 48, 54]⟩ 234), (.str ⟨#[61, 48, 55]⟩ 238), (.str ⟨#[61, 48, 56]⟩ 242), (.str ⟨#[61, 48, 57]⟩ 246), (.str ⟨#[61, 48, 65]⟩ 250), (.str ⟨#[61, 48, 66]⟩ 254), (.str ⟨#[61, 48, 67]⟩ 258), (.str ⟨#[61, 48, 68]⟩ 262), (.str ⟨#[61, 48, 69]⟩ 266), (.str ⟨#[61, 48, 70]⟩ 270), (.str ⟨#[61, 49, 48]⟩ 274), (.str ⟨#[61, 49, 49]⟩ 278), (.str ⟨#[61, 49, 50]⟩ 282), (.str ⟨#[61, 49, 51]⟩ 286), (.str ⟨#[61, 49, 52]⟩ 290), (.str ⟨#[61, 49, 53]⟩ 294), (.str ⟨#[61, 49, 54]⟩ 298), (.str ⟨#[61, 49, 55]⟩ 302), (.str ⟨#[61, 49, 56]⟩ 306), (.str ⟨#[61, 49, 57]⟩ 310), (.str ⟨#[61, 49, 65]⟩ 314), (.str ⟨#[61, 49, 66]⟩ 318), (.str ⟨#[61, 49, 67]⟩ 322), (.str ⟨#[61, 49, 68]⟩ 326), (.str ⟨#[61, 49, 69]⟩ 330), (.str ⟨#[61, 49, 70]⟩ 334), (.str ⟨#[61, 50, 48]⟩ 338), (.str ⟨#[61, 50, 49]⟩ 342), (.str ⟨#[61, 50, 50]⟩ 346), (.str ⟨#[61, 50, 51]⟩ 350), (.str ⟨#[61, 50, 52]⟩ 354), (.str ⟨#[61, 50, 53]⟩ 358), (.str ⟨#[61, 50, 54]⟩ 362), (.str ⟨#[61, 50, 55]⟩ 366), (.str ⟨#[61, 50, 56]⟩ 370), (.str ⟨#[61, 50, 57]⟩ 374), (.str ⟨#[61, 50, 65]⟩ 378), (.str ⟨#[61, 50, 66]⟩ 382), (.str ⟨#[61, 50, 67]⟩ 386), (.str ⟨#[61, 50, 68]⟩ 390), (.str ⟨#[61, 50, 69]⟩ 394), (.str ⟨#[61, 50, 70]⟩ 398), (.str ⟨#[61, 51, 48]⟩ 402), (.str ⟨#[61, 51, 49]⟩ 406), (.str ⟨#[61, 51, 50]⟩ 410), (.str ⟨#[61, 51, 51]⟩ 414), (.str ⟨#[61, 51, 52]⟩ 418), (.str ⟨#[61, 51, 53]⟩ 422), (.str ⟨#[61, 51, 54]⟩ 426), (.str ⟨#[61, 51, 55]⟩ 430), (.str ⟨#[61, 51, 56]⟩ 434), (.str ⟨#[61, 51, 57]⟩ 438), (.str ⟨#[61, 51, 65]⟩ 442), (.str ⟨#[61, 51, 66]⟩ 446), (.str ⟨#[61, 51, 67]⟩ 450), (.str ⟨#[61, 51, 68]⟩ 454), (.str ⟨#[61, 51, 69]⟩ 458), (.str ⟨#[61, 51, 70]⟩ 462), (.str ⟨#[61, 52, 48]⟩ 466), (.str ⟨#[61, 52, 49]⟩ 470), (.str ⟨#[61, 52, 50]⟩ 474), (.str ⟨#[61, 52, 51]⟩ 478), (.str ⟨#[61, 52, 52]⟩ 482), (.str ⟨#[61, 52, 53]⟩ 486), (.str ⟨#[61, 52, 54]⟩ 490), (.str ⟨#[61, 52, 55]⟩ 494), (.str ⟨#[61, 52, 56]⟩ 498), (.str ⟨#[61, 52, 57]⟩ 502), (.str ⟨#[61, 52, 65]⟩ 506), (.str ⟨#[61, 52, 66]⟩ 510), (.str ⟨#[61, 52, 67]⟩ 514), (.str ⟨#[61, 52, 68]⟩ 518), (.str ⟨#[61, 52, 69]⟩ 522), (.str ⟨#[61, 52, 70]⟩ 526), (.str ⟨#[61, 53, 48]⟩ 530), (.str ⟨#[61, 53, 49]⟩ 534), (.str ⟨#[61, 53, 50]⟩ 538), (.str ⟨#[61, 53, 51]⟩ 542), (.str ⟨#[61, 53, 52]⟩ 546), (.str ⟨#[61, 53, 53]⟩ 550), (.str ⟨#[61, 53, 54]⟩ 554), (.str ⟨#[61, 53, 55]⟩ 558), (.str ⟨#[61, 53, 56]⟩ 562), (.str ⟨#[61, 53, 57]⟩ 566), (.str ⟨#[61, 53, 65]⟩ 570), (.str ⟨#[61, 53, 66]⟩ 574), (.str ⟨#[61, 53, 67]⟩ 578), (.str ⟨#[61, 53, 68]⟩ 582), (.str ⟨#[61, 53, 69]⟩ 586), (.str ⟨#[61, 53, 70]⟩ 590), (.str ⟨#[61, 54, 48]⟩ 594), (.str ⟨#[61, 54, 49]⟩ 598), (.str ⟨#[61, 54, 50]⟩ 602), (.str ⟨#[61, 54, 51]⟩ 606), (.str ⟨#[61, 54, 52]⟩ 610), (.str ⟨#[61, 54, 53]⟩ 614), (.str ⟨#[61, 54, 54]⟩ 618), (.str ⟨#[61, 54, 55]⟩ 622), (.str ⟨#[61, 54, 56]⟩ 626), (.str ⟨#[61, 54, 57]⟩ 630), (.str ⟨#[61, 54, 65]⟩ 634), (.str ⟨#[61, 54, 66]⟩ 638), (.str ⟨#[61, 54, 67]⟩ 642), (.str ⟨#[61, 54, 68]⟩ 646), (.str ⟨#[61, 54, 69]⟩ 650), (.str ⟨#[61, 54, 70]⟩ 654), (.str ⟨#[61, 55, 48]⟩ 658), (.str ⟨#[61, 55, 49]⟩ 662), (.str ⟨#[61, 55, 50]⟩ 666), (.str ⟨#[61, 55, 51]⟩ 670), (.str ⟨#[61, 55, 52]⟩ 674), (.str ⟨#[61, 55, 53]⟩ 678), (.str ⟨#[61, 55, 54]⟩ 682), (.str ⟨#[61, 55, 55]⟩ 686), (.str ⟨#[61, 55, 56]⟩ 690), (.str ⟨#[61, 55, 57]⟩ 694), (.str ⟨#[61, 55, 65]⟩ 698), (.str ⟨#[61, 55, 66]⟩ 702), (.str ⟨#[61, 55, 67]⟩ 706), (.str ⟨#[61, 55, 68]⟩ 710), (.str ⟨#[61, 55, 69]⟩ 714), (.str ⟨#[61, 55, 70]⟩ 718), (.str ⟨#[61, 56, 48]⟩ 722), (.str ⟨#[61, 56, 49]⟩ 726), (.str ⟨#[61, 56, 50]⟩ 730), (.str ⟨#[61, 56, 51]⟩ 734), (.str ⟨#[61, 56, 52]⟩ 738), (.str ⟨#[61, 56, 53]⟩ 742), (.str ⟨#[61, 56, 54]⟩ 746), (.str ⟨#[61, 56, 55]⟩ 750), (.str ⟨#[61, 56, 56]⟩ 754), (.str ⟨#[61, 56, 57]⟩ 758), (.str ⟨#[61, 56, 65]⟩ 762), (.str ⟨#[61, 56, 66]⟩ 766), (.str ⟨#[61, 56, 67]⟩ 770), (.str ⟨#[61, 56, 68]⟩ 774), (.str ⟨#[61, 56, 69]⟩ 778), (.str ⟨#[61, 56, 70]⟩ 782), (.str ⟨#[61, 57, 48]⟩ 786), (.str ⟨#[61, 57, 49]⟩ 790), (.str ⟨#[61, 57, 50]⟩ 794), (.str ⟨#[61, 57, 51]⟩ 798), (.str ⟨#[61, 57, 52]⟩ 802), (.str ⟨#[61, 57, 53]⟩ 806), (.str ⟨#[61, 57, 54]⟩ 810), (.str ⟨#[61, 57, 55]⟩ 814), (.str ⟨#[61, 57, 56]⟩ 818), (.str ⟨#[61, 57, 57]⟩ 822), (.str ⟨#[61, 57, 65]⟩ 826), (.str ⟨#[61, 57, 66]⟩ 830), (.str ⟨#[61, 57, 67]⟩ 834), (.str ⟨#[61, 57, 68]⟩ 838), (.str ⟨#[61, 57, 69]⟩ 842), (.str ⟨#[61, 57, 70]⟩ 846), (.str ⟨#[61, 65, 48]⟩ 850), (.str ⟨#[61, 65, 49]⟩ 854), (.str ⟨#[61, 65, 50]⟩ 858), (.str ⟨#[61, 65, 51]⟩ 862), (.str ⟨#[61, 65, 52]⟩ 866), (.str ⟨#[61, 65, 53]⟩ 870), (.str ⟨#[61, 65, 54]⟩ 874), (.str ⟨#[61, 65, 55]⟩ 878), (.str ⟨#[61, 65, 56]⟩ 882), (.str ⟨#[61, 65, 57]⟩ 886), (.str ⟨#[61, 65, 65]⟩ 890), (.str ⟨#[61, 65, 66]⟩ 894), (.str ⟨#[61, 65, 67]⟩ 898), (.str ⟨#[61, 65, 68]⟩ 902), (.str ⟨#[61, 65, 69]⟩ 906), (.str ⟨#[61, 65, 70]⟩ 910), (.str ⟨#[61, 66, 48]⟩ 914), (.str ⟨#[61, 66, 49]⟩ 918), (.str ⟨#[61, 66, 50]⟩ 922), (.str ⟨#[61, 66, 51]⟩ 926), (.str ⟨#[61, 66, 52]⟩ 930), (.str ⟨#[61, 66, 53]⟩ 934), (.str ⟨#[61, 66, 54]⟩ 938), (.str ⟨#[61, 66, 55]⟩ 942), (.str ⟨#[61, 66, 56]⟩ 946), (.str ⟨#[61, 66, 57]⟩ 950), (.str ⟨#[61, 66, 65]⟩ 954), (.str ⟨#[61, 66, 66]⟩ 958), (.str ⟨#[61, 66, 67]⟩ 962), (.str ⟨#[61, 66, 68]⟩ 966), (.str ⟨#[61, 66, 69]⟩ 970), (.str ⟨#[61, 66, 70]⟩ 974), (.str ⟨#[61, 67, 48]⟩ 978), (.str ⟨#[61, 67, 49]⟩ 982), (.str ⟨#[61, 67, 50]⟩ 986), (.str ⟨#[61, 67, 51]⟩ 990), (.str ⟨#[61, 67, 52]⟩ 994), (.str ⟨#[61, 67, 53]⟩ 998), (.str ⟨#[61, 67, 54]⟩ 1002), (.str ⟨#[61, 67, 55]⟩ 1006), (.str ⟨#[61, 67, 56]⟩ 1010), (.str ⟨#[61, 67, 57]⟩ 1014), (.str ⟨#[61, 67, 65]⟩ 1018), (.str ⟨#[61, 67, 66]⟩ 1022), (.str ⟨#[61, 67, 67]⟩ 1026), (.str ⟨#[61, 67, 68]⟩ 1030), (.str ⟨#[61, 67, 69]⟩ 1034), (.str ⟨#[61, 67, 70]⟩ 1038), (.str ⟨#[61, 68, 48]⟩ 1042), (.str ⟨#[61, 68, 49]⟩ 1046), (.str ⟨#[61, 68, 50]⟩ 1050), (.str ⟨#[61, 68, 51]⟩ 1054), (.str ⟨#[61, 68, 52]⟩ 1058), (.str ⟨#[61, 68, 53]⟩ 1062), (.str ⟨#[61, 68, 54]⟩ 1066), (.str ⟨#[61, 68, 55]⟩ 1070), (.str ⟨#[61, 68, 56]⟩ 1074), (.str ⟨#[61, 68, 57]⟩ 1078), (.str ⟨#[61, 68, 65]⟩ 1082), (.str ⟨#[61, 68, 66]⟩ 1086), (.str ⟨#[61, 68, 67]⟩ 1090), (.str ⟨#[61, 68, 68]⟩ 1094), (.str ⟨#[61, 68, 69]⟩ 1098), (.str ⟨#[61, 68, 70]⟩ 1102), (.str ⟨#[61, 69, 48]⟩ 1106), (.str ⟨#[61, 69, 49]⟩ 1110), (.str ⟨#[61, 69, 50]⟩ 1114), (.str ⟨#[61, 69, 51]⟩ 1118), (.str ⟨#[61, 69, 52]⟩ 1122), (.str ⟨#[61, 69, 53]⟩ 1126), (.str ⟨#[61, 69, 54]⟩ 1130), (.str ⟨#[61, 69, 55]⟩ 1134), (.str ⟨#[61, 69, 56]⟩ 1138), (.str ⟨#[61, 69, 57]⟩ 1142), (.str ⟨#[61, 69, 65]⟩ 1146), (.str ⟨#[61, 69, 66]⟩ 1150), (.str ⟨#[61, 69, 67]⟩ 1154), (.str ⟨#[61, 69, 68]⟩ 1158), (.str ⟨#[61, 69, 69]⟩ 1162), (.str ⟨#[61, 69, 70]⟩ 1166), (.str ⟨#[61, 70, 48]⟩ 1170), (.str ⟨#[61, 70, 49]⟩ 1174), (.str ⟨#[61, 70, 50]⟩ 1178), (.str ⟨#[61, 70, 51]⟩ 1182), (.str ⟨#[61, 70, 52]⟩ 1186), (.str ⟨#[61, 70, 53]⟩ 1190), (.str ⟨#[61, 70, 54]⟩ 1194), (.str ⟨#[61, 70, 55]⟩ 1198), (.str ⟨#[61, 70, 56]⟩ 1202), (.str ⟨#[61, 70, 57]⟩ 1206), (.str ⟨#[61, 70, 65]⟩ 1210), (.str ⟨#[61, 70, 66]⟩ 1214), (.str ⟨#[61, 70, 67]⟩ 1218), (.str ⟨#[61, 70, 68]⟩ 1222), (.str ⟨#[61, 70, 69]⟩ 1226), (.str ⟨#[61, 70, 70]⟩ 1230)] 0), #[]⟩
noncomputable abbrev oD_31 (P : Params) : Obj := ⟨(.type "slice"), none, (.fields #[.none, .none, .none]), #[]⟩
noncomputable abbrev oD_32 (P : Params) : Obj := ⟨(.type "list"), none, (.seq #[(.str ⟨#[61, 48, 48]⟩ 210), (.str ⟨#[61, 48, 49]⟩ 214), (.str ⟨#[61, 48, 50]⟩ 218), (.str ⟨#[61, 48, 51]⟩ 222), (.str ⟨#[61, 48, 52]⟩ 226), (.str ⟨#[61, 48, 53]⟩ 230), (.str ⟨#[61, 48, 54]⟩ 234), (.str ⟨#[61, 48, 55]⟩ 238), (.str ⟨#[61, 48, 56]⟩ 242), (.str ⟨#[61, 48, 57]⟩ 246), (.str ⟨#[61, 48, 65]⟩ 250), (.str ⟨#[61, 48, 66]⟩ 254), (.str ⟨#[61, 48, 67]⟩ 258), (.str ⟨#[61, 48, 68]⟩ 262), (.str ⟨#[61, 48, 69]⟩ 266), (.str ⟨#[61, 48, 70]⟩ 270), (.str ⟨#[61, 49, 48]⟩ 274), (.str ⟨#[61, 49, 49]⟩ 278), (.str ⟨#[61, 49, 50]⟩ 282), (.str ⟨#[61, 49, 51]⟩ 286), (.str ⟨#[61, 49, 52]⟩ 290), (.str ⟨#[61, 49, 53]⟩ 294), (.str ⟨#[61, 49, 54]⟩ 298), (.str ⟨#[61, 49, 55]⟩ 302), (.str ⟨#[61, 49, 56]⟩ 306), (.str ⟨#[61, 49, 57]⟩ 310), (.str ⟨#[61, 49, 65]⟩ 314), (.str ⟨#[61, 49, 66]⟩ 318), (.str ⟨#[61, 49, 67]⟩ 322), (.str ⟨#[61, 49, 68]⟩ 326), (.str ⟨#[61, 49, 69]⟩ 330), (.str ⟨#[61, 49, 70]⟩ 334), (.str ⟨#[61, 50, 48]⟩ 338), (.str ⟨#[61, 50, 49]⟩ 342), (.str ⟨#[61, 50, 50]⟩ 346), (.str ⟨#[61, 50, 51]⟩ 350), (.str ⟨#[61, 50, 52]⟩ 354), (.str ⟨#[61, 50, 53]⟩ 358), (.str ⟨#[61, 50, 54]⟩ 362), (.str ⟨#[61, 50, 55]⟩ 366), (.str ⟨#[61, 50, 56]⟩ 370), (.str ⟨#[61, 50, 57]⟩ 374), (.str ⟨#[61, 50, 65]⟩ 378), (.str ⟨#[61, 50, 66]⟩ 382), (.str ⟨#[61, 50, 67]⟩ 386), (.str ⟨#[61, 50, 68]⟩ 390), (.str ⟨#[61, 50, 69]⟩ 394), (.str ⟨#[61, 50, 70]⟩ 398), (.str ⟨#[61, 51, 48]⟩ 402), (.str ⟨#[61, 51, 49]⟩ 406), (.str ⟨#[61, 51, 50]⟩ 410), (.str ⟨#[61, 51, 51]⟩ 414), (.str ⟨#[61, 51, 52]⟩ 418), (.str ⟨#[61, 51, 53]⟩ 422), (.str ⟨#[61, 51, 54]⟩ 426), (.str ⟨#[61, 51, 55]⟩ 430), (.str ⟨#[61, 51, 56]⟩ 434), (.str ⟨#[61, 51, 57]⟩ 438), (.str ⟨#[61, 51, 65]⟩ 442), (.str ⟨#[61, 51, 66]⟩ 446), (.str ⟨#[61, 51, 67]⟩ 450), (.str ⟨#[61, 51, 68]⟩ 454), (.str ⟨#[61, 51, 69]⟩ 458), (.str ⟨#[61, 51, 70]⟩ 462), (.str ⟨#[61, 52, 48]⟩ 466), (.str ⟨#[61, 52, 49]⟩ 470), (.str ⟨#[61, 52, 50]⟩ 474), (.str ⟨#[61, 52, 51]⟩ 478), (.str ⟨#[61, 52, 52]⟩ 482), (.str ⟨#[61, 52, 53]⟩ 486), (.str ⟨#[61, 52, 54]⟩ 490), (.str ⟨#[61, 52, 55]⟩ 494), (.str ⟨#[61, 52, 56]⟩ 498), (.str ⟨#[61, 52, 57]⟩ 502), (.str ⟨#[61, 52, 65]⟩ 506), (.str ⟨#[61, 52, 66]⟩ 510), (.str ⟨#[61, 52, 67]⟩ 514), (.str ⟨#[61, 52, 68]⟩ 518), (.str ⟨#[61, 52, 69]⟩ 522), (.str ⟨#[61, 52, 70]⟩ 526), (.str ⟨#[61, 53, 48]⟩ 530), (.str ⟨#[61, 53, 49]⟩ 534), (.str ⟨#[61, 53, 50]⟩ 538), (.str ⟨#[61, 53, 51]⟩ 542), (.str ⟨#[61, 53, 52]⟩ 546), (.str ⟨#[61, 53, 53]⟩ 550), (.str ⟨#[61, 53, 54]⟩ 554), (.str ⟨#[61, 53, 55]⟩ 558), (.str ⟨#[61, 53, 56]⟩ 562), (.str ⟨#[61, 53, 57]⟩ 566), (.str ⟨#[61, 53, 65]⟩ 570), (.str ⟨#[61, 53, 66]⟩ 574), (.str ⟨#[61, 53, 67]⟩ 578), (.str ⟨#[61, 53, 68]⟩ 582), (.str ⟨#[61, 53, 69]⟩ 586), (.str ⟨#[61, 53, 70]⟩ 590), (.str ⟨#[61, 54, 48]⟩ 594), (.str ⟨#[61, 54, 49]⟩ 598), (.str ⟨#[61, 54, 50]⟩ 602), (.str ⟨#[61, 54, 51]⟩ 606), (.str ⟨#[61, 54, 52]⟩ 610), (.str ⟨#[61, 54, 53]⟩ 614), (.str ⟨#[61, 54, 54]⟩ 618), (.str ⟨#[61, 54, 55]⟩ 622), (.str ⟨#[61, 54, 56]⟩ 626), (.str ⟨#[61, 54, 57]⟩ 630), (.str ⟨#[61, 54, 65]⟩ 634), (.str ⟨#[61, 54, 66]⟩ 638), (.str ⟨#[61, 54, 67]⟩ 642), (.str ⟨#[61, 54, 68]⟩ 646), (.str ⟨#[61, 54, 69]⟩ 650), (.str ⟨#[61, 54, 70]⟩ 654), (.str ⟨#[61, 55, 48]⟩ 658), (.str ⟨#[61, 55, 49]⟩ 662), (.str ⟨#[61, 55, 50]⟩ 666), (.str ⟨#[61, 55, 51]⟩ 670), (.str ⟨#[61, 55, 52]⟩ 674), (.str ⟨#[61, 55, 53]⟩ 678), (.str ⟨#[61, 55, 54]⟩ 682), (.str ⟨#[61, 55, 55]⟩ 686), (.str ⟨#[61, 55, 56]⟩ 690), (.str ⟨#[61, 55, 57]⟩ 694), (.str ⟨#[61, 55, 65]⟩ 698), (.str ⟨#[61, 55, 66]⟩ 702), (.str ⟨#[61, 55, 67]⟩ 706), (.str ⟨#[61, 55, 68]⟩ 710), (.str ⟨#[61, 55, 69]⟩ 714), (.str ⟨#[61, 55, 70]⟩ 718), (.str ⟨#[61, 56, 48]⟩ 722), (.str ⟨#[61, 56, 49]⟩ 726), (.str ⟨#[61, 56, 50]⟩ 730), (.str ⟨#[61, 56, 51]⟩ 734), (.str ⟨#[61, 56, 52]⟩ 738), (.str ⟨#[61, 56, 53]⟩ 742), (.str ⟨#[61, 56, 54]⟩ 746), (.str ⟨#[61, 56, 55]⟩ 750), (.str ⟨#[61, 56, 56]⟩ 754), (.str ⟨#[61, 56, 57]⟩ 758), (.str ⟨#[61, 56, 65]⟩ 762), (.str ⟨#[61, 56, 66]⟩ 766), (.str ⟨#[61, 56, 67]⟩ 770), (.str ⟨#[61, 56, 68]⟩ 774), (.str ⟨#[61, 56, 69]⟩ 778), (.str ⟨#[61, 56, 70]⟩ 782), (.str ⟨#[61, 57, 48]⟩ 786), (.str ⟨#[61, 57, 49]⟩ 790), (.str ⟨#[61, 57, 50]⟩ 794), (.str ⟨#[61, 57, 51]⟩ 798), (.str ⟨#[61, 57, 52]⟩ 802), (.str ⟨#[61, 57, 53]⟩ 806), (.str ⟨#[61, 57, 54]⟩ 810), (.str ⟨#[61, 57, 55]⟩ 814), (.str ⟨#[61, 57, 56]⟩ 818), (.str ⟨#[61, 57, 57]⟩ 822), (.str ⟨#[61, 57, 65]⟩ 826), (.str ⟨#[61, 57, 66]⟩ 830), (.str ⟨#[61, 57, 67]⟩ 834), (.str ⟨#[61, 57, 68]⟩ 838), (.str ⟨#[61, 57, 69]⟩ 842), (.str ⟨#[61, 57, 70]⟩ 846), (.str ⟨#[61, 65, 48]⟩ 850), (.str ⟨#[61, 65, 49]⟩ 854), (.str ⟨#[61, 65, 50]⟩ 858), (.str ⟨#[61, 65, 51]⟩ 862), (.str ⟨#[61, 65, 52]⟩ 866), (.str ⟨#[61, 65, 53]⟩ 870), (.str ⟨#[61, 65, 54]⟩ 874), (.str ⟨#[61, 65, 55]⟩ 878), (.str ⟨#[61, 65, 56]⟩ 882), (.str ⟨#[61, 65, 57]⟩ 886), (.str ⟨#[61, 65, 65]⟩ 890), (.str ⟨#[61, 65, 66]⟩ 894), (.str ⟨#[61, 65, 67]⟩ 898), (.str ⟨#[61, 65, 68]⟩ 902), (.str ⟨#[61, 65, 69]⟩ 906), (.str ⟨#[61, 65, 70]⟩ 910), (.str ⟨#[61, 66, 48]⟩ 914), (.str ⟨#[61, 66, 49]⟩ 918), (.str ⟨#[61, 66, 50]⟩ 922), (.str ⟨#[61, 66, 51]⟩ 926), (.str ⟨#[61, 66, 52]⟩ 930), (.str ⟨#[61, 66, 53]⟩ 934), (.str ⟨#[61, 66, 54]⟩ 938), (.str ⟨#[61, 66, 55]⟩ 942), (.str ⟨#[61, 66, 56]⟩ 946), (.str ⟨#[61, 66, 57]⟩ 950), (.str ⟨#[61, 66, 65]⟩ 954), (.str ⟨#[61, 66, 66]⟩ 958), (.str ⟨#[61, 66, 67]⟩ 962), (.str ⟨#[61, 66, 68]⟩ 966), (.str ⟨#[61, 66, 69]⟩ 970), (.str ⟨#[61, 66, 70]⟩ 974), (.str ⟨#[61, 67, 48]⟩ 978), (.str ⟨#[61, 67, 49]⟩ 982), (.str ⟨#[61, 67, 50]⟩ 986), (.str ⟨#[61, 67, 51]⟩ 990), (.str ⟨#[61, 67, 52]⟩ 994), (.str ⟨#[61, 67, 53]⟩ 998), (.str ⟨#[61, 67, 54]⟩ 1002), (.str ⟨#[61, 67, 55]⟩ 1006), (.str ⟨#[61, 67, 56]⟩ 1010), (.str ⟨#[61, 67, 57]⟩ 1014), (.str ⟨#[61, 67, 65]⟩ 1018), (.str ⟨#[61, 67, 66]⟩ 1022), (.str ⟨#[61, 67, 67]⟩ 1026), (.str ⟨#[61, 67, 68]⟩ 1030), (.str ⟨#[61, 67, 69]⟩ 1034), (.str ⟨#[61, 67, 70]⟩ 1038), (.str ⟨#[61, 68, 48]⟩ 1042), (.str ⟨#[61, 68, 49]⟩ 1046), (.str ⟨#[61, 68, 50]⟩ 1050), (.str ⟨#[61, 68, 51]⟩ 1054), (.str ⟨#[61, 68, 52]⟩ 1058), (.str ⟨#[61, 68, 53]⟩ 1062), (.str ⟨#[61, 68, 54]⟩ 1066), (.str ⟨#[61, 68, 55]⟩ 1070), (.str ⟨#[61, 68, 56]⟩ 1074), (.str ⟨#[61, 68, 57]⟩ 1078), (.str ⟨#[61, 68, 65]⟩ 1082), (.str ⟨#[61, 68, 66]⟩ 1086), (.str ⟨#[61, 68, 67]⟩ 1090), (.str ⟨#[61, 68, 68]⟩ 1094), (.str ⟨#[61, 68, 69]⟩ 1098), (.str ⟨#[61, 68, 70]⟩ 1102), (.str ⟨#[61, 69, 48]⟩ 1106), (.str ⟨#[61, 69, 49]⟩ 1110), (.str ⟨#[61, 69, 50]⟩ 1114), (.str ⟨#[61, 69, 51]⟩ 1118), (.str ⟨#[61, 69, 52]⟩ 1122), (.str ⟨#[61, 69, 53]⟩ 1126), (.str ⟨#[61, 69, 54]⟩ 1130), (.str ⟨#[61, 69, 55]⟩ 1134), (.str ⟨#[61, 69, 56]⟩ 1138), (.str ⟨#[61, 69, 57]⟩ 1142), (.str ⟨#[61, 69, 65]⟩ 1146), (.str ⟨#[61, 69, 66]⟩ 1150), (.str ⟨#[61, 69, 67]⟩ 1154), (.str ⟨#[61, 69, 68]⟩ 1158), (.str ⟨#[61, 69, 69]⟩ 1162), (.str ⟨#[61, 69, 70]⟩ 1166), (.str ⟨#[61, 70, 48]⟩ 1170), (.str ⟨#[61, 70, 49]⟩ 1174), (.str ⟨#[61, 70, 50]⟩ 1178), (.str ⟨#[61, 70, 51]⟩ 1182), (.str ⟨#[61, 70, 52]⟩ 1186), (.str ⟨#[61, 70, 53]⟩ 1190), (.str ⟨#[61, 70, 54]⟩ 1194), (.str ⟨#[61, 70, 55]⟩ 1198), (.str ⟨#[61, 70, 56]⟩ 1202), (.str ⟨#[61, 70, 57]⟩ 1206), (.str ⟨#[61, 70, 65]⟩ 1210), (.str ⟨#[61, 70, 66]⟩ 1214), (.str ⟨#[61, 70, 67]⟩ 1218), (.str ⟨#[61, 70, 68]⟩ 1222), (.str ⟨#[61, 70, 69]⟩ 1226), (.str ⟨#[61, 70, 70]⟩ 1230)] 0), #[]⟩
noncomputable abbrev tD (P : Params) : BT := (.node (boot_o_0 P) (.node (boot_o_1 P) (.node (oD_3 P) (.node (boot_o_7 P) (.node (oB_15 P) (.node (oD_31 P) .nil .nil) .nil) (.node (oC1_23 P) .nil .nil)) (.node (oA_11 P) (.node (oB_19 P) .nil .nil) (.node (oC2_27 P) .nil .nil))) (.node (boot_o_5 P) (.node (boot_o_9 P) (.node (oB_17 P) .nil .nil) (.node (oC2_25 P) .nil .nil)) (.node (oA_13 P) (.node (oB_21 P) .nil .nil) (.node (oD_29 P) .nil .nil)))) (.node (boot_o_2 P) (.node (boot_o_4 P) (.node (boot_o_8 P) (.node (oB_16 P) (.node (oD_32 P) .nil .nil) .nil) (.node (oC2_24 P) .nil .nil)) (.node (oB_12 P) (.node (oB_20 P) .nil .nil) (.node (oC2_28 P) .nil .nil))) (.node (boot_o_6 P) (.node (boot_o_10 P) (.node (oB_18 P) .nil .nil) (.node (oC_26 P) .nil .nil)) (.node (oA_14 P) (.node (oB_22 P) .nil .nil) (.node (oD_30 P) .nil .nil)))))
noncomputable abbrev SD (w : World) (os : OsState) : SharedT := ⟨tD w.params, 33, ⟨[], [], [], 0, [], [], false, #[], [], 0, false, false, false, 0, [2000, 10, 10], false, 0, true, [], [], 0, false⟩, #[], ⟨0, 0, 0, 0⟩, 1249, os⟩
theorem segD (w : World) (os : OsState) : segRunT treeTable pw w 11 (some (.ref 6)) 1 152 (SC w os) (piecesOf (sts 6 8) envB cB ⟨13, 0, 13, 11⟩ [topFrame qB]) = some (.next, SD w os, cB, ⟨21, 0, 21, 8⟩) := by kernel_rfl
theorem runD (w : World) (os : OsState) : segRun treeTable pw w 11 (some (.ref 6)) 1 152 (SC w os).abs (piecesOf (sts 6 8) envB cB ⟨13, 0, 13, 11⟩ [topFrame qB]) = some (.next, (SD w os).abs, cB, ⟨21, 0, 21, 8⟩) := segRun_of (segD w os)
noncomputable abbrev oE1_33 (P : Params) : Obj := ⟨(.type "bytes_iterator"), none, (.fields #[(.bytes #[45, 33, 42, 43, 47, 97, 98, 99, 100, 101, 102, 103, 104, 105, 106, 107, 108, 109, 110, 111, 112, 113, 114, 115, 116, 117, 118, 119, 120, 121, 122, 65, 66, 67, 68, 69, 70, 71, 72, 73, 74, 75, 76, 77, 78, 79, 80, 81, 82, 83, 84, 85, 86, 87, 88, 89, 90, 48, 49, 50, 51, 52, 53, 54, 55, 56, 57] 1255), (.int 0 0)]), #[]⟩
noncomputable abbrev tE1 (P : Params) : BT := (.node (boot_o_0 P) (.node (boot_o_1 P) (.node (oD_3 P) (.node (boot_o_7 P) (.node (oB_15 P) (.node (oD_31 P) .nil .nil) .nil) (.node (oC1_23 P) .nil .nil)) (.node (oA_11 P) (.node (oB_19 P) .nil .nil) (.node (oC2_27 P) .nil .nil))) (.node (boot_o_5 P) (.node (boot_o_9 P) (.node (oB_17 P) (.node (oE1_33 P) .nil .nil) .nil) (.node (oC2_25 P) .nil .nil)) (.node (oA_13 P) (.node (oB_21 P) .nil .nil) (.node (oD_29 P) .nil .nil)))) (.node (boot_o_2 P) (.node (boot_o_4 P) (.node (boot_o_8 P) (.node (oB_16 P) (.node (oD_32 P) .nil .nil) .nil) (.node (oC2_24 P) .nil .nil)) (.node (oB_12 P) (.node (oB_20 P) .nil .nil) (.node (oC2_28 P) .nil .nil))) (.node (boot_o_6 P) (.node (boot_o_10 P) (.node (oB_18 P) .nil .nil) (.node (oC_26 P) .nil .nil)) (.node (oA_14 P) (.node (oB_22 P) .nil .nil) (.node (oD_30 P) .nil .nil)))))
noncomputable abbrev SE1 (w : World) (os : OsState) : SharedT := ⟨tE1 w.params, 34, ⟨[], [], [], 0, [], [], false, #[], [], 0, false, false, false, 0, [2000, 10, 10], false, 0, true, [], [], 0, false⟩, #[], ⟨0, 0, 0, 0⟩, 1256, os⟩
noncomputable abbrev oE2_3 (P : Params) : Obj := ⟨(.type "dict"), none, (.dict #[⟨(PyData.keyHash P "__name__"), (.str "__name__" 165), (.str "cpy313.email.quoprimime" 1247)⟩, ⟨(PyData.keyHash P "__doc__"), (.str "__doc__" 166), .none⟩, ⟨(PyData.keyHash P "__package__"), (.str "__package__" 167), .none⟩, ⟨(PyData.keyHash P "__loader__"), (.str "__loader__" 168), (.builtin "__main__.__loader__#opaque")⟩, ⟨(PyData.keyHash P "__spec__"), (.str "__spec__" 169), .none⟩, ⟨(PyData.keyHash P "__annotations__"), (.str "__annotations__" 170), (.ref 6)⟩, ⟨(PyData.keyHash P "__builtins__"), (.str "__builtins__" 171), (.ref 4)⟩, ⟨(PyData.keyHash P "__file__"), (.str "__file__" 173), (.str "/claim/cut.py" 172)⟩, ⟨(PyData.keyHash P "__cached__"), (.str "__cached__" 174), .none⟩, ⟨(PyData.keyHash P "_MAX_LENGTH"), (.str "_MAX_LENGTH" 190), (.int 80 189)⟩, ⟨(PyData.keyHash P "safe_repr"), (.str "safe_repr" 199), (.ref 22)⟩, ⟨(PyData.keyHash P "CRLF"), (.str "CRLF" 201), (.str "\x0d\n" 200)⟩, ⟨(PyData.keyHash P "NL"), (.str "NL" 203), (.str "\n" 202)⟩, ⟨(PyData.keyHash P "_QUOPRI_MAP"), (.str "_QUOPRI_MAP" 1231), (.ref 25)⟩, ⟨(PyData.keyHash P "_QUOPRI_HEADER_MAP"), (.str "_QUOPRI_HEADER_MAP" 1232), (.ref 30)⟩, ⟨(PyData.keyHash P "_QUOPRI_BODY_MAP"), (.str "_QUOPRI_BODY_MAP" 1233), (.ref 32)⟩, ⟨(PyData.keyHash P "ascii_lowercase"), (.str "ascii_lowercase" 1235), (.str "abcdefghijklmnopqrstuvwxyz" 1234)⟩, ⟨(PyData.keyHash P "ascii_uppercase"), (.str "ascii_uppercase" 1237), (.str "ABCDEFGHIJKLMNOPQRSTUVWXYZ" 1236)⟩, ⟨(PyData.keyHash P "ascii_letters"), (.str "ascii_letters" 1239), (.str "abcdefghijklmnopqrstuvwxyzABCDEFGHIJKLMNOPQRSTUVWXYZ" 1238)⟩, ⟨(PyData.keyHash P "digits"), (.str "digits" 1241), (.str "0123456789" 1240)⟩, ⟨(PyData.keyHash P "hexdigits"), (.str "hexdigits" 1246), (.str "0123456789abcdefABCDEF" 1245)⟩, ⟨(PyData.keyHash P "c"), (.str "c" 1257), (.int 57 1454)⟩] 22), #[]⟩
noncomputable abbrev oE2_30 (P : Params) : Obj := ⟨(.type "list"), none, (.seq #[(.str ⟨#[61, 48, 48]⟩ 210), (.str ⟨#[61, 48, 49]⟩ 214), (.str ⟨#[61, 48, 50]⟩ 218), (.str ⟨#[61, 48, 51]⟩ 222), (.str ⟨#[61, 48, 52]⟩ 226), (.str ⟨#[61, 48, 53]⟩ 230), (.str ⟨#[61, 48, 54]⟩ 234), (.str ⟨#[61, 48, 55]⟩ 238), (.str ⟨#[61, 48, 56]⟩ 242), (.str ⟨#[61, 48, 57]⟩ 246), (.str ⟨#[61, 48, 65]⟩ 250), (.str ⟨#[61, 48, 66]⟩ 254), (.str ⟨#[61, 48, 67]⟩ 258), (.str ⟨#[61, 48, 68]⟩ 262), (.str ⟨#[61, 48, 69]⟩ 266), (.str ⟨#[61, 48, 70]⟩ 270), (.str ⟨#[61, 49, 48]⟩ 274), (.str ⟨#[61, 49, 49]⟩ 278), (.str ⟨#[61, 49, 50]⟩ 282), (.str ⟨#[61, 49, 51]⟩ 286), (.str ⟨#[61, 49, 52]⟩ 290), (.str ⟨#[61, 49, 53]⟩ 294), (.str ⟨#[61, 49, 54]⟩ 298), (.str ⟨#[61, 49, 55]⟩ 302), (.str ⟨#[61, 49, 56]⟩ 306), (.str ⟨#[61, 49, 57]⟩ 310), (.str ⟨#[61, 49, 65]⟩ 314), (.str ⟨#[61, 49, 66]⟩ 318), (.str ⟨#[61, 49, 67]⟩ 322), (.str ⟨#[61, 49, 68]⟩ 326), (.str ⟨#[61, 49, 69]⟩ 330), (.str ⟨#[61, 49, 70]⟩ 334), (.str ⟨#[61, 50, 48]⟩ 338), (.str ⟨#[33]⟩ 1261), (.str ⟨#[61, 50, 50]⟩ 346), (.str ⟨#[61, 50, 51]⟩ 350), (.str ⟨#[61, 50, 52]⟩ 354), (.str ⟨#[61, 50, 53]⟩ 358), (.str ⟨#[61, 50, 54]⟩ 362), (.str ⟨#[61, 50, 55]⟩ 366), (.str ⟨#[61, 50, 56]⟩ 370), (.str ⟨#[61, 50, 57]⟩ 374), (.str ⟨#[42]⟩ 1264), (.str ⟨#[43]⟩ 1267), (.str ⟨#[61, 50, 67]⟩ 386), (.str ⟨#[45]⟩ 1258), (.str ⟨#[61, 50, 69]⟩ 394), (.str ⟨#[47]⟩ 1270), (.str ⟨#[48]⟩ 1429), (.str ⟨#[49]⟩ 1432), (.str ⟨#[50]⟩ 1435), (.str ⟨#[51]⟩ 1438), (.str ⟨#[52]⟩ 1441), (.str ⟨#[53]⟩ 1444), (.str ⟨#[54]⟩ 1447), (.str ⟨#[55]⟩ 1450), (.str ⟨#[56]⟩ 1453), (.str ⟨#[57]⟩ 1456), (.str ⟨#[61, 51, 65]⟩ 442), (.str ⟨#[61, 51, 66]⟩ 446), (.str ⟨#[61, 51, 67]⟩ 450), (.str ⟨#[61, 51, 68]⟩ 454), (.str ⟨#[61, 51, 69]⟩ 458), (.str ⟨#[61, 51, 70]⟩ 462), (.str ⟨#[61, 52, 48]⟩ 466), (.str ⟨#[65]⟩ 1351), (.str ⟨#[66]⟩ 1354), (.str ⟨#[67]⟩ 1357), (.str ⟨#[68]⟩ 1360), (.str ⟨#[69]⟩ 1363), (.str ⟨#[70]⟩ 1366), (.str ⟨#[71]⟩ 1369), (.str ⟨#[72]⟩ 1372), (.str ⟨#[73]⟩ 1375), (.str ⟨#[74]⟩ 1378), (.str ⟨#[75]⟩ 1381), (.str ⟨#[76]⟩ 1384), (.str ⟨#[77]⟩ 1387), (.str ⟨#[78]⟩ 1390), (.str ⟨#[79]⟩ 1393), (.str ⟨#[80]⟩ 1396), (.str ⟨#[81]⟩ 1399), (.str ⟨#[82]⟩ 1402), (.str ⟨#[83]⟩ 1405), (.str ⟨#[84]⟩ 1408), (.str ⟨#[85]⟩ 1411), (.str ⟨#[86]⟩ 1414), (.str ⟨#[87]⟩ 1417), (.str ⟨#[88]⟩ 1420), (.str ⟨#[89]⟩ 1423), (.str ⟨#[90]⟩ 1426), (.str ⟨#[61, 53, 66]⟩ 574), (.str ⟨#[61, 53, 67]⟩ 578), (.str ⟨#[61, 53, 68]⟩ 582), (.str ⟨#[61, 53, 69]⟩ 586), (.str ⟨#[61, 53, 70]⟩ 590), (.str ⟨#[61, 54, 48]⟩ 594), (.str ⟨#[97]⟩ 1273), (.str ⟨#[98]⟩ 1276), (.str ⟨#[99]⟩ 1279), (.str ⟨#[100]⟩ 1282), (.str ⟨#[101]⟩ 1285), (.str ⟨#[102]⟩ 1288), (.str ⟨#[103]⟩ 1291), (.str ⟨#[104]⟩ 1294), (.str ⟨#[105]⟩ 1297), (.str ⟨#[106]⟩ 1300), (.str ⟨#[107]⟩ 1303), (.str ⟨#[108]⟩ 1306), (.str ⟨#[109]⟩ 1309), (.str ⟨#[110]⟩ 1312), (.str ⟨#[111]⟩ 1315), (.str ⟨#[112]⟩ 1318), (.str ⟨#[113]⟩ 1321), (.str ⟨#[114]⟩ 1324), (.str ⟨#[115]⟩ 1327), (.str ⟨#[116]⟩ 1330), (.str ⟨#[117]⟩ 1333), (.str ⟨#[118]⟩ 1336), (.str ⟨#[119]⟩ 1339), (.str ⟨#[120]⟩ 1342), (.str ⟨#[121]⟩ 1345), (.str ⟨#[122]⟩ 1348), (.str ⟨#[61, 55, 66]⟩ 702), (.str ⟨#[61, 55, 67]⟩ 706), (.str ⟨#[61, 55, 68]⟩ 710), (.str ⟨#[61, 55, 69]⟩ 714), (.str ⟨#[61, 55, 70]⟩ 718), (.str ⟨#[61, 56, 48]⟩ 722), (.str ⟨#[61, 56, 49]⟩ 726), (.str ⟨#[61, 56, 50]⟩ 730), (.str ⟨#[61, 56, 51]⟩ 734), (.str ⟨#[61, 56, 52]⟩ 738), (.str ⟨#[61, 56, 53]⟩ 742), (.str ⟨#[61, 56, 54]⟩ 746), (.str ⟨#[61, 56, 55]⟩ 750), (.str ⟨#[61, 56, 56]⟩ 754), (.str ⟨#[61, 56, 57]⟩ 758), (.str ⟨#[61, 56, 65]⟩ 762), (.str ⟨#[61, 56, 66]⟩ 766), (.str ⟨#[61, 56, 67]⟩ 770), (.str ⟨#[61, 56, 68]⟩ 774), (.str ⟨#[61, 56, 69]⟩ 778), (.str ⟨#[61, 56, 70]⟩ 782), (.str ⟨#[61, 57, 48]⟩ 786), (.str ⟨#[61, 57, 49]⟩ 790), (.str ⟨#[61, 57, 50]⟩ 794), (.str ⟨#[61, 57, 51]⟩ 798), (.str ⟨#[61, 57, 52]⟩ 802), (.str ⟨#[61, 57, 53]⟩ 806), (.str ⟨#[61, 57, 54]⟩ 810), (.str ⟨#[61, 57, 55]⟩ 814), (.str ⟨#[61, 57, 56]⟩ 818), (.str ⟨#[61, 57, 57]⟩ 822), (.str ⟨#[61, 57, 65]⟩ 826), (.str ⟨#[61, 57, 66]⟩ 830), (.str ⟨#[61, 57, 67]⟩ 834), (.str ⟨#[61, 57, 68]⟩ 838), (.str ⟨#[61, 57, 69]⟩ 842), (.str ⟨#[61, 57, 70]⟩ 846), (.str ⟨#[61, 65, 48]⟩ 850), (.str ⟨#[61, 65, 49]⟩ 854), (.str ⟨#[61, 65, 50]⟩ 858), (.str ⟨#[61, 65, 51]⟩ 862), (.str ⟨#[61, 65, 52]⟩ 866), (.str ⟨#[61, 65, 53]⟩ 870), (.str ⟨#[61, 65, 54]⟩ 874), (.str ⟨#[61, 65, 55]⟩ 878), (.str ⟨#[61, 65, 56]⟩ 882), (.str ⟨#[61, 65, 57]⟩ 886), (.str ⟨#[61, 65, 65]⟩ 890), (.str ⟨#[61, 65, 66]⟩ 894), (.str ⟨#[61, 65, 67]⟩ 898), (.str ⟨#[61, 65, 68]⟩ 902), (.str ⟨#[61, 65, 69]⟩ 906), (.str ⟨#[61, 65, 70]⟩ 910), (.str ⟨#[61, 66, 48]⟩ 914), (.str ⟨#[61, 66, 49]⟩ 918), (.str ⟨#[61, 66, 50]⟩ 922), (.str ⟨#[61, 66, 51]⟩ 926), (.str ⟨#[61, 66, 52]⟩ 930), (.str ⟨#[61, 66, 53]⟩ 934), (.str ⟨#[61, 66, 54]⟩ 938), (.str ⟨#[61, 66, 55]⟩ 942), (.str ⟨#[61, 66, 56]⟩ 946), (.str ⟨#[61, 66, 57]⟩ 950), (.str ⟨#[61, 66, 65]⟩ 954), (.str ⟨#[61, 66, 66]⟩ 958), (.str ⟨#[61, 66, 67]⟩ 962), (.str ⟨#[61, 66, 68]⟩ 966), (.str ⟨#[61, 66, 69]⟩ 970), (.str ⟨#[61, 66, 70]⟩ 974), (.str ⟨#[61, 67, 48]⟩ 978), (.str ⟨#[61, 67, 49]⟩ 982), (.str ⟨#[61, 67, 50]⟩ 986), (.str ⟨#[61, 67, 51]⟩ 990), (.str ⟨#[61, 67, 52]⟩ 994), (.str ⟨#[61, 67, 53]⟩ 998), (.str ⟨#[61, 67, 54]⟩ 1002), (.str ⟨#[61, 67, 55]⟩ 1006), (.str ⟨#[61, 67, 56]⟩ 1010), (.str ⟨#[61, 67, 57]⟩ 1014), (.str ⟨#[61, 67, 65]⟩ 1018), (.str ⟨#[61, 67, 66]⟩ 1022), (.str ⟨#[61, 67, 67]⟩ 1026), (.str ⟨#[61, 67, 68]⟩ 1030), (.str ⟨#[61, 67, 69]⟩ 1034), (.str ⟨#[61, 67, 70]⟩ 1038), (.str ⟨#[61, 68, 48]⟩ 1042), (.str ⟨#[61, 68, 49]⟩ 1046), (.str ⟨#[61, 68, 50]⟩ 1050), (.str ⟨#[61, 68, 51]⟩ 1054), (.str ⟨#[61, 68, 52]⟩ 1058), (.str ⟨#[61, 68, 53]⟩ 1062), (.str ⟨#[61, 68, 54]⟩ 1066), (.str ⟨#[61, 68, 55]⟩ 1070), (.str ⟨#[61, 68, 56]⟩ 1074), (.str ⟨#[61, 68, 57]⟩ 1078), (.str ⟨#[61, 68, 65]⟩ 1082), (.str ⟨#[61, 68, 66]⟩ 1086), (.str ⟨#[61, 68, 67]⟩ 1090), (.str ⟨#[61, 68, 68]⟩ 1094), (.str ⟨#[61, 68, 69]⟩ 1098), (.str ⟨#[61, 68, 70]⟩ 1102), (.str ⟨#[61, 69, 48]⟩ 1106), (.str ⟨#[61, 69, 49]⟩ 1110), (.str ⟨#[61, 69, 50]⟩ 1114), (.str ⟨#[61, 69, 51]⟩ 1118), (.str ⟨#[61, 69, 52]⟩ 1122), (.str ⟨#[61, 69, 53]⟩ 1126), (.str ⟨#[61, 69, 54]⟩ 1130), (.str ⟨#[61, 69, 55]⟩ 1134), (.str ⟨#[61, 69, 56]⟩ 1138), (.str ⟨#[61, 69, 57]⟩ 1142), (.str ⟨#[61, 69, 65]⟩ 1146), (.str ⟨#[61, 69, 66]⟩ 1150), (.str ⟨#[61, 69, 67]⟩ 1154), (.str ⟨#[61, 69, 68]⟩ 1158), (.str ⟨#[61, 69, 69]⟩ 1162), (.str ⟨#[61, 69, 70]⟩ 1166), (.str ⟨#[61, 70, 48]⟩ 1170), (.str ⟨#[61, 70, 49]⟩ 1174), (.str ⟨#[61, 70, 50]⟩ 1178), (.str ⟨#[61, 70, 51]⟩ 1182), (.str ⟨#[61, 70, 52]⟩ 1186), (.str ⟨#[61, 70, 53]⟩ 1190), (.str ⟨#[61, 70, 54]⟩ 1194), (.str ⟨#[61, 70, 55]⟩ 1198), (.str ⟨#[61, 70, 56]⟩ 1202), (.str ⟨#[61, 70, 57]⟩ 1206), (.str ⟨#[61, 70, 65]⟩ 1210), (.str ⟨#[61, 70, 66]⟩ 1214), (.str ⟨#[61, 70, 67]⟩ 1218), (.str ⟨#[61, 70, 68]⟩ 1222), (.str ⟨#[61, 70, 69]⟩ 1226), (.str ⟨#[61, 70, 70]⟩ 1230)] 0), #[]⟩
noncomputable abbrev oE2_33 (P : Params) : Obj := ⟨(.type "bytes_iterator"), none, (.fields #[.none, (.int 67 0)]), #[]⟩
noncomputable abbrev oE2_34 (P : Params) : Obj := ⟨(.type "tuple"), none, (.seq #[] 0), #[]⟩
noncomputable abbrev oE2_35 (P : Params) : Obj := ⟨(.type "StopIteration"), none, (.fields #[(.ref 34), .none, .none, .none, (.bool false), .none]), #[]⟩
noncomputable abbrev tE2 (P : Params) : BT := (.node (boot_o_0 P) (.node (boot_o_1 P) (.node (oE2_3 P) (.node (boot_o_7 P) (.node (oB_15 P) (.node (oD_31 P) .nil .nil) .nil) (.node (oC1_23 P) .nil .nil)) (.node (oA_11 P) (.node (oB_19 P) (.node (oE2_35 P) .nil .nil) .nil) (.node (oC2_27 P) .nil .nil))) (.node (boot_o_5 P) (.node (boot_o_9 P) (.node (oB_17 P) (.node (oE2_33 P) .nil .nil) .nil) (.node (oC2_25 P) .nil .nil)) (.node (oA_13 P) (.node (oB_21 P) .nil .nil) (.node (oD_29 P) .nil .nil)))) (.node (boot_o_2 P) (.node (boot_o_4 P) (.node (boot_o_8 P) (.node (oB_16 P) (.node (oD_32 P) .nil .nil) .nil) (.node (oC2_24 P) .nil .nil)) (.node (oB_12 P) (.node (oB_20 P) .nil .nil) (.node (oC2_28 P) .nil .nil))) (.node (boot_o_6 P) (.node (boot_o_10 P) (.node (oB_18 P) (.node (oE2_34 P) .nil .nil) .nil) (.node (oC_26 P) .nil .nil)) (.node (oA_14 P) (.node (oB_22 P) .nil .nil) (.node (oE2_30 P) .nil .nil)))))
noncomputable abbrev SE2 (w : World) (os : OsState) : SharedT := ⟨tE2 w.params, 36, ⟨[], [], [], 0, [], [], false, #[], [], 0, false, false, false, 0, [2000, 10, 10], false, 0, true, [], [], 0, false⟩, #[], ⟨0, 0, 0, 0⟩, 1457, os⟩
noncomputable abbrev tE (P : Params) : BT := (.node (boot_o_0 P) (.node (boot_o_1 P) (.node (oE2_3 P) (.node (boot_o_7 P) (.node (oB_15 P) (.node (oD_31 P) .nil .nil) .nil) (.node (oC1_23 P) .nil .nil)) (.node (oA_11 P) (.node (oB_19 P) (.node (oE2_35 P) .nil .nil) .nil) (.node (oC2_27 P) .nil .nil))) (.node (boot_o_5 P) (.node (boot_o_9 P) (.node (oB_17 P) (.node (oE2_33 P) .nil .nil) .nil) (.node (oC2_25 P) .nil .nil)) (.node (oA_13 P) (.node (oB_21 P) .nil .nil) (.node (oD_29 P) .nil .nil)))) (.node (boot_o_2 P) (.node (boot_o_4 P) (.node (boot_o_8 P) (.node (oB_16 P) (.node (oD_32 P) .nil .nil) .nil) (.node (oC2_24 P) .nil .nil)) (.node (oB_12 P) (.node (oB_20 P) .nil .nil) (.node (oC2_28 P) .nil .nil))) (.node (boot_o_6 P) (.node (boot_o_10 P) (.node (oB_18 P) (.node (oE2_34 P) .nil .nil) .nil) (.node (oC_26 P) .nil .nil)) (.node (oA_14 P) (.node (oB_22 P) .nil .nil) (.node (oE2_30 P) .nil .nil)))))
noncomputable abbrev SE (w : World) (os : OsState) : SharedT := ⟨tE w.params, 36, ⟨[], [], [], 0, [], [], false, #[], [], 0, false, false, false, 0, [2000, 10, 10], false, 0, true, [], [], 0, false⟩, #[], ⟨0, 0, 0, 0⟩, 1457, os⟩
noncomputable def LE : Code := (loopAt 14 (.ref 33))
theorem mainE (w : World) (os : OsState) (k : Result → Sem Fin) : segGoT treeTable pw w 11 (some (.ref 6)) 1 3032 (SE1 w os) ⟨denote treeTable LE, LE, ⟨22, 9, 22, 74⟩, [.ret k none false [] cB ⟨22, 9, 22, 74⟩ [], topFrame qB]⟩ = some (SE2 w os, ⟨k (.ok .next), cB, ⟨22, 9, 22, 74⟩, [topFrame qB]⟩) := by kernel_rfl
theorem preEf (w : World) (os : OsState) : (segGoT treeTable pw (w.withFollow "special-get-raises" false) 11 (some (.ref 6)) 1 44 (SD (w.withFollow "special-get-raises" false) os) (piecesOf (sts 14 1) envB cB ⟨21, 0, 21, 8⟩ [topFrame qB])) = some (SE1 (w.withFollow "special-get-raises" false) os, ⟨denote treeTable LE, LE, ⟨22, 9, 22, 74⟩, [.ret (kOf (segGoT treeTable pw (w.withFollow "special-get-raises" false) 11 (some (.ref 6)) 1 44 (SD (w.withFollow "special-get-raises" false) os) (piecesOf (sts 14 1) envB cB ⟨21, 0, 21, 8⟩ [topFrame qB]))) none false [] cB ⟨22, 9, 22, 74⟩ [], topFrame qB]⟩) := by kernel_rfl
theorem sufEf (w : World) (os : OsState) : segRunT treeTable pw (w.withFollow "special-get-raises" false) 11 (some (.ref 6)) 1 20 (SE2 (w.withFollow "special-get-raises" false) os) ⟨kOf (segGoT treeTable pw (w.withFollow "special-get-raises" false) 11 (some (.ref 6)) 1 44 (SD (w.withFollow "special-get-raises" false) os) (piecesOf (sts 14 1) envB cB ⟨21, 0, 21, 8⟩ [topFrame qB])) (.ok .next), cB, ⟨22, 9, 22, 74⟩, [topFrame qB]⟩ = some (.next, SE (w.withFollow "special-get-raises" false) os, cB, ⟨22, 9, 22, 74⟩) := by kernel_rfl
theorem segEf (w : World) (os : OsState) : segRun treeTable pw (w.withFollow "special-get-raises" false) 11 (some (.ref 6)) 1 3096 (SD (w.withFollow "special-get-raises" false) os).abs (piecesOf (sts 14 1) envB cB ⟨21, 0, 21, 8⟩ [topFrame qB]) = some (.next, (SE (w.withFollow "special-get-raises" false) os).abs, cB, ⟨22, 9, 22, 74⟩) :=
  seg_go (n := 44) (N := 3052) (segGo_of (preEf w os)) (seg_go (n := 3032) (N := 20) (segGo_of (mainE (w.withFollow "special-get-raises" false) os _)) (segRun_of (sufEf w os)))
theorem preEt (w : World) (os : OsState) : (segGoT treeTable pw (w.withFollow "special-get-raises" true) 11 (some (.ref 6)) 1 44 (SD (w.withFollow "special-get-raises" true) os) (piecesOf (sts 14 1) envB cB ⟨21, 0, 21, 8⟩ [topFrame qB])) = some (SE1 (w.withFollow "special-get-raises" true) os, ⟨denote treeTable LE, LE, ⟨22, 9, 22, 74⟩, [.ret (kOf (segGoT treeTable pw (w.withFollow "special-get-raises" true) 11 (some (.ref 6)) 1 44 (SD (w.withFollow "special-get-raises" true) os) (piecesOf (sts 14 1) envB cB ⟨21, 0, 21, 8⟩ [topFrame qB]))) none false [] cB ⟨22, 9, 22, 74⟩ [], topFrame qB]⟩) := by kernel_rfl
theorem sufEt (w : World) (os : OsState) : segRunT treeTable pw (w.withFollow "special-get-raises" true) 11 (some (.ref 6)) 1 20 (SE2 (w.withFollow "special-get-raises" true) os) ⟨kOf (segGoT treeTable pw (w.withFollow "special-get-raises" true) 11 (some (.ref 6)) 1 44 (SD (w.withFollow "special-get-raises" true) os) (piecesOf (sts 14 1) envB cB ⟨21, 0, 21, 8⟩ [topFrame qB])) (.ok .next), cB, ⟨22, 9, 22, 74⟩, [topFrame qB]⟩ = some (.next, SE (w.withFollow "special-get-raises" true) os, cB, ⟨22, 9, 22, 74⟩) := by kernel_rfl
theorem segEt (w : World) (os : OsState) : segRun treeTable pw (w.withFollow "special-get-raises" true) 11 (some (.ref 6)) 1 3096 (SD (w.withFollow "special-get-raises" true) os).abs (piecesOf (sts 14 1) envB cB ⟨21, 0, 21, 8⟩ [topFrame qB]) = some (.next, (SE (w.withFollow "special-get-raises" true) os).abs, cB, ⟨22, 9, 22, 74⟩) :=
  seg_go (n := 44) (N := 3052) (segGo_of (preEt w os)) (seg_go (n := 3032) (N := 20) (segGo_of (mainE (w.withFollow "special-get-raises" true) os _)) (segRun_of (sufEt w os)))
theorem runE (w : World) (os : OsState) : segRun treeTable pw w 11 (some (.ref 6)) 1 3096 (SD w os).abs (piecesOf (sts 14 1) envB cB ⟨21, 0, 21, 8⟩ [topFrame qB]) = some (.next, (SE w os).abs, cB, ⟨22, 9, 22, 74⟩) :=
  byRow2 "special-get-raises" (P := fun w => segRun treeTable pw w 11 (some (.ref 6)) 1 3096 (SD w os).abs (piecesOf (sts 14 1) envB cB ⟨21, 0, 21, 8⟩ [topFrame qB]) = some (.next, (SE w os).abs, cB, ⟨22, 9, 22, 74⟩)) (fun w => segEf w os) (fun w => segEt w os) w
noncomputable abbrev oF_30 (P : Params) : Obj := ⟨(.type "list"), none, (.seq #[(.str ⟨#[61, 48, 48]⟩ 210), (.str ⟨#[61, 48, 49]⟩ 214), (.str ⟨#[61, 48, 50]⟩ 218), (.str ⟨#[61, 48, 51]⟩ 222), (.str ⟨#[61, 48, 52]⟩ 226), (.str ⟨#[61, 48, 53]⟩ 230), (.str ⟨#[61, 48, 54]⟩ 234), (.str ⟨#[61, 48, 55]⟩ 238), (.str ⟨#[61, 48, 56]⟩ 242), (.str ⟨#[61, 48, 57]⟩ 246), (.str ⟨#[61, 48, 65]⟩ 250), (.str ⟨#[61, 48, 66]⟩ 254), (.str ⟨#[61, 48, 67]⟩ 258), (.str ⟨#[61, 48, 68]⟩ 262), (.str ⟨#[61, 48, 69]⟩ 266), (.str ⟨#[61, 48, 70]⟩ 270), (.str ⟨#[61, 49, 48]⟩ 274), (.str ⟨#[61, 49, 49]⟩ 278), (.str ⟨#[61, 49, 50]⟩ 282), (.str ⟨#[61, 49, 51]⟩ 286), (.str ⟨#[61, 49, 52]⟩ 290), (.str ⟨#[61, 49, 53]⟩ 294), (.str ⟨#[61, 49, 54]⟩ 298), (.str ⟨#[61, 49, 55]⟩ 302), (.str ⟨#[61, 49, 56]⟩ 306), (.str ⟨#[61, 49, 57]⟩ 310), (.str ⟨#[61, 49, 65]⟩ 314), (.str ⟨#[61, 49, 66]⟩ 318), (.str ⟨#[61, 49, 67]⟩ 322), (.str ⟨#[61, 49, 68]⟩ 326), (.str ⟨#[61, 49, 69]⟩ 330), (.str ⟨#[61, 49, 70]⟩ 334), (.str ⟨#[95]⟩ 1457), (.str ⟨#[33]⟩ 1261), (.str ⟨#[61, 50, 50]⟩ 346), (.str ⟨#[61, 50, 51]⟩ 350), (.str ⟨#[61, 50, 52]⟩ 354), (.str ⟨#[61, 50, 53]⟩ 358), (.str ⟨#[61, 50, 54]⟩ 362), (.str ⟨#[61, 50, 55]⟩ 366), (.str ⟨#[61, 50, 56]⟩ 370), (.str ⟨#[61, 50, 57]⟩ 374), (.str ⟨#[42]⟩ 1264), (.str ⟨#[43]⟩ 1267), (.str ⟨#[61, 50, 67]⟩ 386), (.str ⟨#[45]⟩ 1258), (.str ⟨#[61, 50, 69]⟩ 394), (.str ⟨#[47]⟩ 1270), (.str ⟨#[48]⟩ 1429), (.str ⟨#[49]⟩ 1432), (.str ⟨#[50]⟩ 1435), (.str ⟨#[51]⟩ 1438), (.str ⟨#[52]⟩ 1441), (.str ⟨#[53]⟩ 1444), (.str ⟨#[54]⟩ 1447), (.str ⟨#[55]⟩ 1450), (.str ⟨#[56]⟩ 1453), (.str ⟨#[57]⟩ 1456), (.str ⟨#[61, 51, 65]⟩ 442), (.str ⟨#[61, 51, 66]⟩ 446), (.str ⟨#[61, 51, 67]⟩ 450), (.str ⟨#[61, 51, 68]⟩ 454), (.str ⟨#[61, 51, 69]⟩ 458), (.str ⟨#[61, 51, 70]⟩ 462), (.str ⟨#[61, 52, 48]⟩ 466), (.str ⟨#[65]⟩ 1351), (.str ⟨#[66]⟩ 1354), (.str ⟨#[67]⟩ 1357), (.str ⟨#[68]⟩ 1360), (.str ⟨#[69]⟩ 1363), (.str ⟨#[70]⟩ 1366), (.str ⟨#[71]⟩ 1369), (.str ⟨#[72]⟩ 1372), (.str ⟨#[73]⟩ 1375), (.str ⟨#[74]⟩ 1378), (.str ⟨#[75]⟩ 1381), (.str ⟨#[76]⟩ 1384), (.str ⟨#[77]⟩ 1387), (.str ⟨#[78]⟩ 1390), (.str ⟨#[79]⟩ 1393), (.str ⟨#[80]⟩ 1396), (.str ⟨#[81]⟩ 1399), (.str ⟨#[82]⟩ 1402), (.str ⟨#[83]⟩ 1405), (.str ⟨#[84]⟩ 1408), (.str ⟨#[85]⟩ 1411), (.str ⟨#[86]⟩ 1414), (.str ⟨#[87]⟩ 1417), (.str ⟨#[88]⟩ 1420), (.str ⟨#[89]⟩ 1423), (.str ⟨#[90]⟩ 1426), (.str ⟨#[61, 53, 66]⟩ 574), (.str ⟨#[61, 53, 67]⟩ 578), (.str ⟨#[61, 53, 68]⟩ 582), (.str ⟨#[61, 53, 69]⟩ 586), (.str ⟨#[61, 53, 70]⟩ 590), (.str ⟨#[61, 54, 48]⟩ 594), (.str ⟨#[97]⟩ 1273), (.str ⟨#[98]⟩ 1276), (.str ⟨#[99]⟩ 1279), (.str ⟨#[100]⟩ 1282), (.str ⟨#[101]⟩ 1285), (.str ⟨#[102]⟩ 1288), (.str ⟨#[103]⟩ 1291), (.str ⟨#[104]⟩ 1294), (.str ⟨#[105]⟩ 1297), (.str ⟨#[106]⟩ 1300), (.str ⟨#[107]⟩ 1303), (.str ⟨#[108]⟩ 1306), (.str ⟨#[109]⟩ 1309), (.str ⟨#[110]⟩ 1312), (.str ⟨#[111]⟩ 1315), (.str ⟨#[112]⟩ 1318), (.str ⟨#[113]⟩ 1321), (.str ⟨#[114]⟩ 1324), (.str ⟨#[115]⟩ 1327), (.str ⟨#[116]⟩ 1330), (.str ⟨#[117]⟩ 1333), (.str ⟨#[118]⟩ 1336), (.str ⟨#[119]⟩ 1339), (.str ⟨#[120]⟩ 1342), (.str ⟨#[121]⟩ 1345), (.str ⟨#[122]⟩ 1348), (.str ⟨#[61, 55, 66]⟩ 702), (.str ⟨#[61, 55, 67]⟩ 706), (.str ⟨#[61, 55, 68]⟩ 710), (.str ⟨#[61, 55, 69]⟩ 714), (.str ⟨#[61, 55, 70]⟩ 718), (.str ⟨#[61, 56, 48]⟩ 722), (.str ⟨#[61, 56, 49]⟩ 726), (.str ⟨#[61, 56, 50]⟩ 730), (.str ⟨#[61, 56, 51]⟩ 734), (.str ⟨#[61, 56, 52]⟩ 738), (.str ⟨#[61, 56, 53]⟩ 742), (.str ⟨#[61, 56, 54]⟩ 746), (.str ⟨#[61, 56, 55]⟩ 750), (.str ⟨#[61, 56, 56]⟩ 754), (.str ⟨#[61, 56, 57]⟩ 758), (.str ⟨#[61, 56, 65]⟩ 762), (.str ⟨#[61, 56, 66]⟩ 766), (.str ⟨#[61, 56, 67]⟩ 770), (.str ⟨#[61, 56, 68]⟩ 774), (.str ⟨#[61, 56, 69]⟩ 778), (.str ⟨#[61, 56, 70]⟩ 782), (.str ⟨#[61, 57, 48]⟩ 786), (.str ⟨#[61, 57, 49]⟩ 790), (.str ⟨#[61, 57, 50]⟩ 794), (.str ⟨#[61, 57, 51]⟩ 798), (.str ⟨#[61, 57, 52]⟩ 802), (.str ⟨#[61, 57, 53]⟩ 806), (.str ⟨#[61, 57, 54]⟩ 810), (.str ⟨#[61, 57, 55]⟩ 814), (.str ⟨#[61, 57, 56]⟩ 818), (.str ⟨#[61, 57, 57]⟩ 822), (.str ⟨#[61, 57, 65]⟩ 826), (.str ⟨#[61, 57, 66]⟩ 830), (.str ⟨#[61, 57, 67]⟩ 834), (.str ⟨#[61, 57, 68]⟩ 838), (.str ⟨#[61, 57, 69]⟩ 842), (.str ⟨#[61, 57, 70]⟩ 846), (.str ⟨#[61, 65, 48]⟩ 850), (.str ⟨#[61, 65, 49]⟩ 854), (.str ⟨#[61, 65, 50]⟩ 858), (.str ⟨#[61, 65, 51]⟩ 862), (.str ⟨#[61, 65, 52]⟩ 866), (.str ⟨#[61, 65, 53]⟩ 870), (.str ⟨#[61, 65, 54]⟩ 874), (.str ⟨#[61, 65, 55]⟩ 878), (.str ⟨#[61, 65, 56]⟩ 882), (.str ⟨#[61, 65, 57]⟩ 886), (.str ⟨#[61, 65, 65]⟩ 890), (.str ⟨#[61, 65, 66]⟩ 894), (.str ⟨#[61, 65, 67]⟩ 898), (.str ⟨#[61, 65, 68]⟩ 902), (.str ⟨#[61, 65, 69]⟩ 906), (.str ⟨#[61, 65, 70]⟩ 910), (.str ⟨#[61, 66, 48]⟩ 914), (.str ⟨#[61, 66, 49]⟩ 918), (.str ⟨#[61, 66, 50]⟩ 922), (.str ⟨#[61, 66, 51]⟩ 926), (.str ⟨#[61, 66, 52]⟩ 930), (.str ⟨#[61, 66, 53]⟩ 934), (.str ⟨#[61, 66, 54]⟩ 938), (.str ⟨#[61, 66, 55]⟩ 942), (.str ⟨#[61, 66, 56]⟩ 946), (.str ⟨#[61, 66, 57]⟩ 950), (.str ⟨#[61, 66, 65]⟩ 954), (.str ⟨#[61, 66, 66]⟩ 958), (.str ⟨#[61, 66, 67]⟩ 962), (.str ⟨#[61, 66, 68]⟩ 966), (.str ⟨#[61, 66, 69]⟩ 970), (.str ⟨#[61, 66, 70]⟩ 974), (.str ⟨#[61, 67, 48]⟩ 978), (.str ⟨#[61, 67, 49]⟩ 982), (.str ⟨#[61, 67, 50]⟩ 986), (.str ⟨#[61, 67, 51]⟩ 990), (.str ⟨#[61, 67, 52]⟩ 994), (.str ⟨#[61, 67, 53]⟩ 998), (.str ⟨#[61, 67, 54]⟩ 1002), (.str ⟨#[61, 67, 55]⟩ 1006), (.str ⟨#[61, 67, 56]⟩ 1010), (.str ⟨#[61, 67, 57]⟩ 1014), (.str ⟨#[61, 67, 65]⟩ 1018), (.str ⟨#[61, 67, 66]⟩ 1022), (.str ⟨#[61, 67, 67]⟩ 1026), (.str ⟨#[61, 67, 68]⟩ 1030), (.str ⟨#[61, 67, 69]⟩ 1034), (.str ⟨#[61, 67, 70]⟩ 1038), (.str ⟨#[61, 68, 48]⟩ 1042), (.str ⟨#[61, 68, 49]⟩ 1046), (.str ⟨#[61, 68, 50]⟩ 1050), (.str ⟨#[61, 68, 51]⟩ 1054), (.str ⟨#[61, 68, 52]⟩ 1058), (.str ⟨#[61, 68, 53]⟩ 1062), (.str ⟨#[61, 68, 54]⟩ 1066), (.str ⟨#[61, 68, 55]⟩ 1070), (.str ⟨#[61, 68, 56]⟩ 1074), (.str ⟨#[61, 68, 57]⟩ 1078), (.str ⟨#[61, 68, 65]⟩ 1082), (.str ⟨#[61, 68, 66]⟩ 1086), (.str ⟨#[61, 68, 67]⟩ 1090), (.str ⟨#[61, 68, 68]⟩ 1094), (.str ⟨#[61, 68, 69]⟩ 1098), (.str ⟨#[61, 68, 70]⟩ 1102), (.str ⟨#[61, 69, 48]⟩ 1106), (.str ⟨#[61, 69, 49]⟩ 1110), (.str ⟨#[61, 69, 50]⟩ 1114), (.str ⟨#[61, 69, 51]⟩ 1118), (.str ⟨#[61, 69, 52]⟩ 1122), (.str ⟨#[61, 69, 53]⟩ 1126), (.str ⟨#[61, 69, 54]⟩ 1130), (.str ⟨#[61, 69, 55]⟩ 1134), (.str ⟨#[61, 69, 56]⟩ 1138), (.str ⟨#[61, 69, 57]⟩ 1142), (.str ⟨#[61, 69, 65]⟩ 1146), (.str ⟨#[61, 69, 66]⟩ 1150), (.str ⟨#[61, 69, 67]⟩ 1154), (.str ⟨#[61, 69, 68]⟩ 1158), (.str ⟨#[61, 69, 69]⟩ 1162), (.str ⟨#[61, 69, 70]⟩ 1166), (.str ⟨#[61, 70, 48]⟩ 1170), (.str ⟨#[61, 70, 49]⟩ 1174), (.str ⟨#[61, 70, 50]⟩ 1178), (.str ⟨#[61, 70, 51]⟩ 1182), (.str ⟨#[61, 70, 52]⟩ 1186), (.str ⟨#[61, 70, 53]⟩ 1190), (.str ⟨#[61, 70, 54]⟩ 1194), (.str ⟨#[61, 70, 55]⟩ 1198), (.str ⟨#[61, 70, 56]⟩ 1202), (.str ⟨#[61, 70, 57]⟩ 1206), (.str ⟨#[61, 70, 65]⟩ 1210), (.str ⟨#[61, 70, 66]⟩ 1214), (.str ⟨#[61, 70, 67]⟩ 1218), (.str ⟨#[61, 70, 68]⟩ 1222), (.str ⟨#[61, 70, 69]⟩ 1226), (.str ⟨#[61, 70, 70]⟩ 1230)] 0), #[]⟩
noncomputable abbrev tF (P : Params) : BT := (.node (boot_o_0 P) (.node (boot_o_1 P) (.node (oE2_3 P) (.node (boot_o_7 P) (.node (oB_15 P) (.node (oD_31 P) .nil .nil) .nil) (.node (oC1_23 P) .nil .nil)) (.node (oA_11 P) (.node (oB_19 P) (.node (oE2_35 P) .nil .nil) .nil) (.node (oC2_27 P) .nil .nil))) (.node (boot_o_5 P) (.node (boot_o_9 P) (.node (oB_17 P) (.node (oE2_33 P) .nil .nil) .nil) (.node (oC2_25 P) .nil .nil)) (.node (oA_13 P) (.node (oB_21 P) .nil .nil) (.node (oD_29 P) .nil .nil)))) (.node (boot_o_2 P) (.node (boot_o_4 P) (.node (boot_o_8 P) (.node (oB_16 P) (.node (oD_32 P) .nil .nil) .nil) (.node (oC2_24 P) .nil .nil)) (.node (oB_12 P) (.node (oB_20 P) .nil .nil) (.node (oC2_28 P) .nil .nil))) (.node (boot_o_6 P) (.node (boot_o_10 P) (.node (oB_18 P) (.node (oE2_34 P) .nil .nil) .nil) (.node (oC_26 P) .nil .nil)) (.node (oA_14 P) (.node (oB_22 P) .nil .nil) (.node (oF_30 P) .nil .nil)))))
noncomputable abbrev SF (w : World) (os : OsState) : SharedT := ⟨tF w.params, 36, ⟨[], [], [], 0, [], [], false, #[], [], 0, false, false, false, 0, [2000, 10, 10], false, 0, true, [], [], 0, false⟩, #[], ⟨0, 0, 0, 0⟩, 1460, os⟩
theorem segF (w : World) (os : OsState) : segRunT treeTable pw w 11 (some (.ref 6)) 1 44 (SE w os) (piecesOf (sts 15 1) envB cB ⟨22, 9, 22, 74⟩ [topFrame qB]) = some (.next, SF w os, cB, ⟨24, 0, 24, 28⟩) := by kernel_rfl
theorem runF (w : World) (os : OsState) : segRun treeTable pw w 11 (some (.ref 6)) 1 44 (SE w os).abs (piecesOf (sts 15 1) envB cB ⟨22, 9, 22, 74⟩ [topFrame qB]) = some (.next, (SF w os).abs, cB, ⟨24, 0, 24, 28⟩) := segRun_of (segF w os)
noncomputable abbrev oG1_36 (P : Params) : Obj := ⟨(.type "bytes_iterator"), none, (.fields #[(.bytes #[32, 33, 34, 35, 36, 37, 38, 39, 40, 41, 42, 43, 44, 45, 46, 47, 48, 49, 50, 51, 52, 53, 54, 55, 56, 57, 58, 59, 60, 62, 63, 64, 65, 66, 67, 68, 69, 70, 71, 72, 73, 74, 75, 76, 77, 78, 79, 80, 81, 82, 83, 84, 85, 86, 87, 88, 89, 90, 91, 92, 93, 94, 95, 96, 97, 98, 99, 100, 101, 102, 103, 104, 105, 106, 107, 108, 109, 110, 111, 112, 113, 114, 115, 116, 117, 118, 119, 120, 121, 122, 123, 124, 125, 126, 9] 1460), (.int 0 0)]), #[]⟩
noncomputable abbrev tG1 (P : Params) : BT := (.node (boot_o_0 P) (.node (boot_o_1 P) (.node (oE2_3 P) (.node (boot_o_7 P) (.node (oB_15 P) (.node (oD_31 P) .nil .nil) .nil) (.node (oC1_23 P) .nil .nil)) (.node (oA_11 P) (.node (oB_19 P) (.node (oE2_35 P) .nil .nil) .nil) (.node (oC2_27 P) .nil .nil))) (.node (boot_o_5 P) (.node (boot_o_9 P) (.node (oB_17 P) (.node (oE2_33 P) .nil .nil) .nil) (.node (oC2_25 P) .nil .nil)) (.node (oA_13 P) (.node (oB_21 P) .nil .nil) (.node (oD_29 P) .nil .nil)))) (.node (boot_o_2 P) (.node (boot_o_4 P) (.node (boot_o_8 P) (.node (oB_16 P) (.node (oD_32 P) .nil .nil) .nil) (.node (oC2_24 P) .nil .nil)) (.node (oB_12 P) (.node (oB_20 P) (.node (oG1_36 P) .nil .nil) .nil) (.node (oC2_28 P) .nil .nil))) (.node (boot_o_6 P) (.node (boot_o_10 P) (.node (oB_18 P) (.node (oE2_34 P) .nil .nil) .nil) (.node (oC_26 P) .nil .nil)) (.node (oA_14 P) (.node (oB_22 P) .nil .nil) (.node (oF_30 P) .nil .nil)))))
noncomputable abbrev SG1 (w : World) (os : OsState) : SharedT := ⟨tG1 w.params, 37, ⟨[], [], [], 0, [], [], false, #[], [], 0, false, false, false, 0, [2000, 10, 10], false, 0, true, [], [], 0, false⟩, #[], ⟨0, 0, 0, 0⟩, 1461, os⟩
noncomputable abbrev oG2_3 (P : Params) : Obj := ⟨(.type "dict"), none, (.dict #[⟨(PyData.keyHash P "__name__"), (.str "__name__" 165), (.str "cpy313.email.quoprimime" 1247)⟩, ⟨(PyData.keyHash P "__doc__"), (.str "__doc__" 166), .none⟩, ⟨(PyData.keyHash P "__package__"), (.str "__package__" 167), .none⟩, ⟨(PyData.keyHash P "__loader__"), (.str "__loader__" 168), (.builtin "__main__.__loader__#opaque")⟩, ⟨(PyData.keyHash P "__spec__"), (.str "__spec__" 169), .none⟩, ⟨(PyData.keyHash P "__annotations__"), (.str "__annotations__" 170), (.ref 6)⟩, ⟨(PyData.keyHash P "__builtins__"), (.str "__builtins__" 171), (.ref 4)⟩, ⟨(PyData.keyHash P "__file__"), (.str "__file__" 173), (.str "/claim/cut.py" 172)⟩, ⟨(PyData.keyHash P "__cached__"), (.str "__cached__" 174), .none⟩, ⟨(PyData.keyHash P "_MAX_LENGTH"), (.str "_MAX_LENGTH" 190), (.int 80 189)⟩, ⟨(PyData.keyHash P "safe_repr"), (.str "safe_repr" 199), (.ref 22)⟩, ⟨(PyData.keyHash P "CRLF"), (.str "CRLF" 201), (.str "\x0d\n" 200)⟩, ⟨(PyData.keyHash P "NL"), (.str "NL" 203), (.str "\n" 202)⟩, ⟨(PyData.keyHash P "_QUOPRI_MAP"), (.str "_QUOPRI_MAP" 1231), (.ref 25)⟩, ⟨(PyData.keyHash P "_QUOPRI_HEADER_MAP"), (.str "_QUOPRI_HEADER_MAP" 1232), (.ref 30)⟩, ⟨(PyData.keyHash P "_QUOPRI_BODY_MAP"), (.str "_QUOPRI_BODY_MAP" 1233), (.ref 32)⟩, ⟨(PyData.keyHash P "ascii_lowercase"), (.str "ascii_lowercase" 1235), (.str "abcdefghijklmnopqrstuvwxyz" 1234)⟩, ⟨(PyData.keyHash P "ascii_uppercase"), (.str "ascii_uppercase" 1237), (.str "ABCDEFGHIJKLMNOPQRSTUVWXYZ" 1236)⟩, ⟨(PyData.keyHash P "ascii_letters"), (.str "ascii_letters" 1239), (.str "abcdefghijklmnopqrstuvwxyzABCDEFGHIJKLMNOPQRSTUVWXYZ" 1238)⟩, ⟨(PyData.keyHash P "digits"), (.str "digits" 1241), (.str "0123456789" 1240)⟩, ⟨(PyData.keyHash P "hexdigits"), (.str "hexdigits" 1246), (.str "0123456789abcdefABCDEF" 1245)⟩, ⟨(PyData.keyHash P "c"), (.str "c" 1257), (.int 9 1743)⟩] 22), #[]⟩
noncomputable abbrev oG2_32 (P : Params) : Obj := ⟨(.type "list"), none, (.seq #[(.str ⟨#[61, 48, 48]⟩ 210), (.str ⟨#[61, 48, 49]⟩ 214), (.str ⟨#[61, 48, 50]⟩ 218), (.str ⟨#[61, 48, 51]⟩ 222), (.str ⟨#[61, 48, 52]⟩ 226), (.str ⟨#[61, 48, 53]⟩ 230), (.str ⟨#[61, 48, 54]⟩ 234), (.str ⟨#[61, 48, 55]⟩ 238), (.str ⟨#[61, 48, 56]⟩ 242), (.str ⟨#[9]⟩ 1745), (.str ⟨#[61, 48, 65]⟩ 250), (.str ⟨#[61, 48, 66]⟩ 254), (.str ⟨#[61, 48, 67]⟩ 258), (.str ⟨#[61, 48, 68]⟩ 262), (.str ⟨#[61, 48, 69]⟩ 266), (.str ⟨#[61, 48, 70]⟩ 270), (.str ⟨#[61, 49, 48]⟩ 274), (.str ⟨#[61, 49, 49]⟩ 278), (.str ⟨#[61, 49, 50]⟩ 282), (.str ⟨#[61, 49, 51]⟩ 286), (.str ⟨#[61, 49, 52]⟩ 290), (.str ⟨#[61, 49, 53]⟩ 294), (.str ⟨#[61, 49, 54]⟩ 298), (.str ⟨#[61, 49, 55]⟩ 302), (.str ⟨#[61, 49, 56]⟩ 306), (.str ⟨#[61, 49, 57]⟩ 310), (.str ⟨#[61, 49, 65]⟩ 314), (.str ⟨#[61, 49, 66]⟩ 318), (.str ⟨#[61, 49, 67]⟩ 322), (.str ⟨#[61, 49, 68]⟩ 326), (.str ⟨#[61, 49, 69]⟩ 330), (.str ⟨#[61, 49, 70]⟩ 334), (.str ⟨#[32]⟩ 1463), (.str ⟨#[33]⟩ 1466), (.str ⟨#[34]⟩ 1469), (.str ⟨#[35]⟩ 1472), (.str ⟨#[36]⟩ 1475), (.str ⟨#[37]⟩ 1478), (.str ⟨#[38]⟩ 1481), (.str ⟨#[39]⟩ 1484), (.str ⟨#[40]⟩ 1487), (.str ⟨#[41]⟩ 1490), (.str ⟨#[42]⟩ 1493), (.str ⟨#[43]⟩ 1496), (.str ⟨#[44]⟩ 1499), (.str ⟨#[45]⟩ 1502), (.str ⟨#[46]⟩ 1505), (.str ⟨#[47]⟩ 1508), (.str ⟨#[48]⟩ 1511), (.str ⟨#[49]⟩ 1514), (.str ⟨#[50]⟩ 1517), (.str ⟨#[51]⟩ 1520), (.str ⟨#[52]⟩ 1523), (.str ⟨#[53]⟩ 1526), (.str ⟨#[54]⟩ 1529), (.str ⟨#[55]⟩ 1532), (.str ⟨#[56]⟩ 1535), (.str ⟨#[57]⟩ 1538), (.str ⟨#[58]⟩ 1541), (.str ⟨#[59]⟩ 1544), (.str ⟨#[60]⟩ 1547), (.str ⟨#[61, 51, 68]⟩ 454), (.str ⟨#[62]⟩ 1550), (.str ⟨#[63]⟩ 1553), (.str ⟨#[64]⟩ 1556), (.str ⟨#[65]⟩ 1559), (.str ⟨#[66]⟩ 1562), (.str ⟨#[67]⟩ 1565), (.str ⟨#[68]⟩ 1568), (.str ⟨#[69]⟩ 1571), (.str ⟨#[70]⟩ 1574), (.str ⟨#[71]⟩ 1577), (.str ⟨#[72]⟩ 1580), (.str ⟨#[73]⟩ 1583), (.str ⟨#[74]⟩ 1586), (.str ⟨#[75]⟩ 1589), (.str ⟨#[76]⟩ 1592), (.str ⟨#[77]⟩ 1595), (.str ⟨#[78]⟩ 1598), (.str ⟨#[79]⟩ 1601), (.str ⟨#[80]⟩ 1604), (.str ⟨#[81]⟩ 1607), (.str ⟨#[82]⟩ 1610), (.str ⟨#[83]⟩ 1613), (.str ⟨#[84]⟩ 1616), (.str ⟨#[85]⟩ 1619), (.str ⟨#[86]⟩ 1622), (.str ⟨#[87]⟩ 1625), (.str ⟨#[88]⟩ 1628), (.str ⟨#[89]⟩ 1631), (.str ⟨#[90]⟩ 1634), (.str ⟨#[91]⟩ 1637), (.str ⟨#[92]⟩ 1640), (.str ⟨#[93]⟩ 1643), (.str ⟨#[94]⟩ 1646), (.str ⟨#[95]⟩ 1649), (.str ⟨#[96]⟩ 1652), (.str ⟨#[97]⟩ 1655), (.str ⟨#[98]⟩ 1658), (.str ⟨#[99]⟩ 1661), (.str ⟨#[100]⟩ 1664), (.str ⟨#[101]⟩ 1667), (.str ⟨#[102]⟩ 1670), (.str ⟨#[103]⟩ 1673), (.str ⟨#[104]⟩ 1676), (.str ⟨#[105]⟩ 1679), (.str ⟨#[106]⟩ 1682), (.str ⟨#[107]⟩ 1685), (.str ⟨#[108]⟩ 1688), (.str ⟨#[109]⟩ 1691), (.str ⟨#[110]⟩ 1694), (.str ⟨#[111]⟩ 1697), (.str ⟨#[112]⟩ 1700), (.str ⟨#[113]⟩ 1703), (.str ⟨#[114]⟩ 1706), (.str ⟨#[115]⟩ 1709), (.str ⟨#[116]⟩ 1712), (.str ⟨#[117]⟩ 1715), (.str ⟨#[118]⟩ 1718), (.str ⟨#[119]⟩ 1721), (.str ⟨#[120]⟩ 1724), (.str ⟨#[121]⟩ 1727), (.str ⟨#[122]⟩ 1730), (.str ⟨#[123]⟩ 1733), (.str ⟨#[124]⟩ 1736), (.str ⟨#[125]⟩ 1739), (.str ⟨#[126]⟩ 1742), (.str ⟨#[61, 55, 70]⟩ 718), (.str ⟨#[61, 56, 48]⟩ 722), (.str ⟨#[61, 56, 49]⟩ 726), (.str ⟨#[61, 56, 50]⟩ 730), (.str ⟨#[61, 56, 51]⟩ 734), (.str ⟨#[61, 56, 52]⟩ 738), (.str ⟨#[61, 56, 53]⟩ 742), (.str ⟨#[61, 56, 54]⟩ 746), (.str ⟨#[61, 56, 55]⟩ 750), (.str ⟨#[61, 56, 56]⟩ 754), (.str ⟨#[61, 56, 57]⟩ 758), (.str ⟨#[61, 56, 65]⟩ 762), (.str ⟨#[61, 56, 66]⟩ 766), (.str ⟨#[61, 56, 67]⟩ 770), (.str ⟨#[61, 56, 68]⟩ 774), (.str ⟨#[61, 56, 69]⟩ 778), (.str ⟨#[61, 56, 70]⟩ 782), (.str ⟨#[61, 57, 48]⟩ 786), (.str ⟨#[61, 57, 49]⟩ 790), (.str ⟨#[61, 57, 50]⟩ 794), (.str ⟨#[61, 57, 51]⟩ 798), (.str ⟨#[61, 57, 52]⟩ 802), (.str ⟨#[61, 57, 53]⟩ 806), (.str ⟨#[61, 57, 54]⟩ 810), (.str ⟨#[61, 57, 55]⟩ 814), (.str ⟨#[61, 57, 56]⟩ 818), (.str ⟨#[61, 57, 57]⟩ 822), (.str ⟨#[61, 57, 65]⟩ 826), (.str ⟨#[61, 57, 66]⟩ 830), (.str ⟨#[61, 57, 67]⟩ 834), (.str ⟨#[61, 57, 68]⟩ 838), (.str ⟨#[61, 57, 69]⟩ 842), (.str ⟨#[61, 57, 70]⟩ 846), (.str ⟨#[61, 65, 48]⟩ 850), (.str ⟨#[61, 65, 49]⟩ 854), (.str ⟨#[61, 65, 50]⟩ 858), (.str ⟨#[61, 65, 51]⟩ 862), (.str ⟨#[61, 65, 52]⟩ 866), (.str ⟨#[61, 65, 53]⟩ 870), (.str ⟨#[61, 65, 54]⟩ 874), (.str ⟨#[61, 65, 55]⟩ 878), (.str ⟨#[61, 65, 56]⟩ 882), (.str ⟨#[61, 65, 57]⟩ 886), (.str ⟨#[61, 65, 65]⟩ 890), (.str ⟨#[61, 65, 66]⟩ 894), (.str ⟨#[61, 65, 67]⟩ 898), (.str ⟨#[61, 65, 68]⟩ 902), (.str ⟨#[61, 65, 69]⟩ 906), (.str ⟨#[61, 65, 70]⟩ 910), (.str ⟨#[61, 66, 48]⟩ 914), (.str ⟨#[61, 66, 49]⟩ 918), (.str ⟨#[61, 66, 50]⟩ 922), (.str ⟨#[61, 66, 51]⟩ 926), (.str ⟨#[61, 66, 52]⟩ 930), (.str ⟨#[61, 66, 53]⟩ 934), (.str ⟨#[61, 66, 54]⟩ 938), (.str ⟨#[61, 66, 55]⟩ 942), (.str ⟨#[61, 66, 56]⟩ 946), (.str ⟨#[61, 66, 57]⟩ 950), (.str ⟨#[61, 66, 65]⟩ 954), (.str ⟨#[61, 66, 66]⟩ 958), (.str ⟨#[61, 66, 67]⟩ 962), (.str ⟨#[61, 66, 68]⟩ 966), (.str ⟨#[61, 66, 69]⟩ 970), (.str ⟨#[61, 66, 70]⟩ 974), (.str ⟨#[61, 67, 48]⟩ 978), (.str ⟨#[61, 67, 49]⟩ 982), (.str ⟨#[61, 67, 50]⟩ 986), (.str ⟨#[61, 67, 51]⟩ 990), (.str ⟨#[61, 67, 52]⟩ 994), (.str ⟨#[61, 67, 53]⟩ 998), (.str ⟨#[61, 67, 54]⟩ 1002), (.str ⟨#[61, 67, 55]⟩ 1006), (.str ⟨#[61, 67, 56]⟩ 1010), (.str ⟨#[61, 67, 57]⟩ 1014), (.str ⟨#[61, 67, 65]⟩ 1018), (.str ⟨#[61, 67, 66]⟩ 1022), (.str ⟨#[61, 67, 67]⟩ 1026), (.str ⟨#[61, 67, 68]⟩ 1030), (.str ⟨#[61, 67, 69]⟩ 1034), (.str ⟨#[61, 67, 70]⟩ 1038), (.str ⟨#[61, 68, 48]⟩ 1042), (.str ⟨#[61, 68, 49]⟩ 1046), (.str ⟨#[61, 68, 50]⟩ 1050), (.str ⟨#[61, 68, 51]⟩ 1054), (.str ⟨#[61, 68, 52]⟩ 1058), (.str ⟨#[61, 68, 53]⟩ 1062), (.str ⟨#[61, 68, 54]⟩ 1066), (.str ⟨#[61, 68, 55]⟩ 1070), (.str ⟨#[61, 68, 56]⟩ 1074), (.str ⟨#[61, 68, 57]⟩ 1078), (.str ⟨#[61, 68, 65]⟩ 1082), (.str ⟨#[61, 68, 66]⟩ 1086), (.str ⟨#[61, 68, 67]⟩ 1090), (.str ⟨#[61, 68, 68]⟩ 1094), (.str ⟨#[61, 68, 69]⟩ 1098), (.str ⟨#[61, 68, 70]⟩ 1102), (.str ⟨#[61, 69, 48]⟩ 1106), (.str ⟨#[61, 69, 49]⟩ 1110), (.str ⟨#[61, 69, 50]⟩ 1114), (.str ⟨#[61, 69, 51]⟩ 1118), (.str ⟨#[61, 69, 52]⟩ 1122), (.str ⟨#[61, 69, 53]⟩ 1126), (.str ⟨#[61, 69, 54]⟩ 1130), (.str ⟨#[61, 69, 55]⟩ 1134), (.str ⟨#[61, 69, 56]⟩ 1138), (.str ⟨#[61, 69, 57]⟩ 1142), (.str ⟨#[61, 69, 65]⟩ 1146), (.str ⟨#[61, 69, 66]⟩ 1150), (.str ⟨#[61, 69, 67]⟩ 1154), (.str ⟨#[61, 69, 68]⟩ 1158), (.str ⟨#[61, 69, 69]⟩ 1162), (.str ⟨#[61, 69, 70]⟩ 1166), (.str ⟨#[61, 70, 48]⟩ 1170), (.str ⟨#[61, 70, 49]⟩ 1174), (.str ⟨#[61, 70, 50]⟩ 1178), (.str ⟨#[61, 70, 51]⟩ 1182), (.str ⟨#[61, 70, 52]⟩ 1186), (.str ⟨#[61, 70, 53]⟩ 1190), (.str ⟨#[61, 70, 54]⟩ 1194), (.str ⟨#[61, 70, 55]⟩ 1198), (.str ⟨#[61, 70, 56]⟩ 1202), (.str ⟨#[61, 70, 57]⟩ 1206), (.str ⟨#[61, 70, 65]⟩ 1210), (.str ⟨#[61, 70, 66]⟩ 1214), (.str ⟨#[61, 70, 67]⟩ 1218), (.str ⟨#[61, 70, 68]⟩ 1222), (.str ⟨#[61, 70, 69]⟩ 1226), (.str ⟨#[61, 70, 70]⟩ 1230)] 0), #[]⟩
noncomputable abbrev oG2_36 (P : Params) : Obj := ⟨(.type "bytes_iterator"), none, (.fields #[.none, (.int 95 0)]), #[]⟩
noncomputable abbrev oG2_37 (P : Params) : Obj := ⟨(.type "tuple"), none, (.seq #[] 0), #[]⟩
noncomputable abbrev oG2_38 (P : Params) : Obj := ⟨(.type "StopIteration"), none, (.fields #[(.ref 37), .none, .none, .none, (.bool false), .none]), #[]⟩
noncomputable abbrev tG2 (P : Params) : BT := (.node (boot_o_0 P) (.node (boot_o_1 P) (.node (oG2_3 P) (.node (boot_o_7 P) (.node (oB_15 P) (.node (oD_31 P) .nil .nil) .nil) (.node (oC1_23 P) .nil .nil)) (.node (oA_11 P) (.node (oB_19 P) (.node (oE2_35 P) .nil .nil) .nil) (.node (oC2_27 P) .nil .nil))) (.node (boot_o_5 P) (.node (boot_o_9 P) (.node (oB_17 P) (.node (oE2_33 P) .nil .nil) .nil) (.node (oC2_25 P) .nil .nil)) (.node (oA_13 P) (.node (oB_21 P) (.node (oG2_37 P) .nil .nil) .nil) (.node (oD_29 P) .nil .nil)))) (.node (boot_o_2 P) (.node (boot_o_4 P) (.node (boot_o_8 P) (.node (oB_16 P) (.node (oG2_32 P) .nil .nil) .nil) (.node (oC2_24 P) .nil .nil)) (.node (oB_12 P) (.node (oB_20 P) (.node (oG2_36 P) .nil .nil) .nil) (.node (oC2_28 P) .nil .nil))) (.node (boot_o_6 P) (.node (boot_o_10 P) (.node (oB_18 P) (.node (oE2_34 P) .nil .nil) .nil) (.node (oC_26 P) .nil .nil)) (.node (oA_14 P) (.node (oB_22 P) (.node (oG2_38 P) .nil .nil) .nil) (.node (oF_30 P) .nil .nil)))))
noncomputable abbrev SG2 (w : World) (os : OsState) : SharedT := ⟨tG2 w.params, 39, ⟨[], [], [], 0, [], [], false, #[], [], 0, false, false, false, 0, [2000, 10, 10], false, 0, true, [], [], 0, false⟩, #[], ⟨0, 0, 0, 0⟩, 1746, os⟩
noncomputable abbrev tG (P : Params) : BT := (.node (boot_o_0 P) (.node (boot_o_1 P) (.node (oG2_3 P) (.node (boot_o_7 P) (.node (oB_15 P) (.node (oD_31 P) .nil .nil) .nil) (.node (oC1_23 P) .nil .nil)) (.node (oA_11 P) (.node (oB_19 P) (.node (oE2_35 P) .nil .nil) .nil) (.node (oC2_27 P) .nil .nil))) (.node (boot_o_5 P) (.node (boot_o_9 P) (.node (oB_17 P) (.node (oE2_33 P) .nil .nil) .nil) (.node (oC2_25 P) .nil .nil)) (.node (oA_13 P) (.node (oB_21 P) (.node (oG2_37 P) .nil .nil) .nil) (.node (oD_29 P) .nil .nil)))) (.node (boot_o_2 P) (.node (boot_o_4 P) (.node (boot_o_8 P) (.node (oB_16 P) (.node (oG2_32 P) .nil .nil) .nil) (.node (oC2_24 P) .nil .nil)) (.node (oB_12 P) (.node (oB_20 P) (.node (oG2_36 P) .nil .nil) .nil) (.node (oC2_28 P) .nil .nil))) (.node (boot_o_6 P) (.node (boot_o_10 P) (.node (oB_18 P) (.node (oE2_34 P) .nil .nil) .nil) (.node (oC_26 P) .nil .nil)) (.node (oA_14 P) (.node (oB_22 P) (.node (oG2_38 P) .nil .nil) .nil) (.node (oF_30 P) .nil .nil)))))
noncomputable abbrev SG (w : World) (os : OsState) : SharedT := ⟨tG w.params, 39, ⟨[], [], [], 0, [], [], false, #[], [], 0, false, false, false, 0, [2000, 10, 10], false, 0, true, [], [], 0, false⟩, #[], ⟨0, 0, 0, 0⟩, 1746, os⟩
noncomputable def LG : Code := (loopAt 16 (.ref 36))
theorem mainG (w : World) (os : OsState) (k : Result → Sem Fin) : segGoT treeTable pw w 11 (some (.ref 6)) 1 4292 (SG1 w os) ⟨denote treeTable LG, LG, ⟨25, 9, 25, 110⟩, [.ret k none false [] cB ⟨25, 9, 25, 110⟩ [], topFrame qB]⟩ = some (SG2 w os, ⟨k (.ok .next), cB, ⟨25, 9, 25, 110⟩, [topFrame qB]⟩) := by kernel_rfl
theorem preGf (w : World) (os : OsState) : (segGoT treeTable pw (w.withFollow "special-get-raises" false) 11 (some (.ref 6)) 1 10 (SF (w.withFollow "special-get-raises" false) os) (piecesOf (sts 16 1) envB cB ⟨24, 0, 24, 28⟩ [topFrame qB])) = some (SG1 (w.withFollow "special-get-raises" false) os, ⟨denote treeTable LG, LG, ⟨25, 9, 25, 110⟩, [.ret (kOf (segGoT treeTable pw (w.withFollow "special-get-raises" false) 11 (some (.ref 6)) 1 10 (SF (w.withFollow "special-get-raises" false) os) (piecesOf (sts 16 1) envB cB ⟨24, 0, 24, 28⟩ [topFrame qB]))) none false [] cB ⟨25, 9, 25, 110⟩ [], topFrame qB]⟩) := by kernel_rfl
theorem sufGf (w : World) (os : OsState) : segRunT treeTable pw (w.withFollow "special-get-raises" false) 11 (some (.ref 6)) 1 20 (SG2 (w.withFollow "special-get-raises" false) os) ⟨kOf (segGoT treeTable pw (w.withFollow "special-get-raises" false) 11 (some (.ref 6)) 1 10 (SF (w.withFollow "special-get-raises" false) os) (piecesOf (sts 16 1) envB cB ⟨24, 0, 24, 28⟩ [topFrame qB])) (.ok .next), cB, ⟨25, 9, 25, 110⟩, [topFrame qB]⟩ = some (.next, SG (w.withFollow "special-get-raises" false) os, cB, ⟨25, 9, 25, 110⟩) := by kernel_rfl
theorem segGf (w : World) (os : OsState) : segRun treeTable pw (w.withFollow "special-get-raises" false) 11 (some (.ref 6)) 1 4322 (SF (w.withFollow "special-get-raises" false) os).abs (piecesOf (sts 16 1) envB cB ⟨24, 0, 24, 28⟩ [topFrame qB]) = some (.next, (SG (w.withFollow "special-get-raises" false) os).abs, cB, ⟨25, 9, 25, 110⟩) :=
  seg_go (n := 10) (N := 4312) (segGo_of (preGf w os)) (seg_go (n := 4292) (N := 20) (segGo_of (mainG (w.withFollow "special-get-raises" false) os _)) (segRun_of (sufGf w os)))
theorem preGt (w : World) (os : OsState) : (segGoT treeTable pw (w.withFollow "special-get-raises" true) 11 (some (.ref 6)) 1 10 (SF (w.withFollow "special-get-raises" true) os) (piecesOf (sts 16 1) envB cB ⟨24, 0, 24, 28⟩ [topFrame qB])) = some (SG1 (w.withFollow "special-get-raises" true) os, ⟨denote treeTable LG, LG, ⟨25, 9, 25, 110⟩, [.ret (kOf (segGoT treeTable pw (w.withFollow "special-get-raises" true) 11 (some (.ref 6)) 1 10 (SF (w.withFollow "special-get-raises" true) os) (piecesOf (sts 16 1) envB cB ⟨24, 0, 24, 28⟩ [topFrame qB]))) none false [] cB ⟨25, 9, 25, 110⟩ [], topFrame qB]⟩) := by kernel_rfl
theorem sufGt (w : World) (os : OsState) : segRunT treeTable pw (w.withFollow "special-get-raises" true) 11 (some (.ref 6)) 1 20 (SG2 (w.withFollow "special-get-raises" true) os) ⟨kOf (segGoT treeTable pw (w.withFollow "special-get-raises" true) 11 (some (.ref 6)) 1 10 (SF (w.withFollow "special-get-raises" true) os) (piecesOf (sts 16 1) envB cB ⟨24, 0, 24, 28⟩ [topFrame qB])) (.ok .next), cB, ⟨25, 9, 25, 110⟩, [topFrame qB]⟩ = some (.next, SG (w.withFollow "special-get-raises" true) os, cB, ⟨25, 9, 25, 110⟩) := by kernel_rfl
theorem segGt (w : World) (os : OsState) : segRun treeTable pw (w.withFollow "special-get-raises" true) 11 (some (.ref 6)) 1 4322 (SF (w.withFollow "special-get-raises" true) os).abs (piecesOf (sts 16 1) envB cB ⟨24, 0, 24, 28⟩ [topFrame qB]) = some (.next, (SG (w.withFollow "special-get-raises" true) os).abs, cB, ⟨25, 9, 25, 110⟩) :=
  seg_go (n := 10) (N := 4312) (segGo_of (preGt w os)) (seg_go (n := 4292) (N := 20) (segGo_of (mainG (w.withFollow "special-get-raises" true) os _)) (segRun_of (sufGt w os)))
theorem runG (w : World) (os : OsState) : segRun treeTable pw w 11 (some (.ref 6)) 1 4322 (SF w os).abs (piecesOf (sts 16 1) envB cB ⟨24, 0, 24, 28⟩ [topFrame qB]) = some (.next, (SG w os).abs, cB, ⟨25, 9, 25, 110⟩) :=
  byRow2 "special-get-raises" (P := fun w => segRun treeTable pw w 11 (some (.ref 6)) 1 4322 (SF w os).abs (piecesOf (sts 16 1) envB cB ⟨24, 0, 24, 28⟩ [topFrame qB]) = some (.next, (SG w os).abs, cB, ⟨25, 9, 25, 110⟩)) (fun w => segGf w os) (fun w => segGt w os) w
noncomputable abbrev oH_3 (P : Params) : Obj := ⟨(.type "dict"), none, (.dict #[⟨(PyData.keyHash P "__name__"), (.str "__name__" 165), (.str "law_kl0519_01" 1801)⟩, ⟨(PyData.keyHash P "__doc__"), (.str "__doc__" 166), .none⟩, ⟨(PyData.keyHash P "__package__"), (.str "__package__" 167), .none⟩, ⟨(PyData.keyHash P "__loader__"), (.str "__loader__" 168), (.builtin "__main__.__loader__#opaque")⟩, ⟨(PyData.keyHash P "__spec__"), (.str "__spec__" 169), .none⟩, ⟨(PyData.keyHash P "__annotations__"), (.str "__annotations__" 170), (.ref 6)⟩, ⟨(PyData.keyHash P "__builtins__"), (.str "__builtins__" 171), (.ref 4)⟩, ⟨(PyData.keyHash P "__file__"), (.str "__file__" 173), (.str "/claim/cut.py" 172)⟩, ⟨(PyData.keyHash P "__cached__"), (.str "__cached__" 174), .none⟩, ⟨(PyData.keyHash P "_MAX_LENGTH"), (.str "_MAX_LENGTH" 190), (.int 80 189)⟩, ⟨(PyData.keyHash P "safe_repr"), (.str "safe_repr" 199), (.ref 22)⟩, ⟨(PyData.keyHash P "CRLF"), (.str "CRLF" 201), (.str "\x0d\n" 200)⟩, ⟨(PyData.keyHash P "NL"), (.str "NL" 203), (.str "\n" 202)⟩, ⟨(PyData.keyHash P "_QUOPRI_MAP"), (.str "_QUOPRI_MAP" 1231), (.ref 25)⟩, ⟨(PyData.keyHash P "_QUOPRI_HEADER_MAP"), (.str "_QUOPRI_HEADER_MAP" 1232), (.ref 30)⟩, ⟨(PyData.keyHash P "_QUOPRI_BODY_MAP"), (.str "_QUOPRI_BODY_MAP" 1233), (.ref 32)⟩, ⟨(PyData.keyHash P "ascii_lowercase"), (.str "ascii_lowercase" 1235), (.str "abcdefghijklmnopqrstuvwxyz" 1234)⟩, ⟨(PyData.keyHash P "ascii_uppercase"), (.str "ascii_uppercase" 1237), (.str "ABCDEFGHIJKLMNOPQRSTUVWXYZ" 1236)⟩, ⟨(PyData.keyHash P "ascii_letters"), (.str "ascii_letters" 1239), (.str "abcdefghijklmnopqrstuvwxyzABCDEFGHIJKLMNOPQRSTUVWXYZ" 1238)⟩, ⟨(PyData.keyHash P "digits"), (.str "digits" 1241), (.str "0123456789" 1240)⟩, ⟨(PyData.keyHash P "hexdigits"), (.str "hexdigits" 1246), (.str "0123456789abcdefABCDEF" 1245)⟩, ⟨(PyData.keyHash P "unquote"), (.str "unquote" 1752), (.ref 45)⟩, ⟨(PyData.keyHash P "quote"), (.str "quote" 1759), (.ref 52)⟩, ⟨(PyData.keyHash P "_QUOPRI_BODY_ENCODE_MAP"), (.str "_QUOPRI_BODY_ENCODE_MAP" 1760), (.ref 54)⟩, ⟨(PyData.keyHash P "body_encode"), (.str "body_encode" 1787), (.ref 65)⟩, ⟨(PyData.keyHash P "decode"), (.str "decode" 1800), (.ref 73)⟩, ⟨(PyData.keyHash P "_law_sign"), (.str "_law_sign" 1809), (.ref 80)⟩, ⟨(PyData.keyHash P "_law_told"), (.str "_law_told" 1821), (.ref 87)⟩, ⟨(PyData.keyHash P "_law_sent"), (.str "_law_sent" 1833), (.ref 94)⟩, ⟨(PyData.keyHash P "_law_read"), (.str "_law_read" 1842), (.ref 101)⟩, ⟨(PyData.keyHash P "_law_even"), (.str "_law_even" 1851), (.ref 108)⟩, ⟨(PyData.keyHash P "_law_laid"), (.str "_law_laid" 1861), (.ref 115)⟩, ⟨(PyData.keyHash P "law"), (.str "law" 1867), (.ref 120)⟩] 35), #[]⟩
noncomputable abbrev oH_12 (P : Params) : Obj := ⟨.none, none, (.fields #[(.int 3 0), (.int 0 0), (.ref 21), (.int 27 0), (.int 0 0), (.ref 44), (.int 29 0), (.int 0 0), (.ref 51), (.int 35 0), (.int 0 0), (.ref 64), (.int 73 0), (.int 0 0), (.ref 72), (.int 104 0), (.int 0 0), (.ref 79), (.int 108 0), (.int 0 0), (.ref 86), (.int 123 0), (.int 0 0), (.ref 93), (.int 134 0), (.int 0 0), (.ref 100), (.int 148 0), (.int 0 0), (.ref 107), (.int 156 0), (.int 0 0), (.ref 114), (.int 161 0), (.int 0 0), (.ref 119)]), #[]⟩
noncomputable abbrev oH_39 (P : Params) : Obj := ⟨(.type "tuple"), none, (.seq #[] 0), #[]⟩
noncomputable abbrev oH_40 (P : Params) : Obj := ⟨.none, none, (.fields #[]), #[]⟩
noncomputable abbrev oH_41 (P : Params) : Obj := ⟨(.type "tuple"), none, (.seq #[(.str "s" 1749)] 0), #[]⟩
noncomputable abbrev oH_42 (P : Params) : Obj := ⟨(.type "tuple"), none, (.seq #[] 0), #[]⟩
noncomputable abbrev oH_43 (P : Params) : Obj := ⟨.none, none, (.func ⟨"unquote", "unquote", fP 17, (.stmts (fB 17)), fS 17, 0, [], .none, .none, .none, .none, none, .none, .none, 0⟩), #[]⟩
noncomputable abbrev oH_44 (P : Params) : Obj := ⟨(.type "code"), none, (.fields #[(.str "unquote" 1746), (.str "unquote" 1747), (.str "/claim/cut.py" 1748), (.int 27 0), (.int 1 0), (.int 0 0), (.int 0 0), (.int 3 0), (.ref 39), (.bool true), (.int 181 0), (.ref 40), .none, (.ref 41), (.ref 42), (.ref 43), (.int 1750 0), (.int 27 0), (.str "/claim/cut.py" 1751)]), #[]⟩
noncomputable abbrev oH_45 (P : Params) : Obj := ⟨(.type "function"), none, (.func ⟨"unquote", "unquote", fP 17, (.stmts (fB 17)), fS 17, 3, [], .none, .none, .none, (.str "cpy313.email.quoprimime" 1247), none, (.ref 44), .none, 0⟩), #[]⟩
noncomputable abbrev oH_46 (P : Params) : Obj := ⟨(.type "tuple"), none, (.seq #[] 0), #[]⟩
noncomputable abbrev oH_47 (P : Params) : Obj := ⟨.none, none, (.fields #[]), #[]⟩
noncomputable abbrev oH_48 (P : Params) : Obj := ⟨(.type "tuple"), none, (.seq #[(.str "c" 1756)] 0), #[]⟩
noncomputable abbrev oH_49 (P : Params) : Obj := ⟨(.type "tuple"), none, (.seq #[] 0), #[]⟩
noncomputable abbrev oH_50 (P : Params) : Obj := ⟨.none, none, (.func ⟨"quote", "quote", fP 18, (.stmts (fB 18)), fS 18, 0, [], .none, .none, .none, .none, none, .none, .none, 0⟩), #[]⟩
noncomputable abbrev oH_51 (P : Params) : Obj := ⟨(.type "code"), none, (.fields #[(.str "quote" 1753), (.str "quote" 1754), (.str "/claim/cut.py" 1755), (.int 29 0), (.int 1 0), (.int 0 0), (.int 0 0), (.int 3 0), (.ref 46), (.bool true), (.int 181 0), (.ref 47), .none, (.ref 48), (.ref 49), (.ref 50), (.int 1757 0), (.int 29 0), (.str "/claim/cut.py" 1758)]), #[]⟩
noncomputable abbrev oH_52 (P : Params) : Obj := ⟨(.type "function"), none, (.func ⟨"quote", "quote", fP 18, (.stmts (fB 18)), fS 18, 3, [], .none, .none, .none, (.str "cpy313.email.quoprimime" 1247), none, (.ref 51), .none, 0⟩), #[]⟩
noncomputable abbrev oH_53 (P : Params) : Obj := ⟨(.type "slice"), none, (.fields #[.none, .none, .none]), #[]⟩
noncomputable abbrev oH_54 (P : Params) : Obj := ⟨(.type "list"), none, (.seq #[(.str ⟨#[61, 48, 48]⟩ 210), (.str ⟨#[61, 48, 49]⟩ 214), (.str ⟨#[61, 48, 50]⟩ 218), (.str ⟨#[61, 48, 51]⟩ 222), (.str ⟨#[61, 48, 52]⟩ 226), (.str ⟨#[61, 48, 53]⟩ 230), (.str ⟨#[61, 48, 54]⟩ 234), (.str ⟨#[61, 48, 55]⟩ 238), (.str ⟨#[61, 48, 56]⟩ 242), (.str ⟨#[9]⟩ 1745), (.str ⟨#[10]⟩ 1767), (.str ⟨#[61, 48, 66]⟩ 254), (.str ⟨#[61, 48, 67]⟩ 258), (.str ⟨#[13]⟩ 1764), (.str ⟨#[61, 48, 69]⟩ 266), (.str ⟨#[61, 48, 70]⟩ 270), (.str ⟨#[61, 49, 48]⟩ 274), (.str ⟨#[61, 49, 49]⟩ 278), (.str ⟨#[61, 49, 50]⟩ 282), (.str ⟨#[61, 49, 51]⟩ 286), (.str ⟨#[61, 49, 52]⟩ 290), (.str ⟨#[61, 49, 53]⟩ 294), (.str ⟨#[61, 49, 54]⟩ 298), (.str ⟨#[61, 49, 55]⟩ 302), (.str ⟨#[61, 49, 56]⟩ 306), (.str ⟨#[61, 49, 57]⟩ 310), (.str ⟨#[61, 49, 65]⟩ 314), (.str ⟨#[61, 49, 66]⟩ 318), (.str ⟨#[61, 49, 67]⟩ 322), (.str ⟨#[61, 49, 68]⟩ 326), (.str ⟨#[61, 49, 69]⟩ 330), (.str ⟨#[61, 49, 70]⟩ 334), (.str ⟨#[32]⟩ 1463), (.str ⟨#[33]⟩ 1466), (.str ⟨#[34]⟩ 1469), (.str ⟨#[35]⟩ 1472), (.str ⟨#[36]⟩ 1475), (.str ⟨#[37]⟩ 1478), (.str ⟨#[38]⟩ 1481), (.str ⟨#[39]⟩ 1484), (.str ⟨#[40]⟩ 1487), (.str ⟨#[41]⟩ 1490), (.str ⟨#[42]⟩ 1493), (.str ⟨#[43]⟩ 1496), (.str ⟨#[44]⟩ 1499), (.str ⟨#[45]⟩ 1502), (.str ⟨#[46]⟩ 1505), (.str ⟨#[47]⟩ 1508), (.str ⟨#[48]⟩ 1511), (.str ⟨#[49]⟩ 1514), (.str ⟨#[50]⟩ 1517), (.str ⟨#[51]⟩ 1520), (.str ⟨#[52]⟩ 1523), (.str ⟨#[53]⟩ 1526), (.str ⟨#[54]⟩ 1529), (.str ⟨#[55]⟩ 1532), (.str ⟨#[56]⟩ 1535), (.str ⟨#[57]⟩ 1538), (.str ⟨#[58]⟩ 1541), (.str ⟨#[59]⟩ 1544), (.str ⟨#[60]⟩ 1547), (.str ⟨#[61, 51, 68]⟩ 454), (.str ⟨#[62]⟩ 1550), (.str ⟨#[63]⟩ 1553), (.str ⟨#[64]⟩ 1556), (.str ⟨#[65]⟩ 1559), (.str ⟨#[66]⟩ 1562), (.str ⟨#[67]⟩ 1565), (.str ⟨#[68]⟩ 1568), (.str ⟨#[69]⟩ 1571), (.str ⟨#[70]⟩ 1574), (.str ⟨#[71]⟩ 1577), (.str ⟨#[72]⟩ 1580), (.str ⟨#[73]⟩ 1583), (.str ⟨#[74]⟩ 1586), (.str ⟨#[75]⟩ 1589), (.str ⟨#[76]⟩ 1592), (.str ⟨#[77]⟩ 1595), (.str ⟨#[78]⟩ 1598), (.str ⟨#[79]⟩ 1601), (.str ⟨#[80]⟩ 1604), (.str ⟨#[81]⟩ 1607), (.str ⟨#[82]⟩ 1610), (.str ⟨#[83]⟩ 1613), (.str ⟨#[84]⟩ 1616), (.str ⟨#[85]⟩ 1619), (.str ⟨#[86]⟩ 1622), (.str ⟨#[87]⟩ 1625), (.str ⟨#[88]⟩ 1628), (.str ⟨#[89]⟩ 1631), (.str ⟨#[90]⟩ 1634), (.str ⟨#[91]⟩ 1637), (.str ⟨#[92]⟩ 1640), (.str ⟨#[93]⟩ 1643), (.str ⟨#[94]⟩ 1646), (.str ⟨#[95]⟩ 1649), (.str ⟨#[96]⟩ 1652), (.str ⟨#[97]⟩ 1655), (.str ⟨#[98]⟩ 1658), (.str ⟨#[99]⟩ 1661), (.str ⟨#[100]⟩ 1664), (.str ⟨#[101]⟩ 1667), (.str ⟨#[102]⟩ 1670), (.str ⟨#[103]⟩ 1673), (.str ⟨#[104]⟩ 1676), (.str ⟨#[105]⟩ 1679), (.str ⟨#[106]⟩ 1682), (.str ⟨#[107]⟩ 1685), (.str ⟨#[108]⟩ 1688), (.str ⟨#[109]⟩ 1691), (.str ⟨#[110]⟩ 1694), (.str ⟨#[111]⟩ 1697), (.str ⟨#[112]⟩ 1700), (.str ⟨#[113]⟩ 1703), (.str ⟨#[114]⟩ 1706), (.str ⟨#[115]⟩ 1709), (.str ⟨#[116]⟩ 1712), (.str ⟨#[117]⟩ 1715), (.str ⟨#[118]⟩ 1718), (.str ⟨#[119]⟩ 1721), (.str ⟨#[120]⟩ 1724), (.str ⟨#[121]⟩ 1727), (.str ⟨#[122]⟩ 1730), (.str ⟨#[123]⟩ 1733), (.str ⟨#[124]⟩ 1736), (.str ⟨#[125]⟩ 1739), (.str ⟨#[126]⟩ 1742), (.str ⟨#[61, 55, 70]⟩ 718), (.str ⟨#[61, 56, 48]⟩ 722), (.str ⟨#[61, 56, 49]⟩ 726), (.str ⟨#[61, 56, 50]⟩ 730), (.str ⟨#[61, 56, 51]⟩ 734), (.str ⟨#[61, 56, 52]⟩ 738), (.str ⟨#[61, 56, 53]⟩ 742), (.str ⟨#[61, 56, 54]⟩ 746), (.str ⟨#[61, 56, 55]⟩ 750), (.str ⟨#[61, 56, 56]⟩ 754), (.str ⟨#[61, 56, 57]⟩ 758), (.str ⟨#[61, 56, 65]⟩ 762), (.str ⟨#[61, 56, 66]⟩ 766), (.str ⟨#[61, 56, 67]⟩ 770), (.str ⟨#[61, 56, 68]⟩ 774), (.str ⟨#[61, 56, 69]⟩ 778), (.str ⟨#[61, 56, 70]⟩ 782), (.str ⟨#[61, 57, 48]⟩ 786), (.str ⟨#[61, 57, 49]⟩ 790), (.str ⟨#[61, 57, 50]⟩ 794), (.str ⟨#[61, 57, 51]⟩ 798), (.str ⟨#[61, 57, 52]⟩ 802), (.str ⟨#[61, 57, 53]⟩ 806), (.str ⟨#[61, 57, 54]⟩ 810), (.str ⟨#[61, 57, 55]⟩ 814), (.str ⟨#[61, 57, 56]⟩ 818), (.str ⟨#[61, 57, 57]⟩ 822), (.str ⟨#[61, 57, 65]⟩ 826), (.str ⟨#[61, 57, 66]⟩ 830), (.str ⟨#[61, 57, 67]⟩ 834), (.str ⟨#[61, 57, 68]⟩ 838), (.str ⟨#[61, 57, 69]⟩ 842), (.str ⟨#[61, 57, 70]⟩ 846), (.str ⟨#[61, 65, 48]⟩ 850), (.str ⟨#[61, 65, 49]⟩ 854), (.str ⟨#[61, 65, 50]⟩ 858), (.str ⟨#[61, 65, 51]⟩ 862), (.str ⟨#[61, 65, 52]⟩ 866), (.str ⟨#[61, 65, 53]⟩ 870), (.str ⟨#[61, 65, 54]⟩ 874), (.str ⟨#[61, 65, 55]⟩ 878), (.str ⟨#[61, 65, 56]⟩ 882), (.str ⟨#[61, 65, 57]⟩ 886), (.str ⟨#[61, 65, 65]⟩ 890), (.str ⟨#[61, 65, 66]⟩ 894), (.str ⟨#[61, 65, 67]⟩ 898), (.str ⟨#[61, 65, 68]⟩ 902), (.str ⟨#[61, 65, 69]⟩ 906), (.str ⟨#[61, 65, 70]⟩ 910), (.str ⟨#[61, 66, 48]⟩ 914), (.str ⟨#[61, 66, 49]⟩ 918), (.str ⟨#[61, 66, 50]⟩ 922), (.str ⟨#[61, 66, 51]⟩ 926), (.str ⟨#[61, 66, 52]⟩ 930), (.str ⟨#[61, 66, 53]⟩ 934), (.str ⟨#[61, 66, 54]⟩ 938), (.str ⟨#[61, 66, 55]⟩ 942), (.str ⟨#[61, 66, 56]⟩ 946), (.str ⟨#[61, 66, 57]⟩ 950), (.str ⟨#[61, 66, 65]⟩ 954), (.str ⟨#[61, 66, 66]⟩ 958), (.str ⟨#[61, 66, 67]⟩ 962), (.str ⟨#[61, 66, 68]⟩ 966), (.str ⟨#[61, 66, 69]⟩ 970), (.str ⟨#[61, 66, 70]⟩ 974), (.str ⟨#[61, 67, 48]⟩ 978), (.str ⟨#[61, 67, 49]⟩ 982), (.str ⟨#[61, 67, 50]⟩ 986), (.str ⟨#[61, 67, 51]⟩ 990), (.str ⟨#[61, 67, 52]⟩ 994), (.str ⟨#[61, 67, 53]⟩ 998), (.str ⟨#[61, 67, 54]⟩ 1002), (.str ⟨#[61, 67, 55]⟩ 1006), (.str ⟨#[61, 67, 56]⟩ 1010), (.str ⟨#[61, 67, 57]⟩ 1014), (.str ⟨#[61, 67, 65]⟩ 1018), (.str ⟨#[61, 67, 66]⟩ 1022), (.str ⟨#[61, 67, 67]⟩ 1026), (.str ⟨#[61, 67, 68]⟩ 1030), (.str ⟨#[61, 67, 69]⟩ 1034), (.str ⟨#[61, 67, 70]⟩ 1038), (.str ⟨#[61, 68, 48]⟩ 1042), (.str ⟨#[61, 68, 49]⟩ 1046), (.str ⟨#[61, 68, 50]⟩ 1050), (.str ⟨#[61, 68, 51]⟩ 1054), (.str ⟨#[61, 68, 52]⟩ 1058), (.str ⟨#[61, 68, 53]⟩ 1062), (.str ⟨#[61, 68, 54]⟩ 1066), (.str ⟨#[61, 68, 55]⟩ 1070), (.str ⟨#[61, 68, 56]⟩ 1074), (.str ⟨#[61, 68, 57]⟩ 1078), (.str ⟨#[61, 68, 65]⟩ 1082), (.str ⟨#[61, 68, 66]⟩ 1086), (.str ⟨#[61, 68, 67]⟩ 1090), (.str ⟨#[61, 68, 68]⟩ 1094), (.str ⟨#[61, 68, 69]⟩ 1098), (.str ⟨#[61, 68, 70]⟩ 1102), (.str ⟨#[61, 69, 48]⟩ 1106), (.str ⟨#[61, 69, 49]⟩ 1110), (.str ⟨#[61, 69, 50]⟩ 1114), (.str ⟨#[61, 69, 51]⟩ 1118), (.str ⟨#[61, 69, 52]⟩ 1122), (.str ⟨#[61, 69, 53]⟩ 1126), (.str ⟨#[61, 69, 54]⟩ 1130), (.str ⟨#[61, 69, 55]⟩ 1134), (.str ⟨#[61, 69, 56]⟩ 1138), (.str ⟨#[61, 69, 57]⟩ 1142), (.str ⟨#[61, 69, 65]⟩ 1146), (.str ⟨#[61, 69, 66]⟩ 1150), (.str ⟨#[61, 69, 67]⟩ 1154), (.str ⟨#[61, 69, 68]⟩ 1158), (.str ⟨#[61, 69, 69]⟩ 1162), (.str ⟨#[61, 69, 70]⟩ 1166), (.str ⟨#[61, 70, 48]⟩ 1170), (.str ⟨#[61, 70, 49]⟩ 1174), (.str ⟨#[61, 70, 50]⟩ 1178), (.str ⟨#[61, 70, 51]⟩ 1182), (.str ⟨#[61, 70, 52]⟩ 1186), (.str ⟨#[61, 70, 53]⟩ 1190), (.str ⟨#[61, 70, 54]⟩ 1194), (.str ⟨#[61, 70, 55]⟩ 1198), (.str ⟨#[61, 70, 56]⟩ 1202), (.str ⟨#[61, 70, 57]⟩ 1206), (.str ⟨#[61, 70, 65]⟩ 1210), (.str ⟨#[61, 70, 66]⟩ 1214), (.str ⟨#[61, 70, 67]⟩ 1218), (.str ⟨#[61, 70, 68]⟩ 1222), (.str ⟨#[61, 70, 69]⟩ 1226), (.str ⟨#[61, 70, 70]⟩ 1230)] 0), #[]⟩
noncomputable abbrev oH_55 (P : Params) : Obj := ⟨(.type "bytes_iterator"), none, (.fields #[.none, (.int 2 0)]), #[]⟩
noncomputable abbrev oH_56 (P : Params) : Obj := ⟨(.type "tuple"), none, (.seq #[] 0), #[]⟩
noncomputable abbrev oH_57 (P : Params) : Obj := ⟨(.type "StopIteration"), none, (.fields #[(.ref 56), .none, .none, .none, (.bool false), .none]), #[]⟩
noncomputable abbrev oH_58 (P : Params) : Obj := ⟨(.type "tuple"), none, (.seq #[(.int 76 1768), (.str "\n" 202)] 0), #[]⟩
noncomputable abbrev oH_59 (P : Params) : Obj := ⟨(.type "tuple"), none, (.seq #[] 0), #[]⟩
noncomputable abbrev oH_60 (P : Params) : Obj := ⟨.none, none, (.fields #[]), #[]⟩
noncomputable abbrev oH_61 (P : Params) : Obj := ⟨(.type "tuple"), none, (.seq #[(.str "body" 1772), (.str "maxlinelen" 1773), (.str "eol" 1774), (.str "soft_break" 1775), (.str "maxlinelen1" 1776), (.str "encoded_body" 1777), (.str "append" 1778), (.str "line" 1779), (.str "start" 1780), (.str "laststart" 1781), (.str "stop" 1782), (.str "room" 1783), (.str "q" 1784)] 0), #[]⟩
noncomputable abbrev oH_62 (P : Params) : Obj := ⟨(.type "tuple"), none, (.seq #[] 0), #[]⟩
noncomputable abbrev oH_63 (P : Params) : Obj := ⟨.none, none, (.func ⟨"body_encode", "body_encode", fP 22, (.stmts (fB 22)), fS 22, 0, [], .none, .none, .none, .none, none, .none, .none, 0⟩), #[]⟩
noncomputable abbrev oH_64 (P : Params) : Obj := ⟨(.type "code"), none, (.fields #[(.str "body_encode" 1769), (.str "body_encode" 1770), (.str "/claim/cut.py" 1771), (.int 35 0), (.int 3 0), (.int 0 0), (.int 0 0), (.int 3 0), (.ref 59), (.bool true), (.int 181 0), (.ref 60), .none, (.ref 61), (.ref 62), (.ref 63), (.int 1785 0), (.int 35 0), (.str "/claim/cut.py" 1786)]), #[]⟩
noncomputable abbrev oH_65 (P : Params) : Obj := ⟨(.type "function"), none, (.func ⟨"body_encode", "body_encode", fP 22, (.stmts (fB 22)), fS 22, 3, [], (.ref 58), .none, .none, (.str "cpy313.email.quoprimime" 1247), none, (.ref 64), .none, 0⟩), #[]⟩
noncomputable abbrev oH_66 (P : Params) : Obj := ⟨(.type "tuple"), none, (.seq #[(.str "\n" 202)] 0), #[]⟩
noncomputable abbrev oH_67 (P : Params) : Obj := ⟨(.type "tuple"), none, (.seq #[] 0), #[]⟩
noncomputable abbrev oH_68 (P : Params) : Obj := ⟨.none, none, (.fields #[]), #[]⟩
noncomputable abbrev oH_69 (P : Params) : Obj := ⟨(.type "tuple"), none, (.seq #[(.str "encoded" 1791), (.str "eol" 1792), (.str "decoded" 1793), (.str "line" 1794), (.str "i" 1795), (.str "n" 1796), (.str "c" 1797)] 0), #[]⟩
noncomputable abbrev oH_70 (P : Params) : Obj := ⟨(.type "tuple"), none, (.seq #[] 0), #[]⟩
noncomputable abbrev oH_71 (P : Params) : Obj := ⟨.none, none, (.func ⟨"decode", "decode", fP 23, (.stmts (fB 23)), fS 23, 0, [], .none, .none, .none, .none, none, .none, .none, 0⟩), #[]⟩
noncomputable abbrev oH_72 (P : Params) : Obj := ⟨(.type "code"), none, (.fields #[(.str "decode" 1788), (.str "decode" 1789), (.str "/claim/cut.py" 1790), (.int 73 0), (.int 2 0), (.int 0 0), (.int 0 0), (.int 3 0), (.ref 67), (.bool true), (.int 181 0), (.ref 68), .none, (.ref 69), (.ref 70), (.ref 71), (.int 1798 0), (.int 73 0), (.str "/claim/cut.py" 1799)]), #[]⟩
noncomputable abbrev oH_73 (P : Params) : Obj := ⟨(.type "function"), none, (.func ⟨"decode", "decode", fP 23, (.stmts (fB 23)), fS 23, 3, [], (.ref 66), .none, .none, (.str "cpy313.email.quoprimime" 1247), none, (.ref 72), .none, 0⟩), #[]⟩
noncomputable abbrev oH_74 (P : Params) : Obj := ⟨(.type "tuple"), none, (.seq #[] 0), #[]⟩
noncomputable abbrev oH_75 (P : Params) : Obj := ⟨.none, none, (.fields #[]), #[]⟩
noncomputable abbrev oH_76 (P : Params) : Obj := ⟨(.type "tuple"), none, (.seq #[(.str "x" 1806)] 0), #[]⟩
noncomputable abbrev oH_77 (P : Params) : Obj := ⟨(.type "tuple"), none, (.seq #[] 0), #[]⟩
noncomputable abbrev oH_78 (P : Params) : Obj := ⟨.none, none, (.func ⟨"_law_sign", "_law_sign", fP 25, (.stmts (fB 25)), fS 25, 0, [], .none, .none, .none, .none, none, .none, .none, 0⟩), #[]⟩
noncomputable abbrev oH_79 (P : Params) : Obj := ⟨(.type "code"), none, (.fields #[(.str "_law_sign" 1803), (.str "_law_sign" 1804), (.str "/claim/cut.py" 1805), (.int 104 0), (.int 1 0), (.int 0 0), (.int 0 0), (.int 3 0), (.ref 74), (.bool true), (.int 181 0), (.ref 75), .none, (.ref 76), (.ref 77), (.ref 78), (.int 1807 0), (.int 104 0), (.str "/claim/cut.py" 1808)]), #[]⟩
noncomputable abbrev oH_80 (P : Params) : Obj := ⟨(.type "function"), none, (.func ⟨"_law_sign", "_law_sign", fP 25, (.stmts (fB 25)), fS 25, 3, [], .none, .none, .none, (.str "law_kl0519_01" 1801), none, (.ref 79), .none, 0⟩), #[]⟩
noncomputable abbrev oH_81 (P : Params) : Obj := ⟨(.type "tuple"), none, (.seq #[] 0), #[]⟩
noncomputable abbrev oH_82 (P : Params) : Obj := ⟨.none, none, (.fields #[]), #[]⟩
noncomputable abbrev oH_83 (P : Params) : Obj := ⟨(.type "tuple"), none, (.seq #[(.str "text" 1813), (.str "figures" 1814), (.str "mark" 1815), (.str "told" 1816), (.str "sign" 1817), (.str "code" 1818)] 0), #[]⟩
noncomputable abbrev oH_84 (P : Params) : Obj := ⟨(.type "tuple"), none, (.seq #[] 0), #[]⟩
noncomputable abbrev oH_85 (P : Params) : Obj := ⟨.none, none, (.func ⟨"_law_told", "_law_told", fP 26, (.stmts (fB 26)), fS 26, 0, [], .none, .none, .none, .none, none, .none, .none, 0⟩), #[]⟩
noncomputable abbrev oH_86 (P : Params) : Obj := ⟨(.type "code"), none, (.fields #[(.str "_law_told" 1810), (.str "_law_told" 1811), (.str "/claim/cut.py" 1812), (.int 108 0), (.int 1 0), (.int 0 0), (.int 0 0), (.int 3 0), (.ref 81), (.bool true), (.int 181 0), (.ref 82), .none, (.ref 83), (.ref 84), (.ref 85), (.int 1819 0), (.int 108 0), (.str "/claim/cut.py" 1820)]), #[]⟩
noncomputable abbrev oH_87 (P : Params) : Obj := ⟨(.type "function"), none, (.func ⟨"_law_told", "_law_told", fP 26, (.stmts (fB 26)), fS 26, 3, [], .none, .none, .none, (.str "law_kl0519_01" 1801), none, (.ref 86), .none, 0⟩), #[]⟩
noncomputable abbrev oH_88 (P : Params) : Obj := ⟨(.type "tuple"), none, (.seq #[] 0), #[]⟩
noncomputable abbrev oH_89 (P : Params) : Obj := ⟨.none, none, (.fields #[]), #[]⟩
noncomputable abbrev oH_90 (P : Params) : Obj := ⟨(.type "tuple"), none, (.seq #[(.str "text" 1825), (.str "figures" 1826), (.str "sent" 1827), (.str "k" 1828), (.str "code" 1829), (.str "last" 1830)] 0), #[]⟩
noncomputable abbrev oH_91 (P : Params) : Obj := ⟨(.type "tuple"), none, (.seq #[] 0), #[]⟩
noncomputable abbrev oH_92 (P : Params) : Obj := ⟨.none, none, (.func ⟨"_law_sent", "_law_sent", fP 27, (.stmts (fB 27)), fS 27, 0, [], .none, .none, .none, .none, none, .none, .none, 0⟩), #[]⟩
noncomputable abbrev oH_93 (P : Params) : Obj := ⟨(.type "code"), none, (.fields #[(.str "_law_sent" 1822), (.str "_law_sent" 1823), (.str "/claim/cut.py" 1824), (.int 123 0), (.int 1 0), (.int 0 0), (.int 0 0), (.int 3 0), (.ref 88), (.bool true), (.int 181 0), (.ref 89), .none, (.ref 90), (.ref 91), (.ref 92), (.int 1831 0), (.int 123 0), (.str "/claim/cut.py" 1832)]), #[]⟩
noncomputable abbrev oH_94 (P : Params) : Obj := ⟨(.type "function"), none, (.func ⟨"_law_sent", "_law_sent", fP 27, (.stmts (fB 27)), fS 27, 3, [], .none, .none, .none, (.str "law_kl0519_01" 1801), none, (.ref 93), .none, 0⟩), #[]⟩
noncomputable abbrev oH_95 (P : Params) : Obj := ⟨(.type "tuple"), none, (.seq #[] 0), #[]⟩
noncomputable abbrev oH_96 (P : Params) : Obj := ⟨.none, none, (.fields #[]), #[]⟩
noncomputable abbrev oH_97 (P : Params) : Obj := ⟨(.type "tuple"), none, (.seq #[(.str "told" 1837), (.str "text" 1838), (.str "place" 1839)] 0), #[]⟩
noncomputable abbrev oH_98 (P : Params) : Obj := ⟨(.type "tuple"), none, (.seq #[] 0), #[]⟩
noncomputable abbrev oH_99 (P : Params) : Obj := ⟨.none, none, (.func ⟨"_law_read", "_law_read", fP 28, (.stmts (fB 28)), fS 28, 0, [], .none, .none, .none, .none, none, .none, .none, 0⟩), #[]⟩
noncomputable abbrev oH_100 (P : Params) : Obj := ⟨(.type "code"), none, (.fields #[(.str "_law_read" 1834), (.str "_law_read" 1835), (.str "/claim/cut.py" 1836), (.int 134 0), (.int 1 0), (.int 0 0), (.int 0 0), (.int 3 0), (.ref 95), (.bool true), (.int 181 0), (.ref 96), .none, (.ref 97), (.ref 98), (.ref 99), (.int 1840 0), (.int 134 0), (.str "/claim/cut.py" 1841)]), #[]⟩
noncomputable abbrev oH_101 (P : Params) : Obj := ⟨(.type "function"), none, (.func ⟨"_law_read", "_law_read", fP 28, (.stmts (fB 28)), fS 28, 3, [], .none, .none, .none, (.str "law_kl0519_01" 1801), none, (.ref 100), .none, 0⟩), #[]⟩
noncomputable abbrev oH_102 (P : Params) : Obj := ⟨(.type "tuple"), none, (.seq #[] 0), #[]⟩
noncomputable abbrev oH_103 (P : Params) : Obj := ⟨.none, none, (.fields #[]), #[]⟩
noncomputable abbrev oH_104 (P : Params) : Obj := ⟨(.type "tuple"), none, (.seq #[(.str "text" 1846), (.str "k" 1847), (.str "code" 1848)] 0), #[]⟩
noncomputable abbrev oH_105 (P : Params) : Obj := ⟨(.type "tuple"), none, (.seq #[] 0), #[]⟩
noncomputable abbrev oH_106 (P : Params) : Obj := ⟨.none, none, (.func ⟨"_law_even", "_law_even", fP 29, (.stmts (fB 29)), fS 29, 0, [], .none, .none, .none, .none, none, .none, .none, 0⟩), #[]⟩
noncomputable abbrev oH_107 (P : Params) : Obj := ⟨(.type "code"), none, (.fields #[(.str "_law_even" 1843), (.str "_law_even" 1844), (.str "/claim/cut.py" 1845), (.int 148 0), (.int 1 0), (.int 0 0), (.int 0 0), (.int 3 0), (.ref 102), (.bool true), (.int 181 0), (.ref 103), .none, (.ref 104), (.ref 105), (.ref 106), (.int 1849 0), (.int 148 0), (.str "/claim/cut.py" 1850)]), #[]⟩
noncomputable abbrev oH_108 (P : Params) : Obj := ⟨(.type "function"), none, (.func ⟨"_law_even", "_law_even", fP 29, (.stmts (fB 29)), fS 29, 3, [], .none, .none, .none, (.str "law_kl0519_01" 1801), none, (.ref 107), .none, 0⟩), #[]⟩
noncomputable abbrev oH_109 (P : Params) : Obj := ⟨(.type "tuple"), none, (.seq #[] 0), #[]⟩
noncomputable abbrev oH_110 (P : Params) : Obj := ⟨.none, none, (.fields #[]), #[]⟩
noncomputable abbrev oH_111 (P : Params) : Obj := ⟨(.type "tuple"), none, (.seq #[(.str "text" 1855), (.str "order" 1856), (.str "laid" 1857), (.str "step" 1858)] 0), #[]⟩
noncomputable abbrev oH_112 (P : Params) : Obj := ⟨(.type "tuple"), none, (.seq #[] 0), #[]⟩
noncomputable abbrev oH_113 (P : Params) : Obj := ⟨.none, none, (.func ⟨"_law_laid", "_law_laid", fP 30, (.stmts (fB 30)), fS 30, 0, [], .none, .none, .none, .none, none, .none, .none, 0⟩), #[]⟩
noncomputable abbrev oH_114 (P : Params) : Obj := ⟨(.type "code"), none, (.fields #[(.str "_law_laid" 1852), (.str "_law_laid" 1853), (.str "/claim/cut.py" 1854), (.int 156 0), (.int 2 0), (.int 0 0), (.int 0 0), (.int 3 0), (.ref 109), (.bool true), (.int 181 0), (.ref 110), .none, (.ref 111), (.ref 112), (.ref 113), (.int 1859 0), (.int 156 0), (.str "/claim/cut.py" 1860)]), #[]⟩
noncomputable abbrev oH_115 (P : Params) : Obj := ⟨(.type "function"), none, (.func ⟨"_law_laid", "_law_laid", fP 30, (.stmts (fB 30)), fS 30, 3, [], .none, .none, .none, (.str "law_kl0519_01" 1801), none, (.ref 114), .none, 0⟩), #[]⟩
noncomputable abbrev oH_116 (P : Params) : Obj := ⟨(.type "tuple"), none, (.seq #[] 0), #[]⟩
noncomputable abbrev oH_117 (P : Params) : Obj := ⟨.none, none, (.fields #[]), #[]⟩
noncomputable abbrev oH_118 (P : Params) : Obj := ⟨.none, none, (.func ⟨"law", "law", fP 31, (.stmts (fB 31)), fS 31, 0, [], .none, .none, .none, .none, none, .none, .none, 0⟩), #[]⟩
noncomputable abbrev oH_119 (P : Params) : Obj := ⟨(.type "code"), none, (.fields #[(.str "law" 1862), (.str "law" 1863), (.str "/claim/cut.py" 1864), (.int 161 0), (.int 1 0), (.int 0 0), (.int 0 0), (.int 3 0), (.ref 116), (.bool true), (.int 181 0), (.ref 117), .none, .none, .none, (.ref 118), (.int 1865 0), (.int 161 0), (.str "/claim/cut.py" 1866)]), #[]⟩
noncomputable abbrev oH_120 (P : Params) : Obj := ⟨(.type "function"), none, (.func ⟨"law", "law", fP 31, (.stmts (fB 31)), fS 31, 3, [], .none, .none, .none, (.str "law_kl0519_01" 1801), none, (.ref 119), .none, 0⟩), #[]⟩
noncomputable abbrev tH (P : Params) : BT := (.node (boot_o_0 P) (.node (boot_o_1 P) (.node (oH_3 P) (.node (boot_o_7 P) (.node (oB_15 P) (.node (oD_31 P) (.node (oH_63 P) .nil .nil) (.node (oH_95 P) .nil .nil)) (.node (oH_47 P) (.node (oH_79 P) .nil .nil) (.node (oH_111 P) .nil .nil))) (.node (oC1_23 P) (.node (oH_39 P) (.node (oH_71 P) .nil .nil) (.node (oH_103 P) .nil .nil)) (.node (oH_55 P) (.node (oH_87 P) .nil .nil) (.node (oH_119 P) .nil .nil)))) (.node (oA_11 P) (.node (oB_19 P) (.node (oE2_35 P) (.node (oH_67 P) .nil .nil) (.node (oH_99 P) .nil .nil)) (.node (oH_51 P) (.node (oH_83 P) .nil .nil) (.node (oH_115 P) .nil .nil))) (.node (oC2_27 P) (.node (oH_43 P) (.node (oH_75 P) .nil .nil) (.node (oH_107 P) .nil .nil)) (.node (oH_59 P) (.node (oH_91 P) .nil .nil) .nil)))) (.node (boot_o_5 P) (.node (boot_o_9 P) (.node (oB_17 P) (.node (oE2_33 P) (.node (oH_65 P) .nil .nil) (.node (oH_97 P) .nil .nil)) (.node (oH_49 P) (.node (oH_81 P) .nil .nil) (.node (oH_113 P) .nil .nil))) (.node (oC2_25 P) (.node (oH_41 P) (.node (oH_73 P) .nil .nil) (.node (oH_105 P) .nil .nil)) (.node (oH_57 P) (.node (oH_89 P) .nil .nil) .nil))) (.node (oA_13 P) (.node (oB_21 P) (.node (oG2_37 P) (.node (oH_69 P) .nil .nil) (.node (oH_101 P) .nil .nil)) (.node (oH_53 P) (.node (oH_85 P) .nil .nil) (.node (oH_117 P) .nil .nil))) (.node (oD_29 P) (.node (oH_45 P) (.node (oH_77 P) .nil .nil) (.node (oH_109 P) .nil .nil)) (.node (oH_61 P) (.node (oH_93 P) .nil .nil) .nil))))) (.node (boot_o_2 P) (.node (boot_o_4 P) (.node (boot_o_8 P) (.node (oB_16 P) (.node (oG2_32 P) (.node (oH_64 P) .nil .nil) (.node (oH_96 P) .nil .nil)) (.node (oH_48 P) (.node (oH_80 P) .nil .nil) (.node (oH_112 P) .nil .nil))) (.node (oC2_24 P) (.node (oH_40 P) (.node (oH_72 P) .nil .nil) (.node (oH_104 P) .nil .nil)) (.node (oH_56 P) (.node (oH_88 P) .nil .nil) (.node (oH_120 P) .nil .nil)))) (.node (oH_12 P) (.node (oB_20 P) (.node (oG2_36 P) (.node (oH_68 P) .nil .nil) (.node (oH_100 P) .nil .nil)) (.node (oH_52 P) (.node (oH_84 P) .nil .nil) (.node (oH_116 P) .nil .nil))) (.node (oC2_28 P) (.node (oH_44 P) (.node (oH_76 P) .nil .nil) (.node (oH_108 P) .nil .nil)) (.node (oH_60 P) (.node (oH_92 P) .nil .nil) .nil)))) (.node (boot_o_6 P) (.node (boot_o_10 P) (.node (oB_18 P) (.node (oE2_34 P) (.node (oH_66 P) .nil .nil) (.node (oH_98 P) .nil .nil)) (.node (oH_50 P) (.node (oH_82 P) .nil .nil) (.node (oH_114 P) .nil .nil))) (.node (oC_26 P) (.node (oH_42 P) (.node (oH_74 P) .nil .nil) (.node (oH_106 P) .nil .nil)) (.node (oH_58 P) (.node (oH_90 P) .nil .nil) .nil))) (.node (oA_14 P) (.node (oB_22 P) (.node (oG2_38 P) (.node (oH_70 P) .nil .nil) (.node (oH_102 P) .nil .nil)) (.node (oH_54 P) (.node (oH_86 P) .nil .nil) (.node (oH_118 P) .nil .nil))) (.node (oF_30 P) (.node (oH_46 P) (.node (oH_78 P) .nil .nil) (.node (oH_110 P) .nil .nil)) (.node (oH_62 P) (.node (oH_94 P) .nil .nil) .nil))))))
noncomputable abbrev SH (w : World) (os : OsState) : SharedT := ⟨tH w.params, 121, ⟨[], [], [], 0, [], [], false, #[], [], 0, false, false, false, 0, [2000, 10, 10], false, 0, true, [], [], 0, false⟩, #[], ⟨0, 0, 0, 0⟩, 1868, os⟩
theorem segHf (w : World) (os : OsState) : segRunT treeTable pw (w.withFollow "special-get-raises" false) 11 (some (.ref 6)) 1 537 (SG (w.withFollow "special-get-raises" false) os) (piecesOf (sts 17 15) envB cB ⟨25, 9, 25, 110⟩ [topFrame qB]) = some (.next, SH (w.withFollow "special-get-raises" false) os, cB, ⟨161, 0, 177, 65⟩) := by kernel_rfl
theorem segHt (w : World) (os : OsState) : segRunT treeTable pw (w.withFollow "special-get-raises" true) 11 (some (.ref 6)) 1 537 (SG (w.withFollow "special-get-raises" true) os) (piecesOf (sts 17 15) envB cB ⟨25, 9, 25, 110⟩ [topFrame qB]) = some (.next, SH (w.withFollow "special-get-raises" true) os, cB, ⟨161, 0, 177, 65⟩) := by kernel_rfl
theorem runH (w : World) (os : OsState) : segRun treeTable pw w 11 (some (.ref 6)) 1 537 (SG w os).abs (piecesOf (sts 17 15) envB cB ⟨25, 9, 25, 110⟩ [topFrame qB]) = some (.next, (SH w os).abs, cB, ⟨161, 0, 177, 65⟩) :=
  segRun_of (byRow2 "special-get-raises" (P := fun w => segRunT treeTable pw w 11 (some (.ref 6)) 1 537 (SG w os) (piecesOf (sts 17 15) envB cB ⟨25, 9, 25, 110⟩ [topFrame qB]) = some (.next, SH w os, cB, ⟨161, 0, 177, 65⟩)) (fun w => segHf w os) (fun w => segHt w os) w)
noncomputable def heapF (P : Params) : Heap := ⟨⟨[boot_o_0 P, boot_o_1 P, boot_o_2 P, oH_3 P, boot_o_4 P, boot_o_5 P, boot_o_6 P, boot_o_7 P, boot_o_8 P, boot_o_9 P, boot_o_10 P, oA_11 P, oH_12 P, oA_13 P, oA_14 P, oB_15 P, oB_16 P, oB_17 P, oB_18 P, oB_19 P, oB_20 P, oB_21 P, oB_22 P, oC1_23 P, oC2_24 P, oC2_25 P, oC_26 P, oC2_27 P, oC2_28 P, oD_29 P, oF_30 P, oD_31 P, oG2_32 P, oE2_33 P, oE2_34 P, oE2_35 P, oG2_36 P, oG2_37 P, oG2_38 P, oH_39 P, oH_40 P, oH_41 P, oH_42 P, oH_43 P, oH_44 P, oH_45 P, oH_46 P, oH_47 P, oH_48 P, oH_49 P, oH_50 P, oH_51 P, oH_52 P, oH_53 P, oH_54 P, oH_55 P, oH_56 P, oH_57 P, oH_58 P, oH_59 P, oH_60 P, oH_61 P, oH_62 P, oH_63 P, oH_64 P, oH_65 P, oH_66 P, oH_67 P, oH_68 P, oH_69 P, oH_70 P, oH_71 P, oH_72 P, oH_73 P, oH_74 P, oH_75 P, oH_76 P, oH_77 P, oH_78 P, oH_79 P, oH_80 P, oH_81 P, oH_82 P, oH_83 P, oH_84 P, oH_85 P, oH_86 P, oH_87 P, oH_88 P, oH_89 P, oH_90 P, oH_91 P, oH_92 P, oH_93 P, oH_94 P, oH_95 P, oH_96 P, oH_97 P, oH_98 P, oH_99 P, oH_100 P, oH_101 P, oH_102 P, oH_103 P, oH_104 P, oH_105 P, oH_106 P, oH_107 P, oH_108 P, oH_109 P, oH_110 P, oH_111 P, oH_112 P, oH_113 P, oH_114 P, oH_115 P, oH_116 P, oH_117 P, oH_118 P, oH_119 P, oH_120 P]⟩, ⟨[], [], [], 0, [], [], false, #[], [], 0, false, false, false, 0, [2000, 10, 10], false, 0, true, [], [], 0, false⟩⟩
theorem finGo (w : World) (os : OsState) : topRun treeTable pw w 11 (some (.ref 6)) 2 (SH w os).abs ⟨doneF .next, cB, ⟨161, 0, 177, 65⟩, [topFrame qB]⟩ = some ⟨heapF w.params, ⟨[]⟩, ⟨0, 0, 0, 0⟩, 1868, os⟩ := by kernel_rfl
theorem bdy_eq : bdy = sts 0 5 ++ (sts 5 1 ++ (sts 6 8 ++ (sts 14 1 ++ (sts 15 1 ++ (sts 16 1 ++ (sts 17 15 ++ [])))))) := by kernel_rfl
theorem topAll (w : World) (os : OsState) : topRun treeTable pw w 11 (some (.ref 6)) (12 + (1 + (88 + (9571 + (152 + (3096 + (44 + (4322 + (537 + 2))))))))) ⟨boot_heap w.params, ⟨[]⟩, boot_drawn, boot_toks, os⟩ (topStub pw) = some ⟨heapF w.params, ⟨[]⟩, ⟨0, 0, 0, 0⟩, 1868, os⟩ :=
  go_top (preGo w os) (piece_block (blkGo w os) ((congrArg (fun l => topRun treeTable pw w 11 (some (.ref 6)) _ _ (restOf l envB cB _ [topFrame qB])) bdy_eq).trans (piece_app (runB w os) (piece_app (runC w os) (piece_app (runD w os) (piece_app (runE w os) (piece_app (runF w os) (piece_app (runG w os) (piece_app (runH w os) (piece_nil (finGo w os)))))))))))
-- total 17825 N 35466
-- keep [1, 3, 4, 5, 6, 7, 8, 9, 10, 11, 12, 17, 18, 19, 25, 26, 27, 28, 29, 30, 31] loose [safe_repr, _QUOPRI_MAP, _QUOPRI_HEADER_MAP, _QUOPRI_BODY_MAP, ascii_letters, hexdigits, _QUOPRI_BODY_ENCODE_MAP, body_encode, decode] lv [ascii_letters, hexdigits]
noncomputable def qV : Program := { pw with main := { pw.main with body := [1, 3, 4, 5, 6, 7, 8, 9, 10, 11, 12, 17, 18, 19, 25, 26, 27, 28, 29, 30, 31].filterMap (fun i => pw.main.body[i]?) } }
noncomputable def KF (P : Params) : Frag := (nat_lit 2, boot_o_2 P) :: (nat_lit 3, oH_3 P) :: (nat_lit 6, boot_o_6 P) :: (nat_lit 15, oB_15 P) :: (nat_lit 16, oB_16 P) :: (nat_lit 18, oB_18 P) :: (nat_lit 19, oB_19 P) :: (nat_lit 21, oB_21 P) :: (nat_lit 22, oB_22 P) :: (nat_lit 25, oC2_25 P) :: (nat_lit 30, oF_30 P) :: (nat_lit 32, oG2_32 P) :: (nat_lit 39, oH_39 P) :: (nat_lit 41, oH_41 P) :: (nat_lit 42, oH_42 P) :: (nat_lit 44, oH_44 P) :: (nat_lit 45, oH_45 P) :: (nat_lit 46, oH_46 P) :: (nat_lit 48, oH_48 P) :: (nat_lit 49, oH_49 P) :: (nat_lit 51, oH_51 P) :: (nat_lit 52, oH_52 P) :: (nat_lit 54, oH_54 P) :: (nat_lit 58, oH_58 P) :: (nat_lit 59, oH_59 P) :: (nat_lit 61, oH_61 P) :: (nat_lit 62, oH_62 P) :: (nat_lit 64, oH_64 P) :: (nat_lit 65, oH_65 P) :: (nat_lit 66, oH_66 P) :: (nat_lit 67, oH_67 P) :: (nat_lit 69, oH_69 P) :: (nat_lit 70, oH_70 P) :: (nat_lit 72, oH_72 P) :: (nat_lit 73, oH_73 P) :: (nat_lit 74, oH_74 P) :: (nat_lit 76, oH_76 P) :: (nat_lit 77, oH_77 P) :: (nat_lit 79, oH_79 P) :: (nat_lit 80, oH_80 P) :: (nat_lit 81, oH_81 P) :: (nat_lit 83, oH_83 P) :: (nat_lit 84, oH_84 P) :: (nat_lit 86, oH_86 P) :: (nat_lit 87, oH_87 P) :: (nat_lit 88, oH_88 P) :: (nat_lit 90, oH_90 P) :: (nat_lit 91, oH_91 P) :: (nat_lit 93, oH_93 P) :: (nat_lit 94, oH_94 P) :: (nat_lit 95, oH_95 P) :: (nat_lit 97, oH_97 P) :: (nat_lit 98, oH_98 P) :: (nat_lit 100, oH_100 P) :: (nat_lit 101, oH_101 P) :: (nat_lit 102, oH_102 P) :: (nat_lit 104, oH_104 P) :: (nat_lit 105, oH_105 P) :: (nat_lit 107, oH_107 P) :: (nat_lit 108, oH_108 P) :: (nat_lit 109, oH_109 P) :: (nat_lit 111, oH_111 P) :: (nat_lit 112, oH_112 P) :: (nat_lit 114, oH_114 P) :: (nat_lit 115, oH_115 P) :: (nat_lit 116, oH_116 P) :: (nat_lit 119, oH_119 P) :: (nat_lit 120, oH_120 P) :: []
noncomputable def KA : List Addr := [2, 3, 6, 15, 16, 18, 19, 21, 22, 25, 30, 32, 39, 41, 42, 44, 45, 46, 48, 49, 51, 52, 54, 58, 59, 61, 62, 64, 65, 66, 67, 69, 70, 72, 73, 74, 76, 77, 79, 80, 81, 83, 84, 86, 87, 88, 90, 91, 93, 94, 95, 97, 98, 100, 101, 102, 104, 105, 107, 108, 109, 111, 112, 114, 115, 116, 119, 120]
noncomputable def lvF : List (Str × WData) := [("ascii_letters", (.str ⟨#[97, 98, 99, 100, 101, 102, 103, 104, 105, 106, 107, 108, 109, 110, 111, 112, 113, 114, 115, 116, 117, 118, 119, 120, 121, 122, 65, 66, 67, 68, 69, 70, 71, 72, 73, 74, 75, 76, 77, 78, 79, 80, 81, 82, 83, 84, 85, 86, 87, 88, 89, 90]⟩)), ("hexdigits", (.str ⟨#[48, 49, 50, 51, 52, 53, 54, 55, 56, 57, 97, 98, 99, 100, 101, 102, 65, 66, 67, 68, 69, 70]⟩))]
noncomputable def looseF : List Str := ["safe_repr", "_QUOPRI_MAP", "_QUOPRI_HEADER_MAP", "_QUOPRI_BODY_MAP", "ascii_letters", "hexdigits", "_QUOPRI_BODY_ENCODE_MAP", "body_encode", "decode"]
end
end Mine

/-! Hd2 -/
noncomputable section
open PySem PySem.W PySem.Calls PyProof.Rows
set_option maxRecDepth 100000
set_option maxHeartbeats 0
set_option linter.all false
namespace Mine
noncomputable section
theorem saidF : OpenLaw.wellSaid PySem.Challenge.rw_kl0519_01 = true := by kernel_rfl
theorem sizeF (w : World) : ((boot_heap w.params).isNs mainGlobals && (⟨[]⟩ : Array GenState).size == 0, (boot_heap w.params).objs.size, (boot_heap w.params).nsMap mainGlobals "__annotations__") = (true, 11, some (.ref 6)) := by kernel_rfl
theorem bootF (w : World) : (importEnds treeTable (opening pw) w 600 (start (opening pw)).1 (start (opening pw)).2).map (fun s => (s.heap, s.gens, s.drawn, s.toks)) = some (boot_heap w.params, ⟨[]⟩, boot_drawn, boot_toks) := by kernel_rfl
theorem fenceF (s : Shared) : fenceModules? pw s = some s := by kernel_rfl
theorem openF (w : World) : (fencedOpening treeTable pw w 35466).map (fun s => (s.heap, s.gens, s.drawn, s.toks)) = some (boot_heap w.params, ⟨[]⟩, boot_drawn, boot_toks) := by
  obtain ⟨s, hs, hv⟩ := Option.map_eq_some_iff.mp (bootF w)
  have m := importEnds_mono 34866 _ _ _ _ hs
  unfold fencedOpening
  rw [show (35466 : Nat) = 600 + 34866 from rfl, m]
  show (fenceModules? pw s).map _ = _
  rw [fenceF s]
  exact congrArg some hv
theorem keyE : ∀ P, KA = (KF P).map (·.1) := fun P => by kernel_rfl
noncomputable def HK : Hook := kHook KF KA keyE
noncomputable abbrev rr := PySem.Challenge.rw_kl0519_01.row.toRowW
noncomputable abbrev XtF : Shared → Bool := fun s => xlAt qV lvF s && recOk rr.records s
noncomputable abbrev SF' (w : World) (os : OsState) : Shared := ⟨heapF w.params, ⟨[]⟩, ⟨0, 0, 0, 0⟩, 1868, os⟩
theorem looksF (w : World) : (fun os => ((staticsOk (importedModules pw.main.body) (boot_heap w.params) (heapF w.params) && namesBound pw (heapF w.params) && gensDone (SF' w os) && laidKept (boot_heap w.params) (heapF w.params)),
    openSeen qV looseF (importedModules pw.main.body) XtF true (SF' w os), Hook.obs HK (SF' w os))) = fun _ => (true, openGood qV looseF, Hook.val HK w) := funext fun os => by kernel_rfl
theorem leF : Nat.ble 17825 35466 = true := rfl
theorem leftF : LeftO pw qV looseF XtF (Hook.obs HK) (Hook.val HK) 35466 true :=
  LeftO.of_pieces (H₀ := boot_heap) (H₁ := heapF) (gs₀ := ⟨[]⟩) (gs₁ := ⟨[]⟩) (d₀ := boot_drawn) (d₁ := ⟨0, 0, 0, 0⟩) (k₀ := boot_toks) (k₁ := 1868) openF sizeF topAll leF looksF
end
end Mine
end

/-! Pl1 -/
noncomputable section
open PySem PySem.W PySem.Spec PySem.Calls PyProof.Rows
set_option linter.all false
namespace Mine
/-- a text holds no place of the other -/
noncomputable abbrev noOcc (x y : Str) : Bool := (Builtin.Str.occurrences x y 0 x.length 1).isEmpty
noncomputable def markS (x : Str) : Str := bif noOcc x "'" then "'" else bif noOcc x "\"" then "\"" else "'"
theorem mk1 {x : Str} (h : noOcc x "'" = true) : markS x = "'" := by unfold markS; rw [h]; rfl
theorem mk2 {x : Str} (h : noOcc x "'" = false) (k : noOcc x "\"" = true) : markS x = "\"" := by unfold markS; rw [h, k]; rfl
theorem mk3 {x : Str} (h : noOcc x "'" = false) (k : noOcc x "\"" = false) : markS x = "'" := by unfold markS; rw [h, k]; rfl
noncomputable abbrev figL : Str := "0123456789abcdef"
noncomputable abbrev tnrT : Str := "\t\n\x0d"
noncomputable def stepTold (q : Str) (n : Nat) : Str :=
  bif (⟨#[n]⟩ : Str) == q then "\\" ++ ⟨#[n]⟩ else
  bif (⟨#[n]⟩ : Str) == "\\" then "\\" ++ ⟨#[n]⟩ else
  bif noOcc tnrT ⟨#[n]⟩ then
    (if (n : Int) < 32 then ("\\x" : Str) ++ Txt.item figL ((n : Int).fdiv 16) ++ Txt.item figL ((n : Int).fmod 16) else
     if (n : Int) = 127 then ("\\x" : Str) ++ Txt.item figL ((n : Int).fdiv 16) ++ Txt.item figL ((n : Int).fmod 16) else ⟨#[n]⟩)
  else "\\" ++ Txt.item "tnr" (Txt.find tnrT ⟨#[n]⟩)
section
variable {q : Str} {n : Nat}
theorem st1 (h1 : ((⟨#[n]⟩ : Str) == q) = true) : stepTold q n = "\\" ++ ⟨#[n]⟩ := by unfold stepTold; rw [h1]; rfl
theorem st2 (h1 : ((⟨#[n]⟩ : Str) == q) = false) (h2 : ((⟨#[n]⟩ : Str) == "\\") = true) : stepTold q n = "\\" ++ ⟨#[n]⟩ := by unfold stepTold; rw [h1, h2]; rfl
theorem st3 (h1 : ((⟨#[n]⟩ : Str) == q) = false) (h2 : ((⟨#[n]⟩ : Str) == "\\") = false) (h3 : noOcc tnrT ⟨#[n]⟩ = true) (h4 : (n : Int) < 32) :
    stepTold q n = ("\\x" : Str) ++ Txt.item figL ((n : Int).fdiv 16) ++ Txt.item figL ((n : Int).fmod 16) := by unfold stepTold; rw [h1, h2, h3, if_pos h4]; rfl
theorem st4 (h1 : ((⟨#[n]⟩ : Str) == q) = false) (h2 : ((⟨#[n]⟩ : Str) == "\\") = false) (h3 : noOcc tnrT ⟨#[n]⟩ = true) (h4 : ¬ (n : Int) < 32) (h5 : (n : Int) = 127) :
    stepTold q n = ("\\x" : Str) ++ Txt.item figL ((n : Int).fdiv 16) ++ Txt.item figL ((n : Int).fmod 16) := by unfold stepTold; rw [h1, h2, h3, if_neg h4, if_pos h5]; rfl
theorem st5 (h1 : ((⟨#[n]⟩ : Str) == q) = false) (h2 : ((⟨#[n]⟩ : Str) == "\\") = false) (h3 : noOcc tnrT ⟨#[n]⟩ = true) (h4 : ¬ (n : Int) < 32) (h5 : (n : Int) ≠ 127) :
    stepTold q n = ⟨#[n]⟩ := by unfold stepTold; rw [h1, h2, h3, if_neg h4, if_neg h5]; rfl
theorem st6 (h1 : ((⟨#[n]⟩ : Str) == q) = false) (h2 : ((⟨#[n]⟩ : Str) == "\\") = false) (h3 : noOcc tnrT ⟨#[n]⟩ = false) :
    stepTold q n = "\\" ++ Txt.item "tnr" (Txt.find tnrT ⟨#[n]⟩) := by unfold stepTold; rw [h1, h2, h3]; rfl
end
noncomputable def toldF (x : Str) (pre : List Int) : Str := pre.foldl (fun acc n => acc ++ stepTold (markS x) n.toNat) (markS x)
noncomputable def toldS (x : Str) : Str := toldF x (KStt.codes x) ++ markS x
theorem told_start {x q : Str} (h : markS x = q) (hl : q.length ≤ 1) : q = toldF x [] ∧ q.length ≤ 4 * ([] : List Int).length + 1 := ⟨h.symm, by simpa using hl⟩
theorem told_turn {x fst out : Str} {pre : List Int} {n : Nat} (h : fst = toldF x pre) (hl : fst.length ≤ 4 * pre.length + 1) (hs : stepTold (markS x) n = out) (ho : out.length ≤ 4) :
    fst ++ out = toldF x (pre ++ [(n : Int)]) ∧ (fst ++ out).length ≤ 4 * (pre ++ [(n : Int)]).length + 1 := by
  subst h hs
  refine ⟨?_, ?_⟩
  · unfold toldF
    rw [List.foldl_append]
    rfl
  · rw [Str.length_append, List.length_append, List.length_singleton]; omega
theorem ln2 (n : Nat) : (("\\" : Str) ++ ⟨#[n]⟩).length ≤ 4 := by rw [Str.length_append]; show (("\\" : Str).length + 1 ≤ 4); decide
theorem ln4 (a b : Int) : (("\\x" : Str) ++ Txt.item figL a ++ Txt.item figL b).length ≤ 4 := by rw [Str.length_append, Str.length_append]; show (("\\x" : Str).length + 1 + 1 ≤ 4); decide
theorem lnt (a : Int) : (("\\" : Str) ++ Txt.item "tnr" a).length ≤ 4 := by rw [Str.length_append]; show (("\\" : Str).length + 1 ≤ 4); decide
theorem markS_len (x : Str) : (markS x).length = 1 := by unfold markS; cases noOcc x "'" <;> cases noOcc x "\"" <;> decide
section
variable {x fst : Str} {pre : List Int} {n : Nat} (h : fst = toldF x pre) (hl : fst.length ≤ 4 * pre.length + 1)
noncomputable abbrev ToldNext (x fst out : Str) (pre : List Int) (n : Nat) : Prop := fst ++ out = toldF x (pre ++ [(n : Int)]) ∧ (fst ++ out).length ≤ 4 * (pre ++ [(n : Int)]).length + 1
include h hl
theorem tw1 (h1 : ((⟨#[n]⟩ : Str) == markS x) = true) : ToldNext x fst ("\\" ++ ⟨#[n]⟩) pre n := told_turn h hl (st1 h1) (ln2 n)
theorem tw2 (h1 : ((⟨#[n]⟩ : Str) == markS x) = false) (h2 : ((⟨#[n]⟩ : Str) == "\\") = true) : ToldNext x fst ("\\" ++ ⟨#[n]⟩) pre n := told_turn h hl (st2 h1 h2) (ln2 n)
theorem tw3 (h1 : ((⟨#[n]⟩ : Str) == markS x) = false) (h2 : ((⟨#[n]⟩ : Str) == "\\") = false) (h3 : noOcc tnrT ⟨#[n]⟩ = true) (h4 : (n : Int) < 32) :
    ToldNext x fst (("\\x" : Str) ++ Txt.item figL ((n : Int).fdiv 16) ++ Txt.item figL ((n : Int).fmod 16)) pre n := told_turn h hl (st3 h1 h2 h3 h4) (ln4 _ _)
theorem tw4 (h1 : ((⟨#[n]⟩ : Str) == markS x) = false) (h2 : ((⟨#[n]⟩ : Str) == "\\") = false) (h3 : noOcc tnrT ⟨#[n]⟩ = true) (h4 : ¬ (n : Int) < 32) (h5 : (n : Int) = 127) :
    ToldNext x fst (("\\x" : Str) ++ Txt.item figL ((n : Int).fdiv 16) ++ Txt.item figL ((n : Int).fmod 16)) pre n := told_turn h hl (st4 h1 h2 h3 h4 h5) (ln4 _ _)
theorem tw5 (h1 : ((⟨#[n]⟩ : Str) == markS x) = false) (h2 : ((⟨#[n]⟩ : Str) == "\\") = false) (h3 : noOcc tnrT ⟨#[n]⟩ = true) (h4 : ¬ (n : Int) < 32) (h5 : (n : Int) ≠ 127) :
    ToldNext x fst ⟨#[n]⟩ pre n := told_turn h hl (st5 h1 h2 h3 h4 h5) (by show 1 ≤ 4; decide)
theorem tw6 (h1 : ((⟨#[n]⟩ : Str) == markS x) = false) (h2 : ((⟨#[n]⟩ : Str) == "\\") = false) (h3 : noOcc tnrT ⟨#[n]⟩ = false) :
    ToldNext x fst ("\\" ++ Txt.item "tnr" (Txt.find tnrT ⟨#[n]⟩)) pre n := told_turn h hl (st6 h1 h2 h3) (lnt _)
end
theorem told_st (x : Str) : markS x = toldF x [] ∧ (markS x).length ≤ 4 * ([] : List Int).length + 1 := ⟨rfl, by rw [markS_len]; simp⟩
theorem wpAny_cut {α : Type} {M : Model} {A : Around} {t : Sem α} {P Q : α → Shared → Prop} {E : Value → Shared → Prop} {s : Shared} (h : wpAny M A t P E s) (k : ∀ v s', P v s' → Q v s') : wpAny M A t Q E s := wpAny_mono h k fun _ _ e => e
noncomputable def StrEnd (x : Str) (s : Shared) (v : Value) (s' : Shared) : Prop := ∃ t' k, v = .str x t' ∧ s' = { s with toks := k }
structure CutMark (y : Str) : Prop where
theorem cut_of {M : Model} {A : Around} {y : Str} {t : Sem Value} {Q : Value → Shared → Prop} {E : Value → Shared → Prop} {s : Shared} (_ : CutMark y) (h : wpAny M A t (StrEnd y s) E s) (k : ∀ t' k, Q (.str y t') { s with toks := k }) : wpAny M A t Q E s :=
  wpAny_mono h (fun v s' ⟨t', n, a, b⟩ => by subst a b; exact k t' n) fun _ _ e => e
theorem mkE1 {x : Str} {s : Shared} {t k : Nat} (h : noOcc x "'" = true) : StrEnd (markS x) s (.str "'" t) { s with toks := k } := ⟨t, k, by rw [mk1 h], rfl⟩
theorem mkE2 {x : Str} {s : Shared} {t k : Nat} (h : noOcc x "'" = false) (h2 : noOcc x "\"" = true) : StrEnd (markS x) s (.str "\"" t) { s with toks := k } := ⟨t, k, by rw [mk2 h h2], rfl⟩
theorem mkE3 {x : Str} {s : Shared} {t k : Nat} (h : noOcc x "'" = false) (h2 : noOcc x "\"" = false) : StrEnd (markS x) s (.str "'" t) { s with toks := k } := ⟨t, k, by rw [mk3 h h2], rfl⟩
theorem find_lt {n : Nat} (h : n < 128) : Txt.find tnrT ⟨#[n]⟩ < 3 := by
  revert n; decide +kernel
noncomputable abbrev Asc (x : Str) : Prop := ∀ c ∈ x.cps.toList, c < 128
theorem code_lt {x : Str} {pre post : List Int} {n : Nat} (hx : Asc x) (e : KStt.codes x = pre ++ (n : Int) :: post) : n < 128 := by
  have : (n : Int) ∈ KStt.codes x := by rw [e]; simp
  unfold KStt.codes at this
  obtain ⟨c, hc, e⟩ := List.mem_map.mp this
  have := hx c hc
  omega
theorem no_tnr {n : Nat} (h : noOcc tnrT ⟨#[n]⟩ = false) (k : noOcc tnrT ⟨#[n]⟩ = true) : False := by rw [h] at k; cases k
theorem told_end {x fst : Str} (h : fst = toldF x (KStt.codes x)) : fst ++ markS x = toldS x := by subst h; rfl
end Mine
end

/-! Pl2 -/
noncomputable section
open PySem PySem.W PySem.Spec PySem.Calls PyProof.Rows
set_option maxRecDepth 100000
set_option linter.all false
namespace Mine
/-- what is said of a call of one of the text's own defs: at any caller it hands back R and leaves all that stood -/
noncomputable abbrev MC (lv : Nat) (w : World) (loose : List Str) (mean : ExcName → Option Value) (mg mb : Str → Option Value) (f : Addr) (news : List (Addr × Obj)) (vs : List Value) (R : Tok → Value) : Prop :=
  ∀ (dp un : Nat) (gd : Option (List Code)) (cn : Str) (cs : Scope) (a : Addr) (ccd : Value) (cl : List (Str × Addr)) (outer : List Env) (A₀ : Around) (base h₀ : Heap) (L : Addr) (m : Str → Option Value) (s : Shared) (Q E : Value → Shared → Prop),
    Below A₀ base outer h₀ → Fr h₀ L s.heap m → (KF w.params).In h₀ → News h₀ L s.heap news → Top qV loose mean mg mb h₀ → cs.kind = .function →
    dp + lv < recursionLimit → un + 10 * lv < cLine →
      (∀ (t : Tok) (h' : Heap) (tk' : Nat), Fr h₀ L h' m → News h₀ L h' news → Q (R t) { s with heap := h', toks := tk' }) →
      wpAny (model PySem.Challenge.rw_kl0519_01.row.prog w) (ktrTop dp un gd cn cs L a ccd cl outer) (call (.ref f) vs) Q E s
theorem mc_call {lv : Nat} {w : World} {loose : List Str} {mean : ExcName → Option Value} {mg mb : Str → Option Value} {f : Addr} {news : List (Addr × Obj)} {vs : List Value} {R : Tok → Value} (C : MC lv w loose mean mg mb f news vs R)
    {dp un : Nat} {gd : Option (List Code)} {cn : Str} {cs : Scope} {a : Addr} {ccd : Value} {cl : List (Str × Addr)} {outer : List Env} {A₀ : Around} {base h₀ : Heap} {L : Addr} {m : Str → Option Value} {s : Shared} {Q E : Value → Shared → Prop}
    (B : Below A₀ base outer h₀) (F : Fr h₀ L s.heap m) (X : (KF w.params).In h₀) (N : News h₀ L s.heap news) (T : Top qV loose mean mg mb h₀) (hk : cs.kind = .function) (hd : dp + lv < recursionLimit) (hu : un + 10 * lv < cLine)
    (h : ∀ (t : Tok) (h' : Heap) (tk' : Nat), Fr h₀ L h' m → News h₀ L h' news → Q (R t) { s with heap := h', toks := tk' }) :
    wpAny (model PySem.Challenge.rw_kl0519_01.row.prog w) (ktrTop dp un gd cn cs L a ccd cl outer) (call (.ref f) vs) Q E s := C dp un gd cn cs a ccd cl outer A₀ base h₀ L m s Q E B F X N T hk hd hu h
end Mine
end

/-! Pl3 -/
noncomputable section
open PySem PySem.W PySem.Spec PySem.Calls PyProof.Rows
set_option maxRecDepth 100000
set_option linter.all false
namespace Mine
noncomputable abbrev figU : Str := "0123456789ABCDEF"
noncomputable abbrev cAt (x : Str) (k : Int) : Nat := (Txt.item x k).cps.getD 0 0
noncomputable abbrev in932 (c : Nat) : Bool := ([9, 32] : List Int).any fun y => y == (c : Int)
noncomputable abbrev in910 (c : Nat) : Bool := ([9, 10] : List Int).any fun y => y == (c : Int)
noncomputable abbrev lastB (x : Str) (k : Int) : Bool := ([Str.ofString "", Str.ofString "\n"]).any fun y => y == Txt.slice x (some (k + 1)) (some (k + 2))
noncomputable abbrev encS (c : Nat) : Str := ("=" : Str) ++ Txt.item figU ((c : Int).fdiv 16) ++ Txt.item figU ((c : Int).fmod 16)
noncomputable def stepSent (x : Str) (k : Int) : Str :=
  if (cAt x k : Int) = 10 then Txt.item x k else
  bif in932 (cAt x k) && !lastB x k then Txt.item x k else
  if 32 < (cAt x k : Int) then (if (cAt x k : Int) < 127 then (if (cAt x k : Int) = 61 then encS (cAt x k) else Txt.item x k) else encS (cAt x k)) else encS (cAt x k)
noncomputable def sentF (x : Str) (m : Nat) : Str := (List.range m).foldl (fun acc (k : Nat) => acc ++ stepSent x (k : Int)) ""
noncomputable def sentS (x : Str) : Str := sentF x x.length
noncomputable abbrev SentAt (x fst : Str) (pre : List Int) : Prop := fst = sentF x pre.length ∧ fst.length ≤ 3 * pre.length
theorem sent_st (x : Str) : SentAt x (Str.ofString "") ([] : List Int) := ⟨rfl, Nat.zero_le _⟩
theorem encS_len (c : Nat) : (encS c).length ≤ 3 := by
  rw [Str.length_append, Str.length_append]; show (("=" : Str).length + 1 + 1 ≤ 3); decide
section
variable {x fst out : Str} {pre : List Int} {k : Int} (h : fst = sentF x pre.length) (hl : fst.length ≤ 3 * pre.length) (hk : k = 0 + (pre.length : Int))
theorem sent_turn (h : fst = sentF x pre.length) (hl : fst.length ≤ 3 * pre.length) (hk : k = 0 + (pre.length : Int)) (hs : stepSent x k = out) (ho : out.length ≤ 3) : SentAt x (fst ++ out) (pre ++ [k]) := by
  subst h hs
  have hk' : k = (pre.length : Int) := by omega
  refine ⟨?_, ?_⟩
  · rw [List.length_append, List.length_singleton]
    unfold sentF
    rw [List.range_succ, List.foldl_append, hk']
    rfl
  · rw [Str.length_append, List.length_append, List.length_singleton]; omega
include h hl hk
theorem sw1 (h1 : (cAt x k : Int) = 10) : SentAt x (fst ++ Txt.item x k) (pre ++ [k]) := sent_turn h hl hk (by unfold stepSent; rw [if_pos h1]) (by show 1 ≤ 3; decide)
theorem sw3 (h1 : (cAt x k : Int) ≠ 10) (h2 : in932 (cAt x k) = true) (h3 : lastB x k = false) : SentAt x (fst ++ Txt.item x k) (pre ++ [k]) := sent_turn h hl hk (by unfold stepSent; rw [if_neg h1, h2, h3]; rfl) (by show 1 ≤ 3; decide)
theorem swI (h1 : (cAt x k : Int) ≠ 10) (h2 : (in932 (cAt x k) && !lastB x k) = false) (h3 : 32 < (cAt x k : Int)) (h4 : (cAt x k : Int) < 127) (h5 : (cAt x k : Int) ≠ 61) : SentAt x (fst ++ Txt.item x k) (pre ++ [k]) :=
  sent_turn h hl hk (by unfold stepSent; rw [if_neg h1, h2, if_pos h3, if_pos h4, if_neg h5]; rfl) (by show 1 ≤ 3; decide)
theorem swE1 (h1 : (cAt x k : Int) ≠ 10) (h2 : (in932 (cAt x k) && !lastB x k) = false) (h3 : ¬ 32 < (cAt x k : Int)) : SentAt x (fst ++ encS (cAt x k)) (pre ++ [k]) :=
  sent_turn h hl hk (by unfold stepSent; rw [if_neg h1, h2, if_neg h3]; rfl) (encS_len _)
theorem swE2 (h1 : (cAt x k : Int) ≠ 10) (h2 : (in932 (cAt x k) && !lastB x k) = false) (h3 : 32 < (cAt x k : Int)) (h4 : ¬ (cAt x k : Int) < 127) : SentAt x (fst ++ encS (cAt x k)) (pre ++ [k]) :=
  sent_turn h hl hk (by unfold stepSent; rw [if_neg h1, h2, if_pos h3, if_neg h4]; rfl) (encS_len _)
theorem swE3 (h1 : (cAt x k : Int) ≠ 10) (h2 : (in932 (cAt x k) && !lastB x k) = false) (h3 : 32 < (cAt x k : Int)) (h4 : (cAt x k : Int) < 127) (h5 : (cAt x k : Int) = 61) : SentAt x (fst ++ encS (cAt x k)) (pre ++ [k]) :=
  sent_turn h hl hk (by unfold stepSent; rw [if_neg h1, h2, if_pos h3, if_pos h4, if_pos h5]; rfl) (encS_len _)
end
theorem andF {a b : Bool} (h : a = false) : (a && !b) = false := by rw [h]; rfl
theorem andT {a b : Bool} (h : a = true) (k : b = true) : (a && !b) = false := by rw [h, k]; rfl
theorem cAt_lt {x : Str} {k : Int} {pre : List Int} (hx : Asc x) (hk : k = 0 + (pre.length : Int)) (hl : pre.length < ((x.length : Int) - 0).toNat) : (cAt x k : Int) < 128 := by
  have h0 : 0 ≤ k := by omega
  have h1 : k < x.length := by omega
  rw [cAt, item_at (n := k.toNat) h0 h1 rfl]
  have : k.toNat < x.cps.size := by have : x.cps.size = x.length := rfl; omega
  have hc := hx (x.cps.getD k.toNat 0) (by simp [Array.getD, this])
  show (((#[x.cps.getD k.toNat 0] : Array Nat).getD 0 0 : Nat) : Int) < 128
  exact Int.ofNat_lt.mpr hc
theorem sent_end {x fst : Str} (h : fst = sentF x (rangeKs 0 ((x.length : Int) - 0).toNat).length) : fst = sentS x := by
  rw [rangeKs_length] at h
  rw [h]
  show sentF x ((x.length : Int) - 0).toNat = sentF x x.length
  rw [show ((x.length : Int) - 0).toNat = x.length by omega]
/-! even -/
noncomputable def okE (x : Str) (k : Int) : Bool :=
  bif in910 (cAt x k) then !(in932 (cAt x k) && lastB x k) else
  if (cAt x k : Int) < 32 then false else if (cAt x k : Int) = 127 then false else !(in932 (cAt x k) && lastB x k)
noncomputable def EvenTo (x : Str) (m : Nat) : Prop := ∀ i : Nat, i < m → okE x (i : Int) = true
noncomputable def evenB (x : Str) : Bool := (List.range x.length).all fun i => okE x (i : Int)
theorem even_st (x : Str) : EvenTo x ([] : List Int).length := fun _ h => absurd h (Nat.not_lt_zero _)
theorem even_turn {x : Str} {pre : List Int} {k : Int} (h : EvenTo x pre.length) (hk : k = 0 + (pre.length : Int)) (ho : okE x k = true) : EvenTo x (pre ++ [k]).length := by
  intro i hi
  rw [List.length_append, List.length_singleton] at hi
  rcases Nat.lt_succ_iff_lt_or_eq.mp hi with h1 | h1
  · exact h i h1
  · have : (i : Int) = k := by omega
    rw [this]; exact ho
theorem even_no {x : Str} {pre : List Int} {k : Int} (hk : k = 0 + (pre.length : Int)) (hl : pre.length < ((x.length : Int) - 0).toNat) (ho : okE x k = false) : false = evenB x := by
  cases he : evenB x with
  | false => rfl
  | true =>
    have := List.all_eq_true.mp he k.toNat (List.mem_range.mpr (by omega))
    rw [show ((k.toNat : Nat) : Int) = k by omega, ho] at this
    cases this
theorem even_yes {x : Str} (h : EvenTo x (rangeKs 0 ((x.length : Int) - 0).toNat).length) : true = evenB x := by
  refine (List.all_eq_true.mpr fun i hi => ?_).symm
  refine h i ?_
  rw [rangeKs_length]
  have := List.mem_range.mp hi
  omega
section
variable {x : Str} {k : Int}
theorem ok1 (h1 : in910 (cAt x k) = true) (h2 : in932 (cAt x k) = false) : okE x k = true := by unfold okE; rw [h1, h2]; rfl
theorem ok2 (h1 : in910 (cAt x k) = true) (h2 : in932 (cAt x k) = true) (h3 : lastB x k = false) : okE x k = true := by unfold okE; rw [h1, h2, h3]; rfl
theorem ok3 (h1 : in910 (cAt x k) = false) (h4 : ¬ (cAt x k : Int) < 32) (h5 : (cAt x k : Int) ≠ 127) (h2 : in932 (cAt x k) = false) : okE x k = true := by unfold okE; rw [h1, h2, if_neg h4, if_neg h5]; rfl
theorem ok4 (h1 : in910 (cAt x k) = false) (h4 : ¬ (cAt x k : Int) < 32) (h5 : (cAt x k : Int) ≠ 127) (h2 : in932 (cAt x k) = true) (h3 : lastB x k = false) : okE x k = true := by unfold okE; rw [h1, h2, h3, if_neg h4, if_neg h5]; rfl
theorem no1 (h1 : in910 (cAt x k) = true) (h2 : in932 (cAt x k) = true) (h3 : lastB x k = true) : okE x k = false := by unfold okE; rw [h1, h2, h3]; rfl
theorem no2 (h1 : in910 (cAt x k) = false) (h4 : (cAt x k : Int) < 32) : okE x k = false := by unfold okE; rw [h1, if_pos h4]; rfl
theorem no3 (h1 : in910 (cAt x k) = false) (h4 : ¬ (cAt x k : Int) < 32) (h5 : (cAt x k : Int) = 127) : okE x k = false := by unfold okE; rw [h1, if_neg h4, if_pos h5]; rfl
theorem no4 (h1 : in910 (cAt x k) = false) (h4 : ¬ (cAt x k : Int) < 32) (h5 : (cAt x k : Int) ≠ 127) (h2 : in932 (cAt x k) = true) (h3 : lastB x k = true) : okE x k = false := by unfold okE; rw [h1, h2, h3, if_neg h4, if_neg h5]; rfl
end
end Mine
end

/-! U1 -/
noncomputable section
open PySem PySem.W PySem.Spec PySem.Calls PySem.NumText PyProof.Rows
set_option maxRecDepth 100000
set_option linter.all false
namespace Mine
noncomputable def hexL : List Nat := [48, 49, 50, 51, 52, 53, 54, 55, 56, 57, 97, 98, 99, 100, 101, 102, 65, 66, 67, 68, 69, 70]
noncomputable def hexV (c : Nat) : Nat := if c < 58 then c - 48 else if c < 71 then c - 55 else c - 87
noncomputable def hexPairs : List (Nat × Nat) := hexL.flatMap fun a => hexL.map fun b => (a, b)
theorem read_hex {a b : Nat} (ha : a ∈ hexL) (hb : b ∈ hexL) : (int_private% "readNumeral") 0 16 [a, b] = (int_private% "Numeral.value") ((hexV a * 16 + hexV b : Nat) : Int) := by
  have h : hexPairs.map (fun p => (int_private% "readNumeral") 0 16 [p.1, p.2]) = hexPairs.map (fun p => (int_private% "Numeral.value") ((hexV p.1 * 16 + hexV p.2 : Nat) : Int)) := by kernel_rfl
  exact List.map_inj_left.mp h (a, b) (List.mem_flatMap.mpr ⟨a, ha, List.mem_map.mpr ⟨b, hb, rfl⟩⟩)
theorem hex_lt {a : Nat} (h : a ∈ hexL) : a < 128 ∧ a ≠ 0 := by revert a; decide
theorem wp_hex {M : Model} {A : Around} {E : Value → Shared → Prop} {s : Shared} {Q : Value → Shared → Prop} {v : Value} {text : List Nat} {n : Int}
    (hs : (text.takeWhile (· != 0)).length ≤ 640) (hr : (int_private% "readNumeral") 0 16 (text.takeWhile (· != 0)) = (int_private% "Numeral.value") n)
    (ha : ((text.takeWhile (· != 0)).length == text.length) = true) (h : Q (.int n s.toks) { s with toks := s.toks + 1 }) :
    wpAny M A ((int_private% "intFromText") v text 16) Q E s := by
  obtain ⟨hp, g, d, tk, os⟩ := s
  repeat (any_goals (first
    | assumption
    | (with_reducible refine wpAny_ite_true (decide_eq_true hs) ?_)
    | (with_reducible refine wpAny_ite_true (decide_eq_true ha) ?_)
    | wp_step))
  all_goals (try rw [hr])
  all_goals (try dsimp only)
  repeat (any_goals (first
    | assumption
    | (with_reducible refine wpAny_ite_true (decide_eq_true hs) ?_)
    | (with_reducible refine wpAny_ite_true (decide_eq_true ha) ?_)
    | wp_step))
theorem wp_hexG {M : Model} {A : Around} {E : Value → Shared → Prop} {s : Shared} {Q : Value → Shared → Prop} {v : Value} {text l : List Nat} {base : Nat} {n : Int} (e1 : text = l) (e2 : base = 16)
    (hs : (l.takeWhile (· != 0)).length ≤ 640) (hr : (int_private% "readNumeral") 0 16 (l.takeWhile (· != 0)) = (int_private% "Numeral.value") n)
    (ha : ((l.takeWhile (· != 0)).length == l.length) = true) (h : Q (.int n s.toks) { s with toks := s.toks + 1 }) :
    wpAny M A ((int_private% "intFromText") v text base) Q E s := by subst e1 e2; exact wp_hex hs hr ha h
set_option maxHeartbeats 4000000 in
theorem gives_hex {a b : Nat} {u k : Tok} (ha : a ∈ hexL) (hb : b ∈ hexL) : Gives (Builtin.«int.__new__» ⟨[.type "int", .str ⟨#[a, b]⟩ u, .int 16 k], []⟩) (.int ((hexV a * 16 + hexV b : Nat) : Int)) :=
  .of_wp fun M A E s Q h => by
    obtain ⟨hp, g, d, tk, os⟩ := s
    have f1 := F.conv_sub_int
    have f2 := F.madeHere_int
    have hla := hex_lt ha
    have hlb := hex_lt hb
    have e : ([a, b] : List Nat).takeWhile (· != 0) = [a, b] := by simp [hla.2, hlb.2]
    have h1 : (([a, b] : List Nat).takeWhile (· != 0)).length ≤ 640 := by rw [e]; simp
    have h2 : (int_private% "readNumeral") 0 16 (([a, b] : List Nat).takeWhile (· != 0)) = (int_private% "Numeral.value") ((hexV a * 16 + hexV b : Nat) : Int) := by rw [e]; exact read_hex ha hb
    have h3 : ((([a, b] : List Nat).takeWhile (· != 0)).length == ([a, b] : List Nat).length) = true := by rw [e]; rfl
    have h4 : (#[a, b] : Array Nat).all (· < 128) = true := by simp [hla.1, hlb.1]
    repeat (any_goals (first
      | assumption
      | ((with_reducible show wpAny _ _ ((int_private% "intFromText") _ _ _) _ _ _); refine wp_hexG (if_pos h4) rfl h1 h2 h3 ?_)
      | wp_step))
    all_goals exact ⟨_, rfl, h⟩
section
variable {prog : Program} {w : World} {A : Around} {E : Value → Shared → Prop} {s : Shared}
theorem typeCall_int_2 (a b : Value) : checkTypeCall "int" ⟨[a, b], []⟩ = pure () := by kernel_rfl
theorem newCall_int_2 (a b : Value) : checkBuiltinCall "int.__new__" ⟨[.type "int", a, b], []⟩ = pure () := by kernel_rfl
theorem call_hex {a b : Nat} {u k : Tok} {Q : Value → Shared → Prop} (ha : a ∈ hexL) (hb : b ∈ hexL) (h : Q (.int ((hexV a * 16 + hexV b : Nat) : Int) s.toks) { s with toks := s.toks + 1 }) :
    wpAny (model prog w) A (call (.type "int") [.str ⟨#[a, b]⟩ u, .int 16 k]) Q E s :=
  callType_new F.called_int F.newNe_int (typeCall_int_2 _ _) (newCall_int_2 _ _) (fun obj => F.args_object_init_3 obj _ _) F.entry_int_new (gives_hex ha hb).meets (show (Made.int _).post _ s from ⟨rfl, h⟩)
theorem call_hexS {y : Str} {a b : Nat} {u k : Tok} {Q : Value → Shared → Prop} (hy : y = ⟨#[a, b]⟩) (ha : a ∈ hexL) (hb : b ∈ hexL) (h : Q (.int ((hexV a * 16 + hexV b : Nat) : Int) s.toks) { s with toks := s.toks + 1 }) :
    wpAny (model prog w) A (call (.type "int") [.str y u, .int 16 k]) Q E s := by subst hy; exact call_hex ha hb h
theorem hexV_lt {a : Nat} (h : a ∈ hexL) : hexV a < 16 := by revert a; decide
end
section
local macro_rules | `(tactic| walk_at "call type:int") => `(tactic| (k_here; (with_reducible refine call_hexS (by assumption) (by assumption) (by assumption) ?_)))
theorem spec_unquote (w : World) {loose : List Str} {mean : ExcName → Option Value} {mg mb : Str → Option Value} (news : List (Addr × Obj)) (x : Str) (t : Tok) (a b : Nat) (hl : x.length ≤ 3) (hs : Txt.slice x (some 1) (some 3) = ⟨#[a, b]⟩) (ha : a ∈ hexL) (hb : b ∈ hexL) :
    MC 5 w loose mean mg mb 45 news [.str x t] (fun t => .str ⟨#[hexV a * 16 + hexV b]⟩ t) := by
  dsimp only [MC]
  k_fill
  intros
  rename_i hret
  have h1 := hexV_lt ha
  have h2 := hexV_lt hb
  have h3 : ((hexV a * 16 + hexV b : Nat) : Int) < 256 := by omega
  refine wpAny_call ?_
  k_dflt cell_enter
  conv => pattern fB _; whnf
  k_with_none
  k_steps
  all_goals (refine cb_retS hret ?e1 ?e2 ?e3; (case e2 => k_asm); (case e3 => k_asm); (case e1 => rfl))
end
section
noncomputable def quoteS (c : Nat) : Str := ⟨#[61, (#[48, 49, 50, 51, 52, 53, 54, 55, 56, 57, 65, 66, 67, 68, 69, 70] : Array Nat).getD (c / 16) 0, (#[48, 49, 50, 51, 52, 53, 54, 55, 56, 57, 65, 66, 67, 68, 69, 70] : Array Nat).getD (c % 16) 0]⟩
theorem spec_quote (w : World) {loose : List Str} {mean : ExcName → Option Value} {mg mb : Str → Option Value} (news : List (Addr × Obj)) (c : Nat) (t : Tok) (hc : c < 128) :
    MC 5 w loose mean mg mb 52 news [.str ⟨#[c]⟩ t] (fun t => .str (quoteS c) t) := by
  dsimp only [MC]
  k_fill
  intros
  rename_i hret
  refine wpAny_call ?_
  k_dflt cell_enter
  conv => pattern fB _; whnf
  k_with_none
  k_steps
  all_goals (refine cb_retS hret ?e1 ?e2 ?e3; (case e2 => k_asm); (case e3 => k_asm); (case e1 => (refine (fun (h : ∀ c : Nat, c < 128 → List.getD ?L ((c : Int).toNat) Str.empty = quoteS c) => h c hc) ?_; decide +kernel)))
end
section
noncomputable def signS (x : Int) : Str := if x.fmod 12 > 9 then ⟨#[((x.fdiv 12).fmod 128).toNat]⟩ else Txt.item (Str.ofString "a \t\n='\"\\x\x0d") (x.fmod 12)
theorem spec_sign (w : World) {loose : List Str} {mean : ExcName → Option Value} {mg mb : Str → Option Value} (news : List (Addr × Obj)) (x : Int) (t : Tok) :
    MC 5 w loose mean mg mb 80 news [.int x t] (fun t => .str (signS x) t) := by
  dsimp only [MC]
  k_fill
  intros
  rename_i hret
  refine wpAny_call ?_
  k_dflt cell_enter
  conv => pattern fB _; whnf
  k_with_none
  k_steps
  all_goals (refine cb_retS hret ?e1 ?e2 ?e3; (case e2 => k_asm); (case e3 => k_asm); (case e1 => unfold signS; first | (rw [if_pos (by first | assumption | omega)]; done) | (rw [if_neg (by first | assumption | omega)]; done)))
end
end Mine
end

/-! Bm -/
noncomputable section
open PySem PySem.W PySem.Spec PySem.Calls PyProof.Rows
set_option maxRecDepth 100000
set_option maxHeartbeats 1000000
set_option linter.all false
namespace Mine
theorem entry_list_ga : entryFor table "list.__getattribute__" = some Builtin.«object.__getattribute__» :=
  entryFor_alias (id' := "object.__getattribute__") (by kernel_rfl) (by first | rfl | decide +kernel) (by decide +kernel) (by kernel_rfl)
theorem slot_md_get : Slot "method_descriptor" "__get__" "method_descriptor.__get__" :=
  .of (owner := "method_descriptor") (n := "__get__") (by rw [typeLookup_type, builtinLookup_eq_fast]; kernel_rfl) (by decide +kernel) (by decide +kernel) (by decide +kernel)
    (by first | exact .inl (by decide +kernel) | exact .inr (by decide +kernel)) (by rw [isSubtype_type]; kernel_rfl)
theorem md_set : typeLookup (.type "method_descriptor") "__set__" = pure none := by rw [typeLookup_type, builtinLookup_eq_fast]; kernel_rfl
theorem md_del : typeLookup (.type "method_descriptor") "__delete__" = pure none := by rw [typeLookup_type, builtinLookup_eq_fast]; kernel_rfl
theorem entry_md_get : entryFor table "method_descriptor.__get__" = some Builtin.«method_descriptor.__get__» := entryFor_of_tree (by kernel_rfl)
theorem args_md_get (a b c : Value) : argsOk "method_descriptor.__get__" ⟨[a, b, c], []⟩ := by unfold argsOk; kernel_rfl
theorem owner_list_append : (".".intercalate ("list.append".cutAt '.').dropLast) = "list" := by
  have e0 : "list.append".cutAt '.' = ["list", "append"] := by first | rfl | decide +kernel
  rw [e0]; decide +kernel
theorem sub_list_append_owner : isSubtype (.type "list") (.type (".".intercalate ("list.append".cutAt '.').dropLast)) = pure true := by
  rw [owner_list_append, isSubtype_type]; kernel_rfl
section
variable {prog : Program} {w : World} {A : Around} {E : Value → Shared → Prop} {h : Heap} {g : Array GenState} {d : Drawn} {t : Nat} {os : OsState} {a : Addr} {o : Obj}
noncomputable abbrev bmObj (a : Addr) : Obj := { cls := .type "builtin_function_or_method", data := .fields #[.builtin "list.append", .ref a] }
theorem bm_get {R : Result → Shared → Prop} (hx : h.get? a = some o) (hc : o.cls = .type "list") (hq : R (.ok (.ret (.ref h.objs.size))) ⟨h.push (bmObj a), g, d, t, os⟩) :
    codeAny (model prog w) A (.call (.builtin "method_descriptor.__get__") ⟨[.builtin "list.append", .ref a, .type "list"], []⟩) R ⟨h, g, d, t, os⟩ := by
  have hT : (⟨h, g, d, t, os⟩ : Shared).TypeIs (.ref a) "list" := ⟨_, hx, hc⟩
  have hT5 : (⟨h, g, d, t, os⟩ : Shared).TypeIs (.builtin "list.append") "method_descriptor" := F.type_list_append
  have f8 := sub_list_append_owner
  refine codeAny_call_builtin slot_md_get.plain entry_md_get (slot_md_get.check _ _ _ _ _ _ _ _ hT5 (args_md_get _ _ _) ?_)
  repeat (any_goals (first | assumption | wp_step))
theorem bm_entry {tk : Tok} {Q : Fin → Shared → Prop} (hx : h.get? a = some o) (hc : o.cls = .type "list") (hd : o.dict = none) (hn : ∃ xs n, o.data = .seq xs n) (hq : Q (.done (.ret (.ref h.objs.size))) ⟨h.push (bmObj a), g, d, t, os⟩) :
    wpAny (model prog w) A (Builtin.«object.__getattribute__» ⟨[.ref a, .str "append" tk], []⟩) Q E ⟨h, g, d, t, os⟩ := by
  obtain ⟨xs, n, hdat⟩ := hn
  obtain ⟨c, dct, dat, sl⟩ := o
  simp only at hc hdat hd
  subst hc hdat hd
  have hT : (⟨h, g, d, t, os⟩ : Shared).TypeIs (.ref a) "list" := ⟨_, hx, rfl⟩
  have hT5 : (⟨h, g, d, t, os⟩ : Shared).TypeIs (.builtin "list.append") "method_descriptor" := F.type_list_append
  have f4 := F.slot_list_append.lookup
  have f5 := F.type_list_append
  have f6 := slot_md_get.lookup
  have f7 := md_set
  have f8 := md_del
  have hname : (["__module__", "__name__", "__qualname__", "__doc__", "__annotations__"] : List Str).contains "append" = false := by decide +kernel
  unfold Builtin.«object.__getattribute__»
  repeat (any_goals (first | assumption | wp_step))
  all_goals (try simp only [hname, Bool.false_eq_true, if_false])
  repeat (any_goals (first | assumption | wp_step))
  all_goals (try refine bm_get hx rfl ?_)
  repeat (any_goals (first | assumption | wp_step))
theorem bm_call {tk : Tok} {R : Result → Shared → Prop} (hx : h.get? a = some o) (hc : o.cls = .type "list") (hd : o.dict = none) (hn : ∃ xs n, o.data = .seq xs n) (hq : R (.ok (.ret (.ref h.objs.size))) ⟨h.push (bmObj a), g, d, t, os⟩) :
    codeAny (model prog w) A (.call (.builtin "list.__getattribute__") ⟨[.ref a, .str "append" tk], []⟩) R ⟨h, g, d, t, os⟩ :=
  codeAny_call_builtin F.slot_list_getattribute.plain entry_list_ga (F.slot_list_getattribute.check _ _ _ _ _ _ _ _ (show (⟨h, g, d, t, os⟩ : Shared).TypeIs (.ref a) "list" from ⟨_, hx, hc⟩) (F.args_list_getattribute_2 _ _) (bm_entry hx hc hd hn hq))
theorem bm_attr {Q : Value → Shared → Prop} (hx : h.get? a = some o) (hc : o.cls = .type "list") (hd : o.dict = none) (hn : ∃ xs n, o.data = .seq xs n) (hq : Q (.ref h.objs.size) ⟨h.push (bmObj a), g, d, t + 1, os⟩) : wpAny (model prog w) A (getAttr (.ref a) "append" true) Q E ⟨h, g, d, t, os⟩ := by
  obtain ⟨xs, n, hdat⟩ := hn
  obtain ⟨c, dct, dat, sl⟩ := o
  simp only at hc hdat hd
  subst hc hdat hd
  have hT : ∀ tk', (⟨h, g, d, tk', os⟩ : Shared).TypeIs (.ref a) "list" := fun _ => ⟨_, hx, rfl⟩
  have f2 := F.slot_list_getattribute.lookup
  have f3 := F.slot_list_getattribute.bind (.ref a)
  unfold getAttr getAttrBy
  repeat (any_goals (first | assumption | exact hT _ | wp_step))
  refine bm_call hx rfl rfl ⟨_, _, rfl⟩ ?_
  repeat (any_goals (first | assumption | wp_step))
theorem sub_list_module : isSubtype (.type "list") (.type "module") = pure false := by rw [isSubtype_type]; kernel_rfl
theorem kind_append : builtinKind "list.append" = some .method := by decide +kernel
theorem sig_append : Manifest.signature? "list.append" = some ⟨.oneArg, "list.append", "append", .self, [⟨"object", .posOnly, true⟩]⟩ := by
  rw [signature?_of (id := "list.append") (n := ['d', 'n', 'e', 'p', 'p', 'a']) (o := ['t', 's', 'i', 'l']) (by kernel_rfl) F.owner_list]; kernel_rfl
theorem full_append : toString (Bind.lastOf "list") ++ toString "." ++ toString (Bind.lastOf "list.append") = "list.append" := by decide +kernel
theorem ck_append (a b : Value) : Bind.checkArgs "list.append" ⟨.oneArg, toString (Bind.lastOf "list") ++ toString "." ++ toString (Bind.lastOf "list.append"), "append", .self, [⟨"object", .posOnly, true⟩]⟩ ⟨[a, b], []⟩ = pure () := by rw [full_append]; kernel_rfl
theorem va_append : Manifest.varargsMethods.contains "list.append" = false := by decide +kernel
theorem cbc {x : Value} {Q : Unit → Shared → Prop} {xs : Array Value} {n : Nat} (hx : h.get? a = some { cls := .type "list", data := .seq xs n }) (hq : Q () ⟨h, g, d, t, os⟩) : wpAny (model prog w) A (checkBoundCall "list.append" ⟨[.ref a, x], []⟩) Q E ⟨h, g, d, t, os⟩ := by
  have hT : (⟨h, g, d, t, os⟩ : Shared).TypeIs (.ref a) "list" := ⟨_, hx, rfl⟩
  have f1 := sub_list_module
  have f2 := kind_append
  have f3 := sig_append
  have f4 := va_append
  unfold checkBoundCall
  rw [f3]
  dsimp only
  rw [f2]
  dsimp only
  rw [if_neg (by decide), f4]
  repeat (any_goals (first | assumption | exact wpAny_of_eq (ck_append _ _) (wpAny_pure hq) | wp_step))
theorem bm_calls {m : Addr} {x : Value} {om : Obj} {its : Array Value} {n : Nat} {Q : Value → Shared → Prop} (hm : h.get? m = some om) (hom : om = bmObj a) (hx : h.get? a = some { cls := .type "list", data := .seq its n })
    (hq : ∀ h', Heap.SameBut a h h' → h'.get? a = some { cls := .type "list", data := .seq (its.push x) (n + 1) } → Q .none ⟨h', g, d, t, os⟩) (hsz : its.size ≤ sizeLine) : wpAny (model prog w) A (call (.ref m) [x]) Q E ⟨h, g, d, t, os⟩ := by
  subst hom
  refine wpAny_call (codeAny_of_tree ?_)
  show wpAny _ _ (callAny (.ref m) _) _ _ _
  simp only [callAny]
  refine wpAny_bind (wpAny_load hm ?_)
  dsimp only
  rw [if_pos (by decide +kernel)]
  show wpAny _ _ (if (Value.type "builtin_function_or_method" != Value.type "method") = true then _ else _) _ _ _
  rw [if_pos (by decide +kernel)]
  refine wpAny_bind (cbc hx ?_)
  refine wpAny_pure ⟨plainId_quiet F.slot_list_append.plain _, codeAny_builtin F.entry_list_append ?_⟩
  rw [Around.under_plainId F.slot_list_append.plain _]
  show wpAny _ _ (updateSeq a (·.push x) >>= fun _ => ret .none) _ _ _
  refine wpAny_bind ?_
  refine wpAny_updateSeq hx rfl (wpAny_pure (hq _ (Heap.SameBut.update ..) ?_))
  rw [Heap.get?_update_self _ hx (by rw [mapSeq_push]; rfl), mapSeq_push]
end
end Mine
end

/-! St -/
noncomputable section
open PySem PySem.W PySem.Spec PySem.Calls PyProof.Rows PyProof.V
set_option maxRecDepth 100000
set_option maxHeartbeats 1000000
set_option linter.all false
namespace Mine
section
variable {prog : Program} {w : World} {A : Around} {E : Value → Shared → Prop} {s : Shared} {env : Env} {h₀ : Heap} {x : Str} {body : List Stmt} {Q : Flow → Shared → Prop}
theorem iter_invNS {l : Addr} {vs : List Value} {ns : List Str} {nn : Nat} {m₀ : Str → Option Value} {news : List (Addr × Obj)} (J : Nat → (Str → Option Value) → List (Addr × Obj) → Prop)
    (hh : A.handled = none) (hl : (l, listOf vs.toArray nn) ∈ news) (hi : StrsAre vs ns) (F : Fr h₀ env.locals s.heap m₀) (N : News h₀ env.locals s.heap news) (hj : J 0 m₀ news)
    (turn : ∀ i n t m₁ news₁ h tk own, ns[i]? = some n → news₁.map (·.1) = news.map (·.1) → OwnOff own (news.map (·.1)) → (l, listOf vs.toArray nn) ∈ news₁ → J i m₁ news₁ → Fr h₀ env.locals h (fun y => if y = x then some (.str n t) else m₁ y) → News h₀ env.locals h (news₁ ++ own) →
      wpAny (model prog w) A (execs body env) (InvPostN h₀ env.locals (fun m' nx => (l, listOf vs.toArray nn) ∈ nx ∧ J (i + 1) m' nx) own (news.map (·.1)) { s with heap := h, toks := tk } Q) E { s with heap := h, toks := tk })
    (done : ∀ m₁ news₁ h tk, (l, listOf vs.toArray nn) ∈ news₁ → J ns.length m₁ news₁ → Fr h₀ env.locals h m₁ → News h₀ env.locals h news₁ → Q .next { s with heap := h, toks := tk }) :
    wpAny (model prog w) A (pyIter (.ref l)) (fun it s₂ => LoopAtV prog w A h₀ env x body Q E it s₂) E s := by
  have hol : s.heap.get? l = some (listOf vs.toArray nn) := (N _ hl).1
  have hls : s.heap.IsList l vs.toArray := ⟨_, hol, rfl, nn, rfl⟩
  have hne : l ≠ s.heap.objs.size := Nat.ne_of_lt (Heap.lt_size hol)
  refine wpAny_pyIter_list hls ?_
  have W := Walks.list (prog := prog) (w := w) hh s.heap.objs.size l hne vs.toArray
  have hlen : vs.toArray.size = ns.length := by simp [hi.length]
  rw [hlen] at W
  refine ⟨_, _, _, ns.length, _, _, m₀, news, (fun i m nx => nx.map (·.1) = news.map (·.1) ∧ (l, listOf vs.toArray nn) ∈ nx ∧ J i m nx), rfl, W, ?_, ?_, ?_, ⟨⟨_, Heap.get?_push_size _ rfl, rfl, rfl⟩, hls.at fun o e => Heap.get?_push_of_some _ e⟩, F.push _, (fun p hp => ⟨Heap.get?_push_of_some _ (N p hp).1, (N p hp).2⟩), ⟨rfl, hl, hj⟩, ?_, ?_⟩
  · intro hm
    rcases List.mem_cons.mp hm with e | hm
    · exact absurd F.ns.lt (e ▸ Nat.lt_irrefl _)
    · exact (N _ hl).2.1 ((List.mem_singleton.mp hm).symm)
  · intro b hb
    rw [List.mem_singleton.mp hb]
    exact next_is_new F
  · intro p hp hI
    exact absurd (Heap.lt_size (N p hp).1) ((List.mem_singleton.mp hI) ▸ Nat.lt_irrefl _)
  · rintro i v m₁ news₁ s₁ own ⟨hh', tk', rfl⟩ hin hP ⟨hadr, hl₁, hJ⟩ hoff hown hget hfp _ F₁ N₁
    have hsep : OwnOff (own.filter fun p => decide (p.1 = s.heap.objs.size)) (news.map (·.1)) := by
      intro p hp b hb e
      obtain ⟨q, hq, rfl⟩ := List.mem_map.mp hb
      have h1 : p.1 = s.heap.objs.size := by simpa using (List.mem_filter.mp hp).2
      exact absurd (Heap.lt_size (N q hq).1) (by rw [← e, h1]; exact Nat.lt_irrefl _)
    have hlt' : i < ns.length := hin
    obtain ⟨t, hx⟩ := hi.get i ns[i] (by simp [hlt'])
    have hv : v = .str ns[i] t := by
      have hP' : vs[i]? = some v := by simpa using hP
      rw [hx] at hP'; exact (Option.some.inj hP').symm
    subst hv
    have N₂ : News h₀ env.locals hh' (news₁ ++ own.filter fun p => decide (p.1 = s.heap.objs.size)) := fun p hp => N₁ p ((List.mem_append.mp hp).elim (fun h => List.mem_append.mpr (.inr h)) fun h => List.mem_append.mpr (.inl ((List.mem_filter.mp h).1)))
    have hlo : hh'.get? l = some (listOf vs.toArray nn) := (N₁ _ (List.mem_append.mpr (.inr hl₁))).1
    refine wpAny_mono (turn i ns[i] t m₁ news₁ hh' tk' _ (by simp [hlt']) hadr hsep hl₁ hJ F₁ N₂) (fun f s₂ p => ?_) fun _ _ e => e
    have fin : InvEndN h₀ env.locals (fun m' nx => (l, listOf vs.toArray nn) ∈ nx ∧ J (i + 1) m' nx) (own.filter fun p => decide (p.1 = s.heap.objs.size)) (news.map (·.1)) { s with heap := hh', toks := tk' } s₂ →
        LoopStepU h₀ env.locals [s.heap.objs.size] own (fun m nx => nx.map (·.1) = news.map (·.1) ∧ (l, listOf vs.toArray nn) ∈ nx ∧ J (i + 1) m nx) { s with heap := hh', toks := tk' } .next s₂ := by
      rintro ⟨h', tk, m', news', nx, e, F', N', hn, ho, ha, hm⟩
      refine ⟨rfl, h', tk, m', nx, e, F', fun p hp => ?_, fun p hp => ?_, ha, hm⟩
      · rcases List.mem_append.mp hp with h | h
        · by_cases hI : p.1 = s.heap.objs.size
          · exact N' p (ho p (List.mem_filter.mpr ⟨h, by simpa using hI⟩))
          · have h1 : p.1 = l := by
              rcases List.mem_cons.mp (hown p h) with h2 | h2
              · exact absurd h2 hI
              · exact List.mem_singleton.mp h2
            have h2 : hh'.get? p.1 = some p.2 := hget p h
            rw [h1, hlo] at h2
            have h3 : p = (l, listOf vs.toArray nn) := Prod.ext h1 (Option.some.inj h2).symm
            rw [h3]
            exact N' _ (hn _ hm.1)
        · exact N' p (hn p h)
      · have h1 : p.1 ∈ nx.map (·.1) := List.mem_map.mpr ⟨p, hp, rfl⟩
        rw [ha] at h1
        obtain ⟨q, hq, e⟩ := List.mem_map.mp h1
        intro hI
        exact absurd (Heap.lt_size (N q hq).1) (by rw [e, List.mem_singleton.mp hI]; exact Nat.lt_irrefl _)
    cases f with
    | ret v => exact .ret p
    | brk => exact .brk p
    | next => exact .next (fin p)
    | cont => exact .cont (fin p)
  · rintro h' tk m' news' F' N' _ ⟨_, hl', hJ⟩
    exact done m' news' h' tk hl' hJ F' N'
/-- a loop over a list of texts that keeps a state: pre holds as many naughts as texts are done -/
theorem kst_strs {σ : Type} {l : Addr} {vs : List Value} {ns : List Str} {nn : Nat} {m₀ : Str → Option Value} (Led : σ → List (Addr × Obj)) (ps : σ → List (Str × Value)) (Facts : σ → Prop) (stored : List Str) (P : List Int → σ → Prop) (c₀ : σ)
    (hh : A.handled = none) (hl : ∀ c : σ, (l, listOf vs.toArray nn) ∈ Led c) (hi : StrsAre vs ns) (F : Fr h₀ env.locals s.heap m₀) (N : News h₀ env.locals s.heap (Led c₀)) (hf : Facts c₀) (hk : ∀ p ∈ ps c₀, m₀ p.1 = some p.2) (hp : P [] c₀)
    (turn : ∀ (c : σ) (pre : List Int) (n : Str) t (u : Str → Option Value) h tk own, ns[pre.length]? = some n → OwnOff own ((Led c₀).map (·.1)) → Facts c → P pre c →
      Fr h₀ env.locals h (fun y => if y = x then some (.str n t) else kstB (fun z => if stored.contains z then u z else m₀ z) (ps c) y) → News h₀ env.locals h (Led c ++ own) →
      wpAny (model prog w) A (execs body env) (InvPostN h₀ env.locals (KstS Led ps Facts x stored m₀ P (pre ++ [0])) own ((Led c₀).map (·.1)) { s with heap := h, toks := tk } Q) E { s with heap := h, toks := tk })
    (done : ∀ (c : σ) (pre : List Int) (u : Str → Option Value) h tk, pre.length = ns.length → Facts c → P pre c → Fr h₀ env.locals h (fun y => if y = x then u y else kstB (fun z => if stored.contains z then u z else m₀ z) (ps c) y) → News h₀ env.locals h (Led c) → Q .next { s with heap := h, toks := tk }) :
    wpAny (model prog w) A (pyIter (.ref l)) (fun it s₂ => LoopAtV prog w A h₀ env x body Q E it s₂) E s := by
  refine iter_invNS (fun i m nx => KstS Led ps Facts x stored m₀ P (List.replicate i 0) m nx) hh (hl c₀) hi F N ⟨c₀, rfl, hf, hk, fun _ _ _ _ => rfl, by simpa using hp⟩ ?_ ?_
  · rintro i n t m₁ nx h tk own hn _ hoff _ ⟨c, rfl, hf', h1, h2, hp'⟩ F₁ N₁
    have hs : List.replicate (i + 1) (0 : Int) = List.replicate i 0 ++ [0] := by simp [List.replicate_succ']
    rw [hs]
    refine wpAny_mono (turn c _ n t m₁ h tk own (by simpa using hn) hoff hf' hp' (kst_fr h1 h2 F₁) N₁) (fun f s₂ p => ?_) fun _ _ x => x
    have up : InvEndN h₀ env.locals (KstS Led ps Facts x stored m₀ P (List.replicate i 0 ++ [0])) own ((Led c₀).map (·.1)) { s with heap := h, toks := tk } s₂ →
        InvEndN h₀ env.locals (fun m' nx => (l, listOf vs.toArray nn) ∈ nx ∧ KstS Led ps Facts x stored m₀ P (List.replicate i 0 ++ [0]) m' nx) own ((Led c₀).map (·.1)) { s with heap := h, toks := tk } s₂ := by
      rintro ⟨h', tk', m', news', nx', e', F', N', hn', ho', ha, hS⟩
      refine ⟨h', tk', m', news', nx', e', F', N', hn', ho', ha, ?_, hS⟩
      obtain ⟨c', rfl, _⟩ := hS
      exact hl c'
    cases f with
    | ret v => exact p
    | brk => exact p
    | next => exact up p
    | cont => exact up p
  · rintro m₁ nx h tk _ ⟨c, rfl, hf', h1, h2, hp'⟩ F₁ N₁
    exact done c (List.replicate ns.length 0) m₁ h tk (by simp) hf' hp' (kst_frOut h1 h2 F₁) N₁
end
end Mine
end

/-! Pl4 -/
noncomputable section
open PySem PySem.W PySem.Spec PySem.Calls PyProof.Rows
set_option maxRecDepth 100000
set_option linter.all false
namespace Mine
/-- the text of these signs -/
noncomputable abbrev T (l : List Nat) : Str := ⟨l.toArray⟩
theorem T_app (a b : List Nat) : T a ++ T b = T (a ++ b) := by
  refine Str.ext' ?_
  rw [Str.cps_append]
  simp
theorem T_len (a : List Nat) : (T a).length = a.length := by show a.toArray.size = _; simp
theorem T_inj {a b : List Nat} (h : T a = T b) : a = b := by
  have := congrArg (fun x : Str => x.cps.toList) h
  simpa using this
theorem T_of (x : Str) : T x.cps.toList = x := Str.ext' (by simp)
theorem T_item {l : List Nat} {k : Int} {n c : Nat} (hk : k = (n : Int)) (h : l[n]? = some c) : Txt.item (T l) k = ⟨#[c]⟩ := by
  obtain ⟨hl, hc⟩ := List.getElem?_eq_some_iff.mp h
  have h1 : ((T l).length : Int) = l.length := by rw [T_len]
  rw [item_at (n := n) (by omega) (by omega) (by omega)]
  simp [Array.getD, hl, hc]
theorem T_slice {l : List Nat} {i j : Int} {a b : Nat} (hi : i = (a : Int)) (hj : j = ((a + b : Nat) : Int)) (hl : a + b ≤ l.length) : Txt.slice (T l) (some i) (some j) = T ((l.drop a).take b) := by
  have h1 : ((T l).length : Int) = l.length := by rw [T_len]
  rw [eq_of_beq (slice_closesL (x := T l) (i := i) (j := j) (by omega) (by omega) (by omega))]
  have e1 : i.toNat = a := by omega
  have e2 : (j - i).toNat = b := by omega
  simp [e1, e2]
noncomputable def hx (d : Nat) : Nat := if d < 10 then 48 + d else 87 + d
noncomputable def hX (d : Nat) : Nat := if d < 10 then 48 + d else 55 + d
noncomputable def tellC (q c : Nat) : List Nat :=
  if c = q ∨ c = 92 then [92, c] else if c = 9 then [92, 116] else if c = 10 then [92, 110] else if c = 13 then [92, 114] else if c < 32 ∨ c = 127 then [92, 120, hx (c / 16), hx (c % 16)] else [c]
noncomputable def body (q : Nat) (l : List Nat) : List Nat := l.flatMap (tellC q)
noncomputable def tellQ (q : Nat) (l : List Nat) : List Nat := q :: (body q l ++ [q])
noncomputable def qL (l : List Nat) : Nat := if 39 ∈ l ∧ 34 ∉ l then 34 else 39
noncomputable def tell (l : List Nat) : List Nat := tellQ (qL l) l
noncomputable abbrev AscL (l : List Nat) : Prop := ∀ c ∈ l, c < 128
theorem body_app (q : Nat) (a b : List Nat) : body q (a ++ b) = body q a ++ body q b := by simp [body]
theorem body_cons (q c : Nat) (b : List Nat) : body q (c :: b) = tellC q c ++ body q b := by simp [body]
theorem tellC_pos (q c : Nat) : 1 ≤ (tellC q c).length := by unfold tellC; (repeat' split) <;> simp
/-- reading back: the signs before `place` tell `pre`, which is `text` -/
noncomputable def RI (q : Nat) (l : List Nat) (text : Str) (place : Int) : Prop := ∃ pre post, l = pre ++ post ∧ text = T pre ∧ place = ((1 + (body q pre).length : Nat) : Int)
theorem body_len_ge (q : Nat) : ∀ l : List Nat, l.length ≤ (body q l).length
  | [] => Nat.le_refl _
  | c :: l => by
    have := body_len_ge q l
    have := tellC_pos q c
    rw [body_cons, List.length_append, List.length_cons]; omega
noncomputable abbrev RIw (q : Nat) (l : List Nat) (x text : Str) (place : Int) : Prop := RI q l text place ∧ (text.length : Int) ≤ place ∧ 1 ≤ place ∧ place ≤ (x.length : Int)
theorem RI.bounds {q : Nat} {l : List Nat} {text : Str} {place : Int} (h : RI q l text place) : RIw q l (T (tellQ q l)) text place := by
  have h' := h
  obtain ⟨pre, post, e, e2, e3⟩ := h
  refine ⟨h', ?_, by omega, ?_⟩
  · have := body_len_ge q pre
    rw [e2, T_len]; omega
  · rw [T_len, e3]
    unfold tellQ
    rw [e, body_app]
    simp only [List.length_cons, List.length_append]
    omega
theorem ri_start (q : Nat) (l : List Nat) : RIw q l (T (tellQ q l)) (Str.ofString "") 1 := RI.bounds ⟨[], l, rfl, rfl, rfl⟩
/-- the step: what stands at place tells the next sign -/
theorem ri_next {q : Nat} {l : List Nat} {text : Str} {place : Int} (h : RI q l text place) (hp : place < ((T (tellQ q l)).length : Int) - 1) :
    ∃ (c : Nat) (n : Nat) (rest : List Nat), c ∈ l ∧ place = (n : Int) ∧ (tellQ q l).drop n = tellC q c ++ rest ∧ rest ≠ [] ∧ RI q l (text ++ T [c]) (place + (tellC q c).length) := by
  obtain ⟨pre, post, e, e2, e3⟩ := h
  cases post with
  | nil =>
    exfalso
    rw [T_len] at hp
    unfold tellQ at hp
    rw [e, List.append_nil] at hp
    simp only [List.length_cons, List.length_append, List.length_nil] at hp
    omega
  | cons c post =>
    refine ⟨c, 1 + (body q pre).length, body q post ++ [q], by rw [e]; simp, e3, ?_, by simp, ?_⟩
    · unfold tellQ
      rw [e, body_app, body_cons, Nat.add_comm, List.drop_succ_cons, List.append_assoc, List.drop_left, List.append_assoc]
    · refine ⟨pre ++ [c], post, by rw [e]; simp, by rw [e2, T_app], ?_⟩
      rw [e3, body_app, body_cons]
      simp [body]
      omega
theorem get_drop {l a rest : List Nat} {n j : Nat} (h : l.drop n = a ++ rest) (hj : j < a.length) : l[n + j]? = some a[j] := by
  have : (l.drop n)[j]? = some a[j] := by rw [h, List.getElem?_append_left hj]; simp [hj]
  rwa [List.getElem?_drop] at this
noncomputable def unesc (d : Nat) : Nat := if d = 116 then 9 else if d = 110 then 10 else if d = 114 then 13 else d
noncomputable def unescS (y : Str) : Str := bif y == "t" then "\t" else bif y == "n" then "\n" else bif y == "r" then "\x0d" else y
theorem tellC_ways {q c : Nat} (hq : q = 34 ∨ q = 39) (hc : c < 128) :
    (tellC q c = [c] ∧ c ≠ 92) ∨ (∃ a b, tellC q c = [92, 120, a, b] ∧ a ∈ hexL ∧ b ∈ hexL ∧ hexV a * 16 + hexV b = c) ∨ (∃ d, tellC q c = [92, d] ∧ d ≠ 120 ∧ d < 128 ∧ unesc d = c) := by
  unfold tellC
  by_cases h1 : c = q ∨ c = 92
  · rw [if_pos h1]
    refine .inr (.inr ⟨c, rfl, ?_, hc, ?_⟩)
    · omega
    · unfold unesc; rw [if_neg (by omega), if_neg (by omega), if_neg (by omega)]
  rw [if_neg h1]
  by_cases h2 : c = 9
  · rw [if_pos h2]; exact .inr (.inr ⟨116, rfl, by decide, by decide, h2.symm⟩)
  rw [if_neg h2]
  by_cases h3 : c = 10
  · rw [if_pos h3]; exact .inr (.inr ⟨110, rfl, by decide, by decide, h3.symm⟩)
  rw [if_neg h3]
  by_cases h4 : c = 13
  · rw [if_pos h4]; exact .inr (.inr ⟨114, rfl, by decide, by decide, h4.symm⟩)
  rw [if_neg h4]
  by_cases h5 : c < 32 ∨ c = 127
  · rw [if_pos h5]
    have hd : ∀ c < 128, hx (c / 16) ∈ hexL ∧ hx (c % 16) ∈ hexL ∧ hexV (hx (c / 16)) * 16 + hexV (hx (c % 16)) = c := by decide +kernel
    obtain ⟨k1, k2, k3⟩ := hd c hc
    exact .inr (.inl ⟨_, _, rfl, k1, k2, k3⟩)
  · rw [if_neg h5]; exact .inl ⟨rfl, fun h => h1 (.inr h)⟩
theorem sgN {a b : Nat} : ((⟨#[a]⟩ : Str) == ⟨#[b]⟩) = (a == b) := by
  by_cases h : a = b
  · subst h; simp
  · have : (⟨#[a]⟩ : Str) ≠ ⟨#[b]⟩ := by intro e; have := congrArg (fun x : Str => x.cps.getD 0 0) e; exact h (by simpa using this)
    rw [beq_eq_false_iff_ne.mpr this, beq_eq_false_iff_ne.mpr h]
theorem bsl : Str.ofString "\\" = ⟨#[92]⟩ := by decide +kernel
theorem exS : Str.ofString "x" = ⟨#[120]⟩ := by decide +kernel
theorem unescS_of {d : Nat} (h : d < 128) : unescS ⟨#[d]⟩ = ⟨#[unesc d]⟩ := by revert d; decide +kernel
section
variable {q : Nat} {l : List Nat} {text : Str} {place : Int} (hq : q = 34 ∨ q = 39) (hl : AscL l) (h : RI q l text place) (hp : place < ((T (tellQ q l)).length : Int) - 1)
include hq hl h hp
theorem readA (h1 : (Txt.item (T (tellQ q l)) place != Str.ofString "\\") = true) : RIw q l (T (tellQ q l)) (text ++ Txt.item (T (tellQ q l)) place) (place + 1) := by
  obtain ⟨c, n, rest, hc, e1, e2, e3, e4⟩ := ri_next h hp
  rcases tellC_ways hq (hl c hc) with ⟨w, _⟩ | ⟨a, b, w, _⟩ | ⟨d, w, _⟩
  · rw [w] at e2 e4
    rw [T_item e1 (c := c) (by simpa using get_drop (j := 0) e2 (by simp))]
    exact RI.bounds e4
  all_goals
    exfalso
    rw [w] at e2
    rw [T_item e1 (c := 92) (by simpa using get_drop (j := 0) e2 (by simp)), bsl] at h1
    simp at h1
theorem readB (h1 : (Txt.item (T (tellQ q l)) place != Str.ofString "\\") = false) (h2 : (Txt.item (T (tellQ q l)) (place + 1) == Str.ofString "x") = true) :
    ∃ a b, a ∈ hexL ∧ b ∈ hexL ∧ Txt.slice (Str.ofString "=" ++ Txt.slice (T (tellQ q l)) (some (place + 2)) (some (place + 4))) (some 1) (some 3) = ⟨#[a, b]⟩ ∧
      (Str.ofString "=" ++ Txt.slice (T (tellQ q l)) (some (place + 2)) (some (place + 4))).length ≤ 3 ∧ RIw q l (T (tellQ q l)) (text ++ ⟨#[hexV a * 16 + hexV b]⟩) (place + 4) := by
  obtain ⟨c, n, rest, hc, e1, e2, e3, e4⟩ := ri_next h hp
  rcases tellC_ways hq (hl c hc) with ⟨w, hne⟩ | ⟨a, b, w, ha, hb, hv⟩ | ⟨d, w, hd, _⟩
  · exfalso
    rw [w] at e2
    rw [T_item e1 (c := c) (by simpa using get_drop (j := 0) e2 (by simp)), bsl, bne, sgN] at h1
    simp at h1
    exact hne h1
  · rw [w] at e2 e4
    have hlen : n + 4 ≤ (tellQ q l).length := by
      have := congrArg List.length e2
      simp only [List.length_drop, List.length_append, List.length_cons, List.length_nil] at this
      omega
    have es : Txt.slice (T (tellQ q l)) (some (place + 2)) (some (place + 4)) = T [a, b] := by
      rw [T_slice (a := n + 2) (b := 2) (by omega) (by omega) (by omega), ← List.drop_drop, e2]
      rfl
    rw [es, show Str.ofString "=" = T [61] by decide +kernel, T_app]
    refine ⟨a, b, ha, hb, ?_, by rw [T_len]; simp, ?_⟩
    · exact T_slice (l := [61, a, b]) (i := 1) (j := 3) (a := 1) (b := 2) rfl rfl (by simp)
    · rw [hv]; exact RI.bounds e4
  · exfalso
    rw [w] at e2
    rw [T_item (n := n + 1) (c := d) (by omega) (by simpa using get_drop (j := 1) e2 (by simp)), exS, sgN] at h2
    simp at h2
    exact hd h2
theorem readC (h1 : (Txt.item (T (tellQ q l)) place != Str.ofString "\\") = false) (h2 : (Txt.item (T (tellQ q l)) (place + 1) == Str.ofString "x") = false) :
    RIw q l (T (tellQ q l)) (text ++ unescS (Txt.item (T (tellQ q l)) (place + 1))) (place + 2) ∧ (unescS (Txt.item (T (tellQ q l)) (place + 1))).length ≤ 1 := by
  obtain ⟨c, n, rest, hc, e1, e2, e3, e4⟩ := ri_next h hp
  rcases tellC_ways hq (hl c hc) with ⟨w, hne⟩ | ⟨a, b, w, ha, hb, hv⟩ | ⟨d, w, hd, hdl, hv⟩
  · exfalso
    rw [w] at e2
    rw [T_item e1 (c := c) (by simpa using get_drop (j := 0) e2 (by simp)), bsl, bne, sgN] at h1
    simp at h1
    exact hne h1
  · exfalso
    rw [w] at e2
    rw [T_item (n := n + 1) (c := 120) (by omega) (by simpa using get_drop (j := 1) e2 (by simp)), exS, sgN] at h2
    simp at h2
  · rw [w] at e2 e4
    rw [T_item (n := n + 1) (c := d) (by omega) (by simpa using get_drop (j := 1) e2 (by simp)), unescS_of hdl, hv]
    exact ⟨RI.bounds e4, Nat.le_refl _⟩
end
theorem read_end {q : Nat} {l : List Nat} {text : Str} {place : Int} (h : RI q l text place) (hp : ¬ place < ((T (tellQ q l)).length : Int) - 1) : text = T l := by
  obtain ⟨pre, post, e, e2, e3⟩ := h
  cases post with
  | nil => rw [e2, e, List.append_nil]
  | cons c post =>
    exfalso
    have := tellC_pos q c
    rw [T_len] at hp
    unfold tellQ at hp
    rw [e, body_app, body_cons] at hp
    simp only [List.length_cons, List.length_append, List.length_nil] at hp
    omega
end Mine
end

/-! X_told -/
noncomputable section
open PySem PySem.W PySem.Spec PySem.Calls PyProof.Rows
set_option maxRecDepth 100000
set_option maxHeartbeats 8000000
set_option linter.all false
namespace Mine
section
local macro_rules | `(tactic| walk_at "eval IfExp") => `(tactic| (k_here; (rename CutMark _ => hcm); (with_reducible show wpAny _ _ (eval (PySem.Expr.IfExp _ _ _ _) _) _ _ _); refine cut_of hcm ?cut ?rest; (case' cut => clear hcm); (case' rest => (clear hcm; intro t9 k9))))
theorem spec_told (w : World) {loose : List Str} {mean : ExcName → Option Value} {mg mb : Str → Option Value} (news : List (Addr × Obj)) (x : Str) (t : Tok) (hx : Asc x) (hl : x.length ≤ 100) :
    MC 5 w loose mean mg mb 87 news [.str x t] (fun t => .str (toldS x) t) := by
  dsimp only [MC]
  k_fill
  intros
  rename_i hret
  have hcm : CutMark (markS x) := ⟨⟩
  have hml := markS_len x
  refine wpAny_call ?_
  k_dflt cell_enter
  conv => pattern fB _; whnf
  k_with_none
  k_with "pyIter str" => k_state (fun pre told => told = toldF x pre ∧ told.length ≤ 4 * pre.length + 1) "told"
  k_with "state" => with_reducible first
    | exact told_st x
    | exact tw1 (by assumption) (by assumption) (by assumption)
    | exact tw2 (by assumption) (by assumption) (by assumption) (by assumption)
    | exact tw3 (by assumption) (by assumption) (by assumption) (by assumption) (by assumption) (by assumption)
    | exact tw4 (by assumption) (by assumption) (by assumption) (by assumption) (by assumption) (by assumption) (by assumption)
    | exact tw5 (by assumption) (by assumption) (by assumption) (by assumption) (by assumption) (by assumption) (by assumption)
    | exact tw6 (by assumption) (by assumption) (by assumption) (by assumption) (by assumption)
  k_steps
  all_goals (try (with_reducible first | exact mkE1 (by assumption) | exact mkE2 (by assumption) (by assumption) | exact mkE3 (by assumption) (by assumption)))
  all_goals (try (exfalso; with_reducible exact no_tnr (by assumption) (by assumption)))
  all_goals (try (have hF : Txt.find (Str.ofString "\t\n\x0d") ⟨#[kN]⟩ < 3 := find_lt (code_lt hx kEq)))
  k_steps
  all_goals (refine cb_retS hret ?e1 ?e2 ?e3; (case e2 => k_asm); (case e3 => k_asm); (case e1 => exact told_end (by with_reducible assumption)))
end
end Mine
end

/-! X_sent -/
noncomputable section
open PySem PySem.W PySem.Spec PySem.Calls PyProof.Rows
set_option maxRecDepth 100000
set_option maxHeartbeats 8000000
set_option linter.all false
namespace Mine
theorem spec_sent (w : World) {loose : List Str} {mean : ExcName → Option Value} {mg mb : Str → Option Value} (news : List (Addr × Obj)) (x : Str) (t : Tok) (hx : Asc x) (hl : x.length ≤ 100) :
    MC 5 w loose mean mg mb 94 news [.str x t] (fun t => .str (sentS x) t) := by
  dsimp only [MC]
  k_fill
  intros
  rename_i hret
  refine wpAny_call ?_
  k_dflt cell_enter
  conv => pattern fB _; whnf
  k_with_none
  k_with "pyIter ref" => k_state (fun pre sent => sent = sentF x pre.length ∧ sent.length ≤ 3 * pre.length) "sent"
  k_with "state" => with_reducible first
    | exact sent_st x
    | exact sw1 (by assumption) (by assumption) (by assumption) (by assumption)
    | exact sw3 (by assumption) (by assumption) (by assumption) (by assumption) (by assumption) (by assumption)
    | exact swI (by assumption) (by assumption) (by assumption) (by assumption) (by first | exact andF (by assumption) | exact andT (by assumption) (by assumption)) (by assumption) (by assumption) (by assumption)
    | exact swE1 (by assumption) (by assumption) (by assumption) (by assumption) (by first | exact andF (by assumption) | exact andT (by assumption) (by assumption)) (by assumption)
    | exact swE2 (by assumption) (by assumption) (by assumption) (by assumption) (by first | exact andF (by assumption) | exact andT (by assumption) (by assumption)) (by assumption) (by assumption)
    | exact swE3 (by assumption) (by assumption) (by assumption) (by assumption) (by first | exact andF (by assumption) | exact andT (by assumption) (by assumption)) (by assumption) (by assumption) (by assumption)
  k_steps
  all_goals (try (have hF : (((Txt.item x kN).cps.getD 0 0 : Nat) : Int) < 128 := cAt_lt hx kEq kLt))
  k_steps
  all_goals (refine cb_retS hret ?e1 ?e2 ?e3; (case e2 => k_asm); (case e3 => k_asm); (case e1 => exact sent_end (by with_reducible assumption)))
end Mine
end

/-! X_even -/
noncomputable section
open PySem PySem.W PySem.Spec PySem.Calls PyProof.Rows
set_option maxRecDepth 100000
set_option maxHeartbeats 8000000
set_option linter.all false
namespace Mine
theorem spec_even (w : World) {loose : List Str} {mean : ExcName → Option Value} {mg mb : Str → Option Value} (news : List (Addr × Obj)) (x : Str) (t : Tok) (hl : x.length ≤ 100) :
    MC 5 w loose mean mg mb 108 news [.str x t] (fun _ => .bool (evenB x)) := by
  dsimp only [MC]
  k_fill
  intros
  rename_i hret
  refine wpAny_call ?_
  k_dflt cell_enter
  conv => pattern fB _; whnf
  k_with_none
  k_with "pyIter ref" => k_search (fun pre => EvenTo x pre.length)
  k_with "state" => with_reducible first
    | exact even_st x
    | exact even_turn (by assumption) (by assumption) (by first | exact ok1 (by assumption) (by assumption) | exact ok2 (by assumption) (by assumption) (by assumption) | exact ok3 (by assumption) (by assumption) (by assumption) (by assumption) | exact ok4 (by assumption) (by assumption) (by assumption) (by assumption) (by assumption))
  k_steps
  all_goals (refine cb_retB hret ?e1 ?e2 ?e3; (case e2 => k_asm); (case e3 => first | k_asm | (refine' cb_drop ?cbN ?cbS; (case cbN => assumption); (case cbS => kcj_all))); (case e1 => with_reducible first
    | exact even_yes (by assumption)
    | exact even_no (by assumption) (by assumption) (by first | exact no1 (by assumption) (by assumption) (by assumption) | exact no2 (by assumption) (by assumption) | exact no3 (by assumption) (by assumption) (by assumption) | exact no4 (by assumption) (by assumption) (by assumption) (by assumption) (by assumption))))
end Mine
end

/-! X_read -/
noncomputable section
open PySem PySem.W PySem.Spec PySem.Calls PyProof.Rows
set_option maxRecDepth 100000
set_option maxHeartbeats 8000000
set_option linter.all false
namespace Mine
section
theorem same_str' (a b : Str) : PySem.Spec.same (.str a) (.str b) = (a == b) := by
  simp [PySem.Spec.same]
theorem flat_str {v : Value} {z : Str} (h : PyProof.V.Flat v (.str z)) : ∃ t, v = .str z t := by
  have h1 := h {}
  cases h1; exact ⟨_, rfl⟩
theorem flat_get {v : Value} {y : Str} (h : PyProof.V.Flat v ((PySem.Spec.lookup (.str y) [(.str (Str.ofString "t"), .str (Str.ofString "\t")), (.str (Str.ofString "n"), .str (Str.ofString "\n")), (.str (Str.ofString "r"), .str (Str.ofString "\x0d"))]).getD (.str y))) : ∃ t, v = .str (unescS y) t := by
  refine flat_str (z := unescS y) ?_
  have e : ∀ a : Str, PySem.Spec.same (.str a) (.str y) = (y == a) := fun a => by rw [same_str', Bool.eq_iff_iff, beq_iff_eq, beq_iff_eq]; exact eq_comm
  simp only [PySem.Spec.lookup, e] at h
  unfold unescS
  cases h1 : y == Str.ofString "t" <;> cases h2 : y == Str.ofString "n" <;> cases h3 : y == Str.ofString "r" <;> simp only [h1, h2, h3, if_true, if_false, Bool.false_eq_true, Option.getD_some, Option.getD_none] at h <;> exact h
end
section
local macro_rules | `(tactic| walk_at "call ref") => `(tactic| (k_here; (with_reducible show wpAny _ _ (call (Value.ref 45) _) _ _ _); (obtain ⟨a9, b9, ha9, hb9, hs9, hn9, hr9⟩ := readB (by with_reducible assumption) (by with_reducible assumption) (by with_reducible assumption) (by with_reducible assumption) (by with_reducible assumption) (by with_reducible assumption)); k_dflt (refine' mc_call (spec_unquote _ _ _ _ a9 b9 hn9 hs9 ha9 hb9) ?k1 ?k2 ?k3 ?k4 ?k5 ?kK ?kd ?ku ?kR; (case k1 => k_asm); (case k2 => k_asm); (case k3 => k_asm); (case k4 => k_asm); (case k5 => k_asm); (case kK => first | exact rfl | assumption); (case kd => ktr_room); (case ku => ktr_units)); intro t9 h9 tk9 F9 N9; (try dsimp only); (try k_fold)))
local macro_rules | `(tactic| walk_at "call builtin:dict.get") => `(tactic| (k_here; k_dflt (refine' call_get2_strTab ?k1 ?k2 ?_; (case k1 => k_tabat); (case k2 => k_flat); k_whole; intro v9 hv9; (obtain ⟨t9, e9⟩ := flat_get hv9); subst e9; clear hv9; (have hu9 := (readC (by with_reducible assumption) (by with_reducible assumption) (by with_reducible assumption) (by with_reducible assumption) (by with_reducible assumption) (by with_reducible assumption)).2))))
theorem spec_read (w : World) {loose : List Str} {mean : ExcName → Option Value} {mg mb : Str → Option Value} (news : List (Addr × Obj)) (q : Nat) (l : List Nat) (t : Tok) (hq : q = 34 ∨ q = 39) (hx : AscL l) (hl : (T (tellQ q l)).length ≤ 200) :
    MC 10 w loose mean mg mb 101 news [.str (T (tellQ q l)) t] (fun t => .str (T l) t) := by
  dsimp only [MC]
  k_fill
  intros
  rename_i hret
  refine wpAny_call ?_
  k_dflt cell_enter
  conv => pattern fB _; whnf
  k_with_none
  k_with "exec While Compare cons nil" => k_while (fun (_ : List Int) text place => RI q l text place ∧ (text.length : Int) ≤ place ∧ 1 ≤ place ∧ place ≤ ((T (tellQ q l)).length : Int)) (fun (_ : List Int) text place => (300 - place).toNat) "text" "place"
  k_with "state" => with_reducible first
    | assumption
    | exact ri_start q l
    | exact readA (by assumption) (by assumption) (by assumption) (by assumption) (by assumption)
    | exact (readC (by assumption) (by assumption) (by assumption) (by assumption) (by assumption) (by assumption)).1
  k_with "measure" => omega
  k_steps
  all_goals (refine cb_retS hret ?e1 ?e2 ?e3; (case e2 => k_asm); (case e3 => k_asm); (case e1 => exact read_end (by with_reducible assumption) (by with_reducible assumption)))
end
end Mine
end

/-! X_repr -/
noncomputable section
open PySem PySem.W PySem.Spec PySem.Calls PyProof.Rows
set_option maxRecDepth 100000
set_option maxHeartbeats 8000000
set_option linter.all false
namespace Mine
theorem repr_le {x : Str} (hx : Asc x) : (reprText x).length ≤ 10 * x.length + 2 := StrLaws.reprText_len x fun c hc => Nat.lt_trans (hx c hc) (by decide)
theorem repr_fits {x : Str} (hx : Asc x) (hl : x.length ≤ 100) : (reprText x).length ≤ sizeLine := by
  have := repr_le hx
  rw [sizeLine_eq]; omega
noncomputable def reprShort (x : Str) : Str := if ((reprText x).length : Int) < 80 then reprText x else Txt.slice (reprText x) none (some 80) ++ Str.ofString " [truncated]..."
section
local macro_rules | `(tactic| walk_at "call builtin:repr") => `(tactic| (k_here; (with_reducible refine repr_of_str ?_ (repr_fits (by assumption) (by assumption)))))
theorem spec_repr1 (w : World) {loose : List Str} {mean : ExcName → Option Value} {mg mb : Str → Option Value} (news : List (Addr × Obj)) (x : Str) (t : Tok) (hx : Asc x) (hl : x.length ≤ 100) :
    MC 5 w loose mean mg mb 22 news [.str x t] (fun t => .str (reprText x) t) := by
  dsimp only [MC]
  k_fill
  intros
  rename_i hret
  have hrl := repr_le hx
  refine wpAny_call ?_
  (k_dflt (refine' code_def ?k1 ?k2 ?k3 ?k4 ?k5 ?kA ?kF ?kK ?k6 ?k7 ?k8 ?k9 ?kB ?_ ?c2 ?c3 ?c4 ?c5; (case kA => exact rfl); (case kF => exact rfl); (case kK => assumption); (case k1 => k_asm); (case k2 => k_asm); (case k3 => k_asm); (case k4 => k_asm); (case k5 => k_asm); (case k6 => k_is); (case k7 => k_is); (case k8 => ktr_room); (case k9 => exact binds_K (by k_in) rfl (by k_is) rfl rfl rfl); (case c5 => decide); (case kB => exact locs rfl); (case c2 => exact rfl); (case c3 => exact rfl); (case c4 => exact rfl); k_whole; intro g' L' h' FG' F' N' B' X' T'; (try dsimp only); (try k_lift B'); (try k_fold)))
  conv => pattern fB _; whnf
  k_with_none
  k_steps
  all_goals (refine cb_retS hret ?e1 ?e2 ?e3; (case e2 => k_asm); (case e3 => k_asm); (case e1 => rfl))
theorem spec_repr2 (w : World) {loose : List Str} {mean : ExcName → Option Value} {mg mb : Str → Option Value} (news : List (Addr × Obj)) (x : Str) (t : Tok) (hx : Asc x) (hl : x.length ≤ 100) :
    MC 5 w loose mean mg mb 22 news [.str x t, .bool true] (fun t => .str (reprShort x) t) := by
  dsimp only [MC]
  k_fill
  intros
  rename_i hret
  have hrl := repr_le hx
  refine wpAny_call ?_
  (k_dflt (refine' code_def ?k1 ?k2 ?k3 ?k4 ?k5 ?kA ?kF ?kK ?k6 ?k7 ?k8 ?k9 ?kB ?_ ?c2 ?c3 ?c4 ?c5; (case kA => exact rfl); (case kF => exact rfl); (case kK => assumption); (case k1 => k_asm); (case k2 => k_asm); (case k3 => k_asm); (case k4 => k_asm); (case k5 => k_asm); (case k6 => k_is); (case k7 => k_is); (case k8 => ktr_room); (case k9 => exact binds_K (by k_in) rfl (by k_is) rfl rfl rfl); (case c5 => decide); (case kB => exact locs rfl); (case c2 => exact rfl); (case c3 => exact rfl); (case c4 => exact rfl); k_whole; intro g' L' h' FG' F' N' B' X' T'; (try dsimp only); (try k_lift B'); (try k_fold)))
  conv => pattern fB _; whnf
  k_with_none
  k_steps
  all_goals (refine cb_retS hret ?e1 ?e2 ?e3; (case e2 => k_asm); (case e3 => k_asm); (case e1 => unfold reprShort; first | rw [if_pos (by assumption)] | rw [if_neg (by assumption)]))
end
end Mine
end

/-! Tr -/
noncomputable section
open PySem PySem.W PySem.Spec PySem.Calls PyProof.Rows
set_option maxRecDepth 100000
set_option maxHeartbeats 1000000
set_option linter.all false
namespace Mine
section
variable {prog : Program} {w : World} {A : Around} {E : Value → Shared → Prop} {s : Shared}
theorem wp_lookup {l : Addr} {vs : Array Value} {c : Nat} {x : Str} {tk : Tok} {Q : Builtin.Str.Mapped → Shared → Prop} (hl : s.heap.IsList l vs) (hc : c < 128) (hx : vs[c]? = some (.str x tk)) (h : Q (.text x) { s with toks := s.toks + 1 }) :
    wpAny (model prog w) A (Builtin.Str.tableLookup (.ref l) c) Q E s := by
  unfold Builtin.Str.tableLookup
  refine wpAny_bind (wpAny_attempt (wpAny_bind (wpAny_mkInt (wpAny_getItem_list (s := { s with toks := s.toks + 1 }) hl (Int.natCast_nonneg c) (by omega) (by simpa using hx) ?_))))
  dsimp only
  refine wpAny_bind (wpAny_of_eq (show asInt? (.str x tk) = pure none from rfl) ?_)
  dsimp only
  exact wpAny_bind (wpAny_of_eq (show asStr? (.str x tk) = pure (some x) from rfl) (wpAny_pure h))
/-- what the table tells of a sign -/
structure TabFor (vs : Array Value) (Ef : Nat → Str) : Prop where
  at_ : ∀ c, c < 128 → ∃ tk, vs[c]? = some (.str (Ef c) tk)
  few : ∀ c, c < 128 → 1 ≤ (Ef c).length ∧ (Ef c).length ≤ 3
noncomputable def flatE (Ef : Nat → Str) (l : List Nat) : Array Nat := l.foldl (fun acc c => acc ++ (Ef c).cps) #[]
theorem flatE_snoc (Ef : Nat → Str) (l : List Nat) (c : Nat) : flatE Ef (l ++ [c]) = flatE Ef l ++ (Ef c).cps := by unfold flatE; rw [List.foldl_append]; rfl
noncomputable def KnownOk (Ef : Nat → Str) (known : List (Nat × Option Nat)) : Prop := ∀ c a, known.lookup c = some a → ∃ d, a = some d ∧ (Ef c).cps = #[d]
theorem known_cons {Ef : Nat → Str} {known : List (Nat × Option Nat)} {c d : Nat} (h : KnownOk Ef known) (hd : (Ef c).cps = #[d]) : KnownOk Ef ((c, some d) :: known) := by
  intro c' a ha
  rw [List.lookup_cons] at ha
  by_cases e : c' == c
  · rw [e] at ha
    have : c' = c := by simpa using e
    subst this
    cases ha
    exact ⟨d, rfl, hd⟩
  · simp only [e] at ha
    exact h c' a ha
structure TrInv (Ef : Nat → Str) (x : Str) (hp : Heap) (g : Array GenState) (dr : Drawn) (os : OsState) (rest : List Nat) (b : List Str × Nat × Bool × List (Nat × Option Nat) × Bool) (s : Shared) : Prop where
  st : ∃ tk, s = ⟨hp, g, dr, tk, os⟩
  done : ∃ pre, x.cps.toList = pre ++ rest ∧ b.1.reverse.foldl (fun acc (p : Str) => acc ++ p.cps) #[] = flatE Ef pre
  tot : b.2.1 + 3 * rest.length ≤ 3 * x.length
  known : KnownOk Ef b.2.2.2.1
  drop : b.2.2.2.2 = false
theorem TrInv.next {Ef : Nat → Str} {x : Str} {hp : Heap} {g : Array GenState} {dr : Drawn} {os : OsState} {rest : List Nat} {ps : List Str} {tot : Nat} {fast fast' : Bool} {known known' : List (Nat × Option Nat)} {c tk : Nat} {z : Str} {s : Shared}
    (h : TrInv Ef x hp g dr os (c :: rest) (ps, tot, fast, known, false) s) (hz : z.cps = (Ef c).cps) (hn : (Ef c).length ≤ 3) (hk : KnownOk Ef known') {m : Nat} (hm : m ≤ 3) :
    TrInv Ef x hp g dr os rest (z :: ps, tot + m, fast', known', false) ⟨hp, g, dr, tk, os⟩ := by
  obtain ⟨_, ⟨pre, e1, e2⟩, ht, _, _⟩ := h
  refine ⟨⟨tk, rfl⟩, ⟨pre ++ [c], by rw [e1]; simp, ?_⟩, ?_, hk, rfl⟩
  · dsimp only at e2 ⊢
    rw [List.reverse_cons, List.foldl_append, e2, flatE_snoc]
    show flatE Ef pre ++ z.cps = _
    rw [hz]
  · dsimp only at ht ⊢
    rw [List.length_cons] at ht
    omega
theorem wp_translate {l : Addr} {vs : Array Value} {Ef : Nat → Str} {x : Str} {t : Tok} {Q : Value → Shared → Prop} (hT : TabFor vs Ef) (hl : s.heap.IsList l vs) (hx : Asc x) (h0 : x.length ≠ 0) (h1 : x.length ≤ 1000)
    (h : ∀ t' k, Q (.str ⟨flatE Ef x.cps.toList⟩ t') { s with toks := k }) (hfit : (⟨flatE Ef x.cps.toList⟩ : Str).length ≤ sizeLine) :
    wpAny (model prog w) A (Builtin.«str.translate» ⟨[.str x t, .ref l], []⟩) (fun fin s' => ∃ v, fin = .done (.ret v) ∧ Q v s') E s := by
  obtain ⟨hp, g, dr, tk, os⟩ := s
  unfold Builtin.«str.translate»
  refine wpAny_bind (wpAny_of_eq (show Builtin.Str.strOneArg "translate" ⟨[.str x t, .ref l], []⟩ = pure (.str x t, x, .ref l) from rfl) ?_)
  dsimp only
  rw [if_neg (by simpa using h0)]
  refine wpAny_bind (MeetsSeq2.wpAny_forIn_array _ (TrInv Ef x hp g dr os) _ ?turn ?fin _ _ ?start)
  case start =>
    exact ⟨⟨tk, rfl⟩, ⟨[], rfl, rfl⟩, by dsimp only; rw [Array.length_toList]; show 0 + 3 * x.cps.size ≤ 3 * x.cps.size; omega, fun c a ha => (by cases ha), rfl⟩
  case turn =>
    rintro c rest ⟨ps, tot, fast, known, dp⟩ s₁ hI
    obtain ⟨⟨tk₁, rfl⟩, ⟨pre, e1, e2⟩, ht, hk, hd⟩ := id hI
    dsimp only at e2 ht hk hd ⊢
    subst hd
    have hc : c < 128 := hx c (by rw [e1]; simp)
    obtain ⟨ctk, hct⟩ := hT.at_ c hc
    obtain ⟨hn1, hn3⟩ := hT.few c hc
    have hlong : Builtin.Str.tooLong tot = false := by unfold Builtin.Str.tooLong; simp; rw [sizeLine_eq]; omega
    rw [hlong]
    have slow : ∀ (known' : List (Nat × Option Nat)) (tk₂ : Nat), KnownOk Ef known' → ∀ fast' : Bool, wpAny (model prog w) A (do
        let __do_lift ← Builtin.Str.tableLookup (.ref l) c
        match __do_lift with
          | Builtin.Str.Mapped.keep => pure (ForInStep.yield ((⟨#[c]⟩ : Str) :: ps, tot + 1, fast', known', false))
          | Builtin.Str.Mapped.drop => pure (ForInStep.yield (ps, tot, fast', known', true))
          | Builtin.Str.Mapped.char d => pure (ForInStep.yield ((⟨#[d]⟩ : Str) :: ps, tot + 1, fast', known', false))
          | Builtin.Str.Mapped.text t => pure (ForInStep.yield (t :: ps, tot + t.length, fast', known', false)))
        (fun r s' => match r with | .yield b' => TrInv Ef x hp g dr os rest b' s' | .done b' => False) E ⟨hp, g, dr, tk₂, os⟩ := by
      intro known' tk₂ hk' fast'
      refine wpAny_bind (wp_lookup hl hc hct ?_)
      exact wpAny_pure (TrInv.next hI rfl hn3 hk' hn3)
    rw [if_neg Bool.false_ne_true]
    cases fast with
    | false =>
      rw [if_neg Bool.false_ne_true, if_neg Bool.false_ne_true]
      exact wpAny_mono (slow known tk₁ hk false) (fun r s' h => by cases r with | done b => exact h.elim | yield b => exact h) (fun _ _ h => h)
    | true =>
      rw [if_pos rfl]
      cases hkc : known.lookup c with
      | some a =>
        obtain ⟨d, rfl, hd⟩ := hk c a hkc
        dsimp only
        refine wpAny_bind (wpAny_pure ?_)
        dsimp only
        exact wpAny_pure (TrInv.next hI hd.symm hn3 hk (by omega))
      | none =>
        dsimp only
        refine wpAny_bind (wp_lookup hl hc hct ?_)
        dsimp only
        by_cases hone : ((Ef c).length == 1 && (Ef c).cps.all fun x => decide (x < 128)) = true
        · rw [if_pos hone]
          have hsz : (Ef c).cps.size = 1 := beq_iff_eq.mp (Bool.and_eq_true_iff.mp hone).1
          obtain ⟨d, hd⟩ : ∃ d, (Ef c).cps = #[d] := Array.size_eq_one_iff.mp hsz
          have h0' : (Ef c).cps[0]? = some d := by rw [hd]; rfl
          rw [h0']
          dsimp only
          refine wpAny_bind (wpAny_pure ?_)
          dsimp only
          exact wpAny_pure (TrInv.next hI hd.symm hn3 (known_cons hk hd) (by omega))
        · rw [if_neg hone]
          dsimp only
          refine wpAny_bind (wpAny_pure ?_)
          dsimp only
          refine wpAny_bind (wpAny_rule ?_)
          rw [if_neg Bool.false_ne_true]
          exact wpAny_mono (slow known _ hk false) (fun r s' h => by cases r with | done b => exact h.elim | yield b => exact h) (fun _ _ h => h)
  case fin =>
    rintro ⟨ps, tot, fast, known, dp⟩ s₁ hI
    obtain ⟨⟨tk₁, rfl⟩, ⟨pre, e1, e2⟩, ht, hk, hd⟩ := hI
    dsimp only at e2 ht ⊢
    have hlong : Builtin.Str.tooLong tot = false := by unfold Builtin.Str.tooLong; simp; rw [sizeLine_eq]; simp at ht; omega
    rw [hlong, if_neg Bool.false_ne_true]
    have hpre : pre = x.cps.toList := by simpa using e1.symm
    subst hpre
    rw [show (List.foldl (fun acc p => acc ++ p.cps) #[] ps.reverse) = flatE Ef x.cps.toList from e2]
    show wpAny (model prog w) A (bind (mkStr ⟨flatE Ef x.cps.toList⟩) fun v => ret v) _ _ _
    refine wpAny_bind (wpAny_mkStr ?_ hfit)
    exact wpAny_pure ⟨_, rfl, h _ _⟩
theorem call_translate {l : Addr} {vs : Array Value} {Ef : Nat → Str} {x : Str} {t : Tok} {Q : Value → Shared → Prop} (hT : TabFor vs Ef) (hl : s.heap.IsList l vs) (hx : Asc x) (h0 : x.length ≠ 0) (h1 : x.length ≤ 1000) (hfit : (⟨flatE Ef x.cps.toList⟩ : Str).length ≤ sizeLine)
    (h : ∀ t' k, Q (.str ⟨flatE Ef x.cps.toList⟩ t') { s with toks := k }) :
    wpAny (model prog w) A (call (.builtin "str.translate") [.str x t, .ref l]) Q E s := by
  refine wpAny_call_entry F.slot_str_translate (typeIs_str _ _ _) F.entry_str_translate ?_ (F.args_str_translate_2 _ _)
  exact wp_translate hT hl hx h0 h1 h hfit
end
end Mine
end

/-! Bd0 -/
noncomputable section
open PySem PySem.W PySem.Spec PySem.Calls PyProof.Rows
set_option maxRecDepth 100000
set_option maxHeartbeats 1000000
set_option linter.all false
namespace Mine
noncomputable def encL (c : Nat) : List Nat := if c = 9 ∨ c = 10 ∨ c = 13 ∨ (32 ≤ c ∧ c < 127 ∧ c ≠ 61) then [c] else [61, hX (c / 16), hX (c % 16)]
noncomputable def encT (l : List Nat) : List Nat := l.flatMap encL
noncomputable def seqOf (o : Obj) : Array Value := match o.data with | .seq a _ => a | _ => #[]
noncomputable def numOf' (o : Obj) : Nat := match o.data with | .seq _ n => n | _ => 0
noncomputable def tabV (P : Params) : Array Value := seqOf (oH_54 P)
theorem tab_data (P : Params) : ∃ n, (oH_54 P).data = .seq (tabV P) n := ⟨numOf' (oH_54 P), by kernel_rfl⟩
noncomputable def tabCheck (P : Params) (c : Nat) : Bool := match (tabV P)[c]? with | some (.str x _) => x == T (encL c) | _ => false
theorem tab_check (P : Params) : (List.range 128).all (tabCheck P) = true := by kernel_rfl
theorem tab_for (P : Params) : TabFor (tabV P) (fun c => T (encL c)) where
  at_ c hc := by
    have h := List.all_eq_true.mp (tab_check P) c (List.mem_range.mpr hc)
    unfold tabCheck at h
    split at h
    · rename_i x tk e
      rw [e, beq_iff_eq.mp h]; exact ⟨tk, rfl⟩
    · cases h
  few c _ := by
    rw [T_len]; unfold encL; split <;> simp
theorem flatE_T (l : List Nat) : (⟨flatE (fun c => T (encL c)) l⟩ : Str) = T (encT l) := by
  have h : ∀ (acc : List Nat), l.foldl (fun (a : Array Nat) c => a ++ (encL c).toArray) acc.toArray = (acc ++ encT l).toArray := by
    induction l with
    | nil => intro acc; simp [encT]
    | cons c l ih =>
      intro acc
      rw [List.foldl_cons]
      have : acc.toArray ++ (encL c).toArray = (acc ++ encL c).toArray := by simp
      rw [this, ih]
      simp [encT]
  have := h []
  refine Str.ext' ?_
  exact this
theorem encL_len (c : Nat) : (encL c).length ≤ 3 := by unfold encL; split <;> simp
theorem encT_len (l : List Nat) : (encT l).length ≤ 3 * l.length := by
  induction l with
  | nil => simp [encT]
  | cons c l ih =>
    have := encL_len c
    unfold encT at ih ⊢
    rw [List.flatMap_cons, List.length_append, List.length_cons]
    omega
theorem enc_ne {l : List Nat} (h : l ≠ []) : 1 ≤ (T (encT l)).length := by
  cases l with
  | nil => exact absurd rfl h
  | cons c r =>
    rw [T_len]; unfold encT encL; rw [List.flatMap_cons, List.length_append]; split <;> simp <;> omega
section
variable {prog : Program} {w : World} {A : Around} {E : Value → Shared → Prop} {s : Shared}
theorem gm_translate {x : Str} {t : Tok} {pl : Sem Bool} {Q : Value × List Value → Shared → Prop} (h : Q (.builtin "str.translate", [.str x t]) s) :
    wpAny (model prog w) A (getMethod (.str x t) (Str.ofString "translate") pl) Q E s := by
  with_reducible exact GM.of (.str x t) (typeIs_str _ _ _) F.slot_str_translate F.type_str_translate GM.noRef h
theorem tab_cls (P : Params) : (oH_54 P).cls = .type "list" := by kernel_rfl
theorem tab_at (P : Params) : (KF P).lookup 54 = some (oH_54 P) := by kernel_rfl
theorem tab_list {P : Params} {h₀ h : Heap} {L : Addr} {m : Str → Option Value} (F : Fr h₀ L h m) (X : (KF P).In h₀) : h.IsList 54 (tabV P) := Exists.intro (oH_54 P) (And.intro (F.keep _ _ (X 54 _ (tab_at P))) (And.intro (tab_cls P) (tab_data P)))
theorem call_trans {P : Params} {h₀ : Heap} {L : Addr} {m : Str → Option Value} {l : List Nat} {t : Tok} {Q : Value → Shared → Prop} (F : Fr h₀ L s.heap m) (X : (KF P).In h₀) (hx : AscL l) (h0 : l ≠ []) (h1 : l.length ≤ 100)
    (h : ∀ t' k, Q (.str (T (encT l)) t') { s with toks := k }) :
    wpAny (model prog w) A (call (.builtin "str.translate") [.str (T l) t, .ref 54]) Q E s := by
  have hl := encT_len l
  refine call_translate (vs := tabV P) (Ef := fun c => T (encL c)) (tab_for P) ?_ (by intro c hc; exact hx c (by simpa using hc)) ?_ ?_ ?_ ?_
  · exact tab_list F X
  · rw [T_len]; exact fun e => h0 (List.length_eq_zero_iff.mp e)
  · rw [T_len]; omega
  · rw [List.toList_toArray, flatE_T, T_len, sizeLine_eq]; omega
  · rw [List.toList_toArray, flatE_T]; exact h
end
end Mine
end

/-! Bd1 -/
noncomputable section
open PySem PySem.W PySem.Spec PySem.Calls PyProof.Rows PyProof.V
set_option maxRecDepth 100000
set_option maxHeartbeats 1000000
set_option linter.all false
namespace Mine
section
variable {prog : Program} {w : World} {A : Around} {E : Value → Shared → Prop} {s : Shared} {env : Env} {h₀ : Heap} {L : Addr} {m : Str → Option Value} {news : List (Addr × Obj)}
theorem attr_append_K {D : Addr} {its : Array Value} {n : Nat} {Q : Value → Shared → Prop} (F : Fr h₀ L s.heap m) (N : News h₀ L s.heap news) (hm : (D, listOf its n) ∈ news)
    (h : ∀ l h' tk, Fr h₀ L h' m → News h₀ L h' ((l, bmObj D) :: news) → (∀ p ∈ news, p.1 < l) → Q (.ref l) { s with heap := h', toks := tk }) :
    wpAny (model prog w) A (getAttr (.ref D) (Str.ofString "append") true) Q E s := by
  obtain ⟨hp, g, d, tk, os⟩ := s
  exact bm_attr (N _ hm).1 rfl rfl ⟨_, _, rfl⟩ (h _ _ _ (F.push _) (N.push F _) fun p hp => Heap.lt_size (N p hp).1)
theorem call_append_U {B D : Addr} {its : Array Value} {n : Nat} {x : Value} {news' : List (Addr × Obj)} {Q : Value → Shared → Prop} (F : Fr h₀ L s.heap m) (N : News h₀ L s.heap news) (hB : (B, bmObj D) ∈ news) (U : Upd D (listOf its n) (listOf (its.push x) (n + 1)) news news')
    (h : ∀ h', Fr h₀ L h' m → News h₀ L h' news' → Q .none { s with heap := h' }) (hsz : its.size ≤ sizeLine) :
    wpAny (model prog w) A (call (.ref B) [x]) Q E s := by
  obtain ⟨hp, g, d, tk, os⟩ := s
  obtain ⟨pre, post, rfl, rfl, a, b⟩ := U.split
  have z := N (D, listOf its n) (List.mem_append.mpr (.inr (.head _)))
  exact bm_calls (N _ hB).1 rfl z.1 (fun h' hs ho' => h h' (F.change hs z.2.1 z.2.2) (news_set N a b hs ho')) hsz
end
end Mine
namespace Mine
noncomputable def lastIn (y : Str) : Bool := !(noOcc (Str.ofString " \t") (Txt.item y (-1)))
/-- what a line of the body turns into -/
noncomputable def lineS (y : Str) : Str := if y.length = 0 then y else bif lastIn y then Txt.slice y (some 0) (some (-1)) ++ quoteS ((Txt.item y (-1)).cps.getD 0 0) else y
structure Sep (Dl B D : Addr) (news own : List (Addr × Obj)) : Prop where
  a : Dl ≠ D
  b : B ≠ D
  c : ∀ p ∈ news, p.1 ≠ D
  d : ∀ p ∈ own, p.1 ≠ D
noncomputable abbrev bodySt : List Str := [Str.ofString "start", Str.ofString "laststart", Str.ofString "stop", Str.ofString "room", Str.ofString "q"]
noncomputable abbrev bodyLed (Dl B D : Addr) (oL : Obj) (news : List (Addr × Obj)) (c : List Value × Nat) : List (Addr × Obj) := (Dl, oL) :: (B, bmObj D) :: (D, listOf c.1.toArray c.2) :: news
section
variable {prog : Program} {w : World} {A : Around} {E : Value → Shared → Prop} {s : Shared} {env : Env} {h₀ : Heap} {x : Str} {body : List Stmt} {Q : Flow → Shared → Prop} {news : List (Addr × Obj)}
theorem sep_len {y : Str} {us : List Value} {k : Nat} (h : StrsAre us (((Txt.lines y).take k).map lineS)) (hl : y.length ≤ 74) : us.length ≤ 75 := by
  have := h.length
  have := StrLaws.lines_weight y
  rw [List.length_map, List.length_take] at *
  omega
theorem body_loop {Dl B D : Addr} {vs : List Value} {y : Str} {ls : List (Str × Tok)} {m₀ : Str → Option Value} {hOld : Heap} (hh : A.handled = none) (hDl : Dl = hOld.objs.size) (No : News h₀ env.locals hOld ((B, bmObj D) :: (D, listOf #[] 0) :: news)) (hBD : D < B) (hnw : ∀ p ∈ news, p.1 < D) (h74 : y.length ≤ 74)
    (hy : ls.map (fun p => p.1) = Txt.lines y) (hi : StrsAre vs (ls.map (fun p => p.1))) (F : Fr h₀ env.locals s.heap m₀) (N : News h₀ env.locals s.heap ((Dl, listOf vs.toArray 0) :: (B, bmObj D) :: (D, listOf #[] 0) :: news))
    (turn : ∀ (us : List Value) (k : Nat) (pre : List Int) (n : Str) t (u : Str → Option Value) h tk own, (Txt.lines y)[pre.length]? = some n → n.length ≤ 74 → us.length ≤ 75 → Sep Dl B D news own → StrsAre us (((Txt.lines y).take pre.length).map lineS) →
      Fr h₀ env.locals h (fun y => if y = x then some (.str n t) else if bodySt.contains y then u y else m₀ y) → News h₀ env.locals h (((Dl, listOf vs.toArray 0) :: (B, bmObj D) :: (D, listOf us.toArray k) :: news) ++ own) →
      wpAny (model prog w) A (execs body env) (InvPostN h₀ env.locals (KstS (bodyLed Dl B D (listOf vs.toArray 0) news) (fun _ => []) (fun _ => True) x bodySt m₀ (fun pre c => StrsAre c.1 (((Txt.lines y).take pre.length).map lineS)) (pre ++ [0])) own ((bodyLed Dl B D (listOf vs.toArray 0) news ([], 0)).map (·.1)) { s with heap := h, toks := tk } Q) E { s with heap := h, toks := tk })
    (done : ∀ (us : List Value) (k : Nat) (u : Str → Option Value) h tk, us.length ≤ 75 → Sep Dl B D news [] → StrsAre us ((Txt.lines y).map lineS) → Fr h₀ env.locals h (fun y => if y = x then u y else if bodySt.contains y then u y else m₀ y) → News h₀ env.locals h ((Dl, listOf vs.toArray 0) :: (B, bmObj D) :: (D, listOf us.toArray k) :: news) → Q .next { s with heap := h, toks := tk }) :
    wpAny (model prog w) A (pyIter (.ref Dl)) (fun it s₂ => LoopAtV prog w A h₀ env x body Q E it s₂) E s := by
  have hDD : D < Dl := by rw [hDl]; exact Heap.lt_size (No _ (.tail _ (.head _))).1
  have hsep : ∀ own : List (Addr × Obj), (∀ p ∈ own, p.1 ≠ D) → Sep Dl B D news own := fun own ho => ⟨Nat.ne_of_gt hDD, Nat.ne_of_gt hBD, fun p hp => Nat.ne_of_lt (hnw p hp), ho⟩
  rw [hy] at hi
  refine kst_strs (bodyLed Dl B D (listOf vs.toArray 0) news) (fun _ => []) (fun _ => True) bodySt (fun pre c => StrsAre c.1 (((Txt.lines y).take pre.length).map lineS)) ([], 0) hh (fun c => .head _) hi F N trivial (fun p hp => nomatch hp) .nil ?_ ?_
  · rintro ⟨us, k⟩ pre n t u h tk own hn hoff _ hP F' N'
    exact turn us k pre n t u h tk own hn (Nat.le_trans (line_short (List.mem_of_getElem? hn)) h74) (sep_len hP h74) (hsep own fun p hp => hoff p hp D (by simp)) hP F' N'
  · rintro ⟨us, k⟩ pre u h tk hl _ hP F' N'
    refine done us k u h tk (sep_len hP h74) (hsep [] fun p hp => nomatch hp) ?_ F' N'
    dsimp only at hP
    rwa [hl, List.take_length] at hP
theorem body_end {Dl B D : Addr} {oL : Obj} {m₀ m' : Str → Option Value} {y : Str} {us : List Value} {k k' : Nat} {pre : List Int} {n z : Str} {t : Tok} {L : Addr} {own : List (Addr × Obj)} {s₁ : Shared} {h' : Heap} {tk : Nat}
    (hn : (Txt.lines y)[pre.length]? = some n) (hs : StrsAre us (((Txt.lines y).take pre.length).map lineS)) (hz : z = lineS n)
    (F : Fr h₀ L h' m') (N : News h₀ L h' (((Dl, oL) :: (B, bmObj D) :: (D, listOf (us ++ [Value.str z t]).toArray k') :: news) ++ own))
    (hr : ∀ z, z ≠ x → (∀ p ∈ ([] : List (Str × Value)), z ≠ p.1) → bodySt.contains z = false → m' z = m₀ z) :
    InvEndN h₀ L (KstS (bodyLed Dl B D oL news) (fun _ => []) (fun _ => True) x bodySt m₀ (fun pre c => StrsAre c.1 (((Txt.lines y).take pre.length).map lineS)) (pre ++ [0])) own ((bodyLed Dl B D oL news ([], 0)).map (·.1)) s₁ { s₁ with heap := h', toks := tk } := by
  subst hz
  refine kst_end (us ++ [Value.str (lineS n) t], k') F N (fun p hp => List.mem_append.mpr (.inl hp)) (fun p hp => List.mem_append.mpr (.inr hp)) rfl trivial (fun p hp => nomatch hp) hr ?_
  dsimp only
  have e : (Txt.lines y).take (pre ++ [0]).length = (Txt.lines y).take pre.length ++ [n] := by
    rw [List.length_append, List.length_singleton, List.take_add_one, hn]; rfl
  rw [e, List.map_append]
  exact KStt.strs_snoc hs
end
end Mine
namespace Mine
theorem noOcc_one (x : Str) (c : Nat) : noOcc x ⟨#[c]⟩ = !decide (c ∈ x.cps.toList) := by
  have := StrLaws.found_one x c
  unfold noOcc
  revert this
  cases (Builtin.Str.occurrences x ⟨#[c]⟩ 0 x.length 1).isEmpty <;> simp
theorem one_of {z : Str} (h : 1 ≤ z.length ∧ z.length ≤ 1) : ∃ c, z = ⟨#[c]⟩ := by
  obtain ⟨c, hc⟩ := Array.size_eq_one_iff.mp (Nat.le_antisymm h.2 h.1)
  exact ⟨c, Str.ext' hc⟩
theorem tabL {z : Str} (h : 1 ≤ z.length ∧ z.length ≤ 1) (h2 : noOcc (Str.ofString " \t") z = false) : ∃ c, z = ⟨#[c]⟩ ∧ c < 128 := by
  obtain ⟨c, rfl⟩ := one_of h
  rw [noOcc_one] at h2
  refine ⟨c, rfl, ?_⟩
  have h3 : c ∈ (Str.ofString " \t").cps.toList := by simpa using h2
  have h4 : (Str.ofString " \t").cps.toList = [32, 9] := by decide +kernel
  rw [h4] at h3
  simp at h3
  omega
theorem mem2 {α : Type} {a b : α} {l : List α} : b ∈ a :: b :: l := .tail _ (.head _)
theorem mem2a {α : Type} {a b : α} {l m : List α} : b ∈ (a :: b :: l) ++ m := List.mem_append.mpr (.inl mem2)
noncomputable def BmThen (B D : Addr) (s : Shared) (P : Prop) : Prop := s.heap.get? B = some (bmObj D) ∧ P
section
variable {prog : Program} {w : World} {A : Around} {E : Value → Shared → Prop} {s : Shared} {env : Env} {h₀ : Heap} {L : Addr} {m : Str → Option Value} {news : List (Addr × Obj)}
theorem call_append_L {Dl B D : Addr} {oL : Obj} {us : List Value} {n : Nat} {x : Value} {own : List (Addr × Obj)} {Q : Value → Shared → Prop} (F : Fr h₀ L s.heap m) (N : News h₀ L s.heap (((Dl, oL) :: (B, bmObj D) :: (D, listOf us.toArray n) :: news) ++ own))
    (S : Sep Dl B D news own) (hsz : us.length ≤ 75)
    (h : ∀ h', Fr h₀ L h' m → News h₀ L h' (((Dl, oL) :: (B, bmObj D) :: (D, listOf (us ++ [x]).toArray (n + 1)) :: news) ++ own) → Q .none { s with heap := h' }) :
    wpAny (model prog w) A (call (.ref B) [x]) Q E s := by
  refine call_append_U (D := D) (its := us.toArray) (n := n) F N (by simp) ?_ h ?_
  · have e : (us ++ [x]).toArray = us.toArray.push x := by simp
    rw [e]
    refine .tail S.a (.tail S.b (.head fun p hp => ?_))
    exact (List.mem_append.mp hp).elim (S.c p) (S.d p)
  · rw [List.size_toArray, sizeLine_eq]; omega
theorem call_append_0 {Dl B D : Addr} {oL : Obj} {us : List Value} {n : Nat} {x : Value} {Q : Value → Shared → Prop} (F : Fr h₀ L s.heap m) (N : News h₀ L s.heap ((Dl, oL) :: (B, bmObj D) :: (D, listOf us.toArray n) :: news))
    (S : Sep Dl B D news []) (hsz : us.length ≤ 75)
    (h : ∀ h', Fr h₀ L h' m → News h₀ L h' ((Dl, oL) :: (B, bmObj D) :: (D, listOf (us ++ [x]).toArray (n + 1)) :: news) → Q .none { s with heap := h' }) :
    wpAny (model prog w) A (call (.ref B) [x]) Q E s := by
  have e : (((Dl, oL) :: (B, bmObj D) :: (D, listOf us.toArray n) :: news) ++ []) = ((Dl, oL) :: (B, bmObj D) :: (D, listOf us.toArray n) :: news) := List.append_nil _
  refine call_append_L (own := []) F (by rw [e]; exact N) S hsz fun h' F' N' => h h' F' ?_
  rwa [List.append_nil] at N'
theorem BmThen.intro {B D : Addr} {P : Prop} (N : News h₀ L s.heap news) (hm : (B, bmObj D) ∈ news) (p : P) : BmThen B D s P := ⟨(N _ hm).1, p⟩
theorem callWith_bm {B D : Addr} {pos : Pos} {e : Expr} {rest : List Expr} {Q : Value → Shared → Prop} (_N : News h₀ L s.heap news) (_hm : (B, bmObj D) ∈ news)
    (h : wpAny (model prog w) A (spliced (backTo pos (starEach (e :: rest) env))) (fun vs s₁ => BmThen B D s₁ (wpAny (model prog w) A (call (.ref B) vs) Q E s₁)) E s)
    (he : starEach (e :: rest) env = (false, eval e env) :: starEach rest env := by rfl) :
    wpAny (model prog w) A (callWith pos (.ref B) [] (backTo pos (starEach (e :: rest) env)) []) Q E s := by
  rw [he] at h ⊢
  unfold callWith
  refine wpAny_bind (wpAny_holding (wpAny_mono (evalArgs_plain (Q := fun a s₁ => a.kw = [] ∧ BmThen B D s₁ (wpAny (model prog w) A (call (.ref B) a.pos) Q E s₁)) (wpAny_mono h (fun vs s₁ h₁ => ⟨rfl, h₁⟩) fun _ _ x => x)) (fun x s₁ h₁ => wpAny_bind (wpAny_standAt ?_)) fun _ _ x => x))
  obtain ⟨pos', kw'⟩ := x
  obtain ⟨hk, hB, hc⟩ := h₁
  dsimp only at hk hc
  subst hk
  have tail : ∀ {t : Sem Value}, wpAny (model prog w) A t Q E s₁ → wpAny (model prog w) A (t >>= fun r => holding [r] point >>= fun _ => pure r) Q E s₁ :=
    fun ht => wpAny_bind (wpAny_mono ht (fun r s₂ hr => wpAny_bind (wpAny_holding (wpAny_point (wpAny_pure hr)))) fun _ _ x => x)
  refine wpAny_bind (m := keeperOf (.ref B)) ?_
  unfold keeperOf
  refine wpAny_bind (wpAny_load hB (wpAny_pure ?_))
  cases hs : ((backTo pos ((false, eval e env) :: starEach rest env)).any (·.1))
  · simp only [List.any_nil, Bool.or_false, hs]
    exact tail hc
  · simp only [List.any_nil, Bool.or_false, hs]
    exact tail (wpAny_operateT hc)
end
section
variable {prog : Program} {w : World} {A : Around} {E : Value → Shared → Prop} {s : Shared}
theorem join_strs {D : Addr} {us : List Value} {ws : List Str} {x : Str} {t : Tok} {Q : Value → Shared → Prop} (hl : s.heap.IsList D us.toArray) (hu : StrsAre us ws) (hok : JoinOk x ws = true)
    (hq : ∀ t' k, Q (.str (Txt.join x ws) t') { s with toks := k }) : wpAny (model prog w) A (call (.builtin "str.join") [.str x t, .ref D]) Q E s := by
  have h : ∃ l : List (Str × Tok), us = strValues l ∧ l.map (·.1) = ws := by
    clear hl hok hq
    induction hu with
    | nil => exact ⟨[], rfl, rfl⟩
    | cons y t _ ih => obtain ⟨l, e1, e2⟩ := ih; exact ⟨(y, t) :: l, by rw [e1]; rfl, by rw [← e2]; rfl⟩
  obtain ⟨l, rfl, e⟩ := h
  exact SC.join hl e hok hq
end
theorem lineS_len (y : Str) : (lineS y).length ≤ y.length + 3 := by
  unfold lineS
  split
  · omega
  · cases lastIn y with
    | false => simp
    | true =>
      show (Txt.slice y (some 0) (some (-1)) ++ quoteS _).length ≤ _
      rw [Str.length_append]
      have h1 : (Txt.slice y (some 0) (some (-1))).length ≤ y.length := Txt.slice_le y _ _
      have h2 : (quoteS ((Txt.item y (-1)).cps.getD 0 0)).length = 3 := rfl
      omega
theorem join_fits {y : Str} (h : y.length ≤ 74) {rest : List Str} (hr : ∀ z ∈ rest, z.length ≤ 77) (hl : rest.length ≤ 1) : JoinOk (Str.ofString "\n") ((Txt.lines y).map lineS ++ rest) = true := by
  have hw := StrLaws.lines_weight y
  unfold JoinOk
  refine (congrArg (fun b => !b) (StrLaws.joinFits (B := 77) (fun z hz => ?_) ?_)).trans rfl
  · rcases List.mem_append.mp hz with hz | hz
    · obtain ⟨u, hu, rfl⟩ := List.mem_map.mp hz
      have := lineS_len u
      have := line_short hu
      omega
    · exact hr z hz
  · rw [List.length_append, List.length_map]
    have : (Str.ofString "\n").length = 1 := by decide +kernel
    rw [this]
    omega
theorem join_fits0 {y : Str} (h : y.length ≤ 74) : JoinOk (Str.ofString "\n") ((Txt.lines y).map lineS) = true := by
  have := join_fits h (rest := []) (fun z hz => nomatch hz) (Nat.zero_le _)
  rwa [List.append_nil] at this
theorem join_fits1 {y : Str} (h : y.length ≤ 74) : JoinOk (Str.ofString "\n") ((Txt.lines y).map lineS ++ [Str.ofString ""]) = true :=
  join_fits h (fun z hz => by rw [List.mem_singleton.mp hz]; decide +kernel) (Nat.le_refl _)
noncomputable def bodyS (y : Str) : Str := Txt.join (Str.ofString "\n") (bif noOcc (Str.ofString "\x0d\n") (Txt.item y (-1)) then (Txt.lines y).map lineS else (Txt.lines y).map lineS ++ [Str.ofString ""])
theorem bodyS0 {y : Str} (h : noOcc (Str.ofString "\x0d\n") (Txt.item y (-1)) = true) : Txt.join (Str.ofString "\n") ((Txt.lines y).map lineS) = bodyS y := by unfold bodyS; rw [h]; rfl
theorem bodyS1 {y : Str} (h : noOcc (Str.ofString "\x0d\n") (Txt.item y (-1)) = false) : Txt.join (Str.ofString "\n") ((Txt.lines y).map lineS ++ [Str.ofString ""]) = bodyS y := by unfold bodyS; rw [h]; rfl
theorem quoteS_len (c : Nat) : (quoteS c).length = 3 := rfl
theorem slice_whole (y : Str) : Txt.slice y (some 0) none = y := by
  have h := StrLaws.sliceText_from (x := y) (i := 0) ⟨by omega, by omega⟩
  show StrLaws.sliceText y (some 0) none = y
  rw [h]
  refine Str.ext' ?_
  simp [StrLaws.take_all]
theorem ln0 {y : Str} (h : (y.length : Int) = 0) : Txt.slice y (some 0) none = lineS y := by
  rw [slice_whole]; unfold lineS; rw [if_pos (by omega)]
theorem lnN {y : Str} (h : (y.length : Int) ≠ 0) (h2 : noOcc (Str.ofString " \t") (Txt.item y (-1)) = true) : Txt.slice y (some 0) none = lineS y := by
  rw [slice_whole]; unfold lineS lastIn; rw [if_neg (by omega), h2]; rfl
theorem lnY {y : Str} {c : Nat} (h : (y.length : Int) ≠ 0) (h2 : noOcc (Str.ofString " \t") (Txt.item y (-1)) = false) (h3 : Txt.item y (-1) = ⟨#[c]⟩) : Txt.slice y (some 0) (some (-1)) ++ quoteS c = lineS y := by
  unfold lineS lastIn; rw [if_neg (by omega), h2, h3]; rfl
theorem body_names {z : Str} (h : bodySt.contains z = false) : z ≠ Str.ofString "start" ∧ z ≠ Str.ofString "laststart" ∧ z ≠ Str.ofString "stop" ∧ z ≠ Str.ofString "room" ∧ z ≠ Str.ofString "q" := by
  simp only [bodySt, List.contains_cons, List.contains_nil, Bool.or_false, Bool.or_eq_false_iff, beq_eq_false_iff_ne, ne_eq] at h
  obtain ⟨a, b, c, d, e⟩ := h
  exact ⟨a, b, c, d, e⟩
end Mine
end

/-! X_body -/
noncomputable section
open PySem PySem.W PySem.Spec PySem.Calls PyProof.Rows PyProof.V
set_option maxRecDepth 100000
set_option maxHeartbeats 8000000
set_option linter.all false
namespace Mine
section
local macro_rules | `(tactic| walk_at "getMethod str") => `(tactic| (k_here; with_reducible refine gm_translate ?_))
local macro_rules | `(tactic| walk_at "call builtin:str.translate") => `(tactic| (k_here; (refine call_trans (by assumption) (by with_reducible assumption) (by with_reducible assumption) (by with_reducible assumption) (by with_reducible assumption) ?_); intro _ _))
local macro_rules | `(tactic| walk_at "getAttr ref") => `(tactic| (k_here; k_dflt (refine' attr_append_K ?k1 ?k2 ?k3 ?_; (case k1 => k_asm); (case k2 => k_asm); (case k3 => k_mem); k_whole); intro l' h' tk' F' N' l1; (try k_lt l1); (try k_sweep)))
local macro_rules | `(tactic| walk_at "pyIter ref") => `(tactic| (k_here; (refine' body_loop ?k1 rfl ?k2 ?k3 ?k4 ?k9 ?k5 ?k6 ?k7 ?k8 ?_ ?_; (case k1 => exact rfl); (case k2 => assumption); (case k3 => (with_reducible rename _ < _ ∧ AllLt _ _ => hlt9); exact hlt9.1); (case k4 => assumption); (case k5 => with_reducible assumption); (case k6 => assumption); (case k7 => assumption); (case k8 => assumption); (case k9 => omega))))
local macro_rules | `(tactic| walk_at "WhlIf") => `(tactic| refine WhlIf.no (decide_eq_false (by omega)) ?_)
local macro_rules | `(tactic| walk_at "callWith ref") => `(tactic| (k_here; (refine' callWith_bm ?k1 ?k2 ?_ rfl; (case k1 => k_asm); (case k2 => first | (with_reducible exact mem2a) | (with_reducible exact mem2)))))
local macro_rules | `(tactic| walk_at "BmThen") => `(tactic| (refine BmThen.intro (by assumption) (by first | (with_reducible exact mem2a) | (with_reducible exact mem2)) ?_))
local macro_rules | `(tactic| walk_at "call ref") => `(tactic| (k_here; k_dflt (refine' call_append_L ?F ?N ?S ?z ?_; (case F => k_asm); (case N => k_asm); (case S => assumption); (case z => assumption); k_whole); intro h' F' N'))
local macro_rules | `(tactic| walk_at "call ref") => `(tactic| (k_here; k_dflt (refine' call_append_0 ?F ?N ?S ?z ?_; (case F => k_asm); (case N => k_asm); (case S => assumption); (case z => assumption); k_whole); intro h' F' N'))
local macro_rules | `(tactic| walk_at "call ref") => `(tactic| (k_here; (with_reducible show wpAny _ _ (call (Value.ref 52) _) _ _ _); (obtain ⟨c9, e9, hc9⟩ := tabL (by assumption) (by assumption)); (simp only [e9]); k_dflt (refine' mc_call (spec_quote _ _ c9 _ hc9) ?k1 ?k2 ?k3 ?k4 ?k5 ?kK ?kd ?ku ?kR; (case k1 => k_asm); (case k2 => k_asm); (case k3 => k_asm); (case k4 => k_asm); (case k5 => k_asm); (case kK => first | exact rfl | assumption); (case kd => ktr_room); (case ku => ktr_units)); (have hq9 := quoteS_len c9); intro t9 h9 tk9 F9 N9; (try dsimp only); (try k_fold)))
local macro_rules | `(tactic| walk_at "call builtin:str.join") => `(tactic| (k_here; k_dflt (refine' join_strs ?l ?u ?o ?_; (case l => first | is_list | exact News.isList (by k_asm) (by k_mem)); (case u => first | assumption | exact KStt.strs_snoc (by assumption)); (case o => first | (with_reducible exact join_fits0 (by omega)) | (with_reducible exact join_fits1 (by omega)))); intro _ _))
local macro_rules | `(tactic| walk_at "InvEndN") => `(tactic| (k_here; refine' body_end ?hn ?hs ?hz ?F ?N ?hr; (case F => assumption); (case N => assumption); (case hn => assumption); (case hs => assumption); (case hr => ((intro z h1 h2 h3); (obtain ⟨ha, hb, hc, hd, he⟩ := body_names h3); (have hf := ne_true_of_eq_false h3); (try dsimp only); (repeat (refine (if_neg (by with_reducible assumption)).trans ?_)); rfl)); (case hz => with_reducible first | exact ln0 (by assumption) | exact lnN (by assumption) (by assumption) | exact lnY (by assumption) (by assumption) (by assumption))))
theorem spec_body (w : World) {loose : List Str} {mean : ExcName → Option Value} {mg mb : Str → Option Value} (news : List (Addr × Obj)) (l : List Nat) (t : Tok) (hx : AscL l) (hne : l ≠ []) (hl : l.length ≤ 100) (h74 : (encT l).length ≤ 74) :
    MC 10 w loose mean mg mb 65 news [.str (T l) t] (fun t => .str (bodyS (T (encT l))) t) := by
  dsimp only [MC]
  k_fill
  intros
  rename_i hret
  have hTl : (T l).length = l.length := T_len l
  have hTe : (T (encT l)).length = (encT l).length := T_len _
  have hl1 : l.length ≠ 0 := fun e => hne (List.length_eq_zero_iff.mp e)
  have hT1 : 1 ≤ (T (encT l)).length := enc_ne hne
  refine wpAny_call ?_
  (k_dflt (refine' code_def ?k1 ?k2 ?k3 ?k4 ?k5 ?kA ?kF ?kK ?k6 ?k7 ?k8 ?k9 ?kB ?_ ?c2 ?c3 ?c4 ?c5; (case kA => exact rfl); (case kF => exact rfl); (case kK => assumption); (case k1 => k_asm); (case k2 => k_asm); (case k3 => k_asm); (case k4 => k_asm); (case k5 => k_asm); (case k6 => k_is); (case k7 => k_is); (case k8 => ktr_room); (case k9 => exact binds_K (by k_in) rfl (by k_is) rfl rfl rfl); (case c5 => decide); (case kB => exact locs rfl); (case c2 => exact rfl); (case c3 => exact rfl); (case c4 => exact rfl); k_whole; intro g' L' h' FG' F' N' B' X' T'; (try dsimp only); (try k_lift B'); (try k_fold)))
  conv => pattern fB _; whnf
  k_with_none
  k_steps
  all_goals try (exfalso; omega)
  all_goals try (refine cb_retS hret ?e1 ?e2 ?e3; (case e2 => k_asm); (case e3 => first | k_asm | (refine' cb_drop ?cbN ?cbS; (case cbN => assumption); (case cbS => kcj_all))); (case e1 => with_reducible first | exact bodyS0 (by assumption) | exact bodyS1 (by assumption)))
  all_goals exact 0
end
end Mine
end

/-! Dc0 -/
noncomputable section
open PySem PySem.W PySem.Spec PySem.Calls PyProof.Rows PyProof.V
set_option maxRecDepth 100000
set_option maxHeartbeats 1000000
set_option linter.all false
namespace Mine
noncomputable def hexB (c : Nat) : Bool := decide (c ∈ hexL)
/-- what is read out of a line from here on -/
noncomputable def decFrom : List Nat → List Nat
  | [] => []
  | c :: rest =>
    if c ≠ 61 then c :: (if rest = [] then [10] else decFrom rest)
    else if rest = [] then []
    else match rest with
      | a :: b :: r => if hexB a = true ∧ hexB b = true then (hexV a * 16 + hexV b) :: (if r = [] then [10] else decFrom r) else c :: decFrom (a :: b :: r)
      | r => c :: decFrom r
theorem decFrom_A {c : Nat} {rest : List Nat} (h : c ≠ 61) : decFrom (c :: rest) = c :: (if rest = [] then [10] else decFrom rest) := by
  match rest with
  | [] => simp [decFrom, h]
  | [a] => rw [decFrom]; rw [if_pos h]; intro a b r e; simp at e
  | a :: b :: r => rw [decFrom]; rw [if_pos h]
theorem decFrom_B : decFrom [61] = [] := by simp [decFrom]
theorem decFrom_C {a b : Nat} {r : List Nat} (ha : hexB a = true) (hb : hexB b = true) : decFrom (61 :: a :: b :: r) = (hexV a * 16 + hexV b) :: (if r = [] then [10] else decFrom r) := by
  rw [decFrom]; simp [ha, hb]
theorem decFrom_D1 {a b : Nat} {r : List Nat} (h : ¬ (hexB a = true ∧ hexB b = true)) : decFrom (61 :: a :: b :: r) = 61 :: decFrom (a :: b :: r) := by
  rw [decFrom]; rw [if_neg (by simp), if_neg (by simp)]; simp only [if_neg h]
theorem decFrom_D2 {a : Nat} : decFrom [61, a] = 61 :: decFrom [a] := by
  rw [decFrom]
  · rw [if_neg (by simp), if_neg (by simp)]
  · intro a b r e; simp at e
theorem decFrom_len : ∀ (k : Nat) (l : List Nat), l.length ≤ k → (decFrom l).length ≤ l.length + 1
  | 0, l, h => by cases l with | nil => simp [decFrom] | cons a r => simp at h
  | k + 1, [], h => by simp [decFrom]
  | k + 1, c :: rest, h => by
    have h' : rest.length ≤ k := by simpa using h
    by_cases hc : c ≠ 61
    · rw [decFrom_A hc]
      have := decFrom_len k rest h'
      split
      · simp
      · simp; omega
    · have hc' : c = 61 := by simpa using hc
      subst hc'
      match rest, h' with
      | [], _ => rw [decFrom_B]; simp
      | [a], h' => rw [decFrom_D2]; have := decFrom_len k [a] h'; simp at this ⊢; omega
      | a :: b :: r, h' =>
        by_cases hh : hexB a = true ∧ hexB b = true
        · rw [decFrom_C hh.1 hh.2]
          have := decFrom_len k r (by simp at h'; omega)
          split
          · simp
          · simp; omega
        · rw [decFrom_D1 hh]
          have := decFrom_len k (a :: b :: r) h'
          simp at this ⊢; omega
noncomputable abbrev zl (z : Str) : List Nat := z.cps.toList
noncomputable def decZ (z : Str) : Str := T (decFrom (zl z))
noncomputable def RD (z d0 text : Str) (place : Int) : Prop := ∃ n : Nat, place = (n : Int) ∧ n ≤ z.length ∧ d0 ++ decZ z = text ++ T (decFrom ((zl z).drop n))
noncomputable abbrev RDw (z d0 text : Str) (place : Int) : Prop := RD z d0 text place ∧ text.length ≤ d0.length + z.length + 1 ∧ 0 ≤ place ∧ place ≤ (z.length : Int)
theorem zl_len (z : Str) : (zl z).length = z.length := by simp [zl, Str.length]
theorem RD.w {z d0 text : Str} {place : Int} (h : RD z d0 text place) : RDw z d0 text place := by
  have h' := h
  obtain ⟨n, e1, e2, e3⟩ := h
  refine ⟨h', ?_, by omega, by omega⟩
  have := congrArg Str.length e3
  rw [Str.length_append, Str.length_append] at this
  have h2 : (decZ z).length ≤ z.length + 1 := by
    unfold decZ; rw [T_len]
    have := decFrom_len _ (zl z) (Nat.le_refl _)
    rw [zl_len] at this; exact this
  omega
theorem rd_start (z d0 : Str) : RDw z d0 d0 0 := RD.w ⟨0, rfl, Nat.zero_le _, rfl⟩
theorem rd_end {z d0 text : Str} {place : Int} (h : RD z d0 text place) (hp : ¬ place < (z.length : Int)) : text = d0 ++ decZ z := by
  obtain ⟨n, e1, e2, e3⟩ := h
  have hn : n = z.length := by omega
  rw [e3, hn, ← zl_len, List.drop_length]
  refine Str.ext' ?_
  rw [Str.cps_append]; simp [decFrom]
theorem rd_view {z d0 text : Str} {place : Int} (h : RD z d0 text place) (hp : place < (z.length : Int)) :
    ∃ (n c : Nat) (rest : List Nat), place = (n : Int) ∧ (zl z).drop n = c :: rest ∧ z.length = n + 1 + rest.length ∧ Txt.item z place = ⟨#[c]⟩ ∧ d0 ++ decZ z = text ++ T (decFrom (c :: rest)) := by
  obtain ⟨n, e1, e2, e3⟩ := h
  have hn : n < (zl z).length := by rw [zl_len]; omega
  have hd : (zl z).drop n = (zl z)[n] :: (zl z).drop (n + 1) := List.drop_eq_getElem_cons hn
  refine ⟨n, (zl z)[n], (zl z).drop (n + 1), e1, hd, ?_, ?_, by rw [← hd]; exact e3⟩
  · rw [List.length_drop, zl_len]; rw [zl_len] at hn; omega
  · have := T_item (l := zl z) (k := place) (n := n) (c := (zl z)[n]) e1 (by simp [hn])
    rwa [T_of] at this
theorem rd_next {z d0 text : Str} {n c m : Nat} {rest ks : List Nat} (hd : (zl z).drop n = c :: rest) (hz : z.length = n + 1 + rest.length) (e : d0 ++ decZ z = text ++ T (decFrom (c :: rest))) (hm : n + m ≤ z.length)
    (hk : decFrom (c :: rest) = ks ++ decFrom ((c :: rest).drop m)) : RD z d0 (text ++ T ks) ((n + m : Nat) : Int) := by
  refine ⟨n + m, rfl, hm, ?_⟩
  rw [e, hk, ← T_app, ← List.drop_drop, hd]
  exact (Str.append_assoc _ _ _).symm
theorem eqS : Str.ofString "=" = ⟨#[61]⟩ := by decide +kernel
theorem nlS : Str.ofString "\n" = T [10] := by decide +kernel
theorem hexS : ∀ c, noOcc (Str.ofString "0123456789abcdefABCDEF") ⟨#[c]⟩ = !hexB c := fun c => by
  rw [noOcc_one]
  have : (Str.ofString "0123456789abcdefABCDEF").cps.toList = hexL := by decide +kernel
  rw [this]; rfl
theorem str_app3 (a : Str) (x y : List Nat) : a ++ T x ++ T y = a ++ T (x ++ y) := by rw [Str.append_assoc, T_app x y]
section
variable {z d0 text : Str} {place : Int} (h : RD z d0 text place) (hp : place < (z.length : Int))
include h hp
theorem rdA (h1 : (Txt.item z place != Str.ofString "=") = true) (h2 : ¬ (place + 1 = (z.length : Int))) : RDw z d0 (text ++ Txt.item z place) (place + 1) := by
  obtain ⟨n, c, rest, e1, e2, e3, e4, e5⟩ := rd_view h hp
  rw [e4, eqS, bne, sgN] at h1
  have hc : c ≠ 61 := by simpa using h1
  have hr : rest ≠ [] := fun e => h2 (by rw [e] at e3; simp at e3; omega)
  rw [e4]
  have := rd_next (m := 1) (ks := [c]) e2 e3 e5 (by omega) (by rw [decFrom_A hc, if_neg hr]; rfl)
  exact RD.w (by rw [e1]; exact this)
theorem rdA2 (h1 : (Txt.item z place != Str.ofString "=") = true) (h2 : place + 1 = (z.length : Int)) : RDw z d0 (text ++ Txt.item z place ++ Str.ofString "\n") (place + 1) := by
  obtain ⟨n, c, rest, e1, e2, e3, e4, e5⟩ := rd_view h hp
  rw [e4, eqS, bne, sgN] at h1
  have hc : c ≠ 61 := by simpa using h1
  have hr : rest = [] := List.length_eq_zero_iff.mp (by omega)
  rw [e4, nlS, show (⟨#[c]⟩ : Str) = T [c] from rfl, str_app3]
  subst hr
  have := rd_next (m := 1) (ks := [c] ++ [10]) e2 e3 e5 (by omega) (by rw [decFrom_A hc, if_pos rfl]; simp [decFrom])
  exact RD.w (by rw [e1]; exact this)
theorem rdB (h1 : (Txt.item z place != Str.ofString "=") = false) (h2 : place + 1 = (z.length : Int)) : RDw z d0 text (place + 1) := by
  obtain ⟨n, c, rest, e1, e2, e3, e4, e5⟩ := rd_view h hp
  rw [e4, eqS, bne, sgN] at h1
  have hc : c = 61 := by simpa using h1
  have hr : rest = [] := List.length_eq_zero_iff.mp (by omega)
  subst hr hc
  have := rd_next (m := 1) (ks := []) e2 e3 e5 (by omega) (by rw [decFrom_B]; simp [decFrom])
  have e0 : text ++ T [] = text := Str.ext' (by rw [Str.cps_append]; simp)
  rw [e0] at this
  exact RD.w (by rw [e1]; exact this)
theorem rdC (h1 : (Txt.item z place != Str.ofString "=") = false) (h3 : place + 2 < (z.length : Int)) (h4 : noOcc (Str.ofString "0123456789abcdefABCDEF") (Txt.item z (place + 1)) = false) (h5 : noOcc (Str.ofString "0123456789abcdefABCDEF") (Txt.item z (place + 2)) = false) :
    ∃ a b, a ∈ hexL ∧ b ∈ hexL ∧ Txt.slice (Txt.slice z (some place) (some (place + 3))) (some 1) (some 3) = ⟨#[a, b]⟩ ∧ (Txt.slice z (some place) (some (place + 3))).length ≤ 3 ∧
      (¬ (place + 3 = (z.length : Int)) → RDw z d0 (text ++ ⟨#[hexV a * 16 + hexV b]⟩) (place + 3)) ∧ (place + 3 = (z.length : Int) → RDw z d0 (text ++ ⟨#[hexV a * 16 + hexV b]⟩ ++ Str.ofString "\n") (place + 3)) := by
  obtain ⟨n, c, rest, e1, e2, e3, e4, e5⟩ := rd_view h hp
  rw [e4, eqS, bne, sgN] at h1
  have hc : c = 61 := by simpa using h1
  subst hc
  match rest, e2, e3, e5 with
  | [], e2, e3, e5 => exfalso; simp at e3; omega
  | [a], e2, e3, e5 => exfalso; simp at e3; omega
  | a :: b :: r, e2, e3, e5 =>
    have ga : (zl z)[n + 1]? = some a := by simpa using get_drop (a := [61, a, b]) (rest := r) (j := 1) e2 (by simp)
    have gb : (zl z)[n + 2]? = some b := by simpa using get_drop (a := [61, a, b]) (rest := r) (j := 2) e2 (by simp)
    have ia := T_item (l := zl z) (k := place + 1) (n := n + 1) (c := a) (by omega) ga
    have ib := T_item (l := zl z) (k := place + 2) (n := n + 2) (c := b) (by omega) gb
    rw [T_of] at ia ib
    rw [ia, hexS] at h4
    rw [ib, hexS] at h5
    have ha : hexB a = true := by simpa using h4
    have hb : hexB b = true := by simpa using h5
    have hl : n + 3 ≤ (zl z).length := by rw [zl_len]; simp at e3; omega
    have es : Txt.slice z (some place) (some (place + 3)) = T [61, a, b] := by
      have := T_slice (l := zl z) (i := place) (j := place + 3) (a := n) (b := 3) e1 (by omega) hl
      rw [T_of] at this
      rw [this, e2]; rfl
    rw [es]
    refine ⟨a, b, by simpa [hexB] using ha, by simpa [hexB] using hb, T_slice (l := [61, a, b]) (i := 1) (j := 3) (a := 1) (b := 2) rfl rfl (by simp), by rw [T_len]; simp, fun hne => ?_, fun he => ?_⟩
    · have hr : r ≠ [] := fun e => hne (by rw [e] at e3; simp at e3; omega)
      have := rd_next (m := 3) (ks := [hexV a * 16 + hexV b]) e2 e3 e5 (by rw [← zl_len]; exact hl) (by rw [decFrom_C ha hb, if_neg hr]; rfl)
      exact RD.w (by rw [e1]; exact this)
    · have hr : r = [] := List.length_eq_zero_iff.mp (by simp at e3; omega)
      subst hr
      rw [nlS, show (⟨#[hexV a * 16 + hexV b]⟩ : Str) = T [hexV a * 16 + hexV b] from rfl, str_app3]
      have := rd_next (m := 3) (ks := [hexV a * 16 + hexV b] ++ [10]) e2 e3 e5 (by rw [← zl_len]; exact hl) (by rw [decFrom_C ha hb, if_pos rfl]; simp [decFrom])
      exact RD.w (by rw [e1]; exact this)
theorem rdD' (h1 : (Txt.item z place != Str.ofString "=") = false) (h2 : ¬ (place + 1 = (z.length : Int)))
    (hh : ∀ a b r, (zl z).drop place.toNat = 61 :: a :: b :: r → ¬ (hexB a = true ∧ hexB b = true)) : RDw z d0 (text ++ Txt.item z place) (place + 1) := by
  obtain ⟨n, c, rest, e1, e2, e3, e4, e5⟩ := rd_view h hp
  rw [e4, eqS, bne, sgN] at h1
  have hc : c = 61 := by simpa using h1
  subst hc
  rw [e4]
  have hn : place.toNat = n := by omega
  rw [hn, e2] at hh
  match rest, e2, e3, e5, hh with
  | [], e2, e3, e5, hh => exfalso; simp at e3; omega
  | [a], e2, e3, e5, hh =>
    have := rd_next (m := 1) (ks := [61]) e2 e3 e5 (by omega) (by rw [decFrom_D2]; rfl)
    exact RD.w (by rw [e1]; exact this)
  | a :: b :: r, e2, e3, e5, hh =>
    have := rd_next (m := 1) (ks := [61]) e2 e3 e5 (by omega) (by rw [decFrom_D1 (hh a b r rfl)]; rfl)
    exact RD.w (by rw [e1]; exact this)
theorem rdD1 (h1 : (Txt.item z place != Str.ofString "=") = false) (h2 : ¬ (place + 1 = (z.length : Int))) (h3 : ¬ (place + 2 < (z.length : Int))) : RDw z d0 (text ++ Txt.item z place) (place + 1) := by
  refine rdD' h hp h1 h2 fun a b r e => ?_
  exfalso
  have := congrArg List.length e
  rw [List.length_drop, zl_len] at this
  simp at this
  omega
theorem rdD2 (h1 : (Txt.item z place != Str.ofString "=") = false) (h2 : ¬ (place + 1 = (z.length : Int))) (h4 : noOcc (Str.ofString "0123456789abcdefABCDEF") (Txt.item z (place + 1)) = true) : RDw z d0 (text ++ Txt.item z place) (place + 1) := by
  have h0 : 0 ≤ place := by obtain ⟨n, e, _⟩ := h; omega
  refine rdD' h hp h1 h2 fun a b r e hh => ?_
  have ga := get_drop (a := [61, a, b]) (rest := r) (j := 1) e (by simp)
  have ia := T_item (l := zl z) (k := place + 1) (n := place.toNat + 1) (c := a) (by omega) (by simpa using ga)
  rw [T_of] at ia
  rw [ia, hexS, hh.1] at h4
  cases h4
theorem rdD3 (h1 : (Txt.item z place != Str.ofString "=") = false) (h2 : ¬ (place + 1 = (z.length : Int))) (h5 : noOcc (Str.ofString "0123456789abcdefABCDEF") (Txt.item z (place + 2)) = true) : RDw z d0 (text ++ Txt.item z place) (place + 1) := by
  have h0 : 0 ≤ place := by obtain ⟨n, e, _⟩ := h; omega
  refine rdD' h hp h1 h2 fun a b r e hh => ?_
  have ga := get_drop (a := [61, a, b]) (rest := r) (j := 2) e (by simp)
  have ia := T_item (l := zl z) (k := place + 2) (n := place.toNat + 2) (c := b) (by omega) (by simpa using ga)
  rw [T_of] at ia
  rw [ia, hexS, hh.2] at h5
  cases h5
end
end Mine
namespace Mine
/-- what a line of the sent text is read as -/
noncomputable def decLine (y : Str) : Str := if (Txt.rstrip y).length = 0 then Str.ofString "\n" else decZ (Txt.rstrip y)
noncomputable def decUp (ls : List Str) : Str := ls.foldl (fun acc y => acc ++ decLine y) (Str.ofString "")
theorem decUp_snoc (ls : List Str) (y : Str) : decUp (ls ++ [y]) = decUp ls ++ decLine y := by unfold decUp; rw [List.foldl_append]; rfl
theorem rstrip_len (y : Str) : (Txt.rstrip y).length ≤ y.length := fact_rstrip y
theorem decZ_len (z : Str) : (decZ z).length ≤ z.length + 1 := by
  unfold decZ; rw [T_len]
  have := decFrom_len _ (zl z) (Nat.le_refl _)
  rw [zl_len] at this; exact this
theorem decLine_len (y : Str) : (decLine y).length ≤ y.length + 1 := by
  unfold decLine
  split
  · have : (Str.ofString "\n").length = 1 := by decide +kernel
    omega
  · have := decZ_len (Txt.rstrip y)
    have := rstrip_len y
    omega
theorem decUp_len (ls : List Str) : (decUp ls).length ≤ (ls.map (·.length)).sum + ls.length := by
  have h : ∀ (ls : List Str) (acc : Str), (ls.foldl (fun acc y => acc ++ decLine y) acc).length ≤ acc.length + (ls.map (·.length)).sum + ls.length := by
    intro ls
    induction ls with
    | nil => intro acc; simp
    | cons y r ih =>
      intro acc
      rw [List.foldl_cons, List.map_cons, List.sum_cons, List.length_cons]
      have := ih (acc ++ decLine y)
      have := decLine_len y
      rw [Str.length_append] at *
      omega
  have := h ls (Str.ofString "")
  have e : (Str.ofString "").length = 0 := by decide +kernel
  unfold decUp
  omega
theorem sum_take : ∀ (l : List Nat) (k : Nat), (l.take k).sum ≤ l.sum
  | [], k => by simp
  | a :: r, 0 => by simp
  | a :: r, k + 1 => by simp; exact sum_take r k
theorem decUp_take (y : Str) (k : Nat) : (decUp ((Txt.lines y).take k)).length ≤ y.length + 1 := by
  have h1 := decUp_len ((Txt.lines y).take k)
  have h2 := StrLaws.lines_weight y
  rw [List.map_take, List.length_take] at h1
  have h3 := sum_take ((Txt.lines y).map (·.length)) k
  omega
structure DecTurn (n d0 : Str) : Prop where
  a : n.length ≤ 500
  b : d0.length ≤ 501
noncomputable abbrev RDof {n d0 : Str} (_ : DecTurn n d0) (text : Str) (place : Int) : Prop := RDw (Txt.rstrip n) d0 text place
noncomputable abbrev RDm {n d0 : Str} (_ : DecTurn n d0) (place : Int) : Nat := (((Txt.rstrip n).length : Int) - place).toNat
noncomputable abbrev zOf {n d0 : Str} (_ : DecTurn n d0) : Str := Txt.rstrip n
noncomputable abbrev dOf {n d0 : Str} (_ : DecTurn n d0) : Str := d0
theorem RD.v {n d0 text : Str} {place : Int} (hT : DecTurn n d0) (h : RD (Txt.rstrip n) d0 text place) : RD (Txt.rstrip n) d0 text place ∧ text.length ≤ 1002 ∧ 0 ≤ place := by
  obtain ⟨h1, h2, h3, _⟩ := RD.w h
  have := rstrip_len n
  have := hT.a
  have := hT.b
  exact ⟨h1, by omega, h3⟩
theorem appN {a b : Int} {z d0 t : Str} {p : Int} (h : ¬ a = b → RDw z d0 t p) (k : a ≠ b) : RD z d0 t p := (h k).1
theorem appY {a b : Int} {z d0 t : Str} {p : Int} (h : a = b → RDw z d0 t p) (k : a = b) : RD z d0 t p := (h k).1
noncomputable abbrev decSt : List Str := [Str.ofString "i", Str.ofString "n", Str.ofString "c"]
noncomputable abbrev decLed (Dl : Addr) (oL : Obj) (news : List (Addr × Obj)) (_ : Str × Tok) : List (Addr × Obj) := (Dl, oL) :: news
noncomputable abbrev decPs (c : Str × Tok) : List (Str × Value) := [(Str.ofString "decoded", .str c.1 c.2)]
noncomputable abbrev decP (y : Str) (pre : List Int) (c : Str × Tok) : Prop := c.1 = decUp ((Txt.lines y).take pre.length)
section
variable {prog : Program} {w : World} {A : Around} {E : Value → Shared → Prop} {s : Shared} {env : Env} {h₀ : Heap} {x : Str} {body : List Stmt} {Q : Flow → Shared → Prop} {news : List (Addr × Obj)}
theorem dec_loop {Dl : Addr} {vs : List Value} {y : Str} {ls : List (Str × Tok)} {m₀ : Str → Option Value} {t₀ : Tok} (hh : A.handled = none) (h500 : y.length ≤ 500)
    (hy : ls.map (fun p => p.1) = Txt.lines y) (hi : StrsAre vs (ls.map (fun p => p.1))) (F : Fr h₀ env.locals s.heap m₀) (N : News h₀ env.locals s.heap ((Dl, listOf vs.toArray 0) :: news)) (h0 : m₀ (Str.ofString "decoded") = some (.str (Str.ofString "") t₀))
    (turn : ∀ (d : Str) (td : Tok) (pre : List Int) (n : Str) t (u : Str → Option Value) h tk own, (Txt.lines y)[pre.length]? = some n → DecTurn n d → n.length ≤ 500 → d.length ≤ 501 → d = decUp ((Txt.lines y).take pre.length) → OwnOff own (Dl :: news.map (·.1)) →
      Fr h₀ env.locals h (fun y => if y = x then some (.str n t) else if y = Str.ofString "decoded" then some (.str d td) else if decSt.contains y then u y else m₀ y) → News h₀ env.locals h (((Dl, listOf vs.toArray 0) :: news) ++ own) →
      wpAny (model prog w) A (execs body env) (InvPostN h₀ env.locals (KstS (decLed Dl (listOf vs.toArray 0) news) decPs (fun _ => True) x decSt m₀ (decP y) (pre ++ [0])) own ((decLed Dl (listOf vs.toArray 0) news (Str.ofString "", t₀)).map (·.1)) { s with heap := h, toks := tk } Q) E { s with heap := h, toks := tk })
    (done : ∀ (d : Str) (td : Tok) (u : Str → Option Value) h tk, d.length ≤ 501 → d = decUp (Txt.lines y) → Fr h₀ env.locals h (fun y => if y = x then u y else if y = Str.ofString "decoded" then some (.str d td) else if decSt.contains y then u y else m₀ y) → News h₀ env.locals h ((Dl, listOf vs.toArray 0) :: news) → Q .next { s with heap := h, toks := tk }) :
    wpAny (model prog w) A (pyIter (.ref Dl)) (fun it s₂ => LoopAtV prog w A h₀ env x body Q E it s₂) E s := by
  rw [hy] at hi
  refine kst_strs (decLed Dl (listOf vs.toArray 0) news) decPs (fun _ => True) decSt (decP y) (Str.ofString "", t₀) hh (fun c => .head _) hi F N trivial (fun p hp => by rw [List.mem_singleton.mp hp]; exact h0) rfl ?_ ?_
  · rintro ⟨d, td⟩ pre n t u h tk own hn hoff _ hP F' N'
    have hd : d.length ≤ 501 := by
      have := decUp_take y pre.length
      rw [← (show d = _ from hP)] at this
      omega
    have hn5 : n.length ≤ 500 := Nat.le_trans (line_short (List.mem_of_getElem? hn)) h500
    exact turn d td pre n t u h tk own hn ⟨hn5, hd⟩ hn5 hd hP hoff F' N'
  · rintro ⟨d, td⟩ pre u h tk hl _ hP F' N'
    have hP' : d = decUp ((Txt.lines y).take pre.length) := hP
    rw [hl, List.take_length] at hP'
    refine done d td u h tk ?_ hP' F' N'
    have := decUp_take y (Txt.lines y).length
    rw [List.take_length, ← hP'] at this
    omega
theorem dec_end {Dl : Addr} {oL : Obj} {m₀ m' : Str → Option Value} {y d z : Str} {t₀ td : Tok} {pre : List Int} {n : Str} {L : Addr} {own : List (Addr × Obj)} {s₁ : Shared} {h' : Heap} {tk : Nat}
    (hn : (Txt.lines y)[pre.length]? = some n) (hd : d = decUp ((Txt.lines y).take pre.length)) (hm : m' (Str.ofString "decoded") = some (.str z td)) (hz : z = d ++ decLine n)
    (F : Fr h₀ L h' m') (N : News h₀ L h' (((Dl, oL) :: news) ++ own))
    (hr : ∀ z, z ≠ x → z ≠ Str.ofString "decoded" → decSt.contains z = false → m' z = m₀ z) :
    InvEndN h₀ L (KstS (decLed Dl oL news) decPs (fun _ => True) x decSt m₀ (decP y) (pre ++ [0])) own ((decLed Dl oL news (Str.ofString "", t₀)).map (·.1)) s₁ { s₁ with heap := h', toks := tk } := by
  refine kst_end (z, td) F N (fun p hp => List.mem_append.mpr (.inl hp)) (fun p hp => List.mem_append.mpr (.inr hp)) rfl trivial (fun p hp => by rw [List.mem_singleton.mp hp]; exact hm) (fun z h1 h2 h3 => hr z h1 (h2 _ (.head _)) h3) ?_
  show z = decUp ((Txt.lines y).take (pre ++ [0]).length)
  have e : (Txt.lines y).take (pre ++ [0]).length = (Txt.lines y).take pre.length ++ [n] := by
    rw [List.length_append, List.length_singleton, List.take_add_one, hn]; rfl
  rw [e, decUp_snoc, hz, hd]
end
theorem dec_names {z : Str} (h : decSt.contains z = false) : z ≠ Str.ofString "i" ∧ z ≠ Str.ofString "n" ∧ z ≠ Str.ofString "c" := by
  simp only [decSt, List.contains_cons, List.contains_nil, Bool.or_false, Bool.or_eq_false_iff, beq_eq_false_iff_ne, ne_eq] at h
  obtain ⟨a, b, c⟩ := h
  exact ⟨a, b, c⟩
theorem decLine0 {n : Str} (h : ((Txt.rstrip n).length : Int) = 0) (d : Str) : d ++ Str.ofString "\n" = d ++ decLine n := by unfold decLine; rw [if_pos (by omega)]
theorem decLineN {n : Str} (h : ((Txt.rstrip n).length : Int) ≠ 0) {d text : Str} (e : text = d ++ decZ (Txt.rstrip n)) : text = d ++ decLine n := by unfold decLine; rw [if_neg (by omega), e]
noncomputable def decodeS (x : Str) : Str := if x.length = 0 then x else bif noOcc (Str.ofString "\x0d\n") (Txt.item x (-1)) && Txt.endswith (decUp (Txt.lines x)) (Str.ofString "\n") then Txt.slice (decUp (Txt.lines x)) none (some (-1)) else decUp (Txt.lines x)
theorem decodeS0 {x : Str} (h : (x.length : Int) = 0) : x = decodeS x := by unfold decodeS; rw [if_pos (by omega)]
theorem decodeS1 {x d : Str} (h : (x.length : Int) ≠ 0) (e : d = decUp (Txt.lines x)) (h1 : noOcc (Str.ofString "\x0d\n") (Txt.item x (-1)) = true) (h2 : Txt.endswith d (Str.ofString "\n") = true) : Txt.slice d none (some (-((1 : Nat) : Int))) = decodeS x := by
  subst e; unfold decodeS; rw [if_neg (by omega), h1, h2]; rfl
theorem decodeS2 {x d : Str} (h : (x.length : Int) ≠ 0) (e : d = decUp (Txt.lines x)) (h1 : noOcc (Str.ofString "\x0d\n") (Txt.item x (-1)) = true) (h2 : Txt.endswith d (Str.ofString "\n") = false) : d = decodeS x := by
  subst e; unfold decodeS; rw [if_neg (by omega), h1, h2]; rfl
theorem decodeS3 {x d : Str} (h : (x.length : Int) ≠ 0) (e : d = decUp (Txt.lines x)) (h1 : noOcc (Str.ofString "\x0d\n") (Txt.item x (-1)) = false) : d = decodeS x := by
  subst e; unfold decodeS; rw [if_neg (by omega), h1]; rfl
theorem cont1 {z a : Str} (h : z ≠ a) : ¬ (([a] : List Str).contains z = true) := by simp [h]
end Mine
end

/-! X_decode -/
noncomputable section
open PySem PySem.W PySem.Spec PySem.Calls PyProof.Rows PyProof.V
set_option maxRecDepth 100000
set_option maxHeartbeats 8000000
set_option linter.all false
namespace Mine
section
local macro_rules | `(tactic| walk_at "pyIter ref") => `(tactic| (k_here; (refine' dec_loop ?k1 ?k9 ?k5 ?k6 ?k7 ?k8 ?k0 ?_ ?_; (case k1 => exact rfl); (case k5 => with_reducible assumption); (case k6 => assumption); (case k7 => assumption); (case k8 => assumption); (case k9 => omega); (case k0 => exact rfl))))
local macro_rules | `(tactic| walk_at "call ref") => `(tactic| (k_here; (with_reducible show wpAny _ _ (call (Value.ref 45) _) _ _ _); (obtain ⟨a9, b9, ha9, hb9, hs9, hn9, hr9, hq9⟩ := rdC (by with_reducible assumption) (by with_reducible assumption) (by with_reducible assumption) (by with_reducible assumption) (by with_reducible assumption) (by with_reducible assumption)); k_dflt (refine' mc_call (spec_unquote _ _ _ _ a9 b9 hn9 hs9 ha9 hb9) ?k1 ?k2 ?k3 ?k4 ?k5 ?kK ?kd ?ku ?kR; (case k1 => k_asm); (case k2 => k_asm); (case k3 => k_asm); (case k4 => k_asm); (case k5 => k_asm); (case kK => first | exact rfl | assumption); (case kd => ktr_room); (case ku => ktr_units)); intro t9 h9 tk9 F9 N9; (try dsimp only); (try k_fold)))
local macro_rules | `(tactic| walk_at "InvEndN") => `(tactic| (k_here; (refine' dec_end ?hn ?hd ?hm ?hz ?F ?N ?hr; (case F => assumption); (case N => assumption); (case hn => assumption); (case hd => assumption); (case hm => ((try dsimp only); with_reducible exact if_pos rfl)); (case hr => ((intro z h1 h2 h3); (obtain ⟨ha, hb, hc⟩ := dec_names h3); (have hf := ne_true_of_eq_false h3); (have hg := cont1 hc); (try dsimp only); (repeat (refine (if_neg (by with_reducible assumption)).trans ?_)); symm; (repeat (refine (if_neg (by with_reducible assumption)).trans ?_)); with_reducible rfl)); (case hz => with_reducible first | exact decLine0 (by assumption) _ | exact decLineN (by assumption) (rd_end (by assumption) (by assumption))))))
theorem spec_decode (w : World) {loose : List Str} {mean : ExcName → Option Value} {mg mb : Str → Option Value} (news : List (Addr × Obj)) (x : Str) (t : Tok) (hl : x.length ≤ 500) :
    MC 10 w loose mean mg mb 73 news [.str x t] (fun t => .str (decodeS x) t) := by
  dsimp only [MC]
  k_fill
  intros
  rename_i hret
  refine wpAny_call ?_
  (k_dflt (refine' code_def ?k1 ?k2 ?k3 ?k4 ?k5 ?kA ?kF ?kK ?k6 ?k7 ?k8 ?k9 ?kB ?_ ?c2 ?c3 ?c4 ?c5; (case kA => exact rfl); (case kF => exact rfl); (case kK => assumption); (case k1 => k_asm); (case k2 => k_asm); (case k3 => k_asm); (case k4 => k_asm); (case k5 => k_asm); (case k6 => k_is); (case k7 => k_is); (case k8 => ktr_room); (case k9 => exact binds_K (by k_in) rfl (by k_is) rfl rfl rfl); (case c5 => decide); (case kB => exact locs rfl); (case c2 => exact rfl); (case c3 => exact rfl); (case c4 => exact rfl); k_whole; intro g' L' h' FG' F' N' B' X' T'; (try dsimp only); (try k_lift B'); (try k_fold)))
  conv => pattern fB _; whnf
  k_with_none
  k_with "exec While Compare cons nil" => ((rename DecTurn _ _ => hT9); k_while (fun (_ : List Int) decoded i => RD (zOf hT9) (dOf hT9) decoded i ∧ decoded.length ≤ 1002 ∧ 0 ≤ i) (fun (_ : List Int) decoded i => (600 - i).toNat) "decoded" "i")
  k_with "state" => with_reducible first
    | contradiction
    | exact RD.v (by assumption) (appN (by assumption) (by assumption))
    | exact RD.v (by assumption) (appY (by assumption) (by assumption))
    | exact RD.v (by assumption) (And.left (rdB (by assumption) (by assumption) (by assumption) (by assumption)))
    | exact RD.v (by assumption) (And.left (rdA2 (by assumption) (by assumption) (by assumption) (by assumption)))
    | exact RD.v (by assumption) (And.left (rdA (by assumption) (by assumption) (by assumption) (by assumption)))
    | exact RD.v (by assumption) (And.left (rdD1 (by assumption) (by assumption) (by assumption) (by assumption) (by assumption)))
    | exact RD.v (by assumption) (And.left (rdD2 (by assumption) (by assumption) (by assumption) (by assumption) (by assumption)))
    | exact RD.v (by assumption) (And.left (rdD3 (by assumption) (by assumption) (by assumption) (by assumption) (by assumption)))
    | exact RD.v (by assumption) (And.left (rd_start _ _))
    | assumption
  k_with "measure" => omega
  k_steps
  all_goals try (refine cb_retS hret ?e1 ?e2 ?e3; (case e2 => k_asm); (case e3 => first | k_asm | (refine' cb_drop ?cbN ?cbS; (case cbN => assumption); (case cbS => kcj_all))); (case e1 => with_reducible first | exact decodeS0 (by assumption) | exact decodeS1 (by assumption) (by assumption) (by assumption) (by assumption) | exact decodeS2 (by assumption) (by assumption) (by assumption) (by assumption) | exact decodeS3 (by assumption) (by assumption) (by assumption)))
end
end Mine
end

/-! X_laid -/
noncomputable section
open PySem PySem.W PySem.Spec PySem.Calls PyProof.Rows
set_option maxRecDepth 100000
set_option maxHeartbeats 8000000
set_option linter.all false
namespace Mine
noncomputable def bodyX (x : Str) : Str := bodyS (T (encT x.cps.toList))
theorem spec_bodyX (w : World) {loose : List Str} {mean : ExcName → Option Value} {mg mb : Str → Option Value} (news : List (Addr × Obj)) (x : Str) (t : Tok) (hx : Asc x) (hne : x.length ≠ 0) (hl : x.length ≤ 100) (h74 : (encT x.cps.toList).length ≤ 74) :
    MC 10 w loose mean mg mb 65 news [.str x t] (fun t => .str (bodyX x) t) := by
  have h := spec_body w (loose := loose) (mean := mean) (mg := mg) (mb := mb) news x.cps.toList t hx (fun e => hne (by show x.cps.size = 0; rw [← Array.length_toList, e]; rfl)) (by rw [Array.length_toList]; exact hl) h74
  rw [T_of] at h
  exact h
noncomputable def laidStep (y : Str) (n : Nat) : Str := bif (⟨#[n]⟩ : Str) == Str.ofString "t" then reprShort y else bodyX y
noncomputable def laidF (x : Str) (pre : List Int) : Str := pre.foldl (fun y n => laidStep y n.toNat) x
noncomputable def laidS (x o : Str) : Str := laidF x (KStt.codes o)
noncomputable abbrev LaidOk (y : Str) : Prop := Asc y ∧ y.length ≠ 0 ∧ y.length ≤ 100 ∧ (encT y.cps.toList).length ≤ 74
noncomputable def LaidAll (x o : Str) : Prop := ∀ pre post, KStt.codes o = pre ++ post → LaidOk (laidF x pre)
noncomputable abbrev LaidAt (x y : Str) (pre : List Int) : Prop := y = laidF x pre ∧ Asc y ∧ y.length ≠ 0 ∧ y.length ≤ 100 ∧ (encT y.cps.toList).length ≤ 74
theorem laid_at {x o y : Str} {pre post : List Int} (h : LaidAll x o) (e : KStt.codes o = pre ++ post) (hy : y = laidF x pre) : LaidAt x y pre := by
  subst hy; exact ⟨rfl, h pre post e⟩
theorem laid_st {x o : Str} (h : LaidAll x o) : LaidAt x x ([] : List Int) := laid_at h rfl rfl
theorem laid_t {x o y : Str} {pre post : List Int} {n : Nat} (h : LaidAll x o) (e : KStt.codes o = pre ++ (n : Int) :: post) (hy : y = laidF x pre) (hn : ((⟨#[n]⟩ : Str) == Str.ofString "t") = true) : LaidAt x (reprShort y) (pre ++ [(n : Int)]) := by
  refine laid_at (post := post) h (by rw [e]; simp) ?_
  unfold laidF; rw [List.foldl_append]; subst hy
  show reprShort _ = laidStep _ n
  unfold laidStep; rw [hn]; rfl
theorem laid_w {x o y : Str} {pre post : List Int} {n : Nat} (h : LaidAll x o) (e : KStt.codes o = pre ++ (n : Int) :: post) (hy : y = laidF x pre) (hn : ((⟨#[n]⟩ : Str) == Str.ofString "t") = false) : LaidAt x (bodyX y) (pre ++ [(n : Int)]) := by
  refine laid_at (post := post) h (by rw [e]; simp) ?_
  unfold laidF; rw [List.foldl_append]; subst hy
  show bodyX _ = laidStep _ n
  unfold laidStep; rw [hn]; rfl
section
local macro_rules | `(tactic| walk_at "call ref") => `(tactic| (k_here; (with_reducible show wpAny _ _ (call (Value.ref 22) _) _ _ _); k_dflt (refine' mc_call (spec_repr2 _ _ _ _ ?a1 ?a2) ?k1 ?k2 ?k3 ?k4 ?k5 ?kK ?kd ?ku ?kR; (case a1 => with_reducible assumption); (case a2 => with_reducible assumption); (case k1 => k_asm); (case k2 => k_asm); (case k3 => k_asm); (case k4 => k_asm); (case k5 => k_asm); (case kK => first | exact rfl | assumption); (case kd => ktr_room); (case ku => ktr_units)); intro t9 h9 tk9 F9 N9; (try dsimp only); (try k_fold)))
local macro_rules | `(tactic| walk_at "call ref") => `(tactic| (k_here; (with_reducible show wpAny _ _ (call (Value.ref 65) _) _ _ _); k_dflt (refine' mc_call (spec_bodyX _ _ _ _ ?a1 ?a2 ?a3 ?a4) ?k1 ?k2 ?k3 ?k4 ?k5 ?kK ?kd ?ku ?kR; (case a1 => with_reducible assumption); (case a2 => with_reducible assumption); (case a3 => with_reducible assumption); (case a4 => with_reducible assumption); (case k1 => k_asm); (case k2 => k_asm); (case k3 => k_asm); (case k4 => k_asm); (case k5 => k_asm); (case kK => first | exact rfl | assumption); (case kd => ktr_room); (case ku => ktr_units)); intro t9 h9 tk9 F9 N9; (try dsimp only); (try k_fold)))
theorem spec_laid (w : World) {loose : List Str} {mean : ExcName → Option Value} {mg mb : Str → Option Value} (news : List (Addr × Obj)) (x o : Str) (t u : Tok) (ha : LaidAll x o) (ho : o.length ≤ 10) (hx : x.length ≤ 100) :
    MC 15 w loose mean mg mb 115 news [.str x t, .str o u] (fun t => .str (laidS x o) t) := by
  dsimp only [MC]
  k_fill
  intros
  rename_i hret
  refine wpAny_call ?_
  k_dflt cell_enter
  conv => pattern fB _; whnf
  k_with_none
  k_with "pyIter str" => k_state (fun pre laid => laid = laidF x pre ∧ Asc laid ∧ laid.length ≠ 0 ∧ laid.length ≤ 100 ∧ (encT laid.cps.toList).length ≤ 74) "laid"
  k_with "state" => with_reducible first
    | exact laid_st ha
    | exact laid_t ha (by assumption) (by assumption) (by assumption)
    | exact laid_w ha (by assumption) (by assumption) (by assumption)
  k_steps
  all_goals try (k_here; (with_reducible show wpAny _ _ (call (Value.ref 65) _) _ _ _); k_dflt (refine' mc_call (spec_bodyX _ _ _ _ ?a1 ?a2 ?a3 ?a4) ?k1 ?k2 ?k3 ?k4 ?k5 ?kK ?kd ?ku ?kR; (case a1 => with_reducible assumption); (case a2 => with_reducible assumption); (case a3 => with_reducible assumption); (case a4 => with_reducible assumption); (case k1 => k_asm); (case k2 => k_asm); (case k3 => k_asm); (case k4 => k_asm); (case k5 => k_asm); (case kK => first | exact rfl | assumption); (case kd => ktr_room); (case ku => ktr_units)); intro t9 h9 tk9 F9 N9; (try dsimp only); (try k_fold))
  k_steps
  all_goals try (refine cb_retS hret ?e1 ?e2 ?e3; (case e2 => k_asm); (case e3 => first | k_asm | (refine' cb_drop ?cbN ?cbS; (case cbN => assumption); (case cbS => kcj_all))); (case e1 => assumption))
end
end Mine
end

/-! Pw1 -/
noncomputable section
open PySem PySem.W PySem.Spec PySem.Calls PyProof.Rows
set_option maxRecDepth 100000
set_option linter.all false
namespace Mine
theorem reprChar_tell : ∀ c < 128, Builtin.Str.reprChar 34 c = tellC 34 c ∧ Builtin.Str.reprChar 39 c = tellC 39 c := by decide +kernel
theorem qL_ways (l : List Nat) : qL l = 34 ∨ qL l = 39 := by unfold qL; split <;> simp
theorem reprQuote_T (l : List Nat) : reprQuote (T l) = qL l := by
  unfold reprQuote qL
  simp
theorem foldl_tell (q : Nat) (hq : q = 34 ∨ q = 39) : ∀ (l : List Nat), AscL l → ∀ acc : List Nat, l.foldl (fun out c => out ++ (Builtin.Str.reprChar q c).toArray) acc.toArray = (acc ++ body q l).toArray
  | [], _, acc => by simp [body]
  | c :: r, h, acc => by
    have hc : c < 128 := h c (List.mem_cons_self ..)
    have e : Builtin.Str.reprChar q c = tellC q c := by rcases hq with rfl | rfl; exact (reprChar_tell c hc).1; exact (reprChar_tell c hc).2
    rw [List.foldl_cons, e, show acc.toArray ++ (tellC q c).toArray = (acc ++ tellC q c).toArray by simp, foldl_tell q hq r (fun d hd => h d (List.mem_cons_of_mem _ hd)), body_cons, List.append_assoc]
theorem reprText_T {l : List Nat} (h : AscL l) : reprText (T l) = T (tell l) := by
  unfold reprText
  rw [reprQuote_T]
  have := foldl_tell (qL l) (qL_ways l) l h [qL l]
  refine Str.ext' ?_
  dsimp only
  rw [← Array.foldl_toList]
  show (List.foldl (fun out c => out ++ (Builtin.Str.reprChar (qL l) c).toArray) [qL l].toArray l).push (qL l) = _
  rw [this]
  simp [tell, tellQ]
theorem stepTold_T : ∀ c < 128, stepTold "\"" c = T (tellC 34 c) ∧ stepTold "'" c = T (tellC 39 c) := by decide +kernel
theorem markS_T (l : List Nat) : markS (T l) = T [qL l] := by
  unfold markS qL
  have h1 : ("'" : Str) = ⟨#[39]⟩ := by decide +kernel
  have h2 : ("\"" : Str) = ⟨#[34]⟩ := by decide +kernel
  rw [h1, h2, noOcc_one, noOcc_one]
  by_cases a : 39 ∈ l <;> by_cases b : 34 ∈ l <;> simp [a, b, T]
theorem codes_T (l : List Nat) : KStt.codes (T l) = l.map fun (c : Nat) => (c : Int) := by unfold KStt.codes; simp
theorem fold_told (m : Str) (q : Nat) (hm : ∀ c < 128, stepTold m c = T (tellC q c)) : ∀ (l : List Nat), AscL l → ∀ acc : List Nat, (l.map fun (c : Nat) => (c : Int)).foldl (fun acc n => acc ++ stepTold m n.toNat) (T acc) = T (acc ++ body q l)
  | [], _, acc => by simp [body]
  | c :: r, h, acc => by
    have hc : c < 128 := h c (List.mem_cons_self ..)
    rw [List.map_cons, List.foldl_cons, Int.toNat_natCast, hm c hc, T_app acc (tellC q c), fold_told m q hm r (fun d hd => h d (List.mem_cons_of_mem _ hd)), body_cons, List.append_assoc]
theorem toldS_T {l : List Nat} (h : AscL l) : toldS (T l) = T (tell l) := by
  unfold toldS toldF
  rw [markS_T, codes_T]
  have h1 : ("'" : Str) = T [39] := by decide +kernel
  have h2 : ("\"" : Str) = T [34] := by decide +kernel
  have hm : ∀ c < 128, stepTold (T [qL l]) c = T (tellC (qL l) c) := by
    intro c hc
    rcases qL_ways l with e | e
    · rw [e, ← h2]; exact (stepTold_T c hc).1
    · rw [e, ← h1]; exact (stepTold_T c hc).2
  rw [fold_told _ (qL l) hm l h, T_app (([qL l] : List Nat) ++ body (qL l) l) [qL l]]
  simp [tell, tellQ]
theorem hx_lt : ∀ d < 16, hx d < 128 ∧ hX d < 128 := by decide
theorem tellC_asc {q c : Nat} (hq : q = 34 ∨ q = 39) (hc : c < 128) : AscL (tellC q c) := by
  have h : ∀ c < 128, (tellC 34 c).all (fun d => decide (32 ≤ d) && decide (d < 127)) = true ∧ (tellC 39 c).all (fun d => decide (32 ≤ d) && decide (d < 127)) = true := by decide +kernel
  intro d hd
  have := h c hc
  rcases hq with rfl | rfl
  · have := List.all_eq_true.mp this.1 d hd; simp at this; omega
  · have := List.all_eq_true.mp this.2 d hd; simp at this; omega
/-- printable -/
noncomputable def Pr (l : List Nat) : Prop := ∀ c ∈ l, 32 ≤ c ∧ c < 127
theorem tellC_pr {q c : Nat} (hq : q = 34 ∨ q = 39) (hc : c < 128) : Pr (tellC q c) := by
  have h : ∀ c < 128, (tellC 34 c).all (fun d => decide (32 ≤ d) && decide (d < 127)) = true ∧ (tellC 39 c).all (fun d => decide (32 ≤ d) && decide (d < 127)) = true := by decide +kernel
  intro d hd
  have := h c hc
  rcases hq with rfl | rfl
  · have := List.all_eq_true.mp this.1 d hd; simpa using this
  · have := List.all_eq_true.mp this.2 d hd; simpa using this
theorem body_pr {q : Nat} (hq : q = 34 ∨ q = 39) {l : List Nat} (h : AscL l) : Pr (body q l) := by
  intro d hd
  obtain ⟨c, hc, hd⟩ := List.mem_flatMap.mp hd
  exact tellC_pr hq (h c hc) d hd
theorem tell_pr {l : List Nat} (h : AscL l) : Pr (tell l) := by
  intro d hd
  have hq := qL_ways l
  unfold tell tellQ at hd
  rcases List.mem_cons.mp hd with rfl | hd
  · omega
  · rcases List.mem_append.mp hd with hd | hd
    · exact body_pr hq h d hd
    · rw [List.mem_singleton.mp hd]; omega
theorem Pr.asc {l : List Nat} (h : Pr l) : AscL l := fun c hc => by have := h c hc; omega
end Mine
end

/-! Pw2 -/
noncomputable section
open PySem PySem.W PySem.Spec PySem.Calls PyProof.Rows
set_option maxRecDepth 100000
set_option linter.all false
namespace Mine
noncomputable def eqC (c : Nat) : List Nat := if c = 61 then [61, 51, 68] else [c]
noncomputable def eqE (l : List Nat) : List Nat := l.flatMap eqC
theorem eqE_cons (c : Nat) (r : List Nat) : eqE (c :: r) = eqC c ++ eqE r := by simp [eqE]
theorem eqE_app (a b : List Nat) : eqE (a ++ b) = eqE a ++ eqE b := by simp [eqE]
theorem eqE_none {l : List Nat} (h : 61 ∉ l) : eqE l = l := by
  induction l with
  | nil => rfl
  | cons c r ih =>
    rw [eqE_cons, ih (fun e => h (List.mem_cons_of_mem _ e))]
    have : c ≠ 61 := fun e => h (by rw [e]; exact List.mem_cons_self ..)
    simp [eqC, this]
theorem mem_eqC {d c : Nat} (hd : d ≠ 61 ∧ d ≠ 51 ∧ d ≠ 68) : d ∈ eqC c ↔ d = c := by
  unfold eqC
  split
  · rename_i h; subst h; simp [hd]
  · simp
theorem mem_eqE {d : Nat} {l : List Nat} (hd : d ≠ 61 ∧ d ≠ 51 ∧ d ≠ 68) : d ∈ eqE l ↔ d ∈ l := by
  unfold eqE
  rw [List.mem_flatMap]
  constructor
  · rintro ⟨c, hc, h⟩; rw [mem_eqC hd] at h; subst h; exact hc
  · intro h; exact ⟨d, h, (mem_eqC hd).mpr rfl⟩
theorem qL_eqE (l : List Nat) : qL (eqE l) = qL l := by
  have h1 := mem_eqE (d := 39) (l := l) (by decide)
  have h2 := mem_eqE (d := 34) (l := l) (by decide)
  unfold qL
  simp only [h1, h2]
theorem tellC_eqE {q c : Nat} (hq : q = 34 ∨ q = 39) (hc : c < 128) : body q (eqC c) = eqE (tellC q c) := by
  have h : ∀ c < 128, body 34 (eqC c) = eqE (tellC 34 c) ∧ body 39 (eqC c) = eqE (tellC 39 c) := by decide +kernel
  rcases hq with rfl | rfl
  · exact (h c hc).1
  · exact (h c hc).2
theorem body_eqE {q : Nat} (hq : q = 34 ∨ q = 39) : ∀ l, AscL l → body q (eqE l) = eqE (body q l)
  | [], _ => rfl
  | c :: r, h => by
    rw [eqE_cons, body_app, body_cons, eqE_app, tellC_eqE hq (h c (List.mem_cons_self ..)), body_eqE hq r fun d hd => h d (List.mem_cons_of_mem _ hd)]
theorem tell_eqE {l : List Nat} (h : AscL l) : tell (eqE l) = eqE (tell l) := by
  have hq := qL_ways l
  have e : eqC (qL l) = [qL l] := by unfold eqC; rw [if_neg (by omega)]
  unfold tell tellQ
  rw [qL_eqE, body_eqE hq l h, eqE_cons, eqE_app, e]
  simp [eqE, e]
theorem eqC_asc {c : Nat} (h : c < 128) : AscL (eqC c) := by
  intro d hd
  unfold eqC at hd
  split at hd
  · simp at hd; omega
  · simp at hd; omega
theorem eqE_asc {l : List Nat} (h : AscL l) : AscL (eqE l) := by
  intro d hd
  obtain ⟨c, hc, hd⟩ := List.mem_flatMap.mp hd
  exact eqC_asc (h c hc) d hd
theorem eqE_inj : ∀ {a b : List Nat}, eqE a = eqE b → a = b
  | [], [], _ => rfl
  | [], c :: r, h => by rw [eqE_cons] at h; unfold eqC at h; split at h <;> simp [eqE] at h
  | c :: r, [], h => by rw [eqE_cons] at h; unfold eqC at h; split at h <;> simp [eqE] at h
  | c :: r, d :: s, h => by
    rw [eqE_cons, eqE_cons] at h
    unfold eqC at h
    split at h
    · rename_i e1
      split at h
      · rename_i e2
        simp at h
        rw [e1, e2, eqE_inj h]
      · rename_i e2
        simp at h
        exact absurd h.1.symm e2
    · rename_i e1
      split at h
      · simp at h
        exact absurd h.1 e1
      · simp at h
        rw [h.1, eqE_inj h.2]
theorem hex_same {a b : Nat} (ha : a ∈ hexL) (hb : b ∈ hexL) : True := trivial
theorem tellC_pre {q c d : Nat} {a b : List Nat} (hq : q = 34 ∨ q = 39) (hc : c < 128) (hd : d < 128) (h : tellC q c ++ a = tellC q d ++ b) : c = d ∧ a = b := by
  rcases tellC_ways hq hc with ⟨e1, n1⟩ | ⟨x, y, e1, hx, hy, v1⟩ | ⟨x, e1, n1, _, v1⟩ <;> rcases tellC_ways hq hd with ⟨e2, n2⟩ | ⟨x2, y2, e2, hx2, hy2, v2⟩ | ⟨x2, e2, n2, _, v2⟩ <;> rw [e1, e2] at h <;> simp at h
  · exact h
  · exact absurd h.1 n1
  · exact absurd h.1 n1
  · exact absurd h.1.symm n2
  · obtain ⟨rfl, rfl, rfl⟩ := h
    exact ⟨by rw [← v1, ← v2], rfl⟩
  · exact absurd h.1.symm n2
  · exact absurd h.1.symm n2
  · exact absurd h.1 n1
  · obtain ⟨rfl, rfl⟩ := h
    exact ⟨by rw [← v1, ← v2], rfl⟩
theorem body_inj {q : Nat} (hq : q = 34 ∨ q = 39) : ∀ {a b : List Nat}, AscL a → AscL b → body q a = body q b → a = b
  | [], [], _, _, _ => rfl
  | [], c :: r, _, _, h => by
    rw [body_cons] at h
    have h1 := congrArg List.length h
    have h2 := tellC_pos q c
    rw [List.length_append] at h1
    exfalso
    have h3 : (body q []).length = 0 := rfl
    omega
  | c :: r, [], _, _, h => by
    rw [body_cons] at h
    have h1 := congrArg List.length h
    have h2 := tellC_pos q c
    rw [List.length_append] at h1
    exfalso
    have h3 : (body q []).length = 0 := rfl
    omega
  | c :: r, d :: s, ha, hb, h => by
    rw [body_cons, body_cons] at h
    obtain ⟨e1, e2⟩ := tellC_pre hq (ha c (List.mem_cons_self ..)) (hb d (List.mem_cons_self ..)) h
    rw [e1, body_inj hq (fun x hx => ha x (List.mem_cons_of_mem _ hx)) (fun x hx => hb x (List.mem_cons_of_mem _ hx)) e2]
theorem tell_inj {a b : List Nat} (ha : AscL a) (hb : AscL b) (h : tell a = tell b) : a = b := by
  unfold tell tellQ at h
  rw [List.cons.injEq] at h
  obtain ⟨e1, e2⟩ := h
  rw [← e1] at e2
  exact body_inj (qL_ways a) ha hb (List.append_inj_left' e2 rfl)
/-- the way a sign is sent, the next one seen -/
noncomputable def endB (nxt : Option Nat) : Bool := nxt == none || nxt == some 10
noncomputable def encLook (c : Nat) (nxt : Option Nat) : List Nat :=
  if c = 10 then [10] else if (c = 9 ∨ c = 32) ∧ endB nxt = false then [c] else if 32 < c ∧ c < 127 ∧ c ≠ 61 then [c] else [61, hX (c / 16), hX (c % 16)]
noncomputable def sentL : List Nat → List Nat
  | [] => []
  | c :: r => encLook c r.head? ++ sentL r
noncomputable def normL : List Nat → List Nat
  | [] => []
  | [c] => [if c = 13 then 10 else c]
  | c :: d :: r => if c = 13 then (if d = 10 then 10 :: normL r else 10 :: normL (d :: r)) else c :: normL (d :: r)
noncomputable def evenC (c : Nat) (nxt : Option Nat) : Bool := (c == 9 || c == 10 || (decide (32 ≤ c) && decide (c < 127))) && !((c == 9 || c == 32) && endB nxt)
noncomputable def evenL : List Nat → Bool
  | [] => true
  | c :: r => evenC c r.head? && evenL r
theorem even_13 : ∀ {l : List Nat}, evenL l = true → 13 ∉ l
  | [], _ => by simp
  | c :: r, h => by
    rw [evenL, Bool.and_eq_true] at h
    have := even_13 h.2
    have hc : c ≠ 13 := by rintro rfl; simp [evenC] at h
    simp [this]; exact fun e => hc e.symm
theorem norm_id : ∀ {l : List Nat}, 13 ∉ l → normL l = l
  | [], _ => rfl
  | [c], h => by simp at h; simp [normL]; intro e; exact absurd e.symm h
  | c :: d :: r, h => by
    have hc : c ≠ 13 := fun e => h (by rw [e]; exact List.mem_cons_self ..)
    rw [normL, if_neg hc, norm_id fun e => h (List.mem_cons_of_mem _ e)]
theorem encLook_even {c : Nat} {n : Option Nat} (h : evenC c n = true) : encLook c n = eqC c := by
  unfold evenC at h
  unfold encLook eqC
  simp at h
  by_cases h10 : c = 10
  · subst h10; simp
  rw [if_neg h10]
  by_cases hb : c = 9 ∨ c = 32
  · have : endB n = false := by
      rcases h.2 with k | k
      · omega
      · exact k
    rw [if_pos ⟨hb, this⟩, if_neg (by omega)]
  · rw [if_neg (fun k => hb k.1)]
    by_cases h61 : c = 61
    · subst h61; decide
    · rw [if_pos (by omega), if_neg h61]
theorem sent_even : ∀ {l : List Nat}, evenL l = true → sentL l = eqE l
  | [], _ => rfl
  | c :: r, h => by
    rw [evenL, Bool.and_eq_true] at h
    rw [sentL, eqE_cons, encLook_even h.1, sent_even h.2]
theorem encLook_head (c : Nat) (n : Option Nat) : ∃ d s, encLook c n = d :: s ∧ (d = 10 ↔ c = 10) := by
  unfold encLook
  split
  · rename_i h; exact ⟨10, [], rfl, by simp [h]⟩
  · rename_i h0
    split
    · rename_i h; exact ⟨c, [], rfl, Iff.rfl⟩
    · split
      · exact ⟨c, [], rfl, Iff.rfl⟩
      · exact ⟨61, _, rfl, by simp [h0]⟩
theorem sent_head (l : List Nat) : endB (sentL l).head? = endB l.head? := by
  cases l with
  | nil => rfl
  | cons c r =>
    obtain ⟨d, s, e, hd⟩ := encLook_head c r.head?
    rw [sentL, e]
    simp only [List.cons_append, List.head?_cons, endB]
    by_cases h : c = 10
    · rw [hd.mpr h, h]
    · have : d ≠ 10 := fun k => h (hd.mp k)
      have e1 : (d == 10) = false := by simpa using this
      have e2 : (c == 10) = false := by simpa using h
      simp [e1, e2]
theorem even_app1 {a : Nat} {l : List Nat} (ha : evenC a l.head? = true) (h : evenL l = true) : evenL (a :: l) = true := by rw [evenL, ha, h]; rfl
theorem hX_even : ∀ d < 16, ∀ n, evenC (hX d) n = true := by
  intro d hd n
  have h : ∀ d < 16, 48 ≤ hX d ∧ hX d < 71 := by decide
  have := h d hd
  unfold evenC
  simp
  omega
theorem sent_is_even : ∀ {l : List Nat}, AscL l → evenL (sentL l) = true
  | [], _ => rfl
  | c :: r, h => by
    have ih := sent_is_even (l := r) fun d hd => h d (List.mem_cons_of_mem _ hd)
    have hc : c < 128 := h c (List.mem_cons_self ..)
    have hh := sent_head r
    rw [sentL]
    unfold encLook
    split
    · exact even_app1 (by simp [evenC]) ih
    · split
      · rename_i h0 h1
        refine even_app1 ?_ ih
        have e : endB (sentL r).head? = false := by rw [hh]; exact h1.2
        show evenC c (sentL r).head? = true
        unfold evenC
        rw [e]
        simp
        omega
      · split
        · rename_i h0 h1 h2
          refine even_app1 ?_ ih
          unfold evenC
          simp
          omega
        · refine even_app1 (by simp [evenC]) (even_app1 (hX_even _ (by omega) _) (even_app1 (hX_even _ (by omega) _) ih))
theorem even_pr {q : Nat} (hq : 33 ≤ q ∧ q < 127) : ∀ {l : List Nat}, Pr l → evenL (l ++ [q]) = true
  | [], _ => by simp [evenL, evenC]; omega
  | c :: r, h => by
    have ih := even_pr hq (l := r) fun d hd => h d (List.mem_cons_of_mem _ hd)
    have hc := h c (List.mem_cons_self ..)
    refine even_app1 ?_ ih
    have e : endB (r ++ [q]).head? = false := by
      cases r with
      | nil => simp [endB]; omega
      | cons d s =>
        have := h d (by simp)
        simp [endB]; omega
    show evenC c (r ++ [q]).head? = true
    unfold evenC
    rw [e]
    simp
    omega
theorem tell_even {l : List Nat} (h : AscL l) : evenL (tell l) = true := by
  have hq := qL_ways l
  have := even_pr (q := qL l) (l := qL l :: body (qL l) l) (by omega) (by
    intro d hd
    rcases List.mem_cons.mp hd with rfl | hd
    · omega
    · exact body_pr hq h d hd)
  exact this
theorem eqE_head (l : List Nat) : (eqE l).head? = l.head? := by
  cases l with
  | nil => rfl
  | cons c r => rw [eqE_cons]; unfold eqC; split <;> simp_all
theorem even_eqE : ∀ (l : List Nat), evenL (eqE l) = evenL l
  | [] => rfl
  | c :: r => by
    have ih := even_eqE r
    have hh := eqE_head r
    rw [eqE_cons, evenL]
    unfold eqC
    split
    · rename_i h
      subst h
      simp only [List.cons_append, List.nil_append, evenL, List.head?_cons, ih, evenC]
      simp [endB]
    · simp only [List.cons_append, List.nil_append, evenL, hh, ih]
end Mine
end

/-! Pw3 -/
noncomputable section
open PySem PySem.W PySem.Spec PySem.Calls PyProof.Rows
set_option maxRecDepth 100000
set_option linter.all false
namespace Mine
/-- the six orders, on lists -/
theorem told_all {x : List Nat} (h : AscL x) : sentL (sentL (tell (tell x))) = eqE (eqE (tell (tell x))) ∧ sentL (tell (sentL (tell x))) = eqE (eqE (tell (tell x))) ∧ tell (sentL (sentL (tell x))) = eqE (eqE (tell (tell x))) := by
  have a1 := (tell_pr h).asc
  have a2 := (tell_pr a1).asc
  have e1 := tell_even h
  have e2 := tell_even a1
  have w1 : sentL (tell x) = eqE (tell x) := sent_even e1
  have w2 : sentL (tell (tell x)) = eqE (tell (tell x)) := sent_even e2
  refine ⟨?_, ?_, ?_⟩
  · rw [w2, sent_even (by rw [even_eqE]; exact e2)]
  · rw [w1, tell_eqE a1, sent_even (by rw [even_eqE]; exact e2)]
  · rw [w1, sent_even (by rw [even_eqE]; exact e1), tell_eqE (eqE_asc a1), tell_eqE a1]
theorem sent_all {s : List Nat} (h : AscL s) (he : evenL s = true) : tell (tell (sentL s)) = eqE (tell (tell s)) ∧ tell (sentL (tell s)) = eqE (tell (tell s)) ∧ sentL (tell (tell s)) = eqE (tell (tell s)) := by
  have a1 := (tell_pr h).asc
  refine ⟨?_, ?_, ?_⟩
  · rw [sent_even he, tell_eqE h, tell_eqE a1]
  · rw [sent_even (tell_even h), tell_eqE a1]
  · rw [sent_even (tell_even a1)]
theorem norm_asc : ∀ {l : List Nat}, AscL l → AscL (normL l)
  | [], _ => fun _ h => nomatch h
  | [c], h => by
    intro d hd
    have := h c (by simp)
    simp [normL] at hd
    subst hd; split <;> omega
  | c :: d :: r, h => by
    have h1 : AscL (normL (d :: r)) := norm_asc fun x hx => h x (List.mem_cons_of_mem _ hx)
    have h2 : AscL (normL r) := norm_asc fun x hx => h x (List.mem_cons_of_mem _ (List.mem_cons_of_mem _ hx))
    have hc := h c (List.mem_cons_self ..)
    intro y hy
    rw [normL] at hy
    split at hy
    · split at hy
      · rcases List.mem_cons.mp hy with rfl | hy
        · omega
        · exact h2 y hy
      · rcases List.mem_cons.mp hy with rfl | hy
        · omega
        · exact h1 y hy
    · rcases List.mem_cons.mp hy with rfl | hy
      · exact hc
      · exact h1 y hy
theorem encLook_asc {c : Nat} {n : Option Nat} (h : c < 128) : AscL (encLook c n) := by
  intro d hd
  unfold encLook at hd
  have h1 := (hx_lt (c / 16) (by omega)).2
  have h2 := (hx_lt (c % 16) (by omega)).2
  split at hd
  · simp at hd; omega
  · split at hd
    · simp at hd; omega
    · split at hd
      · simp at hd; omega
      · simp at hd; omega
theorem sent_asc : ∀ {l : List Nat}, AscL l → AscL (sentL l)
  | [], _ => fun _ h => nomatch h
  | c :: r, h => by
    intro d hd
    rw [sentL] at hd
    rcases List.mem_append.mp hd with hd | hd
    · exact encLook_asc (h c (List.mem_cons_self ..)) d hd
    · exact sent_asc (fun x hx => h x (List.mem_cons_of_mem _ hx)) d hd
/-- told and sent meet just where the text is even -/
theorem meet_iff {x : List Nat} (h : AscL x) : (eqE (eqE (tell (tell x))) = eqE (tell (tell (sentL (normL x))))) ↔ evenL x = true := by
  have hs := sent_asc (norm_asc h)
  have a1 := (tell_pr h).asc
  have b1 := (tell_pr hs).asc
  constructor
  · intro e
    have e1 := eqE_inj e
    rw [← tell_eqE a1, ← tell_eqE h] at e1
    have a2 := (tell_pr (eqE_asc h)).asc
    have e2 := tell_inj a2 b1 e1
    have e3 := tell_inj (eqE_asc h) hs e2
    have := sent_is_even (norm_asc h)
    rw [← e3, even_eqE] at this
    exact this
  · intro he
    rw [norm_id (even_13 he), sent_even he, tell_eqE h, tell_eqE a1]
end Mine
end

/-! Pw4 -/
noncomputable section
open PySem PySem.W PySem.Spec PySem.Calls PyProof.Rows
set_option maxRecDepth 100000
set_option linter.all false
namespace Mine
open StrLaws in
noncomputable def lsStep (s : Str) (st : LsSt) (i : Nat) : LsSt := if (decide (st.snd ≤ i) && Unicode.isLineBreak (s.cps.getD i 0)) = true then (st.fst.push (st.snd, i, lsNext s i), lsNext s i) else st
theorem ls_fold (s : Str) : ∀ (l : List Nat) (st : StrLaws.LsSt), Id.run (forIn (m := Id) l st (StrLaws.lsBody s)) = l.foldl (lsStep s) st
  | [], st => rfl
  | i :: r, st => by
    rw [List.foldl_cons, List.forIn_cons]
    unfold StrLaws.lsBody lsStep
    split
    · exact ls_fold s r _
    · exact ls_fold s r _
noncomputable def linesL : Bool → List Nat → List Nat → List (List Nat)
  | _, acc, [] => if acc = [] then [] else [acc]
  | true, _, _ :: r => linesL false [] r
  | false, acc, c :: r => if Unicode.isLineBreak c = true then acc :: linesL (c == 13 && r.head? == some 10) [] r else linesL false (acc ++ [c]) r
theorem lines_spans (x : Str) : Txt.lines x = (Builtin.Str.lineSpans x).map fun p => Builtin.Str.strSub x p.1 p.2.1 := by
  unfold Txt.lines
  split
  · rename_i h
    have e : lineCuts x = [(0, x.length)] := eq_of_beq h
    have : linesOf x = [x] := by
      unfold linesOf
      rw [e]
      simp [StrLaws.sub_whole]
    rw [← this]
    unfold linesOf lineCuts
    rw [List.map_map]; rfl
  · unfold linesOf lineCuts
    rw [List.map_map]; rfl
theorem ls_lines (l₀ : List Nat) : ∀ (r : List Nat) (i : Nat) (A : Array (Nat × Nat × Nat)) (st : Nat) (skip : Bool) (acc : List Nat), l₀.drop i = r → i ≤ l₀.length →
    (skip = false ∧ st ≤ i ∧ acc = (l₀.drop st).take (i - st) ∨ skip = true ∧ st = i + 1 ∧ acc = []) →
    (StrLaws.lsEnd (T l₀) ((List.range' i r.length).foldl (lsStep (T l₀)) (A, st))).map (fun p => Builtin.Str.strSub (T l₀) p.1 p.2.1) = A.toList.map (fun p => Builtin.Str.strSub (T l₀) p.1 p.2.1) ++ (linesL skip acc r).map T
  | [], i, A, st, skip, acc, hr, hi, h => by
    have hlen : l₀.length = i := by
      have := congrArg List.length hr
      rw [List.length_drop] at this
      simp at this
      omega
    have hT : (T l₀).length = i := by rw [T_len]; exact hlen
    simp only [List.length_nil, List.range'_zero, List.foldl_nil]
    unfold StrLaws.lsEnd
    dsimp only
    rw [hT]
    rcases h with ⟨rfl, hs, ha⟩ | ⟨rfl, hs, ha⟩
    · by_cases hlt : st < i
      · have hne : acc ≠ [] := by
          intro e
          have := congrArg List.length ha
          rw [e, List.length_take, List.length_drop] at this
          simp at this
          omega
        rw [if_pos hlt]
        simp only [linesL, if_neg hne, Array.toList_push, List.map_append, List.map_cons, List.map_nil]
        congr 2
        refine Str.ext' (Array.toList_inj.mp ?_)
        rw [StrLaws.strSub_toList]
        simp [ha]
      · have hst : st = i := by omega
        have he : acc = [] := by rw [ha, hst]; simp
        rw [if_neg hlt]
        simp [linesL, he]
    · rw [if_neg (by omega)]
      simp [linesL, ha]
  | c :: r, i, A, st, skip, acc, hr, hi, h => by
    have hlt : i < l₀.length := by
      have := congrArg List.length hr
      rw [List.length_drop] at this
      simp at this
      omega
    have hc : l₀[i]? = some c := by
      have : (l₀.drop i)[0]? = some c := by rw [hr]; rfl
      simpa using this
    have hr' : l₀.drop (i + 1) = r := by rw [← List.drop_drop, hr]; rfl
    have hg : (T l₀).cps.getD i 0 = c := by
      simp [Array.getD, hlt]
      have := List.getElem?_eq_some_iff.mp hc
      exact this.2
    have hn1 : (T l₀).cps[i + 1]? = r.head? := by
      have : l₀[i + 1]? = r.head? := by rw [← hr', List.head?_drop]
      simpa using this
    rw [List.length_cons, List.range'_succ, List.foldl_cons]
    rcases h with ⟨rfl, hs, ha⟩ | ⟨rfl, hs, ha⟩
    · unfold lsStep
      dsimp only
      rw [hg, decide_eq_true hs, Bool.true_and]
      by_cases hb : Unicode.isLineBreak c = true
      · rw [if_pos hb]
        have hnx : StrLaws.lsNext (T l₀) i = if (c == 13 && r.head? == some 10) = true then i + 2 else i + 1 := by
          unfold StrLaws.lsNext
          rw [hg, hn1]
        rw [hnx]
        have hl : linesL false acc (c :: r) = acc :: linesL (c == 13 && r.head? == some 10) [] r := by rw [linesL, if_pos hb]
        rw [hl]
        have hsub : Builtin.Str.strSub (T l₀) st i = T acc := by
          refine Str.ext' (Array.toList_inj.mp ?_)
          rw [StrLaws.strSub_toList]
          simp [ha]
        cases hk : (c == 13 && r.head? == some 10) with
        | true =>
          rw [if_pos rfl]
          have := ls_lines l₀ r (i + 1) (A.push (st, i, i + 2)) (i + 2) true [] hr' (by omega) (.inr ⟨rfl, rfl, rfl⟩)
          unfold lsStep at this
          rw [this]
          simp [hsub]
        | false =>
          rw [if_neg (by simp)]
          have := ls_lines l₀ r (i + 1) (A.push (st, i, i + 1)) (i + 1) false [] hr' (by omega) (.inl ⟨rfl, Nat.le_refl _, by simp⟩)
          unfold lsStep at this
          rw [this]
          simp [hsub]
      · rw [if_neg hb]
        have := ls_lines l₀ r (i + 1) A st false (acc ++ [c]) hr' (by omega) (.inl ⟨rfl, by omega, by
          rw [ha]
          have e : i + 1 - st = (i - st) + 1 := by omega
          rw [e, List.take_add_one, List.getElem?_drop, show st + (i - st) = i by omega, hc]
          rfl⟩)
        unfold lsStep at this
        rw [this]
        have hl : linesL false acc (c :: r) = linesL false (acc ++ [c]) r := by rw [linesL, if_neg hb]
        rw [hl]
    · unfold lsStep
      dsimp only
      rw [decide_eq_false (show ¬ st ≤ i by omega), Bool.false_and, if_neg (by simp)]
      have := ls_lines l₀ r (i + 1) A st false [] hr' (by omega) (.inl ⟨rfl, by omega, by rw [hs]; simp⟩)
      unfold lsStep at this
      rw [this]
      have hl : linesL true acc (c :: r) = linesL false [] r := by rw [linesL]
      rw [hl]
theorem lines_T (l : List Nat) : Txt.lines (T l) = (linesL false [] l).map T := by
  rw [lines_spans, StrLaws.ls_eq, ls_fold]
  have := ls_lines l l 0 #[] 0 false [] rfl (Nat.zero_le _) (.inl ⟨rfl, Nat.le_refl _, by simp⟩)
  rw [T_len]
  simpa using this
end Mine
end

/-! Pw5 -/
noncomputable section
open PySem PySem.W PySem.Spec PySem.Calls PyProof.Rows
set_option maxRecDepth 100000
set_option linter.all false
namespace Mine
theorem nlS' : Str.ofString "\n" = T [10] := by decide +kernel
theorem brk_small : ∀ c < 128, Unicode.isLineBreak c = (c == 10 || c == 11 || c == 12 || c == 13 || c == 28 || c == 29 || c == 30) := by decide +kernel
theorem brk_10 : Unicode.isLineBreak 10 = true := by decide +kernel
theorem brk_13 : Unicode.isLineBreak 13 = true := by decide +kernel
theorem hX_rng : ∀ d < 16, 48 ≤ hX d ∧ hX d < 71 := by decide
theorem brk_hX {d : Nat} (h : d < 16) : Unicode.isLineBreak (hX d) = false := by
  have := hX_rng d h
  rw [brk_small _ (by omega)]
  simp
  omega
/-- no sign here breaks a line -/
noncomputable def NoBr (l : List Nat) : Prop := ∀ c ∈ l, Unicode.isLineBreak c = false
theorem linesL_app : ∀ {a : List Nat}, NoBr a → ∀ (acc r : List Nat), linesL false acc (a ++ r) = linesL false (acc ++ a) r
  | [], _, acc, r => by simp
  | c :: a, h, acc, r => by
    have hc := h c (List.mem_cons_self ..)
    rw [List.cons_append, linesL, if_neg (by rw [hc]; simp), linesL_app (fun d hd => h d (List.mem_cons_of_mem _ hd))]
    simp
theorem linesL_ne : ∀ (l acc : List Nat), acc ≠ [] ∨ l ≠ [] → linesL false acc l ≠ []
  | [], acc, h => by
    have : acc ≠ [] := by rcases h with h | h; exact h; exact absurd rfl h
    rw [linesL, if_neg this]; simp
  | c :: r, acc, _ => by
    rw [linesL]
    split
    · simp
    · exact linesL_ne r (acc ++ [c]) (.inl (by simp))
noncomputable def blank (c : Nat) : Bool := c == 9 || c == 32
noncomputable def lineL (l : List Nat) : List Nat := match l.getLast? with
  | some c => if blank c = true then l.dropLast ++ [61, hX (c / 16), hX (c % 16)] else l
  | none => []
theorem lineL_nil : lineL [] = [] := rfl
theorem lineL_snoc (a : List Nat) (c : Nat) : lineL (a ++ [c]) = if blank c = true then a ++ [61, hX (c / 16), hX (c % 16)] else a ++ [c] := by
  unfold lineL
  simp
theorem quoteS_T : ∀ c < 128, quoteS c = T [61, hX (c / 16), hX (c % 16)] := by decide +kernel
theorem blankS : (Str.ofString " \t").cps.toList = [32, 9] := by decide +kernel
theorem item_last (a : List Nat) (c : Nat) : Txt.item (T (a ++ [c])) (-1) = ⟨#[c]⟩ := by
  have hl : (T (a ++ [c])).length = a.length + 1 := by rw [T_len]; simp
  have h := StrLaws.at_neg (x := T (a ++ [c])) (i := -1) (n := c) (by omega) (by omega) (by
    rw [hl]
    have : (-1 + ((a.length + 1 : Nat) : Int)).toNat = a.length := by omega
    rw [this]
    simp)
  show (⟨#[(Txt.charAt (T (a ++ [c])) (-1)).getD 0]⟩ : Str) = _
  have e : Txt.charAt (T (a ++ [c])) (-1) = some c := h
  rw [e]; rfl
theorem lineS_T {l : List Nat} (h : AscL l) : lineS (T l) = T (lineL l) := by
  rcases List.eq_nil_or_concat l with rfl | ⟨a, c, rfl⟩
  · rfl
  · rw [List.concat_eq_append] at h ⊢
    have hc : c < 128 := h c (by simp)
    have hl : (T (a ++ [c])).length = a.length + 1 := by rw [T_len]; simp
    have hi := item_last a c
    have hin : lastIn (T (a ++ [c])) = blank c := by
      unfold lastIn
      rw [hi, noOcc_one, blankS]
      unfold blank
      rw [Bool.not_not, Bool.eq_iff_iff]
      simp
      omega
    unfold lineS
    rw [if_neg (by omega), hin, lineL_snoc, hi]
    cases hb : blank c with
    | false => rfl
    | true =>
      rw [if_pos rfl]
      show Txt.slice (T (a ++ [c])) (some 0) (some (-1)) ++ quoteS ((⟨#[c]⟩ : Str).cps.getD 0 0) = _
      have es : Txt.slice (T (a ++ [c])) (some 0) (some (-1)) = T a := by
        have e1 : Txt.slice (T (a ++ [c])) (some 0) (some (-1)) = Txt.slice (T (a ++ [c])) (some 0) (some ((a.length : Nat) : Int)) := by
          have := StrLaws.sliceText_neg_hi (T (a ++ [c])) (some 0) (j := -1) (by omega) (by omega)
          rw [hl] at this
          have e : (-1 + ((a.length + 1 : Nat) : Int)) = ((a.length : Nat) : Int) := by omega
          rw [e] at this
          exact this
        have e2 := T_slice (l := a ++ [c]) (i := 0) (j := ((a.length : Nat) : Int)) (a := 0) (b := a.length) rfl (by simp) (by simp)
        rw [e1, e2]
        simp
      rw [es, show ((⟨#[c]⟩ : Str).cps.getD 0 0) = c from rfl, quoteS_T c hc, T_app]
noncomputable def joinL : List (List Nat) → List Nat
  | [] => []
  | [a] => a
  | a :: b :: r => a ++ 10 :: joinL (b :: r)
theorem joinL_cons {a : List Nat} {r : List (List Nat)} (h : r ≠ []) : joinL (a :: r) = a ++ 10 :: joinL r := by
  cases r with
  | nil => exact absurd rfl h
  | cons b s => rfl
theorem join_T : ∀ ls : List (List Nat), Txt.join (Str.ofString "\n") (ls.map T) = T (joinL ls) := by
  have h : ∀ ls : List (List Nat), Str.join (Str.ofString "\n") (ls.map T) = T (joinL ls) := by
    intro ls
    induction ls with
    | nil => rfl
    | cons a r ih =>
      cases r with
      | nil => rfl
      | cons b s =>
        show T a ++ Str.ofString "\n" ++ Str.join (Str.ofString "\n") (T b :: s.map T) = _
        rw [show (T b :: s.map T) = (b :: s).map T from rfl, ih, nlS', T_app a [10], T_app (a ++ [10]), joinL]
        simp
  intro ls
  show Builtin.Str.glued _ _ = _
  rw [StrLaws.glued_eq_join]
  exact h ls
theorem lines_asc : ∀ (l : List Nat) (sk : Bool) (acc : List Nat), AscL l → AscL acc → ∀ a ∈ linesL sk acc l, AscL a
  | [], sk, acc, _, ha, a, h => by
    have h' : a ∈ (if acc = [] then [] else [acc]) := by cases sk <;> (rw [linesL] at h; exact h)
    split at h'
    · exact nomatch h'
    · rw [List.mem_singleton.mp h']; exact ha
  | c :: r, true, acc, hl, ha, a, h => by
    rw [linesL] at h
    exact lines_asc r false [] (fun x hx => hl x (List.mem_cons_of_mem _ hx)) (fun x hx => nomatch hx) a h
  | c :: r, false, acc, hl, ha, a, h => by
    have hr : AscL r := fun x hx => hl x (List.mem_cons_of_mem _ hx)
    rw [linesL] at h
    split at h
    · rcases List.mem_cons.mp h with rfl | h
      · exact ha
      · exact lines_asc r _ [] hr (fun x hx => nomatch hx) a h
    · refine lines_asc r false (acc ++ [c]) hr ?_ a h
      intro x hx
      rcases List.mem_append.mp hx with hx | hx
      · exact ha x hx
      · rw [List.mem_singleton.mp hx]; exact hl c (List.mem_cons_self ..)
theorem norm_cons {c : Nat} (r : List Nat) (h : c ≠ 13) : normL (c :: r) = c :: normL r := by
  cases r with
  | nil => simp [normL, h]
  | cons d s => rw [normL, if_neg h]
theorem norm_13 (r : List Nat) (h : r.head? ≠ some 10) : normL (13 :: r) = 10 :: normL r := by
  cases r with
  | nil => rfl
  | cons d s =>
    have : d ≠ 10 := fun e => h (by rw [e]; rfl)
    rw [normL, if_pos rfl, if_neg this]
theorem norm_1310 (r : List Nat) : normL (13 :: 10 :: r) = 10 :: normL r := by rw [normL, if_pos rfl, if_pos rfl]
noncomputable def tlB : List Nat → Bool
  | [] => false
  | [c] => c == 10 || c == 13
  | _ :: d :: r => tlB (d :: r)
noncomputable def tlL (x : List Nat) : List (List Nat) := if tlB x = true then [[]] else []
noncomputable def fixEnd (acc : List Nat) (n : Option Nat) : List Nat := if endB n = true then lineL acc else acc
theorem enc_plain {c : Nat} (h10 : c ≠ 10) (h13 : c ≠ 13) (hc : c < 128) : NoBr (encL c) := by
  have h : ∀ c < 128, c ≠ 10 → c ≠ 13 → (encL c).all (fun d => !Unicode.isLineBreak d) = true := by decide +kernel
  intro d hd
  have := List.all_eq_true.mp (h c hc h10 h13) d hd
  simpa using this
theorem enc_end {c : Nat} (h10 : c ≠ 10) (h13 : c ≠ 13) (hc : c < 128) (acc : List Nat) (n : Option Nat) : fixEnd (acc ++ encL c) n = acc ++ encLook c n := by
  have hnb : ∀ d, blank d = false → lineL (acc ++ [d]) = acc ++ [d] := by intro d hd; rw [lineL_snoc, hd]; simp
  have e1 := hX_rng (c / 16) (by omega)
  have e2 := hX_rng (c % 16) (by omega)
  have h3 : lineL (acc ++ [61, hX (c / 16), hX (c % 16)]) = acc ++ [61, hX (c / 16), hX (c % 16)] := by
    have : acc ++ [61, hX (c / 16), hX (c % 16)] = (acc ++ [61, hX (c / 16)]) ++ [hX (c % 16)] := by simp
    rw [this, lineL_snoc, if_neg (by unfold blank; simp; omega)]
  unfold fixEnd encLook encL
  rw [if_neg h10]
  by_cases hb : c = 9 ∨ c = 32
  · have hbl : blank c = true := by unfold blank; simp; exact hb
    have : c = 9 ∨ c = 10 ∨ c = 13 ∨ (32 ≤ c ∧ c < 127 ∧ c ≠ 61) := by omega
    rw [if_pos this]
    cases he : endB n with
    | true =>
      rw [if_pos rfl, if_neg (by simp), if_neg (by omega), lineL_snoc, if_pos hbl]
    | false => rw [if_neg (by simp), if_pos ⟨hb, rfl⟩]
  · have hcond : ¬ ((c = 9 ∨ c = 32) ∧ endB n = false) := fun k => hb k.1
    rw [if_neg hcond]
    by_cases hp : 32 < c ∧ c < 127 ∧ c ≠ 61
    · have : c = 9 ∨ c = 10 ∨ c = 13 ∨ (32 ≤ c ∧ c < 127 ∧ c ≠ 61) := by omega
      rw [if_pos this, if_pos hp, hnb c (by unfold blank; simp; omega)]
      simp
    · have : ¬ (c = 9 ∨ c = 10 ∨ c = 13 ∨ (32 ≤ c ∧ c < 127 ∧ c ≠ 61)) := by omega
      rw [if_neg this, if_neg hp, h3]
      simp
theorem encT_cons (c : Nat) (r : List Nat) : encT (c :: r) = encL c ++ encT r := by simp [encT]
theorem encL_10 : encL 10 = [10] := by decide
theorem encL_13 : encL 13 = [13] := by decide
theorem enc_head10 {r : List Nat} : (encT r).head? = some 10 ↔ r.head? = some 10 := by
  cases r with
  | nil => simp [encT]
  | cons c s =>
    rw [encT_cons]
    unfold encL
    split
    · simp
    · simp; omega
theorem rest_ne {r : List Nat} (h : r ≠ []) : ((linesL false [] (encT r)).map lineL ++ tlL r) ≠ [] := by
  have h1 : encT r ≠ [] := by
    cases r with
    | nil => exact absurd rfl h
    | cons c s => rw [encT_cons]; unfold encL; split <;> simp
  have := linesL_ne (encT r) [] (.inr h1)
  intro e
  have h2 := (List.append_eq_nil_iff.mp e).1
  exact this (List.map_eq_nil_iff.mp h2)
theorem tl_cons {c : Nat} {r : List Nat} (h : r ≠ []) : tlL (c :: r) = tlL r := by
  cases r with
  | nil => exact absurd rfl h
  | cons d s => rfl
theorem sentL_10 (y : List Nat) : sentL (10 :: y) = 10 :: sentL y := by rw [sentL]; rfl
/-- a break at hand: the rest is joined behind a new line -/
theorem at_break {acc r : List Nat} {b : Nat} (hb : b = 10 ∨ b = 13) (ih : joinL ((linesL false [] (encT r)).map lineL ++ tlL r) = fixEnd [] (normL r).head? ++ sentL (normL r)) :
    joinL (lineL acc :: ((linesL false [] (encT r)).map lineL ++ tlL (b :: r))) = lineL acc ++ 10 :: sentL (normL r) := by
  by_cases hr : r = []
  · subst hr
    have : tlL [b] = [[]] := by unfold tlL tlB; rcases hb with rfl | rfl <;> rfl
    rw [this]
    rfl
  · rw [tl_cons hr, joinL_cons (rest_ne hr), ih]
    have : fixEnd [] (normL r).head? = [] := by unfold fixEnd; split <;> rfl
    rw [this]; rfl
theorem send_join : ∀ (k : Nat) (x acc : List Nat), x.length ≤ k → AscL x → joinL ((linesL false acc (encT x)).map lineL ++ tlL x) = fixEnd acc (normL x).head? ++ sentL (normL x)
  | _, [], acc, _, _ => by
    show joinL ((linesL false acc []).map lineL ++ []) = lineL acc ++ []
    rw [linesL]
    split
    · rename_i h; subst h; rfl
    · rw [List.append_nil, List.append_nil]; rfl
  | 0, c :: r, acc, hk, _ => by simp at hk
  | k + 1, c :: r, acc, hk, h => by
    have hk' : r.length ≤ k := by simpa using hk
    have hc : c < 128 := h c (List.mem_cons_self ..)
    have h' : AscL r := fun d hd => h d (List.mem_cons_of_mem _ hd)
    by_cases h10 : c = 10
    · subst h10
      rw [encT_cons, encL_10, norm_cons r (by decide), sentL_10]
      have hl : linesL false acc ([10] ++ encT r) = acc :: linesL false [] (encT r) := by
        show linesL false acc (10 :: encT r) = _
        rw [linesL, if_pos brk_10]; rfl
      rw [hl, List.map_cons, List.cons_append, at_break (.inl rfl) (send_join k r [] hk' h')]
      rfl
    by_cases h13 : c = 13
    · subst h13
      by_cases hd : r.head? = some 10
      · match r, hd, hk', h' with
        | d :: s, hd, hk', h' =>
          have hd' : d = 10 := by simpa using hd
          subst hd'
          rw [encT_cons, encT_cons, encL_10, encL_13, norm_1310, sentL_10]
          have hl : linesL false acc ([13] ++ ([10] ++ encT s)) = acc :: linesL false [] (encT s) := by
            show linesL false acc (13 :: 10 :: encT s) = _
            rw [linesL, if_pos brk_13]
            show acc :: linesL true [] (10 :: encT s) = _
            rw [linesL]
          have ht : tlL (13 :: 10 :: s) = tlL (10 :: s) := tl_cons (by simp)
          rw [hl, List.map_cons, List.cons_append, ht, at_break (.inl rfl) (send_join k s [] (by simp at hk'; omega) fun d hd => h' d (List.mem_cons_of_mem _ hd))]
          rfl
      · rw [encT_cons, encL_13, norm_13 r hd, sentL_10]
        have hl : linesL false acc ([13] ++ encT r) = acc :: linesL false [] (encT r) := by
          show linesL false acc (13 :: encT r) = _
          rw [linesL, if_pos brk_13]
          have : ((13 : Nat) == 13 && (encT r).head? == some 10) = false := by
            have h2 : (encT r).head? ≠ some 10 := fun e => hd (enc_head10.mp e)
            simp [h2]
          rw [this]
        rw [hl, List.map_cons, List.cons_append, at_break (.inr rfl) (send_join k r [] hk' h')]
        rfl
    · rw [encT_cons, linesL_app (enc_plain h10 h13 hc), norm_cons r h13, sentL]
      have ht : tlL (c :: r) = tlL r := by
        cases r with
        | nil => unfold tlL tlB; simp [h10, h13]
        | cons d s => rfl
      rw [ht, send_join k r (acc ++ encL c) hk' h', enc_end h10 h13 hc]
      have : fixEnd acc (some c) = acc := by unfold fixEnd endB; simp [h10]
      rw [List.head?_cons, this, List.append_assoc]
theorem tlB_snoc : ∀ (a : List Nat) (c : Nat), tlB (a ++ [c]) = (c == 10 || c == 13)
  | [], c => rfl
  | [d], c => rfl
  | d :: e :: r, c => tlB_snoc (e :: r) c
theorem crlfS : (Str.ofString "\x0d\n").cps.toList = [13, 10] := by decide +kernel
theorem bodyX_T {l : List Nat} (h : AscL l) (hne : l ≠ []) : bodyX (T l) = T (sentL (normL l)) := by
  have hasc : AscL (encT l) := by
    intro d hd
    obtain ⟨c, hc, hd⟩ := List.mem_flatMap.mp hd
    have hc' := h c hc
    have e1 := hX_rng (c / 16) (by omega)
    have e2 := hX_rng (c % 16) (by omega)
    unfold encL at hd
    split at hd
    · simp at hd; omega
    · simp at hd; omega
  unfold bodyX bodyS
  rw [List.toList_toArray, lines_T, List.map_map]
  have hm : (linesL false [] (encT l)).map (lineS ∘ T) = ((linesL false [] (encT l)).map lineL).map T := by
    rw [List.map_map]
    refine List.map_congr_left fun a ha => ?_
    refine lineS_T fun d hd => ?_
    exact lines_asc (encT l) false [] hasc (fun x hx => nomatch hx) a ha d hd
  rw [hm]
  obtain ⟨a, c, e⟩ : ∃ a c, l = a ++ [c] := by
    rcases List.eq_nil_or_concat l with h0 | ⟨a, c, h0⟩
    · exact absurd h0 hne
    · exact ⟨a, c, by rw [h0, List.concat_eq_append]⟩
  have hlast : ∃ b d, encT l = b ++ [d] ∧ (d = 10 ∨ d = 13 ↔ c = 10 ∨ c = 13) := by
    have hc' := h c (by rw [e]; simp)
    have e1 := hX_rng (c / 16) (by omega)
    have e2 := hX_rng (c % 16) (by omega)
    have e3 : encT l = encT a ++ encL c := by rw [e]; simp [encT]
    rw [e3]
    unfold encL
    split
    · exact ⟨_, c, rfl, Iff.rfl⟩
    · rename_i hn
      refine ⟨encT a ++ [61, hX (c / 16)], hX (c % 16), by simp, ?_⟩
      omega
  obtain ⟨b, d, eb, hbd⟩ := hlast
  have hocc : noOcc (Str.ofString "\x0d\n") (Txt.item (T (encT l)) (-1)) = !tlB l := by
    rw [eb, item_last, noOcc_one, crlfS, e, tlB_snoc, Bool.not_inj_iff, Bool.eq_iff_iff]
    simp
    omega
  rw [hocc]
  have hj := send_join _ l [] (Nat.le_refl _) h
  have hf : fixEnd [] (normL l).head? = [] := by unfold fixEnd; split <;> rfl
  rw [hf, List.nil_append] at hj
  unfold tlL at hj
  cases ht : tlB l with
  | true =>
    rw [ht, if_pos rfl] at hj
    show Txt.join _ (_ ++ [Str.ofString ""]) = _
    rw [show ([Str.ofString ""] : List Str) = ([[]] : List (List Nat)).map T from rfl, ← List.map_append, join_T, hj]
  | false =>
    rw [ht, if_neg (by simp), List.append_nil] at hj
    show Txt.join (Str.ofString "\n") (List.map T (List.map lineL (linesL false [] (encT l)))) = _
    rw [join_T, hj]
end Mine
end

/-! Pw6 -/
noncomputable section
open PySem PySem.W PySem.Spec PySem.Calls PyProof.Rows
set_option maxRecDepth 100000
set_option linter.all false
namespace Mine
theorem sliceIdx_hi (len : Nat) (i : Int) {j : Int} (h : (len : Int) ≤ j) : Builtin.Str.strSliceIndices (some i) (some j) 1 len = Builtin.Str.strSliceIndices (some i) none 1 len := by
  unfold Builtin.Str.strSliceIndices
  have e : max 0 (min (if j < 0 then j + (len : Int) else j) (len : Int)) = (len : Int) := by
    rw [if_neg (by omega)]; omega
  simp [e]
theorem slice_hi {x : Str} (i : Int) {j : Int} (h : (x.length : Int) ≤ j) : Txt.slice x (some i) (some j) = Txt.slice x (some i) none := by
  show StrLaws.sliceText x (some i) (some j) = StrLaws.sliceText x (some i) none
  unfold StrLaws.sliceText
  rw [sliceIdx_hi x.length i h]
theorem emptyS : Str.ofString "" = T [] := by decide +kernel
theorem T_beq (a b : List Nat) : (T a == T b) = (a == b) := by
  by_cases h : a = b
  · subst h; simp
  · have : T a ≠ T b := fun e => h (T_inj e)
    rw [beq_eq_false_iff_ne.mpr this, beq_eq_false_iff_ne.mpr h]
theorem lastB_T {l : List Nat} {n : Nat} (h : n < l.length) : lastB (T l) (n : Int) = endB l[n + 1]? := by
  have hl := T_len l
  unfold lastB
  rw [emptyS, nlS']
  by_cases h1 : n + 1 < l.length
  · have e := T_slice (l := l) (i := (n : Int) + 1) (j := (n : Int) + 2) (a := n + 1) (b := 1) (by omega) (by omega) (by omega)
    have e2 : (l.drop (n + 1)).take 1 = [l[n + 1]] := by rw [List.drop_eq_getElem_cons h1]; rfl
    rw [e, e2]
    have e3 : l[n + 1]? = some l[n + 1] := by simp [h1]
    rw [e3]
    simp only [List.any_cons, List.any_nil, T_beq, Bool.or_false, endB]
    simp
    rw [Bool.eq_iff_iff]; simp; exact eq_comm
  · have e : Txt.slice (T l) (some ((n : Int) + 1)) (some ((n : Int) + 2)) = T [] := by
      rw [slice_hi _ (by omega), slice_from_beyond (by omega)]
    have e3 : l[n + 1]? = none := by simp; omega
    rw [e, e3]
    simp [endB]
theorem cAt_T {l : List Nat} {n c : Nat} (h : l[n]? = some c) : cAt (T l) (n : Int) = c ∧ Txt.item (T l) (n : Int) = T [c] := by
  have := T_item (l := l) (k := (n : Int)) rfl h
  unfold cAt
  rw [this]
  exact ⟨rfl, rfl⟩
theorem encS_T : ∀ c < 128, encS c = T [61, hX (c / 16), hX (c % 16)] := by decide +kernel
theorem in932_T (c : Nat) : in932 c = blank c := by
  unfold in932 blank
  rw [Bool.eq_iff_iff]; simp; omega
theorem in910_T (c : Nat) : in910 c = (c == 9 || c == 10) := by
  unfold in910
  rw [Bool.eq_iff_iff]; simp; omega
theorem stepSent_T {l : List Nat} {n c : Nat} (h : l[n]? = some c) (hc : c < 128) : stepSent (T l) (n : Int) = T (encLook c l[n + 1]?) := by
  have hn : n < l.length := (List.getElem?_eq_some_iff.mp h).1
  obtain ⟨e1, e2⟩ := cAt_T h
  unfold stepSent encLook
  rw [e1, e2, lastB_T hn, in932_T, encS_T c hc]
  by_cases h10 : c = 10
  · rw [if_pos (by omega), if_pos h10, h10]
  rw [if_neg (by omega), if_neg h10]
  by_cases hb : c = 9 ∨ c = 32
  · have hbl : blank c = true := by unfold blank; simp; exact hb
    rw [hbl]
    by_cases he : endB l[n + 1]? = false
    · have hcond : (c = 9 ∨ c = 32) ∧ endB l[n + 1]? = false := ⟨hb, he⟩
      rw [if_pos hcond, he]; rfl
    · have hcond : ¬ ((c = 9 ∨ c = 32) ∧ endB l[n + 1]? = false) := fun k => he k.2
      have het : endB l[n + 1]? = true := by simpa using he
      rw [if_neg hcond, het]
      show (if 32 < (c : Int) then _ else _) = _
      rw [if_neg (by omega), if_neg (by omega)]
  · have hbl : blank c = false := by unfold blank; simp; omega
    have hcond : ¬ ((c = 9 ∨ c = 32) ∧ endB l[n + 1]? = false) := fun k => hb k.1
    rw [hbl, if_neg hcond]
    show (if 32 < (c : Int) then _ else _) = _
    by_cases a1 : 32 < c
    · rw [if_pos (by omega)]
      by_cases a2 : c < 127
      · rw [if_pos (by omega)]
        by_cases a3 : c = 61
        · rw [if_pos (by omega), if_neg (by omega)]
        · rw [if_neg (by omega), if_pos (by omega)]
      · rw [if_neg (by omega), if_neg (by omega)]
    · rw [if_neg (by omega), if_neg (by omega)]
theorem sentF_T {l : List Nat} (h : AscL l) : ∀ m ≤ l.length, ∃ a, sentF (T l) m = T a ∧ a ++ sentL (l.drop m) = sentL l
  | 0, _ => ⟨[], rfl, by simp⟩
  | m + 1, hm => by
    obtain ⟨a, e1, e2⟩ := sentF_T h m (by omega)
    have hg : l[m]? = some l[m] := by simp
    have hd : l.drop m = l[m] :: l.drop (m + 1) := List.drop_eq_getElem_cons (by omega)
    refine ⟨a ++ encLook l[m] l[m + 1]?, ?_, ?_⟩
    · have : sentF (T l) (m + 1) = sentF (T l) m ++ stepSent (T l) (m : Int) := by
        unfold sentF
        rw [List.range_succ, List.foldl_append]; rfl
      rw [this, e1, stepSent_T hg (h _ (List.getElem_mem _)), T_app]
    · rw [← e2, hd, sentL, List.head?_drop, List.append_assoc]
theorem sentS_T {l : List Nat} (h : AscL l) : sentS (T l) = T (sentL l) := by
  obtain ⟨a, e1, e2⟩ := sentF_T h l.length (Nat.le_refl _)
  unfold sentS
  rw [T_len, e1, ← e2]
  simp [sentL]
theorem okE_T {l : List Nat} {n c : Nat} (h : l[n]? = some c) (hc : c < 128) : okE (T l) (n : Int) = evenC c l[n + 1]? := by
  have hn : n < l.length := (List.getElem?_eq_some_iff.mp h).1
  obtain ⟨e1, e2⟩ := cAt_T h
  unfold okE evenC
  rw [e1, lastB_T hn, in932_T, in910_T]
  unfold blank
  by_cases a1 : c = 9 ∨ c = 10
  · have : (c == 9 || c == 10) = true := by simp; exact a1
    rw [this]
    simp
  · have : (c == 9 || c == 10) = false := by simp; omega
    rw [this]
    by_cases a2 : c < 32
    · rw [if_pos (by omega)]
      have : decide (32 ≤ c) = false := by simp; exact a2
      simp [this]
    · by_cases a3 : c = 127
      · rw [if_neg (by omega), if_pos (by omega)]
        have : decide (c < 127) = false := by simp; omega
        simp [this]
      · rw [if_neg (by omega), if_neg (by omega)]
        have h1 : decide (32 ≤ c) = true := by simp; omega
        have h2 : decide (c < 127) = true := by simp; omega
        simp [h1, h2]
theorem even_all : ∀ (k : Nat) (l : List Nat), (List.range l.length).all (fun i => evenC (l.getD i 0) l[i + 1]?) = evenL l
  | _, [] => rfl
  | k, c :: r => by
    rw [List.length_cons, List.range_succ_eq_map, List.all_cons, List.all_map, evenL, ← even_all k r]
    simp [List.head?_eq_getElem?]
    rfl
theorem evenB_T {l : List Nat} (h : AscL l) : evenB (T l) = evenL l := by
  unfold evenB
  rw [T_len, ← even_all 0 l]
  have key : ∀ i ∈ List.range l.length, okE (T l) (i : Int) = evenC (l.getD i 0) l[i + 1]? := by
    intro i hi
    have hi' : i < l.length := List.mem_range.mp hi
    have e : l[i]? = some (l.getD i 0) := by simp [hi']
    refine okE_T e ?_
    have : l.getD i 0 = l[i] := by simp [hi']
    rw [this]
    exact h _ (List.getElem_mem _)
  rw [Bool.eq_iff_iff, List.all_eq_true, List.all_eq_true]
  exact ⟨fun k i hi => by rw [← key i hi]; exact k i hi, fun k i hi => by rw [key i hi]; exact k i hi⟩
end Mine
end

/-! Pw7 -/
noncomputable section
open PySem PySem.W PySem.Spec PySem.Calls PyProof.Rows
set_option maxRecDepth 100000
set_option linter.all false
namespace Mine
theorem space_small : ∀ c < 128, Unicode.isSpace c = (c == 9 || c == 10 || c == 11 || c == 12 || c == 13 || c == 28 || c == 29 || c == 30 || c == 31 || c == 32) := by decide +kernel
/-- a line without the blanks at its end -/
noncomputable def NoSpEnd (b : List Nat) : Prop := b = [] ∨ ∃ a c, b = a ++ [c] ∧ Unicode.isSpace c = false
theorem takeWhile_all {p : Nat → Bool} : ∀ {l : List Nat}, (∀ c ∈ l, p c = true) → l.takeWhile p = l
  | [], _ => rfl
  | c :: r, h => by rw [List.takeWhile_cons, if_pos (h c (List.mem_cons_self ..)), takeWhile_all fun d hd => h d (List.mem_cons_of_mem _ hd)]
theorem rstrip_T {b s : List Nat} (hb : NoSpEnd b) (hs : ∀ c ∈ s, Unicode.isSpace c = true) : Txt.rstrip (T (b ++ s)) = T b := by
  unfold Txt.rstrip
  rw [PyProof.Rows.stripBy_eq]
  have hlo : stripLo Unicode.isSpace false (T (b ++ s)) = 0 := rfl
  rw [hlo]
  have htw : ((T (b ++ s)).cps.toList.drop 0).reverse.takeWhile Unicode.isSpace = s.reverse := by
    rw [List.drop_zero, List.toList_toArray, List.reverse_append]
    have h1 : s.reverse.takeWhile Unicode.isSpace = s.reverse := takeWhile_all fun c hc => hs c (List.mem_reverse.mp hc)
    have h2 : b.reverse.takeWhile Unicode.isSpace = [] := by
      rcases hb with rfl | ⟨a, c, rfl, hc⟩
      · rfl
      · rw [List.reverse_append]; simp [hc]
    rw [List.takeWhile_append, h1, h2]
    simp
  have hhi : stripHi Unicode.isSpace true (T (b ++ s)) 0 = b.length := by
    unfold stripHi
    rw [if_pos rfl, htw, T_len]
    simp
  rw [hhi]
  refine Str.ext' (Array.toList_inj.mp ?_)
  rw [StrLaws.strSub_toList]
  simp
theorem decZ_T (a : List Nat) : decZ (T a) = T (decFrom a) := by unfold decZ; simp
inductive EncL : List Nat → List Nat → Prop
  | nil : EncL [] []
  | raw {c : Nat} {y e : List Nat} : c ≠ 61 → EncL y e → EncL (c :: y) (c :: e)
  | esc {a b : Nat} {y e : List Nat} : hexB a = true → hexB b = true → EncL y e → EncL ((hexV a * 16 + hexV b) :: y) (61 :: a :: b :: e)
theorem EncL.app {y e y' e' : List Nat} (h : EncL y e) (h' : EncL y' e') : EncL (y ++ y') (e ++ e') := by
  induction h with
  | nil => exact h'
  | raw hc _ ih => exact .raw hc ih
  | esc ha hb _ ih => exact .esc ha hb ih
theorem EncL.nil_of {y : List Nat} (h : EncL y []) : y = [] := by cases h; rfl
theorem dec_enc {y e : List Nat} (h : EncL y e) : e ≠ [] → decFrom e = y ++ [10] := by
  induction h with
  | nil => intro h; exact absurd rfl h
  | @raw c y e hc h ih =>
    intro _
    rw [decFrom_A hc]
    by_cases he : e = []
    · subst he; rw [h.nil_of, if_pos rfl]; rfl
    · rw [if_neg he, ih he]; rfl
  | @esc a b y e ha hb h ih =>
    intro _
    rw [decFrom_C ha hb]
    by_cases he : e = []
    · subst he; rw [h.nil_of, if_pos rfl]; rfl
    · rw [if_neg he, ih he]; rfl
theorem dec_line {y e : List Nat} (h : EncL y e) (hn : NoSpEnd e) {s : List Nat} (hs : ∀ c ∈ s, Unicode.isSpace c = true) : decLine (T (e ++ s)) = T (y ++ [10]) := by
  unfold decLine
  rw [rstrip_T hn hs, T_len]
  by_cases he : e = []
  · subst he; rw [h.nil_of, if_pos (show ([] : List Nat).length = 0 from rfl)]; exact nlS'
  · rw [if_neg (fun k => he (List.length_eq_zero_iff.mp k)), decZ_T, dec_enc h he]
theorem dec_line0 {y e : List Nat} (h : EncL y e) (hn : NoSpEnd e) : decLine (T e) = T (y ++ [10]) := by
  have := dec_line h hn (s := []) (fun c hc => nomatch hc)
  rwa [List.append_nil] at this
theorem hexB_hX : ∀ d < 16, hexB (hX d) = true ∧ hexV (hX d) = d := by decide
theorem enc_one {c : Nat} (hc : c < 128) (h10 : c ≠ 10) (n : Option Nat) : EncL [c] (encLook c n) := by
  have h1 := hexB_hX (c / 16) (by omega)
  have h2 := hexB_hX (c % 16) (by omega)
  unfold encLook
  rw [if_neg h10]
  split
  · exact .raw (by omega) .nil
  · split
    · exact .raw (by omega) .nil
    · have := EncL.esc h1.1 h2.1 .nil
      rw [h1.2, h2.2] at this
      have e : c / 16 * 16 + c % 16 = c := by omega
      rwa [e] at this
theorem look_nobr {c : Nat} (hc : c < 128) (h10 : c ≠ 10) (n : Option Nat) : NoBr (encLook c n) := by
  have e1 := brk_hX (d := c / 16) (by omega)
  have e2 := brk_hX (d := c % 16) (by omega)
  have e3 : Unicode.isLineBreak 61 = false := by decide +kernel
  intro d hd
  unfold encLook at hd
  rw [if_neg h10] at hd
  split at hd
  · simp at hd; subst hd; rw [brk_small _ hc]; simp; omega
  · split at hd
    · simp at hd; subst hd; rw [brk_small _ hc]; simp; omega
    · simp at hd
      rcases hd with rfl | rfl | rfl
      · exact e3
      · exact e1
      · exact e2
theorem look_end {c : Nat} (hc : c < 128) (h10 : c ≠ 10) {n : Option Nat} (hn : endB n = true) (acc : List Nat) : NoSpEnd (acc ++ encLook c n) := by
  have e2 := hX_rng (c % 16) (by omega)
  refine .inr ?_
  unfold encLook
  rw [if_neg h10, if_neg (by rw [hn]; simp)]
  split
  · exact ⟨acc, c, rfl, by rw [space_small _ hc]; simp; omega⟩
  · exact ⟨acc ++ [61, hX (c / 16)], hX (c % 16), by simp, by rw [space_small _ (by omega)]; simp; omega⟩
theorem decUp_T_cons (a : List Nat) (r : List (List Nat)) : ∀ z : List Nat, decLine (T a) = T z → decUp ((a :: r).map T) = T z ++ decUp (r.map T) := by
  intro z hz
  have h : ∀ (ls : List Str) (acc : Str), ls.foldl (fun acc y => acc ++ decLine y) acc = acc ++ ls.foldl (fun acc y => acc ++ decLine y) (Str.ofString "") := by
    intro ls
    induction ls with
    | nil => intro acc; rw [emptyS]; refine Str.ext' ?_; rw [List.foldl_nil, List.foldl_nil, Str.cps_append]; simp
    | cons y r ih =>
      intro acc
      rw [List.foldl_cons, List.foldl_cons, ih, ih (Str.ofString "" ++ decLine y), ← Str.append_assoc, ← Str.append_assoc]
      congr 2
  unfold decUp
  rw [List.map_cons, List.foldl_cons, h, hz]
  rw [emptyS, T_app [] z]; rfl
noncomputable def nlEnd (acc y : List Nat) : List Nat := match y.getLast? with
  | some c => if c = 10 then [] else [10]
  | none => if acc = [] then [] else [10]
theorem dec_sent : ∀ (y accY accE : List Nat), AscL y → 13 ∉ y → EncL accY accE → (endB y.head? = true → NoSpEnd accE) →
    decUp ((linesL false accE (sentL y)).map T) = T (accY ++ y ++ nlEnd accE y)
  | [], accY, accE, _, _, h, hn => by
    show decUp ((linesL false accE []).map T) = _
    rw [linesL]
    by_cases he : accE = []
    · subst he
      rw [if_pos rfl, h.nil_of]
      exact emptyS
    · rw [if_neg he, decUp_T_cons accE [] _ (dec_line0 h (hn rfl))]
      have : nlEnd accE [] = [10] := by unfold nlEnd; simp [he]
      rw [this, List.append_nil]
      show T (accY ++ [10]) ++ Str.ofString "" = _
      rw [emptyS, T_app (accY ++ [10]) []]
      simp
  | c :: r, accY, accE, hy, h13, h, hn => by
    have hc : c < 128 := hy c (List.mem_cons_self ..)
    have hr : AscL r := fun d hd => hy d (List.mem_cons_of_mem _ hd)
    have h13' : 13 ∉ r := fun e => h13 (List.mem_cons_of_mem _ e)
    by_cases h10 : c = 10
    · subst h10
      rw [sentL_10, linesL, if_pos brk_10]
      have e1 : ((10 : Nat) == 13 && (sentL r).head? == some 10) = false := rfl
      rw [e1, decUp_T_cons accE _ _ (dec_line0 h (hn rfl)), dec_sent r [] [] hr h13' .nil (fun _ => .inl rfl), T_app (accY ++ [10]) ([] ++ r ++ nlEnd [] r)]
      have : nlEnd accE (10 :: r) = nlEnd [] r := by
        unfold nlEnd
        cases r with
        | nil => rfl
        | cons d s => simp [List.getLast?_cons]
      rw [this]
      simp
    · rw [sentL, linesL_app (look_nobr hc h10 _), dec_sent r (accY ++ [c]) (accE ++ encLook c r.head?) hr h13' (h.app (enc_one hc h10 _)) (fun k => look_end hc h10 k _)]
      have : nlEnd (accE ++ encLook c r.head?) r = nlEnd accE (c :: r) := by
        unfold nlEnd
        cases r with
        | nil =>
          obtain ⟨d, s, e, _⟩ := encLook_head c ([] : List Nat).head?
          rw [e]
          simp [h10]
        | cons d s => simp [List.getLast?_cons]
      rw [this]
      simp
theorem ends_nl (a : List Nat) : Txt.endswith (T (a ++ [10])) (Str.ofString "\n") = true := by
  rw [nlS']
  have h := (StrLaws.subAt_one (T (a ++ [10])) 10 a.length).mpr (by simp)
  unfold Txt.endswith
  have e1 : (T [10]).length = 1 := rfl
  have e2 : (T (a ++ [10])).length = a.length + 1 := by rw [T_len]; simp
  rw [e1, e2, Bool.and_eq_true]
  exact ⟨by simp, h.2⟩
theorem cut_nl (a : List Nat) (c : Nat) : Txt.slice (T (a ++ [c])) none (some (-1)) = T a := by
  have e2 : (T (a ++ [c])).length = a.length + 1 := by rw [T_len]; simp
  have h := StrLaws.sliceText_to_neg (x := T (a ++ [c])) (j := -1) (by omega) (by omega)
  show StrLaws.sliceText _ _ _ = _
  rw [h, e2]
  refine Str.ext' ?_
  have e : (-1 + ((a.length + 1 : Nat) : Int) - 0).toNat = a.length := by omega
  rw [e]
  simp
end Mine
end

/-! Pw8 -/
noncomputable section
open PySem PySem.W PySem.Spec PySem.Calls PyProof.Rows
set_option maxRecDepth 100000
set_option linter.all false
namespace Mine
theorem sentL_snoc (c : Nat) : ∀ a : List Nat, ∃ b, sentL (a ++ [c]) = b ++ encLook c none
  | [] => ⟨[], by simp [sentL]⟩
  | d :: r => by
    obtain ⟨b, e⟩ := sentL_snoc c r
    exact ⟨encLook d (r ++ [c]).head? ++ b, by rw [List.cons_append, sentL, e, List.append_assoc]⟩
theorem look_last {c : Nat} (hc : c < 128) (h13 : c ≠ 13) : ∃ s d, encLook c none = s ++ [d] ∧ d ≠ 13 ∧ (d = 10 ↔ c = 10) := by
  have e2 := hX_rng (c % 16) (by omega)
  unfold encLook
  split
  · exact ⟨[], 10, rfl, by decide, by simp; omega⟩
  · rename_i h
    rw [if_neg (by simp [endB])]
    split
    · exact ⟨[], c, rfl, h13, Iff.rfl⟩
    · exact ⟨[61, hX (c / 16)], hX (c % 16), rfl, by omega, by omega⟩
theorem occ_last (b : List Nat) (d : Nat) : noOcc (Str.ofString "\x0d\n") (Txt.item (T (b ++ [d])) (-1)) = !(d == 13 || d == 10) := by
  rw [item_last, noOcc_one, crlfS]
  rw [Bool.eq_iff_iff]; simp
theorem decode_sent {y : List Nat} (hy : AscL y) (h13 : 13 ∉ y) : decodeS (T (sentL y)) = T y := by
  rcases List.eq_nil_or_concat y with rfl | ⟨a, c, e⟩
  · rfl
  · rw [List.concat_eq_append] at e
    have hc : c < 128 := hy c (by rw [e]; simp)
    have hc13 : c ≠ 13 := fun k => h13 (by rw [e, k]; simp)
    obtain ⟨b, eb⟩ := sentL_snoc c a
    obtain ⟨s, d, es, hd13, hd10⟩ := look_last hc hc13
    have el : sentL y = (b ++ s) ++ [d] := by rw [e, eb, es, List.append_assoc]
    have hD : decUp (Txt.lines (T (sentL y))) = T (y ++ nlEnd [] y) := by
      rw [lines_T, dec_sent y [] [] hy h13 .nil (fun _ => .inl rfl)]; rfl
    have hn : nlEnd [] y = if c = 10 then [] else [10] := by unfold nlEnd; rw [e]; simp
    have hne : (T (sentL y)).length ≠ 0 := by rw [T_len, el]; simp
    unfold decodeS
    rw [if_neg hne, hD, hn]
    have hocc : noOcc (Str.ofString "\x0d\n") (Txt.item (T (sentL y)) (-1)) = !(d == 13 || d == 10) := by rw [el]; exact occ_last _ _
    rw [hocc]
    by_cases h10 : c = 10
    · have : (d == 13 || d == 10) = true := by simp; exact .inr (hd10.mpr h10)
      rw [this, if_pos h10]
      simp
    · have hd : d ≠ 10 := fun k => h10 (hd10.mp k)
      have : (d == 13 || d == 10) = false := by simp; exact ⟨hd13, hd⟩
      rw [this, if_neg h10, ends_nl]
      exact cut_nl y 10
/-- '=' as it stands after the change of letters -/
noncomputable def eqX (l : List Nat) : List Nat := l.flatMap fun c => if c = 61 then [61, 51, 100, 51, 68] else [c]
theorem eqX_cons (c : Nat) (r : List Nat) : eqX (c :: r) = (if c = 61 then [61, 51, 100, 51, 68] else [c]) ++ eqX r := by simp [eqX]
theorem encX : ∀ z : List Nat, EncL (eqE z) (eqX z)
  | [] => .nil
  | c :: r => by
    rw [eqX_cons, eqE_cons]
    unfold eqC
    by_cases h : c = 61
    · rw [if_pos h, if_pos h]
      refine EncL.app ?_ (encX r)
      exact EncL.esc (a := 51) (b := 100) (by decide) (by decide) (.raw (by decide) (.raw (by decide) .nil))
    · rw [if_neg h, if_neg h]
      exact EncL.app (.raw h .nil) (encX r)
theorem eqX_nobr : ∀ {z : List Nat}, Pr z → NoBr (eqX z)
  | [], _ => fun c h => nomatch h
  | c :: r, h => by
    have hc := h c (List.mem_cons_self ..)
    have e : ∀ d ∈ [61, 51, 100, 51, 68], Unicode.isLineBreak d = false := by decide +kernel
    intro d hd
    rw [eqX_cons] at hd
    rcases List.mem_append.mp hd with hd | hd
    · split at hd
      · exact e d hd
      · rw [List.mem_singleton.mp hd, brk_small c (by omega)]; simp; omega
    · exact eqX_nobr (fun x hx => h x (List.mem_cons_of_mem _ hx)) d hd
theorem decode_told {a : List Nat} {q : Nat} (hz : Pr (a ++ [q])) (hq : 33 ≤ q) (h61 : q ≠ 61) : decodeS (T (eqX (a ++ [q]) ++ [9, 32])) = T (eqE (a ++ [q])) := by
  have hqq := hz q (by simp)
  have eX : eqX (a ++ [q]) = eqX a ++ [q] := by simp [eqX, h61]
  have hnb : NoBr (eqX (a ++ [q]) ++ [9, 32]) := by
    intro d hd
    rcases List.mem_append.mp hd with hd | hd
    · exact eqX_nobr hz d hd
    · have e : ∀ d ∈ [9, 32], Unicode.isLineBreak d = false := by decide +kernel
      exact e d hd
  have hl : linesL false [] (eqX (a ++ [q]) ++ [9, 32]) = [eqX (a ++ [q]) ++ [9, 32]] := by
    have := linesL_app hnb [] []
    rw [List.append_nil, List.nil_append] at this
    rw [this, linesL, if_neg (by simp)]
  have hend : NoSpEnd (eqX (a ++ [q])) := .inr ⟨eqX a, q, eX, by rw [space_small _ (by omega)]; simp; omega⟩
  have hs : ∀ c ∈ [9, 32], Unicode.isSpace c = true := by decide +kernel
  have hD : decUp (Txt.lines (T (eqX (a ++ [q]) ++ [9, 32]))) = T (eqE (a ++ [q]) ++ [10]) := by
    rw [lines_T, hl, decUp_T_cons _ [] _ (dec_line (encX _) hend hs)]
    show _ ++ Str.ofString "" = _
    rw [emptyS, T_app (eqE (a ++ [q]) ++ [10]) []]; simp
  have hne : (T (eqX (a ++ [q]) ++ [9, 32])).length ≠ 0 := by rw [T_len]; simp
  unfold decodeS
  rw [if_neg hne, hD, ends_nl]
  have hocc : noOcc (Str.ofString "\x0d\n") (Txt.item (T (eqX (a ++ [q]) ++ [9, 32])) (-1)) = true := by
    have := occ_last (eqX (a ++ [q]) ++ [9]) 32
    rw [List.append_assoc] at this
    exact this
  rw [hocc]
  exact cut_nl (eqE (a ++ [q])) 10
theorem norm_no13 : ∀ l : List Nat, 13 ∉ normL l
  | [] => by simp [normL]
  | [c] => by simp [normL]; split <;> omega
  | c :: d :: r => by
    have h1 := norm_no13 (d :: r)
    have h2 := norm_no13 r
    rw [normL]
    split
    · split
      · simp [h2]
      · simp [h1]
    · rename_i h
      simp [h1]; exact fun e => h e.symm
end Mine
end

/-! Pw9 -/
noncomputable section
open PySem PySem.W PySem.Spec PySem.Calls PyProof.Rows
set_option maxRecDepth 100000
set_option linter.all false
namespace Mine
noncomputable def occStep (s sub : Str) (hi limit : Nat) (st : Array Nat × Nat) (i : Nat) : Array Nat × Nat :=
  if ((st.1.size < limit ∧ st.2 ≤ i) ∧ i + sub.length ≤ hi) ∧ Builtin.Str.subAt s sub i = true then (st.1.push i, i + sub.length) else st
theorem occ_fold (s sub : Str) (hi limit : Nat) : ∀ (l : List Nat) (st : Array Nat × Nat), (forIn (m := Id) l st (StrLaws.occBody s sub hi limit)).run = l.foldl (occStep s sub hi limit) st
  | [], st => rfl
  | i :: r, st => by
    rw [List.foldl_cons, List.forIn_cons]
    unfold StrLaws.occBody occStep
    split
    · exact occ_fold s sub hi limit r _
    · exact occ_fold s sub hi limit r _
noncomputable def occL (p : List Nat) : Nat → Nat → List Nat → List Nat
  | _, _, [] => []
  | i, free, c :: r => if free ≤ i ∧ (c :: r).take p.length = p then i :: occL p (i + 1) (i + p.length) r else occL p (i + 1) free r
noncomputable def replL (p z : List Nat) : Nat → List Nat → List Nat
  | _, [] => []
  | k + 1, _ :: r => replL p z k r
  | 0, c :: r => if (c :: r).take p.length = p then z ++ replL p z (p.length - 1) r else c :: replL p z 0 r
theorem occ_run (l p : List Nat) (hp : p ≠ []) : ∀ (r : List Nat) (i : Nat) (A : Array Nat) (free : Nat), l.drop i = r → i ≤ l.length → A.size ≤ i →
    ((List.range' i (r.length + 1)).foldl (occStep (T l) (T p) l.length (l.length + 1)) (A, free)).1.toList = A.toList ++ occL p i free r
  | [], i, A, free, hr, hi, hA => by
    have hlen : l.length = i := by
      have := congrArg List.length hr
      rw [List.length_drop] at this
      simp at this
      omega
    have hpl : 1 ≤ p.length := by cases p with | nil => exact absurd rfl hp | cons a b => simp
    have e1 : List.range' i (([] : List Nat).length + 1) = [i] := rfl
    have e2 : occStep (T l) (T p) l.length (l.length + 1) (A, free) i = (A, free) := by
      unfold occStep
      rw [if_neg]
      intro k
      have := k.1.2
      rw [T_len] at this
      omega
    rw [e1, List.foldl_cons, List.foldl_nil, e2]
    simp [occL]
  | c :: r, i, A, free, hr, hi, hA => by
    have hlt : i < l.length := by
      have := congrArg List.length hr
      rw [List.length_drop] at this
      simp at this
      omega
    have hr' : l.drop (i + 1) = r := by rw [← List.drop_drop, hr]; rfl
    rw [List.length_cons, List.range'_succ, List.foldl_cons]
    have hsub : Builtin.Str.subAt (T l) (T p) i = decide ((c :: r).take p.length = p) := by
      rw [StrLaws.subAt_eq, List.toList_toArray, List.toList_toArray, hr, T_len, Bool.eq_iff_iff]
      simp
    have hle : (c :: r).take p.length = p → i + p.length ≤ l.length := by
      intro h
      have h1 := congrArg List.length h
      have h2 := congrArg List.length hr
      rw [List.length_take] at h1
      rw [List.length_drop] at h2
      omega
    by_cases hc : free ≤ i ∧ (c :: r).take p.length = p
    · have e2 : occStep (T l) (T p) l.length (l.length + 1) (A, free) i = (A.push i, i + p.length) := by
        unfold occStep
        rw [if_pos, T_len]
        refine ⟨⟨⟨by show A.size < _; omega, hc.1⟩, by rw [T_len]; exact hle hc.2⟩, ?_⟩
        rw [hsub]; exact decide_eq_true hc.2
      rw [e2, occ_run l p hp r (i + 1) (A.push i) (i + p.length) hr' (by omega) (by simp; omega), occL, if_pos hc]
      simp
    · have e2 : occStep (T l) (T p) l.length (l.length + 1) (A, free) i = (A, free) := by
        unfold occStep
        rw [if_neg]
        intro k
        have k2 := k.2
        rw [hsub] at k2
        exact hc ⟨k.1.1.2, of_decide_eq_true k2⟩
      rw [e2, occ_run l p hp r (i + 1) A free hr' (by omega) (by omega), occL, if_neg hc]
theorem occ_T (l p : List Nat) (hp : p ≠ []) : Builtin.Str.occurrences (T l) (T p) 0 (T l).length ((T l).length + 1) = occL p 0 0 l := by
  rw [StrLaws.occ_eq, T_len]
  have := occ_run l p hp l 0 #[] 0 rfl (Nat.zero_le _) (Nat.zero_le _)
  rw [occ_fold]
  simpa using this
noncomputable def gapL (l z : List Nat) (w : Nat) : Nat → List Nat → List Nat
  | a, [] => l.drop a
  | a, c :: r => (l.drop a).take (c - a) ++ z ++ gapL l z w (c + w) r
theorem gap_T (l z : List Nat) (w : Nat) : ∀ (cuts : List Nat) (a : Nat), Str.join (T z) (StrLaws.partsFrom (T l) w a cuts) = T (gapL l z w a cuts)
  | [], a => by
    show Builtin.Str.strSub (T l) a (T l).length = _
    refine Str.ext' (Array.toList_inj.mp ?_)
    rw [StrLaws.strSub_toList, T_len, List.toList_toArray, gapL, List.toList_toArray, List.take_of_length_le]
    rw [List.length_drop]; omega
  | c :: r, a => by
    have ih := gap_T l z w r (c + w)
    obtain ⟨p, s, e⟩ := StrLaws.partsFrom_ne (T l) w (c + w) r
    have hs : Builtin.Str.strSub (T l) a c = T ((l.drop a).take (c - a)) := by
      refine Str.ext' (Array.toList_inj.mp ?_)
      rw [StrLaws.strSub_toList]
    show Str.join (T z) (Builtin.Str.strSub (T l) a c :: StrLaws.partsFrom (T l) w (c + w) r) = _
    rw [e] at ih ⊢
    show Builtin.Str.strSub (T l) a c ++ T z ++ Str.join (T z) (p :: s) = _
    rw [ih, hs, T_app _ z, T_app _ (gapL l z w (c + w) r)]
    rfl
theorem gap_repl (l p z : List Nat) (hp : p ≠ []) : ∀ (r : List Nat) (i free : Nat), l.drop i = r → i ≤ l.length → gapL l z p.length free (occL p i free r) = (l.drop free).take (i - free) ++ replL p z (free - i) r
  | [], i, free, hr, hi => by
    have hlen : l.length = i := by
      have := congrArg List.length hr
      rw [List.length_drop] at this
      simp at this
      omega
    have e : replL p z (free - i) [] = [] := by cases free - i <;> rfl
    rw [occL, gapL, e, List.append_nil, List.take_of_length_le]
    rw [List.length_drop]; omega
  | c :: r, i, free, hr, hi => by
    have hlt : i < l.length := by
      have := congrArg List.length hr
      rw [List.length_drop] at this
      simp at this
      omega
    have hr' : l.drop (i + 1) = r := by rw [← List.drop_drop, hr]; rfl
    have hci : l[i]? = some c := by
      have : (l.drop i)[0]? = some c := by rw [hr]; rfl
      simpa using this
    have hpl : 1 ≤ p.length := by cases p with | nil => exact absurd rfl hp | cons a b => simp
    rw [occL]
    by_cases hf : free ≤ i
    · have e0 : free - i = 0 := by omega
      rw [e0]
      by_cases hm : (c :: r).take p.length = p
      · rw [if_pos ⟨hf, hm⟩, gapL, gap_repl l p z hp r (i + 1) (i + p.length) hr' (by omega), replL, if_pos hm]
        have e1 : i + 1 - (i + p.length) = 0 := by omega
        have e2 : i + p.length - (i + 1) = p.length - 1 := by omega
        rw [e1, e2]
        simp
      · rw [if_neg (fun k => hm k.2), gap_repl l p z hp r (i + 1) free hr' (by omega), replL, if_neg hm]
        have e1 : free - (i + 1) = 0 := by omega
        have e2 : i + 1 - free = (i - free) + 1 := by omega
        rw [e1, e2, List.take_add_one, List.getElem?_drop, show free + (i - free) = i by omega, hci]
        simp
    · rw [if_neg (fun k => hf k.1), gap_repl l p z hp r (i + 1) free hr' (by omega)]
      have e1 : free - i = (free - (i + 1)) + 1 := by omega
      have e2 : i + 1 - free = 0 := by omega
      have e3 : i - free = 0 := by omega
      rw [e1, e2, e3, replL]
      first | done | simp
theorem replace_T (l p z : List Nat) (hp : p ≠ []) : Txt.replace (T l) (T p) (T z) = T (replL p z 0 l) := by
  have hg := gap_repl l p z hp l 0 0 rfl (Nat.zero_le _)
  have hpl : ((T p).length == 0) = false := by rw [T_len]; simp; exact hp
  unfold Txt.replace
  rw [occ_T l p hp, hpl, Bool.false_and, Bool.or_false]
  cases ho : (occL p 0 0 l).isEmpty with
  | true =>
    rw [if_pos rfl]
    have : occL p 0 0 l = [] := by simpa using ho
    rw [this] at hg
    simp only [gapL, List.drop_zero, Nat.sub_zero, List.take_zero, List.nil_append] at hg
    rw [← hg]
  | false =>
    rw [if_neg (by simp), StrLaws.glued_eq_join, StrLaws.partsBetween_eq, T_len, gap_T, hg]
    simp
theorem replL_yes {p z : List Nat} {c : Nat} {r : List Nat} (h : (c :: r).take p.length = p) : replL p z 0 (c :: r) = z ++ replL p z (p.length - 1) r := by rw [replL, if_pos h]
theorem replL_no {p z : List Nat} {c : Nat} {r : List Nat} (h : ¬ (c :: r).take p.length = p) : replL p z 0 (c :: r) = c :: replL p z 0 r := by rw [replL, if_neg h]
theorem r13 (r : List Nat) : replL [13] [10] 0 (13 :: r) = 10 :: replL [13] [10] 0 r := replL_yes (p := [13]) (z := [10]) (c := 13) (r := r) rfl
theorem r13n {c : Nat} (r : List Nat) (h : c ≠ 13) : replL [13] [10] 0 (c :: r) = c :: replL [13] [10] 0 r := replL_no (p := [13]) (z := [10]) (c := c) (r := r) (fun k => h (List.cons.inj k).1)
theorem r61n {c : Nat} (r : List Nat) (h : c ≠ 61) : replL [61, 51, 68] [61, 51, 100] 0 (c :: r) = c :: replL [61, 51, 68] [61, 51, 100] 0 r := replL_no (p := [61, 51, 68]) (z := [61, 51, 100]) (c := c) (r := r) (fun k => h (List.cons.inj k).1)
theorem norm_repl : ∀ (k : Nat) (l : List Nat), l.length ≤ k → replL [13] [10] 0 (replL [13, 10] [10] 0 l) = normL l
  | _, [], _ => rfl
  | _, [c], _ => by
    have h1 : replL [13, 10] [10] 0 [c] = [c] := replL_no (p := [13, 10]) (z := [10]) (c := c) (r := []) (fun k => by have := congrArg List.length k; simp at this)
    rw [h1, normL]
    by_cases h : c = 13
    · subst h; rfl
    · rw [r13n [] h, if_neg h]; rfl
  | 0, c :: d :: r, h => by simp at h
  | k + 1, c :: d :: r, h => by
    have ih1 := norm_repl k (d :: r) (by simpa using h)
    have ih2 := norm_repl k r (by simp at h; omega)
    rw [normL]
    by_cases hc : c = 13
    · subst hc
      rw [if_pos rfl]
      by_cases hd : d = 10
      · subst hd
        rw [if_pos rfl]
        have e : replL [13, 10] [10] 0 (13 :: 10 :: r) = 10 :: replL [13, 10] [10] 0 r := replL_yes (p := [13, 10]) (z := [10]) (c := 13) (r := 10 :: r) rfl
        rw [e, r13n _ (by decide), ih2]
      · rw [if_neg hd]
        have e : replL [13, 10] [10] 0 (13 :: d :: r) = 13 :: replL [13, 10] [10] 0 (d :: r) := replL_no (p := [13, 10]) (z := [10]) (c := 13) (r := d :: r) (fun k => hd (List.cons.inj (List.cons.inj k).2).1)
        rw [e, r13, ih1]
    · rw [if_neg hc]
      have e : replL [13, 10] [10] 0 (c :: d :: r) = c :: replL [13, 10] [10] 0 (d :: r) := replL_no (p := [13, 10]) (z := [10]) (c := c) (r := d :: r) (fun k => hc (List.cons.inj k).1)
      rw [e, r13n _ hc, ih1]
theorem eqx_repl : ∀ z : List Nat, replL [61, 51, 68] [61, 51, 100] 0 (eqE (eqE z)) = eqX z
  | [] => rfl
  | c :: r => by
    have ih := eqx_repl r
    rw [eqX_cons]
    by_cases h : c = 61
    · subst h
      rw [if_pos rfl]
      have e : eqE (eqE (61 :: r)) = 61 :: 51 :: 68 :: 51 :: 68 :: eqE (eqE r) := by rw [eqE_cons, eqE_app]; rfl
      have e2 : replL [61, 51, 68] [61, 51, 100] 0 (61 :: 51 :: 68 :: 51 :: 68 :: eqE (eqE r)) = [61, 51, 100] ++ replL [61, 51, 68] [61, 51, 100] 0 (51 :: 68 :: eqE (eqE r)) := replL_yes (p := [61, 51, 68]) (z := [61, 51, 100]) (c := 61) (r := 51 :: 68 :: 51 :: 68 :: eqE (eqE r)) rfl
      have e3 : replL [61, 51, 68] [61, 51, 100] 0 (51 :: 68 :: eqE (eqE r)) = 51 :: 68 :: replL [61, 51, 68] [61, 51, 100] 0 (eqE (eqE r)) := by
        rw [r61n _ (by decide), r61n _ (by decide)]
      rw [e, e2, e3, ih]; rfl
    · rw [if_neg h]
      have e : eqE (eqE (c :: r)) = c :: eqE (eqE r) := by
        rw [eqE_cons, eqE_app]
        have : eqC c = [c] := by unfold eqC; rw [if_neg h]
        rw [this]
        have h2 : eqE [c] = [c] := by unfold eqE; simp [eqC, h]
        rw [h2]; rfl
      rw [e, r61n _ h, ih]; rfl
end Mine
end

/-! Pw10 -/
noncomputable section
open PySem PySem.W PySem.Spec PySem.Calls PyProof.Rows
set_option maxRecDepth 100000
set_option linter.all false
namespace Mine
/-- the most a sign can grow to under t tellings and w sendings -/
noncomputable def pot (t w c : Nat) : Nat := if c = 61 then 1 + 2 * w else if c = 34 ∨ c = 39 ∨ c = 92 then 2 ^ t else if 33 ≤ c ∧ c < 127 then 1 else max (if t = 0 then 1 else 2 ^ (t - 1) + 3) (1 + 2 * w)
noncomputable def potL (t w : Nat) (l : List Nat) : Nat := (l.map (pot t w)).sum
theorem potL_cons (t w c : Nat) (l : List Nat) : potL t w (c :: l) = pot t w c + potL t w l := by simp [potL]
theorem potL_app (t w : Nat) (a b : List Nat) : potL t w (a ++ b) = potL t w a + potL t w b := by simp [potL]
theorem pot_tell : ∀ t < 2, ∀ w < 4, ∀ c < 128, potL t w (tellC 34 c) ≤ pot (t + 1) w c ∧ potL t w (tellC 39 c) ≤ pot (t + 1) w c := by decide +kernel
theorem pot_look : ∀ t < 3, ∀ w < 3, ∀ c < 128, potL t w (encLook c none) ≤ pot t (w + 1) c ∧ potL t w (encLook c (some 97)) ≤ pot t (w + 1) c := by decide +kernel
theorem pot_enc : ∀ t < 3, ∀ w < 3, ∀ c < 128, (encL c).length ≤ pot t (w + 1) c := by decide +kernel
theorem pot_one : ∀ t < 3, ∀ w < 4, ∀ c < 128, 1 ≤ pot t w c := by decide +kernel
theorem pot_norm : ∀ t < 3, ∀ w < 4, pot t w 10 ≤ pot t w 13 := by decide +kernel
theorem pot_top : ∀ c < 128, pot 2 3 c ≤ 7 := by decide +kernel
theorem body_pot {t w q : Nat} (ht : t < 2) (hw : w < 4) (hq : q = 34 ∨ q = 39) : ∀ l, AscL l → potL t w (body q l) ≤ potL (t + 1) w l
  | [], _ => Nat.le_refl _
  | c :: r, h => by
    have ih := body_pot ht hw hq r fun d hd => h d (List.mem_cons_of_mem _ hd)
    have hc := pot_tell t ht w hw c (h c (List.mem_cons_self ..))
    rw [body_cons, potL_app, potL_cons]
    rcases hq with rfl | rfl
    · omega
    · omega
theorem tell_pot {t w : Nat} (ht : t < 2) (hw : w < 4) {l : List Nat} (h : AscL l) : potL t w (tell l) ≤ potL (t + 1) w l + 2 * 2 ^ t := by
  have hq := qL_ways l
  have hb := body_pot ht hw hq l h
  have e : pot t w (qL l) = 2 ^ t := by unfold pot; rw [if_neg (by omega), if_pos (by omega)]
  have e0 : potL t w [] = 0 := rfl
  unfold tell tellQ
  rw [potL_cons, potL_app, potL_cons, e, e0]
  omega
theorem look_two (c : Nat) (n : Option Nat) : encLook c n = encLook c none ∨ encLook c n = encLook c (some 97) := by
  unfold encLook
  cases h : endB n with
  | true => left; rfl
  | false => right; rfl
theorem sent_pot {t w : Nat} (ht : t < 3) (hw : w < 3) : ∀ {l : List Nat}, AscL l → potL t w (sentL l) ≤ potL t (w + 1) l
  | [], _ => Nat.le_refl _
  | c :: r, h => by
    have ih := sent_pot ht hw (l := r) fun d hd => h d (List.mem_cons_of_mem _ hd)
    have hc := pot_look t ht w hw c (h c (List.mem_cons_self ..))
    rw [sentL, potL_app, potL_cons]
    rcases look_two c r.head? with e | e
    · rw [e]; omega
    · rw [e]; omega
theorem norm_pot {t w : Nat} (ht : t < 3) (hw : w < 4) : ∀ (k : Nat) (l : List Nat), l.length ≤ k → potL t w (normL l) ≤ potL t w l
  | _, [], _ => Nat.le_refl _
  | _, [c], _ => by
    have := pot_norm t ht w hw
    rw [normL]
    split
    · rename_i h; subst h; simpa [potL] using this
    · exact Nat.le_refl _
  | 0, c :: d :: r, h => by simp at h
  | k + 1, c :: d :: r, h => by
    have h1 := norm_pot ht hw k (d :: r) (by simpa using h)
    have h2 := norm_pot ht hw k r (by simp at h; omega)
    have := pot_norm t ht w hw
    rw [normL]
    simp only [potL_cons] at h1 ⊢
    split
    · rename_i hc
      subst hc
      split
      · rename_i hd; subst hd; rw [potL_cons]; omega
      · rw [potL_cons]; omega
    · rw [potL_cons]; omega
theorem len_pot {t w : Nat} (ht : t < 3) (hw : w < 4) : ∀ {l : List Nat}, AscL l → l.length ≤ potL t w l
  | [], _ => Nat.zero_le _
  | c :: r, h => by
    have ih := len_pot ht hw (l := r) fun d hd => h d (List.mem_cons_of_mem _ hd)
    have := pot_one t ht w hw c (h c (List.mem_cons_self ..))
    rw [List.length_cons, potL_cons]; omega
theorem enc_pot {t w : Nat} (ht : t < 3) (hw : w < 3) : ∀ {l : List Nat}, AscL l → (encT l).length ≤ potL t (w + 1) l
  | [], _ => Nat.zero_le _
  | c :: r, h => by
    have ih := enc_pot ht hw (l := r) fun d hd => h d (List.mem_cons_of_mem _ hd)
    have := pot_enc t ht w hw c (h c (List.mem_cons_self ..))
    rw [encT_cons, List.length_append, potL_cons]; omega
/-- where the laying stands: t tellings, w sendings (and one to spare) may come -/
structure Stg (t w B : Nat) (y : List Nat) : Prop where
  asc : AscL y
  ne : y ≠ []
  le : potL t (w + 1) y ≤ B
theorem Stg.ok {t w B : Nat} {y : List Nat} (h : Stg t w B y) (ht : t < 3) (hw : w < 3) (hB : B ≤ 74) : LaidOk (T y) := by
  have h1 := len_pot ht (by omega : w + 1 < 4) h.asc
  have h2 := enc_pot ht hw h.asc
  have h3 := h.le
  refine ⟨fun c hc => h.asc c (by simpa using hc), ?_, ?_, ?_⟩
  · rw [T_len]; exact fun e => h.ne (List.length_eq_zero_iff.mp e)
  · rw [T_len]; omega
  · rw [List.toList_toArray]; omega
theorem Stg.t {t w B : Nat} {y : List Nat} (h : Stg (t + 1) w B y) (ht : t < 2) (hw : w < 3) (hB : B + 2 * 2 ^ t < 80) : Stg t w (B + 2 * 2 ^ t) (tell y) ∧ reprShort (T y) = T (tell y) := by
  have h1 := tell_pot (w := w + 1) ht (by omega) h.asc
  have h3 := h.le
  have h4 : Stg t w (B + 2 * 2 ^ t) (tell y) := ⟨(tell_pr h.asc).asc, by unfold tell tellQ; simp, by omega⟩
  refine ⟨h4, ?_⟩
  have h5 := len_pot (by omega : t < 3) (by omega : w + 1 < 4) h4.asc
  have h6 := h4.le
  unfold reprShort
  rw [reprText_T h.asc, T_len, if_pos (by omega)]
theorem sentL_ne {l : List Nat} (h : l ≠ []) : sentL l ≠ [] := by
  cases l with
  | nil => exact absurd rfl h
  | cons c r => obtain ⟨d, s, e, _⟩ := encLook_head c r.head?; rw [sentL, e]; simp
theorem normL_ne {l : List Nat} (h : l ≠ []) : normL l ≠ [] := by
  match l, h with
  | [c], _ => simp [normL]
  | c :: d :: r, _ => rw [normL]; split; · split <;> simp
                      · simp
theorem Stg.w {t w B : Nat} {y : List Nat} (h : Stg t (w + 1) B y) (ht : t < 3) (hw : w < 2) : Stg t w B (sentL (normL y)) ∧ bodyX (T y) = T (sentL (normL y)) := by
  have h1 := norm_pot (t := t) (w := w + 1 + 1) ht (by omega) _ y (Nat.le_refl _)
  have h2 := sent_pot (t := t) (w := w + 1) ht (by omega) (norm_asc h.asc)
  have h3 := h.le
  exact ⟨⟨sent_asc (norm_asc h.asc), sentL_ne (normL_ne h.ne), by omega⟩, bodyX_T h.asc h.ne⟩
theorem stg_start {x : List Nat} (h : AscL x) (hn : x.length = 6) : Stg 2 2 42 x := by
  refine ⟨h, by intro e; rw [e] at hn; simp at hn, ?_⟩
  have : ∀ l : List Nat, AscL l → potL 2 3 l ≤ 7 * l.length := by
    intro l
    induction l with
    | nil => intro _; exact Nat.le_refl _
    | cons c r ih =>
      intro hl
      have := ih fun d hd => hl d (List.mem_cons_of_mem _ hd)
      have := pot_top c (hl c (List.mem_cons_self ..))
      rw [potL_cons, List.length_cons]; omega
  have := this x h
  show potL 2 3 x ≤ 42
  omega
theorem is_t : ((⟨#[116]⟩ : Str) == Str.ofString "t") = true := by decide +kernel
theorem is_w : ((⟨#[119]⟩ : Str) == Str.ofString "t") = false := by decide +kernel
theorem step_t (y : Str) : laidStep y 116 = reprShort y := by unfold laidStep; rw [is_t]; rfl
theorem step_w (y : Str) : laidStep y 119 = bodyX y := by unfold laidStep; rw [is_w]; rfl
/-- the texts after each step -/
noncomputable def chainL (x : List Nat) : List Nat → List (List Nat)
  | [] => [x]
  | c :: r => x :: chainL (if c = 116 then tell x else sentL (normL x)) r
noncomputable def endL (x : List Nat) : List Nat → List Nat
  | [] => x
  | c :: r => endL (if c = 116 then tell x else sentL (normL x)) r
/-- t tellings and w sendings at most are in the order -/
noncomputable def fitsO : Nat → Nat → List Nat → Prop
  | _, _, [] => True
  | t, w, c :: r => (c = 116 ∧ ∃ t', t = t' + 1 ∧ fitsO t' w r) ∨ (c = 119 ∧ ∃ w', w = w' + 1 ∧ fitsO t w' r)
theorem laid_chain : ∀ (o : List Nat) (t w B : Nat) (x : List Nat), t ≤ 2 → w ≤ 2 → B + 2 * 2 ^ t ≤ 50 → fitsO t w o → Stg t w B x →
    (∀ pre post, o.map (fun (c : Nat) => (c : Int)) = pre ++ post → LaidOk (laidF (T x) pre)) ∧ laidF (T x) (o.map fun (c : Nat) => (c : Int)) = T (endL x o)
  | [], t, w, B, x, ht, hw, hB, _, h => by
    have h2 : 1 ≤ 2 ^ t := Nat.one_le_two_pow
    refine ⟨fun pre post e => ?_, rfl⟩
    have : pre = [] := by
      rw [List.map_nil] at e
      exact (List.append_eq_nil_iff.mp e.symm).1
    subst this
    exact h.ok (by omega) (by omega) (by omega)
  | c :: r, t, w, B, x, ht, hw, hB, hf, h => by
    have h2 : 1 ≤ 2 ^ t := Nat.one_le_two_pow
    have hok : LaidOk (T x) := h.ok (by omega) (by omega) (by omega)
    have key : ∀ y : List Nat, laidStep (T x) c = T y → ((∀ pre post, r.map (fun (c : Nat) => (c : Int)) = pre ++ post → LaidOk (laidF (T y) pre)) ∧ laidF (T y) (r.map fun (c : Nat) => (c : Int)) = T (endL y r)) → endL x (c :: r) = endL y r →
        (∀ pre post, (c :: r).map (fun (c : Nat) => (c : Int)) = pre ++ post → LaidOk (laidF (T x) pre)) ∧ laidF (T x) ((c :: r).map fun (c : Nat) => (c : Int)) = T (endL x (c :: r)) := by
      intro y hy ih he
      have hs : ∀ p : List Int, laidF (T x) ((c : Int) :: p) = laidF (T y) p := by
        intro p
        unfold laidF
        rw [List.foldl_cons, Int.toNat_natCast, hy]
      refine ⟨fun pre post e => ?_, ?_⟩
      · cases pre with
        | nil => exact hok
        | cons a pre =>
          rw [List.map_cons, List.cons_append, List.cons.injEq] at e
          rw [← e.1, hs]
          exact ih.1 pre post e.2
      · rw [List.map_cons, hs, ih.2, he]
    rcases hf with ⟨rfl, t', rfl, hf⟩ | ⟨rfl, w', rfl, hf⟩
    · have hp : 2 ^ (t' + 1) = 2 * 2 ^ t' := by rw [Nat.pow_succ]; omega
      obtain ⟨h3, h4⟩ := h.t (by omega) (by omega) (by omega)
      exact key (tell x) ((step_t _).trans h4) (laid_chain r t' w _ (tell x) (by omega) hw (by omega) hf h3) rfl
    · obtain ⟨h3, h4⟩ := h.w (by omega) (by omega)
      exact key (sentL (normL x)) ((step_w _).trans h4) (laid_chain r t w' B _ ht (by omega) hB hf h3) rfl
theorem norm_even {l : List Nat} (h : evenL l = true) : normL l = l := norm_id (even_13 h)
theorem laid_order {x : List Nat} (h : AscL x) (hn : x.length = 6) (o : Str) (cs : List Nat) (ho : KStt.codes o = cs.map fun (c : Nat) => (c : Int)) (hf : fitsO 2 2 cs) : LaidAll (T x) o ∧ laidS (T x) o = T (endL x cs) := by
  obtain ⟨h1, h2⟩ := laid_chain cs 2 2 42 x (Nat.le_refl _) (Nat.le_refl _) (by decide) hf (stg_start h hn)
  refine ⟨fun pre post e => h1 pre post (by rw [← ho]; exact e), ?_⟩
  unfold laidS
  rw [ho, h2]
end Mine
end

/-! Lp1 -/
noncomputable section
open PySem PySem.W PySem.Spec PySem.Calls PyProof.Rows
set_option maxRecDepth 100000
set_option linter.all false
namespace Mine
theorem ascT {z : List Nat} (h : AscL z) : Asc (T z) := fun c hc => h c (by simpa using hc)
theorem sign_small : ∀ k < 10, ∃ c, c < 128 ∧ Txt.item (Str.ofString "a \t\n='\"\\x\x0d") ((k : Nat) : Int) = T [c] := by
  intro k hk
  have h : (Str.ofString "a \t\n='\"\\x\x0d") = T [97, 32, 9, 10, 61, 39, 34, 92, 120, 13] := by decide +kernel
  rw [h]
  obtain ⟨c, hc⟩ : ∃ c, [97, 32, 9, 10, 61, 39, 34, 92, 120, 13][k]? = some c := ⟨_, List.getElem?_eq_getElem hk⟩
  refine ⟨c, ?_, T_item rfl hc⟩
  have hm := List.mem_of_getElem? hc
  simp at hm
  omega
theorem signS_T (x : Int) : ∃ c, c < 128 ∧ signS x = T [c] := by
  unfold signS
  have h0 : 0 ≤ x.fmod 12 := Int.fmod_nonneg_of_pos _ (by decide)
  split
  · have h1 : 0 ≤ (x.fdiv 12).fmod 128 := Int.fmod_nonneg_of_pos _ (by decide)
    have h2 : (x.fdiv 12).fmod 128 < 128 := Int.fmod_lt_of_pos _ (by decide)
    exact ⟨_, by omega, rfl⟩
  · rename_i h
    obtain ⟨c, hc, e⟩ := sign_small (x.fmod 12).toNat (by omega)
    rw [Int.toNat_of_nonneg h0] at e
    exact ⟨c, hc, e⟩
theorem signs_T : ∀ ks : List Int, ∃ x, AscL x ∧ x.length = ks.length ∧ ks.map signS = x.map fun c => T [c]
  | [] => ⟨[], (fun _ h => nomatch h), rfl, rfl⟩
  | a :: r => by
    obtain ⟨x, h1, h2, h3⟩ := signs_T r
    obtain ⟨c, hc, e⟩ := signS_T a
    refine ⟨c :: x, ?_, by simp [h2], by simp [h3, e]⟩
    intro d hd
    rcases List.mem_cons.mp hd with rfl | hd
    · exact hc
    · exact h1 d hd
theorem join_ones (x : List Nat) : Txt.join (Str.ofString "") (x.map fun c => T [c]) = T x := by
  have h : ∀ ls : List Nat, Str.join (Str.ofString "") (ls.map fun c => T [c]) = T ls := by
    intro ls
    induction ls with
    | nil => rfl
    | cons a r ih =>
      cases r with
      | nil => rfl
      | cons b s =>
        show T [a] ++ Str.ofString "" ++ Str.join (Str.ofString "") (T [b] :: s.map fun c => T [c]) = _
        rw [show (T [b] :: s.map fun c => T [c]) = (b :: s).map (fun c => T [c]) from rfl, ih, emptyS, T_app [a] [], T_app]
        simp
  show Builtin.Str.glued _ _ = _
  rw [StrLaws.glued_eq_join]
  exact h x
theorem sign_join {ks : List Int} (h : ks.length = 6) : ∃ x, AscL x ∧ x.length = 6 ∧ Txt.join (Str.ofString "") (ks.map signS) = T x ∧ JoinOk (Str.ofString "") (ks.map signS) = true := by
  obtain ⟨x, h1, h2, h3⟩ := signs_T ks
  refine ⟨x, h1, h2.trans h, by rw [h3]; exact join_ones x, ?_⟩
  rw [h3]
  unfold JoinOk
  refine (congrArg (fun b => !b) (StrLaws.joinFits (B := 1) (fun z hz => ?_) ?_)).trans rfl
  · obtain ⟨c, _, rfl⟩ := List.mem_map.mp hz
    exact Nat.le_refl _
  · rw [List.length_map, h2, h]
    have : (Str.ofString "").length = 0 := by decide +kernel
    rw [this]; decide
theorem sign_strs {ys : List Value} {ks : List Int} (h : CarriedAll ys (ks.map fun k => PyData.str (signS k))) : StrsAre ys (ks.map signS) := by
  refine StrsAre.of_carried ?_
  rw [List.map_map]
  exact h
end Mine
end

/-! Lp2 -/
noncomputable section
open PySem PySem.W PySem.Spec PySem.Calls PyProof.Rows
set_option maxRecDepth 100000
set_option linter.all false
namespace Mine
theorem repl_len1 : ∀ (l : List Nat) (k : Nat), (replL [13, 10] [10] k l).length ≤ l.length
  | [], k => by cases k <;> simp [replL]
  | c :: r, k + 1 => by
    have := repl_len1 r k
    rw [replL, List.length_cons]; omega
  | c :: r, 0 => by
    rw [replL]
    split
    · have := repl_len1 r 1
      simp only [List.length_append, List.length_cons, List.length_nil] at this ⊢
      show 0 + 1 + (replL [13, 10] [10] 1 r).length ≤ _
      omega
    · have := repl_len1 r 0
      rw [List.length_cons, List.length_cons]; omega
theorem repl_len (x : List Nat) (hl : x.length = 6) : (replL [13, 10] [10] 0 x).length ≤ 1000 := by
  have := repl_len1 x 0
  omega
section
open Builtin Builtin.Str
variable {prog : Program} {w : World} {A : Around} {E : Value → Shared → Prop} {s : Shared}
theorem join_many {D : Addr} {us : List Value} {ws : List Str} {x : Str} {t : Tok} {Q : Value → Shared → Prop} (hl : s.heap.IsList D us.toArray) (hu : StrsAre us ws) (hn : 2 ≤ ws.length) (hok : JoinOk x ws = true)
    (hq : ∀ t', Q (.str (Txt.join x ws) t') { s with toks := s.toks + 1 }) : wpAny (model prog w) A (call (.builtin "str.join") [.str x t, .ref D]) Q E s := by
  have h : ∃ l : List (Str × Tok), us = strValues l ∧ l.map (·.1) = ws := by
    clear hl hok hq hn
    induction hu with
    | nil => exact ⟨[], rfl, rfl⟩
    | cons y t _ ih => obtain ⟨l, e1, e2⟩ := ih; exact ⟨(y, t) :: l, by rw [e1]; rfl, by rw [← e2]; rfl⟩
  obtain ⟨l, rfl, e⟩ := h
  subst e
  have hk := hok
  unfold JoinOk at hok
  rw [Bool.not_eq_true'] at hok
  refine call_meets F.slot_str_join (typeIs_str _ _ _) F.entry_str_join (F.args_str_join_2 _ _) (meets_str_join_list x t D l hok) ⟨hl, ?_⟩
  have hp : ∀ l : List (Str × Tok), 2 ≤ (l.map (·.1)).length → joinMade x l = .str (Txt.join x (l.map (·.1))) := by
    intro l h
    rcases l with _ | ⟨a, _ | ⟨b, r⟩⟩
    · simp at h
    · simp at h
    · rfl
  rw [hp l hn]
  exact ⟨joinFit_length hok, hq _⟩
theorem replace_to {x y z r : Str} {t u v : Tok} {Q : Value → Shared → Prop} (e : Txt.replace x y z = r) (hu : @Ne Nat u 0) (hv : @Ne Nat v 0) (huv : @Ne Nat u v) (hyz : (y == z) = false) (hx : x.length ≤ 1048576) (hz : z.length ≤ 14)
    (hq : ∀ t' k, s.toks ≤ k → Q (.str r t') { s with toks := k }) : wpAny (model prog w) A (call (.builtin "str.replace") [.str x t, .str y u, .str z v]) Q E s := by
  subst e
  have hb : x.length + (x.length + 1) * z.length ≤ 16777216 := by
    have h1 : (x.length + 1) * z.length ≤ (x.length + 1) * 14 := Nat.mul_le_mul_left _ hz
    omega
  have e : (2 : Nat) ^ 24 = 16777216 := by decide
  have hl : tooLong (x.length + (occurrences x y 0 x.length (x.length + 1)).length * z.length) = false := by
    have h1 := StrLaws.occ_length_le x y 0 x.length (x.length + 1)
    have h2 : (occurrences x y 0 x.length (x.length + 1)).length * z.length ≤ (x.length + 1) * z.length := Nat.mul_le_mul_right _ h1
    unfold tooLong sizeLine
    exact decide_eq_false (by omega)
  refine call_gives F.slot_str_replace (typeIs_str _ _ _) F.entry_str_replace (F.args_str_replace_3 _ _ _)
    (gives_str_replace x y z t u v fun _ => ⟨by simp [hu, hv], by simp [huv], hyz, hl⟩) ?_
  unfold Txt.replace at hq
  cases hc : ((occurrences x y 0 x.length (x.length + 1)).isEmpty || (y.length == 0 && z.length == 0))
  · rw [hc] at hq
    simp only [Bool.false_eq_true, if_false] at hq ⊢
    exact ⟨fits_replaced y hb, hq _ _ (Nat.le_succ _)⟩
  · rw [hc] at hq
    simp only [if_true] at hq ⊢
    exact hq t s.toks (Nat.le_refl _)
theorem fold_rep (x : List Nat) : ∀ (n : Nat) (acc : List Nat), (List.replicate n x.toArray).foldl (· ++ ·) acc.toArray = (acc ++ (List.replicate n x).flatten).toArray
  | 0, acc => by simp
  | n + 1, acc => by
    rw [List.replicate_succ, List.foldl_cons, show acc.toArray ++ x.toArray = (acc ++ x).toArray by simp, fold_rep x n (acc ++ x), List.replicate_succ, List.flatten_cons, List.append_assoc]
theorem mul_some {x : List Nat} {i : Int} {t u : Tok} {Q : Value → Shared → Prop} (hx : AscL x) (hl : x.length = 6) (h0 : 11 ≤ i) (h1 : i ≤ 14)
    (h : ∀ z t' k, AscL z → z.length ≤ 100 → Q (.str (T z) t') { s with toks := k }) : wpAny (model prog w) A (binaryOp .Mult (.str (T x) t) (.int i u)) Q E s := by
  have hT : (T x).length = 6 := by rw [T_len]; exact hl
  have e : Txt.mul (T x) i = T (List.replicate i.toNat x).flatten := by
    unfold Txt.mul
    rw [if_neg (by omega), if_neg (by rw [hT]; simp; omega)]
    refine Str.ext' ?_
    have := fold_rep x i.toNat []
    simpa using this
  refine SB.mul (mulOk_of 16 1048576 (by omega) (by omega) (by omega) (by decide) (by decide)) fun t' k => ?_
  rw [e]
  refine h _ t' k (fun c hc => ?_) ?_
  · obtain ⟨y, hy, hc⟩ := List.mem_flatten.mp hc
    rw [(List.mem_replicate.mp hy).2] at hc
    exact hx c hc
  · have h2 : ∀ n : Nat, ((List.replicate n x).flatten).length = n * 6 := by
      intro n
      induction n with
      | zero => simp
      | succ n ih => rw [List.replicate_succ, List.flatten_cons, List.length_append, ih, hl]; omega
    rw [h2]; omega
theorem mul_many {x : List Nat} {a : Int} {t u : Tok} {Q : Value → Shared → Prop} (hx : AscL x) (hl : x.length = 6)
    (h : ∀ z t' k, AscL z → z.length ≤ 100 → Q (.str (T z) t') { s with toks := k }) : wpAny (model prog w) A (binaryOp .Mult (.str (T x) t) (.int (11 + a.fmod 4) u)) Q E s :=
  mul_some hx hl (by have h9 := fmod_lo a (n := 4) (by decide); omega) (by have h9 := fmod_hi a (n := 4) (by decide); omega) h
end
end Mine
end

/-! Lc1 -/
noncomputable section
open PySem PySem.W PySem.Spec PySem.Calls PyProof.Rows
set_option maxRecDepth 100000
set_option linter.all false
namespace Mine
section
variable (w : World) {loose : List Str} {mean : ExcName → Option Value} {mg mb : Str → Option Value} (news : List (Addr × Obj))
theorem c_told (z : List Nat) (t : Tok) (hz : AscL z) (hl : z.length ≤ 100) : MC 5 w loose mean mg mb 87 news [.str (T z) t] (fun t => .str (T (tell z)) t) := by
  have h := spec_told w (loose := loose) (mean := mean) (mg := mg) (mb := mb) news (T z) t (ascT hz) (by rw [T_len]; exact hl)
  rw [toldS_T hz] at h
  exact h
theorem c_repr (z : List Nat) (t : Tok) (hz : AscL z) (hl : z.length ≤ 100) : MC 5 w loose mean mg mb 22 news [.str (T z) t] (fun t => .str (T (tell z)) t) := by
  have h := spec_repr1 w (loose := loose) (mean := mean) (mg := mg) (mb := mb) news (T z) t (ascT hz) (by rw [T_len]; exact hl)
  rw [reprText_T hz] at h
  exact h
theorem c_short (z : List Nat) (t : Tok) (hz : AscL z) (hl : z.length ≤ 100) : MC 5 w loose mean mg mb 22 news [.str (T z) t, .bool true] (fun t => .str (reprShort (T z)) t) :=
  spec_repr2 w (loose := loose) (mean := mean) (mg := mg) (mb := mb) news (T z) t (ascT hz) (by rw [T_len]; exact hl)
theorem c_sent (z : List Nat) (t : Tok) (hz : AscL z) (hl : z.length ≤ 100) : MC 5 w loose mean mg mb 94 news [.str (T z) t] (fun t => .str (T (sentL z)) t) := by
  have h := spec_sent w (loose := loose) (mean := mean) (mg := mg) (mb := mb) news (T z) t (ascT hz) (by rw [T_len]; exact hl)
  rw [sentS_T hz] at h
  exact h
theorem c_even (z : List Nat) (t : Tok) (hz : AscL z) (hl : z.length ≤ 100) : MC 5 w loose mean mg mb 108 news [.str (T z) t] (fun _ => .bool (evenL z)) := by
  have h := spec_even w (loose := loose) (mean := mean) (mg := mg) (mb := mb) news (T z) t (by rw [T_len]; exact hl)
  rw [evenB_T hz] at h
  exact h
theorem c_body (x : List Nat) (t : Tok) (hx : AscL x) (hl : x.length = 6) : MC 10 w loose mean mg mb 65 news [.str (T x) t] (fun t => .str (T (sentL (normL x))) t) := by
  obtain ⟨h1, h2, h3, h4⟩ := (stg_start hx hl).ok (by decide) (by decide) (by decide)
  have h := spec_bodyX w (loose := loose) (mean := mean) (mg := mg) (mb := mb) news (T x) t h1 h2 h3 h4
  rw [bodyX_T hx (fun e => by rw [e] at hl; simp at hl)] at h
  exact h
theorem c_read (z : List Nat) (t : Tok) (hz : AscL z) (hl : (tell z).length ≤ 200) : MC 10 w loose mean mg mb 101 news [.str (T (tell z)) t] (fun t => .str (T z) t) :=
  spec_read w (loose := loose) (mean := mean) (mg := mg) (mb := mb) news (qL z) z t (qL_ways z) hz (by rw [T_len]; exact hl)
theorem c_decode (y : Str) (r : List Nat) (t : Tok) (hl : y.length ≤ 500) (e : decodeS y = T r) : MC 10 w loose mean mg mb 73 news [.str y t] (fun t => .str (T r) t) := by
  have h := spec_decode w (loose := loose) (mean := mean) (mg := mg) (mb := mb) news y t hl
  rw [e] at h
  exact h
theorem c_laid (x : List Nat) (o : Str) (t u : Tok) (cs r : List Nat) (hx : AscL x) (hl : x.length = 6) (ho : KStt.codes o = cs.map fun (c : Nat) => (c : Int)) (hf : fitsO 2 2 cs) (hr : endL x cs = r) (hol : o.length ≤ 10) : MC 15 w loose mean mg mb 115 news [.str (T x) t, .str o u] (fun t => .str (T r) t) := by
  obtain ⟨h1, h2⟩ := laid_order hx hl o cs ho hf
  have h := spec_laid w (loose := loose) (mean := mean) (mg := mg) (mb := mb) news (T x) o t u h1 hol (by rw [T_len]; omega)
  rw [h2, hr] at h
  exact h
end
theorem tell_len : ∀ {z : List Nat}, AscL z → (tell z).length ≤ 4 * z.length + 2 := by
  intro z hz
  have h : ∀ (q : Nat) (l : List Nat), (body q l).length ≤ 4 * l.length := by
    intro q l
    induction l with
    | nil => simp [body]
    | cons c r ih =>
      have : (tellC q c).length ≤ 4 := by unfold tellC; (repeat' split) <;> simp
      rw [body_cons, List.length_append, List.length_cons]; omega
  have := h (qL z) z
  unfold tell tellQ
  simp only [List.length_cons, List.length_append, List.length_nil]
  omega
theorem short_lt {z : List Nat} (hz : AscL z) (h : ((T (tell z)).length : Int) < 80) : reprShort (T z) = T (tell z) := by
  unfold reprShort; rw [reprText_T hz, if_pos h]
theorem short_ge {z : List Nat} (hz : AscL z) (h : ¬ ((T (tell z)).length : Int) < 80) : reprShort (T z) = Txt.slice (T (tell z)) none (some 80) ++ Str.ofString " [truncated]..." := by
  unfold reprShort; rw [reprText_T hz, if_neg h]
theorem norm_len1 : ∀ (k : Nat) (l : List Nat), l.length ≤ k → (normL l).length ≤ l.length
  | _, [], _ => Nat.le_refl _
  | _, [c], _ => by simp [normL]
  | 0, c :: d :: r, h => by simp at h
  | k + 1, c :: d :: r, h => by
    have h1 := norm_len1 k (d :: r) (by simpa using h)
    have h2 := norm_len1 k r (by simp at h; omega)
    rw [normL]
    simp only [List.length_cons] at h1 ⊢
    split
    · split <;> simp only [List.length_cons] <;> omega
    · simp only [List.length_cons]; omega
theorem norm_len (l : List Nat) : (normL l).length ≤ l.length := norm_len1 _ l (Nat.le_refl _)
theorem str_ne_self {a : Str} (h : (a != a) = true) : False := by simp at h
theorem short_no1 {z : List Nat} (hz : AscL z) (h : ((T (tell z)).length : Int) < 80) (hn : (reprShort (T z) != T (tell z)) = true) : False := by rw [short_lt hz h] at hn; exact str_ne_self hn
theorem short_no2 {z : List Nat} (hz : AscL z) (h : ¬ ((T (tell z)).length : Int) < 80) (hn : (reprShort (T z) != Txt.slice (T (tell z)) none (some 80) ++ Str.ofString " [truncated]...") = true) : False := by rw [short_ge hz h] at hn; exact str_ne_self hn
end Mine
end

/-! Lc2 -/
noncomputable section
open PySem PySem.W PySem.Spec PySem.Calls PyProof.Rows
set_option maxRecDepth 100000
set_option linter.all false
namespace Mine
noncomputable def RT (x : List Nat) : List Nat := eqE (eqE (tell (tell x)))
noncomputable def RW (x : List Nat) : List Nat := eqE (tell (tell (sentL (normL x))))
section
variable {x : List Nat} (h : AscL x)
include h
theorem end_ttww : endL x [116, 116, 119, 119] = RT x := by
  have a1 := (tell_pr h).asc
  have e2 := tell_even a1
  have e3 : evenL (eqE (tell (tell x))) = true := by rw [even_eqE]; exact e2
  show sentL (normL (sentL (normL (tell (tell x))))) = _
  rw [norm_even e2, sent_even e2, norm_even e3, sent_even e3]; rfl
theorem end_twtw : endL x [116, 119, 116, 119] = RT x := by
  have a1 := (tell_pr h).asc
  have e1 := tell_even h
  have e2 := tell_even a1
  have e3 : evenL (eqE (tell (tell x))) = true := by rw [even_eqE]; exact e2
  show sentL (normL (tell (sentL (normL (tell x))))) = _
  rw [norm_even e1, sent_even e1, tell_eqE a1, norm_even e3, sent_even e3]; rfl
theorem end_twwt : endL x [116, 119, 119, 116] = RT x := by
  have a1 := (tell_pr h).asc
  have e1 := tell_even h
  have e3 : evenL (eqE (tell x)) = true := by rw [even_eqE]; exact e1
  show tell (sentL (normL (sentL (normL (tell x))))) = _
  rw [norm_even e1, sent_even e1, norm_even e3, sent_even e3, tell_eqE (eqE_asc a1), tell_eqE a1]; rfl
theorem end_wwtt : endL x [119, 119, 116, 116] = RW x := by
  have hs := sent_asc (norm_asc h)
  have he := sent_is_even (norm_asc h)
  have a1 := (tell_pr hs).asc
  show tell (tell (sentL (normL (sentL (normL x))))) = _
  rw [norm_even he, sent_even he, tell_eqE hs, tell_eqE a1]; rfl
theorem end_wtwt : endL x [119, 116, 119, 116] = RW x := by
  have hs := sent_asc (norm_asc h)
  have a1 := (tell_pr hs).asc
  have e1 := tell_even hs
  show tell (sentL (normL (tell (sentL (normL x))))) = _
  rw [norm_even e1, sent_even e1, tell_eqE a1]; rfl
theorem end_wttw : endL x [119, 116, 116, 119] = RW x := by
  have hs := sent_asc (norm_asc h)
  have a1 := (tell_pr hs).asc
  have e2 := tell_even a1
  show sentL (normL (tell (tell (sentL (normL x))))) = _
  rw [norm_even e2, sent_even e2]; rfl
end
section
variable (w : World) {loose : List Str} {mean : ExcName → Option Value} {mg mb : Str → Option Value} (news : List (Addr × Obj)) (x : List Nat) (t u : Tok) (hx : AscL x) (hl : x.length = 6)
include hx hl
theorem c_ttww : MC 15 w loose mean mg mb 115 news [.str (T x) t, .str (Str.ofString "ttww") u] (fun t => .str (T (RT x)) t) :=
  c_laid w news x _ t u [116, 116, 119, 119] _ hx hl (by decide +kernel) (.inl ⟨rfl, 1, rfl, .inl ⟨rfl, 0, rfl, .inr ⟨rfl, 1, rfl, .inr ⟨rfl, 0, rfl, trivial⟩⟩⟩⟩) (end_ttww hx) (by decide +kernel)
theorem c_twtw : MC 15 w loose mean mg mb 115 news [.str (T x) t, .str (Str.ofString "twtw") u] (fun t => .str (T (RT x)) t) :=
  c_laid w news x _ t u [116, 119, 116, 119] _ hx hl (by decide +kernel) (.inl ⟨rfl, 1, rfl, .inr ⟨rfl, 1, rfl, .inl ⟨rfl, 0, rfl, .inr ⟨rfl, 0, rfl, trivial⟩⟩⟩⟩) (end_twtw hx) (by decide +kernel)
theorem c_twwt : MC 15 w loose mean mg mb 115 news [.str (T x) t, .str (Str.ofString "twwt") u] (fun t => .str (T (RT x)) t) :=
  c_laid w news x _ t u [116, 119, 119, 116] _ hx hl (by decide +kernel) (.inl ⟨rfl, 1, rfl, .inr ⟨rfl, 1, rfl, .inr ⟨rfl, 0, rfl, .inl ⟨rfl, 0, rfl, trivial⟩⟩⟩⟩) (end_twwt hx) (by decide +kernel)
theorem c_wwtt : MC 15 w loose mean mg mb 115 news [.str (T x) t, .str (Str.ofString "wwtt") u] (fun t => .str (T (RW x)) t) :=
  c_laid w news x _ t u [119, 119, 116, 116] _ hx hl (by decide +kernel) (.inr ⟨rfl, 1, rfl, .inr ⟨rfl, 0, rfl, .inl ⟨rfl, 1, rfl, .inl ⟨rfl, 0, rfl, trivial⟩⟩⟩⟩) (end_wwtt hx) (by decide +kernel)
theorem c_wtwt : MC 15 w loose mean mg mb 115 news [.str (T x) t, .str (Str.ofString "wtwt") u] (fun t => .str (T (RW x)) t) :=
  c_laid w news x _ t u [119, 116, 119, 116] _ hx hl (by decide +kernel) (.inr ⟨rfl, 1, rfl, .inl ⟨rfl, 1, rfl, .inr ⟨rfl, 0, rfl, .inl ⟨rfl, 0, rfl, trivial⟩⟩⟩⟩) (end_wtwt hx) (by decide +kernel)
theorem c_wttw : MC 15 w loose mean mg mb 115 news [.str (T x) t, .str (Str.ofString "wttw") u] (fun t => .str (T (RW x)) t) :=
  c_laid w news x _ t u [119, 116, 116, 119] _ hx hl (by decide +kernel) (.inr ⟨rfl, 1, rfl, .inl ⟨rfl, 1, rfl, .inl ⟨rfl, 0, rfl, .inr ⟨rfl, 0, rfl, trivial⟩⟩⟩⟩) (end_wttw hx) (by decide +kernel)
end
theorem meet_RT {x : List Nat} (h : AscL x) : (T (RT x) == T (RW x)) = evenL x := by
  rw [T_beq, Bool.eq_iff_iff, beq_iff_eq]
  exact meet_iff h
end Mine
end

/-! Lp3 -/
noncomputable section
open PySem PySem.W PySem.Spec PySem.Calls PyProof.Rows PyProof.V
set_option maxRecDepth 100000
set_option linter.all false
namespace Mine
theorem asc_ok {y : List Nat} (h : AscL y) : PyData.strOk (T y) = true := by
  unfold PyData.strOk
  rw [Array.all_eq_true']
  intro c hc
  have := ascT h c (by simpa using hc)
  exact decide_eq_true (by omega)
theorem RT_asc {x : List Nat} (h : AscL x) : AscL (RT x) := eqE_asc (eqE_asc (tell_pr (tell_pr h).asc).asc)
theorem RW_asc {x : List Nat} (h : AscL x) : AscL (RW x) := eqE_asc (tell_pr (tell_pr (sent_asc (norm_asc h))).asc).asc
theorem three_shaped {y : List Nat} (h : AscL y) : SeqAt.shaped (.list [.str (T y), .str (T y), .str (T y)]) = true := by
  simp [SeqAt.shaped, PyData.canLay0, PyData.canLayAll0, PyData.depth, PyData.depthAll, asc_ok h]
theorem ne_three {prog : Program} {w : World} {A : Around} {E : Value → Shared → Prop} {s : Shared} {a b : Addr} {y : List Nat} {t1 t2 t3 u1 u2 u3 : Tok} {oa ob : Obj} {n1 n2 : Nat} {Q : Value → Shared → Prop} (hy : AscL y)
    (ha : s.heap.get? a = some oa) (ca : oa.cls = .type "list") (da : oa.data = .seq #[.str (T y) t1, .str (T y) t2, .str (T y) t3] n1)
    (hb : s.heap.get? b = some ob) (cb : ob.cls = .type "list") (db : ob.data = .seq #[.str (T y) u1, .str (T y) u2, .str (T y) u3] n2) (hu : A.units + 64 < cLine)
    (h : Q (.bool false) s) : wpAny (model prog w) A (compareOp .NotEq (.ref a) (.ref b)) Q E s := by
  refine ne_dataH (reads_list_at ha ca da (.cons (.str _ _) (.cons (.str _ _) (.cons (.str _ _) .nil)))) (reads_list_at hb cb db (.cons (.str _ _) (.cons (.str _ _) (.cons (.str _ _) .nil)))) (three_shaped hy) (three_shaped hy) hu ?_
  simp only [PyData.eqv, PyData.eqvAll, beq_self_eq_true, Bool.and_true, Bool.not_true]
  exact h
theorem meet_no {x : List Nat} (h : AscL x) (hn : ((T (RT x) == T (RW x)) != evenL x) = true) : False := by rw [meet_RT h] at hn; simp at hn
end Mine
end

/-! Lp4 -/
noncomputable section
open PySem PySem.W PySem.Spec PySem.Calls PyProof.Rows PyProof.V
set_option maxRecDepth 100000
set_option linter.all false
namespace Mine
theorem laid_end_len {x : List Nat} (hx : AscL x) (hl : x.length = 6) (o : Str) (cs : List Nat) (ho : KStt.codes o = cs.map fun (c : Nat) => (c : Int)) (hf : fitsO 2 2 cs) : (endL x cs).length ≤ 100 := by
  obtain ⟨h1, h2⟩ := laid_order hx hl o cs ho hf
  have h3 := (h1 (KStt.codes o) [] (by simp)).2.2.1
  have h4 : laidF (T x) (KStt.codes o) = T (endL x cs) := h2
  rw [h4, T_len] at h3
  exact h3
theorem RT_len {x : List Nat} (hx : AscL x) (hl : x.length = 6) : (RT x).length ≤ 100 := by
  rw [← end_ttww hx]
  exact laid_end_len hx hl (Str.ofString "ttww") _ (by decide +kernel) (.inl ⟨rfl, 1, rfl, .inl ⟨rfl, 0, rfl, .inr ⟨rfl, 1, rfl, .inr ⟨rfl, 0, rfl, trivial⟩⟩⟩⟩)
theorem RW_len {x : List Nat} (hx : AscL x) (hl : x.length = 6) : (RW x).length ≤ 100 := by
  rw [← end_wwtt hx]
  exact laid_end_len hx hl (Str.ofString "wwtt") _ (by decide +kernel) (.inr ⟨rfl, 1, rfl, .inr ⟨rfl, 0, rfl, .inl ⟨rfl, 1, rfl, .inl ⟨rfl, 0, rfl, trivial⟩⟩⟩⟩)
theorem eqX_len : ∀ z : List Nat, (eqX z).length = (eqE (eqE z)).length
  | [] => rfl
  | c :: r => by
    have ih := eqX_len r
    rw [eqX_cons, eqE_cons, eqE_app, List.length_append, List.length_append, ih]
    congr 1
    by_cases h : c = 61
    · subst h; decide
    · have e : eqC c = [c] := by unfold eqC; rw [if_neg h]
      rw [if_neg h, e, eqE_cons, e]; rfl
theorem tell_ge (z : List Nat) : z.length ≤ (tell z).length := by
  have := body_len_ge (qL z) z
  unfold tell tellQ
  simp only [List.length_cons, List.length_append, List.length_nil]
  omega
theorem eqE_ge : ∀ z : List Nat, z.length ≤ (eqE z).length
  | [] => Nat.le_refl _
  | c :: r => by
    have ih := eqE_ge r
    have : 1 ≤ (eqC c).length := by unfold eqC; split <;> simp
    rw [eqE_cons, List.length_append, List.length_cons]; omega
theorem rep_RT (x : List Nat) : Txt.replace (T (RT x)) (Str.ofString "=3D") (Str.ofString "=3d") = T (eqX (tell (tell x))) := by
  rw [show Str.ofString "=3D" = T [61, 51, 68] by decide +kernel, show Str.ofString "=3d" = T [61, 51, 100] by decide +kernel, replace_T _ _ _ (by simp)]
  unfold RT
  rw [eqx_repl]
theorem dec_told {y : List Nat} (hy : AscL y) : decodeS (T (eqX (tell y)) ++ Str.ofString "\t ") = T (eqE (tell y)) := by
  rw [show Str.ofString "\t " = T [9, 32] by decide +kernel, T_app]
  have hq := qL_ways y
  have e : tell y = (qL y :: body (qL y) y) ++ [qL y] := by unfold tell tellQ; simp
  have hp := tell_pr hy
  rw [e] at hp ⊢
  exact decode_told hp (by omega) (by omega)
theorem dec_even {y : List Nat} (hy : AscL y) (he : evenL y = true) : decodeS (T (eqE y)) = T y := by
  rw [← sent_even he]
  exact decode_sent hy (even_13 he)
section
variable {x : List Nat} (hx : AscL x) (hl : x.length = 6)
include hx
theorem dec_t1 : decodeS (T (eqX (tell (tell x))) ++ Str.ofString "\t ") = T (eqE (tell (tell x))) := dec_told (tell_pr hx).asc
theorem dec_t2 : decodeS (T (eqE (tell (tell x)))) = T (tell (tell x)) := dec_even (tell_pr (tell_pr hx).asc).asc (tell_even (tell_pr hx).asc)
theorem RW_tell : RW x = tell (tell (eqE (sentL (normL x)))) := by
  have hs := sent_asc (norm_asc hx)
  unfold RW
  rw [tell_eqE hs, tell_eqE (tell_pr hs).asc]
theorem dec_s1 : decodeS (T (eqE (sentL (normL x)))) = T (sentL (normL x)) := dec_even (sent_asc (norm_asc hx)) (sent_is_even (norm_asc hx))
theorem dec_s2 : decodeS (T (sentL (normL x))) = T (normL x) := decode_sent (norm_asc hx) (norm_no13 x)
include hl
theorem len_t1 : (T (eqX (tell (tell x))) ++ Str.ofString "\t ").length ≤ 500 := by
  have := RT_len hx hl
  unfold RT at this
  rw [← eqX_len] at this
  rw [Str.length_append, T_len, show (Str.ofString "\t ").length = 2 by decide +kernel]
  omega
theorem len_t2 : (T (eqE (tell (tell x)))).length ≤ 500 := by
  have := RT_len hx hl
  unfold RT at this
  have := eqE_ge (eqE (tell (tell x)))
  rw [T_len]; omega
theorem len_t3 : (tell (tell x)).length ≤ 200 := by
  have := RT_len hx hl
  unfold RT at this
  have := eqE_ge (eqE (tell (tell x)))
  have := eqE_ge (tell (tell x))
  omega
theorem len_t4 : (tell x).length ≤ 200 := Nat.le_trans (tell_ge _) (len_t3 hx hl)
theorem len_s1 : (tell (tell (eqE (sentL (normL x))))).length ≤ 200 := by
  have := RW_len hx hl
  rw [RW_tell hx] at this
  omega
theorem len_s2 : (tell (eqE (sentL (normL x)))).length ≤ 200 := Nat.le_trans (tell_ge _) (len_s1 hx hl)
theorem len_s3 : (T (eqE (sentL (normL x)))).length ≤ 500 := by
  have := Nat.le_trans (tell_ge _) (len_s2 hx hl)
  rw [T_len]; omega
theorem len_s4 : (T (sentL (normL x))).length ≤ 500 := by
  have h1 := Nat.le_trans (tell_ge _) (len_s2 hx hl)
  have := eqE_ge (sentL (normL x))
  rw [T_len]; omega
end
section
variable (w : World) {loose : List Str} {mean : ExcName → Option Value} {mg mb : Str → Option Value} (news : List (Addr × Obj))
theorem c_readE (y z : List Nat) (t : Tok) (e : y = tell z) (hz : AscL z) (hl : (tell z).length ≤ 200) : MC 10 w loose mean mg mb 101 news [.str (T y) t] (fun t => .str (T z) t) := by
  subst e; exact c_read w news z t hz hl
end
end Mine
end

/-! Tc -/
noncomputable section
open PySem PySem.W PySem.Calls PyProof.Rows
set_option maxRecDepth 100000
set_option linter.all false
namespace Mine
section
variable {prog : Program} {w : World} {A : Around} {E : Value → Shared → Prop} {s : Shared} {h₀ : Heap} {L : Addr} {m : Str → Option Value} {env : Env}
/-- the tuple stands in the ledger -/
noncomputable def TupIn (ax : Addr) (its : Array Value) (nw : List (Addr × Obj)) : Prop := False ∨ ∃ o, (ax, o) ∈ nw ∧ o.cls = .type "tuple" ∧ ∃ n, o.data = .seq its n
theorem TupIn.at {ax : Addr} {its : Array Value} {nw : List (Addr × Obj)} {h : Heap} (t : TupIn ax its nw) (N : News h₀ L h nw) : h.IsTuple ax its := by
  rcases t with t | ⟨o, hm, r⟩
  · exact t.elim
  · exact ⟨o, (N _ hm).1, r⟩
/-- a comprehension's source that is a tuple -/
noncomputable def TupSrc (prog : Program) (w : World) (A : Around) (h₀ : Heap) (L : Addr) (m : Str → Option Value) (env : Env) (elt : Expr) (x : Str) (scope : Scope) (cl : List (Str × Addr)) (Fin : Shared → List Value → List (Addr × Obj) → Prop) (xv : Value) (s₁ : Shared) : Prop :=
  ∃ ax its news, xv = .ref ax ∧ A.handled = none ∧ Fr h₀ L s₁.heap m ∧ News h₀ L s₁.heap news ∧ TupIn ax its news ∧ its.size ≤ sizeLine ∧
    ∀ s₂ : Shared, (∃ h, s₂ = { s₁ with heap := h }) → LCg.CompRest prog w A h₀ L m env elt x scope cl s₂ (TupIn ax its) (fun i v => its[i]? = some v) (Fin s₂) its.size 0 [] news
theorem TupSrc.intro {elt : Expr} {x : Str} {scope : Scope} {cl : List (Str × Addr)} {Fin : Shared → List Value → List (Addr × Obj) → Prop} {ax : Addr} {its : Array Value} {k : Nat} {news : List (Addr × Obj)} {s₁ : Shared}
    (hh : A.handled = none) (F : Fr h₀ L s₁.heap m) (N : News h₀ L s₁.heap news) (hm : (ax, ({ cls := .type "tuple", data := .seq its k } : Obj)) ∈ news) (hsz : its.size ≤ sizeLine)
    (h : ∀ g, LCg.CompRest prog w A h₀ L m env elt x scope cl { s₁ with heap := g } (TupIn ax its) (fun i v => its[i]? = some v) (Fin { s₁ with heap := g }) its.size 0 [] news) :
    TupSrc prog w A h₀ L m env elt x scope cl Fin (.ref ax) s₁ := ⟨ax, its, news, rfl, hh, F, N, .inr ⟨_, hm, rfl, _, rfl⟩, hsz, fun _ ⟨g, e⟩ => e ▸ h g⟩
theorem tup_assign {elt iter : Expr} {x y : Str} {px py : Pos} {scope : Scope} {cl : List (Str × Addr)} {pos spos : Pos} {Q : Flow → Shared → Prop} (F₀ : Fr h₀ L s.heap m) (hLe : env.locals = L)
    (hsw : swapsWith (.ListComp elt [⟨.Name x px, iter, [], 0⟩] scope pos) (some (.Name y py)) spos.line env = pure true)
    (hclos : closureFor scope env = pure cl) (hcell : ∀ z ∈ scope.names, z.2 ≠ .cell) (hkind : scope.kind = .function)
    (hnames : ∀ z ∈ scope.names, z.2 = .local → scope.names.lookup z.1 = some .local) (hx : scope.names.lookup x = some .local)
    (hy : env.kindOf y = some .local) (hp : (env.scope.kind == .class || (env.scope.kind == .module && env.locals != env.globals)) = false)
    (h : wpAny (model prog w) A (eval iter env) (TupSrc prog w A h₀ L m env elt x scope cl (fun s₂ => LCg.FinA h₀ L m s₂ y Q)) E s)
    (hs : ∀ x, foldedSetIterable iter env x = pure x) :
    wpAny (model prog w) A (exec (.Assign [.Name y py] (.ListComp elt [⟨.Name x px, iter, [], 0⟩] scope pos) spos) env) Q E s := by
  subst hLe
  rw [exec_Assign_Name_used _ _ _ _ hsw]
  refine wpAny_bind (wpAny_standAt (wpAny_bind ?_))
  show wpAny _ A (do let _ ← comprehension (.ListComp elt [⟨.Name x px, iter, [], 0⟩] scope pos) scope env _ (newList []) false (eval iter env) (some (assign (.Name y py) env))) _ _ s
  refine wpAny_bind (wpAny_mono (wpAny_comprehension_free (use := some (assign (.Name y py) env)) (Q := fun _ s' => Q .next s') rfl hs hclos hkind hnames
    (wpAny_mono h (fun xv s₁ h₁ => ?_) fun _ _ e => e)) (fun _ s' hq => wpAny_pure (wpAny_pure hq)) fun _ _ e => e)
  obtain ⟨ax, its, news, rfl, hh, F, N, S, hsz, R⟩ := h₁
  have hl : s₁.heap.IsTuple ax its := S.at N
  have hlt : ax < s₁.heap.objs.size := by obtain ⟨_, e, _⟩ := hl; exact Heap.lt_size e
  have up : ∀ b o, s₁.heap.get? b = some o → (s₁.heap.push { cls := .type "tuple_iterator", data := .fields #[.ref ax, .int 0 0] }).get? b = some o := fun b o e => Heap.get?_push_of_some _ e
  refine wpAny_pyIter_tuple hl (LCg.block_U (Walks.tuple hh s₁.heap.objs.size ax (Nat.ne_of_lt hlt) its) hsz ?hIo ?hSt hcell hkind hx ⟨⟨_, Heap.get?_push_size _ rfl, rfl, rfl⟩, hl.at (fun o e => up _ o e)⟩ ?hfp
    (F.keeps up) (N.grown up) (Nat.ne_of_lt F.ns.lt) (next_is_new F) (fun p hp => Nat.ne_of_lt (Heap.lt_size (N p hp).1)) S (R _ ⟨_, rfl⟩) ?fin)
  case hIo => exact fun i h st => by obtain ⟨o, e, _⟩ := st.1; exact ⟨o, e⟩
  case hSt =>
    intro i h h' o nw st e e' _ N' S'
    obtain ⟨o', q, r⟩ := st.1
    rw [e] at q
    cases q
    exact ⟨⟨o, e', r⟩, S'.at N'⟩
  case hfp =>
    intro b hb
    show b < (s₁.heap.push _).objs.size
    rw [Heap.size_push]
    rcases List.mem_cons.mp hb with rfl | hb
    · exact Nat.lt_succ_self _
    · rw [List.mem_singleton.mp hb]; exact Nat.lt_succ_of_lt hlt
  case fin =>
    intro D C h' tk m' ys news' F' N' o1 hn hC₀ hD₀ hCL hDL hCD offC fin
    show wpAny _ A (assign (.Name y py) env (.ref D)) _ _ _
    refine wpAny_assign_Name (wpAny_storeName_local hy F'.ns (fun h₂ hn₂ hs₂ => ?_) hp)
    have hL₀ : h₀.get? env.locals = none := Heap.get?_none_of_le F'.above
    have keep₂ : ∀ b o, b ≠ env.locals → h'.get? b = some o → h₂.get? b = some o := fun b o hb e => hs₂.extBut b o hb e
    have F₂ : Fr h₀ env.locals h₂ (fun z => if z = y then some (.ref D) else m z) := ⟨hn₂, fun b o e => keep₂ b o (fun q => by rw [q, hL₀] at e; cases e) (F'.keep b o e), F'.above⟩
    refine ⟨m', hn.sameBut hs₂ hCL, fun h'' hs'' => fin D h'' _ (F₂.change hs'' hCL hC₀) (fun p hp => ?_) o1⟩
    have hpC : p.1 ≠ C := by
      rcases List.mem_cons.mp hp with rfl | hp
      · exact Ne.symm hCD
      · exact offC p hp
    exact ⟨hs''.extBut _ _ hpC (keep₂ _ _ (N' p hp).2.1 (N' p hp).1), (N' p hp).2⟩
theorem news_snd {h₀ h : Heap} {L : Addr} {p q : Addr × Obj} {r : List (Addr × Obj)} (N : News h₀ L h (p :: q :: r)) : News h₀ L h (p :: r) := fun x hx => N x (by rcases List.mem_cons.mp hx with h | h; exact h ▸ List.mem_cons_self; exact List.mem_cons_of_mem _ (List.mem_cons_of_mem _ h))
end
end Mine
end

/-! Lw0 -/
noncomputable section
open PySem PySem.W PySem.Calls PyProof.Rows
set_option maxRecDepth 100000
set_option linter.all false
namespace Mine
/-- the last def of the text -/
noncomputable def lastDef (p : Program) : List Stmt × Scope := match p.main.body.getLast? with
  | some (.FunctionDef _ _ b _ _ _ sc _ _ _) => (b, sc)
  | _ => ([], default)
noncomputable def lawB : List Stmt := (lastDef pw).1
noncomputable def lawS : Scope := (lastDef pw).2
noncomputable def lawSt (k : Nat) : Stmt := lawB.getD k (.Pass default)
noncomputable abbrev EL (L fa : Addr) (cd : Value) : Env := envOfC "law" lawS L fa cd
theorem lawB_eq : lawB = [lawSt 0, lawSt 1, lawSt 2, lawSt 3, lawSt 4, lawSt 5, lawSt 6, lawSt 7, lawSt 8, lawSt 9, lawSt 10, lawSt 11] := by kernel_rfl
/-- one more step of a slice with a step, on ints -/
theorem slice3_ints {prog : Program} {w : World} {A : Around} {E : Value → Shared → Prop} {s : Shared} {h₀ : Heap} {L l : Addr} {m : Str → Option Value} {news : List (Addr × Obj)} {value slice : PySem.Expr} {vs : List Value} {ns : List Int} {vl vu vk : Value} {lo hi st : Option Int} {ops : List Value} {Q : Value → Shared → Prop}
    (F : Fr h₀ L s.heap m) (N : News h₀ L s.heap news) (hl : s.heap.IsList l vs.toArray) (hi' : IntsAre vs ns) (pl : IsPart vl lo) (pu : IsPart vu hi) (pk : IsPart vk st) (h0 : st ≠ some 0)
    (h : ∀ D ws h', Fr h₀ L h' m → News h₀ L h' ((D, listOf (List.toArray ws) 0) :: news) → (∀ p ∈ news, p.1 < D) → IntsAre ws (pickNums ns lo hi st) → Q (.ref D) { s with heap := h' })
    (hs : subscripted slice false (.ref l) (.ref s.heap.objs.size) = operate ops (getItem (.ref l) (.ref s.heap.objs.size))) (ht : ∀ r, letTemporaryGo value (.ref l) r = pure ()) (hz : ns.length ≤ sizeLine) :
    wpAny (model prog w) A (subscriptTail value slice (.ref l) (.ref s.heap.objs.size)) Q E { s with heap := s.heap.push { cls := .type "slice", data := .fields #[vl, vu, vk] } } := by
  refine slice_list3 F N hl pl pu pk h0 (fun h' F' N' => h _ (slicePick vs.toArray lo hi st).toList h' F' ?_ (fun p hp => Nat.lt_succ_of_lt (Heap.lt_size (N p hp).1)) (hi'.pick lo hi st)) hs ht (by rw [List.size_toArray, hi'.length]; exact hz)
  rw [Array.toArray_toList]
  exact N'
theorem news_tail {h₀ h : Heap} {L : Addr} {p : Addr × Obj} {r : List (Addr × Obj)} (N : News h₀ L h (p :: r)) : News h₀ L h r := fun q hq => N q (List.mem_cons_of_mem _ hq)
end Mine
end

/-! Lw1 -/
noncomputable section
open PySem PySem.W PySem.Spec PySem.Calls PyProof.Rows
set_option maxRecDepth 100000
set_option maxHeartbeats 8000000
set_option linter.all false
namespace Mine
section
local macro_rules | `(tactic| walk_at "subscriptTail Name Slice ref ref") => `(tactic| (k_here; (with_reducible show wpAny _ _ (subscriptTail _ (PySem.Expr.Slice _ _ (some _) _) (Value.ref _) (Value.ref _)) _ _ _); k_dflt (refine' slice3_ints ?F ?N ?l ?i ?p ?q ?k ?o ?_ ?s ?t ?z; (case F => k_asm); (case N => k_asm); (case l => kmk_list); (case i => assumption); (case p => kmk_part); (case q => kmk_part); (case k => kmk_part); (case o => decide); (case s => with_unfolding_all rfl); (case t => kmk_pure); (case z => (rw [sizeLine_eq]; omega)); k_whole); intro D9 ws9 h9 F9 N9 lt9 hi9))
theorem law1 (w : World) {loose : List Str} {mean : ExcName → Option Value} {mg mb : Str → Option Value} {h₀ : Heap} {L fa l : Addr} {cd : Value} {vs : List Value} {ns : List Int} {s : Shared} {Q : Flow → Shared → Prop} {E : Value → Shared → Prop} {cS cT : Obj}
    (X : (KF w.params).In h₀) (B : Below callerA h₀ [] h₀) (T : Top qV loose mean mg mb h₀) (hl : h₀.IsList l vs.toArray) (hi : IntsAre vs ns) (hn : ns.length ≤ 63) (F : Fr h₀ L s.heap fun _ => none) (N : News h₀ L s.heap [(L + 1 + 1, cT), (L + 1, cS)])
    (hS : cS.data = .cell (some (.ref l))) (hT : cT.data = .cell none)
    (k : ∀ D ws ks h' tk', Fr h₀ L h' (fun y => if y = "cells" then some (.ref D) else none) → News h₀ L h' [(D, LCg.lst ws), (L + 1 + 1, cT), (L + 1, cS)] → IntsAre ws ks → ks.length = 6 → L + 1 + 1 ≠ D ∧ L + 1 ≠ D → Q .next { s with heap := h', toks := tk' }) :
    wpAny (model PySem.Challenge.rw_kl0519_01.row.prog w) (callerA.deeper (EL L fa cd)) (exec (lawSt 0) (EL L fa cd)) Q E s := by
  revert X
  k_fill
  intro X
  conv => pattern lawSt _; whnf
  k_with_none
  k_steps
  all_goals (rename Fr _ _ _ _ => F1; rename News _ _ _ _ => N1; rename IntsAre _ (List.map _ _) => I1; rename _ ∧ _ => o1; exact k _ _ _ _ _ F1 N1 I1 (by rw [List.length_map, rangeKs_length]; rfl) o1)
end
end Mine
end

/-! Lw2 -/
noncomputable section
open PySem PySem.W PySem.Spec PySem.Calls PyProof.Rows
set_option maxRecDepth 100000
set_option maxHeartbeats 8000000
set_option linter.all false
namespace Mine
section
local macro_rules | `(tactic| walk_at "call ref") => `(tactic| (k_here; (with_reducible show wpAny _ _ (call (Value.ref 80) _) _ _ _); k_dflt (refine' mc_call (spec_sign _ _ _ _) ?k1 ?k2 ?k3 ?k4 ?k5 ?kK ?kd ?ku ?kR; (case k1 => k_asm); (case k2 => k_asm); (case k3 => k_asm); (case k4 => k_asm); (case k5 => k_asm); (case kK => first | exact rfl | assumption); (case kd => ktr_room); (case ku => ktr_units)); intro t9 h9 tk9 F9 N9; (try dsimp only); (try k_fold)))
local macro_rules | `(tactic| walk_at "CompSrc") => `(tactic| (k_here; k_dflt (refine LCg.CompSrc.ledger (by rfl) (by k_asm) (by k_asm) (by k_mem) (by kcf_size) ?_; intro g'; (refine' kct_list signS (by assumption) (fun k' t' I' oI' C' oC' D' m' ys' h' tk' E' hk' hC' hx' F' N' off' ne' => ?_) ?_); (all_goals (try (simp only [LCg.Off3, and_true] at off'))); (all_goals (try ((show KPfMark → _); intro hMark'))); kcf_last)))
local macro_rules | `(tactic| walk_at "call builtin:str.join") => `(tactic| (k_here; k_dflt (refine' join_many ?l ?u ?n ?o ?_; (case l => first | is_list | exact News.isList (by k_asm) (by k_mem)); (case u => exact sign_strs (by assumption)); (case n => (rw [List.length_map]; omega)); (case o => assumption)); intro _))
theorem law2 (w : World) {loose : List Str} {mean : ExcName → Option Value} {mg mb : Str → Option Value} {h₀ : Heap} {L fa D : Addr} {cd : Value} {ws : List Value} {ks : List Int} {s : Shared} {Q : Flow → Shared → Prop} {E : Value → Shared → Prop} {cS cT : Obj}
    (X : (KF w.params).In h₀) (B : Below callerA h₀ [] h₀) (T : Top qV loose mean mg mb h₀) (F : Fr h₀ L s.heap (fun y => if y = "cells" then some (.ref D) else none)) (N : News h₀ L s.heap [(D, LCg.lst ws), (L + 1 + 1, cT), (L + 1, cS)])
    (hi : IntsAre ws ks) (hk : ks.length = 6) (hD : L + 1 + 1 ≠ D ∧ L + 1 ≠ D)
    (hT : cT.data = .cell none)
    (k : ∀ cT' x t h' tk', cT'.data = .cell (some (.str (Mine.T x) t)) → AscL x → x.length = 6 → Fr h₀ L h' (fun y => if y = "cells" then some (.ref D) else none) → News h₀ L h' [(L + 1 + 1, cT'), (L + 1, cS)] → Q .next { s with heap := h', toks := tk' + 1 }) :
    wpAny (model PySem.Challenge.rw_kl0519_01.row.prog w) (callerA.deeper (EL L fa cd)) (exec (lawSt 1) (EL L fa cd)) Q E s := by
  revert X
  k_fill
  intro X
  conv => pattern lawSt _; whnf
  obtain ⟨x9, hx9, hl9, ej9, ok9⟩ := sign_join hk
  k_with_none
  k_steps
  all_goals (rename Fr _ _ _ _ => F1; rename News _ _ _ _ => N1; rename _ = Data.cell (some _) => d1; rw [ej9] at d1; exact k _ _ _ _ _ d1 hx9 hl9 F1 (news_tail (news_tail N1)))
end
end Mine
end

/-! Lw3 -/
noncomputable section
open PySem PySem.W PySem.Spec PySem.Calls PyProof.Rows
set_option maxRecDepth 100000
set_option maxHeartbeats 8000000
set_option linter.all false
namespace Mine
section
local macro_rules | `(tactic| walk_at "call builtin:str.replace") => `(tactic| (k_here; (refine replace_to (by assumption) (by first | omega | (simp; done) | (simp; omega)) (by first | omega | (simp; done) | (simp; omega)) (by first | omega | (simp; done) | (simp; omega)) (by decide +kernel) (by rw [T_len]; omega) (by decide +kernel) ?_); intro t9 k9 hk9; (try dsimp only at hk9)))
theorem law3 (w : World) {loose : List Str} {mean : ExcName → Option Value} {mg mb : Str → Option Value} {h₀ : Heap} {L fa D : Addr} {cd : Value} {s : Shared} {Q : Flow → Shared → Prop} {E : Value → Shared → Prop} {cS cT : Obj} {x z : List Nat} {t t1 t2 t3 : Tok} 
    (X : (KF w.params).In h₀) (B : Below callerA h₀ [] h₀) (T : Top qV loose mean mg mb h₀) (F : Fr h₀ L s.heap (fun y => if y = "cells" then some (.ref D) else none)) (N : News h₀ L s.heap [(L + 1 + 1, cT), (L + 1, cS)])
    (hT : cT.data = .cell (some (.str (Mine.T x) t))) (hx : AscL x) (hl : x.length = 6) (hs : s.toks ≠ 0)
    (k : ∀ t1 h' tk', Fr h₀ L h' (fun y => if y = "lines" then some (.str (Mine.T (normL x)) t1) else if y = "cells" then some (.ref D) else none) → News h₀ L h' [(L + 1 + 1, cT), (L + 1, cS)] → Q .next { s with heap := h', toks := tk' }) :
    wpAny (model PySem.Challenge.rw_kl0519_01.row.prog w) (callerA.deeper (EL L fa cd)) (exec (lawSt 2) (EL L fa cd)) Q E s := by
  revert X
  k_fill
  intro X
  conv => pattern lawSt _; whnf
  have e1 : Txt.replace (Mine.T x) (Str.ofString "\x0d\n") (Str.ofString "\n") = Mine.T (replL [13, 10] [10] 0 x) := by
    rw [show Str.ofString "\x0d\n" = Mine.T [13, 10] by decide +kernel, show Str.ofString "\n" = Mine.T [10] by decide +kernel]; exact replace_T x _ _ (by simp)
  have e2 : Txt.replace (Mine.T (replL [13, 10] [10] 0 x)) (Str.ofString "\x0d") (Str.ofString "\n") = Mine.T (normL x) := by
    rw [show Str.ofString "\x0d" = Mine.T [13] by decide +kernel, show Str.ofString "\n" = Mine.T [10] by decide +kernel, replace_T _ _ _ (by simp), norm_repl _ x (Nat.le_refl _)]
  have hr9 : (replL [13, 10] [10] 0 x).length ≤ 1000 := repl_len x hl
  k_with_none
  k_steps
  all_goals (rename Fr _ _ _ _ => F1; rename News _ _ _ _ => N1; exact k _ _ _ F1 N1)
end
end Mine
end

/-! Lw4 -/
noncomputable section
open PySem PySem.W PySem.Spec PySem.Calls PyProof.Rows
set_option maxRecDepth 100000
set_option maxHeartbeats 8000000
set_option linter.all false
namespace Mine
section
local macro_rules | `(tactic| walk_at "none such") => `(tactic| skip)
local macro_rules | `(tactic| walk_at "binaryOp Mult str int") => `(tactic| (k_here; (refine mul_many (by assumption) (by assumption) ?_); intro z9 t9 k9 hz9 hl9))
theorem law4 (w : World) {loose : List Str} {mean : ExcName → Option Value} {mg mb : Str → Option Value} {h₀ : Heap} {L fa D : Addr} {cd : Value} {s : Shared} {Q : Flow → Shared → Prop} {E : Value → Shared → Prop} {cS cT : Obj} {x z : List Nat} {t t1 t2 t3 : Tok} {l : Addr} {vs : List Value} {ns : List Int}
    (X : (KF w.params).In h₀) (B : Below callerA h₀ [] h₀) (T : Top qV loose mean mg mb h₀) (F : Fr h₀ L s.heap (fun y => if y = "lines" then some (.str (Mine.T (normL x)) t1) else if y = "cells" then some (.ref D) else none)) (N : News h₀ L s.heap [(L + 1 + 1, cT), (L + 1, cS)])
    (hT : cT.data = .cell (some (.str (Mine.T x) t))) (hx : AscL x) (hl : x.length = 6) (hS : cS.data = .cell (some (.ref l))) (hL : h₀.IsList l vs.toArray) (hi : IntsAre vs ns) (hn : ns.length ≤ 63)
    (k : ∀ z t2 h' tk', AscL z → z.length ≤ 100 → Fr h₀ L h' (fun y => if y = "much" then some (.str (Mine.T z) t2) else if y = "lines" then some (.str (Mine.T (normL x)) t1) else if y = "cells" then some (.ref D) else none) → News h₀ L h' [(L + 1 + 1, cT), (L + 1, cS)] → Q .next { s with heap := h', toks := tk' }) :
    wpAny (model PySem.Challenge.rw_kl0519_01.row.prog w) (callerA.deeper (EL L fa cd)) (exec (lawSt 3) (EL L fa cd)) Q E s := by
  revert X
  k_fill
  intro X
  conv => pattern lawSt _; whnf
  k_with_none
  k_steps
  all_goals (rename Fr _ _ _ _ => F1; rename News _ _ _ _ => N1; exact k _ _ _ _ (by assumption) (by assumption) F1 N1)
end
end Mine
end

/-! Lw5 -/
noncomputable section
open PySem PySem.W PySem.Spec PySem.Calls PyProof.Rows
set_option maxRecDepth 100000
set_option maxHeartbeats 8000000
set_option linter.all false
namespace Mine
section
local macro_rules | `(tactic| walk_at "call ref") => `(tactic| (k_here; (with_reducible show wpAny _ _ (call (Value.ref 87) _) _ _ _); k_dflt (refine' mc_call (by assumption) ?k1 ?k2 ?k3 ?k4 ?k5 ?kK ?kd ?ku ?_; (case k1 => k_asm); (case k2 => k_asm); (case k3 => k_asm); (case k4 => k_asm); (case k5 => k_asm); (case kK => first | exact rfl | assumption); (case kd => ktr_room); (case ku => ktr_units)); intro t9 h9 tk9 F9 N9; (try dsimp only); (try k_fold)))
theorem law5 (w : World) {loose : List Str} {mean : ExcName → Option Value} {mg mb : Str → Option Value} {h₀ : Heap} {L fa D : Addr} {cd : Value} {s : Shared} {Q : Flow → Shared → Prop} {E : Value → Shared → Prop} {cS cT : Obj} {x z : List Nat} {t t1 t2 t3 : Tok} 
    (X : (KF w.params).In h₀) (B : Below callerA h₀ [] h₀) (T : Top qV loose mean mg mb h₀) (F : Fr h₀ L s.heap (fun y => if y = "much" then some (.str (Mine.T z) t2) else if y = "lines" then some (.str (Mine.T (normL x)) t1) else if y = "cells" then some (.ref D) else none)) (N : News h₀ L s.heap [(L + 1 + 1, cT), (L + 1, cS)])
    (hT : cT.data = .cell (some (.str (Mine.T x) t))) (hx : AscL x) (hl : x.length = 6) (hz : AscL z) (hzl : z.length ≤ 100)
    (k : ∀ t3 h' tk', Fr h₀ L h' (fun y => if y = "whole" then some (.str (Mine.T (tell z)) t3) else if y = "much" then some (.str (Mine.T z) t2) else if y = "lines" then some (.str (Mine.T (normL x)) t1) else if y = "cells" then some (.ref D) else none) → News h₀ L h' [(L + 1 + 1, cT), (L + 1, cS)] → Q .next { s with heap := h', toks := tk' }) :
    wpAny (model PySem.Challenge.rw_kl0519_01.row.prog w) (callerA.deeper (EL L fa cd)) (exec (lawSt 4) (EL L fa cd)) Q E s := by
  revert X
  k_fill
  intro X
  conv => pattern lawSt _; whnf
  have ht9 := spec_told w (loose := loose) (mean := mean) (mg := mg) (mb := mb) [(L + 1 + 1, cT), (L + 1, cS)] (Mine.T z) t2 (ascT hz) (by rw [T_len]; exact hzl)
  rw [toldS_T hz] at ht9
  k_with_none
  k_steps
  all_goals (rename Fr _ _ _ _ => F1; rename News _ _ _ _ => N1; exact k _ _ _ F1 N1)
end
end Mine
end

/-! Lw6 -/
noncomputable section
open PySem PySem.W PySem.Spec PySem.Calls PyProof.Rows
set_option maxRecDepth 100000
set_option maxHeartbeats 8000000
set_option linter.all false
namespace Mine
section
local macro_rules | `(tactic| walk_at "call ref") => `(tactic| (k_here; (with_reducible show wpAny _ _ (call (Value.ref 22) _) _ _ _); k_dflt (refine' mc_call (c_repr _ _ _ _ ?a1 ?a2) ?k1 ?k2 ?k3 ?k4 ?k5 ?kK ?kd ?ku ?_; (case a1 => with_reducible assumption); (case a2 => with_reducible assumption); (case k1 => k_asm); (case k2 => k_asm); (case k3 => k_asm); (case k4 => k_asm); (case k5 => k_asm); (case kK => first | exact rfl | assumption); (case kd => ktr_room); (case ku => ktr_units)); intro t9 h9 tk9 F9 N9; (try dsimp only); (try k_fold)))
local macro_rules | `(tactic| walk_at "call ref") => `(tactic| (k_here; (with_reducible show wpAny _ _ (call (Value.ref 65) _) _ _ _); k_dflt (refine' mc_call (c_body _ _ _ _ ?a1 ?a2) ?k1 ?k2 ?k3 ?k4 ?k5 ?kK ?kd ?ku ?_; (case a1 => with_reducible assumption); (case a2 => with_reducible assumption); (case k1 => k_asm); (case k2 => k_asm); (case k3 => k_asm); (case k4 => k_asm); (case k5 => k_asm); (case kK => first | exact rfl | assumption); (case kd => ktr_room); (case ku => ktr_units)); intro t9 h9 tk9 F9 N9; (try dsimp only); (try k_fold)))
local macro_rules | `(tactic| walk_at "call ref") => `(tactic| (k_here; (with_reducible show wpAny _ _ (call (Value.ref 94) _) _ _ _); k_dflt (refine' mc_call (c_sent _ _ _ _ ?a1 ?a2) ?k1 ?k2 ?k3 ?k4 ?k5 ?kK ?kd ?ku ?_; (case a1 => with_reducible assumption); (case a2 => with_reducible assumption); (case k1 => k_asm); (case k2 => k_asm); (case k3 => k_asm); (case k4 => k_asm); (case k5 => k_asm); (case kK => first | exact rfl | assumption); (case kd => ktr_room); (case ku => ktr_units)); intro t9 h9 tk9 F9 N9; (try dsimp only); (try k_fold)))
theorem law6 (w : World) {loose : List Str} {mean : ExcName → Option Value} {mg mb : Str → Option Value} {h₀ : Heap} {L fa D : Addr} {cd : Value} {s : Shared} {Q : Flow → Shared → Prop} {E : Value → Shared → Prop} {cS cT : Obj} {x z : List Nat} {t t1 t2 t3 : Tok} 
    (X : (KF w.params).In h₀) (B : Below callerA h₀ [] h₀) (T : Top qV loose mean mg mb h₀) (F : Fr h₀ L s.heap (fun y => if y = "whole" then some (.str (Mine.T (tell z)) t3) else if y = "much" then some (.str (Mine.T z) t2) else if y = "lines" then some (.str (Mine.T (normL x)) t1) else if y = "cells" then some (.ref D) else none)) (N : News h₀ L s.heap [(L + 1 + 1, cT), (L + 1, cS)])
    (hT : cT.data = .cell (some (.str (Mine.T x) t))) (hx : AscL x) (hl : x.length = 6) (hz : AscL z) (hzl : z.length ≤ 100)
    (k : ∀ h' tk', Fr h₀ L h' (fun y => if y = "whole" then some (.str (Mine.T (tell z)) t3) else if y = "much" then some (.str (Mine.T z) t2) else if y = "lines" then some (.str (Mine.T (normL x)) t1) else if y = "cells" then some (.ref D) else none) → News h₀ L h' [(L + 1 + 1, cT), (L + 1, cS)] → Q .next { s with heap := h', toks := tk' }) :
    wpAny (model PySem.Challenge.rw_kl0519_01.row.prog w) (callerA.deeper (EL L fa cd)) (exec (lawSt 5) (EL L fa cd)) Q E s := by
  revert X
  k_fill
  intro X
  conv => pattern lawSt _; whnf
  have hn9 := norm_asc hx
  have hnl9 : (normL x).length ≤ 100 := by have := norm_len x; omega
  k_with_none
  k_steps
  all_goals first | exact (str_ne_self (by with_reducible assumption)).elim | (rename Fr _ _ _ _ => F1; rename News _ _ _ _ => N1; exact k _ _ F1 N1)
end
end Mine
end

/-! Lw7 -/
noncomputable section
open PySem PySem.W PySem.Spec PySem.Calls PyProof.Rows
set_option maxRecDepth 100000
set_option maxHeartbeats 8000000
set_option linter.all false
namespace Mine
section
local macro_rules | `(tactic| walk_at "call ref") => `(tactic| (k_here; (with_reducible show wpAny _ _ (call (Value.ref 22) _) _ _ _); k_dflt (refine' mc_call (c_short _ _ _ _ ?a1 ?a2) ?k1 ?k2 ?k3 ?k4 ?k5 ?kK ?kd ?ku ?_; (case a1 => with_reducible assumption); (case a2 => with_reducible assumption); (case k1 => k_asm); (case k2 => k_asm); (case k3 => k_asm); (case k4 => k_asm); (case k5 => k_asm); (case kK => first | exact rfl | assumption); (case kd => ktr_room); (case ku => ktr_units)); intro t9 h9 tk9 F9 N9; (try dsimp only); (try k_fold)))
theorem law7 (w : World) {loose : List Str} {mean : ExcName → Option Value} {mg mb : Str → Option Value} {h₀ : Heap} {L fa D : Addr} {cd : Value} {s : Shared} {Q : Flow → Shared → Prop} {E : Value → Shared → Prop} {cS cT : Obj} {x z : List Nat} {t t1 t2 t3 : Tok} 
    (X : (KF w.params).In h₀) (B : Below callerA h₀ [] h₀) (T : Top qV loose mean mg mb h₀) (F : Fr h₀ L s.heap (fun y => if y = "whole" then some (.str (Mine.T (tell z)) t3) else if y = "much" then some (.str (Mine.T z) t2) else if y = "lines" then some (.str (Mine.T (normL x)) t1) else if y = "cells" then some (.ref D) else none)) (N : News h₀ L s.heap [(L + 1 + 1, cT), (L + 1, cS)])
    (hT : cT.data = .cell (some (.str (Mine.T x) t))) (hx : AscL x) (hl : x.length = 6) (hz : AscL z) (hzl : z.length ≤ 100)
    (k : ∀ h' tk', Fr h₀ L h' (fun y => if y = "whole" then some (.str (Mine.T (tell z)) t3) else if y = "much" then some (.str (Mine.T z) t2) else if y = "lines" then some (.str (Mine.T (normL x)) t1) else if y = "cells" then some (.ref D) else none) → News h₀ L h' [(L + 1 + 1, cT), (L + 1, cS)] → Q .next { s with heap := h', toks := tk' }) :
    wpAny (model PySem.Challenge.rw_kl0519_01.row.prog w) (callerA.deeper (EL L fa cd)) (exec (lawSt 6) (EL L fa cd)) Q E s := by
  revert X
  k_fill
  intro X
  conv => pattern lawSt _; whnf
  have hwl9 : (Mine.T (tell z)).length ≤ 500 := by have := tell_len hz; rw [T_len]; omega
  k_with_none
  k_steps
  all_goals first | exact (short_no1 hz (by with_reducible assumption) (by with_reducible assumption)).elim | exact (short_no2 hz (by with_reducible assumption) (by with_reducible assumption)).elim | (rename Fr _ _ _ _ => F1; rename News _ _ _ _ => N1; exact k _ _ F1 N1)
end
end Mine
end

/-! Lw8 -/
noncomputable section
open PySem PySem.W PySem.Spec PySem.Calls PyProof.Rows
set_option maxRecDepth 100000
set_option maxHeartbeats 8000000
set_option linter.all false
namespace Mine
section
local macro_rules | `(tactic| walk_at "exec Assign cons ListComp") => `(tactic| (k_here; k_dflt (refine tup_assign (F₀ := by k_asm) (by rfl) (by with_unfolding_all rfl) (by with_unfolding_all rfl) (by decide) (by rfl) (by decide) (by rfl) (by rfl) (by rfl) ?_ (by intro _; rfl))))
local macro_rules | `(tactic| walk_at "TupSrc") => `(tactic| (k_here; k_dflt (refine TupSrc.intro (by rfl) (by k_asm) (by k_asm) (by k_mem) (by exact Nat.le_of_ble_eq_true rfl) ?_; intro g9; lcg_lit)))
local macro_rules | `(tactic| walk_at "call ref") => `(tactic| (k_here; (with_reducible show wpAny _ _ (call (Value.ref 115) _) _ _ _); k_dflt (refine' mc_call (c_ttww _ _ _ _ _ ?a1 ?a2) ?k1 ?k2 ?k3 ?k4 ?k5 ?kK ?kd ?ku ?_; (case a1 => with_reducible assumption); (case a2 => with_reducible assumption); (case k1 => k_asm); (case k2 => k_asm); (case k3 => k_asm); (case k4 => k_asm); (case k5 => k_asm); (case kK => first | exact rfl | assumption); (case kd => ktr_room); (case ku => ktr_units)); intro t9 h9 tk9 F9 N9; (try dsimp only); (try k_fold)))
local macro_rules | `(tactic| walk_at "call ref") => `(tactic| (k_here; (with_reducible show wpAny _ _ (call (Value.ref 115) _) _ _ _); k_dflt (refine' mc_call (c_twtw _ _ _ _ _ ?a1 ?a2) ?k1 ?k2 ?k3 ?k4 ?k5 ?kK ?kd ?ku ?_; (case a1 => with_reducible assumption); (case a2 => with_reducible assumption); (case k1 => k_asm); (case k2 => k_asm); (case k3 => k_asm); (case k4 => k_asm); (case k5 => k_asm); (case kK => first | exact rfl | assumption); (case kd => ktr_room); (case ku => ktr_units)); intro t9 h9 tk9 F9 N9; (try dsimp only); (try k_fold)))
local macro_rules | `(tactic| walk_at "call ref") => `(tactic| (k_here; (with_reducible show wpAny _ _ (call (Value.ref 115) _) _ _ _); k_dflt (refine' mc_call (c_twwt _ _ _ _ _ ?a1 ?a2) ?k1 ?k2 ?k3 ?k4 ?k5 ?kK ?kd ?ku ?_; (case a1 => with_reducible assumption); (case a2 => with_reducible assumption); (case k1 => k_asm); (case k2 => k_asm); (case k3 => k_asm); (case k4 => k_asm); (case k5 => k_asm); (case kK => first | exact rfl | assumption); (case kd => ktr_room); (case ku => ktr_units)); intro t9 h9 tk9 F9 N9; (try dsimp only); (try k_fold)))
theorem law8 (w : World) {loose : List Str} {mean : ExcName → Option Value} {mg mb : Str → Option Value} {h₀ : Heap} {L fa D : Addr} {cd : Value} {s : Shared} {Q : Flow → Shared → Prop} {E : Value → Shared → Prop} {cS cT : Obj} {x z : List Nat} {t t1 t2 t3 : Tok} 
    (X : (KF w.params).In h₀) (B : Below callerA h₀ [] h₀) (T : Top qV loose mean mg mb h₀) (F : Fr h₀ L s.heap (fun y => if y = "whole" then some (.str (Mine.T (tell z)) t3) else if y = "much" then some (.str (Mine.T z) t2) else if y = "lines" then some (.str (Mine.T (normL x)) t1) else if y = "cells" then some (.ref D) else none)) (N : News h₀ L s.heap [(L + 1 + 1, cT), (L + 1, cS)])
    (hT : cT.data = .cell (some (.str (Mine.T x) t))) (hx : AscL x) (hl : x.length = 6) 
    (k : ∀ D1 a1 a2 a3 h' tk', Fr h₀ L h' (fun y => if y = "told" then some (.ref D1) else if y = "whole" then some (.str (Mine.T (tell z)) t3) else if y = "much" then some (.str (Mine.T z) t2) else if y = "lines" then some (.str (Mine.T (normL x)) t1) else if y = "cells" then some (.ref D) else none) → News h₀ L h' [(D1, LCg.lst [.str (Mine.T (RT x)) a1, .str (Mine.T (RT x)) a2, .str (Mine.T (RT x)) a3]), (L + 1 + 1, cT), (L + 1, cS)] → L + 1 + 1 ≠ D1 ∧ L + 1 ≠ D1 → Q .next { s with heap := h', toks := tk' }) :
    wpAny (model PySem.Challenge.rw_kl0519_01.row.prog w) (callerA.deeper (EL L fa cd)) (exec (lawSt 7) (EL L fa cd)) Q E s := by
  revert X
  k_fill
  intro X
  conv => pattern lawSt _; whnf
  k_with_none
  k_steps
  all_goals (rename Fr _ _ _ _ => F1; rename News _ _ _ _ => N1; rename _ ≠ _ ∧ _ ≠ _ ∧ _ ≠ _ => o1; exact k _ _ _ _ _ _ F1 (news_snd N1) o1.2)
end
end Mine
end

/-! Lw9 -/
noncomputable section
open PySem PySem.W PySem.Spec PySem.Calls PyProof.Rows
set_option maxRecDepth 100000
set_option maxHeartbeats 8000000
set_option linter.all false
namespace Mine
section
local macro_rules | `(tactic| walk_at "none such") => `(tactic| skip)
local macro_rules | `(tactic| walk_at "exec Assign cons ListComp") => `(tactic| (k_here; k_dflt (refine tup_assign (F₀ := by k_asm) (by rfl) (by with_unfolding_all rfl) (by with_unfolding_all rfl) (by decide) (by rfl) (by decide) (by rfl) (by rfl) (by rfl) ?_ (by intro _; rfl))))
local macro_rules | `(tactic| walk_at "TupSrc") => `(tactic| (k_here; k_dflt (refine TupSrc.intro (by rfl) (by k_asm) (by k_asm) (by k_mem) (by exact Nat.le_of_ble_eq_true rfl) ?_; intro g9; lcg_lit)))
local macro_rules | `(tactic| walk_at "call ref") => `(tactic| (k_here; (with_reducible show wpAny _ _ (call (Value.ref 115) _) _ _ _); k_dflt (refine' mc_call (c_wwtt _ _ _ _ _ ?a1 ?a2) ?k1 ?k2 ?k3 ?k4 ?k5 ?kK ?kd ?ku ?_; (case a1 => with_reducible assumption); (case a2 => with_reducible assumption); (case k1 => k_asm); (case k2 => k_asm); (case k3 => k_asm); (case k4 => k_asm); (case k5 => k_asm); (case kK => first | exact rfl | assumption); (case kd => ktr_room); (case ku => ktr_units)); intro t9 h9 tk9 F9 N9; (try dsimp only); (try k_fold)))
local macro_rules | `(tactic| walk_at "call ref") => `(tactic| (k_here; (with_reducible show wpAny _ _ (call (Value.ref 115) _) _ _ _); k_dflt (refine' mc_call (c_wtwt _ _ _ _ _ ?a1 ?a2) ?k1 ?k2 ?k3 ?k4 ?k5 ?kK ?kd ?ku ?_; (case a1 => with_reducible assumption); (case a2 => with_reducible assumption); (case k1 => k_asm); (case k2 => k_asm); (case k3 => k_asm); (case k4 => k_asm); (case k5 => k_asm); (case kK => first | exact rfl | assumption); (case kd => ktr_room); (case ku => ktr_units)); intro t9 h9 tk9 F9 N9; (try dsimp only); (try k_fold)))
local macro_rules | `(tactic| walk_at "call ref") => `(tactic| (k_here; (with_reducible show wpAny _ _ (call (Value.ref 115) _) _ _ _); k_dflt (refine' mc_call (c_wttw _ _ _ _ _ ?a1 ?a2) ?k1 ?k2 ?k3 ?k4 ?k5 ?kK ?kd ?ku ?_; (case a1 => with_reducible assumption); (case a2 => with_reducible assumption); (case k1 => k_asm); (case k2 => k_asm); (case k3 => k_asm); (case k4 => k_asm); (case k5 => k_asm); (case kK => first | exact rfl | assumption); (case kd => ktr_room); (case ku => ktr_units)); intro t9 h9 tk9 F9 N9; (try dsimp only); (try k_fold)))
theorem law9 (w : World) {loose : List Str} {mean : ExcName → Option Value} {mg mb : Str → Option Value} {h₀ : Heap} {L fa D : Addr} {cd : Value} {s : Shared} {Q : Flow → Shared → Prop} {E : Value → Shared → Prop} {cS cT : Obj} {x z : List Nat} {t t1 t2 t3 : Tok} {D1 : Addr} {a1 a2 a3 : Tok}
    (X : (KF w.params).In h₀) (B : Below callerA h₀ [] h₀) (T : Top qV loose mean mg mb h₀) (F : Fr h₀ L s.heap (fun y => if y = "told" then some (.ref D1) else if y = "whole" then some (.str (Mine.T (tell z)) t3) else if y = "much" then some (.str (Mine.T z) t2) else if y = "lines" then some (.str (Mine.T (normL x)) t1) else if y = "cells" then some (.ref D) else none)) (N : News h₀ L s.heap [(D1, LCg.lst [.str (Mine.T (RT x)) a1, .str (Mine.T (RT x)) a2, .str (Mine.T (RT x)) a3]), (L + 1 + 1, cT), (L + 1, cS)])
    (hT : cT.data = .cell (some (.str (Mine.T x) t))) (hx : AscL x) (hl : x.length = 6) (hD1 : L + 1 + 1 ≠ D1 ∧ L + 1 ≠ D1)
    (k : ∀ D2 b1 b2 b3 h' tk', Fr h₀ L h' (fun y => if y = "sent" then some (.ref D2) else if y = "told" then some (.ref D1) else if y = "whole" then some (.str (Mine.T (tell z)) t3) else if y = "much" then some (.str (Mine.T z) t2) else if y = "lines" then some (.str (Mine.T (normL x)) t1) else if y = "cells" then some (.ref D) else none) → News h₀ L h' [(D2, LCg.lst [.str (Mine.T (RW x)) b1, .str (Mine.T (RW x)) b2, .str (Mine.T (RW x)) b3]), (D1, LCg.lst [.str (Mine.T (RT x)) a1, .str (Mine.T (RT x)) a2, .str (Mine.T (RT x)) a3]), (L + 1 + 1, cT), (L + 1, cS)] → D1 ≠ D2 ∧ L + 1 + 1 ≠ D2 ∧ L + 1 ≠ D2 → Q .next { s with heap := h', toks := tk' }) :
    wpAny (model PySem.Challenge.rw_kl0519_01.row.prog w) (callerA.deeper (EL L fa cd)) (exec (lawSt 8) (EL L fa cd)) Q E s := by
  revert X
  k_fill
  intro X
  conv => pattern lawSt _; whnf
  k_with_none
  k_steps
  all_goals (rename Fr _ _ _ _ => F1; rename News _ _ _ _ => N1; rename _ ≠ _ ∧ _ ≠ _ ∧ _ ≠ _ ∧ _ ≠ _ => o1; exact k _ _ _ _ _ _ F1 (news_snd N1) o1.2)
end
end Mine
end

/-! Lw10 -/
noncomputable section
open PySem PySem.W PySem.Spec PySem.Calls PyProof.Rows
set_option maxRecDepth 100000
set_option maxHeartbeats 8000000
set_option linter.all false
namespace Mine
section
local macro_rules | `(tactic| walk_at "compareOp NotEq ref ref") => `(tactic| (k_here; (with_reducible show wpAny _ _ (compareOp CmpOp.NotEq (Value.ref _) (Value.ref _)) _ _ _); k_dflt (refine' ne_three ?hy ?ha ?ca ?da ?hb ?cb ?db ?hu ?_; (case ha => exact News.get (by k_asm) (by k_mem)); (case hb => exact News.get (by k_asm) (by k_mem)); (case ca => rfl); (case cb => rfl); (case da => rfl); (case db => rfl); (case hy => with_reducible assumption); (case hu => ke_room); k_whole)))
local macro_rules | `(tactic| walk_at "call ref") => `(tactic| (k_here; (with_reducible show wpAny _ _ (call (Value.ref 108) _) _ _ _); k_dflt (refine' mc_call (c_even _ _ _ _ ?a1 ?a2) ?k1 ?k2 ?k3 ?k4 ?k5 ?kK ?kd ?ku ?_; (case a1 => with_reducible assumption); (case a2 => with_reducible assumption); (case k1 => k_asm); (case k2 => k_asm); (case k3 => k_asm); (case k4 => k_asm); (case k5 => k_asm); (case kK => first | exact rfl | assumption); (case kd => ktr_room); (case ku => ktr_units)); intro t9 h9 tk9 F9 N9; (try dsimp only); (try k_fold)))
theorem law10 (w : World) {loose : List Str} {mean : ExcName → Option Value} {mg mb : Str → Option Value} {h₀ : Heap} {L fa D : Addr} {cd : Value} {s : Shared} {Q : Flow → Shared → Prop} {E : Value → Shared → Prop} {cS cT : Obj} {x z : List Nat} {t t1 t2 t3 : Tok} {D1 D2 : Addr} {a1 a2 a3 b1 b2 b3 : Tok}
    (X : (KF w.params).In h₀) (B : Below callerA h₀ [] h₀) (T : Top qV loose mean mg mb h₀) (F : Fr h₀ L s.heap (fun y => if y = "sent" then some (.ref D2) else if y = "told" then some (.ref D1) else if y = "whole" then some (.str (Mine.T (tell z)) t3) else if y = "much" then some (.str (Mine.T z) t2) else if y = "lines" then some (.str (Mine.T (normL x)) t1) else if y = "cells" then some (.ref D) else none)) (N : News h₀ L s.heap [(D2, LCg.lst [.str (Mine.T (RW x)) b1, .str (Mine.T (RW x)) b2, .str (Mine.T (RW x)) b3]), (D1, LCg.lst [.str (Mine.T (RT x)) a1, .str (Mine.T (RT x)) a2, .str (Mine.T (RT x)) a3]), (L + 1 + 1, cT), (L + 1, cS)])
    (hT : cT.data = .cell (some (.str (Mine.T x) t))) (hx : AscL x) (hl : x.length = 6) (hD1 : L + 1 + 1 ≠ D1 ∧ L + 1 ≠ D1) (hD2 : D1 ≠ D2 ∧ L + 1 + 1 ≠ D2 ∧ L + 1 ≠ D2)
    (k : ∀ h' tk', Fr h₀ L h' (fun y => if y = "sent" then some (.ref D2) else if y = "told" then some (.ref D1) else if y = "whole" then some (.str (Mine.T (tell z)) t3) else if y = "much" then some (.str (Mine.T z) t2) else if y = "lines" then some (.str (Mine.T (normL x)) t1) else if y = "cells" then some (.ref D) else none) → News h₀ L h' [(D2, LCg.lst [.str (Mine.T (RW x)) b1, .str (Mine.T (RW x)) b2, .str (Mine.T (RW x)) b3]), (D1, LCg.lst [.str (Mine.T (RT x)) a1, .str (Mine.T (RT x)) a2, .str (Mine.T (RT x)) a3]), (L + 1 + 1, cT), (L + 1, cS)] → Q .next { s with heap := h', toks := tk' }) :
    wpAny (model PySem.Challenge.rw_kl0519_01.row.prog w) (callerA.deeper (EL L fa cd)) (exec (lawSt 9) (EL L fa cd)) Q E s := by
  revert X
  k_fill
  intro X
  conv => pattern lawSt _; whnf
  have hRT := RT_asc hx
  have hRW := RW_asc hx
  have hxl : x.length ≤ 100 := by omega
  k_with_none
  k_steps
  all_goals first | exact (meet_no hx (by with_reducible assumption)).elim | (rename Fr _ _ _ _ => F1; rename News _ _ _ _ => N1; exact k _ _ F1 (news_tail (news_tail (news_tail (news_tail N1)))))
end
end Mine
end

/-! Lw11 -/
noncomputable section
open PySem PySem.W PySem.Spec PySem.Calls PyProof.Rows
set_option maxRecDepth 100000
set_option maxHeartbeats 8000000
set_option linter.all false
namespace Mine
section
local macro_rules | `(tactic| walk_at "call builtin:str.replace") => `(tactic| (k_here; (refine replace_to (by assumption) (by first | omega | (simp; done) | (simp; omega)) (by first | omega | (simp; done) | (simp; omega)) (by first | omega | (simp; done) | (simp; omega)) (by decide +kernel) (by rw [T_len]; omega) (by decide +kernel) ?_); intro t9 k9 hk9; (try dsimp only at hk9)))
local macro_rules | `(tactic| walk_at "call ref") => `(tactic| (k_here; (with_reducible show wpAny _ _ (call (Value.ref 73) _) _ _ _); k_dflt (refine' mc_call (c_decode _ _ _ _ _ ?a1 ?a2) ?k1 ?k2 ?k3 ?k4 ?k5 ?kK ?kd ?ku ?_; (case a1 => with_reducible assumption); (case a2 => with_reducible assumption); (case k1 => k_asm); (case k2 => k_asm); (case k3 => k_asm); (case k4 => k_asm); (case k5 => k_asm); (case kK => first | exact rfl | assumption); (case kd => ktr_room); (case ku => ktr_units)); intro t9 h9 tk9 F9 N9; (try dsimp only); (try k_fold)))
local macro_rules | `(tactic| walk_at "call ref") => `(tactic| (k_here; (with_reducible show wpAny _ _ (call (Value.ref 101) _) _ _ _); k_dflt (refine' mc_call (c_readE _ _ _ _ _ ?a1 ?a2 ?a3) ?k1 ?k2 ?k3 ?k4 ?k5 ?kK ?kd ?ku ?_; (case a1 => with_reducible assumption); (case a2 => with_reducible assumption); (case a3 => with_reducible assumption); (case k1 => k_asm); (case k2 => k_asm); (case k3 => k_asm); (case k4 => k_asm); (case k5 => k_asm); (case kK => first | exact rfl | assumption); (case kd => ktr_room); (case ku => ktr_units)); intro t9 h9 tk9 F9 N9; (try dsimp only); (try k_fold)))
theorem law11 (w : World) {loose : List Str} {mean : ExcName → Option Value} {mg mb : Str → Option Value} {h₀ : Heap} {L fa D : Addr} {cd : Value} {s : Shared} {Q : Flow → Shared → Prop} {E : Value → Shared → Prop} {cS cT : Obj} {x z : List Nat} {t t1 t2 t3 : Tok} {D1 D2 : Addr} {a1 a2 a3 b1 b2 b3 : Tok}
    (X : (KF w.params).In h₀) (B : Below callerA h₀ [] h₀) (T : Top qV loose mean mg mb h₀) (F : Fr h₀ L s.heap (fun y => if y = "sent" then some (.ref D2) else if y = "told" then some (.ref D1) else if y = "whole" then some (.str (Mine.T (tell z)) t3) else if y = "much" then some (.str (Mine.T z) t2) else if y = "lines" then some (.str (Mine.T (normL x)) t1) else if y = "cells" then some (.ref D) else none)) (N : News h₀ L s.heap [(D2, LCg.lst [.str (Mine.T (RW x)) b1, .str (Mine.T (RW x)) b2, .str (Mine.T (RW x)) b3]), (D1, LCg.lst [.str (Mine.T (RT x)) a1, .str (Mine.T (RT x)) a2, .str (Mine.T (RT x)) a3]), (L + 1 + 1, cT), (L + 1, cS)])
    (hT : cT.data = .cell (some (.str (Mine.T x) t))) (hx : AscL x) (hl : x.length = 6) (hD1 : L + 1 + 1 ≠ D1 ∧ L + 1 ≠ D1) (hD2 : D1 ≠ D2 ∧ L + 1 + 1 ≠ D2 ∧ L + 1 ≠ D2)
    (k : ∀ h' tk', Fr h₀ L h' (fun y => if y = "sent" then some (.ref D2) else if y = "told" then some (.ref D1) else if y = "whole" then some (.str (Mine.T (tell z)) t3) else if y = "much" then some (.str (Mine.T z) t2) else if y = "lines" then some (.str (Mine.T (normL x)) t1) else if y = "cells" then some (.ref D) else none) → News h₀ L h' [(D2, LCg.lst [.str (Mine.T (RW x)) b1, .str (Mine.T (RW x)) b2, .str (Mine.T (RW x)) b3]), (D1, LCg.lst [.str (Mine.T (RT x)) a1, .str (Mine.T (RT x)) a2, .str (Mine.T (RT x)) a3]), (L + 1 + 1, cT), (L + 1, cS)] → Q .next { s with heap := h', toks := tk' }) :
    wpAny (model PySem.Challenge.rw_kl0519_01.row.prog w) (callerA.deeper (EL L fa cd)) (exec (lawSt 10) (EL L fa cd)) Q E s := by
  revert X
  k_fill
  intro X
  conv => pattern lawSt _; whnf
  have hr9 := rep_RT x
  have hRl := RT_len hx hl
  have q1 := dec_t1 hx
  have q2 := dec_t2 hx
  have q3 := len_t1 hx hl
  have q4 := len_t2 hx hl
  have q5 := len_t3 hx hl
  have q6 := len_t4 hx hl
  have q7 : (Mine.T (eqX (tell (tell x)))).length ≤ 500 := by rw [Str.length_append] at q3; omega
  have q8 : AscL (tell x) := (tell_pr hx).asc
  have q9 : tell (tell x) = tell (tell x) := rfl
  have q10 : tell x = tell x := rfl
  k_with_none
  k_steps
  all_goals first | exact (str_ne_self (by with_reducible assumption)).elim | (rename Fr _ _ _ _ => F1; rename News _ _ _ _ => N1; exact k _ _ F1 N1)
end
end Mine
end

/-! Lw12 -/
noncomputable section
open PySem PySem.W PySem.Spec PySem.Calls PyProof.Rows
set_option maxRecDepth 100000
set_option maxHeartbeats 8000000
set_option linter.all false
namespace Mine
section
local macro_rules | `(tactic| walk_at "call ref") => `(tactic| (k_here; (with_reducible show wpAny _ _ (call (Value.ref 73) _) _ _ _); k_dflt (refine' mc_call (c_decode _ _ _ _ _ ?a1 ?a2) ?k1 ?k2 ?k3 ?k4 ?k5 ?kK ?kd ?ku ?_; (case a1 => with_reducible assumption); (case a2 => with_reducible assumption); (case k1 => k_asm); (case k2 => k_asm); (case k3 => k_asm); (case k4 => k_asm); (case k5 => k_asm); (case kK => first | exact rfl | assumption); (case kd => ktr_room); (case ku => ktr_units)); intro t9 h9 tk9 F9 N9; (try dsimp only); (try k_fold)))
local macro_rules | `(tactic| walk_at "call ref") => `(tactic| (k_here; (with_reducible show wpAny _ _ (call (Value.ref 101) _) _ _ _); k_dflt (refine' mc_call (c_readE _ _ _ _ _ ?a1 ?a2 ?a3) ?k1 ?k2 ?k3 ?k4 ?k5 ?kK ?kd ?ku ?_; (case a1 => with_reducible assumption); (case a2 => with_reducible assumption); (case a3 => with_reducible assumption); (case k1 => k_asm); (case k2 => k_asm); (case k3 => k_asm); (case k4 => k_asm); (case k5 => k_asm); (case kK => first | exact rfl | assumption); (case kd => ktr_room); (case ku => ktr_units)); intro t9 h9 tk9 F9 N9; (try dsimp only); (try k_fold)))
theorem law12 (w : World) {loose : List Str} {mean : ExcName → Option Value} {mg mb : Str → Option Value} {h₀ : Heap} {L fa D : Addr} {cd : Value} {s : Shared} {Q : Flow → Shared → Prop} {E : Value → Shared → Prop} {cS cT : Obj} {x z : List Nat} {t t1 t2 t3 : Tok} {D1 D2 : Addr} {a1 a2 a3 b1 b2 b3 : Tok}
    (X : (KF w.params).In h₀) (B : Below callerA h₀ [] h₀) (T : Top qV loose mean mg mb h₀) (F : Fr h₀ L s.heap (fun y => if y = "sent" then some (.ref D2) else if y = "told" then some (.ref D1) else if y = "whole" then some (.str (Mine.T (tell z)) t3) else if y = "much" then some (.str (Mine.T z) t2) else if y = "lines" then some (.str (Mine.T (normL x)) t1) else if y = "cells" then some (.ref D) else none)) (N : News h₀ L s.heap [(D2, LCg.lst [.str (Mine.T (RW x)) b1, .str (Mine.T (RW x)) b2, .str (Mine.T (RW x)) b3]), (D1, LCg.lst [.str (Mine.T (RT x)) a1, .str (Mine.T (RT x)) a2, .str (Mine.T (RT x)) a3]), (L + 1 + 1, cT), (L + 1, cS)])
    (hT : cT.data = .cell (some (.str (Mine.T x) t))) (hx : AscL x) (hl : x.length = 6) (hD1 : L + 1 + 1 ≠ D1 ∧ L + 1 ≠ D1) (hD2 : D1 ≠ D2 ∧ L + 1 + 1 ≠ D2 ∧ L + 1 ≠ D2)
    (k : ∀ h' tk', Fr h₀ L h' (fun y => if y = "sent" then some (.ref D2) else if y = "told" then some (.ref D1) else if y = "whole" then some (.str (Mine.T (tell z)) t3) else if y = "much" then some (.str (Mine.T z) t2) else if y = "lines" then some (.str (Mine.T (normL x)) t1) else if y = "cells" then some (.ref D) else none) → News h₀ L h' [(D2, LCg.lst [.str (Mine.T (RW x)) b1, .str (Mine.T (RW x)) b2, .str (Mine.T (RW x)) b3]), (D1, LCg.lst [.str (Mine.T (RT x)) a1, .str (Mine.T (RT x)) a2, .str (Mine.T (RT x)) a3]), (L + 1 + 1, cT), (L + 1, cS)] → Q (.ret (.bool true)) { s with heap := h', toks := tk' }) :
    wpAny (model PySem.Challenge.rw_kl0519_01.row.prog w) (callerA.deeper (EL L fa cd)) (exec (lawSt 11) (EL L fa cd)) Q E s := by
  revert X
  k_fill
  intro X
  conv => pattern lawSt _; whnf
  have q1 := dec_s1 hx
  have q2 := dec_s2 hx
  have q3 := len_s1 hx hl
  have q4 := len_s2 hx hl
  have q5 := len_s3 hx hl
  have q6 := len_s4 hx hl
  have q7 : AscL (eqE (sentL (normL x))) := eqE_asc (sent_asc (norm_asc hx))
  have q8 : AscL (tell (eqE (sentL (normL x)))) := (tell_pr q7).asc
  have q9 := RW_tell hx
  have q10 : tell (eqE (sentL (normL x))) = tell (eqE (sentL (normL x))) := rfl
  k_with_none
  k_steps
  all_goals (rename Fr _ _ _ _ => F1; rename News _ _ _ _ => N1; rw [beq_self_eq_true]; exact k _ _ F1 N1)
end
end Mine
end

/-! Lw13 -/
noncomputable section
open PySem PySem.W PySem.Spec PySem.Calls PyProof.Rows
set_option maxRecDepth 100000
set_option maxHeartbeats 8000000
set_option linter.all false
namespace Mine
theorem law_walk (w : World) {loose : List Str} {mean : ExcName → Option Value} {mg mb : Str → Option Value} {h₀ : Heap} {L fa l : Addr} {cd : Value} {vs : List Value} {ns : List Int} {s : Shared} {Q : Flow → Shared → Prop} {E : Value → Shared → Prop} {cS cT : Obj}
    (X : (KF w.params).In h₀) (B : Below callerA h₀ [] h₀) (T : Top qV loose mean mg mb h₀) (hl : h₀.IsList l vs.toArray) (hi : IntsAre vs ns) (hn : ns.length ≤ 63) (F : Fr h₀ L s.heap fun _ => none) (N : News h₀ L s.heap [(L + 1 + 1, cT), (L + 1, cS)])
    (hS : cS.data = .cell (some (.ref l))) (hT : cT.data = .cell none)
    (ret : ∀ h' tk' m', Fr h₀ L h' m' → Q (.ret (.bool true)) { s with heap := h', toks := tk' }) :
    wpAny (model PySem.Challenge.rw_kl0519_01.row.prog w) (callerA.deeper (EL L fa cd)) (execs lawB (EL L fa cd)) Q E s := by
  rw [lawB_eq]
  refine wpAny_execs_cons (law1 w X B T hl hi hn F N hS hT fun D ws ks h1 k1 F1 N1 I1 n1 o1 => ?_)
  refine wpAny_execs_cons (law2 w X B T F1 N1 I1 n1 o1 hT fun cT' x t h2 k2 d2 hx hl6 F2 N2 => ?_)
  refine wpAny_execs_cons (law3 w (z := []) (t1 := 0) (t2 := 0) (t3 := 0) X B T F2 N2 d2 hx hl6 (Nat.succ_ne_zero _) fun t1 h3 k3 F3 N3 => ?_)
  refine wpAny_execs_cons (law4 w (z := []) (t2 := 0) (t3 := 0) X B T F3 N3 d2 hx hl6 hS hl hi hn fun z t2 h4 k4 hz hzl F4 N4 => ?_)
  refine wpAny_execs_cons (law5 w (t3 := 0) X B T F4 N4 d2 hx hl6 hz hzl fun t3 h5 k5 F5 N5 => ?_)
  refine wpAny_execs_cons (law6 w X B T F5 N5 d2 hx hl6 hz hzl fun h6 k6 F6 N6 => ?_)
  refine wpAny_execs_cons (law7 w X B T F6 N6 d2 hx hl6 hz hzl fun h7 k7 F7 N7 => ?_)
  refine wpAny_execs_cons (law8 w X B T F7 N7 d2 hx hl6 fun D1 a1 a2 a3 h8 k8 F8 N8 o8 => ?_)
  refine wpAny_execs_cons (law9 w X B T F8 N8 d2 hx hl6 o8 fun D2 b1 b2 b3 h9 k9 F9 N9 o9 => ?_)
  refine wpAny_execs_cons (law10 w X B T F9 N9 d2 hx hl6 o8 o9 fun h10 k10 F10 N10 => ?_)
  refine wpAny_execs_cons (law11 w X B T F10 N10 d2 hx hl6 o8 o9 fun h11 k11 F11 N11 => ?_)
  exact wpAny_execs_cons (law12 w X B T F11 N11 d2 hx hl6 o8 o9 fun h12 k12 F12 N12 => ret h12 k12 _ F12)
end Mine
end

open PySem PySem.W PySem.Calls PyProof.Rows
open Mine
set_option maxRecDepth 100000
set_option maxHeartbeats 0
set_option linter.all false
theorem PySem.Challenge.cw_kl0519_01_holds : PySem.Challenge.rw_kl0519_01.Holds := by
  w_on
  refine holds_law saidF fun said => ?_
  refine holds_open (q := qV) (loose := looseF) (Xt := XtF) (XP := XL qV lvF) (Yf := Hook.obs HK) (Ya := Hook.val HK) (YP := Hook.says HK) (N := 35466) leftF (Hook.of HK) (Hook.keeps HK) (fun s e => xl_of s (Bool.and_eq_true_iff.mp e).1) XL.keeps (by rfl) (by rfl) (by rfl) (fun s e => recFacts_of (Bool.and_eq_true_iff.mp e).2) (by rfl) (by assumption) (by decide +kernel) ⟨rfl, rfl, rfl, rfl, rfl, by decide +kernel⟩ ?hw ?hc
  case hw => w_witness2
  k_go0
  rename Fr _ _ _ _ => F9
  rename News _ _ _ _ => N9
  rename Frag.In _ _ => X9
  rename Top _ _ _ _ _ _ => T9
  rename Below _ _ _ _ => B9
  rename Heap.IsList _ _ _ => L9
  rename IntsAre _ _ => I9
  rename ¬ _ < _ => n9
  rename _ = Data.cell _ => dS9; revert dS9
  rename _ = Data.cell _ => dT9; intro dS9
  change wpAny _ (callerA.deeper (EL _ _ _)) (execs lawB (EL _ _ _)) _ _ _
  refine law_walk _ X9 B9 T9 L9 I9 (by omega) F9 N9 ?hS ?hT ?ret
  case hS => exact dS9
  case hT => exact dT9
  intro h9 k9 m9 F1
  dsimp only
  refine goodW_bool F1 (by assumption) (raisesW_false ?_) ?_
  · wrow_none_raised
  · wrow_post
