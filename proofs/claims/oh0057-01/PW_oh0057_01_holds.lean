import PyProof.Rows.All
import Wide.All
import OpenK.AllK
import Wide.FinOn
import Lean
import PySem.Challenge.RW_oh0057_01
set_option Elab.async false
section TTop1
open PySem PySem.W PyProof.Rows
namespace Mine
noncomputable def pick (l : List Stmt) : List Stmt := l.take 1 ++ ((l.drop 2).take 5 ++ ((l.drop 8).take 4 ++ ((l.drop 13).take 2 ++ l.drop 16)))
noncomputable def view : Program := { PySem.Challenge.pw_oh0057_01 with main := { PySem.Challenge.pw_oh0057_01.main with body := pick PySem.Challenge.pw_oh0057_01.main.body } }
set_option maxRecDepth 100000 in
theorem headG {d : DefRec} {kwd : List (Str × Expr)} (H : Hook) (k1 : PySem.Challenge.rw_oh0057_01.row.wellSaid = true)
    (hw : PySem.Challenge.rw_oh0057_01.row.toRowW.promised)
    (hdef : defOf Mine.view PySem.Challenge.rw_oh0057_01.row.name = some (d, kwd)) (hp : PySem.Challenge.rw_oh0057_01.row.prog.theDef PySem.Challenge.rw_oh0057_01.row.name = some (d.params, d.body, d.scope)) (hk : kwWritten? d.params.kwonlyargs d.params.kw_defaults = some kwd)
    (hc : LeftO PySem.Challenge.pw_oh0057_01 Mine.view [Str.ofString "_NodeInfo", Str.ofString "_SelectorContext"] (fun s => xlAt Mine.view [] s && recOk (RowW.records PySem.Challenge.rw_oh0057_01.row.toRowW) s) H.obs H.val 3396 ∧
      WalkO Mine.view [Str.ofString "_NodeInfo", Str.ofString "_SelectorContext"] (XL Mine.view []) H.says PySem.Challenge.rw_oh0057_01.row.toRowW d kwd fun f vs => PySem.call f vs) :
    PySem.Challenge.rw_oh0057_01.row.Holds :=
  PySem.W.holds_open (q := Mine.view) (loose := [Str.ofString "_NodeInfo", Str.ofString "_SelectorContext"]) (Xt := fun s => xlAt Mine.view [] s && recOk (RowW.records PySem.Challenge.rw_oh0057_01.row.toRowW) s) (XP := XL Mine.view []) (Yf := Hook.obs H) (Ya := Hook.val H) (YP := Hook.says H) (N := 3396) hc.1 (Hook.of H) (Hook.keeps H) (fun s e => xl_of s (Bool.and_eq_true_iff.mp e).1) XL.keeps hdef hp hk (fun s e => recFacts_of (Bool.and_eq_true_iff.mp e).2) (by rfl) k1 (by decide +kernel) ⟨rfl, rfl, rfl, rfl, rfl, by decide +kernel⟩ hw hc.2
local macro_rules
  | `(tactic| o_head $H) => `(tactic| (
    refine Mine.headG $H (by assumption) ?hw (by rfl) (by rfl) (by rfl) ?hc
    all_goals (repeat (rename_i x; clear x))))
theorem look_ok : looksOpen PySem.Challenge.pw_oh0057_01 = true := by
  unfold looksOpen
  repeat' (with_reducible refine look_both ?_ ?_)
  all_goals (decide +kernel)
theorem row_ok : PySem.Challenge.rw_oh0057_01.row.wellSaid = true := by
  unfold OpenRow.wellSaid OpenRow.partSaid
  repeat' (with_reducible refine look_both ?_ ?_)
  · exact look_ok
  all_goals (decide +kernel)
theorem law_ok : PySem.Challenge.rw_oh0057_01.wellSaid = true := by
  unfold OpenLaw.wellSaid
  repeat' (with_reducible refine look_both ?_ ?_)
  · exact row_ok
  all_goals (decide +kernel)
local macro_rules
  | `(tactic| o_law) => `(tactic| refine holds_law Mine.law_ok fun said => ?_)
set_option maxRecDepth 100000 in
set_option maxHeartbeats 8000000 in
open_top hd for PySem.Challenge.rw_oh0057_01
/-- the top's own run, cut behind the sixth and the seventh statement: the states at the cuts -/
noncomputable def nthO : List (Nat × Obj) → Nat → Obj
  | [], _ => default
  | p :: _, 0 => p.2
  | _ :: l, n + 1 => nthO l n
noncomputable def kO (P : Params) (i : Nat) : Obj := nthO (Mine.hd.heap_1 P) i
noncomputable abbrev bd0 : List Stmt := behindTheImports PySem.Challenge.pw_oh0057_01
noncomputable def tS (i : Nat) : Stmt := (bd0[i]?).getD default
noncomputable def cS (i j : Nat) : Stmt := match tS i with
  | .ClassDef _ _ _ b _ _ _ _ _ _ _ => (b[j]?).getD default
  | _ => default
/-- the record of a def as its statement says -/
noncomputable def fO (q : String) (s : Stmt) : Obj := match s with
  | .FunctionDef n p b _ _ _ sc _ _ _ => { cls := .none, data := .func { name := n, qualname := Str.ofString q, params := p, body := .stmts b, scope := sc, globals := 0, closure := [], defaults := .none, kwdefaults := .none } }
  | _ => default
noncomputable def asK : List Addr := [2, 3, 15, 17, 18, 20, 21, 29, 30, 32, 33, 35, 36, 37, 39, 40, 41, 42, 43, 46, 53, 54, 55, 56, 66, 67, 69, 70, 72, 73, 74, 76, 77, 79, 80, 81, 83, 84, 86, 87, 88, 91, 92, 93, 95, 96, 98, 99, 100, 102, 103, 105, 106, 107, 109, 110, 112, 113, 114, 116, 117, 119, 120, 121, 123, 124, 126, 127, 128, 130, 131, 133, 134, 135, 136, 137, 138, 139, 142, 144, 145, 147, 148, 149, 151, 152, 154, 155, 156, 158, 159, 161, 162, 163, 165, 166, 168, 169, 170, 172, 173, 175, 176, 184, 186, 187, 189, 190, 191, 192, 193, 194, 195, 198, 201, 202, 203, 205, 206, 208, 209, 210, 212, 213, 215, 216, 217, 220, 221, 222, 225, 226, 227, 230, 231]
noncomputable def ob11A (P : Params) : Obj := { cls := Value.type "tuple", data := Data.seq #[] }
noncomputable def ob12A (P : Params) : Obj := { cls := Value.none, data := Data.fields #[] }
noncomputable def ob13A (P : Params) : Obj := { cls := Value.type "code", data := Data.fields #[Value.str (Str.ofString "<module>") 182, Value.str (Str.ofString "<module>") 183, Value.str (Str.ofString "/claim/cut.py") 184, Value.int 1 0, Value.int 0 0, Value.int 0 0, Value.int 0 0, Value.int 0 0, Value.ref 11, Value.bool false, Value.int 181 0, Value.ref 12, Value.none, Value.none, Value.none, Value.none, Value.int 185 0, Value.int 1 0, Value.str (Str.ofString "/claim/cut.py") 186] }
noncomputable def ob14A (P : Params) : Obj := { cls := Value.type "frame", slots := #[some (Value.ref 13), some (Value.ref 3), some (Value.ref 3), none, some (Value.str (Str.ofString "__main__") 164), none, some (Value.ref 0)] }
noncomputable def treeA (k : Nat → Obj) (P : Params) : BT := (.node (boot_o_0 P) (.node (boot_o_1 P) (.node (boot_o_3 P) (.node (boot_o_7 P) .nil .nil) (.node (ob11A P) .nil .nil)) (.node (boot_o_5 P) (.node (boot_o_9 P) .nil .nil) (.node (ob13A P) .nil .nil))) (.node (k 0) (.node (boot_o_4 P) (.node (boot_o_8 P) .nil .nil) (.node (ob12A P) .nil .nil)) (.node (boot_o_6 P) (.node (boot_o_10 P) .nil .nil) (.node (ob14A P) .nil .nil))))
noncomputable def ob3B (P : Params) : Obj := { cls := Value.type "dict", data := Data.dict #[{ hash := PyData.keyHash P (Str.ofString "__name__"), key := Value.str (Str.ofString "__name__") 165, val := Value.str (Str.ofString "cpy313.graphlib") 194 }, { hash := PyData.keyHash P (Str.ofString "__doc__"), key := Value.str (Str.ofString "__doc__") 166, val := Value.none }, { hash := PyData.keyHash P (Str.ofString "__package__"), key := Value.str (Str.ofString "__package__") 167, val := Value.none }, { hash := PyData.keyHash P (Str.ofString "__loader__"), key := Value.str (Str.ofString "__loader__") 168, val := Value.builtin "__main__.__loader__#opaque" }, { hash := PyData.keyHash P (Str.ofString "__spec__"), key := Value.str (Str.ofString "__spec__") 169, val := Value.none }, { hash := PyData.keyHash P (Str.ofString "__annotations__"), key := Value.str (Str.ofString "__annotations__") 170, val := Value.ref 6 }, { hash := PyData.keyHash P (Str.ofString "__builtins__"), key := Value.str (Str.ofString "__builtins__") 171, val := Value.ref 4 }, { hash := PyData.keyHash P (Str.ofString "__file__"), key := Value.str (Str.ofString "__file__") 173, val := Value.str (Str.ofString "/claim/cut.py") 172 }, { hash := PyData.keyHash P (Str.ofString "__cached__"), key := Value.str (Str.ofString "__cached__") 174, val := Value.none }, { hash := PyData.keyHash P (Str.ofString "_wall"), key := Value.str (Str.ofString "_wall") 193, val := Value.ref 21 }, { hash := PyData.keyHash P (Str.ofString "_NODE_OUT"), key := Value.str (Str.ofString "_NODE_OUT") 198, val := Value.int (-1) 197 }, { hash := PyData.keyHash P (Str.ofString "_NODE_DONE"), key := Value.str (Str.ofString "_NODE_DONE") 201, val := Value.int (-2) 200 }, { hash := PyData.keyHash P (Str.ofString "_NodeInfo"), key := Value.str (Str.ofString "_NodeInfo") 238, val := Value.ref 40 }, { hash := PyData.keyHash P (Str.ofString "CycleError"), key := Value.str (Str.ofString "CycleError") 256, val := Value.ref 55 }] 14 }
noncomputable def ob12B (P : Params) : Obj := { cls := Value.none, data := Data.fields #[Value.int 1 0, Value.int 0 0, Value.ref 20, Value.int 7 0, Value.int 0 0, Value.ref 27, Value.int 14 0, Value.int 0 0, Value.ref 51] }
noncomputable def ob16B (P : Params) : Obj := { cls := Value.none, data := Data.fields #[] }
noncomputable def ob22B (P : Params) : Obj := { cls := Value.type "tuple", data := Data.seq #[] }
noncomputable def ob23B (P : Params) : Obj := { cls := Value.type "builtin_function_or_method", data := Data.fields #[Value.builtin "type.__prepare__", Value.type "type"] }
noncomputable def ob24B (P : Params) : Obj := { cls := Value.type "dict", data := Data.dict #[{ hash := PyData.keyHash P (Str.ofString "__module__"), key := Value.str (Str.ofString "__module__") 209, val := Value.str (Str.ofString "cpy313.graphlib") 194 }, { hash := PyData.keyHash P (Str.ofString "__qualname__"), key := Value.str (Str.ofString "__qualname__") 211, val := Value.str (Str.ofString "_NodeInfo") 210 }, { hash := PyData.keyHash P (Str.ofString "__firstlineno__"), key := Value.str (Str.ofString "__firstlineno__") 213, val := Value.int 7 212 }, { hash := PyData.keyHash P (Str.ofString "__slots__"), key := Value.str (Str.ofString "__slots__") 217, val := Value.ref 29 }, { hash := PyData.keyHash P (Str.ofString "__init__"), key := Value.str (Str.ofString "__init__") 225, val := Value.ref 36 }, { hash := PyData.keyHash P (Str.ofString "__static_attributes__"), key := Value.str (Str.ofString "__static_attributes__") 229, val := Value.ref 37 }] 6 }
noncomputable def ob25B (P : Params) : Obj := { cls := Value.type "tuple", data := Data.seq #[] }
noncomputable def ob26B (P : Params) : Obj := { cls := Value.none, data := Data.fields #[Value.int 10 0, Value.int 4 0, Value.ref 35] }
noncomputable def ob27B (P : Params) : Obj := { cls := Value.type "code", data := Data.fields #[Value.str (Str.ofString "_NodeInfo") 204, Value.str (Str.ofString "_NodeInfo") 205, Value.str (Str.ofString "/claim/cut.py") 206, Value.int 7 0, Value.int 0 0, Value.int 0 0, Value.int 0 0, Value.int 0 0, Value.ref 25, Value.bool false, Value.int 181 0, Value.ref 26, Value.none, Value.none, Value.none, Value.none, Value.int 207 0, Value.int 7 0, Value.str (Str.ofString "/claim/cut.py") 208] }
noncomputable def ob28B (P : Params) : Obj := { cls := Value.type "frame", slots := #[some (Value.ref 27), some (Value.ref 3), some (Value.ref 24), none, some (Value.str (Str.ofString "cpy313.graphlib") 194), none, some (Value.ref 0)] }
noncomputable def ob31B (P : Params) : Obj := { cls := Value.none, data := Data.fields #[] }
noncomputable def ob38B (P : Params) : Obj := { cls := Value.type "list", data := Data.seq #[Value.str (Str.ofString "node") 214, Value.str (Str.ofString "npredecessors") 215, Value.str (Str.ofString "successors") 216] 1 }
noncomputable def ob44B (P : Params) : Obj := { cls := Value.type "super", data := Data.fields #[Value.ref 40, Value.ref 40, Value.ref 40] }
noncomputable def ob45B (P : Params) : Obj := { cls := Value.type "builtin_function_or_method", data := Data.fields #[Value.builtin "object.__init_subclass__", Value.ref 40] }
noncomputable def ob47B (P : Params) : Obj := { cls := Value.type "builtin_function_or_method", data := Data.fields #[Value.builtin "type.__prepare__", Value.type "type"] }
noncomputable def ob48B (P : Params) : Obj := { cls := Value.type "dict", data := Data.dict #[{ hash := PyData.keyHash P (Str.ofString "__module__"), key := Value.str (Str.ofString "__module__") 246, val := Value.str (Str.ofString "cpy313.graphlib") 194 }, { hash := PyData.keyHash P (Str.ofString "__qualname__"), key := Value.str (Str.ofString "__qualname__") 248, val := Value.str (Str.ofString "CycleError") 247 }, { hash := PyData.keyHash P (Str.ofString "__firstlineno__"), key := Value.str (Str.ofString "__firstlineno__") 250, val := Value.int 14 249 }, { hash := PyData.keyHash P (Str.ofString "__static_attributes__"), key := Value.str (Str.ofString "__static_attributes__") 251, val := Value.ref 53 }] 4 }
noncomputable def ob49B (P : Params) : Obj := { cls := Value.type "tuple", data := Data.seq #[] }
noncomputable def ob50B (P : Params) : Obj := { cls := Value.none, data := Data.fields #[] }
noncomputable def ob51B (P : Params) : Obj := { cls := Value.type "code", data := Data.fields #[Value.str (Str.ofString "CycleError") 241, Value.str (Str.ofString "CycleError") 242, Value.str (Str.ofString "/claim/cut.py") 243, Value.int 14 0, Value.int 0 0, Value.int 0 0, Value.int 0 0, Value.int 0 0, Value.ref 49, Value.bool false, Value.int 181 0, Value.ref 50, Value.none, Value.none, Value.none, Value.none, Value.int 244 0, Value.int 14 0, Value.str (Str.ofString "/claim/cut.py") 245] }
noncomputable def ob52B (P : Params) : Obj := { cls := Value.type "frame", slots := #[some (Value.ref 51), some (Value.ref 3), some (Value.ref 48), none, some (Value.str (Str.ofString "cpy313.graphlib") 194), none, some (Value.ref 0)] }
noncomputable def ob57B (P : Params) : Obj := { cls := Value.type "super", data := Data.fields #[Value.ref 55, Value.ref 55, Value.ref 55] }
noncomputable def ob58B (P : Params) : Obj := { cls := Value.type "builtin_function_or_method", data := Data.fields #[Value.builtin "object.__init_subclass__", Value.ref 55] }
noncomputable def treeB (k : Nat → Obj) (P : Params) : BT := (.node (boot_o_0 P) (.node (boot_o_1 P) (.node (ob3B P) (.node (boot_o_7 P) (.node (k 2) (.node (ob31B P) .nil .nil) (.node (ob47B P) .nil .nil)) (.node (ob23B P) (.node (k 14) .nil .nil) (.node (k 22) .nil .nil))) (.node (ob11A P) (.node (fO "_wall" (tS 0)) (.node (k 11) .nil .nil) (.node (ob51B P) .nil .nil)) (.node (ob27B P) (.node (k 18) .nil .nil) .nil))) (.node (boot_o_5 P) (.node (boot_o_9 P) (.node (k 3) (.node (k 10) .nil .nil) (.node (ob49B P) .nil .nil)) (.node (ob25B P) (.node (k 16) .nil .nil) (.node (ob57B P) .nil .nil))) (.node (ob13A P) (.node (k 6) (.node (k 13) .nil .nil) (.node (k 20) .nil .nil)) (.node (k 7) (.node (ob45B P) .nil .nil) .nil)))) (.node (k 0) (.node (boot_o_4 P) (.node (boot_o_8 P) (.node (ob16B P) (.node (k 9) .nil .nil) (.node (ob48B P) .nil .nil)) (.node (ob24B P) (.node (k 15) .nil .nil) (.node (k 23) .nil .nil))) (.node (ob12B P) (.node (k 5) (.node (k 12) .nil .nil) (.node (ob52B P) .nil .nil)) (.node (ob28B P) (.node (ob44B P) .nil .nil) .nil))) (.node (boot_o_6 P) (.node (boot_o_10 P) (.node (k 4) (.node (fO "_NodeInfo.__init__" (cS 4 1)) .nil .nil) (.node (ob50B P) .nil .nil)) (.node (ob26B P) (.node (k 17) .nil .nil) (.node (ob58B P) .nil .nil))) (.node (ob14A P) (.node (ob22B P) (.node (ob38B P) .nil .nil) (.node (k 21) .nil .nil)) (.node (k 8) (.node (k 19) .nil .nil) .nil)))))
noncomputable def ob3C (P : Params) : Obj := { cls := Value.type "dict", data := Data.dict #[{ hash := PyData.keyHash P (Str.ofString "__name__"), key := Value.str (Str.ofString "__name__") 165, val := Value.str (Str.ofString "cpy313.graphlib") 194 }, { hash := PyData.keyHash P (Str.ofString "__doc__"), key := Value.str (Str.ofString "__doc__") 166, val := Value.none }, { hash := PyData.keyHash P (Str.ofString "__package__"), key := Value.str (Str.ofString "__package__") 167, val := Value.none }, { hash := PyData.keyHash P (Str.ofString "__loader__"), key := Value.str (Str.ofString "__loader__") 168, val := Value.builtin "__main__.__loader__#opaque" }, { hash := PyData.keyHash P (Str.ofString "__spec__"), key := Value.str (Str.ofString "__spec__") 169, val := Value.none }, { hash := PyData.keyHash P (Str.ofString "__annotations__"), key := Value.str (Str.ofString "__annotations__") 170, val := Value.ref 6 }, { hash := PyData.keyHash P (Str.ofString "__builtins__"), key := Value.str (Str.ofString "__builtins__") 171, val := Value.ref 4 }, { hash := PyData.keyHash P (Str.ofString "__file__"), key := Value.str (Str.ofString "__file__") 173, val := Value.str (Str.ofString "/claim/cut.py") 172 }, { hash := PyData.keyHash P (Str.ofString "__cached__"), key := Value.str (Str.ofString "__cached__") 174, val := Value.none }, { hash := PyData.keyHash P (Str.ofString "_wall"), key := Value.str (Str.ofString "_wall") 193, val := Value.ref 21 }, { hash := PyData.keyHash P (Str.ofString "_NODE_OUT"), key := Value.str (Str.ofString "_NODE_OUT") 198, val := Value.int (-1) 197 }, { hash := PyData.keyHash P (Str.ofString "_NODE_DONE"), key := Value.str (Str.ofString "_NODE_DONE") 201, val := Value.int (-2) 200 }, { hash := PyData.keyHash P (Str.ofString "_NodeInfo"), key := Value.str (Str.ofString "_NodeInfo") 238, val := Value.ref 40 }, { hash := PyData.keyHash P (Str.ofString "CycleError"), key := Value.str (Str.ofString "CycleError") 256, val := Value.ref 55 }, { hash := PyData.keyHash P (Str.ofString "TopologicalSorter"), key := Value.str (Str.ofString "TopologicalSorter") 375, val := Value.ref 137 }] 15 }
noncomputable def ob12C (P : Params) : Obj := { cls := Value.none, data := Data.fields #[Value.int 1 0, Value.int 0 0, Value.ref 20, Value.int 7 0, Value.int 0 0, Value.ref 27, Value.int 14 0, Value.int 0 0, Value.ref 51, Value.int 16 0, Value.int 0 0, Value.ref 64] }
noncomputable def ob59C (P : Params) : Obj := { cls := Value.type "tuple", data := Data.seq #[] }
noncomputable def ob60C (P : Params) : Obj := { cls := Value.type "builtin_function_or_method", data := Data.fields #[Value.builtin "type.__prepare__", Value.type "type"] }
noncomputable def ob61C (P : Params) : Obj := { cls := Value.type "dict", data := Data.dict #[{ hash := PyData.keyHash P (Str.ofString "__module__"), key := Value.str (Str.ofString "__module__") 264, val := Value.str (Str.ofString "cpy313.graphlib") 194 }, { hash := PyData.keyHash P (Str.ofString "__qualname__"), key := Value.str (Str.ofString "__qualname__") 266, val := Value.str (Str.ofString "TopologicalSorter") 265 }, { hash := PyData.keyHash P (Str.ofString "__firstlineno__"), key := Value.str (Str.ofString "__firstlineno__") 268, val := Value.int 16 267 }, { hash := PyData.keyHash P (Str.ofString "__init__"), key := Value.str (Str.ofString "__init__") 278, val := Value.ref 73 }, { hash := PyData.keyHash P (Str.ofString "_get_nodeinfo"), key := Value.str (Str.ofString "_get_nodeinfo") 287, val := Value.ref 80 }, { hash := PyData.keyHash P (Str.ofString "add"), key := Value.str (Str.ofString "add") 299, val := Value.ref 87 }, { hash := PyData.keyHash P (Str.ofString "prepare"), key := Value.str (Str.ofString "prepare") 305, val := Value.ref 92 }, { hash := PyData.keyHash P (Str.ofString "get_ready"), key := Value.str (Str.ofString "get_ready") 315, val := Value.ref 99 }, { hash := PyData.keyHash P (Str.ofString "is_active"), key := Value.str (Str.ofString "is_active") 322, val := Value.ref 106 }, { hash := PyData.keyHash P (Str.ofString "__bool__"), key := Value.str (Str.ofString "__bool__") 329, val := Value.ref 113 }, { hash := PyData.keyHash P (Str.ofString "done"), key := Value.str (Str.ofString "done") 343, val := Value.ref 120 }, { hash := PyData.keyHash P (Str.ofString "_find_cycle"), key := Value.str (Str.ofString "_find_cycle") 356, val := Value.ref 127 }, { hash := PyData.keyHash P (Str.ofString "static_order"), key := Value.str (Str.ofString "static_order") 363, val := Value.ref 134 }, { hash := PyData.keyHash P (Str.ofString "__static_attributes__"), key := Value.str (Str.ofString "__static_attributes__") 368, val := Value.ref 135 }] 14 }
noncomputable def ob62C (P : Params) : Obj := { cls := Value.type "tuple", data := Data.seq #[] }
noncomputable def ob63C (P : Params) : Obj := { cls := Value.none, data := Data.fields #[Value.int 18 0, Value.int 4 0, Value.ref 72, Value.int 27 0, Value.int 4 0, Value.ref 79, Value.int 32 0, Value.int 4 0, Value.ref 86, Value.int 41 0, Value.int 4 0, Value.ref 91, Value.int 49 0, Value.int 4 0, Value.ref 98, Value.int 60 0, Value.int 4 0, Value.ref 105, Value.int 65 0, Value.int 4 0, Value.ref 112, Value.int 68 0, Value.int 4 0, Value.ref 119, Value.int 91 0, Value.int 4 0, Value.ref 126, Value.int 120 0, Value.int 4 0, Value.ref 133] }
noncomputable def ob64C (P : Params) : Obj := { cls := Value.type "code", data := Data.fields #[Value.str (Str.ofString "TopologicalSorter") 259, Value.str (Str.ofString "TopologicalSorter") 260, Value.str (Str.ofString "/claim/cut.py") 261, Value.int 16 0, Value.int 0 0, Value.int 0 0, Value.int 0 0, Value.int 0 0, Value.ref 62, Value.bool false, Value.int 181 0, Value.ref 63, Value.none, Value.none, Value.none, Value.none, Value.int 262 0, Value.int 16 0, Value.str (Str.ofString "/claim/cut.py") 263] }
noncomputable def ob65C (P : Params) : Obj := { cls := Value.type "frame", slots := #[some (Value.ref 64), some (Value.ref 3), some (Value.ref 61), none, some (Value.str (Str.ofString "cpy313.graphlib") 194), none, some (Value.ref 0)] }
noncomputable def ob68C (P : Params) : Obj := { cls := Value.none, data := Data.fields #[] }
noncomputable def ob75C (P : Params) : Obj := { cls := Value.none, data := Data.fields #[] }
noncomputable def ob82C (P : Params) : Obj := { cls := Value.none, data := Data.fields #[] }
noncomputable def ob89C (P : Params) : Obj := { cls := Value.none, data := Data.fields #[] }
noncomputable def ob94C (P : Params) : Obj := { cls := Value.none, data := Data.fields #[] }
noncomputable def ob101C (P : Params) : Obj := { cls := Value.none, data := Data.fields #[] }
noncomputable def ob108C (P : Params) : Obj := { cls := Value.none, data := Data.fields #[] }
noncomputable def ob115C (P : Params) : Obj := { cls := Value.none, data := Data.fields #[] }
noncomputable def ob122C (P : Params) : Obj := { cls := Value.none, data := Data.fields #[] }
noncomputable def ob129C (P : Params) : Obj := { cls := Value.none, data := Data.fields #[] }
noncomputable def ob140C (P : Params) : Obj := { cls := Value.type "super", data := Data.fields #[Value.ref 137, Value.ref 137, Value.ref 137] }
noncomputable def ob141C (P : Params) : Obj := { cls := Value.type "builtin_function_or_method", data := Data.fields #[Value.builtin "object.__init_subclass__", Value.ref 137] }
noncomputable def treeC (k : Nat → Obj) (P : Params) : BT := (.node (boot_o_0 P) (.node (boot_o_1 P) (.node (ob3C P) (.node (boot_o_7 P) (.node (k 2) (.node (ob31B P) (.node (ob63C P) (.node (k 67) .nil .nil) .nil) (.node (k 44) .nil .nil)) (.node (ob47B P) (.node (k 33) .nil .nil) (.node (fO "TopologicalSorter.__bool__" (cS 6 6)) .nil .nil))) (.node (ob23B P) (.node (k 14) (.node (fO "TopologicalSorter.__init__" (cS 6 0)) (.node (k 73) .nil .nil) .nil) (.node (k 50) .nil .nil)) (.node (k 22) (.node (k 39) .nil .nil) (.node (k 61) .nil .nil)))) (.node (ob11A P) (.node (fO "_wall" (tS 0)) (.node (k 11) (.node (k 25) (.node (k 70) .nil .nil) .nil) (.node (k 47) .nil .nil)) (.node (ob51B P) (.node (k 36) .nil .nil) (.node (ob115C P) .nil .nil))) (.node (ob27B P) (.node (k 18) (.node (ob75C P) (.node (k 77) .nil .nil) .nil) (.node (k 53) .nil .nil)) (.node (ob59C P) (.node (k 41) .nil .nil) (.node (k 64) .nil .nil))))) (.node (boot_o_5 P) (.node (boot_o_9 P) (.node (k 3) (.node (k 10) (.node (ob65C P) (.node (ob129C P) .nil .nil) .nil) (.node (fO "TopologicalSorter.get_ready" (cS 6 4)) .nil .nil)) (.node (ob49B P) (.node (k 35) .nil .nil) (.node (k 57) .nil .nil))) (.node (ob25B P) (.node (k 16) (.node (k 29) (.node (k 75) .nil .nil) .nil) (.node (k 51) .nil .nil)) (.node (ob57B P) (.node (ob89C P) .nil .nil) (.node (k 63) .nil .nil)))) (.node (ob13A P) (.node (k 6) (.node (k 13) (.node (k 26) (.node (k 71) .nil .nil) .nil) (.node (ob101C P) .nil .nil)) (.node (k 20) (.node (fO "TopologicalSorter.add" (cS 6 2)) .nil .nil) (.node (k 60) .nil .nil))) (.node (k 7) (.node (ob45B P) (.node (k 32) (.node (ob141C P) .nil .nil) .nil) (.node (k 54) .nil .nil)) (.node (ob61C P) (.node (k 43) .nil .nil) (.node (fO "TopologicalSorter._find_cycle" (cS 6 8)) .nil .nil)))))) (.node (k 0) (.node (boot_o_4 P) (.node (boot_o_8 P) (.node (ob16B P) (.node (k 9) (.node (ob64C P) (.node (k 68) .nil .nil) .nil) (.node (k 45) .nil .nil)) (.node (ob48B P) (.node (k 34) .nil .nil) (.node (k 56) .nil .nil))) (.node (ob24B P) (.node (k 15) (.node (k 28) (.node (k 74) .nil .nil) .nil) (.node (fO "TopologicalSorter.is_active" (cS 6 5)) .nil .nil)) (.node (k 23) (.node (k 40) .nil .nil) (.node (k 62) .nil .nil)))) (.node (ob12C P) (.node (k 5) (.node (k 12) (.node (ob68C P) (.node (fO "TopologicalSorter.static_order" (cS 6 9)) .nil .nil) .nil) (.node (k 48) .nil .nil)) (.node (ob52B P) (.node (k 37) .nil .nil) (.node (k 59) .nil .nil))) (.node (ob28B P) (.node (ob44B P) (.node (k 31) (.node (ob140C P) .nil .nil) .nil) (.node (ob108C P) .nil .nil)) (.node (ob60C P) (.node (k 42) .nil .nil) (.node (k 65) .nil .nil))))) (.node (boot_o_6 P) (.node (boot_o_10 P) (.node (k 4) (.node (fO "_NodeInfo.__init__" (cS 4 1)) (.node (k 24) (.node (k 69) .nil .nil) .nil) (.node (k 46) .nil .nil)) (.node (ob50B P) (.node (ob82C P) .nil .nil) (.node (k 58) .nil .nil))) (.node (ob26B P) (.node (k 17) (.node (k 30) (.node (k 76) .nil .nil) .nil) (.node (k 52) .nil .nil)) (.node (ob58B P) (.node (fO "TopologicalSorter.prepare" (cS 6 3)) .nil .nil) (.node (ob122C P) .nil .nil)))) (.node (ob14A P) (.node (ob22B P) (.node (ob38B P) (.node (k 27) (.node (k 72) .nil .nil) .nil) (.node (k 49) .nil .nil)) (.node (k 21) (.node (k 38) .nil .nil) (.node (fO "TopologicalSorter.done" (cS 6 7)) .nil .nil))) (.node (k 8) (.node (k 19) (.node (fO "TopologicalSorter._get_nodeinfo" (cS 6 1)) .nil .nil) (.node (k 55) .nil .nil)) (.node (ob62C P) (.node (ob94C P) .nil .nil) (.node (k 66) .nil .nil)))))))
noncomputable def ob12D (P : Params) : Obj := { cls := Value.none, data := Data.fields #[Value.int 1 0, Value.int 0 0, Value.ref 20, Value.int 7 0, Value.int 0 0, Value.ref 27, Value.int 14 0, Value.int 0 0, Value.ref 51, Value.int 16 0, Value.int 0 0, Value.ref 64, Value.int 123 0, Value.int 0 0, Value.ref 147, Value.int 126 0, Value.int 0 0, Value.ref 154, Value.int 134 0, Value.int 0 0, Value.ref 161, Value.int 145 0, Value.int 0 0, Value.ref 168, Value.int 160 0, Value.int 0 0, Value.ref 175, Value.int 168 0, Value.int 0 0, Value.ref 182, Value.int 174 0, Value.int 0 0, Value.ref 201, Value.int 183 0, Value.int 0 0, Value.ref 208, Value.int 203 0, Value.int 0 0, Value.ref 215, Value.int 207 0, Value.int 0 0, Value.ref 220, Value.int 214 0, Value.int 0 0, Value.ref 225, Value.int 229 0, Value.int 0 0, Value.ref 230] }
noncomputable def ob143D (P : Params) : Obj := { cls := Value.none, data := Data.fields #[] }
noncomputable def ob150D (P : Params) : Obj := { cls := Value.none, data := Data.fields #[] }
noncomputable def ob157D (P : Params) : Obj := { cls := Value.none, data := Data.fields #[] }
noncomputable def ob164D (P : Params) : Obj := { cls := Value.none, data := Data.fields #[] }
noncomputable def ob171D (P : Params) : Obj := { cls := Value.none, data := Data.fields #[] }
noncomputable def ob177D (P : Params) : Obj := { cls := Value.type "tuple", data := Data.seq #[] }
noncomputable def ob178D (P : Params) : Obj := { cls := Value.type "builtin_function_or_method", data := Data.fields #[Value.builtin "type.__prepare__", Value.type "type"] }
noncomputable def ob179D (P : Params) : Obj := { cls := Value.type "dict", data := Data.dict #[{ hash := PyData.keyHash P (Str.ofString "__module__"), key := Value.str (Str.ofString "__module__") 439, val := Value.str (Str.ofString "cpy313.xml.etree.ElementPath") 420 }, { hash := PyData.keyHash P (Str.ofString "__qualname__"), key := Value.str (Str.ofString "__qualname__") 441, val := Value.str (Str.ofString "_SelectorContext") 440 }, { hash := PyData.keyHash P (Str.ofString "__firstlineno__"), key := Value.str (Str.ofString "__firstlineno__") 443, val := Value.int 168 442 }, { hash := PyData.keyHash P (Str.ofString "parent_map"), key := Value.str (Str.ofString "parent_map") 444, val := Value.none }, { hash := PyData.keyHash P (Str.ofString "__init__"), key := Value.str (Str.ofString "__init__") 452, val := Value.ref 190 }, { hash := PyData.keyHash P (Str.ofString "__static_attributes__"), key := Value.str (Str.ofString "__static_attributes__") 454, val := Value.ref 191 }] 6 }
noncomputable def ob180D (P : Params) : Obj := { cls := Value.type "tuple", data := Data.seq #[] }
noncomputable def ob181D (P : Params) : Obj := { cls := Value.none, data := Data.fields #[Value.int 171 0, Value.int 4 0, Value.ref 189] }
noncomputable def ob182D (P : Params) : Obj := { cls := Value.type "code", data := Data.fields #[Value.str (Str.ofString "_SelectorContext") 434, Value.str (Str.ofString "_SelectorContext") 435, Value.str (Str.ofString "/claim/cut.py") 436, Value.int 168 0, Value.int 0 0, Value.int 0 0, Value.int 0 0, Value.int 0 0, Value.ref 180, Value.bool false, Value.int 181 0, Value.ref 181, Value.none, Value.none, Value.none, Value.none, Value.int 437 0, Value.int 168 0, Value.str (Str.ofString "/claim/cut.py") 438] }
noncomputable def ob183D (P : Params) : Obj := { cls := Value.type "frame", slots := #[some (Value.ref 182), some (Value.ref 3), some (Value.ref 179), none, some (Value.str (Str.ofString "cpy313.xml.etree.ElementPath") 420), none, some (Value.ref 0)] }
noncomputable def ob185D (P : Params) : Obj := { cls := Value.none, data := Data.fields #[] }
noncomputable def ob196D (P : Params) : Obj := { cls := Value.type "super", data := Data.fields #[Value.ref 193, Value.ref 193, Value.ref 193] }
noncomputable def ob197D (P : Params) : Obj := { cls := Value.type "builtin_function_or_method", data := Data.fields #[Value.builtin "object.__init_subclass__", Value.ref 193] }
noncomputable def ob199D (P : Params) : Obj := { cls := Value.none, data := Data.fields #[] }
noncomputable def ob204D (P : Params) : Obj := { cls := Value.none, data := Data.fields #[] }
noncomputable def ob211D (P : Params) : Obj := { cls := Value.none, data := Data.fields #[] }
noncomputable def ob218D (P : Params) : Obj := { cls := Value.none, data := Data.fields #[] }
noncomputable def ob223D (P : Params) : Obj := { cls := Value.none, data := Data.fields #[] }
noncomputable def ob228D (P : Params) : Obj := { cls := Value.none, data := Data.fields #[] }
noncomputable def treeD (k : Nat → Obj) (P : Params) : BT := (.node (boot_o_0 P) (.node (boot_o_1 P) (.node (k 1) (.node (boot_o_7 P) (.node (k 2) (.node (ob31B P) (.node (ob63C P) (.node (k 67) .nil .nil) (.node (k 108) .nil .nil)) (.node (k 44) (.node (k 90) .nil .nil) (.node (ob223D P) .nil .nil))) (.node (ob47B P) (.node (k 33) (.node (ob143D P) .nil .nil) (.node (fO "_law_run" (tS 17)) .nil .nil)) (.node (fO "TopologicalSorter.__bool__" (cS 6 6)) (.node (k 101) .nil .nil) .nil))) (.node (ob23B P) (.node (k 14) (.node (fO "TopologicalSorter.__init__" (cS 6 0)) (.node (k 73) .nil .nil) (.node (ob199D P) .nil .nil)) (.node (k 50) (.node (fO "_siftup" (tS 11)) .nil .nil) (.node (k 134) .nil .nil))) (.node (k 22) (.node (k 39) (.node (k 84) .nil .nil) (.node (k 124) .nil .nil)) (.node (k 61) (.node (ob183D P) .nil .nil) .nil)))) (.node (ob11A P) (.node (fO "_wall" (tS 0)) (.node (k 11) (.node (k 25) (.node (k 70) .nil .nil) (.node (k 112) .nil .nil)) (.node (k 47) (.node (k 93) .nil .nil) (.node (k 132) .nil .nil))) (.node (ob51B P) (.node (k 36) (.node (k 81) .nil .nil) (.node (ob211D P) .nil .nil)) (.node (ob115C P) (.node (ob179D P) .nil .nil) .nil))) (.node (ob27B P) (.node (k 18) (.node (ob75C P) (.node (k 77) .nil .nil) (.node (k 116) .nil .nil)) (.node (k 53) (.node (ob171D P) .nil .nil) .nil)) (.node (ob59C P) (.node (k 41) (.node (k 87) .nil .nil) (.node (fO "_law_ends" (tS 19)) .nil .nil)) (.node (k 64) (.node (k 105) .nil .nil) .nil))))) (.node (boot_o_5 P) (.node (boot_o_9 P) (.node (k 3) (.node (k 10) (.node (ob65C P) (.node (ob129C P) .nil .nil) (.node (k 110) .nil .nil)) (.node (fO "TopologicalSorter.get_ready" (cS 6 4)) (.node (k 91) .nil .nil) (.node (k 130) .nil .nil))) (.node (ob49B P) (.node (k 35) (.node (k 80) .nil .nil) (.node (k 120) .nil .nil)) (.node (k 57) (.node (ob177D P) .nil .nil) .nil))) (.node (ob25B P) (.node (k 16) (.node (k 29) (.node (k 75) .nil .nil) (.node (k 114) .nil .nil)) (.node (k 51) (.node (k 97) .nil .nil) .nil)) (.node (ob57B P) (.node (ob89C P) (.node (fO "heappop" (tS 9)) .nil .nil) (.node (k 126) .nil .nil)) (.node (k 63) (.node (ob185D P) .nil .nil) .nil)))) (.node (ob13A P) (.node (k 6) (.node (k 13) (.node (k 26) (.node (k 71) .nil .nil) (.node (ob197D P) .nil .nil)) (.node (ob101C P) (.node (k 94) .nil .nil) (.node (fO "law" (tS 21)) .nil .nil))) (.node (k 20) (.node (fO "TopologicalSorter.add" (cS 6 2)) (.node (k 83) .nil .nil) (.node (k 123) .nil .nil)) (.node (k 60) (.node (ob181D P) .nil .nil) .nil))) (.node (k 7) (.node (ob45B P) (.node (k 32) (.node (ob141C P) .nil .nil) (.node (k 117) .nil .nil)) (.node (k 54) (.node (k 100) .nil .nil) .nil)) (.node (ob61C P) (.node (k 43) (.node (ob157D P) .nil .nil) (.node (k 128) .nil .nil)) (.node (fO "TopologicalSorter._find_cycle" (cS 6 8)) (.node (k 106) .nil .nil) .nil)))))) (.node (k 0) (.node (boot_o_4 P) (.node (boot_o_8 P) (.node (ob16B P) (.node (k 9) (.node (ob64C P) (.node (k 68) .nil .nil) (.node (k 109) .nil .nil)) (.node (k 45) (.node (fO "_siftdown" (tS 10)) .nil .nil) (.node (fO "_law_due" (tS 20)) .nil .nil))) (.node (ob48B P) (.node (k 34) (.node (k 79) .nil .nil) (.node (k 119) .nil .nil)) (.node (k 56) (.node (k 102) .nil .nil) .nil))) (.node (ob24B P) (.node (k 15) (.node (k 28) (.node (k 74) .nil .nil) (.node (fO "_law_needs" (tS 16)) .nil .nil)) (.node (fO "TopologicalSorter.is_active" (cS 6 5)) (.node (k 96) .nil .nil) .nil)) (.node (k 23) (.node (k 40) (.node (k 85) .nil .nil) (.node (k 125) .nil .nil)) (.node (k 62) (.node (k 103) .nil .nil) .nil)))) (.node (ob12D P) (.node (k 5) (.node (k 12) (.node (ob68C P) (.node (fO "TopologicalSorter.static_order" (cS 6 9)) .nil .nil) (.node (ob196D P) .nil .nil)) (.node (k 48) (.node (ob164D P) .nil .nil) (.node (ob228D P) .nil .nil))) (.node (ob52B P) (.node (k 37) (.node (k 82) .nil .nil) (.node (k 122) .nil .nil)) (.node (k 59) (.node (ob180D P) .nil .nil) .nil))) (.node (ob28B P) (.node (ob44B P) (.node (k 31) (.node (ob140C P) .nil .nil) (.node (ob204D P) .nil .nil)) (.node (ob108C P) (.node (k 99) .nil .nil) .nil)) (.node (ob60C P) (.node (k 42) (.node (k 88) .nil .nil) (.node (k 127) .nil .nil)) (.node (k 65) (.node (fO "_SelectorContext.__init__" (cS 14 1)) .nil .nil) .nil))))) (.node (boot_o_6 P) (.node (boot_o_10 P) (.node (k 4) (.node (fO "_NodeInfo.__init__" (cS 4 1)) (.node (k 24) (.node (k 69) .nil .nil) (.node (k 111) .nil .nil)) (.node (k 46) (.node (k 92) .nil .nil) (.node (k 131) .nil .nil))) (.node (ob50B P) (.node (ob82C P) (.node (fO "heappush" (tS 8)) .nil .nil) (.node (k 121) .nil .nil)) (.node (k 58) (.node (ob178D P) .nil .nil) .nil))) (.node (ob26B P) (.node (k 17) (.node (k 30) (.node (k 76) .nil .nil) (.node (k 115) .nil .nil)) (.node (k 52) (.node (k 98) .nil .nil) .nil)) (.node (ob58B P) (.node (fO "TopologicalSorter.prepare" (cS 6 3)) (.node (k 86) .nil .nil) (.node (ob218D P) .nil .nil)) (.node (ob122C P) (.node (k 104) .nil .nil) .nil)))) (.node (ob14A P) (.node (ob22B P) (.node (ob38B P) (.node (k 27) (.node (k 72) .nil .nil) (.node (k 113) .nil .nil)) (.node (k 49) (.node (k 95) .nil .nil) (.node (k 133) .nil .nil))) (.node (k 21) (.node (k 38) (.node (ob150D P) .nil .nil) (.node (fO "_law_table" (tS 18)) .nil .nil)) (.node (fO "TopologicalSorter.done" (cS 6 7)) (.node (ob182D P) .nil .nil) .nil))) (.node (k 8) (.node (k 19) (.node (fO "TopologicalSorter._get_nodeinfo" (cS 6 1)) (.node (k 78) .nil .nil) (.node (k 118) .nil .nil)) (.node (k 55) (.node (fO "get_parent_map" (tS 13)) .nil .nil) .nil)) (.node (ob62C P) (.node (ob94C P) (.node (k 89) .nil .nil) (.node (k 129) .nil .nil)) (.node (k 66) (.node (k 107) .nil .nil) .nil)))))))
abbrev pw : Program := PySem.Challenge.pw_oh0057_01
noncomputable abbrev sA (w : World) (os : OsState) : SharedT := ⟨treeA (kO w.params) w.params, 15, {}, Array.mk [], {}, 187, os⟩
noncomputable abbrev sB (w : World) (os : OsState) : SharedT := ⟨treeB (kO w.params) w.params, 59, {}, Array.mk [], {}, 257, os⟩
noncomputable abbrev sC (w : World) (os : OsState) : SharedT := ⟨treeC (kO w.params) w.params, 142, {}, Array.mk [], {}, 376, os⟩
noncomputable abbrev sD (w : World) (os : OsState) : SharedT := ⟨treeD (kO w.params) w.params, 232, {}, Array.mk [], {}, 513, os⟩
abbrev pos0 : Pos := { line := 0, col := 0, endLine := 0, endCol := 0 }
abbrev posB : Pos := { line := 14, col := 0, endLine := 15, endCol := 8 }
abbrev posC : Pos := { line := 16, col := 0, endLine := 121, endCol := 16 }
abbrev posD : Pos := { line := 229, col := 0, endLine := 239, endCol := 92 }
noncomputable abbrev env0 : Env := { scope := pw.main.scope, locals := mainNs, globals := mainNs, cells := [], code := .ref 13, frame := some 14 }
noncomputable abbrev c0 : Code := .body bd0 env0
noncomputable abbrev run0 (w : World) := topRun treeTable pw w 11 (some (.ref 6))
noncomputable abbrev seg0 (w : World) := segRunT treeTable pw w 11 (some (.ref 6)) 1
set_option maxRecDepth 100000
theorem pieceA (w : World) : (fun os => topGo treeTable pw w 11 (some (.ref 6)) 12 ⟨boot_heap w.params, Array.mk [], boot_drawn, boot_toks, os⟩ (topStub pw)) = fun os => some ((sA w os).abs, ⟨denote treeTable c0, c0, pos0, [topFrame pos0]⟩) := by kernel_rfl
theorem pieceA' (w : World) : (fun os => seg0 w 1 (sA w os) (blockOf bd0 env0 c0 pos0 [topFrame pos0])) = fun os => some (.next, sA w os, c0, pos0) := by kernel_rfl
theorem pieceB (w : World) : (fun os => seg0 w 516 (sA w os) (piecesOf (bd0.take 6) env0 c0 pos0 [topFrame pos0])) = fun os => some (.next, sB w os, c0, posB) := by kernel_rfl
theorem pieceC (w : World) : (fun os => seg0 w 528 (sB w os) (piecesOf ((bd0.drop 6).take 1) env0 c0 posB [topFrame pos0])) = fun os => some (.next, sC w os, c0, posC) := by kernel_rfl
theorem pieceD (w : World) : (fun os => seg0 w 600 (sC w os) (piecesOf (bd0.drop 7) env0 c0 posC [topFrame pos0])) = fun os => some (.next, sD w os, c0, posD) := by kernel_rfl
theorem pieceE (w : World) : (fun os => run0 w 2 (sD w os).abs ⟨doneF .next, c0, posD, [topFrame pos0]⟩) = fun os => some (sD w os).abs := by kernel_rfl
theorem bd_cut : bd0 = bd0.take 6 ++ ((bd0.drop 6).take 1 ++ (bd0.drop 7 ++ [])) := by
  rw [List.append_nil, show bd0.drop 7 = (bd0.drop 6).drop 1 from (List.drop_drop ..).symm ▸ rfl, List.take_append_drop, List.take_append_drop]
theorem top_runs (w : World) (os : OsState) : run0 w (12 + (1 + (516 + (528 + (600 + 2))))) ⟨boot_heap w.params, Array.mk [], boot_drawn, boot_toks, os⟩ (topStub pw) = some (sD w os).abs := by
  have h5 := piece_nil (env := env0) (q := pos0) (congrFun (pieceE w) os)
  have h4 := piece_app (segRun_of (congrFun (pieceD w) os)) h5
  have h3 := piece_app (segRun_of (congrFun (pieceC w) os)) h4
  have h2 := piece_app (segRun_of (congrFun (pieceB w) os)) h3
  rw [← bd_cut] at h2
  exact go_top (congrFun (pieceA w) os) (piece_block (segRun_of (congrFun (pieceA' w) os)) h2)
noncomputable abbrev hD (P : Params) : Heap := absHeap (treeD (kO P) P) 232 {}
theorem size0 (w : World) : ((boot_heap w.params).isNs mainGlobals && (Array.mk [] : Array GenState).size == 0, (boot_heap w.params).objs.size, (boot_heap w.params).nsMap mainGlobals "__annotations__") = (true, 11, some (.ref 6)) := by kernel_rfl
noncomputable def hook : Hook := kmHook Mine.hd.heap_1 asK (fun _ => by kernel_rfl) [211]
noncomputable abbrev Xt0 (s : Shared) : Bool := xlAt Mine.view [] s && recOk (RowW.records PySem.Challenge.rw_oh0057_01.row.toRowW) s
noncomputable abbrev loose0 : List Str := [Str.ofString "_NodeInfo", Str.ofString "_SelectorContext"]
noncomputable abbrev sF (w : World) (os : OsState) : Shared := ⟨hD w.params, Array.mk [], {}, 513, os⟩
theorem looks1 (w : World) : (fun os => (staticsOk (importedModules pw.main.body) (boot_heap w.params) (hD w.params) && namesBound pw (hD w.params) && gensDone (sF w os) && laidKept (boot_heap w.params) (hD w.params))) = fun _ => true := by kernel_rfl
theorem looks2 (w : World) : (fun os => openSeen Mine.view loose0 (importedModules pw.main.body) Xt0 true (sF w os)) = fun _ => openGood Mine.view loose0 := by kernel_rfl
theorem looks3 (w : World) : (fun os => hook.obs (sF w os)) = fun _ => hook.val w := by kernel_rfl
theorem left0 : LeftO pw Mine.view loose0 Xt0 hook.obs hook.val 3396 :=
  LeftO.of_pieces (boot_open (by kernel_rfl) rfl (fun s => by kernel_rfl)) size0 top_runs rfl fun w => funext fun os =>
    looks_pair (congrFun (looks1 w) os) (looks_pair (congrFun (looks2 w) os) (congrFun (looks3 w) os))
end Mine
end TTop1

section TOm
namespace Mine
theorem e0a3  {p1 p2 p3 : Prop} {g : Prop} (h : p1 ∧ p2 ∧ p3) (k : p1 → p2 → p3 → g) : g := k h.1 h.2.1 h.2.2
theorem e0a4  {p1 p2 p3 p4 : Prop} {g : Prop} (h : p1 ∧ p2 ∧ p3 ∧ p4) (k : p1 → p2 → p3 → p4 → g) : g := k h.1 h.2.1 h.2.2.1 h.2.2.2
theorem e0a5  {p1 p2 p3 p4 p5 : Prop} {g : Prop} (h : p1 ∧ p2 ∧ p3 ∧ p4 ∧ p5) (k : p1 → p2 → p3 → p4 → p5 → g) : g := k h.1 h.2.1 h.2.2.1 h.2.2.2.1 h.2.2.2.2
theorem e0a6  {p1 p2 p3 p4 p5 p6 : Prop} {g : Prop} (h : p1 ∧ p2 ∧ p3 ∧ p4 ∧ p5 ∧ p6) (k : p1 → p2 → p3 → p4 → p5 → p6 → g) : g := k h.1 h.2.1 h.2.2.1 h.2.2.2.1 h.2.2.2.2.1 h.2.2.2.2.2
theorem e0a7  {p1 p2 p3 p4 p5 p6 p7 : Prop} {g : Prop} (h : p1 ∧ p2 ∧ p3 ∧ p4 ∧ p5 ∧ p6 ∧ p7) (k : p1 → p2 → p3 → p4 → p5 → p6 → p7 → g) : g := k h.1 h.2.1 h.2.2.1 h.2.2.2.1 h.2.2.2.2.1 h.2.2.2.2.2.1 h.2.2.2.2.2.2
theorem e0a11  {p1 p2 p3 p4 p5 p6 p7 p8 p9 p10 p11 : Prop} {g : Prop} (h : p1 ∧ p2 ∧ p3 ∧ p4 ∧ p5 ∧ p6 ∧ p7 ∧ p8 ∧ p9 ∧ p10 ∧ p11) (k : p1 → p2 → p3 → p4 → p5 → p6 → p7 → p8 → p9 → p10 → p11 → g) : g := k h.1 h.2.1 h.2.2.1 h.2.2.2.1 h.2.2.2.2.1 h.2.2.2.2.2.1 h.2.2.2.2.2.2.1 h.2.2.2.2.2.2.2.1 h.2.2.2.2.2.2.2.2.1 h.2.2.2.2.2.2.2.2.2.1 h.2.2.2.2.2.2.2.2.2.2
theorem e1a2 {α1 : Sort _} {p1 p2 : α1 → Prop} {g : Prop} (h : ∃ x1, (p1 x1) ∧ (p2 x1)) (k : ∀ x1, (p1 x1) → (p2 x1) → g) : g := h.elim fun x1 h => k x1 h.1 h.2
theorem e1a3 {α1 : Sort _} {p1 p2 p3 : α1 → Prop} {g : Prop} (h : ∃ x1, (p1 x1) ∧ (p2 x1) ∧ (p3 x1)) (k : ∀ x1, (p1 x1) → (p2 x1) → (p3 x1) → g) : g := h.elim fun x1 h => k x1 h.1 h.2.1 h.2.2
theorem e1a4 {α1 : Sort _} {p1 p2 p3 p4 : α1 → Prop} {g : Prop} (h : ∃ x1, (p1 x1) ∧ (p2 x1) ∧ (p3 x1) ∧ (p4 x1)) (k : ∀ x1, (p1 x1) → (p2 x1) → (p3 x1) → (p4 x1) → g) : g := h.elim fun x1 h => k x1 h.1 h.2.1 h.2.2.1 h.2.2.2
theorem e1a5 {α1 : Sort _} {p1 p2 p3 p4 p5 : α1 → Prop} {g : Prop} (h : ∃ x1, (p1 x1) ∧ (p2 x1) ∧ (p3 x1) ∧ (p4 x1) ∧ (p5 x1)) (k : ∀ x1, (p1 x1) → (p2 x1) → (p3 x1) → (p4 x1) → (p5 x1) → g) : g := h.elim fun x1 h => k x1 h.1 h.2.1 h.2.2.1 h.2.2.2.1 h.2.2.2.2
theorem e2a1 {α1 : Sort _} {α2 : Sort _} {p1 : α1 → α2 → Prop} {g : Prop} (h : ∃ x1 x2, (p1 x1 x2)) (k : ∀ x1 x2, (p1 x1 x2) → g) : g := h.elim fun x1 h => h.elim fun x2 h => k x1 x2 h
theorem e2a2 {α1 : Sort _} {α2 : Sort _} {p1 p2 : α1 → α2 → Prop} {g : Prop} (h : ∃ x1 x2, (p1 x1 x2) ∧ (p2 x1 x2)) (k : ∀ x1 x2, (p1 x1 x2) → (p2 x1 x2) → g) : g := h.elim fun x1 h => h.elim fun x2 h => k x1 x2 h.1 h.2
theorem e2a3 {α1 : Sort _} {α2 : Sort _} {p1 p2 p3 : α1 → α2 → Prop} {g : Prop} (h : ∃ x1 x2, (p1 x1 x2) ∧ (p2 x1 x2) ∧ (p3 x1 x2)) (k : ∀ x1 x2, (p1 x1 x2) → (p2 x1 x2) → (p3 x1 x2) → g) : g := h.elim fun x1 h => h.elim fun x2 h => k x1 x2 h.1 h.2.1 h.2.2
theorem e2a4 {α1 : Sort _} {α2 : Sort _} {p1 p2 p3 p4 : α1 → α2 → Prop} {g : Prop} (h : ∃ x1 x2, (p1 x1 x2) ∧ (p2 x1 x2) ∧ (p3 x1 x2) ∧ (p4 x1 x2)) (k : ∀ x1 x2, (p1 x1 x2) → (p2 x1 x2) → (p3 x1 x2) → (p4 x1 x2) → g) : g := h.elim fun x1 h => h.elim fun x2 h => k x1 x2 h.1 h.2.1 h.2.2.1 h.2.2.2
theorem e3a1 {α1 : Sort _} {α2 : Sort _} {α3 : Sort _} {p1 : α1 → α2 → α3 → Prop} {g : Prop} (h : ∃ x1 x2 x3, (p1 x1 x2 x3)) (k : ∀ x1 x2 x3, (p1 x1 x2 x3) → g) : g := h.elim fun x1 h => h.elim fun x2 h => h.elim fun x3 h => k x1 x2 x3 h
theorem e3a2 {α1 : Sort _} {α2 : Sort _} {α3 : Sort _} {p1 p2 : α1 → α2 → α3 → Prop} {g : Prop} (h : ∃ x1 x2 x3, (p1 x1 x2 x3) ∧ (p2 x1 x2 x3)) (k : ∀ x1 x2 x3, (p1 x1 x2 x3) → (p2 x1 x2 x3) → g) : g := h.elim fun x1 h => h.elim fun x2 h => h.elim fun x3 h => k x1 x2 x3 h.1 h.2
theorem e3a3 {α1 : Sort _} {α2 : Sort _} {α3 : Sort _} {p1 p2 p3 : α1 → α2 → α3 → Prop} {g : Prop} (h : ∃ x1 x2 x3, (p1 x1 x2 x3) ∧ (p2 x1 x2 x3) ∧ (p3 x1 x2 x3)) (k : ∀ x1 x2 x3, (p1 x1 x2 x3) → (p2 x1 x2 x3) → (p3 x1 x2 x3) → g) : g := h.elim fun x1 h => h.elim fun x2 h => h.elim fun x3 h => k x1 x2 x3 h.1 h.2.1 h.2.2
theorem e3a4 {α1 : Sort _} {α2 : Sort _} {α3 : Sort _} {p1 p2 p3 p4 : α1 → α2 → α3 → Prop} {g : Prop} (h : ∃ x1 x2 x3, (p1 x1 x2 x3) ∧ (p2 x1 x2 x3) ∧ (p3 x1 x2 x3) ∧ (p4 x1 x2 x3)) (k : ∀ x1 x2 x3, (p1 x1 x2 x3) → (p2 x1 x2 x3) → (p3 x1 x2 x3) → (p4 x1 x2 x3) → g) : g := h.elim fun x1 h => h.elim fun x2 h => h.elim fun x3 h => k x1 x2 x3 h.1 h.2.1 h.2.2.1 h.2.2.2
theorem e3a6 {α1 : Sort _} {α2 : Sort _} {α3 : Sort _} {p1 p2 p3 p4 p5 p6 : α1 → α2 → α3 → Prop} {g : Prop} (h : ∃ x1 x2 x3, (p1 x1 x2 x3) ∧ (p2 x1 x2 x3) ∧ (p3 x1 x2 x3) ∧ (p4 x1 x2 x3) ∧ (p5 x1 x2 x3) ∧ (p6 x1 x2 x3)) (k : ∀ x1 x2 x3, (p1 x1 x2 x3) → (p2 x1 x2 x3) → (p3 x1 x2 x3) → (p4 x1 x2 x3) → (p5 x1 x2 x3) → (p6 x1 x2 x3) → g) : g := h.elim fun x1 h => h.elim fun x2 h => h.elim fun x3 h => k x1 x2 x3 h.1 h.2.1 h.2.2.1 h.2.2.2.1 h.2.2.2.2.1 h.2.2.2.2.2
theorem e3a10 {α1 : Sort _} {α2 : Sort _} {α3 : Sort _} {p1 p2 p3 p4 p5 p6 p7 p8 p9 p10 : α1 → α2 → α3 → Prop} {g : Prop} (h : ∃ x1 x2 x3, (p1 x1 x2 x3) ∧ (p2 x1 x2 x3) ∧ (p3 x1 x2 x3) ∧ (p4 x1 x2 x3) ∧ (p5 x1 x2 x3) ∧ (p6 x1 x2 x3) ∧ (p7 x1 x2 x3) ∧ (p8 x1 x2 x3) ∧ (p9 x1 x2 x3) ∧ (p10 x1 x2 x3)) (k : ∀ x1 x2 x3, (p1 x1 x2 x3) → (p2 x1 x2 x3) → (p3 x1 x2 x3) → (p4 x1 x2 x3) → (p5 x1 x2 x3) → (p6 x1 x2 x3) → (p7 x1 x2 x3) → (p8 x1 x2 x3) → (p9 x1 x2 x3) → (p10 x1 x2 x3) → g) : g := h.elim fun x1 h => h.elim fun x2 h => h.elim fun x3 h => k x1 x2 x3 h.1 h.2.1 h.2.2.1 h.2.2.2.1 h.2.2.2.2.1 h.2.2.2.2.2.1 h.2.2.2.2.2.2.1 h.2.2.2.2.2.2.2.1 h.2.2.2.2.2.2.2.2.1 h.2.2.2.2.2.2.2.2.2
theorem e4a2 {α1 : Sort _} {α2 : Sort _} {α3 : Sort _} {α4 : Sort _} {p1 p2 : α1 → α2 → α3 → α4 → Prop} {g : Prop} (h : ∃ x1 x2 x3 x4, (p1 x1 x2 x3 x4) ∧ (p2 x1 x2 x3 x4)) (k : ∀ x1 x2 x3 x4, (p1 x1 x2 x3 x4) → (p2 x1 x2 x3 x4) → g) : g := h.elim fun x1 h => h.elim fun x2 h => h.elim fun x3 h => h.elim fun x4 h => k x1 x2 x3 x4 h.1 h.2
theorem e4a3 {α1 : Sort _} {α2 : Sort _} {α3 : Sort _} {α4 : Sort _} {p1 p2 p3 : α1 → α2 → α3 → α4 → Prop} {g : Prop} (h : ∃ x1 x2 x3 x4, (p1 x1 x2 x3 x4) ∧ (p2 x1 x2 x3 x4) ∧ (p3 x1 x2 x3 x4)) (k : ∀ x1 x2 x3 x4, (p1 x1 x2 x3 x4) → (p2 x1 x2 x3 x4) → (p3 x1 x2 x3 x4) → g) : g := h.elim fun x1 h => h.elim fun x2 h => h.elim fun x3 h => h.elim fun x4 h => k x1 x2 x3 x4 h.1 h.2.1 h.2.2
theorem e4a4 {α1 : Sort _} {α2 : Sort _} {α3 : Sort _} {α4 : Sort _} {p1 p2 p3 p4 : α1 → α2 → α3 → α4 → Prop} {g : Prop} (h : ∃ x1 x2 x3 x4, (p1 x1 x2 x3 x4) ∧ (p2 x1 x2 x3 x4) ∧ (p3 x1 x2 x3 x4) ∧ (p4 x1 x2 x3 x4)) (k : ∀ x1 x2 x3 x4, (p1 x1 x2 x3 x4) → (p2 x1 x2 x3 x4) → (p3 x1 x2 x3 x4) → (p4 x1 x2 x3 x4) → g) : g := h.elim fun x1 h => h.elim fun x2 h => h.elim fun x3 h => h.elim fun x4 h => k x1 x2 x3 x4 h.1 h.2.1 h.2.2.1 h.2.2.2
theorem e4a5 {α1 : Sort _} {α2 : Sort _} {α3 : Sort _} {α4 : Sort _} {p1 p2 p3 p4 p5 : α1 → α2 → α3 → α4 → Prop} {g : Prop} (h : ∃ x1 x2 x3 x4, (p1 x1 x2 x3 x4) ∧ (p2 x1 x2 x3 x4) ∧ (p3 x1 x2 x3 x4) ∧ (p4 x1 x2 x3 x4) ∧ (p5 x1 x2 x3 x4)) (k : ∀ x1 x2 x3 x4, (p1 x1 x2 x3 x4) → (p2 x1 x2 x3 x4) → (p3 x1 x2 x3 x4) → (p4 x1 x2 x3 x4) → (p5 x1 x2 x3 x4) → g) : g := h.elim fun x1 h => h.elim fun x2 h => h.elim fun x3 h => h.elim fun x4 h => k x1 x2 x3 x4 h.1 h.2.1 h.2.2.1 h.2.2.2.1 h.2.2.2.2
theorem e4a7 {α1 : Sort _} {α2 : Sort _} {α3 : Sort _} {α4 : Sort _} {p1 p2 p3 p4 p5 p6 p7 : α1 → α2 → α3 → α4 → Prop} {g : Prop} (h : ∃ x1 x2 x3 x4, (p1 x1 x2 x3 x4) ∧ (p2 x1 x2 x3 x4) ∧ (p3 x1 x2 x3 x4) ∧ (p4 x1 x2 x3 x4) ∧ (p5 x1 x2 x3 x4) ∧ (p6 x1 x2 x3 x4) ∧ (p7 x1 x2 x3 x4)) (k : ∀ x1 x2 x3 x4, (p1 x1 x2 x3 x4) → (p2 x1 x2 x3 x4) → (p3 x1 x2 x3 x4) → (p4 x1 x2 x3 x4) → (p5 x1 x2 x3 x4) → (p6 x1 x2 x3 x4) → (p7 x1 x2 x3 x4) → g) : g := h.elim fun x1 h => h.elim fun x2 h => h.elim fun x3 h => h.elim fun x4 h => k x1 x2 x3 x4 h.1 h.2.1 h.2.2.1 h.2.2.2.1 h.2.2.2.2.1 h.2.2.2.2.2.1 h.2.2.2.2.2.2
theorem e5a2 {α1 : Sort _} {α2 : Sort _} {α3 : Sort _} {α4 : Sort _} {α5 : Sort _} {p1 p2 : α1 → α2 → α3 → α4 → α5 → Prop} {g : Prop} (h : ∃ x1 x2 x3 x4 x5, (p1 x1 x2 x3 x4 x5) ∧ (p2 x1 x2 x3 x4 x5)) (k : ∀ x1 x2 x3 x4 x5, (p1 x1 x2 x3 x4 x5) → (p2 x1 x2 x3 x4 x5) → g) : g := h.elim fun x1 h => h.elim fun x2 h => h.elim fun x3 h => h.elim fun x4 h => h.elim fun x5 h => k x1 x2 x3 x4 x5 h.1 h.2
theorem e5a4 {α1 : Sort _} {α2 : Sort _} {α3 : Sort _} {α4 : Sort _} {α5 : Sort _} {p1 p2 p3 p4 : α1 → α2 → α3 → α4 → α5 → Prop} {g : Prop} (h : ∃ x1 x2 x3 x4 x5, (p1 x1 x2 x3 x4 x5) ∧ (p2 x1 x2 x3 x4 x5) ∧ (p3 x1 x2 x3 x4 x5) ∧ (p4 x1 x2 x3 x4 x5)) (k : ∀ x1 x2 x3 x4 x5, (p1 x1 x2 x3 x4 x5) → (p2 x1 x2 x3 x4 x5) → (p3 x1 x2 x3 x4 x5) → (p4 x1 x2 x3 x4 x5) → g) : g := h.elim fun x1 h => h.elim fun x2 h => h.elim fun x3 h => h.elim fun x4 h => h.elim fun x5 h => k x1 x2 x3 x4 x5 h.1 h.2.1 h.2.2.1 h.2.2.2
theorem e5a5 {α1 : Sort _} {α2 : Sort _} {α3 : Sort _} {α4 : Sort _} {α5 : Sort _} {p1 p2 p3 p4 p5 : α1 → α2 → α3 → α4 → α5 → Prop} {g : Prop} (h : ∃ x1 x2 x3 x4 x5, (p1 x1 x2 x3 x4 x5) ∧ (p2 x1 x2 x3 x4 x5) ∧ (p3 x1 x2 x3 x4 x5) ∧ (p4 x1 x2 x3 x4 x5) ∧ (p5 x1 x2 x3 x4 x5)) (k : ∀ x1 x2 x3 x4 x5, (p1 x1 x2 x3 x4 x5) → (p2 x1 x2 x3 x4 x5) → (p3 x1 x2 x3 x4 x5) → (p4 x1 x2 x3 x4 x5) → (p5 x1 x2 x3 x4 x5) → g) : g := h.elim fun x1 h => h.elim fun x2 h => h.elim fun x3 h => h.elim fun x4 h => h.elim fun x5 h => k x1 x2 x3 x4 x5 h.1 h.2.1 h.2.2.1 h.2.2.2.1 h.2.2.2.2
theorem e5a7 {α1 : Sort _} {α2 : Sort _} {α3 : Sort _} {α4 : Sort _} {α5 : Sort _} {p1 p2 p3 p4 p5 p6 p7 : α1 → α2 → α3 → α4 → α5 → Prop} {g : Prop} (h : ∃ x1 x2 x3 x4 x5, (p1 x1 x2 x3 x4 x5) ∧ (p2 x1 x2 x3 x4 x5) ∧ (p3 x1 x2 x3 x4 x5) ∧ (p4 x1 x2 x3 x4 x5) ∧ (p5 x1 x2 x3 x4 x5) ∧ (p6 x1 x2 x3 x4 x5) ∧ (p7 x1 x2 x3 x4 x5)) (k : ∀ x1 x2 x3 x4 x5, (p1 x1 x2 x3 x4 x5) → (p2 x1 x2 x3 x4 x5) → (p3 x1 x2 x3 x4 x5) → (p4 x1 x2 x3 x4 x5) → (p5 x1 x2 x3 x4 x5) → (p6 x1 x2 x3 x4 x5) → (p7 x1 x2 x3 x4 x5) → g) : g := h.elim fun x1 h => h.elim fun x2 h => h.elim fun x3 h => h.elim fun x4 h => h.elim fun x5 h => k x1 x2 x3 x4 x5 h.1 h.2.1 h.2.2.1 h.2.2.2.1 h.2.2.2.2.1 h.2.2.2.2.2.1 h.2.2.2.2.2.2
theorem e6a5 {α1 : Sort _} {α2 : Sort _} {α3 : Sort _} {α4 : Sort _} {α5 : Sort _} {α6 : Sort _} {p1 p2 p3 p4 p5 : α1 → α2 → α3 → α4 → α5 → α6 → Prop} {g : Prop} (h : ∃ x1 x2 x3 x4 x5 x6, (p1 x1 x2 x3 x4 x5 x6) ∧ (p2 x1 x2 x3 x4 x5 x6) ∧ (p3 x1 x2 x3 x4 x5 x6) ∧ (p4 x1 x2 x3 x4 x5 x6) ∧ (p5 x1 x2 x3 x4 x5 x6)) (k : ∀ x1 x2 x3 x4 x5 x6, (p1 x1 x2 x3 x4 x5 x6) → (p2 x1 x2 x3 x4 x5 x6) → (p3 x1 x2 x3 x4 x5 x6) → (p4 x1 x2 x3 x4 x5 x6) → (p5 x1 x2 x3 x4 x5 x6) → g) : g := h.elim fun x1 h => h.elim fun x2 h => h.elim fun x3 h => h.elim fun x4 h => h.elim fun x5 h => h.elim fun x6 h => k x1 x2 x3 x4 x5 x6 h.1 h.2.1 h.2.2.1 h.2.2.2.1 h.2.2.2.2
theorem e6a8 {α1 : Sort _} {α2 : Sort _} {α3 : Sort _} {α4 : Sort _} {α5 : Sort _} {α6 : Sort _} {p1 p2 p3 p4 p5 p6 p7 p8 : α1 → α2 → α3 → α4 → α5 → α6 → Prop} {g : Prop} (h : ∃ x1 x2 x3 x4 x5 x6, (p1 x1 x2 x3 x4 x5 x6) ∧ (p2 x1 x2 x3 x4 x5 x6) ∧ (p3 x1 x2 x3 x4 x5 x6) ∧ (p4 x1 x2 x3 x4 x5 x6) ∧ (p5 x1 x2 x3 x4 x5 x6) ∧ (p6 x1 x2 x3 x4 x5 x6) ∧ (p7 x1 x2 x3 x4 x5 x6) ∧ (p8 x1 x2 x3 x4 x5 x6)) (k : ∀ x1 x2 x3 x4 x5 x6, (p1 x1 x2 x3 x4 x5 x6) → (p2 x1 x2 x3 x4 x5 x6) → (p3 x1 x2 x3 x4 x5 x6) → (p4 x1 x2 x3 x4 x5 x6) → (p5 x1 x2 x3 x4 x5 x6) → (p6 x1 x2 x3 x4 x5 x6) → (p7 x1 x2 x3 x4 x5 x6) → (p8 x1 x2 x3 x4 x5 x6) → g) : g := h.elim fun x1 h => h.elim fun x2 h => h.elim fun x3 h => h.elim fun x4 h => h.elim fun x5 h => h.elim fun x6 h => k x1 x2 x3 x4 x5 x6 h.1 h.2.1 h.2.2.1 h.2.2.2.1 h.2.2.2.2.1 h.2.2.2.2.2.1 h.2.2.2.2.2.2.1 h.2.2.2.2.2.2.2
theorem e6a12 {α1 : Sort _} {α2 : Sort _} {α3 : Sort _} {α4 : Sort _} {α5 : Sort _} {α6 : Sort _} {p1 p2 p3 p4 p5 p6 p7 p8 p9 p10 p11 p12 : α1 → α2 → α3 → α4 → α5 → α6 → Prop} {g : Prop} (h : ∃ x1 x2 x3 x4 x5 x6, (p1 x1 x2 x3 x4 x5 x6) ∧ (p2 x1 x2 x3 x4 x5 x6) ∧ (p3 x1 x2 x3 x4 x5 x6) ∧ (p4 x1 x2 x3 x4 x5 x6) ∧ (p5 x1 x2 x3 x4 x5 x6) ∧ (p6 x1 x2 x3 x4 x5 x6) ∧ (p7 x1 x2 x3 x4 x5 x6) ∧ (p8 x1 x2 x3 x4 x5 x6) ∧ (p9 x1 x2 x3 x4 x5 x6) ∧ (p10 x1 x2 x3 x4 x5 x6) ∧ (p11 x1 x2 x3 x4 x5 x6) ∧ (p12 x1 x2 x3 x4 x5 x6)) (k : ∀ x1 x2 x3 x4 x5 x6, (p1 x1 x2 x3 x4 x5 x6) → (p2 x1 x2 x3 x4 x5 x6) → (p3 x1 x2 x3 x4 x5 x6) → (p4 x1 x2 x3 x4 x5 x6) → (p5 x1 x2 x3 x4 x5 x6) → (p6 x1 x2 x3 x4 x5 x6) → (p7 x1 x2 x3 x4 x5 x6) → (p8 x1 x2 x3 x4 x5 x6) → (p9 x1 x2 x3 x4 x5 x6) → (p10 x1 x2 x3 x4 x5 x6) → (p11 x1 x2 x3 x4 x5 x6) → (p12 x1 x2 x3 x4 x5 x6) → g) : g := h.elim fun x1 h => h.elim fun x2 h => h.elim fun x3 h => h.elim fun x4 h => h.elim fun x5 h => h.elim fun x6 h => k x1 x2 x3 x4 x5 x6 h.1 h.2.1 h.2.2.1 h.2.2.2.1 h.2.2.2.2.1 h.2.2.2.2.2.1 h.2.2.2.2.2.2.1 h.2.2.2.2.2.2.2.1 h.2.2.2.2.2.2.2.2.1 h.2.2.2.2.2.2.2.2.2.1 h.2.2.2.2.2.2.2.2.2.2.1 h.2.2.2.2.2.2.2.2.2.2.2
end Mine
namespace Mine
open Nat.Internal.Linear (Context)
abbrev LX := Nat.Internal.Linear.Expr
/-- sums of inequalities: the goal behind all of them -/
noncomputable def dnt (ctx : Context) : List (Nat × LX × LX) → Prop → Prop
  | [], g => g
  | (_, a, b) :: cs, g => a.denote ctx ≤ b.denote ctx → dnt ctx cs g
noncomputable def sumL : List (Nat × LX × LX) → LX
  | [] => .num 0
  | (k, a, _) :: cs => .add (.mulL k a) (sumL cs)
noncomputable def sumR : List (Nat × LX × LX) → LX
  | [] => .num 0
  | (k, _, b) :: cs => .add (.mulL k b) (sumR cs)
theorem dnt_of {ctx : Context} {g : Prop} : ∀ (cs : List (Nat × LX × LX)), ((sumL cs).denote ctx ≤ (sumR cs).denote ctx → g) → dnt ctx cs g
  | [], h => h (Nat.le_refl _)
  | (k, _, _) :: cs, h => fun e => dnt_of cs fun q => h (Nat.add_le_add (Nat.mul_le_mul_left k e) q)
noncomputable def farOk (d : Nat) (cs : List (Nat × LX × LX)) (l r : LX) : Bool :=
  (Nat.Internal.Linear.ExprCnstr.mk false (.add (.mulL (d + 1) l) (sumR cs)) (.add (.add (.mulL (d + 1) r) (.num d)) (sumL cs))).toNormPoly.isValid
theorem far {ctx : Context} (d : Nat) (cs : List (Nat × LX × LX)) (l r : LX) (h : farOk d cs l r = true) : dnt ctx cs (l.denote ctx ≤ r.denote ctx) :=
  dnt_of cs fun q => by
    have e := of_eq_true (Nat.Internal.Linear.ExprCnstr.eq_true_of_isValid ctx _ h)
    have e' : (d + 1) * l.denote ctx + (sumR cs).denote ctx ≤ (d + 1) * r.denote ctx + d + (sumL cs).denote ctx := e
    have e2 : (d + 1) * l.denote ctx ≤ (d + 1) * r.denote ctx + d := by omega
    refine Nat.le_of_not_lt fun c => ?_
    have := Nat.mul_le_mul_left (d + 1) (Nat.succ_le_of_lt c)
    rw [Nat.mul_succ] at this
    omega
theorem farF {ctx : Context} (cs : List (Nat × LX × LX)) (h : farOk 0 cs (.num 1) (.num 0) = true) : dnt ctx cs False :=
  dnt_of cs fun q => by
    have e := of_eq_true (Nat.Internal.Linear.ExprCnstr.eq_true_of_isValid ctx _ h)
    have e' : 1 * 1 + (sumR cs).denote ctx ≤ 1 * 0 + 0 + (sumL cs).denote ctx := e
    omega
theorem omSubA (a b : Nat) : a ≤ a - b + b := by omega
theorem omSubB {a b : Nat} (h : b ≤ a) : a - b + b ≤ a := by omega
theorem omDivA (a : Nat) {k : Nat} (h : Nat.blt 0 k = true) : a + 1 ≤ k * (a / k) + k := by
  have := Nat.lt_mul_div_succ a (Nat.le_of_ble_eq_true h)
  rwa [Nat.mul_succ] at this
abbrev C1 (a : Nat) : Nat.Internal.Linear.Context := .leaf a
abbrev C2 (a b : Nat) : Nat.Internal.Linear.Context := .branch 1 (.leaf a) (.leaf b)
abbrev C3 (a b c : Nat) : Nat.Internal.Linear.Context := .branch 1 (.leaf a) (.branch 2 (.leaf b) (.leaf c))
abbrev C4 (a b c d : Nat) : Nat.Internal.Linear.Context := .branch 2 (.branch 1 (.leaf a) (.leaf b)) (.branch 3 (.leaf c) (.leaf d))
abbrev C5 (a b c d e : Nat) : Nat.Internal.Linear.Context := .branch 2 (.branch 1 (.leaf a) (.leaf b)) (.branch 3 (.leaf c) (.branch 4 (.leaf d) (.leaf e)))
abbrev C6 (a b c d e f : Nat) : Nat.Internal.Linear.Context := .branch 3 (.branch 1 (.leaf a) (.branch 2 (.leaf b) (.leaf c))) (.branch 4 (.leaf d) (.branch 5 (.leaf e) (.leaf f)))
abbrev C7 (a b c d e f g : Nat) : Nat.Internal.Linear.Context := .branch 3 (.branch 1 (.leaf a) (.branch 2 (.leaf b) (.leaf c))) (.branch 5 (.branch 4 (.leaf d) (.leaf e)) (.branch 6 (.leaf f) (.leaf g)))
abbrev C8 (a b c d e f g h : Nat) : Nat.Internal.Linear.Context := .branch 4 (.branch 2 (.branch 1 (.leaf a) (.leaf b)) (.branch 3 (.leaf c) (.leaf d))) (.branch 6 (.branch 5 (.leaf e) (.leaf f)) (.branch 7 (.leaf g) (.leaf h)))
theorem o1 {a : Nat} : 1 + a = a + 1 := Nat.le_antisymm (Mine.far (ctx := (Mine.C1 a)) 0 [] (.add (.num 1) (.var 0)) (.add (.var 0) (.num 1)) rfl ) (Mine.far (ctx := (Mine.C1 a)) 0 [] (.add (.var 0) (.num 1)) (.add (.num 1) (.var 0)) rfl )
theorem o2 {a b : Nat} : a + 1 + b = a + (b + 1) := Nat.le_antisymm (Mine.far (ctx := (Mine.C2 a b)) 0 [] (.add (.add (.var 0) (.num 1)) (.var 1)) (.add (.var 0) (.add (.var 1) (.num 1))) rfl ) (Mine.far (ctx := (Mine.C2 a b)) 0 [] (.add (.var 0) (.add (.var 1) (.num 1))) (.add (.add (.var 0) (.num 1)) (.var 1)) rfl )
theorem o3 {a : Nat} : (min 5 a) ≤ 5 := Mine.far (ctx := (Mine.C1 (min 5 a))) 0 [(1, (.var 0), (.num 5))] (.var 0) (.num 5) rfl (Nat.min_le_left 5 a)
theorem o4 {a b c : Nat} (h1 : a ≤ b + 1 + c) : a ≤ b + (c + 1) := Mine.far (ctx := (Mine.C3 a b c)) 0 [(1, (.var 0), (.add (.add (.var 1) (.num 1)) (.var 2)))] (.var 0) (.add (.var 1) (.add (.var 2) (.num 1))) rfl h1
theorem o5 {a : Nat} (h1 : 5 ≤ a) : 0 < a := Mine.far (ctx := (Mine.C1 a)) 4 [(1, (.num 5), (.var 0))] (.add (.num 0) (.num 1)) (.var 0) rfl h1
theorem o6 {a b c : Nat} (h1 : a ≤ b + c) : a ≤ b + (c + 1) := Mine.far (ctx := (Mine.C3 a b c)) 0 [(1, (.var 0), (.add (.var 1) (.var 2)))] (.var 0) (.add (.var 1) (.add (.var 2) (.num 1))) rfl h1
theorem o7 {a : Nat} (h1 : 5 ≤ a) : 1 < a := Mine.far (ctx := (Mine.C1 a)) 4 [(2, (.num 5), (.var 0))] (.add (.num 1) (.num 1)) (.var 0) rfl h1
theorem o8 {a b : Nat} (h1 : a = b) (h2 : 5 ≤ b) : 0 < a := Mine.far (ctx := (Mine.C2 a b)) 4 [(1, (.var 1), (.var 0)), (1, (.num 5), (.var 1))] (.add (.num 0) (.num 1)) (.var 0) rfl (Nat.le_of_eq (Eq.symm h1)) h2
theorem o9 {a b : Nat} (h1 : a = b) (h2 : 5 ≤ b) : 1 < a := Mine.far (ctx := (Mine.C2 a b)) 4 [(2, (.var 1), (.var 0)), (2, (.num 5), (.var 1))] (.add (.num 1) (.num 1)) (.var 0) rfl (Nat.le_of_eq (Eq.symm h1)) h2
theorem o10 {a b : Nat} (h1 : a + 3 < b) : a < b := Mine.far (ctx := (Mine.C2 a b)) 0 [(1, (.add (.add (.var 0) (.num 3)) (.num 1)), (.var 1))] (.add (.var 0) (.num 1)) (.var 1) rfl h1
theorem o11 {a b : Nat} (h1 : a + 20 < b) : a < b := Mine.far (ctx := (Mine.C2 a b)) 0 [(1, (.add (.add (.var 0) (.num 20)) (.num 1)), (.var 1))] (.add (.var 0) (.num 1)) (.var 1) rfl h1
theorem o12 {a b : Nat} (h1 : a + 20 < b) : a + 1 + 3 < b := Mine.far (ctx := (Mine.C2 a b)) 0 [(1, (.add (.add (.var 0) (.num 20)) (.num 1)), (.var 1))] (.add (.add (.add (.var 0) (.num 1)) (.num 3)) (.num 1)) (.var 1) rfl h1
theorem o13 {a b : Nat} (h1 : a + 100 < b) : a + 3 + 16 < b := Mine.far (ctx := (Mine.C2 a b)) 0 [(1, (.add (.add (.var 0) (.num 100)) (.num 1)), (.var 1))] (.add (.add (.add (.var 0) (.num 3)) (.num 16)) (.num 1)) (.var 1) rfl h1
theorem o14 {a b : Nat} (h1 : b ≤ 1000) (h2 : a = b) : a < 2 ^ 20 := Mine.far (ctx := (Mine.C2 a b)) 0 [(1, (.var 1), (.num 1000)), (1, (.var 0), (.var 1))] (.add (.var 0) (.num 1)) (.num (2 ^ 20)) rfl h1 (Nat.le_of_eq h2)
theorem o15 {a : Nat} (h1 : a = 0) : a = 0 := Nat.le_antisymm (Mine.far (ctx := (Mine.C1 a)) 0 [(1, (.var 0), (.num 0))] (.var 0) (.num 0) rfl (Nat.le_of_eq h1)) (Mine.far (ctx := (Mine.C1 a)) 0 [] (.num 0) (.var 0) rfl )
theorem o16 {a : Nat} (h1 : a ≤ 1000) : a < 2 ^ 20 := Mine.far (ctx := (Mine.C1 a)) 0 [(1, (.var 0), (.num 1000))] (.add (.var 0) (.num 1)) (.num (2 ^ 20)) rfl h1
theorem o17 {a b : Nat} (h1 : b ≤ 100) (h2 : a = b) : a < 2 ^ 20 := Mine.far (ctx := (Mine.C2 a b)) 0 [(1, (.var 1), (.num 100)), (1, (.var 0), (.var 1))] (.add (.var 0) (.num 1)) (.num (2 ^ 20)) rfl h1 (Nat.le_of_eq h2)
theorem o18 {a b : Nat} (h1 : b ≤ 1000) (h2 : a < b) : a < 2 ^ 18 := Mine.far (ctx := (Mine.C2 a b)) 0 [(1, (.var 1), (.num 1000)), (1, (.add (.var 0) (.num 1)), (.var 1))] (.add (.var 0) (.num 1)) (.num (2 ^ 18)) rfl h1 h2
theorem o19 {a b : Nat} (h1 : a + 20 < b) : a + 1 + 8 < b := Mine.far (ctx := (Mine.C2 a b)) 0 [(1, (.add (.add (.var 0) (.num 20)) (.num 1)), (.var 1))] (.add (.add (.add (.var 0) (.num 1)) (.num 8)) (.num 1)) (.var 1) rfl h1
theorem o20 {a b : Nat} (h1 : a + 100 < b) : a + 3 + 60 < b := Mine.far (ctx := (Mine.C2 a b)) 0 [(1, (.add (.add (.var 0) (.num 100)) (.num 1)), (.var 1))] (.add (.add (.add (.var 0) (.num 3)) (.num 60)) (.num 1)) (.var 1) rfl h1
theorem o21 {a : Nat} (h1 : a ≤ 100) : a < 2 ^ 20 := Mine.far (ctx := (Mine.C1 a)) 0 [(1, (.var 0), (.num 100))] (.add (.var 0) (.num 1)) (.num (2 ^ 20)) rfl h1
theorem o22 {a b : Nat} (h1 : b ≤ 100) (h2 : a < b) : a ≤ 100 := Mine.far (ctx := (Mine.C2 a b)) 0 [(1, (.var 1), (.num 100)), (1, (.add (.var 0) (.num 1)), (.var 1))] (.var 0) (.num 100) rfl h1 h2
theorem o23 {a b c : Nat} (h1 : a ≤ 100) (h2 : b ≤ 100 * c) : a + b ≤ 100 * (c + 1) := Mine.far (ctx := (Mine.C3 a b c)) 0 [(1, (.var 0), (.num 100)), (1, (.var 1), (.mulL 100 (.var 2)))] (.add (.var 0) (.var 1)) (.mulL 100 (.add (.var 2) (.num 1))) rfl h1 h2
theorem o24 {a b : Nat} (h1 : b ≤ 1000) : (min a b) ≤ 1000 := Mine.far (ctx := (Mine.C2 (min a b) b)) 0 [(1, (.var 1), (.num 1000)), (1, (.var 0), (.var 1))] (.var 0) (.num 1000) rfl h1 (Nat.min_le_right a b)
theorem o25 {a : Nat} (h1 : a ≤ 1000) : a < 4000 := Mine.far (ctx := (Mine.C1 a)) 0 [(1, (.var 0), (.num 1000))] (.add (.var 0) (.num 1)) (.num 4000) rfl h1
theorem o26 {a b : Nat} (h1 : b ≤ 100) (h2 : a = b) : a < 2 ^ 19 := Mine.far (ctx := (Mine.C2 a b)) 0 [(1, (.var 1), (.num 100)), (1, (.var 0), (.var 1))] (.add (.var 0) (.num 1)) (.num (2 ^ 19)) rfl h1 (Nat.le_of_eq h2)
theorem o27 {a b c : Nat} (h1 : c ≤ 1000) (h2 : a + b ≤ c) : a + b ≤ 1000 := Mine.far (ctx := (Mine.C3 a b c)) 0 [(1, (.var 2), (.num 1000)), (1, (.add (.var 0) (.var 1)), (.var 2))] (.add (.var 0) (.var 1)) (.num 1000) rfl h1 h2
theorem o28 {a b : Nat} (h1 : b ≤ 100) (h2 : a < b) : a < 2 ^ 62 := Mine.far (ctx := (Mine.C2 a b)) 0 [(1, (.var 1), (.num 100)), (1, (.add (.var 0) (.num 1)), (.var 1))] (.add (.var 0) (.num 1)) (.num (2 ^ 62)) rfl h1 h2
theorem o29 {a b : Nat} (h1 : a + b ≤ 1000) : a + b < 4000 := Mine.far (ctx := (Mine.C2 a b)) 0 [(1, (.add (.var 0) (.var 1)), (.num 1000))] (.add (.add (.var 0) (.var 1)) (.num 1)) (.num 4000) rfl h1
theorem o30 {a b : Nat} (h1 : b ≤ 1000) (h2 : a < b) : a < 2 ^ 62 := Mine.far (ctx := (Mine.C2 a b)) 0 [(1, (.var 1), (.num 1000)), (1, (.add (.var 0) (.num 1)), (.var 1))] (.add (.var 0) (.num 1)) (.num (2 ^ 62)) rfl h1 h2
theorem o31 {a b : Nat} (h1 : b = a) : a ≤ b := Mine.far (ctx := (Mine.C2 a b)) 0 [(1, (.var 0), (.var 1))] (.var 0) (.var 1) rfl (Nat.le_of_eq (Eq.symm h1))
theorem o32 {a b : Nat} (h1 : a + 100 < b) : a + 3 < b := Mine.far (ctx := (Mine.C2 a b)) 0 [(1, (.add (.add (.var 0) (.num 100)) (.num 1)), (.var 1))] (.add (.add (.var 0) (.num 3)) (.num 1)) (.var 1) rfl h1
theorem o33 {a : Nat} (h1 : a ≤ 100) : a < 2 ^ 18 := Mine.far (ctx := (Mine.C1 a)) 0 [(1, (.var 0), (.num 100))] (.add (.var 0) (.num 1)) (.num (2 ^ 18)) rfl h1
theorem o34 {a b c : Nat} (h1 : b ≤ 100) (h2 : a ≤ c + b) (h3 : c ≤ 100000) : a < 2 ^ 18 := Mine.far (ctx := (Mine.C3 a b c)) 0 [(1, (.var 1), (.num 100)), (1, (.var 0), (.add (.var 2) (.var 1))), (1, (.var 2), (.num 100000))] (.add (.var 0) (.num 1)) (.num (2 ^ 18)) rfl h1 h2 h3
theorem o35 {a b c : Nat} (h1 : b = c) (h2 : a < c) : a < b := Mine.far (ctx := (Mine.C3 a b c)) 0 [(1, (.var 2), (.var 1)), (1, (.add (.var 0) (.num 1)), (.var 2))] (.add (.var 0) (.num 1)) (.var 1) rfl (Nat.le_of_eq (Eq.symm h1)) h2
theorem o36 {a b : Nat} (h1 : b ≤ 63) (h2 : a = b) : a < 1048576 := Mine.far (ctx := (Mine.C2 a b)) 0 [(1, (.var 1), (.num 63)), (1, (.var 0), (.var 1))] (.add (.var 0) (.num 1)) (.num 1048576) rfl h1 (Nat.le_of_eq h2)
theorem o37 {a b : Nat} (h1 : a = (min 5 b)) : 2 + a < 1048576 := Mine.far (ctx := (Mine.C2 a (min 5 b))) 0 [(1, (.var 0), (.var 1)), (1, (.var 1), (.num 5))] (.add (.add (.num 2) (.var 0)) (.num 1)) (.num 1048576) rfl (Nat.le_of_eq h1) (Nat.min_le_left 5 b)
theorem o38 {a b : Nat} (h1 : a < 2 ^ 20) (h2 : b = 2 ^ 24) : a + 1 ≤ b := Mine.far (ctx := (Mine.C2 a b)) 15 [(16, (.add (.var 0) (.num 1)), (.num (2 ^ 20))), (1, (.num (2 ^ 24)), (.var 1))] (.add (.var 0) (.num 1)) (.var 1) rfl h1 (Nat.le_of_eq (Eq.symm h2))
theorem o39 {a b : Nat} (h1 : a < 2 ^ 20) (h2 : b = 2 ^ 24) : a ≤ b := Mine.far (ctx := (Mine.C2 a b)) 15 [(16, (.add (.var 0) (.num 1)), (.num (2 ^ 20))), (1, (.num (2 ^ 24)), (.var 1))] (.var 0) (.var 1) rfl h1 (Nat.le_of_eq (Eq.symm h2))
theorem o40 {a b : Nat} (h1 : a = (min 5 b)) : a + 1 + 1 + 3 < 1048576 := Mine.far (ctx := (Mine.C2 a (min 5 b))) 0 [(1, (.var 0), (.var 1)), (1, (.var 1), (.num 5))] (.add (.add (.add (.add (.var 0) (.num 1)) (.num 1)) (.num 3)) (.num 1)) (.num 1048576) rfl (Nat.le_of_eq h1) (Nat.min_le_left 5 b)
theorem o41 {a b c : Nat} (h1 : b + c ≤ 1000) (h2 : a = c) : a < 2 ^ 20 := Mine.far (ctx := (Mine.C3 a b c)) 0 [(1, (.add (.var 1) (.var 2)), (.num 1000)), (1, (.var 0), (.var 2))] (.add (.var 0) (.num 1)) (.num (2 ^ 20)) rfl h1 (Nat.le_of_eq h2)
theorem o42 {a b c d : Nat} (h1 : b + c ≤ 1000) (h2 : d = c) (h3 : a ≤ d) : a ≤ 1000 := Mine.far (ctx := (Mine.C4 a b c d)) 0 [(1, (.add (.var 1) (.var 2)), (.num 1000)), (1, (.var 3), (.var 2)), (1, (.var 0), (.var 3))] (.var 0) (.num 1000) rfl h1 (Nat.le_of_eq h2) h3
theorem o43 {a : Nat} (h1 : a ≤ 1000) : a + 1 < 1048576 := Mine.far (ctx := (Mine.C1 a)) 0 [(1, (.var 0), (.num 1000))] (.add (.add (.var 0) (.num 1)) (.num 1)) (.num 1048576) rfl h1
theorem o44 {a : Nat} (h1 : a ≤ 10) : a ≤ 20 := Mine.far (ctx := (Mine.C1 a)) 0 [(1, (.var 0), (.num 10))] (.var 0) (.num 20) rfl h1
theorem o45 {a : Nat} (h1 : a ≤ 1000) : a + 1 < 524288 := Mine.far (ctx := (Mine.C1 a)) 0 [(1, (.var 0), (.num 1000))] (.add (.add (.var 0) (.num 1)) (.num 1)) (.num 524288) rfl h1
theorem o46 {a b : Nat} (h1 : a + 30 < b) : a + 3 < b := Mine.far (ctx := (Mine.C2 a b)) 0 [(1, (.add (.add (.var 0) (.num 30)) (.num 1)), (.var 1))] (.add (.add (.var 0) (.num 3)) (.num 1)) (.var 1) rfl h1
theorem o47 {a b : Nat} (h1 : a + 200 < b) : a + 16 < b := Mine.far (ctx := (Mine.C2 a b)) 0 [(1, (.add (.add (.var 0) (.num 200)) (.num 1)), (.var 1))] (.add (.add (.var 0) (.num 16)) (.num 1)) (.var 1) rfl h1
theorem o48 {a b c : Nat} (h1 : b ≤ 100) (h2 : c < b) (h3 : a = c) : a < 2 ^ 20 := Mine.far (ctx := (Mine.C3 a b c)) 0 [(1, (.var 1), (.num 100)), (1, (.add (.var 2) (.num 1)), (.var 1)), (1, (.var 0), (.var 2))] (.add (.var 0) (.num 1)) (.num (2 ^ 20)) rfl h1 h2 (Nat.le_of_eq h3)
theorem o49 {a b : Nat} (h1 : a + 100 < b) : a + 3 + 1 < b := Mine.far (ctx := (Mine.C2 a b)) 0 [(1, (.add (.add (.var 0) (.num 100)) (.num 1)), (.var 1))] (.add (.add (.add (.var 0) (.num 3)) (.num 1)) (.num 1)) (.var 1) rfl h1
theorem o50 {a b : Nat} (h1 : b ≤ 10) (h2 : a = b) : a < 2 ^ 19 := Mine.far (ctx := (Mine.C2 a b)) 0 [(1, (.var 1), (.num 10)), (1, (.var 0), (.var 1))] (.add (.var 0) (.num 1)) (.num (2 ^ 19)) rfl h1 (Nat.le_of_eq h2)
theorem o51 {a b : Nat} (h1 : b ≤ 100) (h2 : a = b) : 1 + a < 1048576 := Mine.far (ctx := (Mine.C2 a b)) 0 [(1, (.var 1), (.num 100)), (1, (.var 0), (.var 1))] (.add (.add (.num 1) (.var 0)) (.num 1)) (.num 1048576) rfl h1 (Nat.le_of_eq h2)
theorem o52 {a : Nat} (h1 : a ≤ 100) : a < 2 ^ 19 := Mine.far (ctx := (Mine.C1 a)) 0 [(1, (.var 0), (.num 100))] (.add (.var 0) (.num 1)) (.num (2 ^ 19)) rfl h1
theorem o53 {a b : Nat} : (min a b) ≤ b := Mine.far (ctx := (Mine.C2 (min a b) b)) 0 [(1, (.var 0), (.var 1))] (.var 0) (.var 1) rfl (Nat.min_le_right a b)
theorem o54 {a b c d e : Nat} (h1 : b + c < 2 ^ 18) (h2 : d ≤ b + e) (h3 : a = d) (h4 : e ≤ c) : a < 2 ^ 20 := Mine.far (ctx := (Mine.C5 a b c d e)) 0 [(1, (.add (.add (.var 1) (.var 2)) (.num 1)), (.num (2 ^ 18))), (1, (.var 3), (.add (.var 1) (.var 4))), (1, (.var 0), (.var 3)), (1, (.var 4), (.var 2))] (.add (.var 0) (.num 1)) (.num (2 ^ 20)) rfl h1 h2 (Nat.le_of_eq h3) h4
theorem o55 {a b c d e f : Nat} (h1 : b ≤ 100) (h2 : c < b) (h3 : d ≤ e) (h4 : e ≤ 100 * 100) (h5 : f ≤ d + c) (h6 : a = f) : a < 2 ^ 20 := Mine.far (ctx := (Mine.C6 a b c d e f)) 0 [(1, (.var 1), (.num 100)), (1, (.add (.var 2) (.num 1)), (.var 1)), (1, (.var 3), (.var 4)), (1, (.var 4), (.mulL 100 (.num 100))), (1, (.var 5), (.add (.var 3) (.var 2))), (1, (.var 0), (.var 5))] (.add (.var 0) (.num 1)) (.num (2 ^ 20)) rfl h1 h2 h3 h4 h5 (Nat.le_of_eq h6)
theorem o56 {a : Nat} (h1 : a ≤ 100000) : a < 2 ^ 18 := Mine.far (ctx := (Mine.C1 a)) 0 [(1, (.var 0), (.num 100000))] (.add (.var 0) (.num 1)) (.num (2 ^ 18)) rfl h1
theorem o57 {a b : Nat} (h1 : a + 20 < b) : a + 1 + 6 < b := Mine.far (ctx := (Mine.C2 a b)) 0 [(1, (.add (.add (.var 0) (.num 20)) (.num 1)), (.var 1))] (.add (.add (.add (.var 0) (.num 1)) (.num 6)) (.num 1)) (.var 1) rfl h1
theorem o58 {a b : Nat} (h1 : a + 100 < b) : a + 3 + 20 < b := Mine.far (ctx := (Mine.C2 a b)) 0 [(1, (.add (.add (.var 0) (.num 100)) (.num 1)), (.var 1))] (.add (.add (.add (.var 0) (.num 3)) (.num 20)) (.num 1)) (.var 1) rfl h1
theorem o59 {a b c : Nat} (h1 : b + c ≤ 1000) (h2 : a = c) : a < 1048576 := Mine.far (ctx := (Mine.C3 a b c)) 0 [(1, (.add (.var 1) (.var 2)), (.num 1000)), (1, (.var 0), (.var 2))] (.add (.var 0) (.num 1)) (.num 1048576) rfl h1 (Nat.le_of_eq h2)
theorem o60 {a b c : Nat} (h1 : b ≤ 10) (h2 : a = c) (h3 : c = b) : a < 2 ^ 20 := Mine.far (ctx := (Mine.C3 a b c)) 0 [(1, (.var 1), (.num 10)), (1, (.var 0), (.var 2)), (1, (.var 2), (.var 1))] (.add (.var 0) (.num 1)) (.num (2 ^ 20)) rfl h1 (Nat.le_of_eq h2) (Nat.le_of_eq h3)
theorem o61 {a b c : Nat} (h1 : b + c ≤ 1000) (h2 : a = c) : a ≤ 1000 := Mine.far (ctx := (Mine.C3 a b c)) 0 [(1, (.add (.var 1) (.var 2)), (.num 1000)), (1, (.var 0), (.var 2))] (.var 0) (.num 1000) rfl h1 (Nat.le_of_eq h2)
theorem o62 {a b : Nat} (h1 : b ≤ 10) (h2 : a = b) : a < 2 ^ 20 := Mine.far (ctx := (Mine.C2 a b)) 0 [(1, (.var 1), (.num 10)), (1, (.var 0), (.var 1))] (.add (.var 0) (.num 1)) (.num (2 ^ 20)) rfl h1 (Nat.le_of_eq h2)
theorem o63 {a b : Nat} (h1 : a = b) : a = b := Nat.le_antisymm (Mine.far (ctx := (Mine.C2 a b)) 0 [(1, (.var 0), (.var 1))] (.var 0) (.var 1) rfl (Nat.le_of_eq h1)) (Mine.far (ctx := (Mine.C2 b a)) 0 [(1, (.var 0), (.var 1))] (.var 0) (.var 1) rfl (Nat.le_of_eq (Eq.symm h1)))
theorem o64 {a b c : Nat} (h1 : b ≤ 10) (h2 : c = b) (h3 : a < c) : a < 2 ^ 62 := Mine.far (ctx := (Mine.C3 a b c)) 0 [(1, (.var 1), (.num 10)), (1, (.var 2), (.var 1)), (1, (.add (.var 0) (.num 1)), (.var 2))] (.add (.var 0) (.num 1)) (.num (2 ^ 62)) rfl h1 (Nat.le_of_eq h2) h3
theorem o65 {a b c : Nat} (h1 : a = c) (h2 : c ≤ b) : a ≤ b := Mine.far (ctx := (Mine.C3 a b c)) 0 [(1, (.var 0), (.var 2)), (1, (.var 2), (.var 1))] (.var 0) (.var 1) rfl (Nat.le_of_eq h1) h2
theorem o66 {a b c : Nat} (h1 : b ≤ 10) (h2 : c = b) (h3 : a ≤ c) : a + 1 < 1048576 := Mine.far (ctx := (Mine.C3 a b c)) 0 [(1, (.var 1), (.num 10)), (1, (.var 2), (.var 1)), (1, (.var 0), (.var 2))] (.add (.add (.var 0) (.num 1)) (.num 1)) (.num 1048576) rfl h1 (Nat.le_of_eq h2) h3
theorem o67 {a b c d : Nat} (h1 : b ≤ 10) (h2 : c = b) (h3 : d < c) (h4 : a = d) : a < 2 ^ 20 := Mine.far (ctx := (Mine.C4 a b c d)) 0 [(1, (.var 1), (.num 10)), (1, (.var 2), (.var 1)), (1, (.add (.var 3) (.num 1)), (.var 2)), (1, (.var 0), (.var 3))] (.add (.var 0) (.num 1)) (.num (2 ^ 20)) rfl h1 (Nat.le_of_eq h2) h3 (Nat.le_of_eq h4)
theorem o68 {a : Nat} (h1 : a < 2 ^ 17) : a < 2 ^ 18 := Mine.far (ctx := (Mine.C1 a)) 0 [(1, (.add (.var 0) (.num 1)), (.num (2 ^ 17)))] (.add (.var 0) (.num 1)) (.num (2 ^ 18)) rfl h1
theorem o69 {a b : Nat} (h1 : b < 64) (h2 : a = b) : a < 2 ^ 19 := Mine.far (ctx := (Mine.C2 a b)) 0 [(1, (.add (.var 1) (.num 1)), (.num 64)), (1, (.var 0), (.var 1))] (.add (.var 0) (.num 1)) (.num (2 ^ 19)) rfl h1 (Nat.le_of_eq h2)
theorem o70 {a b c : Nat} (h1 : b ≤ 10) (h2 : c = b) (h3 : a ≤ c) : a ≤ 100 := Mine.far (ctx := (Mine.C3 a b c)) 0 [(1, (.var 1), (.num 10)), (1, (.var 2), (.var 1)), (1, (.var 0), (.var 2))] (.var 0) (.num 100) rfl h1 (Nat.le_of_eq h2) h3
theorem o71 {a b c : Nat} (h1 : b + (c + 1) ≤ 1000) (h2 : a = c) : a ≤ 1000 := Mine.far (ctx := (Mine.C3 a b c)) 0 [(1, (.add (.var 1) (.add (.var 2) (.num 1))), (.num 1000)), (1, (.var 0), (.var 2))] (.var 0) (.num 1000) rfl h1 (Nat.le_of_eq h2)
theorem o72 {a b : Nat} (h1 : b ≤ 10) (h2 : a = b) : a ≤ 1000 := Mine.far (ctx := (Mine.C2 a b)) 0 [(1, (.var 1), (.num 10)), (1, (.var 0), (.var 1))] (.var 0) (.num 1000) rfl h1 (Nat.le_of_eq h2)
theorem o73 {a b c d : Nat} (h1 : b ≤ 10) (h2 : c = b) (h3 : d ≤ c) (h4 : a = d) : a ≤ 1000 := Mine.far (ctx := (Mine.C4 a b c d)) 0 [(1, (.var 1), (.num 10)), (1, (.var 2), (.var 1)), (1, (.var 3), (.var 2)), (1, (.var 0), (.var 3))] (.var 0) (.num 1000) rfl h1 (Nat.le_of_eq h2) h3 (Nat.le_of_eq h4)
theorem o74 {a b : Nat} (h1 : b ≤ 20) (h2 : a = b) : a < 2 ^ 20 := Mine.far (ctx := (Mine.C2 a b)) 0 [(1, (.var 1), (.num 20)), (1, (.var 0), (.var 1))] (.add (.var 0) (.num 1)) (.num (2 ^ 20)) rfl h1 (Nat.le_of_eq h2)
theorem o75 {a b : Nat} (h1 : a + 30 < b) : a + 20 < b := Mine.far (ctx := (Mine.C2 a b)) 0 [(1, (.add (.add (.var 0) (.num 30)) (.num 1)), (.var 1))] (.add (.add (.var 0) (.num 20)) (.num 1)) (.var 1) rfl h1
theorem o76 {a b : Nat} (h1 : a + 200 < b) : a + 100 < b := Mine.far (ctx := (Mine.C2 a b)) 0 [(1, (.add (.add (.var 0) (.num 200)) (.num 1)), (.var 1))] (.add (.add (.var 0) (.num 100)) (.num 1)) (.var 1) rfl h1
theorem o77 {a : Nat} (h1 : a ≤ 20) : a < 2 ^ 20 := Mine.far (ctx := (Mine.C1 a)) 0 [(1, (.var 0), (.num 20))] (.add (.var 0) (.num 1)) (.num (2 ^ 20)) rfl h1
theorem o78 {a : Nat} (h1 : a < 2 ^ 16) : a < 2 ^ 18 := Mine.far (ctx := (Mine.C1 a)) 0 [(1, (.add (.var 0) (.num 1)), (.num (2 ^ 16)))] (.add (.var 0) (.num 1)) (.num (2 ^ 18)) rfl h1
theorem o79 {a b : Nat} (h1 : b ≤ a) : ¬ a < b := Nat.not_lt_of_le (Mine.far (ctx := (Mine.C2 b a)) 0 [(1, (.var 0), (.var 1))] (.var 0) (.var 1) rfl h1)
theorem o80 {a b c : Nat} (h1 : c = b) (h2 : a = c) : a = b := Nat.le_antisymm (Mine.far (ctx := (Mine.C3 a b c)) 0 [(1, (.var 2), (.var 1)), (1, (.var 0), (.var 2))] (.var 0) (.var 1) rfl (Nat.le_of_eq h1) (Nat.le_of_eq h2)) (Mine.far (ctx := (Mine.C3 b a c)) 0 [(1, (.var 0), (.var 2)), (1, (.var 2), (.var 1))] (.var 0) (.var 1) rfl (Nat.le_of_eq (Eq.symm h1)) (Nat.le_of_eq (Eq.symm h2)))
theorem o81 {a b : Nat} (h1 : a ≤ b) (h2 : b - a = 0) : a = b := Nat.le_antisymm (Mine.far (ctx := (Mine.C2 a b)) 0 [(1, (.var 0), (.var 1))] (.var 0) (.var 1) rfl h1) (Mine.far (ctx := (Mine.C3 b a (b - a))) 0 [(1, (.var 2), (.num 0)), (1, (.var 0), (.add (.var 2) (.var 1)))] (.var 0) (.var 1) rfl (Nat.le_of_eq h2) (Mine.omSubA b a))
theorem o82 {a b c : Nat} (h1 : b - a = c + 1) (h2 : a ≤ b) : a < b := Mine.far (ctx := (Mine.C4 a b c (b - a))) 0 [(1, (.add (.var 2) (.num 1)), (.var 3)), (1, (.add (.var 3) (.var 0)), (.var 1))] (.add (.var 0) (.num 1)) (.var 1) rfl (Nat.le_of_eq (Eq.symm h1)) (Mine.omSubB (Mine.far (ctx := (Mine.C2 a b)) 0 [(1, (.var 0), (.var 1))] (.var 0) (.var 1) rfl h2))
theorem o83 {a b : Nat} (h1 : b ≤ 20) (h2 : a < b) : a < 2 ^ 19 := Mine.far (ctx := (Mine.C2 a b)) 0 [(1, (.var 1), (.num 20)), (1, (.add (.var 0) (.num 1)), (.var 1))] (.add (.var 0) (.num 1)) (.num (2 ^ 19)) rfl h1 h2
theorem o84 {a b : Nat} (h1 : b ≤ 1000) (h2 : a ≤ b) : a < 2 ^ 16 := Mine.far (ctx := (Mine.C2 a b)) 0 [(1, (.var 1), (.num 1000)), (1, (.var 0), (.var 1))] (.add (.var 0) (.num 1)) (.num (2 ^ 16)) rfl h1 h2
theorem o85 {a b c : Nat} (h1 : a - b = c + 1) (h2 : b < a) (h3 : b ≤ a) : a - (b + 1) = c := Nat.le_antisymm (Mine.far (ctx := (Mine.C5 (a - (b + 1)) c (a - b) a b)) 0 [(1, (.var 2), (.add (.var 1) (.num 1))), (1, (.var 3), (.add (.var 2) (.var 4))), (1, (.add (.var 0) (.add (.var 4) (.num 1))), (.var 3))] (.var 0) (.var 1) rfl (Nat.le_of_eq h1) (Mine.omSubA a b) (Mine.omSubB (Mine.far (ctx := (Mine.C2 b a)) 0 [(1, (.add (.var 0) (.num 1)), (.var 1))] (.add (.var 0) (.num 1)) (.var 1) rfl h2))) (Mine.far (ctx := (Mine.C5 c (a - (b + 1)) (a - b) a b)) 0 [(1, (.add (.var 0) (.num 1)), (.var 2)), (1, (.var 3), (.add (.var 1) (.add (.var 4) (.num 1)))), (1, (.add (.var 2) (.var 4)), (.var 3))] (.var 0) (.var 1) rfl (Nat.le_of_eq (Eq.symm h1)) (Mine.omSubA a (b + 1)) (Mine.omSubB (Mine.far (ctx := (Mine.C2 b a)) 0 [(1, (.var 0), (.var 1))] (.var 0) (.var 1) rfl h3)))
theorem o86 {a b c d : Nat} (h1 : b ≤ 10) (h2 : c = b) (h3 : d ≤ c) (h4 : a = d) : a < 2 ^ 19 := Mine.far (ctx := (Mine.C4 a b c d)) 0 [(1, (.var 1), (.num 10)), (1, (.var 2), (.var 1)), (1, (.var 3), (.var 2)), (1, (.var 0), (.var 3))] (.add (.var 0) (.num 1)) (.num (2 ^ 19)) rfl h1 (Nat.le_of_eq h2) h3 (Nat.le_of_eq h4)
theorem o87 {a b c : Nat} (h1 : a = c) (h2 : b = c) : a ≤ b := Mine.far (ctx := (Mine.C3 a b c)) 0 [(1, (.var 0), (.var 2)), (1, (.var 2), (.var 1))] (.var 0) (.var 1) rfl (Nat.le_of_eq h1) (Nat.le_of_eq (Eq.symm h2))
theorem o88 {a b c d : Nat} (h1 : b ≤ 10) (h2 : c = b) (h3 : d ≤ c) (h4 : a = d) : a ≤ 100 := Mine.far (ctx := (Mine.C4 a b c d)) 0 [(1, (.var 1), (.num 10)), (1, (.var 2), (.var 1)), (1, (.var 3), (.var 2)), (1, (.var 0), (.var 3))] (.var 0) (.num 100) rfl h1 (Nat.le_of_eq h2) h3 (Nat.le_of_eq h4)
theorem o89 {a b c : Nat} (h1 : b ≤ 10) (h2 : c = b) (h3 : a ≤ c + 1) : a ≤ 200 := Mine.far (ctx := (Mine.C3 a b c)) 0 [(1, (.var 1), (.num 10)), (1, (.var 2), (.var 1)), (1, (.var 0), (.add (.var 2) (.num 1)))] (.var 0) (.num 200) rfl h1 (Nat.le_of_eq h2) h3
theorem o90 {a b c : Nat} (h1 : b ≤ 1000) (h2 : c = b) (h3 : a < c) : a < 2 ^ 62 := Mine.far (ctx := (Mine.C3 a b c)) 0 [(1, (.var 1), (.num 1000)), (1, (.var 2), (.var 1)), (1, (.add (.var 0) (.num 1)), (.var 2))] (.add (.var 0) (.num 1)) (.num (2 ^ 62)) rfl h1 (Nat.le_of_eq h2) h3
theorem o91 {a b c : Nat} (h1 : b ≤ 100) (h2 : a = c) (h3 : c ≤ b) : a < 2 ^ 20 := Mine.far (ctx := (Mine.C3 a b c)) 0 [(1, (.var 1), (.num 100)), (1, (.var 0), (.var 2)), (1, (.var 2), (.var 1))] (.add (.var 0) (.num 1)) (.num (2 ^ 20)) rfl h1 (Nat.le_of_eq h2) h3
theorem o92 {a b c d e : Nat} (h1 : b < 64) (h2 : c = b) (h3 : d < c) (h4 : a = (min d e)) : a < 2 ^ 20 := Mine.far (ctx := (Mine.C5 a b c d (min d e))) 0 [(1, (.add (.var 1) (.num 1)), (.num 64)), (1, (.var 2), (.var 1)), (1, (.add (.var 3) (.num 1)), (.var 2)), (1, (.var 0), (.var 4)), (1, (.var 4), (.var 3))] (.add (.var 0) (.num 1)) (.num (2 ^ 20)) rfl h1 (Nat.le_of_eq h2) h3 (Nat.le_of_eq h4) (Nat.min_le_left d e)
theorem o93 {a b : Nat} (h1 : a ≤ b) : a + 1 ≤ b + 1 := Mine.far (ctx := (Mine.C2 a b)) 0 [(1, (.var 0), (.var 1))] (.add (.var 0) (.num 1)) (.add (.var 1) (.num 1)) rfl h1
theorem o94 {a b c : Nat} : a + (b + 1 + c) = a + (b + c) + 1 := Nat.le_antisymm (Mine.far (ctx := (Mine.C3 a b c)) 0 [] (.add (.var 0) (.add (.add (.var 1) (.num 1)) (.var 2))) (.add (.add (.var 0) (.add (.var 1) (.var 2))) (.num 1)) rfl ) (Mine.far (ctx := (Mine.C3 a b c)) 0 [] (.add (.add (.var 0) (.add (.var 1) (.var 2))) (.num 1)) (.add (.var 0) (.add (.add (.var 1) (.num 1)) (.var 2))) rfl )
theorem o95 {a b : Nat} (h1 : b ≤ 10) (h2 : a = b) : a ≤ 100 := Mine.far (ctx := (Mine.C2 a b)) 0 [(1, (.var 1), (.num 10)), (1, (.var 0), (.var 1))] (.var 0) (.num 100) rfl h1 (Nat.le_of_eq h2)
theorem o96 {a b c : Nat} (h1 : b = c + 1) (h2 : b ≤ a) : a - b < a - c := Mine.far (ctx := (Mine.C5 (a - b) (a - c) c b a)) 0 [(1, (.add (.var 2) (.num 1)), (.var 3)), (1, (.var 4), (.add (.var 1) (.var 2))), (1, (.add (.var 0) (.var 3)), (.var 4))] (.add (.var 0) (.num 1)) (.var 1) rfl (Nat.le_of_eq (Eq.symm h1)) (Mine.omSubA a c) (Mine.omSubB (Mine.far (ctx := (Mine.C2 b a)) 0 [(1, (.var 0), (.var 1))] (.var 0) (.var 1) rfl h2))
theorem o97 {a b c : Nat} (h1 : c < 2 ^ 16) (h2 : a < 2 ^ 16) : a + (min b c) < 262144 := Mine.far (ctx := (Mine.C3 a (min b c) c)) 0 [(1, (.add (.var 2) (.num 1)), (.num (2 ^ 16))), (1, (.add (.var 0) (.num 1)), (.num (2 ^ 16))), (1, (.var 1), (.var 2))] (.add (.add (.var 0) (.var 1)) (.num 1)) (.num 262144) rfl h1 h2 (Nat.min_le_right b c)
theorem o98 {a b : Nat} (h1 : a ≤ b) (h2 : b ≤ a) : a = b := Nat.le_antisymm (Mine.far (ctx := (Mine.C2 a b)) 0 [(1, (.var 0), (.var 1))] (.var 0) (.var 1) rfl h1) (Mine.far (ctx := (Mine.C2 b a)) 0 [(1, (.var 0), (.var 1))] (.var 0) (.var 1) rfl h2)
theorem o99 {a b c : Nat} (h1 : b = c) (h2 : a = c) : a ≤ b := Mine.far (ctx := (Mine.C3 a b c)) 0 [(1, (.var 2), (.var 1)), (1, (.var 0), (.var 2))] (.var 0) (.var 1) rfl (Nat.le_of_eq (Eq.symm h1)) (Nat.le_of_eq h2)
theorem o100 {a b : Nat} (h1 : a + 20 < b) : a + 1 + 2 < b := Mine.far (ctx := (Mine.C2 a b)) 0 [(1, (.add (.add (.var 0) (.num 20)) (.num 1)), (.var 1))] (.add (.add (.add (.var 0) (.num 1)) (.num 2)) (.num 1)) (.var 1) rfl h1
theorem o101 {a b : Nat} (h1 : b ≤ 20) (h2 : a < b) : a < 2 ^ 62 := Mine.far (ctx := (Mine.C2 a b)) 0 [(1, (.var 1), (.num 20)), (1, (.add (.var 0) (.num 1)), (.var 1))] (.add (.var 0) (.num 1)) (.num (2 ^ 62)) rfl h1 h2
theorem o102 {a b : Nat} (h1 : b < 2 ^ 16) (h2 : a < 2 ^ 16) : a + b < 2 ^ 18 := Mine.far (ctx := (Mine.C2 a b)) 0 [(1, (.add (.var 1) (.num 1)), (.num (2 ^ 16))), (1, (.add (.var 0) (.num 1)), (.num (2 ^ 16)))] (.add (.add (.var 0) (.var 1)) (.num 1)) (.num (2 ^ 18)) rfl h1 h2
theorem o103 {a b c d : Nat} (h1 : b ≤ 10) (h2 : c = b) (h3 : d ≤ c) (h4 : d = a) : a < 64 := Mine.far (ctx := (Mine.C4 a b c d)) 0 [(1, (.var 1), (.num 10)), (1, (.var 2), (.var 1)), (1, (.var 3), (.var 2)), (1, (.var 0), (.var 3))] (.add (.var 0) (.num 1)) (.num 64) rfl h1 (Nat.le_of_eq h2) h3 (Nat.le_of_eq (Eq.symm h4))
theorem o104 {a : Nat} (h1 : a ≤ 2 ^ 20) : a < 1073741824 := Mine.far (ctx := (Mine.C1 a)) 0 [(1, (.var 0), (.num (2 ^ 20)))] (.add (.var 0) (.num 1)) (.num 1073741824) rfl h1
theorem o105 {a b c : Nat} (h1 : b ≤ 100) (h2 : a = c) (h3 : c ≤ b + 1) : a < 2 ^ 19 := Mine.far (ctx := (Mine.C3 a b c)) 0 [(1, (.var 1), (.num 100)), (1, (.var 0), (.var 2)), (1, (.var 2), (.add (.var 1) (.num 1)))] (.add (.var 0) (.num 1)) (.num (2 ^ 19)) rfl h1 (Nat.le_of_eq h2) h3
theorem o106 {a b : Nat} (h1 : a + 100 < b) : a + 3 + 24 < b := Mine.far (ctx := (Mine.C2 a b)) 0 [(1, (.add (.add (.var 0) (.num 100)) (.num 1)), (.var 1))] (.add (.add (.add (.var 0) (.num 3)) (.num 24)) (.num 1)) (.var 1) rfl h1
theorem o107 {a b : Nat} (h1 : a ≤ b + 1) : a ≤ b + 1 := Mine.far (ctx := (Mine.C2 a b)) 0 [(1, (.var 0), (.add (.var 1) (.num 1)))] (.var 0) (.add (.var 1) (.num 1)) rfl h1
theorem o108 {a : Nat} (h1 : a < 100) : a + 1 ≤ 1000 := Mine.far (ctx := (Mine.C1 a)) 0 [(1, (.add (.var 0) (.num 1)), (.num 100))] (.add (.var 0) (.num 1)) (.num 1000) rfl h1
theorem o109 {a b c : Nat} (h1 : b < 2 ^ 19) (h2 : a ≤ c) (h3 : c < b) : a < 1048576 := Mine.far (ctx := (Mine.C3 a b c)) 0 [(1, (.add (.var 1) (.num 1)), (.num (2 ^ 19))), (1, (.var 0), (.var 2)), (1, (.add (.var 2) (.num 1)), (.var 1))] (.add (.var 0) (.num 1)) (.num 1048576) rfl h1 h2 h3
theorem o110 {a b : Nat} (h1 : b ≤ a) : (a + 1) - (b + 1) < (a + 1) - b := Mine.far (ctx := (Mine.C4 ((a + 1) - (b + 1)) ((a + 1) - b) a b)) 0 [(1, (.add (.var 2) (.num 1)), (.add (.var 1) (.var 3))), (1, (.add (.var 0) (.add (.var 3) (.num 1))), (.add (.var 2) (.num 1)))] (.add (.var 0) (.num 1)) (.var 1) rfl (Mine.omSubA (a + 1) b) (Mine.omSubB (Mine.far (ctx := (Mine.C2 b a)) 0 [(1, (.var 0), (.var 1))] (.add (.var 0) (.num 1)) (.add (.var 1) (.num 1)) rfl h1))
theorem o111 {a b : Nat} (h1 : a ≤ b) : a ≤ b := Mine.far (ctx := (Mine.C2 a b)) 0 [(1, (.var 0), (.var 1))] (.var 0) (.var 1) rfl h1
theorem o112 {a b : Nat} (h1 : a < b) : a + 1 ≤ b := Mine.far (ctx := (Mine.C2 a b)) 0 [(1, (.add (.var 0) (.num 1)), (.var 1))] (.add (.var 0) (.num 1)) (.var 1) rfl h1
theorem o113 {a b : Nat} (h1 : a ≤ b) (h2 : ¬ a < b) : a = b := Nat.le_antisymm (Mine.far (ctx := (Mine.C2 a b)) 0 [(1, (.var 0), (.var 1))] (.var 0) (.var 1) rfl h1) (Mine.far (ctx := (Mine.C2 b a)) 0 [(1, (.var 0), (.var 1))] (.var 0) (.var 1) rfl (Nat.le_of_not_lt h2))
theorem o114 {a : Nat} (h1 : a < 2 ^ 16) : a < 262144 := Mine.far (ctx := (Mine.C1 a)) 0 [(1, (.add (.var 0) (.num 1)), (.num (2 ^ 16)))] (.add (.var 0) (.num 1)) (.num 262144) rfl h1
theorem o115 {a b c : Nat} (h1 : b ≤ 1000) (h2 : a + (c + 1) = b) : a ≤ 1000 := Mine.far (ctx := (Mine.C3 a b c)) 0 [(1, (.var 1), (.num 1000)), (1, (.add (.var 0) (.add (.var 2) (.num 1))), (.var 1))] (.var 0) (.num 1000) rfl h1 (Nat.le_of_eq h2)
theorem o116 {a b c d : Nat} (h1 : b ≤ 10) (h2 : c = b) (h3 : d ≤ c) (h4 : a = d) : a < 2 ^ 20 := Mine.far (ctx := (Mine.C4 a b c d)) 0 [(1, (.var 1), (.num 10)), (1, (.var 2), (.var 1)), (1, (.var 3), (.var 2)), (1, (.var 0), (.var 3))] (.add (.var 0) (.num 1)) (.num (2 ^ 20)) rfl h1 (Nat.le_of_eq h2) h3 (Nat.le_of_eq h4)
theorem o117 {a b c : Nat} (h1 : c < 64) (h2 : b = c) : (min a b) ≤ 64 := Mine.far (ctx := (Mine.C3 (min a b) c b)) 0 [(1, (.add (.var 1) (.num 1)), (.num 64)), (1, (.var 2), (.var 1)), (1, (.var 0), (.var 2))] (.var 0) (.num 64) rfl h1 (Nat.le_of_eq h2) (Nat.min_le_right a b)
theorem o118 {a : Nat} (h1 : a ≤ 100) : a + 1 ≤ 101 := Mine.far (ctx := (Mine.C1 a)) 0 [(1, (.var 0), (.num 100))] (.add (.var 0) (.num 1)) (.num 101) rfl h1
theorem o119 {a b c : Nat} (h1 : c ≤ 100) (h2 : b ≤ c + 1) : (min a b) ≤ 101 := Mine.far (ctx := (Mine.C3 (min a b) c b)) 0 [(1, (.var 1), (.num 100)), (1, (.var 2), (.add (.var 1) (.num 1))), (1, (.var 0), (.var 2))] (.var 0) (.num 101) rfl h1 h2 (Nat.min_le_right a b)
theorem o120 {a b : Nat} (h1 : a = b) (h2 : b ≤ 1000) : a < 2 ^ 20 := Mine.far (ctx := (Mine.C2 a b)) 0 [(1, (.var 0), (.var 1)), (1, (.var 1), (.num 1000))] (.add (.var 0) (.num 1)) (.num (2 ^ 20)) rfl (Nat.le_of_eq h1) h2
theorem o121 {a b : Nat} (h1 : a + 200 < b) : a + 20 < b := Mine.far (ctx := (Mine.C2 a b)) 0 [(1, (.add (.add (.var 0) (.num 200)) (.num 1)), (.var 1))] (.add (.add (.var 0) (.num 20)) (.num 1)) (.var 1) rfl h1
theorem o122 {a b c : Nat} (h1 : b + (c + 1) ≤ 1000) (h2 : a = c + 1) : a ≤ 1000 := Mine.far (ctx := (Mine.C3 a b c)) 0 [(1, (.add (.var 1) (.add (.var 2) (.num 1))), (.num 1000)), (1, (.var 0), (.add (.var 2) (.num 1)))] (.var 0) (.num 1000) rfl h1 (Nat.le_of_eq h2)
theorem o123 {a b c : Nat} (h1 : b ≤ 10) (h2 : c = b) (h3 : a ≤ c) : a ≤ 10 := Mine.far (ctx := (Mine.C3 a b c)) 0 [(1, (.var 1), (.num 10)), (1, (.var 2), (.var 1)), (1, (.var 0), (.var 2))] (.var 0) (.num 10) rfl h1 (Nat.le_of_eq h2) h3
theorem o124 {a b c : Nat} (h1 : a < (min b c)) : a < b := Mine.far (ctx := (Mine.C3 a b (min b c))) 0 [(1, (.add (.var 0) (.num 1)), (.var 2)), (1, (.var 2), (.var 1))] (.add (.var 0) (.num 1)) (.var 1) rfl h1 (Nat.min_le_left b c)
theorem o125 {a b : Nat} (h1 : b ≤ 10) (h2 : a = b) : a + 1 ≤ 11 := Mine.far (ctx := (Mine.C2 a b)) 0 [(1, (.var 1), (.num 10)), (1, (.var 0), (.var 1))] (.add (.var 0) (.num 1)) (.num 11) rfl h1 (Nat.le_of_eq h2)
theorem o126 {a b c : Nat} (h1 : a < (min c b)) : a < b := Mine.far (ctx := (Mine.C3 a b (min c b))) 0 [(1, (.add (.var 0) (.num 1)), (.var 2)), (1, (.var 2), (.var 1))] (.add (.var 0) (.num 1)) (.var 1) rfl h1 (Nat.min_le_right c b)
theorem o127 {a b : Nat} (h1 : a < b) (h2 : a = b) : False := Mine.farF (ctx := (Mine.C2 a b)) [(1, (.add (.var 0) (.num 1)), (.var 1)), (1, (.var 1), (.var 0))] rfl h1 (Nat.le_of_eq (Eq.symm h2))
theorem o128 {a b : Nat} (h1 : a < b + 1) : a ≤ b := Mine.far (ctx := (Mine.C2 a b)) 0 [(1, (.add (.var 0) (.num 1)), (.add (.var 1) (.num 1)))] (.var 0) (.var 1) rfl h1
theorem o129 {a b : Nat} (h1 : a ≤ b) : a < b + 1 := Mine.far (ctx := (Mine.C2 a b)) 0 [(1, (.var 0), (.var 1))] (.add (.var 0) (.num 1)) (.add (.var 1) (.num 1)) rfl h1
theorem o130 {a b : Nat} (h1 : a < b + 1) (h2 : b ≤ a) : a = b := Nat.le_antisymm (Mine.far (ctx := (Mine.C2 a b)) 0 [(1, (.add (.var 0) (.num 1)), (.add (.var 1) (.num 1)))] (.var 0) (.var 1) rfl h1) (Mine.far (ctx := (Mine.C2 b a)) 0 [(1, (.var 0), (.var 1))] (.var 0) (.var 1) rfl h2)
theorem o131 {a b c d e : Nat} (h1 : b ≤ 64 * 101) (h2 : c ≤ b) (h3 : d ≤ 101) (h4 : e ≤ c + d) (h5 : a = e) : a < 2 ^ 20 := Mine.far (ctx := (Mine.C5 a b c d e)) 0 [(1, (.var 1), (.mulL 64 (.num 101))), (1, (.var 2), (.var 1)), (1, (.var 3), (.num 101)), (1, (.var 4), (.add (.var 2) (.var 3))), (1, (.var 0), (.var 4))] (.add (.var 0) (.num 1)) (.num (2 ^ 20)) rfl h1 h2 h3 h4 (Nat.le_of_eq h5)
theorem o132 {a b : Nat} (h1 : a + 1 ≤ b) : a < b := Mine.far (ctx := (Mine.C2 a b)) 0 [(1, (.add (.var 0) (.num 1)), (.var 1))] (.add (.var 0) (.num 1)) (.var 1) rfl h1
theorem o133 {a b c : Nat} : a + b + c = a + (b + c) := Nat.le_antisymm (Mine.far (ctx := (Mine.C3 a b c)) 0 [] (.add (.add (.var 0) (.var 1)) (.var 2)) (.add (.var 0) (.add (.var 1) (.var 2))) rfl ) (Mine.far (ctx := (Mine.C3 a b c)) 0 [] (.add (.var 0) (.add (.var 1) (.var 2))) (.add (.add (.var 0) (.var 1)) (.var 2)) rfl )
theorem o134 {a b : Nat} (h1 : a + 1 ≤ b) (h2 : b - (a + 1) = 0) : a + 1 = b := Nat.le_antisymm (Mine.far (ctx := (Mine.C2 a b)) 0 [(1, (.add (.var 0) (.num 1)), (.var 1))] (.add (.var 0) (.num 1)) (.var 1) rfl h1) (Mine.far (ctx := (Mine.C3 b a (b - (a + 1)))) 0 [(1, (.var 2), (.num 0)), (1, (.var 0), (.add (.var 2) (.add (.var 1) (.num 1))))] (.var 0) (.add (.var 1) (.num 1)) rfl (Nat.le_of_eq h2) (Mine.omSubA b (a + 1)))
theorem o135 {a b : Nat} (h1 : b ≤ 10 * 11) (h2 : a ≤ b) : a ≤ 100000 := Mine.far (ctx := (Mine.C2 a b)) 0 [(1, (.var 1), (.mulL 10 (.num 11))), (1, (.var 0), (.var 1))] (.var 0) (.num 100000) rfl h1 h2
theorem o136 {a b c : Nat} (h1 : c = a) (h2 : b + 1 = c) : a ≤ b + 1 := Mine.far (ctx := (Mine.C3 a b c)) 0 [(1, (.var 0), (.var 2)), (1, (.var 2), (.add (.var 1) (.num 1)))] (.var 0) (.add (.var 1) (.num 1)) rfl (Nat.le_of_eq (Eq.symm h1)) (Nat.le_of_eq (Eq.symm h2))
theorem o137 {a b c : Nat} (h1 : b - (a + 1) = c + 1) (h2 : a + 1 ≤ b) : a + 1 < b := Mine.far (ctx := (Mine.C4 a b c (b - (a + 1)))) 0 [(1, (.add (.var 2) (.num 1)), (.var 3)), (1, (.add (.var 3) (.add (.var 0) (.num 1))), (.var 1))] (.add (.add (.var 0) (.num 1)) (.num 1)) (.var 1) rfl (Nat.le_of_eq (Eq.symm h1)) (Mine.omSubB (Mine.far (ctx := (Mine.C2 a b)) 0 [(1, (.add (.var 0) (.num 1)), (.var 1))] (.add (.var 0) (.num 1)) (.var 1) rfl h2))
theorem o138 {a b c : Nat} (h1 : c = b) (h2 : a + 1 < c) : a + 1 < b := Mine.far (ctx := (Mine.C3 a b c)) 0 [(1, (.var 2), (.var 1)), (1, (.add (.add (.var 0) (.num 1)) (.num 1)), (.var 2))] (.add (.add (.var 0) (.num 1)) (.num 1)) (.var 1) rfl (Nat.le_of_eq h1) h2
theorem o139 {a b c d : Nat} (h1 : b ≤ 20) (h2 : c < b) (h3 : a = d) (h4 : d ≤ c) : a < 2 ^ 20 := Mine.far (ctx := (Mine.C4 a b c d)) 0 [(1, (.var 1), (.num 20)), (1, (.add (.var 2) (.num 1)), (.var 1)), (1, (.var 0), (.var 3)), (1, (.var 3), (.var 2))] (.add (.var 0) (.num 1)) (.num (2 ^ 20)) rfl h1 h2 (Nat.le_of_eq h3) h4
theorem o140 {a b : Nat} (h1 : b < a) : ¬ a < 0 + b := Nat.not_lt_of_le (Mine.far (ctx := (Mine.C2 b a)) 0 [(1, (.add (.var 0) (.num 1)), (.var 1))] (.add (.num 0) (.var 0)) (.var 1) rfl h1)
theorem o141 {a b c d : Nat} (h1 : a < b + 1 + d) (h2 : d < c) : a < b + c := Mine.far (ctx := (Mine.C4 a b c d)) 0 [(1, (.add (.var 0) (.num 1)), (.add (.add (.var 1) (.num 1)) (.var 3))), (1, (.add (.var 3) (.num 1)), (.var 2))] (.add (.var 0) (.num 1)) (.add (.var 1) (.var 2)) rfl h1 h2
theorem o142 {a b : Nat} (h1 : b < a) : 0 < a := Mine.far (ctx := (Mine.C2 a b)) 0 [(1, (.add (.var 1) (.num 1)), (.var 0))] (.add (.num 0) (.num 1)) (.var 0) rfl h1
theorem o143 {a b : Nat} : a < a + 1 + b := Mine.far (ctx := (Mine.C2 a b)) 0 [] (.add (.var 0) (.num 1)) (.add (.add (.var 0) (.num 1)) (.var 1)) rfl 
theorem o144 {a b c : Nat} (h1 : a - (b + 1) = c + 1) (h2 : b + 1 < a) : a - (b + 1 + 1) = c := Nat.le_antisymm (Mine.far (ctx := (Mine.C5 (a - (b + 1 + 1)) c (a - (b + 1)) a b)) 0 [(1, (.var 2), (.add (.var 1) (.num 1))), (1, (.var 3), (.add (.var 2) (.add (.var 4) (.num 1)))), (1, (.add (.var 0) (.add (.add (.var 4) (.num 1)) (.num 1))), (.var 3))] (.var 0) (.var 1) rfl (Nat.le_of_eq h1) (Mine.omSubA a (b + 1)) (Mine.omSubB (Mine.far (ctx := (Mine.C2 b a)) 0 [(1, (.add (.add (.var 0) (.num 1)) (.num 1)), (.var 1))] (.add (.add (.var 0) (.num 1)) (.num 1)) (.var 1) rfl h2))) (Mine.far (ctx := (Mine.C5 c (a - (b + 1 + 1)) (a - (b + 1)) a b)) 0 [(1, (.add (.var 0) (.num 1)), (.var 2)), (1, (.var 3), (.add (.var 1) (.add (.add (.var 4) (.num 1)) (.num 1)))), (1, (.add (.var 2) (.add (.var 4) (.num 1))), (.var 3))] (.var 0) (.var 1) rfl (Nat.le_of_eq (Eq.symm h1)) (Mine.omSubA a (b + 1 + 1)) (Mine.omSubB (Mine.far (ctx := (Mine.C2 b a)) 0 [(1, (.add (.add (.var 0) (.num 1)) (.num 1)), (.var 1))] (.add (.var 0) (.num 1)) (.var 1) rfl h2)))
theorem o145 {a b c : Nat} (h1 : b ≤ 20) (h2 : c < b) (h3 : a = c) : a < 2 ^ 20 := Mine.far (ctx := (Mine.C3 a b c)) 0 [(1, (.var 1), (.num 20)), (1, (.add (.var 2) (.num 1)), (.var 1)), (1, (.var 0), (.var 2))] (.add (.var 0) (.num 1)) (.num (2 ^ 20)) rfl h1 h2 (Nat.le_of_eq h3)
theorem o146 {a : Nat} : ¬ a + 1 = a := Nat.ne_of_gt (Mine.far (ctx := (Mine.C1 a)) 0 [] (.add (.var 0) (.num 1)) (.add (.var 0) (.num 1)) rfl )
theorem o147 {a b : Nat} (h1 : a + 2 < b) : a < b := Mine.far (ctx := (Mine.C2 a b)) 0 [(1, (.add (.add (.var 0) (.num 2)) (.num 1)), (.var 1))] (.add (.var 0) (.num 1)) (.var 1) rfl h1
theorem o148 {a b : Nat} (h1 : a = b + 1) : 0 + 1 ≤ a := Mine.far (ctx := (Mine.C2 a b)) 0 [(1, (.add (.var 1) (.num 1)), (.var 0))] (.add (.num 0) (.num 1)) (.var 0) rfl (Nat.le_of_eq (Eq.symm h1))
theorem o149 {a b : Nat} (h1 : b < 2 ^ 18) (h2 : a = b) : a < 2 ^ 20 := Mine.far (ctx := (Mine.C2 a b)) 0 [(1, (.add (.var 1) (.num 1)), (.num (2 ^ 18))), (1, (.var 0), (.var 1))] (.add (.var 0) (.num 1)) (.num (2 ^ 20)) rfl h1 (Nat.le_of_eq h2)
theorem o150 {a b : Nat} (h1 : a + 8 < b) : a < b := Mine.far (ctx := (Mine.C2 a b)) 0 [(1, (.add (.add (.var 0) (.num 8)) (.num 1)), (.var 1))] (.add (.var 0) (.num 1)) (.var 1) rfl h1
theorem o151 : 0 < 2 ^ 62 := Mine.far (ctx := (Mine.C1 0)) 0 [] (.add (.num 0) (.num 1)) (.num (2 ^ 62)) rfl 
theorem o152 {a b : Nat} (h1 : a + 8 < b) : a + 1 + 6 < b := Mine.far (ctx := (Mine.C2 a b)) 0 [(1, (.add (.add (.var 0) (.num 8)) (.num 1)), (.var 1))] (.add (.add (.add (.var 0) (.num 1)) (.num 6)) (.num 1)) (.var 1) rfl h1
theorem o153 {a b : Nat} (h1 : a + 60 < b) : a + 3 + 40 < b := Mine.far (ctx := (Mine.C2 a b)) 0 [(1, (.add (.add (.var 0) (.num 60)) (.num 1)), (.var 1))] (.add (.add (.add (.var 0) (.num 3)) (.num 40)) (.num 1)) (.var 1) rfl h1
theorem o154 {a b c : Nat} (h1 : a < c) (h2 : c = b) : a < b := Mine.far (ctx := (Mine.C3 a b c)) 0 [(1, (.add (.var 0) (.num 1)), (.var 2)), (1, (.var 2), (.var 1))] (.add (.var 0) (.num 1)) (.var 1) rfl h1 (Nat.le_of_eq h2)
theorem o155 {a b c d : Nat} (h1 : b < d - (a + 1)) (h2 : d = c) (h3 : a < d) : a + 1 + b < c := Mine.far (ctx := (Mine.C5 a b c (d - (a + 1)) d)) 0 [(1, (.add (.var 1) (.num 1)), (.var 3)), (1, (.var 4), (.var 2)), (1, (.add (.var 3) (.add (.var 0) (.num 1))), (.var 4))] (.add (.add (.add (.var 0) (.num 1)) (.var 1)) (.num 1)) (.var 2) rfl h1 (Nat.le_of_eq h2) (Mine.omSubB (Mine.far (ctx := (Mine.C2 a d)) 0 [(1, (.add (.var 0) (.num 1)), (.var 1))] (.add (.var 0) (.num 1)) (.var 1) rfl h3))
theorem o156 {a b c : Nat} (h1 : b < c - (a + 1)) (h2 : a < c) : a + 1 + b < c := Mine.far (ctx := (Mine.C4 a b c (c - (a + 1)))) 0 [(1, (.add (.var 1) (.num 1)), (.var 3)), (1, (.add (.var 3) (.add (.var 0) (.num 1))), (.var 2))] (.add (.add (.add (.var 0) (.num 1)) (.var 1)) (.num 1)) (.var 2) rfl h1 (Mine.omSubB (Mine.far (ctx := (Mine.C2 a c)) 0 [(1, (.add (.var 0) (.num 1)), (.var 1))] (.add (.var 0) (.num 1)) (.var 1) rfl h2))
theorem o157 {a b : Nat} (h1 : a = a + 1 + b) : False := Mine.farF (ctx := (Mine.C2 a b)) [(1, (.add (.add (.var 0) (.num 1)) (.var 1)), (.var 0))] rfl (Nat.le_of_eq (Eq.symm h1))
theorem o158 {a b c : Nat} (h1 : a < c) (h2 : b = c) : a < b := Mine.far (ctx := (Mine.C3 a b c)) 0 [(1, (.add (.var 0) (.num 1)), (.var 2)), (1, (.var 2), (.var 1))] (.add (.var 0) (.num 1)) (.var 1) rfl h1 (Nat.le_of_eq (Eq.symm h2))
theorem o159 {a b c d : Nat} (h1 : d = c) (h2 : b < d - (a + 1)) (h3 : a < c) : a + 1 + b < c := Mine.far (ctx := (Mine.C5 a b c d (d - (a + 1)))) 0 [(1, (.var 3), (.var 2)), (1, (.add (.var 1) (.num 1)), (.var 4)), (1, (.add (.var 4) (.add (.var 0) (.num 1))), (.var 3))] (.add (.add (.add (.var 0) (.num 1)) (.var 1)) (.num 1)) (.var 2) rfl (Nat.le_of_eq h1) h2 (Mine.omSubB (Mine.far (ctx := (Mine.C3 a d c)) 0 [(1, (.add (.var 0) (.num 1)), (.var 2)), (1, (.var 2), (.var 1))] (.add (.var 0) (.num 1)) (.var 1) rfl h3 (Nat.le_of_eq (Eq.symm h1))))
theorem o160 {a b c d : Nat} (h1 : b < c - (a + 1)) (h2 : a < d) (h3 : c = d) : a + 1 + b < c := Mine.far (ctx := (Mine.C4 a b c (c - (a + 1)))) 0 [(1, (.add (.var 1) (.num 1)), (.var 3)), (1, (.add (.var 3) (.add (.var 0) (.num 1))), (.var 2))] (.add (.add (.add (.var 0) (.num 1)) (.var 1)) (.num 1)) (.var 2) rfl h1 (Mine.omSubB (Mine.far (ctx := (Mine.C3 a c d)) 0 [(1, (.add (.var 0) (.num 1)), (.var 2)), (1, (.var 2), (.var 1))] (.add (.var 0) (.num 1)) (.var 1) rfl h2 (Nat.le_of_eq (Eq.symm h3))))
theorem o161 {a : Nat} : 0 < a + 1 := Mine.far (ctx := (Mine.C1 a)) 0 [] (.add (.num 0) (.num 1)) (.add (.var 0) (.num 1)) rfl 
theorem o162 {a b : Nat} (h1 : a = b + 1) : a ≤ b + 1 := Mine.far (ctx := (Mine.C2 a b)) 0 [(1, (.var 0), (.add (.var 1) (.num 1)))] (.var 0) (.add (.var 1) (.num 1)) rfl (Nat.le_of_eq h1)
theorem o163 {a b : Nat} (h1 : b < a) : (a + 1) - (b + 1) < (a + 1) - b := Mine.far (ctx := (Mine.C4 ((a + 1) - (b + 1)) ((a + 1) - b) a b)) 0 [(1, (.add (.var 2) (.num 1)), (.add (.var 1) (.var 3))), (1, (.add (.var 0) (.add (.var 3) (.num 1))), (.add (.var 2) (.num 1)))] (.add (.var 0) (.num 1)) (.var 1) rfl (Mine.omSubA (a + 1) b) (Mine.omSubB (Mine.far (ctx := (Mine.C2 b a)) 0 [(1, (.add (.var 0) (.num 1)), (.var 1))] (.add (.var 0) (.num 1)) (.add (.var 1) (.num 1)) rfl h1))
theorem o164 {a b : Nat} : a + (b + 1) = a + 1 + b := Nat.le_antisymm (Mine.far (ctx := (Mine.C2 a b)) 0 [] (.add (.var 0) (.add (.var 1) (.num 1))) (.add (.add (.var 0) (.num 1)) (.var 1)) rfl ) (Mine.far (ctx := (Mine.C2 a b)) 0 [] (.add (.add (.var 0) (.num 1)) (.var 1)) (.add (.var 0) (.add (.var 1) (.num 1))) rfl )
theorem o165 {a b c d : Nat} (h1 : a ≤ d + c) (h2 : d ≤ b + 1) : a ≤ b + (c + 1) := Mine.far (ctx := (Mine.C4 a b c d)) 0 [(1, (.var 0), (.add (.var 3) (.var 2))), (1, (.var 3), (.add (.var 1) (.num 1)))] (.var 0) (.add (.var 1) (.add (.var 2) (.num 1))) rfl h1 h2
theorem o166 {a b c d e : Nat} (h1 : a ≤ d + 200 * c) (h2 : d ≤ b + e) (h3 : e ≤ 200) : a ≤ b + 200 * (c + 1) := Mine.far (ctx := (Mine.C5 a b c d e)) 0 [(1, (.var 0), (.add (.var 3) (.mulL 200 (.var 2)))), (1, (.var 3), (.add (.var 1) (.var 4))), (1, (.var 4), (.num 200))] (.var 0) (.add (.var 1) (.mulL 200 (.add (.var 2) (.num 1)))) rfl h1 h2 h3
theorem o167 {a b : Nat} (h1 : a + 8 < b) : a + 1 + 3 < b := Mine.far (ctx := (Mine.C2 a b)) 0 [(1, (.add (.add (.var 0) (.num 8)) (.num 1)), (.var 1))] (.add (.add (.add (.var 0) (.num 1)) (.num 3)) (.num 1)) (.var 1) rfl h1
theorem o168 {a b : Nat} (h1 : a + 60 < b) : a + 3 + 16 < b := Mine.far (ctx := (Mine.C2 a b)) 0 [(1, (.add (.add (.var 0) (.num 60)) (.num 1)), (.var 1))] (.add (.add (.add (.var 0) (.num 3)) (.num 16)) (.num 1)) (.var 1) rfl h1
theorem o169 {a b : Nat} (h1 : 2 * a + 2 < b) : 2 * a + 1 < b := Mine.far (ctx := (Mine.C2 a b)) 0 [(1, (.add (.add (.mulL 2 (.var 0)) (.num 2)) (.num 1)), (.var 1))] (.add (.add (.mulL 2 (.var 0)) (.num 1)) (.num 1)) (.var 1) rfl h1
theorem o170 {a b : Nat} (h1 : 2 * a + 2 < b) : 2 * a + 2 < b := Mine.far (ctx := (Mine.C2 a b)) 0 [(1, (.add (.add (.mulL 2 (.var 0)) (.num 2)) (.num 1)), (.var 1))] (.add (.add (.mulL 2 (.var 0)) (.num 2)) (.num 1)) (.var 1) rfl h1
theorem o171 {a b c : Nat} (h1 : b < 2 ^ 18) (h2 : c = b) (h3 : 2 * a + 2 < c) : 2 * a + 1 < 2 ^ 62 := Mine.far (ctx := (Mine.C3 a b c)) 0 [(1, (.add (.var 1) (.num 1)), (.num (2 ^ 18))), (1, (.var 2), (.var 1)), (1, (.add (.add (.mulL 2 (.var 0)) (.num 2)) (.num 1)), (.var 2))] (.add (.add (.mulL 2 (.var 0)) (.num 1)) (.num 1)) (.num (2 ^ 62)) rfl h1 (Nat.le_of_eq h2) h3
theorem o172 {a b c : Nat} (h1 : b < 2 ^ 18) (h2 : c = b) (h3 : 2 * a + 2 < c) : 2 * a + 2 < 2 ^ 62 := Mine.far (ctx := (Mine.C3 a b c)) 0 [(1, (.add (.var 1) (.num 1)), (.num (2 ^ 18))), (1, (.var 2), (.var 1)), (1, (.add (.add (.mulL 2 (.var 0)) (.num 2)) (.num 1)), (.var 2))] (.add (.add (.mulL 2 (.var 0)) (.num 2)) (.num 1)) (.num (2 ^ 62)) rfl h1 (Nat.le_of_eq h2) h3
theorem o173 {a b : Nat} (h1 : a + 16 < b) : a + 3 < b := Mine.far (ctx := (Mine.C2 a b)) 0 [(1, (.add (.add (.var 0) (.num 16)) (.num 1)), (.var 1))] (.add (.add (.var 0) (.num 3)) (.num 1)) (.var 1) rfl h1
theorem o174 {a b c : Nat} (h1 : a < c) (h2 : c < b) : a < b := Mine.far (ctx := (Mine.C3 a b c)) 0 [(1, (.add (.var 0) (.num 1)), (.var 2)), (1, (.add (.var 2) (.num 1)), (.var 1))] (.add (.var 0) (.num 1)) (.var 1) rfl h1 h2
theorem o175 {a b : Nat} (h1 : a < b) (h2 : 1 ≤ a) : a - 1 < b := Mine.far (ctx := (Mine.C3 (a - 1) b a)) 0 [(1, (.add (.var 2) (.num 1)), (.var 1)), (1, (.add (.var 0) (.num 1)), (.var 2))] (.add (.var 0) (.num 1)) (.var 1) rfl h1 (Mine.omSubB (Mine.far (ctx := (Mine.C1 a)) 0 [(1, (.num 1), (.var 0))] (.num 1) (.var 0) rfl h2))
theorem o176 {a b : Nat} (h1 : a < b) : a < b := Mine.far (ctx := (Mine.C2 a b)) 0 [(1, (.add (.var 0) (.num 1)), (.var 1))] (.add (.var 0) (.num 1)) (.var 1) rfl h1
theorem o177 {a : Nat} (h1 : 1 ≤ a) : a - 1 < a := Mine.far (ctx := (Mine.C2 (a - 1) a)) 0 [(1, (.add (.var 0) (.num 1)), (.var 1))] (.add (.var 0) (.num 1)) (.var 1) rfl (Mine.omSubB (Mine.far (ctx := (Mine.C1 a)) 0 [(1, (.num 1), (.var 0))] (.num 1) (.var 0) rfl h1))
theorem o178 {a b c : Nat} (h1 : a ≤ c) (h2 : b = c) : a ≤ b := Mine.far (ctx := (Mine.C3 a b c)) 0 [(1, (.var 0), (.var 2)), (1, (.var 2), (.var 1))] (.var 0) (.var 1) rfl h1 (Nat.le_of_eq (Eq.symm h2))
theorem o179 {a b c : Nat} (h1 : c < b) (h2 : b < a) : ((0 + a) - 1) - b < ((0 + a) - 1) - c := Mine.far (ctx := (Mine.C5 (((0 + a) - 1) - b) (((0 + a) - 1) - c) c b ((0 + a) - 1))) 0 [(1, (.add (.var 2) (.num 1)), (.var 3)), (1, (.var 4), (.add (.var 1) (.var 2))), (1, (.add (.var 0) (.var 3)), (.var 4))] (.add (.var 0) (.num 1)) (.var 1) rfl h1 (Mine.omSubA ((0 + a) - 1) c) (Mine.omSubB (Mine.far (ctx := (Mine.C3 b ((0 + a) - 1) a)) 0 [(1, (.add (.var 0) (.num 1)), (.var 2)), (1, (.add (.num 0) (.var 2)), (.add (.var 1) (.num 1)))] (.var 0) (.var 1) rfl h2 (Mine.omSubA (0 + a) 1)))
theorem o180 {a b c : Nat} (h1 : c < a) (h2 : b < c) : ((0 + a) - 1) - b < a := Mine.far (ctx := (Mine.C4 (((0 + a) - 1) - b) a ((0 + a) - 1) b)) 0 [(1, (.add (.var 2) (.num 1)), (.add (.num 0) (.var 1))), (1, (.add (.var 0) (.var 3)), (.var 2))] (.add (.var 0) (.num 1)) (.var 1) rfl (Mine.omSubB (Mine.far (ctx := (Mine.C2 a c)) 0 [(1, (.add (.var 1) (.num 1)), (.var 0))] (.num 1) (.add (.num 0) (.var 0)) rfl h1)) (Mine.omSubB (Mine.far (ctx := (Mine.C4 b ((0 + a) - 1) c a)) 0 [(1, (.add (.var 0) (.num 1)), (.var 2)), (1, (.add (.var 2) (.num 1)), (.var 3)), (1, (.add (.num 0) (.var 3)), (.add (.var 1) (.num 1)))] (.var 0) (.var 1) rfl h2 h1 (Mine.omSubA (0 + a) 1)))
theorem o181 {a b : Nat} (h1 : a + 0 = b) : a ≤ b := Mine.far (ctx := (Mine.C2 a b)) 0 [(1, (.add (.var 0) (.num 0)), (.var 1))] (.var 0) (.var 1) rfl (Nat.le_of_eq h1)
theorem o182 {a b c : Nat} (h1 : a + (c + 1) = b) : a < b := Mine.far (ctx := (Mine.C3 a b c)) 0 [(1, (.add (.var 0) (.add (.var 2) (.num 1))), (.var 1))] (.add (.var 0) (.num 1)) (.var 1) rfl (Nat.le_of_eq h1)
theorem o183 {a b c : Nat} (h1 : a + (c + 1) = b) (h2 : 1 ≤ a) : a - 1 < b := Mine.far (ctx := (Mine.C4 (a - 1) b a c)) 0 [(1, (.add (.var 2) (.add (.var 3) (.num 1))), (.var 1)), (1, (.add (.var 0) (.num 1)), (.var 2))] (.add (.var 0) (.num 1)) (.var 1) rfl (Nat.le_of_eq h1) (Mine.omSubB (Mine.far (ctx := (Mine.C1 a)) 0 [(1, (.num 1), (.var 0))] (.num 1) (.var 0) rfl h2))
theorem o184 {a b c : Nat} (h1 : a + (c + 1) = b) : a ≤ b := Mine.far (ctx := (Mine.C3 a b c)) 0 [(1, (.add (.var 0) (.add (.var 2) (.num 1))), (.var 1))] (.var 0) (.var 1) rfl (Nat.le_of_eq h1)
theorem o185 {a : Nat} (h1 : 1 ≤ a) : ¬ a = a - 1 := Nat.ne_of_gt (Mine.far (ctx := (Mine.C2 (a - 1) a)) 0 [(1, (.add (.var 0) (.num 1)), (.var 1))] (.add (.var 0) (.num 1)) (.var 1) rfl (Mine.omSubB (Mine.far (ctx := (Mine.C1 a)) 0 [(1, (.num 1), (.var 0))] (.num 1) (.var 0) rfl h1)))
theorem o186 {a : Nat} : 1 ≤ a + 1 := Mine.far (ctx := (Mine.C1 a)) 0 [] (.num 1) (.add (.var 0) (.num 1)) rfl 
theorem o187 {a b c : Nat} (h1 : a + (b + 1) = c) : a + 1 + b = c := Nat.le_antisymm (Mine.far (ctx := (Mine.C3 a b c)) 0 [(1, (.add (.var 0) (.add (.var 1) (.num 1))), (.var 2))] (.add (.add (.var 0) (.num 1)) (.var 1)) (.var 2) rfl (Nat.le_of_eq h1)) (Mine.far (ctx := (Mine.C3 c a b)) 0 [(1, (.var 0), (.add (.var 1) (.add (.var 2) (.num 1))))] (.var 0) (.add (.add (.var 1) (.num 1)) (.var 2)) rfl (Nat.le_of_eq (Eq.symm h1)))
theorem o188 {a b : Nat} (h1 : a + 1 ≤ b) : a ≤ b := Mine.far (ctx := (Mine.C2 a b)) 0 [(1, (.add (.var 0) (.num 1)), (.var 1))] (.var 0) (.var 1) rfl h1
theorem o189 {a b c : Nat} (h1 : a + (c + 1) = b) (h2 : 2 ≤ a) : a - 1 < b := Mine.far (ctx := (Mine.C4 (a - 1) b a c)) 0 [(1, (.add (.var 2) (.add (.var 3) (.num 1))), (.var 1)), (1, (.add (.var 0) (.num 1)), (.var 2))] (.add (.var 0) (.num 1)) (.var 1) rfl (Nat.le_of_eq h1) (Mine.omSubB (Mine.far (ctx := (Mine.C1 a)) 1 [(1, (.num 2), (.var 0))] (.num 1) (.var 0) rfl h2))
theorem o190 : ¬ 0 < 0 := Nat.not_lt_of_le (Mine.far (ctx := (Mine.C1 0)) 0 [] (.num 0) (.num 0) rfl )
theorem o191 {a : Nat} (h1 : 2 ≤ a) : 2 ≤ a + 1 := Mine.far (ctx := (Mine.C1 a)) 1 [(1, (.num 2), (.var 0))] (.num 2) (.add (.var 0) (.num 1)) rfl h1
theorem o192 {a : Nat} (h1 : 2 ≤ a) : 1 ≤ a := Mine.far (ctx := (Mine.C1 a)) 1 [(1, (.num 2), (.var 0))] (.num 1) (.var 0) rfl h1
theorem o193 {a : Nat} (h1 : 2 ≤ a) : ¬ a = a - 1 := Nat.ne_of_gt (Mine.far (ctx := (Mine.C2 (a - 1) a)) 0 [(1, (.add (.var 0) (.num 1)), (.var 1))] (.add (.var 0) (.num 1)) (.var 1) rfl (Mine.omSubB (Mine.far (ctx := (Mine.C1 a)) 1 [(1, (.num 2), (.var 0))] (.num 1) (.var 0) rfl h1)))
theorem o194 {a b : Nat} (h1 : b < 2 ^ 18) (h2 : a = b) : a < 1048576 := Mine.far (ctx := (Mine.C2 a b)) 0 [(1, (.add (.var 1) (.num 1)), (.num (2 ^ 18))), (1, (.var 0), (.var 1))] (.add (.var 0) (.num 1)) (.num 1048576) rfl h1 (Nat.le_of_eq h2)
theorem o195 {a : Nat} (h1 : 2 ≤ a) : 1 + (a - 1) = a := Nat.le_antisymm (Mine.far (ctx := (Mine.C2 (a - 1) a)) 0 [(1, (.add (.var 0) (.num 1)), (.var 1))] (.add (.num 1) (.var 0)) (.var 1) rfl (Mine.omSubB (Mine.far (ctx := (Mine.C1 a)) 1 [(1, (.num 2), (.var 0))] (.num 1) (.var 0) rfl h1))) (Mine.far (ctx := (Mine.C2 a (a - 1))) 0 [(1, (.var 0), (.add (.var 1) (.num 1)))] (.var 0) (.add (.num 1) (.var 1)) rfl (Mine.omSubA a 1))
theorem o196 {a : Nat} (h1 : 1 ≤ a) : 1 ≤ a := Mine.far (ctx := (Mine.C1 a)) 0 [(1, (.num 1), (.var 0))] (.num 1) (.var 0) rfl h1
theorem o197 {a b c : Nat} (h1 : b < 2 ^ 18) (h2 : c = b) (h3 : a < c) : a < 2 ^ 62 := Mine.far (ctx := (Mine.C3 a b c)) 0 [(1, (.add (.var 1) (.num 1)), (.num (2 ^ 18))), (1, (.var 2), (.var 1)), (1, (.add (.var 0) (.num 1)), (.var 2))] (.add (.var 0) (.num 1)) (.num (2 ^ 62)) rfl h1 (Nat.le_of_eq h2) h3
theorem o198 {a : Nat} (h1 : 2 ≤ a) : 0 < a := Mine.far (ctx := (Mine.C1 a)) 1 [(1, (.num 2), (.var 0))] (.add (.num 0) (.num 1)) (.var 0) rfl h1
theorem o199 {a b : Nat} (h1 : a ≤ b) (h2 : 1 < a) : a - 1 < b := Mine.far (ctx := (Mine.C3 (a - 1) b a)) 0 [(1, (.var 2), (.var 1)), (1, (.add (.var 0) (.num 1)), (.var 2))] (.add (.var 0) (.num 1)) (.var 1) rfl h1 (Mine.omSubB (Mine.far (ctx := (Mine.C1 a)) 1 [(1, (.add (.num 1) (.num 1)), (.var 0))] (.num 1) (.var 0) rfl h2))
theorem o200 {a : Nat} (h1 : 1 < a) : 0 < a - 1 := Mine.far (ctx := (Mine.C2 (a - 1) a)) 0 [(1, (.add (.num 1) (.num 1)), (.var 1)), (1, (.var 1), (.add (.var 0) (.num 1)))] (.add (.num 0) (.num 1)) (.var 0) rfl h1 (Mine.omSubA a 1)
theorem o201 {a : Nat} (h1 : 1 < a) : a - 1 < a := Mine.far (ctx := (Mine.C2 (a - 1) a)) 0 [(1, (.add (.var 0) (.num 1)), (.var 1))] (.add (.var 0) (.num 1)) (.var 1) rfl (Mine.omSubB (Mine.far (ctx := (Mine.C1 a)) 1 [(1, (.add (.num 1) (.num 1)), (.var 0))] (.num 1) (.var 0) rfl h1))
theorem o202 {a : Nat} (h1 : 1 < a) : 1 ≤ a := Mine.far (ctx := (Mine.C1 a)) 1 [(1, (.add (.num 1) (.num 1)), (.var 0))] (.num 1) (.var 0) rfl h1
theorem o203 {a : Nat} (h1 : ¬ 1 < a) (h2 : 1 ≤ a) : a = 1 := Nat.le_antisymm (Mine.far (ctx := (Mine.C1 a)) 0 [(1, (.var 0), (.num 1))] (.var 0) (.num 1) rfl (Nat.le_of_not_lt h1)) (Mine.far (ctx := (Mine.C1 a)) 0 [(1, (.num 1), (.var 0))] (.num 1) (.var 0) rfl h2)
theorem o204 {a : Nat} (h1 : 2 ≤ a) : 2 + (a - (1 + 1)) = a := Nat.le_antisymm (Mine.far (ctx := (Mine.C2 (a - (1 + 1)) a)) 0 [(1, (.add (.var 0) (.add (.num 1) (.num 1))), (.var 1))] (.add (.num 2) (.var 0)) (.var 1) rfl (Mine.omSubB (Mine.far (ctx := (Mine.C1 a)) 0 [(1, (.num 2), (.var 0))] (.add (.num 1) (.num 1)) (.var 0) rfl h1))) (Mine.far (ctx := (Mine.C2 a (a - (1 + 1)))) 0 [(1, (.var 0), (.add (.var 1) (.add (.num 1) (.num 1))))] (.var 0) (.add (.num 2) (.var 1)) rfl (Mine.omSubA a (1 + 1)))
theorem o205 {a : Nat} (h1 : 2 ≤ a) : 1 < a := Mine.far (ctx := (Mine.C1 a)) 0 [(1, (.num 2), (.var 0))] (.add (.num 1) (.num 1)) (.var 0) rfl h1
theorem o206 {a b : Nat} (h1 : a ≤ b) : a + (b - a) = b := Nat.le_antisymm (Mine.far (ctx := (Mine.C3 a (b - a) b)) 0 [(1, (.add (.var 1) (.var 0)), (.var 2))] (.add (.var 0) (.var 1)) (.var 2) rfl (Mine.omSubB (Mine.far (ctx := (Mine.C2 a b)) 0 [(1, (.var 0), (.var 1))] (.var 0) (.var 1) rfl h1))) (Mine.far (ctx := (Mine.C3 b a (b - a))) 0 [(1, (.var 0), (.add (.var 2) (.var 1)))] (.var 0) (.add (.var 1) (.var 2)) rfl (Mine.omSubA b a))
theorem o207 {a b : Nat} (h1 : 2 ≤ b) (h2 : b ≤ a) : 1 ≤ a := Mine.far (ctx := (Mine.C2 a b)) 1 [(1, (.num 2), (.var 1)), (1, (.var 1), (.var 0))] (.num 1) (.var 0) rfl h1 h2
theorem o208 {a b c : Nat} (h1 : b < 2 ^ 18) (h2 : c = b) (h3 : 2 * a + 1 < c) : a < 2 ^ 62 := Mine.far (ctx := (Mine.C3 a b c)) 1 [(1, (.add (.var 1) (.num 1)), (.num (2 ^ 18))), (1, (.var 2), (.var 1)), (1, (.add (.add (.mulL 2 (.var 0)) (.num 1)) (.num 1)), (.var 2))] (.add (.var 0) (.num 1)) (.num (2 ^ 62)) rfl h1 (Nat.le_of_eq h2) h3
theorem o209 {a b c : Nat} (h1 : b = c) (h2 : 2 * a + 1 < c) : a < b := Mine.far (ctx := (Mine.C3 a b c)) 1 [(1, (.var 2), (.var 1)), (1, (.add (.add (.mulL 2 (.var 0)) (.num 1)) (.num 1)), (.var 2))] (.add (.var 0) (.num 1)) (.var 1) rfl (Nat.le_of_eq (Eq.symm h1)) h2
theorem o210 {a b : Nat} (h1 : a ≤ b) (h2 : b - a ≤ 0) : a = b := Nat.le_antisymm (Mine.far (ctx := (Mine.C2 a b)) 0 [(1, (.var 0), (.var 1))] (.var 0) (.var 1) rfl h1) (Mine.far (ctx := (Mine.C3 b a (b - a))) 0 [(1, (.var 2), (.num 0)), (1, (.var 0), (.add (.var 2) (.var 1)))] (.var 0) (.var 1) rfl h2 (Mine.omSubA b a))
theorem o211 {a b c d : Nat} (h1 : d < c) (h2 : a ≤ b) (h3 : b ≤ d) : (a + b) / 2 < c := Mine.far (ctx := (Mine.C5 ((a + b) / 2) c d a b)) 1 [(2, (.add (.var 2) (.num 1)), (.var 1)), (1, (.var 3), (.var 4)), (2, (.var 4), (.var 2)), (1, (.mulL 2 (.var 0)), (.add (.var 3) (.var 4)))] (.add (.var 0) (.num 1)) (.var 1) rfl h1 h2 h3 (Nat.mul_div_le (a + b) 2)
theorem o212 {a b c : Nat} (h1 : b - a ≤ c + 1) (h2 : ¬ b ≤ a) : (a + b) / 2 - a ≤ c := Mine.far (ctx := (Mine.C6 ((a + b) / 2 - a) c (b - a) ((a + b) / 2) a b)) 1 [(1, (.var 2), (.add (.var 1) (.num 1))), (1, (.mulL 2 (.var 3)), (.add (.var 4) (.var 5))), (1, (.var 5), (.add (.var 2) (.var 4))), (2, (.add (.var 0) (.var 4)), (.var 3))] (.var 0) (.var 1) rfl h1 (Nat.mul_div_le (a + b) 2) (Mine.omSubA b a) (Mine.omSubB (Mine.far (ctx := (Mine.C3 a ((a + b) / 2) b)) 1 [(1, (.add (.var 0) (.num 1)), (.var 2)), (1, (.add (.add (.var 0) (.var 2)) (.num 1)), (.add (.mulL 2 (.var 1)) (.num 2)))] (.var 0) (.var 1) rfl (Nat.lt_of_not_le h2) (Mine.omDivA (a + b) (k := 2) rfl)))
theorem o213 {a b : Nat} (h1 : ¬ b ≤ a) : a ≤ (a + b) / 2 := Mine.far (ctx := (Mine.C3 a ((a + b) / 2) b)) 1 [(1, (.add (.var 0) (.num 1)), (.var 2)), (1, (.add (.add (.var 0) (.var 2)) (.num 1)), (.add (.mulL 2 (.var 1)) (.num 2)))] (.var 0) (.var 1) rfl (Nat.lt_of_not_le h1) (Mine.omDivA (a + b) (k := 2) rfl)
theorem o214 {a b c : Nat} (h1 : a ≤ b) (h2 : b ≤ c) : (a + b) / 2 ≤ c := Mine.far (ctx := (Mine.C4 ((a + b) / 2) c a b)) 1 [(1, (.var 2), (.var 3)), (2, (.var 3), (.var 1)), (1, (.mulL 2 (.var 0)), (.add (.var 2) (.var 3)))] (.var 0) (.var 1) rfl h1 h2 (Nat.mul_div_le (a + b) 2)
theorem o215 {a b c d e : Nat} (h1 : d < c) (h2 : (a + b) / 2 ≤ e) (h3 : e < d) : (a + b) / 2 < c := Mine.far (ctx := (Mine.C4 ((a + b) / 2) c d e)) 0 [(1, (.add (.var 2) (.num 1)), (.var 1)), (1, (.var 0), (.var 3)), (1, (.add (.var 3) (.num 1)), (.var 2))] (.add (.var 0) (.num 1)) (.var 1) rfl h1 h2 h3
theorem o216 {a b c : Nat} (h1 : c < b) (h2 : a < c) : a < b := Mine.far (ctx := (Mine.C3 a b c)) 0 [(1, (.add (.var 2) (.num 1)), (.var 1)), (1, (.add (.var 0) (.num 1)), (.var 2))] (.add (.var 0) (.num 1)) (.var 1) rfl h1 h2
theorem o217 {a b c : Nat} (h1 : c ≤ a) (h2 : ¬ c ≤ b) : ¬ a = (b + c) / 2 := Nat.ne_of_gt (Mine.far (ctx := (Mine.C4 ((b + c) / 2) a c b)) 1 [(2, (.var 2), (.var 1)), (1, (.add (.var 3) (.num 1)), (.var 2)), (1, (.mulL 2 (.var 0)), (.add (.var 3) (.var 2)))] (.add (.var 0) (.num 1)) (.var 1) rfl h1 (Nat.lt_of_not_le h2) (Nat.mul_div_le (b + c) 2))
theorem o218 {a b c : Nat} (h1 : a - b ≤ c + 1) (h2 : ¬ a ≤ b) : a - ((b + a) / 2 + 1) ≤ c := Mine.far (ctx := (Mine.C6 (a - ((b + a) / 2 + 1)) c (a - b) b a ((b + a) / 2))) 1 [(1, (.var 2), (.add (.var 1) (.num 1))), (1, (.add (.add (.var 3) (.var 4)) (.num 1)), (.add (.mulL 2 (.var 5)) (.num 2))), (1, (.var 4), (.add (.var 2) (.var 3))), (2, (.add (.var 0) (.add (.var 5) (.num 1))), (.var 4))] (.var 0) (.var 1) rfl h1 (Mine.omDivA (b + a) (k := 2) rfl) (Mine.omSubA a b) (Mine.omSubB (Mine.far (ctx := (Mine.C3 ((b + a) / 2) a b)) 1 [(1, (.add (.var 2) (.num 1)), (.var 1)), (1, (.mulL 2 (.var 0)), (.add (.var 2) (.var 1)))] (.add (.var 0) (.num 1)) (.var 1) rfl (Nat.lt_of_not_le h2) (Nat.mul_div_le (b + a) 2)))
theorem o219 {a b : Nat} (h1 : ¬ b ≤ a) : (a + b) / 2 + 1 ≤ b := Mine.far (ctx := (Mine.C3 ((a + b) / 2) b a)) 1 [(1, (.add (.var 2) (.num 1)), (.var 1)), (1, (.mulL 2 (.var 0)), (.add (.var 2) (.var 1)))] (.add (.var 0) (.num 1)) (.var 1) rfl (Nat.lt_of_not_le h1) (Nat.mul_div_le (a + b) 2)
theorem o220 {a b c d e : Nat} (h1 : c < b) (h2 : d ≤ e) (h3 : e ≤ c) (h4 : a < (d + e) / 2 + 1) : a < b := Mine.far (ctx := (Mine.C6 a b c d e ((d + e) / 2))) 1 [(2, (.add (.var 2) (.num 1)), (.var 1)), (1, (.var 3), (.var 4)), (2, (.var 4), (.var 2)), (2, (.add (.var 0) (.num 1)), (.add (.var 5) (.num 1))), (1, (.mulL 2 (.var 5)), (.add (.var 3) (.var 4)))] (.add (.var 0) (.num 1)) (.var 1) rfl h1 h2 h3 h4 (Nat.mul_div_le (d + e) 2)
theorem o221 {a b : Nat} (h1 : a + 3 < b) : a + 1 < b := Mine.far (ctx := (Mine.C2 a b)) 0 [(1, (.add (.add (.var 0) (.num 3)) (.num 1)), (.var 1))] (.add (.add (.var 0) (.num 1)) (.num 1)) (.var 1) rfl h1
theorem o222 {a b c : Nat} (h1 : b ≤ c) (h2 : ¬ b ≤ a) : (a + b) / 2 < c := Mine.far (ctx := (Mine.C4 ((a + b) / 2) c b a)) 1 [(2, (.var 2), (.var 1)), (1, (.add (.var 3) (.num 1)), (.var 2)), (1, (.mulL 2 (.var 0)), (.add (.var 3) (.var 2)))] (.add (.var 0) (.num 1)) (.var 1) rfl h1 (Nat.lt_of_not_le h2) (Nat.mul_div_le (a + b) 2)
theorem o223 {a b : Nat} (h1 : b ≤ a) : a - b ≤ a := Mine.far (ctx := (Mine.C3 (a - b) a b)) 0 [(1, (.add (.var 0) (.var 2)), (.var 1))] (.var 0) (.var 1) rfl (Mine.omSubB (Mine.far (ctx := (Mine.C2 b a)) 0 [(1, (.var 0), (.var 1))] (.var 0) (.var 1) rfl h1))
theorem o224 {a b : Nat} (h1 : b ≤ a) : a - (a - b) = b := Nat.le_antisymm (Mine.far (ctx := (Mine.C4 (a - (a - b)) b a (a - b))) 0 [(1, (.var 2), (.add (.var 3) (.var 1))), (1, (.add (.var 0) (.var 3)), (.var 2))] (.var 0) (.var 1) rfl (Mine.omSubA a b) (Mine.omSubB (Mine.far (ctx := (Mine.C2 (a - b) a)) 0 [(1, (.var 0), (.var 1))] (.var 0) (.var 1) rfl (Nat.sub_le a b)))) (Mine.far (ctx := (Mine.C4 b (a - (a - b)) a (a - b))) 0 [(1, (.var 2), (.add (.var 1) (.var 3))), (1, (.add (.var 3) (.var 0)), (.var 2))] (.var 0) (.var 1) rfl (Mine.omSubA a (a - b)) (Mine.omSubB (Mine.far (ctx := (Mine.C2 b a)) 0 [(1, (.var 0), (.var 1))] (.var 0) (.var 1) rfl h1)))
theorem o225 {a b c : Nat} (h1 : c < a) (h2 : c = b) : ¬ a = b := Nat.ne_of_gt (Mine.far (ctx := (Mine.C3 b a c)) 0 [(1, (.add (.var 2) (.num 1)), (.var 1)), (1, (.var 0), (.var 2))] (.add (.var 0) (.num 1)) (.var 1) rfl h1 (Nat.le_of_eq (Eq.symm h2)))
theorem o226 {a b c : Nat} (h1 : c < b) (h2 : c = a) : a ≤ b - 1 := Mine.far (ctx := (Mine.C4 a (b - 1) c b)) 0 [(1, (.add (.var 2) (.num 1)), (.var 3)), (1, (.var 0), (.var 2)), (1, (.var 3), (.add (.var 1) (.num 1)))] (.var 0) (.var 1) rfl h1 (Nat.le_of_eq (Eq.symm h2)) (Mine.omSubA b 1)
theorem o227 {a b c : Nat} (h1 : a < b + 1) (h2 : c < a) : a - 1 < b := Mine.far (ctx := (Mine.C3 (a - 1) b a)) 0 [(1, (.add (.var 2) (.num 1)), (.add (.var 1) (.num 1))), (1, (.add (.var 0) (.num 1)), (.var 2))] (.add (.var 0) (.num 1)) (.var 1) rfl h1 (Mine.omSubB (Mine.far (ctx := (Mine.C2 a c)) 0 [(1, (.add (.var 1) (.num 1)), (.var 0))] (.num 1) (.var 0) rfl h2))
theorem o228 {a b c : Nat} (h1 : a < b) (h2 : c < a) : a - 1 < b - 1 := Mine.far (ctx := (Mine.C4 (a - 1) (b - 1) a b)) 0 [(1, (.add (.var 2) (.num 1)), (.var 3)), (1, (.var 3), (.add (.var 1) (.num 1))), (1, (.add (.var 0) (.num 1)), (.var 2))] (.add (.var 0) (.num 1)) (.var 1) rfl h1 (Mine.omSubA b 1) (Mine.omSubB (Mine.far (ctx := (Mine.C2 a c)) 0 [(1, (.add (.var 1) (.num 1)), (.var 0))] (.num 1) (.var 0) rfl h2))
theorem o229 {a b c : Nat} : (min a (min b c)) ≤ a := Mine.far (ctx := (Mine.C2 (min a (min b c)) a)) 0 [(1, (.var 0), (.var 1))] (.var 0) (.var 1) rfl (Nat.min_le_left a (min b c))
theorem o230 {a b c : Nat} (h1 : a ≤ b) (h2 : c < a) : a - 1 < b := Mine.far (ctx := (Mine.C3 (a - 1) b a)) 0 [(1, (.var 2), (.var 1)), (1, (.add (.var 0) (.num 1)), (.var 2))] (.add (.var 0) (.num 1)) (.var 1) rfl h1 (Mine.omSubB (Mine.far (ctx := (Mine.C2 a c)) 0 [(1, (.add (.var 1) (.num 1)), (.var 0))] (.num 1) (.var 0) rfl h2))
theorem o231 {a b : Nat} (h1 : a + 0 = b) : a = b := Nat.le_antisymm (Mine.far (ctx := (Mine.C2 a b)) 0 [(1, (.add (.var 0) (.num 0)), (.var 1))] (.var 0) (.var 1) rfl (Nat.le_of_eq h1)) (Mine.far (ctx := (Mine.C2 b a)) 0 [(1, (.var 0), (.add (.var 1) (.num 0)))] (.var 0) (.var 1) rfl (Nat.le_of_eq (Eq.symm h1)))
theorem o232 {a : Nat} : a - 0 ≤ a := Mine.far (ctx := (Mine.C2 (a - 0) a)) 0 [(1, (.add (.var 0) (.num 0)), (.var 1))] (.var 0) (.var 1) rfl (Mine.omSubB (Mine.far (ctx := (Mine.C1 a)) 0 [] (.num 0) (.var 0) rfl ))
theorem o233 {a : Nat} : 0 ≤ a := Mine.far (ctx := (Mine.C1 a)) 0 [] (.num 0) (.var 0) rfl 
theorem o234 {a b : Nat} (h1 : a < b) : a + (b - a) = b := Nat.le_antisymm (Mine.far (ctx := (Mine.C3 a (b - a) b)) 0 [(1, (.add (.var 1) (.var 0)), (.var 2))] (.add (.var 0) (.var 1)) (.var 2) rfl (Mine.omSubB (Mine.far (ctx := (Mine.C2 a b)) 0 [(1, (.add (.var 0) (.num 1)), (.var 1))] (.var 0) (.var 1) rfl h1))) (Mine.far (ctx := (Mine.C3 b a (b - a))) 0 [(1, (.var 0), (.add (.var 2) (.var 1)))] (.var 0) (.add (.var 1) (.var 2)) rfl (Mine.omSubA b a))
theorem o235 {a b c : Nat} (h1 : a < c + 1) (h2 : b = c) (h3 : b < c + 1) (h4 : a = c) : a = b := Nat.le_antisymm (Mine.far (ctx := (Mine.C3 a b c)) 0 [(1, (.add (.var 0) (.num 1)), (.add (.var 2) (.num 1))), (1, (.var 2), (.var 1))] (.var 0) (.var 1) rfl h1 (Nat.le_of_eq (Eq.symm h2))) (Mine.far (ctx := (Mine.C3 b a c)) 0 [(1, (.add (.var 0) (.num 1)), (.add (.var 2) (.num 1))), (1, (.var 2), (.var 1))] (.var 0) (.var 1) rfl h3 (Nat.le_of_eq (Eq.symm h4)))
theorem o236 {a : Nat} (h1 : 0 < a) : ¬ (a - 1) / 2 = a := Nat.ne_of_lt (Mine.far (ctx := (Mine.C3 ((a - 1) / 2) a (a - 1))) 1 [(1, (.mulL 2 (.var 0)), (.var 2)), (2, (.add (.var 2) (.num 1)), (.var 1))] (.add (.var 0) (.num 1)) (.var 1) rfl (Nat.mul_div_le (a - 1) 2) (Mine.omSubB (Mine.far (ctx := (Mine.C1 a)) 0 [(1, (.add (.num 0) (.num 1)), (.var 0))] (.num 1) (.var 0) rfl h1)))
theorem o237 {a : Nat} (h1 : 0 < a) : (a - 1) / 2 < a := Mine.far (ctx := (Mine.C3 ((a - 1) / 2) a (a - 1))) 1 [(1, (.mulL 2 (.var 0)), (.var 2)), (2, (.add (.var 2) (.num 1)), (.var 1))] (.add (.var 0) (.num 1)) (.var 1) rfl (Nat.mul_div_le (a - 1) 2) (Mine.omSubB (Mine.far (ctx := (Mine.C1 a)) 0 [(1, (.add (.num 0) (.num 1)), (.var 0))] (.num 1) (.var 0) rfl h1))
theorem o238 {a b : Nat} (h1 : a < b) (h2 : 0 < a) : (a - 1) / 2 < b := Mine.far (ctx := (Mine.C4 ((a - 1) / 2) b a (a - 1))) 1 [(1, (.add (.var 2) (.num 1)), (.var 1)), (1, (.mulL 2 (.var 0)), (.var 3)), (1, (.add (.var 3) (.num 1)), (.var 2))] (.add (.var 0) (.num 1)) (.var 1) rfl h1 (Nat.mul_div_le (a - 1) 2) (Mine.omSubB (Mine.far (ctx := (Mine.C1 a)) 0 [(1, (.add (.num 0) (.num 1)), (.var 0))] (.num 1) (.var 0) rfl h2))
theorem o239 {a b : Nat} (h1 : a = b) : a ≤ b := Mine.far (ctx := (Mine.C2 a b)) 0 [(1, (.var 0), (.var 1))] (.var 0) (.var 1) rfl (Nat.le_of_eq h1)
theorem o240 {a : Nat} (h1 : 0 < a) (h2 : 0 < (a - 1) / 2) : ¬ ((a - 1) / 2 - 1) / 2 = a := Nat.ne_of_lt (Mine.far (ctx := (Mine.C5 (((a - 1) / 2 - 1) / 2) a ((a - 1) / 2) (a - 1) ((a - 1) / 2 - 1))) 3 [(1, (.mulL 2 (.var 2)), (.var 3)), (2, (.mulL 2 (.var 0)), (.var 4)), (2, (.add (.var 3) (.num 1)), (.var 1)), (2, (.add (.var 4) (.num 1)), (.var 2))] (.add (.var 0) (.num 1)) (.var 1) rfl (Nat.mul_div_le (a - 1) 2) (Nat.mul_div_le ((a - 1) / 2 - 1) 2) (Mine.omSubB (Mine.far (ctx := (Mine.C1 a)) 0 [(1, (.add (.num 0) (.num 1)), (.var 0))] (.num 1) (.var 0) rfl h1)) (Mine.omSubB (Mine.far (ctx := (Mine.C1 ((a - 1) / 2))) 0 [(1, (.add (.num 0) (.num 1)), (.var 0))] (.num 1) (.var 0) rfl h2)))
theorem o241 {a b c : Nat} (h1 : c < b) (h2 : b < a) : a - b < a - c := Mine.far (ctx := (Mine.C5 (a - b) (a - c) c b a)) 0 [(1, (.add (.var 2) (.num 1)), (.var 3)), (1, (.var 4), (.add (.var 1) (.var 2))), (1, (.add (.var 0) (.var 3)), (.var 4))] (.add (.var 0) (.num 1)) (.var 1) rfl h1 (Mine.omSubA a c) (Mine.omSubB (Mine.far (ctx := (Mine.C2 b a)) 0 [(1, (.add (.var 0) (.num 1)), (.var 1))] (.var 0) (.var 1) rfl h2))
theorem o242 {a b : Nat} (h1 : a + 6 < b) : a < b := Mine.far (ctx := (Mine.C2 a b)) 0 [(1, (.add (.add (.var 0) (.num 6)) (.num 1)), (.var 1))] (.add (.var 0) (.num 1)) (.var 1) rfl h1
theorem o243 {a b : Nat} (h1 : (a - 1) / 2 = (b - 1) / 2) (h2 : 0 < b) : ¬ (a - 1) / 2 = b := Nat.ne_of_lt (Mine.far (ctx := (Mine.C4 ((a - 1) / 2) b ((b - 1) / 2) (b - 1))) 1 [(2, (.var 0), (.var 2)), (1, (.mulL 2 (.var 2)), (.var 3)), (2, (.add (.var 3) (.num 1)), (.var 1))] (.add (.var 0) (.num 1)) (.var 1) rfl (Nat.le_of_eq h1) (Nat.mul_div_le (b - 1) 2) (Mine.omSubB (Mine.far (ctx := (Mine.C1 b)) 0 [(1, (.add (.num 0) (.num 1)), (.var 0))] (.num 1) (.var 0) rfl h2)))
theorem o244 {a : Nat} (h1 : 0 < a) : ¬ a = (a - 1) / 2 := Nat.ne_of_gt (Mine.far (ctx := (Mine.C3 ((a - 1) / 2) a (a - 1))) 1 [(1, (.mulL 2 (.var 0)), (.var 2)), (2, (.add (.var 2) (.num 1)), (.var 1))] (.add (.var 0) (.num 1)) (.var 1) rfl (Nat.mul_div_le (a - 1) 2) (Mine.omSubB (Mine.far (ctx := (Mine.C1 a)) 0 [(1, (.add (.num 0) (.num 1)), (.var 0))] (.num 1) (.var 0) rfl h1)))
theorem o245 {a : Nat} : ((2 * a + 2) - 1) / 2 = a := Nat.le_antisymm (Mine.far (ctx := (Mine.C3 (((2 * a + 2) - 1) / 2) a ((2 * a + 2) - 1))) 1 [(1, (.mulL 2 (.var 0)), (.var 2)), (1, (.add (.var 2) (.num 1)), (.add (.mulL 2 (.var 1)) (.num 2)))] (.var 0) (.var 1) rfl (Nat.mul_div_le ((2 * a + 2) - 1) 2) (Mine.omSubB (Mine.far (ctx := (Mine.C1 a)) 0 [] (.num 1) (.add (.mulL 2 (.var 0)) (.num 2)) rfl ))) (Mine.far (ctx := (Mine.C3 a (((2 * a + 2) - 1) / 2) ((2 * a + 2) - 1))) 1 [(1, (.add (.mulL 2 (.var 0)) (.num 2)), (.add (.var 2) (.num 1))), (1, (.add (.var 2) (.num 1)), (.add (.mulL 2 (.var 1)) (.num 2)))] (.var 0) (.var 1) rfl (Mine.omSubA (2 * a + 2) 1) (Mine.omDivA ((2 * a + 2) - 1) (k := 2) rfl))
theorem o246 {a : Nat} : 0 < 2 * a + 2 := Mine.far (ctx := (Mine.C1 a)) 0 [] (.add (.num 0) (.num 1)) (.add (.mulL 2 (.var 0)) (.num 2)) rfl 
theorem o247 {a : Nat} : ((2 * a + 1) - 1) / 2 = a := Nat.le_antisymm (Mine.far (ctx := (Mine.C3 (((2 * a + 1) - 1) / 2) a ((2 * a + 1) - 1))) 1 [(1, (.mulL 2 (.var 0)), (.var 2)), (1, (.add (.var 2) (.num 1)), (.add (.mulL 2 (.var 1)) (.num 1)))] (.var 0) (.var 1) rfl (Nat.mul_div_le ((2 * a + 1) - 1) 2) (Mine.omSubB (Mine.far (ctx := (Mine.C1 a)) 0 [] (.num 1) (.add (.mulL 2 (.var 0)) (.num 1)) rfl ))) (Mine.far (ctx := (Mine.C3 a (((2 * a + 1) - 1) / 2) ((2 * a + 1) - 1))) 1 [(1, (.add (.mulL 2 (.var 0)) (.num 1)), (.add (.var 2) (.num 1))), (1, (.add (.var 2) (.num 1)), (.add (.mulL 2 (.var 1)) (.num 2)))] (.var 0) (.var 1) rfl (Mine.omSubA (2 * a + 1) 1) (Mine.omDivA ((2 * a + 1) - 1) (k := 2) rfl))
theorem o248 {a : Nat} : 0 < 2 * a + 1 := Mine.far (ctx := (Mine.C1 a)) 0 [] (.add (.num 0) (.num 1)) (.add (.mulL 2 (.var 0)) (.num 1)) rfl 
theorem o249 {a b c : Nat} (h1 : b < 2 ^ 18) (h2 : a < c) (h3 : c = b) : a < 2 ^ 62 := Mine.far (ctx := (Mine.C3 a b c)) 0 [(1, (.add (.var 1) (.num 1)), (.num (2 ^ 18))), (1, (.add (.var 0) (.num 1)), (.var 2)), (1, (.var 2), (.var 1))] (.add (.var 0) (.num 1)) (.num (2 ^ 62)) rfl h1 h2 (Nat.le_of_eq h3)
theorem o250 {a b : Nat} (h1 : 2 * a + 1 < b) : 2 * a + 1 < b := Mine.far (ctx := (Mine.C2 a b)) 0 [(1, (.add (.add (.mulL 2 (.var 0)) (.num 1)) (.num 1)), (.var 1))] (.add (.add (.mulL 2 (.var 0)) (.num 1)) (.num 1)) (.var 1) rfl h1
theorem o251 {a b c : Nat} (h1 : b < c) (h2 : (a - 1) / 2 = c) (h3 : 0 < a) : ¬ a = b := Nat.ne_of_gt (Mine.far (ctx := (Mine.C5 b a c ((a - 1) / 2) (a - 1))) 1 [(2, (.add (.var 0) (.num 1)), (.var 2)), (2, (.var 2), (.var 3)), (1, (.mulL 2 (.var 3)), (.var 4)), (1, (.add (.var 4) (.num 1)), (.var 1))] (.add (.var 0) (.num 1)) (.var 1) rfl h1 (Nat.le_of_eq (Eq.symm h2)) (Nat.mul_div_le (a - 1) 2) (Mine.omSubB (Mine.far (ctx := (Mine.C1 a)) 0 [(1, (.add (.num 0) (.num 1)), (.var 0))] (.num 1) (.var 0) rfl h3)))
theorem o252 {a b c : Nat} (h1 : b < c) (h2 : (a - 1) / 2 = c) : ¬ (a - 1) / 2 = b := Nat.ne_of_gt (Mine.far (ctx := (Mine.C3 b ((a - 1) / 2) c)) 0 [(1, (.add (.var 0) (.num 1)), (.var 2)), (1, (.var 2), (.var 1))] (.add (.var 0) (.num 1)) (.var 1) rfl h1 (Nat.le_of_eq (Eq.symm h2)))
theorem o253 {a b c d : Nat} (h1 : a - d = c) (h2 : d < b) (h3 : b < a) : a - b < c := Mine.far (ctx := (Mine.C6 (a - b) c (a - d) d b a)) 0 [(1, (.var 2), (.var 1)), (1, (.add (.var 3) (.num 1)), (.var 4)), (1, (.var 5), (.add (.var 2) (.var 3))), (1, (.add (.var 0) (.var 4)), (.var 5))] (.add (.var 0) (.num 1)) (.var 1) rfl (Nat.le_of_eq h1) h2 (Mine.omSubA a d) (Mine.omSubB (Mine.far (ctx := (Mine.C2 b a)) 0 [(1, (.add (.var 0) (.num 1)), (.var 1))] (.var 0) (.var 1) rfl h3))
theorem o254 {a b : Nat} (h1 : a < b) : ¬ a = b := Nat.ne_of_lt (Mine.far (ctx := (Mine.C2 a b)) 0 [(1, (.add (.var 0) (.num 1)), (.var 1))] (.add (.var 0) (.num 1)) (.var 1) rfl h1)
theorem o255 {a b : Nat} (h1 : a < b + 1) (h2 : 0 < a) : (a - 1) / 2 < b := Mine.far (ctx := (Mine.C4 ((a - 1) / 2) b a (a - 1))) 1 [(2, (.add (.var 2) (.num 1)), (.add (.var 1) (.num 1))), (1, (.mulL 2 (.var 0)), (.var 3)), (2, (.add (.var 3) (.num 1)), (.var 2))] (.add (.var 0) (.num 1)) (.var 1) rfl h1 (Nat.mul_div_le (a - 1) 2) (Mine.omSubB (Mine.far (ctx := (Mine.C1 a)) 0 [(1, (.add (.num 0) (.num 1)), (.var 0))] (.num 1) (.var 0) rfl h2))
theorem o256 {a b : Nat} (h1 : a + 2 < b) : a + 1 < b := Mine.far (ctx := (Mine.C2 a b)) 0 [(1, (.add (.add (.var 0) (.num 2)) (.num 1)), (.var 1))] (.add (.add (.var 0) (.num 1)) (.num 1)) (.var 1) rfl h1
theorem o257 {a b : Nat} (h1 : a + 16 < b) : a + 3 + 8 < b := Mine.far (ctx := (Mine.C2 a b)) 0 [(1, (.add (.add (.var 0) (.num 16)) (.num 1)), (.var 1))] (.add (.add (.add (.var 0) (.num 3)) (.num 8)) (.num 1)) (.var 1) rfl h1
theorem o258 {a b : Nat} (h1 : a < b) : (a - 1) / 2 < b := Mine.far (ctx := (Mine.C4 ((a - 1) / 2) b a (a - 1))) 1 [(2, (.add (.var 2) (.num 1)), (.var 1)), (1, (.var 3), (.var 2)), (1, (.mulL 2 (.var 0)), (.var 3))] (.add (.var 0) (.num 1)) (.var 1) rfl h1 (Nat.sub_le a 1) (Nat.mul_div_le (a - 1) 2)
theorem o259 {a : Nat} (h1 : 0 < a) : ¬ a = 0 := Nat.ne_of_gt (Mine.far (ctx := (Mine.C1 a)) 0 [(1, (.add (.num 0) (.num 1)), (.var 0))] (.add (.num 0) (.num 1)) (.var 0) rfl h1)
theorem o260 {a b c : Nat} (h1 : a < b) : a < b + c := Mine.far (ctx := (Mine.C3 a b c)) 0 [(1, (.add (.var 0) (.num 1)), (.var 1))] (.add (.var 0) (.num 1)) (.add (.var 1) (.var 2)) rfl h1
theorem o261 {a b : Nat} (h1 : a + 6 < b) : a + 1 + 3 < b := Mine.far (ctx := (Mine.C2 a b)) 0 [(1, (.add (.add (.var 0) (.num 6)) (.num 1)), (.var 1))] (.add (.add (.add (.var 0) (.num 1)) (.num 3)) (.num 1)) (.var 1) rfl h1
theorem o262 {a b : Nat} (h1 : a + 40 < b) : a + 3 + 16 < b := Mine.far (ctx := (Mine.C2 a b)) 0 [(1, (.add (.add (.var 0) (.num 40)) (.num 1)), (.var 1))] (.add (.add (.add (.var 0) (.num 3)) (.num 16)) (.num 1)) (.var 1) rfl h1
theorem o263 {a : Nat} (h1 : a < 2 ^ 18) : a < 1048576 := Mine.far (ctx := (Mine.C1 a)) 0 [(1, (.add (.var 0) (.num 1)), (.num (2 ^ 18)))] (.add (.var 0) (.num 1)) (.num 1048576) rfl h1
theorem o264 {a b : Nat} (h1 : a < 4000) (h2 : b = 4096) : a < b := Mine.far (ctx := (Mine.C2 a b)) 42 [(43, (.add (.var 0) (.num 1)), (.num 4000)), (42, (.num 4096), (.var 1))] (.add (.var 0) (.num 1)) (.var 1) rfl h1 (Nat.le_of_eq (Eq.symm h2))
theorem o265 {a b : Nat} (h1 : a < 4000) (h2 : b = 4096) : a + 1 < b := Mine.far (ctx := (Mine.C2 a b)) 42 [(43, (.add (.var 0) (.num 1)), (.num 4000)), (42, (.num 4096), (.var 1))] (.add (.add (.var 0) (.num 1)) (.num 1)) (.var 1) rfl h1 (Nat.le_of_eq (Eq.symm h2))
theorem o266 {a b : Nat} (h1 : a < b) : a + 1 + (b - (a + 1)) = b := Nat.le_antisymm (Mine.far (ctx := (Mine.C3 a (b - (a + 1)) b)) 0 [(1, (.add (.var 1) (.add (.var 0) (.num 1))), (.var 2))] (.add (.add (.var 0) (.num 1)) (.var 1)) (.var 2) rfl (Mine.omSubB (Mine.far (ctx := (Mine.C2 a b)) 0 [(1, (.add (.var 0) (.num 1)), (.var 1))] (.add (.var 0) (.num 1)) (.var 1) rfl h1))) (Mine.far (ctx := (Mine.C3 b a (b - (a + 1)))) 0 [(1, (.var 0), (.add (.var 2) (.add (.var 1) (.num 1))))] (.var 0) (.add (.add (.var 1) (.num 1)) (.var 2)) rfl (Mine.omSubA b (a + 1)))
theorem o267 {a b c : Nat} (h1 : a ≤ c) (h2 : c + 1 ≤ b) : a + 1 ≤ b := Mine.far (ctx := (Mine.C3 a b c)) 0 [(1, (.var 0), (.var 2)), (1, (.add (.var 2) (.num 1)), (.var 1))] (.add (.var 0) (.num 1)) (.var 1) rfl h1 h2
theorem o268 {a b : Nat} (h1 : a ≤ b) : a ≤ b + 1 := Mine.far (ctx := (Mine.C2 a b)) 0 [(1, (.var 0), (.var 1))] (.var 0) (.add (.var 1) (.num 1)) rfl h1
theorem o269 {a b c : Nat} (h1 : a = c) (h2 : b = c) : a = b := Nat.le_antisymm (Mine.far (ctx := (Mine.C3 a b c)) 0 [(1, (.var 0), (.var 2)), (1, (.var 2), (.var 1))] (.var 0) (.var 1) rfl (Nat.le_of_eq h1) (Nat.le_of_eq (Eq.symm h2))) (Mine.far (ctx := (Mine.C3 b a c)) 0 [(1, (.var 2), (.var 1)), (1, (.var 0), (.var 2))] (.var 0) (.var 1) rfl (Nat.le_of_eq (Eq.symm h1)) (Nat.le_of_eq h2))
theorem o270 {a b c : Nat} (h1 : c = b) (h2 : a < c) : a < b := Mine.far (ctx := (Mine.C3 a b c)) 0 [(1, (.var 2), (.var 1)), (1, (.add (.var 0) (.num 1)), (.var 2))] (.add (.var 0) (.num 1)) (.var 1) rfl (Nat.le_of_eq h1) h2
theorem o271 {a b c : Nat} (h1 : a < b) (h2 : a = b + c) : False := Mine.farF (ctx := (Mine.C3 a b c)) [(1, (.add (.var 0) (.num 1)), (.var 1)), (1, (.add (.var 1) (.var 2)), (.var 0))] rfl h1 (Nat.le_of_eq (Eq.symm h2))
theorem o272 {a b c : Nat} (h1 : a < c) (h2 : b ≤ a) : a - b < c - b := Mine.far (ctx := (Mine.C5 (a - b) (c - b) a c b)) 0 [(1, (.add (.var 2) (.num 1)), (.var 3)), (1, (.var 3), (.add (.var 1) (.var 4))), (1, (.add (.var 0) (.var 4)), (.var 2))] (.add (.var 0) (.num 1)) (.var 1) rfl h1 (Mine.omSubA c b) (Mine.omSubB (Mine.far (ctx := (Mine.C2 b a)) 0 [(1, (.var 0), (.var 1))] (.var 0) (.var 1) rfl h2))
theorem o273 {a b : Nat} (h1 : a + 20 < b) : a + 1 < b := Mine.far (ctx := (Mine.C2 a b)) 0 [(1, (.add (.add (.var 0) (.num 20)) (.num 1)), (.var 1))] (.add (.add (.var 0) (.num 1)) (.num 1)) (.var 1) rfl h1
theorem o274 {a b : Nat} (h1 : a + 20 < b) : a + 1 + 1 < b := Mine.far (ctx := (Mine.C2 a b)) 0 [(1, (.add (.add (.var 0) (.num 20)) (.num 1)), (.var 1))] (.add (.add (.add (.var 0) (.num 1)) (.num 1)) (.num 1)) (.var 1) rfl h1
theorem o275 {a b : Nat} : a + b + 1 = a + 1 + b := Nat.le_antisymm (Mine.far (ctx := (Mine.C2 a b)) 0 [] (.add (.add (.var 0) (.var 1)) (.num 1)) (.add (.add (.var 0) (.num 1)) (.var 1)) rfl ) (Mine.far (ctx := (Mine.C2 a b)) 0 [] (.add (.add (.var 0) (.num 1)) (.var 1)) (.add (.add (.var 0) (.var 1)) (.num 1)) rfl )
theorem o276 {a b c d : Nat} (h1 : b = c) (h2 : d = c) (h3 : a < d) : a < b := Mine.far (ctx := (Mine.C4 a b c d)) 0 [(1, (.var 2), (.var 1)), (1, (.var 3), (.var 2)), (1, (.add (.var 0) (.num 1)), (.var 3))] (.add (.var 0) (.num 1)) (.var 1) rfl (Nat.le_of_eq (Eq.symm h1)) (Nat.le_of_eq h2) h3
theorem o277 {a b c : Nat} (h1 : a + b < 2 ^ 20) (h2 : c = 2 ^ 24) : a + b ≤ c := Mine.far (ctx := (Mine.C3 a b c)) 15 [(16, (.add (.add (.var 0) (.var 1)) (.num 1)), (.num (2 ^ 20))), (1, (.num (2 ^ 24)), (.var 2))] (.add (.var 0) (.var 1)) (.var 2) rfl h1 (Nat.le_of_eq (Eq.symm h2))
theorem o278 {a : Nat} : ¬ a < a := Nat.not_lt_of_le (Mine.far (ctx := (Mine.C1 a)) 0 [] (.var 0) (.var 0) rfl )
theorem o279 {a : Nat} : a < a + 1 := Mine.far (ctx := (Mine.C1 a)) 0 [] (.add (.var 0) (.num 1)) (.add (.var 0) (.num 1)) rfl 
theorem o280 {a b : Nat} (h1 : a < b) : a < b + 1 := Mine.far (ctx := (Mine.C2 a b)) 0 [(1, (.add (.var 0) (.num 1)), (.var 1))] (.add (.var 0) (.num 1)) (.add (.var 1) (.num 1)) rfl h1
theorem o281 {a b c : Nat} (h1 : a = c) (h2 : c + 1 ≤ b) : a < b := Mine.far (ctx := (Mine.C3 a b c)) 0 [(1, (.var 0), (.var 2)), (1, (.add (.var 2) (.num 1)), (.var 1))] (.add (.var 0) (.num 1)) (.var 1) rfl (Nat.le_of_eq h1) h2
theorem o282 {a b c d e : Nat} (h1 : a - d = c) (h2 : e < (min b a)) (h3 : e = d) (h4 : b < a) : a - b < c := Mine.far (ctx := (Mine.C8 (a - b) c (a - d) e (min b a) d a b)) 0 [(1, (.var 2), (.var 1)), (1, (.add (.var 3) (.num 1)), (.var 4)), (1, (.var 5), (.var 3)), (1, (.var 6), (.add (.var 2) (.var 5))), (1, (.var 4), (.var 7)), (1, (.add (.var 0) (.var 7)), (.var 6))] (.add (.var 0) (.num 1)) (.var 1) rfl (Nat.le_of_eq h1) h2 (Nat.le_of_eq (Eq.symm h3)) (Mine.omSubA a d) (Nat.min_le_left b a) (Mine.omSubB (Mine.far (ctx := (Mine.C2 b a)) 0 [(1, (.add (.var 0) (.num 1)), (.var 1))] (.var 0) (.var 1) rfl h4))
theorem o283 {a b : Nat} (h1 : b < 2 ^ 18) (h2 : a = b) : a + 1 < 1048576 := Mine.far (ctx := (Mine.C2 a b)) 0 [(1, (.add (.var 1) (.num 1)), (.num (2 ^ 18))), (1, (.var 0), (.var 1))] (.add (.add (.var 0) (.num 1)) (.num 1)) (.num 1048576) rfl h1 (Nat.le_of_eq h2)
theorem o284 {a : Nat} (h1 : a ≤ 1000) : a < 524288 := Mine.far (ctx := (Mine.C1 a)) 0 [(1, (.var 0), (.num 1000))] (.add (.var 0) (.num 1)) (.num 524288) rfl h1
theorem o285 {a : Nat} (h1 : a < 2 ^ 18) : a + 1 < 1048576 := Mine.far (ctx := (Mine.C1 a)) 0 [(1, (.add (.var 0) (.num 1)), (.num (2 ^ 18)))] (.add (.add (.var 0) (.num 1)) (.num 1)) (.num 1048576) rfl h1
theorem o286 {a b c : Nat} (h1 : b ≤ c + 1) : a + b ≤ a + (c + 1) := Mine.far (ctx := (Mine.C3 a b c)) 0 [(1, (.var 1), (.add (.var 2) (.num 1)))] (.add (.var 0) (.var 1)) (.add (.var 0) (.add (.var 2) (.num 1))) rfl h1
theorem o287 {a b c d e : Nat} (h1 : a ≤ e + c) (h2 : e ≤ b + (d + 1)) : a ≤ b + (c + 1 * (d + 1)) := Mine.far (ctx := (Mine.C5 a b c d e)) 0 [(1, (.var 0), (.add (.var 4) (.var 2))), (1, (.var 4), (.add (.var 1) (.add (.var 3) (.num 1))))] (.var 0) (.add (.var 1) (.add (.var 2) (.mulL 1 (.add (.var 3) (.num 1))))) rfl h1 h2
theorem o288 {a b : Nat} (h1 : a = b) (h2 : b + (0 + 1) < 2 ^ 18) : a < 2 ^ 20 := Mine.far (ctx := (Mine.C2 a b)) 0 [(1, (.var 0), (.var 1)), (1, (.add (.add (.var 1) (.add (.num 0) (.num 1))) (.num 1)), (.num (2 ^ 18)))] (.add (.var 0) (.num 1)) (.num (2 ^ 20)) rfl (Nat.le_of_eq h1) h2
theorem o289 {a b : Nat} (h1 : a = b) (h2 : b + (0 + 1) < 2 ^ 18) : a < 1048576 := Mine.far (ctx := (Mine.C2 a b)) 0 [(1, (.var 0), (.var 1)), (1, (.add (.add (.var 1) (.add (.num 0) (.num 1))) (.num 1)), (.num (2 ^ 18)))] (.add (.var 0) (.num 1)) (.num 1048576) rfl (Nat.le_of_eq h1) h2
theorem o290 {a b : Nat} (h1 : a + 20 < b) : a + 3 + 16 < b := Mine.far (ctx := (Mine.C2 a b)) 0 [(1, (.add (.add (.var 0) (.num 20)) (.num 1)), (.var 1))] (.add (.add (.add (.var 0) (.num 3)) (.num 16)) (.num 1)) (.var 1) rfl h1
theorem o291 {a : Nat} (h1 : a < 2 ^ 19) : a < 2 ^ 20 := Mine.far (ctx := (Mine.C1 a)) 0 [(1, (.add (.var 0) (.num 1)), (.num (2 ^ 19)))] (.add (.var 0) (.num 1)) (.num (2 ^ 20)) rfl h1
theorem o292 {a b : Nat} (h1 : 2 ≤ b) (h2 : a = b) : 2 ≤ a := Mine.far (ctx := (Mine.C2 a b)) 0 [(1, (.num 2), (.var 1)), (1, (.var 1), (.var 0))] (.num 2) (.var 0) rfl h1 (Nat.le_of_eq (Eq.symm h2))
theorem o293 {a b : Nat} (h1 : b < 64) (h2 : a = b) : a < 64 := Mine.far (ctx := (Mine.C2 a b)) 0 [(1, (.add (.var 1) (.num 1)), (.num 64)), (1, (.var 0), (.var 1))] (.add (.var 0) (.num 1)) (.num 64) rfl h1 (Nat.le_of_eq h2)
theorem o294 {a b c : Nat} (h1 : 2 ≤ b) (h2 : c = b) (h3 : a = c) : 0 < a := Mine.far (ctx := (Mine.C3 a b c)) 1 [(1, (.num 2), (.var 1)), (1, (.var 1), (.var 2)), (1, (.var 2), (.var 0))] (.add (.num 0) (.num 1)) (.var 0) rfl h1 (Nat.le_of_eq (Eq.symm h2)) (Nat.le_of_eq (Eq.symm h3))
theorem o295 {a b : Nat} (h1 : a + 3 < b) : a + 1 + 2 < b := Mine.far (ctx := (Mine.C2 a b)) 0 [(1, (.add (.add (.var 0) (.num 3)) (.num 1)), (.var 1))] (.add (.add (.add (.var 0) (.num 1)) (.num 2)) (.num 1)) (.var 1) rfl h1
theorem o296 {a b : Nat} (h1 : a + 24 < b) : a + 3 + 16 < b := Mine.far (ctx := (Mine.C2 a b)) 0 [(1, (.add (.add (.var 0) (.num 24)) (.num 1)), (.var 1))] (.add (.add (.add (.var 0) (.num 3)) (.num 16)) (.num 1)) (.var 1) rfl h1
theorem o297 {a : Nat} (h1 : a + 1 + 1 < 262144) : a + 1 < 262144 := Mine.far (ctx := (Mine.C1 a)) 0 [(1, (.add (.add (.add (.var 0) (.num 1)) (.num 1)) (.num 1)), (.num 262144))] (.add (.add (.var 0) (.num 1)) (.num 1)) (.num 262144) rfl h1
theorem o298 {a : Nat} (h1 : 0 < a) : a = a - 1 + 1 := Nat.le_antisymm (Mine.far (ctx := (Mine.C2 a (a - 1))) 0 [(1, (.var 0), (.add (.var 1) (.num 1)))] (.var 0) (.add (.var 1) (.num 1)) rfl (Mine.omSubA a 1)) (Mine.far (ctx := (Mine.C2 (a - 1) a)) 0 [(1, (.add (.var 0) (.num 1)), (.var 1))] (.add (.var 0) (.num 1)) (.var 1) rfl (Mine.omSubB (Mine.far (ctx := (Mine.C1 a)) 0 [(1, (.add (.num 0) (.num 1)), (.var 0))] (.num 1) (.var 0) rfl h1)))
theorem o299 {a : Nat} : (a - 1 + 1) - 1 = a - 1 := Nat.le_antisymm (Mine.far (ctx := (Mine.C2 ((a - 1 + 1) - 1) (a - 1))) 0 [(1, (.add (.var 0) (.num 1)), (.add (.var 1) (.num 1)))] (.var 0) (.var 1) rfl (Mine.omSubB (Mine.far (ctx := (Mine.C1 (a - 1))) 0 [] (.num 1) (.add (.var 0) (.num 1)) rfl ))) (Mine.far (ctx := (Mine.C2 (a - 1) ((a - 1 + 1) - 1))) 0 [(1, (.add (.var 0) (.num 1)), (.add (.var 1) (.num 1)))] (.var 0) (.var 1) rfl (Mine.omSubA (a - 1 + 1) 1))
theorem o300 {a b : Nat} (h1 : a - 1 < b) : a ≤ b := Mine.far (ctx := (Mine.C3 a b (a - 1))) 0 [(1, (.add (.var 2) (.num 1)), (.var 1)), (1, (.var 0), (.add (.var 2) (.num 1)))] (.var 0) (.var 1) rfl h1 (Mine.omSubA a 1)
theorem o301 {a b : Nat} (h1 : a < b) : a ≤ b := Mine.far (ctx := (Mine.C2 a b)) 0 [(1, (.add (.var 0) (.num 1)), (.var 1))] (.var 0) (.var 1) rfl h1
theorem o302 {a b : Nat} (h1 : ¬ b < a) : a ≤ b := Mine.far (ctx := (Mine.C2 a b)) 0 [(1, (.var 0), (.var 1))] (.var 0) (.var 1) rfl (Nat.le_of_not_lt h1)
theorem o303 {a b : Nat} (h1 : a - b = 0) : a ≤ b := Mine.far (ctx := (Mine.C3 a b (a - b))) 0 [(1, (.var 2), (.num 0)), (1, (.var 0), (.add (.var 2) (.var 1)))] (.var 0) (.var 1) rfl (Nat.le_of_eq h1) (Mine.omSubA a b)
theorem o304 {a : Nat} : ¬ a < 0 := Nat.not_lt_of_le (Mine.far (ctx := (Mine.C1 a)) 0 [] (.num 0) (.var 0) rfl )
theorem o305 {a b c d : Nat} (h1 : a = c + d) (h2 : d ≤ b) : a ≤ b + c := Mine.far (ctx := (Mine.C4 a b c d)) 0 [(1, (.var 0), (.add (.var 2) (.var 3))), (1, (.var 3), (.var 1))] (.var 0) (.add (.var 1) (.var 2)) rfl (Nat.le_of_eq h1) h2
theorem o306 {a b c : Nat} (h1 : a ≤ b) : a ≤ b + c := Mine.far (ctx := (Mine.C3 a b c)) 0 [(1, (.var 0), (.var 1))] (.var 0) (.add (.var 1) (.var 2)) rfl h1
theorem o307 {a b c d : Nat} (h1 : a ≤ c) (h2 : b ≤ d) : a + b ≤ c + d := Mine.far (ctx := (Mine.C4 a b c d)) 0 [(1, (.var 0), (.var 2)), (1, (.var 1), (.var 3))] (.add (.var 0) (.var 1)) (.add (.var 2) (.var 3)) rfl h1 h2
theorem o308 {a b c : Nat} (h1 : b ≤ c) : a + b ≤ a + c := Mine.far (ctx := (Mine.C3 a b c)) 0 [(1, (.var 1), (.var 2))] (.add (.var 0) (.var 1)) (.add (.var 0) (.var 2)) rfl h1
theorem o309 {a : Nat} : a + 1 ≤ a + 1 := Mine.far (ctx := (Mine.C1 a)) 0 [] (.add (.var 0) (.num 1)) (.add (.var 0) (.num 1)) rfl 
theorem o310 {a b c d e : Nat} (h1 : a ≤ e + d) (h2 : e ≤ b + c) : a ≤ b + (c + d) := Mine.far (ctx := (Mine.C5 a b c d e)) 0 [(1, (.var 0), (.add (.var 4) (.var 3))), (1, (.var 4), (.add (.var 1) (.var 2)))] (.var 0) (.add (.var 1) (.add (.var 2) (.var 3))) rfl h1 h2
theorem o311 {a b c d : Nat} (h1 : b < 2 ^ 20) (h2 : c < d) (h3 : d = b) (h4 : a < c) : a < 2 ^ 62 := Mine.far (ctx := (Mine.C4 a b c d)) 0 [(1, (.add (.var 1) (.num 1)), (.num (2 ^ 20))), (1, (.add (.var 2) (.num 1)), (.var 3)), (1, (.var 3), (.var 1)), (1, (.add (.var 0) (.num 1)), (.var 2))] (.add (.var 0) (.num 1)) (.num (2 ^ 62)) rfl h1 h2 (Nat.le_of_eq h3) h4
theorem o312 {a b : Nat} (h1 : a + 8 < b) : a + 3 < b := Mine.far (ctx := (Mine.C2 a b)) 0 [(1, (.add (.add (.var 0) (.num 8)) (.num 1)), (.var 1))] (.add (.add (.var 0) (.num 3)) (.num 1)) (.var 1) rfl h1
theorem o313 {a b c : Nat} (h1 : b < 2 ^ 20) (h2 : a < c) (h3 : c = b) : a < 2 ^ 62 := Mine.far (ctx := (Mine.C3 a b c)) 0 [(1, (.add (.var 1) (.num 1)), (.num (2 ^ 20))), (1, (.add (.var 0) (.num 1)), (.var 2)), (1, (.var 2), (.var 1))] (.add (.var 0) (.num 1)) (.num (2 ^ 62)) rfl h1 h2 (Nat.le_of_eq h3)
theorem o314 {a b c d : Nat} (h1 : d ≤ b + c) (h2 : a ≤ d + 1) : a ≤ b + (c + 1) := Mine.far (ctx := (Mine.C4 a b c d)) 0 [(1, (.var 3), (.add (.var 1) (.var 2))), (1, (.var 0), (.add (.var 3) (.num 1)))] (.var 0) (.add (.var 1) (.add (.var 2) (.num 1))) rfl h1 h2
theorem o315 {a b c d : Nat} (h1 : d ≤ b) (h2 : a ≤ d + c) : a ≤ b + 1 * c := Mine.far (ctx := (Mine.C4 a b c d)) 0 [(1, (.var 3), (.var 1)), (1, (.var 0), (.add (.var 3) (.var 2)))] (.var 0) (.add (.var 1) (.mulL 1 (.var 2))) rfl h1 h2
theorem o316 {a : Nat} (h1 : ¬ 0 < a) : a = 0 := Nat.le_antisymm (Mine.far (ctx := (Mine.C1 a)) 0 [(1, (.var 0), (.num 0))] (.var 0) (.num 0) rfl (Nat.le_of_not_lt h1)) (Mine.far (ctx := (Mine.C1 a)) 0 [] (.num 0) (.var 0) rfl )
theorem o317 {a b : Nat} (h1 : a = b) (h2 : 0 < b) : 0 < a := Mine.far (ctx := (Mine.C2 a b)) 0 [(1, (.var 1), (.var 0)), (1, (.add (.num 0) (.num 1)), (.var 1))] (.add (.num 0) (.num 1)) (.var 0) rfl (Nat.le_of_eq (Eq.symm h1)) h2
theorem o318 {a : Nat} : ¬ a + 1 = a + 1 + 1 + 1 := Nat.ne_of_lt (Mine.far (ctx := (Mine.C1 a)) 0 [] (.add (.add (.var 0) (.num 1)) (.num 1)) (.add (.add (.add (.var 0) (.num 1)) (.num 1)) (.num 1)) rfl )
theorem o319 {a : Nat} : ¬ a + 1 = a + 1 + 1 := Nat.ne_of_lt (Mine.far (ctx := (Mine.C1 a)) 0 [] (.add (.add (.var 0) (.num 1)) (.num 1)) (.add (.add (.var 0) (.num 1)) (.num 1)) rfl )
theorem o320 {a : Nat} : ¬ a + 1 + 1 = a + 1 + 1 + 1 := Nat.ne_of_lt (Mine.far (ctx := (Mine.C1 a)) 0 [] (.add (.add (.add (.var 0) (.num 1)) (.num 1)) (.num 1)) (.add (.add (.add (.var 0) (.num 1)) (.num 1)) (.num 1)) rfl )
theorem o321 {a : Nat} (h1 : 211 < a) : ¬ 211 = a + 1 + 1 := Nat.ne_of_lt (Mine.far (ctx := (Mine.C1 a)) 0 [(1, (.add (.num 211) (.num 1)), (.var 0))] (.add (.num 211) (.num 1)) (.add (.add (.var 0) (.num 1)) (.num 1)) rfl h1)
theorem o322 {a : Nat} (h1 : 211 < a) : ¬ 211 = a + 1 := Nat.ne_of_lt (Mine.far (ctx := (Mine.C1 a)) 0 [(1, (.add (.num 211) (.num 1)), (.var 0))] (.add (.num 211) (.num 1)) (.add (.var 0) (.num 1)) rfl h1)
end Mine
end TOm

section TLed
open PySem PySem.W PyProof.Rows
namespace Mine
abbrev LedT := List (Addr × Obj)
/-- what the ledger bears at an address -/
noncomputable def lk : LedT → Addr → Option Obj
  | [], _ => none
  | p :: r, a => if p.1 = a then some p.2 else lk r a
/-- the ledger with another object at an address -/
noncomputable def st : LedT → Addr → Obj → LedT
  | [], a, o => [(a, o)]
  | p :: r, a, o => if p.1 = a then (a, o) :: r else p :: st r a o
def ND (G : LedT) : Prop := (G.map (·.1)).Nodup
theorem lk_st (G : LedT) (a : Addr) (o : Obj) (b : Addr) : lk (st G a o) b = if b = a then some o else lk G b := by
  induction G with
  | nil =>
    simp only [st, lk]
    by_cases h : b = a
    · simp [h]
    · have : ¬ a = b := fun e => h e.symm
      simp [h, this]
  | cons p r ih =>
    simp only [st]
    by_cases h : p.1 = a
    · simp only [if_pos h, lk]
      by_cases h2 : b = a
      · simp [h2]
      · have : ¬ a = b := fun e => h2 e.symm
        have h3 : ¬ p.1 = b := fun e => h2 (e.symm.trans h)
        simp [h2, this, h3]
    · simp only [if_neg h, lk, ih]
      by_cases h2 : b = a
      · subst h2; simp [h]
      · simp [h2]
theorem lk_st_eq {G : LedT} {a : Addr} {o : Obj} : lk (st G a o) a = some o := by simp [lk_st]
theorem lk_st_ne {G : LedT} {a b : Addr} {o x : Obj} (h : b ≠ a) (e : lk G b = some x) : lk (st G a o) b = some x := by simp [lk_st, h, e]
theorem lk_mem {G : LedT} {a : Addr} {o : Obj} (e : lk G a = some o) : (a, o) ∈ G := by
  induction G with
  | nil => cases e
  | cons p r ih =>
    simp only [lk] at e
    by_cases h : p.1 = a
    · rw [if_pos h] at e; cases e; subst h; exact .head _
    · rw [if_neg h] at e; exact .tail _ (ih e)
theorem lk_fresh {G : LedT} {a : Addr} (h : ∀ p ∈ G, p.1 < a) : lk G a = none := by
  induction G with
  | nil => rfl
  | cons p r ih =>
    have := h p (.head _)
    simp only [lk]
    rw [if_neg (Nat.ne_of_lt this)]
    exact ih fun q hq => h q (.tail _ hq)
theorem mem_lk {G : LedT} (D : ND G) {a : Addr} {o : Obj} (h : (a, o) ∈ G) : lk G a = some o := by
  induction G with
  | nil => cases h
  | cons p r ih =>
    have D' : p.1 ∉ r.map (·.1) ∧ ND r := by simpa [ND] using List.nodup_cons.mp D
    simp only [lk]
    rcases List.mem_cons.mp h with rfl | h
    · simp
    · have : p.1 ≠ a := fun e => D'.1 (e ▸ List.mem_map_of_mem (f := (·.1)) h)
      rw [if_neg this]; exact ih D'.2 h
theorem st_keys {G : LedT} {a : Addr} {o x : Obj} (e : lk G a = some x) : (st G a o).map (·.1) = G.map (·.1) := by
  induction G with
  | nil => cases e
  | cons p r ih =>
    simp only [lk] at e
    simp only [st]
    by_cases h : p.1 = a
    · simp [h]
    · rw [if_neg h] at e; simp [h, ih e]
theorem ND.st {G : LedT} {a : Addr} {o x : Obj} (D : ND G) (e : lk G a = some x) : ND (st G a o) := by unfold ND; rw [st_keys e]; exact D
theorem ND.cons {G : LedT} {a : Addr} {o : Obj} (D : ND G) (h : ∀ p ∈ G, p.1 < a) : ND ((a, o) :: G) := by
  unfold ND; rw [List.map_cons]
  refine List.nodup_cons.mpr ⟨fun hm => ?_, D⟩
  (refine Mine.e1a2 (List.mem_map.mp hm) ?_; rintro p hp e)
  exact absurd (h p hp) (e ▸ Nat.lt_irrefl _)
theorem upd_of {G : LedT} {a : Addr} {o x : Obj} (D : ND G) (e : lk G a = some x) : Upd a x o G (st G a o) := by
  induction G with
  | nil => cases e
  | cons p r ih =>
    have D' : p.1 ∉ r.map (·.1) ∧ ND r := by simpa [ND] using List.nodup_cons.mp D
    simp only [lk] at e
    simp only [Mine.st]
    by_cases h : p.1 = a
    · rw [if_pos h] at e; cases e
      obtain ⟨b, y⟩ := p
      dsimp only at h; subst h
      rw [if_pos rfl]
      refine .head fun q hq => ?_
      exact fun e => D'.1 (e ▸ List.mem_map_of_mem (f := (·.1)) hq)
    · rw [if_neg h] at e; rw [if_neg h]
      exact .tail h (ih D'.2 e)
theorem lk_cons_eq {G : LedT} {a : Addr} {o : Obj} : lk ((a, o) :: G) a = some o := by simp [lk]
theorem lk_cons_ne {G : LedT} {a b : Addr} {o x : Obj} (h : b ≠ a) (e : lk G b = some x) : lk ((a, o) :: G) b = some x := by
  have : ¬ a = b := fun q => h q.symm
  simp [lk, this, e]
theorem lk_ne {G : LedT} {a b : Addr} {o : Obj} (e : lk G b = some o) (h : lk G a = none) : b ≠ a := fun q => by rw [q, h] at e; cases e
theorem st_same {G : LedT} {a : Addr} {o : Obj} (e : lk G a = some o) : st G a o = G := by
  induction G with
  | nil => cases e
  | cons p r ih =>
    simp only [lk] at e
    simp only [Mine.st]
    by_cases h : p.1 = a
    · rw [if_pos h] at e ⊢
      cases e; subst h; rfl
    · rw [if_neg h] at e ⊢
      rw [ih e]
theorem st_st {G : LedT} {a : Addr} {o o' : Obj} : st (st G a o) a o' = st G a o' := by
  induction G with
  | nil => simp [Mine.st]
  | cons p r ih =>
    simp only [Mine.st]
    by_cases h : p.1 = a
    · rw [if_pos h, if_pos h]; simp [Mine.st]
    · rw [if_neg h, if_neg h]
      simp only [Mine.st]
      rw [if_neg h, ih]
/-- the ledger without an address -/
noncomputable def rm (G : LedT) (a : Addr) : LedT := G.filter fun p => decide (p.1 ≠ a)
theorem lk_rm {G : LedT} {a b : Addr} (h : b ≠ a) : lk (rm G a) b = lk G b := by
  induction G with
  | nil => rfl
  | cons p r ih =>
    unfold rm at ih ⊢
    rw [List.filter_cons]
    by_cases q : p.1 = a
    · have : ¬ p.1 = b := fun e => h (e.symm.trans q)
      simp only [q, ne_eq, not_true_eq_false, decide_false, Bool.false_eq_true, if_false, lk]
      rw [ih, if_neg (fun e => h e.symm)]
    · simp only [ne_eq, q, not_false_eq_true, decide_true, if_true, lk, ih]
theorem ND.rm {G : LedT} {a : Addr} (D : ND G) : ND (rm G a) := List.Nodup.sublist (List.Sublist.map _ List.filter_sublist) D
theorem mem_rm {G : LedT} {a : Addr} {p : Addr × Obj} (h : p ∈ rm G a) : p ∈ G ∧ p.1 ≠ a := by
  have := List.mem_filter.mp h
  exact ⟨this.1, by simpa using this.2⟩
end Mine
end TLed

section TCx
open PySem PySem.W PyProof.Rows PySem.Calls
namespace Mine
abbrev P : Program := PySem.Challenge.rw_oh0057_01.prog
noncomputable abbrev LS0 : List Str := looseW Mine.view [Str.ofString "_NodeInfo", Str.ofString "_SelectorContext"]
noncomputable abbrev LS : List Str := LS0 ++ (recsOf Mine.view).map (·.name) ++ (litsOf Mine.view).map (·.1) ++ (clssOf Mine.view LS0).map (·.name)
theorem dictsPush {env : Env} {outer : List Env} {h₀ gb : Heap} {m : Str → Option Value} (hf : env.frame = some env.locals) (FG : Fr h₀ env.locals gb m) (D : KtsDicts (outer.filterMap (·.frame)) h₀) : KtsDicts ((env :: outer).filterMap (·.frame)) gb := by
  intro b hb
  rw [List.filterMap_cons, hf] at hb
  rcases List.mem_cons.mp hb with rfl | hb
  · (refine Mine.e3a3 FG.ns ?_; rintro o es ep ho hd _)
    exact ⟨o, es, ep, ho, hd⟩
  · (refine Mine.e3a2 (D b hb) ?_; rintro o es n ho hd)
    exact ⟨o, es, n, FG.keep _ _ ho, hd⟩
/-- the place of a walk: the frame, the base, the ledger, and what stands of the top -/
structure Cx (w : World) (A : Around) (env : Env) (h₀ h : Heap) (m : Str → Option Value) (G : LedT) : Prop where
  B : ∃ A₀ base outer, Below A₀ base outer h₀ ∧ A.frames = some (env :: outer) ∧ (Mine.hd.heap_1 w.params).In base ∧ (∃ mean mg mb, Top topProg LS mean mg mb base) ∧ KtsDicts (outer.filterMap (·.frame)) h₀
  F : Fr h₀ env.locals h m
  N : News h₀ env.locals h G
  D : ND G
  X : (Mine.hd.heap_1 w.params).In h₀
  T : ∃ mean mg mb, Top topProg LS mean mg mb h₀
  hf : env.frame = some env.locals
  hke : env.scope.kind = .function
/-- the same place, another heap -/
abbrev Cx.Same {w : World} {A : Around} {env : Env} {h₀ h : Heap} {m : Str → Option Value} {G : LedT} (_ : Cx w A env h₀ h m G) (h' : Heap) (m' : Str → Option Value) (G' : LedT) : Prop := Cx w A env h₀ h' m' G'
noncomputable def retv : Flow → Value
  | .ret v => v
  | _ => .none
/-- what a body must bring when it leaves -/
def Leave (w : World) (A : Around) (env : Env) (h₀ : Heap) (m : Str → Option Value) (A' : Around) (env' : Env) (g : Heap) (Q : Value → Shared → Prop) (fl : Flow) (s' : Shared) : Prop :=
  ∃ m' G', Cx w A' env' g s'.heap m' G' ∧ (Cx w A env h₀ s'.heap m G' → Q (retv fl) s')
section
variable {w : World} {A : Around} {env : Env} {h₀ : Heap} {m : Str → Option Value} {G : LedT} {hp : Heap} {g : Array GenState} {d : Drawn} {tk : Nat} {os : OsState} {Q E : Value → Shared → Prop}
theorem Cx.enter {name qual : Str} {params : Arguments} {body : List Stmt} {scope : Scope} {dV kV doc pm cdv ct oc : Value} {an od : Option Addr} {osl : Array (Option Value)} {f : Addr} {args : List Value} {binds : List (Str × Value)}
    (C : Cx w A env h₀ hp m G)
    (ho : (Mine.hd.heap_1 w.params).lookup f = some ⟨oc, od, .func (fnOf name qual params body scope dV kV doc pm an cdv ct), osl⟩) (hcd : codeIn (Mine.hd.heap_1 w.params) cdv qual = true)
    (hroom : A.depth < recursionLimit)
    (hbind : BindsTo ⟨hp, g, d, tk, os⟩ (fnOf name qual params body scope dV kV doc pm an cdv ct) ⟨args, []⟩ binds) (hloc : ∀ y ∈ binds, scope.names.lookup y.1 = some .local)
    (hco : scope.isCoroutine = false) (hgen : scope.isGenerator = false) (hk : scope.kind = .function) (hcell : ∀ x ∈ scope.names, x.2 ≠ .cell)
    (h : ∀ gb L' h₁ tk', Cx w (A.deeper (envOf qual scope L' f cdv)) (envOf qual scope L' f cdv) gb h₁ (fun y => binds.reverse.lookup y) G → (∀ p ∈ G, p.1 < L') →
      wpAny (model P w) (A.deeper (envOf qual scope L' f cdv)) (execs body (envOf qual scope L' f cdv))
        (Leave w A env h₀ m (A.deeper (envOf qual scope L' f cdv)) (envOf qual scope L' f cdv) gb Q)
        (fun e s' => wpAny (model P w) (A.deeper (envOf qual scope L' f cdv)) (leaving (envOf qual scope L' f cdv) e) (fun _ s'' => E e s'') (fun e' s'' => E e' s'') s')
        ⟨h₁, g, d, tk', os⟩) :
    wpAny (model P w) A (call (.ref f) args) Q E ⟨hp, g, d, tk, os⟩ := by
  obtain ⟨⟨A₀, base, outer, B, hA, hXB, hTB, hDi⟩, F, N, D, X, ⟨mean, mg, mb, T⟩, hf, hke⟩ := C
  refine wpAny_call ?_
  have X' := X.keeps F.keep
  refine callX_plain (cl := []) B F N T.nolimit hA hf hke (X' _ _ ho) rfl (codeRec_of X' hcd) hroom hbind hloc (fun gb L' h₁ FG F' N' B' st' lt => ?_) hcell hco hgen hk
  refine wpAny_mono (h gb L' h₁ _ ⟨⟨_, _, _, B', ?_, hXB, hTB, dictsPush hf FG hDi⟩, F', N', D, X.keeps st', ⟨mean, mg, mb, T.keeps st'⟩, rfl, hk⟩ lt) (fun fl s' x => ?_) (fun _ _ x => x)
  · show (A.deeper (envOf qual scope L' f cdv)).frames = _
    rw [Around.deeper]; show A.frames.map _ = _; rw [hA]; rfl
  · (refine Mine.e2a2 x ?_; clear x; rintro m' G' C' k)
    exact leaveK_ C'.F C'.N fun kF kN => by
      have := k ⟨⟨A₀, base, outer, B, hA, hXB, hTB, hDi⟩, kF, kN, C'.D, X, ⟨mean, mg, mb, T⟩, hf, hke⟩
      cases fl <;> exact this
end
end Mine
end TCx

section TTup
open PySem PySem.W PyProof.Rows PySem.Calls
namespace Mine
/-- a tuple as it lies in the heap -/
abbrev tupOf (vs : Array Value) (n : Nat) : Obj := { cls := .type "tuple", data := .seq vs n }
abbrev Pr := Int × Int
noncomputable def plt (a b : Pr) : Bool := decide (a.1 < b.1) || (decide (a.1 = b.1) && decide (a.2 < b.2))
section
variable {prog : Program} {w : World} {A : Around} {E : Value → Shared → Prop} {s : Shared}
theorem tup_lt {a b : Addr} {x1 x2 y1 y2 : Int} {t1 t2 u1 u2 : Tok} {n k : Nat} {Q : Value → Shared → Prop}
    (ha : s.heap.get? a = some (tupOf #[.int x1 t1, .int x2 t2] n)) (hb : s.heap.get? b = some (tupOf #[.int y1 u1, .int y2 u2] k)) (hu : A.units < cLine)
    (h : Q (.bool (plt (x1, x2) (y1, y2))) s) : wpAny (model prog w) A (compareOp .Lt (.ref a) (.ref b)) Q E s := by
  show wpAny (model prog w) A (richCompare .Lt (.ref a) (.ref b)) Q E s
  have hTa : s.TypeIs (.ref a) "tuple" := ⟨_, ha, rfl⟩
  have hTb : s.TypeIs (.ref b) "tuple" := ⟨_, hb, rfl⟩
  refine wpAny_richCompare_same_room hTa hTb PySem.F.slot_tuple_lt (wpAny_call_entry PySem.F.slot_tuple_lt hTa PySem.F.entry_tuple_lt ?_ (PySem.F.args_tuple_lt_2 _ _)) hu
  show wpAny _ _ (isInstance (.ref b) (.type "tuple") >>= _) _ _ s
  refine wpAny_bind (wpAny_isInstance hTb isSubtype_tuple_tuple ?_)
  simp only [Bool.not_true, Bool.false_eq_true, if_false]
  refine wpAny_bind (wpAny_tupleItemsOf ha rfl ?_)
  refine wpAny_bind (wpAny_tupleItemsOf hb rfl ?_)
  refine wpAny_bind ?_
  show wpAny _ _ (forIn [(Value.int x1 t1, Value.int y1 u1), (Value.int x2 t2, Value.int y2 u2)] _ _) _ _ s
  rw [List.forIn_cons]
  refine wpAny_bind (wpAny_bind (wpAny_eqBool_int ?_))
  by_cases h1 : x1 = y1
  · subst h1
    rw [show (x1 == x1) = true from by simp]
    simp only [Bool.not_true, Bool.false_eq_true, if_false]
    refine wpAny_pure ?_
    dsimp only
    rw [List.forIn_cons]
    refine wpAny_bind (wpAny_bind (wpAny_eqBool_int ?_))
    by_cases h2 : x2 = y2
    · subst h2
      rw [show (x2 == x2) = true from by simp]
      simp only [Bool.not_true, Bool.false_eq_true, if_false]
      refine wpAny_pure ?_
      dsimp only
      rw [List.forIn_nil]
      have : plt (x1, x2) (x1, x2) = false := by simp [plt]
      rw [this] at h
      exact wpAny_pure (wpAny_pure ⟨.bool false, rfl, ⟨by simp, h⟩⟩)
    · rw [show (x2 == y2) = false from by simp [h2]]
      simp only [Bool.not_false, if_true]
      have : plt (x1, x2) (x1, y2) = decide (x2 < y2) := by simp [plt]
      rw [this] at h
      refine wpAny_bind (wpAny_rule (wpAny_bind (wpAny_lt_int (wpAny_bind (wpAny_pure (wpAny_pure ?_))))))
      exact wpAny_pure (wpAny_pure ⟨_, rfl, ⟨by simp, h⟩⟩)
  · rw [show (x1 == y1) = false from by simp [h1]]
    simp only [Bool.not_false, if_true]
    have : plt (x1, x2) (y1, y2) = decide (x1 < y1) := by simp [plt, h1]
    rw [this] at h
    refine wpAny_bind (wpAny_rule (wpAny_bind (wpAny_lt_int (wpAny_bind (wpAny_pure (wpAny_pure ?_))))))
    exact wpAny_pure (wpAny_pure ⟨_, rfl, ⟨by simp, h⟩⟩)
end
end Mine
end TTup

section TBase2
open PySem PySem.W PyProof.Rows PySem.Calls
namespace Mine
inductive All2 {α β : Type} (R : α → β → Prop) : List α → List β → Prop
  | nil : All2 R [] []
  | cons {a b as bs} : R a b → All2 R as bs → All2 R (a :: as) (b :: bs)
section
variable {α β : Type} {R S : α → β → Prop}
theorem All2.mono (h : ∀ a b, R a b → S a b) {as : List α} {bs : List β} (x : All2 R as bs) : All2 S as bs := by
  induction x with
  | nil => exact .nil
  | cons a _ ih => exact .cons (h _ _ a) ih
theorem All2.length {as : List α} {bs : List β} (x : All2 R as bs) : as.length = bs.length := by
  induction x with
  | nil => rfl
  | cons _ _ ih => simp [ih]
theorem All2.get {as : List α} {bs : List β} (x : All2 R as bs) : ∀ {i : Nat} {b : β}, bs[i]? = some b → ∃ a, as[i]? = some a ∧ R a b := by
  induction x with
  | nil => intro i b h; simp at h
  | cons r _ ih =>
    intro i b h
    cases i with
    | zero => simp at h; subst h; exact ⟨_, by simp, r⟩
    | succ i => simp at h; (refine Mine.e1a2 (ih h) ?_; rintro a h1 h2); exact ⟨a, by simpa using h1, h2⟩
theorem All2.getL {as : List α} {bs : List β} (x : All2 R as bs) : ∀ {i : Nat} {a : α}, as[i]? = some a → ∃ b, bs[i]? = some b ∧ R a b := by
  induction x with
  | nil => intro i b h; simp at h
  | cons r _ ih =>
    intro i b h
    cases i with
    | zero => simp at h; subst h; exact ⟨_, by simp, r⟩
    | succ i => simp at h; (refine Mine.e1a2 (ih h) ?_; rintro a h1 h2); exact ⟨a, by simpa using h1, h2⟩
theorem All2.set {as : List α} {bs : List β} (x : All2 R as bs) {a : α} {b : β} (r : R a b) : ∀ i : Nat, All2 R (as.set i a) (bs.set i b) := by
  induction x with
  | nil => intro i; exact .nil
  | cons r0 x ih =>
    intro i
    cases i with
    | zero => exact .cons r x
    | succ i => exact .cons r0 (ih i)
theorem All2.append {as as' : List α} {bs bs' : List β} (x : All2 R as bs) (y : All2 R as' bs') : All2 R (as ++ as') (bs ++ bs') := by
  induction x with
  | nil => exact y
  | cons r _ ih => exact .cons r ih
theorem All2.snoc {as : List α} {bs : List β} (x : All2 R as bs) {a : α} {b : β} (r : R a b) : All2 R (as ++ [a]) (bs ++ [b]) := x.append (.cons r .nil)
theorem All2.take {as : List α} {bs : List β} (x : All2 R as bs) : ∀ i : Nat, All2 R (as.take i) (bs.take i) := by
  induction x with
  | nil => intro i; simp; exact .nil
  | cons r0 x ih =>
    intro i
    cases i with
    | zero => exact .nil
    | succ i => exact .cons r0 (ih i)
end
/-- a value that is a pair of ints -/
def IsPr (G : LedT) (v : Value) (p : Pr) : Prop := ∃ a t1 t2 n, v = .ref a ∧ lk G a = some (tupOf #[.int p.1 t1, .int p.2 t2] n)
def IsI (v : Value) (i : Int) : Prop := ∃ t, v = .int i t
theorem ne_cls {G : LedT} {a b : Addr} {o o' : Obj} (ha : lk G a = some o) (hb : lk G b = some o') (h : o.cls ≠ o'.cls) : a ≠ b := fun e => by
  subst e; rw [ha] at hb; cases hb; exact h rfl
theorem IsPr.st {G : LedT} {v : Value} {p : Pr} {a : Addr} {o x : Obj} (h : IsPr G v p) (e : lk G a = some o) (hc : o.cls ≠ .type "tuple") : IsPr (st G a x) v p := by
  (refine Mine.e4a2 h ?_; clear h; rintro b t1 t2 n rfl hb)
  exact ⟨b, t1, t2, n, rfl, lk_st_ne (ne_cls hb e (fun q => hc q.symm)) hb⟩
section
variable {w : World} {A : Around} {env : Env} {h₀ h : Heap} {m : Str → Option Value} {G : LedT} {s : Shared} {hp : Heap} {g : Array GenState} {d : Drawn} {tk : Nat} {os : OsState} {Q E : Value → Shared → Prop}
theorem Cx.at (C : Cx w A env h₀ h m G) {a : Addr} {o : Obj} (e : lk G a = some o) : h.get? a = some o := (C.N _ (lk_mem e)).1
theorem Cx.isList (C : Cx w A env h₀ h m G) {a : Addr} {its : Array Value} {n : Nat} (e : lk G a = some (listOf its n)) : h.IsList a its := ⟨_, C.at e, rfl, n, rfl⟩
/-- an item of a list of the ledger -/
theorem Cx.item (C : Cx w A env h₀ s.heap m G) {value slice : Expr} {l : Addr} {its : Array Value} {n : Nat} {k : Int} {u : Tok} {v : Value} (hl : lk G l = some (listOf its n)) (h0 : 0 ≤ k) (hhi : k < 2 ^ 63) (hx : its.toList[k.toNat]? = some v) (h : Q v s)
    (hs : subscripted slice false (.ref l) (.int k u) = operate [.ref l, .int k u] (getItem (.ref l) (.int k u)) := by with_unfolding_all rfl) :
    wpAny (model P w) A (subscriptTail value slice (.ref l) (.int k u)) Q E s :=
  item_litK (vs := its.toList) (by rw [Array.toArray_toList]; exact C.isList hl) h0 hhi hx h hs
theorem Cx.upd (C : Cx w A env h₀ h m G) {h' : Heap} {a : Addr} {o o' : Obj} (e : lk G a = some o) (hs : Heap.SameBut a h h') (ho : h'.get? a = some o') : Cx w A env h₀ h' m (st G a o') := by
  obtain ⟨B, F, N, D, X, T, hf, hke⟩ := C
  have U := upd_of (o := o') D e
  (refine Mine.e2a4 U.split ?_; rintro pre post e1 e2 p1 p2)
  have z := N _ (lk_mem e)
  refine ⟨B, F.change hs z.2.1 z.2.2, ?_, D.st e, X, T, hf, hke⟩
  rw [e2]
  rw [e1] at N
  exact news_set N p1 p2 hs ho
/-- a store into a list of the ledger -/
theorem Cx.setItem (C : Cx w A env h₀ hp m G) {l : Addr} {its : Array Value} {n : Nat} {k : Int} {u : Tok} {v : Value} {Q : Unit → Shared → Prop} (hl : lk G l = some (listOf its n)) (h0 : 0 ≤ k) (hhi : k < 2 ^ 63) (hlt : k.toNat < its.size)
    (h : ∀ h', Cx w A env h₀ h' m (st G l (listOf (its.setIfInBounds k.toNat v) n)) → Q () ⟨h', g, d, tk, os⟩) :
    wpAny (model P w) A (PySem.setItem (.ref l) (.int k u) v) Q E ⟨hp, g, d, tk, os⟩ := by
  have ho := C.at hl
  refine ki_setAt ho h0 hhi (by omega) (h _ (C.upd hl (Heap.SameBut.update ..) ?_))
  have := Heap.get?_update_self (Obj.mapSeq (·.setIfInBounds k.toNat v)) ho (by rfl)
  rw [this]
  simp [Obj.mapSeq]
theorem Cx.itemN (C : Cx w A env h₀ s.heap m G) {value slice : Expr} {l : Addr} {its : Array Value} {n : Nat} {k : Nat} {u : Tok} {v : Value} (hl : lk G l = some (listOf its n)) (hhi : k < 2 ^ 62) (hx : its.toList[k]? = some v) (h : Q v s)
    (hs : subscripted slice false (.ref l) (.int (k : Int) u) = operate [.ref l, .int (k : Int) u] (getItem (.ref l) (.int (k : Int) u)) := by with_unfolding_all rfl) :
    wpAny (model P w) A (subscriptTail value slice (.ref l) (.int (k : Int) u)) Q E s :=
  C.item hl (by omega) (by omega) (by simpa using hx) h hs
theorem Cx.setItemN (C : Cx w A env h₀ hp m G) {l : Addr} {its : Array Value} {n : Nat} {k : Nat} {u : Tok} {v : Value} {Q : Unit → Shared → Prop} (hl : lk G l = some (listOf its n)) (hhi : k < 2 ^ 62) (hlt : k < its.size)
    (h : ∀ h', Cx w A env h₀ h' m (st G l (listOf (its.setIfInBounds k v) n)) → Q () ⟨h', g, d, tk, os⟩) :
    wpAny (model P w) A (PySem.setItem (.ref l) (.int (k : Int) u) v) Q E ⟨hp, g, d, tk, os⟩ :=
  C.setItem hl (by omega) (by omega) (by simpa using hlt) (by simpa using h)
theorem tup_ne_list {a b : Addr} {vs its : Array Value} {k n : Nat} {G : LedT} (ha : lk G a = some (tupOf vs k)) (hb : lk G b = some (listOf its n)) : a ≠ b := ne_cls ha hb (by simp)
end
end Mine
end TBase2

section TRu
open PySem PySem.W PyProof.Rows PySem.Calls
namespace Mine
noncomputable def mset (m : Str → Option Value) (x : Str) (v : Value) : Str → Option Value := fun y => if y = x then some v else m y
theorem mset_eq {m : Str → Option Value} {x : Str} {v : Value} : mset m x v x = some v := by simp [mset]
theorem mset_ne {m : Str → Option Value} {x y : Str} {v : Value} {r : Option Value} (h : y ≠ x) (e : m y = r) : mset m x v y = r := by simp [mset, h, e]
/-- all that the elder ledger bears, and all that is no iterator, stays -/
def Up (G₀ G G' : LedT) : Prop := ∀ a o, lk G a = some o → (lk G₀ a ≠ none ∨ ∀ vs, o.data ≠ .fields vs) → lk G' a = some o
theorem Up.st {G₀ G : LedT} {I : Addr} {o o' : Obj} {vs : Array Value} (h0 : lk G₀ I = none) (e : lk G I = some o) (hf : o.data = .fields vs) : Up G₀ G (st G I o') := by
  intro a x ha hor
  refine lk_st_ne (fun q => ?_) ha
  subst q
  rcases hor with h | h
  · exact h h0
  · rw [e] at ha; cases ha; exact h _ hf
theorem Up.cons {G₀ G : LedT} {I : Addr} {o : Obj} (h : lk G I = none) : Up G₀ G ((I, o) :: G) := fun _ _ ha _ => lk_cons_ne (lk_ne ha h) ha
section
variable {w : World} {A : Around} {env : Env} {h₀ h : Heap} {m : Str → Option Value} {G : LedT} {s : Shared} {hp : Heap} {g : Array GenState} {d : Drawn} {tk : Nat} {os : OsState} {Q E : Value → Shared → Prop}
theorem Cx.lt (C : Cx w A env h₀ h m G) : ∀ p ∈ G, p.1 < h.objs.size := fun p hp => Heap.lt_size (C.N p hp).1
theorem Cx.push (C : Cx w A env h₀ h m G) (o : Obj) (hf : o.isFreed = false) : Cx w A env h₀ (h.push o) m ((h.objs.size, o) :: G) :=
  ⟨C.B, C.F.push o, C.N.push C.F o hf, C.D.cons C.lt, C.X, C.T, C.hf, C.hke⟩
theorem Cx.fresh (C : Cx w A env h₀ h m G) : lk G h.objs.size = none := lk_fresh C.lt
theorem Cx.keepBut (C : Cx w A env h₀ h m G) {h' : Heap} {a : Addr} {o o' : Obj} (e : lk G a = some o) (hk : ∀ b x, b ≠ a → h.get? b = some x → h'.get? b = some x) (ho : h'.get? a = some o') : Cx w A env h₀ h' m (Mine.st G a o') := by
  obtain ⟨B, F, N, D, X, T, hf, hke⟩ := C
  have z := N _ (lk_mem e)
  refine ⟨B, ⟨?_, fun b x q => ?_, F.above⟩, fun p hp => ?_, D.st e, X, T, hf, hke⟩
  · (refine Mine.e3a2 F.ns ?_; rintro oL es ep hL r)
    exact ⟨oL, es, ep, hk _ _ (fun q => z.2.1 q.symm) hL, r⟩
  · refine hk b x (fun q => ?_) (F.keep b x q)
    subst q; rw [z.2.2] at q; cases q
  · have hp' := mem_lk (D.st (o := o') e) (a := p.1) (o := p.2) hp
    rw [lk_st] at hp'
    by_cases q : p.1 = a
    · rw [if_pos q] at hp'
      have := Option.some.inj hp'
      refine ⟨by rw [q, ho, this], ?_, ?_⟩
      · rw [q]; exact z.2.1
      · rw [q]; exact z.2.2
    · rw [if_neg q] at hp'
      have n := N _ (lk_mem hp')
      exact ⟨hk _ _ q n.1, n.2⟩
theorem Cx.mstore (C : Cx w A env h₀ h m G) {h' : Heap} {m' : Str → Option Value} (hn : h'.Ns env.locals m') (hs : Heap.SameBut env.locals h h') : Cx w A env h₀ h' m' G :=
  ⟨C.B, C.F.set hn hs, C.N.set hs, C.D, C.X, C.T, C.hf, C.hke⟩
/-- a store into a name of the frame -/
theorem Cx.store (C : Cx w A env h₀ hp m G) {x : Str} {v : Value} {Q : Unit → Shared → Prop} (h : ∀ h' tk', Cx w A env h₀ h' (mset m x v) G → Q () ⟨h', g, d, tk', os⟩)
    (hl : env.kindOf x = some .local := by rfl) : wpAny (model P w) A (storeName env x v) Q E ⟨hp, g, d, tk, os⟩ :=
  wpAny_storeName_local hl C.F.ns (fun h' hn hs => h h' _ (C.mstore hn hs)) (by rw [C.hke]; rfl)
theorem Cx.name (C : Cx w A env h₀ s.heap m G) {x : Str} {pos : Pos} {v : Value} (hv : m x = some v) (h : Q v s)
    (hl : env.kindOf x = some .local := by rfl) (hd : (x == ("__debug__" : Str)) = false := by decide) : wpAny (model P w) A (eval (.Name x pos) env) Q E s :=
  wpAny_Name (wpAny_loadName_local C.hke hl C.F.ns hv h) hd
/-- the call of a def that never raises -/
theorem Cx.enterF {name qual : Str} {params : Arguments} {body : List Stmt} {scope : Scope} {dV kV doc pm cdv ct oc : Value} {an od : Option Addr} {osl : Array (Option Value)} {f : Addr} {args : List Value} {binds : List (Str × Value)}
    (C : Cx w A env h₀ hp m G)
    (ho : (Mine.hd.heap_1 w.params).lookup f = some ⟨oc, od, .func (fnOf name qual params body scope dV kV doc pm an cdv ct), osl⟩) (hcd : codeIn (Mine.hd.heap_1 w.params) cdv qual = true)
    (hroom : A.depth < recursionLimit)
    (hbind : BindsTo ⟨hp, g, d, tk, os⟩ (fnOf name qual params body scope dV kV doc pm an cdv ct) ⟨args, []⟩ binds) (hloc : ∀ y ∈ binds, scope.names.lookup y.1 = some .local)
    (hco : scope.isCoroutine = false) (hgen : scope.isGenerator = false) (hk : scope.kind = .function) (hcell : ∀ x ∈ scope.names, x.2 ≠ .cell)
    (h : ∀ gb L' h₁ tk', Cx w (A.deeper (envOf qual scope L' f cdv)) (envOf qual scope L' f cdv) gb h₁ (fun y => binds.reverse.lookup y) G → (∀ p ∈ G, p.1 < L') →
      wpAny (model P w) (A.deeper (envOf qual scope L' f cdv)) (execs body (envOf qual scope L' f cdv))
        (Leave w A env h₀ m (A.deeper (envOf qual scope L' f cdv)) (envOf qual scope L' f cdv) gb Q)
        (fun _ _ => False) ⟨h₁, g, d, tk', os⟩) :
    wpAny (model P w) A (call (.ref f) args) Q E ⟨hp, g, d, tk, os⟩ :=
  C.enter ho hcd hroom hbind hloc hco hgen hk hcell fun gb L' h₁ tk' C' lt => wpAny_mono (h gb L' h₁ tk' C' lt) (fun _ _ x => x) fun _ _ x => x.elim
/-- a while's turn has ended -/
def WStep (w : World) (A : Around) (env : Env) (h₀ : Heap) (g : Array GenState) (d : Drawn) (os : OsState) (J : Nat → (Str → Option Value) → LedT → Prop) (Q : Flow → Shared → Prop) (n : Nat) (f : Flow) (s₂ : Shared) : Prop :=
  match f with
  | .ret v => Q (.ret v) s₂
  | .brk => Q .next s₂
  | _ => ∃ h' tk m' G' n', s₂ = ⟨h', g, d, tk, os⟩ ∧ Cx w A env h₀ h' m' G' ∧ n' < n ∧ J n' m' G'
theorem Cx.while_ {test : Expr} {body orelse : List Stmt} {pos : Pos} {Q : Flow → Shared → Prop} (J : Nat → (Str → Option Value) → LedT → Prop) {n₀ : Nat}
    (C : Cx w A env h₀ hp m G) (hJ : J n₀ m G)
    (turn : ∀ n m₁ G₁ h₁ tk₁, Cx w A env h₀ h₁ m₁ G₁ → J n m₁ G₁ →
      wpAny (model P w) A (isTrue test env (eval test env)) (fun b s₂ =>
        if b = true then wpAny (model P w) A (execs body env) (WStep w A env h₀ g d os J Q n) (fun _ _ => False) s₂ else wpAny (model P w) A (execs orelse env) Q (fun _ _ => False) s₂) (fun _ _ => False) ⟨h₁, g, d, tk₁, os⟩) :
    wpAny (model P w) A (exec (.While test body orelse pos) env) Q E ⟨hp, g, d, tk, os⟩ := by
  refine wpAny_While (codeAny_whileLoop (fun n s' => ∃ h₁ tk₁ m₁ G₁, s' = ⟨h₁, g, d, tk₁, os⟩ ∧ Cx w A env h₀ h₁ m₁ G₁ ∧ J n m₁ G₁) ?_ n₀ ⟨hp, tk, m, G, rfl, C, hJ⟩)
  rintro n s' hZ1
  (refine Mine.e4a3 hZ1 ?_; clear hZ1; rintro h₁ tk₁ m₁ G₁ rfl C₁ J₁)
  refine wpAny_mono (turn n m₁ G₁ h₁ tk₁ C₁ J₁) (fun b s₂ h₂ => ?_) fun _ _ x => x.elim
  cases b with
  | false =>
    simp only [Bool.false_eq_true, if_false] at h₂ ⊢
    exact wpAny_mono h₂ (fun _ _ x => x) fun _ _ x => x.elim
  | true =>
    simp only [if_true] at h₂ ⊢
    refine wpAny_mono h₂ (fun f s₃ h₃ => ?_) fun _ _ x => x.elim
    cases f with
    | next =>
      (refine Mine.e5a4 h₃ ?_; clear h₃; rintro h' tk m₂ G₂ n' rfl C₂ hn J₂)
      exact ⟨n', hn, h', tk, m₂, G₂, rfl, C₂, J₂⟩
    | cont =>
      (refine Mine.e5a4 h₃ ?_; clear h₃; rintro h' tk m₂ G₂ n' rfl C₂ hn J₂)
      exact ⟨n', hn, h', tk, m₂, G₂, rfl, C₂, J₂⟩
    | brk => exact h₃
    | ret v => exact h₃
/-- a for's turn has ended -/
def FStep (w : World) (A : Around) (env : Env) (h₀ : Heap) (g : Array GenState) (d : Drawn) (os : OsState) (I : Addr) (oI : Obj) (J : (Str → Option Value) → LedT → Prop) (R : Result → Shared → Prop) (f : Flow) (s₂ : Shared) : Prop :=
  match f with
  | .ret v => R (.ok (.ret v)) s₂
  | .brk => R (.ok .next) s₂
  | _ => ∃ h' tk m' G', s₂ = ⟨h', g, d, tk, os⟩ ∧ Cx w A env h₀ h' m' G' ∧ lk G' I = some oI ∧ J m' G'
theorem Cx.loop {x : Str} {px : Pos} {body : List Stmt} {R : Result → Shared → Prop} {I : Addr} {fp : List Addr} {n : Nat} {Pv : Nat → Value → Prop} {St : Nat → Heap → Prop} {G₀ : LedT}
    (W : Walks P w A I fp [I] n Pv St) (J : Nat → (Str → Option Value) → LedT → Prop)
    (hI : ∀ i h, St i h → ∃ o vs, h.get? I = some o ∧ o.data = .fields vs)
    (hfp : ∀ b ∈ fp, b = I ∨ ∃ ob, ∀ i m₁ G₁, J i m₁ G₁ → lk G₁ b = some ob)
    (hx : env.kindOf x = some .local) (h0 : lk G₀ I = none)
    (C : Cx w A env h₀ hp m G) (hJ : J 0 m G) (hSt : St 0 hp) (hin : ∃ o, lk G I = some o)
    (mono : ∀ i m₁ G₁ G₂, J i m₁ G₁ → Up G₀ G₁ G₂ → J i m₁ G₂)
    (turn : ∀ i v m₁ G₁ h₁ tk₁ oI, i < n → Pv i v → J i m₁ G₁ → Cx w A env h₀ h₁ (mset m₁ x v) G₁ → lk G₁ I = some oI → (∃ vs, oI.data = .fields vs) →
      wpAny (model P w) A (execs body env) (FStep w A env h₀ g d os I oI (J (i + 1)) R) (fun _ _ => False) ⟨h₁, g, d, tk₁, os⟩)
    (done : ∀ m₁ G₁ h₁ tk₁, J n m₁ G₁ → Cx w A env h₀ h₁ m₁ G₁ → R (.ok .next) ⟨h₁, g, d, tk₁, os⟩) :
    codeAny (model P w) A (.forLoop (.Name x px) (.ref I) body [] env) R ⟨hp, g, d, tk, os⟩ := by
  refine codeAny_forLoop_any (fun k s' => ∃ h' tk m' G' i, s' = ⟨h', g, d, tk, os⟩ ∧ Cx w A env h₀ h' m' G' ∧ J i m' G' ∧ St i h' ∧ (∃ o, lk G' I = some o) ∧ i ≤ n ∧ k = n + 1 - i) ?_ (n + 1)
    ⟨hp, tk, m, G, 0, rfl, C, hJ, hSt, hin, Nat.zero_le _, rfl⟩
  rintro k s' hZ2
  (refine Mine.e5a7 hZ2 ?_; clear hZ2; rintro h' tkx m' G' i rfl C' hJ' hSt' ⟨o', ho'⟩ hi rfl)
  have upd : ∀ {h₂ : Heap} {o₂ : Obj}, (∀ b o, b ∉ [I] → h'.get? b = some o → h₂.get? b = some o) → h₂.get? I = some o₂ → Cx w A env h₀ h₂ m' (Mine.st G' I o₂) := fun hk ho => C'.keepBut ho' (fun b x hb e => hk b x (by simpa using hb) e) ho
  have f' : ∃ vs, o'.data = .fields vs := by
    (refine Mine.e2a2 (hI _ _ hSt') ?_; rintro o vs e1 e2)
    have := C'.at ho'
    rw [e1] at this
    cases this
    exact ⟨vs, e2⟩
  obtain ⟨vs', hvs'⟩ := f'
  by_cases hlt : i < n
  · refine W.item i _ _ _ hlt hSt' fun v h₂ tk₂ hv hSt₂ hk => ?_
    (refine Mine.e2a2 (hI _ _ hSt₂) ?_; rintro o₂ vs₂ e1 e2)
    have C₂ := upd hk e1
    have J₂ := mono _ _ _ _ hJ' (Up.st (o' := o₂) h0 ho' hvs')
    dsimp only
    show wpAny _ _ (letOwnedTupleGo (.Name x px) (.ref I) v) _ _ _
    refine wpAny_pure ?_
    show wpAny _ _ (assign (.Name x px) env v) _ _ _
    refine wpAny_assign_Name (C₂.store (fun h₃ tk₃ C₃ => ?_) hx)
    refine wpAny_mono (turn i v m' _ h₃ _ o₂ hlt hv J₂ C₃ lk_st_eq ⟨_, e2⟩) (fun f s₃ hs₃ => ?_) fun _ _ z => z.elim
    have fin : (∃ h' tk m₃ G₃, s₃ = ⟨h', g, d, tk, os⟩ ∧ Cx w A env h₀ h' m₃ G₃ ∧ lk G₃ I = some o₂ ∧ J (i + 1) m₃ G₃) → ∃ m, m < n + 1 - i ∧ ∃ h' tk m' G' i, s₃ = ⟨h', g, d, tk, os⟩ ∧ Cx w A env h₀ h' m' G' ∧ J i m' G' ∧ St i h' ∧ (∃ o, lk G' I = some o) ∧ i ≤ n ∧ m = n + 1 - i := by
      rintro hZ3
      (refine Mine.e4a4 hZ3 ?_; clear hZ3; rintro h₄ tk₄ m₄ G₄ e C₄ hI₄ hJ₄)
      refine ⟨n + 1 - (i + 1), by (exact Mine.o163 hlt), h₄, tk₄, m₄, G₄, i + 1, e, C₄, hJ₄, ?_, ⟨_, hI₄⟩, hlt, rfl⟩
      refine W.frame _ _ _ hSt₂ fun b hb o hbo => ?_
      rcases hfp b hb with rfl | ⟨ob, hob⟩
      · rw [e1] at hbo; cases hbo; exact C₄.at hI₄
      · have a1 := C₂.at (hob _ _ _ J₂)
        rw [a1] at hbo; cases hbo
        exact C₄.at (hob _ _ _ hJ₄)
    cases f with
    | next => exact fin hs₃
    | cont => exact fin hs₃
    | brk => exact hs₃
    | ret v => exact hs₃
  · have : i = n := Mine.o113 hi hlt
    subst this
    refine W.done _ _ _ hSt' fun h₂ tk₂ hk => ?_
    dsimp only
    refine wpAny_execs_nil ?_
    have hk' : ∀ b o, b ≠ I → h'.get? b = some o → h₂.get? b = some o := fun b o hb e => hk b o (by simpa using hb) e
    have z := C'.N _ (lk_mem ho')
    refine done m' (rm G' I) h₂ tk₂ (mono _ _ _ _ hJ' fun a o ha hor => ?_) ⟨C'.B, ⟨?_, fun b x q => ?_, C'.F.above⟩, fun p hp => ?_, C'.D.rm, C'.X, C'.T, C'.hf, C'.hke⟩
    · rw [lk_rm]
      · exact ha
      · intro q; subst q
        rcases hor with h | h
        · exact h h0
        · rw [ho'] at ha; cases ha; exact h _ hvs'
    · (refine Mine.e3a2 C'.F.ns ?_; rintro oL es ep hL r)
      exact ⟨oL, es, ep, hk' _ _ (fun q => z.2.1 q.symm) hL, r⟩
    · refine hk' b x (fun q => ?_) (C'.F.keep b x q)
      subst q; rw [z.2.2] at q; cases q
    · obtain ⟨h1, h2⟩ := mem_rm hp
      exact ⟨hk' _ _ h2 (C'.N p h1).1, (C'.N p h1).2⟩
end
end Mine
end TRu

section TFor
open PySem PySem.W PyProof.Rows PySem.Calls
namespace Mine
section
variable {w : World} {A : Around} {env : Env} {h₀ h : Heap} {m : Str → Option Value} {G : LedT} {s : Shared} {hp : Heap} {g : Array GenState} {d : Drawn} {tk : Nat} {os : OsState} {Q E : Value → Shared → Prop}
theorem Cx.isTuple (C : Cx w A env h₀ h m G) {a : Addr} {its : Array Value} {n : Nat} (e : lk G a = some (tupOf its n)) : h.IsTuple a its := ⟨_, C.at e, rfl, n, rfl⟩
theorem Cx.for_list {x : Str} {px : Pos} {body : List Stmt} {R : Result → Shared → Prop} {l : Addr} {its : Array Value} {n : Nat} (C : Cx w A env h₀ hp m G) (J : Nat → (Str → Option Value) → LedT → Prop)
    (hh : A.handled = none) (hJ : J 0 m G) (hl : ∀ i m₁ G₁, J i m₁ G₁ → lk G₁ l = some (listOf its n)) (hx : env.kindOf x = some .local)
    (mono : ∀ i m₁ G₁ G₂, J i m₁ G₁ → Up G G₁ G₂ → J i m₁ G₂)
    (turn : ∀ i v m₁ G₁ h₁ tk₁ I oI, its.toList[i]? = some v → J i m₁ G₁ → Cx w A env h₀ h₁ (mset m₁ x v) G₁ → lk G₁ I = some oI → (∃ vs, oI.data = .fields vs) → lk G I = none →
      wpAny (model P w) A (execs body env) (FStep w A env h₀ g d os I oI (J (i + 1)) R) (fun _ _ => False) ⟨h₁, g, d, tk₁, os⟩)
    (done : ∀ m₁ G₁ h₁ tk₁, J its.toList.length m₁ G₁ → Cx w A env h₀ h₁ m₁ G₁ → R (.ok .next) ⟨h₁, g, d, tk₁, os⟩) :
    wpAny (model P w) A (pyIter (.ref l)) (fun it s₂ => codeAny (model P w) A (.forLoop (.Name x px) it body [] env) R s₂) E ⟨hp, g, d, tk, os⟩ := by
  have hl0 := hl _ _ _ hJ
  have hL := C.isList hl0
  refine wpAny_pyIter_list hL ?_
  have hne : l ≠ hp.objs.size := Nat.ne_of_lt (Heap.lt_size (C.at hl0))
  have W := Walks.list (prog := P) (w := w) hh hp.objs.size l hne its
  have C' := C.push { cls := .type "list_iterator", data := .fields #[.ref l, .int 0 0] } rfl
  refine Cx.loop (G₀ := G) W J (fun i h st => ?_) (fun b hb => ?_) hx C.fresh C' (mono _ _ _ _ hJ (Up.cons C.fresh)) ⟨⟨_, Heap.get?_push_size _ rfl, rfl, rfl⟩, C'.isList (lk_cons_ne hne hl0)⟩ ⟨_, lk_cons_eq⟩ mono
    (fun i v m₁ G₁ h₁ tk₁ oI hi hv hJ₁ C₁ hI hf => turn i v m₁ G₁ h₁ tk₁ _ oI (by simpa using hv) hJ₁ C₁ hI hf C.fresh) (fun m₁ G₁ h₁ tk₁ hJ₁ C₁ => done m₁ G₁ h₁ tk₁ (by simpa using hJ₁) C₁)
  · obtain ⟨⟨o, ho, _, hd⟩, _⟩ := st
    exact ⟨o, _, ho, hd⟩
  · rcases List.mem_cons.mp hb with rfl | hb
    · exact .inl rfl
    · rw [List.mem_singleton.mp hb]; exact .inr ⟨_, hl⟩
theorem Cx.for_tuple {x : Str} {px : Pos} {body : List Stmt} {R : Result → Shared → Prop} {l : Addr} {its : Array Value} {n : Nat} (C : Cx w A env h₀ hp m G) (J : Nat → (Str → Option Value) → LedT → Prop)
    (hh : A.handled = none) (hJ : J 0 m G) (hl : ∀ i m₁ G₁, J i m₁ G₁ → lk G₁ l = some (tupOf its n)) (hx : env.kindOf x = some .local)
    (mono : ∀ i m₁ G₁ G₂, J i m₁ G₁ → Up G G₁ G₂ → J i m₁ G₂)
    (turn : ∀ i v m₁ G₁ h₁ tk₁ I oI, its.toList[i]? = some v → J i m₁ G₁ → Cx w A env h₀ h₁ (mset m₁ x v) G₁ → lk G₁ I = some oI → (∃ vs, oI.data = .fields vs) → lk G I = none →
      wpAny (model P w) A (execs body env) (FStep w A env h₀ g d os I oI (J (i + 1)) R) (fun _ _ => False) ⟨h₁, g, d, tk₁, os⟩)
    (done : ∀ m₁ G₁ h₁ tk₁, J its.toList.length m₁ G₁ → Cx w A env h₀ h₁ m₁ G₁ → R (.ok .next) ⟨h₁, g, d, tk₁, os⟩) :
    wpAny (model P w) A (pyIter (.ref l)) (fun it s₂ => codeAny (model P w) A (.forLoop (.Name x px) it body [] env) R s₂) E ⟨hp, g, d, tk, os⟩ := by
  have hl0 := hl _ _ _ hJ
  have hL := C.isTuple hl0
  refine wpAny_pyIter_tuple hL ?_
  have hne : l ≠ hp.objs.size := Nat.ne_of_lt (Heap.lt_size (C.at hl0))
  have W := Walks.tuple (prog := P) (w := w) hh hp.objs.size l hne its
  have C' := C.push { cls := .type "tuple_iterator", data := .fields #[.ref l, .int 0 0] } rfl
  refine Cx.loop (G₀ := G) W J (fun i h st => ?_) (fun b hb => ?_) hx C.fresh C' (mono _ _ _ _ hJ (Up.cons C.fresh)) ⟨⟨_, Heap.get?_push_size _ rfl, rfl, rfl⟩, C'.isTuple (lk_cons_ne hne hl0)⟩ ⟨_, lk_cons_eq⟩ mono
    (fun i v m₁ G₁ h₁ tk₁ oI hi hv hJ₁ C₁ hI hf => turn i v m₁ G₁ h₁ tk₁ _ oI (by simpa using hv) hJ₁ C₁ hI hf C.fresh) (fun m₁ G₁ h₁ tk₁ hJ₁ C₁ => done m₁ G₁ h₁ tk₁ (by simpa using hJ₁) C₁)
  · obtain ⟨⟨o, ho, _, hd⟩, _⟩ := st
    exact ⟨o, _, ho, hd⟩
  · rcases List.mem_cons.mp hb with rfl | hb
    · exact .inl rfl
    · rw [List.mem_singleton.mp hb]; exact .inr ⟨_, hl⟩
/-- for x in range(n) -/
theorem Cx.for_range {x : Str} {px : Pos} {body : List Stmt} {R : Result → Shared → Prop} {r : Addr} {n : Nat} {t u v : Tok} (C : Cx w A env h₀ hp m G) (J : Nat → (Str → Option Value) → LedT → Prop)
    (hh : A.handled = none) (hr : IsRange hp r 0 (n : Int) 1 t u v) (hn : n < 2 ^ 20) (hJ : J 0 m G) (hx : env.kindOf x = some .local)
    (mono : ∀ i m₁ G₁ G₂, J i m₁ G₁ → Up G G₁ G₂ → J i m₁ G₂)
    (turn : ∀ i tv m₁ G₁ h₁ tk₁ I oI, i < n → J i m₁ G₁ → Cx w A env h₀ h₁ (mset m₁ x (.int (i : Int) tv)) G₁ → lk G₁ I = some oI → (∃ vs, oI.data = .fields vs) → lk G I = none →
      wpAny (model P w) A (execs body env) (FStep w A env h₀ g d os I oI (J (i + 1)) R) (fun _ _ => False) ⟨h₁, g, d, tk₁, os⟩)
    (done : ∀ m₁ G₁ h₁ tk₁, J n m₁ G₁ → Cx w A env h₀ h₁ m₁ G₁ → R (.ok .next) ⟨h₁, g, d, tk₁, os⟩) :
    wpAny (model P w) A (pyIter (.ref r)) (fun it s₂ => codeAny (model P w) A (.forLoop (.Name x px) it body [] env) R s₂) E ⟨hp, g, d, tk, os⟩ := by
  have hsz : Builtin.Range.rangeSize 0 (n : Int) 1 = n := by simp [Builtin.Range.rangeSize]; omega
  have hsm : Builtin.Range.small 0 (n : Int) 1 = true := by
    exact small_one (by omega) (by omega) (by omega) (by omega)
  refine wpAny_pyIter_range hr hsm ?_
  rw [hsz]
  have W := Walks.range (prog := P) (w := w) hh hp.objs.size 0 1 n
  have C' := C.push { cls := .type "range_iterator", data := .fields #[rawInt 0, rawInt n, rawInt 1] } rfl
  refine Cx.loop (G₀ := G) W J (fun i h st => ⟨_, _, st, rfl⟩) (fun b hb => .inl (List.mem_singleton.mp hb)) hx C.fresh C' (mono _ _ _ _ hJ (Up.cons C.fresh)) ?_ ⟨_, lk_cons_eq⟩ mono
    (fun i v m₁ G₁ h₁ tk₁ oI hi hv hJ₁ C₁ hI hf => ?_) done
  · show IsRangeIter _ _ _ _ _
    unfold IsRangeIter
    rw [C'.at lk_cons_eq]
    simp [rawInt]
  · obtain ⟨tv, rfl⟩ := hv
    refine turn i tv m₁ G₁ h₁ tk₁ _ oI hi hJ₁ ?_ hI hf C.fresh
    simpa using C₁
end
end Mine
end TFor

section TGl
open PySem PySem.W PyProof.Rows PySem.Calls
set_option maxRecDepth 100000
namespace Mine
theorem g_NodeInfo (w : World) : nsIn (Mine.hd.heap_1 w.params) mainGlobals (Str.ofString "_NodeInfo") = some (some (.ref 40)) := by kernel_rfl
theorem kp_40 (w : World) : keepIn (Mine.hd.heap_1 w.params) (.ref 40) = true := by kernel_rfl
theorem g_CycleError (w : World) : nsIn (Mine.hd.heap_1 w.params) mainGlobals (Str.ofString "CycleError") = some (some (.ref 55)) := by kernel_rfl
theorem g_TopologicalSorter (w : World) : nsIn (Mine.hd.heap_1 w.params) mainGlobals (Str.ofString "TopologicalSorter") = some (some (.ref 137)) := by kernel_rfl
theorem kp_137 (w : World) : keepIn (Mine.hd.heap_1 w.params) (.ref 137) = true := by kernel_rfl
theorem g_heappush (w : World) : nsIn (Mine.hd.heap_1 w.params) mainGlobals (Str.ofString "heappush") = some (some (.ref 148)) := by kernel_rfl
theorem kp_148 (w : World) : keepIn (Mine.hd.heap_1 w.params) (.ref 148) = true := by kernel_rfl
theorem g_heappop (w : World) : nsIn (Mine.hd.heap_1 w.params) mainGlobals (Str.ofString "heappop") = some (some (.ref 155)) := by kernel_rfl
theorem kp_155 (w : World) : keepIn (Mine.hd.heap_1 w.params) (.ref 155) = true := by kernel_rfl
theorem g_siftdown (w : World) : nsIn (Mine.hd.heap_1 w.params) mainGlobals (Str.ofString "_siftdown") = some (some (.ref 162)) := by kernel_rfl
theorem kp_162 (w : World) : keepIn (Mine.hd.heap_1 w.params) (.ref 162) = true := by kernel_rfl
theorem g_siftup (w : World) : nsIn (Mine.hd.heap_1 w.params) mainGlobals (Str.ofString "_siftup") = some (some (.ref 169)) := by kernel_rfl
theorem kp_169 (w : World) : keepIn (Mine.hd.heap_1 w.params) (.ref 169) = true := by kernel_rfl
theorem g_get_parent_map (w : World) : nsIn (Mine.hd.heap_1 w.params) mainGlobals (Str.ofString "get_parent_map") = some (some (.ref 176)) := by kernel_rfl
theorem kp_176 (w : World) : keepIn (Mine.hd.heap_1 w.params) (.ref 176) = true := by kernel_rfl
theorem g_SelectorContext (w : World) : nsIn (Mine.hd.heap_1 w.params) mainGlobals (Str.ofString "_SelectorContext") = some (some (.ref 193)) := by kernel_rfl
theorem kp_193 (w : World) : keepIn (Mine.hd.heap_1 w.params) (.ref 193) = true := by kernel_rfl
theorem g_law_needs (w : World) : nsIn (Mine.hd.heap_1 w.params) mainGlobals (Str.ofString "_law_needs") = some (some (.ref 202)) := by kernel_rfl
theorem kp_202 (w : World) : keepIn (Mine.hd.heap_1 w.params) (.ref 202) = true := by kernel_rfl
theorem g_law_run (w : World) : nsIn (Mine.hd.heap_1 w.params) mainGlobals (Str.ofString "_law_run") = some (some (.ref 209)) := by kernel_rfl
theorem kp_209 (w : World) : keepIn (Mine.hd.heap_1 w.params) (.ref 209) = true := by kernel_rfl
theorem g_law_table (w : World) : nsIn (Mine.hd.heap_1 w.params) mainGlobals (Str.ofString "_law_table") = some (some (.ref 216)) := by kernel_rfl
theorem kp_216 (w : World) : keepIn (Mine.hd.heap_1 w.params) (.ref 216) = true := by kernel_rfl
theorem g_law_ends (w : World) : nsIn (Mine.hd.heap_1 w.params) mainGlobals (Str.ofString "_law_ends") = some (some (.ref 221)) := by kernel_rfl
theorem kp_221 (w : World) : keepIn (Mine.hd.heap_1 w.params) (.ref 221) = true := by kernel_rfl
theorem g_law_due (w : World) : nsIn (Mine.hd.heap_1 w.params) mainGlobals (Str.ofString "_law_due") = some (some (.ref 226)) := by kernel_rfl
theorem kp_226 (w : World) : keepIn (Mine.hd.heap_1 w.params) (.ref 226) = true := by kernel_rfl
theorem kp_80 (w : World) : keepIn (Mine.hd.heap_1 w.params) (.ref 80) = true := by kernel_rfl
theorem kp_87 (w : World) : keepIn (Mine.hd.heap_1 w.params) (.ref 87) = true := by kernel_rfl
theorem kp_92 (w : World) : keepIn (Mine.hd.heap_1 w.params) (.ref 92) = true := by kernel_rfl
theorem kp_99 (w : World) : keepIn (Mine.hd.heap_1 w.params) (.ref 99) = true := by kernel_rfl
theorem kp_106 (w : World) : keepIn (Mine.hd.heap_1 w.params) (.ref 106) = true := by kernel_rfl
theorem kp_120 (w : World) : keepIn (Mine.hd.heap_1 w.params) (.ref 120) = true := by kernel_rfl
theorem kp_127 (w : World) : keepIn (Mine.hd.heap_1 w.params) (.ref 127) = true := by kernel_rfl
theorem g_NODE_OUT (w : World) : nsIn (Mine.hd.heap_1 w.params) mainGlobals (Str.ofString "_NODE_OUT") = some (some (.int (-1) 197)) := by kernel_rfl
theorem g_NODE_DONE (w : World) : nsIn (Mine.hd.heap_1 w.params) mainGlobals (Str.ofString "_NODE_DONE") = some (some (.int (-2) 200)) := by kernel_rfl
theorem n_len (w : World) : nsIn (Mine.hd.heap_1 w.params) mainGlobals (Str.ofString "len") = some none := by kernel_rfl
theorem n_range (w : World) : nsIn (Mine.hd.heap_1 w.params) mainGlobals (Str.ofString "range") = some none := by kernel_rfl
theorem n_max (w : World) : nsIn (Mine.hd.heap_1 w.params) mainGlobals (Str.ofString "max") = some none := by kernel_rfl
theorem n_sorted (w : World) : nsIn (Mine.hd.heap_1 w.params) mainGlobals (Str.ofString "sorted") = some none := by kernel_rfl
theorem n_tuple (w : World) : nsIn (Mine.hd.heap_1 w.params) mainGlobals (Str.ofString "tuple") = some none := by kernel_rfl
theorem n_list (w : World) : nsIn (Mine.hd.heap_1 w.params) mainGlobals (Str.ofString "list") = some none := by kernel_rfl
theorem n_abs (w : World) : nsIn (Mine.hd.heap_1 w.params) mainGlobals (Str.ofString "abs") = some none := by kernel_rfl
theorem n_set (w : World) : nsIn (Mine.hd.heap_1 w.params) mainGlobals (Str.ofString "set") = some none := by kernel_rfl
theorem n_iter (w : World) : nsIn (Mine.hd.heap_1 w.params) mainGlobals (Str.ofString "iter") = some none := by kernel_rfl
theorem n_bool (w : World) : nsIn (Mine.hd.heap_1 w.params) mainGlobals (Str.ofString "bool") = some none := by kernel_rfl
section
variable {w : World} {A : Around} {env : Env} {h₀ h : Heap} {m : Str → Option Value} {G : LedT} {s : Shared} {hp : Heap} {g : Array GenState} {d : Drawn} {tk : Nat} {os : OsState} {Q E : Value → Shared → Prop}
theorem Cx.glob (C : Cx w A env h₀ s.heap m G) {x : Str} {pos : Pos} {v : Value} (e : nsIn (Mine.hd.heap_1 w.params) mainGlobals x = some (some v)) (h : Q v s)
    (hg : env.globals = mainGlobals := by rfl) (hx : env.kindOf x = some .globalImplicit := by rfl) (hd : (x == ("__debug__" : Str)) = false := by decide) : wpAny (model P w) A (eval (.Name x pos) env) Q E s := by
  (refine Mine.e3a1 C.T ?_; rintro _ _ _ T)
  exact nameG_K C.F C.X (topRead_of T) e h hg C.hke hx hd
theorem Cx.bltn (C : Cx w A env h₀ s.heap m G) {x : Str} {pos : Pos} {v : Value} (e : nsIn (Mine.hd.heap_1 w.params) mainGlobals x = some none) (hv : bootBuiltins x = some v) (h : Q v s) (hn : x ≠ "__name__" := by decide)
    (hg : env.globals = mainGlobals := by rfl) (hb : env.builtins = builtinsNs := by rfl) (hx : env.kindOf x = some .globalImplicit := by rfl) (hd : (x == ("__debug__" : Str)) = false := by decide) : wpAny (model P w) A (eval (.Name x pos) env) Q E s := by
  (refine Mine.e3a1 C.T ?_; rintro _ mg mb T)
  refine Name_function_global C.hke hx (loadGlobal_builtin (env := env) (by rw [hg]; exact T.g.keeps C.F.keep) (mg_none_of C.X T.g e) (by rw [hb]; exact T.b.keeps C.F.keep) ((T.builtins x hn).trans hv) h) hd
theorem Cx.XI (C : Cx w A env h₀ h m G) : (Mine.hd.heap_1 w.params).In h := C.X.keeps C.F.keep
/-- the call of a def of the top's, the arguments first -/
theorem Cx.callG (C : Cx w A env h₀ s.heap m G) {x : Str} {np pos : Pos} {f : Addr} {e : Expr} {rest : List Expr} (eg : nsIn (Mine.hd.heap_1 w.params) mainGlobals x = some (some (.ref f))) (hk : keepIn (Mine.hd.heap_1 w.params) (.ref f) = true)
    (h : wpAny (model P w) A (spliced (backTo pos (starEach (e :: rest) env))) (fun vs s₁ => (Mine.hd.heap_1 w.params).In s₁.heap ∧ wpAny (model P w) A (call (.ref f) vs) Q E s₁) E s)
    (he : starEach (e :: rest) env = (false, eval e env) :: starEach rest env := by rfl) (hplain : (backTo pos (starEach rest env)).any (·.1) = false := by rfl)
    (hc : eval (.Call (.Name x np) (e :: rest) [] pos) env = (do callWith pos (← eval (.Name x np) env) [] (backTo pos (starEach (e :: rest) env)) (backToKw pos (keywordEach [] env))) := by rfl)
    (hg : env.globals = mainGlobals := by rfl) (hx : env.kindOf x = some .globalImplicit := by rfl) (hd : (x == ("__debug__" : Str)) = false := by decide) :
    wpAny (model P w) A (eval (.Call (.Name x np) (e :: rest) [] pos) env) Q E s :=
  Call_ (C.glob eg (callWith_K (first := []) C.X hk (wpAny_mono h (fun _ _ z => z) fun _ _ z => z) he hplain) hg hx hd) hc
theorem Cx.callG0 (C : Cx w A env h₀ s.heap m G) {x : Str} {np pos : Pos} {f : Addr} (eg : nsIn (Mine.hd.heap_1 w.params) mainGlobals x = some (some (.ref f))) (hk : keepIn (Mine.hd.heap_1 w.params) (.ref f) = true)
    (h : wpAny (model P w) A (call (.ref f) []) Q E s)
    (hc : eval (.Call (.Name x np) [] [] pos) env = (do callWith pos (← eval (.Name x np) env) [] (backTo pos (starEach [] env)) (backToKw pos (keywordEach [] env))) := by rfl)
    (hg : env.globals = mainGlobals := by rfl) (hx : env.kindOf x = some .globalImplicit := by rfl) (hd : (x == ("__debug__" : Str)) = false := by decide) :
    wpAny (model P w) A (eval (.Call (.Name x np) [] [] pos) env) Q E s :=
  Call_ (C.glob eg (callWith_K0 (first := []) C.XI hk h) hg hx hd) hc
/-- the call of a built-in function -/
theorem Cx.callB (C : Cx w A env h₀ s.heap m G) {x : Str} {np pos : Pos} {id : String} {e : Expr} {rest : List Expr} (en : nsIn (Mine.hd.heap_1 w.params) mainGlobals x = some none) (hv : bootBuiltins x = some (.builtin id))
    (h : wpAny (model P w) A (spliced (backTo pos (starEach (e :: rest) env))) (fun vs s₁ => wpAny (model P w) A (call (.builtin id) vs) Q E s₁) E s) (hn : x ≠ "__name__" := by decide)
    (he : starEach (e :: rest) env = (false, eval e env) :: starEach rest env := by rfl) (hplain : (backTo pos (starEach rest env)).any (·.1) = false := by rfl)
    (hc : eval (.Call (.Name x np) (e :: rest) [] pos) env = (do callWith pos (← eval (.Name x np) env) [] (backTo pos (starEach (e :: rest) env)) (backToKw pos (keywordEach [] env))) := by rfl)
    (hg : env.globals = mainGlobals := by rfl) (hb : env.builtins = builtinsNs := by rfl) (hx : env.kindOf x = some .globalImplicit := by rfl) (hd : (x == ("__debug__" : Str)) = false := by decide) :
    wpAny (model P w) A (eval (.Call (.Name x np) (e :: rest) [] pos) env) Q E s :=
  Call_ (C.bltn en hv (callWith_method1 (first := []) (wpAny_mono h (fun _ _ z => z) fun _ _ z => z) he hplain) hn hg hb hx hd) hc
/-- the call of a built-in type -/
theorem Cx.callT (C : Cx w A env h₀ s.heap m G) {x : Str} {np pos : Pos} {id : String} {e : Expr} {rest : List Expr} (en : nsIn (Mine.hd.heap_1 w.params) mainGlobals x = some none) (hv : bootBuiltins x = some (.type id))
    (h : wpAny (model P w) A (spliced (backTo pos (starEach (e :: rest) env))) (fun vs s₁ => wpAny (model P w) A (call (.type id) vs) Q E s₁) E s) (hn : x ≠ "__name__" := by decide)
    (he : starEach (e :: rest) env = (false, eval e env) :: starEach rest env := by rfl) (hplain : (backTo pos (starEach rest env)).any (·.1) = false := by rfl)
    (hc : eval (.Call (.Name x np) (e :: rest) [] pos) env = (do callWith pos (← eval (.Name x np) env) [] (backTo pos (starEach (e :: rest) env)) (backToKw pos (keywordEach [] env))) := by rfl)
    (hg : env.globals = mainGlobals := by rfl) (hb : env.builtins = builtinsNs := by rfl) (hx : env.kindOf x = some .globalImplicit := by rfl) (hd : (x == ("__debug__" : Str)) = false := by decide) :
    wpAny (model P w) A (eval (.Call (.Name x np) (e :: rest) [] pos) env) Q E s :=
  Call_ (C.bltn en hv (PyProof.Rows.callWith_type1 h he hplain) hn hg hb hx hd) hc
theorem Cx.of (C : Cx w A env h₀ h m G) {h' : Heap} {m' : Str → Option Value} {G' : LedT} (F' : Fr h₀ env.locals h' m') (N' : News h₀ env.locals h' G') (D' : ND G') : Cx w A env h₀ h' m' G' := ⟨C.B, F', N', D', C.X, C.T, C.hf, C.hke⟩
theorem Cx.len (C : Cx w A env h₀ hp m G) {l : Addr} {its : Array Value} {n : Nat} (hl : lk G l = some (listOf its n)) (hz : its.size < 2 ^ 20) (h : ∀ t tk', Q (.int (its.size : Int) t) ⟨hp, g, d, tk', os⟩) :
    wpAny (model P w) A (call (.builtin "len") [.ref l]) Q E ⟨hp, g, d, tk, os⟩ := len_list (C.isList hl) (by omega) (h _ _)
theorem Cx.lenT (C : Cx w A env h₀ hp m G) {l : Addr} {its : Array Value} {n : Nat} (hl : lk G l = some (tupOf its n)) (hz : its.size < 2 ^ 20) (h : ∀ t tk', Q (.int (its.size : Int) t) ⟨hp, g, d, tk', os⟩) :
    wpAny (model P w) A (call (.builtin "len") [.ref l]) Q E ⟨hp, g, d, tk, os⟩ := PyProof.Rows.len_tuple (C.isTuple hl) (by omega) (h _ _)
theorem Cx.truthyL (C : Cx w A env h₀ hp m G) {l : Addr} {its : Array Value} {n : Nat} {Q : Bool → Shared → Prop} (hl : lk G l = some (listOf its n)) (hz : its.size < 2 ^ 20) (h : ∀ tk', Q (decide (0 < its.size)) ⟨hp, g, d, tk', os⟩) :
    wpAny (model P w) A (truthy (.ref l)) Q E ⟨hp, g, d, tk, os⟩ := by
  refine wpAny_truthy_list (C.isList hl) (by omega) ?_
  have e : (!its.isEmpty) = decide (0 < its.size) := by
    unfold Array.isEmpty
    by_cases q : its.size = 0
    · simp [q]
    · simp [q]; omega
  rw [e]; exact h _
theorem Cx.pop (C : Cx w A env h₀ hp m G) {l : Addr} {us : List Value} {y : Value} {n : Nat} (hl : lk G l = some (listOf (us ++ [y]).toArray n)) (hz : us.length < 2 ^ 20)
    (h : ∀ h', Cx w A env h₀ h' m (st G l (listOf us.toArray (n + 1))) → Q y ⟨h', g, d, tk, os⟩) : wpAny (model P w) A (call (.builtin "list.pop") [.ref l]) Q E ⟨hp, g, d, tk, os⟩ :=
  kl_pop C.F C.N (p := us) (y := y) (by simpa using kpa_last y us) (upd_of C.D hl) (by have : sizeLine = 2 ^ 24 := rfl; simp; (exact Mine.o38 hz this)) fun h' F' N' => h h' (C.of F' N' (C.D.st hl))
theorem Cx.append (C : Cx w A env h₀ hp m G) {l : Addr} {its : Array Value} {n : Nat} {v : Value} (hl : lk G l = some (listOf its n)) (hz : its.size < 2 ^ 20)
    (h : ∀ h', Cx w A env h₀ h' m (st G l (listOf (its.push v) (n + 1))) → Q .none ⟨h', g, d, tk, os⟩) : wpAny (model P w) A (call (.builtin "list.append") [.ref l, v]) Q E ⟨hp, g, d, tk, os⟩ :=
  append_at (hsz := by have : sizeLine = 2 ^ 24 := rfl; (exact Mine.o39 hz this)) (C.at hl) fun h' hs ho' => h h' (C.upd hl hs ho')
theorem Cx.listMeth (C : Cx w A env h₀ s.heap m G) {l : Addr} {its : Array Value} {n : Nat} {name : Str} {id : String} {pl : Sem Bool} {Q : Value × List Value → Shared → Prop} (hl : lk G l = some (listOf its n)) (slot : Slot "list" name id) (hty : typeOf (.builtin id) = pure (.type "method_descriptor"))
    (h : Q (.builtin id, [.ref l]) s) : wpAny (model P w) A (getMethod (.ref l) name pl) Q E s := listMethod_K C.N (lk_mem hl) slot hty h
theorem c_int {M : Model} {i : Int} {k : Nat} {pos : Pos} (h : ∀ t tk', Q (.int i t) ⟨hp, g, d, tk', os⟩) : wpAny M A (eval (.Constant (.int i) k pos) env) Q E ⟨hp, g, d, tk, os⟩ := wpAny_Constant_int (h _ _)
theorem o_add {a b : Int} {t u : Tok} (h : ∀ t' tk', Q (.int (a + b) t') ⟨hp, g, d, tk', os⟩) : wpAny (model P w) A (binaryOp .Add (.int a t) (.int b u)) Q E ⟨hp, g, d, tk, os⟩ := add_int (h _ _)
theorem o_sub {a b : Int} {t u : Tok} (h : ∀ t' tk', Q (.int (a - b) t') ⟨hp, g, d, tk', os⟩) : wpAny (model P w) A (binaryOp .Sub (.int a t) (.int b u)) Q E ⟨hp, g, d, tk, os⟩ := sub_int (h _ _)
theorem o_mul {a b : Int} {t u : Tok} (hm : IntMulOk a b) (h : ∀ t' tk', Q (.int (a * b) t') ⟨hp, g, d, tk', os⟩) : wpAny (model P w) A (binaryOp .Mult (.int a t) (.int b u)) Q E ⟨hp, g, d, tk, os⟩ := mul_int (h _ _) hm
theorem o_shr {a n : Int} {t u : Tok} (hn : 0 ≤ n) (h : ∀ t' tk', Q (.int (a.fdiv (2 ^ n.toNat)) t') ⟨hp, g, d, tk', os⟩) : wpAny (model P w) A (binaryOp .RShift (.int a t) (.int n u)) Q E ⟨hp, g, d, tk, os⟩ := rshift_int hn (h _ _)
theorem o_mod {a b : Int} {t u : Tok} (hb : b ≠ 0) (h : ∀ t' tk', Q (.int (a.fmod b) t') ⟨hp, g, d, tk', os⟩) : wpAny (model P w) A (binaryOp .Mod (.int a t) (.int b u)) Q E ⟨hp, g, d, tk, os⟩ := mod_int hb (h _ _)
theorem o_div {a b : Int} {t u : Tok} (hb : b ≠ 0) (hs : b.natAbs < 1073741824) (h : ∀ t' tk', Q (.int (a.fdiv b) t') ⟨hp, g, d, tk', os⟩) : wpAny (model P w) A (binaryOp .FloorDiv (.int a t) (.int b u)) Q E ⟨hp, g, d, tk, os⟩ := floordiv_int hb (h _ _) (.inl (PyProof.noPylong_small hs))
theorem o_pow {a n : Int} {t u : Tok} (hn : 0 ≤ n) (hsz : (Builtin.Int.intBits a : Int) * n ≤ 2 ^ 27) (h : ∀ t' tk', Q (.int (a ^ n.toNat) t') ⟨hp, g, d, tk', os⟩) : wpAny (model P w) A (binaryOp .Pow (.int a t) (.int n u)) Q E ⟨hp, g, d, tk, os⟩ := pow_int hn hsz (h _ _)
theorem o_neg {a : Int} {t : Tok} (h : ∀ t' tk', Q (.int (-a) t') ⟨hp, g, d, tk', os⟩) : wpAny (model P w) A (unaryOp .USub (.int a t)) Q E ⟨hp, g, d, tk, os⟩ := neg_int (h _ _)
theorem o_iadd {a b : Int} {t u : Tok} (h : ∀ t' tk', Q (.int (a + b) t') ⟨hp, g, d, tk', os⟩) : wpAny (model P w) A (inplaceOp .Add (.int a t) (.int b u)) Q E ⟨hp, g, d, tk, os⟩ := iadd_int (h _ _)
theorem o_isub {a b : Int} {t u : Tok} (h : ∀ t' tk', Q (.int (a - b) t') ⟨hp, g, d, tk', os⟩) : wpAny (model P w) A (inplaceOp .Sub (.int a t) (.int b u)) Q E ⟨hp, g, d, tk, os⟩ := isub_int (h _ _)
end
end Mine
end TGl

section THq1
open PySem PySem.W PyProof.Rows PySem.Calls
namespace Mine
noncomputable def sdownF : Nat → List Pr → Nat → Pr → List Pr
  | 0, l, pos, x => l.set pos x
  | n + 1, l, pos, x =>
    if 0 < pos then
      if plt x (l.getD ((pos - 1) / 2) (0, 0)) then sdownF n (l.set pos (l.getD ((pos - 1) / 2) (0, 0))) ((pos - 1) / 2) x else l.set pos x
    else l.set pos x
noncomputable def sdown (l : List Pr) (pos : Nat) (x : Pr) : List Pr := sdownF pos l pos x
theorem half_lt {pos n : Nat} (h : pos ≤ n + 1) (h0 : 0 < pos) : (pos - 1) / 2 ≤ n := by omega
theorem sdownF_more {x : Pr} : ∀ (n m : Nat) (l : List Pr) (pos : Nat), pos ≤ n → pos ≤ m → sdownF n l pos x = sdownF m l pos x
  | 0, 0, _, _, _, _ => rfl
  | 0, m + 1, l, pos, h, _ => by
    have : pos = 0 := Nat.le_zero.mp h
    subst this; rfl
  | n + 1, 0, l, pos, _, h => by
    have : pos = 0 := Nat.le_zero.mp h
    subst this; rfl
  | n + 1, m + 1, l, pos, h1, h2 => by
    unfold sdownF
    by_cases h0 : 0 < pos
    · rw [if_pos h0, if_pos h0, sdownF_more n m _ _ (half_lt h1 h0) (half_lt h2 h0)]
    · rw [if_neg h0, if_neg h0]
theorem sdown_eq (l : List Pr) (pos : Nat) (x : Pr) : sdown l pos x =
    if 0 < pos then
      if plt x (l.getD ((pos - 1) / 2) (0, 0)) then sdown (l.set pos (l.getD ((pos - 1) / 2) (0, 0))) ((pos - 1) / 2) x else l.set pos x
    else l.set pos x := by
  cases pos with
  | zero => rfl
  | succ n =>
    show sdownF (n + 1) l (n + 1) x = _
    unfold sdown
    rw [sdownF, sdownF_more ((n + 1 - 1) / 2) n _ _ (Nat.le_refl _) (half_lt (Nat.le_refl _) (Nat.succ_pos n))]
set_option maxRecDepth 100000
set_option maxHeartbeats 8000000
theorem siftdown_ct {w : World} {A : Around} {env : Env} {h₀ : Heap} {m : Str → Option Value} {G : LedT} {hp : Heap} {g : Array GenState} {d : Drawn} {tk : Nat} {os : OsState} {Q E : Value → Shared → Prop}
  {H : Addr} {its : Array Value} {n p : Nat} {t1 t2 : Tok} {ps : List Pr} {x : Pr}
  (C : Cx w A env h₀ hp m G) (hd : A.depth < recursionLimit) (hu : A.units + 8 < cLine) (hH : lk G H = some (listOf its n)) (hP : All2 (IsPr G) its.toList ps) (hpx : ps[p]? = some x) (hz : ps.length < 2 ^ 20)
  (ret : ∀ h' tk' its', Cx w A env h₀ h' m (st G H (listOf its' n)) → All2 (IsPr G) its'.toList (sdown ps p x) → Q .none ⟨h', g, d, tk', os⟩) :
  wpAny (model P w) A (call (.ref 162) [.ref H, .int 0 t1, .int p t2]) Q E ⟨hp, g, d, tk, os⟩ := by
  have e9 : PySem.Challenge.rw_oh0057_01 = PySem.Challenge.rw_oh0057_01 := rfl
  have X := C.X
  revert X e9; k_fill; intro X e9; clear e9
  k_dflt (refine' C.enterF (binds := [(Str.ofString "heap", Value.ref H), (Str.ofString "startpos", Value.int 0 t1), (Str.ofString "pos", Value.int p t2)]) ?k6 ?k7 ?k8 ?k9 ?kB ?c2 ?c3 ?c4 ?c5 ?_; (case k6 => k_is); (case k7 => k_is); (case k8 => assumption); (case k9 => exact BindsTo.of_eq rfl); (case c5 => decide); (case kB => exact locs rfl); (case c2 => exact rfl); (case c3 => exact rfl); (case c4 => exact rfl); k_whole; intro gb L' h₁ tk₁ C' hlt)
  (refine Mine.e1a2 (hP.get hpx) ?_; rintro v hv hvx)
  have hpl := (List.getElem?_eq_some_iff.mp hpx).1
  have hll := hP.length
  refine wpAny_execs_cons (wpAny_Assign_Name ?_)
  refine Subscript_ (C'.name rfl (C'.name rfl ?_ rfl) rfl)
  refine C'.item hH (by omega) (by omega) (by simpa using hv) ?_
  refine C'.store (fun h₂ _ C₂ => ?_)
  refine wpAny_execs_cons ?_
  refine C₂.while_ (fun k m₁ G₁ => ∃ l its₁ tp, k = tp.1 ∧ m₁ (Str.ofString "heap") = some (.ref H) ∧ m₁ (Str.ofString "startpos") = some (.int 0 t1) ∧ m₁ (Str.ofString "pos") = some (.int (tp.1 : Nat) tp.2) ∧ m₁ (Str.ofString "newitem") = some v ∧
    G₁ = st G H (listOf its₁ n) ∧ All2 (IsPr G) its₁.toList l ∧ tp.1 < l.length ∧ l.length = ps.length ∧ sdown l tp.1 x = sdown ps p x) (n₀ := p) ⟨ps, its, (p, t2), rfl, rfl, rfl, rfl, rfl, ?_, hP, hpl, rfl, rfl⟩ ?_
  · exact (st_same hH).symm
  · rintro k m₁ G₁ h₃ tk₃ C₃ hZ1
    (refine Mine.e3a10 hZ1 ?_; clear hZ1; rintro l its₁ ⟨kk, tp⟩ rfl e1 e2 e3 e4 rfl hAl hk hlen hsd)
    dsimp only at e3 hk hsd ⊢
    have hH₁ : lk (st G H (listOf its₁ n)) H = some (listOf its₁ n) := lk_st_eq
    have hll₁ := hAl.length
    have hsz : its₁.size = l.length := by rw [← hll₁]; simp
    refine wpAny_isTrue_Compare1 ?_
    refine C₃.name e3 (C₃.name e2 ?_ rfl) rfl
    refine gt_int (wpAny_truthy_bool ?_)
    by_cases hpos : 0 < k
    · rw [decide_eq_true (by omega), if_pos rfl]
      refine wpAny_execs_cons (wpAny_Assign_Name (wpAny_BinOp (wpAny_BinOp ?_)))
      refine C₃.name e3 (c_int fun _ _ => ?_)
      refine o_sub fun _ _ => c_int fun _ _ => ?_
      refine o_shr (by omega) fun tq _ => ?_
      have ediv : Int.fdiv ((k : Int) - 1) (2 ^ (1 : Int).toNat) = (((k - 1) / 2 : Nat) : Int) := by
        have : ((k : Int) - 1) = ((k - 1 : Nat) : Int) := by omega
        rw [this]
        exact Int.ofNat_fdiv (k - 1) 2 |>.symm
      rw [ediv]
      refine C₃.store (fun h₄ _ C₄ => ?_)
      have hq1 : (k - 1) / 2 < k := Mine.o237 hpos
      generalize hq : (k - 1) / 2 = q at C₄ ediv hq1 ⊢
      obtain ⟨pr, hpr⟩ : ∃ pr, l[q]? = some pr := ⟨l[q]'(Mine.o216 hk hq1), by simp⟩
      (refine Mine.e1a2 (hAl.get hpr) ?_; rintro u hu1 hu2)
      have hgd : l.getD q (0, 0) = pr := by rw [List.getD_eq_getElem?_getD, hpr]; rfl
      rw [sdown_eq, if_pos hpos, hq, hgd] at hsd
      refine wpAny_execs_cons (wpAny_Assign_Name ?_)
      refine Subscript_ (C₄.name (mset_ne (by decide) e1) (C₄.name mset_eq ?_ rfl) rfl)
      refine C₄.itemN hH₁ (Mine.o311 hz hk hlen hq1) hu1 ?_
      refine C₄.store (fun h₅ _ C₅ => ?_)
      refine wpAny_execs_cons (wpAny_If (wpAny_isTrue_Compare1 ?_))
      refine C₅.name (mset_ne (by decide) (mset_ne (by decide) e4)) (C₅.name mset_eq ?_ rfl) rfl
      (refine Mine.e4a2 (id hvx) ?_; rintro a ta1 ta2 na rfl ha)
      (refine Mine.e4a2 (id hu2) ?_; rintro b tb1 tb2 nb rfl hb)
      refine tup_lt (C₅.at (lk_st_ne (tup_ne_list ha hH) ha)) (C₅.at (lk_st_ne (tup_ne_list hb hH) hb)) (by simp; (exact Mine.o312 hu)) (wpAny_truthy_bool ?_)
      cases hc : plt x pr with
      | true =>
        rw [hc, if_pos rfl] at hsd
        rw [if_pos rfl]
        refine wpAny_execs_cons (wpAny_Assign_Subscript ?_)
        refine C₅.name mset_eq (C₅.name (mset_ne (by decide) (mset_ne (by decide) e1)) (C₅.name (mset_ne (by decide) (mset_ne (by decide) e3)) ?_ rfl) rfl) rfl
        refine C₅.setItemN hH₁ (Mine.o313 hz hk hlen) (Mine.o158 hk hsz) (fun h₆ C₆ => ?_)
        rw [st_st] at C₆
        refine wpAny_execs_cons (wpAny_Assign_Name ?_)
        refine C₆.name (mset_ne (by decide) mset_eq) ?_ rfl
        refine C₆.store (fun h₇ _ C₇ => ?_)
        refine wpAny_execs_cons (wpAny_Continue ?_)
        refine ⟨h₇, _, _, _, q, rfl, C₇, hq1, l.set k pr, its₁.setIfInBounds k (.ref b), (q, _), rfl, ?_, ?_, mset_eq, ?_, rfl, ?_, ?_, ?_, hsd⟩
        · exact mset_ne (by decide) (mset_ne (by decide) (mset_ne (by decide) e1))
        · exact mset_ne (by decide) (mset_ne (by decide) (mset_ne (by decide) e2))
        · exact mset_ne (by decide) (mset_ne (by decide) (mset_ne (by decide) e4))
        · simpa using hAl.set hu2 k
        · simp; (exact Mine.o216 hk hq1)
        · simpa using hlen
      | false =>
        rw [hc] at hsd
        simp only [Bool.false_eq_true, if_false] at hsd ⊢
        refine wpAny_execs_nil (wpAny_execs_cons (wpAny_Break ?_))
        refine wpAny_execs_cons (wpAny_Assign_Subscript ?_)
        refine C₅.name (mset_ne (by decide) (mset_ne (by decide) e4)) (C₅.name (mset_ne (by decide) (mset_ne (by decide) e1)) (C₅.name (mset_ne (by decide) (mset_ne (by decide) e3)) ?_ rfl) rfl) rfl
        refine C₅.setItemN hH₁ (Mine.o313 hz hk hlen) (Mine.o158 hk hsz) (fun h₆ C₆ => ?_)
        rw [st_st] at C₆
        refine wpAny_execs_nil ?_
        refine ⟨_, _, C₆, fun C₇ => ret _ _ _ C₇ ?_⟩
        rw [← hsd]
        simpa using hAl.set hvx k
    · have : k = 0 := Mine.o316 hpos
      subst this
      rw [decide_eq_false (by omega), if_neg (by decide)]
      rw [sdown_eq, if_neg (Mine.o190)] at hsd
      refine wpAny_execs_nil (wpAny_execs_cons (wpAny_Assign_Subscript ?_))
      refine C₃.name e4 (C₃.name e1 (C₃.name e3 ?_ rfl) rfl) rfl
      refine C₃.setItemN hH₁ (Mine.o151) (Mine.o317 hsz hk) (fun h₆ C₆ => ?_)
      rw [st_st] at C₆
      refine wpAny_execs_nil ?_
      refine ⟨_, _, C₆, fun C₇ => ret _ _ _ C₇ ?_⟩
      rw [← hsd]
      simpa using hAl.set hvx 0
end Mine
end THq1

section THq2
open PySem PySem.W PyProof.Rows PySem.Calls
namespace Mine
/-- the smaller child of a place, or none -/
noncomputable def child (l : List Pr) (pos : Nat) : Option Nat :=
  if 2 * pos + 1 < l.length then
    if 2 * pos + 2 < l.length ∧ plt (l.getD (2 * pos + 1) (0, 0)) (l.getD (2 * pos + 2) (0, 0)) = false then some (2 * pos + 2) else some (2 * pos + 1)
  else none
theorem child_lt {l : List Pr} {pos c : Nat} (h : child l pos = some c) : pos < c ∧ c < l.length := by
  unfold child at h
  split at h
  · split at h
    · cases h; omega
    · cases h; omega
  · cases h
/-- _siftup: the smaller child comes up, then the new item goes up from the leaf (the first int: turns at most) -/
noncomputable def supF : Nat → List Pr → Nat → Pr → List Pr
  | 0, l, _, _ => l
  | n + 1, l, pos, x => match child l pos with
    | some c => supF n (l.set pos (l.getD c (0, 0))) c x
    | none => sdown (l.set pos x) pos x
noncomputable def sup (l : List Pr) (pos : Nat) (x : Pr) : List Pr := supF (l.length + 1) l pos x
theorem supF_more {x : Pr} : ∀ (n m : Nat) (l : List Pr) (pos : Nat), l.length < n + pos → l.length < m + pos → pos < l.length → supF n l pos x = supF m l pos x
  | 0, _, _, _, h, _, hp => absurd h (Mine.o140 hp)
  | _, 0, _, _, _, h, hp => absurd h (Mine.o140 hp)
  | n + 1, m + 1, l, pos, h1, h2, _ => by
    unfold supF
    cases h : child l pos with
    | none => rfl
    | some c =>
      have := child_lt h
      exact supF_more n m _ c (by simp; (exact Mine.o141 h1 this.1)) (by simp; (exact Mine.o141 h2 this.1)) (by simpa using this.2)
theorem child_pos {l : List Pr} {pos c : Nat} (h : child l pos = some c) : pos < l.length := Nat.lt_trans (child_lt h).1 (child_lt h).2
theorem sup_some {l : List Pr} {pos c : Nat} {x : Pr} (h : child l pos = some c) : sup l pos x = sup (l.set pos (l.getD c (0, 0))) c x := by
  have hc := child_lt h
  have e : sup l pos x = supF l.length (l.set pos (l.getD c (0, 0))) c x := by
    unfold sup; rw [supF, h]
  rw [e]
  exact supF_more _ _ _ _ (by simp; (exact Mine.o142 hc.1)) (by simp; (exact Mine.o143)) (by simpa using hc.2)
theorem sup_none {l : List Pr} {pos : Nat} {x : Pr} (h : child l pos = none) : sup l pos x = sdown (l.set pos x) pos x := by
  unfold sup; rw [supF, h]
set_option maxRecDepth 100000
set_option maxHeartbeats 8000000
theorem siftup_ct {w : World} {A : Around} {env : Env} {h₀ : Heap} {m : Str → Option Value} {G : LedT} {hp : Heap} {g : Array GenState} {d : Drawn} {tk : Nat} {os : OsState} {Q E : Value → Shared → Prop}
  {H : Addr} {its : Array Value} {n : Nat} {t1 : Tok} {ps : List Pr} {x : Pr}
  (C : Cx w A env h₀ hp m G) (hd : A.depth + 2 < recursionLimit) (hu : A.units + 16 < cLine) (hH : lk G H = some (listOf its n)) (hP : All2 (IsPr G) its.toList ps) (hpx : ps[0]? = some x) (hz : ps.length < 2 ^ 18)
  (ret : ∀ h' tk' its', Cx w A env h₀ h' m (st G H (listOf its' n)) → All2 (IsPr G) its'.toList (sup ps 0 x) → Q .none ⟨h', g, d, tk', os⟩) :
  wpAny (model P w) A (call (.ref 169) [.ref H, .int 0 t1]) Q E ⟨hp, g, d, tk, os⟩ := by
  have e9 : PySem.Challenge.rw_oh0057_01 = PySem.Challenge.rw_oh0057_01 := rfl
  have X := C.X
  revert X e9; k_fill; intro X e9; clear e9
  k_dflt (refine' C.enterF (binds := [(Str.ofString "heap", Value.ref H), (Str.ofString "pos", Value.int 0 t1)]) ?k6 ?k7 ?k8 ?k9 ?kB ?c2 ?c3 ?c4 ?c5 ?_; (case k6 => k_is); (case k7 => k_is); (case k8 => (exact Mine.o147 hd)); (case k9 => exact BindsTo.of_eq rfl); (case c5 => decide); (case kB => exact locs rfl); (case c2 => exact rfl); (case c3 => exact rfl); (case c4 => exact rfl); k_whole; intro gb L' h₁ tk₁ C1 hlt)
  (refine Mine.e1a2 (hP.get hpx) ?_; rintro v hv hvx)
  have hpl := (List.getElem?_eq_some_iff.mp hpx).1
  have hll := hP.length
  have hsz : its.size = ps.length := by rw [← hll]; simp
  -- endpos = len(heap)
  refine wpAny_execs_cons (wpAny_Assign_Name (C1.callB (n_len w) Boot.len ?_))
  refine args_cons (C1.name rfl (args_nil ?_) rfl)
  refine C1.len hH (Mine.o149 hz hsz) fun te0 _ => ?_
  refine C1.store (fun h₂ _ C2 => ?_)
  -- startpos = pos
  refine wpAny_execs_cons (wpAny_Assign_Name (C2.name (mset_ne (by decide) rfl) ?_ rfl))
  refine C2.store (fun h₃ _ C3 => ?_)
  -- newitem = heap[pos]
  refine wpAny_execs_cons (wpAny_Assign_Name ?_)
  refine Subscript_ (C3.name (mset_ne (by decide) (mset_ne (by decide) rfl)) (C3.name (mset_ne (by decide) (mset_ne (by decide) rfl)) ?_ rfl) rfl)
  refine C3.itemN (k := 0) hH (Mine.o151) hv ?_
  refine C3.store (fun h₄ _ C4 => ?_)
  -- childpos = 2 * pos + 1
  refine wpAny_execs_cons (wpAny_Assign_Name (wpAny_BinOp (wpAny_BinOp (c_int fun _ _ => ?_))))
  refine C4.name (mset_ne (by decide) (mset_ne (by decide) (mset_ne (by decide) rfl))) ?_ rfl
  refine o_mul (.of_left (by decide)) fun _ _ => c_int fun _ _ => ?_
  refine o_add fun tc0 _ => ?_
  refine C4.store (fun h₅ _ C5 => ?_)
  refine wpAny_execs_cons ?_
  refine C5.while_ (fun k m₁ G₁ => ∃ l its₁ pos tp tc te, k = l.length - pos ∧ m₁ (Str.ofString "heap") = some (.ref H) ∧ m₁ (Str.ofString "startpos") = some (.int 0 t1) ∧ m₁ (Str.ofString "pos") = some (.int ((pos : Nat) : Int) tp) ∧ m₁ (Str.ofString "newitem") = some v ∧
    m₁ (Str.ofString "childpos") = some (.int ((2 * pos + 1 : Nat) : Int) tc) ∧ m₁ (Str.ofString "endpos") = some (.int ((l.length : Nat) : Int) te) ∧
    G₁ = st G H (listOf its₁ n) ∧ All2 (IsPr G) its₁.toList l ∧ pos < l.length ∧ l.length = ps.length ∧ sup l pos x = sup ps 0 x) (n₀ := ps.length) ⟨ps, its, 0, t1, tc0, te0, rfl, rfl, rfl, rfl, rfl, rfl, ?_, (st_same hH).symm, hP, hpl, rfl, rfl⟩ ?_
  · rw [← hsz]; rfl
  · rintro k m₁ G₁ h₆ tk₆ C6 hZ1
    (refine Mine.e6a12 hZ1 ?_; clear hZ1; rintro l its₁ pos tp tc te rfl e1 e2 e3 e4 e5 e6 rfl hAl hk hlen hsu)
    have hH₁ : lk (st G H (listOf its₁ n)) H = some (listOf its₁ n) := lk_st_eq
    have hll₁ := hAl.length
    have hsz₁ : its₁.size = l.length := by rw [← hll₁]; simp
    refine wpAny_isTrue_Compare1 (C6.name e5 (C6.name e6 ?_ rfl) rfl)
    refine lt_int (wpAny_truthy_bool ?_)
    by_cases hc : 2 * pos + 1 < l.length
    · rw [decide_eq_true (by omega), if_pos rfl]
      -- rightpos = childpos + 1
      refine wpAny_execs_cons (wpAny_Assign_Name (wpAny_BinOp (C6.name e5 (c_int fun _ _ => o_add fun _ _ => ?_))))
      refine C6.store (fun h₇ _ C7 => ?_)
      -- the smaller child
      refine wpAny_execs_cons (wpAny_mono (Q := fun f s' => f = .next ∧ ∃ h' tk' m₂ c tc', s' = ⟨h', g, d, tk', os⟩ ∧ C1.Same h' m₂ (st G H (listOf its₁ n)) ∧ child l pos = some c ∧ m₂ (Str.ofString "childpos") = some (.int ((c : Nat) : Int) tc') ∧
        m₂ (Str.ofString "heap") = some (.ref H) ∧ m₂ (Str.ofString "startpos") = some (.int 0 t1) ∧ m₂ (Str.ofString "pos") = some (.int ((pos : Nat) : Int) tp) ∧ m₂ (Str.ofString "newitem") = some v ∧ m₂ (Str.ofString "endpos") = some (.int ((l.length : Nat) : Int) te)) ?_ ?_ fun _ _ z => z)
      · refine wpAny_If (wpAny_isTrue_BoolOp (wpAny_allTrue_And_cons (wpAny_isTrue_Compare1 ?_)))
        refine C7.name mset_eq (C7.name (mset_ne (by decide) e6) (lt_int (wpAny_truthy_bool ?_)) rfl) rfl
        have fin0 : 2 * pos + 2 < l.length ∧ plt (l.getD (2 * pos + 1) (0, 0)) (l.getD (2 * pos + 2) (0, 0)) = false → child l pos = some (2 * pos + 2) := fun hh => by unfold child; rw [if_pos hc, if_pos hh]
        have fin1 : ¬ (2 * pos + 2 < l.length ∧ plt (l.getD (2 * pos + 1) (0, 0)) (l.getD (2 * pos + 2) (0, 0)) = false) → child l pos = some (2 * pos + 1) := fun hh => by unfold child; rw [if_pos hc, if_neg hh]
        by_cases hr : 2 * pos + 2 < l.length
        · rw [decide_eq_true (by omega), if_pos rfl]
          refine wpAny_allTrue_And_cons (wpAny_isTrue_Not (wpAny_isTrue_Compare1 ?_))
          obtain ⟨p1, hp1⟩ : ∃ pr, l[2 * pos + 1]? = some pr := ⟨l[2 * pos + 1]'(Mine.o169 hr), by simp⟩
          obtain ⟨p2, hp2⟩ : ∃ pr, l[2 * pos + 2]? = some pr := ⟨l[2 * pos + 2]'(Mine.o170 hr), by simp⟩
          have g1 : l.getD (2 * pos + 1) (0, 0) = p1 := by rw [List.getD_eq_getElem?_getD, hp1]; rfl
          have g2 : l.getD (2 * pos + 2) (0, 0) = p2 := by rw [List.getD_eq_getElem?_getD, hp2]; rfl
          (refine Mine.e1a2 (hAl.get hp1) ?_; rintro u1 hu1 hu1')
          (refine Mine.e1a2 (hAl.get hp2) ?_; rintro u2 hu2 hu2')
          refine Subscript_ (C7.name (mset_ne (by decide) e1) (C7.name (mset_ne (by decide) e5) ?_ rfl) rfl)
          refine C7.itemN hH₁ (Mine.o171 hz hlen hr) hu1 ?_
          refine Subscript_ (C7.name (mset_ne (by decide) e1) (C7.name mset_eq ?_ rfl) rfl)
          refine C7.itemN (k := 2 * pos + 2) hH₁ (Mine.o172 hz hlen hr) hu2 ?_
          (refine Mine.e4a2 (id hu1') ?_; rintro a ta1 ta2 na rfl ha)
          (refine Mine.e4a2 (id hu2') ?_; rintro b tb1 tb2 nb rfl hb)
          refine tup_lt (C7.at (lk_st_ne (tup_ne_list ha hH) ha)) (C7.at (lk_st_ne (tup_ne_list hb hH) hb)) (by simp; (exact Mine.o173 hu)) (wpAny_truthy_bool ?_)
          cases hpl' : plt p1 p2 with
          | true =>
            simp only [Bool.not_true, Bool.false_eq_true, if_false]
            refine wpAny_execs_nil ⟨rfl, _, _, _, 2 * pos + 1, _, rfl, C7, fin1 (by rw [g1, g2, hpl']; simp), mset_ne (by decide) e5, mset_ne (by decide) e1, mset_ne (by decide) e2, mset_ne (by decide) e3, mset_ne (by decide) e4, mset_ne (by decide) e6⟩
          | false =>
            simp only [Bool.not_false, if_true]
            refine wpAny_allTrue_And_nil ?_
            simp only [if_true]
            refine wpAny_execs_cons (wpAny_Assign_Name (C7.name mset_eq ?_ rfl))
            refine C7.store (fun h₈ _ C8 => ?_)
            refine wpAny_execs_nil ⟨rfl, _, _, _, 2 * pos + 2, _, rfl, C8, fin0 ⟨hr, by rw [g1, g2, hpl']⟩, mset_eq, mset_ne (by decide) (mset_ne (by decide) e1), mset_ne (by decide) (mset_ne (by decide) e2), mset_ne (by decide) (mset_ne (by decide) e3), mset_ne (by decide) (mset_ne (by decide) e4), mset_ne (by decide) (mset_ne (by decide) e6)⟩
        · rw [decide_eq_false (by omega), if_neg (by decide)]
          simp only [Bool.false_eq_true, if_false]
          refine wpAny_execs_nil ⟨rfl, _, _, _, 2 * pos + 1, _, rfl, C7, fin1 (by omega), mset_ne (by decide) e5, mset_ne (by decide) e1, mset_ne (by decide) e2, mset_ne (by decide) e3, mset_ne (by decide) e4, mset_ne (by decide) e6⟩
      · rintro f s' hZ2
        obtain ⟨rfl, h', tk', m₂, c, tc', rfl, C8, hch, f5, f1, f2, f3, f4, f6⟩ := hZ2
        dsimp only
        have hcl := child_lt hch
        obtain ⟨pc, hpc⟩ : ∃ pr, l[c]? = some pr := ⟨l[c]'(Mine.o176 hcl.2), by simp⟩
        have gc : l.getD c (0, 0) = pc := by rw [List.getD_eq_getElem?_getD, hpc]; rfl
        (refine Mine.e1a2 (hAl.get hpc) ?_; rintro uc huc huc')
        rw [sup_some hch, gc] at hsu
        -- heap[pos] = heap[childpos]
        refine wpAny_execs_cons (wpAny_Assign_Subscript ?_)
        refine Subscript_ (C8.name f1 (C8.name f5 ?_ rfl) rfl)
        refine C8.itemN hH₁ (Mine.o197 hz hlen hcl.2) huc ?_
        refine C8.name f1 (C8.name f3 ?_ rfl) rfl
        refine C8.setItemN hH₁ (Mine.o208 hz hlen hc) (Mine.o209 hsz₁ hc) (fun h₉ C9 => ?_)
        rw [st_st] at C9
        -- pos = childpos
        refine wpAny_execs_cons (wpAny_Assign_Name (C9.name f5 ?_ rfl))
        refine C9.store (fun h₁₀ _ C10 => ?_)
        -- childpos = 2 * pos + 1
        refine wpAny_execs_cons (wpAny_Assign_Name (wpAny_BinOp (wpAny_BinOp (c_int fun _ _ => C10.name mset_eq ?_))))
        refine o_mul (.of_left (by decide)) fun _ _ => c_int fun _ _ => o_add fun tcn _ => ?_
        refine C10.store (fun h₁₁ _ C11 => ?_)
        refine wpAny_execs_nil ⟨h₁₁, _, _, _, l.length - c, rfl, C11, by (exact Mine.o241 hcl.1 hcl.2), l.set pos pc, its₁.setIfInBounds pos uc, c, tc', tcn, te, by simp, ?_, ?_, ?_, ?_, ?_, ?_, rfl, ?_, ?_, ?_, hsu⟩
        · exact mset_ne (by decide) (mset_ne (by decide) f1)
        · exact mset_ne (by decide) (mset_ne (by decide) f2)
        · exact mset_ne (by decide) mset_eq
        · exact mset_ne (by decide) (mset_ne (by decide) f4)
        · rw [mset_eq]; simp
        · simpa using mset_ne (by decide) (mset_ne (by decide) f6)
        · simpa using hAl.set huc' pos
        · simp; (exact Mine.o176 hcl.2)
        · simpa using hlen
    · rw [decide_eq_false (by omega), if_neg (by decide)]
      have hch : child l pos = none := by unfold child; rw [if_neg hc]
      rw [sup_none hch] at hsu
      refine wpAny_execs_nil (wpAny_execs_cons (wpAny_Assign_Subscript ?_))
      refine C6.name e4 (C6.name e1 (C6.name e3 ?_ rfl) rfl) rfl
      refine C6.setItemN hH₁ (Mine.o249 hz hk hlen) (Mine.o158 hk hsz₁) (fun h₇ C7 => ?_)
      rw [st_st] at C7
      refine wpAny_execs_cons (wpAny_Expr ?_)
      refine C7.callG (g_siftdown w) (kp_162 w) ?_
      refine args_cons (C7.name e1 (args_cons (C7.name e2 (args_cons (C7.name e3 (args_nil ⟨C7.XI, ?_⟩) rfl)) rfl)) rfl)
      have hAl' : All2 (IsPr (st G H (listOf (its₁.setIfInBounds pos v) n))) (its₁.setIfInBounds pos v).toList (l.set pos x) := by
        have := (hAl.set hvx pos).mono fun a b hab => hab.st (x := listOf (its₁.setIfInBounds pos v) n) hH (by simp)
        simpa using this
      refine siftdown_ct C7 (show A.depth + 1 < _ by (exact Mine.o256 hd)) (by simp; (exact Mine.o257 hu)) lk_st_eq hAl' (List.getElem?_set_self hk) (by simp; (exact Mine.o194 hz hlen)) fun h₈ tk₈ its₈ C8 hAl₈ => ?_
      rw [st_st] at C8
      rw [hsu] at hAl₈
      refine wpAny_execs_nil ?_
      refine ⟨_, _, C8, fun C9 => ret _ _ _ C9 (hAl₈.mono fun a b hab => ?_)⟩
      have := hab.st (a := H) (x := listOf its n) lk_st_eq (by simp)
      rw [st_st, st_same hH] at this
      exact this
end Mine
end THq2

section THq3
open PySem PySem.W PyProof.Rows PySem.Calls
namespace Mine
noncomputable def hpush (l : List Pr) (x : Pr) : List Pr := sdown (l ++ [x]) l.length x
noncomputable def hpop (l : List Pr) : Pr × List Pr :=
  match l.dropLast with
  | [] => (l.getLastD (0, 0), [])
  | a :: r => (a, sup ((a :: r).set 0 (l.getLastD (0, 0))) 0 (l.getLastD (0, 0)))
theorem IsPr.back {G : LedT} {H : Addr} {o x : Obj} {v : Value} {p : Pr} (hH : lk G H = some o) (h : IsPr (Mine.st G H x) v p) (hc : x.cls ≠ .type "tuple") : IsPr G v p := by
  have := h.st (a := H) (x := o) lk_st_eq hc
  rwa [st_st, st_same hH] at this
theorem All2.snocR {α β : Type} {R : α → β → Prop} {as : List α} {b : β} : ∀ {bs : List β}, All2 R as (bs ++ [b]) → ∃ as' a, as = as' ++ [a] ∧ All2 R as' bs ∧ R a b := by
  induction as with
  | nil => intro bs h; cases bs <;> cases h
  | cons x xs ih =>
    intro bs h
    cases bs with
    | nil => cases h with | cons r q => cases q; exact ⟨[], x, rfl, .nil, r⟩
    | cons y ys =>
      cases h with
      | cons r q =>
        (refine Mine.e2a3 (ih q) ?_; rintro as' a rfl h1 h2)
        exact ⟨x :: as', a, rfl, .cons r h1, h2⟩
set_option maxRecDepth 100000
set_option maxHeartbeats 8000000
theorem heappush_ct {w : World} {A : Around} {env : Env} {h₀ : Heap} {m : Str → Option Value} {G : LedT} {hp : Heap} {g : Array GenState} {d : Drawn} {tk : Nat} {os : OsState} {Q E : Value → Shared → Prop}
  {H : Addr} {its : Array Value} {n : Nat} {ps : List Pr} {x : Pr} {v : Value}
  (C : Cx w A env h₀ hp m G) (hd : A.depth + 2 < recursionLimit) (hu : A.units + 16 < cLine) (hH : lk G H = some (listOf its n)) (hP : All2 (IsPr G) its.toList ps) (hvx : IsPr G v x) (hz : ps.length < 2 ^ 18)
  (ret : ∀ h' tk' its' n', Cx w A env h₀ h' m (st G H (listOf its' n')) → All2 (IsPr G) its'.toList (hpush ps x) → Q .none ⟨h', g, d, tk', os⟩) :
  wpAny (model P w) A (call (.ref 148) [.ref H, v]) Q E ⟨hp, g, d, tk, os⟩ := by
  have e9 : PySem.Challenge.rw_oh0057_01 = PySem.Challenge.rw_oh0057_01 := rfl
  have X := C.X
  revert X e9; k_fill; intro X e9; clear e9
  k_dflt (refine' C.enterF (binds := [(Str.ofString "heap", Value.ref H), (Str.ofString "item", v)]) ?k6 ?k7 ?k8 ?k9 ?kB ?c2 ?c3 ?c4 ?c5 ?_; (case k6 => k_is); (case k7 => k_is); (case k8 => (exact Mine.o147 hd)); (case k9 => exact BindsTo.of_eq rfl); (case c5 => decide); (case kB => exact locs rfl); (case c2 => exact rfl); (case c3 => exact rfl); (case c4 => exact rfl); k_whole; intro gb L' h₁ tk₁ C1 hlt)
  have hll := hP.length
  have hsz : its.size = ps.length := by rw [← hll]; simp
  refine wpAny_execs_cons (wpAny_Expr (MethodCall_ (C1.name rfl ?_)))
  refine C1.listMeth hH PySem.F.slot_list_append PySem.F.type_list_append ?_
  refine callWith_method1 (args_cons (C1.name rfl (args_nil ?_)))
  refine C1.append hH (Mine.o149 hz hsz) fun h₂ C2 => ?_
  refine wpAny_execs_cons (wpAny_Expr ?_)
  have hH2 : lk (st G H (listOf (its.push v) (n + 1))) H = some (listOf (its.push v) (n + 1)) := lk_st_eq
  refine C2.callG (g_siftdown w) (kp_162 w) ?_
  refine args_cons (C2.name rfl (args_cons (c_int fun _ _ => args_cons (wpAny_BinOp (C2.callB (n_len w) Boot.len (args_cons (C2.name rfl (args_nil ?_)))))))) 
  refine C2.len hH2 (by simp; (exact Mine.o283 hz hsz)) fun _ _ => c_int fun _ _ => o_sub fun tl _ => args_nil ⟨C2.XI, ?_⟩
  have el : ((its.push v).size : Int) - 1 = ((ps.length : Nat) : Int) := by simp; omega
  rw [el]
  have hP2 : All2 (IsPr (st G H (listOf (its.push v) (n + 1)))) (its.push v).toList (ps ++ [x]) := by
    have := (hP.snoc hvx).mono fun a b hab => hab.st (x := listOf (its.push v) (n + 1)) hH (by simp)
    simpa using this
  refine siftdown_ct (x := x) C2 (show A.depth + 1 < _ by (exact Mine.o256 hd)) (by simp; (exact Mine.o257 hu)) hH2 hP2 (by simp) (by simp; (exact Mine.o285 hz)) fun h₈ tk₈ its₈ C8 hAl₈ => ?_
  rw [st_st] at C8
  refine wpAny_execs_nil ⟨_, _, C8, fun C9 => ret _ _ _ _ C9 (hAl₈.mono fun a b hab => hab.back hH (by simp))⟩
theorem heappop_ct {w : World} {A : Around} {env : Env} {h₀ : Heap} {m : Str → Option Value} {G : LedT} {hp : Heap} {g : Array GenState} {d : Drawn} {tk : Nat} {os : OsState} {Q E : Value → Shared → Prop}
  {H : Addr} {its : Array Value} {n : Nat} {ps : List Pr}
  (C : Cx w A env h₀ hp m G) (hd : A.depth + 3 < recursionLimit) (hu : A.units + 24 < cLine) (hH : lk G H = some (listOf its n)) (hP : All2 (IsPr G) its.toList ps) (hne : ps ≠ []) (hz : ps.length < 2 ^ 18)
  (ret : ∀ h' tk' its' n' v, Cx w A env h₀ h' m (st G H (listOf its' n')) → IsPr G v (hpop ps).1 → All2 (IsPr G) its'.toList (hpop ps).2 → Q v ⟨h', g, d, tk', os⟩) :
  wpAny (model P w) A (call (.ref 155) [.ref H]) Q E ⟨hp, g, d, tk, os⟩ := by
  have e9 : PySem.Challenge.rw_oh0057_01 = PySem.Challenge.rw_oh0057_01 := rfl
  have X := C.X
  revert X e9; k_fill; intro X e9; clear e9
  k_dflt (refine' C.enterF (binds := [(Str.ofString "heap", Value.ref H)]) ?k6 ?k7 ?k8 ?k9 ?kB ?c2 ?c3 ?c4 ?c5 ?_; (case k6 => k_is); (case k7 => k_is); (case k8 => (exact Mine.o10 hd)); (case k9 => exact BindsTo.of_eq rfl); (case c5 => decide); (case kB => exact locs rfl); (case c2 => exact rfl); (case c3 => exact rfl); (case c4 => exact rfl); k_whole; intro gb L' h₁ tk₁ C1 hlt)
  obtain ⟨qs, y, rfl⟩ : ∃ qs y, ps = qs ++ [y] := ⟨ps.dropLast, ps.getLast hne, (List.dropLast_concat_getLast hne).symm⟩
  (refine Mine.e2a3 hP.snocR ?_; rintro us v hus hA hvy)
  have hits : its = (us ++ [v]).toArray := by rw [← hus]
  subst hits
  have hlu := hA.length
  have hpd : (qs ++ [y]).dropLast = qs := by simp
  have hpl : (qs ++ [y]).getLastD (0, 0) = y := by simp
  simp only [List.length_append, List.length_cons, List.length_nil] at hz
  refine wpAny_execs_cons (wpAny_Assign_Name (MethodCall_ (C1.name rfl ?_)))
  refine C1.listMeth hH PySem.F.slot_list_pop PySem.F.type_list_pop ?_
  refine callWith_method0 ?_
  refine C1.pop hH (Mine.o288 hlu hz) fun h₂ C2 => ?_
  refine C2.store fun h₃ tk₃ C3 => ?_
  have hH2 : lk (st G H (listOf us.toArray (n + 1))) H = some (listOf us.toArray (n + 1)) := lk_st_eq
  refine wpAny_execs_cons (wpAny_If (wpAny_isTrue_value (C3.name rfl ?_)))
  refine C3.truthyL hH2 (by simp; (exact Mine.o289 hlu hz)) fun tk₄ => ?_
  cases qs with
  | nil =>
    cases hA
    simp only [List.size_toArray, List.length_nil, Nat.lt_irrefl, decide_false, Bool.false_eq_true, if_false]
    refine wpAny_execs_nil (wpAny_execs_cons (wpAny_Return_some (C3.name mset_eq ?_)))
    refine ⟨_, _, C3, fun C9 => ret _ _ _ _ _ C9 ?_ ?_⟩
    · simpa [hpop, retv] using hvy
    · simpa [hpop] using All2.nil
  | cons a r =>
    cases hA with
    | @cons u0 _ us0 _ ha hr =>
      have e0 : (decide (0 < (u0 :: us0).toArray.size)) = true := by simp
      rw [e0, if_pos rfl]
      refine wpAny_execs_cons (wpAny_Assign_Name (Subscript_ (C3.name rfl (c_int fun _ _ => ?_))))
      refine C3.itemN (k := 0) (v := u0) hH2 (Mine.o151) (by simp) ?_
      refine C3.store fun h₄ tk₄ C4 => ?_
      refine wpAny_execs_cons (wpAny_Assign_Subscript (C4.name (mset_ne (by decide) mset_eq) (C4.name rfl (c_int fun _ _ => ?_))))
      refine C4.setItemN (k := 0) hH2 (Mine.o151) (by simp) fun h₅ C5 => ?_
      rw [st_st] at C5
      have hH5 : lk (st G H (listOf ((u0 :: us0).toArray.setIfInBounds 0 v) (n + 1))) H = some (listOf ((u0 :: us0).toArray.setIfInBounds 0 v) (n + 1)) := lk_st_eq
      refine wpAny_execs_cons (wpAny_Expr (C5.callG (g_siftup w) (kp_169 w) (args_cons (C5.name rfl (args_cons (c_int fun _ _ => args_nil ⟨C5.XI, ?_⟩))))))
      have hA5 : All2 (IsPr (st G H (listOf ((u0 :: us0).toArray.setIfInBounds 0 v) (n + 1)))) ((u0 :: us0).toArray.setIfInBounds 0 v).toList ((a :: r).set 0 y) := by
        have := ((All2.cons ha hr).set hvy 0).mono fun a b hab => hab.st (x := listOf ((u0 :: us0).toArray.setIfInBounds 0 v) (n + 1)) hH (by simp)
        simpa using this
      refine siftup_ct (x := y) C5 (show A.depth + 1 + 2 < _ by (exact Mine.o295 hd)) (by simp; (exact Mine.o296 hu)) hH5 hA5 (by simp) (by simp at hz ⊢; (exact Mine.o297 hz)) fun h₆ tk₆ its₆ C6 hA6 => ?_
      rw [st_st] at C6
      refine wpAny_execs_cons (wpAny_Return_some (C6.name mset_eq ?_))
      refine ⟨_, _, C6, fun C9 => ret _ _ _ _ _ C9 ?_ ?_⟩
      · have : (hpop (a :: r ++ [y])).1 = a := by unfold hpop; rw [hpd]
        rw [this]; exact ha
      · have : (hpop (a :: r ++ [y])).2 = sup ((a :: r).set 0 y) 0 y := by unfold hpop; rw [hpd, hpl]
        rw [this]
        exact hA6.mono fun a b hab => hab.back hH (by simp)
end Mine
end THq3

section TSo1
open PySem PySem.W PyProof.Rows PySem.Calls
namespace Mine
theorem bind_two {fd : FuncData} {x y z : Str} {va : Arg} {a b : Value} {rest : List Value} (h1 : fd.params.posonlyargs = []) (h2 : fd.params.args.map (·.arg) = [x, y]) (h3 : fd.params.kwonlyargs = []) (h4 : fd.params.vararg = some va) (h5 : fd.params.kwarg = none) (h6 : fd.defaults = .none) (hxy : (y == x) = false) (hz : va.arg = z) :
    bindArgs fd ⟨a :: b :: rest, []⟩ = (newTuple rest >>= fun t => pure [(x, a), (y, b), (z, t)]) := by
  subst hz
  unfold bindArgs
  simp only [h1, h2, h3, h4, h5, h6, List.map_nil, List.nil_append, List.append_nil, List.length_cons, List.length_nil, List.zip_cons_cons, List.zip_nil_left, List.forIn_nil, pure_bind]
  show (seqItems? Value.none >>= _) = _
  have : seqItems? Value.none = pure none := by rfl
  rw [this]
  simp [List.lookup, hxy]
theorem bind_one {fd : FuncData} {x z : Str} {va : Arg} {a : Value} {rest : List Value} (h1 : fd.params.posonlyargs = []) (h2 : fd.params.args.map (·.arg) = [x]) (h3 : fd.params.kwonlyargs = []) (h4 : fd.params.vararg = some va) (h5 : fd.params.kwarg = none) (h6 : fd.defaults = .none) (hz : va.arg = z) :
    bindArgs fd ⟨a :: rest, []⟩ = (newTuple rest >>= fun t => pure [(x, a), (z, t)]) := by
  subst hz
  unfold bindArgs
  simp only [h1, h2, h3, h4, h5, h6, List.map_nil, List.nil_append, List.append_nil, List.length_cons, List.length_nil, List.zip_cons_cons, List.zip_nil_left, List.forIn_nil, pure_bind]
  show (seqItems? Value.none >>= _) = _
  have : seqItems? Value.none = pure none := by rfl
  rw [this]
  simp [List.lookup]
section
variable {w : World} {A : Around} {env : Env} {h₀ : Heap} {m : Str → Option Value} {G : LedT} {hp : Heap} {g : Array GenState} {d : Drawn} {tk : Nat} {os : OsState} {Q E : Value → Shared → Prop}
theorem Cx.enterV {name qual : Str} {params : Arguments} {body : List Stmt} {scope : Scope} {dV kV doc pm cdv ct oc : Value} {an od : Option Addr} {osl : Array (Option Value)} {f : Addr} {args rest : List Value} {binds : Value → List (Str × Value)}
    (C : Cx w A env h₀ hp m G)
    (ho : (Mine.hd.heap_1 w.params).lookup f = some ⟨oc, od, .func (fnOf name qual params body scope dV kV doc pm an cdv ct), osl⟩) (hcd : codeIn (Mine.hd.heap_1 w.params) cdv qual = true)
    (hroom : A.depth < recursionLimit)
    (hb : bindArgs (fnOf name qual params body scope dV kV doc pm an cdv ct) ⟨args, []⟩ = (newTuple rest >>= fun t => pure (binds t))) (hz : rest.length < 2 ^ 20) (hloc : ∀ v, ∀ y ∈ binds v, scope.names.lookup y.1 = some .local)
    (hco : scope.isCoroutine = false) (hgen : scope.isGenerator = false) (hk : scope.kind = .function) (hcell : ∀ x ∈ scope.names, x.2 ≠ .cell)
    (h : ∀ D gb L' h₁ tk', (∀ p ∈ G, p.1 < D) → Cx w (A.deeper (envOf qual scope L' f cdv)) (envOf qual scope L' f cdv) gb h₁ (fun y => (binds (.ref D)).reverse.lookup y) ((D, tupOf rest.toArray 0) :: G) →
      wpAny (model P w) (A.deeper (envOf qual scope L' f cdv)) (execs body (envOf qual scope L' f cdv))
        (Leave w A env h₀ m (A.deeper (envOf qual scope L' f cdv)) (envOf qual scope L' f cdv) gb Q)
        (fun _ _ => False) ⟨h₁, g, d, tk', os⟩) :
    wpAny (model P w) A (call (.ref f) args) Q E ⟨hp, g, d, tk, os⟩ := by
  have D0 := C.D
  have lt0 := C.lt
  obtain ⟨⟨A₀, base, outer, B, hA, hXB, hTB, hDi⟩, F, N, D, X, ⟨mean, mg, mb, T⟩, hf, hke⟩ := C
  refine wpAny_call ?_
  have X' := X.keeps F.keep
  refine codeAny_call_function (fd := fnOf name qual params body scope dV kV doc pm an cdv ct) (body := body) hroom (X' _ _ ho) rfl hco hgen rfl (codeRec_of X' hcd) ?_
  rw [hb]
  refine wpAny_bind (newTuple_N F N (fun h' F' N' => wpAny_pure ?_) (by have : sizeLine = 2 ^ 24 := rfl; (exact Mine.o39 hz this)))
  refine kp_frame (cl := []) (s := ⟨h', g, d, tk, os⟩) B F' N' T.nolimit hA hf hke (hloc _) (fun gb L' h₁ FG FL NG BG st' => ?_) hcell hk
  refine wpAny_mono (h hp.objs.size gb L' h₁ _ lt0 ⟨⟨_, _, _, BG, ?_, hXB, hTB, dictsPush hf FG hDi⟩, FL, NG, D0.cons lt0, X.keeps st', ⟨mean, mg, mb, T.keeps st'⟩, rfl, hk⟩) (fun fl s' x => ?_) (fun _ _ x => x.elim)
  · show (A.deeper (envOf qual scope L' f cdv)).frames = _
    rw [Around.deeper]; show A.frames.map _ = _; rw [hA]; rfl
  · (refine Mine.e2a2 x ?_; clear x; rintro m' G' C' k)
    exact leaveK_ C'.F C'.N fun kF kN => by
      have := k ⟨⟨A₀, base, outer, B, hA, hXB, hTB, hDi⟩, kF, kN, C'.D, X, ⟨mean, mg, mb, T⟩, hf, hke⟩
      cases fl <;> exact this
theorem Cx.enterVC {name qual : Str} {params : Arguments} {body : List Stmt} {scope : Scope} {dV kV doc pm cdv ct oc : Value} {an od : Option Addr} {osl : Array (Option Value)} {f : Addr} {args rest : List Value} {binds : Value → List (Str × Value)} {R : Result → Shared → Prop}
    (C : Cx w A env h₀ hp m G)
    (ho : (Mine.hd.heap_1 w.params).lookup f = some ⟨oc, od, .func (fnOf name qual params body scope dV kV doc pm an cdv ct), osl⟩) (hcd : codeIn (Mine.hd.heap_1 w.params) cdv qual = true)
    (hroom : A.depth < recursionLimit)
    (hb : bindArgs (fnOf name qual params body scope dV kV doc pm an cdv ct) ⟨args, []⟩ = (newTuple rest >>= fun t => pure (binds t))) (hz : rest.length < 2 ^ 20) (hloc : ∀ v, ∀ y ∈ binds v, scope.names.lookup y.1 = some .local)
    (hco : scope.isCoroutine = false) (hgen : scope.isGenerator = false) (hk : scope.kind = .function) (hcell : ∀ x ∈ scope.names, x.2 ≠ .cell)
    (h : ∀ D gb L' h₁ tk', (∀ p ∈ G, p.1 < D) → Cx w (A.deeper (envOf qual scope L' f cdv)) (envOf qual scope L' f cdv) gb h₁ (fun y => (binds (.ref D)).reverse.lookup y) ((D, tupOf rest.toArray 0) :: G) →
      wpAny (model P w) (A.deeper (envOf qual scope L' f cdv)) (execs body (envOf qual scope L' f cdv))
        (Leave w A env h₀ m (A.deeper (envOf qual scope L' f cdv)) (envOf qual scope L' f cdv) gb fun v s' => R (.ok (.ret v)) s')
        (fun _ _ => False) ⟨h₁, g, d, tk', os⟩) :
    codeAny (model P w) A (.call (.ref f) ⟨args, []⟩) R ⟨hp, g, d, tk, os⟩ := by
  have D0 := C.D
  have lt0 := C.lt
  obtain ⟨⟨A₀, base, outer, B, hA, hXB, hTB, hDi⟩, F, N, D, X, ⟨mean, mg, mb, T⟩, hf, hke⟩ := C
  have X' := X.keeps F.keep
  refine codeAny_call_function (fd := fnOf name qual params body scope dV kV doc pm an cdv ct) (body := body) hroom (X' _ _ ho) rfl hco hgen rfl (codeRec_of X' hcd) ?_
  rw [hb]
  refine wpAny_bind (newTuple_N F N (fun h' F' N' => wpAny_pure ?_) (by have : sizeLine = 2 ^ 24 := rfl; (exact Mine.o39 hz this)))
  refine kp_frame (cl := []) (s := ⟨h', g, d, tk, os⟩) B F' N' T.nolimit hA hf hke (hloc _) (fun gb L' h₁ FG FL NG BG st' => ?_) hcell hk
  refine wpAny_mono (h hp.objs.size gb L' h₁ _ lt0 ⟨⟨_, _, _, BG, ?_, hXB, hTB, dictsPush hf FG hDi⟩, FL, NG, D0.cons lt0, X.keeps st', ⟨mean, mg, mb, T.keeps st'⟩, rfl, hk⟩) (fun fl s' x => ?_) (fun _ _ x => x.elim)
  · show (A.deeper (envOf qual scope L' f cdv)).frames = _
    rw [Around.deeper]; show A.frames.map _ = _; rw [hA]; rfl
  · (refine Mine.e2a2 x ?_; clear x; rintro m' G' C' k)
    exact leaveK_ C'.F C'.N fun kF kN => by
      have := k ⟨⟨A₀, base, outer, B, hA, hXB, hTB, hDi⟩, kF, kN, C'.D, X, ⟨mean, mg, mb, T⟩, hf, hke⟩
      cases fl <;> exact this
theorem Cx.enterC {name qual : Str} {params : Arguments} {body : List Stmt} {scope : Scope} {dV kV doc pm cdv ct oc : Value} {an od : Option Addr} {osl : Array (Option Value)} {f : Addr} {args : List Value} {binds : List (Str × Value)} {R : Result → Shared → Prop}
    (C : Cx w A env h₀ hp m G)
    (ho : (Mine.hd.heap_1 w.params).lookup f = some ⟨oc, od, .func (fnOf name qual params body scope dV kV doc pm an cdv ct), osl⟩) (hcd : codeIn (Mine.hd.heap_1 w.params) cdv qual = true)
    (hroom : A.depth < recursionLimit)
    (hbind : BindsTo ⟨hp, g, d, tk, os⟩ (fnOf name qual params body scope dV kV doc pm an cdv ct) ⟨args, []⟩ binds) (hloc : ∀ y ∈ binds, scope.names.lookup y.1 = some .local)
    (hco : scope.isCoroutine = false) (hgen : scope.isGenerator = false) (hk : scope.kind = .function) (hcell : ∀ x ∈ scope.names, x.2 ≠ .cell)
    (h : ∀ gb L' h₁ tk', Cx w (A.deeper (envOf qual scope L' f cdv)) (envOf qual scope L' f cdv) gb h₁ (fun y => binds.reverse.lookup y) G → (∀ p ∈ G, p.1 < L') →
      wpAny (model P w) (A.deeper (envOf qual scope L' f cdv)) (execs body (envOf qual scope L' f cdv))
        (Leave w A env h₀ m (A.deeper (envOf qual scope L' f cdv)) (envOf qual scope L' f cdv) gb fun v s' => R (.ok (.ret v)) s')
        (fun _ _ => False) ⟨h₁, g, d, tk', os⟩) :
    codeAny (model P w) A (.call (.ref f) ⟨args, []⟩) R ⟨hp, g, d, tk, os⟩ := by
  obtain ⟨⟨A₀, base, outer, B, hA, hXB, hTB, hDi⟩, F, N, D, X, ⟨mean, mg, mb, T⟩, hf, hke⟩ := C
  have X' := X.keeps F.keep
  refine callX_plain (cl := []) B F N T.nolimit hA hf hke (X' _ _ ho) rfl (codeRec_of X' hcd) hroom hbind hloc (fun gb L' h₁ FG F' N' B' st' lt => ?_) hcell hco hgen hk
  refine wpAny_mono (h gb L' h₁ _ ⟨⟨_, _, _, B', ?_, hXB, hTB, dictsPush hf FG hDi⟩, F', N', D, X.keeps st', ⟨mean, mg, mb, T.keeps st'⟩, rfl, hk⟩ lt) (fun fl s' x => ?_) (fun _ _ x => x.elim)
  · show (A.deeper (envOf qual scope L' f cdv)).frames = _
    rw [Around.deeper]; show A.frames.map _ = _; rw [hA]; rfl
  · (refine Mine.e2a2 x ?_; clear x; rintro m' G' C' k)
    exact leaveK_ C'.F C'.N fun kF kN => by
      have := k ⟨⟨A₀, base, outer, B, hA, hXB, hTB, hDi⟩, kF, kN, C'.D, X, ⟨mean, mg, mb, T⟩, hf, hke⟩
      cases fl <;> exact this
theorem Cx.under (C : Cx w A env h₀ hp m G) {args : Args} : Cx w (A.under (.builtin "type.__call__" args)) env h₀ hp m G := by
  obtain ⟨⟨A₀, base, outer, B, hA, hXB, hTB, hDi⟩, F, N, D, X, T, hf, hke⟩ := C
  exact ⟨⟨A₀, base, outer, B, hA, hXB, hTB, hDi⟩, F, N, D, X, T, hf, hke⟩
theorem Cx.over (C : Cx w (A.under (.builtin "type.__call__" args)) env h₀ hp m G) : Cx w A env h₀ hp m G := by
  obtain ⟨⟨A₀, base, outer, B, hA, hXB, hTB, hDi⟩, F, N, D, X, T, hf, hke⟩ := C
  exact ⟨⟨A₀, base, outer, B, hA, hXB, hTB, hDi⟩, F, N, D, X, T, hf, hke⟩
/-- an instance of an own class is made -/
theorem Cx.make {c fI : Addr} {pos : List Value} (C : Cx w A env h₀ hp m G) (hm : makesIn (Mine.hd.heap_1 w.params) c = true) (hi : findIn (Mine.hd.heap_1 w.params) (.ref c) "__init__" = some (some (.ref fI))) (hf : isFn (Mine.hd.heap_1 w.params) (.ref fI) = true)
    (h : ∀ x dx h', Cx w (A.under (.builtin "type.__call__" ⟨.ref c :: pos, []⟩)) env h₀ h' m ((x, instObj c dx) :: (dx, dictOf [] 0) :: G) → (∀ p ∈ G, p.1 < dx) → dx < x →
      codeAny (model P w) (A.under (.builtin "type.__call__" ⟨.ref c :: pos, []⟩)) (.call (.ref fI) ⟨.ref x :: pos, []⟩) (InitBack x fun r s' => match r with | .ok (.ret v) => Q v s' | .ok _ => False | .error e => E e s') ⟨h', g, d, tk, os⟩) :
    wpAny (model P w) A (call (.ref c) pos) Q E ⟨hp, g, d, tk, os⟩ := by
  refine call_cls C.F C.X C.N hm hi hf fun x dx h' F' N' l1 l2 => h x dx h' (Cx.under ⟨C.B, F', N', ?_, C.X, C.T, C.hf, C.hke⟩) l1 l2
  refine (C.D.cons l1).cons fun p hp' => ?_
  rcases List.mem_cons.mp hp' with rfl | hp'
  · exact l2
  · exact Nat.lt_trans (l1 p hp') l2
end
end Mine
end TSo1

section TSo2
open PySem PySem.W PyProof.Rows PySem.Calls
set_option maxRecDepth 100000
namespace Mine
/-- what the written part says of an attribute kept in an instance's dict -/
noncomputable def ownAttr (K : Frag) (c : Addr) (name : Str) : Bool := plainGet K c name && hasDictIn K c && (match findIn K (.ref c) name with | some attr => noGet K attr | none => false)
noncomputable def setOwn (K : Frag) (c : Addr) (name : Str) : Bool := (findIn K (.ref c) "__setattr__" == some (some (.builtin "object.__setattr__"))) && plainOver K c && (takerIn K c name == some none) && hasDictIn K c
/-- a slot -/
noncomputable def slotAttr (K : Frag) (c p : Addr) (name : Str) (i : Nat) : Bool := plainGet K c name && isClsIn K c && (findIn K (.ref c) name == some (some (.ref p))) && (specialIn K (.ref p) "__get__" == some (some (.builtin "member_descriptor.__get__"))) && (takesIn K (.ref p) == some true) && (slotIn K p c == some i) &&
  (findIn K (.ref c) "__setattr__" == some (some (.builtin "object.__setattr__"))) && plainOver K c && (takerIn K c name == some (some (.ref p))) && (typeIn K (.ref p) == some (.type "member_descriptor")) && decide (i < 1000)
/-- a method -/
noncomputable def methAttr (K : Frag) (c f : Addr) (name : Str) : Bool := plainGet K c name && (findIn K (.ref c) name == some (some (.ref f))) && isFn K (.ref f)
theorem own_137_node2info (w : World) : ownAttr (Mine.hd.heap_1 w.params) 137 (Str.ofString "_node2info") = true := by kernel_rfl
theorem set_137_node2info (w : World) : setOwn (Mine.hd.heap_1 w.params) 137 (Str.ofString "_node2info") = true := by kernel_rfl
theorem own_137_ready_nodes (w : World) : ownAttr (Mine.hd.heap_1 w.params) 137 (Str.ofString "_ready_nodes") = true := by kernel_rfl
theorem set_137_ready_nodes (w : World) : setOwn (Mine.hd.heap_1 w.params) 137 (Str.ofString "_ready_nodes") = true := by kernel_rfl
theorem own_137_npassedout (w : World) : ownAttr (Mine.hd.heap_1 w.params) 137 (Str.ofString "_npassedout") = true := by kernel_rfl
theorem set_137_npassedout (w : World) : setOwn (Mine.hd.heap_1 w.params) 137 (Str.ofString "_npassedout") = true := by kernel_rfl
theorem own_137_nfinished (w : World) : ownAttr (Mine.hd.heap_1 w.params) 137 (Str.ofString "_nfinished") = true := by kernel_rfl
theorem set_137_nfinished (w : World) : setOwn (Mine.hd.heap_1 w.params) 137 (Str.ofString "_nfinished") = true := by kernel_rfl
theorem own_193_root (w : World) : ownAttr (Mine.hd.heap_1 w.params) 193 (Str.ofString "root") = true := by kernel_rfl
theorem set_193_root (w : World) : setOwn (Mine.hd.heap_1 w.params) 193 (Str.ofString "root") = true := by kernel_rfl
theorem set_193_parent_map (w : World) : setOwn (Mine.hd.heap_1 w.params) 193 (Str.ofString "parent_map") = true := by kernel_rfl
theorem own_193_iter (w : World) : ownAttr (Mine.hd.heap_1 w.params) 193 (Str.ofString "iter") = true := by kernel_rfl
theorem set_193_iter (w : World) : setOwn (Mine.hd.heap_1 w.params) 193 (Str.ofString "iter") = true := by kernel_rfl
theorem slot_node (w : World) : slotAttr (Mine.hd.heap_1 w.params) 40 41 (Str.ofString "node") 0 = true := by kernel_rfl
theorem slot_npredecessors (w : World) : slotAttr (Mine.hd.heap_1 w.params) 40 42 (Str.ofString "npredecessors") 1 = true := by kernel_rfl
theorem slot_successors (w : World) : slotAttr (Mine.hd.heap_1 w.params) 40 43 (Str.ofString "successors") 2 = true := by kernel_rfl
theorem meth_get_nodeinfo (w : World) : methAttr (Mine.hd.heap_1 w.params) 137 80 (Str.ofString "_get_nodeinfo") = true := by kernel_rfl
theorem meth_add (w : World) : methAttr (Mine.hd.heap_1 w.params) 137 87 (Str.ofString "add") = true := by kernel_rfl
theorem meth_prepare (w : World) : methAttr (Mine.hd.heap_1 w.params) 137 92 (Str.ofString "prepare") = true := by kernel_rfl
theorem meth_get_ready (w : World) : methAttr (Mine.hd.heap_1 w.params) 137 99 (Str.ofString "get_ready") = true := by kernel_rfl
theorem meth_is_active (w : World) : methAttr (Mine.hd.heap_1 w.params) 137 106 (Str.ofString "is_active") = true := by kernel_rfl
theorem meth_done (w : World) : methAttr (Mine.hd.heap_1 w.params) 137 120 (Str.ofString "done") = true := by kernel_rfl
theorem meth_find_cycle (w : World) : methAttr (Mine.hd.heap_1 w.params) 137 127 (Str.ofString "_find_cycle") = true := by kernel_rfl
theorem makes_40 (w : World) : makesIn (Mine.hd.heap_1 w.params) 40 = true := by kernel_rfl
theorem init_40 (w : World) : findIn (Mine.hd.heap_1 w.params) (.ref 40) "__init__" = some (some (.ref 36)) := by kernel_rfl
theorem isfn_36 (w : World) : isFn (Mine.hd.heap_1 w.params) (.ref 36) = true := by kernel_rfl
theorem makes_137 (w : World) : makesIn (Mine.hd.heap_1 w.params) 137 = true := by kernel_rfl
theorem init_137 (w : World) : findIn (Mine.hd.heap_1 w.params) (.ref 137) "__init__" = some (some (.ref 73)) := by kernel_rfl
theorem isfn_73 (w : World) : isFn (Mine.hd.heap_1 w.params) (.ref 73) = true := by kernel_rfl
theorem makes_193 (w : World) : makesIn (Mine.hd.heap_1 w.params) 193 = true := by kernel_rfl
theorem init_193 (w : World) : findIn (Mine.hd.heap_1 w.params) (.ref 193) "__init__" = some (some (.ref 190)) := by kernel_rfl
theorem isfn_190 (w : World) : isFn (Mine.hd.heap_1 w.params) (.ref 190) = true := by kernel_rfl
section
variable {w : World} {A : Around} {env : Env} {h₀ : Heap} {m : Str → Option Value} {G : LedT} {s : Shared} {hp : Heap} {g : Array GenState} {d : Drawn} {tk : Nat} {os : OsState} {Q E : Value → Shared → Prop}
theorem Cx.instAt (C : Cx w A env h₀ hp m G) {x dx c : Addr} {sl : Array (Option Value)} {od : Obj} (hx : lk G x = some ⟨.ref c, some dx, .plain, sl⟩) (hd : lk G dx = some od) : InstAt hp x ⟨.ref c, some dx, .plain, sl⟩ c (some od) := InstAt.of_news C.N (lk_mem hx) (lk_mem hd)
theorem Cx.getD (C : Cx w A env h₀ hp m G) {x dx c : Addr} {sl : Array (Option Value)} {es : List DictEntry} {n : Nat} {name : Str} {v : Value} {ex : Bool} (k : ownAttr (Mine.hd.heap_1 w.params) c name = true) (hx : lk G x = some ⟨.ref c, some dx, .plain, sl⟩) (hd : lk G dx = some (dictOf es n))
    (hl : getL name es = some (some v)) (hv : handedIn v = true) (h : ∀ tk', Q v ⟨hp, g, d, tk', os⟩) : wpAny (model P w) A (getAttr (.ref x) name ex) Q E ⟨hp, g, d, tk, os⟩ := by
  unfold ownAttr at k
  simp only [Bool.and_eq_true] at k
  obtain ⟨⟨k1, k2⟩, k3⟩ := k
  split at k3
  · rename_i attr ha
    exact get_own C.F C.X (C.instAt hx hd) k1 k2 ha k3 hl hv (h _)
  · cases k3
theorem Cx.setD (C : Cx w A env h₀ hp m G) {x dx c : Addr} {sl : Array (Option Value)} {es : List DictEntry} {n : Nat} {name : Str} {v : Value} {Q : Unit → Shared → Prop} (k : setOwn (Mine.hd.heap_1 w.params) c name = true) (hx : lk G x = some ⟨.ref c, some dx, .plain, sl⟩) (hd : lk G dx = some (dictOf es n))
    (hl : (getL name es).isSome = true) (hz : es.length < 100) 
    (h : ∀ h' tk' t, Cx w A env h₀ h' m (st G dx (dictOf (putL name (PyData.keyHash w.params name) (.str name t) v es) (putN name es n))) → Q () ⟨h', g, d, tk', os⟩) : wpAny (model P w) A (setAttr (.ref x) name v) Q E ⟨hp, g, d, tk, os⟩ := by
  unfold setOwn at k
  simp only [Bool.and_eq_true, beq_iff_eq] at k
  obtain ⟨⟨⟨k1, k2⟩, k3⟩, k4⟩ := k
  refine set_dict C.F C.X C.N (C.instAt hx hd) rfl k1 k2 k3 k4 hl rfl (upd_of C.D hd) ?_ fun h' F' N' => h h' _ _ (C.of F' N' (C.D.st hd))
  have : ∀ (l : List DictEntry) (a : Int) (b v : Value), (putL name a b v l).length ≤ l.length + 1 := by
    intro l a b v
    induction l with
    | nil => simp [putL]
    | cons x r ih => simp only [putL]; split <;> simp <;> (exact Mine.o107 ih)
  exact Nat.le_trans (this _ _ _ _) (Mine.o108 hz)
theorem Cx.getS (C : Cx w A env h₀ hp m G) {x dx c p : Addr} {sl : Array (Option Value)} {od : Obj} {name : Str} {i : Nat} {v : Value} {ex : Bool} (k : slotAttr (Mine.hd.heap_1 w.params) c p name i = true) (hx : lk G x = some ⟨.ref c, some dx, .plain, sl⟩) (hd : lk G dx = some od)
    (hl : (sl[i]?).join = some v) (hv : handedIn v = true) (h : ∀ tk', Q v ⟨hp, g, d, tk', os⟩) : wpAny (model P w) A (getAttr (.ref x) name ex) Q E ⟨hp, g, d, tk, os⟩ := by
  unfold slotAttr at k
  simp only [Bool.and_eq_true, beq_iff_eq] at k
  obtain ⟨⟨⟨⟨⟨⟨⟨⟨⟨⟨k1, k2⟩, k3⟩, k4⟩, k5⟩, k6⟩, k7⟩, k8⟩, k9⟩, k10⟩, k11⟩ := k
  exact get_slot C.F C.X (C.instAt hx hd) k1 k2 k3 k4 k5 k6 hl hv (h _)
theorem Cx.setS (C : Cx w A env h₀ hp m G) {x dx c p : Addr} {sl : Array (Option Value)} {od : Obj} {name : Str} {i : Nat} {v : Value} {Q : Unit → Shared → Prop} (k : slotAttr (Mine.hd.heap_1 w.params) c p name i = true) (hx : lk G x = some ⟨.ref c, some dx, .plain, sl⟩) (hd : lk G dx = some od)
    (h : ∀ h' tk', Cx w A env h₀ h' m (st G x ⟨.ref c, some dx, .plain, (sl ++ Array.replicate (i + 1 - sl.size) none).setIfInBounds i (some v)⟩) → Q () ⟨h', g, d, tk', os⟩) : wpAny (model P w) A (setAttr (.ref x) name v) Q E ⟨hp, g, d, tk, os⟩ := by
  unfold slotAttr at k
  simp only [Bool.and_eq_true, beq_iff_eq, decide_eq_true_eq] at k
  obtain ⟨⟨⟨⟨⟨⟨⟨⟨⟨⟨k1, k2⟩, k3⟩, k4⟩, k5⟩, k6⟩, k7⟩, k8⟩, k9⟩, k10⟩, k11⟩ := k
  exact set_slot C.F C.X C.N (C.instAt hx hd) k7 k8 k9 k10 k6 k11 rfl rfl (upd_of C.D hx) fun h' F' N' => h h' _ (C.of F' N' (C.D.st hx))
theorem Cx.meth (C : Cx w A env h₀ hp m G) {x dx c f : Addr} {sl : Array (Option Value)} {es : List DictEntry} {n : Nat} {name : Str} {pl : Sem Bool} {Q : Value × List Value → Shared → Prop} (k : methAttr (Mine.hd.heap_1 w.params) c f name = true) (hx : lk G x = some ⟨.ref c, some dx, .plain, sl⟩) (hd : lk G dx = some (dictOf es n))
    (hl : getL name es = some none) (h : Q (.ref f, [.ref x]) ⟨hp, g, d, tk, os⟩) : wpAny (model P w) A (getMethod (.ref x) name pl) Q E ⟨hp, g, d, tk, os⟩ := by
  unfold methAttr at k
  simp only [Bool.and_eq_true, beq_iff_eq] at k
  obtain ⟨⟨k1, k2⟩, k3⟩ := k
  exact method_inst C.F C.X (C.instAt hx hd) k1 k2 k3 hl h
/-- a dict of ints' keys -/
def IsDict (w : World) (G : LedT) (a : Addr) (kvs : List (Int × Value)) : Prop := (a == sysModules) = false ∧ ∃ o, lk G a = some o ∧ o.IsDictOf (intKind P w) kvs
theorem IsDict.cls {a : Addr} {kvs : List (Int × Value)} (h : IsDict w G a kvs) : ∃ o, lk G a = some o ∧ o.cls = .type "dict" ∧ ∀ vs, o.data ≠ .fields vs := by
  obtain ⟨_, o, ho, es, ep, he, hd, _⟩ := h
  exact ⟨o, ho, he.1, fun vs q => by rw [hd] at q; cases q⟩
theorem IsDict.keep {a : Addr} {kvs : List (Int × Value)} {G' : LedT} (h : IsDict w G a kvs) (k : ∀ o, lk G a = some o → lk G' a = some o) : IsDict w G' a kvs := by
  obtain ⟨h1, o, ho, hd⟩ := h
  exact ⟨h1, o, k _ ho, hd⟩
theorem IsDict.ne {a b : Addr} {kvs : List (Int × Value)} {o : Obj} (h : IsDict w G a kvs) (hb : lk G b = some o) (hc : o.cls ≠ .type "dict") : a ≠ b := by
  (refine Mine.e1a3 h.cls ?_; rintro o' ho hc' _)
  exact ne_cls ho hb (by rw [hc']; exact fun q => hc q.symm)
theorem Cx.dictAt (C : Cx w A env h₀ hp m G) {a : Addr} {kvs : List (Int × Value)} (h : IsDict w G a kvs) : hp.DictOf (intKind P w) a kvs := by
  obtain ⟨_, o, ho, hd⟩ := h
  exact Heap.dictOf_iff.mpr ⟨o, C.at ho, hd⟩
theorem Cx.newDict (C : Cx w A env h₀ hp m G) {pos : Pos} (h : ∀ a h', Cx w A env h₀ h' m ((a, dictOf [] 0) :: G) → IsDict w ((a, dictOf [] 0) :: G) a [] → (∀ p ∈ G, p.1 < a) → Q (.ref a) ⟨h', g, d, tk, os⟩) : wpAny (model P w) A (eval (.Dict [] [] pos) env) Q E ⟨hp, g, d, tk, os⟩ := by
  (refine Mine.e3a1 C.T ?_; rintro _ _ _ T)
  have C' := C.push (dictOf [] 0) rfl
  refine wpAny_Dict_empty (h _ _ C' ⟨C.F.notModules (modules_low T.nolimit), _, lk_cons_eq, ?_⟩ C.lt)
  (refine Mine.e1a2 (Heap.dictOf_iff.mp (Heap.DictOf.new (knd := intKind P w) hp)) ?_; rintro o ho hd)
  have : o = dictOf [] 0 := by
    have e := C'.at lk_cons_eq
    rw [show hp.push (dictOf [] 0) = hp.push { cls := .type "dict", data := .dict #[] } from rfl, ho] at e
    exact Option.some.inj e
  rw [this] at hd; exact hd
theorem Cx.dgetM (C : Cx w A env h₀ hp m G) {a : Addr} {kvs : List (Int × Value)} {pl : Sem Bool} {Q : Value × List Value → Shared → Prop} (hd : IsDict w G a kvs) (h : Q (.builtin "dict.get", [.ref a]) ⟨hp, g, d, tk, os⟩) : wpAny (model P w) A (getMethod (.ref a) "get" pl) Q E ⟨hp, g, d, tk, os⟩ := by
  obtain ⟨_, o, ho, hd⟩ := hd
  exact kdg_method C.N (lk_mem ho) hd h
theorem Cx.dget (C : Cx w A env h₀ hp m G) {a : Addr} {kvs : List (Int × Value)} {k : Int} {t : Tok} (hd : IsDict w G a kvs) (h : ∀ tk', Q ((valueAt kvs k).getD .none) ⟨hp, g, d, tk', os⟩) : wpAny (model P w) A (call (.builtin "dict.get") [.ref a, .int k t]) Q E ⟨hp, g, d, tk, os⟩ := by
  obtain ⟨lo, o, ho, hd⟩ := hd
  exact kdg_get1 C.N (lk_mem ho) hd lo (intKind_is _ _ _ _) _ rfl (h _)
theorem Cx.ditem (C : Cx w A env h₀ hp m G) {a : Addr} {kvs : List (Int × Value)} {k : Int} {t : Tok} {v : Value} {value slice : Expr} (hd : IsDict w G a kvs) (hv : valueAt kvs k = some v) (h : ∀ tk', Q v ⟨hp, g, d, tk', os⟩)
    (hs : subscripted slice false (.ref a) (.int k t) = operate [.ref a, .int k t] (getItem (.ref a) (.int k t)) := by with_unfolding_all rfl) : wpAny (model P w) A (subscriptTail value slice (.ref a) (.int k t)) Q E ⟨hp, g, d, tk, os⟩ := by
  obtain ⟨lo, o, ho, hd⟩ := hd
  exact kdt_tail C.N (lk_mem ho) hd (kdt_getItem C.N (lk_mem ho) hd (intKind_is _ _ _ _) hv (h _)) hs
theorem Cx.dset (C : Cx w A env h₀ hp m G) {a : Addr} {kvs : List (Int × Value)} {k : Int} {t : Tok} {v : Value} {Q : Unit → Shared → Prop} (hd : IsDict w G a kvs) (hz : kvs.length < 2 ^ 20)
    (h : ∀ h' tk' o', Cx w A env h₀ h' m (st G a o') → IsDict w (st G a o') a (stored kvs k v) → Q () ⟨h', g, d, tk', os⟩) : wpAny (model P w) A (PySem.setItem (.ref a) (.int k t) v) Q E ⟨hp, g, d, tk, os⟩ := by
  obtain ⟨lo, o, ho, hd⟩ := id hd
  refine wpAny_setItem_pairs (intKind_is _ _ _ _) (C.dictAt ‹_›) (fun h' hm' hs' => ?_) (by have : sizeLine = 2 ^ 24 := rfl; (exact Mine.o39 hz this))
  (refine Mine.e1a2 (Heap.dictOf_iff.mp hm') ?_; rintro o' ho' hd')
  exact h h' _ o' (C.upd ho hs' ho') ⟨lo, o', lk_st_eq, hd'⟩
theorem Cx.din (C : Cx w A env h₀ hp m G) {a : Addr} {kvs : List (Int × Value)} {k : Int} {t : Tok} (hd : IsDict w G a kvs) (h : ∀ tk', Q (.bool (valueAt kvs k).isSome) ⟨hp, g, d, tk', os⟩) : wpAny (model P w) A (compareOp .In (.int k t) (.ref a)) Q E ⟨hp, g, d, tk, os⟩ :=
  wpAny_in_of (intKind_is _ _ _ _) hd.1 (C.dictAt hd).mapOf (h _)
theorem Cx.dnotin (C : Cx w A env h₀ hp m G) {a : Addr} {kvs : List (Int × Value)} {k : Int} {t : Tok} (hd : IsDict w G a kvs) (h : ∀ tk', Q (.bool (!(valueAt kvs k).isSome)) ⟨hp, g, d, tk', os⟩) : wpAny (model P w) A (compareOp .NotIn (.int k t) (.ref a)) Q E ⟨hp, g, d, tk, os⟩ :=
  wpAny_notIn_of (intKind_is _ _ _ _) hd.1 (C.dictAt hd).mapOf (h _)
end
end Mine
end TSo2

section TSo3
open PySem PySem.W PyProof.Rows PySem.Calls
namespace Mine
abbrev nodeObj (dx su : Addr) (np : Int) (k : Nat) (t1 t2 : Tok) : Obj := ⟨.ref 40, some dx, .plain, #[some (.int (k : Int) t1), some (.int np t2), some (.ref su)]⟩
/-- all of the elder ledger stays -/
def Grow (G G' : LedT) : Prop := ∀ a o, lk G a = some o → lk G' a = some o
theorem Grow.cons {G : LedT} {a : Addr} {o : Obj} (h : lk G a = none) : Grow G ((a, o) :: G) := fun _ _ e => lk_cons_ne (lk_ne e h) e
section
variable {w : World} {A : Around} {env : Env} {h₀ : Heap} {m : Str → Option Value} {G : LedT} {hp : Heap} {g : Array GenState} {d : Drawn} {tk : Nat} {os : OsState} {Q E : Value → Shared → Prop}
theorem Cx.newList (C : Cx w A env h₀ hp m G) {vs : List Value} (hz : vs.length < 2 ^ 20) (h : ∀ a h', Cx w A env h₀ h' m ((a, listOf vs.toArray 0) :: G) → lk G a = none → Q (.ref a) ⟨h', g, d, tk, os⟩) : wpAny (model P w) A (PySem.newList vs) Q E ⟨hp, g, d, tk, os⟩ := by
  refine newList_N C.F C.N (fun h' F' N' => h _ h' (C.of F' N' (C.D.cons C.lt)) C.fresh) (by have : sizeLine = 2 ^ 24 := rfl; (exact Mine.o39 hz this))
theorem Cx.newTuple (C : Cx w A env h₀ hp m G) {vs : List Value} (hz : vs.length < 2 ^ 20) (h : ∀ a h', Cx w A env h₀ h' m ((a, tupOf vs.toArray 0) :: G) → lk G a = none → Q (.ref a) ⟨h', g, d, tk, os⟩) : wpAny (model P w) A (PySem.newTuple vs) Q E ⟨hp, g, d, tk, os⟩ := by
  refine newTuple_N C.F C.N (fun h' F' N' => h _ h' (C.of F' N' (C.D.cons C.lt)) C.fresh) (by have : sizeLine = 2 ^ 24 := rfl; (exact Mine.o39 hz this))
end
set_option maxRecDepth 100000
set_option maxHeartbeats 8000000
theorem node_ct {w : World} {A : Around} {env : Env} {h₀ : Heap} {m : Str → Option Value} {G : LedT} {hp : Heap} {g : Array GenState} {d : Drawn} {tk : Nat} {os : OsState} {Q E : Value → Shared → Prop}
  {k : Nat} {t : Tok} (C : Cx w A env h₀ hp m G) (hd : A.depth + 3 < recursionLimit) (hu : A.units + 16 < cLine)
  (ret : ∀ h' tk' G' x dx su t1 t2, Cx w A env h₀ h' m G' → Grow G G' → lk G x = none → lk G su = none → lk G dx = none → lk G' x = some (nodeObj dx su 0 k t1 t2) → lk G' dx = some (dictOf [] 0) → lk G' su = some (listOf #[] 0) → Q (.ref x) ⟨h', g, d, tk', os⟩) :
  wpAny (model P w) A (call (.ref 40) [.int (k : Int) t]) Q E ⟨hp, g, d, tk, os⟩ := by
  have e9 : PySem.Challenge.rw_oh0057_01 = PySem.Challenge.rw_oh0057_01 := rfl
  have X := C.X
  revert X e9; k_fill; intro X e9; clear e9
  refine C.make (makes_40 w) (init_40 w) (isfn_36 w) fun x dx h' C0 l1 l2 => ?_
  have hxn : lk G x = none := lk_fresh fun p hp' => Nat.lt_trans (l1 p hp') l2
  have hdn : lk G dx = none := lk_fresh l1
  have hxd : x ≠ dx := Nat.ne_of_gt l2
  k_dflt (refine' C0.enterC (binds := [(Str.ofString "self", Value.ref x), (Str.ofString "node", Value.int (k : Int) t)]) ?k6 ?k7 ?k8 ?k9 ?kB ?c2 ?c3 ?c4 ?c5 ?_; (case k6 => k_is); (case k7 => k_is); (case k8 => exact (show A.depth + 1 < _ by (exact Mine.o221 hd))); (case k9 => exact BindsTo.of_eq rfl); (case c5 => decide); (case kB => exact locs rfl); (case c2 => exact rfl); (case c3 => exact rfl); (case c4 => exact rfl); k_whole; intro gb L' h₁ tk₁ C1 hlt)
  have ed : lk ((x, instObj 40 dx) :: (dx, dictOf [] 0) :: G) dx = some (dictOf [] 0) := lk_cons_ne hxd.symm lk_cons_eq
  refine wpAny_execs_cons (plainObj_wpAny_Assign_Attribute (C1.name rfl (C1.name rfl ?_)))
  refine C1.setS (slot_node w) (lk_cons_eq (o := instObj 40 dx)) ed fun h₂ tk₂ C2 => ?_
  refine wpAny_execs_cons (plainObj_wpAny_Assign_Attribute (c_int fun t2 _ => C2.name rfl ?_))
  refine C2.setS (slot_npredecessors w) lk_st_eq (lk_st_ne hxd.symm ed) fun h₃ tk₃ C3 => ?_
  rw [st_st] at C3
  refine wpAny_execs_cons (plainObj_wpAny_Assign_Attribute (List_ (args_nil ?_)))
  refine C3.newList (by simp) fun su h₄ C4 hsu => C4.name rfl ?_
  have hsx : x ≠ su := fun q => by rw [q, lk_st_eq] at hsu; cases hsu
  have hsd : dx ≠ su := fun q => by rw [q, lk_st_ne (q ▸ hxd.symm) (q ▸ ed)] at hsu; cases hsu
  refine C4.setS (slot_successors w) (lk_cons_ne hsx lk_st_eq) (lk_cons_ne hsd (lk_st_ne hxd.symm ed)) fun h₅ tk₅ C5 => ?_
  have hsn : lk G su = none := by
    cases q : lk G su with
    | none => rfl
    | some o => rw [lk_st_ne (lk_ne q hxn) (lk_cons_ne (lk_ne q hxn) (lk_cons_ne (lk_ne q hdn) q))] at hsu; cases hsu
  refine wpAny_execs_nil ⟨_, _, C5, fun C6 => ⟨rfl, ?_⟩⟩
  refine ret _ _ _ x dx su t t2 C6.over ?_ hxn hsn hdn lk_st_eq (lk_st_ne hxd.symm (lk_cons_ne hsd (lk_st_ne hxd.symm ed))) (lk_st_ne (fun q => hsx q.symm) lk_cons_eq)
  intro a o e
  exact lk_st_ne (lk_ne e hxn) (lk_cons_ne (lk_ne e hsn) (lk_st_ne (lk_ne e hxn) (lk_cons_ne (lk_ne e hxn) (lk_cons_ne (lk_ne e hdn) e))))
end Mine
end TSo3

section TSo4
open PySem PySem.W PyProof.Rows PySem.Calls
namespace Mine
structure SAd where
  S : Addr
  dS : Addr
  N : Addr
  R : Addr
  I : Nat → Addr
  D : Nat → Addr
  Su : Nat → Addr
structure Srt where
  n : Nat
  np : Nat → Int
  su : Nat → List Nat
  ready : Option (List Nat)
  po : Int
  nf : Int
noncomputable def fset {α : Type} (f : Nat → α) (k : Nat) (v : α) : Nat → α := fun j => if j = k then v else f j
theorem fset_eq {α : Type} {f : Nat → α} {k : Nat} {v : α} : fset f k v k = v := by simp [fset]
theorem fset_ne {α : Type} {f : Nat → α} {k j : Nat} {v : α} (h : j ≠ k) : fset f k v j = f j := by simp [fset, h]
def IsN (v : Value) (k : Nat) : Prop := ∃ t, v = .int (k : Int) t
def NodeAt (G : LedT) (a : SAd) (k : Nat) (np : Int) (su : List Nat) : Prop :=
  (∃ t1 t2, lk G (a.I k) = some (nodeObj (a.D k) (a.Su k) np k t1 t2)) ∧ (∃ od, lk G (a.D k) = some od ∧ ∀ vs, od.data ≠ .fields vs) ∧ ∃ its n, lk G (a.Su k) = some (listOf its n) ∧ All2 IsN its.toList su
abbrev sDict (a : SAd) (rv : Value) (po nf : Int) (h1 h2 h3 h4 : Int) (t1 t2 t3 t4 t5 t6 : Tok) : Obj :=
  dictOf [⟨h1, .str (Str.ofString "_node2info") t1, .ref a.N⟩, ⟨h2, .str (Str.ofString "_ready_nodes") t2, rv⟩, ⟨h3, .str (Str.ofString "_npassedout") t3, .int po t5⟩, ⟨h4, .str (Str.ofString "_nfinished") t4, .int nf t6⟩] 4
noncomputable def rdyV (a : SAd) (r : Option (List Nat)) : Value := match r with | none => .none | some _ => .ref a.R
noncomputable def nodeKvs (a : SAd) (n : Nat) : List (Int × Value) := (List.range n).map fun k : Nat => ((k : Int), Value.ref (a.I k))
structure SorterAt (w : World) (G : LedT) (a : SAd) (σ : Srt) : Prop where
  inst : lk G a.S = some (instObj 137 a.dS)
  dict : ∃ h1 h2 h3 h4 t1 t2 t3 t4 t5 t6, lk G a.dS = some (sDict a (rdyV a σ.ready) σ.po σ.nf h1 h2 h3 h4 t1 t2 t3 t4 t5 t6)
  rdy : ∀ l, σ.ready = some l → ∃ its n, lk G a.R = some (listOf its n) ∧ All2 IsN its.toList l
  n2i : IsDict w G a.N (nodeKvs a σ.n)
  ne : a.N ≠ a.dS
  node : ∀ k, k < σ.n → NodeAt G a k (σ.np k) (σ.su k)
  injI : ∀ j k, j < σ.n → k < σ.n → a.I j = a.I k → j = k
  injS : ∀ j k, j < σ.n → k < σ.n → a.Su j = a.Su k → j = k
  rS : σ.ready ≠ none → ∀ k, k < σ.n → a.R ≠ a.Su k
/-- the addresses that a sorter's methods may change -/
def Foot (a : SAd) (n : Nat) (b : Addr) : Prop := b = a.dS ∨ b = a.N ∨ b = a.R ∨ ∃ k, k < n ∧ (b = a.I k ∨ b = a.Su k)
theorem valueAt_none {n : Nat} {f : Nat → Value} {i : Nat} (h : n ≤ i) : valueAt ((List.range n).map fun k : Nat => ((k : Int), f k)) (i : Int) = none := by
  unfold valueAt
  rw [Option.map_eq_none_iff, List.find?_eq_none]
  intro x hx
  (refine Mine.e1a2 (List.mem_map.mp hx) ?_; rintro k hk rfl)
  have := List.mem_range.mp hk
  simp; omega
theorem valueAt_some {n : Nat} {f : Nat → Value} {i : Nat} (h : i < n) : valueAt ((List.range n).map fun k : Nat => ((k : Int), f k)) (i : Int) = some (f i) := by
  refine valueAt_of_get (i := i) ?_ (by simp [h])
  rw [List.map_map]
  have : (List.range n).map ((fun x : Int × Value => x.1) ∘ fun k : Nat => ((k : Int), f k)) = (List.range n).map fun k : Nat => (k : Int) := rfl
  rw [this]
  exact List.Pairwise.map _ (fun a b (h : a ≠ b) => by omega) List.nodup_range
theorem stored_new {n : Nat} {f : Nat → Value} {v : Value} : stored ((List.range n).map fun k : Nat => ((k : Int), f k)) (n : Int) v = (List.range (n + 1)).map fun k : Nat => ((k : Int), fset f n v k) := by
  unfold stored
  rw [if_neg]
  · rw [List.range_succ, List.map_append]
    congr 1
    · refine List.map_congr_left fun k hk => ?_
      have := List.mem_range.mp hk
      rw [fset_ne (Mine.o254 this)]
    · simp [fset]
  · simp; omega
section
variable {w : World} {G : LedT} {a : SAd} {σ : Srt}
theorem lk_some_st {b c : Addr} {o : Obj} (h : ∃ od, lk G b = some od ∧ ∀ vs, od.data ≠ .fields vs) (ho : ∀ vs, o.data ≠ .fields vs) : ∃ od, lk (st G c o) b = some od ∧ ∀ vs, od.data ≠ .fields vs := by
  rw [lk_st]; by_cases q : b = c
  · exact ⟨o, by rw [if_pos q], ho⟩
  · rw [if_neg q]; exact h
/-- nothing that the sorter reads has changed -/
theorem SorterAt.keepF {G' : LedT} (h : SorterAt w G a σ) (k : ∀ b o, lk G b = some o → (∀ vs, o.data ≠ .fields vs) → lk G' b = some o) : SorterAt w G' a σ := by
  obtain ⟨h1, ⟨x1, x2, x3, x4, y1, y2, y3, y4, y5, y6, h2⟩, h3, h4, h5, h6, h7, h8, h9⟩ := h
  refine ⟨k _ _ h1 (by simp), ⟨x1, x2, x3, x4, y1, y2, y3, y4, y5, y6, k _ _ h2 (by simp)⟩, fun l hl => ?_, h4.keep (fun o ho => k _ _ ho ?_), h5, fun j hj => ?_, h7, h8, h9⟩
  · (refine Mine.e2a2 (h3 l hl) ?_; rintro its n e1 e2)
    exact ⟨its, n, k _ _ e1 (by simp), e2⟩
  · (refine Mine.e1a3 h4.cls ?_; rintro o' ho' _ hf)
    rw [ho] at ho'; cases ho'; exact hf
  · obtain ⟨⟨t1, t2, e1⟩, ⟨od, e2, e5⟩, its, n, e3, e4⟩ := h6 j hj
    exact ⟨⟨t1, t2, k _ _ e1 (by simp)⟩, ⟨od, k _ _ e2 e5, e5⟩, its, n, k _ _ e3 (by simp), e4⟩
theorem SorterAt.keep {G' : LedT} (h : SorterAt w G a σ) (k : ∀ b o, lk G b = some o → lk G' b = some o) : SorterAt w G' a σ := h.keepF fun b o e _ => k b o e
theorem SorterAt.up {G₀ G' : LedT} (h : SorterAt w G a σ) (u : Up G₀ G G') : SorterAt w G' a σ := h.keepF fun b o e hf => u b o e (.inr hf)
theorem SorterAt.setNp (h : SorterAt w G a σ) {k : Nat} (hk : k < σ.n) {np : Int} {t1 t2 : Tok} : SorterAt w (st G (a.I k) (nodeObj (a.D k) (a.Su k) np k t1 t2)) a { σ with np := fset σ.np k np } := by
  obtain ⟨h1, ⟨x1, x2, x3, x4, y1, y2, y3, y4, y5, y6, h2⟩, h3, h4, h5, h6, h7, h8, h9⟩ := h
  (refine Mine.e0a3 (h6 k hk) ?_; rintro ⟨u1, u2, ek⟩ _ _)
  refine ⟨lk_st_ne (ne_cls h1 ek (by simp)) h1, ⟨x1, x2, x3, x4, y1, y2, y3, y4, y5, y6, lk_st_ne (ne_cls h2 ek (by simp)) h2⟩, fun l hl => ?_, h4.keep fun o ho => lk_st_ne (h4.ne ek (by simp)) ho, h5, fun j hj => ?_, h7, h8, h9⟩
  · (refine Mine.e2a2 (h3 l hl) ?_; rintro its n e1 e2)
    exact ⟨its, n, lk_st_ne (ne_cls e1 ek (by simp)) e1, e2⟩
  · obtain ⟨⟨v1, v2, e1⟩, e2, its, n, e3, e4⟩ := h6 j hj
    refine ⟨?_, lk_some_st e2 (by simp), its, n, lk_st_ne (ne_cls e3 ek (by simp)) e3, e4⟩
    by_cases q : j = k
    · subst q; dsimp only; rw [fset_eq]; exact ⟨t1, t2, lk_st_eq⟩
    · dsimp only; rw [fset_ne q]; exact ⟨v1, v2, lk_st_ne (fun z => q (h7 j k hj hk z)) e1⟩
theorem SorterAt.setSu (h : SorterAt w G a σ) {k : Nat} (hk : k < σ.n) {its : Array Value} {n : Nat} {l : List Nat} (hl : All2 IsN its.toList l) : SorterAt w (st G (a.Su k) (listOf its n)) a { σ with su := fset σ.su k l } := by
  obtain ⟨h1, ⟨x1, x2, x3, x4, y1, y2, y3, y4, y5, y6, h2⟩, h3, h4, h5, h6, h7, h8, h9⟩ := h
  obtain ⟨_, _, its0, n0, ek, _⟩ := h6 k hk
  refine ⟨lk_st_ne (ne_cls h1 ek (by simp)) h1, ⟨x1, x2, x3, x4, y1, y2, y3, y4, y5, y6, lk_st_ne (ne_cls h2 ek (by simp)) h2⟩, fun l hl => ?_, h4.keep fun o ho => lk_st_ne (h4.ne ek (by simp)) ho, h5, fun j hj => ?_, h7, h8, h9⟩
  · (refine Mine.e2a2 (h3 l hl) ?_; rintro its n e1 e2)
    exact ⟨its, n, lk_st_ne (h9 (by rw [hl]; simp) k hk) e1, e2⟩
  · obtain ⟨⟨v1, v2, e1⟩, e2, its', n', e3, e4⟩ := h6 j hj
    refine ⟨⟨v1, v2, lk_st_ne (ne_cls e1 ek (by simp)) e1⟩, lk_some_st e2 (by simp), ?_⟩
    by_cases q : j = k
    · subst q; dsimp only; rw [fset_eq]; exact ⟨its, n, lk_st_eq, hl⟩
    · dsimp only; rw [fset_ne q]; exact ⟨its', n', lk_st_ne (fun z => q (h8 j k hj hk z)) e3, e4⟩
theorem SorterAt.setD (h : SorterAt w G a σ) {rd : Option (List Nat)} {po nf : Int} {x1 x2 x3 x4 : Int} {y1 y2 y3 y4 y5 y6 : Tok} (hr : rd = σ.ready) : SorterAt w (st G a.dS (sDict a (rdyV a rd) po nf x1 x2 x3 x4 y1 y2 y3 y4 y5 y6)) a { σ with po := po, nf := nf } := by
  subst hr
  obtain ⟨h1, ⟨_, _, _, _, _, _, _, _, _, _, h2⟩, h3, h4, h5, h6, h7, h8, h9⟩ := h
  refine ⟨lk_st_ne (ne_cls h1 h2 (by simp)) h1, ⟨x1, x2, x3, x4, y1, y2, y3, y4, y5, y6, lk_st_eq⟩, fun l hl => ?_, h4.keep fun o ho => lk_st_ne h5 ho, h5, fun j hj => ?_, h7, h8, h9⟩
  · (refine Mine.e2a2 (h3 l hl) ?_; rintro its n e1 e2)
    exact ⟨its, n, lk_st_ne (ne_cls e1 h2 (by simp)) e1, e2⟩
  · obtain ⟨⟨v1, v2, e1⟩, e2, its', n', e3, e4⟩ := h6 j hj
    exact ⟨⟨v1, v2, lk_st_ne (ne_cls e1 h2 (by simp)) e1⟩, lk_some_st e2 (by simp), its', n', lk_st_ne (ne_cls e3 h2 (by simp)) e3, e4⟩
theorem SorterAt.setR (h : SorterAt w G a σ) (hr : σ.ready ≠ none) {its : Array Value} {n : Nat} {l : List Nat} (hl : All2 IsN its.toList l) : SorterAt w (st G a.R (listOf its n)) a { σ with ready := some l } := by
  obtain ⟨h1, ⟨x1, x2, x3, x4, y1, y2, y3, y4, y5, y6, h2⟩, h3, h4, h5, h6, h7, h8, h9⟩ := h
  obtain ⟨l0, hl0⟩ := Option.ne_none_iff_exists'.mp hr
  (refine Mine.e2a2 (h3 l0 hl0) ?_; rintro its0 n0 ek _)
  refine ⟨lk_st_ne (ne_cls h1 ek (by simp)) h1, ⟨x1, x2, x3, x4, y1, y2, y3, y4, y5, y6, ?_⟩, fun l' hl' => ?_, h4.keep fun o ho => lk_st_ne (h4.ne ek (by simp)) ho, h5, fun j hj => ?_, h7, h8, fun _ => h9 hr⟩
  · rw [hl0] at h2
    exact lk_st_ne (ne_cls h2 ek (by simp)) h2
  · cases hl'; exact ⟨its, n, lk_st_eq, hl⟩
  · obtain ⟨⟨v1, v2, e1⟩, e2, its', n', e3, e4⟩ := h6 j hj
    exact ⟨⟨v1, v2, lk_st_ne (ne_cls e1 ek (by simp)) e1⟩, lk_some_st e2 (by simp), its', n', lk_st_ne (fun z => h9 hr j hj z.symm) e3, e4⟩
end
end Mine
end TSo4

section TSo5
open PySem PySem.W PyProof.Rows PySem.Calls
namespace Mine
set_option maxRecDepth 100000
set_option maxHeartbeats 8000000
section
variable {w : World} {A : Around} {env : Env} {h₀ : Heap} {m : Str → Option Value} {G : LedT} {hp : Heap} {g : Array GenState} {d : Drawn} {tk : Nat} {os : OsState} {Q E : Value → Shared → Prop} {a : SAd} {σ : Srt}
theorem Cx.sN2i (C : Cx w A env h₀ hp m G) (h : SorterAt w G a σ) {ex : Bool} (q : ∀ tk', Q (.ref a.N) ⟨hp, g, d, tk', os⟩) : wpAny (model P w) A (getAttr (.ref a.S) (Str.ofString "_node2info") ex) Q E ⟨hp, g, d, tk, os⟩ := by
  obtain ⟨x1, x2, x3, x4, y1, y2, y3, y4, y5, y6, e⟩ := h.dict
  exact C.getD (own_137_node2info w) h.inst e rfl rfl q
theorem Cx.sReady (C : Cx w A env h₀ hp m G) (h : SorterAt w G a σ) {ex : Bool} (q : ∀ tk', Q (rdyV a σ.ready) ⟨hp, g, d, tk', os⟩) : wpAny (model P w) A (getAttr (.ref a.S) (Str.ofString "_ready_nodes") ex) Q E ⟨hp, g, d, tk, os⟩ := by
  obtain ⟨x1, x2, x3, x4, y1, y2, y3, y4, y5, y6, e⟩ := h.dict
  exact C.getD (own_137_ready_nodes w) h.inst e rfl (by unfold rdyV; split <;> rfl) q
theorem Cx.sPo (C : Cx w A env h₀ hp m G) (h : SorterAt w G a σ) {ex : Bool} (q : ∀ t tk', Q (.int σ.po t) ⟨hp, g, d, tk', os⟩) : wpAny (model P w) A (getAttr (.ref a.S) (Str.ofString "_npassedout") ex) Q E ⟨hp, g, d, tk, os⟩ := by
  obtain ⟨x1, x2, x3, x4, y1, y2, y3, y4, y5, y6, e⟩ := h.dict
  exact C.getD (own_137_npassedout w) h.inst e rfl rfl (q _)
theorem Cx.sNf (C : Cx w A env h₀ hp m G) (h : SorterAt w G a σ) {ex : Bool} (q : ∀ t tk', Q (.int σ.nf t) ⟨hp, g, d, tk', os⟩) : wpAny (model P w) A (getAttr (.ref a.S) (Str.ofString "_nfinished") ex) Q E ⟨hp, g, d, tk, os⟩ := by
  obtain ⟨x1, x2, x3, x4, y1, y2, y3, y4, y5, y6, e⟩ := h.dict
  exact C.getD (own_137_nfinished w) h.inst e rfl rfl (q _)
theorem Cx.sMeth (C : Cx w A env h₀ hp m G) (h : SorterAt w G a σ) {f : Addr} {name : Str} {pl : Sem Bool} {Q : Value × List Value → Shared → Prop} (k : methAttr (Mine.hd.heap_1 w.params) 137 f name = true)
    (hn : ∀ (rv : Value) (po nf : Int) (h1 h2 h3 h4 : Int) (t1 t2 t3 t4 t5 t6 : Tok), getL name [⟨h1, .str (Str.ofString "_node2info") t1, .ref a.N⟩, ⟨h2, .str (Str.ofString "_ready_nodes") t2, rv⟩, ⟨h3, .str (Str.ofString "_npassedout") t3, .int po t5⟩, ⟨h4, .str (Str.ofString "_nfinished") t4, .int nf t6⟩] = some none)
    (q : Q (.ref f, [.ref a.S]) ⟨hp, g, d, tk, os⟩) : wpAny (model P w) A (getMethod (.ref a.S) name pl) Q E ⟨hp, g, d, tk, os⟩ := by
  obtain ⟨x1, x2, x3, x4, y1, y2, y3, y4, y5, y6, e⟩ := h.dict
  exact C.meth k h.inst e (hn ..) q
theorem getnode_old {k : Nat} {t : Tok} (C : Cx w A env h₀ hp m G) (hS : SorterAt w G a σ) (hk : k < σ.n) (hd : A.depth + 3 < recursionLimit) (hu : A.units + 16 < cLine)
    (ret : ∀ h' tk', Cx w A env h₀ h' m G → Q (.ref (a.I k)) ⟨h', g, d, tk', os⟩) :
    wpAny (model P w) A (call (.ref 80) [.ref a.S, .int (k : Int) t]) Q E ⟨hp, g, d, tk, os⟩ := by
  have e9 : PySem.Challenge.rw_oh0057_01 = PySem.Challenge.rw_oh0057_01 := rfl
  have X := C.X
  revert X e9; k_fill; intro X e9; clear e9
  k_dflt (refine' C.enterF (binds := [(Str.ofString "self", Value.ref a.S), (Str.ofString "node", Value.int (k : Int) t)]) ?k6 ?k7 ?k8 ?k9 ?kB ?c2 ?c3 ?c4 ?c5 ?_; (case k6 => k_is); (case k7 => k_is); (case k8 => (exact Mine.o10 hd)); (case k9 => exact BindsTo.of_eq rfl); (case c5 => decide); (case kB => exact locs rfl); (case c2 => exact rfl); (case c3 => exact rfl); (case c4 => exact rfl); k_whole; intro gb L' h₁ tk₁ C1 hlt)
  refine wpAny_execs_cons (wpAny_If (wpAny_isTrue_Compare1 (wpAny_NamedExpr (MethodCall_ (Attribute_Name_ (C1.name rfl (C1.sN2i hS fun _ => ?_)))))))
  refine C1.dgetM hS.n2i (callWith_method1 (args_cons (C1.name rfl (args_nil (C1.dget hS.n2i fun _ => ?_)))))
  rw [nodeKvs, valueAt_some hk]
  refine wpAny_assign_Name (C1.store fun h₂ tk₂ C2 => wpAny_Constant_none ?_)
  refine is_none_ne (by simp) (wpAny_truthy_bool ?_)
  simp only [Bool.false_eq_true, if_false]
  refine wpAny_execs_nil (wpAny_execs_cons (wpAny_Return_some (C2.name mset_eq ?_)))
  exact ⟨_, _, C2, fun C3 => ret _ _ C3⟩
theorem assign_sub {M : Model} {o i : Expr} {pos : Pos} {v : Value} {Q : Unit → Shared → Prop} {s : Shared} (h : wpAny M A (eval o env) (fun ov s₂ => wpAny M A (eval i env) (fun iv s₃ => wpAny M A (PySem.setItem ov iv v) Q E s₃) E s₂) E s) : wpAny M A (assign (.Subscript o i pos) env v) Q E s := fun Γ p hΓ => by
  simp only [assign_Subscript, Sem.wp_bind', Sem.wp_holding, Sem.wp_cmd_standAt, Sem.wp_release, Sem.wp_pure']
  exact Sem.wp_mono M Γ _ (fun ov p₂ s₂ h₂ => Sem.wp_mono M Γ _ (fun iv _ s₃ h₃ => h₃ Γ _ hΓ) (fun _ _ _ h' => h') _ _ (h₂ Γ p₂ hΓ)) (fun _ _ _ h' => h') _ _ (h Γ p hΓ)
theorem assign_attr {M : Model} {o : Expr} {attr : Str} {pos : Pos} {v : Value} {Q : Unit → Shared → Prop} {s : Shared} (h : wpAny M A (eval o env) (fun ov s₂ => wpAny M A (setAttr ov attr v) Q E s₂) E s) : wpAny M A (assign (.Attribute o attr pos) env v) Q E s := fun Γ p hΓ => by
  simp only [assign_Attribute, Sem.wp_bind', Sem.wp_holding, Sem.wp_cmd_standAt, Sem.wp_release, Sem.wp_pure']
  exact Sem.wp_mono M Γ _ (fun ov p₂ s₂ h₂ => h₂ Γ _ hΓ) (fun _ _ _ h' => h') _ _ (h Γ p hΓ)
/-- a sorter with one more node -/
noncomputable def Srt.more (σ : Srt) : Srt := { σ with n := σ.n + 1, np := fset σ.np σ.n 0, su := fset σ.su σ.n [] }
noncomputable def SAd.more (a : SAd) (k : Nat) (x dx su : Addr) : SAd := { a with I := fset a.I k x, D := fset a.D k dx, Su := fset a.Su k su }
theorem SorterAt.more {G' : LedT} {x dx su : Addr} {o' : Obj} {t1 t2 : Tok} (h : SorterAt w G a σ) (hr : σ.ready = none) (hg : Grow G G') (n1 : lk G x = none) (n2 : lk G su = none)
    (e1 : lk G' x = some (nodeObj dx su 0 σ.n t1 t2)) (e2 : lk G' dx = some (dictOf [] 0)) (e3 : lk G' su = some (listOf #[] 0)) (hD : IsDict w (Mine.st G' a.N o') a.N (stored (nodeKvs a σ.n) (σ.n : Int) (.ref x))) :
    SorterAt w (Mine.st G' a.N o') (a.more σ.n x dx su) σ.more := by
  have hN := (h.keep hg).n2i
  obtain ⟨h1, ⟨x1, x2, x3, x4, y1, y2, y3, y4, y5, y6, h2⟩, h3, h4, h5, h6, h7, h8, h9⟩ := h.keep hg
  have hoF : ∀ vs, o'.data ≠ .fields vs := by
    (refine Mine.e1a3 hD.cls ?_; rintro o2 ho2 _ hf2)
    rw [lk_st_eq] at ho2; cases ho2; exact hf2
  refine ⟨lk_st_ne (fun q => hN.ne h1 (by simp) q.symm) h1, ⟨x1, x2, x3, x4, y1, y2, y3, y4, y5, y6, lk_st_ne (fun q => h5 q.symm) h2⟩, fun l hl => ?_, ?_, h5, fun j hj => ?_, ?_, ?_, fun hx => absurd hr hx⟩
  · have : σ.ready = some l := hl
    rw [hr] at this; cases this
  · have : nodeKvs (a.more σ.n x dx su) (σ.n + 1) = stored (nodeKvs a σ.n) (σ.n : Int) (.ref x) := by
      unfold nodeKvs
      rw [stored_new (f := fun k => .ref (a.I k))]
      refine List.map_congr_left fun k hk => ?_
      show ((k : Int), Value.ref (fset a.I σ.n x k)) = ((k : Int), fset (fun k => Value.ref (a.I k)) σ.n (.ref x) k)
      unfold fset
      split <;> rfl
    show IsDict w _ a.N (nodeKvs (a.more σ.n x dx su) (σ.n + 1))
    rw [this]; exact hD
  · by_cases q : j = σ.n
    · subst q
      refine ⟨⟨t1, t2, ?_⟩, ?_, #[], 0, ?_, ?_⟩
      · show lk _ (fset a.I σ.n x σ.n) = some (nodeObj (fset a.D σ.n dx σ.n) (fset a.Su σ.n su σ.n) (fset σ.np σ.n 0 σ.n) σ.n t1 t2)
        simp only [fset_eq]
        exact lk_st_ne (fun q => hN.ne e1 (by simp) q.symm) e1
      · show ∃ od, lk _ (fset a.D σ.n dx σ.n) = some od ∧ _
        rw [fset_eq]; exact lk_some_st ⟨_, e2, by simp⟩ hoF
      · show lk _ (fset a.Su σ.n su σ.n) = _
        rw [fset_eq]; exact lk_st_ne (fun q => hN.ne e3 (by simp) q.symm) e3
      · show All2 IsN _ (fset σ.su σ.n [] σ.n)
        rw [fset_eq]; exact .nil
    · have hj' : j < σ.n := by have : j < σ.n + 1 := hj; omega
      obtain ⟨⟨v1, v2, f1⟩, f2, its', n', f3, f4⟩ := h6 j hj'
      refine ⟨⟨v1, v2, ?_⟩, ?_, its', n', ?_, ?_⟩
      · show lk _ (fset a.I σ.n x j) = some (nodeObj (fset a.D σ.n dx j) (fset a.Su σ.n su j) (fset σ.np σ.n 0 j) j v1 v2)
        simp only [fset_ne q]
        exact lk_st_ne (fun q => hN.ne f1 (by simp) q.symm) f1
      · show ∃ od, lk _ (fset a.D σ.n dx j) = some od ∧ _
        rw [fset_ne q]; exact lk_some_st f2 hoF
      · show lk _ (fset a.Su σ.n su j) = _
        rw [fset_ne q]; exact lk_st_ne (fun q => hN.ne f3 (by simp) q.symm) f3
      · show All2 IsN _ (fset σ.su σ.n [] j)
        rw [fset_ne q]; exact f4
  · intro j k hj hk e
    have hj' : j < σ.n + 1 := hj
    have hk' : k < σ.n + 1 := hk
    have e : fset a.I σ.n x j = fset a.I σ.n x k := e
    by_cases qj : j = σ.n <;> by_cases qk : k = σ.n
    · (exact Mine.o235 hj' qk hk' qj)
    · subst qj; rw [fset_eq, fset_ne qk] at e
      obtain ⟨⟨_, _, f1⟩, _⟩ := h.node k (by omega)
      rw [← e, n1] at f1; cases f1
    · subst qk; rw [fset_eq, fset_ne qj] at e
      obtain ⟨⟨_, _, f1⟩, _⟩ := h.node j (by omega)
      rw [e, n1] at f1; cases f1
    · rw [fset_ne qj, fset_ne qk] at e
      exact h.injI j k (by omega) (by omega) e
  · intro j k hj hk e
    have hj' : j < σ.n + 1 := hj
    have hk' : k < σ.n + 1 := hk
    have e : fset a.Su σ.n su j = fset a.Su σ.n su k := e
    by_cases qj : j = σ.n <;> by_cases qk : k = σ.n
    · (exact Mine.o235 hj' qk hk' qj)
    · subst qj; rw [fset_eq, fset_ne qk] at e
      obtain ⟨_, _, _, _, f1, _⟩ := h.node k (by omega)
      rw [← e, n2] at f1; cases f1
    · subst qk; rw [fset_eq, fset_ne qj] at e
      obtain ⟨_, _, _, _, f1, _⟩ := h.node j (by omega)
      rw [e, n2] at f1; cases f1
    · rw [fset_ne qj, fset_ne qk] at e
      exact h.injS j k (by omega) (by omega) e
theorem getnode_new {t : Tok} (C : Cx w A env h₀ hp m G) (hS : SorterAt w G a σ) (hr : σ.ready = none) (hz : σ.n < 2 ^ 18) (hd : A.depth + 6 < recursionLimit) (hu : A.units + 40 < cLine)
    (ret : ∀ h' tk' G' x dx su, Cx w A env h₀ h' m G' → SorterAt w G' (a.more σ.n x dx su) σ.more → (∀ b o, lk G b = some o → b ≠ a.N → lk G' b = some o) → lk G x = none → lk G su = none → Q (.ref x) ⟨h', g, d, tk', os⟩) :
    wpAny (model P w) A (call (.ref 80) [.ref a.S, .int (σ.n : Int) t]) Q E ⟨hp, g, d, tk, os⟩ := by
  have e9 : PySem.Challenge.rw_oh0057_01 = PySem.Challenge.rw_oh0057_01 := rfl
  have X := C.X
  revert X e9; k_fill; intro X e9; clear e9
  k_dflt (refine' C.enterF (binds := [(Str.ofString "self", Value.ref a.S), (Str.ofString "node", Value.int (σ.n : Int) t)]) ?k6 ?k7 ?k8 ?k9 ?kB ?c2 ?c3 ?c4 ?c5 ?_; (case k6 => k_is); (case k7 => k_is); (case k8 => (exact Mine.o242 hd)); (case k9 => exact BindsTo.of_eq rfl); (case c5 => decide); (case kB => exact locs rfl); (case c2 => exact rfl); (case c3 => exact rfl); (case c4 => exact rfl); k_whole; intro gb L' h₁ tk₁ C1 hlt)
  refine wpAny_execs_cons (wpAny_If (wpAny_isTrue_Compare1 (wpAny_NamedExpr (MethodCall_ (Attribute_Name_ (C1.name rfl (C1.sN2i hS fun _ => ?_)))))))
  refine C1.dgetM hS.n2i (callWith_method1 (args_cons (C1.name rfl (args_nil (C1.dget hS.n2i fun _ => ?_)))))
  rw [nodeKvs, valueAt_none (Nat.le_refl _)]
  refine wpAny_assign_Name (C1.store fun h₂ tk₂ C2 => wpAny_Constant_none ?_)
  refine is_none_none (wpAny_truthy_bool ?_)
  simp only [if_true]
  refine wpAny_execs_cons (wpAny_Assign_two (C2.callG (g_NodeInfo w) (kp_40 w) (args_cons (C2.name rfl (args_nil ⟨C2.XI, ?_⟩)))))
  refine node_ct C2 (show A.depth + 1 + 3 < _ by (exact Mine.o261 hd)) (by simp; (exact Mine.o262 hu)) fun h₃ tk₃ G₃ x dx su t1 t2 C3 hg n1 n2 n3 e1 e2 e3 => ?_
  have hS3 := hS.keep hg
  refine assign_sub (Attribute_Name_ (C3.name rfl (C3.sN2i hS3 fun _ => C3.name rfl ?_)))
  refine C3.dset hS3.n2i (by simp [nodeKvs]; (exact Mine.o263 hz)) fun h₄ tk₄ o' C4 hD => ?_
  refine wpAny_assign_Name (C4.store fun h₅ tk₅ C5 => ?_)
  refine wpAny_execs_nil (wpAny_execs_cons (wpAny_Return_some (C5.name mset_eq ?_)))
  exact ⟨_, _, C5, fun C6 => ret _ _ _ x dx su C6 (hS.more hr hg n1 n2 e1 e2 e3 hD) (fun b o hb hne => lk_st_ne hne (hg b o hb)) n1 n2⟩
end
end Mine
end TSo5

section TSo6
open PySem PySem.W PyProof.Rows PySem.Calls
namespace Mine
set_option maxRecDepth 100000
set_option maxHeartbeats 8000000
noncomputable def addSu (su : Nat → List Nat) (k : Nat) (ps : List Nat) : Nat → List Nat := ps.foldl (fun su p => fset su p (su p ++ [k])) su
noncomputable def Srt.add (σ : Srt) (k : Nat) (ps : List Nat) : Srt := { σ with np := fset σ.np k (σ.np k + (ps.length : Int)), su := addSu σ.su k ps }
section
variable {w : World} {A : Around} {env : Env} {h₀ : Heap} {m : Str → Option Value} {G : LedT} {hp : Heap} {g : Array GenState} {d : Drawn} {tk : Nat} {os : OsState} {Q E : Value → Shared → Prop} {a : SAd} {σ : Srt}
theorem add_new {t : Tok} (C : Cx w A env h₀ hp m G) (hh : A.handled = none) (hS : SorterAt w G a σ) (hr : σ.ready = none) (hz : σ.n < 2 ^ 18) (hd : A.depth + 8 < recursionLimit) (hu : A.units + 60 < cLine)
    (ret : ∀ h' tk' G' x dx su, Cx w A env h₀ h' m G' → SorterAt w G' (a.more σ.n x dx su) σ.more → (∀ b o, lk G b = some o → b ≠ a.N → lk G' b = some o) → lk G x = none → lk G su = none → Q .none ⟨h', g, d, tk', os⟩) :
    wpAny (model P w) A (call (.ref 87) [.ref a.S, .int (σ.n : Int) t]) Q E ⟨hp, g, d, tk, os⟩ := by
  have e9 : PySem.Challenge.rw_oh0057_01 = PySem.Challenge.rw_oh0057_01 := rfl
  have X := C.X
  revert X e9; k_fill; intro X e9; clear e9
  k_dflt (refine' C.enterV (rest := []) (binds := fun v => [(Str.ofString "self", Value.ref a.S), (Str.ofString "node", Value.int (σ.n : Int) t), (Str.ofString "predecessors", v)]) ?k6 ?k7 ?k8 ?k9 ?kz ?kB ?c2 ?c3 ?c4 ?c5 ?_; (case k6 => k_is); (case k7 => k_is); (case k8 => (exact Mine.o150 hd)); (case k9 => (refine' bind_two ?h1 ?h2 ?h3 ?h4 ?h5 ?h6 ?h7 ?h8; (case h4 => exact rfl); (case h1 => exact rfl); (case h2 => exact rfl); (case h3 => exact rfl); (case h5 => exact rfl); (case h6 => exact rfl); (case h7 => decide); (case h8 => exact rfl))); (case kz => simp); (case c5 => decide); (case kB => exact fun v => locs rfl); (case c2 => exact rfl); (case c3 => exact rfl); (case c4 => exact rfl); k_whole; intro Dp gb L' h₁ tk₁ hlt C1)
  have hDp : lk G Dp = none := lk_fresh hlt
  have hS1 : SorterAt w ((Dp, tupOf ([] : List Value).toArray 0) :: G) a σ := hS.keep (Grow.cons hDp)
  refine wpAny_execs_cons (wpAny_If (wpAny_isTrue_Compare1 (Attribute_Name_ (C1.name rfl (C1.sReady hS1 fun _ => wpAny_Constant_none ?_)))))
  rw [hr]
  refine isnot_none_none (wpAny_truthy_bool ?_)
  simp only [Bool.false_eq_true, if_false]
  refine wpAny_execs_nil (wpAny_execs_cons (wpAny_Assign_Name (MethodCall_ (C1.name rfl (C1.sMeth hS1 (meth_get_nodeinfo w) (fun _ _ _ _ _ _ _ _ _ _ _ _ _ => rfl) ?_)))))
  refine callWith_K C1.X (kp_80 w) (args_cons (C1.name rfl (args_nil ⟨C1.XI, ?_⟩)))
  refine getnode_new C1 hS1 hr hz (show A.depth + 1 + 6 < _ by (exact Mine.o152 hd)) (by simp; (exact Mine.o153 hu)) fun h₂ tk₂ G₂ x dx su C2 hS2 hk2 n1 n2 => ?_
  refine C2.store fun h₃ tk₃ C3 => ?_
  -- nodeinfo.npredecessors += len(predecessors)
  have hNe : a.N ≠ Dp := hS1.n2i.ne lk_cons_eq (by simp)
  have hDp2 : lk G₂ Dp = some (tupOf ([] : List Value).toArray 0) := hk2 _ _ lk_cons_eq (fun q => hNe q.symm)
  have hn : σ.n < σ.more.n := Nat.lt_succ_self _
  obtain ⟨⟨u1, u2, f1⟩, ⟨od, f2, f5⟩, its, nn, f3, f4⟩ := hS2.node σ.n hn
  have eI : (a.more σ.n x dx su).I σ.n = x := fset_eq
  have enp : σ.more.np σ.n = 0 := fset_eq
  rw [eI, enp] at f1
  refine wpAny_execs_cons (wpAny_AugAssign_AttributeAny (C3.name mset_eq ?_))
  refine C3.getS (slot_npredecessors w) f1 f2 rfl rfl fun _ => ?_
  refine C3.callB (n_len w) Boot.len (args_cons (C3.name rfl (args_nil ?_)))
  refine C3.lenT hDp2 (by simp) fun tl _ => o_iadd fun tq _ => ?_
  refine C3.setS (slot_npredecessors w) f1 f2 fun h₄ tk₄ C4 => ?_
  have hS4 := hS2.setNp hn (np := 0 + (([] : List Value).toArray.size : Int)) (t1 := u1) (t2 := tq)
  rw [eI] at hS4
  have eσ : ({ σ.more with np := fset σ.more.np σ.n (0 + (([] : List Value).toArray.size : Int)) } : Srt) = σ.more := by
    have : fset σ.more.np σ.n (0 + (([] : List Value).toArray.size : Int)) = σ.more.np := by
      funext j; unfold fset; split
      · rename_i q; rw [q, enp]; rfl
      · rfl
    rw [this]
  rw [eσ] at hS4
  have hxDp : x ≠ Dp := fun q => by rw [q, lk_cons_eq] at n1; cases n1
  refine wpAny_execs_cons (wpAny_For (C4.name rfl ?_))
  refine C4.for_tuple (fun _ _ G₁ => lk G₁ Dp = some (tupOf ([] : List Value).toArray 0) ∧ SorterAt w G₁ (a.more σ.n x dx su) σ.more ∧ ∀ b o, lk G b = some o → b ≠ a.N → lk G₁ b = some o) hh ⟨lk_st_ne (fun q => hxDp q.symm) hDp2, hS4, ?_⟩ (fun _ _ _ hj => hj.1) rfl ?_ ?_ ?_
  · intro b o hb hne
    have hxb : b ≠ x := fun q => by
      have := lk_cons_ne (G := G) (a := Dp) (o := tupOf ([] : List Value).toArray 0) (lk_ne hb hDp) hb
      rw [q, n1] at this; cases this
    exact lk_st_ne hxb (hk2 _ _ (lk_cons_ne (lk_ne hb hDp) hb) hne)
  · rintro _ _ G₁ G₂' hZ1 u
    (refine Mine.e0a3 hZ1 ?_; clear hZ1; rintro p1 p2 p3)
    exact ⟨u _ _ p1 (.inr (by simp)), p2.up u, fun b o hb hne => u _ _ (p3 b o hb hne) (.inl (by
      have hxb : b ≠ x := fun q => by
        have := lk_cons_ne (G := G) (a := Dp) (o := tupOf ([] : List Value).toArray 0) (lk_ne hb hDp) hb
        rw [q, n1] at this; cases this
      rw [lk_st_ne hxb (hk2 _ _ (lk_cons_ne (lk_ne hb hDp) hb) hne)]; simp))⟩
  · intro i v m₁ G₁ h₅ tk₅ I oI hv; simp at hv
  · rintro m₁ G₁ h₅ tk₅ hZ2 C5
    (refine Mine.e0a3 hZ2 ?_; clear hZ2; rintro p1 p2 p3)
    refine wpAny_execs_nil ?_
    refine ⟨_, _, C5, fun C6 => ret _ _ _ x dx su C6 p2 p3 ?_ ?_⟩
    · cases q : lk G x with
      | none => rfl
      | some o => have := lk_cons_ne (G := G) (a := Dp) (o := tupOf ([] : List Value).toArray 0) (lk_ne q hDp) q; rw [n1] at this; cases this
    · cases q : lk G su with
      | none => rfl
      | some o => have := lk_cons_ne (G := G) (a := Dp) (o := tupOf ([] : List Value).toArray 0) (lk_ne q hDp) q; rw [n2] at this; cases this
theorem addSu_snoc {su : Nat → List Nat} {k p : Nat} {ps : List Nat} : addSu su k (ps ++ [p]) = fset (addSu su k ps) p (addSu su k ps p ++ [k]) := by
  unfold addSu; rw [List.foldl_append]; rfl
theorem add_oldC {t : Tok} {k : Nat} {rest : List Value} {ps : List Nat} {R : Result → Shared → Prop} (C : Cx w A env h₀ hp m G) (hh : A.handled = none) (hS : SorterAt w G a σ) (hr : σ.ready = none) (hk : k < σ.n) (hps : All2 IsN rest ps) (hlt : ∀ p ∈ ps, p < σ.n) (hz : ps.length < 2 ^ 18)
    (hsu : ∀ j, (addSu σ.su k ps j).length < 2 ^ 18) (hmono : ∀ i j, (addSu σ.su k (ps.take i) j).length ≤ (addSu σ.su k ps j).length) (hd : A.depth + 8 < recursionLimit) (hu : A.units + 60 < cLine)
    (ret : ∀ h' tk' G', Cx w A env h₀ h' m G' → SorterAt w G' a (σ.add k ps) → (∀ b o, lk G b = some o → ¬ Foot a σ.n b → lk G' b = some o) → R (.ok (.ret .none)) ⟨h', g, d, tk', os⟩) :
    codeAny (model P w) A (.call (.ref 87) ⟨.ref a.S :: .int (k : Int) t :: rest, []⟩) R ⟨hp, g, d, tk, os⟩ := by
  have e9 : PySem.Challenge.rw_oh0057_01 = PySem.Challenge.rw_oh0057_01 := rfl
  have X := C.X
  revert X e9; k_fill; intro X e9; clear e9
  have hpl := hps.length
  k_dflt (refine' C.enterVC (rest := rest) (binds := fun v => [(Str.ofString "self", Value.ref a.S), (Str.ofString "node", Value.int (k : Int) t), (Str.ofString "predecessors", v)]) ?k6 ?k7 ?k8 ?k9 ?kz ?kB ?c2 ?c3 ?c4 ?c5 ?_; (case k6 => k_is); (case k7 => k_is); (case k8 => (exact Mine.o150 hd)); (case k9 => (refine' bind_two ?h1 ?h2 ?h3 ?h4 ?h5 ?h6 ?h7 ?h8; (case h4 => exact rfl); (case h1 => exact rfl); (case h2 => exact rfl); (case h3 => exact rfl); (case h5 => exact rfl); (case h6 => exact rfl); (case h7 => decide); (case h8 => exact rfl))); (case kz => (exact Mine.o149 hz hpl)); (case c5 => decide); (case kB => exact fun v => locs rfl); (case c2 => exact rfl); (case c3 => exact rfl); (case c4 => exact rfl); k_whole; intro Dp gb L' h₁ tk₁ hlt' C1)
  have hDp : lk G Dp = none := lk_fresh hlt'
  have hS1 : SorterAt w ((Dp, tupOf rest.toArray 0) :: G) a σ := hS.keep (Grow.cons hDp)
  refine wpAny_execs_cons (wpAny_If (wpAny_isTrue_Compare1 (Attribute_Name_ (C1.name rfl (C1.sReady hS1 fun _ => wpAny_Constant_none ?_)))))
  rw [hr]
  refine isnot_none_none (wpAny_truthy_bool ?_)
  simp only [Bool.false_eq_true, if_false]
  refine wpAny_execs_nil (wpAny_execs_cons (wpAny_Assign_Name (MethodCall_ (C1.name rfl (C1.sMeth hS1 (meth_get_nodeinfo w) (fun _ _ _ _ _ _ _ _ _ _ _ _ _ => rfl) ?_)))))
  refine callWith_K C1.X (kp_80 w) (args_cons (C1.name rfl (args_nil ⟨C1.XI, ?_⟩)))
  refine getnode_old C1 hS1 hk (show A.depth + 1 + 3 < _ by (exact Mine.o167 hd)) (by simp; (exact Mine.o168 hu)) fun h₂ tk₂ C2 => ?_
  refine C2.store fun h₃ tk₃ C3 => ?_
  have hDp2 : lk ((Dp, tupOf rest.toArray 0) :: G) Dp = some (tupOf rest.toArray 0) := lk_cons_eq
  obtain ⟨⟨u1, u2, f1⟩, ⟨od, f2, f5⟩, its, nn, f3, f4⟩ := hS1.node k hk
  refine wpAny_execs_cons (wpAny_AugAssign_AttributeAny (C3.name mset_eq ?_))
  refine C3.getS (slot_npredecessors w) f1 f2 rfl rfl fun _ => ?_
  refine C3.callB (n_len w) Boot.len (args_cons (C3.name rfl (args_nil ?_)))
  refine C3.lenT hDp2 (by simp; (exact Mine.o194 hz hpl)) fun tl _ => o_iadd fun tq _ => ?_
  refine C3.setS (slot_npredecessors w) f1 f2 fun h₄ tk₄ C4 => ?_
  have hS4 := hS1.setNp hk (np := σ.np k + (rest.toArray.size : Int)) (t1 := u1) (t2 := tq)
  have ern : (rest.toArray.size : Int) = (ps.length : Int) := by simp; omega
  rw [ern] at hS4 C4
  have C4 : C3.Same h₄ _ (Mine.st ((Dp, tupOf rest.toArray 0) :: G) (a.I k) (nodeObj (a.D k) (a.Su k) (σ.np k + (ps.length : Int)) k u1 tq)) := C4
  have hS4 : SorterAt w (Mine.st ((Dp, tupOf rest.toArray 0) :: G) (a.I k) (nodeObj (a.D k) (a.Su k) (σ.np k + (ps.length : Int)) k u1 tq)) a { σ.add k ps with su := addSu σ.su k (ps.take 0) } := by rw [List.take_zero]; exact hS4
  have hIDp : a.I k ≠ Dp := ne_cls f1 hDp2 (by simp)
  have hfoot : ∀ b o, lk G b = some o → ¬ Foot a σ.n b → lk (Mine.st ((Dp, tupOf rest.toArray 0) :: G) (a.I k) (nodeObj (a.D k) (a.Su k) (σ.np k + (ps.length : Int)) k u1 tq)) b = some o := fun b o hb hf =>
    lk_st_ne (fun q => hf (.inr (.inr (.inr ⟨k, hk, .inl q⟩)))) (lk_cons_ne (lk_ne hb hDp) hb)
  refine wpAny_execs_cons (wpAny_For (C4.name rfl ?_))
  refine C4.for_tuple (fun i m₁ G₁ => m₁ (Str.ofString "self") = some (.ref a.S) ∧ m₁ (Str.ofString "node") = some (.int (k : Int) t) ∧ lk G₁ Dp = some (tupOf rest.toArray 0) ∧ SorterAt w G₁ a { σ.add k ps with su := addSu σ.su k (ps.take i) } ∧ ∀ b o, lk G b = some o → ¬ Foot a σ.n b → lk G₁ b = some o) hh
    ⟨rfl, rfl, lk_st_ne (fun q => hIDp q.symm) hDp2, hS4, hfoot⟩ (fun _ _ _ hj => hj.2.2.1) rfl ?_ ?_ ?_
  · rintro _ _ G₁ G₂' hZ3 u
    (refine Mine.e0a5 hZ3 ?_; clear hZ3; rintro q1 q2 p1 p2 p3)
    exact ⟨q1, q2, u _ _ p1 (.inr (by simp)), p2.up u, fun b o hb hne => u _ _ (p3 b o hb hne) (.inl (by rw [hfoot b o hb hne]; simp))⟩
  · rintro i v m₁ G₁ h₅ tk₅ I oI hv hZ4 C5 hI ⟨vsI, hIf⟩ hIn
    (refine Mine.e0a5 hZ4 ?_; clear hZ4; rintro q1 q2 p1 p2 p3)
    have hv' : rest[i]? = some v := by simpa using hv
    obtain ⟨p, hp', tv, rfl⟩ := hps.getL hv'
    have hpn : p < σ.n := hlt p (List.mem_of_getElem? hp')
    refine wpAny_execs_cons (wpAny_Assign_Name (MethodCall_ (C5.name (mset_ne (by decide) q1) (C5.sMeth p2 (meth_get_nodeinfo w) (fun _ _ _ _ _ _ _ _ _ _ _ _ _ => rfl) ?_))))
    refine callWith_K C5.X (kp_80 w) (args_cons (C5.name mset_eq (args_nil ⟨C5.XI, ?_⟩)))
    refine getnode_old C5 p2 hpn (show A.depth + 1 + 3 < _ by (exact Mine.o167 hd)) (by simp; (exact Mine.o168 hu)) fun h₆ tk₆ C6 => ?_
    refine C6.store fun h₇ tk₇ C7 => ?_
    obtain ⟨⟨z1, z2, r1⟩, ⟨od', r2, r5⟩, its', nn', r3, r4⟩ := p2.node p hpn
    refine wpAny_execs_cons (wpAny_Expr (MethodCall_ (Attribute_Name_ (C7.name mset_eq ?_))))
    refine C7.getS (slot_successors w) r1 r2 rfl rfl fun _ => ?_
    refine C7.listMeth r3 PySem.F.slot_list_append PySem.F.type_list_append ?_
    refine callWith_method1 (args_cons (C7.name (mset_ne (by decide) (mset_ne (by decide) q2)) (args_nil ?_)))
    have hl4 := r4.length
    have hlen : its'.size < 2 ^ 20 := by
      have e1 : its'.size = its'.toList.length := by simp
      have := hmono i p
      have := hsu p
      dsimp only at hl4
      omega
    refine C7.append r3 hlen fun h₈ C8 => ?_
    have htake : ps.take (i + 1) = ps.take i ++ [p] := by rw [List.take_add_one, hp']; rfl
    refine wpAny_execs_nil ⟨h₈, _, _, _, rfl, C8, ?_, mset_ne (by decide) (mset_ne (by decide) q1), mset_ne (by decide) (mset_ne (by decide) q2), ?_, ?_, ?_⟩
    · exact lk_st_ne (fun q => by rw [q, r3] at hI; cases hI; cases hIf) hI
    · exact lk_st_ne (tup_ne_list p1 r3) p1
    · rw [htake, addSu_snoc]
      exact p2.setSu hpn (l := addSu σ.su k (ps.take i) p ++ [k]) (by simpa using r4.snoc ⟨t, rfl⟩)
    · intro b o hb hf
      exact lk_st_ne (fun q => hf (.inr (.inr (.inr ⟨p, hpn, .inr q⟩)))) (p3 b o hb hf)
  · rintro m₁ G₁ h₅ tk₅ hZ5 C5
    (refine Mine.e0a5 hZ5 ?_; clear hZ5; rintro q1 q2 p1 p2 p3)
    refine wpAny_execs_nil ⟨_, _, C5, fun C6 => ret _ _ _ C6 ?_ p3⟩
    have : ps.take rest.toArray.toList.length = ps := by rw [List.take_of_length_le]; simp; (exact Mine.o31 hpl)
    rw [this] at p2
    exact p2
end
end Mine
end TSo6

section TSo7
open PySem PySem.W PyProof.Rows PySem.Calls
namespace Mine
set_option maxRecDepth 100000
set_option maxHeartbeats 8000000
noncomputable def Srt.zero : Srt := ⟨0, fun _ => 0, fun _ => [], none, 0, 0⟩
section
variable {w : World} {A : Around} {env : Env} {h₀ : Heap} {m : Str → Option Value} {G : LedT} {hp : Heap} {g : Array GenState} {d : Drawn} {tk : Nat} {os : OsState} {Q E : Value → Shared → Prop} {a : SAd} {σ : Srt}
theorem sorter_ct (C : Cx w A env h₀ hp m G) (hd : A.depth + 3 < recursionLimit) (hu : A.units + 16 < cLine)
  (ret : ∀ h' tk' G' a, Cx w A env h₀ h' m G' → Grow G G' → SorterAt w G' a Srt.zero → lk G a.S = none → lk G a.dS = none → lk G a.N = none → Q (.ref a.S) ⟨h', g, d, tk', os⟩) :
  wpAny (model P w) A (call (.ref 137) []) Q E ⟨hp, g, d, tk, os⟩ := by
  have e9 : PySem.Challenge.rw_oh0057_01 = PySem.Challenge.rw_oh0057_01 := rfl
  have X := C.X
  revert X e9; k_fill; intro X e9; clear e9
  refine C.make (makes_137 w) (init_137 w) (isfn_73 w) fun x dx h' C0 l1 l2 => ?_
  have hxn : lk G x = none := lk_fresh fun p hp' => Nat.lt_trans (l1 p hp') l2
  have hdn : lk G dx = none := lk_fresh l1
  have hxd : x ≠ dx := Nat.ne_of_gt l2
  k_dflt (refine' C0.enterC (binds := [(Str.ofString "self", Value.ref x), (Str.ofString "graph", Value.none)]) ?k6 ?k7 ?k8 ?k9 ?kB ?c2 ?c3 ?c4 ?c5 ?_; (case k6 => k_is); (case k7 => k_is); (case k8 => exact (show A.depth + 1 < _ by (exact Mine.o221 hd))); (case k9 => exact kp_binds C0.XI (fun S => rfl)); (case c5 => decide); (case kB => exact locs rfl); (case c2 => exact rfl); (case c3 => exact rfl); (case c4 => exact rfl); k_whole; intro gb L' h₁ tk₁ C1 hlt)
  have ed : lk ((x, instObj 137 dx) :: (dx, dictOf [] 0) :: G) dx = some (dictOf [] 0) := lk_cons_ne hxd.symm lk_cons_eq
  -- self._node2info = {}
  refine wpAny_execs_cons (plainObj_wpAny_Assign_Attribute (C1.newDict fun nd h₂ C2 hD2 hfr => C2.name rfl ?_))
  have hndn : lk ((x, instObj 137 dx) :: (dx, dictOf [] 0) :: G) nd = none := lk_fresh hfr
  have e1 : lk ((nd, dictOf [] 0) :: (x, instObj 137 dx) :: (dx, dictOf [] 0) :: G) x = some (instObj 137 dx) := lk_cons_ne (lk_ne lk_cons_eq hndn) lk_cons_eq
  have e2 : lk ((nd, dictOf [] 0) :: (x, instObj 137 dx) :: (dx, dictOf [] 0) :: G) dx = some (dictOf [] 0) := lk_cons_ne (lk_ne ed hndn) ed
  refine C2.setD (set_137_node2info w) e1 e2 rfl (by simp) fun h₃ tk₃ t1 C3 => ?_
  have e1' : ∀ o, lk (Mine.st ((nd, dictOf [] 0) :: (x, instObj 137 dx) :: (dx, dictOf [] 0) :: G) dx o) x = some (instObj 137 dx) := fun o => lk_st_ne hxd e1
  -- self._ready_nodes = None
  refine wpAny_execs_cons (plainObj_wpAny_Assign_Attribute (wpAny_Constant_none (C3.name rfl ?_)))
  refine C3.setD (set_137_ready_nodes w) (e1' _) lk_st_eq rfl (by simp [putL]) fun h₄ tk₄ t2 C4 => ?_
  rw [st_st] at C4
  -- self._npassedout = 0
  refine wpAny_execs_cons (plainObj_wpAny_Assign_Attribute (c_int fun t5 _ => C4.name rfl ?_))
  refine C4.setD (set_137_npassedout w) (e1' _) lk_st_eq rfl (Nat.le_of_ble_eq_true rfl) fun h₅ tk₅ t3 C5 => ?_
  rw [st_st] at C5
  refine wpAny_execs_cons (plainObj_wpAny_Assign_Attribute (c_int fun t6 _ => C5.name rfl ?_))
  refine C5.setD (set_137_nfinished w) (e1' _) lk_st_eq rfl (Nat.le_of_ble_eq_true rfl) fun h₆ tk₆ t4 C6 => ?_
  rw [st_st] at C6
  refine wpAny_execs_cons (wpAny_If (wpAny_isTrue_Compare1 (C6.name rfl (wpAny_Constant_none (isnot_none_none (wpAny_truthy_bool ?_))))))
  simp only [Bool.false_eq_true, if_false]
  refine wpAny_execs_nil (wpAny_execs_nil ⟨_, _, C6, fun C7 => ⟨rfl, ?_⟩⟩)
  have hnG : lk G nd = none := by
    cases q : lk G nd with
    | none => rfl
    | some o => have := lk_cons_ne (a := x) (o := instObj 137 dx) (lk_ne q hxn) (lk_cons_ne (a := dx) (o := dictOf [] 0) (lk_ne q hdn) q); rw [hndn] at this; cases this
  have hnd : nd ≠ dx := fun q => by rw [q, ed] at hndn; cases hndn
  refine ret _ _ _ ⟨x, dx, nd, 0, fun _ => 0, fun _ => 0, fun _ => 0⟩ C7.over (fun b o hb => lk_st_ne (lk_ne hb hdn) (lk_cons_ne (lk_ne hb hnG) (lk_cons_ne (lk_ne hb hxn) (lk_cons_ne (lk_ne hb hdn) hb)))) ⟨e1' _, ⟨_, _, _, _, t1, t2, t3, t4, t5, t6, lk_st_eq⟩, fun l hl => (by cases hl), ?_, hnd, fun k hk => absurd hk (Nat.not_lt_zero _), fun j k hj => absurd hj (Nat.not_lt_zero _), fun j k hj => absurd hj (Nat.not_lt_zero _), fun hx => absurd rfl hx⟩ hxn hdn hnG
  exact hD2.keep fun o ho => lk_st_ne hnd ho
end
end Mine
end TSo7

section TSo8
open PySem PySem.W PyProof.Rows PySem.Calls
namespace Mine
set_option maxRecDepth 100000
set_option maxHeartbeats 8000000
section
variable {w : World} {A : Around} {env : Env} {h₀ : Heap} {m : Str → Option Value} {G : LedT} {hp : Heap} {g : Array GenState} {d : Drawn} {tk : Nat} {os : OsState} {Q E : Value → Shared → Prop} {a : SAd} {σ : Srt}
theorem Cx.grown (C : Cx w A env h₀ hp m G) {h' : Heap} (k : ∀ b o, hp.get? b = some o → h'.get? b = some o) : Cx w A env h₀ h' m G := by
  refine ⟨C.B, ⟨?_, fun b o e => k _ _ (C.F.keep b o e), C.F.above⟩, fun p hp' => ⟨k _ _ (C.N p hp').1, (C.N p hp').2⟩, C.D, C.X, C.T, C.hf, C.hke⟩
  (refine Mine.e3a2 C.F.ns ?_; rintro oL es ep hL r)
  exact ⟨oL, es, ep, k _ _ hL, r⟩
theorem Cx.tupleOf (C : Cx w A env h₀ hp m G) {l : Addr} {its : Array Value} {n : Nat} (hl : lk G l = some (listOf its n)) (hz : its.size < 2 ^ 20)
    (h : ∀ t h', Cx w A env h₀ h' m ((t, tupOf its 0) :: G) → lk G t = none → Q (.ref t) ⟨h', g, d, tk, os⟩) : wpAny (model P w) A (call (.type "tuple") [.ref l]) Q E ⟨hp, g, d, tk, os⟩ := by
  refine call_tuple_list (C.isList hl) (fun h' k => ?_) (by have : sizeLine = 2 ^ 24 := rfl; (exact Mine.o39 hz this))
  have C' := C.grown k
  exact h _ _ (C'.push _ rfl) C'.fresh
theorem Cx.clear (C : Cx w A env h₀ hp m G) {l : Addr} {its : Array Value} {n : Nat} (hl : lk G l = some (listOf its n)) (hz : its.size < 2 ^ 20)
    (h : ∀ h' n', Cx w A env h₀ h' m (st G l (listOf #[] n')) → Q .none ⟨h', g, d, tk, os⟩) : wpAny (model P w) A (call (.builtin "list.clear") [.ref l]) Q E ⟨hp, g, d, tk, os⟩ := by
  have ho := C.at hl
  refine call_meets PySem.F.slot_list_clear ⟨_, ho, rfl⟩ PySem.F.entry_list_clear (PySem.F.args_list_clear_1 _) (PySem.AutoSeq1.list_clear_list_0 l its n (by have : sizeLine = 2 ^ 24 := rfl; (exact Mine.o39 hz this))) ⟨ho, ?_⟩
  refine h _ (if (0 == its.size) = true then n else n + 1) (C.upd hl (Heap.SameBut.update ..) ?_)
  have := Heap.get?_update_self (Obj.mapSeq fun _ => #[]) ho (by rfl)
  rw [this]
  rfl
theorem meets_bool_list (l : Addr) (items : Array Value) (hz : (items.size : Int) < 2 ^ 63) : Meets (Builtin.«bool.__new__» ⟨[.type "bool", .ref l], []⟩) (fun _ R s => s.heap.IsList l items ∧ ∀ tk, R (.ok (.ret (.bool (!items.isEmpty)))) { s with toks := tk }) :=
  Meets.of_wp fun prog w A R s hs => by
    obtain ⟨hp, g, d, tk, os⟩ := s
    have f1 := PySem.F.conv_sub_bool
    repeat (any_goals (first | assumption | with_reducible apply wpAny_truthy_list hs.1 hz | wp_step))
    all_goals first | exact ⟨_, rfl, hs.2 _⟩ | skip
theorem Cx.boolL (C : Cx w A env h₀ hp m G) {l : Addr} {its : Array Value} {n : Nat} (hl : lk G l = some (listOf its n)) (hz : its.size < 2 ^ 20)
    (h : ∀ tk', Q (.bool (decide (0 < its.size))) ⟨hp, g, d, tk', os⟩) : wpAny (model P w) A (call (.type "bool") [.ref l]) Q E ⟨hp, g, d, tk, os⟩ := by
  refine call_bool_1 (meets_bool_list l its (by omega)) ⟨C.isList hl, fun tk' => ⟨rfl, ?_⟩⟩
  have e : (!its.isEmpty) = decide (0 < its.size) := by
    unfold Array.isEmpty
    by_cases q : its.size = 0
    · simp [q]
    · simp [q]; omega
  rw [e]; exact h _
end
end Mine
end TSo8

section TSo9
open PySem PySem.W PyProof.Rows PySem.Calls
namespace Mine
set_option maxRecDepth 100000
set_option maxHeartbeats 8000000
noncomputable def outNp (np : Nat → Int) (l : List Nat) : Nat → Int := l.foldl (fun np k => fset np k (-1)) np
theorem outNp_snoc {np : Nat → Int} {l : List Nat} {k : Nat} : outNp np (l ++ [k]) = fset (outNp np l) k (-1) := by unfold outNp; rw [List.foldl_append]; rfl
noncomputable def Srt.out (σ : Srt) (l : List Nat) : Srt := { σ with np := outNp σ.np l, ready := some [], po := σ.po + (l.length : Int) }
section
variable {w : World} {A : Around} {env : Env} {h₀ : Heap} {m : Str → Option Value} {G : LedT} {hp : Heap} {g : Array GenState} {d : Drawn} {tk : Nat} {os : OsState} {Q E : Value → Shared → Prop} {a : SAd} {σ : Srt}
theorem isActive_ct {l : List Nat} (C : Cx w A env h₀ hp m G) (hS : SorterAt w G a σ) (hr : σ.ready = some l) (hz : l.length < 2 ^ 18) (hd : A.depth + 3 < recursionLimit) (hu : A.units + 16 < cLine)
    (ret : ∀ h' tk', Cx w A env h₀ h' m G → Q (.bool (decide (σ.nf < σ.po) || decide (0 < l.length))) ⟨h', g, d, tk', os⟩) :
    wpAny (model P w) A (call (.ref 106) [.ref a.S]) Q E ⟨hp, g, d, tk, os⟩ := by
  have e9 : PySem.Challenge.rw_oh0057_01 = PySem.Challenge.rw_oh0057_01 := rfl
  have X := C.X
  revert X e9; k_fill; intro X e9; clear e9
  (refine Mine.e2a2 (hS.rdy l hr) ?_; rintro its n hR hA)
  have hl := hA.length
  have hsz : its.size = l.length := by rw [← hl]; simp
  k_dflt (refine' C.enterF (binds := [(Str.ofString "self", Value.ref a.S)]) ?k6 ?k7 ?k8 ?k9 ?kB ?c2 ?c3 ?c4 ?c5 ?_; (case k6 => k_is); (case k7 => k_is); (case k8 => (exact Mine.o10 hd)); (case k9 => exact BindsTo.of_eq rfl); (case c5 => decide); (case kB => exact locs rfl); (case c2 => exact rfl); (case c3 => exact rfl); (case c4 => exact rfl); k_whole; intro gb L' h₁ tk₁ C1 hlt)
  refine wpAny_execs_cons (wpAny_If (wpAny_isTrue_Compare1 (Attribute_Name_ (C1.name rfl (C1.sReady hS fun _ => wpAny_Constant_none ?_)))))
  rw [hr]
  refine is_none_ne (by simp [rdyV]) (wpAny_truthy_bool ?_)
  simp only [Bool.false_eq_true, if_false]
  refine wpAny_execs_nil (wpAny_execs_cons (wpAny_Return_some (wpAny_Or2 (wpAny_Compare1 ?_))))
  refine Attribute_Name_ (C1.name rfl (C1.sNf hS fun _ _ => Attribute_Name_ (C1.name rfl (C1.sPo hS fun _ _ => lt_int (wpAny_truthy_bool ?_)))))
  cases hc : decide (σ.nf < σ.po) with
  | true =>
    simp only [if_true]
    rw [hc] at ret
    exact ⟨_, _, C1, fun C2 => ret _ _ C2⟩
  | false =>
    simp only [Bool.false_eq_true, if_false]
    rw [hc] at ret
    refine C1.callT (n_bool w) Boot.bool (args_cons (Attribute_Name_ (C1.name rfl (C1.sReady hS fun _ => args_nil ?_))))
    rw [hr]
    refine C1.boolL hR (Mine.o149 hz hsz) fun _ => ?_
    rw [hsz]
    exact ⟨_, _, C1, fun C2 => ret _ _ C2⟩
theorem getReady_ct {l : List Nat} (C : Cx w A env h₀ hp m G) (hh : A.handled = none) (hS : SorterAt w G a σ) (hr : σ.ready = some l) (hin : ∀ k ∈ l, k < σ.n) (hz : l.length < 2 ^ 18) (hd : A.depth + 3 < recursionLimit) (hu : A.units + 16 < cLine)
    (ret : ∀ h' tk' G' T its n, Cx w A env h₀ h' m G' → SorterAt w G' a (σ.out l) → (∀ b o, lk G b = some o → ¬ Foot a σ.n b → lk G' b = some o) → lk G T = none → lk G' T = some (tupOf its n) → All2 IsN its.toList l → Q (.ref T) ⟨h', g, d, tk', os⟩) :
    wpAny (model P w) A (call (.ref 99) [.ref a.S]) Q E ⟨hp, g, d, tk, os⟩ := by
  have e9 : PySem.Challenge.rw_oh0057_01 = PySem.Challenge.rw_oh0057_01 := rfl
  have X := C.X
  revert X e9; k_fill; intro X e9; clear e9
  (refine Mine.e2a2 (hS.rdy l hr) ?_; rintro its n hR hA)
  have hl := hA.length
  have hsz : its.size = l.length := by rw [← hl]; simp
  k_dflt (refine' C.enterF (binds := [(Str.ofString "self", Value.ref a.S)]) ?k6 ?k7 ?k8 ?k9 ?kB ?c2 ?c3 ?c4 ?c5 ?_; (case k6 => k_is); (case k7 => k_is); (case k8 => (exact Mine.o10 hd)); (case k9 => exact BindsTo.of_eq rfl); (case c5 => decide); (case kB => exact locs rfl); (case c2 => exact rfl); (case c3 => exact rfl); (case c4 => exact rfl); k_whole; intro gb L' h₁ tk₁ C1 hlt)
  refine wpAny_execs_cons (wpAny_If (wpAny_isTrue_Compare1 (Attribute_Name_ (C1.name rfl (C1.sReady hS fun _ => wpAny_Constant_none ?_)))))
  rw [hr]
  refine is_none_ne (by simp [rdyV]) (wpAny_truthy_bool ?_)
  simp only [Bool.false_eq_true, if_false]
  refine wpAny_execs_nil (wpAny_execs_cons (wpAny_Assign_Name (C1.callT (n_tuple w) Boot.tuple (args_cons (Attribute_Name_ (C1.name rfl (C1.sReady hS fun _ => args_nil ?_)))))))
  rw [hr]
  refine C1.tupleOf hR (Mine.o149 hz hsz) fun T h₂ C2 hT => ?_
  refine C2.store fun h₃ tk₃ C3 => ?_
  have hS3 : SorterAt w ((T, tupOf its 0) :: G) a σ := hS.keep (Grow.cons hT)
  refine wpAny_execs_cons (wpAny_Assign_Name (Attribute_Name_ (C3.name rfl (C3.sN2i hS3 fun _ => ?_))))
  refine C3.store fun h₄ tk₄ C4 => ?_
  refine wpAny_execs_cons (wpAny_For (C4.name rfl ?_))
  refine C4.for_tuple (fun i m₁ G₁ => m₁ (Str.ofString "self") = some (.ref a.S) ∧ m₁ (Str.ofString "n2i") = some (.ref a.N) ∧ m₁ (Str.ofString "result") = some (.ref T) ∧ lk G₁ T = some (tupOf its 0) ∧ SorterAt w G₁ a { σ with np := outNp σ.np (l.take i) } ∧ ∀ b o, lk G b = some o → ¬ Foot a σ.n b → lk G₁ b = some o) hh
    ⟨rfl, rfl, rfl, lk_cons_eq, hS3, fun b o hb _ => lk_cons_ne (lk_ne hb hT) hb⟩ (fun _ _ _ hj => hj.2.2.2.1) rfl ?_ ?_ ?_
  · rintro _ _ G₁ G₂' hZ1 u
    (refine Mine.e0a6 hZ1 ?_; clear hZ1; rintro q1 q2 q3 p1 p2 p3)
    exact ⟨q1, q2, q3, u _ _ p1 (.inr (by simp)), p2.up u, fun b o hb hne => u _ _ (p3 b o hb hne) (.inl (by rw [lk_cons_ne (lk_ne hb hT) hb]; simp))⟩
  · rintro i v m₁ G₁ h₅ tk₅ I oI hv hZ2 C5 hI ⟨vsI, hIf⟩ hIn
    (refine Mine.e0a6 hZ2 ?_; clear hZ2; rintro q1 q2 q3 p1 p2 p3)
    obtain ⟨k, hk', tv, rfl⟩ := hA.getL hv
    have hkn : k < σ.n := hin k (List.mem_of_getElem? hk')
    refine wpAny_execs_cons (plainObj_wpAny_Assign_Attribute (C5.glob (g_NODE_OUT w) (Subscript_ (C5.name (mset_ne (by decide) q2) (C5.name mset_eq ?_)))))
    refine C5.ditem p2.n2i (by rw [nodeKvs]; exact valueAt_some hkn) fun _ => ?_
    obtain ⟨⟨z1, z2, r1⟩, ⟨od', r2, r5⟩, its', nn', r3, r4⟩ := p2.node k hkn
    refine C5.setS (slot_npredecessors w) r1 r2 fun h₆ tk₆ C6 => ?_
    have htake : l.take (i + 1) = l.take i ++ [k] := by rw [List.take_add_one, hk']; rfl
    refine wpAny_execs_nil ⟨h₆, _, _, _, rfl, C6, ?_, mset_ne (by decide) q1, mset_ne (by decide) q2, mset_ne (by decide) q3, ?_, ?_, ?_⟩
    · exact lk_st_ne (fun q => by rw [q, r1] at hI; cases hI; cases hIf) hI
    · exact lk_st_ne (ne_cls p1 r1 (by simp)) p1
    · rw [htake, outNp_snoc]
      exact p2.setNp hkn
    · intro b o hb hf
      exact lk_st_ne (fun q => hf (.inr (.inr (.inr ⟨k, hkn, .inl q⟩)))) (p3 b o hb hf)
  · rintro m₁ G₁ h₅ tk₅ hZ3 C5
    (refine Mine.e0a6 hZ3 ?_; clear hZ3; rintro q1 q2 q3 p1 p2 p3)
    rw [hl, List.take_length] at p2
    -- self._ready_nodes.clear()
    (refine Mine.e2a2 (p2.rdy l hr) ?_; rintro its5 n5 hR5 hA5)
    have hsz5 : its5.size = l.length := by rw [← hA5.length]; simp
    refine wpAny_execs_cons (wpAny_Expr (MethodCall_ (Attribute_Name_ (C5.name q1 (C5.sReady p2 fun _ => ?_)))))
    show wpAny _ _ (getMethod (rdyV a σ.ready) _ _) _ _ _
    rw [hr]
    refine C5.listMeth hR5 PySem.F.slot_list_clear PySem.F.type_list_clear (callWith_method0 ?_)
    refine C5.clear hR5 (Mine.o149 hz hsz5) fun h₆ n6 C6 => ?_
    have hS6 := p2.setR (its := #[]) (n := n6) (l := []) (by show σ.ready ≠ none; rw [hr]; simp) .nil
    have hT6 : lk (Mine.st G₁ a.R (listOf #[] n6)) T = some (tupOf its 0) := lk_st_ne (tup_ne_list p1 hR5) p1
    -- self._npassedout += len(result)
    refine wpAny_execs_cons (wpAny_AugAssign_AttributeAny (C6.name q1 (C6.sPo hS6 fun _ _ => C6.callB (n_len w) Boot.len (args_cons (C6.name q3 (args_nil (C6.lenT hT6 (Mine.o149 hz hsz) fun _ _ => o_iadd fun t5 _ => ?_)))))))
    obtain ⟨x1, x2, x3, x4, y1, y2, y3, y4, y5, y6, eD⟩ := hS6.dict
    refine C6.setD (set_137_npassedout w) hS6.inst eD rfl (Nat.le_of_ble_eq_true rfl) fun h₇ tk₇ t7 C7 => ?_
    have hS7 := hS6.setD (rd := some []) (po := σ.po + (its.size : Int)) (nf := σ.nf) (x1 := x1) (x2 := x2) (x3 := x3) (x4 := x4) (y1 := y1) (y2 := y2) (y3 := y3) (y4 := y4) (y5 := t5) (y6 := y6) rfl
    refine wpAny_execs_cons (wpAny_Return_some (C7.name q3 ?_))
    refine ⟨_, _, C7, fun C8 => ret _ _ _ T its 0 C8 ?_ ?_ hT ?_ hA⟩
    · have e : (its.size : Int) = (l.length : Int) := by omega
      rw [e] at hS7
      rw [e]
      exact hS7
    · intro b o hb hf
      exact lk_st_ne (fun q => hf (.inl q)) (lk_st_ne (fun q => hf (.inr (.inr (.inl q)))) (p3 b o hb hf))
    · exact lk_st_ne (ne_cls hT6 eD (by simp)) hT6
end
end Mine
end TSo9

section TSo10
open PySem PySem.W PyProof.Rows PySem.Calls
namespace Mine
set_option maxRecDepth 100000
set_option maxHeartbeats 8000000
/-- one need of a successor's has ended -/
noncomputable def Srt.rel (σ : Srt) (s : Nat) : Srt := { σ with np := fset σ.np s (σ.np s - 1), ready := if σ.np s - 1 = 0 then σ.ready.map (· ++ [s]) else σ.ready }
noncomputable def Srt.mark (σ : Srt) (k : Nat) : Srt := { σ with np := fset σ.np k (-2) }
noncomputable def Srt.done (σ : Srt) (k : Nat) : Srt := { (σ.su k).foldl Srt.rel (σ.mark k) with nf := σ.nf + 1 }
theorem rels_same (l : List Nat) : ∀ σ : Srt, (l.foldl Srt.rel σ).n = σ.n ∧ (l.foldl Srt.rel σ).su = σ.su ∧ (l.foldl Srt.rel σ).po = σ.po ∧ (l.foldl Srt.rel σ).nf = σ.nf ∧ (∀ r, σ.ready = some r → ∃ r', (l.foldl Srt.rel σ).ready = some r' ∧ r'.length ≤ r.length + l.length) := by
  induction l with
  | nil => intro σ; exact ⟨rfl, rfl, rfl, rfl, fun r hr => ⟨r, hr, by simp⟩⟩
  | cons s l ih =>
    intro σ
    (refine Mine.e0a5 (ih (σ.rel s)) ?_; rintro h1 h2 h3 h4 h5)
    refine ⟨h1, h2, h3, h4, fun r hr => ?_⟩
    by_cases hc : σ.np s - 1 = 0
    · (refine Mine.e1a2 (h5 (r ++ [s]) (by simp [Srt.rel, hc, hr])) ?_; rintro r' e1 e2)
      exact ⟨r', e1, by simp at e2 ⊢; (exact Mine.o4 e2)⟩
    · (refine Mine.e1a2 (h5 r (by simp [Srt.rel, hc, hr])) ?_; rintro r' e1 e2)
      exact ⟨r', e1, by simp; (exact Mine.o6 e2)⟩
section
variable {w : World} {A : Around} {env : Env} {h₀ : Heap} {m : Str → Option Value} {G : LedT} {hp : Heap} {g : Array GenState} {d : Drawn} {tk : Nat} {os : OsState} {Q E : Value → Shared → Prop} {a : SAd} {σ : Srt}
theorem done_ct {l : List Nat} {k : Nat} {t : Tok} (C : Cx w A env h₀ hp m G) (hh : A.handled = none) (hS : SorterAt w G a σ) (hr : σ.ready = some l) (hk : k < σ.n) (hnp : σ.np k = -1) (hsu : ∀ s ∈ σ.su k, s < σ.n) (hz : l.length + (σ.su k).length < 2 ^ 18) (hd : A.depth + 3 < recursionLimit) (hu : A.units + 16 < cLine)
    (ret : ∀ h' tk' G', Cx w A env h₀ h' m G' → SorterAt w G' a (σ.done k) → (∀ b o, lk G b = some o → ¬ Foot a σ.n b → lk G' b = some o) → Q .none ⟨h', g, d, tk', os⟩) :
    wpAny (model P w) A (call (.ref 120) [.ref a.S, .int (k : Int) t]) Q E ⟨hp, g, d, tk, os⟩ := by
  have e9 : PySem.Challenge.rw_oh0057_01 = PySem.Challenge.rw_oh0057_01 := rfl
  have X := C.X
  revert X e9; k_fill; intro X e9; clear e9
  k_dflt (refine' C.enterV (rest := [Value.int (k : Int) t]) (binds := fun v => [(Str.ofString "self", Value.ref a.S), (Str.ofString "nodes", v)]) ?k6 ?k7 ?k8 ?k9 ?kz ?kB ?c2 ?c3 ?c4 ?c5 ?_; (case k6 => k_is); (case k7 => k_is); (case k8 => (exact Mine.o10 hd)); (case k9 => (refine' bind_one ?h1 ?h2 ?h3 ?h4 ?h5 ?h6 ?h8; (case h4 => exact rfl); (case h1 => exact rfl); (case h2 => exact rfl); (case h3 => exact rfl); (case h5 => exact rfl); (case h6 => exact rfl); (case h8 => exact rfl))); (case kz => simp); (case c5 => decide); (case kB => exact fun v => locs rfl); (case c2 => exact rfl); (case c3 => exact rfl); (case c4 => exact rfl); k_whole; intro Dp gb L' h₁ tk₁ hlt C1)
  have hDp : lk G Dp = none := lk_fresh hlt
  have hS1 : SorterAt w ((Dp, tupOf [Value.int (k : Int) t].toArray 0) :: G) a σ := hS.keep (Grow.cons hDp)
  refine wpAny_execs_cons (wpAny_If (wpAny_isTrue_Compare1 (Attribute_Name_ (C1.name rfl (C1.sReady hS1 fun _ => wpAny_Constant_none ?_)))))
  rw [hr]
  refine is_none_ne (by simp [rdyV]) (wpAny_truthy_bool ?_)
  simp only [Bool.false_eq_true, if_false]
  refine wpAny_execs_nil (wpAny_execs_cons (wpAny_Assign_Name (Attribute_Name_ (C1.name rfl (C1.sN2i hS1 fun _ => C1.store fun h₂ tk₂ C2 => ?_)))))
  refine wpAny_execs_cons (wpAny_For (C2.name rfl ?_))
  refine C2.for_tuple (fun i m₁ G₁ => m₁ (Str.ofString "self") = some (.ref a.S) ∧ m₁ (Str.ofString "n2i") = some (.ref a.N) ∧ lk G₁ Dp = some (tupOf [Value.int (k : Int) t].toArray 0) ∧ SorterAt w G₁ a (if i = 0 then σ else σ.done k) ∧ ∀ b o, lk G b = some o → ¬ Foot a σ.n b → lk G₁ b = some o) hh
    ⟨rfl, rfl, lk_cons_eq, hS1, fun b o hb _ => lk_cons_ne (lk_ne hb hDp) hb⟩ (fun _ _ _ hj => hj.2.2.1) rfl ?_ ?_ ?_
  · rintro _ _ G₁ G₂' hZ1 u
    (refine Mine.e0a5 hZ1 ?_; clear hZ1; rintro q1 q2 p1 p2 p3)
    exact ⟨q1, q2, u _ _ p1 (.inr (by simp)), p2.up u, fun b o hb hne => u _ _ (p3 b o hb hne) (.inl (by rw [lk_cons_ne (lk_ne hb hDp) hb]; simp))⟩
  · rintro i v m₁ G₁ h₅ tk₅ I oI hv hZ2 C5 hI ⟨vsI, hIf⟩ hIn
    (refine Mine.e0a5 hZ2 ?_; clear hZ2; rintro q1 q2 p1 p2 p3)
    have hi0 : i = 0 := by
      have := (List.getElem?_eq_some_iff.mp hv).1
      simp at this; (exact Mine.o15 this)
    subst hi0
    have hv : v = .int (k : Int) t := by simpa using hv.symm
    subst hv
    simp only [if_true] at p2
    -- if (nodeinfo := n2i.get(node)) is None
    refine wpAny_execs_cons (wpAny_If (wpAny_isTrue_Compare1 (wpAny_NamedExpr (MethodCall_ (C5.name (mset_ne (by decide) q2) ?_)))))
    refine C5.dgetM p2.n2i (callWith_method1 (args_cons (C5.name mset_eq (args_nil (C5.dget p2.n2i fun _ => ?_)))))
    rw [nodeKvs, valueAt_some hk]
    refine wpAny_assign_Name (C5.store fun h₆ tk₆ C6 => wpAny_Constant_none ?_)
    refine is_none_ne (by simp) (wpAny_truthy_bool ?_)
    simp only [Bool.false_eq_true, if_false]
    -- stat = nodeinfo.npredecessors
    obtain ⟨⟨z1, z2, r1⟩, ⟨od', r2, r5⟩, its', nn', r3, r4⟩ := p2.node k hk
    refine wpAny_execs_nil (wpAny_execs_cons (wpAny_Assign_Name (Attribute_Name_ (C6.name mset_eq (C6.getS (slot_npredecessors w) r1 r2 rfl rfl fun _ => C6.store fun h₇ tk₇ C7 => ?_)))))
    -- if stat != _NODE_OUT
    refine wpAny_execs_cons (wpAny_If (wpAny_isTrue_Compare1 (C7.name mset_eq (C7.glob (g_NODE_OUT w) (ne_int (wpAny_truthy_bool ?_))))))
    rw [hnp]
    rw [if_neg (by simp)]
    -- nodeinfo.npredecessors = _NODE_DONE
    refine wpAny_execs_nil (wpAny_execs_cons (plainObj_wpAny_Assign_Attribute (C7.glob (g_NODE_DONE w) (C7.name (mset_ne (by decide) mset_eq) ?_))))
    refine C7.setS (slot_npredecessors w) r1 r2 fun h₈ tk₈ C8 => ?_
    have hS8 : SorterAt w _ a (σ.mark k) := p2.setNp hk (np := -2) (t1 := z1) (t2 := 200)
    have C8 : C7.Same h₈ _ (Mine.st G₁ (a.I k) (nodeObj (a.D k) (a.Su k) (-2) k z1 200)) := C8
    have r1' : lk (Mine.st G₁ (a.I k) (nodeObj (a.D k) (a.Su k) (-2) k z1 200)) (a.I k) = some (nodeObj (a.D k) (a.Su k) (-2) k z1 200) := lk_st_eq
    have r3' : lk (Mine.st G₁ (a.I k) (nodeObj (a.D k) (a.Su k) (-2) k z1 200)) (a.Su k) = some (listOf its' nn') := lk_st_ne (ne_cls r3 r1 (by simp)) r3
    have hI8 : lk (Mine.st G₁ (a.I k) (nodeObj (a.D k) (a.Su k) (-2) k z1 200)) I = some oI := lk_st_ne (fun q => by rw [q, r1] at hI; cases hI; cases hIf) hI
    have hDp8 : lk (Mine.st G₁ (a.I k) (nodeObj (a.D k) (a.Su k) (-2) k z1 200)) Dp = some (tupOf [Value.int (k : Int) t].toArray 0) := lk_st_ne (ne_cls p1 r1 (by simp)) p1
    (refine Mine.e1a2 (lk_some_st (c := a.I k) (o := nodeObj (a.D k) (a.Su k) (-2) k z1 200) ⟨od', r2, r5⟩ (by simp)) ?_; rintro od8 r2' _)
    have hk8 : ∀ b o, lk G b = some o → ¬ Foot a σ.n b → lk (Mine.st G₁ (a.I k) (nodeObj (a.D k) (a.Su k) (-2) k z1 200)) b = some o := fun b o hb hf => lk_st_ne (fun q => hf (.inr (.inr (.inr ⟨k, hk, .inl q⟩)))) (p3 b o hb hf)
    refine wpAny_execs_cons (wpAny_For (Attribute_Name_ (C8.name (mset_ne (by decide) mset_eq) (C8.getS (slot_successors w) r1' r2' rfl rfl fun _ => ?_))))
    have hl4 := r4.length
    refine C8.for_list (its := its') (n := nn') (fun j m₂ G₂ => m₂ (Str.ofString "self") = some (.ref a.S) ∧ m₂ (Str.ofString "n2i") = some (.ref a.N) ∧ lk G₂ Dp = some (tupOf [Value.int (k : Int) t].toArray 0) ∧ lk G₂ I = some oI ∧ lk G₂ (a.Su k) = some (listOf its' nn') ∧ SorterAt w G₂ a (((σ.su k).take j).foldl Srt.rel (σ.mark k)) ∧ ∀ b o, lk G b = some o → ¬ Foot a σ.n b → lk G₂ b = some o) hh
      ⟨mset_ne (by decide) (mset_ne (by decide) (mset_ne (by decide) q1)), mset_ne (by decide) (mset_ne (by decide) (mset_ne (by decide) q2)), hDp8, hI8, r3', hS8, hk8⟩ (fun _ _ _ hj => hj.2.2.2.2.1) rfl ?_ ?_ ?_
    · rintro _ _ G₂ G₃ hZ3 u
      (refine Mine.e0a7 hZ3 ?_; clear hZ3; rintro s1 s2 s3 s4 s5 s6 s7)
      exact ⟨s1, s2, u _ _ s3 (.inr (by simp)), u _ _ s4 (.inl (by rw [hI8]; simp)), u _ _ s5 (.inr (by simp)), s6.up u, fun b o hb hne => u _ _ (s7 b o hb hne) (.inl (by rw [hk8 b o hb hne]; simp))⟩
    · rintro j v m₂ G₂ h₉ tk₉ I2 oI2 hv hZ4 C9 hI2 ⟨vsI2, hIf2⟩ hIn2
      (refine Mine.e0a7 hZ4 ?_; clear hZ4; rintro s1 s2 s3 s4 s5 s6 s7)
      obtain ⟨sc, hsc, tv, rfl⟩ := r4.getL hv
      have hscn : sc < σ.n := hsu sc (List.mem_of_getElem? hsc)
      (refine Mine.e0a5 (rels_same ((σ.su k).take j) (σ.mark k)) ?_; rintro en esu epo enf erd)
      (refine Mine.e1a2 (erd l hr) ?_; rintro rl hrl hrll)
      have hscn' : sc < (((σ.su k).take j).foldl Srt.rel (σ.mark k)).n := by rw [en]; exact hscn
      have htake : (σ.su k).take (j + 1) = (σ.su k).take j ++ [sc] := by rw [List.take_add_one, hsc]; rfl
      have hfold : ((σ.su k).take (j + 1)).foldl Srt.rel (σ.mark k) = (((σ.su k).take j).foldl Srt.rel (σ.mark k)).rel sc := by rw [htake, List.foldl_append]; rfl
      generalize hτ : ((σ.su k).take j).foldl Srt.rel (σ.mark k) = τ at s6 hrl hscn' hfold
      -- successor_info = n2i[successor]
      refine wpAny_execs_cons (wpAny_Assign_Name (Subscript_ (C9.name (mset_ne (by decide) s2) (C9.name mset_eq ?_))))
      refine C9.ditem s6.n2i (by rw [nodeKvs]; exact valueAt_some hscn') fun _ => C9.store fun h10 tk10 C10 => ?_
      -- successor_info.npredecessors -= 1
      obtain ⟨⟨c1, c2, d1⟩, ⟨od9, d2, d5⟩, its9, nn9, d3, d4⟩ := s6.node sc hscn'
      refine wpAny_execs_cons (wpAny_AugAssign_AttributeAny (C10.name mset_eq (C10.getS (slot_npredecessors w) d1 d2 rfl rfl fun _ => c_int fun _ _ => o_isub fun tq _ => ?_)))
      refine C10.setS (slot_npredecessors w) d1 d2 fun h11 tk11 C11 => ?_
      have C11 : C10.Same h11 _ (Mine.st G₂ (a.I sc) (nodeObj (a.D sc) (a.Su sc) (τ.np sc - 1) sc c1 tq)) := C11
      have hS11 := s6.setNp hscn' (np := τ.np sc - 1) (t1 := c1) (t2 := tq)
      have d1' : lk (Mine.st G₂ (a.I sc) (nodeObj (a.D sc) (a.Su sc) (τ.np sc - 1) sc c1 tq)) (a.I sc) = some (nodeObj (a.D sc) (a.Su sc) (τ.np sc - 1) sc c1 tq) := lk_st_eq
      (refine Mine.e1a2 (lk_some_st (c := a.I sc) (o := nodeObj (a.D sc) (a.Su sc) (τ.np sc - 1) sc c1 tq) ⟨od9, d2, d5⟩ (by simp)) ?_; rintro od11 d2' _)
      have w3 : lk (Mine.st G₂ (a.I sc) (nodeObj (a.D sc) (a.Su sc) (τ.np sc - 1) sc c1 tq)) Dp = some (tupOf [Value.int (k : Int) t].toArray 0) := lk_st_ne (ne_cls s3 d1 (by simp)) s3
      have w4 : lk (Mine.st G₂ (a.I sc) (nodeObj (a.D sc) (a.Su sc) (τ.np sc - 1) sc c1 tq)) I = some oI := lk_st_ne (fun q => by rw [q, d1] at s4; cases s4; cases hIf) s4
      have w5 : lk (Mine.st G₂ (a.I sc) (nodeObj (a.D sc) (a.Su sc) (τ.np sc - 1) sc c1 tq)) (a.Su k) = some (listOf its' nn') := lk_st_ne (ne_cls s5 d1 (by simp)) s5
      have w6 : lk (Mine.st G₂ (a.I sc) (nodeObj (a.D sc) (a.Su sc) (τ.np sc - 1) sc c1 tq)) I2 = some oI2 := lk_st_ne (fun q => by rw [q, d1] at hI2; cases hI2; cases hIf2) hI2
      have w7 : ∀ b o, lk G b = some o → ¬ Foot a σ.n b → lk (Mine.st G₂ (a.I sc) (nodeObj (a.D sc) (a.Su sc) (τ.np sc - 1) sc c1 tq)) b = some o := fun b o hb hf => lk_st_ne (fun q => hf (.inr (.inr (.inr ⟨sc, hscn, .inl q⟩)))) (s7 b o hb hf)
      -- if successor_info.npredecessors == 0
      refine wpAny_execs_cons (wpAny_If (wpAny_isTrue_Compare1 (Attribute_Name_ (C11.name mset_eq (C11.getS (slot_npredecessors w) d1' d2' rfl rfl fun _ => c_int fun _ _ => eq_int (wpAny_truthy_bool ?_))))))
      by_cases hc : τ.np sc - 1 = 0
      · rw [if_pos (by simpa using hc)]
        have hrl11 : ({ τ with np := fset τ.np sc (τ.np sc - 1) } : Srt).ready = some rl := hrl
        (refine Mine.e2a2 (hS11.rdy rl hrl11) ?_; rintro its11 n11 hR11 hA11)
        refine wpAny_execs_cons (wpAny_Expr (MethodCall_ (Attribute_Name_ (C11.name (mset_ne (by decide) (mset_ne (by decide) s1)) (C11.sReady hS11 fun _ => ?_)))))
        show wpAny _ _ (getMethod (rdyV a τ.ready) _ _) _ _ _
        rw [hrl]
        have hsz11 : its11.size = rl.length := by rw [← hA11.length]; simp
        refine C11.listMeth hR11 PySem.F.slot_list_append PySem.F.type_list_append (callWith_method1 (args_cons (C11.name (mset_ne (by decide) mset_eq) (args_nil ?_))))
        have hlt2 : ((σ.su k).take j).length ≤ (σ.su k).length := by rw [List.length_take]; (exact Mine.o53)
        refine C11.append hR11 (Mine.o54 hz hrll hsz11 hlt2) fun h12 C12 => ?_
        refine wpAny_execs_nil (wpAny_execs_nil ⟨h12, _, _, _, rfl, C12, ?_, mset_ne (by decide) (mset_ne (by decide) s1), mset_ne (by decide) (mset_ne (by decide) s2), ?_, ?_, ?_, ?_, ?_⟩)
        · exact lk_st_ne (fun q => by rw [q, hR11] at w6; cases w6; cases hIf2) w6
        · exact lk_st_ne (tup_ne_list w3 hR11) w3
        · exact lk_st_ne (fun q => by rw [q, hR11] at w4; cases w4; cases hIf) w4
        · exact lk_st_ne (fun q => hS11.rS (by rw [hrl11]; simp) k (by show k < τ.n; rw [← hτ, en]; exact hk) q.symm) w5
        · rw [hfold]
          have := hS11.setR (n := n11 + 1) (l := rl ++ [sc]) (by rw [hrl11]; simp) (its := its11.push (.int (sc : Int) tv)) (by simpa using hA11.snoc ⟨tv, rfl⟩)
          have e : τ.rel sc = { ({ τ with np := fset τ.np sc (τ.np sc - 1) } : Srt) with ready := some (rl ++ [sc]) } := by simp [Srt.rel, hc, hrl]
          rw [e]; exact this
        · intro b o hb hf
          exact lk_st_ne (fun q => hf (.inr (.inr (.inl q)))) (w7 b o hb hf)
      · rw [if_neg (by simpa using hc)]
        refine wpAny_execs_nil (wpAny_execs_nil ⟨h11, _, _, _, rfl, C11, w6, mset_ne (by decide) (mset_ne (by decide) s1), mset_ne (by decide) (mset_ne (by decide) s2), w3, w4, w5, ?_, w7⟩)
        rw [hfold]
        have e : τ.rel sc = { τ with np := fset τ.np sc (τ.np sc - 1) } := by simp [Srt.rel, hc]
        rw [e]; exact hS11
    · rintro m₂ G₂ h₉ tk₉ hZ5 C9
      (refine Mine.e0a7 hZ5 ?_; clear hZ5; rintro s1 s2 s3 s4 s5 s6 s7)
      have : (σ.su k).take its'.toList.length = σ.su k := by rw [List.take_of_length_le]; (exact Mine.o31 hl4)
      rw [this] at s6
      (refine Mine.e0a5 (rels_same (σ.su k) (σ.mark k)) ?_; rintro en esu epo enf erd)
      -- self._nfinished += 1
      refine wpAny_execs_cons (wpAny_AugAssign_AttributeAny (C9.name s1 (C9.sNf s6 fun _ _ => c_int fun _ _ => o_iadd fun t6 _ => ?_)))
      obtain ⟨x1, x2, x3, x4, y1, y2, y3, y4, y5, y6, eD⟩ := s6.dict
      refine C9.setD (set_137_nfinished w) s6.inst eD rfl (Nat.le_of_ble_eq_true rfl) fun h10 tk10 t7 C10 => ?_
      have hS10 := s6.setD (rd := ((σ.su k).foldl Srt.rel (σ.mark k)).ready) (po := ((σ.su k).foldl Srt.rel (σ.mark k)).po) (nf := ((σ.su k).foldl Srt.rel (σ.mark k)).nf + 1) (x1 := x1) (x2 := x2) (x3 := x3) (x4 := x4) (y1 := y1) (y2 := y2) (y3 := y3) (y4 := y4) (y5 := y5) (y6 := t6) rfl
      refine wpAny_execs_nil ⟨h10, _, _, _, rfl, C10, ?_, s1, s2, ?_, ?_, ?_⟩
      · exact lk_st_ne (fun q => by rw [q, eD] at s4; cases s4; cases hIf) s4
      · exact lk_st_ne (ne_cls s3 eD (by simp)) s3
      · rw [if_neg (by simp)]
        have e : σ.done k = { (σ.su k).foldl Srt.rel (σ.mark k) with po := ((σ.su k).foldl Srt.rel (σ.mark k)).po, nf := ((σ.su k).foldl Srt.rel (σ.mark k)).nf + 1 } := by
          unfold Srt.done; rw [enf]; rfl
        rw [e]; exact hS10
      · intro b o hb hf
        exact lk_st_ne (fun q => hf (.inl q)) (s7 b o hb hf)
  · rintro m₁ G₁ h₅ tk₅ hZ6 C5
    (refine Mine.e0a5 hZ6 ?_; clear hZ6; rintro q1 q2 p1 p2 p3)
    refine wpAny_execs_nil ⟨_, _, C5, fun C6 => ret _ _ _ C6 ?_ p3⟩
    simpa using p2
end
end Mine
end TSo10

section TEx
open PySem PySem.W PyProof.Rows PySem.Calls
namespace Mine
/-- the base, turned by a raise: the slots of the outer frames alone differ -/
def Turn (A : Around) (g g' : Heap) : Prop := ∀ env outer, A.frames = some (env :: outer) → KtsTurn (outer.filterMap (·.frame)) g g'
theorem Turn.refl {A : Around} {g : Heap} : Turn A g g := fun _ _ _ => KtsTurn.refl
theorem Turn.trans {A : Around} {g g₁ g₂ : Heap} (x : Turn A g g₁) (y : Turn A g₁ g₂) : Turn A g g₂ := fun e o h => (x e o h).trans (y e o h)
section
variable {w : World} {A : Around} {env : Env} {h₀ : Heap} {m : Str → Option Value} {G : LedT} {hp : Heap} {g : Array GenState} {d : Drawn} {tk : Nat} {os : OsState} {Q E : Value → Shared → Prop}
theorem Cx.turn (C : Cx w A env h₀ hp m G) {outer : List Env} {h₀' h' : Heap} {m' : Str → Option Value} {G' : LedT} (hA : A.frames = some (env :: outer)) (T : KtsTurn (outer.filterMap (·.frame)) h₀ h₀') (F : Fr h₀' env.locals h' m') (N : News h₀' env.locals h' G') (D : ND G') :
    Cx w A env h₀' h' m' G' := by
  obtain ⟨⟨A₀, base, outer', B, hA', hXB, hTB, hDi⟩, _, _, _, _, _, hf, hke⟩ := C
  obtain rfl : outer' = outer := by rw [hA] at hA'; cases hA'; rfl
  have B' : Below A₀ base outer' h₀' := ⟨B.stack, fun b o e => T.other b o (B.stays b o e) (fun hm => by rw [(B.frames.mem hm).1] at e; cases e), B.frames.of_keeps fun b o e _ => by
    obtain ⟨sl, hs⟩ := T.up e
    exact ⟨_, hs, rfl⟩⟩
  (refine Mine.e3a1 hTB ?_; clear hTB; rintro mean mg mb TB)
  exact ⟨⟨A₀, base, outer', B', hA, hXB, ⟨mean, mg, mb, TB⟩, hDi.turn T⟩, F, N, D, hXB.keeps B'.stays, ⟨mean, mg, mb, TB.keeps B'.stays⟩, hf, hke⟩
/-- what a body must bring when it leaves, where it may have raised and caught -/
def LeaveR (w : World) (A : Around) (env : Env) (h₀ : Heap) (m : Str → Option Value) (A' : Around) (env' : Env) (gb : Heap) (Q : Value → Shared → Prop) (fl : Flow) (s' : Shared) : Prop :=
  ∃ gb' m' G', Turn A' gb gb' ∧ Cx w A' env' gb' s'.heap m' G' ∧ (∀ h₀', Turn A h₀ h₀' → Cx w A env h₀' s'.heap m G' → Q (retv fl) s')
/-- a raise of the own class has left the callee -/
def Flown (w : World) (A : Around) (env : Env) (h₀ : Heap) (m : Str → Option Value) (G' : LedT) (c e : Addr) (h' : Heap) : Prop :=
  ∃ A₀ base outer gb' h₀' t vs, KtsTurn (outer.filterMap (·.frame)) h₀ h₀' ∧ Below A₀ base outer h₀' ∧ A.frames = some (env :: outer) ∧ KtsDicts (outer.filterMap (·.frame)) h₀' ∧ Fr h₀' env.locals gb' m ∧ gb'.UpToSlots h' ∧ RaisedS base gb' (env :: outer) e (.ref c) t vs G' h' ∧ ND G' ∧
    (Mine.hd.heap_1 w.params).In base ∧ (∃ mean mg mb, Top topProg LS mean mg mb base)
/-- the caller's ground, after a turn of the callee's -/
theorem Cx.backR (C : Cx w A env h₀ hp m G) {outer : List Env} {gb gb' h' : Heap} {G' : LedT} (hA : A.frames = some (env :: outer)) (FG : Fr h₀ env.locals gb m) (T : KtsTurn ((env :: outer).filterMap (·.frame)) gb gb') (hk : ∀ b o, gb'.get? b = some o → h'.get? b = some o) (hG : ∀ p ∈ G', gb'.get? p.1 = none) :
    ∃ h₀', KtsTurn (outer.filterMap (·.frame)) h₀ h₀' ∧ Fr h₀' env.locals h' m ∧ (∀ p ∈ G', p.1 ≠ env.locals ∧ h₀'.get? p.1 = none) := by
  obtain ⟨⟨A₀, base, outer', B, hA', hXB, hTB, hDi⟩, F, _, _, _, _, hf, hke⟩ := C
  obtain rfl : outer' = outer := by rw [hA] at hA'; cases hA'; rfl
  have nL₀ : h₀.get? env.locals = none := kts_self FG
  have hmem : ∀ b, b ∈ (env :: outer').filterMap (·.frame) ↔ b = env.locals ∨ b ∈ outer'.filterMap (·.frame) := fun b => by
    rw [List.filterMap_cons, hf]; exact List.mem_cons
  (refine Mine.e3a4 FG.ns ?_; rintro oL es ep hL hLd hLk hLf)
  obtain ⟨sl, hs⟩ := T.up hL
  obtain ⟨T₁, S₁⟩ := kts_turn_at (h := h') (fs := outer'.filterMap (·.frame)) (g := h₀)
    (fun b hb => by
      obtain ⟨_, o, ho', _⟩ := B.frames.mem hb
      exact ⟨o, ho'⟩)
    (fun b o e nmem => hk b o (T.other b o (FG.keep b o e) (fun q => by
      rcases (hmem b).mp q with z | z
      · rw [z, nL₀] at e
        cases e
      · exact nmem z)))
    (fun b o e hm => by
      obtain ⟨sl', hs'⟩ := T.up (FG.keep b o e)
      exact ⟨sl', hk _ _ hs'⟩)
  refine ⟨_, T₁, ⟨⟨_, es, ep, hk _ _ hs, hLd, hLk, hLf⟩, S₁, by rw [T₁.size]; exact FG.above⟩, fun p hp => ⟨fun q => ?_, ?_⟩⟩
  · have := hG p hp; rw [q, hs] at this; cases this
  · refine T₁.none_ _ ?_
    cases q : h₀.get? p.1 with
    | none => rfl
    | some o =>
      obtain ⟨sl', hs'⟩ := T.up (FG.keep _ _ q)
      have := hG p hp
      rw [hs'] at this
      cases this
theorem Cx.enterR {name qual : Str} {params : Arguments} {body : List Stmt} {scope : Scope} {dV kV doc pm cdv ct oc : Value} {an od : Option Addr} {osl : Array (Option Value)} {f : Addr} {args : List Value} {binds : List (Str × Value)}
    (C : Cx w A env h₀ hp m G)
    (ho : (Mine.hd.heap_1 w.params).lookup f = some ⟨oc, od, .func (fnOf name qual params body scope dV kV doc pm an cdv ct), osl⟩) (hcd : codeIn (Mine.hd.heap_1 w.params) cdv qual = true)
    (hroom : A.depth < recursionLimit)
    (hbind : BindsTo ⟨hp, g, d, tk, os⟩ (fnOf name qual params body scope dV kV doc pm an cdv ct) ⟨args, []⟩ binds) (hloc : ∀ y ∈ binds, scope.names.lookup y.1 = some .local)
    (hco : scope.isCoroutine = false) (hgen : scope.isGenerator = false) (hk : scope.kind = .function) (hcell : ∀ x ∈ scope.names, x.2 ≠ .cell)
    (h : ∀ gb L' h₁ tk', Cx w (A.deeper (envOf qual scope L' f cdv)) (envOf qual scope L' f cdv) gb h₁ (fun y => binds.reverse.lookup y) G → (∀ p ∈ G, p.1 < L') → Fr h₀ env.locals gb m →
      wpAny (model P w) (A.deeper (envOf qual scope L' f cdv)) (execs body (envOf qual scope L' f cdv))
        (LeaveR w A env h₀ m (A.deeper (envOf qual scope L' f cdv)) (envOf qual scope L' f cdv) gb Q)
        (fun e s' => wpAny (model P w) (A.deeper (envOf qual scope L' f cdv)) (leaving (envOf qual scope L' f cdv) e) (fun _ s'' => E e s'') (fun e' s'' => E e' s'') s')
        ⟨h₁, g, d, tk', os⟩) :
    wpAny (model P w) A (call (.ref f) args) Q E ⟨hp, g, d, tk, os⟩ := by
  have C0 := C
  obtain ⟨⟨A₀, base, outer, B, hA, hXB, hTB, hDi⟩, F, N, D, X, ⟨mean, mg, mb, T⟩, hf, hke⟩ := C
  refine wpAny_call ?_
  have X' := X.keeps F.keep
  (refine Mine.e0a4 (groundX (A := A) (s := ⟨hp, g, d, tk, os⟩) (R := fun _ _ => True) B F N hA hf hke) ?_; rintro FG BG st lv)
  refine codeAny_call_def (fd := fnOf name qual params body scope dV kV doc pm an cdv ct) (body := body) (binds := binds) hroom (X' _ _ ho) rfl (T.nolimit.keeps F.keep) (codeRec_of X' hcd) rfl hbind hcell hloc (fun h₁ hns hk₁ => ?_) hco hgen hk
  have hA' : (A.deeper (envOf qual scope hp.objs.size f cdv)).frames = some (envOf qual scope hp.objs.size f cdv :: env :: outer) := by
    rw [Around.deeper]; show A.frames.map _ = _; rw [hA]; rfl
  refine wpAny_mono (h _ hp.objs.size h₁ _ ⟨⟨_, _, _, BG, hA', hXB, hTB, dictsPush hf FG hDi⟩, ⟨hns, fun b o e => hk₁ b o (of_hideAll _ e), Nat.le_of_eq (hideAll_size _ _)⟩,
    (fun p hp => ⟨hk₁ _ _ (N p hp).1, Nat.ne_of_lt (Heap.lt_size (N p hp).1), hideAll_none _ (List.mem_map_of_mem hp)⟩), D, X.keeps st, ⟨mean, mg, mb, T.keeps st⟩, rfl, hk⟩ (fun p hp => Heap.lt_size (N p hp).1) FG) (fun fl s' hl => ?_) fun _ _ y => y
  (refine Mine.e3a3 hl ?_; clear hl; rintro gb' m' G' Tn C' k)
  (refine Mine.e1a3 (C0.backR (G' := G') hA FG (Tn _ _ hA') C'.F.keep fun p hp => (C'.N p hp).2.2) ?_; rintro h₀' T₁ F₁ N₁)
  have := k h₀' (fun e o q => by rw [hA] at q; cases q; exact T₁) (C0.turn hA T₁ F₁ (fun p hp => ⟨(C'.N p hp).1, N₁ p hp⟩) C'.D)
  cases fl <;> exact this
theorem frs_of {base gb : Heap} : ∀ {outer : List Env}, gb.FunFrames base outer → KtsDicts (outer.filterMap (·.frame)) gb → ∃ frs, TI.Frs outer frs ∧ (∀ p ∈ frs, gb.get? p.1 = some p.2)
  | [], _, _ => ⟨[], trivial, fun _ h => nomatch h⟩
  | env :: l, ⟨hk, ⟨L, o, hf, hn, ho, hd⟩, hr⟩, D => by
    have hm : ∀ b, b ∈ (env :: l).filterMap (·.frame) ↔ b = L ∨ b ∈ l.filterMap (·.frame) := fun b => by rw [List.filterMap_cons, hf]; exact List.mem_cons
    (refine Mine.e1a2 (frs_of hr fun b hb => D b ((hm b).mpr (.inr hb))) ?_; rintro frs h1 h2)
    (refine Mine.e3a2 (D L ((hm L).mpr (.inl rfl))) ?_; rintro o' es n ho' hd')
    rw [ho] at ho'; cases ho'
    exact ⟨(L, o) :: frs, ⟨hk, hf, ⟨es, n, hd'⟩, h1⟩, fun p hp => by
      rcases List.mem_cons.mp hp with rfl | hp
      · exact ho
      · exact h2 p hp⟩
theorem deeper_frames {A₀ : Around} {env : Env} {outer : List Env} (h : (A₀.deeper env).frames = some (env :: outer)) : A₀.frames = some outer := by
  rw [Around.deeper] at h
  have h' : A₀.frames.map (env :: ·) = some (env :: outer) := h
  cases q : A₀.frames with
  | none => rw [q] at h'; cases h'
  | some l => rw [q] at h'; cases h'; rfl
/-- a builtin's raise, caught in its own frame -/
theorem Cx.stopped {A₀ : Around} {name : Str} {scope : Scope} {L a e : Addr} {cd : Value} {h : Heap} {X : String} {x : Str} {np pos : Pos} {b₀ : Stmt} {suite : List Stmt} {rest : List ExceptHandler} {Q : Flow → Shared → Prop}
    (C : Cx w (A₀.deeper (envOf name scope L a cd)) (envOf name scope L a cd) h₀ h m G) (hx : Heap.NewExc h hp e X)
    (t1 : x ∉ startupNames) (t2 : x ∉ LS) (t3 : x ∉ (recsOf topProg).map (·.name)) (t4 : x ∉ (litsOf topProg).map (·.1)) (t5 : x ∉ (clssOf topProg LS).map (·.name))
    (h3 : subB X (.type x.toString) = some true) (hv : bootBuiltins x = some (.type x.toString)) (h1 : subB x.toString (.type "BaseException") = some true)
    (h2 : subB ((Manifest.find? x.toString).elim "type" fun y => y.metatype) (.type "tuple") = some false) (hn : x ≠ "__name__")
    (hxk : (envOf name scope L a cd).kindOf x = some .globalImplicit) (hdb : (x == ("__debug__" : Str)) = false)
    (k : ∀ h₀' h', Turn (A₀.deeper (envOf name scope L a cd)) h₀ h₀' → Cx w (A₀.deeper (envOf name scope L a cd)) (envOf name scope L a cd) h₀' h' m G →
      wpAny (model P w) ((A₀.deeper (envOf name scope L a cd)).mark (some (.ref e))) (execs (b₀ :: suite) (envOf name scope L a cd)) Q (fun _ _ => False) ⟨h', g, d, tk, os⟩) :
    wpAny (model P w) (A₀.deeper (envOf name scope L a cd)) (noteFrame (.ref e) (envOf name scope L a cd))
      (fun _ s₂ => wpAny (model P w) (A₀.deeper (envOf name scope L a cd)) (setFlight (.ref e) none) (fun _ s₃ =>
        wpAny (model P w) (A₀.deeper (envOf name scope L a cd)) (handleBy (.ref e) (envOf name scope L a cd) (.ExceptHandler (some (.Name x np)) none (b₀ :: suite) pos :: rest)) Q (fun _ _ => False) s₃) (fun _ _ => False) s₂) (fun _ _ => False) ⟨hp, g, d, tk, os⟩ := by
  have C0 := C
  obtain ⟨⟨A₁, base, outer, B, hA, hXB, ⟨mean, mg, mb, TB⟩, hDi⟩, F, N, D, X, T, hf, hke⟩ := C
  (refine Mine.e1a2 (frs_of B.frames hDi) ?_; rintro frs Fs hfrs)
  have hads := Fs.addrs
  have hin : ∀ p ∈ frs, p.1 ∈ outer.filterMap (·.frame) := fun p hp => by rw [hads]; exact List.mem_map_of_mem hp
  have nG : ∀ p ∈ G, p.1 ∉ outer.filterMap (·.frame) := fun p hp hm => by
    obtain ⟨_, o, ho, _⟩ := B.frames.mem hm
    rw [(N p hp).2.2] at ho; cases ho
  have F' : Fr (hideAll h₀ (outer.filterMap (·.frame))) L h m := ⟨F.ns, fun b o e => F.keep b o (of_hideAll _ e), by rw [hideAll_size]; exact F.above⟩
  have N' : News (hideAll h₀ (outer.filterMap (·.frame))) L h (G ++ frs) := fun p hp => by
    rcases List.mem_append.mp hp with hp | hp
    · exact ⟨(N p hp).1, (N p hp).2.1, kts_none (fun b o e => of_hideAll _ e) (N p hp).2.2⟩
    · exact ⟨F.keep _ _ (hfrs p hp), (fun q => by have := hfrs p hp; rw [q, show h₀.get? L = none from kts_self F] at this; cases this), hideAll_none _ (hin p hp)⟩
  have TH : Top topProg LS mean mg mb (hideAll h₀ (outer.filterMap (·.frame))) := TB.keeps fun b o e => hideAll_get _ (B.stays b o e) fun hm => by rw [(B.frames.mem hm).1] at e; cases e
  refine TLg.noted_newA (new := G) (deeper_frames hA) Fs hx F' N' (fun p hp hm => ?_) (fun h' frs' SU Fs' H => ?_) hke
  · rcases List.mem_cons.mp hm with q | hm
    · exact (N p hp).2.1 q
    · exact nG p hp (by rw [hads]; exact hm)
  refine H.land fun h'' H' => ?_
  refine TT.clause_hitTN H' TH t1 t2 t3 t4 t5 (fun h₃ F₃ N₃ => ?_) h3 hv h1 h2 hn hke hxk hdb PassesOwnAt.never
  obtain ⟨T₁, S₁⟩ := kts_turn_at (h := h₃) (fs := outer.filterMap (·.frame)) (g := h₀)
    (fun b hb => by
      obtain ⟨_, o, ho', _⟩ := B.frames.mem hb
      exact ⟨o, ho'⟩)
    (fun b o e nmem => F₃.keep b o (hideAll_get _ e nmem))
    (fun b o e hm => by
      rw [hads] at hm
      (refine Mine.e1a2 (List.mem_map.mp hm) ?_; rintro p hp rfl)
      obtain ⟨sl, hs⟩ := SU.back p hp
      have := (N₃ _ (List.mem_append_right _ hs)).1
      rw [hfrs p hp] at e; cases e
      exact ⟨sl, this⟩)
  refine k _ h₃ (fun e o q => by rw [hA] at q; cases q; exact T₁) (C0.turn hA T₁ ⟨F₃.ns, S₁, by rw [T₁.size]; exact F.above⟩ (fun p hp => ⟨(N₃ p (List.mem_append_left _ hp)).1, (N p hp).2.1, T₁.none_ _ (N p hp).2.2⟩) D)
end
end Mine
end TEx

section TNx
open PySem PySem.W PyProof.Rows PySem.Calls
open Sem (wp)
set_option maxRecDepth 100000
namespace Mine
theorem slot_li_ga : Slot "list_iterator" "__getattribute__" "object.__getattribute__" :=
  .of (owner := "object") (n := "__getattribute__") (by rw [typeLookup_type, builtinLookup_eq_fast]; kernel_rfl) (by decide +kernel) (by decide +kernel) (by decide +kernel)
    (by first | exact .inl (by decide +kernel) | exact .inr (by decide +kernel)) (by rw [isSubtype_type]; kernel_rfl)
theorem lk_li_next : typeLookup (.type "list_iterator") "__next__" = pure (some (.builtin "list_iterator.__next__")) := by rw [typeLookup_type, builtinLookup_eq_fast]; kernel_rfl
theorem ty_li_next : typeOf (.builtin "list_iterator.__next__") = pure (.type "wrapper_descriptor") := by kernel_rfl
theorem slot_wd_get : Slot "wrapper_descriptor" "__get__" "wrapper_descriptor.__get__" :=
  .of (owner := "wrapper_descriptor") (n := "__get__") (by rw [typeLookup_type, builtinLookup_eq_fast]; kernel_rfl) (by decide +kernel) (by decide +kernel) (by decide +kernel)
    (by first | exact .inl (by decide +kernel) | exact .inr (by decide +kernel)) (by rw [isSubtype_type]; kernel_rfl)
theorem lk_wd_set : typeLookup (.type "wrapper_descriptor") "__set__" = pure none := by rw [typeLookup_type, builtinLookup_eq_fast]; kernel_rfl
theorem lk_wd_del : typeLookup (.type "wrapper_descriptor") "__delete__" = pure none := by rw [typeLookup_type, builtinLookup_eq_fast]; kernel_rfl
theorem entry_wd_get : entryFor table "wrapper_descriptor.__get__" = some Builtin.«wrapper_descriptor.__get__» := entryFor_of_tree (by kernel_rfl)
theorem entry_obj_ga : entryFor table "object.__getattribute__" = some Builtin.«object.__getattribute__» := entryFor_of_tree (by kernel_rfl)
theorem args_wd_get (a b c : Value) : argsOk "wrapper_descriptor.__get__" ⟨[a, b, c], []⟩ := by unfold argsOk; kernel_rfl
theorem args_obj_ga (a b : Value) : argsOk "object.__getattribute__" ⟨[a, b], []⟩ := by unfold argsOk; kernel_rfl
theorem owner_li_next : (".".intercalate ("list_iterator.__next__".cutAt '.').dropLast) = "list_iterator" := by
  have e0 : "list_iterator.__next__".cutAt '.' = ["list_iterator", "__next__"] := by first | rfl | decide +kernel
  rw [e0]; decide +kernel
/-- the bound __next__ of a list's iterator -/
abbrev wrapOf (a : Addr) : Obj := ⟨.type "method-wrapper", none, .fields #[.builtin "list_iterator.__next__", .ref a], #[]⟩
section
variable {prog : Program} {w : World} {A : Around} {E : Value → Shared → Prop} {h : Heap} {g : Array GenState} {d : Drawn} {t : Nat} {os : OsState} {a : Addr} {o : Obj}
theorem nx_get {R : Result → Shared → Prop} (hx : h.get? a = some o) (hc : o.cls = .type "list_iterator") (hq : R (.ok (.ret (.ref h.objs.size))) ⟨h.push (wrapOf a), g, d, t, os⟩) :
    codeAny (model prog w) A (.call (.builtin "wrapper_descriptor.__get__") ⟨[.builtin "list_iterator.__next__", .ref a, .type "list_iterator"], []⟩) R ⟨h, g, d, t, os⟩ := by
  have hT : (⟨h, g, d, t, os⟩ : Shared).TypeIs (.ref a) "list_iterator" := ⟨_, hx, hc⟩
  have hT5 : (⟨h, g, d, t, os⟩ : Shared).TypeIs (.builtin "list_iterator.__next__") "wrapper_descriptor" := ty_li_next
  have f8 : isSubtype (.type "list_iterator") (.type (".".intercalate ("list_iterator.__next__".cutAt '.').dropLast)) = pure true := by rw [owner_li_next, isSubtype_type]; kernel_rfl
  refine codeAny_call_builtin slot_wd_get.plain entry_wd_get (slot_wd_get.check _ _ _ _ _ _ _ _ hT5 (args_wd_get _ _ _) ?_)
  unfold Builtin.«wrapper_descriptor.__get__»
  repeat (any_goals (first | assumption | wp_step))
theorem nx_entry {tk : Tok} {vs : Array Value} {sl : Array (Option Value)} {Q : Fin → Shared → Prop} (hx : h.get? a = some ⟨.type "list_iterator", none, .fields vs, sl⟩) (hq : Q (.done (.ret (.ref h.objs.size))) ⟨h.push (wrapOf a), g, d, t, os⟩) :
    wpAny (model prog w) A (Builtin.«object.__getattribute__» ⟨[.ref a, .str "__next__" tk], []⟩) Q E ⟨h, g, d, t, os⟩ := by
  have hT : (⟨h, g, d, t, os⟩ : Shared).TypeIs (.ref a) "list_iterator" := ⟨_, hx, rfl⟩
  have hT5 : (⟨h, g, d, t, os⟩ : Shared).TypeIs (.builtin "list_iterator.__next__") "wrapper_descriptor" := ty_li_next
  have f4 := lk_li_next
  have f5 := ty_li_next
  have f6 := slot_wd_get.lookup
  have f7 := lk_wd_set
  have f8 := lk_wd_del
  repeat (any_goals (first | assumption | wp_step))
  refine nx_get hx rfl ?_
  repeat (any_goals (first | assumption | wp_step))
theorem nx_by {tk : Tok} {vs : Array Value} {sl : Array (Option Value)} {fill expr : Bool} {Q : Value → Shared → Prop} (hx : h.get? a = some ⟨.type "list_iterator", none, .fields vs, sl⟩) (hq : Q (.ref h.objs.size) ⟨h.push (wrapOf a), g, d, t, os⟩) :
    wpAny (model prog w) A (getAttrBy (.ref a) (.str "__next__" tk) fill expr) Q E ⟨h, g, d, t, os⟩ := by
  have hT : (⟨h, g, d, t, os⟩ : Shared).TypeIs (.ref a) "list_iterator" := ⟨_, hx, rfl⟩
  have f2 := slot_li_ga.lookup
  have f3 := slot_li_ga.bind (.ref a)
  have hx0 : (expr && onTheHeap (Value.builtin "object.__getattribute__")) = false := by cases expr <;> rfl
  repeat (any_goals (first | assumption | wp_step))
  refine codeAny_call_builtin slot_li_ga.plain entry_obj_ga (slot_li_ga.check _ _ _ _ _ _ _ _ hT (args_obj_ga _ _) (nx_entry hx ?_))
  repeat (any_goals (first | assumption | wp_step))
theorem nx_attr {vs : Array Value} {sl : Array (Option Value)} {expr : Bool} {Q : Value → Shared → Prop} (hx : h.get? a = some ⟨.type "list_iterator", none, .fields vs, sl⟩) (hq : Q (.ref h.objs.size) ⟨h.push (wrapOf a), g, d, t + 1, os⟩) :
    wpAny (model prog w) A (getAttr (.ref a) "__next__" expr) Q E ⟨h, g, d, t, os⟩ := by
  unfold getAttr
  repeat (any_goals (first | assumption | with_reducible apply nx_by hx | wp_step))
end
end Mine
end TNx

section TNx2
open PySem PySem.W PyProof.Rows PySem.Calls
open Sem (wp)
set_option maxRecDepth 100000
namespace Mine
theorem bound_li_next (a : Value) : checkBoundCall "list_iterator.__next__" ⟨[a], []⟩ = pure () := by kernel_rfl
theorem quiet_li_next (a : Args) : (Code.builtin "list_iterator.__next__" a).quiet = true := Code.quiet_builtin _ (by decide +kernel)
section
variable {w : World} {A : Around} {E : Value → Shared → Prop} {s : Shared} {wr it l : Addr} {Q : Value → Shared → Prop}
theorem wrap_call {R : Result → Shared → Prop} (hw : s.heap.get? wr = some (wrapOf it)) (h : codeAny (model P w) A (.builtin "list_iterator.__next__" ⟨[.ref it], []⟩) R s) :
    codeAny (model P w) A (.call (.ref wr) ⟨[], []⟩) R s := by
  refine codeAny_of_tree ?_
  show wpAny _ A.in1 (callAny (.ref wr) ⟨[], []⟩) _ _ s
  unfold callAny
  refine wpAny_bind (wpAny_load hw ?_)
  show wpAny _ _ (checkBoundCall "list_iterator.__next__" ⟨[.ref it], []⟩ >>= _) _ _ _
  rw [bound_li_next]
  exact wpAny_bind (wpAny_pure (wpAny_pure ⟨quiet_li_next _, h⟩))
theorem wrap_end {i : Nat} {items : Array Value} (hh : A.handled = none) (hw : s.heap.get? wr = some (wrapOf it)) (hit : s.heap.IsListIter it l i) (hl : s.heap.IsList l items) (hx : items[i]? = none)
    (hE : ∀ h₁ h' e, Heap.SameBut it s.heap h₁ → (∃ o, h₁.get? it = some o ∧ o.cls = .type "list_iterator") → Heap.NewExc h₁ h' e "StopIteration" → E (.ref e) { s with heap := h' }) : wpAny (model P w) A (call (.ref wr) []) Q E s := by
  (refine Mine.e1a3 (id hit) ?_; rintro o ho hc hd)
  obtain ⟨ol, hol, _, nl, hdl⟩ := hl
  refine wpAny_call (wrap_call hw (codeAny_builtin entry_listiter_next ?_))
  show wpAny _ _ (field (.ref it) 0 >>= _) _ _ s
  refine wpAny_bind (wpAny_field ho hd (x := .ref l) rfl ?_)
  show wpAny _ _ (if (Value.ref l == Value.none) = true then _ else _) _ _ s
  rw [if_neg (show ¬ ((Value.ref l == Value.none) = true) from Bool.false_ne_true)]
  show wpAny _ _ (field (.ref it) 1 >>= _) _ _ s
  refine wpAny_bind (wpAny_field ho hd (x := .int i 0) rfl ?_)
  show wpAny _ _ (seqItems? (.ref l) >>= _) _ _ s
  refine wpAny_bind (wpAny_seqItems hol hdl ?_)
  simp only [Int.toNat_natCast, hx]
  refine wpAny_bind (wpAny_rule (wpAny_bind (wpAny_setField ho hd (by simp) ?_)))
  show wpAny _ _ (newExc (.type "StopIteration") [] >>= _) _ _ _
  refine wpAny_bind ?_
  simp only [newExc, newTuple]
  refine wpAny_bind (wpAny_newObj_type ?_ (by size_fits))
  refine wpAny_bind (m := firstArgMember _ _) (wpAny_of_eq (a := Value.none) (by first | rfl | (simp only [firstArgMember]; rfl)) ?_)
  refine wpAny_newObj_type ?_ (by size_fits)
  simp only [raiseNew]
  refine wpAny_bind (wpAny_handled ?_)
  rw [show (A.under (Code.builtin "list_iterator.__next__" { pos := [Value.ref it] })).handled = none from hh]
  refine wpAny_throw (hE (s.heap.update it (Obj.mapFields fun x => x.setIfInBounds 0 Value.none)) _ _ (Heap.SameBut.update ..) ⟨_, Heap.get?_update_self _ ho (Obj.isFreed_of_fields (Obj.data_mapFields hd _)), (Obj.cls_mapFields ..).trans hc⟩ ⟨fun b x e => ?_, ?_, ⟨_, .ref (s.heap.update it (Obj.mapFields fun x => x.setIfInBounds 0 Value.none)).objs.size, Heap.get?_push_size _ rfl, rfl, ?_⟩⟩)
  · exact Heap.get?_push_of_some _ (Heap.get?_push_of_some _ e)
  · refine Heap.get?_none_of_le ?_
    simp [Heap.push]
  · rfl
end
/-- keepers and the call's expression -/
theorem keeps_wrap {M : Model} {wr it : Addr} (h : Heap) (X : h.get? wr = some (wrapOf it)) : ∃ k, (k = Keeper.frame ∨ k = Keeper.machine ∨ k = Keeper.boundFrame) ∧ Looks M h (keeperOf (.ref wr)) k :=
  ⟨.machine, .inr (.inl rfl), (Looks.ld (part := none) X).andThen .now⟩
theorem callWith_wrap {M : Model} {A : Around} {E : Value → Shared → Prop} {s : Shared} {wr it : Addr} {pos : Pos} {env : Env} {Q : Value → Shared → Prop} (X : s.heap.get? wr = some (wrapOf it)) (h : wpAny M A (call (.ref wr) []) Q E s) :
    wpAny M A (callWith pos (.ref wr) [] (backTo pos (starEach [] env)) []) Q E s :=
  callWith_of rfl keeps_wrap (evalArgs_nil3 ⟨X, h⟩)
end Mine
end TNx2

section TFc1
open PySem PySem.W PyProof.Rows PySem.Calls
namespace Mine
set_option maxRecDepth 100000
set_option maxHeartbeats 8000000
/-- a set of ints -/
def IsSet (w : World) (G : LedT) (a : Addr) (S : Int → Bool) (n : Nat) : Prop := ∃ o, lk G a = some o ∧ o.SetObjOf (intKind P w) S n
theorem IsSet.cls {w : World} {G : LedT} {a : Addr} {S : Int → Bool} {n : Nat} (h : IsSet w G a S n) : ∃ o, lk G a = some o ∧ o.cls = .type "set" ∧ ∀ vs, o.data ≠ .fields vs := by
  (refine Mine.e1a2 h ?_; clear h; rintro o ho ⟨hex, es, ep, t, hd, _⟩)
  exact ⟨o, ho, hex.1, fun vs q => by rw [hd] at q; cases q⟩
theorem IsSet.keep {w : World} {G G' : LedT} {a : Addr} {S : Int → Bool} {n : Nat} (h : IsSet w G a S n) (k : ∀ o, lk G a = some o → lk G' a = some o) : IsSet w G' a S n := by
  (refine Mine.e1a2 h ?_; clear h; rintro o ho hd)
  exact ⟨o, k _ ho, hd⟩
theorem IsSet.ne {w : World} {G : LedT} {a b : Addr} {S : Int → Bool} {n : Nat} {o : Obj} (h : IsSet w G a S n) (hb : lk G b = some o) (hc : o.cls ≠ .type "set") : a ≠ b := by
  (refine Mine.e1a3 h.cls ?_; rintro o' ho hc' _)
  exact ne_cls ho hb (by rw [hc']; exact fun q => hc q.symm)
abbrev iterOf (l : Addr) (i : Nat) : Obj := ⟨.type "list_iterator", none, .fields #[.ref l, .int i 0], #[]⟩
section
variable {w : World} {A : Around} {env : Env} {h₀ : Heap} {m : Str → Option Value} {G : LedT} {s : Shared} {hp : Heap} {g : Array GenState} {d : Drawn} {tk : Nat} {os : OsState} {Q E : Value → Shared → Prop}
theorem Cx.newSet (C : Cx w A env h₀ hp m G) (h : ∀ a o h', Cx w A env h₀ h' m ((a, o) :: G) → IsSet w ((a, o) :: G) a (fun _ => false) 0 → lk G a = none → Q (.ref a) ⟨h', g, d, tk, os⟩) : wpAny (model P w) A (call (.type "set") []) Q E ⟨hp, g, d, tk, os⟩ :=
  call_set_0 fun led => h _ _ _ (C.push _ rfl) ⟨_, lk_cons_eq, setObjOf_fresh led⟩ C.fresh
theorem Cx.inSet (C : Cx w A env h₀ hp m G) {a : Addr} {S : Int → Bool} {n : Nat} {k : Int} {t : Tok} (hS : IsSet w G a S n) (hb : n < 4000) (h : ∀ tk', Q (.bool (S k)) ⟨hp, g, d, tk', os⟩) : wpAny (model P w) A (compareOp .In (.int k t) (.ref a)) Q E ⟨hp, g, d, tk, os⟩ := by
  (refine Mine.e1a2 hS ?_; clear hS; rintro o ho hso)
  exact wpAny_inSet_of (intKind_is _ _ _ _) rfl (hso.setOf (C.at ho) (by have : scanBound = 4096 := rfl; (exact Mine.o264 hb this))) (h _)
theorem Cx.setAdd (C : Cx w A env h₀ hp m G) {a : Addr} {S : Int → Bool} {n : Nat} {k : Int} {t : Tok} (hS : IsSet w G a S n) (hb : n < 4000)
    (h : ∀ h' tk' o', Cx w A env h₀ h' m (st G a o') → IsSet w (st G a o') a (fun k' => S k' || decide (k' = k)) (if S k then n else n + 1) → Q .none ⟨h', g, d, tk', os⟩) : wpAny (model P w) A (call (.builtin "set.add") [.ref a, .int k t]) Q E ⟨hp, g, d, tk, os⟩ := by
  (refine Mine.e1a2 hS ?_; clear hS; rintro o ho hso)
  refine call_set_add (intKind_is _ _ _ _) rfl (hso.setOf (C.at ho) (by have : scanBound = 4096 := rfl; (exact Mine.o264 hb this))) (by have : scanBound = 4096 := rfl; (exact Mine.o265 hb this)) fun h' hs hS' => ?_
  (refine Mine.e1a2 hS'.objOf ?_; rintro o' ho' hso')
  exact h h' _ o' (C.upd ho hs ho') ⟨o', lk_st_eq, hso'⟩
theorem Cx.setMeth (C : Cx w A env h₀ hp m G) {a : Addr} {S : Int → Bool} {n : Nat} {pl : Sem Bool} {Q : Value × List Value → Shared → Prop} (hS : IsSet w G a S n) (hb : n < 4000) (h : Q (.builtin "set.add", [.ref a]) ⟨hp, g, d, tk, os⟩) : wpAny (model P w) A (getMethod (.ref a) "add" pl) Q E ⟨hp, g, d, tk, os⟩ := by
  (refine Mine.e1a2 hS ?_; clear hS; rintro o ho hso)
  exact getMethod_set_add (hso.setOf (C.at ho) (by have : scanBound = 4096 := rfl; (exact Mine.o264 hb this))) h
theorem Cx.iterL (C : Cx w A env h₀ hp m G) {l : Addr} {its : Array Value} {n : Nat} (hl : lk G l = some (listOf its n))
    (h : ∀ a h', Cx w A env h₀ h' m ((a, iterOf l 0) :: G) → lk G a = none → Q (.ref a) ⟨h', g, d, tk, os⟩) : wpAny (model P w) A (call (.builtin "iter") [.ref l]) Q E ⟨hp, g, d, tk, os⟩ := by
  refine call_function_entry (by decide +kernel) (by decide +kernel) kdk_entry_iter (kdk_args_iter _) ?_
  unfold Builtin.«iter»
  refine wpAny_bind (m := someArgs "iter" 1 2 _) (wpAny_of_eq (a := [Value.ref l]) (by first | rfl | kernel_rfl!) ?_)
  show wpAny _ _ (pyIter (.ref l) >>= _) _ _ _
  refine wpAny_bind (wpAny_pyIter_list (C.isList hl) ?_)
  exact wpAny_pure ⟨_, rfl, h _ _ (C.push _ rfl) C.fresh⟩
theorem Cx.nextAttr (C : Cx w A env h₀ hp m G) {it l : Addr} {i : Nat} {ex : Bool} (hi : lk G it = some (iterOf l i))
    (h : ∀ a h' tk', Cx w A env h₀ h' m ((a, wrapOf it) :: G) → lk G a = none → Q (.ref a) ⟨h', g, d, tk', os⟩) : wpAny (model P w) A (getAttr (.ref it) "__next__" ex) Q E ⟨hp, g, d, tk, os⟩ :=
  nx_attr (C.at hi) (h _ _ _ (C.push _ rfl) C.fresh)
theorem Cx.nextItem (C : Cx w A env h₀ hp m G) {wr it l : Addr} {i : Nat} {its : Array Value} {n : Nat} {x : Value} (hw : lk G wr = some (wrapOf it)) (hi : lk G it = some (iterOf l i)) (hl : lk G l = some (listOf its n)) (hx : its[i]? = some x)
    (h : ∀ h', Cx w A env h₀ h' m (st G it (iterOf l (i + 1))) → Q x ⟨h', g, d, tk, os⟩) : wpAny (model P w) A (call (.ref wr) []) Q E ⟨hp, g, d, tk, os⟩ := by
  have ho := C.at hi
  have hol := C.at hl
  refine wpAny_call (wrap_call (C.at hw) (codeAny_builtin entry_listiter_next ?_))
  show wpAny _ _ (field (.ref it) 0 >>= _) _ _ _
  refine wpAny_bind (wpAny_field ho rfl (x := .ref l) rfl ?_)
  show wpAny _ _ (if (Value.ref l == Value.none) = true then _ else _) _ _ _
  rw [if_neg (show ¬ ((Value.ref l == Value.none) = true) from Bool.false_ne_true)]
  show wpAny _ _ (field (.ref it) 1 >>= _) _ _ _
  refine wpAny_bind (wpAny_field ho rfl (x := .int i 0) rfl ?_)
  show wpAny _ _ (seqItems? (.ref l) >>= _) _ _ _
  refine wpAny_bind (wpAny_seqItems hol rfl ?_)
  simp only [Int.toNat_natCast, hx]
  refine wpAny_bind (wpAny_setField ho rfl (by simp) (wpAny_pure (h _ (C.upd hi (Heap.SameBut.update ..) ?_))))
  rw [Heap.get?_update_self _ ho (by rfl)]
  simp [Obj.mapFields, rawInt]
/-- the next of a spent iterator raises -/
theorem Cx.nextEnd (C : Cx w A env h₀ hp m G) {wr it l : Addr} {i : Nat} {its : Array Value} {n : Nat} (hh : A.handled = none) (hw : lk G wr = some (wrapOf it)) (hi : lk G it = some (iterOf l i)) (hl : lk G l = some (listOf its n)) (hx : its[i]? = none)
    (h : ∀ h₁ h' e o, Cx w A env h₀ h₁ m (st G it o) → o.cls = .type "list_iterator" → Heap.NewExc h₁ h' e "StopIteration" → E (.ref e) ⟨h', g, d, tk, os⟩) : wpAny (model P w) A (call (.ref wr) []) Q E ⟨hp, g, d, tk, os⟩ := by
  refine wrap_end hh (C.at hw) ⟨_, C.at hi, rfl, rfl⟩ (C.isList hl) hx fun h₁ h' e hs ⟨o, ho, hc⟩ hx => h h₁ h' e o (C.upd hi hs ho) hc hx
theorem Cx.delD (C : Cx w A env h₀ hp m G) {a : Addr} {kvs : List (Int × Value)} {k : Int} {t : Tok} {Q : Unit → Shared → Prop} (hd : IsDict w G a kvs) (hz : kvs.length < 2 ^ 20) (hk : (valueAt kvs k).isSome = true)
    (h : ∀ h' tk' o', Cx w A env h₀ h' m (st G a o') → IsDict w (st G a o') a (without kvs k) → Q () ⟨h', g, d, tk', os⟩) : wpAny (model P w) A (delItem (.ref a) (.int k t)) Q E ⟨hp, g, d, tk, os⟩ := by
  obtain ⟨lo, o, ho, hd'⟩ := id hd
  have hm := C.dictAt hd
  refine wpAny_delItem_slot hm.typeIs (by decide) PySem.F.slot_dict_delitem ?_
  refine wpAny_call_entry PySem.F.slot_dict_delitem hm.typeIs PySem.F.entry_dict_delitem ?_ (PySem.F.args_dict_delitem_2 _ _)
  unfold Builtin.«dict.__delitem__»
  refine wpAny_bind ?_
  unfold Builtin.Dict.dictSlotArgs
  refine wpAny_bind (wpAny_notOrdered_dict hm.typeIs ?_)
  show wpAny _ _ (pure (Value.ref a, Value.int k t)) _ _ _
  refine wpAny_pure ?_
  show wpAny _ _ (Builtin.Dict.takeOut a (.int k t) >>= _) _ _ _
  refine wpAny_bind (wpAny_takeOut_pairs (hsz := by have : sizeLine = 2 ^ 24 := rfl; (exact Mine.o39 hz this)) (intKind_is _ _ _ _) hm (fun hn => by rw [hn] at hk; exact absurd hk (by decide)) fun e _ _ h' hm' hs' => ?_)
  (refine Mine.e1a2 (Heap.dictOf_iff.mp hm') ?_; rintro o' ho' hd'')
  exact wpAny_bind (wpAny_letGo (wpAny_pure ⟨.none, rfl, h h' _ o' (C.upd ho hs' ho') ⟨lo, o', lk_st_eq, hd''⟩⟩))
theorem Cx.itemBack (C : Cx w A env h₀ s.heap m G) {value slice : Expr} {l : Addr} {us : List Value} {y : Value} {n : Nat} {u : Tok} (hl : lk G l = some (listOf (us ++ [y]).toArray n)) (hz : us.length < 2 ^ 20) (h : Q y s)
    (hs : subscripted slice false (.ref l) (.int (-1) u) = operate [.ref l, .int (-1) u] (getItem (.ref l) (.int (-1) u)) := by with_unfolding_all rfl) (hg : ∀ r, letTemporaryGo value (.ref l) r = pure () := by intro _; with_unfolding_all rfl) :
    wpAny (model P w) A (subscriptTail value slice (.ref l) (.int (-1) u)) Q E s := by
  refine kim_back C.N (lk_mem hl) rfl rfl (by omega) (by simp; omega) (by omega) ?_ h hs hg
  have : (-1 + ((us ++ [y]).length : Int)).toNat = us.length := by simp; omega
  rw [this]; simp
theorem Cx.catL (C : Cx w A env h₀ hp m G) {a b : Addr} {its its2 : Array Value} {n n2 : Nat} (ha : lk G a = some (listOf its n)) (hb : lk G b = some (listOf its2 n2)) (hz : its.size + its2.size < 2 ^ 20)
    (h : ∀ D h', Cx w A env h₀ h' m ((D, listOf (its.toList ++ its2.toList).toArray 0) :: G) → lk G D = none → Q (.ref D) ⟨h', g, d, tk, os⟩) : wpAny (model P w) A (binaryOp .Add (.ref a) (.ref b)) Q E ⟨hp, g, d, tk, os⟩ :=
  kmk_add_lit C.F C.N (C.isList ha) (C.isList hb) rfl (fun D h' F' N' lt => h D h' (C.of F' N' (C.D.cons lt)) (lk_fresh lt)) (by have : sizeLine = 2 ^ 24 := rfl; simp; (exact Mine.o277 hz this))
/-- a slice of a list -/
theorem Cx.slice (C : Cx w A env h₀ hp m G) {value : Expr} {lower upper : Option Expr} {p : Pos} {l : Addr} {its : Array Value} {n : Nat} {vl vu : Value} {lo hi : Option Int} (hl : lk G l = some (listOf its n)) (pl : IsPart vl lo) (pu : IsPart vu hi) (hz : its.size < 2 ^ 20)
    (h : ∀ D h', Cx w A env h₀ h' m ((D, listOf (slicePick its lo hi none) 0) :: G) → lk G D = none → Q (.ref D) ⟨h', g, d, tk, os⟩)
    (ht : ∀ r, letTemporaryGo value (.ref l) r = pure () := by intro _; with_unfolding_all rfl) :
    wpAny (model P w) A (subscriptTail value (.Slice lower upper none p) (.ref l) (.ref hp.objs.size)) Q E ⟨hp.push { cls := .type "slice", data := .fields #[vl, vu, .none] }, g, d, tk, os⟩ :=
  kmk_slice (s := ⟨hp, g, d, tk, os⟩) C.F C.N (C.isList hl) pl pu (fun D h' F' N' lt => h D h' (C.of F' N' (C.D.cons lt)) (lk_fresh lt)) (by with_unfolding_all rfl) ht (by have : sizeLine = 2 ^ 24 := rfl; (exact Mine.o39 hz this))
end
end Mine
end TFc1

section TFc2
open PySem PySem.W PyProof.Rows PySem.Calls
namespace Mine
section
variable {w : World} {A : Around} {env : Env} {h₀ h : Heap} {m : Str → Option Value} {G : LedT} {s : Shared} {hp : Heap} {g : Array GenState} {d : Drawn} {tk : Nat} {os : OsState} {Q E : Value → Shared → Prop}
/-- a while's turn has ended -/
def WStepR (w : World) (A : Around) (env : Env) (h₀ : Heap) (g : Array GenState) (d : Drawn) (os : OsState) (J : Nat → (Str → Option Value) → LedT → Prop) (Q : Flow → Shared → Prop) (n : Nat) (f : Flow) (s₂ : Shared) : Prop :=
  match f with
  | .ret v => Q (.ret v) s₂
  | .brk => Q .next s₂
  | _ => ∃ b' h' tk m' G' n', s₂ = ⟨h', g, d, tk, os⟩ ∧ Turn A h₀ b' ∧ Cx w A env b' h' m' G' ∧ n' < n ∧ J n' m' G'
theorem Cx.whileR {test : Expr} {body orelse : List Stmt} {pos : Pos} {Q : Flow → Shared → Prop} (J : Nat → (Str → Option Value) → LedT → Prop) {n₀ : Nat}
    (C : Cx w A env h₀ hp m G) (hJ : J n₀ m G)
    (turn : ∀ b n m₁ G₁ h₁ tk₁, Turn A h₀ b → Cx w A env b h₁ m₁ G₁ → J n m₁ G₁ →
      wpAny (model P w) A (isTrue test env (eval test env)) (fun b s₂ =>
        if b = true then wpAny (model P w) A (execs body env) (WStepR w A env h₀ g d os J Q n) (fun _ _ => False) s₂ else wpAny (model P w) A (execs orelse env) Q (fun _ _ => False) s₂) (fun _ _ => False) ⟨h₁, g, d, tk₁, os⟩) :
    wpAny (model P w) A (exec (.While test body orelse pos) env) Q E ⟨hp, g, d, tk, os⟩ := by
  refine wpAny_While (codeAny_whileLoop (fun n s' => ∃ b h₁ tk₁ m₁ G₁, s' = ⟨h₁, g, d, tk₁, os⟩ ∧ Turn A h₀ b ∧ Cx w A env b h₁ m₁ G₁ ∧ J n m₁ G₁) ?_ n₀ ⟨h₀, hp, tk, m, G, rfl, Turn.refl, C, hJ⟩)
  rintro n s' hZ1
  (refine Mine.e5a4 hZ1 ?_; clear hZ1; rintro b₁ h₁ tk₁ m₁ G₁ rfl T₁ C₁ J₁)
  refine wpAny_mono (turn b₁ n m₁ G₁ h₁ tk₁ T₁ C₁ J₁) (fun b s₂ h₂ => ?_) fun _ _ x => x.elim
  cases b with
  | false =>
    simp only [Bool.false_eq_true, if_false] at h₂ ⊢
    exact wpAny_mono h₂ (fun _ _ x => x) fun _ _ x => x.elim
  | true =>
    simp only [if_true] at h₂ ⊢
    refine wpAny_mono h₂ (fun f s₃ h₃ => ?_) fun _ _ x => x.elim
    cases f with
    | next =>
      (refine Mine.e6a5 h₃ ?_; clear h₃; rintro b' h' tk m₂ G₂ n' rfl T₂ C₂ hn J₂)
      exact ⟨n', hn, b', h', tk, m₂, G₂, rfl, T₂, C₂, J₂⟩
    | cont =>
      (refine Mine.e6a5 h₃ ?_; clear h₃; rintro b' h' tk m₂ G₂ n' rfl T₂ C₂ hn J₂)
      exact ⟨n', hn, b', h', tk, m₂, G₂, rfl, T₂, C₂, J₂⟩
    | brk => exact h₃
    | ret v => exact h₃
/-- a for's turn has ended -/
def FStepR (w : World) (A : Around) (env : Env) (h₀ : Heap) (g : Array GenState) (d : Drawn) (os : OsState) (I : Addr) (oI : Obj) (J : (Str → Option Value) → LedT → Prop) (R : Result → Shared → Prop) (f : Flow) (s₂ : Shared) : Prop :=
  match f with
  | .ret v => R (.ok (.ret v)) s₂
  | .brk => R (.ok .next) s₂
  | _ => ∃ b' h' tk m' G', s₂ = ⟨h', g, d, tk, os⟩ ∧ Turn A h₀ b' ∧ Cx w A env b' h' m' G' ∧ lk G' I = some oI ∧ J m' G'
theorem Cx.loopR {x : Str} {px : Pos} {body : List Stmt} {R : Result → Shared → Prop} {I : Addr} {fp : List Addr} {n : Nat} {Pv : Nat → Value → Prop} {St : Nat → Heap → Prop} {G₀ : LedT}
    (W : Walks P w A I fp [I] n Pv St) (J : Nat → (Str → Option Value) → LedT → Prop)
    {c : Value} (hI : ∀ i h, St i h → ∃ o vs, h.get? I = some o ∧ o.data = .fields vs ∧ o.cls = c)
    (hfp : ∀ b ∈ fp, b = I ∨ ∃ ob, ∀ i m₁ G₁, J i m₁ G₁ → lk G₁ b = some ob)
    (hx : env.kindOf x = some .local) (h0 : lk G₀ I = none)
    (C : Cx w A env h₀ hp m G) (hJ : J 0 m G) (hSt : St 0 hp) (hin : ∃ o, lk G I = some o)
    (mono : ∀ i m₁ G₁ G₂, J i m₁ G₁ → Up G₀ G₁ G₂ → J i m₁ G₂)
    (turn : ∀ b i v m₁ G₁ h₁ tk₁ oI, Turn A h₀ b → i < n → Pv i v → J i m₁ G₁ → Cx w A env b h₁ (mset m₁ x v) G₁ → lk G₁ I = some oI → (∃ vs, oI.data = .fields vs) → oI.cls = c →
      wpAny (model P w) A (execs body env) (FStepR w A env h₀ g d os I oI (J (i + 1)) R) (fun _ _ => False) ⟨h₁, g, d, tk₁, os⟩)
    (done : ∀ b m₁ G₁ h₁ tk₁, Turn A h₀ b → J n m₁ G₁ → Cx w A env b h₁ m₁ G₁ → R (.ok .next) ⟨h₁, g, d, tk₁, os⟩) :
    codeAny (model P w) A (.forLoop (.Name x px) (.ref I) body [] env) R ⟨hp, g, d, tk, os⟩ := by
  refine codeAny_forLoop_any (fun k s' => ∃ b' h' tk m' G' i, s' = ⟨h', g, d, tk, os⟩ ∧ Turn A h₀ b' ∧ Cx w A env b' h' m' G' ∧ J i m' G' ∧ St i h' ∧ (∃ o, lk G' I = some o) ∧ i ≤ n ∧ k = n + 1 - i) ?_ (n + 1)
    ⟨h₀, hp, tk, m, G, 0, rfl, Turn.refl, C, hJ, hSt, hin, Nat.zero_le _, rfl⟩
  rintro k s' hZ2
  (refine Mine.e6a8 hZ2 ?_; clear hZ2; rintro bb h' tkx m' G' i rfl Tb C' hJ' hSt' ⟨o', ho'⟩ hi rfl)
  have upd : ∀ {h₂ : Heap} {o₂ : Obj}, (∀ b o, b ∉ [I] → h'.get? b = some o → h₂.get? b = some o) → h₂.get? I = some o₂ → Cx w A env bb h₂ m' (Mine.st G' I o₂) := fun hk ho => C'.keepBut ho' (fun b x hb e => hk b x (by simpa using hb) e) ho
  have f' : ∃ vs, o'.data = .fields vs := by
    (refine Mine.e2a3 (hI _ _ hSt') ?_; rintro o vs e1 e2 _)
    have := C'.at ho'
    rw [e1] at this
    cases this
    exact ⟨vs, e2⟩
  obtain ⟨vs', hvs'⟩ := f'
  by_cases hlt : i < n
  · refine W.item i _ _ _ hlt hSt' fun v h₂ tk₂ hv hSt₂ hk => ?_
    (refine Mine.e2a3 (hI _ _ hSt₂) ?_; rintro o₂ vs₂ e1 e2 e3)
    have C₂ := upd hk e1
    have J₂ := mono _ _ _ _ hJ' (Up.st (o' := o₂) h0 ho' hvs')
    dsimp only
    show wpAny _ _ (letOwnedTupleGo (.Name x px) (.ref I) v) _ _ _
    refine wpAny_pure ?_
    show wpAny _ _ (assign (.Name x px) env v) _ _ _
    refine wpAny_assign_Name (C₂.store (fun h₃ tk₃ C₃ => ?_) hx)
    refine wpAny_mono (turn bb i v m' _ h₃ _ o₂ Tb hlt hv J₂ C₃ lk_st_eq ⟨_, e2⟩ e3) (fun f s₃ hs₃ => ?_) fun _ _ z => z.elim
    have fin : (∃ b' h' tk m₃ G₃, s₃ = ⟨h', g, d, tk, os⟩ ∧ Turn A h₀ b' ∧ Cx w A env b' h' m₃ G₃ ∧ lk G₃ I = some o₂ ∧ J (i + 1) m₃ G₃) → ∃ m, m < n + 1 - i ∧ ∃ b' h' tk m' G' i, s₃ = ⟨h', g, d, tk, os⟩ ∧ Turn A h₀ b' ∧ Cx w A env b' h' m' G' ∧ J i m' G' ∧ St i h' ∧ (∃ o, lk G' I = some o) ∧ i ≤ n ∧ m = n + 1 - i := by
      rintro hZ3
      (refine Mine.e5a5 hZ3 ?_; clear hZ3; rintro b₄ h₄ tk₄ m₄ G₄ e T₄ C₄ hI₄ hJ₄)
      refine ⟨n + 1 - (i + 1), by (exact Mine.o163 hlt), b₄, h₄, tk₄, m₄, G₄, i + 1, e, T₄, C₄, hJ₄, ?_, ⟨_, hI₄⟩, hlt, rfl⟩
      refine W.frame _ _ _ hSt₂ fun b hb o hbo => ?_
      rcases hfp b hb with rfl | ⟨ob, hob⟩
      · rw [e1] at hbo; cases hbo; exact C₄.at hI₄
      · have a1 := C₂.at (hob _ _ _ J₂)
        rw [a1] at hbo; cases hbo
        exact C₄.at (hob _ _ _ hJ₄)
    cases f with
    | next => exact fin hs₃
    | cont => exact fin hs₃
    | brk => exact hs₃
    | ret v => exact hs₃
  · have : i = n := Mine.o113 hi hlt
    subst this
    refine W.done _ _ _ hSt' fun h₂ tk₂ hk => ?_
    dsimp only
    refine wpAny_execs_nil ?_
    have hk' : ∀ b o, b ≠ I → h'.get? b = some o → h₂.get? b = some o := fun b o hb e => hk b o (by simpa using hb) e
    have z := C'.N _ (lk_mem ho')
    refine done bb m' (rm G' I) h₂ tk₂ Tb (mono _ _ _ _ hJ' fun a o ha hor => ?_) ⟨C'.B, ⟨?_, fun b x q => ?_, C'.F.above⟩, fun p hp => ?_, C'.D.rm, C'.X, C'.T, C'.hf, C'.hke⟩
    · rw [lk_rm]
      · exact ha
      · intro q; subst q
        rcases hor with h | h
        · exact h h0
        · rw [ho'] at ha; cases ha; exact h _ hvs'
    · (refine Mine.e3a2 C'.F.ns ?_; rintro oL es ep hL r)
      exact ⟨oL, es, ep, hk' _ _ (fun q => z.2.1 q.symm) hL, r⟩
    · refine hk' b x (fun q => ?_) (C'.F.keep b x q)
      subst q; rw [z.2.2] at q; cases q
    · obtain ⟨h1, h2⟩ := mem_rm hp
      exact ⟨hk' _ _ h2 (C'.N p h1).1, (C'.N p h1).2⟩
/-- for x in d, a dict of int keys -/
theorem Cx.for_dictR {x : Str} {px : Pos} {body : List Stmt} {R : Result → Shared → Prop} {a : Addr} {kvs : List (Int × Value)} (C : Cx w A env h₀ hp m G) (J : Nat → (Str → Option Value) → LedT → Prop)
    (hh : A.handled = none) (hJ : J 0 m G) (hd : IsDict w G a kvs) (hl : ∀ i m₁ G₁, J i m₁ G₁ → lk G₁ a = lk G a) (hx : env.kindOf x = some .local)
    (mono : ∀ i m₁ G₁ G₂, J i m₁ G₁ → Up G G₁ G₂ → J i m₁ G₂)
    (turn : ∀ b i k v t m₁ G₁ h₁ tk₁ I oI, Turn A h₀ b → kvs[i]? = some (k, v) → J i m₁ G₁ → Cx w A env b h₁ (mset m₁ x (.int k t)) G₁ → lk G₁ I = some oI → (∃ vs, oI.data = .fields vs) → oI.cls = .type "dict_keyiterator" → lk G I = none →
      wpAny (model P w) A (execs body env) (FStepR w A env h₀ g d os I oI (J (i + 1)) R) (fun _ _ => False) ⟨h₁, g, d, tk₁, os⟩)
    (done : ∀ b m₁ G₁ h₁ tk₁, Turn A h₀ b → J kvs.length m₁ G₁ → Cx w A env b h₁ m₁ G₁ → R (.ok .next) ⟨h₁, g, d, tk₁, os⟩) :
    wpAny (model P w) A (pyIter (.ref a)) (fun it s₂ => codeAny (model P w) A (.forLoop (.Name x px) it body [] env) R s₂) E ⟨hp, g, d, tk, os⟩ := by
  obtain ⟨lo, o, ho, hd'⟩ := id hd
  obtain ⟨ep, ha⟩ := KdkAt.of hd'
  refine wpAny_pyIter_dict lo (ha.dictAt (C.at ho)) ?_
  have hne : a ≠ hp.objs.size := Nat.ne_of_lt (Heap.lt_size (C.at ho))
  have W := Walks.dictKeys (prog := P) (w := w) (knd := intKind P w) hh hp.objs.size a hne kvs ep
  have C' := C.push { cls := .type "dict_keyiterator", data := .fields #[.ref a, .int 0 0, .int kvs.length 0, .int ep 0] } rfl
  refine Cx.loopR (c := .type "dict_keyiterator") (G₀ := G) W J (fun i h st => ?_) (fun b hb => ?_) hx C.fresh C' (mono _ _ _ _ hJ (Up.cons C.fresh)) ⟨⟨_, Heap.get?_push_size _ rfl, rfl, rfl⟩, ha.dictAt (C'.at (lk_cons_ne hne ho))⟩ ⟨_, lk_cons_eq⟩ mono
    (fun b i v m₁ G₁ h₁ tk₁ oI Tb hi hv hJ₁ C₁ hI hf hc => ?_) done
  · obtain ⟨⟨o, ho, hc, hd⟩, _⟩ := st
    exact ⟨o, _, ho, hd, hc⟩
  · rcases List.mem_cons.mp hb with rfl | hb
    · exact .inl rfl
    · rw [List.mem_singleton.mp hb]; exact .inr ⟨o, fun i m₁ G₁ hj => (hl i m₁ G₁ hj).trans ho⟩
  · (refine Mine.e2a2 hv ?_; clear hv; rintro k y hk hv)
    obtain ⟨t, rfl⟩ := Value.isInt_shape hv
    exact turn b i k y t m₁ G₁ h₁ tk₁ _ oI Tb hk hJ₁ C₁ hI hf hc C.fresh
end
end Mine
end TFc2

section TFp
open PySem PySem.W PyProof.Rows PySem.Calls
namespace Mine
/-- an entry of the search's stack -/
structure Ent where
  k : Nat
  p : Nat
  wr : Addr
  it : Addr
/-- the way from the top's node down: each is the last item drawn from the one below -/
noncomputable def Link (su : Nat → List Nat) (fin : List Nat) (k : Nat) : List Ent → Prop
  | [] => True
  | e :: r => 0 < e.p ∧ (su e.k)[e.p - 1]? = some k ∧ (∀ x ∈ (su e.k).take (e.p - 1), x ∈ fin) ∧ Link su fin e.k r
noncomputable def Inn (su : Nat → List Nat) (fin : List Nat) : List Ent → Prop
  | [] => True
  | e :: r => e.p ≤ (su e.k).length ∧ (∀ x ∈ (su e.k).take e.p, x ∈ fin) ∧ Link su fin e.k r
def FinOk (su : Nat → List Nat) (fin : List Nat) : Prop := ∀ i v, fin[i]? = some v → ∀ u ∈ su v, u ∈ fin.take i
def Acyc (n : Nat) (su : Nat → List Nat) : Prop := ∃ fin : List Nat, fin.Nodup ∧ (∀ v, v ∈ fin ↔ v < n) ∧ FinOk su fin
def Cyc (n : Nat) (su : Nat → List Nat) : Prop := ∃ l : List Nat, l ≠ [] ∧ ∀ x ∈ l, x < n ∧ ∃ y ∈ l, x ∈ su y
theorem Link.mono {su : Nat → List Nat} {fin fin' : List Nat} (h : ∀ x ∈ fin, x ∈ fin') : ∀ {r : List Ent} {k : Nat}, Link su fin k r → Link su fin' k r
  | [], _, _ => trivial
  | _ :: _, _, ⟨h1, h2, h3, h4⟩ => ⟨h1, h2, fun x hx => h x (h3 x hx), Link.mono h h4⟩
theorem take_pred {α : Type} {l : List α} {p : Nat} {k : α} (h0 : 0 < p) (h : l[p - 1]? = some k) : l.take p = l.take (p - 1) ++ [k] := by
  have : p = p - 1 + 1 := Mine.o298 h0
  rw [this, List.take_add_one, show p - 1 + 1 - 1 = p - 1 by (exact Mine.o299), h]; rfl
/-- the node drawn has been finished before -/
theorem Link.inn {su : Nat → List Nat} {fin : List Nat} {r : List Ent} {k : Nat} (h : Link su fin k r) (hk : k ∈ fin) : Inn su fin r := by
  cases r with
  | nil => trivial
  | cons e r =>
    (refine Mine.e0a4 h ?_; clear h; rintro h1 h2 h3 h4)
    refine ⟨?_, fun x hx => ?_, h4⟩
    · have := (List.getElem?_eq_some_iff.mp h2).1; (exact Mine.o300 this)
    · rw [take_pred h1 h2] at hx
      rcases List.mem_append.mp hx with hx | hx
      · exact h3 x hx
      · rw [List.mem_singleton.mp hx]; exact hk
theorem Inn.pop {su : Nat → List Nat} {fin : List Nat} {r : List Ent} {e : Ent} (h : Inn su fin (e :: r)) : Inn su (fin ++ [e.k]) r :=
  (h.2.2.mono (fun _ hx => List.mem_append_left _ hx)).inn (List.mem_append_right _ (List.mem_singleton.mpr rfl))
theorem FinOk.pop {su : Nat → List Nat} {fin : List Nat} {k : Nat} (h : FinOk su fin) (hk : ∀ x ∈ su k, x ∈ fin) : FinOk su (fin ++ [k]) := by
  intro i v hi u hu
  by_cases hlt : i < fin.length
  · rw [List.getElem?_append_left hlt] at hi
    rw [List.take_append_of_le_length (Mine.o301 hlt)]
    exact h i v hi u hu
  · rw [List.getElem?_append_right (Mine.o302 hlt)] at hi
    have hi' : i - fin.length = 0 := by
      cases q : i - fin.length with
      | zero => rfl
      | succ j => rw [q] at hi; simp at hi
    rw [hi'] at hi
    cases hi
    rw [List.take_append_of_le_length (Mine.o303 hi'), List.take_of_length_le (Mine.o302 hlt)]
    exact hk u hu
/-- the path from a node on it, back to itself -/
theorem Link.cyc {su : Nat → List Nat} {fin : List Nat} {n : Nat} : ∀ {r : List Ent} {k j : Nat}, Link su fin k r → (∀ e ∈ r, e.k < n) → (∃ e ∈ r, e.k = j) →
    ∃ l : List Nat, (∃ y ∈ l, k ∈ su y) ∧ j ∈ l ∧ ∀ x ∈ l, x < n ∧ (x = j ∨ ∃ y ∈ l, x ∈ su y)
  | e :: r, k, j, ⟨h1, h2, h3, h4⟩, hn, ⟨e', he', hj⟩ => by
    have hk : k ∈ su e.k := List.mem_of_getElem? h2
    by_cases q : e.k = j
    · refine ⟨[e.k], ⟨e.k, .head _, hk⟩, ?_, fun x hx => ?_⟩
      · rw [q]; exact .head _
      · rw [List.mem_singleton.mp hx]; exact ⟨hn e (.head _), .inl q⟩
    · have he : ∃ e' ∈ r, e'.k = j := by
        rcases List.mem_cons.mp he' with z | z
        · rw [z] at hj; exact absurd hj q
        · exact ⟨e', z, hj⟩
      (refine Mine.e1a3 (Link.cyc h4 (fun x hx => hn x (.tail _ hx)) he) ?_; rintro l ⟨y, hy, hey⟩ hjl hl)
      refine ⟨e.k :: l, ⟨e.k, .head _, hk⟩, .tail _ hjl, fun x hx => ?_⟩
      rcases List.mem_cons.mp hx with z | z
      · rw [z]; exact ⟨hn e (.head _), .inr ⟨y, .tail _ hy, hey⟩⟩
      · obtain ⟨a, b⟩ := hl x z
        exact ⟨a, b.imp id fun ⟨y, hy, h⟩ => ⟨y, .tail _ hy, h⟩⟩
theorem Link.toCyc {su : Nat → List Nat} {fin : List Nat} {n : Nat} {r : List Ent} {k : Nat} (h : Link su fin k r) (hn : ∀ e ∈ r, e.k < n) (hk : ∃ e ∈ r, e.k = k) : Cyc n su := by
  (refine Mine.e1a3 (h.cyc hn hk) ?_; rintro l ⟨y, hy, hey⟩ hj hl)
  refine ⟨l, fun q => (by rw [q] at hj; cases hj), fun x hx => ?_⟩
  obtain ⟨a, b⟩ := hl x hx
  exact ⟨a, b.elim (fun q => ⟨y, hy, q ▸ hey⟩) id⟩
/-- the measure -/
noncomputable def used (su : Nat → List Nat) (fin : List Nat) (r : List Ent) : Nat := (fin.map fun v => (su v).length).sum + (r.map fun e => e.p).sum
noncomputable def total (su : Nat → List Nat) (n : Nat) : Nat := ((List.range n).map fun v => (su v).length).sum
theorem sum_le_range (f : Nat → Nat) : ∀ (n : Nat) (l : List Nat), l.Nodup → (∀ x ∈ l, x < n) → (l.map f).sum ≤ ((List.range n).map f).sum
  | 0, l, _, h => by
    cases l with
    | nil => simp
    | cons a l => exact absurd (h a (.head _)) (Mine.o304)
  | n + 1, l, hn, h => by
    rw [List.range_succ, List.map_append, List.sum_append]
    by_cases q : n ∈ l
    · have hp := List.perm_cons_erase q
      have e1 : (l.map f).sum = f n + ((l.erase n).map f).sum := by
        rw [(hp.map f).sum_nat]; simp
      have := sum_le_range f n (l.erase n) (hn.erase n) fun x hx => by
        have h1 := h x (List.mem_of_mem_erase hx)
        have h2 : x ≠ n := fun z => by rw [z] at hx; exact (List.Nodup.not_mem_erase hn) hx
        omega
      simp; (exact Mine.o305 e1 this)
    · have := sum_le_range f n l hn fun x hx => by
        have h1 := h x hx
        have h2 : x ≠ n := fun z => q (z ▸ hx)
        omega
      simp; (exact Mine.o306 this)
theorem used_le {su : Nat → List Nat} {fin : List Nat} {r : List Ent} {n : Nat} (hn : (fin ++ r.map (·.k)).Nodup) (hl : ∀ x ∈ fin ++ r.map (·.k), x < n) (hp : ∀ e ∈ r, e.p ≤ (su e.k).length) : used su fin r ≤ total su n := by
  refine Nat.le_trans ?_ (sum_le_range (fun v => (su v).length) n _ hn hl)
  unfold used
  rw [List.map_append, List.sum_append, List.map_map]
  have : ∀ r : List Ent, (∀ e ∈ r, e.p ≤ (su e.k).length) → (r.map fun e => e.p).sum ≤ (r.map ((fun v => (su v).length) ∘ fun e => e.k)).sum := by
    intro r
    induction r with
    | nil => intro _; simp
    | cons e r ih =>
      intro h
      have h1 := h e (.head _)
      have h2 := ih fun x hx => h x (.tail _ hx)
      simp only [List.map_cons, List.sum_cons, Function.comp]
      try simp only [Function.comp] at h2
      (exact Mine.o307 h1 h2)
  have := this r hp
  (exact Mine.o308 this)
theorem Link.le {su : Nat → List Nat} {fin : List Nat} : ∀ {r : List Ent} {k : Nat}, Link su fin k r → ∀ e ∈ r, e.p ≤ (su e.k).length
  | e :: r, k, ⟨h1, h2, h3, h4⟩, x, hx => by
    rcases List.mem_cons.mp hx with z | z
    · have := (List.getElem?_eq_some_iff.mp h2).1; rw [z]; (exact Mine.o300 this)
    · exact Link.le h4 x z
end Mine
end TFp

section TFc3
open PySem PySem.W PyProof.Rows PySem.Calls
namespace Mine
set_option maxRecDepth 100000
set_option maxHeartbeats 8000000
def EntAt (G₀ G : LedT) (a : SAd) (v : Value) (e : Ent) : Prop := v = .ref e.wr ∧ lk G e.wr = some (wrapOf e.it) ∧ lk G e.it = some (iterOf (a.Su e.k) e.p) ∧ lk G₀ e.it = none
/-- the search's state -/
structure Fc (w : World) (G₀ G : LedT) (a : SAd) (σ : Srt) (S T E D : Addr) (r : List Ent) (fin : List Nat) : Prop where
  keep : ∀ b o, lk G₀ b = some o → lk G b = some o
  stk : ∃ its n, lk G S = some (listOf its n) ∧ All2 IsN its.toList (r.reverse.map (·.k))
  itk : ∃ its n, lk G T = some (listOf its n) ∧ All2 (EntAt G₀ G a) its.toList r.reverse
  seen : ∃ Sf, IsSet w G E Sf (fin.length + r.length) ∧ ∀ x : Nat, Sf (x : Int) = true ↔ x ∈ fin ∨ x ∈ r.map (·.k)
  n2s : ∃ kvs, IsDict w G D kvs ∧ kvs.map (·.1) = r.reverse.map (fun e => (e.k : Int)) ∧ ∀ kv ∈ kvs, ∃ (i : Nat) (t : Tok), kv.2 = .int (i : Int) t
  nd : (fin ++ r.map (·.k)).Nodup
  lt : ∀ x ∈ fin ++ r.map (·.k), x < σ.n
  ok : FinOk σ.su fin
  fS : lk G₀ S = none
  fT : lk G₀ T = none
  fE : lk G₀ E = none
  fD : lk G₀ D = none
  ST : S ≠ T
section
variable {w : World} {G₀ G G' : LedT} {a : SAd} {σ : Srt} {S T E D : Addr} {r : List Ent} {fin : List Nat}
theorem All2.monoMem {α β : Type} {R R' : α → β → Prop} {as : List α} {bs : List β} (x : All2 R as bs) : (∀ a b, b ∈ bs → R a b → R' a b) → All2 R' as bs := by
  induction x with
  | nil => intro _; exact .nil
  | cons h _ ih => intro k; exact .cons (k _ _ (.head _) h) (ih fun a b hb => k a b (.tail _ hb))
theorem All2.pushR {α β : Type} {R : α → β → Prop} {its : Array α} {bs : List β} {x : α} {b : β} (h : All2 R its.toList bs) (hx : R x b) : All2 R (its.push x).toList (bs ++ [b]) := by
  rw [Array.toList_push]; exact h.snoc hx
/-- a node is put upon the stack -/
theorem Fc.push (F : Fc w G₀ G a σ S T E D r fin) {k : Nat} {t : Tok} {wr it : Addr} {sI tI : Array Value} {n1 n2 n3 n4 : Nat} {Sf : Int → Bool} {kvs : List (Int × Value)} {v : Value}
    (hk : k < σ.n) (hnew : ¬ (k ∈ fin ∨ k ∈ r.map (·.k)))
    (s1 : lk G S = some (listOf sI n1)) (s2 : All2 IsN sI.toList (r.reverse.map (·.k))) (t1 : lk G T = some (listOf tI n2)) (t2 : All2 (EntAt G₀ G a) tI.toList r.reverse)
    (hSf : ∀ x : Nat, Sf (x : Int) = true ↔ x ∈ fin ∨ x ∈ r.map (·.k)) (d2 : kvs.map (·.1) = r.reverse.map (fun e => (e.k : Int))) (d3 : ∀ kv ∈ kvs, ∃ (i : Nat) (t : Tok), kv.2 = .int (i : Int) t)
    (hv : ∃ (i : Nat) (t : Tok), v = .int (i : Int) t)
    (k0 : ∀ b o, lk G b = some o → b ≠ S → b ≠ T → b ≠ E → b ≠ D → lk G' b = some o) (kS : lk G' S = some (listOf (sI.push (.int (k : Int) t)) n3)) (kT : lk G' T = some (listOf (tI.push (.ref wr)) n4))
    (kE : IsSet w G' E (fun x => Sf x || decide (x = (k : Int))) (fin.length + r.length + 1)) (kD : IsDict w G' D (stored kvs (k : Int) v)) (kw : lk G' wr = some (wrapOf it)) (ki : lk G' it = some (iterOf (a.Su k) 0)) (hi0 : lk G₀ it = none)
    (cE : ∃ o, lk G E = some o ∧ o.cls = .type "set") (cD : ∃ o, lk G D = some o ∧ o.cls = .type "dict") :
    Fc w G₀ G' a σ S T E D (⟨k, 0, wr, it⟩ :: r) fin := by
  obtain ⟨hkeep, _, _, _, _, hnd, hlt, hok, fS, fT, fE, fD, hST⟩ := F
  (refine Mine.e1a2 cE ?_; clear cE; rintro oE hoE cE)
  (refine Mine.e1a2 cD ?_; clear cD; rintro oD hoD cD)
  refine ⟨fun b o hb => k0 b o (hkeep b o hb) (lk_ne hb fS) (lk_ne hb fT) (lk_ne hb fE) (lk_ne hb fD), ⟨_, _, kS, ?_⟩, ⟨_, _, kT, ?_⟩, ⟨_, kE, fun x => ?_⟩, ⟨_, kD, ?_, ?_⟩, ?_, ?_, hok, fS, fT, fE, fD, hST⟩
  · rw [List.reverse_cons, List.map_append]
    exact s2.pushR ⟨t, rfl⟩
  · rw [List.reverse_cons]
    refine (t2.mono fun v e h => ?_).pushR ⟨rfl, kw, ki, hi0⟩
    (refine Mine.e0a4 h ?_; clear h; rintro h1 h2 h3 h4)
    refine ⟨h1, k0 _ _ h2 (ne_cls h2 s1 (by simp)) (ne_cls h2 t1 (by simp)) (ne_cls h2 hoE (by rw [cE]; simp)) (ne_cls h2 hoD (by rw [cD]; simp)),
      k0 _ _ h3 (ne_cls h3 s1 (by simp)) (ne_cls h3 t1 (by simp)) (ne_cls h3 hoE (by rw [cE]; simp)) (ne_cls h3 hoD (by rw [cD]; simp)), h4⟩
  · simp only [Bool.or_eq_true, decide_eq_true_eq, hSf, List.map_cons, List.mem_cons]
    constructor
    · rintro ((h | h) | h)
      · exact .inl h
      · exact .inr (.inr h)
      · exact .inr (.inl (by omega))
    · rintro (h | h | h)
      · exact .inl (.inl h)
      · exact .inr (by rw [h])
      · exact .inl (.inr h)
  · have hne : ¬ (kvs.any (fun kv => decide (kv.1 = (k : Int))) = true) := by
      rw [List.any_eq_true]
      rintro hZ1
      (refine Mine.e1a2 hZ1 ?_; clear hZ1; rintro kv hkv q)
      have : (k : Int) ∈ kvs.map (·.1) := List.mem_map.mpr ⟨kv, hkv, by simpa using q⟩
      rw [d2] at this
      (refine Mine.e1a2 (List.mem_map.mp this) ?_; rintro e he q)
      exact hnew (.inr (List.mem_map.mpr ⟨e, List.mem_reverse.mp he, by omega⟩))
    unfold stored
    rw [if_neg hne, List.map_append, d2, List.reverse_cons, List.map_append]
    rfl
  · intro kv hkv
    unfold stored at hkv
    split at hkv
    · (refine Mine.e1a2 (List.mem_map.mp hkv) ?_; rintro kv' h1 rfl)
      split
      · exact hv
      · exact d3 _ h1
    · rcases List.mem_append.mp hkv with h1 | h1
      · exact d3 _ h1
      · rw [List.mem_singleton.mp h1]; exact hv
  · have hp : (fin ++ (⟨k, 0, wr, it⟩ :: r : List Ent).map (·.k)).Perm (k :: (fin ++ r.map (·.k))) := by
      simp only [List.map_cons]; exact List.perm_middle
    rw [hp.nodup_iff]
    exact List.nodup_cons.mpr ⟨fun q => hnew (List.mem_append.mp q), hnd⟩
  · intro x hx
    simp only [List.map_cons, List.mem_append, List.mem_cons] at hx
    rcases hx with h | h | h
    · exact hlt x (List.mem_append_left _ h)
    · rw [h]; exact hk
    · exact hlt x (List.mem_append_right _ h)
/-- an item is drawn from the top's iterator -/
theorem Fc.draw {e : Ent} (F : Fc w G₀ G a σ S T E D (e :: r) fin) (hS : SorterAt w G₀ a σ) : Fc w G₀ (st G e.it (iterOf (a.Su e.k) (e.p + 1))) a σ S T E D (⟨e.k, e.p + 1, e.wr, e.it⟩ :: r) fin := by
  obtain ⟨hkeep, ⟨sI, n1, s1, s2⟩, ⟨tI, n2, t1, t2⟩, ⟨Sf, hSf, hSf2⟩, ⟨kvs, d1, d2, d3⟩, hnd, hlt, hok, fS, fT, fE, fD, hST⟩ := F
  have hlast : ∃ v, EntAt G₀ G a v e := by
    rw [List.reverse_cons] at t2
    (refine Mine.e1a2 (t2.get (i := r.reverse.length) (b := e) (by simp)) ?_; rintro v hv h)
    exact ⟨v, h⟩
  (refine Mine.e1a4 hlast ?_; clear hlast; rintro v0 - hw hi hi0)
  have hent : ∀ v e', e' ∈ r → EntAt G₀ G a v e' → EntAt G₀ (st G e.it (iterOf (a.Su e.k) (e.p + 1))) a v e' := by
    rintro v e' he' hZ2
    (refine Mine.e0a4 hZ2 ?_; clear hZ2; rintro h1 h2 h3 h4)
    refine ⟨h1, lk_st_ne (ne_cls h2 hi (by simp)) h2, lk_st_ne (fun q => ?_) h3, h4⟩
    rw [q, hi] at h3
    have hnd' : (e.k :: r.map (·.k)).Nodup := (List.nodup_append.mp hnd).2.1
    have hee : e'.k ≠ e.k := fun z => (List.nodup_cons.mp hnd').1 (z ▸ List.mem_map.mpr ⟨e', he', rfl⟩)
    have hsu : a.Su e.k = a.Su e'.k := by
      have := Option.some.inj h3
      simp at this
      exact this.1
    exact hee (hS.injS _ _ (hlt _ (by simp; exact .inr (.inr ⟨e', he', rfl⟩))) (hlt _ (by simp)) hsu.symm)
  refine ⟨fun b o hb => lk_st_ne (lk_ne hb hi0) (hkeep b o hb), ⟨sI, n1, lk_st_ne (ne_cls s1 hi (by simp)) s1, by simpa using s2⟩, ⟨tI, n2, lk_st_ne (ne_cls t1 hi (by simp)) t1, ?_⟩,
    ⟨Sf, hSf.keep fun o ho => lk_st_ne (hSf.ne hi (by simp)) ho, by simpa using hSf2⟩, ⟨kvs, d1.keep fun o ho => lk_st_ne (d1.ne hi (by simp)) ho, by simpa using d2, d3⟩, by simpa using hnd, by simpa using hlt, hok, fS, fT, fE, fD, hST⟩
  rw [List.reverse_cons] at t2 ⊢
  have hlen := t2.length
  (refine Mine.e1a2 (t2.get (i := r.reverse.length) (b := e) (by simp)) ?_; rintro v hv ⟨x1, x2, x3, x4⟩)
  have t3 := t2.take r.reverse.length
  rw [List.take_left' rfl] at t3
  have hsplit : tI.toList = tI.toList.take r.reverse.length ++ [v] := by
    have h1 : tI.toList.length = r.reverse.length + 1 := by rw [hlen]; simp
    have h2 := take_pred (l := tI.toList) (p := r.reverse.length + 1) (k := v) (Mine.o161) (by simpa using hv)
    rw [List.take_of_length_le (Mine.o162 h1)] at h2
    simpa using h2
  rw [hsplit]
  refine (t3.monoMem fun v e' he' h => hent v e' (List.mem_reverse.mp he') h).snoc ⟨x1, lk_st_ne (ne_cls x2 hi (by simp)) x2, lk_st_eq, x4⟩
/-- the top is finished -/
theorem Fc.pop {e : Ent} (F : Fc w G₀ G a σ S T E D (e :: r) fin) (hS : SorterAt w G₀ a σ) {sI tI : List Value} {v v' : Value} {n1 n2 n3 n4 : Nat} {kvs : List (Int × Value)}
    (hall : ∀ x ∈ σ.su e.k, x ∈ fin)
    (s1 : lk G S = some (listOf (sI ++ [v]).toArray n1)) (s2 : All2 IsN (sI ++ [v]) ((e :: r).reverse.map (·.k))) (t1 : lk G T = some (listOf (tI ++ [v']).toArray n2)) (t2 : All2 (EntAt G₀ G a) (tI ++ [v']) (e :: r).reverse)
    (d1 : IsDict w G D kvs) (d2 : kvs.map (·.1) = (e :: r).reverse.map (fun e => (e.k : Int))) (d3 : ∀ kv ∈ kvs, ∃ (i : Nat) (t : Tok), kv.2 = .int (i : Int) t)
    (k0 : ∀ b o, lk G b = some o → b ≠ S → b ≠ T → b ≠ e.it → b ≠ D → lk G' b = some o) (kS : lk G' S = some (listOf sI.toArray n3)) (kT : lk G' T = some (listOf tI.toArray n4)) (kD : IsDict w G' D (without kvs (e.k : Int))) :
    Fc w G₀ G' a σ S T E D r (fin ++ [e.k]) := by
  obtain ⟨hkeep, _, _, ⟨Sf, hSf, hSf2⟩, _, hnd, hlt, hok, fS, fT, fE, fD, hST⟩ := F
  (refine Mine.e1a3 hSf.cls ?_; rintro oE hoE cE _)
  (refine Mine.e1a3 d1.cls ?_; rintro oD hoD cD _)
  have snocR : ∀ {α β : Type} {R : α → β → Prop} {as : List α} {bs : List β} {x : α} {y : β}, All2 R (as ++ [x]) (bs ++ [y]) → All2 R as bs ∧ R x y := by
    intro α β R as bs x y h
    have hl := h.length
    simp at hl
    have h1 := h.take as.length
    rw [List.take_left' rfl, hl, List.take_left' rfl] at h1
    (refine Mine.e1a2 (h.get (i := bs.length) (b := y) (by simp)) ?_; rintro z hz hr)
    rw [← hl] at hz
    simp at hz
    exact ⟨h1, hz ▸ hr⟩
  rw [List.reverse_cons, List.map_append] at s2 d2
  rw [List.reverse_cons] at t2
  obtain ⟨s3, _⟩ := snocR s2
  obtain ⟨t3, -, hw, hi, hi0⟩ := snocR t2
  have hnd' : (e.k :: r.map (·.k)).Nodup := (List.nodup_append.mp hnd).2.1
  refine ⟨fun b o hb => k0 b o (hkeep b o hb) (lk_ne hb fS) (lk_ne hb fT) (lk_ne hb hi0) (lk_ne hb fD), ⟨_, _, kS, s3⟩, ⟨_, _, kT, t3.monoMem fun v e' he' h => ?_⟩, ⟨Sf, ?_, fun x => ?_⟩, ⟨_, kD, ?_, ?_⟩, ?_, ?_, hok.pop hall, fS, fT, fE, fD, hST⟩
  · (refine Mine.e0a4 h ?_; clear h; rintro h1 h2 h3 h4)
    refine ⟨h1, k0 _ _ h2 (ne_cls h2 s1 (by simp)) (ne_cls h2 t1 (by simp)) (ne_cls h2 hi (by simp)) (ne_cls h2 hoD (by rw [cD]; simp)),
      k0 _ _ h3 (ne_cls h3 s1 (by simp)) (ne_cls h3 t1 (by simp)) (fun q => ?_) (ne_cls h3 hoD (by rw [cD]; simp)), h4⟩
    rw [q, hi] at h3
    have he2 := List.mem_reverse.mp he'
    have hee : e'.k ≠ e.k := fun z => (List.nodup_cons.mp hnd').1 (z ▸ List.mem_map.mpr ⟨e', he2, rfl⟩)
    have hsu : a.Su e.k = a.Su e'.k := by
      have := Option.some.inj h3
      simp at this
      exact this.1
    exact hee (hS.injS _ _ (hlt _ (by simp; exact .inr (.inr ⟨e', he2, rfl⟩))) (hlt _ (by simp)) hsu.symm)
  · have : fin.length + (e :: r).length = (fin ++ [e.k]).length + r.length := by simp; (exact Mine.o164)
    rw [← this]
    exact hSf.keep fun o ho => k0 _ _ ho (hSf.ne s1 (by simp)) (hSf.ne t1 (by simp)) (hSf.ne hi (by simp)) (hSf.ne hoD (by rw [cD]; simp))
  · rw [hSf2]; simp only [List.map_cons, List.mem_cons, List.mem_append, List.mem_singleton, List.not_mem_nil, or_false]
    constructor
    · rintro (h | h | h) <;> simp [h]
    · rintro ((h | h) | h) <;> simp [h]
  · unfold without
    have hk : ∀ kv ∈ kvs, (decide (kv.1 ≠ (e.k : Int)) = true) = ((fun i : Int => decide (i ≠ (e.k : Int))) kv.1 = true) := fun _ _ => rfl
    have : (kvs.filter fun kv => decide (kv.1 ≠ (e.k : Int))).map (·.1) = (kvs.map (·.1)).filter fun i => decide (i ≠ (e.k : Int)) := by
      rw [List.filter_map]; rfl
    rw [this, d2, List.filter_append]
    have h1 : (r.reverse.map fun e => (e.k : Int)).filter (fun i => decide (i ≠ (e.k : Int))) = r.reverse.map fun e => (e.k : Int) := by
      rw [List.filter_eq_self]
      intro x hx
      (refine Mine.e1a2 (List.mem_map.mp hx) ?_; rintro e' he' rfl)
      have he2 := List.mem_reverse.mp he'
      have hee : e'.k ≠ e.k := fun z => (List.nodup_cons.mp hnd').1 (z ▸ List.mem_map.mpr ⟨e', he2, rfl⟩)
      simp; omega
    rw [h1]; simp
  · intro kv hkv
    exact d3 kv (List.mem_filter.mp hkv).1
  · have : fin ++ [e.k] ++ r.map (·.k) = fin ++ (e :: r).map (·.k) := by simp
    rw [this]; exact hnd
  · have : fin ++ [e.k] ++ r.map (·.k) = fin ++ (e :: r).map (·.k) := by simp
    rw [this]; exact hlt
end
end Mine
end TFc3

section TFc4
open PySem PySem.W PyProof.Rows PySem.Calls
namespace Mine
set_option maxRecDepth 100000
set_option maxHeartbeats 8000000
section
variable {w : World} {A : Around} {env : Env} {h₀ : Heap} {m : Str → Option Value} {G : LedT} {hp : Heap} {g : Array GenState} {d : Drawn} {tk : Nat} {os : OsState} {Q E : Value → Shared → Prop} {a : SAd} {σ : Srt}
theorem Cx.mark (C : Cx w A env h₀ hp m G) {v : Option Value} : Cx w (A.mark v) env h₀ hp m G := by
  obtain ⟨⟨A₀, base, outer, B, hA, hXB, hTB, hDi⟩, F, N, D, X, T, hf, hke⟩ := C
  exact ⟨⟨A₀, base, outer, B, hA, hXB, hTB, hDi⟩, F, N, D, X, T, hf, hke⟩
theorem Cx.unmark {v : Option Value} (C : Cx w (A.mark v) env h₀ hp m G) : Cx w A env h₀ hp m G := by
  obtain ⟨⟨A₀, base, outer, B, hA, hXB, hTB, hDi⟩, F, N, D, X, T, hf, hke⟩ := C
  exact ⟨⟨A₀, base, outer, B, hA, hXB, hTB, hDi⟩, F, N, D, X, T, hf, hke⟩
theorem wpAny_join {M : Model} {A : Around} {env : Env} {st : Stmt} {rest : List Stmt} {Q : Flow → Shared → Prop} {E : Value → Shared → Prop} {s : Shared} (Pn : Shared → Prop)
    (h : wpAny M A (exec st env) (fun f s' => match f with | .next => Pn s' | f => Q f s') E s) (k : ∀ s', Pn s' → wpAny M A (execs rest env) Q E s') : wpAny M A (execs (st :: rest) env) Q E s := by
  refine wpAny_execs_cons (wpAny_mono h (fun f s' z => ?_) fun _ _ z => z)
  cases f with
  | next => exact k s' z
  | cont => exact z
  | brk => exact z
  | ret v => exact z
theorem lk_fc {G : LedT} {x c : Addr} {o o' : Obj} (hf : lk G x = none) (h : lk G c = some o) : lk ((x, o') :: G) c = some o := lk_cons_ne (lk_ne h hf) h
theorem nodup_len {l : List Nat} {n : Nat} (hn : l.Nodup) (h : ∀ x ∈ l, x < n) : l.length ≤ n := by
  have := sum_le_range (fun _ => 1) n l hn h
  have e : ∀ l : List Nat, (l.map fun _ => 1).sum = l.length := by
    intro l
    induction l with
    | nil => rfl
    | cons a l ih => simp only [List.map_cons, List.sum_cons, ih, List.length_cons]; (exact Mine.o1)
  rw [e, e, List.length_range] at this
  exact this
theorem valueAt_mem {kvs : List (Int × Value)} {k : Int} (h : k ∈ kvs.map (·.1)) : ∃ kv ∈ kvs, valueAt kvs k = some kv.2 := by
  unfold valueAt
  cases q : kvs.find? fun kv => decide (kv.1 = k) with
  | none =>
    rw [List.find?_eq_none] at q
    (refine Mine.e1a2 (List.mem_map.mp h) ?_; rintro kv hkv e)
    exact absurd e (by simpa using q kv hkv)
  | some kv => exact ⟨kv, List.mem_of_find?_eq_some q, rfl⟩
theorem valueAt_mem' {kvs : List (Int × Value)} {k : Int} (h : (valueAt kvs k).isSome = true) : k ∈ kvs.map (·.1) := by
  unfold valueAt at h
  cases q : kvs.find? fun kv => decide (kv.1 = k) with
  | none => rw [q] at h; cases h
  | some kv =>
    have := List.find?_some q
    exact List.mem_map.mpr ⟨kv, List.mem_of_find?_eq_some q, by simpa using this⟩
/-- the names of the search's frame -/
structure FcN (m : Str → Option Value) (a : SAd) (S T E D : Addr) : Prop where
  n2i : m (Str.ofString "n2i") = some (.ref a.N)
  stack : m (Str.ofString "stack") = some (.ref S)
  itstack : m (Str.ofString "itstack") = some (.ref T)
  seen : m (Str.ofString "seen") = some (.ref E)
  n2s : m (Str.ofString "node2stacki") = some (.ref D)
theorem FcN.node {m : Str → Option Value} {S T E D : Addr} (h : FcN m a S T E D) (v : Value) : FcN (mset m (Str.ofString "node") v) a S T E D :=
  ⟨mset_ne (by decide) h.n2i, mset_ne (by decide) h.stack, mset_ne (by decide) h.itstack, mset_ne (by decide) h.seen, mset_ne (by decide) h.n2s⟩
theorem Fc.up {G₁ G₂ G₅ : LedT} {S T E D : Addr} {fin : List Nat} (F : Fc w G G₁ a σ S T E D [] fin) (u : Up G₅ G₁ G₂) (h5 : ∀ b o, lk G b = some o → lk G₅ b = some o) : Fc w G G₂ a σ S T E D [] fin := by
  obtain ⟨hkeep, ⟨sI, n1, s1, s2⟩, ⟨tI, n2, t1, t2⟩, ⟨Sf, hSf, hSf2⟩, ⟨kvs, d1, d2, d3⟩, hnd, hlt, hok, fS, fT, fE, fD, hST⟩ := F
  refine ⟨fun b o hb => u _ _ (hkeep b o hb) (.inl (by rw [h5 b o hb]; simp)), ⟨sI, n1, u _ _ s1 (.inr (by simp)), s2⟩, ⟨tI, n2, u _ _ t1 (.inr (by simp)), ?_⟩, ⟨Sf, hSf.keep fun o ho => u _ _ ho (.inr ?_), hSf2⟩, ⟨kvs, d1.keep fun o ho => u _ _ ho (.inr ?_), d2, d3⟩, hnd, hlt, hok, fS, fT, fE, fD, hST⟩
  · have : tI.toList = [] := by
      have := t2.length
      exact List.length_eq_zero_iff.mp (by simpa using this)
    rw [this]; exact .nil
  · (refine Mine.e1a3 hSf.cls ?_; rintro o' ho' _ hf)
    rw [ho] at ho'; cases ho'; exact hf
  · (refine Mine.e1a3 d1.cls ?_; rintro o' ho' _ hf)
    rw [ho] at ho'; cases ho'; exact hf
theorem findCycle_ct (C : Cx w A env h₀ hp m G) (hh : A.handled = none) (hS : SorterAt w G a σ) (hsu : ∀ k, k < σ.n → ∀ x ∈ σ.su k, x < σ.n) (hn : σ.n ≤ 1000) (hz : ∀ k, k < σ.n → (σ.su k).length < 2 ^ 18) (hd : A.depth + 3 < recursionLimit) (hu : A.units + 16 < cLine)
    (retN : ∀ h₀' h' tk' G', Turn A h₀ h₀' → Cx w A env h₀' h' m G' → (∀ b o, lk G b = some o → lk G' b = some o) → Acyc σ.n σ.su → Q .none ⟨h', g, d, tk', os⟩)
    (retC : ∀ h₀' h' tk' G' L its n, Turn A h₀ h₀' → Cx w A env h₀' h' m G' → (∀ b o, lk G b = some o → lk G' b = some o) → lk G' L = some (listOf its n) → 0 < its.size → its.size < 2 ^ 19 → Cyc σ.n σ.su → Q (.ref L) ⟨h', g, d, tk', os⟩) :
    wpAny (model P w) A (call (.ref 127) [.ref a.S]) Q E ⟨hp, g, d, tk, os⟩ := by
  have e9 : PySem.Challenge.rw_oh0057_01 = PySem.Challenge.rw_oh0057_01 := rfl
  have X := C.X
  revert X e9; k_fill; intro X e9; clear e9
  k_dflt (refine' C.enterR (binds := [(Str.ofString "self", Value.ref a.S)]) ?k6 ?k7 ?k8 ?k9 ?kB ?c2 ?c3 ?c4 ?c5 ?_; (case k6 => k_is); (case k7 => k_is); (case k8 => (exact Mine.o10 hd)); (case k9 => exact BindsTo.of_eq rfl); (case c5 => decide); (case kB => exact locs rfl); (case c2 => exact rfl); (case c3 => exact rfl); (case c4 => exact rfl); k_whole; intro gb L' h₁ tk₁ C1 hlt FG)
  refine wpAny_mono (E := fun _ _ => False) ?_ (fun _ _ z => z) fun _ _ z => z.elim
  -- n2i = self._node2info
  refine wpAny_execs_cons (wpAny_Assign_Name (Attribute_Name_ (C1.name rfl (C1.sN2i hS fun _ => ?_))))
  refine C1.store fun h₂ tk₂ C2 => ?_
  -- stack = []
  refine wpAny_execs_cons (wpAny_Assign_Name (List_ (wpAny_evalAll_nil (C2.newList (by simp) fun S h₃ C3 hS3 => C3.store fun h₄ tk₄ C4 => ?_))))
  refine wpAny_execs_cons (wpAny_Assign_Name (List_ (wpAny_evalAll_nil (C4.newList (by simp) fun T h₅ C5 hT5 => C5.store fun h₆ tk₆ C6 => ?_))))
  -- seen = set()
  refine wpAny_execs_cons (wpAny_Assign_Name (Call_ (C6.bltn (n_set w) Boot.set (callWith_type0 (C6.newSet fun E₀ oE h₇ C7 hE7 hE0 => C7.store fun h₈ tk₈ C8 => ?_)))))
  -- node2stacki = {}
  refine wpAny_execs_cons (wpAny_Assign_Name (C8.newDict fun D₀ h₉ C9 hD9 ltD => C9.store fun h₁₀ tk₁₀ C10 => ?_))
  have lS : ∀ b o, lk G b = some o → b ≠ S := fun b o hb => lk_ne hb hS3
  have lT : ∀ b o, lk G b = some o → b ≠ T := fun b o hb => lk_ne (lk_cons_ne (lS b o hb) hb) hT5
  have lE : ∀ b o, lk G b = some o → b ≠ E₀ := fun b o hb => lk_ne (lk_cons_ne (lT b o hb) (lk_cons_ne (lS b o hb) hb)) hE0
  have hST : S ≠ T := lk_ne lk_cons_eq hT5
  have hSE : S ≠ E₀ := lk_ne (lk_cons_ne hST lk_cons_eq) hE0
  have hTE : T ≠ E₀ := lk_ne lk_cons_eq hE0
  have hD0 := lk_fresh ltD
  have hSD : S ≠ D₀ := lk_ne (lk_cons_ne hSE (lk_cons_ne hST lk_cons_eq)) hD0
  have hTD : T ≠ D₀ := lk_ne (lk_cons_ne hTE lk_cons_eq) hD0
  have hED : E₀ ≠ D₀ := lk_ne lk_cons_eq hD0
  have lD : ∀ b o, lk G b = some o → b ≠ D₀ := fun b o hb => lk_ne (lk_cons_ne (lE b o hb) (lk_cons_ne (lT b o hb) (lk_cons_ne (lS b o hb) hb))) hD0
  have non : ∀ {b : Addr}, (∀ c o, lk G c = some o → c ≠ b) → lk G b = none := fun {b} h => by
    cases q : lk G b with
    | none => rfl
    | some o => exact absurd rfl (h b o q)
  generalize hG5 : ((D₀, dictOf [] 0) :: (E₀, oE) :: (T, W.listOf [].toArray 0) :: (S, W.listOf [].toArray 0) :: G) = G5 at *
  have k5 : ∀ b o, lk G b = some o → lk G5 b = some o := fun b o hb => by
    rw [← hG5]; exact lk_cons_ne (lD b o hb) (lk_cons_ne (lE b o hb) (lk_cons_ne (lT b o hb) (lk_cons_ne (lS b o hb) hb)))
  have F0 : Fc w G G5 a σ S T E₀ D₀ [] [] := by
    refine ⟨k5, ⟨#[], 0, ?_, .nil⟩, ⟨#[], 0, ?_, .nil⟩, ⟨fun _ => false, hE7.keep fun o ho => ?_, by simp⟩, ⟨[], hD9, rfl, by simp⟩, by simp, by simp, fun i v h => by simp at h, non lS, non lT, non lE, non lD, hST⟩
    · rw [← hG5]; exact lk_cons_ne hSD (lk_cons_ne hSE (lk_cons_ne hST lk_cons_eq))
    · rw [← hG5]; exact lk_cons_ne hTD (lk_cons_ne hTE lk_cons_eq)
    · rw [← hG5]; exact lk_cons_ne hED ho
  -- for node in n2i
  refine wpAny_execs_cons (wpAny_For (C10.name rfl ?_))
  refine C10.for_dictR (fun i m₁ G₁ => FcN m₁ a S T E₀ D₀ ∧ ∃ fin, Fc w G G₁ a σ S T E₀ D₀ [] fin ∧ ∀ j, j < i → j ∈ fin) hh ⟨⟨rfl, rfl, rfl, rfl, rfl⟩, [], F0, by simp⟩ (hS.n2i.keep fun o ho => k5 _ _ ho)
    ?_ rfl ?_ ?_ ?_
  · rintro i m₁ G₁ hZ1
    obtain ⟨_, fin, F1, _⟩ := hZ1
    (refine Mine.e1a2 hS.n2i.cls ?_; rintro o ho _)
    rw [F1.keep _ _ ho, k5 _ _ ho]
  · rintro i m₁ G₁ G₂ hZ2 u
    obtain ⟨N1, fin, F1, h1⟩ := hZ2
    exact ⟨N1, fin, F1.up u k5, h1⟩
  · rintro b i k v t m₁ G₁ h₁₁ tk₁₁ I oI Tb hk hZ3 C11 hI hIf hIc hI0
    obtain ⟨N1, fin, F1, hfin⟩ := hZ3
    have hin : i < σ.n ∧ k = (i : Int) := by
      rw [nodeKvs, List.getElem?_map] at hk
      cases q : (List.range σ.n)[i]? with
      | none => rw [q] at hk; cases hk
      | some j =>
        rw [q] at hk
        obtain ⟨h1, h2⟩ := List.getElem?_eq_some_iff.mp q
        simp at h1 h2
        subst h2
        cases hk
        exact ⟨h1, rfl⟩
    obtain ⟨hin, rfl⟩ := hin
    have N2 := N1.node (.int (i : Int) t)
    (refine Mine.e1a2 F1.seen ?_; rintro Sf hSf hSf2)
    have hfl : fin.length ≤ 1000 := Nat.le_trans (nodup_len (by simpa using F1.nd) (by simpa using F1.lt)) hn
    refine wpAny_execs_cons (wpAny_If (wpAny_isTrue_Compare1 (C11.name mset_eq (C11.name N2.seen (C11.inSet hSf (by simp; (exact Mine.o25 hfl)) fun _ => wpAny_truthy_bool ?_)))))
    cases hc : Sf (i : Int) with
    | true =>
      simp only [if_true]
      have hi := (hSf2 i).mp hc
      refine wpAny_execs_cons (wpAny_Continue ⟨b, _, _, _, _, rfl, Tb, C11, hI, N2, fin, F1, fun j hj => ?_⟩)
      rcases Nat.lt_succ_iff_lt_or_eq.mp hj with q | q
      · exact hfin j q
      · subst q; simpa using hi
    | false =>
      simp only [Bool.false_eq_true, if_false]
      refine wpAny_execs_nil (wpAny_execs_cons ?_)
      have hni : i ∉ fin := fun q => by
        have := (hSf2 i).mpr (.inl q)
        rw [hc] at this; cases this
      refine Cx.whileR (n₀ := total σ.su σ.n - used σ.su fin []) (fun n m₁ G₁ => FcN m₁ a S T E₀ D₀ ∧ lk G₁ I = some oI ∧ ∃ (node : Nat) (t : Tok) (r : List Ent) (fin : List Nat), m₁ (Str.ofString "node") = some (.int (node : Int) t) ∧ node < σ.n ∧ Fc w G G₁ a σ S T E₀ D₀ r fin ∧ Link σ.su fin node r ∧ (r = [] → node ∉ fin) ∧ (∀ j, j < i → j ∈ fin) ∧ (i ∈ fin ∨ i ∈ r.map (·.k) ∨ node = i ∧ r = []) ∧ n = total σ.su σ.n - used σ.su fin r)
        C11 ⟨N2, hI, i, t, [], fin, mset_eq, hin, F1, trivial, fun _ => hni, hfin, .inr (.inr ⟨rfl, rfl⟩), rfl⟩ ?_
      rintro b₂ n m₂ G₂ h₁₂ tk₁₂ Tb₂ C12 hZ4
      obtain ⟨N3, hI2, node, t2, r, fin2, hnode, hnn, F2, hL, hr0, hfin2, hi2, rfl⟩ := hZ4
      refine wpAny_isTrue_value (wpAny_Constant_bool (wpAny_truthy_bool ?_))
      rw [if_pos rfl]
      (refine Mine.e1a2 F2.seen ?_; rintro Sf2 hSf3 hSf4)
      have hlen2 : fin2.length + r.length ≤ 1000 := by
        have := nodup_len F2.nd F2.lt
        simp at this; (exact Mine.o27 hn this)
      refine wpAny_join (fun s' => ∃ h' tk' G₃ r', s' = ⟨h', g, d, tk', os⟩ ∧ C12.Same h' m₂ G₃ ∧ lk G₃ I = some oI ∧ Fc w G G₃ a σ S T E₀ D₀ r' fin2 ∧ Inn σ.su fin2 r' ∧ (i ∈ fin2 ∨ i ∈ r'.map (·.k)) ∧ used σ.su fin2 r' = used σ.su fin2 r) ?_ ?_
      · refine wpAny_If (wpAny_isTrue_Compare1 (C12.name hnode (C12.name N3.seen (C12.inSet hSf3 (Mine.o29 hlen2) fun _ => wpAny_truthy_bool ?_))))
        cases hc2 : Sf2 (node : Int) with
        | true =>
          simp only [if_true]
          have hseen := (hSf4 node).mp hc2
          (refine Mine.e1a3 F2.n2s ?_; rintro kvs d1 d2 d3)
          refine wpAny_execs_cons (wpAny_If (wpAny_isTrue_Compare1 (C12.name hnode (C12.name N3.n2s (C12.din d1 fun _ => wpAny_truthy_bool ?_)))))
          cases hc3 : (valueAt kvs (node : Int)).isSome with
          | true =>
            simp only [if_true]
            have hmem := valueAt_mem' hc3
            (refine Mine.e1a2 (valueAt_mem hmem) ?_; rintro kv hkv hva)
            (refine Mine.e2a1 (d3 kv hkv) ?_; rintro ix tx hx)
            have hpath : ∃ e ∈ r, e.k = node := by
              rw [d2] at hmem
              (refine Mine.e1a2 (List.mem_map.mp hmem) ?_; rintro e he q)
              exact ⟨e, List.mem_reverse.mp he, by omega⟩
            have hcyc : Cyc σ.n σ.su := hL.toCyc (fun e he => F2.lt _ (List.mem_append_right _ (List.mem_map.mpr ⟨e, he, rfl⟩))) hpath
            (refine Mine.e2a2 F2.stk ?_; rintro sI n1 s1 s2)
            have hsl := s2.length
            simp at hsl
            refine wpAny_execs_cons (wpAny_Return_some (wpAny_BinOp (Subscript_ (C12.name N3.stack (wpAny_Slice ?_)))))
            rw [evalPart_some, evalPart_none]
            refine Subscript_ (C12.name N3.n2s (C12.name hnode (C12.ditem d1 (hva.trans (by rw [hx])) fun _ => wpAny_pure (wpAny_pure ?_))))
            refine C12.slice s1 (.int _ _) .none (by have : sI.size = r.length := by simpa using hsl
                                                     (exact Mine.o41 hlen2 this)) fun SL h₁₃ C13 hSL => ?_
            refine List_ (args_cons (C13.name hnode (args_nil (C13.newList (by simp) fun NL h₁₄ C14 hNL => ?_))))
            have hsz : (slicePick sI (some (ix : Int)) none none).size ≤ 1000 := by
              have h1 := slicePick_size_le sI (some (ix : Int)) none none
              have : sI.size = r.length := by simpa using hsl
              (exact Mine.o42 hlen2 hsl h1)
            refine C14.catL (lk_cons_ne (lk_ne lk_cons_eq hNL) lk_cons_eq) lk_cons_eq (by simp; (exact Mine.o43 hsz)) fun RL h₁₅ C15 hRL => ?_
            refine ⟨b₂, _, _, Tb.trans Tb₂, C15, fun h₀' T' C16 => retC h₀' _ _ _ RL _ _ T' C16 (fun c o hc => ?_) lk_cons_eq (by simp) (by simp; (exact Mine.o45 hsz)) hcyc⟩
            exact lk_fc hRL (lk_fc hNL (lk_fc hSL (F2.keep c o hc)))
          | false =>
            simp only [Bool.false_eq_true, if_false]
            have hnp : node ∉ r.map (·.k) := fun q => by
              have : (node : Int) ∈ kvs.map (·.1) := by
                rw [d2]
                (refine Mine.e1a2 (List.mem_map.mp q) ?_; rintro e he q)
                exact List.mem_map.mpr ⟨e, List.mem_reverse.mpr he, by rw [q]⟩
              (refine Mine.e1a2 (valueAt_mem this) ?_; rintro kv _ h)
              rw [h] at hc3; cases hc3
            have hfn : node ∈ fin2 := hseen.elim id fun q => absurd q hnp
            refine wpAny_execs_nil (wpAny_execs_nil ⟨_, _, _, r, rfl, C12, hI2, F2, hL.inn hfn, ?_, rfl⟩)
            rcases hi2 with q | q | ⟨q1, q2⟩
            · exact .inl q
            · exact .inr q
            · exact absurd hfn (hr0 q2)
        | false =>
          simp only [Bool.false_eq_true, if_false]
          have hns : ¬ (node ∈ fin2 ∨ node ∈ r.map (·.k)) := fun q => by rw [(hSf4 node).mpr q] at hc2; cases hc2
          (refine Mine.e2a2 F2.stk ?_; rintro sI n1 s1 s2)
          (refine Mine.e2a2 F2.itk ?_; rintro tI n2 t1 t2')
          (refine Mine.e1a3 F2.n2s ?_; rintro kvs d1 d2 d3)
          have hsl := s2.length
          have htl := t2'.length
          simp at hsl htl
          (refine Mine.e1a3 hSf3.cls ?_; rintro oEx hoEx cEx _)
          (refine Mine.e1a3 d1.cls ?_; rintro oDx hoDx cDx _)
          -- seen.add(node)
          refine wpAny_execs_cons (wpAny_Expr (MethodCall_ (C12.name N3.seen (C12.setMeth hSf3 (Mine.o29 hlen2) (callWith_method1 (args_cons (C12.name hnode (args_nil (C12.setAdd hSf3 (Mine.o29 hlen2) fun h₁₃ tk₁₃ oE' C13 hE13 => ?_)))))))))
          rw [hc2] at hE13
          simp only [Bool.false_eq_true, if_false] at hE13
          have k13 : ∀ c o, lk G₂ c = some o → c ≠ E₀ → lk (Mine.st G₂ E₀ oE') c = some o := fun c o hc hne => lk_st_ne hne hc
          have hS13 : SorterAt w (Mine.st G₂ E₀ oE') a σ := hS.keep fun c o hc => k13 c o (F2.keep c o hc) (lk_ne hc F2.fE)
          have t13 := k13 _ _ t1 (ne_cls t1 hoEx (by rw [cEx]; simp))
          -- itstack.append(iter(n2i[node].successors).__next__)
          refine wpAny_execs_cons (wpAny_Expr (MethodCall_ (C13.name N3.itstack (C13.listMeth t13 PySem.F.slot_list_append PySem.F.type_list_append (callWith_method1 (args_cons (Attribute_any_ ?_)))))))
          refine C13.callB (n_iter w) Boot.iter (args_cons (Attribute_any_ (Subscript_ (C13.name N3.n2i (C13.name hnode (C13.ditem hS13.n2i (by rw [nodeKvs]; exact valueAt_some hnn) fun _ => ?_))))))
          obtain ⟨⟨z1, z2, r1⟩, ⟨od', r2, r5⟩, its', nn', r3, r4⟩ := hS13.node node hnn
          refine C13.getS (slot_successors w) r1 r2 (by rfl) rfl fun _ => ?_
          refine args_nil (C13.iterL r3 fun IT h₁₄ C14 hIT => C14.nextAttr lk_cons_eq fun WR h₁₅ tk₁₅ C15 hWR => args_nil ?_)
          have hWI : IT ≠ WR := lk_ne lk_cons_eq hWR
          have k15 : ∀ c o, lk (Mine.st G₂ E₀ oE') c = some o → lk ((WR, wrapOf IT) :: (IT, iterOf (a.Su node) 0) :: Mine.st G₂ E₀ oE') c = some o := fun c o hc => lk_cons_ne (lk_ne (lk_cons_ne (lk_ne hc hIT) hc) hWR) (lk_cons_ne (lk_ne hc hIT) hc)
          have t15 := k15 _ _ t13
          have w15 : lk ((WR, wrapOf IT) :: (IT, iterOf (a.Su node) 0) :: Mine.st G₂ E₀ oE') WR = some (wrapOf IT) := lk_cons_eq
          have i15 : lk ((WR, wrapOf IT) :: (IT, iterOf (a.Su node) 0) :: Mine.st G₂ E₀ oE') IT = some (iterOf (a.Su node) 0) := lk_cons_ne hWI lk_cons_eq
          have s15 := k15 _ _ (k13 _ _ s1 (ne_cls s1 hoEx (by rw [cEx]; simp)))
          have d15 : IsDict w ((WR, wrapOf IT) :: (IT, iterOf (a.Su node) 0) :: Mine.st G₂ E₀ oE') D₀ kvs := d1.keep fun o ho => k15 _ _ (k13 _ _ ho (d1.ne hoEx (by rw [cEx]; simp)))
          have e15 := hE13.keep (G' := (WR, wrapOf IT) :: (IT, iterOf (a.Su node) 0) :: Mine.st G₂ E₀ oE') fun o ho => k15 _ _ ho
          have I15 : lk ((WR, wrapOf IT) :: (IT, iterOf (a.Su node) 0) :: Mine.st G₂ E₀ oE') I = some oI := k15 _ _ (k13 _ _ hI2 (ne_cls hI2 hoEx (by rw [cEx, hIc]; simp)))
          have k15' : ∀ c o, lk G₂ c = some o → c ≠ E₀ → lk ((WR, wrapOf IT) :: (IT, iterOf (a.Su node) 0) :: Mine.st G₂ E₀ oE') c = some o := fun c o hc hne => k15 _ _ (k13 c o hc hne)
          have hit0 : lk G IT = none := by
            cases q : lk G IT with
            | none => rfl
            | some o => exact absurd rfl (lk_ne (k13 _ _ (F2.keep _ _ q) (lk_ne q F2.fE)) hIT)
          generalize ((WR, wrapOf IT) :: (IT, iterOf (a.Su node) 0) :: Mine.st G₂ E₀ oE') = G₄ at *
          refine C15.append t15 (by simp at htl ⊢; (exact Mine.o59 hlen2 htl)) fun h₁₆ C16 => ?_
          (refine Mine.e1a3 e15.cls ?_; rintro oE4 hoE4 cE4 _)
          (refine Mine.e1a3 d15.cls ?_; rintro oD4 hoD4 cD4 _)
          have k16 : ∀ c o, lk G₄ c = some o → c ≠ T → lk (Mine.st G₄ T (W.listOf (tI.push (.ref WR)) (n2 + 1))) c = some o := fun c o hc hne => lk_st_ne hne hc
          have s16 := k16 _ _ s15 hST
          have d16 : IsDict w (Mine.st G₄ T (W.listOf (tI.push (.ref WR)) (n2 + 1))) D₀ kvs := d15.keep fun o ho => k16 _ _ ho (d15.ne t15 (by simp))
          -- node2stacki[node] = len(stack)
          refine wpAny_execs_cons (wpAny_Assign_Subscript (C16.callB (n_len w) Boot.len (args_cons (C16.name N3.stack (args_nil (C16.len s16 (by simp at hsl ⊢; (exact Mine.o59 hlen2 hsl)) fun tl tkl => C16.name N3.n2s (C16.name hnode ?_)))))))
          have hkl : kvs.length ≤ 1000 := by
            have := congrArg List.length d2
            simp at this; (exact Mine.o61 hlen2 this)
          refine C16.dset d16 (Mine.o16 hkl) fun h₁₇ tk₁₇ oD' C17 d17 => ?_
          have s17 := lk_st_ne (o := oD') (ne_cls s16 (by exact k16 _ _ hoD4 (d15.ne t15 (by simp))) (by rw [cD4]; simp)) s16
          -- stack.append(node)
          refine wpAny_execs_cons (wpAny_Expr (MethodCall_ (C17.name N3.stack (C17.listMeth s17 PySem.F.slot_list_append PySem.F.type_list_append (callWith_method1 (args_cons (C17.name hnode (args_nil (C17.append s17 (by simp at hsl ⊢; (exact Mine.o59 hlen2 hsl)) fun h₁₈ C18 => ?_)))))))))
          have hDT : D₀ ≠ T := d15.ne t15 (by simp)
          have hDS : D₀ ≠ S := d15.ne s15 (by simp)
          have hET : E₀ ≠ T := e15.ne t15 (by simp)
          have hES : E₀ ≠ S := e15.ne s15 (by simp)
          have hED' : E₀ ≠ D₀ := e15.ne hoD4 (by rw [cD4]; simp)
          have k18 : ∀ c o, lk G₄ c = some o → c ≠ S → c ≠ T → c ≠ D₀ → lk (Mine.st (Mine.st (Mine.st G₄ T (W.listOf (tI.push (.ref WR)) (n2 + 1))) D₀ oD') S (W.listOf (sI.push (.int (node : Int) t2)) (n1 + 1))) c = some o := fun c o hc q1 q2 q3 => lk_st_ne q1 (lk_st_ne q3 (lk_st_ne q2 hc))
          refine wpAny_execs_nil ⟨_, _, _, ⟨node, 0, WR, IT⟩ :: r, rfl, C18, k18 _ _ I15 (ne_cls I15 s15 (by rw [hIc]; simp)) (ne_cls I15 t15 (by rw [hIc]; simp)) (ne_cls I15 hoD4 (by rw [hIc, cD4]; simp)), ?_, ⟨Nat.zero_le _, by simp, hL⟩, ?_, ?_⟩
          · refine F2.push (n4 := n2 + 1) hnn hns s1 s2 t1 t2' hSf4 d2 d3 (v := .int (sI.size : Int) tl) ⟨sI.size, tl, rfl⟩ (fun c o hc q1 q2 q3 q4 => k18 _ _ (k15' c o hc q3) q1 q2 q4) lk_st_eq ?_ ?_ ?_ ?_ ?_ hit0 ⟨oEx, hoEx, cEx⟩ ⟨oDx, hoDx, cDx⟩
            · exact lk_st_ne (fun q => hST q.symm) (lk_st_ne (fun q => hDT q.symm) lk_st_eq)
            · exact e15.keep fun o ho => k18 _ _ ho hES hET hED'
            · exact d17.keep fun o ho => lk_st_ne hDS ho
            · exact k18 _ _ w15 (ne_cls w15 s15 (by simp)) (ne_cls w15 t15 (by simp)) (ne_cls w15 hoD4 (by rw [cD4]; simp))
            · exact k18 _ _ i15 (ne_cls i15 s15 (by simp)) (ne_cls i15 t15 (by simp)) (ne_cls i15 hoD4 (by rw [cD4]; simp))
          · rcases hi2 with q | q | ⟨q1, q2⟩
            · exact .inl q
            · exact .inr (by simp at q ⊢; exact .inr q)
            · exact .inr (by simp [q1])
          · simp [used]
      · rintro s' hZ5
        (refine Mine.e4a7 hZ5 ?_; clear hZ5; rintro h₂₀ tk₂₀ G₃ r3 rfl C20 hI3 F3 hInn hi3 hused)
        refine wpAny_execs_cons ?_
        refine Cx.whileR (n₀ := r3.length) (fun n m₁ G₁ => FcN m₁ a S T E₀ D₀ ∧ lk G₁ I = some oI ∧ ∃ (r' : List Ent) (fin : List Nat), Fc w G G₁ a σ S T E₀ D₀ r' fin ∧ Inn σ.su fin r' ∧ (∀ j, j < i → j ∈ fin) ∧ (i ∈ fin ∨ i ∈ r'.map (·.k)) ∧ used σ.su fin r' = used σ.su fin2 r ∧ n = r'.length) C20 ⟨N3, hI3, r3, fin2, F3, hInn, hfin2, hi3, hused, rfl⟩ ?_
        rintro b₃ n m₃ G₆ h₂₁ tk₂₁ Tb₃ C21 hZ6
        obtain ⟨N4, hI4, r4, fin4, F4, hInn4, hfin4, hi4, hused4, rfl⟩ := hZ6
        (refine Mine.e2a2 F4.stk ?_; rintro sI n1 s1 s2)
        have hsl := s2.length
        have hlen4 : fin4.length + r4.length ≤ 1000 := by
          have := nodup_len F4.nd F4.lt
          simp at this; (exact Mine.o27 hn this)
        have hsz : sI.size = r4.length := by simpa using hsl
        refine wpAny_isTrue_value (C21.name N4.stack (C21.truthyL s1 (Mine.o41 hlen4 hsz) fun _ => ?_))
        cases r4 with
        | nil =>
          rw [if_neg (by simp [hsz])]
          refine wpAny_execs_cons (wpAny_Break (wpAny_execs_nil ⟨b₃, _, _, _, _, rfl, Tb.trans (Tb₂.trans Tb₃), C21, hI4, N4, fin4, F4, fun j hj => ?_⟩))
          rcases Nat.lt_succ_iff_lt_or_eq.mp hj with q | q
          · exact hfin4 j q
          · subst q; exact hi4.elim id fun q => by simp at q
        | cons e r5 =>
          rw [if_pos (by simp [hsz])]
          (refine Mine.e0a3 hInn4 ?_; clear hInn4; rintro hep hein heL)
          have hek : e.k < σ.n := F4.lt _ (by simp)
          (refine Mine.e2a2 F4.itk ?_; rintro tI n2 t1 t2')
          have htl := t2'.length
          obtain ⟨us, y, hus⟩ : ∃ us y, tI.toList = us ++ [y] := by
            rcases List.eq_nil_or_concat tI.toList with q | ⟨us, y, q⟩
            · rw [q] at htl; simp at htl
            · exact ⟨us, y, by simpa using q⟩
          have htI : tI = (us ++ [y]).toArray := by rw [← hus]
          have hy : EntAt G G₆ a y e := by
            rw [hus, List.reverse_cons] at t2'
            have hl' := t2'.length
            simp at hl'
            (refine Mine.e1a2 (t2'.get (i := r5.reverse.length) (b := e) (by simp)) ?_; rintro z hz hr)
            rw [List.length_reverse, ← hl'] at hz
            simp at hz
            exact hz ▸ hr
          (refine Mine.e0a4 hy ?_; clear hy; rintro rfl hw hi' hi0)
          have hul : us.length ≤ 1000 := by
            have : (us ++ [Value.ref e.wr]).length = (e :: r5).length := by rw [← hus]; simpa using htl
            simp at this hlen4; (exact Mine.o71 hlen4 this)
          rw [htI] at t1 t2'
          have hS4 : SorterAt w G₆ a σ := hS.keep F4.keep
          obtain ⟨⟨z1, z2, x1⟩, ⟨od', x2, x5⟩, its', nn', x3, x4⟩ := hS4.node e.k hek
          refine wpAny_execs_cons (wpAny_Try_except (wpAny_execs_cons (wpAny_Assign_Name (Call_ (Subscript_ (C21.name N4.itstack (wpAny_UnaryOp (c_int fun _ _ => o_neg fun _ _ => ?_))))))))
          refine C21.itemBack t1 (Mine.o16 hul) (callWith_wrap (C21.at hw) ?_)
          cases hx : (σ.su e.k)[e.p]? with
          | some x =>
            obtain ⟨xv, hxv, tx, rfl⟩ := x4.get hx
            have hxn : x < σ.n := hsu e.k hek x (List.mem_of_getElem? hx)
            refine C21.nextItem hw hi' x3 (by simpa using hxv) fun h₂₂ C22 => C22.store fun h₂₃ tk₂₃ C23 => wpAny_execs_cons (wpAny_Break (wpAny_execs_nil ?_))
            have F5 := F4.draw hS
            have hL5 : Link σ.su fin4 x (⟨e.k, e.p + 1, e.wr, e.it⟩ :: r5) := ⟨by simp, by simpa using hx, by simpa using hein, heL⟩
            have hule := used_le (su := σ.su) F5.nd F5.lt (fun e' he' => hL5.le e' he')
            have hus5 : used σ.su fin4 (⟨e.k, e.p + 1, e.wr, e.it⟩ :: r5) = used σ.su fin2 r + 1 := by
              rw [← hused4]; simp [used]; (exact Mine.o94)
            refine ⟨b₃, _, _, _, _, total σ.su σ.n - used σ.su fin4 (⟨e.k, e.p + 1, e.wr, e.it⟩ :: r5), rfl, Tb₂.trans Tb₃, C23, by (exact Mine.o96 hus5 hule), N4.node _, lk_st_ne (ne_cls hI4 hi' (by rw [hIc]; simp)) hI4, x, tx, _, fin4, mset_eq, hxn, F5, hL5, by simp, hfin4, ?_, rfl⟩
            rcases hi4 with q | q
            · exact .inl q
            · exact .inr (.inl (by simpa using q))
          | none =>
            have hpl : e.p = (σ.su e.k).length := by
              have := List.getElem?_eq_none_iff.mp hx; (exact Mine.o98 hep this)
            have hits : its'.size = (σ.su e.k).length := by simpa using x4.length
            refine C21.nextEnd hh hw hi' x3 (by simp; (exact Mine.o99 hpl hits)) fun h₂₂ h₂₃ ex oI' C22 hoc hxe => ?_
            refine Cx.stopped C22 hxe (by decide +kernel) (by decide +kernel) (by decide +kernel) (by decide +kernel) (by decide +kernel) (by decide +kernel) (by decide +kernel) (by decide +kernel) (by decide +kernel) (by decide) rfl (by decide) fun b₄ h₂₄ T₄ C23' => ?_
            have C23 := C23'.mark (v := some (.ref ex))
            obtain ⟨sus, sy, hsus⟩ : ∃ us y, sI.toList = us ++ [y] := by
              rcases List.eq_nil_or_concat sI.toList with q | ⟨us, y, q⟩
              · rw [q] at hsl; simp at hsl
              · exact ⟨us, y, by simpa using q⟩
            have hsI : sI = (sus ++ [sy]).toArray := by rw [← hsus]
            have hsy : IsN sy e.k := by
              rw [hsus, List.reverse_cons, List.map_append] at s2
              have hl' := s2.length
              simp at hl'
              (refine Mine.e1a2 (s2.get (i := (r5.reverse.map (·.k)).length) (b := e.k) (by simp)) ?_; rintro z hz hr)
              rw [List.length_map, List.length_reverse, ← hl'] at hz
              simp at hz
              exact hz ▸ hr
            obtain ⟨ty, rfl⟩ := hsy
            have hsul : sus.length ≤ 1000 := by
              have : (sus ++ [Value.int (e.k : Int) ty]).length = (e :: r5).length := by rw [← hsus]; simpa using hsl
              simp at this hlen4; (exact Mine.o71 hlen4 this)
            rw [hsI] at s1 s2
            (refine Mine.e1a3 F4.n2s ?_; rintro kvs d1 d2 d3)
            (refine Mine.e1a3 d1.cls ?_; rintro oDx hoDx cDx _)
            have hSi : S ≠ e.it := ne_cls s1 hi' (by simp)
            have hTi : T ≠ e.it := ne_cls t1 hi' (by simp)
            have hDi : D₀ ≠ e.it := d1.ne hi' (by simp)
            have hDS : D₀ ≠ S := d1.ne s1 (by simp)
            have hDT : D₀ ≠ T := d1.ne t1 (by simp)
            have s23 : lk (Mine.st G₆ e.it oI') S = some (W.listOf (sus ++ [Value.int (e.k : Int) ty]).toArray n1) := lk_st_ne hSi s1
            -- del node2stacki[stack.pop()]
            refine wpAny_execs_cons (wpAny_Delete (wpAny_deleteEach_cons (wpAny_delete_Subscript (C23.name N4.n2s (MethodCall_ (C23.name N4.stack (C23.listMeth s23 PySem.F.slot_list_pop PySem.F.type_list_pop (callWith_method0 (C23.pop s23 (Mine.o16 hsul) fun h₂₅ C24 => ?_)))))))))
            have d24 : IsDict w (Mine.st (Mine.st G₆ e.it oI') S (W.listOf sus.toArray (n1 + 1))) D₀ kvs := d1.keep fun o ho => lk_st_ne hDS (lk_st_ne hDi ho)
            have hkl : kvs.length ≤ 1000 := by
              have := congrArg List.length d2
              simp at this hlen4; (exact Mine.o122 hlen4 this)
            have hkm : (valueAt kvs (e.k : Int)).isSome = true := by
              (refine Mine.e1a2 (valueAt_mem (kvs := kvs) (k := (e.k : Int)) (by rw [d2]; simp)) ?_; rintro kv _ q)
              rw [q]; rfl
            refine C24.delD d24 (Mine.o16 hkl) hkm fun h₂₆ tk₂₆ oD' C25 d25 => wpAny_deleteEach_nil ?_
            have t25 : lk (Mine.st (Mine.st (Mine.st G₆ e.it oI') S (W.listOf sus.toArray (n1 + 1))) D₀ oD') T = some (W.listOf (us ++ [Value.ref e.wr]).toArray n2) := lk_st_ne (fun q => hDT q.symm) (lk_st_ne (fun q => hST q.symm) (lk_st_ne hTi t1))
            -- itstack.pop()
            refine wpAny_execs_cons (wpAny_Expr_any (MethodCall_ (C25.name N4.itstack (C25.listMeth t25 PySem.F.slot_list_pop PySem.F.type_list_pop (callWith_method0 (C25.pop t25 (Mine.o16 hul) fun h₂₇ C26 => ?_))))))
            refine wpAny_execs_nil (wpAny_execs_nil ?_)
            have hall : ∀ x ∈ σ.su e.k, x ∈ fin4 := fun x hx => hein x (by rw [hpl, List.take_length]; exact hx)
            have k26 : ∀ c o, lk G₆ c = some o → c ≠ S → c ≠ T → c ≠ e.it → c ≠ D₀ → lk (Mine.st (Mine.st (Mine.st (Mine.st G₆ e.it oI') S (W.listOf sus.toArray (n1 + 1))) D₀ oD') T (W.listOf us.toArray (n2 + 1))) c = some o :=
              fun c o hc q1 q2 q3 q4 => lk_st_ne q2 (lk_st_ne q4 (lk_st_ne q1 (lk_st_ne q3 hc)))
            have F6 := F4.pop hS (E := E₀) hall s1 (by simpa using s2) t1 (by simpa using t2') d1 d2 d3 k26 (lk_st_ne hST (lk_st_ne (fun q => hDS q.symm) lk_st_eq)) lk_st_eq (d25.keep fun o ho => lk_st_ne hDT ho)
            refine ⟨b₄, _, _, _, _, r5.length, rfl, Tb₃.trans T₄, C26.unmark, by simp, N4, k26 _ _ hI4 (ne_cls hI4 s1 (by rw [hIc]; simp)) (ne_cls hI4 t1 (by rw [hIc]; simp)) (ne_cls hI4 hi' (by rw [hIc]; simp)) (ne_cls hI4 hoDx (by rw [hIc, cDx]; simp)), r5, fin4 ++ [e.k], F6, ?_, fun j hj => List.mem_append_left _ (hfin4 j hj), ?_, ?_, rfl⟩
            · exact Inn.pop ⟨hep, hein, heL⟩
            · rcases hi4 with q | q
              · exact .inl (List.mem_append_left _ q)
              · simp at q ⊢
                rcases q with q | q
                · exact .inl (.inr q)
                · exact .inr q
            · rw [← hused4]; simp [used, hpl]; (exact Mine.o133)
  · rintro b m₁ G₁ h₁₁ tk₁₁ Tb hZ7 C11
    obtain ⟨N1, fin, F1, hfin⟩ := hZ7
    refine wpAny_execs_cons (wpAny_Return_some (wpAny_Constant_none ⟨b, _, _, Tb, C11, fun h₀' T' C12 => retN h₀' _ _ _ T' C12 F1.keep ⟨fin, by simpa using F1.nd, fun v => ⟨fun q => F1.lt v (by simpa using q), fun q => hfin v (by simpa [nodeKvs] using q)⟩, F1.ok⟩⟩))
end
end Mine
end TFc4

section TLc1
open PySem PySem.W PyProof.Rows PySem.Calls
namespace Mine
set_option maxRecDepth 100000
def NsO (o : Obj) (m : Str → Option Value) : Prop := ∃ es ep, o.data = .dict es ep ∧ StrKeys es ∧ ∀ name, nsFind es name = m name
/-- what stood in the elder ledger, and all tuples, stay -/
def Upc (G₀ G G' : LedT) : Prop := ∀ a o, lk G a = some o → (lk G₀ a ≠ none ∨ ∃ its n, o = tupOf its n) → lk G' a = some o
theorem Upc.trans {G₀ G G' G'' : LedT} (x : Upc G₀ G G') (y : Upc G₀ G' G'') : Upc G₀ G G'' := fun a o h q => y a o (x a o h q) q
theorem Upc.st {G₀ G : LedT} {b : Addr} {x o' : Obj} (h0 : lk G₀ b = none) (e : lk G b = some x) (hx : ∀ its n, x ≠ tupOf its n) : Upc G₀ G (st G b o') := by
  intro a o ha hor
  refine lk_st_ne (fun q => ?_) ha
  subst q
  rcases hor with h | ⟨its, n, h⟩
  · exact h h0
  · rw [e] at ha; cases ha; exact hx its n h
theorem Upc.cons {G₀ G : LedT} {b : Addr} {o : Obj} (h : lk G b = none) : Upc G₀ G ((b, o) :: G) := fun _ _ ha _ => lk_cons_ne (lk_ne ha h) ha
section
variable {w : World} {A : Around} {env : Env} {h₀ : Heap} {m : Str → Option Value} {G : LedT} {hp : Heap} {g : Array GenState} {d : Drawn} {tk : Nat} {os : OsState} {Q E : Value → Shared → Prop}
/-- a turn of a comprehension has ended -/
def CStep (w : World) (A : Around) (env : Env) (h₀ : Heap) (m : Str → Option Value) (g : Array GenState) (d : Drawn) (os : OsState) (I D Lc : Addr) (oI oD oC : Obj) (J : List Value → LedT → Prop) (acc : List Value) (s : Shared) : Prop :=
  ∃ h' tk G', s = ⟨h', g, d, tk, os⟩ ∧ Cx w A env h₀ h' m G' ∧ lk G' I = some oI ∧ lk G' D = some oD ∧ lk G' Lc = some oC ∧ J acc G'
theorem Cx.ns (C : Cx w A env h₀ hp m G) {Lc : Addr} {oC : Obj} {mc : Str → Option Value} (h : lk G Lc = some oC) (hn : NsO oC mc) : hp.Ns Lc mc := by
  (refine Mine.e2a1 hn ?_; clear hn; rintro es ep r)
  exact ⟨oC, es, ep, C.at h, r⟩
theorem Cx.compLoop {elt iter : Expr} {x : Str} {px : Pos} {ifs : List Expr} {scope : Scope} {cl : List (Str × Addr)} {pos : Pos} {R : Result → Shared → Prop} {I D Lc : Addr} {fp : List Addr} {n : Nat} {Pv : Nat → Value → Prop} {St : Nat → Heap → Prop} {G₀ : LedT} {oC₀ : Obj} {mc₀ : Str → Option Value} {n₀ : Nat}
    (W : Walks P w A I fp [I] n Pv St) (J : Nat → List Value → LedT → Prop) (hn : n < 2 ^ 19)
    (hI : ∀ i h, St i h → ∃ o vs, h.get? I = some o ∧ o.data = .fields vs)
    (hfp : ∀ b ∈ fp, b = I ∨ ∃ ob, ∀ i acc G₁, J i acc G₁ → lk G₁ b = some ob)
    (hx : (compEnvC scope cl Lc env).kindOf x = some .local) (hkind : scope.kind = .function) (hI0 : lk G₀ I = none) (hD0 : lk G₀ D = none) (hL0 : lk G₀ Lc = none)
    (C : Cx w A env h₀ hp m G) (hJ : J 0 [] G) (hSt : St 0 hp) (hin : ∃ o, lk G I = some o) (hD : lk G D = some (listOf #[] n₀)) (hL : lk G Lc = some oC₀) (hLn : NsO oC₀ mc₀)
    (mono : ∀ i acc G₁ G₂, J i acc G₁ → Upc G₀ G₁ G₂ → J i acc G₂)
    (turn : ∀ i v acc mc G₁ h₁ tk₁ oI oC oD, i < n → Pv i v → acc.length ≤ i → J i acc G₁ → Cx w A env h₀ h₁ m G₁ → lk G₁ I = some oI → lk G₁ D = some oD → lk G₁ Lc = some oC → NsO oC mc → mc x = some v →
      wpAny (model P w) A (forIn ifs true fun c r => if r = true then do let ok ← isTrue c (compEnvC scope cl Lc env) (eval c (compEnvC scope cl Lc env)); pure (ForInStep.yield ok) else pure (ForInStep.yield r)) (fun ok s₃ =>
        if ok = true then wpAny (model P w) A (eval elt (compEnvC scope cl Lc env)) (fun y s₄ => CStep w A env h₀ m g d os I D Lc oI oD oC (J (i + 1)) (acc ++ [y]) s₄) (fun _ _ => False) s₃
        else CStep w A env h₀ m g d os I D Lc oI oD oC (J (i + 1)) acc s₃) (fun _ _ => False) ⟨h₁, g, d, tk₁, os⟩)
    (done : ∀ acc nn mc oC G₁ h₁ tk₁, J n acc G₁ → Cx w A env h₀ h₁ m G₁ → lk G₁ D = some (listOf acc.toArray nn) → lk G₁ Lc = some oC → NsO oC mc → R (.ok .next) ⟨h₁, g, d, tk₁, os⟩) :
    codeAny (model P w) A (.compLoop (.ListComp elt [⟨.Name x px, iter, ifs, 0⟩] scope pos) 0 (.ref I) (.ref D) (compEnvC scope cl Lc env)) R ⟨hp, g, d, tk, os⟩ := by
  refine codeAny_compLoop_tests (fun k s' => ∃ h' tk G' i acc nn mc oC, s' = ⟨h', g, d, tk, os⟩ ∧ Cx w A env h₀ h' m G' ∧ J i acc G' ∧ St i h' ∧ (∃ o, lk G' I = some o) ∧ lk G' D = some (listOf acc.toArray nn) ∧ lk G' Lc = some oC ∧ NsO oC mc ∧ acc.length ≤ i ∧ i ≤ n ∧ k = n + 1 - i) ?_ (n + 1)
    ⟨hp, tk, G, 0, [], n₀, mc₀, oC₀, rfl, C, hJ, hSt, hin, hD, hL, hLn, Nat.le_refl _, Nat.zero_le _, rfl⟩
  rintro k s' hZ1
  obtain ⟨h', tkx, G', i, acc, nn, mc, oC, rfl, C', hJ', hSt', ⟨o', ho'⟩, hD', hL', hLn', hacc, hi, rfl⟩ := hZ1
  have f' : ∃ vs, o'.data = .fields vs := by
    (refine Mine.e2a2 (hI _ _ hSt') ?_; rintro o vs e1 e2)
    have := C'.at ho'
    rw [e1] at this
    cases this
    exact ⟨vs, e2⟩
  obtain ⟨vs', hvs'⟩ := f'
  (refine Mine.e2a2 (id hLn') ?_; rintro esC epC hCd _)
  have hID : I ≠ D := fun q => by rw [q, hD'] at ho'; cases ho'; cases hvs'
  have hILc : I ≠ Lc := fun q => by rw [q, hL'] at ho'; cases ho'; rw [hCd] at hvs'; cases hvs'
  have hDL : D ≠ Lc := fun q => by rw [q, hL'] at hD'; cases hD'; cases hCd
  by_cases hlt : i < n
  · refine W.item i _ _ _ hlt hSt' fun v h₂ tk₂ hv hSt₂ hk => ?_
    (refine Mine.e2a2 (hI _ _ hSt₂) ?_; rintro o₂ vs₂ e1 e2)
    have C₂ := C'.keepBut (h' := h₂) (o' := o₂) ho' (fun b x hb e => hk b x (by simpa using hb) e) e1
    have L₂ : lk (Mine.st G' I o₂) Lc = some oC := lk_st_ne (fun q => hILc q.symm) hL'
    have D₂ : lk (Mine.st G' I o₂) D = some (listOf acc.toArray nn) := lk_st_ne (fun q => hID q.symm) hD'
    dsimp only
    refine wpAny_assign_Name (wpAny_storeName_local hx (C₂.ns L₂ hLn') (fun h₃ hn₃ hs₃ => ?_) (by simp [compEnvC, relabel, hkind]))
    (refine Mine.e3a2 hn₃ ?_; clear hn₃; rintro o₃ es₃ ep₃ ho₃ hn₃')
    have C₃ := C₂.upd L₂ hs₃ ho₃
    have U₃ : Upc G₀ G' (Mine.st (Mine.st G' I o₂) Lc o₃) := (Upc.st hI0 ho' fun its n q => by rw [q] at hvs'; cases hvs').trans (Upc.st hL0 L₂ fun its n q => by rw [q] at hCd; cases hCd)
    have I₃ : lk (Mine.st (Mine.st G' I o₂) Lc o₃) I = some o₂ := lk_st_ne hILc lk_st_eq
    have D₃ : lk (Mine.st (Mine.st G' I o₂) Lc o₃) D = some (listOf acc.toArray nn) := lk_st_ne hDL D₂
    refine wpAny_mono (turn i v acc _ _ h₃ _ o₂ o₃ _ hlt hv hacc (mono _ _ _ _ hJ' U₃) C₃ I₃ D₃ lk_st_eq ⟨es₃, ep₃, hn₃'⟩ (by simp)) (fun ok s₃ h₃ => ?_) fun _ _ z => z.elim
    have frame : ∀ {h₄ : Heap} {G₄ : LedT} {acc' : List Value}, Cx w A env h₀ h₄ m G₄ → lk G₄ I = some o₂ → J (i + 1) acc' G₄ → St (i + 1) h₄ := fun {h₄ G₄ acc'} C₄ I₄ J₄ => by
      refine W.frame _ _ _ hSt₂ fun b hb o hbo => ?_
      rcases hfp b hb with rfl | ⟨ob, hob⟩
      · rw [e1] at hbo; cases hbo; exact C₄.at I₄
      · have a1 := C₂.at (hob _ _ _ (mono _ _ _ _ hJ' (Upc.st (o' := o₂) hI0 ho' fun its n q => by rw [q] at hvs'; cases hvs')))
        rw [a1] at hbo; cases hbo
        exact C₄.at (hob _ _ _ J₄)
    cases ok with
    | false =>
      simp only [Bool.false_eq_true, if_false] at h₃ ⊢
      (refine Mine.e3a6 h₃ ?_; clear h₃; rintro h₄ tk₄ G₄ rfl C₄ I₄ D₄ L₄ J₄)
      exact ⟨n + 1 - (i + 1), by (exact Mine.o110 hi), h₄, tk₄, G₄, i + 1, acc, nn, _, o₃, rfl, C₄, J₄, frame C₄ I₄ J₄, ⟨_, I₄⟩, D₄, L₄, ⟨es₃, ep₃, hn₃'⟩, by (exact Mine.o268 hacc), by (exact Mine.o112 hlt), rfl⟩
    | true =>
      simp only [if_true] at h₃ ⊢
      refine wpAny_mono h₃ (fun y s₄ h₄ => ?_) fun _ _ z => z.elim
      (refine Mine.e3a6 h₄ ?_; clear h₄; rintro h₄ tk₄ G₄ rfl C₄ I₄ D₄ L₄ J₄)
      refine C₄.append D₄ (by simp; (exact Mine.o109 hn hacc hlt)) fun h₅ C₅ => ?_
      have I₅ : lk (Mine.st G₄ D (listOf (acc.toArray.push y) (nn + 1))) I = some o₂ := lk_st_ne hID I₄
      have J₅ := mono _ _ _ _ J₄ (Upc.st (o' := listOf (acc.toArray.push y) (nn + 1)) hD0 D₄ fun its n q => by simp at q)
      refine ⟨n + 1 - (i + 1), by (exact Mine.o110 hi), h₅, tk₄, _, i + 1, acc ++ [y], nn + 1, _, o₃, rfl, C₅, J₅, frame C₅ I₅ J₅, ⟨_, I₅⟩, ?_, lk_st_ne (fun q => hDL q.symm) L₄, ⟨es₃, ep₃, hn₃'⟩, by simp; (exact Mine.o111 hacc), by (exact Mine.o112 hlt), rfl⟩
      rw [lk_st_eq]; simp
  · have : i = n := Mine.o113 hi hlt
    subst this
    refine W.done _ _ _ hSt' fun h₂ tk₂ hk => ?_
    dsimp only
    have hk' : ∀ b o, b ≠ I → h'.get? b = some o → h₂.get? b = some o := fun b o hb e => hk b o (by simpa using hb) e
    have z := C'.N _ (lk_mem ho')
    refine done acc nn mc oC (rm G' I) h₂ tk₂ (mono _ _ _ _ hJ' fun a o ha hor => ?_) ⟨C'.B, ⟨?_, fun b x q => ?_, C'.F.above⟩, fun p hp => ?_, C'.D.rm, C'.X, C'.T, C'.hf, C'.hke⟩ ?_ ?_ hLn'
    · rw [lk_rm]
      · exact ha
      · intro q; subst q
        rcases hor with h | ⟨its, n, h⟩
        · exact h hI0
        · rw [ho'] at ha; cases ha; rw [h] at hvs'; cases hvs'
    · (refine Mine.e3a2 C'.F.ns ?_; rintro oL es ep hL r)
      exact ⟨oL, es, ep, hk' _ _ (fun q => z.2.1 q.symm) hL, r⟩
    · refine hk' b x (fun q => ?_) (C'.F.keep b x q)
      subst q; rw [z.2.2] at q; cases q
    · obtain ⟨h1, h2⟩ := mem_rm hp
      exact ⟨hk' _ _ h2 (C'.N p h1).1, (C'.N p h1).2⟩
    · rw [lk_rm (fun q => hID q.symm)]; exact hD'
    · rw [lk_rm (fun q => hILc q.symm)]; exact hL'
end
end Mine
end TLc1

section TLc2
open PySem PySem.W PyProof.Rows PySem.Calls
namespace Mine
set_option maxRecDepth 100000
section
variable {w : World} {A : Around} {env : Env} {h₀ : Heap} {m : Str → Option Value} {G : LedT} {hp : Heap} {g : Array GenState} {d : Drawn} {tk : Nat} {os : OsState} {Q E : Value → Shared → Prop}
/-- what a comprehension does behind its iterator -/
def CompK (w : World) (A : Around) (env : Env) (E : Value → Shared → Prop) (elt : Expr) (x : Str) (px : Pos) (iter : Expr) (ifs : List Expr) (scope : Scope) (cl : List (Str × Addr)) (pos : Pos) (RR : Value → Addr → Result → Shared → Prop) (it : Value) (s₂ : Shared) : Prop :=
  wpAny (model P w) A (newList []) (fun acc s₃ => wpAny (model P w) A (newFunctionEnv scope env.globals cl [] env.qual none .none (some env)) (fun cenv s₄ =>
      codeAny (model P w) A (.compStart (.ListComp elt [⟨.Name x px, iter, ifs, 0⟩] scope pos) 0 it acc { cenv with scope := relabel scope env }) (RR acc cenv.locals) s₄) E s₃) E s₂
/-- a turn of a comprehension -/
def CTurn (w : World) (A : Around) (env : Env) (h₀ : Heap) (m : Str → Option Value) (g : Array GenState) (d : Drawn) (os : OsState) (elt : Expr) (ifs : List Expr) (cenv : Env) (I D Lc : Addr) (oI oD oC : Obj) (J : List Value → LedT → Prop) (acc : List Value) (s : Shared) : Prop :=
  wpAny (model P w) A (forIn ifs true fun c r => if r = true then do let ok ← isTrue c cenv (eval c cenv); pure (ForInStep.yield ok) else pure (ForInStep.yield r)) (fun ok s₃ =>
    if ok = true then wpAny (model P w) A (eval elt cenv) (fun y s₄ => CStep w A env h₀ m g d os I D Lc oI oD oC J (acc ++ [y]) s₄) (fun _ _ => False) s₃
    else CStep w A env h₀ m g d os I D Lc oI oD oC J acc s₃) (fun _ _ => False) s
theorem CTurn.all {elt : Expr} {cenv : Env} {I D Lc : Addr} {oI oD oC : Obj} {J : List Value → LedT → Prop} {acc : List Value} {s : Shared}
    (h : wpAny (model P w) A (eval elt cenv) (fun y s₄ => CStep w A env h₀ m g d os I D Lc oI oD oC J (acc ++ [y]) s₄) (fun _ _ => False) s) : CTurn w A env h₀ m g d os elt [] cenv I D Lc oI oD oC J acc s := by
  unfold CTurn
  refine wpAny_of_eq (a := true) (by rfl) ?_
  rw [if_pos rfl]; exact h
theorem CTurn.one {elt c : Expr} {cenv : Env} {I D Lc : Addr} {oI oD oC : Obj} {J : List Value → LedT → Prop} {acc : List Value} {s : Shared}
    (h : wpAny (model P w) A (isTrue c cenv (eval c cenv)) (fun ok s₃ => if ok = true then wpAny (model P w) A (eval elt cenv) (fun y s₄ => CStep w A env h₀ m g d os I D Lc oI oD oC J (acc ++ [y]) s₄) (fun _ _ => False) s₃
      else CStep w A env h₀ m g d os I D Lc oI oD oC J acc s₃) (fun _ _ => False) s) : CTurn w A env h₀ m g d os elt [c] cenv I D Lc oI oD oC J acc s := by
  unfold CTurn
  simp only [List.forIn_cons, List.forIn_nil, if_true]
  refine wpAny_bind (wpAny_bind (wpAny_mono h (fun ok s₃ h₃ => wpAny_pure (wpAny_pure h₃)) fun _ _ z => z))
theorem Cx.drop (C : Cx w A env h₀ hp m G) {b : Addr} {o : Obj} {h' : Heap} (e : lk G b = some o) (hs : Heap.SameBut b hp h') : Cx w A env h₀ h' m (rm G b) := by
  obtain ⟨B, F, N, D, X, T, hf, hke⟩ := C
  have z := N _ (lk_mem e)
  refine ⟨B, F.change hs z.2.1 z.2.2, fun p hp => ?_, D.rm, X, T, hf, hke⟩
  obtain ⟨h1, h2⟩ := mem_rm hp
  exact ⟨hs.extBut _ _ h2 (N p h1).1, (N p h1).2⟩
theorem Cx.compCore {elt iter : Expr} {x : Str} {px : Pos} {ifs : List Expr} {scope : Scope} {cl : List (Str × Addr)} {pos : Pos} {RR : Value → Addr → Result → Shared → Prop} {I : Addr} {fp : List Addr} {n : Nat} {Pv : Nat → Value → Prop} {St : Nat → Heap → Prop} {G₀ : LedT}
    (W : Walks P w A I fp [I] n Pv St) (J : Nat → List Value → LedT → Prop) (hn : n < 2 ^ 19)
    (hI : ∀ i h, St i h → ∃ o vs, h.get? I = some o ∧ o.data = .fields vs)
    (hfp : ∀ b ∈ fp, b = I ∨ ∃ ob, ∀ i acc G₁, J i acc G₁ → lk G₁ b = some ob)
    (hx : scope.names.lookup x = some .local) (hcell : ∀ y ∈ scope.names, y.2 ≠ .cell) (hkind : scope.kind = .function) (hI0 : lk G₀ I = none) (hsub : ∀ b o, lk G₀ b = some o → lk G b = some o)
    (C : Cx w A env h₀ hp m G) (hJ : J 0 [] G) (hSt : St 0 hp) (hin : ∃ o, lk G I = some o)
    (mono : ∀ i acc G₁ G₂, J i acc G₁ → Upc G₀ G₁ G₂ → J i acc G₂)
    (turn : ∀ D Lc i v acc mc G₁ h₁ tk₁ oI oC oD, i < n → Pv i v → acc.length ≤ i → J i acc G₁ → Cx w A env h₀ h₁ m G₁ → lk G₁ I = some oI → lk G₁ D = some oD → lk G₁ Lc = some oC → NsO oC mc → mc x = some v →
      CTurn w A env h₀ m g d os elt ifs (compEnvC scope cl Lc env) I D Lc oI oD oC (J (i + 1)) acc ⟨h₁, g, d, tk₁, os⟩)
    (done : ∀ D Lc acc nn mc oC G₁ h₁ tk₁, lk G₀ D = none → lk G₀ Lc = none → D ≠ Lc → J n acc G₁ → Cx w A env h₀ h₁ m G₁ → lk G₁ D = some (listOf acc.toArray nn) → lk G₁ Lc = some oC → NsO oC mc → RR (.ref D) Lc (.ok .next) ⟨h₁, g, d, tk₁, os⟩) :
    CompK w A env E elt x px iter ifs scope cl pos RR (.ref I) ⟨hp, g, d, tk, os⟩ := by
  unfold CompK
  refine wpAny_newObj_type ?_
  have C1 := C.push { cls := .type "list", dict := none, data := .seq ([] : List Value).toArray } rfl
  refine wpAny_newFunctionEnv hcell (by intro y hy; simp at hy) (fun h₁ hns₁ hsb₁ => ?_) hkind
  dsimp only at hns₁ hsb₁ ⊢
  have C2 := C1.push { cls := .type (if (some env).isSome = true then "dict" else "frame"), data := .dict #[] } rfl
  (refine Mine.e3a2 hns₁ ?_; clear hns₁; rintro oC es ep hoC hnC)
  have C3 := C2.upd lk_cons_eq hsb₁ hoC
  have hD0 := C.fresh
  have hL0 := C1.fresh
  have hDL : hp.objs.size ≠ (hp.push { cls := .type "list", dict := none, data := .seq ([] : List Value).toArray }).objs.size := by rw [Heap.size_push]; exact Nat.ne_of_lt (Nat.lt_succ_self _)
  have non : ∀ {b : Addr} {GG : LedT}, (∀ c o, lk G₀ c = some o → lk GG c = some o) → lk GG b = none → lk G₀ b = none := fun {b GG} h1 h2 => by
    cases q : lk G₀ b with
    | none => rfl
    | some o => rw [h1 b o q] at h2; cases h2
  have hD00 : lk G₀ hp.objs.size = none := non hsub hD0
  have hL00 := non (fun c o hc => lk_fc (o' := { cls := .type "list", dict := none, data := .seq ([] : List Value).toArray }) hD0 (hsub c o hc)) hL0
  generalize hLc : (hp.push { cls := .type "list", dict := none, data := .seq ([] : List Value).toArray }).objs.size = Lc at *
  have keep3 : ∀ c o, lk G c = some o → lk (Mine.st ((Lc, { cls := .type (if (some env).isSome = true then "dict" else "frame"), data := .dict #[] }) :: (hp.objs.size, { cls := .type "list", dict := none, data := .seq ([] : List Value).toArray }) :: G) Lc oC) c = some o := fun c o hc => by
    have h1 := lk_fc (o' := { cls := .type "list", dict := none, data := .seq ([] : List Value).toArray }) hD0 hc
    exact lk_st_ne (lk_ne h1 hL0) (lk_fc hL0 h1)
  have D3 : lk (Mine.st ((Lc, { cls := .type (if (some env).isSome = true then "dict" else "frame"), data := .dict #[] }) :: (hp.objs.size, { cls := .type "list", dict := none, data := .seq ([] : List Value).toArray }) :: G) Lc oC) hp.objs.size = some (listOf #[] 0) := lk_st_ne hDL (lk_fc hL0 lk_cons_eq)
  obtain ⟨oI, hoI⟩ := hin
  have hJ3 := mono 0 [] G _ hJ (fun a o ha _ => keep3 a o ha)
  have hSt3 : St 0 h₁ := W.frame _ _ _ hSt fun b hb o hbo => by
    rcases hfp b hb with rfl | ⟨ob, hob⟩
    · have := C.at hoI; rw [hbo] at this; cases this; exact C3.at (keep3 _ _ hoI)
    · have := C.at (hob _ _ _ hJ); rw [hbo] at this; cases this; exact C3.at (hob _ _ _ hJ3)
  have loop : codeAny (model P w) A (.compLoop (.ListComp elt [⟨.Name x px, iter, ifs, 0⟩] scope pos) 0 (.ref I) (.ref hp.objs.size) (compEnvC scope cl Lc env)) (RR (.ref hp.objs.size) Lc) ⟨h₁, g, d, tk, os⟩ :=
    Cx.compLoop W J hn hI hfp (lookup_relabel_local hx) hkind hI0 hD00 hL00 C3 hJ3 hSt3 ⟨oI, keep3 _ _ hoI⟩ D3 lk_st_eq ⟨es, ep, hnC⟩ mono (turn hp.objs.size Lc) (fun acc nn mc oC G₁ h₁ tk₁ q1 q2 q3 q4 q5 => done _ Lc acc nn mc oC G₁ h₁ tk₁ hD00 hL00 hDL q1 q2 q3 q4 q5)
  exact codeAny_compStart_list loop (W.self 0 _ _ _ hSt3 loop)
/-- the value of a comprehension -/
theorem comp_ev {elt iter : Expr} {x : Str} {px : Pos} {ifs : List Expr} {scope : Scope} {cl : List (Str × Addr)} {pos : Pos} {s : Shared} (hclos : closureFor scope env = pure cl) (hkind : scope.kind = .function)
    (hnames : ∀ y ∈ scope.names, y.2 = .local → scope.names.lookup y.1 = some .local)
    (h : wpAny (model P w) A (eval iter env) (fun xv s₁ => wpAny (model P w) A (pyIter xv) (CompK w A env E elt x px iter ifs scope cl pos (compPost (model P w) A E none Q)) E s₁) E s)
    (hs : ∀ x, foldedSetIterable iter env x = pure x := by intro _; rfl) :
    wpAny (model P w) A (eval (.ListComp elt [⟨.Name x px, iter, ifs, 0⟩] scope pos) env) Q E s := by
  rw [eval_ListComp]
  exact wpAny_comprehension_free (use := none) rfl hs hclos hkind hnames h
theorem comp_asg {elt iter : Expr} {x y : Str} {px py : Pos} {ifs : List Expr} {scope : Scope} {cl : List (Str × Addr)} {pos spos : Pos} {s : Shared} {Q : Flow → Shared → Prop}
    (hsw : swapsWith (.ListComp elt [⟨.Name x px, iter, ifs, 0⟩] scope pos) (some (.Name y py)) spos.line env = pure true) (hclos : closureFor scope env = pure cl) (hkind : scope.kind = .function)
    (hnames : ∀ y ∈ scope.names, y.2 = .local → scope.names.lookup y.1 = some .local)
    (h : wpAny (model P w) A (eval iter env) (fun xv s₁ => wpAny (model P w) A (pyIter xv) (CompK w A env E elt x px iter ifs scope cl pos (compPost (model P w) A E (some (assign (.Name y py) env)) (fun _ s' => Q .next s'))) E s₁) E s)
    (hs : ∀ x, foldedSetIterable iter env x = pure x := by intro _; rfl) :
    wpAny (model P w) A (exec (.Assign [.Name y py] (.ListComp elt [⟨.Name x px, iter, ifs, 0⟩] scope pos) spos) env) Q E s := by
  rw [exec_Assign_Name_used _ _ _ _ hsw]
  refine wpAny_bind (wpAny_standAt (wpAny_bind ?_))
  show wpAny _ A (do let _ ← comprehension (.ListComp elt [⟨.Name x px, iter, ifs, 0⟩] scope pos) scope env _ (newList []) false (eval iter env) (some (assign (.Name y py) env))) _ _ s
  exact wpAny_bind (wpAny_mono (wpAny_comprehension_free (use := some (assign (.Name y py) env)) (Q := fun _ s' => Q .next s') rfl hs hclos hkind hnames h) (fun _ s' hq => wpAny_pure (wpAny_pure hq)) fun _ _ e => e)
/-- the comprehension's end, as a value -/
theorem Cx.endV (C : Cx w A env h₀ hp m G) {Lc : Addr} {oC : Obj} {mc : Str → Option Value} {v : Value} (hL : lk G Lc = some oC) (hn : NsO oC mc) (h : ∀ h', Cx w A env h₀ h' m (rm G Lc) → Q v ⟨h', g, d, tk, os⟩) : compPost (model P w) A E none Q v Lc (.ok .next) ⟨hp, g, d, tk, os⟩ :=
  ⟨mc, C.ns hL hn, fun h' hs => h h' (C.drop hL hs)⟩
/-- names within a comprehension -/
theorem Cx.cname (C : Cx w A env h₀ hp m G) {scope : Scope} {cl : List (Str × Addr)} {Lc : Addr} {oC : Obj} {mc : Str → Option Value} {x : Str} {pos : Pos} {v : Value} (hL : lk G Lc = some oC) (hn : NsO oC mc) (hv : mc x = some v) (h : Q v ⟨hp, g, d, tk, os⟩)
    (hl : (compEnvC scope cl Lc env).kindOf x = some .local := by rfl) (hk : (compEnvC scope cl Lc env).scope.kind = .function := by rfl) (hd : (x == ("__debug__" : Str)) = false := by decide) :
    wpAny (model P w) A (eval (.Name x pos) (compEnvC scope cl Lc env)) Q E ⟨hp, g, d, tk, os⟩ :=
  wpAny_Name (wpAny_loadName_local hk hl (C.ns hL hn) hv h) hd
end
end Mine
end TLc2

section TLc3
open PySem PySem.W PyProof.Rows PySem.Calls
namespace Mine
set_option maxRecDepth 100000
section
variable {w : World} {A : Around} {env : Env} {h₀ : Heap} {m : Str → Option Value} {G : LedT} {hp : Heap} {g : Array GenState} {d : Drawn} {tk : Nat} {os : OsState} {Q E : Value → Shared → Prop}
theorem Cx.comp_list {elt iter : Expr} {x : Str} {px : Pos} {ifs : List Expr} {scope : Scope} {cl : List (Str × Addr)} {pos : Pos} {RR : Value → Addr → Result → Shared → Prop} {l : Addr} {its : Array Value} {nl : Nat}
    (C : Cx w A env h₀ hp m G) (J : Nat → List Value → LedT → Prop) (hh : A.handled = none) (hn : its.size < 2 ^ 19) (hl : ∀ i acc G₁, J i acc G₁ → lk G₁ l = some (listOf its nl))
    (hx : scope.names.lookup x = some .local) (hcell : ∀ y ∈ scope.names, y.2 ≠ .cell) (hkind : scope.kind = .function) (hJ : J 0 [] G)
    (mono : ∀ i acc G₁ G₂, J i acc G₁ → Upc G G₁ G₂ → J i acc G₂)
    (turn : ∀ I D Lc i v acc mc G₁ h₁ tk₁ oI oC oD, its.toList[i]? = some v → acc.length ≤ i → J i acc G₁ → Cx w A env h₀ h₁ m G₁ → lk G₁ I = some oI → lk G₁ D = some oD → lk G₁ Lc = some oC → NsO oC mc → mc x = some v →
      CTurn w A env h₀ m g d os elt ifs (compEnvC scope cl Lc env) I D Lc oI oD oC (J (i + 1)) acc ⟨h₁, g, d, tk₁, os⟩)
    (done : ∀ D Lc acc nn mc oC G₁ h₁ tk₁, lk G D = none → lk G Lc = none → D ≠ Lc → J its.size acc G₁ → Cx w A env h₀ h₁ m G₁ → lk G₁ D = some (listOf acc.toArray nn) → lk G₁ Lc = some oC → NsO oC mc → RR (.ref D) Lc (.ok .next) ⟨h₁, g, d, tk₁, os⟩) :
    wpAny (model P w) A (pyIter (.ref l)) (CompK w A env E elt x px iter ifs scope cl pos RR) E ⟨hp, g, d, tk, os⟩ := by
  have hl0 := hl _ _ _ hJ
  refine wpAny_pyIter_list (C.isList hl0) ?_
  have hne : l ≠ hp.objs.size := Nat.ne_of_lt (Heap.lt_size (C.at hl0))
  have W := Walks.list (prog := P) (w := w) hh hp.objs.size l hne its
  have C' := C.push { cls := .type "list_iterator", data := .fields #[.ref l, .int 0 0] } rfl
  refine Cx.compCore (G₀ := G) W J hn (fun i h st => ?_) (fun b hb => ?_) hx hcell hkind C.fresh (fun b o hb => lk_fc C.fresh hb) C' (mono _ _ _ _ hJ (Upc.cons C.fresh)) ⟨⟨_, Heap.get?_push_size _ rfl, rfl, rfl⟩, C'.isList (lk_cons_ne hne hl0)⟩ ⟨_, lk_cons_eq⟩ mono
    (fun D Lc i v acc mc G₁ h₁ tk₁ oI oC oD hi hv => turn _ D Lc i v acc mc G₁ h₁ tk₁ oI oC oD (by simpa using hv)) done
  · obtain ⟨⟨o, ho, _, hd⟩, _⟩ := st
    exact ⟨o, _, ho, hd⟩
  · rcases List.mem_cons.mp hb with rfl | hb
    · exact .inl rfl
    · rw [List.mem_singleton.mp hb]; exact .inr ⟨_, hl⟩
theorem Cx.comp_range {elt iter : Expr} {x : Str} {px : Pos} {ifs : List Expr} {scope : Scope} {cl : List (Str × Addr)} {pos : Pos} {RR : Value → Addr → Result → Shared → Prop} {r : Addr} {n : Nat} {t u v : Tok}
    (C : Cx w A env h₀ hp m G) (J : Nat → List Value → LedT → Prop) (hh : A.handled = none) (hn : n < 2 ^ 19) (hr : IsRange hp r 0 (n : Int) 1 t u v)
    (hx : scope.names.lookup x = some .local) (hcell : ∀ y ∈ scope.names, y.2 ≠ .cell) (hkind : scope.kind = .function) (hJ : J 0 [] G)
    (mono : ∀ i acc G₁ G₂, J i acc G₁ → Upc G G₁ G₂ → J i acc G₂)
    (turn : ∀ I D Lc i tv acc mc G₁ h₁ tk₁ oI oC oD, i < n → acc.length ≤ i → J i acc G₁ → Cx w A env h₀ h₁ m G₁ → lk G₁ I = some oI → lk G₁ D = some oD → lk G₁ Lc = some oC → NsO oC mc → mc x = some (.int (i : Int) tv) →
      CTurn w A env h₀ m g d os elt ifs (compEnvC scope cl Lc env) I D Lc oI oD oC (J (i + 1)) acc ⟨h₁, g, d, tk₁, os⟩)
    (done : ∀ D Lc acc nn mc oC G₁ h₁ tk₁, lk G D = none → lk G Lc = none → D ≠ Lc → J n acc G₁ → Cx w A env h₀ h₁ m G₁ → lk G₁ D = some (listOf acc.toArray nn) → lk G₁ Lc = some oC → NsO oC mc → RR (.ref D) Lc (.ok .next) ⟨h₁, g, d, tk₁, os⟩) :
    wpAny (model P w) A (pyIter (.ref r)) (CompK w A env E elt x px iter ifs scope cl pos RR) E ⟨hp, g, d, tk, os⟩ := by
  have hsz : Builtin.Range.rangeSize 0 (n : Int) 1 = n := by simp [Builtin.Range.rangeSize]; omega
  have hsm : Builtin.Range.small 0 (n : Int) 1 = true := by
    exact small_one (by omega) (by omega) (by omega) (by omega)
  refine wpAny_pyIter_range hr hsm ?_
  rw [hsz]
  have W := Walks.range (prog := P) (w := w) hh hp.objs.size 0 1 n
  have C' := C.push { cls := .type "range_iterator", data := .fields #[rawInt 0, rawInt n, rawInt 1] } rfl
  refine Cx.compCore (G₀ := G) W J hn (fun i h st => ⟨_, _, st, rfl⟩) (fun b hb => .inl (List.mem_singleton.mp hb)) hx hcell hkind C.fresh (fun b o hb => lk_fc C.fresh hb) C' (mono _ _ _ _ hJ (Upc.cons C.fresh)) ?_ ⟨_, lk_cons_eq⟩ mono
    (fun D Lc i v acc mc G₁ h₁ tk₁ oI oC oD hi hv q1 q2 q3 q4 q5 q6 q7 q8 => ?_) done
  · show IsRangeIter _ _ _ _ _
    unfold IsRangeIter
    rw [C'.at lk_cons_eq]
    simp [rawInt]
  · obtain ⟨tv, rfl⟩ := hv
    exact turn _ D Lc i tv acc mc G₁ h₁ tk₁ oI oC oD hi q1 q2 q3 q4 q5 q6 q7 (by simpa using q8)
theorem Cx.comp_dictK {elt iter : Expr} {x : Str} {px : Pos} {ifs : List Expr} {scope : Scope} {cl : List (Str × Addr)} {pos : Pos} {RR : Value → Addr → Result → Shared → Prop} {a : Addr} {kvs : List (Int × Value)}
    (C : Cx w A env h₀ hp m G) (J : Nat → List Value → LedT → Prop) (hh : A.handled = none) (hn : kvs.length < 2 ^ 19) (hd : IsDict w G a kvs) (hl : ∀ i acc G₁, J i acc G₁ → lk G₁ a = lk G a)
    (hx : scope.names.lookup x = some .local) (hcell : ∀ y ∈ scope.names, y.2 ≠ .cell) (hkind : scope.kind = .function) (hJ : J 0 [] G)
    (mono : ∀ i acc G₁ G₂, J i acc G₁ → Upc G G₁ G₂ → J i acc G₂)
    (turn : ∀ I D Lc i k v tv acc mc G₁ h₁ tk₁ oI oC oD, kvs[i]? = some (k, v) → acc.length ≤ i → J i acc G₁ → Cx w A env h₀ h₁ m G₁ → lk G₁ I = some oI → lk G₁ D = some oD → lk G₁ Lc = some oC → NsO oC mc → mc x = some (.int k tv) →
      CTurn w A env h₀ m g d os elt ifs (compEnvC scope cl Lc env) I D Lc oI oD oC (J (i + 1)) acc ⟨h₁, g, d, tk₁, os⟩)
    (done : ∀ D Lc acc nn mc oC G₁ h₁ tk₁, lk G D = none → lk G Lc = none → D ≠ Lc → J kvs.length acc G₁ → Cx w A env h₀ h₁ m G₁ → lk G₁ D = some (listOf acc.toArray nn) → lk G₁ Lc = some oC → NsO oC mc → RR (.ref D) Lc (.ok .next) ⟨h₁, g, d, tk₁, os⟩) :
    wpAny (model P w) A (pyIter (.ref a)) (CompK w A env E elt x px iter ifs scope cl pos RR) E ⟨hp, g, d, tk, os⟩ := by
  obtain ⟨lo, o, ho, hd'⟩ := id hd
  obtain ⟨ep, ha⟩ := KdkAt.of hd'
  refine wpAny_pyIter_dict lo (ha.dictAt (C.at ho)) ?_
  have hne : a ≠ hp.objs.size := Nat.ne_of_lt (Heap.lt_size (C.at ho))
  have W := Walks.dictKeys (prog := P) (w := w) (knd := intKind P w) hh hp.objs.size a hne kvs ep
  have C' := C.push { cls := .type "dict_keyiterator", data := .fields #[.ref a, .int 0 0, .int kvs.length 0, .int ep 0] } rfl
  refine Cx.compCore (G₀ := G) W J hn (fun i h st => ?_) (fun b hb => ?_) hx hcell hkind C.fresh (fun b o hb => lk_fc C.fresh hb) C' (mono _ _ _ _ hJ (Upc.cons C.fresh)) ⟨⟨_, Heap.get?_push_size _ rfl, rfl, rfl⟩, ha.dictAt (C'.at (lk_cons_ne hne ho))⟩ ⟨_, lk_cons_eq⟩ mono
    (fun D Lc i v acc mc G₁ h₁ tk₁ oI oC oD hi hv q1 q2 q3 q4 q5 q6 q7 q8 => ?_) done
  · obtain ⟨⟨o, ho, _, hd⟩, _⟩ := st
    exact ⟨o, _, ho, hd⟩
  · rcases List.mem_cons.mp hb with rfl | hb
    · exact .inl rfl
    · rw [List.mem_singleton.mp hb]; exact .inr ⟨o, fun i acc G₁ hj => (hl i acc G₁ hj).trans ho⟩
  · (refine Mine.e2a2 hv ?_; clear hv; rintro k y hk hv)
    obtain ⟨t, rfl⟩ := Value.isInt_shape hv
    exact turn _ D Lc i k y t acc mc G₁ h₁ tk₁ oI oC oD hk q1 q2 q3 q4 q5 q6 q7 q8
end
end Mine
end TLc3

section TPr1
open PySem PySem.W PyProof.Rows PySem.Calls
namespace Mine
set_option maxRecDepth 100000
set_option maxHeartbeats 8000000
section
variable {w : World} {A : Around} {env : Env} {h₀ : Heap} {m : Str → Option Value} {G : LedT} {hp : Heap} {g : Array GenState} {d : Drawn} {tk : Nat} {os : OsState} {Q E : Value → Shared → Prop} {a : SAd} {σ : Srt}
theorem Cx.valuesM (C : Cx w A env h₀ hp m G) {a : Addr} {kvs : List (Int × Value)} {pl : Sem Bool} {Q : Value × List Value → Shared → Prop} (hd : IsDict w G a kvs) (h : Q (.builtin "dict.values", [.ref a]) ⟨hp, g, d, tk, os⟩) : wpAny (model P w) A (getMethod (.ref a) "values" pl) Q E ⟨hp, g, d, tk, os⟩ :=
  getMethod_builtin (C.dictAt hd).typeIs PySem.F.plainAttrs_dict PySem.F.slot_dict_values PySem.F.type_dict_values (C.dictAt hd).mapOf.noDict h
abbrev valsOf (a : Addr) : Obj := { cls := .type "dict_values", data := .fields #[.ref a] }
theorem Cx.values (C : Cx w A env h₀ hp m G) {a : Addr} {kvs : List (Int × Value)} (hd : IsDict w G a kvs) (h : ∀ v h', Cx w A env h₀ h' m ((v, valsOf a) :: G) → lk G v = none → Q (.ref v) ⟨h', g, d, tk, os⟩) : wpAny (model P w) A (call (.builtin "dict.values") [.ref a]) Q E ⟨hp, g, d, tk, os⟩ := by
  obtain ⟨lo, o, ho, hd'⟩ := id hd
  exact kdl_view_values C.F C.N (lk_mem ho) hd' lo fun D h' F' N' lt => h D h' (C.of F' N' (C.D.cons lt)) (lk_fresh lt)
theorem Cx.comp_dictV {elt iter : Expr} {x : Str} {px : Pos} {ifs : List Expr} {scope : Scope} {cl : List (Str × Addr)} {pos : Pos} {RR : Value → Addr → Result → Shared → Prop} {a v : Addr} {kvs : List (Int × Value)}
    (C : Cx w A env h₀ hp m G) (J : Nat → List Value → LedT → Prop) (hh : A.handled = none) (hn : kvs.length < 2 ^ 19) (hd : IsDict w G a kvs) (hv : lk G v = some (valsOf a)) (hl : ∀ i acc G₁, J i acc G₁ → lk G₁ a = lk G a)
    (hx : scope.names.lookup x = some .local) (hcell : ∀ y ∈ scope.names, y.2 ≠ .cell) (hkind : scope.kind = .function) (hJ : J 0 [] G)
    (mono : ∀ i acc G₁ G₂, J i acc G₁ → Upc G G₁ G₂ → J i acc G₂)
    (turn : ∀ I D Lc i k v acc mc G₁ h₁ tk₁ oI oC oD, kvs[i]? = some (k, v) → acc.length ≤ i → J i acc G₁ → Cx w A env h₀ h₁ m G₁ → lk G₁ I = some oI → lk G₁ D = some oD → lk G₁ Lc = some oC → NsO oC mc → mc x = some v →
      CTurn w A env h₀ m g d os elt ifs (compEnvC scope cl Lc env) I D Lc oI oD oC (J (i + 1)) acc ⟨h₁, g, d, tk₁, os⟩)
    (done : ∀ D Lc acc nn mc oC G₁ h₁ tk₁, lk G D = none → lk G Lc = none → D ≠ Lc → J kvs.length acc G₁ → Cx w A env h₀ h₁ m G₁ → lk G₁ D = some (listOf acc.toArray nn) → lk G₁ Lc = some oC → NsO oC mc → RR (.ref D) Lc (.ok .next) ⟨h₁, g, d, tk₁, os⟩) :
    wpAny (model P w) A (pyIter (.ref v)) (CompK w A env E elt x px iter ifs scope cl pos RR) E ⟨hp, g, d, tk, os⟩ := by
  obtain ⟨lo, o, ho, hd'⟩ := id hd
  obtain ⟨ep, ha⟩ := KdkAt.of hd'
  refine wpAny_pyIter_values ⟨_, C.at hv, rfl, rfl⟩ (ha.dictAt (C.at ho)) ?_
  have hne : a ≠ hp.objs.size := Nat.ne_of_lt (Heap.lt_size (C.at ho))
  have W := Walks.dictValues (prog := P) (w := w) (knd := intKind P w) hh hp.objs.size a hne kvs ep
  have C' := C.push { cls := .type "dict_valueiterator", data := .fields #[.ref a, .int 0 0, .int kvs.length 0, .int ep 0] } rfl
  refine Cx.compCore (G₀ := G) W J hn (fun i h st => ?_) (fun b hb => ?_) hx hcell hkind C.fresh (fun b o hb => lk_fc C.fresh hb) C' (mono _ _ _ _ hJ (Upc.cons C.fresh)) ⟨⟨_, Heap.get?_push_size _ rfl, rfl, rfl⟩, ha.dictAt (C'.at (lk_cons_ne hne ho))⟩ ⟨_, lk_cons_eq⟩ mono
    (fun D Lc i v acc mc G₁ h₁ tk₁ oI oC oD hi hv q1 q2 q3 q4 q5 q6 q7 q8 => ?_) done
  · obtain ⟨⟨o, ho, _, hd⟩, _⟩ := st
    exact ⟨o, _, ho, hd⟩
  · rcases List.mem_cons.mp hb with rfl | hb
    · exact .inl rfl
    · rw [List.mem_singleton.mp hb]; exact .inr ⟨o, fun i acc G₁ hj => (hl i acc G₁ hj).trans ho⟩
  · obtain ⟨k, hk⟩ := hv
    exact turn _ D Lc i k v acc mc G₁ h₁ tk₁ oI oC oD hk q1 q2 q3 q4 q5 q6 q7 q8
noncomputable def rdy0 (σ : Srt) : List Nat := (List.range σ.n).filter fun k => decide (σ.np k = 0)
noncomputable def Srt.prep (σ : Srt) : Srt := { σ with ready := some (rdy0 σ) }
theorem SorterAt.prep {G' : LedT} {R : Addr} {its : Array Value} {n : Nat} {h1 h2 h3 h4 : Int} {t1 t2 t3 t4 t5 t6 : Tok} (h : SorterAt w G a σ) (hR : lk G' R = some (listOf its n)) (hA : All2 IsN its.toList (rdy0 σ)) (hf : lk G R = none)
    (hD : lk G' a.dS = some (sDict { a with R := R } (.ref R) σ.po σ.nf h1 h2 h3 h4 t1 t2 t3 t4 t5 t6)) (k : ∀ b o, lk G b = some o → b ≠ a.dS → lk G' b = some o) : SorterAt w G' { a with R := R } σ.prep := by
  obtain ⟨g1, ⟨x1, x2, x3, x4, y1, y2, y3, y4, y5, y6, g2⟩, g3, g4, g5, g6, g7, g8, g9⟩ := h
  refine ⟨k _ _ g1 (ne_cls g1 g2 (by simp)), ⟨_, _, _, _, _, _, _, _, _, _, hD⟩, fun l hl => ?_, g4.keep fun o ho => k _ _ ho g5, g5, fun j hj => ?_, g7, g8, fun _ j hj q => ?_⟩
  · cases hl; exact ⟨its, n, hR, hA⟩
  · obtain ⟨⟨v1, v2, e1⟩, ⟨od, e2, e5⟩, its', n', e3, e4⟩ := g6 j hj
    refine ⟨⟨v1, v2, k _ _ e1 (ne_cls e1 g2 (by simp))⟩, ?_, its', n', k _ _ e3 (ne_cls e3 g2 (by simp)), e4⟩
    by_cases q : a.D j = a.dS
    · exact ⟨_, by rw [show ({ a with R := R } : SAd).D j = a.dS from q]; exact hD, by simp⟩
    · exact ⟨od, k _ _ e2 q, e5⟩
  · obtain ⟨_, _, its', n', e3, _⟩ := g6 j hj
    have : lk G R = some (listOf its' n') := by rw [show R = a.Su j from q]; exact e3
    rw [hf] at this; cases this
end
end Mine
end TPr1

section TPr2
open PySem PySem.W PyProof.Rows PySem.Calls
namespace Mine
set_option maxRecDepth 100000
set_option maxHeartbeats 8000000
theorem exc55 (w : World) : excIn (Mine.hd.heap_1 w.params) 55 [.type "ValueError", .type "Exception", .type "BaseException", .type "object"] "ValueError.__new__" = true := by kernel_rfl
theorem kts55 (w : World) : ktsIn (Mine.hd.heap_1 w.params) 55 "BaseException" = true := by kernel_rfl
section
variable {w : World} {A : Around} {env : Env} {h₀ : Heap} {m : Str → Option Value} {G : LedT} {hp : Heap} {g : Array GenState} {d : Drawn} {tk : Nat} {os : OsState} {Q E : Value → Shared → Prop} {a : SAd} {σ : Srt}
/-- a raise of the own class leaves the callee -/
theorem Cx.flies {name : Str} {scope : Scope} {L' f e : Addr} {cd : Value} {gb gb' h h₁ : Heap} {m' : Str → Option Value} {G' : LedT} {vs : List Value} {Q : Unit → Shared → Prop} {E₂ : Value → Shared → Prop}
    (C : Cx w A env h₀ hp m G) (FG : Fr h₀ env.locals gb m) (Tn : Turn (A.deeper (envOf name scope L' f cd)) gb gb') (C' : Cx w (A.deeper (envOf name scope L' f cd)) (envOf name scope L' f cd) gb' h m' G') (hx : Heap.MadeExcOf h h₁ e (.ref 55) vs)
    (hQ : ∀ h', Flown w A env h₀ m G' 55 e h' → Q () ⟨h', g, d, tk, os⟩) : wpAny (model P w) (A.deeper (envOf name scope L' f cd)) (leaving (envOf name scope L' f cd) (.ref e)) Q E₂ ⟨h₁, g, d, tk, os⟩ := by
  have C0 := C
  obtain ⟨⟨A₀, base, outer, B, hA, hXB, hTB, hDi⟩, F, N, D, X, T, hf, hke⟩ := C
  have hA' : (A.deeper (envOf name scope L' f cd)).frames = some (envOf name scope L' f cd :: env :: outer) := by
    rw [Around.deeper]; show A.frames.map _ = _; rw [hA]; rfl
  have T' := Tn _ _ hA'
  have BG := pushX B FG hf hke
  have hmem : ∀ b, b ∈ (env :: outer).filterMap (·.frame) ↔ b = env.locals ∨ b ∈ outer.filterMap (·.frame) := fun b => by
    rw [List.filterMap_cons, hf]; exact List.mem_cons
  have BG' : Below A base (env :: outer) gb' := ⟨hA, fun b o q => T'.other b o (BG.stays b o q) (fun hm => by rw [(BG.frames.mem hm).1] at q; cases q), BG.frames.of_keeps fun b o q _ => by
    obtain ⟨sl, hs⟩ := T'.up q
    exact ⟨_, hs, rfl⟩⟩
  (refine Mine.e1a3 (C0.backR (G' := G') (h' := gb') hA FG T' (fun _ _ q => q) fun p hp => (C'.N p hp).2.2) ?_; rintro h₀' T₁ F₁ N₁)
  have B₁ : Below A₀ base outer h₀' := ⟨B.stack, fun b o q => T₁.other b o (B.stays b o q) (fun hm => by rw [(B.frames.mem hm).1] at q; cases q), B.frames.of_keeps fun b o q _ => by
    obtain ⟨sl, hs⟩ := T₁.up q
    exact ⟨_, hs, rfl⟩⟩
  refine leave_raiseS BG' hx C'.F C'.N (fun h' t R _ U => hQ h' ⟨A₀, base, outer, gb', h₀', t, vs, T₁, B₁, hA, hDi.turn T₁, F₁, U, R, C'.D, hXB, hTB⟩) C'.hke
/-- the caller catches it -/
theorem Cx.caught {A₀ : Around} {name : Str} {scope : Scope} {L f e : Addr} {cd : Value} {np pos : Pos} {b₀ : Stmt} {suite : List Stmt} {rest : List ExceptHandler} {Q : Flow → Shared → Prop} {G' : LedT} {h' : Heap}
    (R : Flown w (A₀.deeper (envOf name scope L f cd)) (envOf name scope L f cd) h₀ m G' 55 e h') (hk : scope.kind = .function) (hx : (envOf name scope L f cd).kindOf (Str.ofString "CycleError") = some .globalImplicit)
    (k : ∀ h₀' h'', Turn (A₀.deeper (envOf name scope L f cd)) h₀ h₀' → Cx w (A₀.deeper (envOf name scope L f cd)) (envOf name scope L f cd) h₀' h'' m G' →
      wpAny (model P w) ((A₀.deeper (envOf name scope L f cd)).mark (some (.ref e))) (execs (b₀ :: suite) (envOf name scope L f cd)) Q (fun _ _ => False) ⟨h'', g, d, tk, os⟩) :
    wpAny (model P w) (A₀.deeper (envOf name scope L f cd)) (noteFrame (.ref e) (envOf name scope L f cd))
      (fun _ s₂ => wpAny (model P w) (A₀.deeper (envOf name scope L f cd)) (setFlight (.ref e) none) (fun _ s₃ =>
        wpAny (model P w) (A₀.deeper (envOf name scope L f cd)) (handleBy (.ref e) (envOf name scope L f cd) (.ExceptHandler (some (.Name (Str.ofString "CycleError") np)) none (b₀ :: suite) pos :: rest)) Q (fun _ _ => False) s₃) (fun _ _ => False) s₂) (fun _ _ => False) ⟨h', g, d, tk, os⟩ := by
  obtain ⟨A₁, base, outer, gb', h₀', t, vs, T₁, B₁, hA, hDi, F₁, U, R, hD, hXB, ⟨mean, mg, mb, TB⟩⟩ := R
  have B₂ : Below A₀ base outer h₀' := ⟨deeper_frames hA, B₁.stays, B₁.frames⟩
  refine caught_SO0 (KF := Mine.hd.heap_1 w.params) R F₁ B₂ U hXB TB hDi T₁ (g_CycleError w) (kts55 w) (fun h'' g' news₂ Tg Fg Ng Got Ngg Bg Xg Tpg Dg => ?_) hk hx (by decide) PassesOwnAt.never
  exact k g' h'' (fun e o q => by rw [hA] at q; cases q; exact Tg) ⟨⟨_, base, outer, Bg, hA, hXB, ⟨mean, mg, mb, TB⟩, Dg⟩, Fg, Ngg, hD, Xg, ⟨mean, mg, mb, Tpg⟩, rfl, hk⟩
end
end Mine
end TPr2

section TPr3
open PySem PySem.W PyProof.Rows PySem.Calls
namespace Mine
set_option maxRecDepth 100000
set_option maxHeartbeats 8000000
section
variable {w : World} {A : Around} {env : Env} {h₀ : Heap} {m : Str → Option Value} {G : LedT} {hp : Heap} {g : Array GenState} {d : Drawn} {tk : Nat} {os : OsState} {Q E : Value → Shared → Prop} {a : SAd} {σ : Srt}
theorem prepare_ct (C : Cx w A env h₀ hp m G) (hh : A.handled = none) (hS : SorterAt w G a σ) (hr : σ.ready = none) (hsu : ∀ k, k < σ.n → ∀ x ∈ σ.su k, x < σ.n) (hn : σ.n ≤ 1000) (hz : ∀ k, k < σ.n → (σ.su k).length < 2 ^ 18) (hd : A.depth + 6 < recursionLimit) (hu : A.units + 20 < cLine)
    (retN : ∀ h₀' h' tk' G' R, Turn A h₀ h₀' → Cx w A env h₀' h' m G' → SorterAt w G' { a with R := R } σ.prep → (∀ b o, lk G b = some o → b ≠ a.dS → lk G' b = some o) → lk G R = none → Acyc σ.n σ.su → Q .none ⟨h', g, d, tk', os⟩)
    (retC : ∀ e h' tk' G' R, Flown w A env h₀ m G' 55 e h' → SorterAt w G' { a with R := R } σ.prep → (∀ b o, lk G b = some o → b ≠ a.dS → lk G' b = some o) → lk G R = none → Cyc σ.n σ.su → E (.ref e) ⟨h', g, d, tk', os⟩) :
    wpAny (model P w) A (call (.ref 92) [.ref a.S]) Q E ⟨hp, g, d, tk, os⟩ := by
  have e9 : PySem.Challenge.rw_oh0057_01 = PySem.Challenge.rw_oh0057_01 := rfl
  have X := C.X
  revert X e9; k_fill; intro X e9; clear e9
  k_dflt (refine' C.enterR (binds := [(Str.ofString "self", Value.ref a.S)]) ?k6 ?k7 ?k8 ?k9 ?kB ?c2 ?c3 ?c4 ?c5 ?_; (case k6 => k_is); (case k7 => k_is); (case k8 => (exact Mine.o242 hd)); (case k9 => exact BindsTo.of_eq rfl); (case c5 => decide); (case kB => exact locs rfl); (case c2 => exact rfl); (case c3 => exact rfl); (case c4 => exact rfl); k_whole; intro gb L' h₁ tk₁ C1 hlt FG)
  refine wpAny_execs_cons (wpAny_If (wpAny_isTrue_Compare1 (Attribute_Name_ (C1.name rfl (C1.sReady hS fun _ => wpAny_Constant_none ?_)))))
  rw [hr]
  refine isnot_none_none (wpAny_truthy_bool ?_)
  simp only [Bool.false_eq_true, if_false]
  refine wpAny_execs_nil (wpAny_execs_cons (plainObj_wpAny_Assign_Attribute (comp_ev (cl := []) rfl rfl (by decide) ?_)))
  refine MethodCall_ (Attribute_Name_ (C1.name rfl (C1.sN2i hS fun _ => C1.valuesM hS.n2i (callWith_method0 (C1.values hS.n2i fun V h₂ C2 hV => ?_)))))
  have hS2 : SorterAt w ((V, valsOf a.N) :: G) a σ := hS.keep (Grow.cons hV)
  refine C2.comp_dictV (fun i acc G₁ => (∀ b o, lk ((V, valsOf a.N) :: G) b = some o → lk G₁ b = some o) ∧ All2 IsN acc ((List.range i).filter fun k => decide (σ.np k = 0))) hh (by simp [nodeKvs]; (exact Mine.o284 hn)) hS2.n2i lk_cons_eq ?_ rfl (by decide) rfl ⟨fun _ _ q => q, .nil⟩ ?_ ?_ ?_
  · rintro i acc G₁ ⟨q, _⟩
    (refine Mine.e1a2 hS2.n2i.cls ?_; rintro o ho _)
    rw [q _ _ ho, ho]
  · rintro i acc G₁ G₂ ⟨q1, q2⟩ u
    exact ⟨fun b o hb => u _ _ (q1 b o hb) (.inl (by rw [hb]; simp)), q2⟩
  · rintro I D Lc i k v acc mc G₁ h₃ tk₃ oI oC oD hk hal ⟨q1, q2⟩ C3 hI hD hL hN hm
    obtain ⟨hin, hv⟩ : i < σ.n ∧ v = .ref (a.I i) := by
      rw [nodeKvs, List.getElem?_map] at hk
      cases q : (List.range σ.n)[i]? with
      | none => rw [q] at hk; cases hk
      | some j =>
        rw [q] at hk
        obtain ⟨h1, h2⟩ := List.getElem?_eq_some_iff.mp q
        simp at h1 h2
        subst h2
        cases hk
        exact ⟨h1, rfl⟩
    subst hv
    have hS3 : SorterAt w G₁ a σ := hS2.keep q1
    obtain ⟨⟨z1, z2, r1⟩, ⟨od', r2, r5⟩, its', nn', r3, r4⟩ := hS3.node i hin
    refine CTurn.one (wpAny_isTrue_Compare1 (Attribute_Name_ (C3.cname hL hN hm (C3.getS (slot_npredecessors w) r1 r2 (by rfl) rfl fun _ => c_int fun _ _ => eq_int (wpAny_truthy_bool ?_)))))
    have hfil : (List.range (i + 1)).filter (fun k => decide (σ.np k = 0)) = (List.range i).filter (fun k => decide (σ.np k = 0)) ++ (if σ.np i = 0 then [i] else []) := by
      rw [List.range_succ, List.filter_append]
      by_cases h : σ.np i = 0 <;> simp [h]
    by_cases hnp : σ.np i = 0
    · rw [if_pos (by simp [hnp])]
      refine Attribute_Name_ (C3.cname hL hN hm (C3.getS (slot_node w) r1 r2 (by rfl) rfl fun _ => ⟨_, _, _, rfl, C3, hI, hD, hL, q1, ?_⟩))
      rw [hfil, if_pos hnp]
      exact q2.snoc ⟨_, rfl⟩
    · rw [if_neg (by simp [hnp])]
      refine ⟨_, _, _, rfl, C3, hI, hD, hL, q1, ?_⟩
      rw [hfil, if_neg hnp, List.append_nil]
      exact q2
  · rintro D Lc acc nn mc oC G₁ h₃ tk₃ hD0 hL0 hDL ⟨q1, q2⟩ C3 hD hL hN
    refine C3.endV hL hN fun h₄ C4 => ?_
    have k4 : ∀ b o, lk G b = some o → lk (rm G₁ Lc) b = some o := fun b o hb => by
      have h1 := lk_fc (o' := valsOf a.N) hV hb
      rw [lk_rm (fun q => by rw [q, hL0] at h1; cases h1)]
      exact q1 _ _ h1
    have D4 : lk (rm G₁ Lc) D = some (listOf acc.toArray nn) := by rw [lk_rm hDL]; exact hD
    have hDG : lk G D = none := by
      cases q : lk G D with
      | none => rfl
      | some o => rw [lk_fc (o' := valsOf a.N) hV q] at hD0; cases hD0
    generalize rm G₁ Lc = G₄ at *
    have hS4 : SorterAt w G₄ a σ := hS.keep k4
    obtain ⟨x1, x2, x3, x4, y1, y2, y3, y4, y5, y6, eD⟩ := hS4.dict
    refine C4.name rfl (C4.setD (set_137_ready_nodes w) hS4.inst eD rfl (Nat.le_of_ble_eq_true rfl) fun h₅ tk₅ t5 C5 => ?_)
    have hDd : D ≠ a.dS := ne_cls D4 eD (by simp)
    have hS5 : SorterAt w (Mine.st G₄ a.dS (sDict { a with R := D } (.ref D) σ.po σ.nf x1 x2 x3 x4 y1 y2 y3 y4 y5 y6)) { a with R := D } σ.prep := by
      have hDno : lk G D = none := hDG
      refine SorterAt.prep (G := G) hS (lk_st_ne hDd D4) ?_ hDG lk_st_eq fun b o hb hne => lk_st_ne hne (k4 b o hb)
      have hl : (nodeKvs a σ.n).length = σ.n := by simp [nodeKvs]
      rw [hl] at q2
      simpa [rdy0] using q2
    have C5' : Cx w _ _ gb h₅ _ (Mine.st G₄ a.dS (sDict { a with R := D } (.ref D) σ.po σ.nf x1 x2 x3 x4 y1 y2 y3 y4 y5 y6)) := C5
    have k5 : ∀ b o, lk G b = some o → b ≠ a.dS → lk (Mine.st G₄ a.dS (sDict { a with R := D } (.ref D) σ.po σ.nf x1 x2 x3 x4 y1 y2 y3 y4 y5 y6)) b = some o := fun b o hb hne => lk_st_ne hne (k4 b o hb)
    clear C5 C4 C3 C2
    generalize (Mine.st G₄ a.dS (sDict { a with R := D } (.ref D) σ.po σ.nf x1 x2 x3 x4 y1 y2 y3 y4 y5 y6)) = G₅ at *
    refine wpAny_execs_cons (wpAny_Assign_Name (MethodCall_ (C5'.name rfl (C5'.sMeth hS5 (meth_find_cycle w) (fun _ _ _ _ _ _ _ _ _ _ _ _ _ => rfl) ?_))))
    refine callWith_K0 (first := [.ref a.S]) C5'.XI (kp_127 w) ?_
    refine findCycle_ct (a := { a with R := D }) C5' hh hS5 hsu hn hz (show A.depth + 1 + 3 < _ by (exact Mine.o261 hd)) (by simp; (exact Mine.o290 hu)) ?_ ?_
    · intro b₆ h₆ tk₆ G₆ T₆ C6 k6 hac
      refine C6.store fun h₇ tk₇ C7 => ?_
      refine wpAny_execs_cons (wpAny_If (wpAny_isTrue_value (C7.name mset_eq (truthy_none ?_))))
      simp only [Bool.false_eq_true, if_false]
      refine wpAny_execs_nil (wpAny_execs_nil ⟨b₆, _, _, T₆, C7, fun h₀' T' C8 => retN h₀' _ _ _ D T' C8 (hS5.keep k6) (fun b o hb hne => k6 _ _ (k5 b o hb hne)) hDG hac⟩)
    · intro b₆ h₆ tk₆ G₆ L its n T₆ C6 k6 hL6 hpos hsz hcy
      refine C6.store fun h₇ tk₇ C7 => ?_
      refine wpAny_execs_cons (wpAny_If (wpAny_isTrue_value (C7.name mset_eq (C7.truthyL hL6 (Mine.o291 hsz) fun _ => ?_))))
      rw [if_pos (by simpa using hpos)]
      (refine Mine.e3a1 C7.T ?_; rintro mean mg mb T)
      refine wpAny_execs_cons (Raise_own C7.F T.g (own_of_in C7.X (topRead_of T) (g_CycleError w) (exc55 w)) PySem.F.excBase_ValueError hh (args_cons (JoinedStr_one (wpAny_Constant_str (args_cons (C7.name mset_eq (args_nil ⟨?_, C7.F.keep, fun h₈ e hm => ?_⟩)))))))
      · show 2 ≤ sizeLine
        have : sizeLine = 2 ^ 24 := rfl
        omega
      · exact Cx.flies C FG T₆ C7 hm fun h₉ fl => retC e h₉ _ G₆ D fl (hS5.keep k6) (fun b o hb hne => k6 _ _ (k5 b o hb hne)) hDG hcy
end
end Mine
end TPr3

section TRn1
open PySem PySem.W PyProof.Rows PySem.Calls
namespace Mine
def IsRow (G : LedT) (v : Value) (row : List Nat) : Prop := ∃ l its n, v = .ref l ∧ lk G l = some (listOf its n) ∧ All2 IsN its.toList row
noncomputable def moreN : Nat → Srt
  | 0 => Srt.zero
  | k + 1 => (moreN k).more
noncomputable def addRows : List (List Nat) → Nat → Srt → Srt
  | [], _, σ => σ
  | row :: rs, k, σ => addRows rs (k + 1) (σ.add k row)
theorem addRows_snoc {row : List Nat} : ∀ {l : List (List Nat)} {k : Nat} {σ : Srt}, addRows (l ++ [row]) k σ = (addRows l k σ).add (k + l.length) row
  | [], _, _ => rfl
  | r :: l, k, σ => by
    show addRows (l ++ [row]) (k + 1) (σ.add k r) = (addRows l (k + 1) (σ.add k r)).add (k + (r :: l).length) row
    rw [addRows_snoc]; congr 1; simp; (exact Mine.o2)
theorem moreN_n : ∀ k, (moreN k).n = k
  | 0 => rfl
  | k + 1 => by show (moreN k).n + 1 = k + 1; rw [moreN_n k]
theorem moreN_ready : ∀ k, (moreN k).ready = none
  | 0 => rfl
  | k + 1 => moreN_ready k
theorem moreN_su : ∀ k j, (moreN k).su j = []
  | 0, _ => rfl
  | k + 1, j => by
    show fset (moreN k).su (moreN k).n [] j = []
    unfold fset; split
    · rfl
    · exact moreN_su k j
theorem moreN_np : ∀ k j, (moreN k).np j = 0
  | 0, _ => rfl
  | k + 1, j => by
    show fset (moreN k).np (moreN k).n 0 j = 0
    unfold fset; split
    · rfl
    · exact moreN_np k j
theorem moreN_po : ∀ k, (moreN k).po = 0 ∧ (moreN k).nf = 0
  | 0 => ⟨rfl, rfl⟩
  | k + 1 => moreN_po k
theorem addRows_same : ∀ (l : List (List Nat)) (k : Nat) (σ : Srt), (addRows l k σ).n = σ.n ∧ (addRows l k σ).ready = σ.ready ∧ (addRows l k σ).po = σ.po ∧ (addRows l k σ).nf = σ.nf
  | [], _, _ => ⟨rfl, rfl, rfl, rfl⟩
  | row :: l, k, σ => addRows_same l (k + 1) (σ.add k row)
theorem addSu_len : ∀ (ps : List Nat) (su : Nat → List Nat) (k j : Nat), (su j).length ≤ (addSu su k ps j).length ∧ (addSu su k ps j).length ≤ (su j).length + ps.length
  | [], su, k, j => ⟨Nat.le_refl _, Nat.le_refl _⟩
  | p :: ps, su, k, j => by
    have := addSu_len ps (fset su p (su p ++ [k])) k j
    have e : addSu su k (p :: ps) = addSu (fset su p (su p ++ [k])) k ps := rfl
    rw [e]
    have h2 : (su j).length ≤ (fset su p (su p ++ [k]) j).length ∧ (fset su p (su p ++ [k]) j).length ≤ (su j).length + 1 := by
      unfold fset; split
      · rename_i q; subst q; simp
      · simp
    simp; omega
theorem addSu_take {su : Nat → List Nat} {k : Nat} {ps : List Nat} (i j : Nat) : (addSu su k (ps.take i) j).length ≤ (addSu su k ps j).length := by
  have : addSu su k ps = addSu (addSu su k (ps.take i)) k (ps.drop i) := by
    unfold addSu; rw [← List.foldl_append, List.take_append_drop]
  rw [this]
  exact (addSu_len _ _ _ _).1
theorem addRows_len : ∀ (l : List (List Nat)) (k : Nat) (σ : Srt) (j : Nat), ((addRows l k σ).su j).length ≤ (σ.su j).length + (l.map List.length).sum
  | [], _, _, _ => by simp [addRows]
  | row :: l, k, σ, j => by
    have := addRows_len l (k + 1) (σ.add k row) j
    have h2 := (addSu_len row σ.su k j).2
    show ((addRows l (k + 1) (σ.add k row)).su j).length ≤ _
    have e : ((σ.add k row).su j) = addSu σ.su k row j := rfl
    rw [e] at this
    simp; (exact Mine.o310 this h2)
noncomputable def pushAll (hours : List Int) (hr : Int) (l : List Nat) (hp : List Pr) : List Pr := l.foldl (fun h (k : Nat) => hpush h (hr + hours.getD k 0, (k : Int))) hp
abbrev LogE := List Nat × Int × Nat
/-- the run of the sorter, step by step -/
inductive Runs (hours : List Int) : Srt → List Pr → Int → List LogE → Prop
  | stop {σ : Srt} {hp : List Pr} {hr : Int} {l : List Nat} : σ.ready = some l → l.length < 2 ^ 17 → (decide (σ.nf < σ.po) || decide (0 < l.length)) = false → Runs hours σ hp hr []
  | step {σ : Srt} {hp : List Pr} {hr : Int} {l : List Nat} {work : Nat} {log : List LogE} : σ.ready = some l → (decide (σ.nf < σ.po) || decide (0 < l.length)) = true →
      (∀ k ∈ l, k < σ.n ∧ k < hours.length) → l.length < 2 ^ 16 → hp.length < 2 ^ 16 → pushAll hours hr l hp ≠ [] → (hpop (pushAll hours hr l hp)).1.2 = (work : Int) → work < σ.n → (σ.out l).np work = -1 → (∀ s ∈ σ.su work, s < σ.n) → (σ.su work).length < 2 ^ 16 →
      Runs hours ((σ.out l).done work) (hpop (pushAll hours hr l hp)).2 (hpop (pushAll hours hr l hp)).1.1 log → Runs hours σ hp hr ((l, (hpop (pushAll hours hr l hp)).1.1, work) :: log)
/-- an entry of the log -/
def IsLog (G : LedT) (v : Value) (e : LogE) : Prop := ∃ t n T its k th tw, v = .ref t ∧ lk G t = some (tupOf #[.ref T, .int e.2.1 th, .int (e.2.2 : Int) tw] n) ∧ lk G T = some (tupOf its k) ∧ All2 IsN its.toList e.1
theorem IsLog.keep {G G' : LedT} {v : Value} {e : LogE} (h : IsLog G v e) (k : ∀ b its n, lk G b = some (tupOf its n) → lk G' b = some (tupOf its n)) : IsLog G' v e := by
  obtain ⟨t, n, T, its, kk, th, tw, e1, e2, e3, e4⟩ := h
  exact ⟨t, n, T, its, kk, th, tw, e1, k _ _ _ e2, k _ _ _ e3, e4⟩
theorem IsPr.keepT {G G' : LedT} {v : Value} {p : Pr} (h : IsPr G v p) (k : ∀ b its n, lk G b = some (tupOf its n) → lk G' b = some (tupOf its n)) : IsPr G' v p := by
  (refine Mine.e4a2 h ?_; clear h; rintro b t1 t2 n rfl hb)
  exact ⟨b, t1, t2, n, rfl, k _ _ _ hb⟩
theorem foot_tuple {w : World} {G : LedT} {a : SAd} {σ : Srt} (h : SorterAt w G a σ) (hr : σ.ready ≠ none) {b : Addr} {its : Array Value} {n : Nat} (hb : lk G b = some (tupOf its n)) : ¬ Foot a σ.n b := by
  obtain ⟨x1, x2, x3, x4, y1, y2, y3, y4, y5, y6, eD⟩ := h.dict
  rintro (q | q | q | ⟨k, hk, q | q⟩)
  · exact ne_cls hb eD (by simp) q
  · exact h.n2i.ne hb (by simp) q.symm
  · obtain ⟨l, hl⟩ := Option.ne_none_iff_exists'.mp hr
    (refine Mine.e2a2 (h.rdy l hl) ?_; rintro its' n' e1 _)
    exact tup_ne_list hb e1 q
  · obtain ⟨⟨t1, t2, e1⟩, _⟩ := h.node k hk
    exact ne_cls hb e1 (by simp) q
  · obtain ⟨_, _, its', n', e3, _⟩ := h.node k hk
    exact tup_ne_list hb e3 q
end Mine
end TRn1

section TSt
open PySem PySem.W PyProof.Rows PySem.Calls
namespace Mine
set_option maxRecDepth 100000
theorem bnd1 (w : World) : plainGet (Mine.hd.heap_1 w.params) 137 (Str.ofString "add") = true := by kernel_rfl
theorem bnd2 (w : World) : hasDictIn (Mine.hd.heap_1 w.params) 137 = true := by kernel_rfl
theorem bnd3 (w : World) : findIn (Mine.hd.heap_1 w.params) (.ref 137) (Str.ofString "add") = some (some (.ref 87)) := by kernel_rfl
theorem bnd4 (w : World) : isFn (Mine.hd.heap_1 w.params) (.ref 87) = true := by kernel_rfl
theorem bnd5 (w : World) : specialIn (Mine.hd.heap_1 w.params) (.ref 87) "__get__" = some (some (.builtin "function.__get__")) := by kernel_rfl
theorem bnd6 (w : World) : takesIn (Mine.hd.heap_1 w.params) (.ref 87) = some false := by kernel_rfl
theorem bnd7 (w : World) : fnIn (Mine.hd.heap_1 w.params) 87 = true := by kernel_rfl
theorem StarCall_ {M : Model} {A : Around} {E : Value → Shared → Prop} {s : Shared} {env : Env} {o : Expr} {name : Str} {apos pos : Pos} {args : List Expr} {Q : Value → Shared → Prop}
    (h : wpAny M A (eval o env) (fun ov s₁ => wpAny M A (getAttr ov name true) (fun f s₂ => wpAny M A (callWith pos f [] (backTo pos (starEach args env)) []) Q E s₂) E s₁) E s)
    (he : eval (.Call (.Attribute o name apos) args [] pos) env = (do
      let ov ← eval o env
      standAt apos.atName
      let (f, first) ← holding [ov] (do pure (← getAttr ov name true, []))
      callWith pos f first (backTo pos (starEach args env)) []) := by rfl) :
    wpAny M A (eval (.Call (.Attribute o name apos) args [] pos) env) Q E s := by
  rw [he]
  refine wpAny_bind (wpAny_mono h (fun ov s₁ h₁ => wpAny_bind (wpAny_standAt (wpAny_bind (wpAny_holding (wpAny_bind (wpAny_mono h₁ (fun fx s₂ h₂ => wpAny_pure ?_) fun _ _ x => x)))))) fun _ _ x => x)
  exact h₂
section
variable {w : World} {A : Around} {env : Env} {h₀ : Heap} {m : Str → Option Value} {G : LedT} {hp : Heap} {g : Array GenState} {d : Drawn} {tk : Nat} {os : OsState} {Q E : Value → Shared → Prop} {a : SAd} {σ : Srt}
theorem Cx.addBound (C : Cx w A env h₀ hp m G) (h : SorterAt w G a σ) {ex : Bool} (q : ∀ b h' tk', Cx w A env h₀ h' m ((b, methodObj (.ref 87) (.ref a.S)) :: G) → lk G b = none → Q (.ref b) ⟨h', g, d, tk', os⟩) :
    wpAny (model P w) A (getAttr (.ref a.S) (Str.ofString "add") ex) Q E ⟨hp, g, d, tk, os⟩ := by
  obtain ⟨x1, x2, x3, x4, y1, y2, y3, y4, y5, y6, e⟩ := h.dict
  exact kbm_bound C.F C.X C.N (C.instAt h.inst e) (bnd1 w) (bnd2 w) (bnd3 w) (bnd4 w) (bnd5 w) (bnd6 w) (by decide +kernel) rfl fun b h' F' N' lt => q b h' _ (C.of F' N' (C.D.cons lt)) (lk_fresh lt)
/-- the call of a bound method, starred -/
theorem Cx.callBound (C : Cx w A env h₀ hp m G) {b : Addr} {self : Value} {e : Expr} {rest : List Expr} {pos : Pos}
    (h : wpAny (model P w) A (spliced (backTo pos (starEach (e :: rest) env))) (fun vs s₁ => s₁.heap.get? b = some (methodObj (.ref 87) self) ∧ (Mine.hd.heap_1 w.params).In s₁.heap ∧ codeAny (model P w) A (.call (.ref 87) ⟨self :: vs, []⟩) (fun r s' => match r with | .ok (.ret v) => Q v s' | .ok _ => False | .error e => E e s') s₁) E ⟨hp, g, d, tk, os⟩)
    (he : starEach (e :: rest) env = (false, eval e env) :: starEach rest env := by rfl) (hst : (backTo pos (starEach rest env)).any (·.1) = true := by rfl) :
    wpAny (model P w) A (callWith pos (.ref b) [] (backTo pos (starEach (e :: rest) env)) []) Q E ⟨hp, g, d, tk, os⟩ := by
  rw [he] at h ⊢
  refine ks_call (P := MethP (Mine.hd.heap_1 w.params) b 87 self) (by show (false || (backTo pos (starEach rest env)).any (·.1)) = true; rw [hst]; rfl) (keeps_M (bnd7 w)) (evalArgs_plain (wpAny_mono h (fun vs s₁ z => ⟨⟨z.1, z.2.1⟩, wpAny_call (method_call z.1 z.2.2)⟩) fun _ _ z => z))
end
end Mine
end TSt

section TRn2
open PySem PySem.W PyProof.Rows PySem.Calls
namespace Mine
set_option maxRecDepth 100000
set_option maxHeartbeats 8000000
theorem sdown_len (l : List Pr) (pos : Nat) (x : Pr) : (sdown l pos x).length = l.length := by
  induction pos using Nat.strongRecOn generalizing l with
  | _ pos ih =>
    rw [sdown_eq]
    split
    · split
      · rw [ih _ (by omega)]; simp
      · simp
    · simp
theorem hpush_len (l : List Pr) (x : Pr) : (hpush l x).length = l.length + 1 := by unfold hpush; rw [sdown_len]; simp
theorem pushAll_len (hours : List Int) (hr : Int) : ∀ (l : List Nat) (hp : List Pr), (pushAll hours hr l hp).length = hp.length + l.length
  | [], hp => rfl
  | k :: l, hp => by
    show (pushAll hours hr l (hpush hp _)).length = _
    rw [pushAll_len, hpush_len]; simp; (exact Mine.o2)
section
variable {w : World} {A : Around} {env : Env} {h₀ : Heap} {m : Str → Option Value} {G : LedT} {hp : Heap} {g : Array GenState} {d : Drawn} {tk : Nat} {os : OsState} {Q E : Value → Shared → Prop} {a : SAd} {σ : Srt}
theorem Cx.range (C : Cx w A env h₀ hp m G) {n : Int} {t : Tok} (h : ∀ r h' tk' t₁ u₁ v₁, Cx w A env h₀ h' m G → IsRange h' r 0 n 1 t₁ u₁ v₁ → Q (.ref r) ⟨h', g, d, tk', os⟩) : wpAny (model P w) A (call (.type "range") [.int n t]) Q E ⟨hp, g, d, tk, os⟩ :=
  call_range_1 (h _ _ _ _ _ _ (C.grown fun _ _ e => Heap.get?_push_of_some _ e) (IsRange.new ..))
theorem SorterAt.reR (h : SorterAt w G a σ) (hr : σ.ready = none) (R : Addr) : SorterAt w G { a with R := R } σ := by
  obtain ⟨h1, ⟨x1, x2, x3, x4, y1, y2, y3, y4, y5, y6, h2⟩, h3, h4, h5, h6, h7, h8, h9⟩ := h
  refine ⟨h1, ⟨x1, x2, x3, x4, y1, y2, y3, y4, y5, y6, ?_⟩, fun l hl => ?_, h4, h5, h6, h7, h8, fun q => absurd hr q⟩
  · rw [hr] at h2 ⊢; exact h2
  · rw [hr] at hl; cases hl
theorem Cx.ext (C : Cx w A env h₀ hp m G) {h' : Heap} (he : Heap.ExtBut hp.objs.size hp h') : Cx w A env h₀ h' m G := C.grown fun b o e => he b o (Nat.ne_of_lt (Heap.lt_size e)) e
theorem foot_some {c : Addr} (h : SorterAt w G a σ) (hr : σ.ready ≠ none) (hc : Foot a σ.n c) : lk G c ≠ none := by
  obtain ⟨x1, x2, x3, x4, y1, y2, y3, y4, y5, y6, eD⟩ := h.dict
  rcases hc with q | q | q | ⟨k, hk, q | q⟩
  · rw [q, eD]; simp
  · (refine Mine.e1a2 h.n2i.cls ?_; rintro o ho _)
    rw [q, ho]; simp
  · obtain ⟨l, hl⟩ := Option.ne_none_iff_exists'.mp hr
    (refine Mine.e2a2 (h.rdy l hl) ?_; rintro its' n' e1 _)
    rw [q, e1]; simp
  · obtain ⟨⟨t1, t2, e1⟩, _⟩ := h.node k hk
    rw [q, e1]; simp
  · obtain ⟨_, _, its', n', e3, _⟩ := h.node k hk
    rw [q, e3]; simp
theorem SorterAt.stO {c : Addr} {o : Obj} (h : SorterAt w G a σ) (nf : ¬ Foot a σ.n c) (hc : c ≠ a.S) (ho : ∀ vs, o.data ≠ .fields vs) : SorterAt w (st G c o) a σ := by
  obtain ⟨h1, ⟨x1, x2, x3, x4, y1, y2, y3, y4, y5, y6, h2⟩, h3, h4, h5, h6, h7, h8, h9⟩ := h
  refine ⟨lk_st_ne (fun q => hc q.symm) h1, ⟨x1, x2, x3, x4, y1, y2, y3, y4, y5, y6, lk_st_ne (fun q => nf (.inl q.symm)) h2⟩, fun l hl => ?_, h4.keep fun o ho => lk_st_ne (fun q => nf (.inr (.inl q.symm))) ho, h5, fun j hj => ?_, h7, h8, h9⟩
  · (refine Mine.e2a2 (h3 l hl) ?_; rintro its n e1 e2)
    exact ⟨its, n, lk_st_ne (fun q => nf (.inr (.inr (.inl q.symm)))) e1, e2⟩
  · obtain ⟨⟨v1, v2, e1⟩, e2, its', n', e3, e4⟩ := h6 j hj
    exact ⟨⟨v1, v2, lk_st_ne (fun q => nf (.inr (.inr (.inr ⟨j, hj, .inl q.symm⟩)))) e1⟩, lk_some_st e2 ho, its', n', lk_st_ne (fun q => nf (.inr (.inr (.inr ⟨j, hj, .inr q.symm⟩)))) e3, e4⟩
theorem done_n (σ : Srt) (l : List Nat) (k : Nat) : ((σ.out l).done k).n = σ.n := (rels_same ((σ.out l).su k) ((σ.out l).mark k)).1
/-- the same place, the base turned -/
abbrev Cx.Sam (_ : Cx w A env h₀ hp m G) (b' h' : Heap) (m' : Str → Option Value) (G' : LedT) : Prop := Turn A h₀ b' ∧ Cx w A env b' h' m' G'
/-- nothing of the sorter's stood in the elder ledger -/
def FreshS (G : LedT) (a : SAd) (n : Nat) : Prop := ∀ b, Foot a n b → lk G b = none
/-- the names of the run's frame -/
structure RnN (m : Str → Option Value) (Nl Hl S : Addr) : Prop where
  needs : m (Str.ofString "needs") = some (.ref Nl)
  hours : m (Str.ofString "hours") = some (.ref Hl)
  sorter : m (Str.ofString "sorter") = some (.ref S)
theorem RnN.set {m : Str → Option Value} {Nl Hl S : Addr} (h : RnN m Nl Hl S) {x : Str} (v : Value) (h1 : Str.ofString "needs" ≠ x) (h2 : Str.ofString "hours" ≠ x) (h3 : Str.ofString "sorter" ≠ x) : RnN (mset m x v) Nl Hl S :=
  ⟨mset_ne h1 h.needs, mset_ne h2 h.hours, mset_ne h3 h.sorter⟩
theorem run_ct {Nl Hl : Addr} {nits hits : Array Value} {n1 n2 : Nat} {needs : List (List Nat)} {hours : List Int} {log : List LogE}
    (C : Cx w A env h₀ hp m G) (hh : A.handled = none) (hN : lk G Nl = some (listOf nits n1)) (hNr : All2 (IsRow G) nits.toList needs) (hH : lk G Hl = some (listOf hits n2)) (hHr : All2 IsI hits.toList hours)
    (hlen : hours.length = needs.length) (hn : needs.length ≤ 1000) (hrow : ∀ row ∈ needs, row.length ≤ 100 ∧ ∀ p ∈ row, p < needs.length) (hsuR : ∀ k, k < needs.length → ∀ x ∈ (addRows needs 0 (moreN needs.length)).su k, x < needs.length)
    (hR : Runs hours (addRows needs 0 (moreN needs.length)).prep [] 0 log) (hll : log.length ≤ 1000) (hd : A.depth + 20 < recursionLimit) (hu : A.units + 100 < cLine)
    (ret : ∀ h₀' h' tk' G' T n ring LL lits n', Turn A h₀ h₀' → Cx w A env h₀' h' m G' → (∀ b o, lk G b = some o → lk G' b = some o) → lk G' T = some (tupOf #[.bool ring, .ref LL] n) → lk G' LL = some (listOf lits n') → All2 (IsLog G') lits.toList log →
      (if ring = true then Cyc needs.length (addRows needs 0 (moreN needs.length)).su else Acyc needs.length (addRows needs 0 (moreN needs.length)).su) → lk G LL = none → Q (.ref T) ⟨h', g, d, tk', os⟩) :
    wpAny (model P w) A (call (.ref 209) [.ref Nl, .ref Hl]) Q E ⟨hp, g, d, tk, os⟩ := by
  have e9 : PySem.Challenge.rw_oh0057_01 = PySem.Challenge.rw_oh0057_01 := rfl
  have X := C.X
  revert X e9; k_fill; intro X e9; clear e9
  have hnl := hNr.length
  have hnsz : nits.size = needs.length := by simpa using hnl
  k_dflt (refine' C.enterR (binds := [(Str.ofString "needs", Value.ref Nl), (Str.ofString "hours", Value.ref Hl)]) ?k6 ?k7 ?k8 ?k9 ?kB ?c2 ?c3 ?c4 ?c5 ?_; (case k6 => k_is); (case k7 => k_is); (case k8 => (exact Mine.o11 hd)); (case k9 => exact BindsTo.of_eq rfl); (case c5 => decide); (case kB => exact locs rfl); (case c2 => exact rfl); (case c3 => exact rfl); (case c4 => exact rfl); k_whole; intro gb L' h₁ tk₁ C1 hlt FG)
  refine wpAny_mono (E := fun _ _ => False) ?_ (fun _ _ z => z) fun _ _ z => z.elim
  -- sorter = TopologicalSorter()
  refine wpAny_execs_cons (wpAny_Assign_Name (C1.callG0 (g_TopologicalSorter w) (kp_137 w) (sorter_ct C1 (show A.depth + 1 + 3 < _ by (exact Mine.o12 hd)) (by simp; (exact Mine.o13 hu)) fun h₂ tk₂ G₂ a C2 gr2 hS2 f1 f2 f3 => C2.store fun h₃ tk₃ C3 => ?_)))
  have N3 : RnN (mset (fun y => List.lookup y [(Str.ofString "needs", Value.ref Nl), (Str.ofString "hours", Value.ref Hl)].reverse) (Str.ofString "sorter") (.ref a.S)) Nl Hl a.S := ⟨rfl, rfl, rfl⟩
  -- for k in range(len(needs)): sorter.add(k)
  refine wpAny_execs_cons (wpAny_For (C3.callT (n_range w) Boot.range (args_cons (C3.callB (n_len w) Boot.len (args_cons (C3.name N3.needs (args_nil (C3.len (gr2 _ _ hN) (Mine.o14 hn hnsz) fun _ _ => args_nil (C3.range fun r h₄ tk₄ u1 u2 u3 C4 hr4 => ?_)))))))))
  rw [hnsz] at hr4
  refine C4.for_range (fun i m₁ G₁ => RnN m₁ Nl Hl a.S ∧ (∀ b o, lk G b = some o → lk G₁ b = some o) ∧ ∃ a' : SAd, a'.S = a.S ∧ SorterAt w G₁ a' (moreN i) ∧ FreshS G { a' with R := a'.dS } i) hh hr4 (Mine.o16 hn) ⟨N3, gr2, a, rfl, hS2, ?_⟩ rfl ?_ ?_ ?_
  · rintro b (q | q | q | ⟨k, hk, _⟩)
    · rw [q]; exact f2
    · rw [q]; exact f3
    · rw [q]; exact f2
    · omega
  · rintro i m₁ G₁ G₂' hZ1 u
    obtain ⟨N1, q1, a', q2, q3, q4⟩ := hZ1
    exact ⟨N1, fun b o hb => u _ _ (q1 b o hb) (.inl (by rw [gr2 _ _ hb]; simp)), a', q2, q3.up u, q4⟩
  · rintro i tv m₁ G₁ h₅ tk₅ I oI hi hZ2 C5 hI ⟨vsI, hIf⟩ hI0
    obtain ⟨N1, q1, a', q2, q3, q4⟩ := hZ2
    have N5 := N1.set (x := Str.ofString "k") (.int (i : Int) tv) (by decide) (by decide) (by decide)
    rw [← q2] at N5
    refine wpAny_execs_cons (wpAny_Expr (MethodCall_ (C5.name N5.sorter (C5.sMeth q3 (meth_add w) (fun _ _ _ _ _ _ _ _ _ _ _ _ _ => rfl) (callWith_K C5.X (kp_87 w) (args_cons (C5.name mset_eq (args_nil ⟨C5.XI, ?_⟩))))))))
    have e5 : ((i : Nat) : Int) = (((moreN i).n : Nat) : Int) := by rw [moreN_n]
    rw [e5]
    refine add_new C5 hh q3 (moreN_ready i) (by rw [moreN_n]; (exact Mine.o18 hn hi)) (show A.depth + 1 + 8 < _ by (exact Mine.o19 hd)) (by simp; (exact Mine.o20 hu)) fun h₆ tk₆ G₆ x dx su C6 hS6 k6 hx hsu => ?_
    rw [q2] at N5
    refine wpAny_execs_nil ⟨h₆, _, _, _, rfl, C6, k6 _ _ hI (fun q => ?_), ?_⟩
    · (refine Mine.e1a3 q3.n2i.cls ?_; rintro o ho _ hf)
      rw [q, ho] at hI; cases hI; exact hf _ hIf
    · rw [moreN_n] at hS6
      refine ⟨N5, fun b o hb => k6 _ _ (q1 b o hb) (fun q => ?_), _, by exact q2, hS6, ?_⟩
      · have := q4 a'.N (.inr (.inl rfl)); rw [← q, hb] at this; cases this
      · have non : ∀ {b : Addr}, lk G₁ b = none → lk G b = none := fun {b} h => by
          cases q : lk G b with
          | none => rfl
          | some o => rw [q1 _ _ q] at h; cases h
        rintro b (q | q | q | ⟨k, hk, q⟩)
        · rw [q]; exact q4 a'.dS (.inl rfl)
        · rw [q]; exact q4 a'.N (.inr (.inl rfl))
        · rw [q]; exact q4 a'.dS (.inl rfl)
        · by_cases hki : k = i
          · subst hki
            rcases q with q | q
            · rw [q]; show lk G (fset a'.I k x k) = none; rw [fset_eq]; exact non hx
            · rw [q]; show lk G (fset a'.Su k su k) = none; rw [fset_eq]; exact non hsu
          · refine q4 b (.inr (.inr (.inr ⟨k, by omega, ?_⟩)))
            rcases q with q | q
            · exact .inl (by rw [q]; show fset a'.I i x k = a'.I k; rw [fset_ne hki])
            · exact .inr (by rw [q]; show fset a'.Su i su k = a'.Su k; rw [fset_ne hki])
  · rintro m₁ G₁ h₅ tk₅ hZ3 C5
    obtain ⟨N1, q1, a', q2, q3, q4⟩ := hZ3
    -- the sorter, its ready list's place chosen
    have hS5 := q3.reR (moreN_ready _) a'.dS
    have hS5n : SorterAt w G₁ { a' with R := a'.dS } (addRows (needs.take 0) 0 (moreN needs.length)) := hS5
    obtain ⟨b, hb⟩ : ∃ b : SAd, b = { a' with R := a'.dS } := ⟨_, rfl⟩
    have hbS : b.S = a.S := by rw [hb]; exact q2
    rw [← hb] at q4 hS5n
    clear hS5 q3
    have aR : ∀ i, (addRows (needs.take i) 0 (moreN needs.length)).ready = none ∧ (addRows (needs.take i) 0 (moreN needs.length)).n = needs.length := fun i => by
      (refine Mine.e0a4 (addRows_same (needs.take i) 0 (moreN needs.length)) ?_; rintro h1 h2 _ _)
      exact ⟨h2.trans (moreN_ready _), h1.trans (moreN_n _)⟩
    have sumB : ∀ l : List (List Nat), (∀ row ∈ l, row.length ≤ 100) → (l.map List.length).sum ≤ 100 * l.length := by
      intro l
      induction l with
      | nil => intro _; simp
      | cons r l ih =>
        intro h
        have h1 := h r (.head _)
        have h2 := ih fun x hx => h x (.tail _ hx)
        simp; (exact Mine.o23 h1 h2)
    have suB : ∀ i j, ((addRows (needs.take i) 0 (moreN needs.length)).su j).length ≤ 100000 := fun i j => by
      have h1 := addRows_len (needs.take i) 0 (moreN needs.length) j
      have h2 := sumB (needs.take i) fun row hr => (hrow row (List.mem_of_mem_take hr)).1
      rw [moreN_su, List.length_nil, Nat.zero_add] at h1
      have h3 : (needs.take i).length ≤ 1000 := by simp; (exact Mine.o24 hn)
      omega
    -- for k in range(len(needs)): sorter.add(k, *needs[k])
    refine wpAny_execs_cons (wpAny_For (C5.callT (n_range w) Boot.range (args_cons (C5.callB (n_len w) Boot.len (args_cons (C5.name N1.needs (args_nil (C5.len (q1 _ _ hN) (Mine.o14 hn hnsz) fun _ _ => args_nil (C5.range fun r h₆ tk₆ u1 u2 u3 C6 hr6 => ?_)))))))))
    rw [hnsz] at hr6
    have keepF : ∀ {G₁ : LedT} {σ : Srt} {b : SAd}, SorterAt w G₁ b σ → b.R = b.dS → ∀ {I : Addr} {oI : Obj} {vs : Array Value}, lk G₁ I = some oI → oI.data = .fields vs → ¬ Foot b σ.n I := by
      intro G₁ σ b hS hR I oI vs hI hf
      obtain ⟨x1, x2, x3, x4, y1, y2, y3, y4, y5, y6, eD⟩ := hS.dict
      rintro (q | q | q | ⟨k, hk, q | q⟩)
      · rw [q, eD] at hI; cases hI; cases hf
      · (refine Mine.e1a3 hS.n2i.cls ?_; rintro o ho _ hnf)
        rw [q, ho] at hI; cases hI; exact hnf _ hf
      · rw [q, hR, eD] at hI; cases hI; cases hf
      · obtain ⟨⟨t1, t2, e1⟩, _⟩ := hS.node k hk
        rw [q, e1] at hI; cases hI; cases hf
      · obtain ⟨_, _, its', n', e3, _⟩ := hS.node k hk
        rw [q, e3] at hI; cases hI; cases hf
    have hbR : b.R = b.dS := by rw [hb]
    refine C6.for_range (fun i m₁ G₁ => RnN m₁ Nl Hl a.S ∧ (∀ b o, lk G b = some o → lk G₁ b = some o) ∧ SorterAt w G₁ b (addRows (needs.take i) 0 (moreN needs.length))) hh hr6 (Mine.o16 hn) ⟨N1, q1, hS5n⟩ rfl ?_ ?_ ?_
    · rintro i m₂ G₂' G₃' hZ4 u
      (refine Mine.e0a3 hZ4 ?_; clear hZ4; rintro N2 p1 p2)
      exact ⟨N2, fun c o hc => u _ _ (p1 c o hc) (.inl (by rw [q1 _ _ hc]; simp)), p2.up u⟩
    · rintro i tv m₂ G₃ h₇ tk₇ I oI hi hZ5 C7 hI ⟨vsI, hIf⟩ hI0
      (refine Mine.e0a3 hZ5 ?_; clear hZ5; rintro N2 p1 p2)
      have N7 := N2.set (x := Str.ofString "k") (.int (i : Int) tv) (by decide) (by decide) (by decide)
      rw [← hbS] at N7
      obtain ⟨row, hrw⟩ : ∃ row, needs[i]? = some row := ⟨needs[i], by simp [hi]⟩
      obtain ⟨rv, hrv, rl, rits, rn, rfl, hrl, hra⟩ := hNr.get hrw
      obtain ⟨hr1, hr2⟩ := hrow row (List.mem_of_getElem? hrw)
      have hral := hra.length
      refine wpAny_execs_cons (wpAny_Expr (StarCall_ (C7.name N7.sorter (C7.addBound p2 fun bm h₇' tk₇' C7' hbm => C7'.callBound (self := .ref b.S) (args_cons (C7'.name mset_eq (items_star (Subscript_ (C7'.name N7.needs (C7'.name mset_eq (C7'.itemN (lk_fc hbm (p1 _ _ hN)) (Mine.o30 hn hi) hrv ?_)))))))))))
      refine star_seq C7'.F C7'.N (lk_mem (lk_fc hbm (p1 _ _ hrl))) rfl rfl (.inl rfl) rfl (by have : sizeLine = 2 ^ 24 := rfl; simp at hral; omega) fun h₈ F8 N8 => args_nil ?_
      have C8 := C7'.of F8 N8 C7'.D
      refine ⟨C8.at lk_cons_eq, C8.XI, ?_⟩
      rw [List.append_nil]
      have p2' : SorterAt w ((bm, methodObj (.ref 87) (.ref b.S)) :: G₃) b (addRows (needs.take i) 0 (moreN needs.length)) := p2.keep fun c o hc => lk_fc hbm hc
      refine add_oldC C8 hh p2' (aR i).1 (by rw [(aR i).2]; exact hi) hra (by rw [(aR i).2]; exact hr2) (Mine.o33 hr1) (fun j => ?_) (fun i' j => addSu_take i' j) (show A.depth + 1 + 8 < _ by (exact Mine.o19 hd)) (by simp; (exact Mine.o20 hu)) fun h₉ tk₉ G₉ C9 hS9 k9 => ?_
      · have h1 := (addSu_len row (addRows (needs.take i) 0 (moreN needs.length)).su i j).2
        have h2 := suB i j
        (exact Mine.o34 hr1 h1 h2)
      · rw [hbS] at N7
        have htake : needs.take (i + 1) = needs.take i ++ [row] := by rw [List.take_add_one, hrw]; rfl
        refine wpAny_execs_nil ⟨h₉, _, _, _, rfl, C9, k9 _ _ (lk_fc hbm hI) (keepF p2 hbR hI hIf), N7, fun c o hc => k9 _ _ (lk_fc hbm (p1 c o hc)) (fun q => ?_), ?_⟩
        · rw [(aR i).2] at q
          have := q4 c q; rw [hc] at this; cases this
        · rw [htake, addRows_snoc]
          have : 0 + (needs.take i).length = i := by simp; omega
          rw [this]; exact hS9
    · rintro m₂ G₃ h₇ tk₇ hZ6 C7
      (refine Mine.e0a3 hZ6 ?_; clear hZ6; rintro N2 p1 p2)
      rw [List.take_length] at p2
      have hnB : (addRows needs 0 (moreN needs.length)).n = needs.length := by have := (aR needs.length).2; rwa [List.take_length] at this
      have hrB : (addRows needs 0 (moreN needs.length)).ready = none := by have := (aR needs.length).1; rwa [List.take_length] at this
      generalize hσ : addRows needs 0 (moreN needs.length) = σ at *
      have N2' := N2
      rw [← hbS] at N2'
      have suB' : ∀ j, (σ.su j).length ≤ 100000 := fun j => by have := suB needs.length j; rwa [List.take_length, hσ] at this
      -- try: sorter.prepare()
      refine wpAny_join (fun s' => ∃ b' h' tk' m' G' R ring, s' = ⟨h', g, d, tk', os⟩ ∧ C1.Sam b' h' m' G' ∧ RnN m' Nl Hl a.S ∧ m' (Str.ofString "ring") = some (.bool ring) ∧ (∀ c o, lk G c = some o → lk G' c = some o) ∧ SorterAt w G' { b with R := R } σ.prep ∧ lk G R = none ∧
        (if ring = true then Cyc needs.length σ.su else Acyc needs.length σ.su)) ?_ ?_
      · have keepG : ∀ {G₈ : LedT}, (∀ c o, lk G₃ c = some o → c ≠ b.dS → lk G₈ c = some o) → ∀ c o, lk G c = some o → lk G₈ c = some o := fun {G₈} k8 c o hc => k8 c o (p1 c o hc) fun q => by
          have := q4 c (.inl q); rw [hc] at this; cases this
        have nonG : ∀ {R : Addr}, lk G₃ R = none → lk G R = none := fun {R} h => by
          cases q : lk G R with
          | none => rfl
          | some o => rw [p1 _ _ q] at h; cases h
        refine wpAny_Try_except (wpAny_execs_cons (wpAny_Expr (MethodCall_ (C7.name N2'.sorter (C7.sMeth p2 (meth_prepare w) (fun _ _ _ _ _ _ _ _ _ _ _ _ _ => rfl) (callWith_K0 (first := [.ref b.S]) C7.XI (kp_92 w) ?_))))))
        refine prepare_ct C7 hh p2 hrB (by rw [hnB]; exact hsuR) (by rw [hnB]; exact hn) (fun k hk => by have := suB' k; (exact Mine.o56 this)) (show A.depth + 1 + 6 < _ by (exact Mine.o57 hd)) (by simp; (exact Mine.o58 hu)) ?_ ?_
        · intro b₈ h₈ tk₈ G₈ R T8 C8 hS8 k8 hRf hac
          refine wpAny_execs_cons (wpAny_Assign_Name (wpAny_Constant_bool (C8.store fun h₉ tk₉ C9 => wpAny_execs_nil (wpAny_execs_nil ⟨b₈, _, _, _, _, R, false, rfl, ⟨T8, C9⟩, N2.set _ (by decide) (by decide) (by decide), mset_eq, keepG k8, hS8, nonG hRf, ?_⟩))))
          rw [if_neg (by decide), ← hnB]; exact hac
        · intro e h₈ tk₈ G₈ R fl hS8 k8 hRf hcy
          refine Cx.caught fl rfl rfl fun b₉ h₉ T9 C9 => ?_
          have C9' := C9.mark (v := some (.ref e))
          refine wpAny_execs_cons (wpAny_Assign_Name (wpAny_Constant_bool (C9'.store fun h₁₀ tk₁₀ C10 => wpAny_execs_nil ⟨b₉, _, _, _, _, R, true, rfl, ⟨T9, C10.unmark⟩, N2.set _ (by decide) (by decide) (by decide), mset_eq, keepG k8, hS8, nonG hRf, ?_⟩)))
          rw [if_pos rfl, ← hnB]; exact hcy
      · rintro s' hZ7
        obtain ⟨b₈, h₈, tk₈, m₈, G₈, R, ring, rfl, ⟨T8, C8⟩, N8, hring, k8, hS8, hRf, hcyc⟩ := hZ7
        -- heap, log, hour = ([], [], 0)
        refine wpAny_execs_cons (Assign_Tuple_swapped (names := [Str.ofString "heap", Str.ofString "log", Str.ofString "hour"]) (hw := by kernel_rfl) (Tuple_ (args_cons (List_ (args_nil (C8.newList (by simp) fun Hp h₉ C9 hHp => args_cons (List_ (args_nil (C9.newList (by simp) fun Lg h₁₀ C10 hLg => args_cons (c_int fun th tk₁₀ => args_nil (C10.newTuple (by simp) fun Tp h₁₁ C11 hTp => ?_)))))))))))
        show wpAny _ _ (unpackItems (.ref Tp) ([Value.ref Hp, Value.ref Lg, Value.int 0 th].toArray).size none) _ _ _
        refine unpackItems_tuple hh (C11.isTuple lk_cons_eq) fun h₁₂ he => ?_
        have C12 := C11.ext he
        show wpAny _ _ (assignInOrder (_ :: _ :: _ :: []) (Value.int 0 th :: Value.ref Lg :: Value.ref Hp :: [])) _ _ _
        refine assignInOrder_cons (bindName_ (C12.store fun h₁₃ tk₁₃ C13 => assignInOrder_cons (bindName_ (C13.store fun h₁₄ tk₁₄ C14 => assignInOrder_cons (bindName_ (C14.store fun h₁₅ tk₁₅ C15 => assignInOrder_nil ?_))))))
        have hLp : Hp ≠ Lg := lk_ne lk_cons_eq hLg
        have hPp : Hp ≠ Tp := lk_ne (lk_fc hLg lk_cons_eq) hTp
        have hLTp : Lg ≠ Tp := lk_ne lk_cons_eq hTp
        have k15 : ∀ c o, lk G₈ c = some o → lk ((Tp, tupOf [Value.ref Hp, Value.ref Lg, Value.int 0 th].toArray 0) :: (Lg, listOf [].toArray 0) :: (Hp, listOf [].toArray 0) :: G₈) c = some o := fun c o hc => lk_fc hTp (lk_fc hLg (lk_fc hHp hc))
        have P15 : lk ((Tp, tupOf [Value.ref Hp, Value.ref Lg, Value.int 0 th].toArray 0) :: (Lg, listOf [].toArray 0) :: (Hp, listOf [].toArray 0) :: G₈) Hp = some (listOf #[] 0) := lk_fc hTp (lk_fc hLg lk_cons_eq)
        have L15 : lk ((Tp, tupOf [Value.ref Hp, Value.ref Lg, Value.int 0 th].toArray 0) :: (Lg, listOf [].toArray 0) :: (Hp, listOf [].toArray 0) :: G₈) Lg = some (listOf #[] 0) := lk_fc hTp lk_cons_eq
        have hnP : σ.prep.n = needs.length := hnB
        have nfH : ¬ Foot { b with R := R } needs.length Hp := fun q => foot_some hS8 (by simp [Srt.prep]) (by rw [hnP]; exact q) hHp
        have nfL : ¬ Foot { b with R := R } needs.length Lg := fun q => foot_some hS8 (by simp [Srt.prep]) (by rw [hnP]; exact q) (by
          cases e : lk G₈ Lg with
          | none => rfl
          | some o => rw [lk_fc (o' := listOf [].toArray 0) hHp e] at hLg; cases hLg)
        have frG : ∀ c, Foot { b with R := R } needs.length c → lk G c = none := by
          rintro c (q | q | q | q)
          · exact q4 c (.inl q)
          · exact q4 c (.inr (.inl q))
          · rw [show c = R from q]; exact hRf
          · exact q4 c (.inr (.inr (.inr q)))
        have hS15 := hS8.keep k15
        have kG15 : ∀ c o, lk G c = some o → lk ((Tp, tupOf [Value.ref Hp, Value.ref Lg, Value.int 0 th].toArray 0) :: (Lg, listOf [].toArray 0) :: (Hp, listOf [].toArray 0) :: G₈) c = some o := fun c o hc => k15 _ _ (k8 c o hc)
        have hLgG : lk G Lg = none := by
          cases e : lk G Lg with
          | none => rfl
          | some o => rw [lk_fc (o' := listOf [].toArray 0) hHp (k8 _ _ e)] at hLg; cases hLg
        generalize ((Tp, tupOf [Value.ref Hp, Value.ref Lg, Value.int 0 th].toArray 0) :: (Lg, listOf [].toArray 0) :: (Hp, listOf [].toArray 0) :: G₈) = G15 at *
        clear C14 C13 C12 C11 C10 C9 k15
        generalize hb' : ({ b with R := R } : SAd) = b' at *
        have hbS' : b'.S = a.S := by rw [← hb']; exact hbS
        refine wpAny_execs_cons ?_
        refine Cx.while_ (n₀ := log.length) (fun n₃ m₁ G₁ => RnN m₁ Nl Hl a.S ∧ m₁ (Str.ofString "ring") = some (.bool ring) ∧ m₁ (Str.ofString "heap") = some (.ref Hp) ∧ m₁ (Str.ofString "log") = some (.ref Lg) ∧ (∀ c o, lk G c = some o → lk G₁ c = some o) ∧
          ∃ (σ' : Srt) (hp : List Pr) (hr : Int) (dn rest : List LogE), SorterAt w G₁ b' σ' ∧ σ'.n = needs.length ∧ Runs hours σ' hp hr rest ∧ (∃ t, m₁ (Str.ofString "hour") = some (.int hr t)) ∧ (∃ its n, lk G₁ Hp = some (listOf its n) ∧ All2 (IsPr G₁) its.toList hp) ∧
            (∃ its n, lk G₁ Lg = some (listOf its n) ∧ All2 (IsLog G₁) its.toList dn) ∧ dn ++ rest = log ∧ n₃ = rest.length) C15 ⟨?_, ?_, mset_eq, mset_ne (by decide) mset_eq, kG15, σ.prep, [], 0, [], log, hS15, hnP, hR, ⟨th, mset_ne (by decide) (mset_ne (by decide) mset_eq)⟩, ⟨_, _, P15, .nil⟩, ⟨_, _, L15, .nil⟩, rfl, rfl⟩ ?_
        · exact ((N8.set _ (by decide) (by decide) (by decide)).set _ (by decide) (by decide) (by decide)).set _ (by decide) (by decide) (by decide)
        · exact mset_ne (by decide) (mset_ne (by decide) (mset_ne (by decide) hring))
        rintro n₃ m₁ G₁' h₂₀ tk₂₀ C20 hZ8
        obtain ⟨N20, hring20, hheap, hlog, kG, σ', hpl, hr, dn, rest, hS20, hn20, hRuns, ⟨thr, hhour⟩, ⟨pits, pn, hP, hPA⟩, ⟨lits, ln, hL, hLA⟩, hdn, rfl⟩ := hZ8
        have N20' := N20
        rw [← hbS'] at N20'
        cases hRuns with
        | @stop _ _ _ l hrd hll2 hact =>
          refine wpAny_isTrue_value (MethodCall_ (C20.name N20'.sorter (C20.sMeth hS20 (meth_is_active w) (fun _ _ _ _ _ _ _ _ _ _ _ _ _ => rfl) (callWith_K0 (first := [.ref b'.S]) C20.XI (kp_106 w) ?_))))
          refine isActive_ct C20 hS20 hrd (Mine.o68 hll2) (show A.depth + 1 + 3 < _ by (exact Mine.o12 hd)) (by simp; (exact Mine.o13 hu)) fun h₂₁ tk₂₁ C21 => wpAny_truthy_bool ?_
          rw [if_neg (by rw [hact]; decide)]
          refine wpAny_execs_nil ?_
          refine wpAny_execs_cons (wpAny_Return_some (Tuple_ (args_cons (C21.name hring20 (args_cons (C21.name hlog (args_nil (C21.newTuple (by simp) fun RT h₂₂ C22 hRT => ?_))))))))
          refine ⟨b₈, _, _, T8, C22, fun h₀' T' C23 => ret h₀' _ _ _ RT 0 ring Lg lits ln T' C23 (fun c o hc => lk_fc hRT (kG c o hc)) lk_cons_eq (lk_fc hRT hL) ?_ ?_ hLgG⟩
          · rw [List.append_nil] at hdn
            rw [← hdn]
            exact hLA.mono fun v e h => h.keep fun b its n hb => lk_fc hRT hb
          · exact hcyc
        | @step _ _ _ l work rest' hrd hact hlin hll2 hpl2 hne hwk hwn hnp hsu2 hsul hnext =>
          refine wpAny_isTrue_value (MethodCall_ (C20.name N20'.sorter (C20.sMeth hS20 (meth_is_active w) (fun _ _ _ _ _ _ _ _ _ _ _ _ _ => rfl) (callWith_K0 (first := [.ref b'.S]) C20.XI (kp_106 w) ?_))))
          refine isActive_ct C20 hS20 hrd (Mine.o78 hll2) (show A.depth + 1 + 3 < _ by (exact Mine.o12 hd)) (by simp; (exact Mine.o13 hu)) fun h₂₁ tk₂₁ C21 => wpAny_truthy_bool ?_
          rw [if_pos (by rw [hact])]
          -- free = sorter.get_ready()
          refine wpAny_execs_cons (wpAny_Assign_Name (MethodCall_ (C21.name N20'.sorter (C21.sMeth hS20 (meth_get_ready w) (fun _ _ _ _ _ _ _ _ _ _ _ _ _ => rfl) (callWith_K0 (first := [.ref b'.S]) C21.XI (kp_99 w) ?_)))))
          refine getReady_ct C21 hh hS20 hrd (fun k hk => (hlin k hk).1) (Mine.o78 hll2) (show A.depth + 1 + 3 < _ by (exact Mine.o12 hd)) (by simp; (exact Mine.o13 hu)) fun h₂₂ tk₂₂ G₂₂ Fr fits fn C22 hS22 k22 hFr0 hFr hFA => ?_
          rw [hn20] at k22
          refine C22.store fun h₂₃ tk₂₃ C23 => ?_
          have nft : ∀ {c : Addr} {its : Array Value} {n : Nat}, lk G₁' c = some (tupOf its n) → ¬ Foot b' needs.length c := fun {c its n} hc => by
            have := foot_tuple hS20 (by rw [hrd]; simp) hc
            rwa [hn20] at this
          have hHits : ∀ k, k < hours.length → ∃ tv, hits.toList[k]? = some (.int (hours.getD k 0) tv) := fun k hk => by
            obtain ⟨v, hv, tv, rfl⟩ := hHr.get (i := k) (b := hours[k]) (by simp [hk])
            exact ⟨tv, by rw [hv]; simp [hk]⟩
          -- for k in free
          refine wpAny_execs_cons (wpAny_For (C23.name mset_eq ?_))
          refine C23.for_tuple (fun i m₂ G₂ => RnN m₂ Nl Hl a.S ∧ m₂ (Str.ofString "ring") = some (.bool ring) ∧ m₂ (Str.ofString "heap") = some (.ref Hp) ∧ m₂ (Str.ofString "log") = some (.ref Lg) ∧ m₂ (Str.ofString "hour") = some (.int hr thr) ∧ m₂ (Str.ofString "free") = some (.ref Fr) ∧ lk G₂ Fr = some (tupOf fits fn) ∧ (∀ c o, lk G c = some o → lk G₂ c = some o) ∧
            SorterAt w G₂ b' (σ'.out l) ∧ (∃ its n, lk G₂ Hp = some (listOf its n) ∧ All2 (IsPr G₂) its.toList (pushAll hours hr (l.take i) hpl)) ∧ (∃ its n, lk G₂ Lg = some (listOf its n) ∧ All2 (IsLog G₂) its.toList dn)) hh
            ⟨N20.set _ (by decide) (by decide) (by decide), mset_ne (by decide) hring20, mset_ne (by decide) hheap, mset_ne (by decide) hlog, mset_ne (by decide) hhour, mset_eq, hFr, fun c o hc => k22 _ _ (kG c o hc) (fun q => by rw [frG c q] at hc; cases hc), hS22,
              ⟨_, _, k22 _ _ hP nfH, hPA.mono fun v p h => h.keepT fun c its n hc => k22 _ _ hc (nft hc)⟩, ⟨_, _, k22 _ _ hL nfL, hLA.mono fun v p h => h.keep fun c its n hc => k22 _ _ hc (nft hc)⟩⟩ (fun _ _ _ hj => hj.2.2.2.2.2.2.1) rfl ?_ ?_ ?_
          · rintro i m₂ G₂ G₃' hZ9 u
            (refine Mine.e0a11 hZ9 ?_; clear hZ9; rintro z1 z2 z3 z4 z5 z6 z7 z8 z9 ⟨pi, pn', z10, z11⟩ ⟨li, ln', z12, z13⟩)
            have ut : ∀ c its n, lk G₂ c = some (tupOf its n) → lk G₃' c = some (tupOf its n) := fun c its n hc => u _ _ hc (.inr (by simp))
            have kGG : ∀ c o, lk G c = some o → lk G₂₂ c = some o := fun c o hc => k22 _ _ (kG c o hc) (fun q => by rw [frG c q] at hc; cases hc)
            exact ⟨z1, z2, z3, z4, z5, z6, ut _ _ _ z7, fun c o hc => u _ _ (z8 c o hc) (.inl (by rw [kGG c o hc]; simp)), z9.up u, ⟨pi, pn', u _ _ z10 (.inr (by simp)), z11.mono fun v p h => h.keepT ut⟩, ⟨li, ln', u _ _ z12 (.inr (by simp)), z13.mono fun v p h => h.keep ut⟩⟩
          · rintro i v m₂ G₂ h₂₄ tk₂₄ I oI hv hZ10 C24 hI ⟨vsI, hIf⟩ hI0
            (refine Mine.e0a11 hZ10 ?_; clear hZ10; rintro z1 z2 z3 z4 z5 z6 z7 z8 z9 ⟨pi, pn', z10, z11⟩ ⟨li, ln', z12, z13⟩)
            obtain ⟨k, hk', tv, rfl⟩ := hFA.getL hv
            obtain ⟨hkn, hkh⟩ := hlin k (List.mem_of_getElem? hk')
            obtain ⟨tw, htw⟩ := hHits k hkh
            refine wpAny_execs_cons (wpAny_Expr (C24.callG (g_heappush w) (kp_148 w) (args_cons (C24.name (mset_ne (by decide) z3) (args_cons (Tuple_ (args_cons (wpAny_BinOp (C24.name (mset_ne (by decide) z5) (Subscript_ (C24.name (mset_ne (by decide) z1.hours) (C24.name mset_eq (C24.itemN (z8 _ _ hH) (Mine.o90 hn hn20 hkn) htw (o_add fun ts tks => ?_))))))))))))))
            refine args_cons (C24.name mset_eq (args_nil (C24.newTuple (by simp) fun Pt h₂₅ C25 hPt => args_nil ⟨C25.XI, ?_⟩)))
            have kPt : ∀ c its n, lk G₂ c = some (tupOf its n) → lk ((Pt, tupOf [Value.int (hr + hours.getD k 0) ts, Value.int (k : Int) tv].toArray 0) :: G₂) c = some (tupOf its n) := fun c its n hc => lk_fc hPt hc
            have hvp : IsPr ((Pt, tupOf [Value.int (hr + hours.getD k 0) ts, Value.int (k : Int) tv].toArray 0) :: G₂) (.ref Pt) (hr + hours.getD k 0, (k : Int)) := ⟨Pt, ts, tv, 0, rfl, lk_cons_eq⟩
            have hlen4 : (pushAll hours hr (l.take i) hpl).length < 2 ^ 18 := by rw [pushAll_len]; simp; (exact Mine.o97 hll2 hpl2)
            refine heappush_ct C25 (show A.depth + 1 + 2 < _ by (exact Mine.o100 hd)) (by simp; (exact Mine.o13 hu)) (lk_fc hPt z10) (z11.mono fun v p h => h.keepT kPt) hvp hlen4 fun h₂₆ tk₂₆ pi' pn'' C26 hpA => ?_
            have hPtH : Hp ≠ Pt := lk_ne z10 hPt
            have k26 : ∀ c o, lk G₂ c = some o → c ≠ Hp → lk (Mine.st ((Pt, tupOf [Value.int (hr + hours.getD k 0) ts, Value.int (k : Int) tv].toArray 0) :: G₂) Hp (listOf pi' pn'')) c = some o := fun c o hc hne => lk_st_ne hne (lk_fc hPt hc)
            have t26 : ∀ c its n, lk ((Pt, tupOf [Value.int (hr + hours.getD k 0) ts, Value.int (k : Int) tv].toArray 0) :: G₂) c = some (tupOf its n) → lk (Mine.st ((Pt, tupOf [Value.int (hr + hours.getD k 0) ts, Value.int (k : Int) tv].toArray 0) :: G₂) Hp (listOf pi' pn'')) c = some (tupOf its n) := fun c its n hc => lk_st_ne (tup_ne_list hc (lk_fc hPt z10)) hc
            have htake : l.take (i + 1) = l.take i ++ [k] := by rw [List.take_add_one, hk']; rfl
            have hpush1 : pushAll hours hr (l.take (i + 1)) hpl = hpush (pushAll hours hr (l.take i) hpl) (hr + hours.getD k 0, (k : Int)) := by rw [htake]; unfold pushAll; rw [List.foldl_append]; rfl
            have hHG : lk G Hp = none := by
              cases e : lk G Hp with
              | none => rfl
              | some o => exact absurd rfl (lk_ne (k8 _ _ e) hHp)
            refine wpAny_execs_nil ⟨h₂₆, _, _, _, rfl, C26, k26 _ _ hI (fun q => by rw [q, z10] at hI; cases hI; cases hIf), z1.set _ (by decide) (by decide) (by decide), mset_ne (by decide) z2, mset_ne (by decide) z3, mset_ne (by decide) z4, mset_ne (by decide) z5, mset_ne (by decide) z6, t26 _ _ _ (lk_fc hPt z7), fun c o hc => k26 _ _ (z8 c o hc) (lk_ne hc hHG), ?_, ⟨_, _, lk_st_eq, ?_⟩, ⟨_, _, k26 _ _ z12 (fun q => hLp q.symm), ?_⟩⟩
            · have z9' := z9.keep (G' := (Pt, tupOf [Value.int (hr + hours.getD k 0) ts, Value.int (k : Int) tv].toArray 0) :: G₂) fun c o hc => lk_fc hPt hc
              exact z9'.stO (by show ¬ Foot b' σ'.n Hp; rw [hn20]; exact nfH) (ne_cls (lk_fc hPt z10) z9'.inst (by simp)) (by simp)
            · rw [hpush1]; exact hpA.mono fun v p h => h.keepT t26
            · exact z13.mono fun v p h => h.keep fun c its n hc => t26 _ _ _ (lk_fc hPt hc)
          · rintro m₂ G₂ h₂₄ tk₂₄ hZ11 C24
            (refine Mine.e0a11 hZ11 ?_; clear hZ11; rintro z1 z2 z3 z4 z5 z6 z7 z8 z9 ⟨pi, pn', z10, z11⟩ ⟨li, ln', z12, z13⟩)
            have hfl : fits.toList.length = l.length := hFA.length
            rw [hfl, List.take_length] at z11
            have hHG : lk G Hp = none := by
              cases e : lk G Hp with
              | none => rfl
              | some o => exact absurd rfl (lk_ne (k8 _ _ e) hHp)
            have hlen4 : (pushAll hours hr l hpl).length < 2 ^ 18 := by rw [pushAll_len]; (exact Mine.o102 hll2 hpl2)
            -- hour, work = heappop(heap)
            refine wpAny_execs_cons (Assign_Tuple (C24.callG (g_heappop w) (kp_155 w) (args_cons (C24.name z3 (args_nil ⟨C24.XI, heappop_ct C24 (show A.depth + 1 + 3 < _ by (exact Mine.o12 hd)) (by simp; (exact Mine.o106 hu)) z10 z11 hne hlen4 fun h₂₅ tk₂₅ pi' pn'' v C25 hv hpA => ?_⟩)))))
            (refine Mine.e4a2 hv ?_; clear hv; rintro pt t1 t2 pn3 rfl hpt)
            have t25 : ∀ c its n, lk G₂ c = some (tupOf its n) → lk (Mine.st G₂ Hp (listOf pi' pn'')) c = some (tupOf its n) := fun c its n hc => lk_st_ne (tup_ne_list hc z10) hc
            refine assign_Tuple_tuple hh (C25.isTuple (t25 _ _ _ hpt)) rfl rfl fun h₂₆ he => ?_
            have C26 := C25.ext he
            show wpAny _ _ (assignInOrder (_ :: _ :: []) (Value.int (hpop (pushAll hours hr l hpl)).1.1 t1 :: Value.int (hpop (pushAll hours hr l hpl)).1.2 t2 :: [])) _ _ _
            refine assignInOrder_cons (assign_Name (C26.store fun h₂₇ tk₂₇ C27 => assignInOrder_cons (assign_Name (C27.store fun h₂₈ tk₂₈ C28 => assignInOrder_nil ?_))))
            rw [hwk] at C28
            have z9' : SorterAt w (Mine.st G₂ Hp (listOf pi' pn'')) b' (σ'.out l) := z9.stO (by show ¬ Foot b' σ'.n Hp; rw [hn20]; exact nfH) (ne_cls z10 z9.inst (by simp)) (by simp)
            have N28 := (z1.set (x := Str.ofString "hour") (.int (hpop (pushAll hours hr l hpl)).1.1 t1) (by decide) (by decide) (by decide)).set (x := Str.ofString "work") (.int (work : Int) t2) (by decide) (by decide) (by decide)
            have N28' := N28
            rw [← hbS'] at N28'
            -- sorter.done(work)
            refine wpAny_execs_cons (wpAny_Expr (MethodCall_ (C28.name N28'.sorter (C28.sMeth z9' (meth_done w) (fun _ _ _ _ _ _ _ _ _ _ _ _ _ => rfl) (callWith_K C28.X (kp_120 w) (args_cons (C28.name mset_eq (args_nil ⟨C28.XI, ?_⟩))))))))
            refine done_ct C28 hh z9' rfl hwn hnp hsu2 (by simp; show (σ'.su work).length < _; (exact Mine.o114 hsul)) (show A.depth + 1 + 3 < _ by (exact Mine.o12 hd)) (by simp; (exact Mine.o13 hu)) fun h₂₉ tk₂₉ G₂₉ C29 hS29 k29 => ?_
            have k29' : ∀ c o, lk G₂ c = some o → c ≠ Hp → ¬ Foot b' needs.length c → lk G₂₉ c = some o := fun c o hc q1 q2 => k29 _ _ (lk_st_ne q1 hc) (by show ¬ Foot b' σ'.n c; rw [hn20]; exact q2)
            have nft2 : ∀ {c : Addr} {its : Array Value} {n : Nat}, lk G₂ c = some (tupOf its n) → ¬ Foot b' needs.length c := fun {c its n} hc => by
              have := foot_tuple z9 (by simp [Srt.out]) hc
              rwa [show (σ'.out l).n = needs.length from hn20] at this
            have t29 : ∀ c its n, lk G₂ c = some (tupOf its n) → lk G₂₉ c = some (tupOf its n) := fun c its n hc => k29' _ _ hc (tup_ne_list hc z10) (nft2 hc)
            have L29 := k29' _ _ z12 (fun q => hLp q.symm) nfL
            have P29 : lk G₂₉ Hp = some (listOf pi' pn'') := k29 _ _ lk_st_eq (by show ¬ Foot b' σ'.n Hp; rw [hn20]; exact nfH)
            have hllen : li.size = dn.length := by simpa using z13.length
            have hdl : dn.length ≤ 1000 := by
              have := congrArg List.length hdn
              simp at this; (exact Mine.o115 hll this)
            -- log.append((free, hour, work))
            refine wpAny_execs_cons (wpAny_Expr (MethodCall_ (C29.name (mset_ne (by decide) (mset_ne (by decide) z4)) (C29.listMeth L29 PySem.F.slot_list_append PySem.F.type_list_append (callWith_method1 (args_cons (Tuple_ (args_cons (C29.name (mset_ne (by decide) (mset_ne (by decide) z6)) (args_cons (C29.name (mset_ne (by decide) mset_eq) (args_cons (C29.name mset_eq (args_nil (C29.newTuple (by simp) fun Lt h₃₀ C30 hLt => args_nil (C30.append (lk_fc hLt L29) (Mine.o120 hllen hdl) fun h₃₁ C31 => ?_))))))))))))))))
            have t31 : ∀ c its n, lk ((Lt, tupOf [Value.ref Fr, Value.int (hpop (pushAll hours hr l hpl)).1.1 t1, Value.int (work : Int) t2].toArray 0) :: G₂₉) c = some (tupOf its n) →
                lk (Mine.st ((Lt, tupOf [Value.ref Fr, Value.int (hpop (pushAll hours hr l hpl)).1.1 t1, Value.int (work : Int) t2].toArray 0) :: G₂₉) Lg (listOf (li.push (.ref Lt)) (ln' + 1))) c = some (tupOf its n) := fun c its n hc => lk_st_ne (tup_ne_list hc (lk_fc hLt L29)) hc
            refine wpAny_execs_nil ⟨h₃₁, _, _, _, rest'.length, rfl, C31, by simp, N28, mset_ne (by decide) (mset_ne (by decide) z2), mset_ne (by decide) (mset_ne (by decide) z3), mset_ne (by decide) (mset_ne (by decide) z4), fun c o hc => lk_st_ne (lk_ne hc hLgG) (lk_fc hLt (k29' _ _ (z8 c o hc) (lk_ne hc hHG) (fun q => by rw [frG c q] at hc; cases hc))),
              (σ'.out l).done work, (hpop (pushAll hours hr l hpl)).2, (hpop (pushAll hours hr l hpl)).1.1, dn ++ [(l, (hpop (pushAll hours hr l hpl)).1.1, work)], rest', ?_, ?_, hnext, ⟨t1, mset_ne (by decide) mset_eq⟩, ⟨_, _, lk_st_ne hLp (lk_fc hLt P29), ?_⟩, ⟨_, _, lk_st_eq, ?_⟩, by rw [← hdn]; simp, rfl⟩
            · have hS30 := hS29.keep (G' := (Lt, tupOf [Value.ref Fr, Value.int (hpop (pushAll hours hr l hpl)).1.1 t1, Value.int (work : Int) t2].toArray 0) :: G₂₉) fun c o hc => lk_fc hLt hc
              exact hS30.stO (by rw [done_n, hn20]; exact nfL) (ne_cls (lk_fc hLt L29) hS30.inst (by simp)) (by simp)
            · rw [done_n, hn20]
            · exact hpA.mono fun v p h => h.keepT fun c its n hc => t31 _ _ _ (lk_fc hLt (t29 _ _ _ hc))
            · refine (z13.mono fun v p h => h.keep fun c its n hc => t31 _ _ _ (lk_fc hLt (t29 _ _ _ hc))).pushR ?_
              exact ⟨Lt, 0, Fr, fits, fn, t1, t2, rfl, t31 _ _ _ lk_cons_eq, t31 _ _ _ (lk_fc hLt (t29 _ _ _ z7)), hFA⟩
end
end Mine
end TRn2

section TCe1
open PySem PySem.W PyProof.Rows PySem.Calls
namespace Mine
set_option maxRecDepth 100000
theorem cellsFrom_addr : ∀ (names : List (Str × NameKind)) (n : Nat) (acc : List (Str × Addr)) (lo : Nat), (acc.map (·.2)).Nodup → (∀ p ∈ acc, lo ≤ p.2 ∧ p.2 < n) → lo ≤ n → ((cellsFrom n names acc).map (·.2)).Nodup ∧ ∀ p ∈ cellsFrom n names acc, lo ≤ p.2
  | [], n, acc, lo, h1, h2, _ => ⟨h1, fun p hp => (h2 p hp).1⟩
  | (name, kind) :: r, n, acc, lo, h1, h2, h3 => by
    unfold cellsFrom
    split
    · refine cellsFrom_addr r (n + 1) ((name, n) :: acc) lo ?_ (fun p hp => ?_) (Mine.o268 h3)
      · rw [List.map_cons, List.nodup_cons]
        refine ⟨fun q => ?_, h1⟩
        (refine Mine.e1a2 (List.mem_map.mp q) ?_; rintro p hp e)
        have := (h2 p hp).2
        rw [show p.2 = n from e] at this
        exact Nat.lt_irrefl _ this
      · rcases List.mem_cons.mp hp with rfl | hp
        · exact ⟨h3, by show n < n + 1; (exact Mine.o279)⟩
        · exact ⟨(h2 p hp).1, Nat.lt_succ_of_lt (h2 p hp).2⟩
    · exact cellsFrom_addr r n acc lo h1 h2 h3
theorem cellsAre_addr {cm : Str → Option Value} {cs : List (Str × Addr)} {cells : List (Addr × Obj)} (h : CellsAre cm cs cells) : cells.map (·.1) = cs.map (·.2) := by
  induction h with
  | nil => rfl
  | cons _ _ ih => simp [ih]
section
variable {w : World} {A : Around} {env : Env} {h₀ : Heap} {m : Str → Option Value} {G : LedT} {hp : Heap} {g : Array GenState} {d : Drawn} {tk : Nat} {os : OsState} {Q E : Value → Shared → Prop}
/-- the call of a def with cells, that never raises -/
theorem Cx.enterK {name qual : Str} {params : Arguments} {body : List Stmt} {scope : Scope} {dV kV doc pm cdv ct oc : Value} {an od : Option Addr} {osl : Array (Option Value)} {f : Addr} {args : List Value} {binds : List (Str × Value)}
    (C : Cx w A env h₀ hp m G)
    (ho : (Mine.hd.heap_1 w.params).lookup f = some ⟨oc, od, .func (fnOf name qual params body scope dV kV doc pm an cdv ct), osl⟩) (hcd : codeIn (Mine.hd.heap_1 w.params) cdv qual = true)
    (hroom : A.depth < recursionLimit)
    (hbind : BindsTo ⟨hp, g, d, tk, os⟩ (fnOf name qual params body scope dV kV doc pm an cdv ct) ⟨args, []⟩ binds)
    (hkind : ∀ n, ∀ x ∈ binds, scope.names.lookup x.1 = some .local ∨ (scope.names.lookup x.1 = some .cell ∧ ((cellsFrom n scope.names []).lookup x.1).isSome = true)) (hnd : ((cellsFrom 0 scope.names []).map (·.1)).Nodup)
    (hco : scope.isCoroutine = false) (hgen : scope.isGenerator = false) (hk : scope.kind = .function)
    (h : ∀ gb L' h₁ tk' cells, Cx w (A.deeper (envOfC qual scope L' f cdv)) (envOfC qual scope L' f cdv) gb h₁ (bindL (envOfC qual scope L' f cdv).kindOf binds fun _ => none) (cells ++ G) →
      CellsAre (bindC (envOfC qual scope L' f cdv).kindOf binds fun _ => none) (cellsFrom (L' + 1) scope.names []) cells → (∀ p ∈ G, p.1 < L') →
      wpAny (model P w) (A.deeper (envOfC qual scope L' f cdv)) (execs body (envOfC qual scope L' f cdv))
        (Leave w A env h₀ m (A.deeper (envOfC qual scope L' f cdv)) (envOfC qual scope L' f cdv) gb Q)
        (fun _ _ => False) ⟨h₁, g, d, tk', os⟩) :
    wpAny (model P w) A (call (.ref f) args) Q E ⟨hp, g, d, tk, os⟩ := by
  obtain ⟨⟨A₀, base, outer, B, hA, hXB, hTB, hDi⟩, F, N, D, X, ⟨mean, mg, mb, T⟩, hf, hke⟩ := C
  refine wpAny_call ?_
  have X' := X.keeps F.keep
  refine callX_cells B F N T.nolimit hA hf hke (X' _ _ ho) rfl (codeRec_of X' hcd) hroom hbind hkind hnd (fun gb L' h₁ tk' cells FG F' N' Y B' st' lt => ?_) hco hgen hk
  have hA' : (A.deeper (envOfC qual scope L' f cdv)).frames = some (envOfC qual scope L' f cdv :: env :: outer) := by
    rw [Around.deeper]; show A.frames.map _ = _; rw [hA]; rfl
  have hcs := cellsFrom_addr scope.names (L' + 1) [] (L' + 1) (by simp) (by simp) (Mine.o309)
  have ha := cellsAre_addr Y
  have D' : ND (cells ++ G) := by
    unfold ND
    rw [List.map_append, List.nodup_append]
    refine ⟨by rw [ha]; exact hcs.1, D, fun x hx y hy q => ?_⟩
    rw [ha] at hx
    (refine Mine.e1a2 (List.mem_map.mp hx) ?_; rintro p hp' rfl)
    (refine Mine.e1a2 (List.mem_map.mp hy) ?_; rintro p2 hp2 rfl)
    have h1 := hcs.2 p hp'
    have h2 := lt p2 hp2
    rw [show p.2 = p2.1 from q] at h1
    exact Nat.lt_irrefl _ (Nat.lt_of_lt_of_le h2 (Nat.le_of_succ_le h1))
  refine wpAny_mono (h gb L' h₁ _ cells ⟨⟨_, _, _, B', hA', hXB, hTB, dictsPush hf FG hDi⟩, F', N', D', X.keeps st', ⟨mean, mg, mb, T.keeps st'⟩, rfl, hk⟩ Y lt) (fun fl s' x => ?_) (fun _ _ x => x.elim)
  (refine Mine.e2a2 x ?_; clear x; rintro m' G' C' k)
  exact leaveK_ C'.F C'.N fun kF kN => by
    have := k ⟨⟨A₀, base, outer, B, hA, hXB, hTB, hDi⟩, kF, kN, C'.D, X, ⟨mean, mg, mb, T⟩, hf, hke⟩
    cases fl <;> exact this
/-- a name that is a cell -/
theorem Cx.nameC (C : Cx w A env h₀ hp m G) {x : Str} {pos : Pos} {c : Addr} {o : Obj} {v : Value} (hc : env.cells.lookup x = some c) (ho : lk G c = some o) (hd : o.data = .cell (some v)) (h : Q v ⟨hp, g, d, tk, os⟩)
    (hl : env.kindOf x = some .cell := by rfl) (hb : (x == ("__debug__" : Str)) = false := by decide) : wpAny (model P w) A (eval (.Name x pos) env) Q E ⟨hp, g, d, tk, os⟩ :=
  wpAny_Name (wpAny_loadName_cell C.hke hl hc ⟨o, C.at ho, hd⟩ h) hb
theorem Cx.storeC (C : Cx w A env h₀ hp m G) {x : Str} {c : Addr} {o : Obj} {v₀ : Option Value} {v : Value} {Q : Unit → Shared → Prop} (hc : env.cells.lookup x = some c) (ho : lk G c = some o) (hd : o.data = .cell v₀)
    (h : ∀ h' o', Cx w A env h₀ h' m (st G c o') → o'.data = .cell (some v) → Q () ⟨h', g, d, tk, os⟩)
    (hl : env.kindOf x = some .cell := by rfl) : wpAny (model P w) A (storeName env x v) Q E ⟨hp, g, d, tk, os⟩ := by
  refine wpAny_storeName_cell C.hke hl hc ⟨o, C.at ho, hd⟩ fun h' hv hs => ?_
  (refine Mine.e1a2 hv ?_; clear hv; rintro o' ho' hd')
  exact h h' o' (C.upd ho hs ho') hd'
/-- a cell of the outer frame, within a comprehension -/
theorem Cx.ccell (C : Cx w A env h₀ hp m G) {scope : Scope} {cl : List (Str × Addr)} {Lc c : Addr} {o : Obj} {x : Str} {pos : Pos} {v : Value} (hc : cl.lookup x = some c) (ho : lk G c = some o) (hd : o.data = .cell (some v)) (h : Q v ⟨hp, g, d, tk, os⟩)
    (hl : (compEnvC scope cl Lc env).kindOf x = some .cell := by rfl) (hk : (compEnvC scope cl Lc env).scope.kind = .function := by rfl) (hb : (x == ("__debug__" : Str)) = false := by decide) :
    wpAny (model P w) A (eval (.Name x pos) (compEnvC scope cl Lc env)) Q E ⟨hp, g, d, tk, os⟩ :=
  wpAny_Name (wpAny_loadName_cell hk hl hc ⟨o, C.at ho, hd⟩ h) hb
end
end Mine
end TCe1

section TCe2
open PySem PySem.W PyProof.Rows PySem.Calls
namespace Mine
set_option maxRecDepth 100000
def IsCellAt (G : LedT) (c : Addr) : Prop := ∃ oc v, lk G c = some oc ∧ oc.data = .cell v
/-- as Up, but for a cell that may change -/
def Upk (c : Addr) (G₀ G G' : LedT) : Prop := ∀ a o, lk G a = some o → a ≠ c → (lk G₀ a ≠ none ∨ ∀ vs, o.data ≠ .fields vs) → lk G' a = some o
section
variable {w : World} {A : Around} {env : Env} {h₀ h : Heap} {m : Str → Option Value} {G : LedT} {s : Shared} {hp : Heap} {g : Array GenState} {d : Drawn} {tk : Nat} {os : OsState} {Q E : Value → Shared → Prop}
theorem Cx.loopK {x : Str} {cA : Addr} {px : Pos} {body : List Stmt} {R : Result → Shared → Prop} {I : Addr} {fp : List Addr} {n : Nat} {Pv : Nat → Value → Prop} {St : Nat → Heap → Prop} {G₀ : LedT}
    (W : Walks P w A I fp [I] n Pv St) (J : Nat → (Str → Option Value) → LedT → Prop)
    (hI : ∀ i h, St i h → ∃ o vs, h.get? I = some o ∧ o.data = .fields vs)
    (hfp : ∀ b ∈ fp, b = I ∨ ∃ ob, ∀ i m₁ G₁, J i m₁ G₁ → lk G₁ b = some ob)
    (hx : env.kindOf x = some .cell) (hcA : env.cells.lookup x = some cA) (h0 : lk G₀ I = none) (hcell : ∀ i m₁ G₁, J i m₁ G₁ → IsCellAt G₁ cA)
    (C : Cx w A env h₀ hp m G) (hJ : J 0 m G) (hSt : St 0 hp) (hin : ∃ o, lk G I = some o)
    (mono : ∀ i m₁ G₁ G₂, J i m₁ G₁ → Upk cA G₀ G₁ G₂ → IsCellAt G₂ cA → J i m₁ G₂)
    (turn : ∀ i v m₁ G₁ h₁ tk₁ oI, i < n → Pv i v → J i m₁ G₁ → Cx w A env h₀ h₁ m₁ G₁ → (∃ oc, lk G₁ cA = some oc ∧ oc.data = .cell (some v)) → lk G₁ I = some oI → (∃ vs, oI.data = .fields vs) →
      wpAny (model P w) A (execs body env) (FStep w A env h₀ g d os I oI (J (i + 1)) R) (fun _ _ => False) ⟨h₁, g, d, tk₁, os⟩)
    (done : ∀ m₁ G₁ h₁ tk₁, J n m₁ G₁ → Cx w A env h₀ h₁ m₁ G₁ → R (.ok .next) ⟨h₁, g, d, tk₁, os⟩) :
    codeAny (model P w) A (.forLoop (.Name x px) (.ref I) body [] env) R ⟨hp, g, d, tk, os⟩ := by
  refine codeAny_forLoop_any (fun k s' => ∃ h' tk m' G' i, s' = ⟨h', g, d, tk, os⟩ ∧ Cx w A env h₀ h' m' G' ∧ J i m' G' ∧ St i h' ∧ (∃ o, lk G' I = some o) ∧ i ≤ n ∧ k = n + 1 - i) ?_ (n + 1)
    ⟨hp, tk, m, G, 0, rfl, C, hJ, hSt, hin, Nat.zero_le _, rfl⟩
  rintro k s' hZ1
  (refine Mine.e5a7 hZ1 ?_; clear hZ1; rintro h' tkx m' G' i rfl C' hJ' hSt' ⟨o', ho'⟩ hi rfl)
  have upd : ∀ {h₂ : Heap} {o₂ : Obj}, (∀ b o, b ∉ [I] → h'.get? b = some o → h₂.get? b = some o) → h₂.get? I = some o₂ → Cx w A env h₀ h₂ m' (Mine.st G' I o₂) := fun hk ho => C'.keepBut ho' (fun b x hb e => hk b x (by simpa using hb) e) ho
  have f' : ∃ vs, o'.data = .fields vs := by
    (refine Mine.e2a2 (hI _ _ hSt') ?_; rintro o vs e1 e2)
    have := C'.at ho'
    rw [e1] at this
    cases this
    exact ⟨vs, e2⟩
  obtain ⟨vs', hvs'⟩ := f'
  have hcI : cA ≠ I := fun q => by
    (refine Mine.e2a2 (hcell _ _ _ hJ') ?_; rintro oc vc e1 e2)
    rw [q, ho'] at e1; cases e1; rw [e2] at hvs'; cases hvs'
  by_cases hlt : i < n
  · refine W.item i _ _ _ hlt hSt' fun v h₂ tk₂ hv hSt₂ hk => ?_
    (refine Mine.e2a2 (hI _ _ hSt₂) ?_; rintro o₂ vs₂ e1 e2)
    have C₂ := upd hk e1
    have cell2 : IsCellAt (Mine.st G' I o₂) cA := by
      (refine Mine.e2a2 (hcell _ _ _ hJ') ?_; rintro oc vc z1 z2)
      exact ⟨oc, vc, lk_st_ne hcI z1, z2⟩
    have J₂ := mono _ _ _ _ hJ' (fun a o ha _ hor => Up.st (o' := o₂) h0 ho' hvs' a o ha hor) cell2
    dsimp only
    show wpAny _ _ (letOwnedTupleGo (.Name x px) (.ref I) v) _ _ _
    refine wpAny_pure ?_
    show wpAny _ _ (assign (.Name x px) env v) _ _ _
    (refine Mine.e2a2 cell2 ?_; clear cell2; rintro oc vc z1 z2)
    refine wpAny_assign_Name (C₂.storeC hcA z1 z2 (fun h₃ o₃ C₃ hd₃ => ?_) hx)
    have J₃ := mono _ _ _ (Mine.st (Mine.st G' I o₂) cA o₃) J₂ (fun a o ha hne _ => lk_st_ne hne ha) ⟨o₃, _, lk_st_eq, hd₃⟩
    refine wpAny_mono (turn i v m' _ h₃ _ o₂ hlt hv J₃ C₃ ⟨o₃, lk_st_eq, hd₃⟩ (lk_st_ne (fun q => hcI q.symm) lk_st_eq) ⟨_, e2⟩) (fun f s₃ hs₃ => ?_) fun _ _ z => z.elim
    have fin : (∃ h' tk m₃ G₃, s₃ = ⟨h', g, d, tk, os⟩ ∧ Cx w A env h₀ h' m₃ G₃ ∧ lk G₃ I = some o₂ ∧ J (i + 1) m₃ G₃) → ∃ m, m < n + 1 - i ∧ ∃ h' tk m' G' i, s₃ = ⟨h', g, d, tk, os⟩ ∧ Cx w A env h₀ h' m' G' ∧ J i m' G' ∧ St i h' ∧ (∃ o, lk G' I = some o) ∧ i ≤ n ∧ m = n + 1 - i := by
      rintro hZ2
      (refine Mine.e4a4 hZ2 ?_; clear hZ2; rintro h₄ tk₄ m₄ G₄ e C₄ hI₄ hJ₄)
      refine ⟨n + 1 - (i + 1), by (exact Mine.o163 hlt), h₄, tk₄, m₄, G₄, i + 1, e, C₄, hJ₄, ?_, ⟨_, hI₄⟩, hlt, rfl⟩
      refine W.frame _ _ _ hSt₂ fun b hb o hbo => ?_
      rcases hfp b hb with rfl | ⟨ob, hob⟩
      · rw [e1] at hbo; cases hbo; exact C₄.at hI₄
      · have a1 := C₂.at (hob _ _ _ J₂)
        rw [a1] at hbo; cases hbo
        exact C₄.at (hob _ _ _ hJ₄)
    cases f with
    | next => exact fin hs₃
    | cont => exact fin hs₃
    | brk => exact hs₃
    | ret v => exact hs₃
  · have : i = n := Mine.o113 hi hlt
    subst this
    refine W.done _ _ _ hSt' fun h₂ tk₂ hk => ?_
    dsimp only
    refine wpAny_execs_nil ?_
    have hk' : ∀ b o, b ≠ I → h'.get? b = some o → h₂.get? b = some o := fun b o hb e => hk b o (by simpa using hb) e
    have z := C'.N _ (lk_mem ho')
    refine done m' (rm G' I) h₂ tk₂ (mono _ _ _ _ hJ' (fun a o ha _ hor => ?_) ?_) ⟨C'.B, ⟨?_, fun b x q => ?_, C'.F.above⟩, fun p hp => ?_, C'.D.rm, C'.X, C'.T, C'.hf, C'.hke⟩
    · rw [lk_rm]
      · exact ha
      · intro q; subst q
        rcases hor with h | h
        · exact h h0
        · rw [ho'] at ha; cases ha; exact h _ hvs'
    · (refine Mine.e2a2 (hcell _ _ _ hJ') ?_; rintro oc vc z1 z2)
      exact ⟨oc, vc, by rw [lk_rm hcI]; exact z1, z2⟩
    · (refine Mine.e3a2 C'.F.ns ?_; rintro oL es ep hL r)
      exact ⟨oL, es, ep, hk' _ _ (fun q => z.2.1 q.symm) hL, r⟩
    · refine hk' b x (fun q => ?_) (C'.F.keep b x q)
      subst q; rw [z.2.2] at q; cases q
    · obtain ⟨h1, h2⟩ := mem_rm hp
      exact ⟨hk' _ _ h2 (C'.N p h1).1, (C'.N p h1).2⟩
/-- for x in range(n) -/
theorem Cx.for_rangeK {x : Str} {cA : Addr} {px : Pos} {body : List Stmt} {R : Result → Shared → Prop} {r : Addr} {n : Nat} {t u v : Tok} (C : Cx w A env h₀ hp m G) (J : Nat → (Str → Option Value) → LedT → Prop)
    (hh : A.handled = none) (hr : IsRange hp r 0 (n : Int) 1 t u v) (hn : n < 2 ^ 20) (hJ : J 0 m G) (hx : env.kindOf x = some .cell) (hcA : env.cells.lookup x = some cA) (hcell : ∀ i m₁ G₁, J i m₁ G₁ → IsCellAt G₁ cA)
    (mono : ∀ i m₁ G₁ G₂, J i m₁ G₁ → Upk cA G G₁ G₂ → IsCellAt G₂ cA → J i m₁ G₂)
    (turn : ∀ i tv m₁ G₁ h₁ tk₁ I oI, i < n → J i m₁ G₁ → Cx w A env h₀ h₁ m₁ G₁ → (∃ oc, lk G₁ cA = some oc ∧ oc.data = .cell (some (.int (i : Int) tv))) → lk G₁ I = some oI → (∃ vs, oI.data = .fields vs) → lk G I = none →
      wpAny (model P w) A (execs body env) (FStep w A env h₀ g d os I oI (J (i + 1)) R) (fun _ _ => False) ⟨h₁, g, d, tk₁, os⟩)
    (done : ∀ m₁ G₁ h₁ tk₁, J n m₁ G₁ → Cx w A env h₀ h₁ m₁ G₁ → R (.ok .next) ⟨h₁, g, d, tk₁, os⟩) :
    wpAny (model P w) A (pyIter (.ref r)) (fun it s₂ => codeAny (model P w) A (.forLoop (.Name x px) it body [] env) R s₂) E ⟨hp, g, d, tk, os⟩ := by
  have hsz : Builtin.Range.rangeSize 0 (n : Int) 1 = n := by simp [Builtin.Range.rangeSize]; omega
  have hsm : Builtin.Range.small 0 (n : Int) 1 = true := by
    exact small_one (by omega) (by omega) (by omega) (by omega)
  refine wpAny_pyIter_range hr hsm ?_
  rw [hsz]
  have W := Walks.range (prog := P) (w := w) hh hp.objs.size 0 1 n
  have C' := C.push { cls := .type "range_iterator", data := .fields #[rawInt 0, rawInt n, rawInt 1] } rfl
  refine Cx.loopK (G₀ := G) W J (fun i h st => ⟨_, _, st, rfl⟩) (fun b hb => .inl (List.mem_singleton.mp hb)) hx hcA C.fresh hcell C' (mono _ _ _ _ hJ (fun a o ha _ _ => lk_fc C.fresh ha) (by (refine Mine.e2a2 (hcell _ _ _ hJ) ?_; rintro oc v e1 e2); exact ⟨oc, v, lk_fc C.fresh e1, e2⟩)) ?_ ⟨_, lk_cons_eq⟩ mono
    (fun i v m₁ G₁ h₁ tk₁ oI hi hv hJ₁ C₁ hc hI hf => ?_) done
  · show IsRangeIter _ _ _ _ _
    unfold IsRangeIter
    rw [C'.at lk_cons_eq]
    simp [rawInt]
  · obtain ⟨tv, rfl⟩ := hv
    exact turn i tv m₁ G₁ h₁ tk₁ _ oI hi hJ₁ C₁ (by simpa using hc) hI hf C.fresh
end
end Mine
end TCe2

section TCe3
open PySem PySem.W PyProof.Rows PySem.Calls
namespace Mine
set_option maxRecDepth 100000
theorem any_ints {vs : List Value} {ns : List Int} (h : All2 IsI vs ns) (k : Int) : vs.any (fun y => match y with | .int a _ => a == k | _ => false) = decide (k ∈ ns) := by
  induction h with
  | nil => simp
  | cons r _ ih =>
    obtain ⟨t, rfl⟩ := r
    simp only [List.any_cons, ih, List.mem_cons]
    rename_i b _ _ _
    by_cases q : b = k
    · subst q; simp
    · have : ¬ k = b := fun z => q z.symm
      simp [q, this]
section
variable {w : World} {A : Around} {env : Env} {h₀ : Heap} {m : Str → Option Value} {G : LedT} {hp : Heap} {g : Array GenState} {d : Drawn} {tk : Nat} {os : OsState} {Q E : Value → Shared → Prop}
theorem Cx.inL (C : Cx w A env h₀ hp m G) {l : Addr} {its : Array Value} {n : Nat} {ns : List Int} {k : Int} {t : Tok} (hl : lk G l = some (listOf its n)) (hA : All2 IsI its.toList ns) (h : Q (.bool (decide (k ∈ ns))) ⟨hp, g, d, tk, os⟩) :
    wpAny (model P w) A (compareOp .In (.int k t) (.ref l)) Q E ⟨hp, g, d, tk, os⟩ := by
  refine PySem.SeqAt.in_listAt (fun y => match y with | .int a _ => a == k | _ => false) (C.isList hl) (fun y hy => ?_) ?_
  · obtain ⟨i, hi, rfl⟩ := Array.mem_iff_getElem.mp hy
    obtain ⟨b, _, u, e⟩ := hA.getL (i := i) (a := its[i]) (by simp [hi])
    rw [e]; exact PySem.SeqAt.EqAt.int_int _ _ _ _
  · rw [← Array.any_toList, any_ints hA]; exact h
theorem Cx.notinL (C : Cx w A env h₀ hp m G) {l : Addr} {its : Array Value} {n : Nat} {ns : List Int} {k : Int} {t : Tok} (hl : lk G l = some (listOf its n)) (hA : All2 IsI its.toList ns) (h : Q (.bool (!decide (k ∈ ns))) ⟨hp, g, d, tk, os⟩) :
    wpAny (model P w) A (compareOp .NotIn (.int k t) (.ref l)) Q E ⟨hp, g, d, tk, os⟩ := by
  refine PySem.SeqAt.notIn_listAt (fun y => match y with | .int a _ => a == k | _ => false) (C.isList hl) (fun y hy => ?_) ?_
  · obtain ⟨i, hi, rfl⟩ := Array.mem_iff_getElem.mp hy
    obtain ⟨b, _, u, e⟩ := hA.getL (i := i) (a := its[i]) (by simp [hi])
    rw [e]; exact PySem.SeqAt.EqAt.int_int _ _ _ _
  · rw [← Array.any_toList, any_ints hA]; exact h
/-- the comprehension's end, stored into a name -/
theorem Cx.endS (C : Cx w A env h₀ hp m G) {Lc : Addr} {oC : Obj} {mc : Str → Option Value} {v : Value} {y : Str} {py : Pos} (hL : lk G Lc = some oC) (hn : NsO oC mc) (h : ∀ h' tk', Cx w A env h₀ h' (mset m y v) (rm G Lc) → Q .none ⟨h', g, d, tk', os⟩)
    (hy : env.kindOf y = some .local := by rfl) : compPost (model P w) A E (some (assign (.Name y py) env)) Q v Lc (.ok .next) ⟨hp, g, d, tk, os⟩ :=
  wpAny_assign_Name (C.store (fun h₂ tk₂ C2 => ⟨mc, C2.ns hL hn, fun h' hs => h h' tk₂ (C2.drop hL hs)⟩) hy)
theorem All2.nat {vs : List Value} {ns : List Nat} (h : All2 IsN vs ns) : All2 IsI vs (ns.map fun k : Nat => (k : Int)) := by
  induction h with
  | nil => exact .nil
  | cons r _ ih => exact .cons r ih
end
end Mine
end TCe3

section TNd1
open PySem PySem.W PyProof.Rows PySem.Calls
namespace Mine
set_option maxRecDepth 100000
set_option maxHeartbeats 8000000
/-- bit j of x -/
noncomputable def bitOn (x : Int) (j : Nat) : Bool := decide ((x.fdiv (2 ^ j)).fmod 2 = 1)
noncomputable def bitsRow (x : Int) (k : Nat) : List Nat := (List.range k).filter (bitOn x)
noncomputable def otherOf (x : Int) (n : Nat) : Nat := ((x.fdiv 11).fmod (n : Int)).toNat
noncomputable def rowOf (x : Int) (k n : Nat) : List Nat := if x.fmod 11 = 7 ∧ otherOf x n ∉ bitsRow x k then bitsRow x k ++ [otherOf x n] else bitsRow x k
noncomputable def needsOf (ns : List Int) : List (List Nat) := (List.range ns.length).map fun k => rowOf (ns.getD k 0) k ns.length
def RowAt (G : LedT) (Nd : Addr) (v : Value) (row : List Nat) : Prop := ∃ l its n, v = .ref l ∧ l ≠ Nd ∧ lk G l = some (listOf its n) ∧ All2 IsN its.toList row
theorem RowAt.keep {G G' : LedT} {Nd : Addr} {v : Value} {row : List Nat} (h : RowAt G Nd v row) (k : ∀ b its n, b ≠ Nd → lk G b = some (listOf its n) → lk G' b = some (listOf its n)) : RowAt G' Nd v row := by
  (refine Mine.e3a4 h ?_; clear h; rintro l its n e1 e2 e3 e4)
  exact ⟨l, its, n, e1, e2, k _ _ _ e2 e3, e4⟩
section
variable {w : World} {A : Around} {env : Env} {h₀ : Heap} {m : Str → Option Value} {G : LedT} {hp : Heap} {g : Array GenState} {d : Drawn} {tk : Nat} {os : OsState} {Q E : Value → Shared → Prop}
theorem needs_ct {Nm : Addr} {nits : Array Value} {n1 : Nat} {ns : List Int} (C : Cx w A env h₀ hp m G) (hh : A.handled = none) (hN : lk G Nm = some (listOf nits n1)) (hA : All2 IsI nits.toList ns) (hn : ns.length ≤ 20) (hn0 : 0 < ns.length)
    (hd : A.depth + 3 < recursionLimit) (hu : A.units + 16 < cLine)
    (ret : ∀ h' tk' G' L its n, Cx w A env h₀ h' m G' → (∀ b o, lk G b = some o → lk G' b = some o) → lk G' L = some (listOf its n) → All2 (IsRow G') its.toList (needsOf ns) → lk G L = none → Q (.ref L) ⟨h', g, d, tk', os⟩) :
    wpAny (model P w) A (call (.ref 202) [.ref Nm]) Q E ⟨hp, g, d, tk, os⟩ := by
  have e9 : PySem.Challenge.rw_oh0057_01 = PySem.Challenge.rw_oh0057_01 := rfl
  have X := C.X
  revert X e9; k_fill; intro X e9; clear e9
  k_dflt (refine' C.enterK (binds := [(Str.ofString "numbers", Value.ref Nm)]) ?k6 ?k7 ?k8 ?k9 ?kB ?kN ?c2 ?c3 ?c4 ?_; (case k6 => k_is); (case k7 => k_is); (case k8 => (exact Mine.o10 hd)); (case k9 => exact BindsTo.of_eq rfl); (case c2 => exact rfl); (case c3 => exact rfl); (case c4 => exact rfl); (case kN => decide); (case kB => (intro n x hx; rw [List.mem_singleton.mp hx]; exact .inr ⟨rfl, rfl⟩)); k_whole; intro gb L' h₁ tk₁ cells C1 hcells hlt)
  (refine Mine.e2a3 hcells.two ?_; rintro oK oN rfl dK dN)
  have dN' : oN.data = .cell (some (.ref Nm)) := dN
  have dK' : oK.data = .cell none := dK
  clear dN dK hcells
  have hG1 : ∀ b o, lk G b = some o → b < L' := fun b o hb => hlt _ (lk_mem hb)
  have gN : lk ([(L' + 1 + 1, oK), (L' + 1, oN)] ++ G) (L' + 1) = some oN := lk_cons_ne (Nat.ne_of_lt (Nat.lt_succ_self _)) lk_cons_eq
  have gK : lk ([(L' + 1 + 1, oK), (L' + 1, oN)] ++ G) (L' + 1 + 1) = some oK := lk_cons_eq
  have gG : ∀ b o, lk G b = some o → lk ([(L' + 1 + 1, oK), (L' + 1, oN)] ++ G) b = some o := fun b o hb => by
    have := hG1 b o hb
    exact lk_cons_ne (Nat.ne_of_lt (Nat.lt_of_lt_of_le this (Nat.le_add_right L' 2))) (lk_cons_ne (Nat.ne_of_lt (Nat.lt_of_lt_of_le this (Nat.le_add_right L' 1))) hb)
  generalize ([(L' + 1 + 1, oK), (L' + 1, oN)] ++ G) = G1 at *
  have hsz : nits.size = ns.length := by simpa using hA.length
  -- needs = []
  refine wpAny_execs_cons (wpAny_Assign_Name (List_ (args_nil (C1.newList (by simp) fun Nd h₂ C2 hNd => C2.store fun h₃ tk₃ C3 => ?_))))
  refine wpAny_execs_cons (wpAny_For (C3.callT (n_range w) Boot.range (args_cons (C3.callB (n_len w) Boot.len (args_cons (C3.nameC (c := L' + 1) rfl (lk_fc hNd gN) dN' (args_nil (C3.len (lk_fc hNd (gG _ _ hN)) (Mine.o74 hn hsz) fun _ _ => args_nil (C3.range fun r h₄ tk₄ u1 u2 u3 C4 hr4 => ?_)))))))))
  rw [hsz] at hr4
  refine C4.for_rangeK (cA := L' + 1 + 1) (fun i m₁ G₁ => m₁ (Str.ofString "needs") = some (.ref Nd) ∧ (∀ b o, lk G b = some o → lk G₁ b = some o) ∧ lk G₁ (L' + 1) = some oN ∧ IsCellAt G₁ (L' + 1 + 1) ∧ ∃ its n, lk G₁ Nd = some (listOf its n) ∧ All2 (RowAt G₁ Nd) its.toList ((List.range i).map fun k => rowOf (ns.getD k 0) k ns.length))
    hh hr4 (Mine.o77 hn) ⟨mset_eq, fun b o hb => lk_fc hNd (gG b o hb), lk_fc hNd gN, ⟨oK, _, lk_fc hNd gK, dK'⟩, _, _, lk_cons_eq, .nil⟩ rfl rfl (fun _ _ _ hj => hj.2.2.2.1) ?_ ?_ ?_
  · rintro i m₁ G₁ G₂ hZ1 u hc
    obtain ⟨q1, q2, q3, q4, its, n, q5, q6⟩ := hZ1
    have nc : ∀ {b : Addr} {its : Array Value} {n : Nat}, lk G₁ b = some (listOf its n) → b ≠ L' + 1 + 1 := fun {b its n} hb q => by
      (refine Mine.e2a2 q4 ?_; clear q4; rintro oc vc e1 e2)
      rw [q, e1] at hb; cases hb; cases e2
    refine ⟨q1, fun b o hb => u _ _ (q2 b o hb) (Nat.ne_of_lt (Nat.lt_of_lt_of_le (hG1 b o hb) (Nat.le_add_right L' 2))) (.inl (by rw [lk_fc hNd (gG b o hb)]; simp)), u _ _ q3 (Nat.ne_of_lt (Nat.lt_succ_self _)) (.inr (by rw [dN']; simp)), hc, its, n, u _ _ q5 (nc q5) (.inr (by simp)), q6.mono fun v r h => h.keep fun b its n _ hb => u _ _ hb (nc hb) (.inr (by simp))⟩
  · rintro i tv m₁ G₁ h₅ tk₅ I oI hi hZ2 C5 hZ3 hI ⟨vsI, hIf⟩ hI0
    obtain ⟨q1, q2, q3, q4, its, n, q5, q6⟩ := hZ2
    (refine Mine.e1a2 hZ3 ?_; clear hZ3; rintro oc hoc dc)
    obtain ⟨x, hx⟩ : ∃ x, ns[i]? = some x := ⟨ns[i], by simp [hi]⟩
    have hxD : ns.getD i 0 = x := by simp [List.getD, hx]
    obtain ⟨xv, hxv, tx, rfl⟩ := hA.get hx
    have hneK : ∀ {b : Addr} {o : Obj}, lk G b = some o → b ≠ L' + 1 + 1 := fun {b o} hb => Nat.ne_of_lt (Nat.lt_of_lt_of_le (hG1 b o hb) (Nat.le_add_right L' 2))
    -- row = [..]
    refine wpAny_execs_cons (comp_asg (cl := [(Str.ofString "numbers", L' + 1), (Str.ofString "k", L' + 1 + 1)]) (by kernel_rfl) rfl rfl (by decide) ?_)
    refine C5.callT (n_range w) Boot.range (args_cons (C5.nameC (c := L' + 1 + 1) rfl hoc dc (args_nil (C5.range fun r h₆ tk₆ u1 u2 u3 C6 hr6 => ?_))))
    refine C6.comp_range (fun i' acc G₂ => (∀ b o, lk G₁ b = some o → lk G₂ b = some o) ∧ All2 IsN acc ((List.range i').filter (bitOn x))) hh (Mine.o83 hn hi) hr6 rfl (by decide) rfl ⟨fun _ _ h => h, .nil⟩ ?_ ?_ ?_
    · rintro i' acc G₂ G₃ ⟨z1, z2⟩ u
      exact ⟨fun b o hb => u _ _ (z1 b o hb) (.inl (by rw [hb]; simp)), z2⟩
    · rintro I' D Lc j tj acc mc G₂ h₇ tk₇ oI' oC oD hj hal ⟨z1, z2⟩ C7 hI' hD hL hNs hm
      refine CTurn.one (wpAny_isTrue_Compare1 (wpAny_BinOp (wpAny_BinOp (Subscript_ (C7.ccell (c := L' + 1) rfl (z1 _ _ q3) dN' (C7.ccell (c := L' + 1 + 1) rfl (z1 _ _ hoc) dc (C7.itemN (z1 _ _ (q2 _ _ hN)) (Mine.o101 hn hi) hxv (wpAny_BinOp (c_int fun t2 tk2 => C7.cname hL hNs hm (o_pow (by omega) ?_ fun t3 tk3 => o_div ?_ ?_ fun t4 tk4 => c_int fun _ _ => o_mod (by decide) fun _ _ => c_int fun _ _ => eq_int (wpAny_truthy_bool ?_)))))))))))
      · have : (Builtin.Int.intBits 2 : Int) = 2 := by decide
        rw [this]; omega
      · exact Int.ne_of_gt (Int.pow_pos (by decide))
      · rw [Int.natAbs_pow]
        have : ((2 : Int).natAbs) ^ ((j : Int)).toNat ≤ 2 ^ 20 := Nat.pow_le_pow_right (by decide) (by omega)
        (exact Mine.o104 this)
      · have hb : ((x.fdiv (2 ^ (j : Int).toNat)).fmod 2 == 1) = bitOn x j := by
          unfold bitOn
          rw [show (j : Int).toNat = j from rfl]
          by_cases q : (x.fdiv (2 ^ j)).fmod 2 = 1 <;> simp [q]
        rw [hb]
        by_cases q : bitOn x j = true
        · rw [if_pos q]
          refine C7.cname hL hNs hm ⟨_, _, _, rfl, C7, hI', hD, hL, z1, ?_⟩
          rw [List.range_succ, List.filter_append, List.filter_cons_of_pos q]
          exact z2.snoc ⟨tj, rfl⟩
        · rw [if_neg q]
          refine ⟨_, _, _, rfl, C7, hI', hD, hL, z1, ?_⟩
          rw [List.range_succ, List.filter_append, List.filter_cons_of_neg q]
          simpa using z2
    · rintro D Lc acc nn mc oC G₂ h₇ tk₇ hD0 hL0 hDL ⟨z1, z2⟩ C7 hD hL hNs
      refine C7.endS (y := Str.ofString "row") hL hNs fun h₈ tk₈ C8 => ?_
      have k3 : ∀ b o, lk G₁ b = some o → lk (rm G₂ Lc) b = some o := fun b o hb => (lk_rm (lk_ne hb hL0)).trans (z1 b o hb)
      have D3 : lk (rm G₂ Lc) D = some (listOf acc.toArray nn) := (lk_rm hDL).trans hD
      generalize rm G₂ Lc = G3 at *
      -- other = ..
      refine wpAny_execs_cons (wpAny_Assign_Name (wpAny_BinOp (wpAny_BinOp (Subscript_ (C8.nameC (c := L' + 1) rfl (k3 _ _ q3) dN' (C8.nameC (c := L' + 1 + 1) rfl (k3 _ _ hoc) dc (C8.itemN (k3 _ _ (q2 _ _ hN)) (Mine.o101 hn hi) hxv (c_int fun _ _ => o_div (by decide) (by decide) fun t1 tk1 => C8.callB (n_len w) Boot.len (args_cons (C8.nameC (c := L' + 1) rfl (k3 _ _ q3) dN' (args_nil (C8.len (k3 _ _ (q2 _ _ hN)) (Mine.o74 hn hsz) fun _ _ => o_mod (by omega) fun to tk2 => C8.store fun h₉ tk₉ C9 => ?_))))))))))))
      rw [hsz] at C9
      have hno : ((otherOf x ns.length : Nat) : Int) = (x.fdiv 11).fmod (ns.length : Int) := by
        unfold otherOf
        exact Int.toNat_of_nonneg (Int.fmod_nonneg_of_pos _ (by omega))
      rw [← hno] at C9
      refine wpAny_join (fun s' => ∃ h' tk' G' its' n', s' = ⟨h', g, d, tk', os⟩ ∧ C1.Same h' (mset (mset m₁ (Str.ofString "row") (.ref D)) (Str.ofString "other") (.int (otherOf x ns.length : Int) to)) G' ∧ (∀ b o, lk G₁ b = some o → lk G' b = some o) ∧ lk G' D = some (listOf its' n') ∧ All2 IsN its'.toList (rowOf x i ns.length)) ?_ ?_
      · refine wpAny_If (wpAny_isTrue_BoolOp (wpAny_allTrue_And_cons (wpAny_isTrue_Compare1 (wpAny_BinOp (Subscript_ (C9.nameC (c := L' + 1) rfl (k3 _ _ q3) dN' (C9.nameC (c := L' + 1 + 1) rfl (k3 _ _ hoc) dc (C9.itemN (k3 _ _ (q2 _ _ hN)) (Mine.o101 hn hi) hxv (c_int fun _ _ => o_mod (by decide) fun _ _ => c_int fun _ _ => eq_int (wpAny_truthy_bool ?_))))))))))
        by_cases e7 : x.fmod 11 = 7
        · rw [if_pos (by simp [e7])]
          refine wpAny_allTrue_And_cons (wpAny_isTrue_Compare1 (C9.name mset_eq (C9.name (mset_ne (by decide) mset_eq) (C9.notinL D3 (by simpa using z2.nat) (wpAny_truthy_bool ?_)))))
          have em' : decide ((otherOf x ns.length : Int) ∈ ((List.range i).filter (bitOn x)).map fun k : Nat => (k : Int)) = decide (otherOf x ns.length ∈ bitsRow x i) := by
            refine decide_eq_decide.mpr ⟨fun h => ?_, fun h => List.mem_map.mpr ⟨_, h, rfl⟩⟩
            (refine Mine.e1a2 (List.mem_map.mp h) ?_; rintro k hk e)
            rw [← Int.ofNat.inj e]; exact hk
          rw [em']
          by_cases em : otherOf x ns.length ∈ bitsRow x i
          · rw [decide_eq_true em, if_neg (by decide)]
            refine wpAny_execs_nil ⟨_, _, _, _, _, rfl, C9, k3, D3, ?_⟩
            unfold rowOf
            rw [if_neg (by simp [em])]
            exact z2
          · rw [decide_eq_false em, if_pos (by decide)]
            have haz : acc.toArray.size < 2 ^ 20 := by
              have h1 := z2.length
              have h2 : ((List.range i).filter (bitOn x)).length ≤ i := by simpa using List.length_filter_le (bitOn x) (List.range i)
              simp only [List.size_toArray]; (exact Mine.o139 hn hi h1 h2)
            refine wpAny_allTrue_And_nil ?_
            rw [if_pos rfl]
            refine wpAny_execs_cons (wpAny_Expr (MethodCall_ (C9.name (mset_ne (by decide) mset_eq) (C9.listMeth D3 PySem.F.slot_list_append PySem.F.type_list_append (callWith_method1 (args_cons (C9.name mset_eq (args_nil (C9.append D3 haz fun h₁₀ C10 => ?_)))))))))
            refine wpAny_execs_nil ⟨_, _, _, _, _, rfl, C10, fun b o hb => lk_st_ne (lk_ne hb hD0) (k3 b o hb), lk_st_eq, ?_⟩
            unfold rowOf
            rw [if_pos ⟨e7, em⟩]
            simpa [bitsRow] using z2.snoc ⟨to, rfl⟩
        · rw [if_neg (by simp [e7])]
          refine wpAny_execs_nil ⟨_, _, _, _, _, rfl, C9, k3, D3, ?_⟩
          unfold rowOf
          rw [if_neg (by simp [e7])]
          exact z2
      · rintro s' hZ4
        (refine Mine.e5a5 hZ4 ?_; clear hZ4; rintro h₁₀ tk₁₀ G₄ its' n' rfl C10 k4 D4 hA4)
        have hNdD : Nd ≠ D := fun q => by rw [q] at q5; rw [q5] at hD0; cases hD0
        have hsz6 : its.size = i := by simpa using q6.length
        refine wpAny_execs_cons (wpAny_Expr (MethodCall_ (C10.name (mset_ne (by decide) (mset_ne (by decide) q1)) (C10.listMeth (k4 _ _ q5) PySem.F.slot_list_append PySem.F.type_list_append (callWith_method1 (args_cons (C10.name (mset_ne (by decide) mset_eq) (args_nil (C10.append (k4 _ _ q5) (Mine.o145 hn hi hsz6) fun h₁₁ C11 => ?_)))))))))
        have k5 : ∀ b o, lk G₁ b = some o → b ≠ Nd → lk (Mine.st G₄ Nd (listOf (its.push (.ref D)) (n + 1))) b = some o := fun b o hb hne => lk_st_ne hne (k4 b o hb)
        have hNdG : ∀ b o, lk G b = some o → b ≠ Nd := fun b o hb q => by
          have := gG b o hb; rw [q, hNd] at this; cases this
        refine wpAny_execs_nil ⟨_, _, _, _, rfl, C11, k5 _ _ hI (fun q => by rw [q, q5] at hI; cases hI; cases hIf), ?_⟩
        refine ⟨mset_ne (by decide) (mset_ne (by decide) q1), fun b o hb => k5 _ _ (q2 b o hb) (hNdG b o hb), k5 _ _ q3 (fun q => by rw [q, q5] at q3; cases q3; cases dN'), ⟨oc, _, k5 _ _ hoc (fun q => by rw [q, q5] at hoc; cases hoc; cases dc), dc⟩, _, _, lk_st_eq, ?_⟩
        rw [List.range_succ, List.map_append]
        have q7 : All2 (RowAt (Mine.st G₄ Nd (listOf (its.push (.ref D)) (n + 1))) Nd) its.toList ((List.range i).map fun k => rowOf (ns.getD k 0) k ns.length) := q6.mono fun v r h => h.keep fun b its n hne hb => k5 _ _ hb hne
        rw [Array.toList_push]
        refine q7.snoc ⟨D, its', n', rfl, fun q => hNdD q.symm, lk_st_ne (fun q => hNdD q.symm) D4, ?_⟩
        show All2 IsN its'.toList (rowOf (ns.getD i 0) i ns.length)
        rw [hxD]; exact hA4
  · rintro m₁ G₁ h₅ tk₅ hZ5 C5
    obtain ⟨q1, q2, q3, q4, its, n, q5, q6⟩ := hZ5
    refine wpAny_execs_cons (wpAny_Return_some (C5.name q1 ?_))
    refine ⟨_, _, C5, fun C6 => ret _ _ _ Nd its n C6 q2 q5 (q6.mono fun v r ⟨l, it, k, e1, _, e3, e4⟩ => ⟨l, it, k, e1, e3, e4⟩) ?_⟩
    cases q : lk G Nd with
    | none => rfl
    | some o => rw [gG _ _ q] at hNd; cases hNd
end
end Mine
end TNd1

section TPd1
open PySem PySem.W PyProof.Rows PySem.Calls
namespace Mine
abbrev EL := List (Nat × Int)
noncomputable def eget : EL → Nat → Option Int
  | [], _ => none
  | p :: r, k => if p.1 = k then some p.2 else eget r k
noncomputable def rowAt (needs : List (List Nat)) (k : Nat) : List Nat := needs.getD k []
/-- the greatest of 0 and the others -/
noncomputable def maxZ (xs : List Int) : Int := xs.foldl max 0
noncomputable def canEnd (needs : List (List Nat)) (l : EL) (k : Nat) : Bool := (eget l k).isNone && (rowAt needs k).all fun j => (eget l j).isSome
noncomputable def endStep (needs : List (List Nat)) (hours : List Int) (l : EL) (k : Nat) : EL :=
  if canEnd needs l k = true then l ++ [(k, hours.getD k 0 + maxZ ((rowAt needs k).map fun j => (eget l j).getD 0))] else l
noncomputable def endPart (needs : List (List Nat)) (hours : List Int) (l : EL) (i : Nat) : EL := (List.range i).foldl (endStep needs hours) l
noncomputable def endsN (needs : List (List Nat)) (hours : List Int) : Nat → EL
  | 0 => []
  | i + 1 => endPart needs hours (endsN needs hours i) needs.length
noncomputable def endsOf (needs : List (List Nat)) (hours : List Int) : EL := endsN needs hours needs.length
theorem endPart_succ {needs : List (List Nat)} {hours : List Int} {l : EL} {i : Nat} : endPart needs hours l (i + 1) = endStep needs hours (endPart needs hours l i) i := by
  unfold endPart; rw [List.range_succ, List.foldl_append]; rfl
/-- an entry of the dict of ends -/
def IsKV (p : Int × Value) (q : Nat × Int) : Prop := p.1 = (q.1 : Int) ∧ IsI p.2 q.2
theorem valueAt_cons {p : Int × Value} {r : List (Int × Value)} {k : Int} : valueAt (p :: r) k = if p.1 = k then some p.2 else valueAt r k := by
  unfold valueAt
  rw [List.find?_cons]
  by_cases h : p.1 = k <;> simp [h]
theorem kv_get {kvs : List (Int × Value)} {l : EL} (h : All2 IsKV kvs l) (k : Nat) : (eget l k = none ∧ valueAt kvs (k : Int) = none) ∨ ∃ e t, eget l k = some e ∧ valueAt kvs (k : Int) = some (.int e t) := by
  induction h with
  | nil => exact .inl ⟨rfl, rfl⟩
  | cons r _ ih =>
    rename_i a b _ _ _
    obtain ⟨r1, t, r2⟩ := r
    rw [valueAt_cons]
    simp only [eget]
    by_cases q : b.1 = k
    · rw [if_pos q, if_pos (by rw [r1, q])]
      exact .inr ⟨b.2, t, rfl, by rw [r2]⟩
    · rw [if_neg q, if_neg (fun z => q (by rw [r1] at z; exact Int.ofNat.inj z))]
      exact ih
theorem kv_some {kvs : List (Int × Value)} {l : EL} (h : All2 IsKV kvs l) (k : Nat) : (valueAt kvs (k : Int)).isSome = (eget l k).isSome := by
  rcases kv_get h k with ⟨h1, h2⟩ | ⟨e, t, h1, h2⟩ <;> rw [h1, h2] <;> rfl
theorem eget_append {l : EL} {p : Nat × Int} {k : Nat} : eget (l ++ [p]) k = match eget l k with | some e => some e | none => if p.1 = k then some p.2 else none := by
  induction l with
  | nil => simp [eget]
  | cons q r ih =>
    simp only [List.cons_append, eget]
    by_cases h : q.1 = k
    · simp [h]
    · simp [h, ih]
theorem endStep_len {needs : List (List Nat)} {hours : List Int} {l : EL} {k : Nat} : (endStep needs hours l k).length ≤ l.length + 1 := by
  unfold endStep; split <;> simp
/-- how large the dict may grow -/
theorem endPart_len {needs : List (List Nat)} {hours : List Int} {l : EL} : ∀ i, (endPart needs hours l i).length ≤ l.length + i
  | 0 => by simp [endPart]
  | i + 1 => by
    rw [endPart_succ]
    have h1 := endPart_len (needs := needs) (hours := hours) (l := l) i
    have h2 := endStep_len (needs := needs) (hours := hours) (l := endPart needs hours l i) (k := i)
    (exact Mine.o314 h1 h2)
theorem endsN_len {needs : List (List Nat)} {hours : List Int} : ∀ i, (endsN needs hours i).length ≤ i * needs.length
  | 0 => by simp [endsN]
  | i + 1 => by
    have h1 := endsN_len (needs := needs) (hours := hours) i
    have h2 := endPart_len (needs := needs) (hours := hours) (l := endsN needs hours i) needs.length
    show (endPart needs hours (endsN needs hours i) needs.length).length ≤ _
    rw [Nat.add_mul]; (exact Mine.o315 h1 h2)
theorem maxZ_le {a : Int} : ∀ (xs : List Int) (z : Int), z ≤ xs.foldl max z ∧ ∀ x ∈ xs, x ≤ xs.foldl max z
  | [], z => ⟨Int.le_refl _, by simp⟩
  | x :: xs, z => by
    obtain ⟨h1, h2⟩ := maxZ_le (a := a) xs (max z x)
    refine ⟨Int.le_trans (Int.le_max_left _ _) h1, fun y hy => ?_⟩
    rcases List.mem_cons.mp hy with rfl | hy
    · exact Int.le_trans (Int.le_max_right _ _) h1
    · exact h2 y hy
theorem maxZ_mem : ∀ (xs : List Int) (z : Int), xs.foldl max z = z ∨ xs.foldl max z ∈ xs
  | [], z => .inl rfl
  | x :: xs, z => by
    show xs.foldl max (max z x) = z ∨ xs.foldl max (max z x) ∈ x :: xs
    rcases maxZ_mem xs (max z x) with h | h
    · rw [h]
      rcases Int.le_total z x with q | q
      · rw [Int.max_eq_right q]; exact .inr (.head _)
      · rw [Int.max_eq_left q]; exact .inl rfl
    · exact .inr (.tail _ h)
theorem maxZ_eq {xs : List Int} {M : Int} (h1 : M ∈ 0 :: xs) (h2 : ∀ a ∈ 0 :: xs, a ≤ M) : maxZ xs = M := by
  unfold maxZ
  obtain ⟨g1, g2⟩ := maxZ_le (a := 0) xs 0
  apply Int.le_antisymm
  · rcases maxZ_mem xs 0 with h | h
    · rw [h]; exact h2 0 (.head _)
    · exact h2 _ (.tail _ h)
  · rcases List.mem_cons.mp h1 with rfl | h
    · exact g1
    · exact g2 M h
end Mine
end TPd1

section TEn1
open PySem PySem.W PyProof.Rows PySem.Calls
namespace Mine
set_option maxRecDepth 100000
set_option maxHeartbeats 8000000
section
variable {w : World} {A : Around} {env : Env} {h₀ : Heap} {m : Str → Option Value} {G : LedT} {hp : Heap} {g : Array GenState} {d : Drawn} {tk : Nat} {os : OsState} {Q E : Value → Shared → Prop}
theorem Cx.eqNil (C : Cx w A env h₀ hp m G) {a b : Addr} {its : Array Value} {n k : Nat} (ha : lk G a = some (listOf its n)) (hb : lk G b = some (listOf #[] k)) (hu : A.units < cLine) (h : Q (.bool (decide (its.size = 0))) ⟨hp, g, d, tk, os⟩) :
    wpAny (model P w) A (compareOp .Eq (.ref a) (.ref b)) Q E ⟨hp, g, d, tk, os⟩ := by
  by_cases q : its.size = 0
  · refine PySem.SeqAt.eq_listAt (e := fun _ => true) (C.isList ha) (C.isList hb) (by simpa using q) hu (fun j h1 h2 => by simp at h2) ?_
    rw [decide_eq_true q] at h
    simpa [q] using h
  · refine PySem.SeqAt.eq_list_lengthsAt (C.isList ha) (C.isList hb) (by simpa using q) hu ?_
    rw [decide_eq_false q] at h
    exact h
theorem ints_of {vs : List Value} {ns : List Int} (h : All2 IsI vs ns) : IntsAre vs ns := by
  induction h with
  | nil => exact .nil
  | cons r _ ih => obtain ⟨t, rfl⟩ := r; exact .cons _ _ ih
theorem Cx.maxL (C : Cx w A env h₀ hp m G) {l : Addr} {its : Array Value} {n : Nat} {ns : List Int} (hh : A.handled = none) (hl : lk G l = some (listOf its n)) (hA : All2 IsI its.toList (0 :: ns)) (h : ∀ t h' tk', Cx w A env h₀ h' m G → Q (.int (maxZ ns) t) ⟨h', g, d, tk', os⟩) :
    wpAny (model P w) A (call (.builtin "max") [.ref l]) Q E ⟨hp, g, d, tk, os⟩ := by
  refine max_list_N (vs := its.toList) hh C.F C.N (by rw [Array.toArray_toList]; exact C.isList hl) (ints_of hA) (by simp) fun h' M t tk' F' N' h1 h2 => ?_
  rw [← maxZ_eq h1 h2]
  exact h t h' tk' (C.of F' N' C.D)
theorem Cx.named2 (C : Cx w A env h₀ hp m G) {x y : Str} {a b : Value} (h1 : m x = some a) (h2 : m y = some b) : ∃ m1, Cx w A env h₀ hp m1 G ∧ m1 x = some a ∧ m1 y = some b := ⟨m, C, h1, h2⟩
/-- the state of the ends' loops -/
structure EnI (w : World) (G : LedT) (Nl Hl c D : Addr) (l : EL) (m₁ : Str → Option Value) (G₁ : LedT) : Prop where
  needs : m₁ (Str.ofString "needs") = some (.ref Nl)
  hours : m₁ (Str.ofString "hours") = some (.ref Hl)
  keep : ∀ b o, lk G b = some o → lk G₁ b = some o
  cell : ∃ oc, lk G₁ c = some oc ∧ oc.data = .cell (some (.ref D))
  dict : ∃ kvs, IsDict w G₁ D kvs ∧ All2 IsKV kvs l
theorem EnI.up {Nl Hl c D : Addr} {l : EL} {m₁ : Str → Option Value} {G G₀ G₁ G₂ : LedT} (h : EnI w G Nl Hl c D l m₁ G₁) (hG : ∀ b o, lk G b = some o → lk G₀ b ≠ none) (u : Up G₀ G₁ G₂) : EnI w G Nl Hl c D l m₁ G₂ := by
  (refine Mine.e1a2 h.cell ?_; rintro oc e1 e2)
  (refine Mine.e1a2 h.dict ?_; rintro kvs d1 d2)
  refine ⟨h.needs, h.hours, fun b o hb => u _ _ (h.keep b o hb) (.inl (hG b o hb)), ⟨oc, u _ _ e1 (.inr (by rw [e2]; simp)), e2⟩, kvs, d1.keep fun o ho => u _ _ ho (.inr ?_), d2⟩
  (refine Mine.e1a3 d1.cls ?_; rintro o' ho' _ hf)
  rw [ho] at ho'; cases ho'; exact hf
theorem EnI.set {Nl Hl c D : Addr} {l : EL} {m₁ : Str → Option Value} {G G₁ : LedT} (h : EnI w G Nl Hl c D l m₁ G₁) {x : Str} (v : Value) (h1 : Str.ofString "needs" ≠ x) (h2 : Str.ofString "hours" ≠ x) : EnI w G Nl Hl c D l (mset m₁ x v) G₁ :=
  ⟨mset_ne h1 h.needs, mset_ne h2 h.hours, h.keep, h.cell, h.dict⟩
theorem EnI.grow {Nl Hl c D : Addr} {l : EL} {m₁ : Str → Option Value} {G G₁ G₂ : LedT} (h : EnI w G Nl Hl c D l m₁ G₁) (k : ∀ b o, lk G₁ b = some o → lk G₂ b = some o) : EnI w G Nl Hl c D l m₁ G₂ := by
  (refine Mine.e1a2 h.cell ?_; rintro oc e1 e2)
  (refine Mine.e1a2 h.dict ?_; rintro kvs d1 d2)
  exact ⟨h.needs, h.hours, fun b o hb => k _ _ (h.keep b o hb), ⟨oc, k _ _ e1, e2⟩, kvs, d1.keep fun o ho => k _ _ ho, d2⟩
theorem ends_ct {Nl Hl : Addr} {nits hits : Array Value} {n1 n2 : Nat} {needs : List (List Nat)} {hours : List Int}
    (C : Cx w A env h₀ hp m G) (hh : A.handled = none) (hN : lk G Nl = some (listOf nits n1)) (hNr : All2 (IsRow G) nits.toList needs) (hH : lk G Hl = some (listOf hits n2)) (hHr : All2 IsI hits.toList hours)
    (hlen : hours.length = needs.length) (hn : needs.length ≤ 100) (hrow : ∀ row ∈ needs, row.length ≤ 100) (hd : A.depth + 3 < recursionLimit) (hu : A.units + 100 < cLine)
    (ret : ∀ h' tk' G' D kvs, Cx w A env h₀ h' m G' → (∀ b o, lk G b = some o → lk G' b = some o) → IsDict w G' D kvs → All2 IsKV kvs (endsOf needs hours) → lk G D = none → Q (.ref D) ⟨h', g, d, tk', os⟩) :
    wpAny (model P w) A (call (.ref 221) [.ref Nl, .ref Hl]) Q E ⟨hp, g, d, tk, os⟩ := by
  have e9 : PySem.Challenge.rw_oh0057_01 = PySem.Challenge.rw_oh0057_01 := rfl
  have X := C.X
  revert X e9; k_fill; intro X e9; clear e9
  k_dflt (refine' C.enterK (binds := [(Str.ofString "needs", Value.ref Nl), (Str.ofString "hours", Value.ref Hl)]) ?k6 ?k7 ?k8 ?k9 ?kB ?kN ?c2 ?c3 ?c4 ?_; (case k6 => k_is); (case k7 => k_is); (case k8 => (exact Mine.o10 hd)); (case k9 => exact BindsTo.of_eq rfl); (case c2 => exact rfl); (case c3 => exact rfl); (case c4 => exact rfl); (case kN => decide); (case kB => (intro n x hx; simp only [List.mem_cons, List.not_mem_nil, or_false] at hx; rcases hx with rfl | rfl <;> exact .inl rfl)); k_whole; intro gb L' h₁ tk₁ cells C1 hcells hlt)
  (refine Mine.e1a2 hcells.one ?_; rintro oE rfl dE)
  have dE' : oE.data = .cell none := dE
  clear dE hcells
  -- BODY
  have hG1 : ∀ b o, lk G b = some o → b < L' := fun b o hb => hlt _ (lk_mem hb)
  have gE : lk ([(L' + 1, oE)] ++ G) (L' + 1) = some oE := lk_cons_eq
  have gG : ∀ b o, lk G b = some o → lk ([(L' + 1, oE)] ++ G) b = some o := fun b o hb => lk_cons_ne (Nat.ne_of_lt (Nat.lt_of_lt_of_le (hG1 b o hb) (Nat.le_add_right L' 1))) hb
  generalize ([(L' + 1, oE)] ++ G) = G1 at *
  (refine Mine.e1a3 (C1.named2 (x := Str.ofString "needs") (y := Str.ofString "hours") (a := .ref Nl) (b := .ref Hl) rfl rfl) ?_; rintro m1 C1 hm1 hm2)
  have hsz : nits.size = needs.length := by simpa using hNr.length
  -- ends = {}
  refine wpAny_execs_cons (wpAny_Assign_Name (C1.newDict fun D h₂ C2 hD2 hlt2 => C2.storeC (c := L' + 1) rfl (lk_fc (lk_fresh hlt2) gE) dE' (fun h₃ oc C3 dc => ?_)))
  have hDf : lk G1 D = none := lk_fresh hlt2
  have hDG : lk G D = none := by
    cases q : lk G D with
    | none => rfl
    | some o => rw [gG _ _ q] at hDf; cases hDf
  have hDc : D ≠ L' + 1 := fun q => by rw [q, gE] at hDf; cases hDf
  have I3 : EnI w G Nl Hl (L' + 1) D [] m1 (Mine.st ((D, dictOf [] 0) :: G1) (L' + 1) oc) :=
    ⟨hm1, hm2, fun b o hb => lk_st_ne (Nat.ne_of_lt (Nat.lt_of_lt_of_le (hG1 b o hb) (Nat.le_add_right L' 1))) (lk_fc hDf (gG b o hb)), ⟨oc, lk_st_eq, dc⟩, [], hD2.keep fun o ho => lk_st_ne hDc ho, .nil⟩
  have keepG : ∀ b o, lk G b = some o → lk (Mine.st ((D, dictOf [] 0) :: G1) (L' + 1) oc) b ≠ none := fun b o hb => by rw [I3.keep b o hb]; simp
  -- for turn in needs
  refine wpAny_execs_cons (wpAny_For (C3.name I3.needs ?_))
  refine C3.for_list (fun i m₁ G₁ => EnI w G Nl Hl (L' + 1) D (endsN needs hours i) m₁ G₁) hh I3 (fun _ _ _ hj => hj.keep _ _ hN) rfl (fun i m₁ G₁ G₂ hj u => hj.up keepG u) ?_ ?_
  · intro i v m₁ G₁ h₄ tk₄ I oI hv hJ C4 hI hIf hI0
    have hil : i < needs.length := by
      have h1 : i < nits.toList.length := (List.getElem?_eq_some_iff.mp hv).1
      simpa [hsz] using h1
    have I4 := hJ.set (x := Str.ofString "turn") v (by decide) (by decide)
    -- for k in range(len(needs))
    refine wpAny_execs_cons (wpAny_For (C4.callT (n_range w) Boot.range (args_cons (C4.callB (n_len w) Boot.len (args_cons (C4.name I4.needs (args_nil (C4.len (I4.keep _ _ hN) (Mine.o17 hn hsz) fun _ _ => args_nil (C4.range fun r h₅ tk₅ u1 u2 u3 C5 hr5 => ?_)))))))))
    rw [hsz] at hr5
    have keepG4 : ∀ b o, lk G b = some o → lk G₁ b ≠ none := fun b o hb => by rw [I4.keep b o hb]; simp
    obtain ⟨vsI, hIf⟩ := hIf
    refine C5.for_range (fun i' m₁ G₂ => EnI w G Nl Hl (L' + 1) D (endPart needs hours (endsN needs hours i) i') m₁ G₂ ∧ lk G₂ I = some oI) hh hr5 (Mine.o21 hn) ⟨I4, hI⟩ rfl (fun i m₁ G₁ G₂ hj u => ⟨hj.1.up keepG4 u, u _ _ hj.2 (.inl (by rw [hI]; simp))⟩) ?_ ?_
    · rintro k tv m₂ G₂ h₆ tk₆ I' oI' hk ⟨hJ6, hI6⟩ C6 hI' ⟨vsI', hIf'⟩ hI0'
      have I6 := hJ6.set (x := Str.ofString "k") (.int (k : Int) tv) (by decide) (by decide)
      have hL6 := endPart_len (needs := needs) (hours := hours) (l := endsN needs hours i) k
      have hL7 := endsN_len (needs := needs) (hours := hours) i
      have hL8 : i * needs.length ≤ 100 * 100 := Nat.mul_le_mul (Mine.o22 hn hil) hn
      have hps := endPart_succ (needs := needs) (hours := hours) (l := endsN needs hours i) (i := k)
      rw [hps]
      generalize endPart needs hours (endsN needs hours i) k = l at *
      (refine Mine.e1a2 I6.cell ?_; rintro oc6 hc6 dc6)
      (refine Mine.e1a2 I6.dict ?_; rintro kvs hd6 hA6)
      have hkl := hA6.length
      obtain ⟨row, hrw⟩ : ∃ row, needs[k]? = some row := ⟨needs[k], by simp [hk]⟩
      have hrowAt : rowAt needs k = row := by unfold rowAt; simp [List.getD, hrw]
      obtain ⟨rv, hrv, rl, rits, rn, rfl, hrl, hra⟩ := hNr.get hrw
      have hr1 := hrow row (List.mem_of_getElem? hrw)
      have hral := hra.length
      have hcanE : canEnd needs l k = ((eget l k).isNone && row.all fun j => (eget l j).isSome) := by unfold canEnd; rw [hrowAt]
      -- if k not in ends and ..
      refine wpAny_execs_cons (wpAny_If (wpAny_isTrue_BoolOp (wpAny_allTrue_And_cons (wpAny_isTrue_Compare1 (C6.name mset_eq (C6.nameC (c := L' + 1) rfl hc6 dc6 (C6.dnotin hd6 fun tk₇ => wpAny_truthy_bool ?_)))))))
      rw [kv_some hA6]
      by_cases ek : eget l k = none
      · rw [if_pos (by rw [ek]; rfl)]
        have szr : rits.size < 2 ^ 19 := by simp at hral; (exact Mine.o26 hr1 hral)
        refine wpAny_allTrue_And_cons (wpAny_isTrue_Compare1 (comp_ev (cl := [(Str.ofString "ends", L' + 1)]) rfl rfl (by decide) ?_))
        refine Subscript_ (C6.name I6.needs (C6.name mset_eq (C6.itemN (I6.keep _ _ hN) (Mine.o28 hn hk) hrv ?_)))
        refine C6.comp_list (fun i' acc G₃ => (∀ b o, lk G₂ b = some o → lk G₃ b = some o) ∧ All2 IsN acc ((row.take i').filter fun j => (eget l j).isNone)) hh szr (fun _ _ _ hj => hj.1 _ _ (I6.keep _ _ hrl)) rfl (by decide) rfl ⟨fun _ _ h => h, .nil⟩ ?_ ?_ ?_
        · rintro i' acc G₃ G₄ ⟨z1, z2⟩ u
          exact ⟨fun b o hb => u _ _ (z1 b o hb) (.inl (by rw [hb]; simp)), z2⟩
        · rintro I2 Dc Lc i' v' acc mc G₃ h₇ tk₈ oI2 oC oD hv' hal ⟨z1, z2⟩ C7 hI2 hD hL hNs hm
          obtain ⟨j, hj, tj, rfl⟩ := hra.getL hv'
          refine CTurn.one (wpAny_isTrue_Compare1 (C7.cname hL hNs hm (C7.ccell (c := L' + 1) rfl (z1 _ _ hc6) dc6 (C7.dnotin (hd6.keep fun o ho => z1 _ _ ho) fun tk₉ => wpAny_truthy_bool ?_))))
          rw [kv_some hA6]
          have htk : row.take (i' + 1) = row.take i' ++ [j] := by rw [List.take_add_one, hj]; rfl
          by_cases q : eget l j = none
          · rw [if_pos (by rw [q]; rfl)]
            refine C7.cname hL hNs hm ⟨_, _, _, rfl, C7, hI2, hD, hL, z1, ?_⟩
            rw [htk, List.filter_append, List.filter_cons_of_pos (by rw [q]; rfl)]
            exact z2.snoc ⟨tj, rfl⟩
          · obtain ⟨e, he⟩ := Option.ne_none_iff_exists'.mp q
            rw [if_neg (by rw [he]; simp)]
            refine ⟨_, _, _, rfl, C7, hI2, hD, hL, z1, ?_⟩
            rw [htk, List.filter_append, List.filter_cons_of_neg (by rw [he]; simp)]
            simpa using z2
        · rintro Dc Lc acc nn mc oC G₃ h₇ tk₈ hD0 hL0 hDL ⟨z1, z2⟩ C7 hD hL hNs
          rw [List.take_of_length_le (by simp at hral; (exact Mine.o31 hral))] at z2
          refine C7.endV hL hNs fun h₈ C8 => ?_
          have k8 : ∀ b o, lk G₂ b = some o → lk (rm G₃ Lc) b = some o := fun b o hb => (lk_rm (lk_ne hb hL0)).trans (z1 b o hb)
          have D8 : lk (rm G₃ Lc) Dc = some (listOf acc.toArray nn) := (lk_rm hDL).trans hD
          generalize rm G₃ Lc = G₄ at *
          refine List_ (args_nil (C8.newList (by simp) fun Em h₉ C9 hEm => C9.eqNil (lk_fc hEm D8) lk_cons_eq (by simp; (exact Mine.o32 hu)) (wpAny_truthy_bool ?_)))
          have hacc : decide (acc.toArray.size = 0) = row.all fun j => (eget l j).isSome := by
            have h1 := z2.length
            have h2 : (row.all fun j => (eget l j).isSome) = decide ((row.filter fun j => (eget l j).isNone) = []) := by
              rw [Bool.eq_iff_iff]
              simp only [List.all_eq_true, decide_eq_true_eq, List.filter_eq_nil_iff]
              refine forall_congr' fun j => forall_congr' fun _ => ?_
              cases eget l j <;> simp
            rw [h2]
            refine decide_eq_decide.mpr ?_
            rw [List.size_toArray, h1, List.length_eq_zero_iff]
          rw [hacc]
          by_cases ea : (row.all fun j => (eget l j).isSome) = true
          · rw [if_pos ea]
            refine wpAny_allTrue_And_nil ?_
            rw [if_pos rfl]
            have hcan : canEnd needs l k = true := by rw [hcanE, ek, ea]; rfl
            have hes : endStep needs hours l k = l ++ [(k, hours.getD k 0 + maxZ (row.map fun j => (eget l j).getD 0))] := by unfold endStep; rw [if_pos hcan, hrowAt]
            have hall : ∀ j ∈ row, ∃ e t, eget l j = some e ∧ valueAt kvs (j : Int) = some (.int e t) := fun j hj => by
              have := List.all_eq_true.mp ea j hj
              rcases kv_get hA6 j with ⟨h1, _⟩ | h1
              · rw [h1] at this; cases this
              · exact h1
            have k9 : ∀ b o, lk G₂ b = some o → lk ((Em, listOf [].toArray 0) :: G₄) b = some o := fun b o hb => lk_fc hEm (k8 b o hb)
            generalize ((Em, listOf ([] : List Value).toArray 0) :: G₄) = G9 at *
            obtain ⟨hv9, hhv, th, rfl⟩ := hHr.get (i := k) (b := hours[k]'(Mine.o35 hlen hk)) (by simp [hlen, hk])
            have hgd : hours.getD k 0 = hours[k]'(Mine.o35 hlen hk) := by simp [hlen, hk]
            rw [← hgd] at hhv
            -- ends[k] = ..
            refine wpAny_execs_cons (wpAny_Assign_Subscript (wpAny_BinOp (Subscript_ (C9.name I6.hours (C9.name mset_eq (C9.itemN (k9 _ _ (I6.keep _ _ hH)) (Mine.o28 hn hk) hhv ?_))))))
            refine C9.callB (n_max w) Boot.max (args_cons (wpAny_BinOp (List_ (args_cons (c_int fun t0 tk0 => args_nil (C9.newList (by simp) fun Z h₁₀ C10 hZ => ?_))))))
            have k10 : ∀ b o, lk G₂ b = some o → lk ((Z, listOf [Value.int 0 t0].toArray 0) :: G9) b = some o := fun b o hb => lk_fc hZ (k9 b o hb)
            have Z10 : lk ((Z, listOf [Value.int 0 t0].toArray 0) :: G9) Z = some (listOf [Value.int 0 t0].toArray 0) := lk_cons_eq
            generalize ((Z, listOf [Value.int 0 t0].toArray 0) :: G9) = G10 at *
            refine comp_ev (cl := [(Str.ofString "ends", L' + 1)]) rfl rfl (by decide) ?_
            refine Subscript_ (C10.name I6.needs (C10.name mset_eq (C10.itemN (k10 _ _ (I6.keep _ _ hN)) (Mine.o28 hn hk) hrv ?_)))
            refine C10.comp_list (fun i' acc G₃ => (∀ b o, lk G10 b = some o → lk G₃ b = some o) ∧ All2 IsI acc ((row.take i').map fun j => (eget l j).getD 0)) hh szr (fun _ _ _ hj => hj.1 _ _ (k10 _ _ (I6.keep _ _ hrl))) rfl (by decide) rfl ⟨fun _ _ h => h, .nil⟩ ?_ ?_ ?_
            · rintro i' acc G₃ G₄ ⟨z1, z2⟩ u
              exact ⟨fun b o hb => u _ _ (z1 b o hb) (.inl (by rw [hb]; simp)), z2⟩
            · rintro I2 Dc Lc i' v' acc mc G₃ h₇ tk₈ oI2 oC oD hv' hal ⟨z1, z2⟩ C7 hI2 hD hL hNs hm
              obtain ⟨j, hj, tj, rfl⟩ := hra.getL hv'
              (refine Mine.e2a2 (hall j (List.mem_of_getElem? hj)) ?_; rintro e te he1 he2)
              have htk : row.take (i' + 1) = row.take i' ++ [j] := by rw [List.take_add_one, hj]; rfl
              refine CTurn.all (Subscript_ (C7.ccell (c := L' + 1) rfl (z1 _ _ (k10 _ _ hc6)) dc6 (C7.cname hL hNs hm (C7.ditem (hd6.keep fun o ho => z1 _ _ (k10 _ _ ho)) he2 fun tk₉ => ⟨_, _, _, rfl, C7, hI2, hD, hL, z1, ?_⟩))))
              rw [htk, List.map_append]
              refine z2.snoc ⟨te, ?_⟩
              show _ = Value.int ((eget l j).getD 0) te
              rw [he1]; rfl
            · rintro Dc Lc acc nn mc oC G₃ h₇ tk₈ hD0 hL0 hDL ⟨z1, z2⟩ C7 hD hL hNs
              rw [List.take_of_length_le (by simp at hral; (exact Mine.o31 hral))] at z2
              refine C7.endV hL hNs fun h₈ C8 => ?_
              have k8 : ∀ b o, lk G10 b = some o → lk (rm G₃ Lc) b = some o := fun b o hb => (lk_rm (lk_ne hb hL0)).trans (z1 b o hb)
              have D8 : lk (rm G₃ Lc) Dc = some (listOf acc.toArray nn) := (lk_rm hDL).trans hD
              generalize rm G₃ Lc = G₄ at *
              have hz2 := z2.length
              refine C8.catL (k8 _ _ Z10) D8 (by simp at hral hz2 ⊢; (exact Mine.o51 hr1 hz2)) fun Ct h₁₁ C11 hCt => args_nil (C11.maxL hh lk_cons_eq (ns := row.map fun j => (eget l j).getD 0) (.cons ⟨t0, rfl⟩ (by simpa using z2)) fun tM h₁₂ tk₁₂ C12 => o_add fun ts tks => ?_)
              have k12 : ∀ b o, lk G₂ b = some o → lk ((Ct, listOf ([Value.int 0 t0].toArray.toList ++ acc.toArray.toList).toArray 0) :: G₄) b = some o := fun b o hb => lk_fc hCt (k8 _ _ (k10 b o hb))
              generalize ((Ct, listOf ([Value.int 0 t0].toArray.toList ++ acc.toArray.toList).toArray 0) :: G₄) = G12 at *
              refine C12.nameC (c := L' + 1) rfl (k12 _ _ hc6) dc6 (C12.name mset_eq ?_)
              refine C12.dset (hd6.keep fun o ho => k12 _ _ ho) (Mine.o55 hn hk hL7 hL8 hL6 hkl) fun h₁₃ tk₁₃ o' C13 hd13 => ?_
              rw [stored_absent (by have := kv_some hA6 k; rw [ek] at this; simpa using this)] at hd13
              have hDne : ∀ b o, lk G₂ b = some o → b ≠ D → lk (Mine.st G12 D o') b = some o := fun b o hb hne => lk_st_ne hne (k12 b o hb)
              (refine Mine.e1a3 hd6.cls ?_; rintro oD' hoD hcD hfD)
              rw [hes]
              refine wpAny_execs_nil (wpAny_execs_nil ⟨_, _, _, _, rfl, C13, hDne _ _ hI' (fun q => ?_), ⟨I6.needs, I6.hours, fun b o hb => hDne _ _ (I6.keep b o hb) (fun q => by rw [q, hDG] at hb; cases hb), ⟨oc6, hDne _ _ hc6 (fun q => hDc q.symm), dc6⟩, _, hd13, hA6.snoc ⟨rfl, ts, rfl⟩⟩, hDne _ _ hI6 (fun q => ?_)⟩)
              · rw [q, hoD] at hI'; cases hI'; exact hfD _ hIf'
              · rw [q, hoD] at hI6; cases hI6; exact hfD _ hIf
          · rw [if_neg ea]
            have hcan : canEnd needs l k ≠ true := by rw [hcanE, ek]; simpa using ea
            have hes : endStep needs hours l k = l := by unfold endStep; rw [if_neg hcan]
            rw [hes]
            exact wpAny_execs_nil (wpAny_execs_nil ⟨_, _, _, _, rfl, C9, lk_fc hEm (k8 _ _ hI'), I6.grow fun b o hb => lk_fc hEm (k8 b o hb), lk_fc hEm (k8 _ _ hI6)⟩)
      · obtain ⟨e, he⟩ := Option.ne_none_iff_exists'.mp ek
        rw [if_neg (by rw [he]; simp)]
        have hcan : canEnd needs l k ≠ true := by rw [hcanE, he]; simp
        have hes : endStep needs hours l k = l := by unfold endStep; rw [if_neg hcan]
        rw [hes]
        exact wpAny_execs_nil (wpAny_execs_nil ⟨_, _, _, _, rfl, C6, hI', I6, hI6⟩)
    · rintro m₂ G₂ h₆ tk₆ ⟨hJ6, hI6⟩ C6
      exact wpAny_execs_nil ⟨_, _, _, _, rfl, C6, hI6, hJ6⟩
  · intro m₁ G₁ h₄ tk₄ hJ C4
    (refine Mine.e1a2 hJ.cell ?_; rintro oc4 hc4 dc4)
    (refine Mine.e1a2 hJ.dict ?_; rintro kvs hd4 hA4)
    have hnl : nits.toList.length = needs.length := by simpa using hsz
    rw [hnl] at hA4
    exact wpAny_execs_cons (wpAny_Return_some (C4.nameC (c := L' + 1) rfl hc4 dc4 ⟨_, _, C4, fun C5 => ret _ _ _ D kvs C5 hJ.keep hd4 hA4 hDG⟩))
end
end Mine
end TEn1

section TMx1
open PySem PySem.W PyProof.Rows PySem.Calls
namespace Mine
set_option maxRecDepth 100000
set_option maxHeartbeats 8000000
noncomputable def maxPr : Pr → List Pr → Pr
  | b, [] => b
  | b, x :: xs => maxPr (if plt b x = true then x else b) xs
/-- a pair of ints, as a heap bears it -/
def TvAt (H : Heap) (v : Value) (p : Pr) : Prop := ∃ a t1 t2 n, v = .ref a ∧ H.get? a = some (tupOf #[.int p.1 t1, .int p.2 t2] n)
section
variable {w : World} {A : Around} {E : Value → Shared → Prop} {s : Shared}
theorem tup_gt {a b : Addr} {x1 x2 y1 y2 : Int} {t1 t2 u1 u2 : Tok} {n k : Nat} {Q : Value → Shared → Prop}
    (ha : s.heap.get? a = some (tupOf #[.int x1 t1, .int x2 t2] n)) (hb : s.heap.get? b = some (tupOf #[.int y1 u1, .int y2 u2] k)) (hu : A.units < cLine)
    (h : Q (.bool (plt (y1, y2) (x1, x2))) s) : wpAny (model P w) A (richCompare .Gt (.ref a) (.ref b)) Q E s := by
  have hTa : s.TypeIs (.ref a) "tuple" := ⟨_, ha, rfl⟩
  have hTb : s.TypeIs (.ref b) "tuple" := ⟨_, hb, rfl⟩
  refine wpAny_richCompare_same_room hTa hTb PySem.F.slot_tuple_gt (wpAny_call_entry PySem.F.slot_tuple_gt hTa PySem.F.entry_tuple_gt ?_ (PySem.F.args_tuple_gt_2 _ _)) hu
  show wpAny _ _ (isInstance (.ref b) (.type "tuple") >>= _) _ _ s
  refine wpAny_bind (wpAny_isInstance hTb isSubtype_tuple_tuple ?_)
  simp only [Bool.not_true, Bool.false_eq_true, if_false]
  refine wpAny_bind (wpAny_tupleItemsOf ha rfl ?_)
  refine wpAny_bind (wpAny_tupleItemsOf hb rfl ?_)
  refine wpAny_bind ?_
  show wpAny _ _ (forIn [(Value.int x1 t1, Value.int y1 u1), (Value.int x2 t2, Value.int y2 u2)] _ _) _ _ s
  rw [List.forIn_cons]
  refine wpAny_bind (wpAny_bind (wpAny_eqBool_int ?_))
  by_cases h1 : x1 = y1
  · subst h1
    rw [show (x1 == x1) = true from by simp]
    simp only [Bool.not_true, Bool.false_eq_true, if_false]
    refine wpAny_pure ?_
    dsimp only
    rw [List.forIn_cons]
    refine wpAny_bind (wpAny_bind (wpAny_eqBool_int ?_))
    by_cases h2 : x2 = y2
    · subst h2
      rw [show (x2 == x2) = true from by simp]
      simp only [Bool.not_true, Bool.false_eq_true, if_false]
      refine wpAny_pure ?_
      dsimp only
      rw [List.forIn_nil]
      have : plt (x1, x2) (x1, x2) = false := by simp [plt]
      rw [this] at h
      exact wpAny_pure (wpAny_pure ⟨.bool false, rfl, ⟨by simp, h⟩⟩)
    · rw [show (x2 == y2) = false from by simp [h2]]
      simp only [Bool.not_false, if_true]
      have : plt (x1, y2) (x1, x2) = decide (y2 < x2) := by simp [plt]
      rw [this] at h
      refine wpAny_bind (wpAny_rule (wpAny_bind (show wpAny _ _ (compareOp .Gt _ _) _ _ _ from gt_int (wpAny_bind (wpAny_pure (wpAny_pure ?_))))))
      exact wpAny_pure (wpAny_pure ⟨_, rfl, ⟨by simp, h⟩⟩)
  · rw [show (x1 == y1) = false from by simp [h1]]
    simp only [Bool.not_false, if_true]
    have : plt (y1, y2) (x1, x2) = decide (y1 < x1) := by
      have : ¬ y1 = x1 := fun q => h1 q.symm
      simp [plt, this]
    rw [this] at h
    refine wpAny_bind (wpAny_rule (wpAny_bind (show wpAny _ _ (compareOp .Gt _ _) _ _ _ from gt_int (wpAny_bind (wpAny_pure (wpAny_pure ?_))))))
    exact wpAny_pure (wpAny_pure ⟨_, rfl, ⟨by simp, h⟩⟩)
abbrev pairL (v : Value) (c : Nat) : Obj := { cls := .type "list", dict := none, data := .seq #[v, v] c, slots := #[] }
theorem max_go {R : Result → Shared → Prop} {H : Heap} {its : Array Value} {ps : List Pr} {I ax S : Addr} (hh : A.handled = none) (hu : A.in1.units < cLine) {Rv : Value → Pr → Prop} (hRv : ∀ v p, Rv v p → TvAt H v p) (hA : All2 Rv its.toList ps) (hI : H.get? I = none) (hS : H.get? S = none) (hIS : S ≠ I) (hax : H.IsList ax its) :
    ∀ (k j : Nat) (s : Shared) (vb : Value) (b : Pr) (c : Nat), its.size - (j + 1) = k → j + 1 ≤ its.size → s.heap.IsListIter I ax (j + 1) → (∀ a o, H.get? a = some o → s.heap.get? a = some o) → Rv vb b → s.heap.get? S = some (pairL vb c) →
    (∀ v h' tk, Rv v (maxPr b (ps.drop (j + 1))) → (∀ a o, H.get? a = some o → h'.get? a = some o) → R (.ok (.ret v)) { s with heap := h', toks := tk }) →
    codeAny (model P w) A (.builtin "max.loop" ⟨[.ref I, .none, .ref S], []⟩) R s := by
  have hname : (toString "max" ++ toString ".loop" : String) = "max.loop" := by decide
  have neI : ∀ {a : Addr} {o : Obj}, H.get? a = some o → a ≠ I := fun {a o} e q => by rw [q, hI] at e; cases e
  have neS : ∀ {a : Addr} {o : Obj}, H.get? a = some o → a ≠ S := fun {a o} e q => by rw [q, hS] at e; cases e
  have hpl : its.size = ps.length := by simpa using hA.length
  have isl : ∀ {h : Heap}, (∀ a o, H.get? a = some o → h.get? a = some o) → h.IsList ax its := fun {h} k => hax.at fun o e => k _ _ e
  intro k
  induction k with
  | zero =>
    intro j s vb b c hk hj hit hK hb hSs hR
    have hin : j + 1 = its.size := Mine.o134 hj hk
    refine codeAny_builtin PySem.F.entry_max_loop ?_
    rw [Around.under_plainId PySem.F.plain_max_loop _]
    show wpAny _ A.in1 (seqItems? (.ref S) >>= _) _ _ s
    refine wpAny_bind (wpAny_seqItems hSs rfl ?_)
    show wpAny _ A.in1 (tryCatch (pyNext (.ref I)) _ >>= _) _ _ s
    refine wpAny_bind (wpAny_tryCatch (wpAny_pyNext_list_end hh (hin ▸ hit) (isl hK) (by simp) fun h' he' => ?_))
    have hS' := he' S _ hIS hSs
    show wpAny _ A.in1 (updateSeq S (fun _ => #[]) >>= _) _ _ _
    refine wpAny_bind (wpAny_updateSeq hS' rfl (wpAny_bind (wpAny_letGo (wpAny_pure ?_))))
    refine hR vb _ _ ?_ fun a o e => (Heap.get?_update_other _ _ (fun q => neS e q.symm)).trans (he' a o (neI e) (hK a o e))
    rw [List.drop_of_length_le (Mine.o136 hpl hin)]; exact hb
  | succ k ih =>
    intro j s vb b c hk hj hit hK hb hSs hR
    have hlt : j + 1 < its.size := Mine.o137 hk hj
    obtain ⟨p, hp⟩ : ∃ p, ps[j + 1]? = some p := ⟨ps[j + 1]'(Mine.o138 hpl hlt), by simp⟩
    (refine Mine.e1a2 (hA.get hp) ?_; rintro v hv hvp)
    have hdrop : ps.drop (j + 1) = p :: ps.drop (j + 1 + 1) := by
      rw [List.drop_eq_getElem_cons (Mine.o138 hpl hlt)]
      congr 1
      have := (List.getElem?_eq_some_iff.mp hp).2
      exact this
    rw [hdrop] at hR
    refine codeAny_builtin PySem.F.entry_max_loop ?_
    rw [Around.under_plainId PySem.F.plain_max_loop _]
    show wpAny _ A.in1 (seqItems? (.ref S) >>= _) _ _ s
    refine wpAny_bind (wpAny_seqItems hSs rfl ?_)
    show wpAny _ A.in1 (tryCatch (pyNext (.ref I)) _ >>= _) _ _ s
    refine wpAny_bind (wpAny_tryCatch (wpAny_pyNext_list_item hit (isl hK) (x := v) (by simpa using hv) fun h' hit' hs' => ?_))
    have hS' := hs'.extBut S _ hIS hSs
    have hK' : ∀ a o, H.get? a = some o → h'.get? a = some o := fun a o e => hs'.extBut a o (neI e) (hK a o e)
    show wpAny _ A.in1 (tryCatch (holding [v, v] (richCompare .Gt v vb >>= _)) _ >>= _) _ _ _
    (refine Mine.e4a2 (hRv _ _ hvp) ?_; rintro av ta tb na rfl hav)
    (refine Mine.e4a2 (hRv _ _ hb) ?_; rintro ab tc td nb rfl hab)
    refine wpAny_bind (wpAny_tryCatch (wpAny_holding (wpAny_bind (tup_gt (hK' _ _ hav) (hK' _ _ hab) hu ?_))))
    refine wpAny_bind (wpAny_holding (wpAny_truthy_bool ?_))
    refine wpAny_bind (wpAny_letGo (wpAny_pure ?_))
    show wpAny _ _ _ _ _ _
    cases hbt : plt (b.1, b.2) (p.1, p.2) with
    | true =>
      simp only [if_true]
      refine wpAny_bind (wpAny_updateSeq hS' rfl (wpAny_bind (wpAny_letGo ?_)))
      rw [hname]
      refine wpAny_pure ⟨plainId_quiet PySem.F.plain_max_loop _, ih (j + 1) _ (.ref av) p _ (Mine.o144 hk hlt) hlt ?_ ?_ hvp (Heap.get?_update_self _ hS' rfl) fun v' h'' tk'' hP' hk'' => ?_⟩
      · exact hit'.at fun o e => (Heap.get?_update_other _ _ hIS).trans e
      · exact fun a o e => (Heap.get?_update_other _ _ (fun q => neS e q.symm)).trans (hK' a o e)
      · refine hR v' h'' tk'' ?_ hk''
        show Rv v' (maxPr (if plt b p = true then p else b) _)
        rw [if_pos hbt]; exact hP'
    | false =>
      simp only [Bool.false_eq_true, if_false]
      refine wpAny_bind (wpAny_letGo ?_)
      rw [hname]
      refine wpAny_pure ⟨plainId_quiet PySem.F.plain_max_loop _, ih (j + 1) _ (.ref ab) b c (Mine.o144 hk hlt) hlt hit' hK' hb hS' fun v' h'' tk'' hP' hk'' => ?_⟩
      refine hR v' h'' tk'' ?_ hk''
      show Rv v' (maxPr (if plt b p = true then p else b) _)
      rw [if_neg (by rw [show plt b p = false from hbt]; simp)]; exact hP'
theorem call_max_pairs {l : Addr} {its : Array Value} {p : Pr} {ps : List Pr} {Q : Value → Shared → Prop} (hh : A.handled = none) (hu : A.in1.units < cLine) (hl : s.heap.IsList l its) {Rv : Value → Pr → Prop} (hRv : ∀ v p, Rv v p → TvAt s.heap v p) (hA : All2 Rv its.toList (p :: ps))
    (h : ∀ v h' tk, Rv v (maxPr p ps) → (∀ a o, s.heap.get? a = some o → h'.get? a = some o) → Q v { s with heap := h', toks := tk }) :
    wpAny (model P w) A (call (.builtin "max") [.ref l]) Q E s := by
  have hname : (toString "max" ++ toString ".loop" : String) = "max.loop" := by decide
  refine call_function_tree PySem.F.kind_max PySem.F.plain_max PySem.F.entry_max (PySem.F.args_max1 _) ?_
  show wpAny _ A.in1 (Builtin.Builtins.bindParams "max" ["key", "default"] 0 ⟨[], []⟩ >>= _) _ _ s
  refine wpAny_bind (wpAny_of_eq (show Builtin.Builtins.bindParams "max" ["key", "default"] 0 ⟨[], []⟩ = pure [none, none] from rfl) ?_)
  refine wpAny_bind (wpAny_pure ?_)
  refine wpAny_bind (wpAny_pyIter_list hl ?_)
  refine wpAny_bind (wpAny_newObj_type ?_)
  rw [hname]
  refine wpAny_pure ⟨plainId_quiet PySem.F.plain_max_loop _, ?_⟩
  have hI : s.heap.get? s.heap.objs.size = none := by
    cases e : s.heap.get? s.heap.objs.size with
    | none => rfl
    | some o => exact absurd (Heap.lt_size e) (Nat.lt_irrefl _)
  generalize hIx : s.heap.objs.size = I at *
  have hne : l ≠ I := fun q => by
    (refine Mine.e1a2 hl ?_; clear hl; rintro o ho _)
    rw [q, hI] at ho; cases ho
  have hS0 : s.heap.get? (s.heap.push { cls := .type "list_iterator", data := .fields #[.ref l, .int 0 0] }).objs.size = none := by
    rw [Heap.size_push]
    cases e : s.heap.get? (s.heap.objs.size + 1) with
    | none => rfl
    | some o => exact absurd (Heap.lt_size e) (Nat.not_lt.mpr (Nat.le_succ _))
  have hSI : (s.heap.push { cls := .type "list_iterator", data := .fields #[.ref l, .int 0 0] }).objs.size ≠ I := by
    rw [Heap.size_push, ← hIx]; (exact Mine.o146)
  have g1 : ∀ a o, s.heap.get? a = some o → ((s.heap.push { cls := .type "list_iterator", data := .fields #[.ref l, .int 0 0] }).push { cls := .type "list", data := .seq #[] }).get? a = some o := fun a o e => Heap.get?_push_of_some _ (Heap.get?_push_of_some _ e)
  have hit : ((s.heap.push { cls := .type "list_iterator", data := .fields #[.ref l, .int 0 0] }).push { cls := .type "list", data := .seq #[] }).IsListIter I l 0 := by
    refine ⟨_, Heap.get?_push_of_some _ (by rw [← hIx]; exact Heap.get?_push_size _ rfl), rfl, rfl⟩
  have hSs : ((s.heap.push { cls := .type "list_iterator", data := .fields #[.ref l, .int 0 0] }).push { cls := .type "list", data := .seq #[] }).get? (s.heap.push { cls := .type "list_iterator", data := .fields #[.ref l, .int 0 0] }).objs.size = some { cls := .type "list", dict := none, data := .seq #[] 0, slots := #[] } := Heap.get?_push_size _ rfl
  generalize ((s.heap.push { cls := .type "list_iterator", data := .fields #[.ref l, .int 0 0] }).push { cls := .type "list", data := .seq #[] }) = h1 at *
  generalize (s.heap.push { cls := .type "list_iterator", data := .fields #[.ref l, .int 0 0] }).objs.size = S at *
  (refine Mine.e1a2 (hA.get (i := 0) (b := p) rfl) ?_; rintro v hv hvp)
  have hsz : its.size = ps.length + 1 := by simpa using hA.length
  refine codeAny_builtin PySem.F.entry_max_loop ?_
  rw [Around.under_plainId PySem.F.plain_max_loop _]
  show wpAny _ A.in1 (seqItems? (.ref S) >>= _) _ _ _
  refine wpAny_bind (wpAny_seqItems hSs rfl ?_)
  show wpAny _ A.in1 (tryCatch (pyNext (.ref I)) _ >>= _) _ _ _
  refine wpAny_bind (wpAny_tryCatch (wpAny_pyNext_list_item hit (hl.at fun o e => g1 _ _ e) (x := v) (by simpa using hv) fun h' hit' hs' => ?_))
  have hS' := hs'.extBut S _ hSI hSs
  have neI : ∀ {a : Addr} {o : Obj}, s.heap.get? a = some o → a ≠ I := fun {a o} e q => by rw [q, hI] at e; cases e
  have neS : ∀ {a : Addr} {o : Obj}, s.heap.get? a = some o → a ≠ S := fun {a o} e q => by rw [q, hS0] at e; cases e
  show wpAny _ A.in1 (updateSeq S (fun _ => #[v, v]) >>= _) _ _ _
  refine wpAny_bind (wpAny_updateSeq hS' rfl ?_)
  rw [hname]
  refine wpAny_pure ⟨plainId_quiet PySem.F.plain_max_loop _, max_go hh hu hRv hA hI hS0 hSI hl _ 0 _ v p _ rfl (Mine.o148 hsz) ?_ ?_ hvp (Heap.get?_update_self _ hS' rfl) fun v' h'' tk'' hP' hk'' => h v' h'' tk'' (by simpa using hP') hk''⟩
  · exact hit'.at fun o e => (Heap.get?_update_other _ _ hSI).trans e
  · exact fun a o e => (Heap.get?_update_other _ _ (fun q => neS e q.symm)).trans (hs'.extBut a o (neI e) (g1 a o e))
end
section
variable {w : World} {A : Around} {env : Env} {h₀ : Heap} {m : Str → Option Value} {G : LedT} {hp : Heap} {g : Array GenState} {d : Drawn} {tk : Nat} {os : OsState} {Q E : Value → Shared → Prop}
/-- the greatest of a list of pairs -/
theorem Cx.maxP (C : Cx w A env h₀ hp m G) {l : Addr} {its : Array Value} {n : Nat} {p : Pr} {ps : List Pr} (hh : A.handled = none) (hu : A.in1.units < cLine) (hl : lk G l = some (listOf its n)) (hA : All2 (IsPr G) its.toList (p :: ps))
    (h : ∀ v h' tk', IsPr G v (maxPr p ps) → Cx w A env h₀ h' m G → Q v ⟨h', g, d, tk', os⟩) :
    wpAny (model P w) A (call (.builtin "max") [.ref l]) Q E ⟨hp, g, d, tk, os⟩ := by
  refine call_max_pairs (Rv := IsPr G) hh hu (C.isList hl) (fun v p hv => ?_) hA fun v h' tk' hv hk => h v h' tk' hv (C.grown hk)
  (refine Mine.e4a2 hv ?_; clear hv; rintro a t1 t2 n rfl ha)
  exact ⟨a, t1, t2, n, rfl, C.at ha⟩
end
end Mine
end TMx1

section TSp1
open PySem PySem.W PyProof.Rows PySem.Calls
namespace Mine
set_option maxRecDepth 100000
/-- a strict total order on the first n indices -/
structure OrdN (n : Nat) (lt : Nat → Nat → Bool) : Prop where
  tr : ∀ i j k, i < n → j < n → k < n → lt i j = true → lt j k = true → lt i k = true
  tot : ∀ i j, i < n → j < n → i ≠ j → lt i j = false → lt j i = true
  asym : ∀ i j, i < n → j < n → lt i j = true → lt j i = false
/-- a permutation of the first n indices -/
structure PermN (n : Nat) (p : Array Nat) : Prop where
  sz : p.size = n
  pm : p.toList.Perm (List.range n)
theorem gD (p : Array Nat) (i : Nat) : p.getD i 0 = (p[i]?).getD 0 := by
  simp [Array.getD]; split <;> simp_all
section
variable {n : Nat} {lt : Nat → Nat → Bool} {p : Array Nat}
theorem PermN.bnd (h : PermN n p) {i : Nat} (hi : i < n) : p.getD i 0 < n := by
  have hs := h.sz
  have : p.getD i 0 ∈ p.toList := by
    rw [gD, getElem?_pos p i (Mine.o158 hi hs)]; simp
  exact List.mem_range.mp (h.pm.mem_iff.mp this)
theorem PermN.inj (h : PermN n p) {i j : Nat} (hi : i < n) (hj : j < n) (e : p.getD i 0 = p.getD j 0) : i = j := by
  have hs := h.sz
  have nd : p.toList.Nodup := (h.pm.nodup_iff).mpr List.nodup_range
  rw [gD, gD, getElem?_pos p i (Mine.o158 hi hs), getElem?_pos p j (Mine.o158 hj hs)] at e
  have e' : p.toList[i]'(by simp; (exact Mine.o158 hi hs)) = p.toList[j]'(by simp; (exact Mine.o158 hj hs)) := by simpa using e
  have pw := List.pairwise_iff_getElem.mp nd
  rcases Nat.lt_trichotomy i j with q | q | q
  · exact absurd e' (pw i j (by simp; (exact Mine.o158 hi hs)) (by simp; (exact Mine.o158 hj hs)) q)
  · exact q
  · exact absurd e'.symm (pw j i (by simp; (exact Mine.o158 hj hs)) (by simp; (exact Mine.o158 hi hs)) q)
theorem PermN.ne (h : PermN n p) {i j : Nat} (hi : i < n) (hj : j < n) (e : i ≠ j) : p.getD i 0 ≠ p.getD j 0 := fun q => e (h.inj hi hj q)
theorem PermN.of (h : PermN n p) {q : Array Nat} (hq : q.Perm p) : PermN n q := ⟨hq.size_eq.trans h.sz, (Array.perm_iff_toList_perm.mp hq).trans h.pm⟩
def AscTo (lt : Nat → Nat → Bool) (p : Array Nat) (k : Nat) : Prop := ∀ i j, i < j → j < k → lt (p.getD i 0) (p.getD j 0) = true
def DscTo (lt : Nat → Nat → Bool) (p : Array Nat) (k : Nat) : Prop := ∀ i j, i < j → j < k → lt (p.getD j 0) (p.getD i 0) = true
theorem AscTo.snoc (O : OrdN n lt) (hp : PermN n p) {k : Nat} (h : AscTo lt p k) (h1 : 1 ≤ k) (hk : k < n) (e : lt (p.getD (k - 1) 0) (p.getD k 0) = true) : AscTo lt p (k + 1) := by
  intro i j hij hj
  by_cases q : j = k
  · subst q
    by_cases q2 : i = j - 1
    · subst q2; exact e
    · exact O.tr _ _ _ (hp.bnd (Mine.o174 hij hk)) (hp.bnd (Mine.o175 hk h1)) (hp.bnd (Mine.o176 hk)) (h i (j - 1) (by omega) (Mine.o177 h1)) e
  · exact h i j hij (by omega)
theorem DscTo.snoc (O : OrdN n lt) (hp : PermN n p) {k : Nat} (h : DscTo lt p k) (h1 : 1 ≤ k) (hk : k < n) (e : lt (p.getD k 0) (p.getD (k - 1) 0) = true) : DscTo lt p (k + 1) := by
  intro i j hij hj
  by_cases q : j = k
  · subst q
    by_cases q2 : i = j - 1
    · subst q2; exact e
    · exact O.tr _ _ _ (hp.bnd (Mine.o176 hk)) (hp.bnd (Mine.o175 hk h1)) (hp.bnd (Mine.o174 hij hk)) e (h i (j - 1) (by omega) (Mine.o177 h1))
  · exact h i j hij (by omega)
theorem DscTo.rev (hp : PermN n p) {k : Nat} (h : DscTo lt p k) (hk : k ≤ n) : AscTo lt (kas_rev p 0 k) k := by
  have hs := hp.sz
  intro i j hij hj
  unfold kas_rev
  rw [gD, gD, getElem?_mirror_all (Mine.o178 hk hs), getElem?_mirror_all (Mine.o178 hk hs), if_pos (by omega), if_pos (by omega), ← gD, ← gD]
  exact h _ _ (Mine.o179 hij hj) (Mine.o180 hj hij)
theorem PermN.rev (hp : PermN n p) (i j : Nat) : PermN n (kas_rev p i j) := hp.of (mirror_perm _ _ _ _)
variable {cmp : Nat → Nat → (Bool → Shared → Prop) → Shared → Prop} {s : Shared}
/-- the comparison answers as the order says, and leaves the state -/
def Asks (n : Nat) (lt : Nat → Nat → Bool) (cmp : Nat → Nat → (Bool → Shared → Prop) → Shared → Prop) (s : Shared) : Prop := ∀ i j (C : Bool → Shared → Prop), i < n → j < n → C (lt i j) s → cmp i j C s
theorem asc_ok (O : OrdN n lt) (K : Asks n lt cmp s) (hp : PermN n p) {Q : Nat → Shared → Prop} : ∀ (f k : Nat), 1 ≤ k → k + f = n → AscTo lt p k → (∀ m, k ≤ m → m ≤ n → AscTo lt p m → (m < n → lt (p.getD m 0) (p.getD (m - 1) 0) = true) → Q m s) → (kas_asc p f k).kasWp cmp Q s
  | 0, k, h1, hk, ha, hQ => hQ k (Nat.le_refl _) (Mine.o181 hk) ha (fun h => by omega)
  | f + 1, k, h1, hk, ha, hQ => by
    show cmp _ _ (fun b s' => (if b = true then (KasT.ret k) else kas_asc p f (k + 1)).kasWp cmp Q s') s
    refine K _ _ _ (hp.bnd (Mine.o182 hk)) (hp.bnd (Mine.o183 hk h1)) ?_
    cases e : lt (p.getD k 0) (p.getD (k - 1) 0) with
    | true => rw [if_pos rfl]; exact hQ k (Nat.le_refl _) (Mine.o184 hk) ha (fun _ => e)
    | false =>
      rw [if_neg (by simp)]
      have e' := O.tot _ _ (hp.bnd (Mine.o182 hk)) (hp.bnd (Mine.o183 hk h1)) (hp.ne (i := k) (j := k - 1) (Mine.o182 hk) (Mine.o183 hk h1) (Mine.o185 h1)) e
      exact asc_ok O K hp f (k + 1) (Mine.o186) (Mine.o187 hk) (ha.snoc O hp h1 (Mine.o182 hk) e') fun m h2 h3 h4 h5 => hQ m (Mine.o188 h2) h3 h4 h5
theorem desc_ok (O : OrdN n lt) (K : Asks n lt cmp s) (hp : PermN n p) {Q : Array Nat × Nat × Nat → Shared → Prop} : ∀ (f k : Nat), 2 ≤ k → k + f = n → DscTo lt p k → (∀ m, k ≤ m → m ≤ n → DscTo lt p m → Q (p, m, 0) s) → (kas_desc f p k 0).kasWp cmp Q s
  | 0, k, h1, hk, ha, hQ => hQ k (Nat.le_refl _) (Mine.o181 hk) ha
  | f + 1, k, h1, hk, ha, hQ => by
    unfold kas_desc
    show cmp _ _ _ s
    refine K _ _ _ (hp.bnd (Mine.o182 hk)) (hp.bnd (Mine.o189 hk h1)) ?_
    cases e : lt (p.getD k 0) (p.getD (k - 1) 0) with
    | true =>
      dsimp only
      rw [if_pos rfl, if_neg (Mine.o190)]
      exact desc_ok O K hp f (k + 1) (Mine.o191 h1) (Mine.o187 hk) (ha.snoc O hp (Mine.o192 h1) (Mine.o182 hk) e) fun m h2 h3 h4 => hQ m (Mine.o188 h2) h3 h4
    | false =>
      dsimp only
      rw [if_neg (by simp)]
      show cmp _ _ _ s
      have e' := O.tot _ _ (hp.bnd (Mine.o182 hk)) (hp.bnd (Mine.o189 hk h1)) (hp.ne (i := k) (j := k - 1) (Mine.o182 hk) (Mine.o189 hk h1) (Mine.o193 h1)) e
      refine K _ _ _ (hp.bnd (Mine.o189 hk h1)) (hp.bnd (Mine.o182 hk)) ?_
      rw [e']; dsimp only; rw [if_pos rfl]
      exact hQ k (Nat.le_refl _) (Mine.o184 hk) ha
theorem count_ok (O : OrdN n lt) (K : Asks n lt cmp s) (hp : PermN n p) (hn : 2 ≤ n) {Q : Nat × Array Nat → Shared → Prop} (hQ : ∀ m q, PermN n q → AscTo lt q m → 1 ≤ m → m ≤ n → Q (m, q) s) : (kas_count n p).kasWp cmp Q s := by
  unfold kas_count
  rw [KasT.kasWp_bind]
  refine asc_ok O K hp (n - 1) 1 (Nat.le_refl _) (Mine.o195 hn) (fun i j h1 h2 => by omega) fun m h1 h2 ha hm => ?_
  by_cases q : m = n
  · rw [if_pos (by simp [q])]
    exact hQ m p hp ha (Mine.o196 h1) h2
  · rw [if_neg (by simp [q])]
    by_cases q1 : m > 1
    · rw [if_pos q1]
      show cmp _ _ _ s
      refine K _ _ _ (hp.bnd (Mine.o198 hn)) (hp.bnd (Mine.o199 h2 q1)) ?_
      rw [ha 0 (m - 1) (Mine.o200 q1) (Mine.o201 q1)]; dsimp only; rw [if_pos rfl]
      exact hQ m p hp ha (Mine.o202 q1) h2
    · rw [if_neg q1]
      have hm1 : m = 1 := Mine.o203 q1 h1
      subst hm1
      unfold kas_descPart
      rw [KasT.kasWp_bind]
      refine desc_ok O K hp _ 2 (Nat.le_refl _) (Mine.o204 hn) ?_ fun k h3 h4 hd => ?_
      · intro i j hij hj
        have : i = 0 ∧ j = 1 := by omega
        obtain ⟨rfl, rfl⟩ := this
        exact hm (Mine.o205 hn)
      · dsimp only
        rw [if_neg (Mine.o190)]
        unfold kas_tail3
        rw [KasT.kasWp_bind]
        refine asc_ok O K (hp.rev 0 k) _ k (Mine.o192 h3) (Mine.o206 h4) (hd.rev hp h4) fun m h5 h6 ha' _ => ?_
        exact hQ m _ (hp.rev 0 k) ha' (Mine.o207 h3 h5) h6
theorem place_ok (O : OrdN n lt) (K : Asks n lt cmp s) (hp : PermN n p) {k : Nat} (hk : k < n) (ha : AscTo lt p k) {Q : Nat → Shared → Prop} : ∀ (f l r : Nat), r - l ≤ f → l ≤ r → r ≤ k → (∀ i, i < l → lt (p.getD i 0) (p.getD k 0) = true) → (∀ i, r ≤ i → i < k → lt (p.getD k 0) (p.getD i 0) = true) →
    (∀ m, m ≤ k → (∀ i, i < m → lt (p.getD i 0) (p.getD k 0) = true) → (∀ i, m ≤ i → i < k → lt (p.getD k 0) (p.getD i 0) = true) → Q m s) → (kas_place p k f l r).kasWp cmp Q s
  | 0, l, r, hf, hlr, hr, h1, h2, hQ => by
    have : l = r := Mine.o210 hlr hf
    subst this
    exact hQ l hr h1 h2
  | f + 1, l, r, hf, hlr, hr, h1, h2, hQ => by
    unfold kas_place
    by_cases q : l ≥ r
    · rw [if_pos q]
      have : l = r := Mine.o98 hlr q
      subst this
      exact hQ l hr h1 h2
    · rw [if_neg q]
      show cmp _ _ _ s
      refine K _ _ _ (hp.bnd (Mine.o176 hk)) (hp.bnd (Mine.o211 hk hlr hr)) ?_
      cases e : lt (p.getD k 0) (p.getD ((l + r) / 2) 0) with
      | true =>
        dsimp only; rw [if_pos rfl]
        refine place_ok O K hp hk ha f l ((l + r) / 2) (Mine.o212 hf q) (Mine.o213 q) (Mine.o214 hlr hr) h1 (fun i hi1 hi2 => ?_) hQ
        by_cases q2 : i = (l + r) / 2
        · rw [q2]; exact e
        · exact O.tr _ _ _ (hp.bnd (Mine.o176 hk)) (hp.bnd (Mine.o215 hk hi1 hi2)) (hp.bnd (Mine.o216 hk hi2)) e (ha _ _ (by omega) hi2)
      | false =>
        dsimp only; rw [if_neg (by simp)]
        have e' := O.tot _ _ (hp.bnd (Mine.o176 hk)) (hp.bnd (Mine.o211 hk hlr hr)) (hp.ne (i := k) (j := (l + r) / 2) (Mine.o176 hk) (Mine.o211 hk hlr hr) (Mine.o217 hr q)) e
        refine place_ok O K hp hk ha f ((l + r) / 2 + 1) r (Mine.o218 hf q) (Mine.o219 q) hr (fun i hi => ?_) h2 hQ
        by_cases q2 : i = (l + r) / 2
        · rw [q2]; exact e'
        · exact O.tr _ _ _ (hp.bnd (Mine.o220 hk hlr hr hi)) (hp.bnd (Mine.o211 hk hlr hr)) (hp.bnd (Mine.o176 hk)) (ha i _ (by omega) (Mine.o222 hr q)) e'
theorem bub_ok (hp : PermN n p) {k m : Nat} (hk : k < n) (ha : AscTo lt p k) (hm : m ≤ k) (h1 : ∀ i, i < m → lt (p.getD i 0) (p.getD k 0) = true) (h2 : ∀ i, m ≤ i → i < k → lt (p.getD k 0) (p.getD i 0) = true) : AscTo lt (bubble p k (k - m)) (k + 1) := by
  have hs := hp.sz
  have at' : ∀ i, (bubble p k (k - m)).getD i 0 = if i = m then p.getD k 0 else if m < i ∧ i ≤ k then p.getD (i - 1) 0 else p.getD i 0 := fun i => by
    rw [gD, getElem?_bubble (Mine.o158 hk hs) _ (Mine.o223 hm)]
    rw [show k - (k - m) = m by (exact Mine.o224 hm)]
    split
    · rw [← gD]
    · split <;> rw [← gD]
  intro i j hij hj
  rw [at', at']
  by_cases qi : i = m
  · rw [if_pos qi, if_neg (Mine.o225 hij qi), if_pos (by omega)]
    exact h2 _ (Mine.o226 hij qi) (Mine.o227 hj hij)
  · rw [if_neg qi]
    by_cases qj : j = m
    · rw [if_pos qj, if_neg (by omega)]
      exact h1 _ (Mine.o154 hij qj)
    · rw [if_neg qj]
      by_cases q1 : m < i ∧ i ≤ k
      · rw [if_pos q1, if_pos (by omega)]
        exact ha _ _ (Mine.o228 hij q1.1) (Mine.o227 hj hij)
      · rw [if_neg q1]
        by_cases q2 : m < j ∧ j ≤ k
        · rw [if_pos q2]
          exact ha _ _ (by omega) (Mine.o230 q2.2 q2.1)
        · rw [if_neg q2]
          exact ha _ _ (Mine.o176 hij) (by omega)
theorem bin_ok (O : OrdN n lt) (K : Asks n lt cmp s) {Q : Array Nat → Shared → Prop} (hQ : ∀ q, PermN n q → AscTo lt q n → Q q s) : ∀ (f : Nat) (p : Array Nat) (k : Nat), k + f = n → PermN n p → AscTo lt p k → (kas_bin f p k).kasWp cmp Q s
  | 0, p, k, hk, hp, ha => by
    have : k = n := Mine.o231 hk
    subst this
    exact hQ p hp ha
  | f + 1, p, k, hk, hp, ha => by
    unfold kas_bin
    rw [KasT.kasWp_bind]
    refine place_ok O K hp (Mine.o182 hk) ha k 0 k (Mine.o232) (Mine.o233) (Nat.le_refl _) (fun i hi => by omega) (fun i h1 h2 => by omega) fun m hm h1 h2 => ?_
    exact bin_ok O K hQ f _ (k + 1) (Mine.o187 hk) (hp.of (bubble_perm _ _ _)) (bub_ok hp (Mine.o182 hk) ha hm h1 h2)
theorem sort_ok (O : OrdN n lt) (K : Asks n lt cmp s) (hn : 2 ≤ n) {Q : Array Nat → Shared → Prop} (hQ : ∀ q, PermN n q → AscTo lt q n → Q q s) : (kas_sort n).kasWp cmp Q s := by
  unfold kas_sort
  rw [KasT.kasWp_bind]
  have hp : PermN n (List.toArray (List.range n)) := ⟨by simp, by simp⟩
  refine count_ok O K hp hn fun m q hq ha h1 h2 => ?_
  dsimp only
  by_cases e : m < n
  · rw [if_pos e]
    have : max m 1 = m := by omega
    rw [this]
    exact bin_ok O K hQ _ q m (Mine.o234 e) hq ha
  · rw [if_neg e]
    have : m = n := Mine.o113 h2 e
    subst this
    exact hQ q hq ha
end
end Mine
end TSp1

section TSd1
open PySem PySem.W PyProof.Rows PySem.Calls
namespace Mine
set_option maxRecDepth 100000
set_option maxHeartbeats 8000000
theorem plt_tr {a b c : Pr} (h1 : plt a b = true) (h2 : plt b c = true) : plt a c = true := by
  simp only [plt, Bool.or_eq_true, Bool.and_eq_true, decide_eq_true_eq] at *
  omega
theorem plt_irr (a : Pr) : plt a a = false := by simp [plt]
theorem plt_tot {a b : Pr} (h : a ≠ b) (h1 : plt a b = false) : plt b a = true := by
  have : ¬ (a.1 = b.1 ∧ a.2 = b.2) := fun q => h (Prod.ext q.1 q.2)
  simp only [plt, Bool.or_eq_false_iff, Bool.and_eq_false_iff, decide_eq_false_iff_not, Bool.or_eq_true, Bool.and_eq_true, decide_eq_true_eq] at *
  omega
theorem plt_asym {a b : Pr} (h1 : plt a b = true) : plt b a = false := by
  cases h : plt b a with
  | false => rfl
  | true => have := plt_tr h1 h; rw [plt_irr] at this; cases this
/-- the order of the pairs, by their places -/
noncomputable def ltP (ps : List Pr) (i j : Nat) : Bool := plt (ps.getD i (0, 0)) (ps.getD j (0, 0))
theorem ordP {ps : List Pr} (nd : ps.Nodup) : OrdN ps.length (ltP ps) where
  tr := fun i j k _ _ _ h1 h2 => plt_tr h1 h2
  tot := fun i j hi hj hne h => by
    refine plt_tot (fun e => ?_) h
    have pw := List.pairwise_iff_getElem.mp nd
    have e' : ps[i] = ps[j] := by simpa [hi, hj] using e
    rcases Nat.lt_trichotomy i j with q | q | q
    · exact pw i j hi hj q e'
    · exact hne q
    · exact pw j i hj hi q e'.symm
  asym := fun i j _ _ h => plt_asym h
section
variable {w : World} {A : Around} {env : Env} {h₀ : Heap} {m : Str → Option Value} {G : LedT} {hp : Heap} {g : Array GenState} {d : Drawn} {tk : Nat} {os : OsState} {Q E : Value → Shared → Prop}
theorem katTups_of {H : Heap} {vs : List Value} {ps : List Pr} (hA : All2 (TvAt H) vs ps) : ∃ fs, KatTups H vs fs ∧ fs.length = vs.length ∧ ∀ v ∈ fs, ∃ i t, v = Value.int i t := by
  induction hA with
  | nil => exact ⟨[], .nil, rfl, by simp⟩
  | cons r _ ih =>
    (refine Mine.e1a3 ih ?_; clear ih; rintro fs h1 h2 h3)
    (refine Mine.e4a2 r ?_; clear r; rintro a t1 t2 n rfl ha)
    refine ⟨_, KatTups.cons ha rfl rfl rfl h1, by simp [h2], fun v hv => ?_⟩
    rcases List.mem_cons.mp hv with rfl | hv
    · exact ⟨_, _, rfl⟩
    · exact h3 v hv
theorem key_lt {s : Shared} {x y : Addr} {x1 x2 y1 y2 : Int} {t1 t2 u1 u2 : Tok} {n k : Nat} {Q : Bool → Shared → Prop} {E : Value → Shared → Prop} (hx : s.heap.get? x = some (tupOf #[.int x1 t1, .int x2 t2] n)) (hy : s.heap.get? y = some (tupOf #[.int y1 u1, .int y2 u2] k))
    (h : Q (plt (x1, x2) (y1, y2)) s) : wpAny (model P w) A (keyLt' (tuples' true) (.ref x) (.ref y)) Q E s := by
  refine kat_lt hx rfl hy rfl ?_
  show KatLex P w A true _ Q [(Value.int x1 t1, Value.int y1 u1), (Value.int x2 t2, Value.int y2 u2)] 0 s
  refine kat_cons (wpAny_eqBool_int ?_)
  by_cases h1 : x1 = y1
  · subst h1
    rw [show (x1 == x1) = true from by simp]
    refine kat_yes (kat_cons (wpAny_eqBool_int ?_))
    by_cases h2 : x2 = y2
    · subst h2
      rw [show (x2 == x2) = true from by simp]
      refine kat_yes (kat_nil ?_)
      have : plt (x1, x2) (x1, x2) = false := by simp [plt]
      rw [this] at h
      simpa using h
    · rw [show (x2 == y2) = false from by simp [h2]]
      refine kat_no ?_
      have : plt (x1, x2) (x1, y2) = decide (x2 < y2) := by simp [plt]
      rw [this] at h
      exact kat_one _ _ (lt_int h)
  · rw [show (x1 == y1) = false from by simp [h1]]
    refine kat_no ?_
    have : plt (x1, x2) (y1, y2) = decide (x1 < y1) := by simp [plt, h1]
    rw [this] at h
    exact oneLt_int h
theorem Cx.sortedP (C : Cx w A env h₀ hp m G) {l : Addr} {its : Array Value} {n : Nat} {ps : List Pr} (hl : lk G l = some (listOf its n)) (hA : All2 (IsPr G) its.toList ps) (nd : ps.Nodup) (h2 : 2 ≤ ps.length) (h64 : ps.length < 64)
    (h : ∀ D vs qs k h' tk', Cx w A env h₀ h' m ((D, listOf vs k) :: G) → lk G D = none → All2 (IsPr ((D, listOf vs k) :: G)) vs.toList qs → qs.Perm ps → qs.Pairwise (fun a b => plt a b = true) → Q (.ref D) ⟨h', g, d, tk', os⟩) :
    wpAny (model P w) A (call (.builtin "sorted") [.ref l]) Q E ⟨hp, g, d, tk, os⟩ := by
  have hlen := hA.length
  refine kat_sorted (vs := its.toList) C.F C.N (by rw [Array.toArray_toList]; exact C.isList hl) (Mine.o292 h2 hlen) (Mine.o293 h64 hlen) fun D e1 h' F' N' lt' => ?_
  have C' : Cx w A env h₀ h' m ((D, seqObj "list" #[] e1) :: G) := C.of F' N' (C.D.cons lt')
  have hD0 : lk G D = none := lk_fresh lt'
  have hT : All2 (TvAt h') its.toList ps := hA.mono fun v p hv => by
    (refine Mine.e4a2 hv ?_; clear hv; rintro a t1 t2 n rfl ha)
    exact ⟨a, t1, t2, n, rfl, C'.at (lk_fc hD0 ha)⟩
  (refine Mine.e1a3 (katTups_of hT) ?_; rintro fs k1 k2 k3)
  have hty : ∀ v ∈ fs, Looks (model P w) h' (typeOf v) (.type "int") := fun v hv => by
    (refine Mine.e2a1 (k3 v hv) ?_; rintro i t rfl)
    exact .now
  have hne : 0 < fs.length := Mine.o294 h2 hlen k2
  refine kat_kind (T := .type "int") (vs := its.toList) k1 hne hty (by decide) ?_
  rw [show (Value.type "int" != Value.type "tuple") = true by decide, hlen]
  refine sort_ok (ordP nd) (fun i j Cc hi hj hc => ?_) h2 fun q hq ha => ?_
  · unfold kas_ask
    obtain ⟨v, hv, a, t1, t2, n, rfl, hav⟩ := hT.get (i := i) (b := ps[i]) (by simp [hi])
    obtain ⟨v', hv', a', t1', t2', n', rfl, hav'⟩ := hT.get (i := j) (b := ps[j]) (by simp [hj])
    have e1 : its.toList.getD i Value.none = .ref a := by rw [List.getD_eq_getElem?_getD, hv]; rfl
    have e2 : its.toList.getD j Value.none = .ref a' := by rw [List.getD_eq_getElem?_getD, hv']; rfl
    rw [e1, e2]
    refine key_lt hav hav' ?_
    have e3 : ltP ps i j = plt ((ps[i]).1, (ps[i]).2) ((ps[j]).1, (ps[j]).2) := by unfold ltP; simp [hi, hj]
    rw [e3] at hc
    exact hc
  · refine KasFin.intro F' N' (.head fun p hp => Nat.ne_of_lt (lt' p hp)) fun h'' c F'' N'' => ?_
    refine h D _ (q.toList.map fun i => ps.getD i (0, 0)) c h'' _ (C.of F'' N'' (C.D.cons lt')) hD0 ?_ ?_ ?_
    · have hall : ∀ L : List Nat, (∀ i ∈ L, i < ps.length) → All2 (IsPr ((D, listOf (List.toArray (q.toList.map fun i => its.toList.getD i Value.none)) c) :: G)) (L.map fun i => its.toList.getD i Value.none) (L.map fun i => ps.getD i (0, 0)) := by
        intro L
        induction L with
        | nil => intro _; exact .nil
        | cons i L ih =>
          intro hL
          have hi := hL i (.head _)
          refine .cons ?_ (ih fun x hx => hL x (.tail _ hx))
          (refine Mine.e1a2 (hA.get (i := i) (b := ps[i]) (by simp [hi])) ?_; rintro v hv hvp)
          have e1 : its.toList.getD i Value.none = v := by rw [List.getD_eq_getElem?_getD, hv]; rfl
          have e2 : ps.getD i (0, 0) = ps[i] := by simp [hi]
          show IsPr _ (its.toList.getD i Value.none) (ps.getD i (0, 0))
          rw [e1, e2]
          (refine Mine.e4a2 hvp ?_; clear hvp; rintro a t1 t2 n rfl hav)
          exact ⟨a, t1, t2, n, rfl, lk_fc hD0 hav⟩
      exact hall q.toList fun i hi => List.mem_range.mp (hq.pm.mem_iff.mp hi)
    · have e : (List.range ps.length).map (fun i => ps.getD i (0, 0)) = ps := by
        apply List.ext_getElem
        · simp
        · intro i h1 h2
          simp at h1
          simp [h1]
      have := hq.pm.map (fun i => ps.getD i (0, 0))
      rw [e] at this
      exact this
    · rw [List.pairwise_map, List.pairwise_iff_getElem]
      intro i j hi hj hij
      have hs := hq.sz
      simp at hi hj
      have := ha i j hij (Mine.o154 hj hs)
      rw [gD, gD, getElem?_pos q i hi, getElem?_pos q j hj] at this
      simpa [ltP] using this
end
end Mine
end TSd1

section TLt1
open PySem PySem.W PyProof.Rows PySem.Calls
namespace Mine
set_option maxRecDepth 100000
section
variable {w : World} {A : Around} {env : Env} {h₀ h : Heap} {m : Str → Option Value} {G : LedT} {s : Shared} {hp : Heap} {g : Array GenState} {d : Drawn} {tk : Nat} {os : OsState} {Q E : Value → Shared → Prop}
/-- for a, b in a list of tuples -/
theorem Cx.for_listT {elts : List Expr} {x1 : Nat} {tp : Pos} {body : List Stmt} {R : Result → Shared → Prop} {l : Addr} {its : Array Value} {n : Nat} (C : Cx w A env h₀ hp m G) (J : Nat → (Str → Option Value) → LedT → Prop)
    (hh : A.handled = none) (hJ : J 0 m G) (hl : ∀ i m₁ G₁, J i m₁ G₁ → lk G₁ l = some (listOf its n)) (href : ∀ (i : Nat) (v : Value), its.toList[i]? = some v → ∃ T : Addr, v = Value.ref T)
    (mono : ∀ i m₁ G₁ G₂, J i m₁ G₁ → Up G G₁ G₂ → J i m₁ G₂)
    (turn : ∀ i v m₁ G₁ h₁ tk₁ I oI, its.toList[i]? = some v → J i m₁ G₁ → Cx w A env h₀ h₁ m₁ G₁ → lk G₁ I = some oI → (∃ vs, oI.data = .fields vs) → lk G I = none →
      wpAny (model P w) A (assign (.Tuple elts x1 tp) env v) (fun _ s₂ => wpAny (model P w) A (execs body env) (FStep w A env h₀ g d os I oI (J (i + 1)) R) (fun _ _ => False) s₂) (fun _ _ => False) ⟨h₁, g, d, tk₁, os⟩)
    (done : ∀ m₁ G₁ h₁ tk₁, J its.toList.length m₁ G₁ → Cx w A env h₀ h₁ m₁ G₁ → R (.ok .next) ⟨h₁, g, d, tk₁, os⟩) :
    wpAny (model P w) A (pyIter (.ref l)) (fun it s₂ => codeAny (model P w) A (.forLoop (.Tuple elts x1 tp) it body [] env) R s₂) E ⟨hp, g, d, tk, os⟩ := by
  have hl0 := hl _ _ _ hJ
  refine wpAny_pyIter_list (C.isList hl0) ?_
  have hne : l ≠ hp.objs.size := Nat.ne_of_lt (Heap.lt_size (C.at hl0))
  have C' := C.push { cls := .type "list_iterator", data := .fields #[.ref l, .int 0 0] } rfl
  have h0 := C.fresh
  have hit0 : (hp.push { cls := .type "list_iterator", data := .fields #[.ref l, .int 0 0] }).IsListIter hp.objs.size l 0 := ⟨_, Heap.get?_push_size _ rfl, rfl, rfl⟩
  have hJ' := mono _ _ _ _ hJ (Up.cons (o := { cls := .type "list_iterator", data := .fields #[.ref l, .int 0 0] }) h0)
  generalize hp.objs.size = I at *
  generalize (hp.push { cls := .type "list_iterator", data := .fields #[.ref l, .int 0 0] }) = hp' at *
  refine codeAny_forLoop_any (fun k s' => ∃ h' tk m' G' i, s' = ⟨h', g, d, tk, os⟩ ∧ Cx w A env h₀ h' m' G' ∧ J i m' G' ∧ h'.IsListIter I l i ∧ (∃ o, lk G' I = some o) ∧ i ≤ its.size ∧ k = its.size + 1 - i) ?_ (its.size + 1)
    ⟨hp', tk, m, _, 0, rfl, C', hJ', hit0, ⟨_, lk_cons_eq⟩, Nat.zero_le _, rfl⟩
  rintro k s' hZ1
  (refine Mine.e5a7 hZ1 ?_; clear hZ1; rintro h' tkx m' G' i rfl C' hJ' hit' ⟨o', ho'⟩ hi rfl)
  obtain ⟨vs', hvs'⟩ : ∃ vs, o'.data = .fields vs := by
    (refine Mine.e1a3 (id hit') ?_; rintro o e1 _ e2)
    have := C'.at ho'
    rw [e1] at this
    cases this
    exact ⟨_, e2⟩
  have hil := C'.isList (hl _ _ _ hJ')
  by_cases hlt : i < its.size
  · obtain ⟨T, hT⟩ := href i its[i] (by simp [hlt])
    refine wpAny_pyNext_list_item hit' hil (x := its[i]) (by simp [hlt]) fun h₂ hit₂ hs₂ => ?_
    (refine Mine.e1a3 (id hit₂) ?_; rintro o₂ e1 ec e2)
    have C₂ := C'.keepBut (h' := h₂) (o' := o₂) ho' (fun b x hb e => hs₂.extBut b x hb e) e1
    have J₂ := mono _ _ _ _ hJ' (Up.st (o' := o₂) h0 ho' hvs')
    dsimp only
    rw [hT]
    refine wpAny_letOwnedTupleGo_listiter hit₂ ?_
    refine wpAny_mono (turn i (.ref T) m' _ h₂ _ I o₂ (by simp [hlt, hT]) J₂ C₂ lk_st_eq ⟨_, e2⟩ h0) (fun _ s₂ hs₂ => ?_) fun _ _ z => z.elim
    refine wpAny_mono hs₂ (fun f s₃ hs₃ => ?_) fun _ _ z => z.elim
    have fin : (∃ h' tk m₃ G₃, s₃ = ⟨h', g, d, tk, os⟩ ∧ Cx w A env h₀ h' m₃ G₃ ∧ lk G₃ I = some o₂ ∧ J (i + 1) m₃ G₃) → ∃ m, m < its.size + 1 - i ∧ ∃ h' tk m' G' i, s₃ = ⟨h', g, d, tk, os⟩ ∧ Cx w A env h₀ h' m' G' ∧ J i m' G' ∧ h'.IsListIter I l i ∧ (∃ o, lk G' I = some o) ∧ i ≤ its.size ∧ m = its.size + 1 - i := by
      rintro hZ2
      (refine Mine.e4a4 hZ2 ?_; clear hZ2; rintro h₄ tk₄ m₄ G₄ e C₄ hI₄ hJ₄)
      exact ⟨its.size + 1 - (i + 1), by (exact Mine.o163 hlt), h₄, tk₄, m₄, G₄, i + 1, e, C₄, hJ₄, ⟨o₂, C₄.at hI₄, ec, e2⟩, ⟨_, hI₄⟩, hlt, rfl⟩
    cases f with
    | next => exact fin hs₃
    | cont => exact fin hs₃
    | brk => exact hs₃
    | ret v => exact hs₃
  · have : i = its.size := Mine.o113 hi hlt
    subst this
    refine wpAny_pyNext_list_end hh hit' hil (by simp) fun h₂ hk => ?_
    dsimp only
    refine wpAny_execs_nil ?_
    have z := C'.N _ (lk_mem ho')
    refine done m' (rm G' I) h₂ _ (mono _ _ _ _ (by simpa using hJ') fun a o ha hor => ?_) ⟨C'.B, ⟨?_, fun b x q => ?_, C'.F.above⟩, fun p hp => ?_, C'.D.rm, C'.X, C'.T, C'.hf, C'.hke⟩
    · rw [lk_rm]
      · exact ha
      · intro q; subst q
        rcases hor with h | h
        · exact h h0
        · rw [ho'] at ha; cases ha; exact h _ hvs'
    · (refine Mine.e3a2 C'.F.ns ?_; rintro oL es ep hL r)
      exact ⟨oL, es, ep, hk _ _ (fun q => z.2.1 q.symm) hL, r⟩
    · refine hk b x (fun q => ?_) (C'.F.keep b x q)
      subst q; rw [z.2.2] at q; cases q
    · obtain ⟨h1, h2⟩ := mem_rm hp
      exact ⟨hk _ _ h2 (C'.N p h1).1, (C'.N p h1).2⟩
end
end Mine
end TLt1

section TPd2
open PySem PySem.W PyProof.Rows PySem.Calls
namespace Mine
/-- the ended ones of a row -/
noncomputable def endedOf (l : EL) (row : List Nat) : List Pr := row.filterMap fun j => (eget l j).map fun e => (e, (j : Int))
noncomputable def lastOf (l : EL) (row : List Nat) : Option Int := match endedOf l row with
  | [] => none
  | p :: ps => some (maxPr p ps).2
noncomputable def famOf (needs : List (List Nat)) (j : Nat) : List Int := (((List.range needs.length).filter fun k => decide (j ∈ rowAt needs k)).map fun k : Nat => (k : Int)) ++ [-1 - (j : Int)]
noncomputable def free0 (needs : List (List Nat)) : List Nat := (List.range needs.length).filter fun k => decide (rowAt needs k = [])
noncomputable def freeOf (needs : List (List Nat)) (l : EL) (j : Nat) : List Nat := (List.range needs.length).filter fun k => decide (j ∈ rowAt needs k) && ((eget l k).isSome && decide (lastOf l (rowAt needs k) = some (j : Int)))
noncomputable def frees (needs : List (List Nat)) (l : EL) (E : List Pr) : Nat → List Nat
  | 0 => free0 needs
  | i + 1 => freeOf needs l ((E.getD i (0, 0)).2.toNat)
noncomputable def dueLog (needs : List (List Nat)) (l : EL) (E : List Pr) : List LogE := (List.range E.length).map fun i => (frees needs l E i, (E.getD i (0, 0)).1, (E.getD i (0, 0)).2.toNat)
noncomputable def pairAdd (needs : List (List Nat)) (l : EL) (wk : Nat) (acc : List (Int × Nat)) (k : Int) : List (Int × Nat) :=
  if k ∈ acc.map (·.1) then acc else acc ++ [(k, if k < 0 then wk else ((lastOf l (rowAt needs k.toNat)).getD 0).toNat)]
noncomputable def pairFam (needs : List (List Nat)) (l : EL) (wk : Nat) (acc : List (Int × Nat)) : List (Int × Nat) := (famOf needs wk).foldl (pairAdd needs l wk) acc
noncomputable def duePairs (needs : List (List Nat)) (l : EL) (E : List Pr) : List (Int × Nat) := E.foldl (fun acc p => pairFam needs l p.2.toNat acc) []
/-- a list of ints in the ledger -/
def IsRowI (G : LedT) (v : Value) (xs : List Int) : Prop := ∃ l its n, v = .ref l ∧ lk G l = some (listOf its n) ∧ All2 IsI its.toList xs
/-- a pair of the table: a key and a family -/
def IsPair (G : LedT) (fits : Array Value) (v : Value) (p : Int × Nat) : Prop := ∃ t tv n fv, v = .ref t ∧ lk G t = some (tupOf #[.int p.1 tv, fv] n) ∧ fits.toList[p.2]? = some fv
theorem IsPair.keepT {G G' : LedT} {fits : Array Value} {v : Value} {p : Int × Nat} (h : IsPair G fits v p) (k : ∀ b its n, lk G b = some (tupOf its n) → lk G' b = some (tupOf its n)) : IsPair G' fits v p := by
  (refine Mine.e4a3 h ?_; clear h; rintro t tv n fv e1 e2 e3)
  exact ⟨t, tv, n, fv, e1, k _ _ _ e2, e3⟩
/-- an int or None -/
noncomputable def IsO (v : Value) : Option Int → Prop
  | none => v = .none
  | some j => ∃ t, v = .int j t
theorem frees_len {needs : List (List Nat)} {l : EL} {E : List Pr} : ∀ i, (frees needs l E i).length ≤ needs.length
  | 0 => by
    show ((List.range needs.length).filter _).length ≤ _
    simpa using List.length_filter_le (fun k => decide (rowAt needs k = [])) (List.range needs.length)
  | i + 1 => by
    show ((List.range needs.length).filter _).length ≤ _
    have := List.length_filter_le (fun k => decide ((E.getD i (0, 0)).2.toNat ∈ rowAt needs k) && ((eget l k).isSome && decide (lastOf l (rowAt needs k) = some ((E.getD i (0, 0)).2.toNat : Int)))) (List.range needs.length)
    simpa using this
/-- the test of the due's second loop -/
noncomputable def okK (needs : List (List Nat)) (l : EL) (wk : Nat) (k : Int) : Bool := decide (0 ≤ k) && ((eget l k.toNat).isSome && decide (lastOf l (rowAt needs k.toNat) = some (wk : Int)))
theorem fam_mem {needs : List (List Nat)} {j : Nat} {k : Int} (h : k ∈ famOf needs j) (hk : 0 ≤ k) : k.toNat < needs.length ∧ j ∈ rowAt needs k.toNat := by
  unfold famOf at h
  rcases List.mem_append.mp h with h | h
  · (refine Mine.e1a2 (List.mem_map.mp h) ?_; rintro n hn rfl)
    have := List.mem_filter.mp hn
    exact ⟨List.mem_range.mp this.1, by simpa using this.2⟩
  · rw [List.mem_singleton.mp h] at hk; omega
theorem fam_free {needs : List (List Nat)} {l : EL} {wk : Nat} : ((famOf needs wk).filter (okK needs l wk)).map Int.toNat = freeOf needs l wk := by
  unfold famOf freeOf
  have e1 : [-1 - (wk : Int)].filter (okK needs l wk) = [] := by
    rw [List.filter_cons_of_neg]
    · rfl
    · unfold okK
      simp; omega
  rw [List.filter_append, e1, List.append_nil, List.filter_map, List.map_map, List.filter_filter]
  rw [show (Int.toNat ∘ fun k : Nat => (k : Int)) = id from funext fun k => by simp, List.map_id]
  congr 1
  funext k
  simp [okK, Bool.and_comm]
theorem pairAdd_len {needs : List (List Nat)} {l : EL} {wk : Nat} : ∀ (ks : List Int) (acc : List (Int × Nat)), (ks.foldl (pairAdd needs l wk) acc).length ≤ acc.length + ks.length
  | [], acc => by simp
  | k :: ks, acc => by
    have h1 := pairAdd_len (needs := needs) (l := l) (wk := wk) ks (pairAdd needs l wk acc k)
    have h2 : (pairAdd needs l wk acc k).length ≤ acc.length + 1 := by unfold pairAdd; split <;> simp
    simp only [List.foldl_cons, List.length_cons]
    (exact Mine.o165 h1 h2)
theorem fam_len {needs : List (List Nat)} {j : Nat} : (famOf needs j).length ≤ needs.length + 1 := by
  unfold famOf
  simp only [List.length_append, List.length_map, List.length_singleton]
  have := List.length_filter_le (fun k => decide (j ∈ rowAt needs k)) (List.range needs.length)
  simp only [List.length_range] at this
  (exact Mine.o93 this)
theorem pairs_len {needs : List (List Nat)} {l : EL} : ∀ (E : List Pr) (acc : List (Int × Nat)), (E.foldl (fun acc p => pairFam needs l p.2.toNat acc) acc).length ≤ acc.length + E.length * (needs.length + 1)
  | [], acc => by simp
  | p :: E, acc => by
    have h1 := pairs_len (needs := needs) (l := l) E (pairFam needs l p.2.toNat acc)
    have h2 := pairAdd_len (needs := needs) (l := l) (wk := p.2.toNat) (famOf needs p.2.toNat) acc
    have h3 := fam_len (needs := needs) (j := p.2.toNat)
    have h4 : (pairFam needs l p.2.toNat acc).length ≤ acc.length + (needs.length + 1) := Nat.le_trans h2 (Mine.o286 h3)
    simp only [List.foldl_cons, List.length_cons]
    rw [Nat.add_mul]; (exact Mine.o287 h1 h4)
theorem kv_neg {kvs : List (Int × Value)} {l : EL} (h : All2 IsKV kvs l) {k : Int} (hk : k < 0) : valueAt kvs k = none := by
  induction h with
  | nil => rfl
  | cons r _ ih =>
    rw [valueAt_cons, if_neg (fun q => ?_)]
    · exact ih
    · rw [r.1] at q; omega
theorem kv_someI {kvs : List (Int × Value)} {l : EL} (h : All2 IsKV kvs l) (k : Int) : (valueAt kvs k).isSome = (decide (0 ≤ k) && (eget l k.toNat).isSome) := by
  by_cases q : 0 ≤ k
  · have := kv_some h k.toNat
    rw [Int.toNat_of_nonneg q] at this
    rw [this]; simp [q]
  · rw [kv_neg h (by omega)]; simp [q]
theorem perm_sorted_eq : ∀ {as bs : List Pr}, as.Perm bs → as.Pairwise (fun a b => plt a b = true) → bs.Pairwise (fun a b => plt a b = true) → as = bs
  | [], bs, h, _, _ => by rw [List.nil_perm.mp h]
  | a :: as, [], h, _, _ => absurd h.length_eq (by simp)
  | a :: as, b :: bs, h, h1, h2 => by
    obtain ⟨p1, p2⟩ := List.pairwise_cons.mp h1
    obtain ⟨q1, q2⟩ := List.pairwise_cons.mp h2
    have hab : a = b := by
      by_cases e : a = b
      · exact e
      · have ha : a ∈ bs := by
          rcases List.mem_cons.mp (h.mem_iff.mp (.head _)) with q | q
          · exact absurd q e
          · exact q
        have hb : b ∈ as := by
          rcases List.mem_cons.mp (h.mem_iff.mpr (.head _)) with q | q
          · exact absurd q.symm e
          · exact q
        have := plt_asym (p1 b hb)
        rw [q1 a ha] at this; cases this
    subst hab
    rw [perm_sorted_eq ((List.perm_cons a).mp h) p2 q2]
theorem pw_nodup {as : List Pr} (h : as.Pairwise fun a b => plt a b = true) : as.Nodup := h.imp fun {a b} hab q => by
  subst q; rw [plt_irr] at hab; cases hab
end Mine
end TPd2

section TDu1
open PySem PySem.W PyProof.Rows PySem.Calls
namespace Mine
set_option maxRecDepth 100000
set_option maxHeartbeats 8000000
section
variable {w : World} {A : Around} {env : Env} {h₀ : Heap} {m : Str → Option Value} {G : LedT} {hp : Heap} {g : Array GenState} {d : Drawn} {tk : Nat} {os : OsState} {Q E : Value → Shared → Prop}
theorem Cx.neNil (C : Cx w A env h₀ hp m G) {a b : Addr} {its : Array Value} {n k : Nat} (ha : lk G a = some (listOf its n)) (hb : lk G b = some (listOf #[] k)) (hu : A.units < cLine) (h : Q (.bool (!decide (its.size = 0))) ⟨hp, g, d, tk, os⟩) :
    wpAny (model P w) A (compareOp .NotEq (.ref a) (.ref b)) Q E ⟨hp, g, d, tk, os⟩ := by
  show wpAny (model P w) A (richCompare .NotEq (.ref a) (.ref b)) Q E _
  by_cases q : its.size = 0
  · refine PySem.SeqAt.RcNeAt.lists (e := fun _ => true) (C.isList ha) (C.isList hb) (by simpa using q) hu (fun j h1 h2 => by simp at h2) P w E Q ?_
    rw [decide_eq_true q] at h
    simpa [q] using h
  · refine PySem.SeqAt.RcNeAt.lists_lengths (C.isList ha) (C.isList hb) (by simpa using q) hu P w E Q ?_
    rw [decide_eq_false q] at h
    exact h
theorem Cx.named1 (C : Cx w A env h₀ hp m G) {x : Str} {a : Value} (h1 : m x = some a) : ∃ m1, Cx w A env h₀ hp m1 G ∧ m1 x = some a := ⟨m, C, h1⟩
/-- what stands throughout -/
structure DuB (G : LedT) (Fl cN cE cL : Addr) (oN oE oL : Obj) (m₁ : Str → Option Value) (G₁ : LedT) : Prop where
  fam : m₁ (Str.ofString "families") = some (.ref Fl)
  keep : ∀ b o, lk G b = some o → lk G₁ b = some o
  cn : lk G₁ cN = some oN
  ce : lk G₁ cE = some oE
  cl : lk G₁ cL = some oL
section
variable {Fl cN cE cL : Addr} {oN oE oL : Obj} {m₁ : Str → Option Value} {G₀ G₁ G₂ : LedT}
theorem DuB.grow (h : DuB G Fl cN cE cL oN oE oL m₁ G₁) (k : ∀ b o, lk G₁ b = some o → lk G₂ b = some o) : DuB G Fl cN cE cL oN oE oL m₁ G₂ :=
  ⟨h.fam, fun b o hb => k _ _ (h.keep b o hb), k _ _ h.cn, k _ _ h.ce, k _ _ h.cl⟩
theorem DuB.but (h : DuB G Fl cN cE cL oN oE oL m₁ G₁) {a : Addr} (ha : lk G a = none) (h1 : cN ≠ a) (h2 : cE ≠ a) (h3 : cL ≠ a) (k : ∀ b o, lk G₁ b = some o → b ≠ a → lk G₂ b = some o) : DuB G Fl cN cE cL oN oE oL m₁ G₂ :=
  ⟨h.fam, fun b o hb => k _ _ (h.keep b o hb) (fun q => by rw [q, ha] at hb; cases hb), k _ _ h.cn h1, k _ _ h.ce h2, k _ _ h.cl h3⟩
theorem DuB.set (h : DuB G Fl cN cE cL oN oE oL m₁ G₁) {x : Str} (v : Value) (hx : Str.ofString "families" ≠ x) : DuB G Fl cN cE cL oN oE oL (mset m₁ x v) G₁ := ⟨mset_ne hx h.fam, h.keep, h.cn, h.ce, h.cl⟩
theorem DuB.up {vN vE vL : Option Value} (dN : oN.data = .cell vN) (dE : oE.data = .cell vE) (dL : oL.data = .cell vL) (h : DuB G Fl cN cE cL oN oE oL m₁ G₁) (hG : ∀ b o, lk G b = some o → lk G₀ b ≠ none) (u : Up G₀ G₁ G₂) : DuB G Fl cN cE cL oN oE oL m₁ G₂ :=
  ⟨h.fam, fun b o hb => u _ _ (h.keep b o hb) (.inl (hG b o hb)), u _ _ h.cn (.inr (by rw [dN]; simp)), u _ _ h.ce (.inr (by rw [dE]; simp)), u _ _ h.cl (.inr (by rw [dL]; simp))⟩
end
theorem ne_cell {a b : Addr} {o : Obj} {v : Option Value} {its : Array Value} {n : Nat} {G₁ : LedT} (ha : lk G₁ a = some o) (hd : o.data = .cell v) (hb : lk G₁ b = some (listOf its n)) : a ≠ b := fun q => by
  rw [q, hb] at ha; cases ha; cases hd
/-- the places of the due's loop -/
structure DuP where
  Fl : Addr
  cN : Addr
  cE : Addr
  cL : Addr
  cW : Addr
  oN : Obj
  oE : Obj
  oL : Obj
  Ls : Addr
  LG : Addr
  PR : Addr
  SN : Addr
  SD : Addr
  lits : Array Value
  ln : Nat
  sits : Array Value
  sk : Nat
  fits : Array Value
/-- what holds of the places, whatever the ledger -/
structure DuOk (G : LedT) (p : DuP) : Prop where
  dN : ∃ v, p.oN.data = .cell v
  dE : ∃ v, p.oE.data = .cell v
  dL : ∃ v, p.oL.data = .cell v
  gW : lk G p.cW = none
  gLG : lk G p.LG = none
  gPR : lk G p.PR = none
  gSN : lk G p.SN = none
  nW : p.cN ≠ p.cW ∧ p.cE ≠ p.cW ∧ p.cL ≠ p.cW
  a1 : p.PR ≠ p.LG
  a2 : p.SN ≠ p.PR
  a3 : p.SN ≠ p.LG
  b : p.Ls ≠ p.LG ∧ p.Ls ≠ p.PR ∧ p.Ls ≠ p.SN
  c : p.SD ≠ p.LG ∧ p.SD ≠ p.PR ∧ p.SD ≠ p.SN
/-- the state of the due's loop -/
structure DuL (G : LedT) (p : DuP) (Es : List Pr) (lg : List LogE) (pr : List (Int × Nat)) (sn : List Int) (m₁ : Str → Option Value) (G₁ : LedT) : Prop where
  B : DuB G p.Fl p.cN p.cE p.cL p.oN p.oE p.oL m₁ G₁
  W : IsCellAt G₁ p.cW
  log : m₁ (Str.ofString "log") = some (.ref p.LG)
  pairs : m₁ (Str.ofString "pairs") = some (.ref p.PR)
  seen : m₁ (Str.ofString "seen") = some (.ref p.SN)
  ls : lk G₁ p.Ls = some (listOf p.lits p.ln)
  sd : lk G₁ p.SD = some (listOf p.sits p.sk)
  sp : All2 (IsPr G₁) p.sits.toList Es
  lgs : ∃ its n, lk G₁ p.LG = some (listOf its n) ∧ All2 (IsLog G₁) its.toList lg
  prs : ∃ its n, lk G₁ p.PR = some (listOf its n) ∧ All2 (IsPair G₁ p.fits) its.toList pr
  sns : ∃ its n, lk G₁ p.SN = some (listOf its n) ∧ All2 IsI its.toList sn
section
variable {p : DuP} {Es : List Pr} {lg : List LogE} {pr : List (Int × Nat)} {sn : List Int} {m₁ : Str → Option Value} {G₀ G₁ G₂ : LedT}
theorem DuL.grow (h : DuL G p Es lg pr sn m₁ G₁) (k : ∀ b o, lk G₁ b = some o → lk G₂ b = some o) : DuL G p Es lg pr sn m₁ G₂ := by
  obtain ⟨B, ⟨oc, vc, c1, c2⟩, h1, h2, h3, h4, h5, h6, ⟨i1, n1, x1, y1⟩, ⟨i2, n2, x2, y2⟩, ⟨i3, n3, x3, y3⟩⟩ := h
  exact ⟨B.grow k, ⟨oc, vc, k _ _ c1, c2⟩, h1, h2, h3, k _ _ h4, k _ _ h5, h6.mono fun v q z => z.keepT fun b its n hb => k _ _ hb, ⟨i1, n1, k _ _ x1, y1.mono fun v q z => z.keep fun b its n hb => k _ _ hb⟩, ⟨i2, n2, k _ _ x2, y2.mono fun v q z => z.keepT fun b its n hb => k _ _ hb⟩, ⟨i3, n3, k _ _ x3, y3⟩⟩
theorem DuL.up (ok : DuOk G p) (h : DuL G p Es lg pr sn m₁ G₁) (hG : ∀ b o, lk G b = some o → lk G₀ b ≠ none) (u : Up G₀ G₁ G₂) : DuL G p Es lg pr sn m₁ G₂ := by
  obtain ⟨B, ⟨oc, vc, c1, c2⟩, h1, h2, h3, h4, h5, h6, ⟨i1, n1, x1, y1⟩, ⟨i2, n2, x2, y2⟩, ⟨i3, n3, x3, y3⟩⟩ := h
  have ul : ∀ b its n, lk G₁ b = some (listOf its n) → lk G₂ b = some (listOf its n) := fun b its n hb => u _ _ hb (.inr (by simp))
  have ut : ∀ b its n, lk G₁ b = some (tupOf its n) → lk G₂ b = some (tupOf its n) := fun b its n hb => u _ _ hb (.inr (by simp))
  obtain ⟨_, dN⟩ := ok.dN
  obtain ⟨_, dE⟩ := ok.dE
  obtain ⟨_, dL⟩ := ok.dL
  exact ⟨B.up dN dE dL hG u, ⟨oc, vc, u _ _ c1 (.inr (by rw [c2]; simp)), c2⟩, h1, h2, h3, ul _ _ _ h4, ul _ _ _ h5, h6.mono fun v q z => z.keepT ut, ⟨i1, n1, ul _ _ _ x1, y1.mono fun v q z => z.keep ut⟩, ⟨i2, n2, ul _ _ _ x2, y2.mono fun v q z => z.keepT ut⟩, ⟨i3, n3, ul _ _ _ x3, y3⟩⟩
theorem DuL.set (h : DuL G p Es lg pr sn m₁ G₁) {x : Str} (v : Value) (e1 : Str.ofString "families" ≠ x) (e2 : Str.ofString "log" ≠ x) (e3 : Str.ofString "pairs" ≠ x) (e4 : Str.ofString "seen" ≠ x) : DuL G p Es lg pr sn (mset m₁ x v) G₁ := by
  obtain ⟨B, W, h1, h2, h3, h4, h5, h6, h7, h8, h9⟩ := h
  exact ⟨B.set _ e1, W, mset_ne e2 h1, mset_ne e3 h2, mset_ne e4 h3, h4, h5, h6, h7, h8, h9⟩
theorem DuL.cell (ok : DuOk G p) (h : DuL G p Es lg pr sn m₁ G₁) {o' : Obj} {v : Option Value} (hd : o'.data = .cell v) : DuL G p Es lg pr sn m₁ (st G₁ p.cW o') := by
  obtain ⟨B, ⟨oc, vc, c1, c2⟩, h1, h2, h3, h4, h5, h6, ⟨i1, n1, x1, y1⟩, ⟨i2, n2, x2, y2⟩, ⟨i3, n3, x3, y3⟩⟩ := h
  have kl : ∀ b its n, lk G₁ b = some (listOf its n) → lk (st G₁ p.cW o') b = some (listOf its n) := fun b its n hb => lk_st_ne (fun q => ne_cell c1 c2 hb q.symm) hb
  have kt : ∀ b its n, lk G₁ b = some (tupOf its n) → lk (st G₁ p.cW o') b = some (tupOf its n) := fun b its n hb => lk_st_ne (fun q => by rw [q, c1] at hb; cases hb; cases c2) hb
  exact ⟨B.but ok.gW ok.nW.1 ok.nW.2.1 ok.nW.2.2 (fun b o hb hne => lk_st_ne hne hb), ⟨o', v, lk_st_eq, hd⟩, h1, h2, h3, kl _ _ _ h4, kl _ _ _ h5, h6.mono fun v q z => z.keepT kt, ⟨i1, n1, kl _ _ _ x1, y1.mono fun v q z => z.keep kt⟩, ⟨i2, n2, kl _ _ _ x2, y2.mono fun v q z => z.keepT kt⟩, ⟨i3, n3, kl _ _ _ x3, y3⟩⟩
theorem DuL.addLog (ok : DuOk G p) (h : DuL G p Es lg pr sn m₁ G₁) {its : Array Value} {n k : Nat} {v : Value} {e : LogE} (hl : lk G₁ p.LG = some (listOf its n)) (hA : All2 (IsLog G₁) its.toList lg) (hv : IsLog G₁ v e) : DuL G p Es (lg ++ [e]) pr sn m₁ (st G₁ p.LG (listOf (its.push v) k)) := by
  obtain ⟨B, ⟨oc, vc, c1, c2⟩, h1, h2, h3, h4, h5, h6, _, ⟨i2, n2, x2, y2⟩, ⟨i3, n3, x3, y3⟩⟩ := h
  obtain ⟨_, dN⟩ := ok.dN
  obtain ⟨_, dE⟩ := ok.dE
  obtain ⟨_, dL⟩ := ok.dL
  have kt : ∀ b i j, lk G₁ b = some (tupOf i j) → lk (st G₁ p.LG (listOf (its.push v) k)) b = some (tupOf i j) := fun b i j hb => lk_st_ne (tup_ne_list hb hl) hb
  refine ⟨B.but ok.gLG (ne_cell B.cn dN hl) (ne_cell B.ce dE hl) (ne_cell B.cl dL hl) (fun b o hb hne => lk_st_ne hne hb), ⟨oc, vc, lk_st_ne (ne_cell c1 c2 hl) c1, c2⟩, h1, h2, h3, lk_st_ne ok.b.1 h4, lk_st_ne ok.c.1 h5, h6.mono fun v q z => z.keepT kt, ⟨_, _, lk_st_eq, ?_⟩, ⟨i2, n2, lk_st_ne ok.a1 x2, y2.mono fun v q z => z.keepT kt⟩, ⟨i3, n3, lk_st_ne ok.a3 x3, y3⟩⟩
  rw [Array.toList_push]
  exact (hA.mono fun v q z => z.keep kt).snoc (hv.keep kt)
theorem DuL.addPr (ok : DuOk G p) (h : DuL G p Es lg pr sn m₁ G₁) {its : Array Value} {n k : Nat} {v : Value} {e : Int × Nat} (hl : lk G₁ p.PR = some (listOf its n)) (hA : All2 (IsPair G₁ p.fits) its.toList pr) (hv : IsPair G₁ p.fits v e) : DuL G p Es lg (pr ++ [e]) sn m₁ (st G₁ p.PR (listOf (its.push v) k)) := by
  obtain ⟨B, ⟨oc, vc, c1, c2⟩, h1, h2, h3, h4, h5, h6, ⟨i1, n1, x1, y1⟩, _, ⟨i3, n3, x3, y3⟩⟩ := h
  obtain ⟨_, dN⟩ := ok.dN
  obtain ⟨_, dE⟩ := ok.dE
  obtain ⟨_, dL⟩ := ok.dL
  have kt : ∀ b i j, lk G₁ b = some (tupOf i j) → lk (st G₁ p.PR (listOf (its.push v) k)) b = some (tupOf i j) := fun b i j hb => lk_st_ne (tup_ne_list hb hl) hb
  refine ⟨B.but ok.gPR (ne_cell B.cn dN hl) (ne_cell B.ce dE hl) (ne_cell B.cl dL hl) (fun b o hb hne => lk_st_ne hne hb), ⟨oc, vc, lk_st_ne (ne_cell c1 c2 hl) c1, c2⟩, h1, h2, h3, lk_st_ne ok.b.2.1 h4, lk_st_ne ok.c.2.1 h5, h6.mono fun v q z => z.keepT kt, ⟨i1, n1, lk_st_ne (fun q => ok.a1 q.symm) x1, y1.mono fun v q z => z.keep kt⟩, ⟨_, _, lk_st_eq, ?_⟩, ⟨i3, n3, lk_st_ne ok.a2 x3, y3⟩⟩
  rw [Array.toList_push]
  exact (hA.mono fun v q z => z.keepT kt).snoc (hv.keepT kt)
theorem DuL.addSn (ok : DuOk G p) (h : DuL G p Es lg pr sn m₁ G₁) {its : Array Value} {n k : Nat} {v : Value} {e : Int} (hl : lk G₁ p.SN = some (listOf its n)) (hA : All2 IsI its.toList sn) (hv : IsI v e) : DuL G p Es lg pr (sn ++ [e]) m₁ (st G₁ p.SN (listOf (its.push v) k)) := by
  obtain ⟨B, ⟨oc, vc, c1, c2⟩, h1, h2, h3, h4, h5, h6, ⟨i1, n1, x1, y1⟩, ⟨i2, n2, x2, y2⟩, _⟩ := h
  obtain ⟨_, dN⟩ := ok.dN
  obtain ⟨_, dE⟩ := ok.dE
  obtain ⟨_, dL⟩ := ok.dL
  have kt : ∀ b i j, lk G₁ b = some (tupOf i j) → lk (st G₁ p.SN (listOf (its.push v) k)) b = some (tupOf i j) := fun b i j hb => lk_st_ne (tup_ne_list hb hl) hb
  refine ⟨B.but ok.gSN (ne_cell B.cn dN hl) (ne_cell B.ce dE hl) (ne_cell B.cl dL hl) (fun b o hb hne => lk_st_ne hne hb), ⟨oc, vc, lk_st_ne (ne_cell c1 c2 hl) c1, c2⟩, h1, h2, h3, lk_st_ne ok.b.2.2 h4, lk_st_ne ok.c.2.2 h5, h6.mono fun v q z => z.keepT kt, ⟨i1, n1, lk_st_ne (fun q => ok.a3 q.symm) x1, y1.mono fun v q z => z.keep kt⟩, ⟨i2, n2, lk_st_ne (fun q => ok.a2 q.symm) x2, y2.mono fun v q z => z.keepT kt⟩, ⟨_, _, lk_st_eq, ?_⟩⟩
  rw [Array.toList_push]
  exact hA.snoc hv
end
theorem due_ct {Nl Dl Fl : Addr} {nits fits : Array Value} {n1 n2 : Nat} {needs : List (List Nat)} {l : EL} {kvs : List (Int × Value)} {Es : List Pr}
    (C : Cx w A env h₀ hp m G) (hh : A.handled = none) (hN : lk G Nl = some (listOf nits n1)) (hNr : All2 (IsRow G) nits.toList needs) (hD : IsDict w G Dl kvs) (hA : All2 IsKV kvs l) (hF : lk G Fl = some (listOf fits n2)) (hFr : All2 (IsRowI G) fits.toList ((List.range needs.length).map (famOf needs)))
    (hn : needs.length ≤ 100) (hrow : ∀ row ∈ needs, row.length ≤ 100) (h2 : 2 ≤ l.length) (h64 : l.length < 64) (hkeys : ∀ p ∈ l, p.1 < needs.length) (hget : ∀ p ∈ l, eget l p.1 = some p.2) (hE : Es.Perm (l.map fun p => (p.2, (p.1 : Int)))) (hEs : Es.Pairwise fun a b => plt a b = true)
    (hlast : ∀ p ∈ Es, ∀ k, k < needs.length → p.2.toNat ∈ rowAt needs k → ∃ j : Nat, j < needs.length ∧ lastOf l (rowAt needs k) = some (j : Int))
    (hd : A.depth + 3 < recursionLimit) (hu : A.units + 100 < cLine)
    (ret : ∀ h' tk' G' T n LL lits n' PP pits n'', Cx w A env h₀ h' m G' → (∀ b o, lk G b = some o → lk G' b = some o) → lk G' T = some (tupOf #[.ref LL, .ref PP] n) → lk G' LL = some (listOf lits n') → All2 (IsLog G') lits.toList (dueLog needs l Es) →
      lk G' PP = some (listOf pits n'') → All2 (IsPair G' fits) pits.toList (duePairs needs l Es) → Q (.ref T) ⟨h', g, d, tk', os⟩) :
    wpAny (model P w) A (call (.ref 226) [.ref Nl, .ref Dl, .ref Fl]) Q E ⟨hp, g, d, tk, os⟩ := by
  have e9 : PySem.Challenge.rw_oh0057_01 = PySem.Challenge.rw_oh0057_01 := rfl
  have X := C.X
  revert X e9; k_fill; intro X e9; clear e9
  k_dflt (refine' C.enterK (binds := [(Str.ofString "needs", Value.ref Nl), (Str.ofString "ends", Value.ref Dl), (Str.ofString "families", Value.ref Fl)]) ?k6 ?k7 ?k8 ?k9 ?kB ?kN ?c2 ?c3 ?c4 ?_; (case k6 => k_is); (case k7 => k_is); (case k8 => (exact Mine.o10 hd)); (case k9 => exact BindsTo.of_eq rfl); (case c2 => exact rfl); (case c3 => exact rfl); (case c4 => exact rfl); (case kN => decide); (case kB => (intro n x hx; simp only [List.mem_cons, List.not_mem_nil, or_false] at hx; rcases hx with rfl | rfl | rfl <;> first | exact .inl rfl | exact .inr ⟨rfl, rfl⟩)); k_whole; intro gb L' h₁ tk₁ cells C1 hcells hlt)
  (refine Mine.e4a5 hcells.four ?_; rintro o1 o2 o3 o4 rfl d1 d2 d3 d4)
  -- BODY
  have dW : o1.data = .cell none := d1
  have dL0 : o2.data = .cell none := d2
  have dE : o3.data = .cell (some (.ref Dl)) := d3
  have dN : o4.data = .cell (some (.ref Nl)) := d4
  clear d1 d2 d3 d4 hcells
  (refine Mine.e1a2 (C1.named1 (x := Str.ofString "families") (a := .ref Fl) rfl) ?_; rintro m1 C1 hm1)
  have hG1 : ∀ b o, lk G b = some o → b < L' := fun b o hb => hlt _ (lk_mem hb)
  have w1 : L' < L' + 1 := Nat.lt_succ_self _
  have w2 : L' + 1 < L' + 1 + 1 := Nat.lt_succ_self _
  have w3 : L' + 1 + 1 < L' + 1 + 1 + 1 := Nat.lt_succ_self _
  have w4 : L' + 1 + 1 + 1 < L' + 1 + 1 + 1 + 1 := Nat.lt_succ_self _
  have gW : lk ([(L' + 1 + 1 + 1 + 1, o1), (L' + 1 + 1 + 1, o2), (L' + 1 + 1, o3), (L' + 1, o4)] ++ G) (L' + 1 + 1 + 1 + 1) = some o1 := lk_cons_eq
  have gL : lk ([(L' + 1 + 1 + 1 + 1, o1), (L' + 1 + 1 + 1, o2), (L' + 1 + 1, o3), (L' + 1, o4)] ++ G) (L' + 1 + 1 + 1) = some o2 := lk_cons_ne (Nat.ne_of_lt w4) lk_cons_eq
  have gE : lk ([(L' + 1 + 1 + 1 + 1, o1), (L' + 1 + 1 + 1, o2), (L' + 1 + 1, o3), (L' + 1, o4)] ++ G) (L' + 1 + 1) = some o3 := lk_cons_ne (Nat.ne_of_lt (Nat.lt_trans w3 w4)) (lk_cons_ne (Nat.ne_of_lt w3) lk_cons_eq)
  have gN : lk ([(L' + 1 + 1 + 1 + 1, o1), (L' + 1 + 1 + 1, o2), (L' + 1 + 1, o3), (L' + 1, o4)] ++ G) (L' + 1) = some o4 := lk_cons_ne (Nat.ne_of_lt (Nat.lt_trans w2 (Nat.lt_trans w3 w4))) (lk_cons_ne (Nat.ne_of_lt (Nat.lt_trans w2 w3)) (lk_cons_ne (Nat.ne_of_lt w2) lk_cons_eq))
  have gG : ∀ b o, lk G b = some o → lk ([(L' + 1 + 1 + 1 + 1, o1), (L' + 1 + 1 + 1, o2), (L' + 1 + 1, o3), (L' + 1, o4)] ++ G) b = some o := fun b o hb => by
    have v1 := Nat.lt_trans (hG1 b o hb) w1
    have v2 := Nat.lt_trans v1 w2
    have v3 := Nat.lt_trans v2 w3
    exact lk_cons_ne (Nat.ne_of_lt (Nat.lt_trans v3 w4)) (lk_cons_ne (Nat.ne_of_lt v3) (lk_cons_ne (Nat.ne_of_lt v2) (lk_cons_ne (Nat.ne_of_lt v1) hb)))
  have nW : L' + 1 ≠ L' + 1 + 1 + 1 + 1 ∧ L' + 1 + 1 ≠ L' + 1 + 1 + 1 + 1 ∧ L' + 1 + 1 + 1 ≠ L' + 1 + 1 + 1 + 1 := ⟨Nat.ne_of_lt (Nat.lt_trans w2 (Nat.lt_trans w3 w4)), Nat.ne_of_lt (Nat.lt_trans w3 w4), Nat.ne_of_lt w4⟩
  have nL : L' + 1 ≠ L' + 1 + 1 + 1 ∧ L' + 1 + 1 ≠ L' + 1 + 1 + 1 := ⟨Nat.ne_of_lt (Nat.lt_trans w2 w3), Nat.ne_of_lt w3⟩
  generalize ([(L' + 1 + 1 + 1 + 1, o1), (L' + 1 + 1 + 1, o2), (L' + 1 + 1, o3), (L' + 1, o4)] ++ G) = G1 at *
  have nonG : ∀ {b : Addr}, lk G1 b = none → lk G b = none := fun {b} h => by
    cases q : lk G b with
    | none => rfl
    | some o => rw [gG _ _ q] at h; cases h
  have hWG : lk G (L' + 1 + 1 + 1 + 1) = none := lk_fresh fun p hp => Nat.lt_trans (Nat.lt_trans (Nat.lt_trans (Nat.lt_trans (hlt p hp) w1) w2) w3) w4
  have hLG : lk G (L' + 1 + 1 + 1) = none := lk_fresh fun p hp => Nat.lt_trans (Nat.lt_trans (Nat.lt_trans (hlt p hp) w1) w2) w3
  have hsz : nits.size = needs.length := by simpa using hNr.length
  -- lasts = []
  refine wpAny_execs_cons (wpAny_Assign_Name (List_ (args_nil (C1.newList (by simp) fun Ls h₂ C2 hLs => C2.storeC (c := L' + 1 + 1 + 1) rfl (lk_fc hLs gL) dL0 (fun h₃ oL C3 dL => ?_)))))
  have hLsL : Ls ≠ L' + 1 + 1 + 1 := fun q => by rw [q, gL] at hLs; cases hLs
  have k3 : ∀ b o, lk G1 b = some o → b ≠ L' + 1 + 1 + 1 → lk (Mine.st ((Ls, listOf [].toArray 0) :: G1) (L' + 1 + 1 + 1) oL) b = some o := fun b o hb hne => lk_st_ne hne (lk_fc hLs hb)
  have hLsG := nonG hLs
  have B3 : DuB G Fl (L' + 1) (L' + 1 + 1) (L' + 1 + 1 + 1) o4 o3 oL m1 (Mine.st ((Ls, listOf [].toArray 0) :: G1) (L' + 1 + 1 + 1) oL) :=
    ⟨hm1, fun b o hb => k3 _ _ (gG b o hb) (lk_ne hb hLG), k3 _ _ gN nL.1, k3 _ _ gE nL.2, lk_st_eq⟩
  have W3 : IsCellAt (Mine.st ((Ls, listOf [].toArray 0) :: G1) (L' + 1 + 1 + 1) oL) (L' + 1 + 1 + 1 + 1) := ⟨o1, _, k3 _ _ gW (fun q => nW.2.2 q.symm), dW⟩
  have L3 : lk (Mine.st ((Ls, listOf [].toArray 0) :: G1) (L' + 1 + 1 + 1) oL) Ls = some (listOf #[] 0) := lk_st_ne hLsL lk_cons_eq
  generalize (Mine.st ((Ls, listOf ([] : List Value).toArray 0) :: G1) (L' + 1 + 1 + 1) oL) = G3 at *
  have upB := @DuB.up G Fl (L' + 1) (L' + 1 + 1) (L' + 1 + 1 + 1) o4 o3 oL
  -- for row in needs
  refine wpAny_execs_cons (wpAny_For (C3.nameC (c := L' + 1) rfl B3.cn dN ?_))
  refine C3.for_list (fun i m₁ G₁ => DuB G Fl (L' + 1) (L' + 1 + 1) (L' + 1 + 1 + 1) o4 o3 oL m₁ G₁ ∧ IsCellAt G₁ (L' + 1 + 1 + 1 + 1) ∧ ∃ its n, lk G₁ Ls = some (listOf its n) ∧ All2 IsO its.toList ((needs.take i).map (lastOf l))) hh ⟨B3, W3, _, _, L3, .nil⟩ (fun _ _ _ hj => hj.1.keep _ _ hN) rfl ?_ ?_ ?_
  · rintro i m₁ G₁ G₂ hZ1 u
    obtain ⟨B, ⟨oc, vc, c1, c2⟩, its, n, e1, e2⟩ := hZ1
    exact ⟨B.up dN dE dL (fun b o hb => by rw [B3.keep b o hb]; simp) u, ⟨oc, vc, u _ _ c1 (.inr (by rw [c2]; simp)), c2⟩, its, n, u _ _ e1 (.inr (by simp)), e2⟩
  · rintro i v m₁ G₁ h₄ tk₄ I oI hv hZ2 C4 hI ⟨vsI, hIf⟩ hI0
    obtain ⟨B, ⟨oc, vc, c1, c2⟩, its, n, e1, e2⟩ := hZ2
    obtain ⟨row, hrw, rl, rits, rn, rfl, hrl, hra⟩ := hNr.getL hv
    have hr1 := hrow row (List.mem_of_getElem? hrw)
    have hral : rits.size = row.length := by simpa using hra.length
    have htk : needs.take (i + 1) = needs.take i ++ [row] := by rw [List.take_add_one, hrw]; rfl
    have hil : i < needs.length := (List.getElem?_eq_some_iff.mp hrw).1
    -- ended = [..]
    refine wpAny_execs_cons (comp_asg (cl := [(Str.ofString "ends", L' + 1 + 1)]) (by kernel_rfl) rfl rfl (by decide) ?_)
    refine C4.name mset_eq ?_
    refine C4.comp_list (fun i' acc G₃ => (∀ b o, lk G₁ b = some o → lk G₃ b = some o) ∧ All2 (IsPr G₃) acc (endedOf l (row.take i'))) hh (Mine.o26 hr1 hral) (fun _ _ _ hj => hj.1 _ _ (B.keep _ _ hrl)) rfl (by decide) rfl ⟨fun _ _ h => h, .nil⟩ ?_ ?_ ?_
    · rintro i' acc G₃ G₄ ⟨z1, z2⟩ u
      exact ⟨fun b o hb => u _ _ (z1 b o hb) (.inl (by rw [hb]; simp)), z2.mono fun v p h => h.keepT fun b its n hb => u _ _ hb (.inr ⟨_, _, rfl⟩)⟩
    · rintro I2 Dc Lc i' v' acc mc G₃ h₇ tk₈ oI2 oC oD hv' hal ⟨z1, z2⟩ C7 hI2 hDc hL hNs hm
      obtain ⟨j, hj, tj, rfl⟩ := hra.getL hv'
      have htk2 : row.take (i' + 1) = row.take i' ++ [j] := by rw [List.take_add_one, hj]; rfl
      have hD7 : IsDict w G₃ Dl kvs := hD.keep fun o ho => z1 _ _ (B.keep _ _ ho)
      refine CTurn.one (wpAny_isTrue_Compare1 (C7.cname hL hNs hm (C7.ccell (c := L' + 1 + 1) rfl (z1 _ _ B.ce) dE (C7.din hD7 fun tk₉ => wpAny_truthy_bool ?_))))
      rw [kv_some hA, htk2]
      unfold endedOf
      rw [List.filterMap_append]
      rcases kv_get hA j with ⟨h1, h2⟩ | ⟨e, te, h1, h2⟩
      · rw [h1, if_neg (by simp)]
        refine ⟨_, _, _, rfl, C7, hI2, hDc, hL, z1, ?_⟩
        rw [List.filterMap_cons_none (by rw [h1]; rfl)]
        simpa [endedOf] using z2
      · rw [h1, if_pos (by simp)]
        refine Tuple_ (args_cons (Subscript_ (C7.ccell (c := L' + 1 + 1) rfl (z1 _ _ B.ce) dE (C7.cname hL hNs hm (C7.ditem hD7 h2 fun tk₁₀ => args_cons (C7.cname hL hNs hm (args_nil (C7.newTuple (by simp) fun T h₈ C8 hT => ?_))))))))
        refine ⟨_, _, _, rfl, C8, lk_fc hT hI2, lk_fc hT hDc, lk_fc hT hL, fun b o hb => lk_fc hT (z1 b o hb), ?_⟩
        rw [List.filterMap_cons_some (by rw [h1]; rfl)]
        exact (z2.mono fun v p h => h.keepT fun b its n hb => lk_fc hT hb).snoc ⟨T, te, tj, 0, rfl, lk_cons_eq⟩
    · rintro Dc Lc acc nn mc oC G₃ h₇ tk₈ hD0 hL0 hDL ⟨z1, z2⟩ C7 hDc hL hNs
      rw [List.take_of_length_le (Mine.o31 hral)] at z2
      refine C7.endS (y := Str.ofString "ended") hL hNs fun h₈ tk₉ C8 => ?_
      have k8 : ∀ b o, lk G₁ b = some o → lk (rm G₃ Lc) b = some o := fun b o hb => (lk_rm (lk_ne hb hL0)).trans (z1 b o hb)
      have D8 : lk (rm G₃ Lc) Dc = some (listOf acc.toArray nn) := (lk_rm hDL).trans hDc
      have z8 : All2 (IsPr (rm G₃ Lc)) acc (endedOf l row) := z2.mono fun v p h => h.keepT fun b its n hb => by
        refine (lk_rm fun q => ?_).trans hb
        (refine Mine.e2a2 hNs ?_; clear hNs; rintro es ep q2 _)
        rw [q, hL] at hb; cases hb; cases q2
      generalize rm G₃ Lc = G₄ at *
      have hLsDc : Ls ≠ Dc := fun q => by rw [q] at e1; rw [e1] at hD0; cases hD0
      -- lasts.append(..)
      refine wpAny_execs_cons (wpAny_Expr (MethodCall_ (C8.nameC (c := L' + 1 + 1 + 1) rfl (k8 _ _ B.cl) dL (C8.listMeth (k8 _ _ e1) PySem.F.slot_list_append PySem.F.type_list_append (callWith_method1 (args_cons (wpAny_IfExp (wpAny_isTrue_Compare1 (C8.name mset_eq (List_ (args_nil (C8.newList (by simp) fun Em h₉ C9 hEm => C9.neNil (lk_fc hEm D8) lk_cons_eq (by simp; (exact Mine.o32 hu)) (wpAny_truthy_bool ?_)))))))))))))
      have k9 : ∀ b o, lk G₄ b = some o → lk ((Em, listOf [].toArray 0) :: G₄) b = some o := fun b o hb => lk_fc hEm hb
      generalize ((Em, listOf ([] : List Value).toArray 0) :: G₄) = G9 at *
      have hisz : its.size = i := by
        have := e2.length
        simp at this; omega
      have e9 := k9 _ _ (k8 _ _ e1)
      have fin : ∀ v : Value, IsO v (lastOf l row) → lk (Mine.st G9 Ls (listOf (its.push v) (n + 1))) I = some oI ∧ DuB G Fl (L' + 1) (L' + 1 + 1) (L' + 1 + 1 + 1) o4 o3 oL (mset (mset m₁ (Str.ofString "row") (Value.ref rl)) (Str.ofString "ended") (Value.ref Dc)) (Mine.st G9 Ls (listOf (its.push v) (n + 1))) ∧ IsCellAt (Mine.st G9 Ls (listOf (its.push v) (n + 1))) (L' + 1 + 1 + 1 + 1) ∧
          ∃ its' n', lk (Mine.st G9 Ls (listOf (its.push v) (n + 1))) Ls = some (listOf its' n') ∧ All2 IsO its'.toList ((needs.take (i + 1)).map (lastOf l)) := fun v hv => by
        have k10 : ∀ b o, lk G₁ b = some o → b ≠ Ls → lk (Mine.st G9 Ls (listOf (its.push v) (n + 1))) b = some o := fun b o hb hne => lk_st_ne hne (k9 _ _ (k8 _ _ hb))
        refine ⟨k10 _ _ hI (fun q => by rw [q, e1] at hI; cases hI; cases hIf), ((B.set _ (by decide)).set _ (by decide)).but hLsG (ne_cell B.cn dN e1) (ne_cell B.ce dE e1) (ne_cell B.cl dL e1) k10, ⟨oc, vc, k10 _ _ c1 (ne_cell c1 c2 e1), c2⟩, _, _, lk_st_eq, ?_⟩
        rw [htk, List.map_append, Array.toList_push]
        exact e2.snoc hv
      have hz8 : acc.toArray.size = (endedOf l row).length := by simpa using z8.length
      rw [hz8]
      cases hel : endedOf l row with
      | nil =>
        rw [if_neg (by simp)]
        refine wpAny_Constant_none (args_nil (C9.append e9 (Mine.o48 hn hil hisz) fun h₁₁ C11 => ?_))
        obtain ⟨f1, f2⟩ := fin .none (by unfold lastOf; rw [hel]; rfl)
        exact wpAny_execs_nil ⟨_, _, _, _, rfl, C11, f1, f2⟩
      | cons p ps =>
        rw [if_pos (by simp)]
        rw [hel] at z8
        refine Subscript_ (C9.callB (n_max w) Boot.max (args_cons (C9.name mset_eq (args_nil (C9.maxP hh (by simp; (exact Mine.o49 hu)) (k9 _ _ D8) (z8.mono fun v p h => h.keepT fun b its n hb => k9 _ _ hb) fun v h₁₀ tk₁₀ hv C10 => ?_)))))
        (refine Mine.e4a2 hv ?_; clear hv; rintro Tm t1 t2 nt rfl hTm)
        refine c_int fun tc tkc => item_tupleT (l := [.int (maxPr p ps).1 t1, .int (maxPr p ps).2 t2]) (C10.isTuple hTm) (by decide) (by decide) rfl rfl (args_nil (C10.append e9 (Mine.o48 hn hil hisz) fun h₁₁ C11 => ?_))
        obtain ⟨f1, f2⟩ := fin (.int (maxPr p ps).2 t2) (by unfold lastOf; rw [hel]; exact ⟨t2, rfl⟩)
        exact wpAny_execs_nil ⟨_, _, _, _, rfl, C11, f1, f2⟩
  · rintro m₁ G₁ h₄ tk₄ hZ3 C4
    obtain ⟨B, W4, lits, ln, e1, e2⟩ := hZ3
    have hnl : nits.toList.length = needs.length := by simpa using hsz
    rw [hnl, List.take_length] at e2
    -- free = [..]
    refine wpAny_execs_cons (comp_asg (cl := [(Str.ofString "needs", L' + 1)]) (by kernel_rfl) rfl rfl (by decide) ?_)
    refine C4.callT (n_range w) Boot.range (args_cons (C4.callB (n_len w) Boot.len (args_cons (C4.nameC (c := L' + 1) rfl B.cn dN (args_nil (C4.len (B.keep _ _ hN) (Mine.o17 hn hsz) fun _ _ => args_nil (C4.range fun r h₅ tk₅ u1 u2 u3 C5 hr5 => ?_)))))))
    rw [hsz] at hr5
    refine C5.comp_range (fun i' acc G₂ => (∀ b o, lk G₁ b = some o → lk G₂ b = some o) ∧ All2 IsN acc ((List.range i').filter fun k => decide (rowAt needs k = []))) hh (Mine.o52 hn) hr5 rfl (by decide) rfl ⟨fun _ _ h => h, .nil⟩ ?_ ?_ ?_
    · rintro i' acc G₂ G₃ ⟨z1, z2⟩ u
      exact ⟨fun b o hb => u _ _ (z1 b o hb) (.inl (by rw [hb]; simp)), z2⟩
    · rintro I' Dc Lc k tj acc mc G₂ h₇ tk₇ oI' oC oD hk hal ⟨z1, z2⟩ C7 hI' hDc hL hNs hm
      obtain ⟨row, hrw⟩ : ∃ row, needs[k]? = some row := ⟨needs[k], by simp [hk]⟩
      have hrowAt : rowAt needs k = row := by unfold rowAt; simp [List.getD, hrw]
      obtain ⟨rv, hrv, rl, rits, rn, rfl, hrl, hra⟩ := hNr.get hrw
      have hral : rits.size = row.length := by simpa using hra.length
      refine CTurn.one (wpAny_isTrue_Compare1 (Subscript_ (C7.ccell (c := L' + 1) rfl (z1 _ _ B.cn) dN (C7.cname hL hNs hm (C7.itemN (z1 _ _ (B.keep _ _ hN)) (Mine.o28 hn hk) hrv (List_ (args_nil (C7.newList (by simp) fun Em h₉ C9 hEm => C9.eqNil (lk_fc hEm (z1 _ _ (B.keep _ _ hrl))) lk_cons_eq (by simp; (exact Mine.o32 hu)) (wpAny_truthy_bool ?_)))))))))
      have hb : decide (rits.size = 0) = decide (rowAt needs k = []) := by rw [hral, hrowAt]; exact decide_eq_decide.mpr List.length_eq_zero_iff
      rw [hb, List.range_succ, List.filter_append]
      by_cases q : rowAt needs k = []
      · rw [if_pos (by simpa using q), List.filter_cons_of_pos (by simpa using q)]
        exact C9.cname (lk_fc hEm hL) hNs hm ⟨_, _, _, rfl, C9, lk_fc hEm hI', lk_fc hEm hDc, lk_fc hEm hL, fun b o hb => lk_fc hEm (z1 b o hb), z2.snoc ⟨tj, rfl⟩⟩
      · rw [if_neg (by simpa using q), List.filter_cons_of_neg (by simpa using q)]
        exact ⟨_, _, _, rfl, C9, lk_fc hEm hI', lk_fc hEm hDc, lk_fc hEm hL, fun b o hb => lk_fc hEm (z1 b o hb), by simpa using z2⟩
    · rintro FR Lc facc fn mc oC G₂ h₇ tk₇ hD0 hL0 hDL ⟨z1, zF⟩ C7 hDc hL hNs
      refine C7.endS (y := Str.ofString "free") hL hNs fun h₈ tk₈ C8 => ?_
      have k8 : ∀ b o, lk G₁ b = some o → lk (rm G₂ Lc) b = some o := fun b o hb => (lk_rm (lk_ne hb hL0)).trans (z1 b o hb)
      have F8 : lk (rm G₂ Lc) FR = some (listOf facc.toArray fn) := (lk_rm hDL).trans hDc
      generalize rm G₂ Lc = G8 at *
      -- log, pairs, seen = ([], [], [])
      refine wpAny_execs_cons (Assign_Tuple_swapped (names := [Str.ofString "log", Str.ofString "pairs", Str.ofString "seen"]) (hw := by kernel_rfl) (Tuple_ (args_cons (List_ (args_nil (C8.newList (by simp) fun LG h₉ C9 hLg => args_cons (List_ (args_nil (C9.newList (by simp) fun PR h₁₀ C10 hPr => args_cons (List_ (args_nil (C10.newList (by simp) fun SN h₁₁ C11 hSn => args_nil (C11.newTuple (by simp) fun Tp h₁₂ C12 hTp => ?_)))))))))))))
      show wpAny _ _ (unpackItems (.ref Tp) ([Value.ref LG, Value.ref PR, Value.ref SN].toArray).size none) _ _ _
      refine unpackItems_tuple hh (C12.isTuple lk_cons_eq) fun h₁₃ he => ?_
      have C13 := C12.ext he
      show wpAny _ _ (assignInOrder (_ :: _ :: _ :: []) (Value.ref SN :: Value.ref PR :: Value.ref LG :: [])) _ _ _
      refine assignInOrder_cons (bindName_ (C13.store fun h₁₄ tk₁₄ C14 => assignInOrder_cons (bindName_ (C14.store fun h₁₅ tk₁₅ C15 => assignInOrder_cons (bindName_ (C15.store fun h₁₆ tk₁₆ C16 => assignInOrder_nil ?_))))))
      have hPrLG : PR ≠ LG := fun q => lk_ne lk_cons_eq hPr q.symm
      have hSnPr : SN ≠ PR := fun q => lk_ne lk_cons_eq hSn q.symm
      have hSnLG : SN ≠ LG := fun q => lk_ne (lk_fc hPr lk_cons_eq) hSn q.symm
      have non8 : ∀ {b : Addr}, lk G8 b = none → lk G b = none := fun {b} h => by
        cases q : lk G b with
        | none => rfl
        | some o => rw [k8 _ _ (B.keep _ _ q)] at h; cases h
      have hLgG := non8 hLg
      have non9 : ∀ {b c : Addr} {o : Obj}, lk ((c, o) :: G8) b = none → lk G8 b = none := fun {b c o} h => by
        cases q : lk G8 b with
        | none => rfl
        | some o' =>
          by_cases e : b = c
          · rw [e, lk_cons_eq] at h; cases h
          · rw [lk_cons_ne e q] at h; cases h
      have hPr8 : lk G8 PR = none := non9 hPr
      have hSn8 : lk G8 SN = none := by
        cases q : lk G8 SN with
        | none => rfl
        | some o => rw [lk_fc hPr (lk_fc hLg q)] at hSn; cases hSn
      have hPrG := non8 hPr8
      have hSnG := non8 hSn8
      have k16 : ∀ b o, lk G8 b = some o → lk ((Tp, tupOf [Value.ref LG, Value.ref PR, Value.ref SN].toArray 0) :: (SN, listOf [].toArray 0) :: (PR, listOf [].toArray 0) :: (LG, listOf [].toArray 0) :: G8) b = some o := fun b o hb => lk_fc hTp (lk_fc hSn (lk_fc hPr (lk_fc hLg hb)))
      have L16 : lk ((Tp, tupOf [Value.ref LG, Value.ref PR, Value.ref SN].toArray 0) :: (SN, listOf [].toArray 0) :: (PR, listOf [].toArray 0) :: (LG, listOf [].toArray 0) :: G8) LG = some (listOf #[] 0) := lk_fc hTp (lk_fc hSn (lk_fc hPr lk_cons_eq))
      have P16 : lk ((Tp, tupOf [Value.ref LG, Value.ref PR, Value.ref SN].toArray 0) :: (SN, listOf [].toArray 0) :: (PR, listOf [].toArray 0) :: (LG, listOf [].toArray 0) :: G8) PR = some (listOf #[] 0) := lk_fc hTp (lk_fc hSn lk_cons_eq)
      have S16 : lk ((Tp, tupOf [Value.ref LG, Value.ref PR, Value.ref SN].toArray 0) :: (SN, listOf [].toArray 0) :: (PR, listOf [].toArray 0) :: (LG, listOf [].toArray 0) :: G8) SN = some (listOf #[] 0) := lk_fc hTp lk_cons_eq
      generalize ((Tp, tupOf [Value.ref LG, Value.ref PR, Value.ref SN].toArray 0) :: (SN, listOf ([] : List Value).toArray 0) :: (PR, listOf ([] : List Value).toArray 0) :: (LG, listOf ([] : List Value).toArray 0) :: G8) = G16 at *
      have hLsn : Ls ≠ LG ∧ Ls ≠ PR ∧ Ls ≠ SN := ⟨lk_ne (k8 _ _ e1) hLg, lk_ne (k8 _ _ e1) hPr8, lk_ne (k8 _ _ e1) hSn8⟩
      have B16 := (((((B.grow k8).grow k16).set (x := Str.ofString "free") (.ref FR) (by decide)).set (x := Str.ofString "seen") (.ref SN) (by decide)).set (x := Str.ofString "pairs") (.ref PR) (by decide)).set (x := Str.ofString "log") (.ref LG) (by decide)
      have W16 : IsCellAt G16 (L' + 1 + 1 + 1 + 1) := by
        (refine Mine.e2a2 W4 ?_; clear W4; rintro oc vc c1 c2)
        exact ⟨oc, vc, k16 _ _ (k8 _ _ c1), c2⟩
      have Ls16 := k16 _ _ (k8 _ _ e1)
      have F16 := k16 _ _ F8
      have hDk : IsDict w G16 Dl kvs := hD.keep fun o ho => B16.keep _ _ ho
      have hkl : kvs.length = l.length := hA.length
      -- sorted([..])
      refine wpAny_execs_cons (wpAny_For (C16.callB (n_sorted w) Boot.sorted (args_cons (comp_ev (cl := [(Str.ofString "ends", L' + 1 + 1)]) rfl rfl (by decide) (C16.nameC (c := L' + 1 + 1) rfl B16.ce dE ?_)))))
      refine C16.comp_dictK (fun i' acc G₂ => (∀ b o, lk G16 b = some o → lk G₂ b = some o) ∧ All2 (IsPr G₂) acc ((l.take i').map fun p => (p.2, (p.1 : Int)))) hh (Mine.o69 h64 hkl) hDk (fun i' acc G₂ hj => ?_) rfl (by decide) rfl ⟨fun _ _ h => h, .nil⟩ ?_ ?_ ?_
      · obtain ⟨_, o, ho, _⟩ := hDk
        rw [ho, hj.1 _ _ ho]
      · rintro i' acc G₃ G₄ ⟨z1, z2⟩ u
        exact ⟨fun b o hb => u _ _ (z1 b o hb) (.inl (by rw [hb]; simp)), z2.mono fun v p h => h.keepT fun b its n hb => u _ _ hb (.inr ⟨_, _, rfl⟩)⟩
      · rintro I2 Dc Lc i' k v' tv acc mc G₃ h₇ tk₈ oI2 oC oD hkv hal ⟨z1, z2⟩ C7 hI2 hDc hL hNs hm
        obtain ⟨q, hq, hq1, _⟩ := hA.getL hkv
        have hq1' : k = (q.1 : Int) := hq1
        subst hq1'
        have hge := hget q (List.mem_of_getElem? hq)
        rcases kv_get hA q.1 with ⟨h1, h2⟩ | ⟨e, te, h1, h2⟩
        · rw [hge] at h1; cases h1
        · rw [hge] at h1; cases h1
          refine CTurn.all (Tuple_ (args_cons (Subscript_ (C7.ccell (c := L' + 1 + 1) rfl (z1 _ _ B16.ce) dE (C7.cname hL hNs hm (C7.ditem (hDk.keep fun o ho => z1 _ _ ho) h2 fun tk₁₀ => args_cons (C7.cname hL hNs hm (args_nil (C7.newTuple (by simp) fun T h₈ C8 hT => ?_)))))))))
          refine ⟨_, _, _, rfl, C8, lk_fc hT hI2, lk_fc hT hDc, lk_fc hT hL, fun b o hb => lk_fc hT (z1 b o hb), ?_⟩
          rw [List.take_add_one, hq, List.map_append]
          exact (z2.mono fun v p h => h.keepT fun b its n hb => lk_fc hT hb).snoc ⟨T, te, tv, 0, rfl, lk_cons_eq⟩
      · rintro Dc Lc acc nn mc oC G₃ h₇ tk₈ hD0 hL0 hDL ⟨z1, z2⟩ C7 hDc hL hNs
        rw [hkl, List.take_length] at z2
        refine C7.endV hL hNs fun h₈ C17 => ?_
        have k17 : ∀ b o, lk G16 b = some o → lk (rm G₃ Lc) b = some o := fun b o hb => (lk_rm (lk_ne hb hL0)).trans (z1 b o hb)
        have D17 : lk (rm G₃ Lc) Dc = some (listOf acc.toArray nn) := (lk_rm hDL).trans hDc
        have z17 : All2 (IsPr (rm G₃ Lc)) acc (l.map fun p => (p.2, (p.1 : Int))) := z2.mono fun v p h => h.keepT fun b its n hb => by
          refine (lk_rm fun q => ?_).trans hb
          (refine Mine.e2a2 hNs ?_; clear hNs; rintro es ep q2 _)
          rw [q, hL] at hb; cases hb; cases q2
        generalize rm G₃ Lc = G17 at *
        refine args_nil (C17.sortedP D17 (by simpa using z17) (hE.nodup_iff.mp (pw_nodup hEs)) (by simpa using h2) (by simpa using h64) fun SD sits qs sk h₁₈ tk₁₈ C18 hSd z18 hqp hqs => ?_)
        have hqE : qs = Es := perm_sorted_eq (hqp.trans hE.symm) hqs hEs
        subst hqE
        have k18 : ∀ b o, lk G16 b = some o → lk ((SD, listOf sits sk) :: G17) b = some o := fun b o hb => lk_fc hSd (k17 b o hb)
        have S18 : lk ((SD, listOf sits sk) :: G17) SD = some (listOf sits sk) := lk_cons_eq
        have hSdn : SD ≠ LG ∧ SD ≠ PR ∧ SD ≠ SN := ⟨fun q => lk_ne (k17 _ _ L16) hSd q.symm, fun q => lk_ne (k17 _ _ P16) hSd q.symm, fun q => lk_ne (k17 _ _ S16) hSd q.symm⟩
        generalize ((SD, listOf sits sk) :: G17) = G18 at *
        have ok : DuOk G ⟨Fl, L' + 1, L' + 1 + 1, L' + 1 + 1 + 1, L' + 1 + 1 + 1 + 1, o4, o3, oL, Ls, LG, PR, SN, SD, lits, ln, sits, sk, fits⟩ := ⟨⟨_, dN⟩, ⟨_, dE⟩, ⟨_, dL⟩, hWG, hLgG, hPrG, hSnG, nW, hPrLG, hSnPr, hSnLG, hLsn, hSdn⟩
        have I18 : DuL G ⟨Fl, L' + 1, L' + 1 + 1, L' + 1 + 1 + 1, L' + 1 + 1 + 1 + 1, o4, o3, oL, Ls, LG, PR, SN, SD, lits, ln, sits, sk, fits⟩ qs [] [] [] _ G18 := ⟨B16.grow k18, (by (refine Mine.e2a2 W16 ?_; clear W16; rintro oc vc c1 c2); exact ⟨oc, vc, k18 _ _ c1, c2⟩), mset_eq, mset_ne (by decide) mset_eq, mset_ne (by decide) (mset_ne (by decide) mset_eq), k18 _ _ Ls16, S18, z18, ⟨_, _, k18 _ _ L16, .nil⟩, ⟨_, _, k18 _ _ P16, .nil⟩, ⟨_, _, k18 _ _ S16, .nil⟩⟩
        have hEl : qs.length = l.length := by simpa using hE.length_eq
        have hssz : sits.toList.length = qs.length := z18.length
        refine C18.for_listT (fun i m₁ G₁ => DuL G ⟨Fl, L' + 1, L' + 1 + 1, L' + 1 + 1 + 1, L' + 1 + 1 + 1 + 1, o4, o3, oL, Ls, LG, PR, SN, SD, lits, ln, sits, sk, fits⟩ qs ((dueLog needs l qs).take i) ((qs.take i).foldl (fun acc p => pairFam needs l p.2.toNat acc) []) (((qs.take i).foldl (fun acc p => pairFam needs l p.2.toNat acc) []).map (·.1)) m₁ G₁ ∧ ∃ FR fi fn, m₁ (Str.ofString "free") = some (.ref FR) ∧ lk G₁ FR = some (listOf fi fn) ∧ All2 IsN fi.toList (frees needs l qs i)) hh
          ⟨I18, FR, _, _, mset_ne (by decide) (mset_ne (by decide) (mset_ne (by decide) mset_eq)), k18 _ _ F16, by simpa [frees, free0] using zF⟩ (fun _ _ _ hj => hj.1.sd) (fun i v hv => ?_) ?_ ?_ ?_
        · obtain ⟨e, he, T, t1, t2, nt, rfl, hT⟩ := z18.getL hv
          exact ⟨T, rfl⟩
        · rintro i m₁ G₁ G₂ hZ4 u
          obtain ⟨D1, FR, fi, fn, f1, f2, f3⟩ := hZ4
          exact ⟨D1.up ok (fun b o hb => by rw [I18.B.keep b o hb]; simp) u, FR, fi, fn, f1, u _ _ f2 (.inr (by simp)), f3⟩
        · rintro i v m₁ G₁ h₂₀ tk₂₀ I oI hv hZ5 C20 hI ⟨vsI, hIf⟩ hI0
          obtain ⟨D1, FR, fi, fn, f1, f2, f3⟩ := hZ5
          obtain ⟨e, he, T, t1, t2, nt, rfl, hT⟩ := D1.sp.getL hv
          (refine Mine.e1a2 (List.mem_map.mp (hE.mem_iff.mp (List.mem_of_getElem? he))) ?_; rintro q hq rfl)
          have hqn := hkeys q hq
          have hil : i < qs.length := (List.getElem?_eq_some_iff.mp he).1
          have hEg : qs.getD i (0, 0) = (q.2, (q.1 : Int)) := by rw [List.getD_eq_getElem?_getD, he]; rfl
          refine assign_Tuple_tuple hh (C20.isTuple hT) rfl rfl fun h₂₁ hex => ?_
          have C21 := C20.ext hex
          show wpAny _ _ (assignInOrder (_ :: _ :: []) (Value.int q.2 t1 :: Value.int (q.1 : Int) t2 :: [])) _ _ _
          (refine Mine.e2a2 D1.W ?_; rintro ocW vcW hcW dcW)
          dsimp only at hcW
          refine assignInOrder_cons (assign_Name (C21.store fun h₂₂ tk₂₂ C22 => assignInOrder_cons (assign_Name (C22.storeC (c := L' + 1 + 1 + 1 + 1) rfl hcW dcW (fun h₂₃ oW C23 dW' => assignInOrder_nil ?_)))))
          have D2 := (D1.cell ok dW').set (x := Str.ofString "hour") (.int q.2 t1) (by decide) (by decide) (by decide) (by decide)
          have hI2 : lk (Mine.st G₁ (L' + 1 + 1 + 1 + 1) oW) I = some oI := lk_st_ne (fun z => by rw [z, hcW] at hI; cases hI; rw [dcW] at hIf; cases hIf) hI
          have f2' : lk (Mine.st G₁ (L' + 1 + 1 + 1 + 1) oW) FR = some (listOf fi fn) := lk_st_ne (fun z => ne_cell hcW dcW f2 z.symm) f2
          have hW2 : lk (Mine.st G₁ (L' + 1 + 1 + 1 + 1) oW) (L' + 1 + 1 + 1 + 1) = some oW := lk_st_eq
          dsimp only at D2
          generalize (Mine.st G₁ (L' + 1 + 1 + 1 + 1) oW) = G₂ at *
          (refine Mine.e2a2 D2.lgs ?_; rintro lgi lgn g1 g2)
          dsimp only at g1
          have hlgl := g2.length
          have hfl := f3.length
          -- log.append((tuple(free), hour, work))
          refine wpAny_execs_cons (wpAny_Expr (MethodCall_ (C23.name D2.log (C23.listMeth g1 PySem.F.slot_list_append PySem.F.type_list_append (callWith_method1 (args_cons (Tuple_ (args_cons (C23.callT (n_tuple w) Boot.tuple (args_cons (C23.name (mset_ne (by decide) f1) (args_nil (C23.tupleOf f2' ?_ fun TF h₂₄ C24 hTF => args_cons (C24.name mset_eq (args_cons (C24.nameC (c := L' + 1 + 1 + 1 + 1) rfl (lk_fc hTF hW2) dW' (args_nil (C24.newTuple (by simp) fun LT h₂₅ C25 hLT => args_nil (C25.append (lk_fc hLT (lk_fc hTF g1)) ?_ fun h₂₆ C26 => ?_)))))))))))))))))))
          · have := frees_len (needs := needs) (l := l) (E := qs) i
            simp at hfl; (exact Mine.o91 hn hfl this)
          · simp only [List.length_take] at hlgl
            simp at hlgl; (exact Mine.o92 h64 hEl hil hlgl)
          have k25 : ∀ b o, lk G₂ b = some o → lk ((LT, tupOf [Value.ref TF, Value.int q.2 t1, Value.int (q.1 : Int) t2].toArray 0) :: (TF, tupOf fi 0) :: G₂) b = some o := fun b o hb => lk_fc hLT (lk_fc hTF hb)
          have D3 := (D2.grow k25).addLog ok (k := lgn + 1) (v := .ref LT) (e := (frees needs l qs i, q.2, q.1)) (k25 _ _ g1) (g2.mono fun v e z => z.keep fun b its n hb => k25 _ _ hb) ⟨LT, 0, TF, fi, 0, t1, t2, rfl, lk_cons_eq, lk_fc hLT lk_cons_eq, f3⟩
          have hdl : (dueLog needs l qs).take (i + 1) = (dueLog needs l qs).take i ++ [(frees needs l qs i, q.2, q.1)] := by
            rw [List.take_add_one]
            congr 1
            unfold dueLog
            rw [List.getElem?_map, List.getElem?_range hil]
            show [(frees needs l qs i, (qs.getD i (0, 0)).1, (qs.getD i (0, 0)).2.toNat)] = _
            rw [hEg]; rfl
          rw [← hdl] at D3
          dsimp only at D3
          have k26 : ∀ b o, lk G₂ b = some o → b ≠ LG → lk (Mine.st ((LT, tupOf [Value.ref TF, Value.int q.2 t1, Value.int (q.1 : Int) t2].toArray 0) :: (TF, tupOf fi 0) :: G₂) LG (listOf (lgi.push (.ref LT)) (lgn + 1))) b = some o := fun b o hb hne => lk_st_ne hne (k25 b o hb)
          have hI3 := k26 _ _ hI2 (fun z => by rw [z, g1] at hI2; cases hI2; cases hIf)
          have hW3 := k26 _ _ hW2 (ne_cell hW2 dW' g1)
          generalize (Mine.st ((LT, tupOf [Value.ref TF, Value.int q.2 t1, Value.int (q.1 : Int) t2].toArray 0) :: (TF, tupOf fi 0) :: G₂) LG (listOf (lgi.push (.ref LT)) (lgn + 1))) = G₃ at *
          clear k25 k26 hTF hLT g1 g2 f2' f2 f3 D2 D1 C20 C21 C22 C23 C24 C25
          -- free = [..]
          obtain ⟨fv, hfv, fl, fmi, fmn, rfl, hfl, hfa⟩ := hFr.get (i := q.1) (b := famOf needs q.1) (by simp [hqn])
          have hfaml : fmi.size = (famOf needs q.1).length := by simpa using hfa.length
          have hfam2 : (famOf needs q.1).length ≤ needs.length + 1 := by
            unfold famOf
            simp only [List.length_append, List.length_map, List.length_singleton]
            have := List.length_filter_le (fun k => decide (q.1 ∈ rowAt needs k)) (List.range needs.length)
            simp only [List.length_range] at this
            (exact Mine.o93 this)
          refine wpAny_execs_cons (comp_asg (cl := [(Str.ofString "work", L' + 1 + 1 + 1 + 1), (Str.ofString "lasts", L' + 1 + 1 + 1), (Str.ofString "ends", L' + 1 + 1)]) (by kernel_rfl) rfl rfl (by decide) ?_)
          refine Subscript_ (C26.name D3.B.fam (C26.nameC (c := L' + 1 + 1 + 1 + 1) rfl hW3 dW' (C26.itemN (D3.B.keep _ _ hF) (Mine.o28 hn hqn) hfv ?_)))
          have Ls3 := D3.ls
          have cl3 := D3.B.cl
          have ce3 := D3.B.ce
          dsimp only at Ls3 cl3 ce3
          refine C26.comp_list (fun i' acc G₄ => (∀ b o, lk G₃ b = some o → lk G₄ b = some o) ∧ All2 IsN acc ((((famOf needs q.1).take i').filter (okK needs l q.1)).map Int.toNat)) hh (Mine.o105 hn hfaml hfam2) (fun _ _ _ hj => hj.1 _ _ (D3.B.keep _ _ hfl)) rfl (by decide) rfl ⟨fun _ _ h => h, .nil⟩ ?_ ?_ ?_
          · rintro i' acc G₄ G₅ ⟨z1, z2⟩ u
            exact ⟨fun b o hb => u _ _ (z1 b o hb) (.inl (by rw [hb]; simp)), z2⟩
          · rintro I2 Dc Lc i' v' acc mc G₄ h₇ tk₈ oI2 oC oD hv' hal ⟨z1, z2⟩ C7 hI2 hDc hL hNs hm
            obtain ⟨k, hk, tk', rfl⟩ := hfa.getL hv'
            have hD7 : IsDict w G₄ Dl kvs := hD.keep fun o ho => z1 _ _ (D3.B.keep _ _ ho)
            have htk2 : (famOf needs q.1).take (i' + 1) = (famOf needs q.1).take i' ++ [k] := by rw [List.take_add_one, hk]; rfl
            refine CTurn.one (wpAny_isTrue_BoolOp (wpAny_allTrue_And_cons (wpAny_isTrue_Compare1 (C7.cname hL hNs hm (C7.ccell (c := L' + 1 + 1) rfl (z1 _ _ ce3) dE (C7.din hD7 fun tk₉ => wpAny_truthy_bool ?_))))))
            rw [kv_someI hA, htk2, List.filter_append]
            by_cases c1 : (decide (0 ≤ k) && (eget l k.toNat).isSome) = true
            · rw [if_pos c1]
              have c1' := c1
              simp only [Bool.and_eq_true, decide_eq_true_eq] at c1'
              obtain ⟨hk0, hks⟩ := c1'
              obtain ⟨hkn, hkr⟩ := fam_mem (List.mem_of_getElem? hk) hk0
              obtain ⟨kn, rfl⟩ : ∃ kn : Nat, k = (kn : Int) := ⟨k.toNat, (Int.toNat_of_nonneg hk0).symm⟩
              rw [Int.toNat_natCast] at hks hkn hkr
              obtain ⟨row, hrw⟩ : ∃ row, needs[kn]? = some row := ⟨needs[kn], by simp [hkn]⟩
              have hrowAt : rowAt needs kn = row := by unfold rowAt; simp [List.getD, hrw]
              (refine Mine.e1a2 (e2.get (i := kn) (b := lastOf l row) (by simp [hrw])) ?_; rintro lv hlv hlo)
              refine wpAny_allTrue_And_cons (wpAny_isTrue_Compare1 (Subscript_ (C7.ccell (c := L' + 1 + 1 + 1) rfl (z1 _ _ cl3) dL (C7.cname hL hNs hm (C7.itemN (z1 _ _ Ls3) (Mine.o28 hn hkn) hlv (C7.ccell (c := L' + 1 + 1 + 1 + 1) rfl (z1 _ _ hW3) dW' ?_))))))
              have hokK : okK needs l q.1 (kn : Int) = decide (lastOf l row = some (q.1 : Int)) := by unfold okK; simp [hks, hrowAt]
              cases hlst : lastOf l row with
              | none =>
                rw [hlst] at hlo hokK
                rw [show lv = .none from hlo]
                refine EqNone.eq_none_int (wpAny_truthy_bool ?_)
                rw [if_neg (by simp)]
                refine ⟨_, _, _, rfl, C7, hI2, hDc, hL, z1, ?_⟩
                rw [List.filter_cons_of_neg (by rw [hokK]; simp)]
                simpa using z2
              | some j =>
                rw [hlst] at hlo hokK
                obtain ⟨tj, rfl⟩ := hlo
                refine eq_int (wpAny_truthy_bool ?_)
                by_cases ej : j = (q.1 : Int)
                · rw [if_pos (by simp [ej])]
                  refine wpAny_allTrue_And_nil ?_
                  rw [if_pos rfl]
                  refine C7.cname hL hNs hm ⟨_, _, _, rfl, C7, hI2, hDc, hL, z1, ?_⟩
                  rw [List.filter_cons_of_pos (by rw [hokK]; simp [ej]), List.map_append]
                  exact z2.snoc ⟨tk', rfl⟩
                · rw [if_neg (by simp [ej])]
                  refine ⟨_, _, _, rfl, C7, hI2, hDc, hL, z1, ?_⟩
                  rw [List.filter_cons_of_neg (by rw [hokK]; simp [ej])]
                  simpa using z2
            · rw [if_neg c1]
              refine ⟨_, _, _, rfl, C7, hI2, hDc, hL, z1, ?_⟩
              rw [List.filter_cons_of_neg (by unfold okK; rw [← Bool.and_assoc]; exact fun z => c1 (Bool.and_eq_true_iff.mp z).1)]
              simpa using z2
          · rintro FR2 Lc facc2 fn2 mc oC G₄ h₇ tk₈ hD0 hL0 hDL ⟨z1, z2⟩ C7 hDc hL hNs
            rw [List.take_of_length_le (Mine.o31 hfaml), fam_free] at z2
            refine C7.endS (y := Str.ofString "free") hL hNs fun h₈ tk₉ C27 => ?_
            have k27 : ∀ b o, lk G₃ b = some o → lk (rm G₄ Lc) b = some o := fun b o hb => (lk_rm (lk_ne hb hL0)).trans (z1 b o hb)
            have F27 : lk (rm G₄ Lc) FR2 = some (listOf facc2.toArray fn2) := (lk_rm hDL).trans hDc
            generalize rm G₄ Lc = G27 at *
            have D4 := (D3.grow k27).set (x := Str.ofString "free") (.ref FR2) (by decide) (by decide) (by decide) (by decide)
            have hI4 := k27 _ _ hI3
            have hW4 := k27 _ _ hW3
            have hFRn : FR2 ≠ PR ∧ FR2 ≠ SN := by
              (refine Mine.e2a2 D3.prs ?_; rintro _ _ x2 _)
              (refine Mine.e2a2 D3.sns ?_; rintro _ _ x3 _)
              exact ⟨fun z => lk_ne x2 hD0 z.symm, fun z => lk_ne x3 hD0 z.symm⟩
            clear k27 D3 hW3 hI3 C26
            -- for k in families[work]
            refine wpAny_execs_cons (wpAny_For (Subscript_ (C27.name D4.B.fam (C27.nameC (c := L' + 1 + 1 + 1 + 1) rfl hW4 dW' (C27.itemN (D4.B.keep _ _ hF) (Mine.o28 hn hqn) hfv ?_)))))
            have hprl := pairs_len (needs := needs) (l := l) (qs.take i) []
            have hprl2 : (qs.take i).length * (needs.length + 1) ≤ 64 * 101 := Nat.mul_le_mul (by simp; (exact Mine.o117 h64 hEl)) (Mine.o118 hn)
            simp only [List.length_nil, Nat.zero_add] at hprl
            have hpr1 : (qs.take (i + 1)).foldl (fun acc p => pairFam needs l p.2.toNat acc) [] = pairFam needs l q.1 ((qs.take i).foldl (fun acc p => pairFam needs l p.2.toNat acc) []) := by
              rw [List.take_add_one, he, List.foldl_append]; rfl
            rw [hpr1]
            generalize (qs.take i).foldl (fun acc p => pairFam needs l p.2.toNat acc) [] = pr0 at *
            refine C27.for_list (fun i' m₂ G₅ => DuL G ⟨Fl, L' + 1, L' + 1 + 1, L' + 1 + 1 + 1, L' + 1 + 1 + 1 + 1, o4, o3, oL, Ls, LG, PR, SN, SD, lits, ln, sits, sk, fits⟩ qs ((dueLog needs l qs).take (i + 1)) (((famOf needs q.1).take i').foldl (pairAdd needs l q.1) pr0) ((((famOf needs q.1).take i').foldl (pairAdd needs l q.1) pr0).map (fun x : Int × Nat => x.1)) m₂ G₅ ∧ m₂ (Str.ofString "free") = some (.ref FR2) ∧ lk G₅ FR2 = some (listOf facc2.toArray fn2) ∧ lk G₅ I = some oI ∧ lk G₅ (L' + 1 + 1 + 1 + 1) = some oW) hh
              ⟨D4, mset_eq, F27, hI4, hW4⟩ (fun _ _ _ hj => hj.1.B.keep _ _ hfl) rfl ?_ ?_ ?_
            · rintro i' m₂ G₅ G₆ hZ6 u
              (refine Mine.e0a5 hZ6 ?_; clear hZ6; rintro D5 y1 y2 y3 y4)
              exact ⟨D5.up ok (fun b o hb => by rw [D4.B.keep b o hb]; simp) u, y1, u _ _ y2 (.inr (by simp)), u _ _ y3 (.inl (by rw [hI4]; simp)), u _ _ y4 (.inr (by rw [dW']; simp))⟩
            · rintro i' v' m₂ G₅ h₂₈ tk₂₈ I2 oI2 hv' hZ7 C28 hI2 ⟨vsI2, hIf2⟩ hI20
              (refine Mine.e0a5 hZ7 ?_; clear hZ7; rintro D5 y1 y2 y3 y4)
              obtain ⟨k, hk, tkk, rfl⟩ := hfa.getL hv'
              have htk2 : (famOf needs q.1).take (i' + 1) = (famOf needs q.1).take i' ++ [k] := by rw [List.take_add_one, hk]; rfl
              have hpl := pairAdd_len (needs := needs) (l := l) (wk := q.1) ((famOf needs q.1).take i') pr0
              have hpl2 : ((famOf needs q.1).take i').length ≤ 101 := by simp; (exact Mine.o119 hn hfam2)
              rw [htk2, List.foldl_append, show ∀ x : List (Int × Nat), [k].foldl (pairAdd needs l q.1) x = pairAdd needs l q.1 x k from fun _ => rfl]
              generalize ((famOf needs q.1).take i').foldl (pairAdd needs l q.1) pr0 = pr at *
              have D6 := D5.set (x := Str.ofString "k") (.int k tkk) (by decide) (by decide) (by decide) (by decide)
              (refine Mine.e2a2 D6.sns ?_; rintro i3 n3 x3 z3)
              dsimp only at x3
              have hz3 := z3.length
              -- if k not in seen
              refine wpAny_execs_cons (wpAny_If (wpAny_isTrue_Compare1 (C28.name mset_eq (C28.name D6.seen (C28.notinL x3 z3 (wpAny_truthy_bool ?_))))))
              by_cases em : k ∈ pr.map (·.1)
              · rw [if_neg (by simpa using em)]
                have hpa : pairAdd needs l q.1 pr k = pr := by unfold pairAdd; rw [if_pos em]
                rw [hpa]
                exact wpAny_execs_nil (wpAny_execs_nil ⟨_, _, _, _, rfl, C28, hI2, D6, mset_ne (by decide) y1, y2, y3, y4⟩)
              · rw [if_pos (by simpa using em)]
                have hpa : pairAdd needs l q.1 pr k = pr ++ [(k, if k < 0 then q.1 else ((lastOf l (rowAt needs k.toNat)).getD 0).toNat)] := by unfold pairAdd; rw [if_neg em]
                rw [hpa, List.map_append]
                refine wpAny_execs_cons (wpAny_Expr (MethodCall_ (C28.name D6.seen (C28.listMeth x3 PySem.F.slot_list_append PySem.F.type_list_append (callWith_method1 (args_cons (C28.name mset_eq (args_nil (C28.append x3 (by simp at hz3; (exact Mine.o131 hprl2 hprl hpl2 hpl hz3)) fun h₂₉ C29 => ?_)))))))))
                have D7 := D6.addSn ok (k := n3 + 1) (v := .int k tkk) (e := k) x3 z3 ⟨tkk, rfl⟩
                dsimp only at D7
                have k29 : ∀ b o, lk G₅ b = some o → b ≠ SN → lk (Mine.st G₅ SN (listOf (i3.push (.int k tkk)) (n3 + 1))) b = some o := fun b o hb hne => lk_st_ne hne hb
                have Y2 := k29 _ _ y2 hFRn.2
                have Y3 := k29 _ _ y3 (fun z => by rw [z, x3] at y3; cases y3; cases hIf)
                have Y4 := k29 _ _ y4 (ne_cell y4 dW' x3)
                have Y5 := k29 _ _ hI2 (fun z => by rw [z, x3] at hI2; cases hI2; cases hIf2)
                generalize (Mine.st G₅ SN (listOf (i3.push (.int k tkk)) (n3 + 1))) = G₆ at *
                clear k29 x3 D5 y2 y3 y4 hI2 C28 D6
                (refine Mine.e2a2 D7.prs ?_; rintro i2 n2' x2 z2')
                dsimp only at x2
                have hz2 := z2'.length
                have Ls7 := D7.ls
                have cl7 := D7.B.cl
                dsimp only at Ls7 cl7
                refine wpAny_execs_cons (wpAny_Expr (MethodCall_ (C29.name D7.pairs (C29.listMeth x2 PySem.F.slot_list_append PySem.F.type_list_append (callWith_method1 (args_cons (Tuple_ (args_cons (C29.name mset_eq (args_cons (wpAny_IfExp (wpAny_isTrue_Compare1 (C29.name mset_eq (c_int fun _ tkc => lt_int (wpAny_truthy_bool ?_)))))))))))))))
                have fin : ∀ (fv : Value) (j : Nat) (PT : Addr), fits.toList[j]? = some fv → j = (if k < 0 then q.1 else ((lastOf l (rowAt needs k.toNat)).getD 0).toNat) → lk G₆ PT = none →
                    lk (Mine.st ((PT, tupOf [Value.int k tkk, fv].toArray 0) :: G₆) PR (listOf (i2.push (.ref PT)) (n2' + 1))) I2 = some oI2 ∧
                    DuL G ⟨Fl, L' + 1, L' + 1 + 1, L' + 1 + 1 + 1, L' + 1 + 1 + 1 + 1, o4, o3, oL, Ls, LG, PR, SN, SD, lits, ln, sits, sk, fits⟩ qs ((dueLog needs l qs).take (i + 1)) (pr ++ [(k, if k < 0 then q.1 else ((lastOf l (rowAt needs k.toNat)).getD 0).toNat)]) (pr.map (fun x : Int × Nat => x.1) ++ [k]) (mset m₂ (Str.ofString "k") (.int k tkk)) (Mine.st ((PT, tupOf [Value.int k tkk, fv].toArray 0) :: G₆) PR (listOf (i2.push (.ref PT)) (n2' + 1))) ∧
                    mset m₂ (Str.ofString "k") (.int k tkk) (Str.ofString "free") = some (.ref FR2) ∧ lk (Mine.st ((PT, tupOf [Value.int k tkk, fv].toArray 0) :: G₆) PR (listOf (i2.push (.ref PT)) (n2' + 1))) FR2 = some (listOf facc2.toArray fn2) ∧ lk (Mine.st ((PT, tupOf [Value.int k tkk, fv].toArray 0) :: G₆) PR (listOf (i2.push (.ref PT)) (n2' + 1))) I = some oI ∧ lk (Mine.st ((PT, tupOf [Value.int k tkk, fv].toArray 0) :: G₆) PR (listOf (i2.push (.ref PT)) (n2' + 1))) (L' + 1 + 1 + 1 + 1) = some oW := by
                  intro fv j PT hfj hj hPT
                  have k30 : ∀ b o, lk G₆ b = some o → lk ((PT, tupOf [Value.int k tkk, fv].toArray 0) :: G₆) b = some o := fun b o hb => lk_fc hPT hb
                  have k31 : ∀ b o, lk G₆ b = some o → b ≠ PR → lk (Mine.st ((PT, tupOf [Value.int k tkk, fv].toArray 0) :: G₆) PR (listOf (i2.push (.ref PT)) (n2' + 1))) b = some o := fun b o hb hne => lk_st_ne hne (k30 b o hb)
                  have D8 := (D7.grow k30).addPr ok (k := n2' + 1) (v := .ref PT) (e := (k, if k < 0 then q.1 else ((lastOf l (rowAt needs k.toNat)).getD 0).toNat)) (k30 _ _ x2) (z2'.mono fun v e z => z.keepT fun b its n hb => k30 _ _ hb) ⟨PT, tkk, 0, fv, rfl, lk_cons_eq, by rw [← hj]; exact hfj⟩
                  exact ⟨k31 _ _ Y5 (fun z => by rw [z, x2] at Y5; cases Y5; cases hIf2), D8, mset_ne (by decide) y1, k31 _ _ Y2 hFRn.1, k31 _ _ Y3 (fun z => by rw [z, x2] at Y3; cases Y3; cases hIf), k31 _ _ Y4 (ne_cell Y4 dW' x2)⟩
                by_cases hk0 : k < 0
                · rw [if_pos (by simpa using hk0)]
                  refine Subscript_ (C29.name D7.B.fam (C29.nameC (c := L' + 1 + 1 + 1 + 1) rfl Y4 dW' (C29.itemN (D7.B.keep _ _ hF) (Mine.o28 hn hqn) hfv (args_nil (C29.newTuple (by simp) fun PT h₃₀ C30 hPT => args_nil (C30.append (lk_fc hPT x2) (by simp at hz2; (exact Mine.o131 hprl2 hprl hpl2 hpl hz2)) fun h₃₁ C31 => ?_))))))
                  obtain ⟨f1', f2'⟩ := fin (.ref fl) q.1 PT hfv (by rw [if_pos hk0]) hPT
                  exact wpAny_execs_nil (wpAny_execs_nil ⟨_, _, _, _, rfl, C31, f1', f2'⟩)
                · rw [if_neg (by simpa using hk0)]
                  obtain ⟨hkn, hkr⟩ := fam_mem (List.mem_of_getElem? hk) (by omega)
                  obtain ⟨kn, rfl⟩ : ∃ kn : Nat, k = (kn : Int) := ⟨k.toNat, (Int.toNat_of_nonneg (by omega)).symm⟩
                  rw [Int.toNat_natCast] at hkn hkr
                  obtain ⟨row, hrw⟩ : ∃ row, needs[kn]? = some row := ⟨needs[kn], by simp [hkn]⟩
                  have hrowAt : rowAt needs kn = row := by unfold rowAt; simp [List.getD, hrw]
                  (refine Mine.e1a2 (hlast _ (List.mem_of_getElem? he) kn hkn hkr) ?_; rintro j hjn hjl)
                  rw [hrowAt] at hjl
                  (refine Mine.e1a2 (e2.get (i := kn) (b := lastOf l row) (by simp [hrw])) ?_; rintro lv hlv hlo)
                  rw [hjl] at hlo
                  obtain ⟨tj, rfl⟩ := hlo
                  (refine Mine.e1a2 (hFr.get (i := j) (b := famOf needs j) (by simp [hjn])) ?_; rintro fv2 hfv2 _)
                  refine Subscript_ (C29.name D7.B.fam (Subscript_ (C29.nameC (c := L' + 1 + 1 + 1) rfl cl7 dL (C29.name mset_eq (C29.itemN Ls7 (Mine.o28 hn hkn) hlv (C29.itemN (D7.B.keep _ _ hF) (Mine.o28 hn hjn) hfv2 (args_nil (C29.newTuple (by simp) fun PT h₃₀ C30 hPT => args_nil (C30.append (lk_fc hPT x2) (by simp at hz2; (exact Mine.o131 hprl2 hprl hpl2 hpl hz2)) fun h₃₁ C31 => ?_)))))))))
                  obtain ⟨f1', f2'⟩ := fin fv2 j PT hfv2 (by rw [if_neg hk0, Int.toNat_natCast, hrowAt, hjl]; rfl) hPT
                  exact wpAny_execs_nil (wpAny_execs_nil ⟨_, _, _, _, rfl, C31, f1', f2'⟩)
            · rintro m₂ G₅ h₂₈ tk₂₈ hZ8 C28
              (refine Mine.e0a5 hZ8 ?_; clear hZ8; rintro D5 y1 y2 y3 y4)
              rw [List.take_of_length_le (l := famOf needs q.1) (i := fmi.toList.length) (by simp; (exact Mine.o31 hfaml))] at D5
              refine wpAny_execs_nil ⟨_, _, _, _, rfl, C28, y3, D5, FR2, _, _, y1, y2, ?_⟩
              show All2 IsN facc2 (freeOf needs l (qs.getD i (0, 0)).2.toNat)
              rw [hEg]; exact z2
        · rintro m₁ G₁ h₂₀ tk₂₀ hZ9 C20
          obtain ⟨D1, FR, fi, fn, f1, f2, f3⟩ := hZ9
          rw [hssz] at D1
          (refine Mine.e2a2 D1.lgs ?_; rintro i1 n1 x1 y1)
          (refine Mine.e2a2 D1.prs ?_; rintro i2 n2 x2 y2)
          dsimp only at x1 x2
          rw [List.take_of_length_le (by simp [dueLog])] at y1
          rw [List.take_length] at y2
          refine wpAny_execs_cons (wpAny_Return_some (Tuple_ (args_cons (C20.name D1.log (args_cons (C20.name D1.pairs (args_nil (C20.newTuple (by simp) fun RT h₂₂ C22 hRT => ?_))))))))
          exact ⟨_, _, C22, fun C23 => ret _ _ _ RT 0 LG i1 n1 PR i2 n2 C23 (fun c o hc => lk_fc hRT (D1.B.keep c o hc)) lk_cons_eq (lk_fc hRT x1) (y1.mono fun v e h => h.keep fun b its n hb => lk_fc hRT hb) (lk_fc hRT x2) (y2.mono fun v e h => h.keepT fun b its n hb => lk_fc hRT hb)⟩
end
end Mine
end TDu1

section TTb1
open PySem PySem.W PyProof.Rows PySem.Calls
namespace Mine
set_option maxRecDepth 100000
set_option maxHeartbeats 8000000
theorem pg_pm (w : World) : plainGet (Mine.hd.heap_1 w.params) 193 (Str.ofString "parent_map") = true := by kernel_rfl
theorem hd_193 (w : World) : hasDictIn (Mine.hd.heap_1 w.params) 193 = true := by kernel_rfl
theorem fi_pm (w : World) : findIn (Mine.hd.heap_1 w.params) (.ref 193) (Str.ofString "parent_map") = some (some .none) := by kernel_rfl
theorem sp_none (w : World) : specialIn (Mine.hd.heap_1 w.params) .none "__get__" = some none := by kernel_rfl
theorem pg_iter (w : World) : plainGet (Mine.hd.heap_1 w.params) 193 (Str.ofString "iter") = true := by kernel_rfl
theorem fi_iter (w : World) : findIn (Mine.hd.heap_1 w.params) (.ref 193) (Str.ofString "iter") = some none := by kernel_rfl
theorem cd_215 (w : World) : codeHdIn (Mine.hd.heap_1 w.params) 215 211 = true := by kernel_rfl
/-- the dict of a context -/
abbrev rootE (h : Int) (t : Tok) (v : Value) : DictEntry := ⟨h, .str (Str.ofString "root") t, v⟩
section
variable {w : World} {A : Around} {env : Env} {h₀ : Heap} {m : Str → Option Value} {G : LedT} {hp : Heap} {g : Array GenState} {d : Drawn} {tk : Nat} {os : OsState} {Q E : Value → Shared → Prop}
theorem ctx_ct (C : Cx w A env h₀ hp m G) {v : Value} (hd : A.depth + 3 < recursionLimit) (hu : A.units + 16 < cLine)
  (ret : ∀ h' tk' G' x dx hh t, Cx w A env h₀ h' m G' → (∀ b o, lk G b = some o → lk G' b = some o) → lk G x = none → lk G dx = none → x ≠ dx → lk G' x = some (instObj 193 dx) → lk G' dx = some (dictOf [rootE hh t v] 1) → Q (.ref x) ⟨h', g, d, tk', os⟩) :
  wpAny (model P w) A (call (.ref 193) [v]) Q E ⟨hp, g, d, tk, os⟩ := by
  have e9 : PySem.Challenge.rw_oh0057_01 = PySem.Challenge.rw_oh0057_01 := rfl
  have X := C.X
  revert X e9; k_fill; intro X e9; clear e9
  refine C.make (makes_193 w) (init_193 w) (isfn_190 w) fun x dx h' C0 l1 l2 => ?_
  have hxn : lk G x = none := lk_fresh fun p hp' => Nat.lt_trans (l1 p hp') l2
  have hdn : lk G dx = none := lk_fresh l1
  have hxd : x ≠ dx := Nat.ne_of_gt l2
  k_dflt (refine' C0.enterC (binds := [(Str.ofString "self", Value.ref x), (Str.ofString "root", v)]) ?k6 ?k7 ?k8 ?k9 ?kB ?c2 ?c3 ?c4 ?c5 ?_; (case k6 => k_is); (case k7 => k_is); (case k8 => exact (show A.depth + 1 < _ by (exact Mine.o221 hd))); (case k9 => exact BindsTo.of_eq rfl); (case c5 => decide); (case kB => exact locs rfl); (case c2 => exact rfl); (case c3 => exact rfl); (case c4 => exact rfl); k_whole; intro gb L' h₁ tk₁ C1 hlt)
  have ed : lk ((x, instObj 193 dx) :: (dx, dictOf [] 0) :: G) dx = some (dictOf [] 0) := lk_cons_ne hxd.symm lk_cons_eq
  refine wpAny_execs_cons (plainObj_wpAny_Assign_Attribute (C1.name rfl (C1.name rfl ?_)))
  refine C1.setD (set_193_root w) lk_cons_eq ed rfl (by simp) fun h₃ tk₃ t1 C3 => ?_
  refine wpAny_execs_nil ⟨_, _, C3, fun C7 => ⟨rfl, ?_⟩⟩
  exact ret _ _ _ x dx _ t1 C7.over (fun b o hb => lk_st_ne (lk_ne hb hdn) (lk_cons_ne (lk_ne hb hxn) (lk_cons_ne (lk_ne hb hdn) hb))) hxn hdn hxd (lk_st_ne hxd lk_cons_eq) lk_st_eq
theorem updF_of {G : LedT} {a : Addr} {x : Obj} (D : ND G) (e : lk G a = some x) : UpdF a x G (fun o => st G a o) := by
  induction G with
  | nil => cases e
  | cons p r ih =>
    have D' : p.1 ∉ r.map (·.1) ∧ ND r := by simpa [ND] using List.nodup_cons.mp D
    simp only [lk] at e
    by_cases h : p.1 = a
    · rw [if_pos h] at e; cases e
      obtain ⟨b, y⟩ := p
      dsimp only at h; subst h
      have : (fun o => Mine.st ((b, y) :: r) b o) = fun o => (b, o) :: r := funext fun o => by simp [Mine.st]
      rw [this]
      exact .head fun q hq e => D'.1 (e ▸ List.mem_map_of_mem (f := (·.1)) hq)
    · rw [if_neg h] at e
      have : (fun o => Mine.st (p :: r) a o) = fun o => p :: Mine.st r a o := funext fun o => by simp [Mine.st, h]
      rw [this]
      exact .tail h (ih D'.2 e)
/-- a lambda is made -/
theorem Cx.lam {cn : Str} {cs : Scope} {L a c PT : Addr} {cl : List (Str × Addr)} {params : Arguments} {body : Expr} {scope : Scope} {pos : Pos} {clos : List (Str × Addr)} {h₀ : Heap} {m : Str → Option Value}
    (C : Cx w A (envX cn cs L a (.ref c) cl) h₀ hp m G) (hK : codeHdIn (Mine.hd.heap_1 w.params) c PT = true) (hT : lk G PT = some (tabObj #[])) (hdef : defaultsOf params (envX cn cs L a (.ref c) cl) = ([], [])) (hcl : closureFor scope (envX cn cs L a (.ref c) cl) = pure clos)
    (h : ∀ f c' oc vs t ctv pm (ps : Array Value) h' tk', Cx w A (envX cn cs L a (.ref c) cl) h₀ h' m ((f, kla_obj "<lambda>" (cn ++ ".<locals>." ++ "<lambda>") params body scope clos pm c' ctv) :: (c', oc) :: Mine.st G PT (tabObj ps)) → oc.data = .fields vs → vs[1]? = some (.str (cn ++ ".<locals>." ++ "<lambda>") t) → lk G c' = none → lk G f = none → c' ≠ f → Q (.ref f) ⟨h', g, d, tk', os⟩) :
    wpAny (model P w) A (eval (.Lambda params body scope pos) (envX cn cs L a (.ref c) cl)) Q E ⟨hp, g, d, tk, os⟩ := by
  (refine Mine.e3a1 C.T ?_; rintro mean mg mb T)
  refine kla_eval hdef ?_
  refine kla_nest C.F C.N T (codeHd_of_K C.X hK) rfl (updF_of C.D hT) trivial rfl hcl fun f c' oc vs t ctv h' tk' F' N' h1 h2 h3 h4 => ?_
  have hc'0 : lk G c' = none := lk_fresh h3
  have hf0 : lk G f = none := lk_fresh fun p hp' => Nat.lt_trans (h3 p hp') h4
  have hk : ∀ p ∈ Mine.st G PT (tabObj (#[] ++ #[rawInt pos.line, rawInt pos.col, .ref c'])), p.1 < c' := fun p hp' => by
    have e := st_keys (o := tabObj (#[] ++ #[rawInt pos.line, rawInt pos.col, .ref c'])) hT
    have : p.1 ∈ G.map (·.1) := e ▸ List.mem_map_of_mem (f := (·.1)) hp'
    (refine Mine.e1a2 (List.mem_map.mp this) ?_; rintro q hq e2)
    rw [← e2]; exact h3 q hq
  have D' : ND ((f, kla_obj "<lambda>" (cn ++ ".<locals>." ++ "<lambda>") params body scope clos ((mg "__name__").getD .none) c' ctv) :: (c', oc) :: Mine.st G PT (tabObj (#[] ++ #[rawInt pos.line, rawInt pos.col, .ref c']))) := by
    refine ND.cons (ND.cons (C.D.st hT) hk) fun p hp' => ?_
    rcases List.mem_cons.mp hp' with rfl | hp'
    · exact h4
    · exact Nat.lt_trans (hk p hp') h4
  exact h f c' oc vs t ctv _ _ h' tk' (C.of F' N' D') h1 h2 hc'0 hf0 (Nat.ne_of_lt h4)
/-- a lambda that tells a captured name is called -/
theorem Cx.callLam {name qual : Str} {params : Arguments} {x : Str} {xp : Pos} {scope : Scope} {cl : List (Str × Addr)} {pm ctv v : Value} {f c' cA : Addr} {oc o : Obj} {vs : Array Value} {t : Tok}
    (C : Cx w A env h₀ hp m G) (ho : lk G f = some (kla_obj name qual params (.Name x xp) scope cl pm c' ctv)) (hc : lk G c' = some oc) (h1 : oc.data = .fields vs) (h2 : vs[1]? = some (.str qual t)) (hroom : A.depth < recursionLimit)
    (hbind : bindArgs (kla_fn name qual params (.Name x xp) scope cl pm (.ref c') ctv) ⟨[], []⟩ = pure []) (hcl : cl.lookup x = some cA) (hcA : lk G cA = some o) (hd : o.data = .cell (some v)) (hx : scope.names.lookup x = some .free) (hco : scope.isCoroutine = false) (hgen : scope.isGenerator = false) (hk : scope.kind = .function)
    (hcell : ∀ y ∈ scope.names, y.2 ≠ .cell) (hb : (x == ("__debug__" : Str)) = false) (hb2 : (x == ("__classdict__" : Str)) = false) (ret : ∀ h' tk', Cx w A env h₀ h' m G → Q v ⟨h', g, d, tk', os⟩) :
    wpAny (model P w) A (call (.ref f) []) Q E ⟨hp, g, d, tk, os⟩ := by
  have C0 := C
  obtain ⟨⟨A₀, base, outer, B, hA, hXB, hTB, hDi⟩, F, N, D, X, ⟨mean, mg, mb, T⟩, hf, hke⟩ := C
  refine wpAny_call (kla_code (binds := []) B F X N T hA hf hke (lk_mem ho) (codeRec_news N (lk_mem hc) h1 h2) hroom hbind (by simp) (fun gb L' h₁ FG F' N' B' X' T' => ?_) hco hgen hk hcell)
  refine wpAny_Name (wpAny_loadName_free hk hx hcl ⟨o, (N' _ (lk_mem hcA)).1, hd⟩ ?_ hb2) hb
  exact leaveK_ F' N' fun kF kN => ret _ _ ⟨⟨A₀, base, outer, B, hA, hXB, hTB, hDi⟩, kF, kN, D, X, ⟨mean, mg, mb, T⟩, hf, hke⟩
end
end Mine
end TTb1

section TTb2
open PySem PySem.W PyProof.Rows PySem.Calls
namespace Mine
set_option maxRecDepth 100000
set_option maxHeartbeats 8000000
/-- the table as it grows -/
noncomputable def tabRow (v : Value) (row : List Int) (acc : List (Int × Value)) : List (Int × Value) := row.foldl (fun acc k => stored acc k v) acc
noncomputable def tabV (l : List (Value × List Int)) : List (Int × Value) := l.foldl (fun acc p => tabRow p.1 p.2 acc) []
theorem tabRow_len : ∀ (row : List Int) (v : Value) (acc : List (Int × Value)), (tabRow v row acc).length ≤ acc.length + row.length
  | [], v, acc => by simp [tabRow]
  | k :: row, v, acc => by
    have h1 := tabRow_len row v (stored acc k v)
    have h2 := stored_length_le acc k v
    show (tabRow v row (stored acc k v)).length ≤ _
    simp; (exact Mine.o165 h1 h2)
theorem tabV_len : ∀ (l : List (Value × List Int)) (acc : List (Int × Value)), (∀ p ∈ l, p.2.length ≤ 200) → (l.foldl (fun acc p => tabRow p.1 p.2 acc) acc).length ≤ acc.length + 200 * l.length
  | [], acc, _ => by simp
  | p :: l, acc, h => by
    have h1 := tabV_len l (tabRow p.1 p.2 acc) fun q hq => h q (.tail _ hq)
    have h2 := tabRow_len p.2 p.1 acc
    have h3 := h p (.head _)
    simp only [List.foldl_cons, List.length_cons]
    (exact Mine.o166 h1 h2 h3)
section
variable {w : World} {A : Around} {env : Env} {h₀ : Heap} {m : Str → Option Value} {G : LedT} {hp : Heap} {g : Array GenState} {d : Drawn} {tk : Nat} {os : OsState} {Q E : Value → Shared → Prop}
theorem gpm_ct {x dx r dr f c' cA FL : Addr} {h1 h2 h3 : Int} {t1 t2 t3 : Tok} {qual : Str} {params : Arguments} {xp : Pos} {scope : Scope} {pm ctv : Value} {oc o : Obj} {vs : Array Value} {t : Tok} {fits : Array Value} {n1 : Nat} {rows : List (List Int)}
    (C : Cx w A env h₀ hp m G) (hh : A.handled = none) (hx : lk G x = some (instObj 193 dx)) (hdx : lk G dx = some (dictOf [rootE h1 t1 (.ref r)] 1)) (hr : lk G r = some (instObj 193 dr)) (hdr : lk G dr = some (dictOf [rootE h2 t2 .none, ⟨h3, .str (Str.ofString "iter") t3, .ref f⟩] 2))
    (hf : lk G f = some (kla_obj "<lambda>" qual params (.Name (Str.ofString "families") xp) scope [(Str.ofString "families", cA)] pm c' ctv)) (hc : lk G c' = some oc) (hc1 : oc.data = .fields vs) (hc2 : vs[1]? = some (.str qual t)) (hcA : lk G cA = some o) (hcd : o.data = .cell (some (.ref FL)))
    (hp0 : params = { posonlyargs := [], args := [], vararg := none, kwonlyargs := [], kw_defaults := [], kwarg := none, defaults := [] }) (hsx : scope.names.lookup (Str.ofString "families") = some .free) (hco : scope.isCoroutine = false) (hgen : scope.isGenerator = false) (hk : scope.kind = .function) (hcell : ∀ y ∈ scope.names, y.2 ≠ .cell)
    (hFL : lk G FL = some (listOf fits n1)) (hFr : All2 (IsRowI G) fits.toList rows) (hn : rows.length ≤ 100) (hrow : ∀ row ∈ rows, row.length ≤ 200) (hd : A.depth + 3 < recursionLimit) (hu : A.units + 16 < cLine)
    (ret : ∀ h' tk' G' D, Cx w A env h₀ h' m G' → (∀ b o, lk G b = some o → b ≠ dx → lk G' b = some o) → IsDict w G' D (tabV (fits.toList.zip rows)) → Q (.ref D) ⟨h', g, d, tk', os⟩) :
    wpAny (model P w) A (call (.ref 176) [.ref x]) Q E ⟨hp, g, d, tk, os⟩ := by
  have e9 : PySem.Challenge.rw_oh0057_01 = PySem.Challenge.rw_oh0057_01 := rfl
  have X := C.X
  revert X e9; k_fill; intro X e9; clear e9
  k_dflt (refine' C.enterF (binds := [(Str.ofString "context", Value.ref x)]) ?k6 ?k7 ?k8 ?k9 ?kB ?c2 ?c3 ?c4 ?c5 ?_; (case k6 => k_is); (case k7 => k_is); (case k8 => (exact Mine.o10 hd)); (case k9 => exact BindsTo.of_eq rfl); (case c5 => decide); (case kB => exact locs rfl); (case c2 => exact rfl); (case c3 => exact rfl); (case c4 => exact rfl); k_whole; intro gb L' h₁ tk₁ C1 hlt)
  -- parent_map = context.parent_map
  refine wpAny_execs_cons (wpAny_Assign_Name (Attribute_Name_ (C1.name rfl (get_cls C1.F C1.X (C1.instAt hx hdx) (pg_pm w) (hd_193 w) (fi_pm w) (sp_none w) rfl rfl rfl (C1.store fun h₂ tk₂ C2 => ?_)))))
  refine wpAny_execs_cons (wpAny_If (wpAny_isTrue_Compare1 (C2.name mset_eq (wpAny_Constant_none (is_none_none (wpAny_truthy_bool ?_))))))
  rw [if_pos rfl]
  -- context.parent_map = parent_map = {}
  refine wpAny_execs_cons (wpAny_Assign_two (C2.newDict fun D h₃ C3 hD3 hfr => assign_attr (C3.name (mset_ne (by decide) rfl) ?_)))
  have hDf : lk G D = none := lk_fresh hfr
  refine C3.setD (set_193_parent_map w) (lk_fc hDf hx) (lk_fc hDf hdx) rfl (by simp) fun h₄ tk₄ t4 C4 => ?_
  have hDdx : D ≠ dx := fun q => by rw [q, hdx] at hDf; cases hDf
  have k4 : ∀ b o, lk G b = some o → b ≠ dx → lk (Mine.st ((D, dictOf [] 0) :: G) dx (dictOf (putL (Str.ofString "parent_map") (PyData.keyHash w.params (Str.ofString "parent_map")) (.str (Str.ofString "parent_map") t4) (.ref D) [rootE h1 t1 (.ref r)]) (putN (Str.ofString "parent_map") [rootE h1 t1 (.ref r)] 1))) b = some o := fun b o hb hne => lk_st_ne hne (lk_fc hDf hb)
  have D4 : IsDict w (Mine.st ((D, dictOf [] 0) :: G) dx (dictOf (putL (Str.ofString "parent_map") (PyData.keyHash w.params (Str.ofString "parent_map")) (.str (Str.ofString "parent_map") t4) (.ref D) [rootE h1 t1 (.ref r)]) (putN (Str.ofString "parent_map") [rootE h1 t1 (.ref r)] 1))) D [] := hD3.keep fun o ho => lk_st_ne hDdx ho
  have x4 := k4 _ _ hx (ne_cls hx hdx (by simp))
  have dx4 : lk (Mine.st ((D, dictOf [] 0) :: G) dx (dictOf (putL (Str.ofString "parent_map") (PyData.keyHash w.params (Str.ofString "parent_map")) (.str (Str.ofString "parent_map") t4) (.ref D) [rootE h1 t1 (.ref r)]) (putN (Str.ofString "parent_map") [rootE h1 t1 (.ref r)] 1))) dx = some (dictOf (putL (Str.ofString "parent_map") (PyData.keyHash w.params (Str.ofString "parent_map")) (.str (Str.ofString "parent_map") t4) (.ref D) [rootE h1 t1 (.ref r)]) (putN (Str.ofString "parent_map") [rootE h1 t1 (.ref r)] 1)) := lk_st_eq
  generalize (Mine.st ((D, dictOf [] 0) :: G) dx (dictOf (putL (Str.ofString "parent_map") (PyData.keyHash w.params (Str.ofString "parent_map")) (.str (Str.ofString "parent_map") t4) (.ref D) [rootE h1 t1 (.ref r)]) (putN (Str.ofString "parent_map") [rootE h1 t1 (.ref r)] 1))) = G4 at *
  refine wpAny_assign_Name (C4.store fun h₅ tk₅ C5 => ?_)
  have hrdx : dr ≠ dx := fun q => by
    rw [q, hdx] at hdr; cases hdr
  have r4 := k4 _ _ hr (ne_cls hr hdx (by simp))
  have dr4 := k4 _ _ hdr hrdx
  -- for p in context.root.iter()
  refine wpAny_execs_cons (wpAny_For (MethodCall_ (Attribute_Name_ (C5.name (mset_ne (by decide) (mset_ne (by decide) rfl)) (C5.getD (own_193_root w) x4 dx4 rfl rfl fun tk₆ => ?_)))))
  refine kmu_own C5.F C5.X (C5.instAt r4 dr4) (pg_iter w) (fi_iter w) (C5.getD (own_193_iter w) r4 dr4 rfl rfl fun tk₇ => ?_)
  have f4 := k4 _ _ hf (ne_cls hf hdx (by simp))
  refine callWith_F0 (first := []) (FnAt.of C5.N (lk_mem f4)) ?_
  have hcne : cA ≠ dx := fun q => by rw [q, hdx] at hcA; cases hcA; cases hcd
  have hc'ne : c' ≠ dx := fun q => by rw [q, hdx] at hc; cases hc; cases hc1
  have FL4 := k4 _ _ hFL (ne_cls hFL hdx (by simp))
  have fam4 : All2 (IsRowI G4) fits.toList rows := hFr.mono fun v row hv => by
    (refine Mine.e3a3 hv ?_; clear hv; rintro l its n e1 e2 e3)
    exact ⟨l, its, n, e1, k4 _ _ e2 (ne_cls e2 hdx (by simp)), e3⟩
  have hDG4 : ∀ b o, lk G4 b = some o → lk G b = some o ∨ True := fun _ _ _ => .inr trivial
  refine C5.callLam f4 (k4 _ _ hc hc'ne) hc1 hc2 (show A.depth + 1 < _ by (exact Mine.o221 hd)) (by subst hp0; rfl) rfl (k4 _ _ hcA hcne) hcd hsx hco hgen hk hcell (by decide) (by decide) fun h₆ tk₈ C6 => ?_
  have hzl : (fits.toList.zip rows).length = rows.length := by
    have := hFr.length
    simp at this ⊢; omega
  -- the outer loop
  refine C6.for_list (fun i m₁ G₁ => m₁ (Str.ofString "parent_map") = some (.ref D) ∧ (∀ b o, lk G4 b = some o → b ≠ D → lk G₁ b = some o) ∧ IsDict w G₁ D (tabV ((fits.toList.zip rows).take i))) hh ⟨mset_eq, fun _ _ h _ => h, D4⟩ (fun _ _ _ hj => hj.2.1 _ _ FL4 (fun q => D4.ne FL4 (by simp) q.symm)) rfl ?_ ?_ ?_
  · rintro i m₁ G₁ G₂ hZ1 u
    (refine Mine.e0a3 hZ1 ?_; clear hZ1; rintro z1 z2 z3)
    refine ⟨z1, fun b o hb hne => u _ _ (z2 b o hb hne) (.inl (by rw [hb]; simp)), z3.keep fun o ho => u _ _ ho (.inr ?_)⟩
    (refine Mine.e1a3 z3.cls ?_; rintro o' ho' _ hfo)
    rw [ho] at ho'; cases ho'; exact hfo
  · rintro i v m₁ G₁ h₇ tk₉ I oI hv hZ2 C7 hI ⟨vsI, hIf⟩ hI0
    (refine Mine.e0a3 hZ2 ?_; clear hZ2; rintro z1 z2 z3)
    obtain ⟨row, hrw, rl, rits, rn, rfl, hrl, hra⟩ := fam4.getL hv
    have hr1 := hrow row (List.mem_of_getElem? hrw)
    have hrsz : rits.size = row.length := by simpa using hra.length
    have hil : i < rows.length := (List.getElem?_eq_some_iff.mp hrw).1
    have htk : (fits.toList.zip rows).take (i + 1) = (fits.toList.zip rows).take i ++ [(Value.ref rl, row)] := by
      rw [List.take_add_one]
      congr 1
      have hz : (fits.toList.zip rows)[i]? = some (Value.ref rl, row) := List.getElem?_zip_eq_some.mpr ⟨hv, hrw⟩
      rw [hz]; rfl
    have htv : tabV ((fits.toList.zip rows).take (i + 1)) = tabRow (.ref rl) row (tabV ((fits.toList.zip rows).take i)) := by
      rw [htk]; unfold tabV; rw [List.foldl_append]; rfl
    have hlen : (tabV ((fits.toList.zip rows).take i)).length ≤ 200 * i := by
      have h1 := tabV_len ((fits.toList.zip rows).take i) [] fun p hp => hrow p.2 (List.of_mem_zip (List.mem_of_mem_take hp)).2
      have h2 : ((fits.toList.zip rows).take i).length ≤ i := by simp; (exact Mine.o229)
      have h3 := Nat.mul_le_mul_left 200 h2
      simp only [List.length_nil, Nat.zero_add] at h1
      exact Nat.le_trans h1 h3
    rw [htv]
    generalize tabV ((fits.toList.zip rows).take i) = kv0 at *
    have hDI : I ≠ D := fun q => by
      (refine Mine.e1a3 z3.cls ?_; rintro o' ho' _ hfo)
      rw [q, ho'] at hI; cases hI; exact hfo _ hIf
    -- for e in p
    refine wpAny_execs_cons (wpAny_For (C7.name mset_eq ?_))
    refine C7.for_list (fun i' m₂ G₂ => m₂ (Str.ofString "parent_map") = some (.ref D) ∧ m₂ (Str.ofString "p") = some (.ref rl) ∧ (∀ b o, lk G4 b = some o → b ≠ D → lk G₂ b = some o) ∧ lk G₂ I = some oI ∧ IsDict w G₂ D (tabRow (.ref rl) (row.take i') kv0)) hh ⟨mset_ne (by decide) z1, mset_eq, z2, hI, z3⟩ (fun _ _ _ hj => hj.2.2.1 _ _ hrl (fun q => D4.ne hrl (by simp) q.symm)) rfl ?_ ?_ ?_
    · rintro i' m₂ G₂ G₃ hZ3 u
      (refine Mine.e0a5 hZ3 ?_; clear hZ3; rintro y1 y2 y3 y4 y5)
      refine ⟨y1, y2, fun b o hb hne => u _ _ (y3 b o hb hne) (.inl (by rw [z2 b o hb hne]; simp)), u _ _ y4 (.inl (by rw [hI]; simp)), y5.keep fun o ho => u _ _ ho (.inr ?_)⟩
      (refine Mine.e1a3 y5.cls ?_; rintro o' ho' _ hfo)
      rw [ho] at ho'; cases ho'; exact hfo
    · rintro i' v' m₂ G₂ h₈ tk₁₀ I2 oI2 hv' hZ4 C8 hI2 ⟨vsI2, hIf2⟩ hI20
      (refine Mine.e0a5 hZ4 ?_; clear hZ4; rintro y1 y2 y3 y4 y5)
      obtain ⟨k, hk', tk', rfl⟩ := hra.getL hv'
      have htk2 : row.take (i' + 1) = row.take i' ++ [k] := by rw [List.take_add_one, hk']; rfl
      have hpl := tabRow_len (row.take i') (.ref rl) kv0
      have htr : tabRow (.ref rl) (row.take (i' + 1)) kv0 = stored (tabRow (.ref rl) (row.take i') kv0) k (.ref rl) := by rw [htk2]; unfold tabRow; rw [List.foldl_append]; rfl
      rw [htr]
      refine wpAny_execs_cons (wpAny_Assign_Subscript (C8.name (mset_ne (by decide) y2) (C8.name (mset_ne (by decide) y1) (C8.name mset_eq ?_))))
      refine C8.dset y5 (by simp at hpl; omega) fun h₉ tk₁₁ o' C9 hd9 => ?_
      refine wpAny_execs_nil ⟨_, _, _, _, rfl, C9, lk_st_ne (fun q => ?_) hI2, mset_ne (by decide) y1, mset_ne (by decide) y2, fun b o hb hne => lk_st_ne hne (y3 b o hb hne), lk_st_ne hDI y4, hd9⟩
      (refine Mine.e1a3 y5.cls ?_; rintro o'' ho'' _ hfo)
      rw [q, ho''] at hI2; cases hI2; exact hfo _ hIf2
    · rintro m₂ G₂ h₈ tk₁₀ hZ5 C8
      (refine Mine.e0a5 hZ5 ?_; clear hZ5; rintro y1 y2 y3 y4 y5)
      rw [List.take_of_length_le (by simp; (exact Mine.o31 hrsz))] at y5
      exact wpAny_execs_nil ⟨_, _, _, _, rfl, C8, y4, y1, y3, y5⟩
  · rintro m₁ G₁ h₇ tk₉ hZ6 C7
    (refine Mine.e0a3 hZ6 ?_; clear hZ6; rintro z1 z2 z3)
    have hfl : fits.toList.length = rows.length := hFr.length
    rw [hfl, List.take_of_length_le (Mine.o239 hzl)] at z3
    refine wpAny_execs_nil (wpAny_execs_cons (wpAny_Return_some (C7.name z1 ⟨_, _, C7, fun C8 => ret _ _ _ D C8 (fun b o hb hne => z2 _ _ (k4 b o hb hne) (lk_ne hb hDf)) z3⟩)))
end
end Mine
end TTb2

section TTb3
open PySem PySem.W PyProof.Rows PySem.Calls
namespace Mine
set_option maxRecDepth 100000
set_option maxHeartbeats 8000000
section
variable {w : World} {A : Around} {env : Env} {h₀ : Heap} {m : Str → Option Value} {G : LedT} {hp : Heap} {g : Array GenState} {d : Drawn} {tk : Nat} {os : OsState} {Q E : Value → Shared → Prop}
theorem Cx.lamK {cn : Str} {cs : Scope} {L a c PT : Addr} {cl : List (Str × Addr)} {params : Arguments} {body : Expr} {scope : Scope} {pos : Pos} {clos : List (Str × Addr)} {h₀ : Heap} {m : Str → Option Value}
    (C : Cx w A (envX cn cs L a (.ref c) cl) h₀ hp m G) (hK : codeHdIn (Mine.hd.heap_1 w.params) c PT = true) (hT : lk G PT = some (tabObj #[])) (hdef : defaultsOf params (envX cn cs L a (.ref c) cl) = ([], [])) (hcl : closureFor scope (envX cn cs L a (.ref c) cl) = pure clos)
    (h : ∀ f c' oc vs t ctv pm h' tk' G', Cx w A (envX cn cs L a (.ref c) cl) h₀ h' m G' → (∀ b o, lk G b = some o → b ≠ PT → lk G' b = some o) → lk G' f = some (kla_obj "<lambda>" (cn ++ ".<locals>." ++ "<lambda>") params body scope clos pm c' ctv) → lk G' c' = some oc → oc.data = .fields vs → vs[1]? = some (.str (cn ++ ".<locals>." ++ "<lambda>") t) → (∃ ps, lk G' PT = some (tabObj ps)) → Q (.ref f) ⟨h', g, d, tk', os⟩) :
    wpAny (model P w) A (eval (.Lambda params body scope pos) (envX cn cs L a (.ref c) cl)) Q E ⟨hp, g, d, tk, os⟩ :=
  C.lam hK hT hdef hcl fun f c' oc vs t ctv pm ps h' tk' C4 hc1 hc2 nc nf hcf => h f c' oc vs t ctv pm h' tk' _ C4 (fun _ _ hb hne => lk_cons_ne (lk_ne hb nf) (lk_cons_ne (lk_ne hb nc) (lk_st_ne hne hb))) lk_cons_eq (lk_cons_ne hcf lk_cons_eq) hc1 hc2 ⟨ps, lk_cons_ne (lk_ne hT nf) (lk_cons_ne (lk_ne hT nc) lk_st_eq)⟩
theorem table_ct {FL : Addr} {fits : Array Value} {n1 : Nat} {rows : List (List Int)}
    (C : Cx w A env h₀ hp m G) (hh : A.handled = none) (hT : lk G 211 = some (tabObj #[])) (hFL : lk G FL = some (listOf fits n1)) (hFr : All2 (IsRowI G) fits.toList rows) (hn : rows.length ≤ 100) (hrow : ∀ row ∈ rows, row.length ≤ 200) (hd : A.depth + 20 < recursionLimit) (hu : A.units + 100 < cLine)
    (ret : ∀ h' tk' G' D, Cx w A env h₀ h' m G' → (∀ b o, lk G b = some o → b ≠ 211 → lk G' b = some o) → (∃ ps, lk G' 211 = some (tabObj ps)) → IsDict w G' D (tabV (fits.toList.zip rows)) → Q (.ref D) ⟨h', g, d, tk', os⟩) :
    wpAny (model P w) A (call (.ref 216) [.ref FL]) Q E ⟨hp, g, d, tk, os⟩ := by
  have e9 : PySem.Challenge.rw_oh0057_01 = PySem.Challenge.rw_oh0057_01 := rfl
  have X := C.X
  revert X e9; k_fill; intro X e9; clear e9
  k_dflt (refine' C.enterK (binds := [(Str.ofString "families", Value.ref FL)]) ?k6 ?k7 ?k8 ?k9 ?kB ?kN ?c2 ?c3 ?c4 ?_; (case k6 => k_is); (case k7 => k_is); (case k8 => (exact Mine.o11 hd)); (case k9 => exact BindsTo.of_eq rfl); (case c2 => exact rfl); (case c3 => exact rfl); (case c4 => exact rfl); (case kN => decide); (case kB => (intro n x hx; rw [List.mem_singleton.mp hx]; exact .inr ⟨rfl, rfl⟩)); k_whole; intro gb L' h₁ tk₁ cells C1 hcells hlt)
  (refine Mine.e1a2 hcells.one ?_; rintro oF rfl dF)
  have dF' : oF.data = .cell (some (.ref FL)) := dF
  clear dF hcells
  have hG1 : ∀ b o, lk G b = some o → b < L' := fun b o hb => hlt _ (lk_mem hb)
  have gF : lk ([(L' + 1, oF)] ++ G) (L' + 1) = some oF := lk_cons_eq
  have gG : ∀ b o, lk G b = some o → lk ([(L' + 1, oF)] ++ G) b = some o := fun b o hb => lk_cons_ne (Nat.ne_of_lt (Nat.lt_of_lt_of_le (hG1 b o hb) (Nat.le_add_right L' 1))) hb
  have hF211 : L' + 1 ≠ 211 := fun q => by
    have := hG1 _ _ hT
    rw [← q] at this
    exact absurd this (Nat.not_lt.mpr (Nat.le_add_right L' 1))
  generalize ([(L' + 1, oF)] ++ G) = G1 at *
  -- root = _SelectorContext(None)
  refine wpAny_execs_cons (wpAny_Assign_Name (C1.callG (g_SelectorContext w) (kp_193 w) (args_cons (wpAny_Constant_none (args_nil ⟨C1.XI, ctx_ct C1 (show A.depth + 1 + 3 < _ by (exact Mine.o12 hd)) (by simp; (exact Mine.o13 hu)) fun h₂ tk₂ G₂ r dr hh2 t2 C2 k2 nr ndr hrd r2 dr2 => C2.store fun h₃ tk₃ C3 => ?_⟩)))))
  -- root.iter = lambda: families
  refine wpAny_execs_cons (plainObj_wpAny_Assign_Attribute (C3.lamK (cd_215 w) (k2 _ _ (gG _ _ hT)) rfl rfl fun f c' oc vs t ctv pm h₄ tk₄ G4 C4 k4 hf4 hc4 hc1 hc2 ⟨tps, hT4⟩ => C4.name mset_eq ?_))
  have r4 := k4 _ _ r2 (fun q => by rw [q, gG _ _ hT] at nr; cases nr)
  have ndr' : dr ≠ 211 := fun q => by rw [q, gG _ _ hT] at ndr; cases ndr
  have dr4 := k4 _ _ dr2 ndr'
  refine C4.setD (set_193_iter w) r4 dr4 rfl (by simp) fun h₅ tk₅ t5 C5 => ?_
  have k5 : ∀ b o, lk G1 b = some o → b ≠ 211 → lk (Mine.st G4 dr (dictOf (putL (Str.ofString "iter") (PyData.keyHash w.params (Str.ofString "iter")) (.str (Str.ofString "iter") t5) (.ref f) [rootE hh2 t2 .none]) (putN (Str.ofString "iter") [rootE hh2 t2 .none] 1))) b = some o := fun b o hb hne => lk_st_ne (lk_ne hb ndr) (k4 _ _ (k2 b o hb) hne)
  have hT5 : lk (Mine.st G4 dr (dictOf (putL (Str.ofString "iter") (PyData.keyHash w.params (Str.ofString "iter")) (.str (Str.ofString "iter") t5) (.ref f) [rootE hh2 t2 .none]) (putN (Str.ofString "iter") [rootE hh2 t2 .none] 1))) 211 = some (tabObj tps) := lk_st_ne (fun q => ndr' q.symm) hT4
  have r5 : lk (Mine.st G4 dr (dictOf (putL (Str.ofString "iter") (PyData.keyHash w.params (Str.ofString "iter")) (.str (Str.ofString "iter") t5) (.ref f) [rootE hh2 t2 .none]) (putN (Str.ofString "iter") [rootE hh2 t2 .none] 1))) r = some (instObj 193 dr) := lk_st_ne hrd r4
  have dr5 : lk (Mine.st G4 dr (dictOf (putL (Str.ofString "iter") (PyData.keyHash w.params (Str.ofString "iter")) (.str (Str.ofString "iter") t5) (.ref f) [rootE hh2 t2 .none]) (putN (Str.ofString "iter") [rootE hh2 t2 .none] 1))) dr = some (dictOf [rootE hh2 t2 .none, ⟨PyData.keyHash w.params (Str.ofString "iter"), .str (Str.ofString "iter") t5, .ref f⟩] 2) := lk_st_eq
  have f5 := lk_st_ne (o := dictOf (putL (Str.ofString "iter") (PyData.keyHash w.params (Str.ofString "iter")) (.str (Str.ofString "iter") t5) (.ref f) [rootE hh2 t2 .none]) (putN (Str.ofString "iter") [rootE hh2 t2 .none] 1)) (ne_cls hf4 dr4 (by simp)) hf4
  have c5 := lk_st_ne (o := dictOf (putL (Str.ofString "iter") (PyData.keyHash w.params (Str.ofString "iter")) (.str (Str.ofString "iter") t5) (.ref f) [rootE hh2 t2 .none]) (putN (Str.ofString "iter") [rootE hh2 t2 .none] 1)) (b := c') (fun q => by rw [q, dr4] at hc4; cases hc4; cases hc1) hc4
  generalize (Mine.st G4 dr (dictOf (putL (Str.ofString "iter") (PyData.keyHash w.params (Str.ofString "iter")) (.str (Str.ofString "iter") t5) (.ref f) [rootE hh2 t2 .none]) (putN (Str.ofString "iter") [rootE hh2 t2 .none] 1))) = G5 at *
  -- return get_parent_map(_SelectorContext(root))
  refine wpAny_execs_cons (wpAny_Return_some (C5.callG (g_get_parent_map w) (kp_176 w) (args_cons (C5.callG (g_SelectorContext w) (kp_193 w) (args_cons (C5.name mset_eq (args_nil ⟨C5.XI, ctx_ct C5 (show A.depth + 1 + 3 < _ by (exact Mine.o12 hd)) (by simp; (exact Mine.o13 hu)) fun h₆ tk₆ G₆ x dx hh6 t6 C6 k6 nx ndx hxd x6 dx6 => args_nil ⟨C6.XI, ?_⟩⟩)))))))
  have hTf : FL ≠ 211 := fun q => by rw [q, hT] at hFL; cases hFL
  refine gpm_ct C6 hh x6 dx6 (k6 _ _ r5) (k6 _ _ dr5) (k6 _ _ f5) (k6 _ _ c5) hc1 hc2 (k6 _ _ (k5 _ _ gF hF211)) dF' rfl rfl rfl rfl rfl (by decide) (k6 _ _ (k5 _ _ (gG _ _ hFL) hTf)) (hFr.mono fun v row hv => ?_) hn hrow (show A.depth + 1 + 3 < _ by (exact Mine.o12 hd)) (by simp; (exact Mine.o13 hu)) fun h₇ tk₇ G₇ D C7 k7 hD7 => ?_
  · (refine Mine.e3a3 hv ?_; clear hv; rintro l its n e1 e2 e3)
    exact ⟨l, its, n, e1, k6 _ _ (k5 _ _ (gG _ _ e2) (fun q => by rw [q, hT] at e2; cases e2)), e3⟩
  · exact ⟨_, _, C7, fun C8 => ret _ _ _ D C8 (fun b o hb hne => k7 _ _ (k6 _ _ (k5 _ _ (gG b o hb) hne)) (lk_ne (k5 _ _ (gG b o hb) hne) ndx)) ⟨tps, k7 _ _ (k6 _ _ hT5) (lk_ne hT5 ndx)⟩ hD7⟩
end
end Mine
end TTb3

section THp1
open PySem PySem.W PyProof.Rows PySem.Calls
namespace Mine
/-- not greater -/
def ple (a b : Pr) : Prop := plt b a = false
theorem ple_tr {a b c : Pr} (h1 : ple a b) (h2 : ple b c) : ple a c := by
  unfold ple at *
  simp only [plt, Bool.or_eq_false_iff, Bool.and_eq_false_iff, decide_eq_false_iff_not] at *
  omega
theorem ple_of_plt {a b : Pr} (h : plt a b = true) : ple a b := plt_asym h
theorem ple_refl (a : Pr) : ple a a := plt_irr a
theorem ple_anti {a b : Pr} (h1 : ple a b) (h2 : ple b a) : a = b := by
  by_cases e : a = b
  · exact e
  · have := plt_tot e h2; unfold ple at h1; rw [h1] at this; cases this
abbrev at' (l : List Pr) (i : Nat) : Pr := l.getD i (0, 0)
theorem at_set {l : List Pr} {i j : Nat} {x : Pr} (hi : i < l.length) : at' (l.set i x) j = if j = i then x else at' l j := by
  simp only [at', List.getD_eq_getElem?_getD, List.getElem?_set]
  by_cases e : i = j
  · subst e; simp [hi]
  · have : ¬ j = i := fun q => e q.symm
    simp [e, this]
def IsHeap (l : List Pr) : Prop := ∀ i, 0 < i → i < l.length → ple (at' l ((i - 1) / 2)) (at' l i)
/-- a heap but for a hole -/
def HoleInv (l : List Pr) (pos : Nat) : Prop := (∀ i, 0 < i → i < l.length → i ≠ pos → (i - 1) / 2 ≠ pos → ple (at' l ((i - 1) / 2)) (at' l i)) ∧ (0 < pos → ∀ i, 0 < i → i < l.length → (i - 1) / 2 = pos → ple (at' l ((pos - 1) / 2)) (at' l i))
theorem sdown_heap {x : Pr} : ∀ (pos : Nat) (l : List Pr), pos < l.length → HoleInv l pos → (∀ i, 0 < i → i < l.length → (i - 1) / 2 = pos → ple x (at' l i)) → IsHeap (sdown l pos x) := by
  intro pos
  induction pos using Nat.strongRecOn with
  | _ pos ih =>
    intro l hp hI hx
    have stop : (0 < pos → ple (at' l ((pos - 1) / 2)) x) → IsHeap (l.set pos x) := fun hpar i h0 hi => by
      rw [List.length_set] at hi
      rw [at_set hp, at_set hp]
      by_cases e1 : i = pos
      · subst e1
        rw [if_pos rfl, if_neg (Mine.o236 h0)]
        exact hpar h0
      · rw [if_neg e1]
        by_cases e2 : (i - 1) / 2 = pos
        · rw [if_pos e2]; exact hx i h0 hi e2
        · rw [if_neg e2]; exact hI.1 i h0 hi e1 e2
    rw [sdown_eq]
    by_cases h0 : 0 < pos
    · rw [if_pos h0]
      by_cases hlt : plt x (l.getD ((pos - 1) / 2) (0, 0)) = true
      · rw [if_pos hlt]
        refine ih ((pos - 1) / 2) (Mine.o237 h0) (l.set pos (l.getD ((pos - 1) / 2) (0, 0))) (by rw [List.length_set]; (exact Mine.o238 hp h0)) ⟨fun i i0 hi e1 e2 => ?_, fun q0 i i0 hi e => ?_⟩ fun i i0 hi e => ?_
        · rw [List.length_set] at hi
          rw [at_set hp, at_set hp]
          have ep : i ≠ pos := fun q => e2 (by rw [q])
          rw [if_neg ep]
          by_cases e3 : (i - 1) / 2 = pos
          · rw [if_pos e3]; exact hI.2 h0 i i0 hi e3
          · rw [if_neg e3]; exact hI.1 i i0 hi ep e3
        · rw [List.length_set] at hi
          rw [at_set hp, at_set hp, if_neg (Mine.o240 h0 q0)]
          have hq := hI.1 ((pos - 1) / 2) q0 (Mine.o238 hp h0) (Mine.o236 h0) (Mine.o240 h0 q0)
          by_cases ep : i = pos
          · rw [if_pos ep]; exact hq
          · rw [if_neg ep]
            have := hI.1 i i0 hi ep (Mine.o243 e h0)
            rw [e] at this
            exact ple_tr hq this
        · rw [List.length_set] at hi
          rw [at_set hp]
          by_cases ep : i = pos
          · rw [if_pos ep]; exact ple_of_plt hlt
          · rw [if_neg ep]
            have := hI.1 i i0 hi ep (Mine.o243 e h0)
            rw [e] at this
            exact ple_tr (ple_of_plt hlt) this
      · rw [if_neg hlt]
        exact stop fun _ => Bool.eq_false_iff.mpr hlt
    · rw [if_neg h0]
      exact stop fun h => absurd h h0
theorem swap_perm {l : List Pr} {i j : Nat} {x : Pr} (hi : i < l.length) (hj : j < l.length) (hne : i ≠ j) : ((l.set i (at' l j)).set j x).Perm (l.set i x) := by
  have h := List.set_set_perm (as := l.set i x) (i := i) (j := j) (by simpa using hi) (by simpa using hj)
  have e1 : (l.set i x)[j]'(by simpa using hj) = at' l j := by
    rw [List.getElem_set]
    simp [hne, at', hj]
  have e2 : (l.set i x)[i]'(by simpa using hi) = x := by simp
  rw [e1, e2, List.set_set] at h
  exact h
theorem sdown_perm {x : Pr} : ∀ (pos : Nat) (l : List Pr), pos < l.length → (sdown l pos x).Perm (l.set pos x) := by
  intro pos
  induction pos using Nat.strongRecOn with
  | _ pos ih =>
    intro l hp
    rw [sdown_eq]
    by_cases h0 : 0 < pos
    · rw [if_pos h0]
      by_cases hlt : plt x (l.getD ((pos - 1) / 2) (0, 0)) = true
      · rw [if_pos hlt]
        refine (ih ((pos - 1) / 2) (Mine.o237 h0) _ (by rw [List.length_set]; (exact Mine.o238 hp h0))).trans ?_
        exact swap_perm hp (Mine.o238 hp h0) (Mine.o244 h0)
      · rw [if_neg hlt]
    · rw [if_neg h0]
theorem child_spec {l : List Pr} {pos c : Nat} (h : child l pos = some c) : (c - 1) / 2 = pos ∧ 0 < c ∧ c < l.length ∧ ∀ i, 0 < i → i < l.length → (i - 1) / 2 = pos → ple (at' l c) (at' l i) := by
  unfold child at h
  split at h
  · rename_i h1
    split at h
    · rename_i h2
      cases h
      refine ⟨by (exact Mine.o245), by (exact Mine.o246), by (exact Mine.o170 h2.1), fun i i0 hi e => ?_⟩
      have : i = 2 * pos + 1 ∨ i = 2 * pos + 2 := by omega
      rcases this with rfl | rfl
      · exact h2.2
      · exact ple_refl _
    · rename_i h2
      cases h
      refine ⟨by (exact Mine.o247), by (exact Mine.o248), by (exact Mine.o250 h1), fun i i0 hi e => ?_⟩
      have : i = 2 * pos + 1 ∨ i = 2 * pos + 2 := by omega
      rcases this with rfl | rfl
      · exact ple_refl _
      · refine ple_of_plt ?_
        have : ¬ plt (l.getD (2 * pos + 1) (0, 0)) (l.getD (2 * pos + 2) (0, 0)) = false := fun q => h2 ⟨hi, q⟩
        simpa using this
  · cases h
theorem child_none {l : List Pr} {pos : Nat} (h : child l pos = none) : ∀ i, 0 < i → i < l.length → (i - 1) / 2 ≠ pos := by
  unfold child at h
  split at h
  · split at h <;> cases h
  · intro i i0 hi e; omega
theorem sup_ok {x : Pr} : ∀ (k : Nat) (l : List Pr) (pos : Nat), l.length - pos = k → pos < l.length → HoleInv l pos → IsHeap (sup l pos x) ∧ (sup l pos x).Perm (l.set pos x) := by
  intro k
  induction k using Nat.strongRecOn with
  | _ k ih =>
    intro l pos hk hp hI
    cases hc : child l pos with
    | none =>
      rw [sup_none hc]
      have hn := child_none hc
      have hp' : pos < (l.set pos x).length := by simpa using hp
      refine ⟨sdown_heap pos _ hp' ⟨fun i i0 hi e1 e2 => ?_, fun _ i i0 hi e => ?_⟩ fun i i0 hi e => ?_, ?_⟩
      · rw [List.length_set] at hi
        rw [at_set hp, at_set hp, if_neg e1, if_neg e2]
        exact hI.1 i i0 hi e1 e2
      · rw [List.length_set] at hi; exact absurd e (hn i i0 hi)
      · rw [List.length_set] at hi; exact absurd e (hn i i0 hi)
      · refine (sdown_perm pos _ hp').trans ?_
        rw [List.set_set]
    | some c =>
      (refine Mine.e0a4 (child_spec hc) ?_; rintro c1 c2 c3 c4)
      have hpc := child_lt hc
      rw [sup_some hc]
      have hI' : HoleInv (l.set pos (l.getD c (0, 0))) c := by
        refine ⟨fun i i0 hi e1 e2 => ?_, fun _ i i0 hi e => ?_⟩
        · rw [List.length_set] at hi
          rw [at_set hp, at_set hp]
          by_cases ep : i = pos
          · subst ep
            rw [if_pos rfl, if_neg (Mine.o236 i0)]
            exact hI.2 i0 c c2 c3 c1
          · rw [if_neg ep]
            by_cases e3 : (i - 1) / 2 = pos
            · rw [if_pos e3]; exact c4 i i0 hi e3
            · rw [if_neg e3]; exact hI.1 i i0 hi ep e3
        · rw [List.length_set] at hi
          rw [at_set hp, at_set hp, if_pos c1, if_neg (Mine.o251 hpc.1 e i0)]
          have := hI.1 i i0 hi (Mine.o251 hpc.1 e i0) (Mine.o252 hpc.1 e)
          rw [e] at this
          exact this
      obtain ⟨r1, r2⟩ := ih (l.length - c) (Mine.o253 hk hpc.1 c3) (l.set pos (l.getD c (0, 0))) c (by simp) (by simpa using c3) hI'
      exact ⟨r1, r2.trans (swap_perm hp c3 (Mine.o254 hpc.1))⟩
theorem hpush_perm (l : List Pr) (x : Pr) : (hpush l x).Perm (x :: l) := by
  unfold hpush
  refine (sdown_perm l.length _ (by simp)).trans ?_
  have : (l ++ [x]).set l.length x = l ++ [x] := by
    rw [List.set_append_right _ _ (Nat.le_refl _)]
    simp
  rw [this]
  exact (List.perm_append_comm (l₁ := l) (l₂ := [x]))
theorem hpush_heap {l : List Pr} (h : IsHeap l) (x : Pr) : IsHeap (hpush l x) := by
  unfold hpush
  have hat : ∀ i, i < l.length → at' (l ++ [x]) i = at' l i := fun i hi => by
    simp [at', List.getElem?_append_left hi]
  refine sdown_heap l.length _ (by simp) ⟨fun i i0 hi e1 e2 => ?_, fun _ i i0 hi e => ?_⟩ fun i i0 hi e => ?_
  · simp at hi
    rw [hat _ (Mine.o255 hi i0), hat _ (by omega)]
    exact h i i0 (by omega)
  · simp at hi; omega
  · simp at hi; omega
theorem heap_min {l : List Pr} (h : IsHeap l) : ∀ i, i < l.length → ple (at' l 0) (at' l i) := by
  intro i
  induction i using Nat.strongRecOn with
  | _ i ih =>
    intro hi
    by_cases e : i = 0
    · subst e; exact ple_refl _
    · exact ple_tr (ih ((i - 1) / 2) (by omega) (Mine.o258 hi)) (h i (by omega) hi)
theorem hpop_spec {l : List Pr} (h : IsHeap l) (hne : l ≠ []) : ((hpop l).1 :: (hpop l).2).Perm l ∧ IsHeap (hpop l).2 ∧ ∀ y ∈ l, ple (hpop l).1 y := by
  have hl : l = l.dropLast ++ [l.getLastD (0, 0)] := by
    have := List.dropLast_concat_getLast hne
    have e : l.getLastD (0, 0) = l.getLast hne := by
      rw [List.getLastD_eq_getLast?, List.getLast?_eq_some_getLast hne]; rfl
    rw [e]; exact this.symm
  have hmin : ∀ y ∈ l, ple (at' l 0) y := fun y hy => by
    obtain ⟨i, hi, rfl⟩ := List.getElem_of_mem hy
    have := heap_min h i hi
    simpa [at', hi] using this
  unfold hpop
  cases hd : l.dropLast with
  | nil =>
    rw [hd] at hl
    dsimp only
    generalize l.getLastD (0, 0) = z at *
    subst hl
    exact ⟨List.Perm.refl _, fun i i0 hi => by simp at hi, fun y hy => by rw [List.mem_singleton.mp hy]; exact ple_refl _⟩
  | cons a r =>
    rw [hd] at hl
    dsimp only
    generalize l.getLastD (0, 0) = z at *
    have h0 : at' l 0 = a := by rw [hl]; rfl
    have hat : ∀ i, 0 < i → i < (a :: r).length → at' ((a :: r).set 0 z) i = at' l i := fun i i0 hi => by
      rw [at_set (by simp), if_neg (Mine.o259 i0), hl]
      simp only [at', List.getD_eq_getElem?_getD]
      rw [List.getElem?_append_left hi]
    obtain ⟨r1, r2⟩ := sup_ok (x := z) _ ((a :: r).set 0 z) 0 rfl (by simp) ⟨fun i i0 hi e1 e2 => by
      rw [List.length_set] at hi
      rw [hat _ (by omega) (Mine.o238 hi i0), hat i i0 hi]
      refine h i i0 ?_
      rw [hl, List.length_append]; (exact Mine.o260 hi), fun q => absurd q (Mine.o190)⟩
    refine ⟨?_, r1, by rw [← h0]; exact hmin⟩
    have r3 : (sup ((a :: r).set 0 z) 0 z).Perm (z :: r) := by simpa using r2
    refine (r3.cons a).trans ?_
    rw [hl]
    refine List.Perm.cons a ?_
    exact (List.perm_append_comm (l₁ := [z]) (l₂ := r))
end Mine
end THp1

section TPl1
open PySem PySem.W PyProof.Rows PySem.Calls
namespace Mine
/-- what the law's tables keep to -/
structure Well0 (needs : List (List Nat)) (hours : List Int) : Prop where
  len : hours.length = needs.length
  pos : ∀ k, k < needs.length → 1 ≤ hours.getD k 0
  nd : ∀ k, (rowAt needs k).Nodup
  lt : ∀ k, ∀ j ∈ rowAt needs k, j < needs.length
/-- what holds of the ends, at any time -/
structure EInv (needs : List (List Nat)) (hours : List Int) (l : EL) : Prop where
  nd : (l.map (·.1)).Nodup
  lt : ∀ p ∈ l, p.1 < needs.length
  ok : ∀ k e, eget l k = some e → (∀ j ∈ rowAt needs k, eget l j ≠ none) ∧ e = hours.getD k 0 + maxZ ((rowAt needs k).map fun j => (eget l j).getD 0)
theorem eget_mem {l : EL} {k : Nat} {e : Int} (h : eget l k = some e) : (k, e) ∈ l := by
  induction l with
  | nil => cases h
  | cons p r ih =>
    simp only [eget] at h
    by_cases q : p.1 = k
    · rw [if_pos q] at h; cases h; subst q; exact .head _
    · rw [if_neg q] at h; exact .tail _ (ih h)
theorem mem_eget {l : EL} (nd : (l.map (·.1)).Nodup) {p : Nat × Int} (h : p ∈ l) : eget l p.1 = some p.2 := by
  induction l with
  | nil => cases h
  | cons q r ih =>
    rw [List.map_cons, List.nodup_cons] at nd
    simp only [eget]
    rcases List.mem_cons.mp h with rfl | h
    · rw [if_pos rfl]
    · have hne : ¬ q.1 = p.1 := fun e => nd.1 (by rw [e]; exact List.mem_map_of_mem (f := (·.1)) h)
      rw [if_neg hne]
      exact ih nd.2 h
theorem eget_none {l : EL} {k : Nat} (h : eget l k = none) : k ∉ l.map (·.1) := by
  induction l with
  | nil => simp
  | cons p r ih =>
    simp only [eget] at h
    by_cases q : p.1 = k
    · rw [if_pos q] at h; cases h
    · rw [if_neg q] at h
      rw [List.map_cons, List.mem_cons]
      rintro (e | e)
      · exact q e.symm
      · exact ih h e
theorem eget_keep {l : EL} {p : Nat × Int} {k : Nat} (h : eget l k ≠ none) : eget (l ++ [p]) k = eget l k := by
  rw [eget_append]
  cases q : eget l k with
  | none => exact absurd q h
  | some e => rfl
theorem canEnd_iff {needs : List (List Nat)} {l : EL} {k : Nat} : canEnd needs l k = true ↔ eget l k = none ∧ ∀ j ∈ rowAt needs k, eget l j ≠ none := by
  unfold canEnd
  rw [Bool.and_eq_true, List.all_eq_true]
  constructor
  · rintro ⟨h1, h2⟩
    refine ⟨by simpa using h1, fun j hj q => ?_⟩
    have := h2 j hj
    rw [q] at this; cases this
  · rintro ⟨h1, h2⟩
    refine ⟨by rw [h1]; rfl, fun j hj => ?_⟩
    cases q : eget l j with
    | none => exact absurd q (h2 j hj)
    | some e => rfl
theorem EInv.step {needs : List (List Nat)} {hours : List Int} {l : EL} (h : EInv needs hours l) {k : Nat} (hk : k < needs.length) : EInv needs hours (endStep needs hours l k) := by
  unfold endStep
  by_cases c : canEnd needs l k = true
  · rw [if_pos c]
    obtain ⟨c1, c2⟩ := canEnd_iff.mp c
    have keep : ∀ i, (∀ j ∈ rowAt needs i, eget l j ≠ none) → ∀ v, ((rowAt needs i).map fun j => (eget (l ++ [(k, v)]) j).getD 0) = (rowAt needs i).map fun j => (eget l j).getD 0 := fun i hi v =>
      List.map_congr_left fun j hj => by rw [eget_keep (hi j hj)]
    refine ⟨?_, ?_, ?_⟩
    · rw [List.map_append, List.nodup_append]
      refine ⟨h.nd, by simp, fun a ha b hb q => ?_⟩
      rw [List.map_singleton, List.mem_singleton] at hb
      subst hb; subst q; exact eget_none c1 ha
    · intro p hp
      rcases List.mem_append.mp hp with hp | hp
      · exact h.lt p hp
      · rw [List.mem_singleton.mp hp]; exact hk
    · intro i e he
      rw [eget_append] at he
      cases q : eget l i with
      | some e' =>
        rw [q] at he
        have he' : e' = e := Option.some.inj he
        subst he'
        obtain ⟨g1, g2⟩ := h.ok i e' q
        refine ⟨fun j hj => by rw [eget_keep (g1 j hj)]; exact g1 j hj, ?_⟩
        rw [keep i g1]; exact g2
      | none =>
        rw [q] at he
        dsimp only at he
        by_cases e1 : k = i
        · rw [if_pos e1] at he
          subst e1
          refine ⟨fun j hj => by rw [eget_keep (c2 j hj)]; exact c2 j hj, ?_⟩
          rw [keep k c2]
          exact (Option.some.inj he).symm
        · rw [if_neg e1] at he; cases he
  · rw [if_neg c]; exact h
theorem EInv.part {needs : List (List Nat)} {hours : List Int} {l : EL} (h : EInv needs hours l) : ∀ i, i ≤ needs.length → EInv needs hours (endPart needs hours l i)
  | 0, _ => h
  | i + 1, hi => by rw [endPart_succ]; exact (EInv.part h i (Mine.o188 hi)).step (Mine.o132 hi)
theorem EInv.all {needs : List (List Nat)} {hours : List Int} : ∀ i, EInv needs hours (endsN needs hours i)
  | 0 => ⟨by simp [endsN], by simp [endsN], fun k e h => by cases h⟩
  | i + 1 => (EInv.all i).part _ (Nat.le_refl _)
/-- nothing more can end -/
def Still (needs : List (List Nat)) (l : EL) : Prop := ∀ k, k < needs.length → canEnd needs l k = false
theorem Still.part {needs : List (List Nat)} {hours : List Int} {l : EL} (h : Still needs l) : ∀ i, i ≤ needs.length → endPart needs hours l i = l
  | 0, _ => rfl
  | i + 1, hi => by
    rw [endPart_succ, Still.part h i (Mine.o188 hi)]
    unfold endStep
    rw [h i (Mine.o132 hi), if_neg (by simp)]
theorem endStep_ge {needs : List (List Nat)} {hours : List Int} {l : EL} {k : Nat} : l.length ≤ (endStep needs hours l k).length := by
  unfold endStep; split <;> simp
theorem endPart_ge {needs : List (List Nat)} {hours : List Int} {l : EL} {i : Nat} : ∀ d, (endPart needs hours l i).length ≤ (endPart needs hours l (i + d)).length
  | 0 => Nat.le_refl _
  | d + 1 => by
    rw [show i + (d + 1) = (i + d) + 1 from rfl, endPart_succ]
    exact Nat.le_trans (endPart_ge d) endStep_ge
theorem endPart_same {needs : List (List Nat)} {hours : List Int} {l : EL} : ∀ i, endPart needs hours l i = l ∨ l.length + 1 ≤ (endPart needs hours l i).length
  | 0 => .inl rfl
  | i + 1 => by
    rw [endPart_succ]
    rcases endPart_same (needs := needs) (hours := hours) (l := l) i with h | h
    · rw [h]
      unfold endStep
      by_cases c : canEnd needs l i = true
      · rw [if_pos c]; right; simp
      · rw [if_neg c]; exact .inl rfl
    · exact .inr (Nat.le_trans h endStep_ge)
theorem still_or {needs : List (List Nat)} {hours : List Int} : ∀ i, Still needs (endsN needs hours i) ∨ i ≤ (endsN needs hours i).length
  | 0 => .inr (Nat.zero_le _)
  | i + 1 => by
    rcases still_or (needs := needs) (hours := hours) i with h | h
    · left
      show Still needs (endPart needs hours (endsN needs hours i) needs.length)
      rw [h.part _ (Nat.le_refl _)]; exact h
    · rcases endPart_same (needs := needs) (hours := hours) (l := endsN needs hours i) needs.length with q | q
      · left
        show Still needs (endPart needs hours (endsN needs hours i) needs.length)
        rw [q]
        intro k hk
        cases c : canEnd needs (endsN needs hours i) k with
        | false => rfl
        | true =>
          have g1 := endPart_ge (needs := needs) (hours := hours) (l := endsN needs hours i) (i := 0) k
          have g2 := endPart_ge (needs := needs) (hours := hours) (l := endsN needs hours i) (i := k + 1) (needs.length - (k + 1))
          rw [show k + 1 + (needs.length - (k + 1)) = needs.length by (exact Mine.o266 hk), q, endPart_succ] at g2
          rcases endPart_same (needs := needs) (hours := hours) (l := endsN needs hours i) k with z | z
          · rw [z] at g2
            unfold endStep at g2
            rw [if_pos c] at g2
            simp at g2
            try omega
          · have := endStep_ge (needs := needs) (hours := hours) (l := endPart needs hours (endsN needs hours i) k) (k := k)
            omega
      · right
        show i + 1 ≤ (endPart needs hours (endsN needs hours i) needs.length).length
        (exact Mine.o267 h q)
/-- all of the first n stand in a list of n of them -/
theorem all_in {l : List Nat} {n : Nat} (nd : l.Nodup) (hlt : ∀ x ∈ l, x < n) (hlen : n ≤ l.length) : ∀ k, k < n → k ∈ l := by
  intro k hk
  by_cases h : k ∈ l
  · exact h
  · have h1 : (k :: l).Nodup := List.nodup_cons.mpr ⟨h, nd⟩
    have h2 : (k :: l).length ≤ (List.range n).length := List.Nodup.length_le_of_subset h1 fun x hx => by
      rcases List.mem_cons.mp hx with rfl | hx
      · exact List.mem_range.mpr hk
      · exact List.mem_range.mpr (hlt x hx)
    simp at h2; omega
theorem ends_still {needs : List (List Nat)} {hours : List Int} : Still needs (endsOf needs hours) := by
  rcases still_or (needs := needs) (hours := hours) needs.length with h | h
  · exact h
  · intro k hk
    have I := EInv.all (needs := needs) (hours := hours) needs.length
    have hm := all_in I.nd (fun x hx => by
      (refine Mine.e1a2 (List.mem_map.mp hx) ?_; rintro p hp rfl)
      exact I.lt p hp) (by simpa using h) k hk
    (refine Mine.e1a2 (List.mem_map.mp hm) ?_; rintro p hp rfl)
    have := mem_eget I.nd hp
    unfold canEnd
    show ((eget (endsN needs hours needs.length) p.1).isNone && _) = false
    rw [this]; rfl
theorem ends_closed {needs : List (List Nat)} {hours : List Int} {k : Nat} (hk : k < needs.length) (h : ∀ j ∈ rowAt needs k, eget (endsOf needs hours) j ≠ none) : eget (endsOf needs hours) k ≠ none := fun q => by
  have := ends_still (needs := needs) (hours := hours) k hk
  rw [canEnd_iff.mpr ⟨q, h⟩] at this; cases this
theorem maxZ_nonneg (xs : List Int) : 0 ≤ maxZ xs := (maxZ_le (a := 0) xs 0).1
theorem maxZ_ge {xs : List Int} {x : Int} (h : x ∈ xs) : x ≤ maxZ xs := (maxZ_le (a := 0) xs 0).2 x h
theorem EInv.pos {needs : List (List Nat)} {hours : List Int} {l : EL} (W : Well0 needs hours) (h : EInv needs hours l) {k : Nat} {e : Int} (he : eget l k = some e) : 1 ≤ e := by
  obtain ⟨_, g⟩ := h.ok k e he
  have h1 := W.pos k (h.lt _ (eget_mem he))
  have h2 := maxZ_nonneg ((rowAt needs k).map fun j => (eget l j).getD 0)
  omega
theorem EInv.need {needs : List (List Nat)} {hours : List Int} {l : EL} (W : Well0 needs hours) (h : EInv needs hours l) {k j : Nat} {e : Int} (he : eget l k = some e) (hj : j ∈ rowAt needs k) : ∃ e', eget l j = some e' ∧ e' < e := by
  obtain ⟨g1, g2⟩ := h.ok k e he
  obtain ⟨e', q⟩ := Option.ne_none_iff_exists'.mp (g1 j hj)
  refine ⟨e', q, ?_⟩
  have h1 := W.pos k (h.lt _ (eget_mem he))
  have h2 : e' ≤ maxZ ((rowAt needs k).map fun j => (eget l j).getD 0) := maxZ_ge (List.mem_map.mpr ⟨j, hj, by rw [q]; rfl⟩)
  omega
end Mine
end TPl1

section TPl2
open PySem PySem.W PyProof.Rows PySem.Calls
namespace Mine
/-- the ends, and their order -/
structure Sit (needs : List (List Nat)) (hours : List Int) (l : EL) (E : List Pr) : Prop where
  W : Well0 needs hours
  I : EInv needs hours l
  cl : ∀ k, k < needs.length → (∀ j ∈ rowAt needs k, eget l j ≠ none) → eget l k ≠ none
  pm : E.Perm (l.map fun p => (p.2, (p.1 : Int)))
  pw : E.Pairwise fun a b => plt a b = true
section
variable {needs : List (List Nat)} {hours : List Int} {l : EL} {E : List Pr}
theorem Sit.mem (S : Sit needs hours l E) {p : Pr} : p ∈ E ↔ ∃ (k : Nat) (e : Int), p = (e, (k : Int)) ∧ eget l k = some e := by
  rw [S.pm.mem_iff, List.mem_map]
  constructor
  · rintro hZ1
    (refine Mine.e1a2 hZ1 ?_; clear hZ1; rintro q hq rfl)
    exact ⟨q.1, q.2, rfl, mem_eget S.I.nd hq⟩
  · rintro hZ2
    (refine Mine.e2a2 hZ2 ?_; clear hZ2; rintro k e rfl h)
    exact ⟨(k, e), eget_mem h, rfl⟩
theorem Sit.before (S : Sit needs hours l E) {a b : Nat} {p q : Pr} (ha : E[a]? = some p) (hb : E[b]? = some q) (h : plt p q = true) : a < b := by
  obtain ⟨ha', rfl⟩ := List.getElem?_eq_some_iff.mp ha
  obtain ⟨hb', rfl⟩ := List.getElem?_eq_some_iff.mp hb
  rcases Nat.lt_trichotomy a b with q | q | q
  · exact q
  · subst q; rw [plt_irr] at h; cases h
  · have := List.pairwise_iff_getElem.mp S.pw b a hb' ha' q
    rw [plt_asym this] at h; cases h
theorem Sit.after (S : Sit needs hours l E) {a b : Nat} {p q : Pr} (ha : E[a]? = some p) (hb : E[b]? = some q) (h : a < b) : plt p q = true := by
  obtain ⟨ha', rfl⟩ := List.getElem?_eq_some_iff.mp ha
  obtain ⟨hb', rfl⟩ := List.getElem?_eq_some_iff.mp hb
  exact List.pairwise_iff_getElem.mp S.pw a b ha' hb' h
/-- the work that ends at a place -/
noncomputable def wkAt (E : List Pr) (i : Nat) : Nat := (E.getD i (0, 0)).2.toNat
/-- the works that have ended -/
noncomputable def dn (E : List Pr) (i : Nat) : List Nat := (E.take i).map fun p => p.2.toNat
theorem Sit.at (S : Sit needs hours l E) {i : Nat} (hi : i < E.length) : ∃ e, E[i]? = some (e, (wkAt E i : Int)) ∧ eget l (wkAt E i) = some e ∧ E.getD i (0, 0) = (e, (wkAt E i : Int)) := by
  (refine Mine.e2a2 (S.mem.mp (List.getElem_mem hi)) ?_; rintro k e h1 h2)
  have hg : E.getD i (0, 0) = E[i] := by simp [hi]
  have hw : wkAt E i = k := by unfold wkAt; rw [hg, h1]; simp
  rw [hw]
  exact ⟨e, by rw [List.getElem?_eq_some_iff]; exact ⟨hi, h1⟩, h2, by rw [hg, h1]⟩
theorem Sit.mem_dn (S : Sit needs hours l E) {i k : Nat} : k ∈ dn E i ↔ ∃ a e, a < i ∧ E[a]? = some (e, (k : Int)) := by
  unfold dn
  rw [List.mem_map]
  constructor
  · rintro hZ3
    (refine Mine.e1a2 hZ3 ?_; clear hZ3; rintro p hp rfl)
    obtain ⟨a, ha, e⟩ := List.getElem_of_mem hp
    rw [List.length_take] at ha
    rw [List.getElem_take] at e
    (refine Mine.e2a2 (S.mem.mp (List.mem_of_mem_take hp)) ?_; rintro k e' h1 _)
    refine ⟨a, e', by (exact Mine.o124 ha), ?_⟩
    rw [List.getElem?_eq_some_iff]
    exact ⟨by (exact Mine.o126 ha), by rw [e, h1]; simp⟩
  · rintro hZ4
    (refine Mine.e2a2 hZ4 ?_; clear hZ4; rintro a e ha h)
    obtain ⟨ha', h'⟩ := List.getElem?_eq_some_iff.mp h
    refine ⟨(e, (k : Int)), ?_, by simp⟩
    rw [← h']
    exact List.mem_iff_getElem.mpr ⟨a, by rw [List.length_take]; omega, by rw [List.getElem_take]⟩
theorem Sit.uniq (S : Sit needs hours l E) {a b k : Nat} {e e' : Int} (ha : E[a]? = some (e, (k : Int))) (hb : E[b]? = some (e', (k : Int))) : a = b := by
  (refine Mine.e2a2 (S.mem.mp (List.mem_of_getElem? ha)) ?_; rintro k1 e1 h1 h2)
  (refine Mine.e2a2 (S.mem.mp (List.mem_of_getElem? hb)) ?_; rintro k2 e2 h3 h4)
  have q1 : k = k1 := Int.ofNat.inj (congrArg Prod.snd h1)
  have q2 : k = k2 := Int.ofNat.inj (congrArg Prod.snd h3)
  have q3 : e = e1 := congrArg Prod.fst h1
  have q4 : e' = e2 := congrArg Prod.fst h3
  subst q1; subst q2; subst q3; subst q4
  rw [h2] at h4
  have : e = e' := Option.some.inj h4
  subst this
  rcases Nat.lt_trichotomy a b with q | q | q
  · have := S.after ha hb q; rw [plt_irr] at this; cases this
  · exact q
  · have := S.after hb ha q; rw [plt_irr] at this; cases this
theorem Sit.wk_new (S : Sit needs hours l E) {i : Nat} (hi : i < E.length) : wkAt E i ∉ dn E i := fun h => by
  (refine Mine.e2a2 (S.mem_dn.mp h) ?_; rintro a e ha h1)
  (refine Mine.e1a2 (S.at hi) ?_; rintro e' h2 _)
  have := S.uniq h1 h2
  (exact Mine.o127 ha this)
theorem Sit.wk_lt (S : Sit needs hours l E) {i : Nat} (hi : i < E.length) : wkAt E i < needs.length := by
  (refine Mine.e1a3 (S.at hi) ?_; rintro e' _ h2 _)
  exact S.I.lt _ (eget_mem h2)
theorem dn_succ {i : Nat} (hi : i < E.length) : dn E (i + 1) = dn E i ++ [wkAt E i] := by
  unfold dn wkAt
  rw [List.take_add_one, List.map_append]
  simp [hi]
theorem Sit.need (S : Sit needs hours l E) {i k j : Nat} {e : Int} (h : E[i]? = some (e, (k : Int))) (hj : j ∈ rowAt needs k) : j ∈ dn E i := by
  (refine Mine.e2a2 (S.mem.mp (List.mem_of_getElem? h)) ?_; rintro k1 e1 h1 h2)
  have q1 : k = k1 := Int.ofNat.inj (congrArg Prod.snd h1)
  have q3 : e = e1 := congrArg Prod.fst h1
  subst q1; subst q3
  (refine Mine.e1a2 (S.I.need S.W h2 hj) ?_; rintro e' g1 g2)
  have hm : ((e', (j : Int)) : Pr) ∈ E := S.mem.mpr ⟨j, e', rfl, g1⟩
  obtain ⟨a, ha, ea⟩ := List.getElem_of_mem hm
  have ha' : E[a]? = some (e', (j : Int)) := List.getElem?_eq_some_iff.mpr ⟨ha, ea⟩
  exact S.mem_dn.mpr ⟨a, e', S.before ha' h (by simp [plt, g2]), ha'⟩
/-- all needs have ended -/
noncomputable def rdyB (needs : List (List Nat)) (E : List Pr) (i k : Nat) : Bool := (rowAt needs k).all fun j => decide (j ∈ dn E i)
theorem rdyB_iff {i k : Nat} : rdyB needs E i k = true ↔ ∀ j ∈ rowAt needs k, j ∈ dn E i := by unfold rdyB; simp
noncomputable def SB (needs : List (List Nat)) (E : List Pr) (i k : Nat) : Bool := match i with
  | 0 => false
  | i + 1 => rdyB needs E i k
theorem dn_mono {i j : Nat} (h : i ≤ j) {k : Nat} (hk : k ∈ dn E i) : k ∈ dn E j := by
  unfold dn at *
  (refine Mine.e1a2 (List.mem_map.mp hk) ?_; rintro p hp rfl)
  refine List.mem_map.mpr ⟨p, ?_, rfl⟩
  have : E.take i = (E.take j).take i := by rw [List.take_take]; congr 1; omega
  rw [this] at hp
  exact List.mem_of_mem_take hp
theorem rdyB_mono {i j k : Nat} (h : i ≤ j) (hr : rdyB needs E i k = true) : rdyB needs E j k = true := rdyB_iff.mpr fun x hx => dn_mono h (rdyB_iff.mp hr x hx)
theorem SB_rdy {i k : Nat} (h : SB needs E i k = true) : rdyB needs E i k = true := by
  cases i with
  | zero => cases h
  | succ i => exact rdyB_mono (Nat.le_succ i) h
theorem Sit.wk_rdy (S : Sit needs hours l E) {i : Nat} (hi : i < E.length) : rdyB needs E i (wkAt E i) = true := by
  (refine Mine.e1a2 (S.at hi) ?_; rintro e h1 _)
  exact rdyB_iff.mpr fun j hj => S.need h1 hj
theorem Sit.dn_SB (S : Sit needs hours l E) {i k : Nat} (h : k ∈ dn E i) : SB needs E i k = true := by
  (refine Mine.e2a2 (S.mem_dn.mp h) ?_; rintro a e ha h1)
  cases i with
  | zero => omega
  | succ i => exact rdyB_iff.mpr fun j hj => dn_mono (Mine.o128 ha) (S.need h1 hj)
theorem Sit.dn_ends (S : Sit needs hours l E) {i k : Nat} (h : k ∈ dn E i) : eget l k ≠ none := by
  (refine Mine.e2a2 (S.mem_dn.mp h) ?_; rintro a e ha h1)
  (refine Mine.e2a2 (S.mem.mp (List.mem_of_getElem? h1)) ?_; rintro k1 e1 h2 h3)
  have q1 : k = k1 := Int.ofNat.inj (congrArg Prod.snd h2)
  rw [q1, h3]; simp
theorem Sit.rdy_ends (S : Sit needs hours l E) {i k : Nat} (hk : k < needs.length) (h : rdyB needs E i k = true) : ∃ e, eget l k = some e := Option.ne_none_iff_exists'.mp (S.cl k hk fun j hj => S.dn_ends (rdyB_iff.mp h j hj))
theorem maxPr_spec : ∀ (ps : List Pr) (p : Pr), maxPr p ps ∈ p :: ps ∧ ∀ q ∈ p :: ps, ple q (maxPr p ps)
  | [], p => ⟨.head _, fun q hq => by rw [List.mem_singleton.mp hq]; exact ple_refl _⟩
  | x :: ps, p => by
    show maxPr (if plt p x = true then x else p) ps ∈ _ ∧ ∀ q ∈ p :: x :: ps, ple q (maxPr (if plt p x = true then x else p) ps)
    obtain ⟨h1, h2⟩ := maxPr_spec ps (if plt p x = true then x else p)
    have h3 := h2 _ (.head _)
    by_cases c : plt p x = true
    · rw [if_pos c] at h1 h2 h3 ⊢
      refine ⟨.tail _ h1, fun q hq => ?_⟩
      rcases List.mem_cons.mp hq with rfl | hq
      · exact ple_tr (ple_of_plt c) h3
      · exact h2 q hq
    · rw [if_neg c] at h1 h2 h3 ⊢
      refine ⟨?_, fun q hq => ?_⟩
      · rcases List.mem_cons.mp h1 with h | h
        · rw [h]; exact .head _
        · exact .tail _ (.tail _ h)
      · rcases List.mem_cons.mp hq with rfl | hq
        · exact h3
        · rcases List.mem_cons.mp hq with rfl | hq
          · have c' : plt p q = false := by simpa using c
            exact ple_tr c' h3
          · exact h2 q (.tail _ hq)
theorem mem_ended {row : List Nat} {q : Pr} : q ∈ endedOf l row ↔ ∃ j ∈ row, ∃ e, eget l j = some e ∧ q = (e, (j : Int)) := by
  unfold endedOf
  rw [List.mem_filterMap]
  constructor
  · rintro hZ5
    (refine Mine.e1a2 hZ5 ?_; clear hZ5; rintro j hj h)
    (refine Mine.e1a2 (Option.map_eq_some_iff.mp h) ?_; rintro e he rfl)
    exact ⟨j, hj, e, he, rfl⟩
  · rintro hZ6
    obtain ⟨j, hj, e, he, rfl⟩ := hZ6
    exact ⟨j, hj, by rw [he]; rfl⟩
theorem last_some {row : List Nat} {w : Int} (h : lastOf l row = some w) : ∃ q ∈ endedOf l row, q.2 = w ∧ ∀ q' ∈ endedOf l row, ple q' q := by
  unfold lastOf at h
  cases he : endedOf l row with
  | nil => rw [he] at h; cases h
  | cons p ps =>
    rw [he] at h
    obtain ⟨h1, h2⟩ := maxPr_spec ps p
    exact ⟨_, h1, Option.some.inj h, h2⟩
theorem last_of {row : List Nat} {q : Pr} (h1 : q ∈ endedOf l row) (h2 : ∀ q' ∈ endedOf l row, ple q' q) : lastOf l row = some q.2 := by
  unfold lastOf
  cases he : endedOf l row with
  | nil => rw [he] at h1; cases h1
  | cons p ps =>
    rw [he] at h1 h2
    obtain ⟨g1, g2⟩ := maxPr_spec ps p
    have : maxPr p ps = q := ple_anti (h2 _ g1) (g2 _ h1)
    show some (maxPr p ps).2 = _
    rw [this]
/-- the one whose end sets a work free -/
theorem Sit.free_iff (S : Sit needs hours l E) {i k : Nat} (hi : i < E.length) (hk : k < needs.length) : (wkAt E i ∈ rowAt needs k ∧ (eget l k).isSome = true ∧ lastOf l (rowAt needs k) = some (wkAt E i : Int)) ↔ (rdyB needs E (i + 1) k = true ∧ rdyB needs E i k = false) := by
  (refine Mine.e1a3 (S.at hi) ?_; rintro e h1 h2 _)
  constructor
  · rintro hZ7
    (refine Mine.e0a3 hZ7 ?_; clear hZ7; rintro a1 a2 a3)
    (refine Mine.e1a3 (last_some a3) ?_; rintro q q1 q2 q3)
    obtain ⟨j, hj, e', he', rfl⟩ := mem_ended.mp q1
    have hjw : j = wkAt E i := by have : (j : Int) = (wkAt E i : Int) := q2; omega
    subst hjw
    rw [h2] at he'
    have : e = e' := Option.some.inj he'
    subst this
    constructor
    · refine rdyB_iff.mpr fun j hj => ?_
      obtain ⟨ek, hek⟩ := Option.isSome_iff_exists.mp a2
      (refine Mine.e1a2 (S.I.need S.W hek hj) ?_; rintro ej hej _)
      have hm : ((ej, (j : Int)) : Pr) ∈ E := S.mem.mpr ⟨j, ej, rfl, hej⟩
      obtain ⟨a, ha, ea⟩ := List.getElem_of_mem hm
      have ha' : E[a]? = some (ej, (j : Int)) := List.getElem?_eq_some_iff.mpr ⟨ha, ea⟩
      have hle := q3 _ (mem_ended.mpr ⟨j, hj, ej, hej, rfl⟩)
      refine S.mem_dn.mpr ⟨a, ej, ?_, ha'⟩
      rcases Nat.lt_or_ge i a with z | z
      · have := S.after h1 ha' z
        unfold ple at hle
        rw [hle] at this; cases this
      · (exact Mine.o129 z)
    · cases c : rdyB needs E i k with
      | false => rfl
      | true => exact absurd (rdyB_iff.mp c _ a1) (S.wk_new hi)
  · rintro ⟨b1, b2⟩
    have hin : wkAt E i ∈ rowAt needs k := by
      by_cases c : wkAt E i ∈ rowAt needs k
      · exact c
      · have : rdyB needs E i k = true := rdyB_iff.mpr fun j hj => by
          have := rdyB_iff.mp b1 j hj
          rw [dn_succ hi] at this
          rcases List.mem_append.mp this with z | z
          · exact z
          · rw [List.mem_singleton.mp z] at hj; exact absurd hj c
        rw [b2] at this; cases this
    obtain ⟨ek, hek⟩ := S.rdy_ends hk b1
    refine ⟨hin, by rw [hek]; rfl, ?_⟩
    refine last_of (q := (e, (wkAt E i : Int))) (mem_ended.mpr ⟨_, hin, e, h2, rfl⟩) fun q' hq' => ?_
    obtain ⟨j, hj, ej, hej, rfl⟩ := mem_ended.mp hq'
    have := rdyB_iff.mp b1 j hj
    (refine Mine.e2a2 (S.mem_dn.mp this) ?_; rintro a e' ha h3)
    (refine Mine.e2a2 (S.mem.mp (List.mem_of_getElem? h3)) ?_; rintro k1 e1 g1 g2)
    have z1 : j = k1 := Int.ofNat.inj (congrArg Prod.snd g1)
    have z2 : e' = e1 := congrArg Prod.fst g1
    subst z1; subst z2
    rw [hej] at g2
    have : ej = e' := Option.some.inj g2
    subst this
    rcases Nat.lt_or_ge a i with z | z
    · exact ple_of_plt (S.after h3 h1 z)
    · have : a = i := Mine.o130 ha z
      subst this
      rw [h1] at h3
      rw [← Option.some.inj h3]
      exact ple_refl _
theorem Sit.frees_eq (S : Sit needs hours l E) : ∀ i, i ≤ E.length → frees needs l E i = (List.range needs.length).filter fun k => rdyB needs E i k && !SB needs E i k
  | 0, _ => by
    show (List.range needs.length).filter _ = _
    refine List.filter_congr fun k _ => ?_
    unfold rdyB SB dn
    cases rowAt needs k <;> simp
  | i + 1, hi => by
    show (List.range needs.length).filter _ = _
    refine List.filter_congr fun k hk => ?_
    have h := S.free_iff (i := i) (k := k) (Mine.o132 hi) (List.mem_range.mp hk)
    have e : (E.getD i (0, 0)).2.toNat = wkAt E i := rfl
    rw [e, Bool.eq_iff_iff]
    simp only [Bool.and_eq_true, decide_eq_true_eq, Bool.not_eq_true']
    exact h
end
end Mine
end TPl2

section TPl3
open PySem PySem.W PyProof.Rows PySem.Calls
namespace Mine
noncomputable def su0 (needs : List (List Nat)) (j : Nat) : List Nat := (List.range needs.length).filter fun k => decide (j ∈ rowAt needs k)
noncomputable def cnt (needs : List (List Nat)) (E : List Pr) (i k : Nat) : Nat := ((rowAt needs k).filter fun j => decide (j ∉ dn E i)).length
noncomputable def hrAt (E : List Pr) : Nat → Int
  | 0 => 0
  | i + 1 => (E.getD i (0, 0)).1
theorem rels_np : ∀ (ss : List Nat) (σ : Srt), ss.Nodup → (∀ k, (ss.foldl Srt.rel σ).np k = if k ∈ ss then σ.np k - 1 else σ.np k) ∧ ∀ r, σ.ready = some r → (ss.foldl Srt.rel σ).ready = some (r ++ ss.filter fun k => decide (σ.np k - 1 = 0))
  | [], σ, _ => ⟨fun k => by simp, fun r hr => by simp [hr]⟩
  | s :: ss, σ, h => by
    obtain ⟨h1, h2⟩ := List.nodup_cons.mp h
    obtain ⟨g1, g2⟩ := rels_np ss (σ.rel s) h2
    have e : ∀ k, (σ.rel s).np k = if k = s then σ.np s - 1 else σ.np k := fun k => rfl
    refine ⟨fun k => ?_, fun r hr => ?_⟩
    · show (ss.foldl Srt.rel (σ.rel s)).np k = _
      rw [g1, e]
      by_cases q : k = s
      · subst q; rw [if_neg h1, if_pos rfl, if_pos (.head _)]
      · rw [if_neg q]
        by_cases q2 : k ∈ ss
        · rw [if_pos q2, if_pos (.tail _ q2)]
        · rw [if_neg q2, if_neg (fun z => by rcases List.mem_cons.mp z with z | z; exact q z; exact q2 z)]
    · show (ss.foldl Srt.rel (σ.rel s)).ready = _
      have hf : (ss.filter fun k => decide ((σ.rel s).np k - 1 = 0)) = ss.filter fun k => decide (σ.np k - 1 = 0) := List.filter_congr fun k hk => by
        have hne : ¬ k = s := fun q => h1 (by rw [← q]; exact hk)
        rw [e, if_neg hne]
      have hrd : (σ.rel s).ready = if σ.np s - 1 = 0 then σ.ready.map (· ++ [s]) else σ.ready := rfl
      by_cases q : σ.np s - 1 = 0
      · rw [if_pos q, hr] at hrd
        rw [g2 _ hrd, hf, List.filter_cons_of_pos (by simpa using q)]
        simp
      · rw [if_neg q, hr] at hrd
        rw [g2 _ hrd, hf, List.filter_cons_of_neg (by simpa using q)]
theorem outNp_at : ∀ (l : List Nat) (np : Nat → Int) (k : Nat), outNp np l k = if k ∈ l then -1 else np k
  | [], np, k => by simp [outNp]
  | s :: l, np, k => by
    show outNp (fset np s (-1)) l k = _
    rw [outNp_at l]
    by_cases q : k ∈ l
    · rw [if_pos q, if_pos (.tail _ q)]
    · rw [if_neg q]
      unfold fset
      by_cases q2 : k = s
      · rw [if_pos q2, if_pos (by rw [q2]; exact .head _)]
      · rw [if_neg q2, if_neg (fun z => by rcases List.mem_cons.mp z with z | z; exact q2 z; exact q z)]
theorem pushAll_ok {hours : List Int} {hr : Int} : ∀ (l : List Nat) (hp : List Pr), IsHeap hp → IsHeap (pushAll hours hr l hp) ∧ (pushAll hours hr l hp).Perm ((l.map fun k : Nat => (hr + hours.getD k 0, (k : Int))) ++ hp)
  | [], hp, h => ⟨h, List.Perm.refl _⟩
  | k :: l, hp, h => by
    obtain ⟨g1, g2⟩ := pushAll_ok (hours := hours) (hr := hr) l (hpush hp (hr + hours.getD k 0, (k : Int))) (hpush_heap h _)
    refine ⟨g1, ?_⟩
    show (pushAll hours hr l (hpush hp (hr + hours.getD k 0, (k : Int)))).Perm _
    refine g2.trans ?_
    refine ((hpush_perm hp _).append_left _).trans ?_
    exact List.perm_middle
section
variable {needs : List (List Nat)} {hours : List Int} {l : EL} {E : List Pr}
theorem Sit.endAt (S : Sit needs hours l E) {i k : Nat} (hi : i ≤ E.length) (hk : k ∈ frees needs l E i) : eget l k = some (hrAt E i + hours.getD k 0) := by
  rw [S.frees_eq i hi] at hk
  obtain ⟨hkn, hk⟩ := List.mem_filter.mp hk
  have hkn := List.mem_range.mp hkn
  simp only [Bool.and_eq_true, Bool.not_eq_true'] at hk
  obtain ⟨e, he⟩ := S.rdy_ends hkn hk.1
  obtain ⟨_, g⟩ := S.I.ok k e he
  rw [he]
  congr 1
  cases i with
  | zero =>
    have : rowAt needs k = [] := by
      cases q : rowAt needs k with
      | nil => rfl
      | cons j r =>
        have := rdyB_iff.mp hk.1 j (by rw [q]; exact .head _)
        simp [dn] at this
    rw [this] at g
    rw [g]
    show _ + maxZ [] = 0 + _
    simp [maxZ]
  | succ i =>
    have hil : i < E.length := Mine.o132 hi
    (refine Mine.e1a3 (S.at hil) ?_; rintro ew h1 h2 h3)
    (refine Mine.e0a3 ((S.free_iff hil hkn).mpr ⟨hk.1, hk.2⟩) ?_; rintro f1 f2 f3)
    have hM : maxZ ((rowAt needs k).map fun j => (eget l j).getD 0) = ew := by
      refine maxZ_eq ?_ ?_
      · exact .tail _ (List.mem_map.mpr ⟨wkAt E i, f1, by rw [h2]; rfl⟩)
      · intro a ha
        rcases List.mem_cons.mp ha with rfl | ha
        · have := S.I.pos S.W h2; omega
        · (refine Mine.e1a2 (List.mem_map.mp ha) ?_; rintro j hj rfl)
          (refine Mine.e2a2 (S.mem_dn.mp (rdyB_iff.mp hk.1 j hj)) ?_; rintro b e' hb h4)
          (refine Mine.e2a2 (S.mem.mp (List.mem_of_getElem? h4)) ?_; rintro k1 e1 g1 g2)
          have z1 : j = k1 := Int.ofNat.inj (congrArg Prod.snd g1)
          have z2 : e' = e1 := congrArg Prod.fst g1
          subst z1; subst z2
          rw [g2]
          show e' ≤ ew
          rcases Nat.lt_or_ge b i with z | z
          · have := S.after h4 h1 z
            simp only [plt, Bool.or_eq_true, Bool.and_eq_true, decide_eq_true_eq] at this
            omega
          · have : b = i := Mine.o130 hb z
            subst this
            rw [h1] at h4
            have := congrArg Prod.fst (Option.some.inj h4)
            have this : ew = e' := this
            omega
    rw [g, hM]
    show _ + ew = (E.getD i (0, 0)).1 + _
    rw [h3]
    show hours.getD k 0 + ew = ew + hours.getD k 0
    omega
/-- the sorter and the heap, ahead of a turn -/
structure Sim (needs : List (List Nat)) (l : EL) (E : List Pr) (i : Nat) (σ : Srt) (hp : List Pr) : Prop where
  n : σ.n = needs.length
  su : ∀ j, σ.su j = su0 needs j
  ready : σ.ready = some (frees needs l E i)
  nf : σ.nf = (i : Int)
  po : σ.po = (i : Int) + (hp.length : Int)
  heap : IsHeap hp
  nd : hp.Nodup
  mem : ∀ p, p ∈ hp ↔ p ∈ E.drop i ∧ SB needs E i p.2.toNat = true
  np : ∀ k, k < needs.length → σ.np k = if k ∈ dn E i then -2 else if SB needs E i k = true then -1 else (cnt needs E i k : Int)
theorem Sit.mem_drop (S : Sit needs hours l E) {i : Nat} {p : Pr} : p ∈ E.drop i ↔ ∃ (k : Nat) (e : Int), p = (e, (k : Int)) ∧ eget l k = some e ∧ k ∉ dn E i := by
  constructor
  · intro h
    obtain ⟨a, ha, e1⟩ := List.getElem_of_mem h
    rw [List.length_drop] at ha
    rw [List.getElem_drop] at e1
    (refine Mine.e2a2 (S.mem.mp (List.mem_of_mem_drop h)) ?_; rintro k e rfl h2)
    refine ⟨k, e, rfl, h2, fun q => ?_⟩
    (refine Mine.e2a2 (S.mem_dn.mp q) ?_; rintro b e' hb h3)
    have h4 : E[i + a]? = some (e, (k : Int)) := List.getElem?_eq_some_iff.mpr ⟨by omega, e1⟩
    have := S.uniq h3 h4
    (exact Mine.o271 hb this)
  · rintro hZ1
    (refine Mine.e2a3 hZ1 ?_; clear hZ1; rintro k e rfl h1 h2)
    have hm : ((e, (k : Int)) : Pr) ∈ E := S.mem.mpr ⟨k, e, rfl, h1⟩
    obtain ⟨a, ha, ea⟩ := List.getElem_of_mem hm
    have ha' : E[a]? = some (e, (k : Int)) := List.getElem?_eq_some_iff.mpr ⟨ha, ea⟩
    rcases Nat.lt_or_ge a i with z | z
    · exact absurd (S.mem_dn.mpr ⟨a, e, z, ha'⟩) h2
    · refine List.mem_iff_getElem.mpr ⟨a - i, by rw [List.length_drop]; (exact Mine.o272 ha z), ?_⟩
      rw [List.getElem_drop]
      have : i + (a - i) = a := Mine.o206 z
      simp only [this]; exact ea
theorem Sit.frees_end (S : Sit needs hours l E) : frees needs l E E.length = [] := by
  rw [S.frees_eq _ (Nat.le_refl _), List.filter_eq_nil_iff]
  intro k hk
  have hkn := List.mem_range.mp hk
  simp only [Bool.and_eq_true, Bool.not_eq_true', not_and, Bool.not_eq_false]
  intro h
  obtain ⟨e, he⟩ := S.rdy_ends hkn h
  have hm : ((e, (k : Int)) : Pr) ∈ E := S.mem.mpr ⟨k, e, rfl, he⟩
  obtain ⟨a, ha, ea⟩ := List.getElem_of_mem hm
  exact S.dn_SB (S.mem_dn.mpr ⟨a, e, ha, List.getElem?_eq_some_iff.mpr ⟨ha, ea⟩⟩)
theorem cnt_succ (S : Sit needs hours l E) {i k : Nat} (hi : i < E.length) : cnt needs E i k = cnt needs E (i + 1) k + if wkAt E i ∈ rowAt needs k then 1 else 0 := by
  unfold cnt
  have hn := S.wk_new hi
  rw [dn_succ hi]
  have : ∀ L : List Nat, L.Nodup → (L.filter fun j => decide (j ∉ dn E i)).length = (L.filter fun j => decide (j ∉ dn E i ++ [wkAt E i])).length + if wkAt E i ∈ L then 1 else 0 := by
    intro L
    induction L with
    | nil => intro _; simp
    | cons x L ih =>
      intro hd
      obtain ⟨d1, d2⟩ := List.nodup_cons.mp hd
      have := ih d2
      by_cases c1 : x ∈ dn E i
      · have c2 : x ∈ dn E i ++ [wkAt E i] := List.mem_append_left _ c1
        rw [List.filter_cons_of_neg (by simpa using c1), List.filter_cons_of_neg (by simp [c1]), this]
        have : ¬ wkAt E i = x := fun q => hn (q ▸ c1)
        simp [this]
      · rw [List.filter_cons_of_pos (by simpa using c1)]
        by_cases c3 : x = wkAt E i
        · subst c3
          rw [List.filter_cons_of_neg (by simp), List.length_cons, this, if_neg d1, if_pos (.head _)]
        · rw [List.filter_cons_of_pos (by simp [c1, c3]), List.length_cons, List.length_cons, this]
          have : ¬ wkAt E i = x := fun q => c3 q.symm
          simp [this]; (exact Mine.o275)
  exact this _ (S.W.nd k)
theorem cnt_zero {i k : Nat} : cnt needs E i k = 0 ↔ rdyB needs E i k = true := by
  unfold cnt
  rw [List.length_eq_zero_iff, List.filter_eq_nil_iff, rdyB_iff]
  simp
end
end Mine
end TPl3

section TPl4
open PySem PySem.W PyProof.Rows PySem.Calls
namespace Mine
section
variable {needs : List (List Nat)} {hours : List Int} {l : EL} {E : List Pr}
theorem Sit.E_len (S : Sit needs hours l E) : E.length ≤ needs.length := by
  have h1 : E.length = (l.map (·.1)).length := by rw [S.pm.length_eq]; simp
  rw [h1]
  have : (l.map (·.1)).length ≤ (List.range needs.length).length := List.Nodup.length_le_of_subset S.I.nd fun x hx => by
    (refine Mine.e1a2 (List.mem_map.mp hx) ?_; rintro p hp rfl)
    exact List.mem_range.mpr (S.I.lt p hp)
  simpa using this
theorem Sit.frees_nd (S : Sit needs hours l E) {i : Nat} (hi : i ≤ E.length) : (frees needs l E i).Nodup := by
  rw [S.frees_eq i hi]; exact List.Nodup.sublist List.filter_sublist List.nodup_range
/-- the heap behind the pushes -/
theorem Sit.pushed (S : Sit needs hours l E) {i : Nat} {σ : Srt} {hp : List Pr} (hi : i ≤ E.length) (M : Sim needs l E i σ hp) :
    (pushAll hours (hrAt E i) (frees needs l E i) hp).Nodup ∧ ∀ p, p ∈ pushAll hours (hrAt E i) (frees needs l E i) hp ↔ p ∈ E.drop i ∧ rdyB needs E i p.2.toNat = true := by
  obtain ⟨g1, g2⟩ := pushAll_ok (hours := hours) (hr := hrAt E i) (frees needs l E i) hp M.heap
  have hfm : ∀ k, k ∈ frees needs l E i ↔ k < needs.length ∧ rdyB needs E i k = true ∧ SB needs E i k = false := fun k => by
    rw [S.frees_eq i hi, List.mem_filter, List.mem_range]; simp
  constructor
  · rw [g2.nodup_iff, List.nodup_append]
    refine ⟨?_, M.nd, fun a ha b hb q => ?_⟩
    · refine List.pairwise_map.mpr ((S.frees_nd hi).imp fun {a b} hab q => hab ?_)
      exact Int.ofNat.inj (congrArg Prod.snd q)
    · subst q
      (refine Mine.e1a2 (List.mem_map.mp ha) ?_; rintro k hk rfl)
      have := ((M.mem _).mp hb).2
      rw [show ((hrAt E i + hours.getD k 0, (k : Int)) : Pr).2.toNat = k by simp, ((hfm k).mp hk).2.2] at this
      cases this
  · intro p
    rw [g2.mem_iff, List.mem_append, List.mem_map, M.mem]
    constructor
    · rintro (⟨k, hk, rfl⟩ | ⟨h1, h2⟩)
      · have hf := (hfm k).mp hk
        refine ⟨S.mem_drop.mpr ⟨k, _, rfl, S.endAt hi hk, fun q => ?_⟩, by simpa using hf.2.1⟩
        rw [S.dn_SB q] at hf; exact absurd hf.2.2 (by simp)
      · exact ⟨h1, SB_rdy h2⟩
    · rintro ⟨h1, h2⟩
      by_cases c : SB needs E i p.2.toNat = true
      · exact .inr ⟨h1, c⟩
      · left
        (refine Mine.e2a3 (S.mem_drop.mp h1) ?_; rintro k e rfl h3 h4)
        have hk : k ∈ frees needs l E i := (hfm k).mpr ⟨S.I.lt _ (eget_mem h3), by simpa using h2, by simpa using c⟩
        refine ⟨k, hk, ?_⟩
        have := S.endAt hi hk
        rw [h3] at this
        rw [← Option.some.inj this]
theorem Sit.runs (S : Sit needs hours l E) (hn : needs.length ≤ 1000) : ∀ (d i : Nat) (σ : Srt) (hp : List Pr), E.length - i = d → i ≤ E.length → Sim needs l E i σ hp → Runs hours σ hp (hrAt E i) ((dueLog needs l E).drop i) := by
  intro d
  induction d with
  | zero =>
    intro i σ hp hd hi M
    have : i = E.length := Mine.o81 hi hd
    subst this
    have hh : hp = [] := by
      cases hp with
      | nil => rfl
      | cons p r => have := ((M.mem p).mp (.head _)).1; simp at this
    have hl : (dueLog needs l E).drop E.length = [] := by simp [dueLog]
    rw [hl]
    have hr := M.ready
    rw [S.frees_end] at hr
    refine Runs.stop hr (by simp) ?_
    rw [M.nf, M.po, hh]; simp
  | succ d ih =>
    intro i σ hp hd hi M
    have hil : i < E.length := Mine.o82 hd hi
    (refine Mine.e1a3 (S.at hil) ?_; rintro e h1 h2 h3)
    obtain ⟨pn, pm⟩ := S.pushed hi M
    obtain ⟨g1, g2⟩ := pushAll_ok (hours := hours) (hr := hrAt E i) (frees needs l E i) hp M.heap
    have hEi : ((e, (wkAt E i : Int)) : Pr) ∈ E.drop i := S.mem_drop.mpr ⟨_, e, rfl, h2, S.wk_new hil⟩
    have hin : ((e, (wkAt E i : Int)) : Pr) ∈ pushAll hours (hrAt E i) (frees needs l E i) hp := (pm _).mpr ⟨hEi, by simpa using S.wk_rdy hil⟩
    have hne : pushAll hours (hrAt E i) (frees needs l E i) hp ≠ [] := fun q => by rw [q] at hin; cases hin
    (refine Mine.e0a3 (hpop_spec g1 hne) ?_; rintro q1 q2 q3)
    have hlen := pushAll_len hours (hrAt E i) (frees needs l E i) hp
    have hdrop : E.drop i = (e, (wkAt E i : Int)) :: E.drop (i + 1) := by
      rw [List.drop_eq_getElem_cons hil]
      congr 1
      exact (List.getElem?_eq_some_iff.mp h1).2
    have hmin : (hpop (pushAll hours (hrAt E i) (frees needs l E i) hp)).1 = (e, (wkAt E i : Int)) := by
      refine ple_anti (q3 _ hin) ?_
      have hm := ((pm _).mp (q1.mem_iff.mp (.head _))).1
      rw [hdrop] at hm
      rcases List.mem_cons.mp hm with z | z
      · rw [z]; exact ple_refl _
      · have pw2 : (E.drop i).Pairwise fun a b => plt a b = true := List.Pairwise.sublist (List.drop_sublist _ _) S.pw
        rw [hdrop] at pw2
        exact ple_of_plt ((List.pairwise_cons.mp pw2).1 _ z)
    have hentry : (dueLog needs l E).drop i = (frees needs l E i, (hpop (pushAll hours (hrAt E i) (frees needs l E i) hp)).1.1, wkAt E i) :: (dueLog needs l E).drop (i + 1) := by
      have hdl : i < (dueLog needs l E).length := by simpa [dueLog] using hil
      rw [List.drop_eq_getElem_cons hdl]
      congr 1
      rw [hmin]
      simp only [dueLog, List.getElem_map, List.getElem_range]
      rw [h3]
      rfl
    rw [hentry]
    have hfl : (frees needs l E i).length ≤ needs.length := frees_len i
    have hhl : hp.length ≤ needs.length := by
      have : hp.length ≤ E.length := List.Nodup.length_le_of_subset M.nd fun p hp' => List.mem_of_mem_drop ((M.mem p).mp hp').1
      exact Nat.le_trans this S.E_len
    have hsul : (σ.su (wkAt E i)).length ≤ needs.length := by
      rw [M.su]
      have := List.length_filter_le (fun k => decide (wkAt E i ∈ rowAt needs k)) (List.range needs.length)
      simpa [su0] using this
    have hact : (decide (σ.nf < σ.po) || decide (0 < (frees needs l E i).length)) = true := by
      rw [M.nf, M.po]
      have hpos : 0 < (pushAll hours (hrAt E i) (frees needs l E i) hp).length := List.length_pos_iff.mpr hne
      rw [hlen] at hpos
      simp only [Bool.or_eq_true, decide_eq_true_eq]
      omega
    have hnp : (σ.out (frees needs l E i)).np (wkAt E i) = -1 := by
      show outNp σ.np (frees needs l E i) (wkAt E i) = -1
      rw [outNp_at]
      by_cases c : wkAt E i ∈ frees needs l E i
      · rw [if_pos c]
      · rw [if_neg c, M.np _ (S.wk_lt hil), if_neg (S.wk_new hil)]
        rw [S.frees_eq i hi, List.mem_filter] at c
        have hsb : SB needs E i (wkAt E i) = true := by
          cases z : SB needs E i (wkAt E i) with
          | true => rfl
          | false => exact absurd ⟨List.mem_range.mpr (S.wk_lt hil), by rw [S.wk_rdy hil, z]; rfl⟩ c
        rw [if_pos hsb]
    refine Runs.step M.ready hact (fun k hk => ?_) (Mine.o84 hn hfl) (Mine.o84 hn hhl) hne (by rw [hmin]) (by rw [M.n]; exact S.wk_lt hil) hnp (fun s hs => ?_) (Mine.o84 hn hsul) ?_
    · rw [S.frees_eq i hi] at hk
      have := List.mem_range.mp (List.mem_filter.mp hk).1
      rw [M.n, S.W.len]; exact ⟨this, this⟩
    · rw [M.su] at hs
      rw [M.n]; exact List.mem_range.mp (List.mem_filter.mp hs).1
    · have hhr : (hpop (pushAll hours (hrAt E i) (frees needs l E i) hp)).1.1 = hrAt E (i + 1) := by
        rw [hmin]
        show e = (E.getD i (0, 0)).1
        rw [h3]
      rw [hhr]
      refine ih (i + 1) _ _ (Mine.o85 hd hil hi) hil ?_
      have hself : wkAt E i ∉ rowAt needs (wkAt E i) := fun q => S.wk_new hil (S.need h1 q)
      have hsu : (σ.out (frees needs l E i)).su (wkAt E i) = su0 needs (wkAt E i) := M.su _
      have hsnd : (su0 needs (wkAt E i)).Nodup := List.Nodup.sublist List.filter_sublist List.nodup_range
      (refine Mine.e0a5 (rels_same (su0 needs (wkAt E i)) ((σ.out (frees needs l E i)).mark (wkAt E i))) ?_; rintro s1 s2 s3 s4 _)
      obtain ⟨r1, r2⟩ := rels_np (su0 needs (wkAt E i)) ((σ.out (frees needs l E i)).mark (wkAt E i)) hsnd
      have hdone : (σ.out (frees needs l E i)).done (wkAt E i) = { (su0 needs (wkAt E i)).foldl Srt.rel ((σ.out (frees needs l E i)).mark (wkAt E i)) with nf := σ.nf + 1 } := by
        unfold Srt.done; rw [hsu]; rfl
      rw [hdone]
      -- the counts behind the mark
      have hnpm : ∀ k, k < needs.length → ((σ.out (frees needs l E i)).mark (wkAt E i)).np k = if k ∈ dn E (i + 1) then -2 else if rdyB needs E i k = true then -1 else (cnt needs E i k : Int) := fun k hk => by
        show fset (outNp σ.np (frees needs l E i)) (wkAt E i) (-2) k = _
        unfold fset
        rw [dn_succ hil]
        by_cases c0 : k = wkAt E i
        · rw [if_pos c0, if_pos (by rw [c0]; simp)]
        · rw [if_neg c0, outNp_at, M.np k hk]
          have hmem : (k ∈ dn E i ++ [wkAt E i]) ↔ k ∈ dn E i := by simp [c0]
          by_cases c1 : k ∈ dn E i
          · rw [if_pos (hmem.mpr c1)]
            have hsb := S.dn_SB c1
            have hnf : k ∉ frees needs l E i := fun q => by
              rw [S.frees_eq i hi] at q
              have := (List.mem_filter.mp q).2
              rw [hsb] at this; simp at this
            rw [if_neg hnf, if_pos c1]
          · rw [if_neg (fun q => c1 (hmem.mp q)), if_neg c1]
            by_cases c2 : rdyB needs E i k = true
            · rw [if_pos c2]
              by_cases c3 : k ∈ frees needs l E i
              · rw [if_pos c3]
              · rw [if_neg c3]
                have hsb : SB needs E i k = true := by
                  cases z : SB needs E i k with
                  | true => rfl
                  | false =>
                    refine absurd ?_ c3
                    rw [S.frees_eq i hi]
                    exact List.mem_filter.mpr ⟨List.mem_range.mpr hk, by rw [c2, z]; rfl⟩
                rw [if_pos hsb]
            · rw [if_neg c2]
              have hnf : k ∉ frees needs l E i := fun q => by
                rw [S.frees_eq i hi] at q
                have := (List.mem_filter.mp q).2
                rw [Bool.and_eq_true] at this
                exact c2 this.1
              rw [if_neg hnf, if_neg (fun z => c2 (SB_rdy z))]
      -- those that need the work
      have hneed : ∀ k, k < needs.length → wkAt E i ∈ rowAt needs k → k ∉ dn E (i + 1) ∧ rdyB needs E i k = false := fun k hk hw => by
        have c2 : rdyB needs E i k = false := by
          cases z : rdyB needs E i k with
          | false => rfl
          | true => exact absurd (rdyB_iff.mp z _ hw) (S.wk_new hil)
        refine ⟨fun q => ?_, c2⟩
        rw [dn_succ hil] at q
        rcases List.mem_append.mp q with q | q
        · rw [SB_rdy (S.dn_SB q)] at c2; cases c2
        · rw [List.mem_singleton.mp q] at hw; exact hself hw
      have hmsu : ∀ k, k ∈ su0 needs (wkAt E i) ↔ k < needs.length ∧ wkAt E i ∈ rowAt needs k := fun k => by
        unfold su0; rw [List.mem_filter, List.mem_range]; simp
      have hcnt := fun k => cnt_succ (k := k) S hil
      refine ⟨s1.trans M.n, fun j => ?_, ?_, ?_, ?_, q2, ?_, fun p => ?_, fun k hk => ?_⟩
      · show ((su0 needs (wkAt E i)).foldl Srt.rel _).su j = _
        rw [s2]; exact M.su j
      · show ((su0 needs (wkAt E i)).foldl Srt.rel _).ready = _
        rw [r2 [] rfl, S.frees_eq (i + 1) hil, List.nil_append]
        congr 1
        unfold su0
        rw [List.filter_filter]
        refine List.filter_congr fun k hk => ?_
        have hk := List.mem_range.mp hk
        rw [hnpm k hk, Bool.eq_iff_iff]
        simp only [Bool.and_eq_true, decide_eq_true_eq, Bool.not_eq_true']
        have hfi := S.free_iff hil hk
        constructor
        · rintro ⟨z1, z2⟩
          obtain ⟨w1, w2⟩ := hneed k hk z2
          rw [if_neg w1, w2, if_neg (by simp), hcnt, if_pos z2] at z1
          refine ⟨cnt_zero.mp ?_, w2⟩
          omega
        · rintro ⟨z1, z2⟩
          have z3 := (hfi.mpr ⟨z1, z2⟩).1
          obtain ⟨w1, w2⟩ := hneed k hk z3
          refine ⟨?_, z3⟩
          rw [if_neg w1, w2, if_neg (by simp), hcnt, if_pos z3, cnt_zero.mpr z1]
          rfl
      · show σ.nf + 1 = _
        rw [M.nf]; simp
      · show ((su0 needs (wkAt E i)).foldl Srt.rel _).po = _
        rw [s3]
        show σ.po + ((frees needs l E i).length : Int) = _
        have hl2 := q1.length_eq
        rw [List.length_cons, hlen] at hl2
        rw [M.po]
        omega
      · have := (q1.nodup_iff).mpr pn
        exact (List.nodup_cons.mp this).2
      · have hnd := List.nodup_cons.mp ((q1.nodup_iff).mpr pn)
        rw [hmin] at hnd
        have hpw2 : (E.drop i).Nodup := List.Nodup.sublist (List.drop_sublist _ _) (pw_nodup S.pw)
        rw [hdrop] at hpw2
        have hpw3 := List.nodup_cons.mp hpw2
        have hmm : p ∈ pushAll hours (hrAt E i) (frees needs l E i) hp ↔ p = (e, (wkAt E i : Int)) ∨ p ∈ (hpop (pushAll hours (hrAt E i) (frees needs l E i) hp)).2 := by
          rw [← q1.mem_iff, List.mem_cons, hmin]
        rw [pm, hdrop, List.mem_cons] at hmm
        constructor
        · intro hp'
          have hne2 : p ≠ (e, (wkAt E i : Int)) := fun q => hnd.1 (q ▸ hp')
          obtain ⟨z1, z2⟩ := hmm.mpr (.inr hp')
          rcases z1 with z1 | z1
          · exact absurd z1 hne2
          · exact ⟨z1, z2⟩
        · rintro ⟨z1, z2⟩
          rcases hmm.mp ⟨.inr z1, z2⟩ with z | z
          · exact absurd (z ▸ z1) hpw3.1
          · exact z
      · show ((su0 needs (wkAt E i)).foldl Srt.rel _).np k = _
        rw [r1, hnpm k hk]
        show _ = if k ∈ dn E (i + 1) then -2 else if rdyB needs E i k = true then -1 else (cnt needs E (i + 1) k : Int)
        by_cases c : wkAt E i ∈ rowAt needs k
        · obtain ⟨w1, w2⟩ := hneed k hk c
          rw [if_pos ((hmsu k).mpr ⟨hk, c⟩), if_neg w1, if_neg w1, w2, if_neg (by simp), if_neg (by simp), hcnt, if_pos c]
          omega
        · rw [if_neg (fun q => c ((hmsu k).mp q).2)]
          have : cnt needs E i k = cnt needs E (i + 1) k := by rw [hcnt, if_neg c]; rfl
          rw [this]
end
end Mine
end TPl4

section TPl5
open PySem PySem.W PyProof.Rows PySem.Calls
namespace Mine
theorem addSu_at {k : Nat} : ∀ (ps : List Nat) (su : Nat → List Nat) (j : Nat), ps.Nodup → addSu su k ps j = su j ++ if j ∈ ps then [k] else []
  | [], su, j, _ => by simp [addSu]
  | p :: ps, su, j, h => by
    obtain ⟨h1, h2⟩ := List.nodup_cons.mp h
    show addSu (fset su p (su p ++ [k])) k ps j = _
    rw [addSu_at ps _ j h2]
    unfold fset
    by_cases c : j = p
    · subst c; rw [if_pos rfl, if_neg h1, if_pos (.head _)]; simp
    · rw [if_neg c]
      by_cases c2 : j ∈ ps
      · rw [if_pos c2, if_pos (.tail _ c2)]
      · rw [if_neg c2, if_neg (fun z => by rcases List.mem_cons.mp z with z | z; exact c z; exact c2 z)]
section
variable {needs : List (List Nat)} {hours : List Int} {l : EL} {E : List Pr}
theorem rows_at (W : Well0 needs hours) : ∀ i, i ≤ needs.length → (∀ j, (addRows (needs.take i) 0 (moreN needs.length)).su j = (List.range i).filter fun k => decide (j ∈ rowAt needs k)) ∧ ∀ k, (addRows (needs.take i) 0 (moreN needs.length)).np k = if k < i then ((rowAt needs k).length : Int) else 0
  | 0, _ => ⟨fun j => by simpa [addRows] using moreN_su needs.length j, fun k => by simpa [addRows] using moreN_np needs.length k⟩
  | i + 1, hi => by
    obtain ⟨g1, g2⟩ := rows_at W i (Mine.o188 hi)
    have hrw : needs[i]? = some (rowAt needs i) := by
      unfold rowAt
      rw [List.getD_eq_getElem?_getD]
      cases q : needs[i]? with
      | none => rw [List.getElem?_eq_none_iff] at q; omega
      | some r => rfl
    have htk : needs.take (i + 1) = needs.take i ++ [rowAt needs i] := by rw [List.take_add_one, hrw]; rfl
    rw [htk, addRows_snoc]
    have hl : 0 + (needs.take i).length = i := by simp; omega
    rw [hl]
    constructor
    · intro j
      show addSu (addRows (needs.take i) 0 (moreN needs.length)).su i (rowAt needs i) j = _
      rw [addSu_at _ _ _ (W.nd i), g1, List.range_succ, List.filter_append]
      congr 1
      by_cases c : j ∈ rowAt needs i
      · rw [if_pos c, List.filter_cons_of_pos (by simpa using c)]; rfl
      · rw [if_neg c, List.filter_cons_of_neg (by simpa using c)]; rfl
    · intro k
      show fset (addRows (needs.take i) 0 (moreN needs.length)).np i ((addRows (needs.take i) 0 (moreN needs.length)).np i + ((rowAt needs i).length : Int)) k = _
      unfold fset
      by_cases c : k = i
      · subst c
        rw [if_pos rfl, g2, if_neg (Mine.o278), if_pos (Mine.o279)]; omega
      · rw [if_neg c, g2]
        by_cases c2 : k < i
        · rw [if_pos c2, if_pos (Mine.o280 c2)]
        · rw [if_neg c2, if_neg (by omega)]
theorem Sit.start (S : Sit needs hours l E) : Sim needs l E 0 (addRows needs 0 (moreN needs.length)).prep [] := by
  obtain ⟨g1, g2⟩ := rows_at S.W needs.length (Nat.le_refl _)
  rw [List.take_length] at g1 g2
  (refine Mine.e0a4 (addRows_same needs 0 (moreN needs.length)) ?_; rintro e1 e2 e3 e4)
  refine ⟨e1.trans (moreN_n _), g1, ?_, ?_, ?_, fun i h0 hi => by simp at hi, List.nodup_nil, fun p => ?_, fun k hk => ?_⟩
  · show some (rdy0 _) = some (free0 needs)
    congr 1
    unfold rdy0 free0
    rw [e1, moreN_n]
    refine List.filter_congr fun k hk => ?_
    rw [g2, if_pos (List.mem_range.mp hk)]
    refine decide_eq_decide.mpr ?_
    rw [← List.length_eq_zero_iff]; omega
  · exact e4.trans (moreN_po _).2
  · exact e3.trans (moreN_po _).1
  · simp [SB]
  · show (addRows needs 0 (moreN needs.length)).np k = _
    rw [g2, if_pos hk]
    have : cnt needs E 0 k = (rowAt needs k).length := by
      unfold cnt dn
      congr 1
      rw [List.filter_eq_self]; simp
    rw [this]
    simp [dn, SB]
theorem Sit.log (S : Sit needs hours l E) (hn : needs.length ≤ 1000) : Runs hours (addRows needs 0 (moreN needs.length)).prep [] 0 (dueLog needs l E) := S.runs hn E.length 0 _ _ rfl (Nat.zero_le _) S.start
theorem Sit.short (S : Sit needs hours l E) {x : Nat} (hx : x < needs.length) (h : eget l x = none) : E.length < needs.length := by
  have h1 : E.length = (l.map (·.1)).length := by rw [S.pm.length_eq]; simp
  have h2 : (x :: l.map (·.1)).length ≤ (List.range needs.length).length := List.Nodup.length_le_of_subset (List.nodup_cons.mpr ⟨eget_none h, S.I.nd⟩) fun y hy => by
    rcases List.mem_cons.mp hy with rfl | hy
    · exact List.mem_range.mpr hx
    · (refine Mine.e1a2 (List.mem_map.mp hy) ?_; rintro p hp rfl)
      exact List.mem_range.mpr (S.I.lt p hp)
  rw [List.length_cons, List.length_range] at h2
  (exact Mine.o281 h1 h2)
theorem Sit.full (S : Sit needs hours l E) (h : ∀ k, k < needs.length → eget l k ≠ none) : needs.length ≤ E.length := by
  have h1 : E.length = (l.map (·.1)).length := by rw [S.pm.length_eq]; simp
  rw [h1]
  have h2 : (List.range needs.length).length ≤ (l.map (·.1)).length := List.Nodup.length_le_of_subset List.nodup_range fun k hk => by
    obtain ⟨e, he⟩ := Option.ne_none_iff_exists'.mp (h k (List.mem_range.mp hk))
    exact List.mem_map.mpr ⟨_, eget_mem he, rfl⟩
  simpa using h2
theorem su_mem (W : Well0 needs hours) {j k : Nat} : k ∈ (addRows needs 0 (moreN needs.length)).su j ↔ k < needs.length ∧ j ∈ rowAt needs k := by
  obtain ⟨g1, _⟩ := rows_at W needs.length (Nat.le_refl _)
  rw [List.take_length] at g1
  rw [g1, List.mem_filter, List.mem_range]; simp
theorem Sit.ring (S : Sit needs hours l E) (h : Cyc needs.length (addRows needs 0 (moreN needs.length)).su) : E.length < needs.length := by
  (refine Mine.e1a2 h ?_; clear h; rintro c hc hx)
  -- one of the ring with the least end would need one with a lesser
  have key : ∀ (b : Nat) (x : Nat), x ∈ c → ∀ e, eget l x = some e → e.toNat ≤ b → ∃ y ∈ c, eget l y = none := by
    intro b
    induction b with
    | zero =>
      intro x hxc e he hb
      have := S.I.pos S.W he
      omega
    | succ b ih =>
      intro x hxc e he hb
      obtain ⟨_, y, hy, hxy⟩ := hx x hxc
      obtain ⟨_, hn⟩ := (su_mem S.W).mp hxy
      (refine Mine.e1a2 (S.I.need S.W he hn) ?_; rintro e' h1 h2)
      have := S.I.pos S.W h1
      exact ih y hy e' h1 (by omega)
  obtain ⟨x, hxc⟩ := List.exists_mem_of_ne_nil c hc
  cases q : eget l x with
  | none => exact S.short (hx x hxc).1 q
  | some e =>
    (refine Mine.e1a2 (key _ x hxc e q (Nat.le_refl _)) ?_; rintro y hy hn)
    exact S.short (hx y hy).1 hn
theorem Sit.noring (S : Sit needs hours l E) (h : Acyc needs.length (addRows needs 0 (moreN needs.length)).su) : needs.length ≤ E.length := by
  (refine Mine.e1a3 h ?_; clear h; rintro fin h1 h2 h3)
  refine S.full fun k hk => ?_
  have key : ∀ (d i v : Nat), fin.length - i = d → fin[i]? = some v → eget l v ≠ none := by
    intro d
    induction d using Nat.strongRecOn with
    | _ d ih =>
      intro i v hd hv
      have hvn : v < needs.length := (h2 v).mp (List.mem_of_getElem? hv)
      have hil : i < fin.length := (List.getElem?_eq_some_iff.mp hv).1
      refine S.cl v hvn fun j hj => ?_
      have hjn := S.W.lt v j hj
      obtain ⟨b, hb, eb⟩ := List.getElem_of_mem ((h2 j).mpr hjn)
      have hb' : fin[b]? = some j := List.getElem?_eq_some_iff.mpr ⟨hb, eb⟩
      have := h3 b j hb' v ((su_mem S.W).mpr ⟨hvn, hj⟩)
      obtain ⟨a, ha, ea⟩ := List.getElem_of_mem this
      rw [List.length_take] at ha
      rw [List.getElem_take] at ea
      have : a = i := by
        have pw := List.pairwise_iff_getElem.mp h1
        have e1 : fin[i] = v := (List.getElem?_eq_some_iff.mp hv).2
        rcases Nat.lt_trichotomy a i with z | z | z
        · exact absurd (ea.trans e1.symm) (pw a i (Mine.o216 hil z) hil z)
        · exact z
        · exact absurd (e1.trans ea.symm) (pw i a hil (Mine.o126 ha) z)
      exact ih (fin.length - b) (Mine.o282 hd ha this hb) b j rfl hb'
  obtain ⟨a, ha, ea⟩ := List.getElem_of_mem ((h2 k).mpr hk)
  exact key _ a k rfl (List.getElem?_eq_some_iff.mpr ⟨ha, ea⟩)
end
end Mine
end TPl5

section TPl6
open PySem PySem.W PyProof.Rows PySem.Calls
namespace Mine
noncomputable def addK (K : List Int) (k : Int) : List Int := if k ∈ K then K else K ++ [k]
theorem stored_map {fv : Nat → Value} {K : List Int} {V : Int → Nat} {k0 : Int} {w : Nat} : stored (K.map fun k => (k, fv (V k))) k0 (fv w) = (addK K k0).map fun k => (k, fv (if k = k0 then w else V k)) := by
  unfold stored addK
  by_cases c : k0 ∈ K
  · have : ((K.map fun k => (k, fv (V k))).any fun kv => decide (kv.1 = k0)) = true := by
      rw [List.any_map, List.any_eq_true]
      exact ⟨k0, c, by simp⟩
    rw [if_pos this, if_pos c, List.map_map]
    refine List.map_congr_left fun k _ => ?_
    by_cases e : k = k0 <;> simp [e]
  · have : ¬ ((K.map fun k => (k, fv (V k))).any fun kv => decide (kv.1 = k0)) = true := by
      rw [List.any_map, List.any_eq_true]
      rintro hZ1
      (refine Mine.e1a2 hZ1 ?_; clear hZ1; rintro k hk e)
      simp at e
      exact c (e ▸ hk)
    rw [if_neg this, if_neg c, List.map_append]
    congr 1
    · refine List.map_congr_left fun k hk => ?_
      have : ¬ k = k0 := fun e => c (e ▸ hk)
      simp [this]
    · simp
theorem tabRow_map {fv : Nat → Value} {w : Nat} : ∀ (row : List Int) (K : List Int) (V : Int → Nat), tabRow (fv w) row (K.map fun k => (k, fv (V k))) = (row.foldl addK K).map fun k => (k, fv (if k ∈ row then w else V k))
  | [], K, V => by simp [tabRow]
  | k0 :: row, K, V => by
    show tabRow (fv w) row (stored (K.map fun k => (k, fv (V k))) k0 (fv w)) = _
    rw [stored_map, tabRow_map row]
    refine List.map_congr_left fun k _ => ?_
    by_cases c : k ∈ row
    · simp [c]
    · by_cases e : k = k0 <;> simp [c, e]
section
variable {needs : List (List Nat)} {hours : List Int} {l : EL} {E : List Pr}
noncomputable def Kall (needs : List (List Nat)) (ws : List Nat) (K : List Int) : List Int := ws.foldl (fun K w => (famOf needs w).foldl addK K) K
noncomputable def Vf (needs : List (List Nat)) (ws : List Nat) (V : Int → Nat) : Int → Nat := ws.foldl (fun V w => fun k => if k ∈ famOf needs w then w else V k) V
theorem tab_map {fv : Nat → Value} : ∀ (ws : List Nat) (K : List Int) (V : Int → Nat), (ws.map fun w => (fv w, famOf needs w)).foldl (fun acc p => tabRow p.1 p.2 acc) (K.map fun k => (k, fv (V k))) = (Kall needs ws K).map fun k => (k, fv (Vf needs ws V k))
  | [], K, V => rfl
  | w :: ws, K, V => by
    show (ws.map fun w => (fv w, famOf needs w)).foldl _ (tabRow (fv w) (famOf needs w) (K.map fun k => (k, fv (V k)))) = _
    rw [tabRow_map, tab_map ws]
    rfl
noncomputable def Fk (needs : List (List Nat)) (l : EL) (k : Int) : Nat := if k < 0 then (-1 - k).toNat else ((lastOf l (rowAt needs k.toNat)).getD 0).toNat
theorem fam_neg {w : Nat} {k : Int} (h : k ∈ famOf needs w) (hk : k < 0) : k = -1 - (w : Int) := by
  unfold famOf at h
  rcases List.mem_append.mp h with h | h
  · (refine Mine.e1a2 (List.mem_map.mp h) ?_; rintro n hn rfl); omega
  · exact List.mem_singleton.mp h
theorem pair_row {w : Nat} : ∀ (ks : List Int) (K : List Int), (∀ k ∈ ks, k ∈ famOf needs w) → ks.foldl (pairAdd needs l w) (K.map fun k => (k, Fk needs l k)) = (ks.foldl addK K).map fun k => (k, Fk needs l k)
  | [], K, _ => rfl
  | k0 :: ks, K, h => by
    have hstep : pairAdd needs l w (K.map fun k => (k, Fk needs l k)) k0 = (addK K k0).map fun k => (k, Fk needs l k) := by
      unfold pairAdd addK
      have e : (K.map fun k => (k, Fk needs l k)).map (·.1) = K := by rw [List.map_map]; exact List.map_id' K
      rw [e]
      by_cases c : k0 ∈ K
      · rw [if_pos c, if_pos c]
      · rw [if_neg c, if_neg c, List.map_append]
        congr 2
        rw [Prod.mk.injEq]
        refine ⟨rfl, ?_⟩
        unfold Fk
        by_cases q : k0 < 0
        · rw [if_pos q, if_pos q, fam_neg (h k0 (.head _)) q]; omega
        · rw [if_neg q, if_neg q]
    show ks.foldl (pairAdd needs l w) (pairAdd needs l w (K.map fun k => (k, Fk needs l k)) k0) = _
    rw [hstep]
    exact pair_row ks _ fun k hk => h k (.tail _ hk)
theorem pair_map : ∀ (E : List Pr) (K : List Int), E.foldl (fun acc p => pairFam needs l p.2.toNat acc) (K.map fun k => (k, Fk needs l k)) = (Kall needs (E.map fun p => p.2.toNat) K).map fun k => (k, Fk needs l k)
  | [], K => rfl
  | p :: E, K => by
    show E.foldl _ (pairFam needs l p.2.toNat (K.map fun k => (k, Fk needs l k))) = _
    unfold pairFam
    rw [pair_row _ _ fun _ hk => hk]
    exact pair_map E _
theorem addK_mem : ∀ (ks K : List Int) (k : Int), k ∈ ks.foldl addK K → k ∈ K ∨ k ∈ ks
  | [], K, k, h => .inl h
  | k0 :: ks, K, k, h => by
    rcases addK_mem ks (addK K k0) k h with h | h
    · unfold addK at h
      by_cases c : k0 ∈ K
      · rw [if_pos c] at h; exact .inl h
      · rw [if_neg c] at h
        rcases List.mem_append.mp h with h | h
        · exact .inl h
        · rw [List.mem_singleton.mp h]; exact .inr (.head _)
    · exact .inr (.tail _ h)
theorem Kall_mem : ∀ (ws : List Nat) (K : List Int) (k : Int), k ∈ Kall needs ws K → k ∈ K ∨ ∃ w ∈ ws, k ∈ famOf needs w
  | [], K, k, h => .inl h
  | w :: ws, K, k, h => by
    rcases Kall_mem ws _ k h with h | ⟨w', hw, h⟩
    · rcases addK_mem _ _ _ h with h | h
      · exact .inl h
      · exact .inr ⟨w, .head _, h⟩
    · exact .inr ⟨w', .tail _ hw, h⟩
theorem Vf_none : ∀ (ws : List Nat) (V : Int → Nat) (k : Int), (∀ w ∈ ws, k ∉ famOf needs w) → Vf needs ws V k = V k
  | [], V, k, _ => rfl
  | w :: ws, V, k, h => by
    show Vf needs ws (fun k => if k ∈ famOf needs w then w else V k) k = _
    rw [Vf_none ws _ k fun w' hw => h w' (.tail _ hw), if_neg (h w (.head _))]
theorem Vf_split {as bs : List Nat} {w : Nat} {V : Int → Nat} {k : Int} (h1 : k ∈ famOf needs w) (h2 : ∀ b ∈ bs, k ∉ famOf needs b) : Vf needs (as ++ w :: bs) V k = w := by
  unfold Vf
  rw [List.foldl_append, List.foldl_cons]
  have := Vf_none bs (fun k => if k ∈ famOf needs w then w else (as.foldl (fun V w => fun k => if k ∈ famOf needs w then w else V k) V) k) k h2
  unfold Vf at this
  rw [this, if_pos h1]
theorem mem_fam {w k : Nat} (hk : k < needs.length) (h : w ∈ rowAt needs k) : (k : Int) ∈ famOf needs w := by
  unfold famOf
  exact List.mem_append_left _ (List.mem_map.mpr ⟨k, List.mem_filter.mpr ⟨List.mem_range.mpr hk, by simpa using h⟩, rfl⟩)
theorem Sit.last (S : Sit needs hours l E) {w k : Nat} (hw : w ∈ rowAt needs k) (he : eget l w ≠ none) : ∃ j : Nat, j < needs.length ∧ lastOf l (rowAt needs k) = some (j : Int) := by
  obtain ⟨e, he⟩ := Option.ne_none_iff_exists'.mp he
  have hm : ((e, (w : Int)) : Pr) ∈ endedOf l (rowAt needs k) := mem_ended.mpr ⟨w, hw, e, he, rfl⟩
  cases q : lastOf l (rowAt needs k) with
  | none =>
    unfold lastOf at q
    cases q2 : endedOf l (rowAt needs k) with
    | nil => rw [q2] at hm; cases hm
    | cons p ps => rw [q2] at q; cases q
  | some v =>
    (refine Mine.e1a3 (last_some q) ?_; rintro p hp rfl _)
    obtain ⟨j, hj, e', _, rfl⟩ := mem_ended.mp hp
    exact ⟨j, S.W.lt _ _ hj, rfl⟩
theorem Sit.tab (S : Sit needs hours l E) (fv : Nat → Value) : tabV ((E.map fun p => p.2.toNat).map fun w => (fv w, famOf needs w)) = (duePairs needs l E).map fun p => (p.1, fv p.2) := by
  have h1 := tab_map (needs := needs) (fv := fv) (E.map fun p => p.2.toNat) [] fun _ => 0
  have h2 := pair_map (needs := needs) (l := l) E []
  simp only [List.map_nil] at h1 h2
  unfold tabV duePairs
  rw [h1, h2, List.map_map]
  refine List.map_congr_left fun k hk => ?_
  show (k, fv _) = (k, fv (Fk needs l k))
  congr 2
  have hmw : ∀ w : Nat, w ∈ (E.map fun p => p.2.toNat) ↔ ∃ (a : Nat) (e : Int), E[a]? = some (e, (w : Int)) := fun w => by
    have := S.mem_dn (i := E.length) (k := w)
    unfold dn at this
    rw [List.take_length] at this
    rw [this]
    constructor
    · rintro hZ2
      (refine Mine.e2a2 hZ2 ?_; clear hZ2; rintro a e _ h); exact ⟨a, e, h⟩
    · rintro hZ3
      (refine Mine.e2a1 hZ3 ?_; clear hZ3; rintro a e h); exact ⟨a, e, (List.getElem?_eq_some_iff.mp h).1, h⟩
  rcases Kall_mem _ _ _ hk with h | ⟨w, hw, hkw⟩
  · cases h
  · unfold Fk
    by_cases c : k < 0
    · rw [if_pos c]
      have e1 := fam_neg hkw c
      have : (-1 - k).toNat = w := by omega
      rw [this]
      obtain ⟨a, ha, ea⟩ := List.getElem_of_mem hw
      have hsp : (E.map fun p => p.2.toNat) = (E.map fun p => p.2.toNat).take a ++ w :: (E.map fun p => p.2.toNat).drop (a + 1) := by
        rw [← ea, ← List.drop_eq_getElem_cons ha, List.take_append_drop]
      rw [hsp]
      refine Vf_split hkw fun b hb q => ?_
      have e2 := fam_neg q c
      have hbw : b = w := by omega
      subst hbw
      obtain ⟨a', ha', ea'⟩ := List.getElem_of_mem hb
      rw [List.length_drop] at ha'
      rw [List.getElem_drop] at ea'
      have hml : (E.map fun p => p.2.toNat).length = E.length := by simp
      (refine Mine.e1a2 (S.at (i := a) (Mine.o154 ha hml)) ?_; rintro x1 y1 z1)
      (refine Mine.e1a2 (S.at (i := a + 1 + a') (Mine.o155 ha' hml ha)) ?_; rintro x2 y2 z2)
      have w1 : wkAt E a = b := by
        have : (E.map fun p => p.2.toNat)[a] = b := ea
        rw [List.getElem_map] at this
        unfold wkAt
        rw [← this]; simp [show a < E.length by (exact Mine.o154 ha hml)]
      have w2 : wkAt E (a + 1 + a') = b := by
        have : (E.map fun p => p.2.toNat)[a + 1 + a']'(Mine.o156 ha' ha) = b := ea'
        rw [List.getElem_map] at this
        unfold wkAt
        rw [← this]; simp [show a + 1 + a' < E.length by (exact Mine.o155 ha' hml ha)]
      rw [w1] at y1
      rw [w2] at y2
      have := S.uniq y1 y2
      (exact Mine.o157 this)
    · rw [if_neg c]
      obtain ⟨f1, f2⟩ := fam_mem hkw (by omega)
      obtain ⟨kn, rfl⟩ : ∃ kn : Nat, k = (kn : Int) := ⟨k.toNat, (Int.toNat_of_nonneg (by omega)).symm⟩
      rw [Int.toNat_natCast] at f1 f2 ⊢
      (refine Mine.e2a1 ((hmw w).mp hw) ?_; rintro aw ew haw)
      have hwe : eget l w ≠ none := S.dn_ends (i := E.length) (S.mem_dn.mpr ⟨aw, ew, (List.getElem?_eq_some_iff.mp haw).1, haw⟩)
      (refine Mine.e1a2 (S.last f2 hwe) ?_; rintro j hj hl)
      rw [hl]
      show Vf needs _ _ (kn : Int) = j
      (refine Mine.e1a3 (last_some hl) ?_; rintro p hp hp2 hp3)
      obtain ⟨j', hj', ej, hej, rfl⟩ := mem_ended.mp hp
      have : j' = j := Int.ofNat.inj hp2
      subst this
      have hmE : ((ej, (j' : Int)) : Pr) ∈ E := S.mem.mpr ⟨j', ej, rfl, hej⟩
      obtain ⟨a, ha, ea⟩ := List.getElem_of_mem hmE
      have haE : E[a]? = some (ej, (j' : Int)) := List.getElem?_eq_some_iff.mpr ⟨ha, ea⟩
      have hml : (E.map fun p => p.2.toNat).length = E.length := by simp
      have hga : (E.map fun p => p.2.toNat)[a]'(Mine.o158 ha hml) = j' := by rw [List.getElem_map, ea]; simp
      have hsp : (E.map fun p => p.2.toNat) = (E.map fun p => p.2.toNat).take a ++ j' :: (E.map fun p => p.2.toNat).drop (a + 1) := by
        rw [← hga, ← List.drop_eq_getElem_cons (Mine.o158 ha hml), List.take_append_drop]
      rw [hsp]
      refine Vf_split (mem_fam f1 hj') fun b hb q => ?_
      obtain ⟨a', ha', ea'⟩ := List.getElem_of_mem hb
      rw [List.length_drop] at ha'
      rw [List.getElem_drop] at ea'
      (refine Mine.e1a3 (S.at (i := a + 1 + a') (Mine.o159 hml ha' ha)) ?_; rintro x2 y2 z2 _)
      have w2 : wkAt E (a + 1 + a') = b := by
        have : (E.map fun p => p.2.toNat)[a + 1 + a']'(Mine.o160 ha' ha hml) = b := ea'
        rw [List.getElem_map] at this
        unfold wkAt
        rw [← this]; simp [show a + 1 + a' < E.length by (exact Mine.o159 hml ha' ha)]
      rw [w2] at y2 z2
      have hbr := (fam_mem q (by omega)).2
      rw [Int.toNat_natCast] at hbr
      have hle := hp3 _ (mem_ended.mpr ⟨b, hbr, x2, z2, rfl⟩)
      have := S.after haE y2 (Mine.o143)
      unfold ple at hle
      rw [hle] at this; cases this
/-- the order there is -/
theorem sit_exists (W : Well0 needs hours) : ∃ E, Sit needs hours (endsOf needs hours) E := by
  have I := EInv.all (needs := needs) (hours := hours) needs.length
  have nd : ((endsOf needs hours).map fun p => ((p.2, (p.1 : Int)) : Pr)).Nodup := by
    refine List.pairwise_map.mpr ((List.pairwise_map.mp I.nd).imp fun {a b} hab q => hab ?_)
    exact Int.ofNat.inj (congrArg Prod.snd q)
  refine ⟨((endsOf needs hours).map fun p => ((p.2, (p.1 : Int)) : Pr)).mergeSort (fun a b => !plt b a), W, I, fun k hk h => ends_closed hk h, List.mergeSort_perm _ _, ?_⟩
  have h1 := List.pairwise_mergeSort (le := fun a b : Pr => !plt b a) (fun a b c h1 h2 => by
    simp only [Bool.not_eq_true'] at *
    exact ple_tr h1 h2) (fun a b => by
    cases h : plt b a with
    | false => simp
    | true => simp [plt_asym h]) ((endsOf needs hours).map fun p => ((p.2, (p.1 : Int)) : Pr))
  have h2 : (((endsOf needs hours).map fun p => ((p.2, (p.1 : Int)) : Pr)).mergeSort (fun a b => !plt b a)).Nodup := (List.mergeSort_perm _ _).nodup_iff.mpr nd
  refine (h1.and h2).imp fun {a b} hab => ?_
  have h3 : plt b a = false := by simpa using hab.1
  exact plt_tot (fun q => hab.2 q.symm) h3
end
end Mine
end TPl6

section TLw0
open PySem PySem.W PyProof.Rows PySem.Calls
namespace Mine
set_option maxRecDepth 100000
set_option maxHeartbeats 8000000
section
variable {w : World} {A : Around} {env : Env} {h₀ : Heap} {m : Str → Option Value} {G : LedT} {hp : Heap} {g : Array GenState} {d : Drawn} {tk : Nat} {os : OsState} {Q E : Value → Shared → Prop}
/-- a slice of any list -/
theorem Cx.sliceB (C : Cx w A env h₀ hp m G) {value : Expr} {lower upper : Option Expr} {p : Pos} {l : Addr} {its : Array Value} {vl vu : Value} {lo hi : Option Int} (hl : hp.IsList l its) (pl : IsPart vl lo) (pu : IsPart vu hi) (hz : its.size < 2 ^ 20)
    (h : ∀ D h', Cx w A env h₀ h' m ((D, listOf (slicePick its lo hi none) 0) :: G) → lk G D = none → Q (.ref D) ⟨h', g, d, tk, os⟩)
    (ht : ∀ r, letTemporaryGo value (.ref l) r = pure () := by intro _; with_unfolding_all rfl) :
    wpAny (model P w) A (subscriptTail value (.Slice lower upper none p) (.ref l) (.ref hp.objs.size)) Q E ⟨hp.push { cls := .type "slice", data := .fields #[vl, vu, .none] }, g, d, tk, os⟩ :=
  kmk_slice (s := ⟨hp, g, d, tk, os⟩) C.F C.N hl pl pu (fun D h' F' N' lt => h D h' (C.of F' N' (C.D.cons lt)) (lk_fresh lt)) (by with_unfolding_all rfl) ht (by have : sizeLine = 2 ^ 24 := rfl; (exact Mine.o39 hz this))
/-- a comprehension over a list of triples -/
theorem Cx.comp_listT {elt iter : Expr} {x1 x2 x3 : Str} {p1 p2 p3 tp : Pos} {tn : Nat} {scope : Scope} {cl : List (Str × Addr)} {pos : Pos} {l : Addr} {its : Array Value} {nl : Nat}
    (C : Cx w A env h₀ hp m G) (J : Nat → List Value → LedT → Prop) (hh : A.handled = none) (hn : its.size < 2 ^ 19) (hl : ∀ i acc G₁, J i acc G₁ → lk G₁ l = some (listOf its nl))
    (ht : ∀ i v G₁ acc, its.toList[i]? = some v → J i acc G₁ → ∃ T n v1 v2 v3, v = .ref T ∧ lk G₁ T = some (tupOf #[v1, v2, v3] n))
    (hx1 : scope.names.lookup x1 = some .local) (hx2 : scope.names.lookup x2 = some .local) (hx3 : scope.names.lookup x3 = some .local) (hcell : ∀ y ∈ scope.names, y.2 ≠ .cell) (hkind : scope.kind = .function) (hJ : J 0 [] G)
    (hclos : closureFor scope env = pure cl) (hnames : ∀ y ∈ scope.names, y.2 = .local → scope.names.lookup y.1 = some .local)
    (mono : ∀ i acc G₁ G₂, J i acc G₁ → Upc G G₁ G₂ → J i acc G₂)
    (turn : ∀ I D Lc i T n v1 v2 v3 acc mc G₁ h₁ tk₁ oI oC oD, its.toList[i]? = some (.ref T) → lk G₁ T = some (tupOf #[v1, v2, v3] n) → acc.length ≤ i → J i acc G₁ → Cx w A env h₀ h₁ m G₁ → lk G₁ I = some oI → lk G₁ D = some oD → lk G₁ Lc = some oC → NsO oC mc → mc x3 = some v3 →
      wpAny (model P w) A (eval elt (compEnvC scope cl Lc env)) (fun y s₄ => CStep w A env h₀ m g d os I D Lc oI oD oC (J (i + 1)) (acc ++ [y]) s₄) (fun _ _ => False) ⟨h₁, g, d, tk₁, os⟩)
    (done : ∀ D acc nn G₁ h₁ tk₁, lk G D = none → J its.size acc G₁ → Cx w A env h₀ h₁ m G₁ → lk G₁ D = some (listOf acc.toArray nn) → Q (.ref D) ⟨h₁, g, d, tk₁, os⟩)
    (hiter : ∀ Q' : Value → Shared → Prop, Q' (.ref l) ⟨hp, g, d, tk, os⟩ → wpAny (model P w) A (eval iter env) Q' E ⟨hp, g, d, tk, os⟩)
    (hs : ∀ x, foldedSetIterable iter env x = pure x := by intro _; rfl) :
    wpAny (model P w) A (eval (.ListComp elt [⟨.Tuple [.Name x1 p1, .Name x2 p2, .Name x3 p3] tn tp, iter, [], 0⟩] scope pos) env) Q E ⟨hp, g, d, tk, os⟩ := by
  rw [eval_ListComp]
  refine wpAny_comprehension_free (use := none) rfl hs hclos hkind hnames (hiter _ ?_)
  have hl0 := hl _ _ _ hJ
  refine wpAny_pyIter_list (C.isList hl0) ?_
  have C' := C.push { cls := .type "list_iterator", data := .fields #[.ref l, .int 0 0] } rfl
  have hI0 := C.fresh
  have hit0 : (hp.push { cls := .type "list_iterator", data := .fields #[.ref l, .int 0 0] }).IsListIter hp.objs.size l 0 := ⟨_, Heap.get?_push_size _ rfl, rfl, rfl⟩
  have hJ1 := mono _ _ _ _ hJ (Upc.cons (o := { cls := .type "list_iterator", data := .fields #[.ref l, .int 0 0] }) hI0)
  have hIl : lk ((hp.objs.size, { cls := .type "list_iterator", data := .fields #[.ref l, .int 0 0] }) :: G) hp.objs.size = some { cls := .type "list_iterator", data := .fields #[.ref l, .int 0 0] } := lk_cons_eq
  have hsub : ∀ b o, lk G b = some o → lk ((hp.objs.size, { cls := .type "list_iterator", data := .fields #[.ref l, .int 0 0] }) :: G) b = some o := fun b o hb => lk_fc hI0 hb
  generalize ((hp.objs.size, ({ cls := .type "list_iterator", data := .fields #[.ref l, .int 0 0] } : Obj)) :: G) = G1 at *
  generalize hp.objs.size = I at *
  generalize (hp.push { cls := .type "list_iterator", data := .fields #[.ref l, .int 0 0] }) = hp1 at *
  refine wpAny_newObj_type ?_
  have C1 := C'.push { cls := .type "list", dict := none, data := .seq ([] : List Value).toArray } rfl
  refine wpAny_newFunctionEnv hcell (by intro y hy; simp at hy) (fun h₁ hns₁ hsb₁ => ?_) hkind
  dsimp only at hns₁ hsb₁ ⊢
  have C2 := C1.push { cls := .type (if (some env).isSome = true then "dict" else "frame"), data := .dict #[] } rfl
  (refine Mine.e3a2 hns₁ ?_; clear hns₁; rintro oC es ep hoC hnC)
  have C3 := C2.upd lk_cons_eq hsb₁ hoC
  have hD0 := C'.fresh
  have hL0 := C1.fresh
  have hDL : hp1.objs.size ≠ (hp1.push { cls := .type "list", dict := none, data := .seq ([] : List Value).toArray }).objs.size := by rw [Heap.size_push]; exact Nat.ne_of_lt (Nat.lt_succ_self _)
  have non : ∀ {b : Addr} {GG : LedT}, (∀ c o, lk G c = some o → lk GG c = some o) → lk GG b = none → lk G b = none := fun {b GG} h1 h2 => by
    cases q : lk G b with
    | none => rfl
    | some o => rw [h1 b o q] at h2; cases h2
  have hD00 : lk G hp1.objs.size = none := non hsub hD0
  have hL00 := non (fun c o hc => lk_fc (o' := { cls := .type "list", dict := none, data := .seq ([] : List Value).toArray }) hD0 (hsub c o hc)) hL0
  generalize hLc : (hp1.push { cls := .type "list", dict := none, data := .seq ([] : List Value).toArray }).objs.size = Lc at *
  have keep3 : ∀ c o, lk G1 c = some o → lk (Mine.st ((Lc, { cls := .type (if (some env).isSome = true then "dict" else "frame"), data := .dict #[] }) :: (hp1.objs.size, { cls := .type "list", dict := none, data := .seq ([] : List Value).toArray }) :: G1) Lc oC) c = some o := fun c o hc => by
    have h1 := lk_fc (o' := { cls := .type "list", dict := none, data := .seq ([] : List Value).toArray }) hD0 hc
    exact lk_st_ne (lk_ne h1 hL0) (lk_fc hL0 h1)
  have D3 : lk (Mine.st ((Lc, { cls := .type (if (some env).isSome = true then "dict" else "frame"), data := .dict #[] }) :: (hp1.objs.size, { cls := .type "list", dict := none, data := .seq ([] : List Value).toArray }) :: G1) Lc oC) hp1.objs.size = some (listOf #[] 0) := lk_st_ne hDL (lk_fc hL0 lk_cons_eq)
  have L3 : lk (Mine.st ((Lc, { cls := .type (if (some env).isSome = true then "dict" else "frame"), data := .dict #[] }) :: (hp1.objs.size, { cls := .type "list", dict := none, data := .seq ([] : List Value).toArray }) :: G1) Lc oC) Lc = some oC := lk_st_eq
  have hJ3 := mono 0 [] G1 _ hJ1 (fun a o ha _ => keep3 a o ha)
  have hit3 : h₁.IsListIter I l 0 := by
    (refine Mine.e1a3 hit0 ?_; clear hit0; rintro o e1 e2 e3)
    have := C'.at hIl
    rw [e1] at this; cases this
    exact ⟨_, C3.at (keep3 _ _ hIl), e2, e3⟩
  have hI3 := keep3 _ _ hIl
  generalize (Mine.st ((Lc, { cls := .type (if (some env).isSome = true then "dict" else "frame"), data := .dict #[] }) :: (hp1.objs.size, { cls := .type "list", dict := none, data := .seq ([] : List Value).toArray }) :: G1) Lc oC) = G3 at *
  generalize hp1.objs.size = D at *
  have loop : codeAny (model P w) A (.compLoop (.ListComp elt [⟨.Tuple [.Name x1 p1, .Name x2 p2, .Name x3 p3] tn tp, iter, [], 0⟩] scope pos) 0 (.ref I) (.ref D) (compEnvC scope cl Lc env)) (compPost (model P w) A E none Q (.ref D) Lc) ⟨h₁, g, d, tk, os⟩ := by
    refine LCp.codeAny_compLoop_pair (fun k s' => ∃ h' tk G' i acc nn mc oC oI, s' = ⟨h', g, d, tk, os⟩ ∧ Cx w A env h₀ h' m G' ∧ J i acc G' ∧ h'.IsListIter I l i ∧ lk G' I = some oI ∧ lk G' D = some (listOf acc.toArray nn) ∧ lk G' Lc = some oC ∧ NsO oC mc ∧ acc.length ≤ i ∧ i ≤ its.size ∧ k = its.size + 1 - i) ?_ (its.size + 1)
      ⟨h₁, tk, G3, 0, [], 0, _, oC, _, rfl, C3, hJ3, hit3, hI3, D3, L3, ⟨es, ep, hnC⟩, Nat.le_refl _, Nat.zero_le _, rfl⟩
    rintro k s' hZ1
    obtain ⟨h', tkx, G', i, acc, nn, mc, oC, oI, rfl, C', hJ', hit', hI', hD', hL', hLn', hacc, hi, rfl⟩ := hZ1
    (refine Mine.e2a2 (id hLn') ?_; rintro esC epC hCd _)
    have hIf : oI.data = .fields #[.ref l, .int (i : Int) 0] := by
      (refine Mine.e1a3 hit' ?_; clear hit'; rintro o e1 e2 e3)
      have := C'.at hI'
      rw [e1] at this; cases this; exact e3
    have hID : I ≠ D := fun q => by rw [q, hD'] at hI'; cases hI'; cases hIf
    have hILc : I ≠ Lc := fun q => by rw [q, hL'] at hI'; cases hI'; rw [hCd] at hIf; cases hIf
    have hDL : D ≠ Lc := fun q => by rw [q, hL'] at hD'; cases hD'; cases hCd
    have hil := C'.isList (hl _ _ _ hJ')
    by_cases hlt : i < its.size
    · (refine Mine.e5a2 (ht i its[i] G' acc (by simp [hlt]) hJ') ?_; rintro T nT v1 v2 v3 hT hTl)
      refine wpAny_pyNext_list_item hit' hil (x := its[i]) (by simp [hlt]) fun h₂ hit₂ hs₂ => ?_
      (refine Mine.e1a3 (id hit₂) ?_; rintro o₂ e1 ec e2)
      have C₂ := C'.keepBut (h' := h₂) (o' := o₂) hI' (fun b x hb e => hs₂.extBut b x hb e) e1
      have hTI : T ≠ I := fun q => by rw [q, hI'] at hTl; cases hTl; cases hIf
      have hTLc : T ≠ Lc := fun q => by rw [q, hL'] at hTl; cases hTl; cases hCd
      dsimp only
      rw [hT]
      refine wpAny_letOwnedTupleGo_listiter hit₂ ?_
      refine assign_Tuple_tuple hh (C₂.isTuple (lk_st_ne hTI hTl)) rfl rfl fun h₅ hex => ?_
      have C5 := C₂.ext hex
      show wpAny _ _ (assignInOrder (_ :: _ :: _ :: []) (v1 :: v2 :: v3 :: [])) _ _ _
      have L5 : lk (Mine.st G' I o₂) Lc = some oC := lk_st_ne (fun q => hILc q.symm) hL'
      refine assignInOrder_cons (wpAny_assign_Name (wpAny_storeName_local (lookup_relabel_local hx1) (C5.ns L5 hLn') (fun h₆ hn₆ hs₆ => ?_) (by simp [compEnvC, relabel, hkind])))
      (refine Mine.e3a2 hn₆ ?_; clear hn₆; rintro o₆ es₆ ep₆ ho₆ hn₆')
      have C6 := C5.upd L5 hs₆ ho₆
      refine assignInOrder_cons (wpAny_assign_Name (wpAny_storeName_local (lookup_relabel_local hx2) (C6.ns lk_st_eq ⟨es₆, ep₆, hn₆'⟩) (fun h₇ hn₇ hs₇ => ?_) (by simp [compEnvC, relabel, hkind])))
      (refine Mine.e3a2 hn₇ ?_; clear hn₇; rintro o₇ es₇ ep₇ ho₇ hn₇')
      have C7 := C6.upd lk_st_eq hs₇ ho₇
      rw [st_st] at C7
      refine assignInOrder_cons (wpAny_assign_Name (wpAny_storeName_local (lookup_relabel_local hx3) (C7.ns lk_st_eq ⟨es₇, ep₇, hn₇'⟩) (fun h₈ hn₈ hs₈ => ?_) (by simp [compEnvC, relabel, hkind])))
      (refine Mine.e3a2 hn₈ ?_; clear hn₈; rintro o₈ es₈ ep₈ ho₈ hn₈')
      have C8 := C7.upd lk_st_eq hs₈ ho₈
      rw [st_st] at C8
      refine assignInOrder_nil ?_
      have U8 : Upc G G' (Mine.st (Mine.st G' I o₂) Lc o₈) := (Upc.st hI0 hI' fun its n q => by rw [q] at hIf; cases hIf).trans (Upc.st hL00 L5 fun its n q => by rw [q] at hCd; cases hCd)
      refine wpAny_mono (turn I D Lc i T nT v1 v2 v3 acc _ _ h₈ _ o₂ o₈ _ (by simp [hlt, hT]) (lk_st_ne hTLc (lk_st_ne hTI hTl)) hacc (mono _ _ _ _ hJ' U8) C8 (lk_st_ne hILc lk_st_eq) (lk_st_ne hDL (lk_st_ne (fun q => hID q.symm) hD')) lk_st_eq ⟨es₈, ep₈, hn₈'⟩ (by simp)) (fun y s₄ h₄ => ?_) fun _ _ z => z.elim
      (refine Mine.e3a6 h₄ ?_; clear h₄; rintro h₄ tk₄ G₄ rfl C₄ I₄ D₄ L₄ J₄)
      refine C₄.append D₄ (by simp; (exact Mine.o109 hn hacc hlt)) fun h₉ C9 => ?_
      have I9 : lk (Mine.st G₄ D (listOf (acc.toArray.push y) (nn + 1))) I = some o₂ := lk_st_ne hID I₄
      have J9 := mono _ _ _ _ J₄ (Upc.st (o' := listOf (acc.toArray.push y) (nn + 1)) hD00 D₄ fun its n q => by simp at q)
      refine ⟨its.size + 1 - (i + 1), by (exact Mine.o110 hi), h₉, tk₄, _, i + 1, acc ++ [y], nn + 1, _, o₈, o₂, rfl, C9, J9, ⟨o₂, C9.at I9, ec, e2⟩, I9, ?_, lk_st_ne (fun q => hDL q.symm) L₄, ⟨es₈, ep₈, hn₈'⟩, by simp; (exact Mine.o111 hacc), by (exact Mine.o112 hlt), rfl⟩
      rw [lk_st_eq]; simp
    · have : i = its.size := Mine.o113 hi hlt
      subst this
      refine wpAny_pyNext_list_end hh hit' hil (by simp) fun h₂ hk => ?_
      dsimp only
      have z := C'.N _ (lk_mem hI')
      have C9 : Cx w A env h₀ h₂ m (rm G' I) := ⟨C'.B, ⟨by
        (refine Mine.e3a2 C'.F.ns ?_; rintro oL es ep hL r)
        exact ⟨oL, es, ep, hk _ _ (fun q => z.2.1 q.symm) hL, r⟩, fun b x q => hk b x (fun q2 => by subst q2; rw [z.2.2] at q; cases q) (C'.F.keep b x q), C'.F.above⟩, fun p hp => by
        obtain ⟨h1, h2⟩ := mem_rm hp
        exact ⟨hk _ _ h2 (C'.N p h1).1, (C'.N p h1).2⟩, C'.D.rm, C'.X, C'.T, C'.hf, C'.hke⟩
      have J9 := mono _ _ _ _ hJ' (show Upc G G' (rm G' I) from fun a o ha hor => by
        rw [lk_rm]
        · exact ha
        · intro q; subst q
          rcases hor with h | ⟨its, n, h⟩
          · exact h hI0
          · rw [hI'] at ha; cases ha; rw [h] at hIf; cases hIf)
      have L9 : lk (rm G' I) Lc = some oC := (lk_rm (fun q => hILc q.symm)).trans hL'
      refine C9.endV L9 hLn' fun h₃ C10 => done D acc nn _ h₃ _ hD00 (mono _ _ _ _ J9 fun a o ha hor => ?_) C10 ?_
      · rw [lk_rm]
        · exact ha
        · intro q; subst q
          rcases hor with h | ⟨its, n, h⟩
          · exact h hL00
          · rw [L9] at ha; cases ha; rw [h] at hCd; cases hCd
      · rw [lk_rm hDL, lk_rm (fun q => hID q.symm)]; exact hD'
  exact codeAny_compStart_list loop (wpAny_pyIter_listiter hit3 loop)
end
end Mine
end TLw0

section TLw1
open PySem PySem.W PyProof.Rows PySem.Calls
namespace Mine
set_option maxRecDepth 100000
set_option maxHeartbeats 8000000
theorem eqRef {A : Around} {s : Shared} {l b : Addr} (h : l ≠ b → SeqAt.RcAt A s (.ref l) (.ref b) true) : SeqAt.EqAt A s (.ref l) (.ref b) true := by
  by_cases q : l = b
  · subst q; exact SeqAt.EqAt.same _
  · exact SeqAt.EqAt.of_refs q (h q)
theorem rcTup {A : Around} {s : Shared} {l b : Addr} {i1 i2 : Array Value} (h1 : s.heap.IsTuple l i1) (h2 : s.heap.IsTuple b i2) (hz : i1.size = i2.size) (hu : A.units < cLine) (he : ∀ j (g1 : j < i1.size) (g2 : j < i2.size), SeqAt.EqAt A.in1 s i1[j] i2[j] true) : SeqAt.RcAt A s (.ref l) (.ref b) true := by
  have := SeqAt.RcAt.tuples (e := fun _ => true) h1 h2 hu he
  have e : ((List.range (min i1.size i2.size)).all (fun _ => true) && i1.size == i2.size) = true := by simp [hz]
  rw [e] at this; exact this
theorem eqInt {A : Around} {s : Shared} {a : Int} {t u : Tok} : SeqAt.EqAt A s (.int a t) (.int a u) true := by
  have := SeqAt.EqAt.int_int (A := A) (s := s) a t a u
  rw [show (a == a) = true by simp] at this; exact this
section
variable {w : World} {A : Around} {env : Env} {h₀ : Heap} {m : Str → Option Value} {G : LedT} {hp : Heap} {g : Array GenState} {d : Drawn} {tk : Nat} {os : OsState} {Q E : Value → Shared → Prop}
theorem Cx.eqLogs (C : Cx w A env h₀ hp m G) {a b : Addr} {i1 i2 : Array Value} {n1 n2 : Nat} {dl : List LogE} (ha : lk G a = some (listOf i1 n1)) (hb : lk G b = some (listOf i2 n2)) (h1 : All2 (IsLog G) i1.toList dl) (h2 : All2 (IsLog G) i2.toList dl) (hu : A.units + 20 < cLine) (h : Q (.bool true) ⟨hp, g, d, tk, os⟩) :
    wpAny (model P w) A (compareOp .Eq (.ref a) (.ref b)) Q E ⟨hp, g, d, tk, os⟩ := by
  have l1 : i1.size = dl.length := by simpa using h1.length
  have l2 : i2.size = dl.length := by simpa using h2.length
  refine SeqAt.eq_listAt (e := fun _ => true) (C.isList ha) (C.isList hb) (Mine.o269 l1 l2) (Mine.o11 hu) (fun j g1 g2 => ?_) (by rw [List.all_eq_true.mpr (fun _ _ => rfl)]; exact h)
  obtain ⟨e, he⟩ : ∃ e, dl[j]? = some e := ⟨dl[j]'(Mine.o270 l1 g1), by simp⟩
  obtain ⟨v1, hv1, t, n, T, its, k, th, tw, rfl, x1, x2, x3⟩ := h1.get he
  obtain ⟨v2, hv2, t', n', T', its', k', th', tw', rfl, y1, y2, y3⟩ := h2.get he
  have e1 : i1[j] = .ref t := by simpa [g1] using hv1
  have e2 : i2[j] = .ref t' := by simpa [g2] using hv2
  rw [e1, e2]
  refine eqRef fun _ => rcTup (C.isTuple x1) (C.isTuple y1) rfl (by simp; (exact Mine.o273 hu)) fun i q1 q2 => ?_
  have hi : i = 0 ∨ i = 1 ∨ i = 2 := by simp at q1; omega
  rcases hi with rfl | rfl | rfl
  · refine eqRef fun _ => rcTup (C.isTuple x2) (C.isTuple y2) ?_ (by simp; (exact Mine.o274 hu)) fun q p1 p2 => ?_
    · have z1 := x3.length; have z2 := y3.length; simp at z1 z2; (exact Mine.o269 z1 z2)
    · have z1 : its.size = e.1.length := by simpa using x3.length
      obtain ⟨u1, hu1, s1, rfl⟩ := x3.get (i := q) (b := e.1[q]'(Mine.o154 p1 z1)) (by simp)
      obtain ⟨u2, hu2, s2, rfl⟩ := y3.get (i := q) (b := e.1[q]'(Mine.o154 p1 z1)) (by simp)
      have f1 : its[q] = .int (e.1[q]'(Mine.o154 p1 z1) : Int) s1 := by simpa [p1] using hu1
      have f2 : its'[q] = .int (e.1[q]'(Mine.o154 p1 z1) : Int) s2 := by simpa [p2] using hu2
      rw [f1, f2]; exact eqInt
  · exact eqInt
  · exact eqInt
abbrev itemsOf (a : Addr) : Obj := { cls := .type "dict_items", data := .fields #[.ref a] }
theorem Cx.itemsM (C : Cx w A env h₀ hp m G) {a : Addr} {kvs : List (Int × Value)} {pl : Sem Bool} {Q : Value × List Value → Shared → Prop} (hd : IsDict w G a kvs) (h : Q (.builtin "dict.items", [.ref a]) ⟨hp, g, d, tk, os⟩) : wpAny (model P w) A (getMethod (.ref a) "items" pl) Q E ⟨hp, g, d, tk, os⟩ :=
  getMethod_builtin (C.dictAt hd).typeIs PySem.F.plainAttrs_dict PySem.F.slot_dict_items PySem.F.type_dict_items (C.dictAt hd).mapOf.noDict h
theorem Cx.items (C : Cx w A env h₀ hp m G) {a : Addr} {kvs : List (Int × Value)} (hd : IsDict w G a kvs) (h : ∀ v h', Cx w A env h₀ h' m ((v, itemsOf a) :: G) → lk G v = none → Q (.ref v) ⟨h', g, d, tk, os⟩) : wpAny (model P w) A (call (.builtin "dict.items") [.ref a]) Q E ⟨hp, g, d, tk, os⟩ := by
  obtain ⟨lo, o, ho, hd'⟩ := id hd
  exact kdx_view C.F C.N (lk_mem ho) hd' lo fun D h' F' N' lt => h D h' (C.of F' N' (C.D.cons lt)) (lk_fresh lt)
theorem Cx.listItems (C : Cx w A env h₀ hp m G) {a v : Addr} {kvs : List (Int × Value)} (hh : A.handled = none) (hd : IsDict w G a kvs) (hv : lk G v = some (itemsOf a)) (hn : kvs.length ≤ 100000)
    (h : ∀ S acc as h' tk', Cx w A env h₀ h' m G → h'.IsList S acc → acc.toList = as.map Value.ref → as.length = kvs.length → KdxG (intKind P w) kvs S h' as → (∀ p ∈ G, p.1 < S) → Q (.ref S) ⟨h', g, d, tk', os⟩) :
    wpAny (model P w) A (call (.type "list") [.ref v]) Q E ⟨hp, g, d, tk, os⟩ := by
  obtain ⟨lo, o, ho, hd'⟩ := id hd
  obtain ⟨ep, ha⟩ := KdkAt.of hd'
  refine kdx_call (knd := intKind P w) (kvs := kvs) (ep := ep) hh ⟨_, C.at hv, rfl, rfl⟩ (ha.dictAt (C.at ho)) (by have : sizeLine = 2 ^ 24 := rfl; omega) fun h' tk' acc c as hk hS hl hG hacc => ?_
  exact h _ acc as h' tk' (C.grown hk) ⟨_, hS, rfl, c, rfl⟩ hacc hl hG C.lt
theorem Cx.eqItems (C : Cx w A env h₀ hp m G) {S PP : Addr} {acc pits : Array Value} {as : List Addr} {n : Nat} {kvs : List (Int × Value)} (hS : hp.IsList S acc) (hacc : acc.toList = as.map Value.ref) (hl : as.length = kvs.length) (hG : KdxG (intKind P w) kvs S hp as) (hlt : ∀ p ∈ G, p.1 < S)
    (hP : lk G PP = some (listOf pits n)) (hA : All2 (fun v (kv : Int × Value) => ∃ t tv n, v = .ref t ∧ lk G t = some (tupOf #[.int kv.1 tv, kv.2] n)) pits.toList kvs) (hu : A.units + 20 < cLine) (h : Q (.bool true) ⟨hp, g, d, tk, os⟩) :
    wpAny (model P w) A (compareOp .Eq (.ref S) (.ref PP)) Q E ⟨hp, g, d, tk, os⟩ := by
  have l1 : acc.size = kvs.length := by
    have := congrArg List.length hacc
    simp at this; (exact Mine.o80 hl this)
  have l2 : pits.size = kvs.length := by simpa using hA.length
  refine SeqAt.eq_listAt (e := fun _ => true) hS (C.isList hP) (Mine.o269 l1 l2) (Mine.o11 hu) (fun j g1 g2 => ?_) (by rw [List.all_eq_true.mpr (fun _ _ => rfl)]; exact h)
  obtain ⟨kv, hkv⟩ : ∃ kv, kvs[j]? = some kv := ⟨kvs[j]'(Mine.o270 l1 g1), by simp⟩
  obtain ⟨v2, hv2, t, tv, n', rfl, ht⟩ := hA.get hkv
  have hja : j < as.length := Mine.o276 hl l1 g1
  (refine Mine.e3a3 (hG.pairs j as[j] (List.getElem?_eq_getElem hja)) ?_; rintro key k x e1 e2 e3)
  rw [hkv] at e1
  have e1 := Option.some.inj e1
  subst e1
  obtain ⟨tk1, rfl⟩ := Value.isInt_shape e2
  have f1 : acc[j] = .ref as[j] := by
    have : acc.toList[j]? = (as.map Value.ref)[j]? := by rw [hacc]
    simpa [g1, hja] using this
  have f2 : pits[j] = .ref t := by simpa [g2] using hv2
  rw [f1, f2]
  refine SeqAt.EqAt.of_refs (fun q => ?_) (rcTup ⟨_, e3, rfl, 0, rfl⟩ (C.isTuple ht) rfl (by simp; (exact Mine.o273 hu)) fun i q1 q2 => ?_)
  · have z1 := hG.above as[j] (List.getElem_mem hja)
    have z2 := hlt _ (lk_mem ht)
    rw [q] at z1
    exact Nat.lt_irrefl _ (Nat.lt_trans z1 z2)
  · have hi : i = 0 ∨ i = 1 := by simp at q1; omega
    rcases hi with rfl | rfl
    · exact eqInt
    · exact SeqAt.EqAt.same _
/-- a built-in within a comprehension -/
theorem Cx.cbltn (C : Cx w A env h₀ hp m G) {scope : Scope} {cl : List (Str × Addr)} {Lc : Addr} {x : Str} {np pos : Pos} {id : String} {e : Expr} {rest : List Expr} (en : nsIn (Mine.hd.heap_1 w.params) mainGlobals x = some none) (hv : bootBuiltins x = some (.builtin id))
    (h : wpAny (model P w) A (spliced (backTo pos (starEach (e :: rest) (compEnvC scope cl Lc env)))) (fun vs s₁ => wpAny (model P w) A (call (.builtin id) vs) Q E s₁) E ⟨hp, g, d, tk, os⟩) (hn : x ≠ "__name__" := by decide)
    (he : starEach (e :: rest) (compEnvC scope cl Lc env) = (false, eval e (compEnvC scope cl Lc env)) :: starEach rest (compEnvC scope cl Lc env) := by rfl) (hplain : (backTo pos (starEach rest (compEnvC scope cl Lc env))).any (·.1) = false := by rfl)
    (hc : eval (.Call (.Name x np) (e :: rest) [] pos) (compEnvC scope cl Lc env) = (do callWith pos (← eval (.Name x np) (compEnvC scope cl Lc env)) [] (backTo pos (starEach (e :: rest) (compEnvC scope cl Lc env))) (backToKw pos (keywordEach [] (compEnvC scope cl Lc env)))) := by rfl)
    (hk : (compEnvC scope cl Lc env).scope.kind = .function := by rfl) (hg : env.globals = mainGlobals := by rfl) (hb : env.builtins = builtinsNs := by rfl) (hx : (compEnvC scope cl Lc env).kindOf x = some .globalImplicit := by rfl) (hd : (x == ("__debug__" : Str)) = false := by decide) :
    wpAny (model P w) A (eval (.Call (.Name x np) (e :: rest) [] pos) (compEnvC scope cl Lc env)) Q E ⟨hp, g, d, tk, os⟩ := by
  (refine Mine.e3a1 C.T ?_; rintro _ mg mb T)
  refine Call_ (Name_function_global hk hx (loadGlobal_builtin (env := compEnvC scope cl Lc env) (by show Heap.Ns _ env.globals _; rw [hg]; exact T.g.keeps C.F.keep) (mg_none_of C.X T.g en) (by show Heap.Ns _ env.builtins _; rw [hb]; exact T.b.keeps C.F.keep) ((T.builtins x hn).trans hv) (callWith_method1 (first := []) (wpAny_mono h (fun _ _ z => z) fun _ _ z => z) he hplain)) hd) hc
end
end Mine
end TLw1

section TLw2
open PySem PySem.W PyProof.Rows PySem.Calls
namespace Mine
set_option maxRecDepth 100000
set_option maxHeartbeats 8000000
noncomputable def defOf {p : Program} {ls : List Str} {xp : (Str → Option Value) → Heap → Prop} {says : World → Heap → Prop} {r : RowW} {D : DefRec} {a : List (Str × Expr)} {b : Value → List Value → Sem Value} {Lf H : Prop} (_ : Lf ∧ WalkO p ls xp says r D a b → H) : DefRec := D
noncomputable def lawDef : DefRec := defOf Mine.hd
noncomputable def numsOf (s : List Int) : List Int := [9, 4] ++ s.take 5 ++ [3, 6, 51]
noncomputable def hoursOf (ns : List Int) : List Int := ns.map fun x => 1 + (if x < 0 then -x else x).fdiv 4
theorem nums_len (s : List Int) : 5 ≤ (numsOf s).length ∧ (numsOf s).length ≤ 10 := by
  unfold numsOf; simp; (exact Mine.o3)
theorem row_nd (x : Int) (k n : Nat) : (rowOf x k n).Nodup := by
  have h : (bitsRow x k).Nodup := List.Nodup.sublist List.filter_sublist List.nodup_range
  unfold rowOf
  split
  · rename_i c
    rw [List.nodup_append]
    exact ⟨h, by simp, fun a ha b hb q => by rw [List.mem_singleton.mp hb] at q; rw [q] at ha; exact c.2 ha⟩
  · exact h
theorem row_lt {x : Int} {k n : Nat} (hk : k < n) : ∀ j ∈ rowOf x k n, j < n := by
  have h : ∀ j ∈ bitsRow x k, j < n := fun j hj => Nat.lt_trans (List.mem_range.mp (List.mem_filter.mp hj).1) hk
  unfold rowOf
  split
  · intro j hj
    rcases List.mem_append.mp hj with hj | hj
    · exact h j hj
    · rw [List.mem_singleton.mp hj]
      unfold otherOf
      have h1 := Int.fmod_lt_of_pos (x.fdiv 11) (b := (n : Int)) (by omega)
      have h2 := Int.fmod_nonneg_of_pos (x.fdiv 11) (b := (n : Int)) (by omega)
      omega
  · exact h
theorem rowAt_needs {ns : List Int} {k : Nat} : rowAt (needsOf ns) k = if k < ns.length then rowOf (ns.getD k 0) k ns.length else [] := by
  unfold rowAt needsOf
  by_cases h : k < ns.length
  · simp [h]
  · simp [h]
theorem well_law {ns : List Int} (_hn : 0 < ns.length) : Well0 (needsOf ns) (hoursOf ns) := by
  have hl : (needsOf ns).length = ns.length := by simp [needsOf]
  refine ⟨by simp [hoursOf, needsOf], fun k hk => ?_, fun k => ?_, fun k j hj => ?_⟩
  · rw [hl] at hk
    have : (hoursOf ns).getD k 0 = 1 + (if ns[k] < 0 then -ns[k] else ns[k]).fdiv 4 := by simp [hoursOf, hk]
    rw [this]
    have h2 : 0 ≤ (if ns[k] < 0 then -ns[k] else ns[k]) := by split <;> omega
    have := Int.fdiv_nonneg h2 (b := 4) (by omega)
    omega
  · rw [rowAt_needs]; split
    · exact row_nd _ _ _
    · exact List.nodup_nil
  · rw [rowAt_needs] at hj
    split at hj
    · rename_i h; rw [hl]; exact row_lt h j hj
    · cases hj
theorem ends_two (s : List Int) : 2 ≤ (endsOf (needsOf (numsOf s)) (hoursOf (numsOf s))).length := by
  have hl : (needsOf (numsOf s)).length = (numsOf s).length := by simp [needsOf]
  have hn := nums_len s
  have r0 : rowAt (needsOf (numsOf s)) 0 = [] := by
    rw [rowAt_needs, if_pos (Mine.o5 hn.1)]
    have : (numsOf s).getD 0 0 = 9 := rfl
    rw [this]; unfold rowOf; rw [if_neg (by intro h; exact absurd h.1 (by decide))]; rfl
  have r1 : rowAt (needsOf (numsOf s)) 1 = [] := by
    rw [rowAt_needs, if_pos (Mine.o7 hn.1)]
    have : (numsOf s).getD 1 0 = 4 := rfl
    rw [this]; unfold rowOf; rw [if_neg (by intro h; exact absurd h.1 (by decide))]; decide
  have I := EInv.all (needs := needsOf (numsOf s)) (hours := hoursOf (numsOf s)) (needsOf (numsOf s)).length
  have e0 := ends_closed (needs := needsOf (numsOf s)) (hours := hoursOf (numsOf s)) (k := 0) (Mine.o8 hl hn.1) (by rw [r0]; simp)
  have e1 := ends_closed (needs := needsOf (numsOf s)) (hours := hoursOf (numsOf s)) (k := 1) (Mine.o9 hl hn.1) (by rw [r1]; simp)
  obtain ⟨v0, h0⟩ := Option.ne_none_iff_exists'.mp e0
  obtain ⟨v1, h1⟩ := Option.ne_none_iff_exists'.mp e1
  have : [0, 1].length ≤ ((endsOf (needsOf (numsOf s)) (hoursOf (numsOf s))).map (·.1)).length := List.Nodup.length_le_of_subset (by decide) fun x hx => by
    rcases List.mem_cons.mp hx with rfl | hx
    · exact List.mem_map.mpr ⟨_, eget_mem h0, rfl⟩
    · rw [List.mem_singleton.mp hx]; exact List.mem_map.mpr ⟨_, eget_mem h1, rfl⟩
  simpa using this
theorem all2_ints {vs : List Value} {ns : List Int} (h : IntsAre vs ns) : All2 IsI vs ns := by
  induction h with
  | nil => exact .nil
  | cons n t _ ih => exact .cons ⟨t, rfl⟩ ih
theorem All2.both {α β : Type} {R S : α → β → Prop} {as : List α} {bs : List β} (x : All2 R as bs) (y : All2 S as bs) : All2 (fun a b => R a b ∧ S a b) as bs := by
  induction x with
  | nil => exact .nil
  | cons r _ ih => cases y with | cons r' t' => exact .cons ⟨r, r'⟩ (ih t')
theorem All2.mapR {α β γ : Type} {R : α → β → Prop} {S : α → γ → Prop} {f : β → γ} {as : List α} {bs : List β} (x : All2 R as bs) (h : ∀ a b, R a b → S a (f b)) : All2 S as (bs.map f) := by
  induction x with
  | nil => exact .nil
  | cons r _ ih => exact .cons (h _ _ r) ih
theorem Cx.gen {w : World} {A : Around} {env : Env} {h₀ h : Heap} {m : Str → Option Value} {G : LedT} (C : Cx w A env h₀ h m G) {P : LedT → Prop} (hP : P G) : ∃ G', Cx w A env h₀ h m G' ∧ P G' := ⟨G, C, hP⟩
section
variable {w : World} {A : Around} {gb h₁ : Heap} {m1 : Str → Option Value} {G1 : LedT} {g : Array GenState} {d : Drawn} {tk : Nat} {os : OsState} {L fa sa : Addr} {cd : Value} {vs : List Value} {ns0 : List Int} {o1 o2 o3 : Obj} {Q : Flow → Shared → Prop} {E : Value → Shared → Prop}
theorem law_body (C : Cx w A (envOfC lawDef.name lawDef.scope L fa cd) gb h₁ m1 G1) (hh : A.handled = none) (hd : A.depth + 30 < recursionLimit) (hu : A.units + 200 < cLine)
    (hm : m1 (Str.ofString "script") = some (.ref sa)) (hsl : gb.IsList sa vs.toArray) (hI : IntsAre vs ns0) (hlen : ns0.length ≤ 63)
    (hc1 : lk G1 (L + 1) = some o1) (d1 : o1.data = .cell none) (hc2 : lk G1 (L + 1 + 1) = some o2) (d2 : o2.data = .cell none) (hc3 : lk G1 (L + 1 + 1 + 1) = some o3) (d3 : o3.data = .cell none) (hT : lk G1 211 = some (tabObj #[]))
    (ret : ∀ gb' h' tk' m' G', Turn A gb gb' → Cx w A (envOfC lawDef.name lawDef.scope L fa cd) gb' h' m' G' → (∃ ps, lk G' 211 = some (tabObj ps)) → Q (.ret (.bool true)) ⟨h', g, d, tk', os⟩) :
    wpAny (model P w) A (execs lawDef.body (envOfC lawDef.name lawDef.scope L fa cd)) Q E ⟨h₁, g, d, tk, os⟩ := by
  refine wpAny_mono (E := fun _ _ => False) ?_ (fun _ _ z => z) fun _ _ z => z.elim
  unfold lawDef defOf at *
  dsimp only at *
  have n12 : L + 1 ≠ L + 1 + 1 := Nat.ne_of_lt (Nat.lt_succ_self _)
  have n23 : L + 1 + 1 ≠ L + 1 + 1 + 1 := Nat.ne_of_lt (Nat.lt_succ_self _)
  have n13 : L + 1 ≠ L + 1 + 1 + 1 := Nat.ne_of_lt (Nat.lt_trans (Nat.lt_succ_self _) (Nat.lt_succ_self _))
  have hvl : vs.length = ns0.length := hI.length
  -- numbers = [9, 4] + script[:5] + [3, 6, 51]
  refine wpAny_execs_cons (wpAny_Assign_Name (wpAny_BinOp (wpAny_BinOp (List_ (args_cons (c_int fun t9 tk9 => args_cons (c_int fun t4 tk4 => args_nil (C.newList (by simp) fun A1 h₂ C2 hA1 => Subscript_ (C2.name hm (wpAny_Slice ?_))))))))))
  rw [evalPart_none, evalPart_some]
  refine wpAny_pure (c_int fun t5 tk5 => wpAny_pure ?_)
  have hsl2 : h₂.IsList sa vs.toArray := hsl.at fun o e => C2.F.keep _ _ e
  refine C2.sliceB hsl2 .none (.int 5 t5) (by simp; (exact Mine.o36 hlen hvl)) fun SL h₃ C3 hSL => ?_
  have hpk := all2_ints (kmk_upto (y := 5) hI (by decide))
  have hpz := hpk.length
  refine C3.catL (lk_fc hSL lk_cons_eq) lk_cons_eq (by simp at hpz ⊢; (exact Mine.o37 hpz)) fun A2 h₄ C4 hA2 => ?_
  refine List_ (args_cons (c_int fun t3 tk3 => args_cons (c_int fun t6 tk6 => args_cons (c_int fun t51 tk51 => args_nil (C4.newList (by simp) fun A3 h₅ C5 hA3 => ?_)))))
  refine C5.catL (lk_fc hA3 lk_cons_eq) lk_cons_eq (by simp at hpz ⊢; (exact Mine.o40 hpz)) fun NM h₆ C6 hNM => C6.store fun h₇ tk₇ C7 => ?_
  have e5 : All2 IsI (slicePick vs.toArray none (some 5) none).toList (ns0.take 5) := hpk
  obtain ⟨G7, C7, k7, nits, nn, hNl, hNA⟩ := C7.gen (P := fun G' => (∀ b o, lk G1 b = some o → lk G' b = some o) ∧ ∃ its n, lk G' NM = some (listOf its n) ∧ All2 IsI its.toList (numsOf ns0)) ⟨fun b o hb => lk_fc hNM (lk_fc hA3 (lk_fc hA2 (lk_fc hSL (lk_fc hA1 hb)))), _, _, lk_cons_eq, ((All2.cons ⟨t9, rfl⟩ (.cons ⟨t4, rfl⟩ .nil)).append e5).append (.cons ⟨t3, rfl⟩ (.cons ⟨t6, rfl⟩ (.cons ⟨t51, rfl⟩ .nil)))⟩
  have hnl := nums_len ns0
  have hW := well_law (ns := numsOf ns0) (Mine.o5 hnl.1)
  have h2E := ends_two ns0
  have hneedl : (needsOf (numsOf ns0)).length = (numsOf ns0).length := by simp [needsOf]
  have hhoursE : hoursOf (numsOf ns0) = (numsOf ns0).map fun x => 1 + (if x < 0 then -x else x).fdiv 4 := rfl
  generalize hns : numsOf ns0 = ns at *
  have hnsz : nits.size = ns.length := by simpa using hNA.length
  -- needs = _law_needs(numbers)
  refine wpAny_execs_cons (wpAny_Assign_Name (C7.callG (g_law_needs w) (kp_202 w) (args_cons (C7.name mset_eq (args_nil ⟨C7.XI, needs_ct C7 hh hNl hNA (Mine.o44 hnl.2) (Mine.o5 hnl.1) (Mine.o46 hd) (Mine.o47 hu) fun h₈ tk₈ G₈ ND dits dn C8 k8 hNd hNr hNdf => C8.storeC (c := L + 1) rfl (k8 _ _ (k7 _ _ hc1)) d1 (fun h₉ oN C9 dN => ?_)⟩)))))
  have hcl1 := k8 _ _ (k7 _ _ hc1)
  (refine Mine.e1a5 (C9.gen (P := fun G' => (∀ b o, lk G7 b = some o → b ≠ L + 1 → lk G' b = some o) ∧ lk G' (L + 1) = some oN ∧ lk G' ND = some (listOf dits dn) ∧ All2 (IsRow G') dits.toList (needsOf ns)) ⟨fun b o hb hne => lk_st_ne hne (k8 b o hb), lk_st_eq, lk_st_ne (fun q => ne_cell hcl1 d1 hNd q.symm) hNd, hNr.mono fun v r ⟨ll, its, n, e1, e2, e3⟩ => ⟨ll, its, n, e1, lk_st_ne (fun q => ne_cell hcl1 d1 e2 q.symm) e2, e3⟩⟩) ?_; rintro G9 C9 k9 cN9 Nd9 Nr9)
  have Nl9 := k9 _ _ hNl (fun q => ne_cell (k7 _ _ hc1) d1 hNl q.symm)
  have c29 := k9 _ _ (k7 _ _ hc2) (fun q => n12 q.symm)
  have c39 := k9 _ _ (k7 _ _ hc3) (fun q => n13 q.symm)
  have T9 := k9 _ _ (k7 _ _ hT) (fun q => by rw [← q, hT] at hc1; cases hc1; cases d1)
  clear k9 hNd hNr hNl C8 k8 C7 k7 hcl1
  have hdsz : dits.size = (needsOf ns).length := by simpa using Nr9.length
  generalize hneeds : needsOf ns = needs at *
  -- hours = [..]
  refine wpAny_execs_cons (comp_asg (cl := []) (by kernel_rfl) rfl rfl (by decide) (C9.name mset_eq ?_))
  refine C9.comp_list (fun i' acc G' => (∀ b o, lk G9 b = some o → lk G' b = some o) ∧ All2 IsI acc ((ns.take i').map fun x => 1 + (if x < 0 then -x else x).fdiv 4)) hh (Mine.o50 hnl.2 hnsz) (fun _ _ _ hj => hj.1 _ _ Nl9) rfl (by decide) rfl ⟨fun _ _ h => h, .nil⟩ ?_ ?_ ?_
  · rintro i' acc G₃ G₄ ⟨z1, z2⟩ u
    exact ⟨fun b o hb => u _ _ (z1 b o hb) (.inl (by rw [hb]; simp)), z2⟩
  · rintro I2 Dc Lc i' v' acc mc G₃ h₁₀ tk₁₀ oI2 oC oD hv' hal ⟨z1, z2⟩ C10 hI2 hDc hL hNs hmc
    obtain ⟨x, hx, tx, rfl⟩ := hNA.getL hv'
    have htk : ns.take (i' + 1) = ns.take i' ++ [x] := by rw [List.take_add_one, hx]; rfl
    refine CTurn.all (wpAny_BinOp (c_int fun ta tka => wpAny_BinOp (C10.cbltn (n_abs w) Boot.abs (args_cons (C10.cname hL hNs hmc (args_nil (call_abs_int fun tb tkb => c_int fun tc tkc => o_div (by decide) (by decide) fun td tkd => o_add fun te tke => ?_)))))))
    refine ⟨_, _, _, rfl, C10, hI2, hDc, hL, z1, ?_⟩
    rw [htk, List.map_append]
    exact z2.snoc ⟨te, rfl⟩
  · rintro HR Lc hacc hn2 mc oC G₃ h₁₀ tk₁₀ hD0 hL0 hDL ⟨z1, z2⟩ C10 hDc hL hNs
    rw [List.take_of_length_le (Mine.o31 hnsz)] at z2
    refine C10.endS (y := Str.ofString "hours") hL hNs fun h₁₁ tk₁₁ C11 => ?_
    (refine Mine.e1a3 (C11.gen (P := fun G' => (∀ b o, lk G9 b = some o → lk G' b = some o) ∧ lk G' HR = some (listOf hacc.toArray hn2)) ⟨fun b o hb => (lk_rm (lk_ne hb hL0)).trans (z1 b o hb), (lk_rm hDL).trans hDc⟩) ?_; rintro G11 C11 k11 H11)
    have hHA : All2 IsI hacc.toArray.toList (hoursOf ns) := by simpa [hhoursE] using z2
    clear hDc hL hNs C10 z1 z2
    -- families = []
    refine wpAny_execs_cons (wpAny_Assign_Name (List_ (args_nil (C11.newList (by simp) fun FM h₁₂ C12 hFM => C12.storeC (c := L + 1 + 1) rfl (lk_fc hFM (k11 _ _ c29)) d2 (fun h₁₃ oF C13 dF => ?_)))))
    have hFMc : FM ≠ L + 1 + 1 := fun q => by rw [q, k11 _ _ c29] at hFM; cases hFM
    (refine Mine.e1a4 (C13.gen (P := fun G' => (∀ b o, lk G11 b = some o → b ≠ L + 1 + 1 → lk G' b = some o) ∧ lk G' (L + 1 + 1) = some oF ∧ lk G' FM = some (listOf #[] 0)) ⟨fun b o hb hne => lk_st_ne hne (lk_fc hFM hb), lk_st_eq, lk_st_ne hFMc lk_cons_eq⟩) ?_; rintro G13 C13 k13 cF13 F13)
    have ncF : ∀ {b : Addr} {its : Array Value} {n : Nat}, lk G11 b = some (listOf its n) → b ≠ L + 1 + 1 := fun {b its n} hb q => ne_cell (k11 _ _ c29) d2 hb q.symm
    have cN13 := k13 _ _ (k11 _ _ cN9) n12
    have Nd13 := k13 _ _ (k11 _ _ Nd9) (ncF (k11 _ _ Nd9))
    have H13 := k13 _ _ H11 (ncF H11)
    have c313 := k13 _ _ (k11 _ _ c39) (fun q => n23 q.symm)
    have T13 := k13 _ _ (k11 _ _ T9) (fun q => by rw [← q, hT] at hc2; cases hc2; cases d2)
    have Nr13 : All2 (IsRow G13) dits.toList needs := Nr9.mono fun v r ⟨ll, its, n, e1, e2, e3⟩ => ⟨ll, its, n, e1, k13 _ _ (k11 _ _ e2) (ncF (k11 _ _ e2)), e3⟩
    -- for j in range(len(needs))
    have hd13 : (needs : List (List Nat)).length = ns.length := hneedl
    refine wpAny_execs_cons (wpAny_For (C13.callT (n_range w) Boot.range (args_cons (C13.callB (n_len w) Boot.len (args_cons (C13.nameC (c := L + 1) rfl cN13 dN (args_nil (C13.len Nd13 (Mine.o60 hnl.2 hdsz hd13) fun _ _ => args_nil (C13.range fun r h₁₄ tk₁₄ u1 u2 u3 C14 hr14 => ?_)))))))))
    rw [hdsz] at hr14
    have hFMN : FM ≠ ND := fun q => by rw [q, k11 _ _ Nd9] at hFM; cases hFM
    refine C14.for_rangeK (cA := L + 1 + 1 + 1) (fun i m₂ G₂ => (∀ x, x ≠ Str.ofString "j" → m₂ x = mset (mset m1 (Str.ofString "numbers") (.ref NM)) (Str.ofString "hours") (.ref HR) x) ∧ (∀ b o, lk G13 b = some o → b ≠ FM → b ≠ L + 1 + 1 + 1 → lk G₂ b = some o) ∧ IsCellAt G₂ (L + 1 + 1 + 1) ∧ ∃ its n, lk G₂ FM = some (listOf its n) ∧ All2 (fun v r => ∃ ll its n, v = .ref ll ∧ ll ≠ FM ∧ lk G₂ ll = some (listOf its n) ∧ All2 IsI its.toList r) its.toList ((List.range i).map (famOf needs)))
      hh hr14 (Mine.o62 hnl.2 hd13) ⟨fun _ _ => rfl, fun _ _ h _ _ => h, ⟨o3, _, c313, d3⟩, _, _, F13, .nil⟩ rfl rfl (fun _ _ _ hj => hj.2.2.1) ?_ ?_ ?_
    · rintro i m₂ G₂ G₃ hZ1 u hc
      obtain ⟨q1, q2, q3, its, n, q5, q6⟩ := hZ1
      have nc : ∀ {b : Addr} {its : Array Value} {n : Nat}, lk G₂ b = some (listOf its n) → b ≠ L + 1 + 1 + 1 := fun {b its n} hb q => by
        (refine Mine.e2a2 q3 ?_; clear q3; rintro oc vc e1 e2)
        exact ne_cell e1 e2 hb q.symm
      exact ⟨q1, fun b o hb h1 h2 => u _ _ (q2 b o hb h1 h2) h2 (.inl (by rw [hb]; simp)), hc, its, n, u _ _ q5 (nc q5) (.inr (by simp)), q6.mono fun v r ⟨ll, it, k, e1, e2, e3, e4⟩ => ⟨ll, it, k, e1, e2, u _ _ e3 (nc e3) (.inr (by simp)), e4⟩⟩
    · rintro j tv m₂ G₂ h₁₅ tk₁₅ I oI hj hZ2 C15 hZ3 hI ⟨vsI, hIf⟩ hI0
      obtain ⟨q1, q2, q3, its, n, q5, q6⟩ := hZ2
      (refine Mine.e1a2 hZ3 ?_; clear hZ3; rintro oc hoc dc)
      have nFc : ∀ {b : Addr} {o : Obj} {v : Option Value}, lk G13 b = some o → o.data = .cell v → b ≠ FM := fun {b o v} hb hdd => ne_cell hb hdd F13
      have cN15 := q2 _ _ cN13 (nFc cN13 dN) n13
      have cF15 := q2 _ _ cF13 (nFc cF13 dF) n23
      have l3 : ∀ {b : Addr} {its : Array Value} {n : Nat}, lk G13 b = some (listOf its n) → b ≠ L + 1 + 1 + 1 := fun {b its n} hb q => ne_cell c313 d3 hb q.symm
      have Nd15 := q2 _ _ Nd13 (fun q => hFMN q.symm) (l3 Nd13)
      have hisz : its.size = j := by
        have := q6.length
        simp at this; (exact Mine.o63 this)
      refine wpAny_execs_cons (wpAny_Expr (MethodCall_ (C15.nameC (c := L + 1 + 1) rfl cF15 dF (C15.listMeth q5 PySem.F.slot_list_append PySem.F.type_list_append (callWith_method1 (args_cons (wpAny_BinOp (comp_ev (cl := [(Str.ofString "needs", L + 1), (Str.ofString "j", L + 1 + 1 + 1)]) rfl rfl (by decide) ?_))))))))
      refine C15.callT (n_range w) Boot.range (args_cons (C15.callB (n_len w) Boot.len (args_cons (C15.nameC (c := L + 1) rfl cN15 dN (args_nil (C15.len Nd15 (Mine.o60 hnl.2 hdsz hd13) fun _ _ => args_nil (C15.range fun r2 h₁₆ tk₁₆ u4 u5 u6 C16 hr16 => ?_)))))))
      rw [hdsz] at hr16
      refine C16.comp_range (fun i' acc G' => (∀ b o, lk G₂ b = some o → lk G' b = some o) ∧ All2 IsN acc ((List.range i').filter fun k => decide (j ∈ rowAt needs k))) hh (Mine.o50 hnl.2 hd13) hr16 rfl (by decide) rfl ⟨fun _ _ h => h, .nil⟩ ?_ ?_ ?_
      · rintro i' acc G₃ G₄ ⟨z1, z2⟩ u
        exact ⟨fun b o hb => u _ _ (z1 b o hb) (.inl (by rw [hb]; simp)), z2⟩
      · rintro I2 Dc Lc k tk2 acc mc G₃ h₁₇ tk₁₇ oI2 oC oD hk hal ⟨z1, z2⟩ C17 hI2 hDc hL hNs hmc
        obtain ⟨row, hrw⟩ : ∃ row, needs[k]? = some row := ⟨needs[k], by simp [hk]⟩
        have hrowAt : rowAt needs k = row := by unfold rowAt; simp [List.getD, hrw]
        obtain ⟨rv, hrv, rl, rits, rn, rfl, hrl, hra⟩ := Nr13.get hrw
        have hrl2 := z1 _ _ (q2 _ _ hrl (fun q => by
          have h1 := Nr9.get hrw
          obtain ⟨rv', hrv', rl', rits', rn', e1, e2, _⟩ := h1
          rw [hrv] at hrv'
          have h2 := Option.some.inj hrv'
          rw [e1] at h2
          have h3 : rl = rl' := Value.ref.inj h2
          rw [← q, h3, k11 _ _ e2] at hFM; cases hFM) (l3 hrl))
        refine CTurn.one (wpAny_isTrue_Compare1 (C17.ccell (c := L + 1 + 1 + 1) rfl (z1 _ _ hoc) dc (Subscript_ (C17.ccell (c := L + 1) rfl (z1 _ _ cN15) dN (C17.cname hL hNs hmc (C17.itemN (z1 _ _ Nd15) (Mine.o64 hnl.2 hd13 hk) hrv (C17.inL hrl2 hra.nat (wpAny_truthy_bool ?_))))))))
        have hb : decide ((j : Int) ∈ row.map fun k : Nat => (k : Int)) = decide (j ∈ rowAt needs k) := by
          rw [hrowAt]
          refine decide_eq_decide.mpr ⟨fun h => ?_, fun h => List.mem_map.mpr ⟨_, h, rfl⟩⟩
          (refine Mine.e1a2 (List.mem_map.mp h) ?_; rintro k' hk' e)
          rw [← Int.ofNat.inj e]; exact hk'
        rw [hb, List.range_succ, List.filter_append]
        by_cases q : j ∈ rowAt needs k
        · rw [if_pos (by simpa using q), List.filter_cons_of_pos (by simpa using q)]
          exact C17.cname hL hNs hmc ⟨_, _, _, rfl, C17, hI2, hDc, hL, z1, z2.snoc ⟨tk2, rfl⟩⟩
        · rw [if_neg (by simpa using q), List.filter_cons_of_neg (by simpa using q)]
          exact ⟨_, _, _, rfl, C17, hI2, hDc, hL, z1, by simpa using z2⟩
      · rintro KL Lc kacc kn mc oC G₃ h₁₇ tk₁₇ hD0 hL0 hDL ⟨z1, z2⟩ C17 hDc hL hNs
        refine C17.endV hL hNs fun h₁₈ C18 => ?_
        (refine Mine.e1a3 (C18.gen (P := fun G' => (∀ b o, lk G₂ b = some o → lk G' b = some o) ∧ lk G' KL = some (listOf kacc.toArray kn)) ⟨fun b o hb => (lk_rm (lk_ne hb hL0)).trans (z1 b o hb), (lk_rm hDL).trans hDc⟩) ?_; rintro G18 C18 k18 D18)
        refine List_ (args_cons (wpAny_BinOp (wpAny_UnaryOp (c_int fun ta tka => o_neg fun tb tkb => C18.nameC (c := L + 1 + 1 + 1) rfl (k18 _ _ hoc) dc (o_sub fun tc tkc => args_nil (C18.newList (by simp) fun ML h₁₉ C19 hML => ?_))))))
        have hkl := z2.length
        have hkl2 : kacc.length ≤ needs.length := by
          have := List.length_filter_le (fun k => decide (j ∈ rowAt needs k)) (List.range needs.length)
          simp only [List.length_range] at this
          (exact Mine.o65 hkl this)
        refine C19.catL (lk_fc hML D18) lk_cons_eq (by simp; (exact Mine.o66 hnl.2 hd13 hkl2)) fun CL h₂₀ C20 hCL => args_nil (C20.append (lk_fc hCL (lk_fc hML (k18 _ _ q5))) (Mine.o67 hnl.2 hd13 hj hisz) fun h₂₁ C21 => ?_)
        have hFC : CL ≠ FM := fun q => by rw [q, lk_fc hML (k18 _ _ q5)] at hCL; cases hCL
        have hfam : All2 IsI (kacc ++ [Value.int (-1 - (j : Int)) tc]) (famOf needs j) := by
          unfold famOf
          exact z2.nat.append (.cons ⟨tc, rfl⟩ .nil)
        obtain ⟨G21, C21, kk, F21, ci, ck, CL21, hci⟩ := C21.gen (P := fun G' => (∀ b o, lk G₂ b = some o → b ≠ FM → lk G' b = some o) ∧ lk G' FM = some (listOf (its.push (.ref CL)) (n + 1)) ∧ ∃ it k, lk G' CL = some (listOf it k) ∧ All2 IsI it.toList (famOf needs j)) ⟨fun b o hb hne => lk_st_ne hne (lk_fc hCL (lk_fc hML (k18 _ _ hb))), lk_st_eq, _, _, lk_st_ne hFC lk_cons_eq, by simpa using hfam⟩
        refine wpAny_execs_nil ⟨_, _, _, _, rfl, C21, kk _ _ hI (fun q => by rw [q, q5] at hI; cases hI; cases hIf), q1, fun b o hb h1 h2 => kk _ _ (q2 b o hb h1 h2) h1, ⟨oc, _, kk _ _ hoc (ne_cell hoc dc q5), dc⟩, _, _, F21, ?_⟩
        rw [List.range_succ, List.map_append, Array.toList_push]
        exact (q6.mono fun v r ⟨ll, it, k, e1, e2, e3, e4⟩ => ⟨ll, it, k, e1, e2, kk _ _ e3 e2, e4⟩).snoc ⟨CL, ci, ck, rfl, hFC, CL21, hci⟩
    · rintro m₂ G₂ h₁₅ tk₁₅ hZ4 C15
      obtain ⟨q1, q2, q3, fits, fn, q5, q6⟩ := hZ4
      have nFc : ∀ {b : Addr} {o : Obj} {v : Option Value}, lk G13 b = some o → o.data = .cell v → b ≠ FM := fun {b o v} hb hdd => ne_cell hb hdd F13
      have l3 : ∀ {b : Addr} {its : Array Value} {n : Nat}, lk G13 b = some (listOf its n) → b ≠ L + 1 + 1 + 1 := fun {b its n} hb q => ne_cell c313 d3 hb q.symm
      have cN15 := q2 _ _ cN13 (nFc cN13 dN) n13
      have cF15 := q2 _ _ cF13 (nFc cF13 dF) n23
      have Nd15 := q2 _ _ Nd13 (fun q => hFMN q.symm) (l3 Nd13)
      have hHF : HR ≠ FM := fun q => by rw [← q, H11] at hFM; cases hFM
      have H15 := q2 _ _ H13 hHF (l3 H13)
      have T15 := q2 _ _ T13 (fun q => by rw [q, F13] at T13; cases T13) (fun q => by rw [q, c313] at T13; cases T13; cases d3)
      have Nr15 : All2 (IsRow G₂) dits.toList needs := by
        have := Nr13.both Nr9
        exact this.mono fun v r ⟨⟨ll, it, k, e1, e2, e3⟩, ⟨ll', it', k', e1', e2', _⟩⟩ => ⟨ll, it, k, e1, q2 _ _ e2 (fun q => by
          rw [e1] at e1'
          have h3 : ll = ll' := Value.ref.inj e1'
          rw [← q, h3, k11 _ _ e2'] at hFM; cases hFM) (l3 e2), e3⟩
      have hmH : m₂ (Str.ofString "hours") = some (.ref HR) := (q1 _ (by decide)).trans mset_eq
      have hfsz : fits.size = needs.length := by
        have := q6.length
        simp at this; (exact Mine.o63 this)
      have Fr15 : All2 (IsRowI G₂) fits.toList ((List.range needs.length).map (famOf needs)) := by
        have := q6.mono (S := IsRowI G₂) fun v r ⟨ll, it, k, e1, _, e3, e4⟩ => ⟨ll, it, k, e1, e3, e4⟩
        exact this
      clear q6 q1 Nr13 Nr9 k13 k11 C14 hr14 C13 C12 C11
      obtain ⟨Es, S⟩ := sit_exists hW
      have hEl := S.E_len
      have hdl : (dueLog needs (endsOf needs (hoursOf ns)) Es).length = Es.length := by simp [dueLog]
      have hrowm : ∀ row ∈ needs, ∃ k, rowAt needs k = row := fun row hr => by
        obtain ⟨k, hk, e⟩ := List.getElem_of_mem hr
        exact ⟨k, by unfold rowAt; simp [List.getD, hk, e]⟩
      have hrow : ∀ row ∈ needs, row.length ≤ 100 ∧ ∀ p ∈ row, p < needs.length := fun row hr => by
        obtain ⟨k, rfl⟩ := hrowm row hr
        have h1 := nodup_len (hW.nd k) (hW.lt k)
        exact ⟨by (exact Mine.o70 hnl.2 hd13 h1), hW.lt k⟩
      -- ring, log = _law_run(needs, hours)
      refine wpAny_execs_cons (Assign_Tuple (C15.callG (g_law_run w) (kp_209 w) (args_cons (C15.nameC (c := L + 1) rfl cN15 dN (args_cons (C15.name hmH (args_nil ⟨C15.XI, run_ct C15 hh Nd15 Nr15 H15 hHA hW.len (Mine.o72 hnl.2 hd13) hrow (fun k _ x hx => ((su_mem hW).mp hx).1) (S.log (Mine.o72 hnl.2 hd13)) (Mine.o73 hnl.2 hd13 hEl hdl) (Mine.o75 hd) (Mine.o76 hu) fun gb' h₁₆ tk₁₆ G₁₆ T n ring LL lits ln Tn C16 k16 hT16 hLL hlog hring hLLn => ?_⟩)))))))
      refine assign_Tuple_tuple hh (C16.isTuple hT16) rfl rfl fun h₁₇ hex => ?_
      have C17 := C16.ext hex
      show wpAny _ _ (assignInOrder (_ :: _ :: []) (Value.bool ring :: Value.ref LL :: [])) _ _ _
      refine assignInOrder_cons (assign_Name (C17.store fun h₁₈ tk₁₈ C18 => assignInOrder_cons (assign_Name (C18.store fun h₁₉ tk₁₉ C19 => assignInOrder_nil ?_))))
      have hringE : (ring = decide (Es.length < needs.length)) := by
        cases ring with
        | true => rw [if_pos rfl] at hring; exact (decide_eq_true (S.ring hring)).symm
        | false => rw [if_neg (by decide)] at hring; exact (decide_eq_false (by have := S.noring hring; (exact Mine.o79 this))).symm
      have hLsz : lits.size = Es.length := by
        have := hlog.length
        simp only [Array.length_toList] at this
        (exact Mine.o80 hdl this)
      have hEwk : ∀ e ∈ dueLog needs (endsOf needs (hoursOf ns)) Es, e.2.2 < needs.length := fun e he => by
        (refine Mine.e1a2 (List.mem_map.mp he) ?_; rintro i hi rfl)
        exact S.wk_lt (List.mem_range.mp hi)
      -- table = _law_table([..])
      refine wpAny_execs_cons (wpAny_Assign_Name (C19.callG (g_law_table w) (kp_216 w) (args_cons ?_)))
      refine C19.comp_listT (cl := [(Str.ofString "families", L + 1 + 1)]) (fun i acc G' => (∀ b o, lk G₁₆ b = some o → lk G' b = some o) ∧ All2 (fun v (e : LogE) => fits.toList[e.2.2]? = some v) acc ((dueLog needs (endsOf needs (hoursOf ns)) Es).take i)) hh (Mine.o86 hnl.2 hd13 hEl hLsz) (fun _ _ _ hj => hj.1 _ _ hLL) (fun i v G' acc hv hj => ?_) rfl rfl rfl (by decide) rfl ⟨fun _ _ h => h, .nil⟩ rfl (by decide) ?_ ?_ ?_ (fun Q' hQ => C19.name mset_eq hQ)
      · obtain ⟨e, he, t, n, T, its, k, th, tw, rfl, x1, _⟩ := hlog.getL hv
        exact ⟨t, n, _, _, _, rfl, hj.1 _ _ x1⟩
      · rintro i' acc G₃ G₄ ⟨z1, z2⟩ u
        exact ⟨fun b o hb => u _ _ (z1 b o hb) (.inl (by rw [hb]; simp)), z2⟩
      · rintro I2 Dc Lc i' TT nT v1 v2 v3 acc mc G₃ h₂₀ tk₂₀ oI2 oC oD hv' hTT hal ⟨z1, z2⟩ C20 hI2 hDc hL hNs hmc
        obtain ⟨e, he, t, n, T', its, k, th, tw, e1, x1, _⟩ := hlog.getL hv'
        cases e1
        have x1' := z1 _ _ x1
        rw [hTT] at x1'
        cases x1'
        have hwk := hEwk e (List.mem_of_getElem? he)
        have hfe : fits.toList[e.2.2]? = some (fits.toList[e.2.2]'(by simp; (exact Mine.o35 hfsz hwk))) := by simp
        refine Subscript_ (C20.ccell (c := L + 1 + 1) rfl (z1 _ _ (k16 _ _ cF15)) dF (C20.cname hL hNs hmc (C20.itemN (z1 _ _ (k16 _ _ q5)) (Mine.o64 hnl.2 hd13 hwk) hfe ⟨_, _, _, rfl, C20, hI2, hDc, hL, z1, ?_⟩)))
        rw [List.take_add_one, he]
        exact z2.snoc hfe
      · rintro WL wacc wn G₃ h₂₀ tk₂₀ hD0 ⟨z1, z2⟩ C20 hDc
        rw [List.take_of_length_le (Mine.o87 hdl hLsz)] at z2
        refine args_nil ⟨C20.XI, ?_⟩
        have hwacc : wacc = (dueLog needs (endsOf needs (hoursOf ns)) Es).map fun e => fits.toList.getD e.2.2 Value.none := by
          clear hDc hlog hLsz hdl hEwk
          generalize dueLog needs (endsOf needs (hoursOf ns)) Es = dl at *
          induction z2 with
          | nil => rfl
          | cons r _ ih =>
            rw [List.map_cons, ← ih]
            congr 1
            rw [List.getD_eq_getElem?_getD, r]; rfl
        have hrows : All2 (IsRowI G₃) wacc.toArray.toList ((dueLog needs (endsOf needs (hoursOf ns)) Es).map fun e => famOf needs e.2.2) := by
          have : ∀ (ws : List Value) (dl : List LogE), All2 (fun v (e : LogE) => fits.toList[e.2.2]? = some v) ws dl → (∀ e ∈ dl, e.2.2 < needs.length) → All2 (IsRowI G₃) ws (dl.map fun e => famOf needs e.2.2) := by
            intro ws dl h
            induction h with
            | nil => intro _; exact .nil
            | cons r _ ih =>
              intro hlt
              refine .cons ?_ (ih fun e he => hlt e (.tail _ he))
              rename_i v0 e0 _ _ _
              obtain ⟨v, hv, ll, it, k, e1, e2, e3⟩ := Fr15.get (i := e0.2.2) (b := famOf needs e0.2.2) (by simp [hlt e0 (.head _)])
              rw [r] at hv
              have := Option.some.inj hv
              subst this
              exact ⟨ll, it, k, e1, z1 _ _ (k16 _ _ e2), e3⟩
          simpa using this _ _ z2 hEwk
        refine table_ct C20 hh (z1 _ _ (k16 _ _ T15)) hDc hrows (by simp; (exact Mine.o88 hnl.2 hd13 hEl hdl)) (fun row hr => ?_) (Mine.o75 hd) (Mine.o76 hu) fun h₂₁ tk₂₁ G₂₁ TB C21 k21 hT21 hTB => C21.store fun h₂₂ tk₂₂ C22 => ?_
        · (refine Mine.e1a2 (List.mem_map.mp hr) ?_; rintro e he rfl)
          have := fam_len (needs := needs) (j := e.2.2)
          (exact Mine.o89 hnl.2 hd13 this)
        · have hlogG : All2 (IsLog G₂₁) lits.toList (dueLog needs (endsOf needs (hoursOf ns)) Es) := hlog.mono fun v e h => h.keep fun b its n hb => k21 _ _ (z1 _ _ hb) (fun q => by rw [q, k16 _ _ T15] at hb; cases hb)
          have ne211 : ∀ {b : Addr} {o : Obj}, lk G₂ b = some o → (∀ ps, o ≠ tabObj ps) → lk G₂₁ b = some o := fun {b o} hb hne => k21 _ _ (z1 _ _ (k16 _ _ hb)) (fun q => by rw [q, T15] at hb; cases hb; exact hne _ rfl)
          have cN21 := ne211 cN15 (fun ps q => by rw [q] at dN; cases dN)
          have cF21 := ne211 cF15 (fun ps q => by rw [q] at dF; cases dF)
          have Nd21 := ne211 Nd15 (fun ps q => by cases q)
          have H21 := ne211 H15 (fun ps q => by cases q)
          have F21 := ne211 q5 (fun ps q => by cases q)
          have LL21 := k21 _ _ (z1 _ _ hLL) (fun q => by rw [q, k16 _ _ T15] at hLL; cases hLL)
          have Nr21 : All2 (IsRow G₂₁) dits.toList needs := Nr15.mono fun v r ⟨ll, it, k, e1, e2, e3⟩ => ⟨ll, it, k, e1, ne211 e2 (fun ps q => by cases q), e3⟩
          have Fr21 : All2 (IsRowI G₂₁) fits.toList ((List.range needs.length).map (famOf needs)) := Fr15.mono fun v r ⟨ll, it, k, e1, e2, e3⟩ => ⟨ll, it, k, e1, ne211 e2 (fun ps q => by cases q), e3⟩
          have hmH2 : mset (mset (mset m₂ (Str.ofString "ring") (.bool ring)) (Str.ofString "log") (.ref LL)) (Str.ofString "table") (.ref TB) (Str.ofString "hours") = some (.ref HR) := mset_ne (by decide) (mset_ne (by decide) (mset_ne (by decide) hmH))
          have hrow1 : ∀ row ∈ needs, row.length ≤ 100 := fun row hr => (hrow row hr).1
          -- due, pairs = _law_due(needs, _law_ends(needs, hours), families)
          refine wpAny_execs_cons (Assign_Tuple (C22.callG (g_law_due w) (kp_226 w) (args_cons (C22.nameC (c := L + 1) rfl cN21 dN (args_cons (C22.callG (g_law_ends w) (kp_221 w) (args_cons (C22.nameC (c := L + 1) rfl cN21 dN (args_cons (C22.name hmH2 (args_nil ⟨C22.XI, ends_ct C22 hh Nd21 Nr21 H21 hHA hW.len (Mine.o95 hnl.2 hd13) hrow1 (Mine.o46 hd) (Mine.o76 hu) fun h₂₃ tk₂₃ G₂₃ DE kvs C23 k23 hDE hKV hDEn => ?_⟩)))))))))))
          refine args_cons (C23.nameC (c := L + 1 + 1) rfl (k23 _ _ cF21) dF (args_nil ⟨C23.XI, ?_⟩))
          have hEN := EInv.all (needs := needs) (hours := hoursOf ns) needs.length
          have hEl2 : Es.length = (endsOf needs (hoursOf ns)).length := by rw [S.pm.length_eq]; simp
          refine due_ct C23 hh (k23 _ _ Nd21) (Nr21.mono fun v r ⟨ll, it, k, e1, e2, e3⟩ => ⟨ll, it, k, e1, k23 _ _ e2, e3⟩) hDE hKV (k23 _ _ F21) (Fr21.mono fun v r ⟨ll, it, k, e1, e2, e3⟩ => ⟨ll, it, k, e1, k23 _ _ e2, e3⟩) (Mine.o95 hnl.2 hd13) hrow1 h2E (Mine.o103 hnl.2 hd13 hEl hEl2) hEN.lt (fun p hp => mem_eget hEN.nd hp) S.pm S.pw (fun p hp k hk hw => ?_) (Mine.o46 hd) (Mine.o76 hu) fun h₂₄ tk₂₄ G₂₄ T2 n2 DL dlits dn2 PP pits pn C24 k24 hT24 hDL24 hdl24 hPP24 hpp24 => ?_
          · (refine Mine.e2a2 (S.mem.mp hp) ?_; rintro k' e rfl he)
            exact S.last hw (by simp [he])
          · refine assign_Tuple_tuple hh (C24.isTuple hT24) rfl rfl fun h₂₅ hex2 => ?_
            have C25 := C24.ext hex2
            show wpAny _ _ (assignInOrder (_ :: _ :: []) (Value.ref DL :: Value.ref PP :: [])) _ _ _
            refine assignInOrder_cons (assign_Name (C25.store fun h₂₆ tk₂₆ C26 => assignInOrder_cons (assign_Name (C26.store fun h₂₇ tk₂₇ C27 => assignInOrder_nil ?_))))
            have kk : ∀ b o, lk G₂₁ b = some o → lk G₂₄ b = some o := fun b o hb => k24 _ _ (k23 _ _ hb)
            have hdlz : dlits.size = Es.length := by
              have := hdl24.length
              simp only [Array.length_toList] at this
              (exact Mine.o80 hdl this)
            -- return ..
            refine wpAny_execs_cons (wpAny_Return_some (BoolOp_and (wpAny_Compare1 (C27.name (mset_ne (by decide) (mset_ne (by decide) (mset_ne (by decide) (mset_ne (by decide) mset_eq)))) ?_))))
            refine wpAny_Compare1 (C27.callB (n_len w) Boot.len (args_cons (C27.name (mset_ne (by decide) mset_eq) (args_nil (C27.len hDL24 (Mine.o116 hnl.2 hd13 hEl hdlz) fun ta tka => C27.callB (n_len w) Boot.len (args_cons (C27.nameC (c := L + 1) rfl (kk _ _ cN21) dN (args_nil (C27.len (kk _ _ Nd21) (Mine.o60 hnl.2 hdsz hd13) fun tb tkb => lt_int (eq_bool (wpAny_truthy_bool ?_)))))))))))
            have hb1 : (ring == decide ((dlits.size : Int) < (dits.size : Int))) = true := by
              rw [hringE, hdlz, hdsz]
              simp
            rw [hb1, if_pos rfl]
            refine BoolOp_and (wpAny_Compare1 (C27.name (mset_ne (by decide) (mset_ne (by decide) (mset_ne (by decide) mset_eq))) (C27.name (mset_ne (by decide) mset_eq) (C27.eqLogs (kk _ _ LL21) hDL24 (hlogG.mono fun v e h => h.keep fun b its n hb => kk _ _ hb) hdl24 (Mine.o121 hu) (wpAny_truthy_bool ?_)))))
            rw [if_pos rfl]
            have hTB24 : IsDict w G₂₄ TB (tabV (wacc.toArray.toList.zip ((dueLog needs (endsOf needs (hoursOf ns)) Es).map fun e => famOf needs e.2.2))) := hTB.keep fun o ho => kk _ _ ho
            have hzip : wacc.toArray.toList.zip ((dueLog needs (endsOf needs (hoursOf ns)) Es).map fun e => famOf needs e.2.2) = (Es.map fun p => p.2.toNat).map fun w => (fits.toList.getD w Value.none, famOf needs w) := by
              rw [hwacc, List.toList_toArray, List.zip_map', List.map_map]
              refine List.ext_getElem (by simp [dueLog]) fun i h1 h2 => ?_
              have hi : i < Es.length := by simpa using h2
              simp [dueLog, hi]
            rw [hzip, S.tab] at hTB24
            have hpl := pairs_len (needs := needs) (l := endsOf needs (hoursOf ns)) Es []
            have hpl2 : Es.length * (needs.length + 1) ≤ 10 * 11 := Nat.mul_le_mul (Mine.o123 hnl.2 hneedl hEl) (Mine.o125 hnl.2 hneedl)
            refine BoolOp_one (wpAny_Compare1 (C27.callT (n_list w) Boot.list (args_cons (MethodCall_ (C27.name (mset_ne (by decide) (mset_ne (by decide) mset_eq)) (C27.itemsM hTB24 (callWith_method0 (C27.items hTB24 fun IV h₂₈ C28 hIV => args_nil ?_))))))))
            refine C28.listItems hh (hTB24.keep fun o ho => lk_fc hIV ho) lk_cons_eq (by simp only [List.length_map, duePairs]; simp at hpl; (exact Mine.o135 hpl2 hpl)) fun SX acc as h₂₉ tk₂₉ C29 hSX hacc2 hasl hKG hltS => ?_
            refine C29.name mset_eq (C29.eqItems hSX hacc2 hasl hKG hltS (lk_fc hIV hPP24) (hpp24.mapR fun v p ⟨t, tv, n, fv, e1, e2, e3⟩ => ⟨t, tv, n, e1, ?_⟩) (Mine.o121 hu) ?_)
            · have hfv : fits.toList.getD p.2 Value.none = fv := by rw [List.getD_eq_getElem?_getD, e3]; rfl
              show lk _ t = some (tupOf #[Value.int p.1 tv, fits.toList.getD p.2 Value.none] n)
              rw [hfv]
              exact lk_fc hIV e2
            · obtain ⟨ps, hps⟩ := hT21
              exact ret gb' _ _ _ _ Tn C29 ⟨ps, lk_fc hIV (kk _ _ hps)⟩
end
end Mine
end TLw2

section TFin1
open PySem PySem.W PyProof.Rows PySem.Calls
set_option maxRecDepth 100000
namespace Mine
theorem nd_start {L : Nat} {a b c d : Obj} (h : 211 < L) : ND [(L + 1 + 1 + 1, a), (L + 1 + 1, b), (L + 1, c), (211, d)] := by
  unfold ND
  simp only [List.map_cons, List.map_nil]
  rw [List.nodup_cons, List.nodup_cons, List.nodup_cons]
  simp
  omega
theorem cx_start {w : World} {L fa : Addr} {cd : Value} {gb h₁ : Heap} {m1 : Str → Option Value} {a b c : Obj} {mean : ExcName → Option Value} {mg mb : Str → Option Value}
    (K : Below callerA gb [] gb) (X : (Mine.hd.heap_1 w.params).In gb) (T : Top topProg LS mean mg mb gb) (F : Fr gb L h₁ m1) (N : News gb L h₁ [(L + 1 + 1 + 1, a), (L + 1 + 1, b), (L + 1, c), (211, tabObj #[])]) (h : 211 < L) :
    Cx w (callerA.deeper (envOfC lawDef.name lawDef.scope L fa cd)) (envOfC lawDef.name lawDef.scope L fa cd) gb h₁ m1 [(L + 1 + 1 + 1, a), (L + 1 + 1, b), (L + 1, c), (211, tabObj #[])] :=
  ⟨⟨callerA, gb, [], K, rfl, X, ⟨mean, mg, mb, T⟩, fun b hb => by cases hb⟩, F, N, nd_start h, X, ⟨mean, mg, mb, T⟩, rfl, rfl⟩
theorem law_end {w : World} {L fa : Addr} {cd : Value} {gb gb' h' : Heap} {m' : Str → Option Value} {G' : LedT} (Tn : Turn (callerA.deeper (envOfC lawDef.name lawDef.scope L fa cd)) gb gb') (C : Cx w (callerA.deeper (envOfC lawDef.name lawDef.scope L fa cd)) (envOfC lawDef.name lawDef.scope L fa cd) gb' h' m' G') :
    Fr gb L h' m' := by
  have t := Tn _ [] rfl
  exact ⟨C.F.ns, fun b o e => C.F.keep b o (t.other b o e (by simp)), by rw [← t.size]; exact C.F.above⟩
theorem law_units {env : Env} : (callerA.deeper env).units + 200 < cLine := by
  have : cLine = 9900 := rfl
  simp [callerA]
  omega
theorem lk_s1 {L : Nat} {a b c d : Obj} : lk [(L + 1 + 1 + 1, a), (L + 1 + 1, b), (L + 1, c), (211, d)] (L + 1) = some c := lk_cons_ne (by show L + 1 ≠ L + 1 + 1 + 1; (exact Mine.o318)) (lk_cons_ne (by show L + 1 ≠ L + 1 + 1; (exact Mine.o319)) lk_cons_eq)
theorem lk_s2 {L : Nat} {a b c d : Obj} : lk [(L + 1 + 1 + 1, a), (L + 1 + 1, b), (L + 1, c), (211, d)] (L + 1 + 1) = some b := lk_cons_ne (by show L + 1 + 1 ≠ L + 1 + 1 + 1; (exact Mine.o320)) lk_cons_eq
theorem lk_s3 {L : Nat} {a b c d : Obj} : lk [(L + 1 + 1 + 1, a), (L + 1 + 1, b), (L + 1, c), (211, d)] (L + 1 + 1 + 1) = some a := lk_cons_eq
theorem lk_s4 {L : Nat} {a b c d : Obj} (h : 211 < L) : lk [(L + 1 + 1 + 1, a), (L + 1 + 1, b), (L + 1, c), (211, d)] 211 = some d := lk_cons_ne (by show (211 : Nat) ≠ L + 1 + 1 + 1; omega) (lk_cons_ne (by show (211 : Nat) ≠ L + 1 + 1; (exact Mine.o321 h)) (lk_cons_ne (by show (211 : Nat) ≠ L + 1; (exact Mine.o322 h)) lk_cons_eq))
end Mine
set_option maxHeartbeats 8000000 in
theorem PySem.Challenge.cw_oh0057_01_holds : PySem.Challenge.rw_oh0057_01.Holds := by
  refine Mine.hd ⟨Mine.left0, ?_⟩
  k_go0
  rename_i w s₀ s₁ mg mb G Y fa o pm cd doc ho hcd hg X V T B TE TW ns hs hlay0 hL1 hr1 hl2 as1 as2 sa vs as3 hL ra w1 r0 hI hr hc1 hc2 hD h₁ tk₁ oj oF oN dj dF dN X0 X' T' K' F' N' l0
  refine Mine.law_body (ns0 := ns) (sa := sa) (vs := vs) (o1 := oN) (o2 := oF) (o3 := oj) (Mine.cx_start K' X' T' F' N' l0) rfl (by show 1 + claimMargin + 1 + 30 < recursionLimit; decide) Mine.law_units rfl (by assumption) hI (by omega) Mine.lk_s1 dN Mine.lk_s2 dF Mine.lk_s3 dj (Mine.lk_s4 l0) fun gb' h' tk' m' G' Tn C hps => ?_
  obtain ⟨ps, hps⟩ := hps
  have FF := Mine.law_end Tn C
  refine ⟨?_, ⟨ps, C.at hps⟩, trivial⟩
  refine goodW_bool FF hg (raisesW_false ?_) ?_
  · wrow_none_raised
  · wrow_post
end TFin1
