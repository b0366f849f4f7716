import PyProof.Rows.All
import Wide.All
import OpenK.AllK
import Wide.FinOn
import PySem.Challenge.RW_jd0006_01
open PySem PySem.W PySem.Calls PyProof.Rows
set_option Elab.async false
set_option maxRecDepth 100000
set_option maxHeartbeats 0
set_option linter.unusedSimpArgs false
set_option linter.unusedVariables false
open PySem.Str (ofString)
namespace Fb
def tm (s : String) (l : List String) : List String := (l.foldl (fun (x : String × String) b => if x.1 = "" then (b, x.2) else ("", b.intercalate (x.2.splitOn x.1))) ("", s)).2.splitOn " "
def tk (s : String) : List String := tm s ("!~(group ^| « <failIfSuccess ^fail_if_success « <failIfSuccess ^fail_if_success « <show ^show {app~-~) ) $ $ $ ) ) ) » ) » ) ^; <first ^first (null~/~(group ^| « <refine' ^refine'~@~^; <case ^case (null <caseArg (Lean.binderIdent~*~) (null ) ) ) ^=> «~&~{syntheticHole ^?~`~{syntheticHole ^? ^_ )~$~{hole ^_ )~#e~(PySem.W.tacticKpc_turns ^kpc_turns )~#m~(PySem.W.tacticTb_start ^tb_start )~#v~(PySem.W.tacticK_subL ^k_subL )~#r~<withUnfoldingAll ^with_unfolding_all « <tacticRfl ^rfl ) » )~#c~^; <clear ^clear (null F ) ) ^; <intro ^intro (null h t F ) )~#q~^; <intro ^intro (null Q0 q0 ) )~#z~^; <clear ^clear (null q0 ) ) ^; <tacticTry_ ^try « <clear ^clear (null Q0 ) ) » )~«~<tacticSeq <tacticSeq1Indented (null~»~) ) )~<~(Lean.Parser.Tactic.~{~(Lean.Parser.Term.~(~( ~^~^ ~%~% ".splitOn "~")
def tgs (k : String) (H : Lean.Syntax) : String × List (Lean.Name × Array Lean.Syntax) → String → String × List (Lean.Name × Array Lean.Syntax)
 | (p, (n, a) :: st), w =>
  if w = "" then (p, (n, a) :: st)
  else if p = "(" then ("", (w.toName, #[]) :: (n, a) :: st)
  else if p = "" then
   if w = ")" then match st with
    | (m, b) :: r => ("", (m, b.push (.node .none n a)) :: r)
    | _ => ("", [])
   else if w = "(" ∨ w = "^" ∨ w = "%" then (w, (n, a) :: st)
   else ("", (n, a.push (if w = "H" then H else Lean.mkIdent w.toName)) :: st)
  else ("", (n, a.push (if p = "^" then .atom .none w else Lean.mkIdent (.mkSimple (w ++ k)))) :: st)
 | x, _ => x
def tg (s : List String) (H : Lean.Syntax := .missing) : Lean.MacroM Lean.Syntax := do return match (s.foldl (tgs (toString (← Lean.MonadQuotation.getCurrMacroScope)) H) ("", [(`null, #[])])).2 with
 | (_, a) :: _ => a.getD 0 .missing
 | _ => .missing
local macro_rules | `(tactic| kcf_m) => tg (tk "<first ^first (null (group ^| « <simp ^simp <optConfig (null <configItem <posConfigItem ^+ arith ) ) ) ) (null ) (null ^only ) (null ) (null ) ) ^; <done ^done ) » ) (group ^| « <lia ^lia <optConfig (null ) ) ) » ) (group ^| « <omega ^omega <optConfig (null ) ) ) » ) ) )")
section
theorem n_le {a b : Nat} (h : Nat.ble a b = true) : a ≤ b := Nat.le_of_ble_eq_true h
theorem szle {n : Nat} (h : n ≤ 16777216) : n ≤ sizeLine := sizeLine_eq ▸ h
theorem nA {a b c d : Nat} (h : a ≤ b) (k : c ≤ d) : a + c ≤ b + d := Nat.add_le_add h k
theorem nB {a b c d : Nat} (h : a = b) (k : c = d) : a + c = b + d := h ▸ k ▸ rfl
theorem nZ {a b c d : Nat} (h : c ≤ d) (e : a + d ≤ b + c) : a ≤ b := Nat.le_of_add_le_add_right (Nat.le_trans e (Nat.add_le_add_left h b))
theorem nL {a b c d : Nat} (h : c ≤ d) (e : a + 1 + d ≤ b + c) : a < b := nZ h e
theorem nE {a b c d : Nat} (h : c = d) (e : a + d = b + c) : a = b := Nat.add_right_cancel (h ▸ e)
theorem fN {c d : Nat} (h : c ≤ d) (e : d + 1 ≤ c) : False := Nat.lt_irrefl _ (Nat.le_trans e h)
theorem iA {a b c d : Int} (h : a ≤ b) (k : c ≤ d) : a + c ≤ b + d := Int.add_le_add h k
theorem iB {a b c d : Int} (h : a = b) (k : c = d) : a + c = b + d := h ▸ k ▸ rfl
theorem iZ {a b c d : Int} (h : c ≤ d) (e : a + d ≤ b + c) : a ≤ b := Int.le_of_add_le_add_right (Int.le_trans e (Int.add_le_add_left h b))
theorem iL {a b c d : Int} (h : c ≤ d) (e : a + 1 + d ≤ b + c) : a < b := iZ h e
theorem iE {a b c d : Int} (h : c = d) (e : a + d = b + c) : a = b := by kcf_m
theorem fZ {c d : Int} (h : c ≤ d) (e : d + 1 ≤ c) : False := Int.lt_irrefl _ (Int.le_trans e h)
theorem lapp {α : Type} {a b : List α} {n : Nat} (h : a.length + b.length ≤ n) : (a ++ b).length ≤ n := List.length_append ▸ h
theorem cL (a b : Nat) (h : a < b) : (a : Int) < b := Int.ofNat_lt.mpr h
theorem cE (a b : Nat) (h : a ≤ b) : (a : Int) ≤ b := Int.ofNat_le.mpr h
theorem le_a {a b c d : Nat} (h : a + b ≤ c) (e : c ≤ d) : a ≤ d := Nat.le_trans (Nat.le_add_right a b) (Nat.le_trans h e)
theorem le_b {a b c d : Nat} (h : a + b ≤ c) (e : c ≤ d) : b ≤ d := Nat.le_trans (Nat.le_add_left b a) (Nat.le_trans h e)
theorem wpAny_ifn {α : Type} {M : Model} {A : Around} {c : Prop} [Decidable c] {a b : Sem α} {Q : α → Shared → Prop} {E : Value → Shared → Prop} {s : Shared} (h : ¬c) (x : wpAny M A b Q E s) : wpAny M A (if c then a else b) Q E s := by rw [if_neg h]; exact x
theorem wpAny_ifp {α : Type} {M : Model} {A : Around} {c : Prop} [Decidable c] {a b : Sem α} {Q : α → Shared → Prop} {E : Value → Shared → Prop} {s : Shared} (h : c) (x : wpAny M A a Q E s) : wpAny M A (if c then a else b) Q E s := by rw [if_pos h]; exact x
section
variable {P : Prop}
theorem ek0_2 {p0 p1 : Prop} (e : p0 ∧ p1) (k : p0 → p1 → P) : P := k e.1 e.2
theorem ba2 {a b : Bool} (e : (a && b) = true) (k : a = true → b = true → P) : P := ek0_2 (Bool.and_eq_true_iff.mp e) k
theorem ba3 {b1 b2 b3 : Bool} (e : (b1 && b2 && b3) = true) (k : b1 = true → b2 = true → b3 = true → P) : P := ba2 e fun e z => ba2 e fun x1 x2 => k x1 x2 z
theorem ba4 {b1 b2 b3 b4 : Bool} (e : (b1 && b2 && b3 && b4) = true) (k : b1 = true → b2 = true → b3 = true → b4 = true → P) : P := ba2 e fun e z => ba3 e fun x1 x2 x3 => k x1 x2 x3 z
theorem ba5 {b1 b2 b3 b4 b5 : Bool} (e : (b1 && b2 && b3 && b4 && b5) = true) (k : b1 = true → b2 = true → b3 = true → b4 = true → b5 = true → P) : P := ba2 e fun e z => ba4 e fun x1 x2 x3 x4 => k x1 x2 x3 x4 z
theorem ba6 {b1 b2 b3 b4 b5 b6 : Bool} (e : (b1 && b2 && b3 && b4 && b5 && b6) = true) (k : b1 = true → b2 = true → b3 = true → b4 = true → b5 = true → b6 = true → P) : P := ba2 e fun e z => ba5 e fun x1 x2 x3 x4 x5 => k x1 x2 x3 x4 x5 z
theorem ba7 {b1 b2 b3 b4 b5 b6 b7 : Bool} (e : (b1 && b2 && b3 && b4 && b5 && b6 && b7) = true) (k : b1 = true → b2 = true → b3 = true → b4 = true → b5 = true → b6 = true → b7 = true → P) : P := ba2 e fun e z => ba6 e fun x1 x2 x3 x4 x5 x6 => k x1 x2 x3 x4 x5 x6 z
theorem ba8 {b1 b2 b3 b4 b5 b6 b7 b8 : Bool} (e : (b1 && b2 && b3 && b4 && b5 && b6 && b7 && b8) = true) (k : b1 = true → b2 = true → b3 = true → b4 = true → b5 = true → b6 = true → b7 = true → b8 = true → P) : P := ba2 e fun e z => ba7 e fun x1 x2 x3 x4 x5 x6 x7 => k x1 x2 x3 x4 x5 x6 x7 z
theorem ba9 {b1 b2 b3 b4 b5 b6 b7 b8 b9 : Bool} (e : (b1 && b2 && b3 && b4 && b5 && b6 && b7 && b8 && b9) = true) (k : b1 = true → b2 = true → b3 = true → b4 = true → b5 = true → b6 = true → b7 = true → b8 = true → b9 = true → P) : P := ba2 e fun e z => ba8 e fun x1 x2 x3 x4 x5 x6 x7 x8 => k x1 x2 x3 x4 x5 x6 x7 x8 z
theorem ba10 {b1 b2 b3 b4 b5 b6 b7 b8 b9 b10 : Bool} (e : (b1 && b2 && b3 && b4 && b5 && b6 && b7 && b8 && b9 && b10) = true) (k : b1 = true → b2 = true → b3 = true → b4 = true → b5 = true → b6 = true → b7 = true → b8 = true → b9 = true → b10 = true → P) : P := ba2 e fun e z => ba9 e fun x1 x2 x3 x4 x5 x6 x7 x8 x9 => k x1 x2 x3 x4 x5 x6 x7 x8 x9 z
theorem nt {b : Bool} (e : (!b) = true) : b = false := by cases b; rfl; cases e
theorem al {α : Type} {p : α → Bool} {l : List α} (e : l.all p = true) {x : α} (hx : x ∈ l) : p x = true := List.all_eq_true.mp e x hx
theorem bor {a b : Bool} (e : (a || b) = true) : a = true ∨ b = true := Bool.or_eq_true_iff.mp e
theorem ek0_3 {p0 p1 p2 : Prop} (e : p0 ∧ p1 ∧ p2) (k : p0 → p1 → p2 → P) : P := ek0_2 e fun h e => ek0_2 e (k h)
theorem ek0_4 {p0 p1 p2 p3 : Prop} (e : p0 ∧ p1 ∧ p2 ∧ p3) (k : p0 → p1 → p2 → p3 → P) : P := ek0_2 e fun h e => ek0_3 e (k h)
theorem ek0_5 {p0 p1 p2 p3 p4 : Prop} (e : p0 ∧ p1 ∧ p2 ∧ p3 ∧ p4) (k : p0 → p1 → p2 → p3 → p4 → P) : P := ek0_2 e fun h e => ek0_4 e (k h)
theorem ek0_6 {p0 p1 p2 p3 p4 p5 : Prop} (e : p0 ∧ p1 ∧ p2 ∧ p3 ∧ p4 ∧ p5) (k : p0 → p1 → p2 → p3 → p4 → p5 → P) : P := ek0_2 e fun h e => ek0_5 e (k h)
theorem ek0_7 {p0 p1 p2 p3 p4 p5 p6 : Prop} (e : p0 ∧ p1 ∧ p2 ∧ p3 ∧ p4 ∧ p5 ∧ p6) (k : p0 → p1 → p2 → p3 → p4 → p5 → p6 → P) : P := ek0_2 e fun h e => ek0_6 e (k h)
theorem ek0_8 {p0 p1 p2 p3 p4 p5 p6 p7 : Prop} (e : p0 ∧ p1 ∧ p2 ∧ p3 ∧ p4 ∧ p5 ∧ p6 ∧ p7) (k : p0 → p1 → p2 → p3 → p4 → p5 → p6 → p7 → P) : P := ek0_2 e fun h e => ek0_7 e (k h)
theorem ek0_9 {p0 p1 p2 p3 p4 p5 p6 p7 p8 : Prop} (e : p0 ∧ p1 ∧ p2 ∧ p3 ∧ p4 ∧ p5 ∧ p6 ∧ p7 ∧ p8) (k : p0 → p1 → p2 → p3 → p4 → p5 → p6 → p7 → p8 → P) : P := ek0_2 e fun h e => ek0_8 e (k h)
theorem ek1_1 {α : Sort _} {p0 : α → Prop} (e : ∃ x0, p0 x0) (k : ∀ x0, p0 x0 → P) : P := e.elim fun x0 e => k x0 e
theorem ek1_2 {α : Sort _} {p0 p1 : α → Prop} (e : ∃ x0, p0 x0 ∧ p1 x0) (k : ∀ x0, p0 x0 → p1 x0 → P) : P := e.elim fun x0 e => ek0_2 e (k x0)
theorem ek1_3 {α : Sort _} {p0 p1 p2 : α → Prop} (e : ∃ x0, p0 x0 ∧ p1 x0 ∧ p2 x0) (k : ∀ x0, p0 x0 → p1 x0 → p2 x0 → P) : P := e.elim fun x0 e => ek0_3 e (k x0)
theorem ek1_4 {α : Sort _} {p0 p1 p2 p3 : α → Prop} (e : ∃ x0, p0 x0 ∧ p1 x0 ∧ p2 x0 ∧ p3 x0) (k : ∀ x0, p0 x0 → p1 x0 → p2 x0 → p3 x0 → P) : P := e.elim fun x0 e => ek0_4 e (k x0)
theorem ek1_6 {α : Sort _} {p0 p1 p2 p3 p4 p5 : α → Prop} (e : ∃ x0, p0 x0 ∧ p1 x0 ∧ p2 x0 ∧ p3 x0 ∧ p4 x0 ∧ p5 x0) (k : ∀ x0, p0 x0 → p1 x0 → p2 x0 → p3 x0 → p4 x0 → p5 x0 → P) : P := e.elim fun x0 e => ek0_6 e (k x0)
theorem ek2_1 {α β : Sort _} {p0 : α → β → Prop} (e : ∃ x0 x1, p0 x0 x1) (k : ∀ x0 x1, p0 x0 x1 → P) : P := e.elim fun x0 e => e.elim fun x1 e => k x0 x1 e
theorem ek2_2 {α β : Sort _} {p0 p1 : α → β → Prop} (e : ∃ x0 x1, p0 x0 x1 ∧ p1 x0 x1) (k : ∀ x0 x1, p0 x0 x1 → p1 x0 x1 → P) : P := e.elim fun x0 e => e.elim fun x1 e => ek0_2 e (k x0 x1)
theorem ek2_3 {α β : Sort _} {p0 p1 p2 : α → β → Prop} (e : ∃ x0 x1, p0 x0 x1 ∧ p1 x0 x1 ∧ p2 x0 x1) (k : ∀ x0 x1, p0 x0 x1 → p1 x0 x1 → p2 x0 x1 → P) : P := e.elim fun x0 e => e.elim fun x1 e => ek0_3 e (k x0 x1)
theorem ek2_4 {α β : Sort _} {p0 p1 p2 p3 : α → β → Prop} (e : ∃ x0 x1, p0 x0 x1 ∧ p1 x0 x1 ∧ p2 x0 x1 ∧ p3 x0 x1) (k : ∀ x0 x1, p0 x0 x1 → p1 x0 x1 → p2 x0 x1 → p3 x0 x1 → P) : P := e.elim fun x0 e => e.elim fun x1 e => ek0_4 e (k x0 x1)
theorem ek2_5 {α β : Sort _} {p0 p1 p2 p3 p4 : α → β → Prop} (e : ∃ x0 x1, p0 x0 x1 ∧ p1 x0 x1 ∧ p2 x0 x1 ∧ p3 x0 x1 ∧ p4 x0 x1) (k : ∀ x0 x1, p0 x0 x1 → p1 x0 x1 → p2 x0 x1 → p3 x0 x1 → p4 x0 x1 → P) : P := e.elim fun x0 e => e.elim fun x1 e => ek0_5 e (k x0 x1)
theorem ek2_6 {α β : Sort _} {p0 p1 p2 p3 p4 p5 : α → β → Prop} (e : ∃ x0 x1, p0 x0 x1 ∧ p1 x0 x1 ∧ p2 x0 x1 ∧ p3 x0 x1 ∧ p4 x0 x1 ∧ p5 x0 x1) (k : ∀ x0 x1, p0 x0 x1 → p1 x0 x1 → p2 x0 x1 → p3 x0 x1 → p4 x0 x1 → p5 x0 x1 → P) : P := e.elim fun x0 e => e.elim fun x1 e => ek0_6 e (k x0 x1)
theorem ek3_1 {α β δ : Sort _} {p0 : α → β → δ → Prop} (e : ∃ x0 x1 x2, p0 x0 x1 x2) (k : ∀ x0 x1 x2, p0 x0 x1 x2 → P) : P := e.elim fun x0 e => e.elim fun x1 e => e.elim fun x2 e => k x0 x1 x2 e
theorem ek3_2 {α β δ : Sort _} {p0 p1 : α → β → δ → Prop} (e : ∃ x0 x1 x2, p0 x0 x1 x2 ∧ p1 x0 x1 x2) (k : ∀ x0 x1 x2, p0 x0 x1 x2 → p1 x0 x1 x2 → P) : P := e.elim fun x0 e => e.elim fun x1 e => e.elim fun x2 e => ek0_2 e (k x0 x1 x2)
theorem ek3_3 {α β δ : Sort _} {p0 p1 p2 : α → β → δ → Prop} (e : ∃ x0 x1 x2, p0 x0 x1 x2 ∧ p1 x0 x1 x2 ∧ p2 x0 x1 x2) (k : ∀ x0 x1 x2, p0 x0 x1 x2 → p1 x0 x1 x2 → p2 x0 x1 x2 → P) : P := e.elim fun x0 e => e.elim fun x1 e => e.elim fun x2 e => ek0_3 e (k x0 x1 x2)
theorem ek3_4 {α β δ : Sort _} {p0 p1 p2 p3 : α → β → δ → Prop} (e : ∃ x0 x1 x2, p0 x0 x1 x2 ∧ p1 x0 x1 x2 ∧ p2 x0 x1 x2 ∧ p3 x0 x1 x2) (k : ∀ x0 x1 x2, p0 x0 x1 x2 → p1 x0 x1 x2 → p2 x0 x1 x2 → p3 x0 x1 x2 → P) : P := e.elim fun x0 e => e.elim fun x1 e => e.elim fun x2 e => ek0_4 e (k x0 x1 x2)
theorem ek3_5 {α β δ : Sort _} {p0 p1 p2 p3 p4 : α → β → δ → Prop} (e : ∃ x0 x1 x2, p0 x0 x1 x2 ∧ p1 x0 x1 x2 ∧ p2 x0 x1 x2 ∧ p3 x0 x1 x2 ∧ p4 x0 x1 x2) (k : ∀ x0 x1 x2, p0 x0 x1 x2 → p1 x0 x1 x2 → p2 x0 x1 x2 → p3 x0 x1 x2 → p4 x0 x1 x2 → P) : P := e.elim fun x0 e => e.elim fun x1 e => e.elim fun x2 e => ek0_5 e (k x0 x1 x2)
theorem ek3_6 {α β δ : Sort _} {p0 p1 p2 p3 p4 p5 : α → β → δ → Prop} (e : ∃ x0 x1 x2, p0 x0 x1 x2 ∧ p1 x0 x1 x2 ∧ p2 x0 x1 x2 ∧ p3 x0 x1 x2 ∧ p4 x0 x1 x2 ∧ p5 x0 x1 x2) (k : ∀ x0 x1 x2, p0 x0 x1 x2 → p1 x0 x1 x2 → p2 x0 x1 x2 → p3 x0 x1 x2 → p4 x0 x1 x2 → p5 x0 x1 x2 → P) : P := e.elim fun x0 e => e.elim fun x1 e => e.elim fun x2 e => ek0_6 e (k x0 x1 x2)
theorem ek4_1 {α β δ ε : Sort _} {p0 : α → β → δ → ε → Prop} (e : ∃ x0 x1 x2 x3, p0 x0 x1 x2 x3) (k : ∀ x0 x1 x2 x3, p0 x0 x1 x2 x3 → P) : P := e.elim fun x0 e => e.elim fun x1 e => e.elim fun x2 e => e.elim fun x3 e => k x0 x1 x2 x3 e
theorem ek4_2 {α β δ ε : Sort _} {p0 p1 : α → β → δ → ε → Prop} (e : ∃ x0 x1 x2 x3, p0 x0 x1 x2 x3 ∧ p1 x0 x1 x2 x3) (k : ∀ x0 x1 x2 x3, p0 x0 x1 x2 x3 → p1 x0 x1 x2 x3 → P) : P := e.elim fun x0 e => e.elim fun x1 e => e.elim fun x2 e => e.elim fun x3 e => ek0_2 e (k x0 x1 x2 x3)
theorem ek4_3 {α β δ ε : Sort _} {p0 p1 p2 : α → β → δ → ε → Prop} (e : ∃ x0 x1 x2 x3, p0 x0 x1 x2 x3 ∧ p1 x0 x1 x2 x3 ∧ p2 x0 x1 x2 x3) (k : ∀ x0 x1 x2 x3, p0 x0 x1 x2 x3 → p1 x0 x1 x2 x3 → p2 x0 x1 x2 x3 → P) : P := e.elim fun x0 e => e.elim fun x1 e => e.elim fun x2 e => e.elim fun x3 e => ek0_3 e (k x0 x1 x2 x3)
theorem ek4_4 {α β δ ε : Sort _} {p0 p1 p2 p3 : α → β → δ → ε → Prop} (e : ∃ x0 x1 x2 x3, p0 x0 x1 x2 x3 ∧ p1 x0 x1 x2 x3 ∧ p2 x0 x1 x2 x3 ∧ p3 x0 x1 x2 x3) (k : ∀ x0 x1 x2 x3, p0 x0 x1 x2 x3 → p1 x0 x1 x2 x3 → p2 x0 x1 x2 x3 → p3 x0 x1 x2 x3 → P) : P := e.elim fun x0 e => e.elim fun x1 e => e.elim fun x2 e => e.elim fun x3 e => ek0_4 e (k x0 x1 x2 x3)
theorem ek4_5 {α β δ ε : Sort _} {p0 p1 p2 p3 p4 : α → β → δ → ε → Prop} (e : ∃ x0 x1 x2 x3, p0 x0 x1 x2 x3 ∧ p1 x0 x1 x2 x3 ∧ p2 x0 x1 x2 x3 ∧ p3 x0 x1 x2 x3 ∧ p4 x0 x1 x2 x3) (k : ∀ x0 x1 x2 x3, p0 x0 x1 x2 x3 → p1 x0 x1 x2 x3 → p2 x0 x1 x2 x3 → p3 x0 x1 x2 x3 → p4 x0 x1 x2 x3 → P) : P := e.elim fun x0 e => e.elim fun x1 e => e.elim fun x2 e => e.elim fun x3 e => ek0_5 e (k x0 x1 x2 x3)
theorem ek4_6 {α β δ ε : Sort _} {p0 p1 p2 p3 p4 p5 : α → β → δ → ε → Prop} (e : ∃ x0 x1 x2 x3, p0 x0 x1 x2 x3 ∧ p1 x0 x1 x2 x3 ∧ p2 x0 x1 x2 x3 ∧ p3 x0 x1 x2 x3 ∧ p4 x0 x1 x2 x3 ∧ p5 x0 x1 x2 x3) (k : ∀ x0 x1 x2 x3, p0 x0 x1 x2 x3 → p1 x0 x1 x2 x3 → p2 x0 x1 x2 x3 → p3 x0 x1 x2 x3 → p4 x0 x1 x2 x3 → p5 x0 x1 x2 x3 → P) : P := e.elim fun x0 e => e.elim fun x1 e => e.elim fun x2 e => e.elim fun x3 e => ek0_6 e (k x0 x1 x2 x3)
theorem ek4_8 {α β δ ε : Sort _} {p0 p1 p2 p3 p4 p5 p6 p7 : α → β → δ → ε → Prop} (e : ∃ x0 x1 x2 x3, p0 x0 x1 x2 x3 ∧ p1 x0 x1 x2 x3 ∧ p2 x0 x1 x2 x3 ∧ p3 x0 x1 x2 x3 ∧ p4 x0 x1 x2 x3 ∧ p5 x0 x1 x2 x3 ∧ p6 x0 x1 x2 x3 ∧ p7 x0 x1 x2 x3) (k : ∀ x0 x1 x2 x3, p0 x0 x1 x2 x3 → p1 x0 x1 x2 x3 → p2 x0 x1 x2 x3 → p3 x0 x1 x2 x3 → p4 x0 x1 x2 x3 → p5 x0 x1 x2 x3 → p6 x0 x1 x2 x3 → p7 x0 x1 x2 x3 → P) : P := e.elim fun x0 e => e.elim fun x1 e => e.elim fun x2 e => e.elim fun x3 e => ek0_8 e (k x0 x1 x2 x3)
theorem ek4_9 {α β δ ε : Sort _} {p0 p1 p2 p3 p4 p5 p6 p7 p8 : α → β → δ → ε → Prop} (e : ∃ x0 x1 x2 x3, p0 x0 x1 x2 x3 ∧ p1 x0 x1 x2 x3 ∧ p2 x0 x1 x2 x3 ∧ p3 x0 x1 x2 x3 ∧ p4 x0 x1 x2 x3 ∧ p5 x0 x1 x2 x3 ∧ p6 x0 x1 x2 x3 ∧ p7 x0 x1 x2 x3 ∧ p8 x0 x1 x2 x3) (k : ∀ x0 x1 x2 x3, p0 x0 x1 x2 x3 → p1 x0 x1 x2 x3 → p2 x0 x1 x2 x3 → p3 x0 x1 x2 x3 → p4 x0 x1 x2 x3 → p5 x0 x1 x2 x3 → p6 x0 x1 x2 x3 → p7 x0 x1 x2 x3 → p8 x0 x1 x2 x3 → P) : P := e.elim fun x0 e => e.elim fun x1 e => e.elim fun x2 e => e.elim fun x3 e => ek0_9 e (k x0 x1 x2 x3)
theorem ek5_2 {α β δ ε ζ : Sort _} {p0 p1 : α → β → δ → ε → ζ → Prop} (e : ∃ x0 x1 x2 x3 x4, p0 x0 x1 x2 x3 x4 ∧ p1 x0 x1 x2 x3 x4) (k : ∀ x0 x1 x2 x3 x4, p0 x0 x1 x2 x3 x4 → p1 x0 x1 x2 x3 x4 → P) : P := e.elim fun x0 e => e.elim fun x1 e => e.elim fun x2 e => e.elim fun x3 e => e.elim fun x4 e => ek0_2 e (k x0 x1 x2 x3 x4)
theorem ek5_3 {α β δ ε ζ : Sort _} {p0 p1 p2 : α → β → δ → ε → ζ → Prop} (e : ∃ x0 x1 x2 x3 x4, p0 x0 x1 x2 x3 x4 ∧ p1 x0 x1 x2 x3 x4 ∧ p2 x0 x1 x2 x3 x4) (k : ∀ x0 x1 x2 x3 x4, p0 x0 x1 x2 x3 x4 → p1 x0 x1 x2 x3 x4 → p2 x0 x1 x2 x3 x4 → P) : P := e.elim fun x0 e => e.elim fun x1 e => e.elim fun x2 e => e.elim fun x3 e => e.elim fun x4 e => ek0_3 e (k x0 x1 x2 x3 x4)
theorem ek5_4 {α β δ ε ζ : Sort _} {p0 p1 p2 p3 : α → β → δ → ε → ζ → Prop} (e : ∃ x0 x1 x2 x3 x4, p0 x0 x1 x2 x3 x4 ∧ p1 x0 x1 x2 x3 x4 ∧ p2 x0 x1 x2 x3 x4 ∧ p3 x0 x1 x2 x3 x4) (k : ∀ x0 x1 x2 x3 x4, p0 x0 x1 x2 x3 x4 → p1 x0 x1 x2 x3 x4 → p2 x0 x1 x2 x3 x4 → p3 x0 x1 x2 x3 x4 → P) : P := e.elim fun x0 e => e.elim fun x1 e => e.elim fun x2 e => e.elim fun x3 e => e.elim fun x4 e => ek0_4 e (k x0 x1 x2 x3 x4)
theorem ek5_5 {α β δ ε ζ : Sort _} {p0 p1 p2 p3 p4 : α → β → δ → ε → ζ → Prop} (e : ∃ x0 x1 x2 x3 x4, p0 x0 x1 x2 x3 x4 ∧ p1 x0 x1 x2 x3 x4 ∧ p2 x0 x1 x2 x3 x4 ∧ p3 x0 x1 x2 x3 x4 ∧ p4 x0 x1 x2 x3 x4) (k : ∀ x0 x1 x2 x3 x4, p0 x0 x1 x2 x3 x4 → p1 x0 x1 x2 x3 x4 → p2 x0 x1 x2 x3 x4 → p3 x0 x1 x2 x3 x4 → p4 x0 x1 x2 x3 x4 → P) : P := e.elim fun x0 e => e.elim fun x1 e => e.elim fun x2 e => e.elim fun x3 e => e.elim fun x4 e => ek0_5 e (k x0 x1 x2 x3 x4)
theorem ek5_6 {α β δ ε ζ : Sort _} {p0 p1 p2 p3 p4 p5 : α → β → δ → ε → ζ → Prop} (e : ∃ x0 x1 x2 x3 x4, p0 x0 x1 x2 x3 x4 ∧ p1 x0 x1 x2 x3 x4 ∧ p2 x0 x1 x2 x3 x4 ∧ p3 x0 x1 x2 x3 x4 ∧ p4 x0 x1 x2 x3 x4 ∧ p5 x0 x1 x2 x3 x4) (k : ∀ x0 x1 x2 x3 x4, p0 x0 x1 x2 x3 x4 → p1 x0 x1 x2 x3 x4 → p2 x0 x1 x2 x3 x4 → p3 x0 x1 x2 x3 x4 → p4 x0 x1 x2 x3 x4 → p5 x0 x1 x2 x3 x4 → P) : P := e.elim fun x0 e => e.elim fun x1 e => e.elim fun x2 e => e.elim fun x3 e => e.elim fun x4 e => ek0_6 e (k x0 x1 x2 x3 x4)
theorem ek6_5 {α β δ ε ζ η : Sort _} {p0 p1 p2 p3 p4 : α → β → δ → ε → ζ → η → Prop} (e : ∃ x0 x1 x2 x3 x4 x5, p0 x0 x1 x2 x3 x4 x5 ∧ p1 x0 x1 x2 x3 x4 x5 ∧ p2 x0 x1 x2 x3 x4 x5 ∧ p3 x0 x1 x2 x3 x4 x5 ∧ p4 x0 x1 x2 x3 x4 x5) (k : ∀ x0 x1 x2 x3 x4 x5, p0 x0 x1 x2 x3 x4 x5 → p1 x0 x1 x2 x3 x4 x5 → p2 x0 x1 x2 x3 x4 x5 → p3 x0 x1 x2 x3 x4 x5 → p4 x0 x1 x2 x3 x4 x5 → P) : P := e.elim fun x0 e => e.elim fun x1 e => e.elim fun x2 e => e.elim fun x3 e => e.elim fun x4 e => e.elim fun x5 e => ek0_5 e (k x0 x1 x2 x3 x4 x5)
theorem ek6_7 {α β δ ε ζ η : Sort _} {p0 p1 p2 p3 p4 p5 p6 : α → β → δ → ε → ζ → η → Prop} (e : ∃ x0 x1 x2 x3 x4 x5, p0 x0 x1 x2 x3 x4 x5 ∧ p1 x0 x1 x2 x3 x4 x5 ∧ p2 x0 x1 x2 x3 x4 x5 ∧ p3 x0 x1 x2 x3 x4 x5 ∧ p4 x0 x1 x2 x3 x4 x5 ∧ p5 x0 x1 x2 x3 x4 x5 ∧ p6 x0 x1 x2 x3 x4 x5) (k : ∀ x0 x1 x2 x3 x4 x5, p0 x0 x1 x2 x3 x4 x5 → p1 x0 x1 x2 x3 x4 x5 → p2 x0 x1 x2 x3 x4 x5 → p3 x0 x1 x2 x3 x4 x5 → p4 x0 x1 x2 x3 x4 x5 → p5 x0 x1 x2 x3 x4 x5 → p6 x0 x1 x2 x3 x4 x5 → P) : P := e.elim fun x0 e => e.elim fun x1 e => e.elim fun x2 e => e.elim fun x3 e => e.elim fun x4 e => e.elim fun x5 e => ek0_7 e (k x0 x1 x2 x3 x4 x5)
theorem ek7_5 {α β δ ε ζ η θ : Sort _} {p0 p1 p2 p3 p4 : α → β → δ → ε → ζ → η → θ → Prop} (e : ∃ x0 x1 x2 x3 x4 x5 x6, p0 x0 x1 x2 x3 x4 x5 x6 ∧ p1 x0 x1 x2 x3 x4 x5 x6 ∧ p2 x0 x1 x2 x3 x4 x5 x6 ∧ p3 x0 x1 x2 x3 x4 x5 x6 ∧ p4 x0 x1 x2 x3 x4 x5 x6) (k : ∀ x0 x1 x2 x3 x4 x5 x6, p0 x0 x1 x2 x3 x4 x5 x6 → p1 x0 x1 x2 x3 x4 x5 x6 → p2 x0 x1 x2 x3 x4 x5 x6 → p3 x0 x1 x2 x3 x4 x5 x6 → p4 x0 x1 x2 x3 x4 x5 x6 → P) : P := e.elim fun x0 e => e.elim fun x1 e => e.elim fun x2 e => e.elim fun x3 e => e.elim fun x4 e => e.elim fun x5 e => e.elim fun x6 e => ek0_5 e (k x0 x1 x2 x3 x4 x5 x6)
theorem ek7_9 {α β δ ε ζ η θ : Sort _} {p0 p1 p2 p3 p4 p5 p6 p7 p8 : α → β → δ → ε → ζ → η → θ → Prop} (e : ∃ x0 x1 x2 x3 x4 x5 x6, p0 x0 x1 x2 x3 x4 x5 x6 ∧ p1 x0 x1 x2 x3 x4 x5 x6 ∧ p2 x0 x1 x2 x3 x4 x5 x6 ∧ p3 x0 x1 x2 x3 x4 x5 x6 ∧ p4 x0 x1 x2 x3 x4 x5 x6 ∧ p5 x0 x1 x2 x3 x4 x5 x6 ∧ p6 x0 x1 x2 x3 x4 x5 x6 ∧ p7 x0 x1 x2 x3 x4 x5 x6 ∧ p8 x0 x1 x2 x3 x4 x5 x6) (k : ∀ x0 x1 x2 x3 x4 x5 x6, p0 x0 x1 x2 x3 x4 x5 x6 → p1 x0 x1 x2 x3 x4 x5 x6 → p2 x0 x1 x2 x3 x4 x5 x6 → p3 x0 x1 x2 x3 x4 x5 x6 → p4 x0 x1 x2 x3 x4 x5 x6 → p5 x0 x1 x2 x3 x4 x5 x6 → p6 x0 x1 x2 x3 x4 x5 x6 → p7 x0 x1 x2 x3 x4 x5 x6 → p8 x0 x1 x2 x3 x4 x5 x6 → P) : P := e.elim fun x0 e => e.elim fun x1 e => e.elim fun x2 e => e.elim fun x3 e => e.elim fun x4 e => e.elim fun x5 e => e.elim fun x6 e => ek0_9 e (k x0 x1 x2 x3 x4 x5 x6)
theorem ek9_5 {α β δ ε ζ η θ ι κ : Sort _} {p0 p1 p2 p3 p4 : α → β → δ → ε → ζ → η → θ → ι → κ → Prop} (e : ∃ x0 x1 x2 x3 x4 x5 x6 x7 x8, p0 x0 x1 x2 x3 x4 x5 x6 x7 x8 ∧ p1 x0 x1 x2 x3 x4 x5 x6 x7 x8 ∧ p2 x0 x1 x2 x3 x4 x5 x6 x7 x8 ∧ p3 x0 x1 x2 x3 x4 x5 x6 x7 x8 ∧ p4 x0 x1 x2 x3 x4 x5 x6 x7 x8) (k : ∀ x0 x1 x2 x3 x4 x5 x6 x7 x8, p0 x0 x1 x2 x3 x4 x5 x6 x7 x8 → p1 x0 x1 x2 x3 x4 x5 x6 x7 x8 → p2 x0 x1 x2 x3 x4 x5 x6 x7 x8 → p3 x0 x1 x2 x3 x4 x5 x6 x7 x8 → p4 x0 x1 x2 x3 x4 x5 x6 x7 x8 → P) : P := e.elim fun x0 e => e.elim fun x1 e => e.elim fun x2 e => e.elim fun x3 e => e.elim fun x4 e => e.elim fun x5 e => e.elim fun x6 e => e.elim fun x7 e => e.elim fun x8 e => ek0_5 e (k x0 x1 x2 x3 x4 x5 x6 x7 x8)
end
structure G where
 prog : Program
 w : World
 gens : Array GenState
 drawn : Drawn
 os : OsState
noncomputable abbrev mkS (γ : G) (h : Heap) (t : Nat) : Shared := ⟨h, γ.gens, γ.drawn, t, γ.os⟩
noncomputable abbrev MM (γ : G) : Model := model γ.prog γ.w
structure W {α : Type} (γ : G) (A : Around) (tree : Sem α) (Q : α → Heap → Nat → Prop) (h : Heap) (t : Nat) : Prop where
 out : wpAny (MM γ) A tree (fun a s' => ∃ h' t', s' = mkS γ h' t' ∧ Q a h' t') (fun ξ ξ => False) (mkS γ h t)
structure WK (γ : G) (A : Around) (c : Code) (R : Flow → Heap → Nat → Prop) (h : Heap) (t : Nat) : Prop where
 out : codeAny (MM γ) A c (fun r s' => ∃ f h' t', r = .ok f ∧ s' = mkS γ h' t' ∧ R f h' t') (mkS γ h t)
noncomputable def RetV (R : Value → Heap → Nat → Prop) : Flow → Heap → Nat → Prop := fun f h t => ∃ v, f = .ret v ∧ R v h t
noncomputable abbrev WC (γ : G) (A : Around) (c : Code) (R : Value → Heap → Nat → Prop) (h : Heap) (t : Nat) : Prop := WK γ A c (RetV R) h t
structure Br (b : Bool) (X Y : Prop) : Prop where
 t : b = true → X
 f : b = false → Y
structure BrF (b : Bool) (X Y : Prop) : Prop where
 f : b = false → X
 t : b = true → Y
theorem Br.tt {X Y : Prop} (x : X) : Br true X Y := ⟨fun ξ => x, fun e => nomatch e⟩
theorem Br.ff {X Y : Prop} (y : Y) : Br false X Y := ⟨fun e => (nomatch e), fun ξ => y⟩
theorem Br.fm {b : Bool} {X Y : Prop} (y : b = false → Y) (x : b = true → X) : Br b X Y := ⟨x, y⟩
theorem Br.dec {p : Prop} [i : Decidable p] {X Y : Prop} (x : p → X) (y : ¬p → Y) : Br (@decide p i) X Y := ⟨fun e => x (of_decide_eq_true e), fun e => y (of_decide_eq_false e)⟩
section
variable {α β : Type} {h : Heap} {t : Nat} {env : Env} {γ : G} {A : Around}
theorem W.use {tree : Sem α} {Q : α → Heap → Nat → Prop} {Q' : α → Shared → Prop} {E' : Value → Shared → Prop} (x : W γ A tree Q h t)
  (hq : ∀ a h' t', Q a h' t' → Q' a (mkS γ h' t')) : wpAny (MM γ) A tree Q' E' (mkS γ h t) :=
 wpAny_mono x.out (fun a s' y => by obtain ⟨h', t', rfl, q⟩ := y; exact hq a h' t' q) fun ξ ξ y => y.elim
theorem W.mono {tree : Sem α} {Q Q' : α → Heap → Nat → Prop} (x : W γ A tree Q h t) (hq : ∀ a h' t', Q a h' t' → Q' a h' t') : W γ A tree Q' h t :=
 ⟨x.use fun a h' t' q => ⟨h', t', rfl, hq a h' t' q⟩⟩
theorem WK.use {c : Code} {R : Flow → Heap → Nat → Prop} {R' : Result → Shared → Prop} (x : WK γ A c R h t) (hq : ∀ f h' t', R f h' t' → R' (.ok f) (mkS γ h' t')) :
  codeAny (MM γ) A c R' (mkS γ h t) :=
 codeAny_mono x.out fun r s' y => by refine ek3_3 y fun f h' t' z1 z2 q => ?_; clear y; obtain rfl := z1; obtain rfl := z2; exact hq f h' t' q
theorem w_pure {a : α} {Q : α → Heap → Nat → Prop} (q : Q a h t) : W γ A (pure a) Q h t := ⟨wpAny_pure ⟨h, t, rfl, q⟩⟩
theorem w_bind {m : Sem α} {f : α → Sem β} {Q : β → Heap → Nat → Prop} (x : W γ A m (fun a => W γ A (f a) Q) h t) : W γ A (m >>= f) Q h t := ⟨wpAny_bind (x.use fun ξ ξ ξ y => y.out)⟩
theorem w_standAt {pos : Pos} {Q : Unit → Heap → Nat → Prop} (q : Q () h t) : W γ A (standAt pos) Q h t := ⟨wpAny_standAt ⟨h, t, rfl, q⟩⟩
theorem w_rule {tag : String} {Q : Unit → Heap → Nat → Prop} (q : Q () h t) : W γ A (PySem.rule tag) Q h t := ⟨wpAny_rule ⟨h, t, rfl, q⟩⟩
theorem w_point {Q : Unit → Heap → Nat → Prop} (q : Q () h t) : W γ A PySem.point Q h t := ⟨wpAny_point ⟨h, t, rfl, q⟩⟩
theorem w_holding {vs : List Value} {m : Sem α} {Q : α → Heap → Nat → Prop} (x : W γ A m Q h t) : W γ A (holding vs m) Q h t := ⟨wpAny_holding x.out⟩
theorem w_operate {vs : List Value} {m : Sem Value} {Q : Value → Heap → Nat → Prop} (x : W γ A m Q h t) : W γ A (operate vs m) Q h t := ⟨wpAny_operateT x.out⟩
theorem w_release {vs keep : List Value} {Q : Unit → Heap → Nat → Prop} (q : Q () h t) : W γ A (release vs keep) Q h t := ⟨wpAny_release ⟨h, t, rfl, q⟩⟩
theorem w_call {f : Value} {pos : List Value} {kw : List (Str × Value)} {Q : Value → Heap → Nat → Prop} (x : WC γ A (.call f ⟨pos, kw⟩) Q h t) : W γ A (call f pos kw) Q h t := ⟨wpAny_call (WK.use x fun f h' t' ⟨v, e, q⟩ => by subst e; exact ⟨h', t', rfl, q⟩)⟩
theorem w_of {tree : Sem α} {Q : α → Heap → Nat → Prop} (x : ∀ (Q' : α → Shared → Prop), (∀ a h' t', Q a h' t' → Q' a (mkS γ h' t')) → wpAny (MM γ) A tree Q' (fun ξ ξ => False) (mkS γ h t)) : W γ A tree Q h t :=
 ⟨x _ fun ξ h' t' q => ⟨h', t', rfl, q⟩⟩
theorem w_execs_nil {Q : Flow → Heap → Nat → Prop} (q : Q .next h t) : W γ A (execs [] env) Q h t := ⟨wpAny_execs_nil ⟨h, t, rfl, q⟩⟩
noncomputable def Then (γ : G) (A : Around) (rest : List Stmt) (env : Env) (Q : Flow → Heap → Nat → Prop) : Flow → Heap → Nat → Prop
 | .next, h, t => W γ A (execs rest env) Q h t
 | f, h, t => Q f h t
theorem w_execs_cons {st : Stmt} {rest : List Stmt} {Q : Flow → Heap → Nat → Prop} (x : W γ A (exec st env) (Then γ A rest env Q) h t) : W γ A (execs (st :: rest) env) Q h t := ⟨wpAny_execs_cons (W.use x fun f h' t' y => by cases f <;> first | exact y.out | exact ⟨h', t', rfl, y⟩)⟩
theorem then_next {rest : List Stmt} {Q : Flow → Heap → Nat → Prop} (x : W γ A (execs rest env) Q h t) : Then γ A rest env Q .next h t := x
theorem then_ret {rest : List Stmt} {Q : Flow → Heap → Nat → Prop} {v : Value} (x : Q (.ret v) h t) : Then γ A rest env Q (.ret v) h t := x
noncomputable def NotRef : Value → Prop
 | .ref _ => False
 | _ => True
theorem w_expr {e : Expr} {pos : Pos} {Q : Flow → Heap → Nat → Prop} (x : W γ A (eval e env) (fun v h t => NotRef v ∧ Q .next h t) h t)
  (hi : interactive env = false) (hs : swapsWith e none pos.line env = pure false := by with_unfolding_all rfl) : W γ A (exec (.Expr e pos) env) Q h t := ⟨wpAny_Expr (W.use x fun v h' t' y => by cases v <;> first | exact y.1.elim | exact ⟨h', t', rfl, y.2⟩) hi hs⟩
theorem w_assign_name {x : Str} {pos' pos : Pos} {value : Expr} {Q : Flow → Heap → Nat → Prop} (k : W γ A (eval value env) (fun v => W γ A (storeName env x v) (fun ξ => Q .next)) h t)
  (hs : swapsWith value (some (.Name x pos')) pos.line env = pure false := by with_unfolding_all rfl) : W γ A (exec (.Assign [.Name x pos'] value pos) env) Q h t := ⟨wpAny_Assign_Name (W.use k fun ξ ξ ξ y => W.use y fun ξ h' t' q => ⟨h', t', rfl, q⟩) hs⟩
theorem w_assign_attr {o : Expr} {attr : Str} {pos' pos : Pos} {value : Expr} {Q : Flow → Heap → Nat → Prop}
  (k : W γ A (eval value env) (fun v => W γ A (eval o env) (fun ov => W γ A (setAttr ov attr v) (fun ξ => Q .next))) h t)
  (hs : swapsWith value (some (.Attribute o attr pos')) pos.line env = pure false := by with_unfolding_all rfl) : W γ A (exec (.Assign [.Attribute o attr pos'] value pos) env) Q h t := ⟨plainObj_wpAny_Assign_Attribute (W.use k fun ξ ξ ξ y => W.use y fun ξ ξ ξ z => W.use z fun ξ h' t' q => ⟨h', t', rfl, q⟩) hs⟩
theorem w_assign_sub {o i : Expr} {pos' pos : Pos} {value : Expr} {Q : Flow → Heap → Nat → Prop}
  (k : W γ A (eval value env) (fun v => W γ A (eval o env) (fun ov => W γ A (eval i env) (fun iv => W γ A (setItem ov iv v) (fun ξ => Q .next)))) h t)
  (hs : swapsWithSole [.Subscript o i pos'] value pos.line env = pure false := by with_unfolding_all rfl) (hw : swappedStores [.Subscript o i pos'] value env = pure none := by with_unfolding_all rfl) :
  W γ A (exec (.Assign [.Subscript o i pos'] value pos) env) Q h t := by
 refine ⟨?_⟩
 refine wpAny_Assign_stores (W.use k fun v h₁ t₁ y => ?_) hs hw
 show wpAny (MM γ) A (assign (.Subscript o i pos') env v) _ _ _
 rw [arm_assign_Subscript]
 exact wpAny_bind (wpAny_holding (W.use y fun ov h₂ t₂ y => wpAny_bind (wpAny_holding (W.use y fun iv h₃ t₃ y => wpAny_bind (wpAny_standAt (wpAny_bind (wpAny_holding (W.use y fun ξ h₄ t₄ q => wpAny_release ⟨h₄, t₄, rfl, q⟩))))))))
theorem w_aug_name {x : Str} {pos' pos : Pos} {op : Operator} {value : Expr} {Q : Flow → Heap → Nat → Prop}
  (k : W γ A (loadName env x) (fun old => W γ A (eval value env) (fun v => W γ A (inplaceOp op old v) (fun r => W γ A (storeName env x r) (fun ξ => Q .next)))) h t) :
  W γ A (exec (.AugAssign (.Name x pos') op value pos) env) Q h t := ⟨wpAny_AugAssign_Name (W.use k fun ξ ξ ξ y => W.use y fun ξ ξ ξ z => W.use z fun ξ ξ ξ z => W.use z fun ξ h' t' q => ⟨h', t', rfl, q⟩)⟩
theorem w_if {test : Expr} {body orelse : List Stmt} {pos : Pos} {Q : Flow → Heap → Nat → Prop}
  (x : W γ A (isTrue test env (eval test env)) (fun b h t => Br b (W γ A (execs body env) Q h t) (W γ A (execs orelse env) Q h t)) h t) :
  W γ A (exec (.If test body orelse pos) env) Q h t := ⟨wpAny_If (W.use x fun b h' t' y => by cases b; exact (y.2 rfl).out; exact (y.1 rfl).out)⟩
theorem w_return {e : Expr} {pos : Pos} {Q : Flow → Heap → Nat → Prop} (x : W γ A (eval e env) (fun v => Q (.ret v)) h t) : W γ A (exec (.Return (some e) pos) env) Q h t := ⟨wpAny_Return_some (W.use x fun ξ h' t' q => ⟨h', t', rfl, q⟩)⟩
theorem w_assert {test : Expr} {msg : Option Expr} {pos : Pos} {Q : Flow → Heap → Nat → Prop} (x : W γ A (isTrue test env (eval test env)) (fun b h t => b = true ∧ Q .next h t) h t) :
  W γ A (exec (.Assert test msg pos) env) Q h t := by
 refine ⟨?_⟩
 refine wpAny_Assert_holds ?_
 exact W.use x fun b h' t' y => ⟨y.1, ⟨h', t', rfl, y.2⟩⟩
theorem w_int {i : Int} {k : Nat} {pos : Pos} {Q : Value → Heap → Nat → Prop} (q : Q (.int i t) h (t + 1)) : W γ A (eval (.Constant (.int i) k pos) env) Q h t := ⟨wpAny_Constant_int ⟨h, t + 1, rfl, q⟩⟩
theorem w_none {k : Nat} {pos : Pos} {Q : Value → Heap → Nat → Prop} (q : Q .none h t) : W γ A (eval (.Constant .none k pos) env) Q h t := ⟨wpAny_Constant_none ⟨h, t, rfl, q⟩⟩
theorem w_bool {b : Bool} {k : Nat} {pos : Pos} {Q : Value → Heap → Nat → Prop} (q : Q (.bool b) h t) : W γ A (eval (.Constant (.bool b) k pos) env) Q h t := ⟨wpAny_Constant_bool ⟨h, t, rfl, q⟩⟩
theorem w_str {x : Str} {k : Nat} {pos : Pos} {Q : Value → Heap → Nat → Prop} (q : Q (.str x t) h (t + 1)) : W γ A (eval (.Constant (.str x) k pos) env) Q h t := ⟨wpAny_Constant_str ⟨h, t + 1, rfl, q⟩⟩
theorem w_bytes {x : List UInt8} {k : Nat} {pos : Pos} {Q : Value → Heap → Nat → Prop} (q : Q (.bytes x.toArray t) h (t + 1)) : W γ A (eval (.Constant (.bytes x) k pos) env) Q h t := ⟨(show wpAny (MM γ) A (eval (.Constant (.bytes x) k pos) env) _ _ _ from fun ξ ξ ξ => ⟨h, t + 1, rfl, q⟩)⟩
theorem w_binop {l r : Expr} {op : Operator} {pos : Pos} {Q : Value → Heap → Nat → Prop}
  (x : W γ A (eval l env) (fun a => W γ A (eval r env) (fun b => W γ A (binaryOp op a b) Q)) h t) : W γ A (eval (.BinOp l op r pos) env) Q h t := ⟨wpAny_BinOp (W.use x fun ξ ξ ξ y => W.use y fun ξ ξ ξ z => z.out)⟩
theorem w_unop {x : Expr} {op : UnaryOp} {pos : Pos} {Q : Value → Heap → Nat → Prop} (k : W γ A (eval x env) (fun v => W γ A (unaryOp op v) Q) h t) : W γ A (eval (.UnaryOp op x pos) env) Q h t := ⟨wpAny_UnaryOp (W.use k fun ξ ξ ξ y => y.out)⟩
theorem w_ifexp {test b o : Expr} {pos : Pos} {Q : Value → Heap → Nat → Prop}
  (x : W γ A (isTrue test env (eval test env)) (fun c h t => Br c (W γ A (eval b env) Q h t) (W γ A (eval o env) Q h t)) h t) : W γ A (eval (.IfExp test b o pos) env) Q h t := ⟨wpAny_IfExp (W.use x fun c h' t' y => by cases c; exact (y.2 rfl).out; exact (y.1 rfl).out)⟩
theorem w_compare {l r : Expr} {op : CmpOp} {pos : Pos} {Q : Value → Heap → Nat → Prop}
  (x : W γ A (eval l env) (fun a => W γ A (eval r env) (fun b => W γ A (compareOp op a b) Q)) h t) (hm : behindInMarks op r = false := by with_unfolding_all rfl) :
  W γ A (eval (.Compare l [op] [r] pos) env) Q h t := ⟨wpAny_Compare1 (W.use x fun ξ ξ ξ y => W.use y fun ξ ξ ξ z => z.out) hm⟩
theorem w_test_compare {l r : Expr} {op : CmpOp} {pos : Pos} {whole : Sem Value} {Q : Bool → Heap → Nat → Prop}
  (x : W γ A (eval l env) (fun a => W γ A (eval r env) (fun b => W γ A (compareOp op a b) (fun c => W γ A (truthy c) Q))) h t) (hm : behindInMarks op r = false := by with_unfolding_all rfl) :
  W γ A (isTrue (.Compare l [op] [r] pos) env whole) Q h t := ⟨wpAny_isTrue_Compare1 (W.use x fun ξ ξ ξ y => W.use y fun ξ ξ ξ z => W.use z fun ξ ξ ξ z => z.out) hm⟩
theorem w_test_not {x : Expr} {pos : Pos} {whole : Sem Value} {Q : Bool → Heap → Nat → Prop} (k : W γ A (isTrue x env (eval x env)) (fun b h t => Q (!b) h t) h t) : W γ A (isTrue (.UnaryOp .Not x pos) env whole) Q h t := ⟨wpAny_isTrue_Not (W.use k fun ξ h' t' q => ⟨h', t', rfl, q⟩)⟩
theorem w_test_boolop {op : BoolOp} {values : List Expr} {pos : Pos} {whole : Sem Value} {Q : Bool → Heap → Nat → Prop} (k : W γ A (allTrue op values env) Q h t) : W γ A (isTrue (.BoolOp op values pos) env whole) Q h t := ⟨wpAny_isTrue_BoolOp k.out⟩
theorem w_allAnd_nil {Q : Bool → Heap → Nat → Prop} (q : Q true h t) : W γ A (allTrue .And [] env) Q h t := ⟨wpAny_allTrue_And_nil ⟨h, t, rfl, q⟩⟩
theorem w_allOr_nil {Q : Bool → Heap → Nat → Prop} (q : Q false h t) : W γ A (allTrue .Or [] env) Q h t := ⟨wpAny_allTrue_Or_nil ⟨h, t, rfl, q⟩⟩
theorem w_allAnd_cons {x : Expr} {rest : List Expr} {Q : Bool → Heap → Nat → Prop}
  (k : W γ A (isTrue x env (eval x env)) (fun b h t => Br b (W γ A (allTrue .And rest env) Q h t) (Q false h t)) h t) : W γ A (allTrue .And (x :: rest) env) Q h t := by
 refine ⟨?_⟩
 rw [arm_allTrue_cons]
 refine wpAny_bind (W.use k fun b h' t' y => ?_)
 cases b
 ·exact wpAny_pure ⟨h', t', rfl, y.2 rfl⟩
 ·exact (y.1 rfl).out
theorem w_allOr_cons {x : Expr} {rest : List Expr} {Q : Bool → Heap → Nat → Prop}
  (k : W γ A (isTrue x env (eval x env)) (fun b h t => BrF b (W γ A (allTrue .Or rest env) Q h t) (Q true h t)) h t) : W γ A (allTrue .Or (x :: rest) env) Q h t := by
 refine ⟨?_⟩
 rw [arm_allTrue_cons]
 refine wpAny_bind (W.use k fun b h' t' y => ?_)
 cases b
 ·exact (y.1 rfl).out
 ·exact wpAny_pure ⟨h', t', rfl, y.2 rfl⟩
theorem w_test_value {e : Expr} {whole : Sem Value} {Q : Bool → Heap → Nat → Prop} (k : W γ A whole (fun v => W γ A (truthy v) Q) h t)
  (he : isTrue e env whole = (do let v ← whole; standAt e.pos; holding [v] (truthy v)) := by with_unfolding_all rfl) : W γ A (isTrue e env whole) Q h t := by
 refine ⟨?_⟩
 rw [he]
 exact wpAny_bind (W.use k fun ξ h' t' y => wpAny_bind (wpAny_standAt (wpAny_holding y.out)))
theorem w_truthy_bool {b : Bool} {Q : Bool → Heap → Nat → Prop} (q : Q b h t) : W γ A (truthy (.bool b)) Q h t := ⟨wpAny_truthy_bool ⟨h, t, rfl, q⟩⟩
theorem w_truthy_none {Q : Bool → Heap → Nat → Prop} (q : Q false h t) : W γ A (truthy .none) Q h t := ⟨fun ξ ξ ξ => ⟨h, t, rfl, q⟩⟩
theorem w_boolop_and2 {x y : Expr} {pos : Pos} {Q : Value → Heap → Nat → Prop}
  (k : W γ A (eval x env) (fun v => W γ A (truthy v) (fun b h t => Br b (W γ A (eval y env) Q h t) (Q v h t))) h t) : W γ A (eval (.BoolOp .And [x, y] pos) env) Q h t := by
 refine ⟨?_⟩
 rw [arm_eval_BoolOp]
 refine wpAny_bind (W.use k fun v h' t' z => wpAny_bind (wpAny_standAt (wpAny_bind (wpAny_holding (W.use z fun b h' t' z => ?_)))))
 cases b
 ·exact wpAny_pure ⟨h', t', rfl, z.2 rfl⟩
 ·exact (z.1 rfl).out
theorem w_boolop_or2 {x y : Expr} {pos : Pos} {Q : Value → Heap → Nat → Prop}
  (k : W γ A (eval x env) (fun v => W γ A (truthy v) (fun b h t => BrF b (W γ A (eval y env) Q h t) (Q v h t))) h t) : W γ A (eval (.BoolOp .Or [x, y] pos) env) Q h t := by
 refine ⟨?_⟩
 rw [arm_eval_BoolOp]
 refine wpAny_bind (W.use k fun v h' t' z => wpAny_bind (wpAny_standAt (wpAny_bind (wpAny_holding (W.use z fun b h' t' z => ?_)))))
 cases b
 ·exact (z.1 rfl).out
 ·exact wpAny_pure ⟨h', t', rfl, z.2 rfl⟩
theorem w_tuple {elts : List Expr} {k : Nat} {pos : Pos} {Q : Value → Heap → Nat → Prop}
  (x : W γ A (spliced (backTo pos (starEach elts env))) (fun vs => W γ A (newTuple vs) Q) h t) : W γ A (eval (.Tuple elts k pos) env) Q h t := ⟨Tuple_ (W.use x fun ξ ξ ξ y => y.out)⟩
theorem w_list {elts : List Expr} {pos : Pos} {Q : Value → Heap → Nat → Prop}
  (x : W γ A (spliced (backTo pos (starEach elts env))) (fun vs => W γ A (newList vs) Q) h t) : W γ A (eval (.List elts pos) env) Q h t := ⟨List_ (W.use x fun ξ ξ ξ y => y.out)⟩
theorem w_args_nil {pos : Pos} {Q : List Value → Heap → Nat → Prop} (q : Q [] h t) : W γ A (spliced (backTo pos (starEach [] env))) Q h t := ⟨args_nil ⟨h, t, rfl, q⟩⟩
theorem w_args_cons {e : Expr} {rest : List Expr} {pos : Pos} {Q : List Value → Heap → Nat → Prop}
  (x : W γ A (eval e env) (fun v => W γ A (spliced (backTo pos (starEach rest env))) (fun vs h t => Q (v :: vs) h t)) h t)
  (he : starEach (e :: rest) env = (false, eval e env) :: starEach rest env := by with_unfolding_all rfl) : W γ A (spliced (backTo pos (starEach (e :: rest) env))) Q h t := ⟨args_cons (W.use x fun ξ ξ ξ y => W.use y fun ξ h' t' q => ⟨h', t', rfl, q⟩) he⟩
theorem w_attr {value : Expr} {attr : Str} {pos : Pos} {Q : Value → Heap → Nat → Prop} (x : W γ A (eval value env) (fun o => W γ A (getAttr o attr true) (fun r => W γ A (letTemporaryGo value o r) (fun ξ h t => Q r h t))) h t)
  (he : attributeBase value attr env (eval value env) = eval value env := by with_unfolding_all rfl) : W γ A (eval (.Attribute value attr pos) env) Q h t := by
 refine ⟨?_⟩
 rw [arm_eval_Attribute, he]
 exact wpAny_bind (W.use x fun o h₁ t₁ y => wpAny_bind (wpAny_standAt (wpAny_bind (wpAny_holding (W.use y fun r h₂ t₂ z => wpAny_bind (W.use z fun ξ h₃ t₃ q => wpAny_pure ⟨h₃, t₃, rfl, q⟩))))))
theorem w_attr_name {x attr : Str} {p pos : Pos} {Q : Value → Heap → Nat → Prop} (k : W γ A (eval (.Name x p) env) (fun o => W γ A (getAttr o attr true) Q) h t) : W γ A (eval (.Attribute (.Name x p) attr pos) env) Q h t := w_attr (k.mono fun ξ ξ ξ y => y.mono fun ξ ξ ξ q => w_pure q)
theorem w_subscript {value slice : Expr} {pos : Pos} {Q : Value → Heap → Nat → Prop} (x : W γ A (eval value env) (fun o => W γ A (eval slice env) (fun i => W γ A (subscriptTail value slice o i) Q)) h t) :
  W γ A (eval (.Subscript value slice pos) env) Q h t := ⟨Subscript_ (W.use x fun ξ ξ ξ y => W.use y fun ξ ξ ξ z => z.out)⟩
end
end
section
theorem nm {α : Type} {a b : α} {l : List α} (n : a ∉ l) (m : b ∈ l) : b ≠ a := fun e => n (e ▸ m)
theorem mem_fst {α β : Type} {p : α × β} {l : List (α × β)} (hp : p ∈ l) : p.1 ∈ l.map (·.1) := List.mem_map_of_mem hp
inductive Has {α : Type} (p : α) : List α → Prop
 | head {r} : Has p (p :: r)
 | tail {q r} : Has p r → Has p (q :: r)
theorem Has.x1 {α : Type} {p q0 : α} {r : List α} : Has p (q0 :: p :: r) := .tail <| .head
theorem Has.x2 {α : Type} {p q0 q1 : α} {r : List α} : Has p (q0 :: q1 :: p :: r) := .tail <| .tail <| .head
theorem Has.x3 {α : Type} {p q0 q1 q2 : α} {r : List α} : Has p (q0 :: q1 :: q2 :: p :: r) := .tail <| .tail <| .tail <| .head
theorem Has.x4 {α : Type} {p q0 q1 q2 q3 : α} {r : List α} : Has p (q0 :: q1 :: q2 :: q3 :: p :: r) := .tail <| .tail <| .tail <| .tail <| .head
theorem Has.x5 {α : Type} {p q0 q1 q2 q3 q4 : α} {r : List α} : Has p (q0 :: q1 :: q2 :: q3 :: q4 :: p :: r) := .tail <| .tail <| .tail <| .tail <| .tail <| .head
theorem Has.x6 {α : Type} {p q0 q1 q2 q3 q4 q5 : α} {r : List α} : Has p (q0 :: q1 :: q2 :: q3 :: q4 :: q5 :: p :: r) := .tail <| .tail <| .tail <| .tail <| .tail <| .tail <| .head
theorem Has.x7 {α : Type} {p q0 q1 q2 q3 q4 q5 q6 : α} {r : List α} : Has p (q0 :: q1 :: q2 :: q3 :: q4 :: q5 :: q6 :: p :: r) := .tail <| .tail <| .tail <| .tail <| .tail <| .tail <| .tail <| .head
theorem Has.t8 {α : Type} {q0 q1 q2 q3 q4 q5 q6 q7 : α} {r : List α} {p : α} (x : Has p r) : Has p (q0 :: q1 :: q2 :: q3 :: q4 :: q5 :: q6 :: q7 :: r) := .tail <| .tail <| .tail <| .tail <| .tail <| .tail <| .tail <| .tail <| x
noncomputable def AllP {α : Type} (P : α → Prop) : List α → Prop
 | [] => True
 | a :: l => P a ∧ AllP P l
theorem Has.of {α : Type} {P : α → Prop} {p : α} {l : List α} (x : Has p l) : AllP P l → P p := by
 induction x with
 | head => exact fun h => h.1
 | tail _ ih => exact fun h => ih h.2
theorem Has.mem {α : Type} {p : α} {l : List α} (x : Has p l) : p ∈ l := by
 induction x with
 | head => exact .head _
 | tail _ ih => exact .tail _ ih
theorem ne_fst {α β : Type} {p : α × β} {a : α} {l : List (α × β)} (hn : a ∉ l.map (·.1)) (hp : p ∈ l) : p.1 ≠ a := fun q => by
 have := mem_fst hp
 rw [q] at this; exact hn this
noncomputable abbrev Dm := Addr → Option Obj
noncomputable def Le (D D' : Dm) : Prop := ∀ a o, D a = some o → D' a = some o
theorem Le.refl (D : Dm) : Le D D := fun ξ ξ e => e
theorem Le.trans {D D' D'' : Dm} (x : Le D D') (y : Le D' D'') : Le D D'' := fun a o e => y a o (x a o e)
noncomputable def Dm.put (D : Dm) (a : Addr) (o : Obj) : Dm := fun x => if x = a then some o else D x
theorem Dm.put_at (D : Dm) (a : Addr) (o : Obj) : D.put a o a = some o := by simp [Dm.put]
theorem Dm.put_le {D : Dm} {a : Addr} {o : Obj} (hn : D a = none) : Le D (D.put a o) := fun b x e => by
 unfold Dm.put; split
 ·rename_i q; subst q; rw [hn] at e; cases e
 ·exact e
structure Stat (K : Frag) (D : Dm) : Prop where
 out : ∃ h₀ : Heap, (∀ a o, h₀.get? a = some o → D a = some o) ∧ K.In h₀ ∧ ∃ p loose mg mb, TopRead p loose mg mb h₀
theorem Stat.mono {K : Frag} {D D' : Dm} (x : Stat K D) (l : Le D D') : Stat K D' := ek1_2 x.out fun h₀ a b => ⟨h₀, fun c o e => l c o (a c o e), b⟩
structure Sc (K : Frag) (D : Dm) (news : List (Addr × Obj)) (h : Heap) : Prop where
 st : Stat K D
 keep : ∀ a o, D a = some o → h.get? a = some o
 led : ∀ p ∈ news, h.get? p.1 = some p.2
 nodup : (news.map (·.1)).Nodup
 off : ∀ p ∈ news, D p.1 = none
section
variable {h h' : Heap} {K : Frag} {D D' : Dm} {news news' : List (Addr × Obj)} {a : Addr} {o o' : Obj}
theorem Sc.inK (S : Sc K D news h) : K.In h := ek1_3 S.st.out fun ξ q x ξ => x.keeps fun b o e => S.keep b o (q b o e)
theorem Sc.top (S : Sc K D news h) : ∃ p loose mg mb, TopRead p loose mg mb h := ek1_3 S.st.out fun ξ q ξ z1 => ek4_1 z1 fun p l mg mb T => ⟨p, l, mg, mb, T.keeps fun b o e => S.keep b o (q b o e)⟩
theorem Sc.nolimit (S : Sc K D news h) : h.NoLimit := ek4_1 S.top fun ξ ξ ξ ξ T => T.nolimit
theorem Sc.perm (S : Sc K D news h) (p : news.Perm news') : Sc K D news' h :=
 ⟨S.st, S.keep, fun q hq => S.led q (p.mem_iff.mpr hq), (p.map _).nodup_iff.mp S.nodup, fun q hq => S.off q (p.mem_iff.mpr hq)⟩
theorem Sc.grow (S : Sc K D news h) (k : ∀ b o, h.get? b = some o → h'.get? b = some o) : Sc K D news h' :=
 ⟨S.st, fun b o e => k b o (S.keep b o e), fun p hp => k _ _ (S.led p hp), S.nodup, S.off⟩
theorem Sc.drop (S : Sc K D ((a, o) :: news) h) : Sc K D news h := ⟨S.st, S.keep, fun p hp => S.led p (.tail _ hp), (List.nodup_cons.mp S.nodup).2, fun p hp => S.off p (.tail _ hp)⟩
theorem Sc.head (S : Sc K D ((a, o) :: news) h) : h.get? a = some o := S.led _ (.head _)
theorem Sc.push (S : Sc K D news h) (o : Obj) (hf : o.isFreed = false := by rfl) : Sc K D ((h.objs.size, o) :: news) (h.push o) := by
 have k : ∀ b x, h.get? b = some x → (h.push o).get? b = some x := fun b x e => Heap.get?_push_of_some _ e
 refine ⟨S.st, fun b x e => k b x (S.keep b x e), fun p hp => ?_, List.nodup_cons.mpr ⟨fun q => ?_, S.nodup⟩, fun p hp => ?_⟩
 ·rcases List.mem_cons.mp hp with rfl | hp
  ·exact Heap.get?_push_size _ hf
  ·exact k _ _ (S.led p hp)
 ·obtain ⟨p, hp, e⟩ := List.mem_map.mp q
  exact Nat.lt_irrefl _ (e ▸ Heap.lt_size (S.led p hp))
 ·rcases List.mem_cons.mp hp with rfl | hp
  ·cases q : D h.objs.size with
   | none => rfl
   | some x => exact absurd (Heap.lt_size (S.keep _ _ q)) (Nat.lt_irrefl _)
  ·exact S.off p hp
theorem Sc.upd (S : Sc K D ((a, o) :: news) h) (hs : ∀ b x, b ≠ a → h.get? b = some x → h'.get? b = some x) (ha : h'.get? a = some o') : Sc K D ((a, o') :: news) h' := by
 have hn := List.nodup_cons.mp S.nodup
 refine ⟨S.st, fun b x e => hs b x (fun q => ?_) (S.keep b x e), fun p hp => ?_, S.nodup, fun p hp => ?_⟩
 ·subst q; have := S.off _ (.head _); rw [this] at e; cases e
 ·rcases List.mem_cons.mp hp with rfl | hp
  ·exact ha
  ·exact hs _ _ (ne_fst hn.1 hp) (S.led p (.tail _ hp))
 ·rcases List.mem_cons.mp hp with rfl | hp
  ·exact S.off (a, o) (.head _)
  ·exact S.off p (.tail _ hp)
theorem Sc.freeze (S : Sc K D ((a, o) :: news) h) : Sc K (D.put a o) news h := by
 have hn := List.nodup_cons.mp S.nodup
 refine ⟨S.st.mono (Dm.put_le (S.off (a, o) (.head _))), fun b x e => ?_, fun p hp => S.led p (.tail _ hp), hn.2, fun p hp => ?_⟩
 ·unfold Dm.put at e; split at e
  ·rename_i q; cases e; subst q; exact S.head
  ·exact S.keep b x e
 ·show (if p.1 = a then some o else D p.1) = none
  rw [if_neg (ne_fst hn.1 hp)]; exact S.off p (.tail _ hp)
theorem Sc.freeze_le (S : Sc K D ((a, o) :: news) h) : Le D (D.put a o) := Dm.put_le (S.off (a, o) (.head _))
variable {ps ps' rest : List (Addr × Obj)}
theorem Sc.noD (S : Sc K D news h) {a : Addr} (l : h.objs.size ≤ a) : D a = none := by
 cases q : D a with
 | none => rfl
 | some x => exact absurd (Heap.lt_size (S.keep _ _ q)) (Nat.not_lt.mpr l)
theorem Sc.noN (S : Sc K D news h) {a : Addr} (l : h.objs.size ≤ a) : a ∉ news.map (·.1) := fun q => ek1_2 (List.mem_map.mp q) fun p hp e => absurd (Heap.lt_size (S.led p hp)) (Nat.not_lt.mpr (e ▸ l))
theorem Sc.ne (S : Sc K D news h) {p : Addr × Obj} (hp : p ∈ news) {b : Addr} {o : Obj} (e : D b = some o) : b ≠ p.1 := fun q => Option.some_ne_none o (e.symm.trans (q ▸ S.off _ hp))
theorem Sc.add (S : Sc K D news h) {a : Addr} {o : Obj} (e : h.get? a = some o) (d : D a = none) (n : a ∉ news.map (·.1)) : Sc K D ((a, o) :: news) h :=
 ⟨S.st, S.keep, List.forall_mem_cons.mpr ⟨e, S.led⟩, List.nodup_cons.mpr ⟨n, S.nodup⟩, List.forall_mem_cons.mpr ⟨d, S.off⟩⟩
theorem Sc.leave (S : Sc K D (ps ++ rest) h) (kp : ∀ c x, c ∉ ps.map (·.1) → h.get? c = some x → h'.get? c = some x) : Sc K D rest h' := by
 have nd := List.nodup_append.mp (List.map_append ▸ S.nodup)
 refine ⟨S.st, fun b o q => kp _ _ (fun m => ek1_2 (List.mem_map.mp m) fun p hp e => S.ne (List.mem_append_left _ hp) q e.symm) (S.keep _ _ q), fun p h => ?_, nd.2.1, fun p h => S.off p (List.mem_append_right _ h)⟩
 exact kp _ _ (fun m => nd.2.2 _ m _ (List.mem_map_of_mem h) rfl) (S.led p (List.mem_append_right _ h))
theorem Sc.swap (S : Sc K D (ps ++ rest) h) (e : ps'.map (·.1) = ps.map (·.1)) (hp : ∀ p ∈ ps', h'.get? p.1 = some p.2) (kp : ∀ c x, c ∉ ps.map (·.1) → h.get? c = some x → h'.get? c = some x) : Sc K D (ps' ++ rest) h' := by
 have L := S.leave kp
 refine ⟨S.st, L.keep, List.forall_mem_append.mpr ⟨hp, L.led⟩, ?_, List.forall_mem_append.mpr ⟨fun p h => ?_, L.off⟩⟩
 ·rw [List.map_append, e, ← List.map_append]; exact S.nodup
 ·have m : p.1 ∈ ps.map (·.1) := e ▸ List.mem_map_of_mem h
  exact ek1_2 (List.mem_map.mp m) fun q hq e => e ▸ S.off q (List.mem_append_left _ hq)
end
inductive Pick {α : Type} (p : α) : List α → List α → Prop
 | head {r} : Pick p (p :: r) r
 | tail {q r r'} : Pick p r r' → Pick p (q :: r) (q :: r')
theorem Pick.perm {α : Type} {p : α} {l r : List α} (x : Pick p l r) : l.Perm (p :: r) := by
 induction x with
 | head => exact .refl _
 | tail _ ih => exact (ih.cons _).trans (.swap _ _ _)
theorem Pick.mem {α : Type} {p : α} {l r : List α} (x : Pick p l r) : p ∈ l := x.perm.mem_iff.mpr (.head _)
inductive Take {α : Type} : List α → List α → List α → Prop
 | nil {l} : Take [] l l
 | cons {p ps l m r} : Pick p l m → Take ps m r → Take (p :: ps) l r
theorem Take.perm {α : Type} {ps l r : List α} (x : Take ps l r) : l.Perm (ps ++ r) := by
 induction x with
 | nil => exact .refl _
 | cons a _ ih => exact a.perm.trans (ih.cons _)
noncomputable def FrObj (o : Obj) (vars : List (Str × Option Value)) : Prop := ∃ es ep, o.data = .dict es ep ∧ StrKeys es ∧ ∀ p ∈ vars, nsFind es p.1 = p.2
inductive SetV (x : Str) (v : Option Value) : List (Str × Option Value) → List (Str × Option Value) → Prop
 | head {u r} : SetV x v ((x, u) :: r) ((x, v) :: r)
 | tail {p r r'} : SetV x v r r' → SetV x v (p :: r) (p :: r')
theorem SetV.x1 {x v u q0 r} : SetV x v (q0 :: (x, u) :: r) (q0 :: (x, v) :: r) := .tail <| .head
theorem SetV.x2 {x v u q0 q1 r} : SetV x v (q0 :: q1 :: (x, u) :: r) (q0 :: q1 :: (x, v) :: r) := .tail <| .tail <| .head
theorem SetV.x3 {x v u q0 q1 q2 r} : SetV x v (q0 :: q1 :: q2 :: (x, u) :: r) (q0 :: q1 :: q2 :: (x, v) :: r) := .tail <| .tail <| .tail <| .head
theorem SetV.x4 {x v u q0 q1 q2 q3 r} : SetV x v (q0 :: q1 :: q2 :: q3 :: (x, u) :: r) (q0 :: q1 :: q2 :: q3 :: (x, v) :: r) := .tail <| .tail <| .tail <| .tail <| .head
theorem SetV.x5 {x v u q0 q1 q2 q3 q4 r} : SetV x v (q0 :: q1 :: q2 :: q3 :: q4 :: (x, u) :: r) (q0 :: q1 :: q2 :: q3 :: q4 :: (x, v) :: r) := .tail <| .tail <| .tail <| .tail <| .tail <| .head
theorem SetV.x6 {x v u q0 q1 q2 q3 q4 q5 r} : SetV x v (q0 :: q1 :: q2 :: q3 :: q4 :: q5 :: (x, u) :: r) (q0 :: q1 :: q2 :: q3 :: q4 :: q5 :: (x, v) :: r) := .tail <| .tail <| .tail <| .tail <| .tail <| .tail <| .head
theorem SetV.x7 {x v u q0 q1 q2 q3 q4 q5 q6 r} : SetV x v (q0 :: q1 :: q2 :: q3 :: q4 :: q5 :: q6 :: (x, u) :: r) (q0 :: q1 :: q2 :: q3 :: q4 :: q5 :: q6 :: (x, v) :: r) := .tail <| .tail <| .tail <| .tail <| .tail <| .tail <| .tail <| .head
theorem SetV.t8 {x v q0 q1 q2 q3 q4 q5 q6 q7 r r'} (s : SetV x v r r') : SetV x v (q0 :: q1 :: q2 :: q3 :: q4 :: q5 :: q6 :: q7 :: r) (q0 :: q1 :: q2 :: q3 :: q4 :: q5 :: q6 :: q7 :: r') := .tail <| .tail <| .tail <| .tail <| .tail <| .tail <| .tail <| .tail <| s
theorem SetV.names {x v l l'} (s : SetV x v l l') : l'.map (·.1) = l.map (·.1) := by
 induction s with
 | head => rfl
 | tail _ ih => simp [ih]
theorem SetV.has {x v l l'} (s : SetV x v l l') : x ∈ l.map (·.1) := by
 induction s with
 | head => simp
 | tail _ ih => simp at ih ⊢; exact .inr ih
theorem SetV.mem {x v l l'} (s : SetV x v l l') (nd : (l.map (·.1)).Nodup) : ∀ p ∈ l', (p.1 = x ∧ p.2 = v) ∨ (p.1 ≠ x ∧ p ∈ l) := by
 induction s with
 | head =>
  intro p hp
  rcases List.mem_cons.mp hp with rfl | hp
  ·exact .inl ⟨rfl, rfl⟩
  ·exact .inr ⟨ne_fst (List.nodup_cons.mp nd).1 hp, .tail _ hp⟩
 | tail s ih =>
  intro p hp
  rcases List.mem_cons.mp hp with rfl | hp
  ·exact .inr ⟨fun q => (List.nodup_cons.mp nd).1 (show p.1 ∈ _ from q.symm ▸ s.has), .head _⟩
  ·rcases ih (List.nodup_cons.mp nd).2 p hp with q | q
   ·exact .inl q
   ·exact .inr ⟨q.1, .tail _ q.2⟩
noncomputable def Glob (K : Frag) (x : Str) (v : Value) : Prop := nsIn K mainGlobals x = some (some v) ∨ (nsIn K mainGlobals x = some none ∧ bootBuiltins x = some v ∧ x ≠ "__name__")
structure EnvOk (K : Frag) (D : Dm) (env : Env) (gl cl : List (Str × Value)) (names : List Str) : Prop where
 kind : env.scope.kind = .function
 ng : env.globals = mainGlobals
 nb : env.builtins = builtinsNs
 lk : ∀ x ∈ names, env.kindOf x = some .local ∧ (x == ("__debug__" : Str)) = false
 nd : names.Nodup
 gk : ∀ p ∈ gl, env.kindOf p.1 = some .globalImplicit ∧ (p.1 == ("__debug__" : Str)) = false ∧ Glob K p.1 p.2
 ck : ∀ p ∈ cl, (env.kindOf p.1 = some .cell ∨ env.kindOf p.1 = some .free) ∧ (p.1 == ("__debug__" : Str)) = false ∧ (p.1 == ("__classdict__" : Str)) = false ∧
  ∃ c o, env.cells.lookup p.1 = some c ∧ D c = some o ∧ o.data = .cell (some p.2)
theorem EnvOk.mono {K D D' env gl cl names} (e : EnvOk K D env gl cl names) (l : Le D D') : EnvOk K D' env gl cl names :=
 ⟨e.kind, e.ng, e.nb, e.lk, e.nd, e.gk, fun p hp => ek0_4 (e.ck p hp) fun a b c z1 => ek2_3 z1 fun d o x y z => ⟨a, b, c, d, o, x, l _ _ y, z⟩⟩
structure Fx (K : Frag) (D : Dm) (env : Env) (gl cl : List (Str × Value)) (vars : List (Str × Option Value)) (news : List (Addr × Obj)) (h : Heap) : Prop where
 e : EnvOk K D env gl cl (vars.map (·.1))
 f : ∃ o, Sc K D ((env.locals, o) :: news) h ∧ FrObj o vars
section
variable {h h' : Heap} {gl cl : List (Str × Value)} {env : Env} {K : Frag} {D D' : Dm} {news news' : List (Addr × Obj)} {vars vars' : List (Str × Option Value)}
theorem Fx.sc (F : Fx K D env gl cl vars news h) : Sc K D news h := ek1_2 F.f fun ξ S ξ => S.drop
theorem Fx.ns (F : Fx K D env gl cl vars news h) : ∃ m, h.Ns env.locals m ∧ ∀ p ∈ vars, m p.1 = p.2 := by
 refine ek1_2 F.f fun o S z1 => ?_; refine ek2_3 z1 fun es ep hd hk hf => ?_; clear z1
 exact ⟨fun x => nsFind es x, ⟨o, es, ep, S.head, hd, hk, fun ξ => rfl⟩, hf⟩
theorem Fx.grow (F : Fx K D env gl cl vars news h) (k : ∀ b o, h.get? b = some o → h'.get? b = some o) : Fx K D env gl cl vars news h' :=
 ⟨F.e, ek1_2 F.f fun o S x => ⟨o, S.grow k, x⟩⟩
theorem Fx.push (F : Fx K D env gl cl vars news h) (o : Obj) (hf : o.isFreed = false := by rfl) : Fx K D env gl cl vars ((h.objs.size, o) :: news) (h.push o) :=
 ⟨F.e, ek1_2 F.f fun oL S x => ⟨oL, (S.push o hf).perm (.swap _ _ _), x⟩⟩
theorem Fx.perm (F : Fx K D env gl cl vars news h) (p : news.Perm news') : Fx K D env gl cl vars news' h := ⟨F.e, ek1_2 F.f fun oL S x => ⟨oL, S.perm (p.cons _), x⟩⟩
theorem Fx.freeze {a : Addr} {o : Obj} (F : Fx K D env gl cl vars ((a, o) :: news) h) : Fx K (D.put a o) env gl cl vars news h :=
 ek1_2 F.f fun oL S x =>
 have S' := S.perm (.swap _ _ _)
 ⟨F.e.mono S'.freeze_le, oL, S'.freeze, x⟩
theorem Fx.drop {a : Addr} {o : Obj} (F : Fx K D env gl cl vars ((a, o) :: news) h) : Fx K D env gl cl vars news h :=
 ek1_2 F.f fun oL S x =>
 ⟨F.e, oL, (S.perm (.swap _ _ _)).drop, x⟩
theorem Fx.out (F : Fx K D env gl cl vars news h) {ps rest : List (Addr × Obj)} (T : Take ps news rest) :
  ∃ oL, Sc K D (ps ++ (env.locals, oL) :: rest) h ∧ ∀ D' ps' h', Le D D' → Sc K D' (ps' ++ (env.locals, oL) :: rest) h' → Fx K D' env gl cl vars (ps' ++ rest) h' := by
 refine ek1_2 F.f fun oL S x => ?_
 refine ⟨oL, S.perm ((T.perm.cons _).trans List.perm_middle.symm), fun D' ps' h' l S' => ⟨F.e.mono l, oL, S'.perm List.perm_middle, x⟩⟩
noncomputable def Back (K : Frag) (D : Dm) (env : Env) (gl cl : List (Str × Value)) (vars : List (Str × Option Value)) (rest : List (Addr × Obj)) (oL : Obj) : Prop :=
 ∀ D' ps' h', Le D D' → Sc K D' (ps' ++ (env.locals, oL) :: rest) h' → Fx K D' env gl cl vars (ps' ++ rest) h'
theorem Fx.outk {P : Prop} (F : Fx K D env gl cl vars news h) {ps rest : List (Addr × Obj)} (T : Take ps news rest) (k : ∀ oL, Sc K D (ps ++ (env.locals, oL) :: rest) h → Back K D env gl cl vars rest oL → P) : P :=
 ek1_2 (F.out T) fun oL a b => k oL a b
theorem Fx.upd {a : Addr} {o o' : Obj} {rest : List (Addr × Obj)} (F : Fx K D env gl cl vars ((a, o) :: rest) h) (hs : ∀ b x, b ≠ a → h.get? b = some x → h'.get? b = some x) (ha : h'.get? a = some o') : Fx K D env gl cl vars ((a, o') :: rest) h' :=
 ek1_2 F.f fun oL S x =>
 ⟨F.e, oL, ((S.perm (.swap _ _ _)).upd hs ha).perm (.swap _ _ _), x⟩
end
section
variable {h h' : Heap} {t : Nat} {gl cl : List (Str × Value)} {env : Env} {x : Str} {pos : Pos} {γ : G} {A : Around} {K : Frag} {D D' : Dm} {news news' : List (Addr × Obj)} {vars vars' : List (Str × Option Value)} {v : Value}
theorem w_ldn {Q : Value → Heap → Nat → Prop} (F : Fx K D env gl cl vars news h) (hm : Has (x, some v) vars) (q : Q v h t) : W γ A (loadName env x) Q h t := by
 obtain ⟨m, hn, hv⟩ := F.ns
 exact ⟨wpAny_loadName_local F.e.kind (F.e.lk x (mem_fst hm.mem)).1 hn (hv _ hm.mem) ⟨h, t, rfl, q⟩⟩
theorem w_ld {Q : Value → Heap → Nat → Prop} (F : Fx K D env gl cl vars news h) (hm : Has (x, some v) vars) (q : Q v h t) : W γ A (eval (.Name x pos) env) Q h t :=
 ⟨wpAny_Name (w_ldn F hm q).out (F.e.lk x (mem_fst hm.mem)).2⟩
theorem w_gl {Q : Value → Heap → Nat → Prop} (F : Fx K D env gl cl vars news h) (hm : Has (x, v) gl) (q : Q v h t) : W γ A (eval (.Name x pos) env) Q h t := by
 obtain ⟨a, b, c⟩ := F.e.gk _ hm.mem
 refine ek4_1 F.sc.top fun p loose mg mb T => ?_
 rcases c with c | ⟨c, d, e⟩
 ·exact ⟨Name_function_global F.e.kind a (loadGlobal_global (F.e.ng ▸ T.g) (mg_of F.sc.inK T.g c) ⟨h, t, rfl, q⟩) b⟩
 ·exact ⟨Name_function_global F.e.kind a (loadGlobal_builtin (F.e.ng ▸ T.g) (mg_none_of F.sc.inK T.g c) (F.e.nb ▸ T.b) ((T.builtins x e).trans d) ⟨h, t, rfl, q⟩) b⟩
theorem w_cl {Q : Value → Heap → Nat → Prop} (F : Fx K D env gl cl vars news h) (hm : Has (x, v) cl) (q : Q v h t) : W γ A (eval (.Name x pos) env) Q h t := by
 refine ek0_4 (F.e.ck _ hm.mem) fun a b c z1 => ?_; refine ek2_3 z1 fun ca o d e f => ?_; clear z1
 have hc : h.IsCell ca (some v) := ⟨o, F.sc.keep _ _ e, f⟩
 rcases a with a | a
 ·exact ⟨wpAny_Name (wpAny_loadName_cell F.e.kind a d hc ⟨h, t, rfl, q⟩) b⟩
 ·exact ⟨wpAny_Name (wpAny_loadName_free F.e.kind a d hc ⟨h, t, rfl, q⟩ c) b⟩
theorem w_st {Q : Unit → Heap → Nat → Prop} (F : Fx K D env gl cl vars news h) (hs : SetV x (some v) vars vars') (k : ∀ h' t', Fx K D env gl cl vars' news h' → Q () h' t') : W γ A (storeName env x v) Q h t := by
 refine ek1_2 F.f fun o S z1 => ?_; refine ek2_3 z1 fun es ep hd hk hf => ?_; clear z1
 refine ⟨wpAny_storeName_local (m := fun x => nsFind es x) (F.e.lk x hs.has).1 ⟨o, es, ep, S.head, hd, hk, fun ξ => rfl⟩ (fun h' hn hsb => ⟨h', _, rfl, k h' _ ⟨?_, ?_⟩⟩) (by rw [F.e.kind]; rfl)⟩
 ·rw [hs.names]; exact F.e
 ·refine ek3_4 hn fun o' es' ep' ho' hd' hk' hf' => ?_; clear hn
  refine ⟨o', S.upd (fun b x hb e => (hsb.2 b hb).trans e) ho', es', ep', hd', hk', fun p hp => ?_⟩
  rw [hf']
  show (if p.1 = x then some v else nsFind es p.1) = p.2
  rcases hs.mem F.e.nd p hp with ⟨a, b⟩ | ⟨a, b⟩
  ·rw [if_pos a, b]
  ·rw [if_neg a]; exact hf p b
end
end
section
structure Room (A : Around) (n : Nat) : Prop where
 d : A.depth + n ≤ 990
 u : A.units + 10 * n ≤ 9890
 hn : A.handled = none
theorem Room.lt {A n} (r : Room A (n + 1)) : A.depth < recursionLimit := by have := r.d; show A.depth < 1000; exact nL this (by kcf_m)
theorem Room.units {A n} (r : Room A (n + 1)) : A.units < cLine := by have := r.u; show A.units < 9900; exact nL this (by kcf_m)
theorem Room.deeper {A n env} (r : Room A (n + 1)) : Room (A.deeper env) n := ⟨by have := r.d; show A.depth + 1 + n ≤ 990; exact nZ this (by kcf_m), by have := r.u; show A.units + 3 + 10 * n ≤ 9890; exact nZ this (by kcf_m), r.hn⟩
theorem Room.in1 {A n} (r : Room A (n + 1)) : Room A.in1 n := ⟨by have := r.d; show A.depth + n ≤ 990; exact Nat.le_of_lt this, by have := r.u; show A.units + 1 + 10 * n ≤ 9890; exact nZ this (by kcf_m), r.hn⟩
theorem Room.mono {A n m} (r : Room A n) (l : m ≤ n) : Room A m := ⟨by have := r.d; exact nZ (nA l this) (by kcf_m), by have := r.u; kcf_m, r.hn⟩
theorem room_caller : Room callerA 500 := ⟨by decide, by decide, rfl⟩
noncomputable def keepOk (K : Frag) : Value → Bool
 | .ref a => keepIn K (.ref a)
 | _ => true
theorem keepOk_of {M : Model} {K : Frag} {f : Value} (e : keepOk K f = true) (h : Heap) (X : K.In h) : ∃ k, (k = Keeper.frame ∨ k = Keeper.machine ∨ k = Keeper.boundFrame) ∧ Looks M h (keeperOf f) k := by
 cases f with
 | ref a => exact keeps_K (show keepIn K (.ref a) = true from e) h X
 | _ => exact ⟨.machine, .inr (.inl rfl), Looks.of_pure rfl⟩
@[reducible] noncomputable def cat (first vs : List Value) : List Value := match first with
 | [] => vs
 | [a] => a :: vs
 | l => l ++ vs
theorem cat_eq : ∀ (l vs : List Value), cat l vs = l ++ vs
 | [], _ => rfl
 | [_], _ => rfl
 | _ :: _ :: _, _ => rfl
section
variable {h : Heap} {t : Nat} {env : Env} {pos : Pos} {e : Expr} {rest : List Expr} {kws : List Keyword} {γ : G} {A : Around} {K : Frag} {f : Value} {first : List Value} {Q : Value → Heap → Nat → Prop}
theorem w_callwith (hk : keepOk K f = true) (x : W γ A (spliced (backTo pos (starEach (e :: rest) env))) (fun vs h t => K.In h ∧ W γ A (call f (cat first vs)) Q h t) h t)
  (he : starEach (e :: rest) env = (false, eval e env) :: starEach rest env := by with_unfolding_all rfl) (hplain : (backTo pos (starEach rest env)).any (·.1) = false := by with_unfolding_all rfl) :
  W γ A (callWith pos f first (backTo pos (starEach (e :: rest) env)) (backToKw pos (keywordEach [] env))) Q h t := by
 simp only [cat_eq] at x
 show W γ A (callWith pos f first (backTo pos (starEach (e :: rest) env)) []) Q h t
 rw [he] at x ⊢
 exact ⟨callWith_of (P := K.In) (by show ((false || (backTo pos (starEach rest env)).any (·.1)) || false) = false; rw [hplain]; rfl) (keepOk_of hk) (evalArgs_plain (W.use x fun ξ ξ ξ y => ⟨y.1, y.2.out⟩))⟩
theorem w_callwith0 (hk : keepOk K f = true) (X : K.In h) (x : W γ A (call f (cat first [])) Q h t) : W γ A (callWith pos f first (backTo pos (starEach [] env)) (backToKw pos (keywordEach [] env))) Q h t := by
 rw [cat_eq] at x
 exact ⟨callWith_of (P := K.In) rfl (keepOk_of hk) (evalArgs_nil3 ⟨X, x.out⟩)⟩
theorem plain_keep {M : Model} {f : Value} (e : f.onHeap = false) (h : Heap) (_ : True) : ∃ k, (k = Keeper.frame ∨ k = Keeper.machine ∨ k = Keeper.boundFrame) ∧ Looks M h (keeperOf f) k := by
 cases f with
 | ref a => cases e
 | _ => exact ⟨.machine, .inr (.inl rfl), Looks.of_pure rfl⟩
theorem w_cw_plain (hf : f.onHeap = false) (x : W γ A (spliced (backTo pos (starEach (e :: rest) env))) (fun vs => W γ A (call f (cat first vs)) Q) h t)
  (he : starEach (e :: rest) env = (false, eval e env) :: starEach rest env := by with_unfolding_all rfl) (hplain : (backTo pos (starEach rest env)).any (·.1) = false := by with_unfolding_all rfl) :
  W γ A (callWith pos f first (backTo pos (starEach (e :: rest) env)) (backToKw pos (keywordEach [] env))) Q h t := by
 simp only [cat_eq] at x
 show W γ A (callWith pos f first (backTo pos (starEach (e :: rest) env)) []) Q h t
 rw [he] at x ⊢
 exact ⟨callWith_of (P := fun ξ => True) (by show ((false || (backTo pos (starEach rest env)).any (·.1)) || false) = false; rw [hplain]; rfl) (plain_keep hf) (evalArgs_plain (W.use x fun ξ ξ ξ y => ⟨trivial, y.out⟩))⟩
theorem w_cw_plain0 (hf : f.onHeap = false) (x : W γ A (call f (cat first [])) Q h t) : W γ A (callWith pos f first (backTo pos (starEach [] env)) (backToKw pos (keywordEach [] env))) Q h t := by
 rw [cat_eq] at x
 exact ⟨callWith_of (P := fun ξ => True) rfl (plain_keep hf) (evalArgs_nil3 ⟨trivial, x.out⟩)⟩
theorem w_cw_ty {n : String} (x : W γ A (spliced (backTo pos (starEach (e :: rest) env))) (fun vs => W γ A (call (.type n) (cat first vs)) Q) h t)
  (he : starEach (e :: rest) env = (false, eval e env) :: starEach rest env := by with_unfolding_all rfl) (hplain : (backTo pos (starEach rest env)).any (·.1) = false := by with_unfolding_all rfl) :
  W γ A (callWith pos (.type n) first (backTo pos (starEach (e :: rest) env)) (backToKw pos (keywordEach [] env))) Q h t := w_cw_plain rfl x he hplain
theorem w_cw_bi {n : String} (x : W γ A (spliced (backTo pos (starEach (e :: rest) env))) (fun vs => W γ A (call (.builtin n) (cat first vs)) Q) h t)
  (he : starEach (e :: rest) env = (false, eval e env) :: starEach rest env := by with_unfolding_all rfl) (hplain : (backTo pos (starEach rest env)).any (·.1) = false := by with_unfolding_all rfl) :
  W γ A (callWith pos (.builtin n) first (backTo pos (starEach (e :: rest) env)) (backToKw pos (keywordEach [] env))) Q h t := w_cw_plain rfl x he hplain
theorem w_cw_bi0 {n : String} (x : W γ A (call (.builtin n) (cat first [])) Q h t) : W γ A (callWith pos (.builtin n) first (backTo pos (starEach [] env)) (backToKw pos (keywordEach [] env))) Q h t := w_cw_plain0 rfl x
theorem w_kw_nil {Q : List Value → Heap → Nat → Prop} (q : Q [] h t) : W γ A (evalAll ((backToKw pos (keywordEach [] env)).map (·.2))) Q h t := ⟨kwAll_nil ⟨h, t, rfl, q⟩⟩
theorem w_kw_cons {p : Pos} {name : Str} {value : Expr} {rest : List Keyword} {Q : List Value → Heap → Nat → Prop}
  (x : W γ A (eval value env) (fun v => W γ A (evalAll ((backToKw pos (keywordEach rest env)).map (·.2))) (fun vs h t => Q (v :: vs) h t)) h t) :
  W γ A (evalAll ((backToKw pos (keywordEach (⟨some name, value, p⟩ :: rest) env)).map (·.2))) Q h t :=
 ⟨kwAll_cons (W.use x fun ξ ξ ξ y => W.use y fun ξ h' t' q => ⟨h', t', rfl, q⟩)⟩
theorem w_ecall {func : Expr} {args : List Expr}
  (x : W γ A (eval func env) (fun f => W γ A (callWith pos f [] (backTo pos (starEach args env)) (backToKw pos (keywordEach kws env))) Q) h t)
  (he : eval (.Call func args kws pos) env = (do callWith pos (← eval func env) [] (backTo pos (starEach args env)) (backToKw pos (keywordEach kws env))) := by with_unfolding_all rfl) :
  W γ A (eval (.Call func args kws pos) env) Q h t := by
 rw [he]; exact w_bind x
theorem w_mcall {o : Expr} {name : Str} {apos : Pos} {args : List Expr}
  (x : W γ A (eval o env) (fun ov => W γ A (getMethod ov name (do return (← importBound o env).getD true)) (fun fs => W γ A (callWith pos fs.1 fs.2 (backTo pos (starEach args env)) (backToKw pos (keywordEach kws env))) Q)) h t)
  (hb : attributeBase o name env (eval o env) = eval o env := by with_unfolding_all rfl)
  (hf : methodCallForm (args.length + kws.length) (backTo pos (starEach args env)) (backToKw pos (keywordEach kws env)) = true := by with_unfolding_all rfl)
  (hp : methodCallPos true o env apos pos = pure pos := by with_unfolding_all rfl) : W γ A (eval (.Call (.Attribute o name apos) args kws pos) env) Q h t := by
 rw [arm_eval_Call, hb]
 refine w_bind (x.mono fun ov h₁ t₁ y => w_bind (w_standAt ?_))
 unfold methodCall
 refine hf.symm ▸ ?_
 refine w_bind (w_holding (y.mono fun fs h₂ t₂ z => ?_))
 obtain ⟨f, first⟩ := fs
 rw [hp]
 exact w_bind (w_pure z)
end
noncomputable def retOf : Flow → Value
 | .ret v => v
 | _ => .none
noncomputable def mkV (binds : List (Str × Value)) (others : List Str) : List (Str × Option Value) := binds.map (fun p => (p.1, some p.2)) ++ others.map fun x => (x, none)
noncomputable def entryOk (scope : Scope) (ns others gn : List Str) : Bool :=
 scope.kind == .function && !scope.isCoroutine && !scope.isGenerator && scope.names.all (fun x => x.2 != .cell) &&
 (ns ++ others).all (fun x => scope.names.lookup x == some .local && !(x == ("__debug__" : Str))) && decide (ns ++ others).Nodup &&
 gn.all (fun x => scope.names.lookup x == some .globalImplicit && !(x == ("__debug__" : Str)))
theorem entryOk_k {P : Prop} {scope : Scope} {ns others gn : List Str} (e : entryOk scope ns others gn = true) (k : scope.kind = .function → scope.isCoroutine = false → scope.isGenerator = false → (∀ x ∈ scope.names, ¬x.2 = .cell) →
  (∀ x ∈ ns ++ others, scope.names.lookup x = some .local ∧ (x == ("__debug__" : Str)) = false) → (ns ++ others).Nodup → (∀ x ∈ gn, scope.names.lookup x = some .globalImplicit ∧ (x == ("__debug__" : Str)) = false) → P) : P :=
 ba7 e fun e1 e2 e3 e4 e5 e6 e7 => k (eq_of_beq e1) (nt e2) (nt e3) (fun ξ hx => bne_iff_ne.mp (al e4 hx)) (fun ξ hx => ba2 (al e5 hx) fun a b => ⟨eq_of_beq a, nt b⟩) (of_decide_eq_true e6) fun ξ hx => ba2 (al e7 hx) fun a b => ⟨eq_of_beq a, nt b⟩
noncomputable def GlobAll (K : Frag) : List (Str × Value) → Prop
 | [] => True
 | p :: r => Glob K p.1 p.2 ∧ GlobAll K r
theorem GlobAll.get {K : Frag} {l : List (Str × Value)} (x : GlobAll K l) : ∀ p ∈ l, Glob K p.1 p.2 := by
 induction l with
 | nil => intro p h; cases h
 | cons q r ih => exact fun p h => (List.mem_cons.mp h).elim (fun e => e ▸ x.1) (ih x.2 p)
theorem lookup_of_mem_nd {l : List (Str × Value)} (nd : (l.map (·.1)).Nodup) {p : Str × Value} (hp : p ∈ l) : l.reverse.lookup p.1 = some p.2 := by
 have nd' : (l.reverse.map (·.1)).Nodup := by rw [List.map_reverse]; exact (List.reverse_perm _).nodup_iff.mpr nd
 have hp' : p ∈ l.reverse := List.mem_reverse.mpr hp
 generalize l.reverse = r at nd' hp'
 induction r with
 | nil => cases hp'
 | cons q r ih =>
  rw [List.lookup_cons]
  have nq := List.nodup_cons.mp nd'
  rcases List.mem_cons.mp hp' with rfl | hp'
  ·simp
  ·have : (p.1 == q.1) = false := beq_eq_false_iff_ne.mpr (ne_fst nq.1 hp')
   rw [this]; exact ih nq.2 hp'
theorem lookup_none_of_notin {l : List (Str × Value)} {x : Str} (hx : x ∉ l.map (·.1)) : l.reverse.lookup x = none := by
 rw [List.lookup_eq_none_iff]
 intro p hp
 rw [List.mem_reverse] at hp
 have := Ne.symm (ne_fst hx hp)
 simpa using this
theorem mkV_names (binds : List (Str × Value)) (others : List Str) : (mkV binds others).map (·.1) = binds.map (·.1) ++ others := by
 unfold mkV; rw [List.map_append, List.map_map, List.map_map]; exact congrArg (_ ++ ·) (List.map_id others)
theorem Fx.fresh {K : Frag} {D : Dm} {news : List (Addr × Obj)} {h h₁ : Heap} {env : Env} {gl cl binds : List (Str × Value)} {others : List Str} (S : Sc K D news h) (hL : env.locals = h.objs.size) (hk : ∀ b o, h.get? b = some o → h₁.get? b = some o)
  (kind : env.scope.kind = .function) (ng : env.globals = mainGlobals) (nb : env.builtins = builtinsNs) (lk : ∀ x ∈ binds.map (·.1) ++ others, env.kindOf x = some .local ∧ (x == ("__debug__" : Str)) = false) (nd : (binds.map (·.1) ++ others).Nodup)
  (gk : ∀ x ∈ gl.map (·.1), env.kindOf x = some .globalImplicit ∧ (x == ("__debug__" : Str)) = false) (hg : GlobAll K gl)
  (ck : ∀ p ∈ cl, (env.kindOf p.1 = some .cell ∨ env.kindOf p.1 = some .free) ∧ (p.1 == ("__debug__" : Str)) = false ∧ (p.1 == ("__classdict__" : Str)) = false ∧ ∃ c o, env.cells.lookup p.1 = some c ∧ D c = some o ∧ o.data = .cell (some p.2))
  (ns : h₁.Ns h.objs.size (fun x => binds.reverse.lookup x)) : Fx K D env gl cl (mkV binds others) news h₁ := by
 have n3 := List.nodup_append.mp nd
 refine ek3_4 ns fun o es ep ho hd hk' hf => ?_
 refine ⟨⟨kind, ng, nb, fun x hx => lk x (mkV_names _ _ ▸ hx), (mkV_names _ _).symm ▸ nd, fun p hp => have q := gk _ (List.mem_map_of_mem hp); ⟨q.1, q.2, hg.get p hp⟩, ck⟩, o, hL.symm ▸ (S.grow hk).add ho (S.noD (Nat.le_refl _)) (S.noN (Nat.le_refl _)), es, ep, hd, hk', fun p hp => (hf p.1).trans ?_⟩
 rcases List.mem_append.mp hp with hp | hp
 ·refine ek1_2 (List.mem_map.mp hp) fun q hq z1 => ?_; obtain rfl := z1
  exact lookup_of_mem_nd n3.1 hq
 ·refine ek1_2 (List.mem_map.mp hp) fun x hx z1 => ?_; obtain rfl := z1
  exact lookup_none_of_notin fun hm => n3.2.2 _ hm _ hx rfl
section
variable {h : Heap} {t : Nat} {γ : G} {A : Around} {K : Frag} {D : Dm} {news : List (Addr × Obj)} {f : Addr} {args : Args} {R : Value → Heap → Nat → Prop}
 {name qual : Str} {params : Arguments} {body : List Stmt} {scope : Scope} {dV kV doc pm cdv ct oc : Value} {an od : Option Addr} {osl : Array (Option Value)}
theorem w_enter (S : Sc K D news h) (ho : K.lookup f = some ⟨oc, od, .func (fnOf name qual params body scope dV kV doc pm an cdv ct), osl⟩) (hcd : codeIn K cdv qual = true) (hroom : A.depth < recursionLimit)
  (binds : List (Str × Value)) (others : List Str) (gl : List (Str × Value)) (hb : BindsTo (mkS γ h t) (fnOf name qual params body scope dV kV doc pm an cdv ct) args binds)
  (ok : entryOk scope (binds.map (·.1)) others (gl.map (·.1)) = true) (hg : GlobAll K gl)
  (k : ∀ env h' t', Fx K D env gl [] (mkV binds others) news h' → W γ (A.deeper env) (execs body env) (fun fl => R (retOf fl)) h' t') :
  WC γ A (.call (.ref f) args) R h t := by
 refine entryOk_k ok fun o1 o2 o3 o4 o5 o6 o7 => ?_; clear ok
 refine ⟨codeAny_call_def (s := mkS γ h t) (fd := fnOf name qual params body scope dV kV doc pm an cdv ct) (body := body) hroom (S.inK _ _ ho) rfl S.nolimit (codeRec_of S.inK hcd) rfl hb (fun x hx q => o4 x hx q)
  (fun x hx => (o5 x.1 (List.mem_append_left _ (List.mem_map_of_mem hx))).1) (fun h₁ hns hk => ?_) o2 o3 o1⟩
 refine wpAny_mono (W.out (k (callEnv (fnOf name qual params body scope dV kV doc pm an cdv ct) h.objs.size f) h₁ (t + binds.length) (Fx.fresh S rfl hk o1 rfl rfl o5 o6 o7 hg (fun p hp => nomatch hp) hns))) (fun fl s' y => ?_) fun ξ ξ y => y.elim
 refine ek2_2 y fun h' t' z1 q => ?_; clear y; obtain rfl := z1
 exact ⟨_, h', t', by cases fl <;> rfl, rfl, _, rfl, q⟩
end
end
section
section
variable {h : Heap} {t : Nat} {γ : G} {A : Around} {a b : Int} {u v : Tok} {Q : Value → Heap → Nat → Prop}
theorem i_add (q : Q (.int (a + b) t) h (t + 1)) : W γ A (binaryOp .Add (.int a u) (.int b v)) Q h t := w_of fun ξ k => by with_reducible exact PySem.P.add_int (k _ _ _ q)
theorem i_sub (q : Q (.int (a - b) t) h (t + 1)) : W γ A (binaryOp .Sub (.int a u) (.int b v)) Q h t := w_of fun ξ k => by with_reducible exact PySem.P.sub_int (k _ _ _ q)
theorem i_mul (hm : IntMulOk a b) (q : Q (.int (a * b) t) h (t + 1)) : W γ A (binaryOp .Mult (.int a u) (.int b v)) Q h t := w_of fun ξ k => by with_reducible exact PySem.P.mul_int (k _ _ _ q) hm
theorem i_fdiv (hb : 0 < b) (hb' : b < 1000000000) (q : Q (.int (a / b) t) h (t + 1)) : W γ A (binaryOp .FloorDiv (.int a u) (.int b v)) Q h t := w_of fun ξ k => by
 rw [← Int.fdiv_eq_ediv_of_nonneg _ (Int.le_of_lt hb)] at q
 with_reducible exact floordiv_int (by kcf_m) (k _ _ _ q) (.inl (PyProof.noPylong_small (by kcf_m)))
theorem i_mod (hb : 0 < b) (q : Q (.int (a % b) t) h (t + 1)) : W γ A (binaryOp .Mod (.int a u) (.int b v)) Q h t := w_of fun ξ k => by
 rw [← Int.fmod_eq_emod_of_nonneg _ (Int.le_of_lt hb)] at q
 with_reducible exact mod_int' (by kcf_m) (k _ _ _ q)
theorem i_shl (hn : 0 ≤ b) (hn2 : b ≤ 1000000) (ha : a.natAbs < 2 ^ 64) (q : Q (.int (a * 2 ^ b.toNat) t) h (t + 1)) : W γ A (binaryOp .LShift (.int a u) (.int b v)) Q h t := w_of fun ξ k => by with_reducible exact lshift_int_small hn hn2 ha (k _ _ _ q)
theorem i_shr (hn : 0 ≤ b) (q : Q (.int (a / 2 ^ b.toNat) t) h (t + 1)) : W γ A (binaryOp .RShift (.int a u) (.int b v)) Q h t := w_of fun ξ k => by
 rw [← Int.fdiv_eq_ediv_of_nonneg _ (Int.pow_nonneg (by kcf_m))] at q
 with_reducible exact rshift_int hn (k _ _ _ q)
theorem i_and (q : Q (.int (Builtin.bitAnd a b) t) h (t + 1)) : W γ A (binaryOp .BitAnd (.int a u) (.int b v)) Q h t := w_of fun ξ k => by with_reducible exact and_int (k _ _ _ q)
theorem i_or (q : Q (.int (Builtin.bitOr a b) t) h (t + 1)) : W γ A (binaryOp .BitOr (.int a u) (.int b v)) Q h t := w_of fun ξ k => by with_reducible exact or_int (k _ _ _ q)
theorem i_neg (q : Q (.int (-a) t) h (t + 1)) : W γ A (unaryOp .USub (.int a u)) Q h t := w_of fun ξ k => by with_reducible exact PySem.P.neg_int (k _ _ _ q)
theorem i_not (q : Q (.int (Builtin.bitNot a) t) h (t + 1)) : W γ A (unaryOp .Invert (.int a u)) Q h t := w_of fun ξ k => by with_reducible exact invert_int (k _ _ _ q)
theorem i_lt (q : Q (.bool (decide (a < b))) h t) : W γ A (compareOp .Lt (.int a u) (.int b v)) Q h t := w_of fun ξ k => by with_reducible exact PySem.P.lt_int (k _ _ _ q)
theorem i_le (q : Q (.bool (decide (a ≤ b))) h t) : W γ A (compareOp .LtE (.int a u) (.int b v)) Q h t := w_of fun ξ k => by with_reducible exact PySem.P.le_int (k _ _ _ q)
theorem i_gt (q : Q (.bool (decide (a > b))) h t) : W γ A (compareOp .Gt (.int a u) (.int b v)) Q h t := w_of fun ξ k => by with_reducible exact PySem.P.gt_int (k _ _ _ q)
theorem i_ge (q : Q (.bool (decide (a ≥ b))) h t) : W γ A (compareOp .GtE (.int a u) (.int b v)) Q h t := w_of fun ξ k => by with_reducible exact PySem.P.ge_int (k _ _ _ q)
theorem i_eq (q : Q (.bool (decide (a = b))) h t) : W γ A (compareOp .Eq (.int a u) (.int b v)) Q h t := w_of fun ξ k => by
 rw [show decide (a = b) = (a == b) by by_cases e : a = b <;> simp [e]] at q
 with_reducible exact PySem.P.eq_int (k _ _ _ q)
theorem i_ne (q : Q (.bool (decide (a ≠ b))) h t) : W γ A (compareOp .NotEq (.int a u) (.int b v)) Q h t := w_of fun ξ k => by
 rw [show decide (a ≠ b) = (a != b) by by_cases e : a = b <;> simp [e]] at q
 with_reducible exact PySem.P.ne_int (k _ _ _ q)
theorem i_iadd (q : Q (.int (a + b) t) h (t + 1)) : W γ A (inplaceOp .Add (.int a u) (.int b v)) Q h t := w_of fun ξ k => by with_reducible exact PySem.P.iadd_int (k _ _ _ q)
theorem i_imul (hm : IntMulOk a b) (q : Q (.int (a * b) t) h (t + 1)) : W γ A (inplaceOp .Mult (.int a u) (.int b v)) Q h t := w_of fun ξ k => by with_reducible exact PySem.P.imul_int (k _ _ _ q) hm
theorem w_isNone {x : Value} (q : Q (.bool (x == .none)) h t) : W γ A (compareOp .Is x .none) Q h t := w_of fun ξ k => by with_reducible exact is_none (k _ _ _ q)
theorem w_isNotNone {x : Value} (q : Q (.bool (!(x == .none))) h t) : W γ A (compareOp .IsNot x .none) Q h t := w_of fun ξ k => by with_reducible exact isNot_none (k _ _ _ q)
end
end
section
inductive Ents : List DictEntry → List (Str × Value) → Prop
 | nil : Ents [] []
 | cons {e : DictEntry} {es : List DictEntry} {p : Str × Value} {fs : List (Str × Value)} {tk : Tok} : e.key = .str p.1 tk → e.val = p.2 → Ents es fs → Ents (e :: es) (p :: fs)
noncomputable def putF (name : Str) (v : Value) : List (Str × Value) → List (Str × Value)
 | [] => [(name, v)]
 | p :: r => if name = p.1 then (p.1, v) :: r else p :: putF name v r
theorem isStr_lit (x y : Str) (tk : Tok) : (Value.str x tk).isStr y = decide (y = x) := by
 show (x == y) = _
 by_cases e : y = x
 ·subst e; simp
 ·rw [decide_eq_false e]; exact beq_eq_false_iff_ne.mpr (Ne.symm e)
theorem getL_cons {name : Str} {e : DictEntry} {es : List DictEntry} {x : Str} {tk : Tok} (a : e.key = .str x tk) : getL name (e :: es) = if name = x then some (some e.val) else getL name es := by
 by_cases q : name = x
 ·rw [if_pos q]
  show (match (e :: es).find? (·.key.isStr name) with | some e => some (some e.val) | none => _) = _
  rw [List.find?_cons_of_pos (by rw [a, isStr_lit, q]; exact decide_eq_true rfl)]
 ·rw [if_neg q]
  show (match (e :: es).find? (·.key.isStr name) with | some e => some (some e.val) | none => if (e.refKey || es.any (·.refKey)) then none else some none) = _
  rw [List.find?_cons_of_neg (by rw [a, isStr_lit, decide_eq_false q]; exact Bool.false_ne_true), show e.refKey = false by unfold DictEntry.refKey; rw [a]]
  rfl
theorem Ents.get {name : Str} {es : List DictEntry} {fs : List (Str × Value)} (x : Ents es fs) : getL name es = some (fs.lookup name) := by
 induction x with
 | nil => rfl
 | @cons e es p fs tk a b _ ih =>
  rw [getL_cons a, List.lookup_cons]
  by_cases q : name = p.1
  ·rw [if_pos q, b, beq_iff_eq.mpr q]
  ·rw [if_neg q, ih, beq_eq_false_iff_ne.mpr q]
theorem Ents.put {name : Str} {v : Value} {hsh : Int} {tk : Tok} {es : List DictEntry} {fs : List (Str × Value)} (x : Ents es fs) : Ents (putL name hsh (.str name tk) v es) (putF name v fs) := by
 induction x with
 | nil => exact .cons (p := (name, v)) rfl rfl .nil
 | @cons e es p fs tk' a b c ih =>
  show Ents (if e.key.isStr name = true then ⟨e.hash, e.key, v⟩ :: es else e :: putL name hsh (.str name tk) v es) (if name = p.1 then (p.1, v) :: fs else p :: putF name v fs)
  rw [a, isStr_lit]
  by_cases q : name = p.1
  ·rw [if_pos q, if_pos (decide_eq_true q)]; exact .cons (p := (p.1, v)) rfl rfl c
  ·rw [if_neg q, if_neg (fun z => q (of_decide_eq_true z))]; exact .cons a b ih
theorem Ents.length {es : List DictEntry} {fs : List (Str × Value)} (x : Ents es fs) : es.length = fs.length := by
 induction x with
 | nil => rfl
 | cons _ _ _ ih => exact congrArg (· + 1) ih
theorem putF_length (name : Str) (v : Value) : ∀ fs : List (Str × Value), (putF name v fs).length ≤ fs.length + 1
 | [] => Nat.le_refl _
 | p :: r => by
  show (if name = p.1 then (p.1, v) :: r else p :: putF name v r).length ≤ _
  by_cases q : name = p.1
  ·rw [if_pos q]; exact Nat.le_succ _
  ·rw [if_neg q]; exact Nat.succ_le_succ (putF_length name v r)
noncomputable def TabO (fs : List (Str × Value)) (o : Obj) : Prop := ∃ es n, o = dictOf es n ∧ Ents es fs
theorem TabO.nil : TabO [] emptyDict := ⟨[], 0, rfl, .nil⟩
theorem TabO.look {fs : List (Str × Value)} {o : Obj} (x : TabO fs o) (name : Str) : lookIn name o = some (fs.lookup name) := by
 refine ek2_2 x fun es n z1 e => ?_; clear x; obtain rfl := z1
 rw [lookIn_dict, e.get]
noncomputable def ownAttr (K : Frag) (C : Addr) (name : Str) : Bool := plainGet K C name && hasDictIn K C && (findIn K (.ref C) name).any (noGet K)
noncomputable def methIn (K : Frag) (C : Addr) (name : Str) (f : Addr) : Bool := plainGet K C name && findIn K (.ref C) name == some (some (.ref f)) && isFn K (.ref f)
noncomputable def refAt : Option (Option Value) → Addr
 | some (some (.ref a)) => a
 | _ => 0
noncomputable def tailAt (l : Option (List Value)) : List Value := (l.getD []).tail
noncomputable def propIn (K : Frag) (C : Addr) (name : Str) (f : Addr) : Bool := plainGet K C name && findIn K (.ref C) name == some (some (.ref (refAt (findIn K (.ref C) name)))) && specialIn K (.ref (refAt (findIn K (.ref C) name))) "__get__" == some (some (.builtin "property.__get__")) && takesIn K (.ref (refAt (findIn K (.ref C) name))) == some true &&
 recIn K (refAt (findIn K (.ref C) name)) "property" == some (.ref f :: tailAt (recIn K (refAt (findIn K (.ref C) name)) "property")) && (clsIn K C).isSome
noncomputable def isVal (v : Value) : Option CFound → Bool
 | some (.val a) => a == v
 | _ => false
theorem isVal_of {v : Value} : ∀ {o : Option CFound}, isVal v o = true → o = some (.val v)
 | some (.val _), h => congrArg (fun x => some (CFound.val x)) (eq_of_beq h)
 | some (.get ..), h => nomatch h
 | none, h => nomatch h
noncomputable def isGet (g a obj tp : Value) : Option CFound → Bool
 | some (.get g' a' o' t') => g' == g && a' == a && o' == obj && t' == tp
 | _ => false
theorem isGet_of {g a obj tp : Value} : ∀ {o : Option CFound}, isGet g a obj tp o = true → o = some (.get g a obj tp)
 | some (.get ..), h => ba4 h fun h1 h2 h3 h4 => by rw [eq_of_beq h1, eq_of_beq h2, eq_of_beq h3, eq_of_beq h4]
 | some (.val ..), h => nomatch h
 | none, h => nomatch h
noncomputable def smAt : Option CFound → Addr
 | some (.get _ (.ref p) _ _) => p
 | _ => 0
noncomputable def metaAt (K : Frag) (C : Addr) : Value := (typeIn K (.ref C)).getD .none
noncomputable def clsVal (K : Frag) (C : Addr) (name : Str) (v : Value) : Bool := readsIn K C (metaAt K C) && isVal v (findCls K (.ref C) (metaAt K C) name) && handedIn v
noncomputable def clsSm (K : Frag) (C : Addr) (name : Str) (f : Addr) : Bool := readsIn K C (metaAt K C) && specialIn K (.ref C) "__getattribute__" == some (some (.builtin "type.__getattribute__")) && isGet (.builtin "staticmethod.__get__") (.ref (smAt (findCls K (.ref C) (metaAt K C) name))) .none (.ref C) (findCls K (.ref C) (metaAt K C) name) &&
 recIn K (smAt (findCls K (.ref C) (metaAt K C) name)) "staticmethod" == some (.ref f :: tailAt (recIn K (smAt (findCls K (.ref C) (metaAt K C) name)) "staticmethod"))
noncomputable def newIn (K : Frag) (C fI : Addr) : Bool := makesIn K C && findIn K (.ref C) "__init__" == some (some (.ref fI)) && typeIn K (.ref fI) == some (.type "function")
noncomputable def setIn (K : Frag) (C : Addr) (name : Str) : Bool := findIn K (.ref C) "__setattr__" == some (some (.builtin "object.__setattr__")) && plainOver K C && takerIn K C name == some none && hasDictIn K C
section
variable {h : Heap} {t : Nat} {fs : List (Str × Value)} {name : Str} {γ : G} {A : Around} {K : Frag} {D : Dm} {news : List (Addr × Obj)} {x C dx f : Addr} {od : Obj} {v : Value}
theorem instAt (hx : h.get? x = some (instObj C dx)) (hd : h.get? dx = some od) : InstAt h x (instObj C dx) C (some od) := ⟨hx, rfl, rfl, hd⟩
theorem w_get_own {expr : Bool} {Q : Value → Heap → Nat → Prop} (X : K.In h) (hx : h.get? x = some (instObj C dx)) (hd : h.get? dx = some od) (ho : TabO fs od) (e : ownAttr K C name = true) (hf : fs.lookup name = some v)
  (hv : handedIn v = true) (q : Q v h (t + 1)) : W γ A (getAttr (.ref x) name expr) Q h t := by
 refine ba3 e fun e1 e2 e3 => ?_
 refine ek1_2 (any_some e3) fun attr ha e3 => ?_
 exact ⟨get_value (s := mkS γ h t) X (instAt hx hd) (plainGet_of e1).1 (findObj_own e2 ha e3 (by rw [ho.look, hf])) hv ⟨h, t + 1, rfl, q⟩⟩
theorem w_getm_inst {pl : Sem Bool} {Q : Value × List Value → Heap → Nat → Prop} (X : K.In h) (hx : h.get? x = some (instObj C dx)) (hd : h.get? dx = some od) (ho : TabO fs od) (e : methIn K C name f = true) (hf : fs.lookup name = none)
  (q : Q (.ref f, [.ref x]) h t) : W γ A (getMethod (.ref x) name pl) Q h t := by
 refine ba3 e fun e1 e2 e3 => ?_
 exact ⟨method_fn (s := mkS γ h t) X (instAt hx hd) (plainGet_of e1).1 (plainGet_of e1).2 (eq_of_beq e2) (beq_iff_eq.mp e3) (by show (lookIn name od).map _ = _; rw [ho.look, hf]; rfl) ⟨h, t, rfl, q⟩⟩
theorem w_get_prop {expr : Bool} {Q : Value → Heap → Nat → Prop} (X : K.In h) (hx : h.get? x = some (instObj C dx)) (hd : h.get? dx = some od) (e : propIn K C name f = true)
  (q : WC γ A.in1 (.call (.ref f) ⟨[.ref x], []⟩) (fun v h t => handedIn v = true ∧ Q v h t) h (t + 1)) : W γ A (getAttr (.ref x) name expr) Q h t := by
 refine ba6 e fun e1 ha e3 e4 hr e2 => ?_
 exact ⟨get_bind (s := mkS γ h t) X (instAt hx hd) (plainGet_of e1).1 (findObj_data e2 (eq_of_beq ha) (eq_of_beq e3) (eq_of_beq e4)) (plainGet_of e1).2 (wpAny_call (prop_get (s := mkS γ h (t + 1)) X (eq_of_beq hr) (WK.use q fun fl h' t' y => by
  refine ek1_3 y ?_; clear y; intro v z1 hv y; obtain rfl := z1
  exact handed_on hv ⟨h', t', rfl, y⟩)))⟩
theorem w_cls_val {expr : Bool} {Q : Value → Heap → Nat → Prop} (X : K.In h) (e : clsVal K C name v = true) (q : Q v h (t + 1)) : W γ A (getAttr (.ref C) name expr) Q h t := by
 refine ba3 e fun e1 e2 e3 => ?_
 exact ⟨cls_value (s := mkS γ h t) X e1 (isVal_of e2) e3 ⟨h, t + 1, rfl, q⟩⟩
theorem w_getm_sm {pl : Sem Bool} {Q : Value × List Value → Heap → Nat → Prop} (X : K.In h) (e : clsSm K C name f = true) (q : Q (.ref f, []) h (t + 1)) : W γ A (getMethod (.ref C) name pl) Q h t := by
 refine ba4 e fun e1 e2 e3 e4 => ?_
 exact ⟨method_cls (s := mkS γ h t) X (eq_of_beq e2) (cls_bind (s := mkS γ h t) X e1 (isGet_of e3) (wpAny_call (sm_get (s := mkS γ h (t + 1)) X (eq_of_beq e4) (handed_on rfl ⟨h, t + 1, rfl, q⟩))))⟩
end
end
section
theorem Ents.noRef {es : List DictEntry} {fs : List (Str × Value)} (x : Ents es fs) : es.any (·.refKey) = false := by
 induction x with
 | nil => rfl
 | @cons e es p fs tk a _ _ ih =>
  have hr : e.refKey = false := by unfold DictEntry.refKey; rw [a]
  rw [List.any_cons, hr, ih]; rfl
theorem Room.make {A n C pos kw} (r : Room A (n + 1)) : Room (A.under (.builtin "type.__call__" ⟨.ref C :: pos, kw⟩)) n := by
 have e1 : (A.under (.builtin "type.__call__" ⟨.ref C :: pos, kw⟩)).depth = A.depth + 1 := rfl
 have e2 : (A.under (.builtin "type.__call__" ⟨.ref C :: pos, kw⟩)).units ≤ A.units + 4 := by
  show A.units + (1 + 3 * Code.frames (.builtin "type.__call__" ⟨.ref C :: pos, kw⟩)) ≤ A.units + 4
  have : Code.frames (.builtin "type.__call__" ⟨.ref C :: pos, kw⟩) ≤ 1 := by
   have : Code.frames (.builtin "type.__call__" ⟨.ref C :: pos, kw⟩) = Code.frames (.builtin "type.__call__" ⟨[], []⟩) := rfl
   rw [this]; decide +kernel
  exact nZ (nA this (nA this this)) (by kcf_m)
 exact ⟨by rw [e1]; have := r.d; exact nZ this (by kcf_m), by have := r.u; exact nZ (nA e2 this) (by kcf_m), r.hn⟩
section
variable {h : Heap} {t : Nat} {fs : List (Str × Value)} {name : Str} {γ : G} {A : Around} {K : Frag} {D : Dm} {news rest : List (Addr × Obj)} {x C dx f fI : Addr} {od : Obj} {v : Value}
theorem w_new {pos : List Value} {kw : List (Str × Value)} {R : Value → Heap → Nat → Prop} (S : Sc K D news h) (e : newIn K C fI = true)
  (k : ∀ x dx h' od, D x = none → Sc K (D.put x (instObj C dx)) ((dx, od) :: news) h' → TabO [] od → (D.put x (instObj C dx)) x = some (instObj C dx) → Le D (D.put x (instObj C dx)) →
   WC γ (A.under (.builtin "type.__call__" ⟨.ref C :: pos, kw⟩)) (.call (.ref fI) ⟨.ref x :: pos, kw⟩) (fun v h t => v = .none ∧ R (.ref x) h t) h' t) :
  WC γ A (.call (.ref C) ⟨pos, kw⟩) R h t := by
 refine ba3 e fun e1 e2 e3 => ?_
 have S1 := S.push emptyDict
 have S2 := S1.push (instObj C h.objs.size)
 rw [Heap.size_push] at S2
 have hn : D (h.objs.size + 1) = none := S2.off _ (.head _)
 refine ⟨make_core (makes_of S.inK e1) (looks_findIn S.inK (eq_of_beq e2)) (fun self => bind_fn S.inK self (eq_of_beq e3)) (.inl rfl) ?_⟩
 refine WK.use (k (h.objs.size + 1) h.objs.size _ emptyDict hn S2.freeze TabO.nil (Dm.put_at _ _ _) (Dm.put_le hn)) fun fl h' t' y => ?_
 refine ek1_3 y ?_; clear y; intro v z1 z2 y; obtain rfl := z1; obtain rfl := z2
 exact ⟨rfl, _, h', t', rfl, rfl, _, rfl, y⟩
end
section
variable {h : Heap} {t : Nat} {gl cl : List (Str × Value)} {fs : List (Str × Value)} {env : Env} {name : Str} {γ : G} {A : Around} {K : Frag} {D : Dm} {news rest : List (Addr × Obj)} {vars : List (Str × Option Value)} {x C dx f fI : Addr} {od : Obj} {v : Value}
theorem Fx.pick {a : Addr} {o : Obj} (F : Fx K D env gl cl vars news h) (p : Pick (a, o) news rest) : Fx K D env gl cl vars ((a, o) :: rest) h := F.perm p.perm
theorem Fx.got {a : Addr} {o : Obj} (F : Fx K D env gl cl vars news h) (p : Pick (a, o) news rest) : h.get? a = some o := F.sc.led _ p.mem
theorem Fx.call0 (F : Fx K D env gl cl vars news h) : ∃ nw, Sc K D nw h ∧ ∀ h', Sc K D nw h' → Fx K D env gl cl vars news h' :=
 ek1_2 F.f fun oL S x =>
 ⟨_, S, fun ξ S' => ⟨F.e, oL, S', x⟩⟩
theorem Fx.call0k {P : Prop} (F : Fx K D env gl cl vars news h) (k : ∀ nw, Sc K D nw h → (∀ h', Sc K D nw h' → Fx K D env gl cl vars news h') → P) : P := ek1_2 F.call0 fun nw a b => k nw a b
theorem w_set {Q : Unit → Heap → Nat → Prop} (F : Fx K D env gl cl vars news h) (hx : D x = some (instObj C dx)) (p : Pick (dx, od) news rest) (ho : TabO fs od) (e : setIn K C name = true) (hl : fs.length ≤ 900)
  (k : ∀ od' h' t', TabO (putF name v fs) od' → Fx K D env gl cl vars ((dx, od') :: rest) h' → Q () h' t') : W γ A (setAttr (.ref x) name v) Q h t := by
 refine ba4 e fun e1 e2 e3 e4 => ?_
 have S := F.sc
 have hX := S.keep _ _ hx
 have hD := F.got p
 have I := instAt (C := C) hX hD
 refine ⟨set_plain (s := mkS γ h t) S.inK I (eq_of_beq e1) (osa_open (s := mkS γ h (t + 1)) S.inK I e2 (eq_of_beq e3) fun b => ?_)⟩
 refine ek1_2 (any_some e4) fun cd hc hd' => ?_
 refine ek2_2 ho fun es n z1 en => ?_; clear ho; obtain rfl := z1
 refine wpAny_bind (wpAny_pure (wpAny_bind (wpAny_bind (wpAny_loadPart hX (wpAny_bind ((looks_clsIn S.inK hc).here ?_))))))
 refine hd'.symm ▸ ?_
 refine wpAny_pure (a := some dx) (wpAny_bind (wpAny_pure (wpAny_bind ?_)))
 unfold nsSet
 refine wpAny_bind (wpAny_bind (wpAny_askSetting (wpAny_pure (wpAny_bind (wpAny_mkText (wpAny_bind (wpAny_loadPart hD ?_)))))))
 dsimp only
 have c : (!es.toArray.any (·.key.isStr name) && es.toArray.any (·.refKey)) = false := by
  have : es.toArray.any (·.refKey) = false := by rw [← Array.any_toList]; exact en.noRef
  rw [this, Bool.and_false]
 refine (aRefKeyMayBeTheName_at ..).symm ▸ ?_; refine c.symm ▸ ?_
 refine wpAny_updatePart hD ?_
 have e5 : Obj.putName name (PyData.keyHash γ.w.params name) (.str name (t + 1)) v (dictOf es n) = dictOf (putL name (PyData.keyHash γ.w.params name) (.str name (t + 1)) v es) (putN name es n) := putName_dict ..
 have hself : (h.update dx (Obj.putName name (PyData.keyHash γ.w.params name) (.str name (t + 1)) v)).get? dx = some (dictOf (putL name (PyData.keyHash γ.w.params name) (.str name (t + 1)) v es) (putN name es n)) :=
  e5 ▸ Heap.get?_update_self _ hD (by rw [e5]; rfl)
 have en' := en.put (name := name) (v := v) (hsh := PyData.keyHash γ.w.params name) (tk := t + 1)
 refine wpAny_bind (wpAny_lookBehind hself (pastItsLine_dict (by
  have := en'.length; have := putF_length name v fs
  rw [List.size_toArray, sizeLine_eq]; kcf_m)) ?_)
 refine wpAny_pure ⟨_, _, rfl, k _ _ _ ⟨_, _, rfl, en'⟩ ((F.pick p).upd (fun b y hb q => (Heap.get?_update_ne _ _ _ _ hb).trans q) hself)⟩
end
end
section
open _root_.PySem.SeqAt
noncomputable abbrev bInts := KBw.bInts
section
variable {h : Heap} {t : Nat} {env : Env} {γ : G} {A : Around} {K : Frag} {Q : Value → Heap → Nat → Prop}
theorem eval_Compare2 (l o1 o2 r1 r2 pos) : eval (.Compare l [o1, o2] [r1, r2] pos) env = (do
  let a ← eval l env
  let b ← holding [a] (eval r1 env)
  standAt pos
  let c ← holding [a, b] (compareOp o1 a b)
  release [a, b] [c]
  if ← holding [c, b] (truthy c) then do
   let d ← holding [b] (markedBehindIn o2 r2 (eval r2 env))
   standAt pos
   operate [b, d] (compareOp o2 b d)
  else pure c) := rfl
theorem w_compare2 {l r1 r2 : Expr} {o1 o2 : CmpOp} {pos : Pos}
  (x : W γ A (eval l env) (fun a => W γ A (eval r1 env) (fun b => W γ A (compareOp o1 a b) (fun c h t => W γ A (truthy c) (fun z h t =>
   Br z (W γ A (eval r2 env) (fun d => W γ A (compareOp o2 b d) Q) h t) (Q c h t)) h t))) h t) (hm : behindInMarks o2 r2 = false := by with_unfolding_all rfl) :
  W γ A (eval (.Compare l [o1, o2] [r1, r2] pos) env) Q h t := by
 rw [eval_Compare2, markedBehindIn_of_false hm]
 refine w_bind (x.mono fun a ξ ξ y => w_bind (w_holding (y.mono fun b ξ ξ y => w_bind (w_standAt (w_bind (w_holding (y.mono fun c ξ ξ y => w_bind (w_release (w_bind (w_holding (y.mono fun z ξ ξ y => ?_)))))))))))
 cases z
 ·exact w_pure (y.2 rfl)
 ·exact w_bind (w_holding ((y.1 rfl).mono fun d ξ ξ y => w_bind (w_standAt (w_operate y))))
theorem isTrue_Compare2 (l o1 o2 r1 r2 pos whole) : isTrue (.Compare l [o1, o2] [r1, r2] pos) env whole = (do
  let a ← eval l env
  let b ← holding [a] (eval r1 env)
  standAt pos
  let c ← holding [a, b] (compareOp o1 a b)
  release [a, b] [c]
  if ← holding [c, b] (truthy c) then do
   let d ← holding [b] (markedBehindIn o2 r2 (eval r2 env))
   standAt pos
   let e ← operate [b, d] (compareOp o2 b d)
   holding [e] (truthy e)
  else pure false) := rfl
theorem w_test_compare2 {l r1 r2 : Expr} {o1 o2 : CmpOp} {pos : Pos} {whole : Sem Value} {Q : Bool → Heap → Nat → Prop}
  (x : W γ A (eval l env) (fun a => W γ A (eval r1 env) (fun b => W γ A (compareOp o1 a b) (fun c h t => W γ A (truthy c) (fun z h t =>
   Br z (W γ A (eval r2 env) (fun d => W γ A (compareOp o2 b d) (fun e => W γ A (truthy e) Q)) h t) (Q false h t)) h t))) h t) (hm : behindInMarks o2 r2 = false := by with_unfolding_all rfl) :
  W γ A (isTrue (.Compare l [o1, o2] [r1, r2] pos) env whole) Q h t := by
 rw [isTrue_Compare2, markedBehindIn_of_false hm]
 refine w_bind (x.mono fun a ξ ξ y => w_bind (w_holding (y.mono fun b ξ ξ y => w_bind (w_standAt (w_bind (w_holding (y.mono fun c ξ ξ y => w_bind (w_release (w_bind (w_holding (y.mono fun z ξ ξ y => ?_)))))))))))
 cases z
 ·exact w_pure (y.2 rfl)
 ·exact w_bind (w_holding ((y.1 rfl).mono fun d ξ ξ y => w_bind (w_standAt (w_bind (w_operate (y.mono fun e ξ ξ y => w_holding y))))))
theorem g_lt_bi (a : Bool) (b : Int) (u : Tok) : Gives (Builtin.«int.__lt__» ⟨[.bool a, .int b u], []⟩) (.val (.bool (decide ((if a = true then (1 : Int) else 0) < b)))) :=
 .of_wp fun M A E s Q h => by obtain ⟨hp, g, d, tk, os⟩ := s; wp_walk; exact ⟨_, rfl, h⟩
theorem g_ge_bi (a : Bool) (b : Int) (u : Tok) : Gives (Builtin.«int.__ge__» ⟨[.bool a, .int b u], []⟩) (.val (.bool (decide ((if a = true then (1 : Int) else 0) ≥ b)))) :=
 .of_wp fun M A E s Q h => by obtain ⟨hp, g, d, tk, os⟩ := s; wp_walk; exact ⟨_, rfl, h⟩
theorem w_lt_bool_int {a : Bool} {b : Int} {u : Tok} (q : Q (.bool (decide ((if a = true then (1 : Int) else 0) < b))) h t) : W γ A (compareOp .Lt (.bool a) (.int b u)) Q h t :=
 ⟨show wpAny (MM γ) A (richCompare .Lt (.bool a) (.int b u)) _ _ (mkS γ h t) from rc_left_or (Ta := "bool") (Tb := "int") rfl rfl (by decide) F.sub_int_bool F.slot_bool_lt
  (call_gives F.slot_bool_lt rfl F.entry_int_lt (F.args_int_lt_2 _ _) (g_lt_bi a b u) ⟨nofun, ⟨h, t, rfl, q⟩⟩) (.inl rfl)⟩
theorem w_le_int_bool {a : Int} {u : Tok} {b : Bool} (q : Q (.bool (decide ((if b = true then (1 : Int) else 0) ≥ a))) h t) : W γ A (compareOp .LtE (.int a u) (.bool b)) Q h t :=
 ⟨show wpAny (MM γ) A (richCompare .LtE (.int a u) (.bool b)) _ _ (mkS γ h t) from rc_sub_first_or (Ta := "int") (Tb := "bool") rfl rfl (by decide) F.sub_bool_int F.slot_bool_ge_refl
  (call_gives F.slot_bool_ge_refl rfl F.entry_int_ge (F.args_int_ge_2 _ _) (g_ge_bi b a u) ⟨nofun, ⟨h, t, rfl, q⟩⟩) (.inl rfl)⟩
theorem w_tail_intdict {a : Addr} {es : Array DictEntry} {n : Nat} {value slice : Expr} {k : Int} {u : Tok} {v : Value} (X : K.In h) (hl : K.lookup a = some ⟨.type "dict", none, .dict es n, #[]⟩)
  (hk : ∀ e ∈ es, ∃ k t, e.key = .int k t ∧ e.hash = hashInt k) (hf : findBy Value.isInt es k = some v) (q : Q v h (t + 1))
  (hs : subscripted slice false (.ref a) (.int k u) = operate [.ref a, .int k u] (getItem (.ref a) (.int k u)) := by with_unfolding_all rfl) :
  W γ A (subscriptTail value slice (.ref a) (.int k u)) Q h t := by
 have hm : h.MapOf (intKind γ.prog γ.w) a (fun k => findBy Value.isInt es k) := ⟨_, es, n, X _ _ hl, ⟨rfl, rfl, rfl⟩, rfl, fun e he => by
  refine ek2_2 (hk e he) fun k t e1 e2 => ?_
  exact ⟨k, by rw [e1]; simp [intKind, Value.isInt], e2⟩, fun ξ => rfl⟩
 exact ⟨tail_any (s := mkS γ h t) hm.typeIs slot_dict_getitem.lookup (wpAny_getItem_of (by simp [intKind, Value.isInt]) hm hf ⟨h, t + 1, rfl, q⟩) hs⟩
theorem w_in_str {x y : Str} {u v : Tok} (q : Q (.bool (!(Builtin.Str.occurrences x y 0 x.length 1).isEmpty)) h t) : W γ A (compareOp .In (.str y u) (.str x v)) Q h t := w_of fun ξ k => in_str (k _ _ _ q)
theorem c_int_int {n : Int} {u : Tok} (q : Q (.int n u) h t) : W γ A (call (.type "int") [.int n u]) Q h t := w_of fun ξ k => call_int_int (k _ _ _ q)
theorem c_int_bool {b : Bool} (q : Q (.int (if b then 1 else 0) t) h (t + 1)) : W γ A (call (.type "int") [.bool b]) Q h t := w_of fun ξ k => call_int_bool (k _ _ _ q)
theorem w_getm_tb {x : Int} {u : Tok} {pl : Sem Bool} {Q : Value × List Value → Heap → Nat → Prop} (q : Q (.builtin "int.to_bytes", [.int x u]) h t) : W γ A (getMethod (.int x u) (PySem.Str.ofString "to_bytes") pl) Q h t := w_of fun ξ k => by with_reducible exact KTBy.method (k _ _ _ q)
theorem c_tb {k : Nat} {B x : Int} {u v z : Tok} (hk : k ≤ 8) (hB : (256 : Int) ^ k = B) (h0 : 0 ≤ x) (h1 : x < B) (q : ∀ (b : Array UInt8) tk t, bInts b = KTBy.little k x → Q (.bytes b tk) h t) :
  W γ A (call (.builtin "int.to_bytes") [.int x u, .int (k : Int) v, .str (PySem.Str.ofString "little") z]) Q h t := w_of fun ξ kk => KTBy.to_little hk hB h0 h1 fun b t' k' e ξ => kk _ _ _ (q b t' k' e)
theorem c_bytes_mul {b : List UInt8} {n : Int} {u v : Tok} (hb : b ≠ []) (hlo : -1048576 ≤ n) (hn : n ≤ 1048576) (hs : b.length ≤ 16) (q : ∀ tk t, Q (.bytes ((List.replicate n.toNat b).flatten).toArray tk) h t) :
  W γ A (binaryOp .Mult (.bytes b.toArray u) (.int n v)) Q h t := w_of fun ξ k => bytes_mul_any hb hlo hn hs fun t' k' => k _ _ _ (q t' k')
end
section
variable {h : Heap} {t : Nat} {gl cl : List (Str × Value)} {env : Env} {γ : G} {A : Around} {K : Frag} {D : Dm} {news rest : List (Addr × Obj)} {vars : List (Str × Option Value)} {Q : Value → Heap → Nat → Prop}
theorem w_max2 {a b : Int} {u v : Tok} (F : Fx K D env gl cl vars news h) (hh : A.handled = none) (q : ∀ h tk t, Fx K D env gl cl vars news h → Q (.int (max a b) tk) h t) : W γ A (call (.builtin "max") [.int a u, .int b v]) Q h t := w_of fun ξ k =>
 max_two_ints hh fun h' tk hk => by
  by_cases c : b > a
  ·rw [if_pos c]; have := k _ _ _ (q h' v tk (F.grow hk)); rwa [show max a b = b by kcf_m] at this
  ·rw [if_neg c]; have := k _ _ _ (q h' u tk (F.grow hk)); rwa [show max a b = a by kcf_m] at this
end
end
section
section
variable {h h' : Heap} {K : Frag} {D D' : Dm} {news news' own rest ps ps' : List (Addr × Obj)} {a : Addr} {o o' : Obj}
theorem Sc.skip (S : Sc K D ((a, o) :: news) h) (k : Heap.ExtBut a h h') : Sc K D news h' := by
 have hn := List.nodup_cons.mp S.nodup
 refine ⟨S.st, fun b x e => k b x (fun q => ?_) (S.keep b x e), fun p hp => k _ _ (ne_fst hn.1 hp) (S.led p (.tail _ hp)), hn.2, fun p hp => S.off p (.tail _ hp)⟩
 subst q; have := S.off _ (.head _); rw [this] at e; cases e
theorem Sc.sub (S : Sc K D news h) (hs : news'.Sublist news) : Sc K D news' h :=
 ⟨S.st, S.keep, fun p hp => S.led p (hs.subset hp), (hs.map _).nodup S.nodup, fun p hp => S.off p (hs.subset hp)⟩
theorem Sc.weaken (S : Sc K D' news h) (st : Stat K D) (l : Le D D') : Sc K D news h :=
 ⟨st, fun b x e => S.keep b x (l b x e), S.led, S.nodup, fun p hp => by
  cases q : D p.1 with
  | none => rfl
  | some x => have := l _ _ q; rw [S.off p hp] at this; cases this⟩
end
inductive NextS (K : Frag) (St : Nat → Dm → List (Addr × Obj) → Prop) (P : Nat → Dm → Value → Prop) (i : Nat) (D : Dm) (rest : List (Addr × Obj)) (v : Value) (h : Heap) : Prop
 | mk {D' : Dm} {own' : List (Addr × Obj)} : Le D D' → St (i + 1) D' own' → P i D' v → Sc K D' (own' ++ rest) h → NextS K St P i D rest v h
structure Iter (γ : G) (K : Frag) (it : Value) (tgt : Expr) (n : Nat) (St : Nat → Dm → List (Addr × Obj) → Prop) (P : Nat → Dm → Value → Prop) : Prop where
 mono : ∀ i D D' own, Le D D' → St i D own → St i D' own
 self : ∀ D own rest A h t (Q : Value → Heap → Nat → Prop), St 0 D own → Sc K D (own ++ rest) h → (∀ h t, Sc K D (own ++ rest) h → Q it h t) → W γ A (pyIter it) Q h t
 next : ∀ i D own rest A h t (Q : Option Value → Heap → Nat → Prop), A.handled = none → i < n → St i D own → Sc K D (own ++ rest) h →
  (∀ v h t, W γ A (letOwnedTupleGo tgt it v) (fun ξ h ξ => NextS K St P i D rest v h) h t → Q (some v) h t) → W γ A (pyNext it) Q h t
 last : ∀ D own rest A h t (Q : Option Value → Heap → Nat → Prop), A.handled = none → St n D own → Sc K D (own ++ rest) h → (∀ h t, Sc K D rest h → Q none h t) → W γ A (pyNext it) Q h t
inductive Tgt : Expr → Prop
 | name {x p} : Tgt (.Name x p)
 | tup {es k p} : Tgt (.Tuple es k p)
section
variable {h h' : Heap} {t : Nat} {γ : G} {A : Around} {K : Frag} {D D' : Dm} {own rest news : List (Addr × Obj)}
noncomputable def LstO (items : Array Value) (o : Obj) : Prop := ∃ n, o = { cls := .type "list", dict := none, data := .seq items n, slots := #[] }
noncomputable def TupO (items : List Value) (o : Obj) : Prop := ∃ n, o = { cls := .type "tuple", dict := none, data := .seq items.toArray n, slots := #[] }
theorem LstO.isList {items : Array Value} {o : Obj} {l : Addr} (x : LstO items o) (e : h.get? l = some o) : h.IsList l items := by obtain ⟨n, rfl⟩ := x; exact ⟨_, e, rfl, n, rfl⟩
theorem TupO.isTuple {items : List Value} {o : Obj} {l : Addr} (x : TupO items o) (e : h.get? l = some o) : h.IsTuple l items.toArray := by obtain ⟨n, rfl⟩ := x; exact ⟨_, e, rfl, n, rfl⟩
theorem at_of {items : List Value} {i : Nat} (hi : i < items.length) : items.toArray[i]? = some items[i] := (List.getElem?_toArray ..).trans (List.getElem?_eq_getElem hi)
theorem at_end {items : List Value} : items.toArray[items.length]? = none := (List.getElem?_toArray ..).trans (List.getElem?_eq_none (Nat.le_refl _))
inductive ListSt (l it : Addr) (items : List Value) (i : Nat) (D : Dm) : List (Addr × Obj) → Prop
 | mk {lo o : Obj} : D l = some lo → LstO items.toArray lo → o.cls = .type "list_iterator" → o.data = .fields #[.ref l, .int i 0] → ListSt l it items i D [(it, o)]
theorem iter_list {l it : Addr} {items : List Value} {tgt : Expr} (ht : Tgt tgt) (hr : (∃ x p, tgt = .Name x p) ∨ ∀ v ∈ items, ∃ a, v = .ref a) : Iter γ K (.ref it) tgt items.length (ListSt l it items) (fun i ξ v => items[i]? = some v) := by
 refine ⟨?_, ?_, ?_, ?_⟩
 ·intro i D D' own le st; cases st with | mk a b c d => exact .mk (le _ _ a) b c d
 ·intro D own rest A h t Q st S q; cases st with | mk a b c d => exact ⟨wpAny_pyIter_listiter (s := mkS γ h t) (l := l) (i := 0) ⟨_, S.head, c, d⟩ ⟨h, t, rfl, q h t S⟩⟩
 ·intro i D own rest A h t Q hh hi st S q
  cases st with
  | mk a b c d =>
  refine ⟨wpAny_pyNext_list_item (s := mkS γ h t) (l := l) (i := i) (items := items.toArray) ⟨_, S.head, c, d⟩ (b.isList (S.keep _ _ a)) (at_of hi) fun h' hit hs => ⟨h', t, rfl, q _ _ _ ?_⟩⟩
  refine ek1_3 (id hit) fun o' e1 e2 e3 => ?_
  have fin : NextS K (ListSt l it items) (fun i ξ v => items[i]? = some v) i D rest items[i] h' := .mk (Le.refl _) (.mk a b e2 e3) (List.getElem?_eq_getElem hi) (S.upd (fun b x hb e => hs.extBut b x hb e) e1)
  rcases ht with _ | _
  ·exact w_pure fin
  ·obtain ⟨x, p, q⟩ | hr := hr
   ·cases q
   ·refine ek1_1 (hr items[i] (List.getElem_mem ..)) fun aa ea => ?_
    rw [ea] at fin ⊢
    exact ⟨wpAny_letOwnedTupleGo_listiter (s := mkS γ h' t) hit ⟨h', t, rfl, fin⟩⟩
 ·intro D own rest A h t Q hh st S q; cases st with | mk a b c d => exact ⟨wpAny_pyNext_list_end (s := mkS γ h t) (l := l) (i := items.length) (items := items.toArray) hh ⟨_, S.head, c, d⟩ (b.isList (S.keep _ _ a)) at_end fun h' he => ⟨h', t, rfl, q h' t (S.skip he)⟩⟩
inductive TupSt (l it : Addr) (items : List Value) (i : Nat) (D : Dm) : List (Addr × Obj) → Prop
 | mk {lo o : Obj} : D l = some lo → TupO items lo → o.cls = .type "tuple_iterator" → o.data = .fields #[.ref l, .int i 0] → TupSt l it items i D [(it, o)]
noncomputable def RangeSt (it : Addr) (a n : Int) (i : Nat) (_ : Dm) (own : List (Addr × Obj)) : Prop :=
 own = [(it, { cls := .type "range_iterator", dict := none, data := .fields #[rawInt (a + i), rawInt (n - i), rawInt 1], slots := #[] })]
theorem iter_range {it : Addr} {a : Int} {n : Nat} {x : Str} {p : Pos} : Iter γ K (.ref it) (.Name x p) n (RangeSt it a n) (fun i ξ v => ∃ tk, v = .int (a + i) tk) := by
 refine ⟨fun ξ ξ ξ ξ ξ s => s, ?_, ?_, ?_⟩
 ·rintro D own rest A h t Q rfl S q
  have hT : (mkS γ h t).TypeIs (.ref it) "range_iterator" := ⟨_, S.head, rfl⟩
  refine ⟨wpAny_pyIter_slot hT F.slot_range_iterator_iter (wpAny_call_entry F.slot_range_iterator_iter hT F.entry_range_iterator_iter ?_ (F.args_range_iterator_iter_1 _))⟩
  show wpAny _ _ (ret (.ref it)) _ _ _
  exact wpAny_pure ⟨_, rfl, "range_iterator", _, hT, F.slot_range_iterator_next.lookup, h, t, rfl, q h t S⟩
 ·rintro i D own rest A h t Q hh hi rfl S q
  refine ⟨wpAny_pyNext_range_item (s := mkS γ h t) S.head (by kcf_m) fun h' hit hs => ⟨h', t + 1, rfl, q _ _ _ (w_pure (.mk (Le.refl _) rfl ⟨_, rfl⟩ ?_))⟩⟩
  refine S.upd (fun b x hb e => hs.extBut b x hb e) ?_
  refine hit.symm ▸ ?_; refine (show a + ((i + 1 : Nat) : Int) = a + i + 1 by kcf_m).symm ▸ ?_; refine (show (n : Int) - ((i + 1 : Nat) : Int) = n - i - 1 by kcf_m).symm ▸ rfl
 ·rintro D own rest A h t Q hh rfl S q
  exact ⟨wpAny_pyNext_range_end (s := mkS γ h t) hh S.head (by kcf_m) fun h' he => ⟨h', t, rfl, q h' t (S.skip he)⟩⟩
theorem iter_tup {l it : Addr} {items : List Value} {x : Str} {p : Pos} : Iter γ K (.ref it) (.Name x p) items.length (TupSt l it items) (fun i ξ v => items[i]? = some v) := by
 refine ⟨?_, ?_, ?_, ?_⟩
 ·intro i D D' own le st; cases st with | mk a b c d => exact .mk (le _ _ a) b c d
 ·intro D own rest A h t Q st S q
  cases st with
  | mk a b c d =>
  have hT : (mkS γ h t).TypeIs (.ref it) "tuple_iterator" := ⟨_, S.head, c⟩
  refine ⟨wpAny_pyIter_slot hT F.slot_tuple_iterator_iter (wpAny_call_entry F.slot_tuple_iterator_iter hT F.entry_tuple_iterator_iter ?_ (F.args_tuple_iterator_iter_1 _))⟩
  show wpAny _ _ (ret (.ref it)) _ _ _
  exact wpAny_pure ⟨_, rfl, "tuple_iterator", _, hT, F.slot_tuple_iterator_next.lookup, h, t, rfl, q h t S⟩
 ·intro i D own rest A h t Q hh hi st S q
  cases st with
  | mk a b c d =>
  refine ⟨wpAny_pyNext_tuple_item (s := mkS γ h t) (t := l) (i := i) (items := items.toArray) ⟨_, S.head, c, d⟩ (b.isTuple (S.keep _ _ a)) (at_of hi) fun h' hit hs => ⟨h', t, rfl, q _ _ _ ?_⟩⟩
  refine ek1_3 (id hit) fun o' e1 e2 e3 => ?_
  exact w_pure (.mk (Le.refl _) (.mk a b e2 e3) (List.getElem?_eq_getElem hi) (S.upd (fun b x hb e => hs.extBut b x hb e) e1))
 ·intro D own rest A h t Q hh st S q; cases st with | mk a b c d => exact ⟨wpAny_pyNext_tuple_end (s := mkS γ h t) (t := l) (i := items.length) (items := items.toArray) hh ⟨_, S.head, c, d⟩ (b.isTuple (S.keep _ _ a)) at_end fun h' he => ⟨h', t, rfl, q h' t (S.skip he)⟩⟩
noncomputable def enumObj (it : Addr) (i : Nat) (old : Value) : Obj := { cls := .type "enumerate", dict := none, data := .fields #[.none, .bool false, .ref it, rawInt (i : Int), .none, old], slots := #[] }
inductive EnumSt (l it e : Addr) (items : List Value) (i : Nat) (D : Dm) : List (Addr × Obj) → Prop
 | mk {lo o : Obj} {old : Value} : D l = some lo → LstO items.toArray lo → o.cls = .type "list_iterator" → o.data = .fields #[.ref l, .int i 0] → EnumSt l it e items i D [(e, enumObj it i old), (it, o)]
theorem iter_enum {l it e : Addr} {items : List Value} {es k p} : Iter γ K (.ref e) (.Tuple es k p) items.length (EnumSt l it e items)
  (fun i D v => ∃ x a o tk, items[i]? = some x ∧ v = .ref a ∧ D a = some o ∧ TupO [.int i tk, x] o) := by
 refine ⟨?_, ?_, ?_, ?_⟩
 ·intro i D D' own le st; cases st with | mk a b c d => exact .mk (le _ _ a) b c d
 ·intro D own rest A h t Q st S q; cases st with | mk a b c d => exact ⟨wpAny_pyIter_enum (s := mkS γ h t) (it := it) (i := 0) S.head ⟨h, t, rfl, q h t S⟩⟩
 ·intro i D own rest A h t Q hh hi st S q
  cases st with
  | @mk lo o old a b c d =>
  have hne : e ≠ it := (nm (List.nodup_cons.mp S.nodup).1 (.head _)).symm
  refine ⟨wpAny_pyNext_enum_item (s := mkS γ h t) (it := it) (l := l) (i := i) (items := items.toArray) S.head ⟨o, S.led _ (.tail _ (.head _)), c, d⟩ (b.isList (S.keep _ _ a)) (at_of hi) hne fun h' heo hit ht hz hk => ⟨h', t + 1, rfl, q _ _ _ ?_⟩⟩
  refine ek1_3 (id hit) fun o' e1 e2 e3 => ?_
  refine ⟨wpAny_letOwnedTupleGo_enum (s := mkS γ h' (t + 1)) heo fun h₂ he₂ hs₂ => ⟨h₂, t + 1, rfl, ?_⟩⟩
  have get2 : ∀ b x, b ≠ e → h'.get? b = some x → h₂.get? b = some x := fun b x hb q => (hs₂.2 b hb).trans q
  have noD := S.noD (Nat.le_refl _)
  have le := Dm.put_le (o := { cls := .type "tuple", data := .seq #[.int i t, items[i]] }) noD
  exact .mk le (.mk (old := items[i]) (le _ _ a) b e2 e3) ⟨items[i], h.objs.size, _, t, List.getElem?_eq_getElem hi, rfl, Dm.put_at _ _ _, ⟨_, rfl⟩⟩
   ((S.swap (ps := [(e, enumObj it i old), (it, o)]) (ps' := [(e, enumObj it (i + 1) items[i]), (it, o')]) rfl (List.forall_mem_cons.mpr ⟨he₂, List.forall_mem_cons.mpr ⟨get2 _ _ hne.symm e1, List.forall_mem_nil _⟩⟩)
    fun c x n g => have ne : c ≠ e := fun q => n (q ▸ .head _); get2 _ _ ne (hk _ _ ne (fun q => n (q ▸ .tail _ (.head _))) g)).add (get2 _ _ (Nat.ne_of_gt (Heap.lt_size S.head)) ht) noD (show h.objs.size ∉ e :: it :: rest.map (·.1) from S.noN (Nat.le_refl _))).freeze
 ·intro D own rest A h t Q hh st S q
  cases st with
  | mk a b c d => exact ⟨wpAny_pyNext_enum_end (s := mkS γ h t) (l := l) (it := it) (i := items.length) (items := items.toArray) hh S.head ⟨_, S.led _ (.tail _ (.head _)), c, d⟩ (b.isList (S.keep _ _ a)) at_end fun h' he => ⟨h', t, rfl, q h' t ((S.perm (.swap _ _ _)).skip he).drop⟩⟩
end
end
section
section
variable {h h' : Heap} {t : Nat} {gl cl : List (Str × Value)} {env : Env} {γ : G} {A : Around} {K : Frag} {D D' : Dm} {own news news' : List (Addr × Obj)} {vars vars' : List (Str × Option Value)}
structure ForR (γ : G) (A : Around) (tgt : Expr) (it : Value) (body : List Stmt) (env : Env) (Q : Flow → Heap → Nat → Prop) (h : Heap) (t : Nat) : Prop where
 out : WK γ A (.forLoop tgt it body [] env) Q h t
structure PyIter (γ : G) (A : Around) (v : Value) (Q : Value → Heap → Nat → Prop) (h : Heap) (t : Nat) : Prop where
 out : W γ A (pyIter v) Q h t
theorem w_for {tgt iter : Expr} {body : List Stmt} {pos : Pos} {Q : Flow → Heap → Nat → Prop}
  (x : W γ A (eval iter env) (fun v h t => PyIter γ A v (fun it h t => ForR γ A tgt it body env Q h t) h t) h t)
  (hs : ∀ x, foldedSetIterable iter env x = pure x := by intro _; rfl) : W γ A (exec (.For tgt iter body [] pos) env) Q h t :=
 ⟨wpAny_For (W.use x fun v h t y => W.use y.out fun it h t z => WK.use z.out fun f h' t' q => ⟨h', t', rfl, q⟩) hs⟩
theorem Iter.nextF {it : Value} {tgt : Expr} {n i : Nat} {St P} (I : Iter γ K it tgt n St P) (hh : A.handled = none) (hi : i < n) (F : Fx K D env gl cl vars (news ++ own) h) (hst : St i D own)
  {Q : Value → Heap → Nat → Prop} (k : ∀ v D' own' h' t', Le D D' → St (i + 1) D' own' → P i D' v → Fx K D' env gl cl vars (news ++ own') h' → Q v h' t') {R : Option Value → Heap → Nat → Prop} (out : ∀ v h t, W γ A (letOwnedTupleGo tgt it v) (fun ξ => Q v) h t → R (some v) h t) :
  W γ A (pyNext it) R h t := by
 refine ek1_2 F.f fun oL S x => ?_
 refine I.next i D own ((env.locals, oL) :: news) A h t _ hh hi hst (S.perm (List.perm_append_comm (l₁ := (env.locals, oL) :: news) (l₂ := own))) fun v h t y => out v h t (y.mono fun ξ h t y => ?_)
 cases y with
 | mk le a b c => exact k v _ _ h t le a b ⟨F.e.mono le, oL, c.perm (List.perm_append_comm (l₂ := (env.locals, oL) :: news)), x⟩
theorem Iter.lastF {it : Value} {tgt : Expr} {n : Nat} {St P} (I : Iter γ K it tgt n St P) (hh : A.handled = none) (F : Fx K D env gl cl vars (news ++ own) h) (hst : St n D own)
  {Q : Option Value → Heap → Nat → Prop} (k : ∀ h' t', Fx K D env gl cl vars news h' → Q none h' t') : W γ A (pyNext it) Q h t :=
 ek1_2 F.f fun oL S x => I.last D own ((env.locals, oL) :: news) A h t _ hh hst (S.perm (List.perm_append_comm (l₁ := (env.locals, oL) :: news) (l₂ := own))) fun h t c => k h t ⟨F.e, oL, c, x⟩
inductive LoopS (γ : G) (K : Frag) (env : Env) (gl cl : List (Str × Value)) (n : Nat) (D : Dm) (Inv : Nat → Dm → List (Str × Option Value) → List (Addr × Obj) → Prop) (St : Nat → Dm → List (Addr × Obj) → Prop) : Nat → Shared → Prop
 | mk {i : Nat} {D' : Dm} {vars : List (Str × Option Value)} {news own : List (Addr × Obj)} {h : Heap} {t : Nat} : i ≤ n → Le D D' → Inv i D' vars news → St i D' own → Fx K D' env gl cl vars (news ++ own) h → LoopS γ K env gl cl n D Inv St (n - i) (mkS γ h t)
theorem w_for_it {it : Value} {tgt : Expr} {n : Nat} {St P} {body : List Stmt} {Q : Flow → Heap → Nat → Prop} (I : Iter γ K it tgt n St P) (hh : A.handled = none)
  (Inv : Nat → Dm → List (Str × Option Value) → List (Addr × Obj) → Prop) (F : Fx K D env gl cl vars (news ++ own) h) (hst : St 0 D own) (h0 : Inv 0 D vars news)
  (turn : ∀ i D' vars news own v h t, Le D D' → i < n → Inv i D' vars news → P i D' v → Fx K D' env gl cl vars (news ++ own) h →
   W γ A (assign tgt env v) (fun ξ => W γ A (execs body env) (fun f h t => (f = .next ∧ ∃ D'' vars' news', Le D' D'' ∧ Inv (i + 1) D'' vars' news' ∧ Fx K D'' env gl cl vars' (news' ++ own) h) ∨
    (∃ u, f = .ret u ∧ Q f h t))) h t)
  (imono : ∀ i D D' vars news, Le D D' → Inv i D vars news → Inv i D' vars news)
  (fin : ∀ D' vars news h t, Le D D' → Inv n D' vars news → Fx K D' env gl cl vars news h → Q .next h t) : ForR γ A tgt it body env Q h t := by
 refine ⟨⟨codeAny_forLoop_any (fun k s' => LoopS γ K env gl cl n D Inv St k s') (fun k s' x => ?_) n (.mk (Nat.zero_le _) (Le.refl _) h0 hst F)⟩⟩
 cases x with
 | @mk i D' vars news own h t hi le inv st F =>
 rcases Nat.lt_or_ge i n with hlt | hge
 ·refine W.use (I.nextF hh hlt F st (Q := fun v => W γ A (assign tgt env v) (fun ξ => W γ A (execs body env) (fun f h t => (f = .next ∧ ∃ m, m < n - i ∧ LoopS γ K env gl cl n D Inv St m (mkS γ h t)) ∨
    (∃ u, f = .ret u ∧ Q f h t)))) ?_ fun v h t y => ?_) fun ξ ξ ξ y => y
  ·intro v D2 own' h t le' st' p F'
   refine (turn i D2 vars news own' v h t (le.trans le') hlt (imono _ _ _ _ _ le' inv) p F').mono fun ξ h t y => y.mono fun f h t y => ?_
   rcases y with ⟨rfl, D3, vars', news', le3, inv', F3⟩ | y
   ·exact .inl ⟨rfl, n - (i + 1), by exact Nat.sub_lt_sub_left hlt (Nat.lt_succ_self _), .mk hlt ((le.trans le').trans le3) inv' (I.mono _ _ _ _ le3 st') F3⟩
   ·exact .inr y
  ·refine W.use y fun ξ h t y => W.use y fun ξ h t y => W.use y fun f h t y => ?_
   rcases y with ⟨rfl, m, lt, x⟩ | ⟨u, rfl, q⟩
   ·exact ⟨m, lt, x⟩
   ·exact ⟨_, h, t, rfl, rfl, q⟩
 ·have e : i = n := Nat.le_antisymm hi hge
  subst e
  exact W.use (I.lastF hh F st fun h t F => wpAny_execs_nil ⟨_, h, t, rfl, rfl, fin D' vars news h t le inv F⟩) fun ξ ξ ξ y => y
theorem w_while {test : Expr} {body : List Stmt} {pos : Pos} {Q : Flow → Heap → Nat → Prop} (Inv : Nat → Heap → Prop) (n : Nat) (h0 : Inv n h)
  (turn : ∀ n h t, Inv n h → W γ A (isTrue test env (eval test env)) (fun b h t => Br b (W γ A (execs body env) (fun f h t => (f = .next ∧ ∃ m, m < n ∧ Inv m h) ∨ (∃ u, f = .ret u ∧ Q f h t)) h t) (Q .next h t)) h t) :
  W γ A (exec (.While test body [] pos) env) Q h t := by
 have loop : codeAny (MM γ) A (.whileLoop test body [] env) (fun r s' => ∃ f h' t', r = .ok f ∧ s' = mkS γ h' t' ∧ Q f h' t') (mkS γ h t) := by
  refine codeAny_whileLoop (fun n s => ∃ h t, s = mkS γ h t ∧ Inv n h) ?_ n ⟨h, t, rfl, h0⟩
  intro n s y1; refine ek2_2 y1 fun h t z1 inv => ?_; clear y1; obtain rfl := z1
  refine W.use (turn n h t inv) fun b h t y => ?_
  cases b
  ·exact wpAny_execs_nil ⟨_, h, t, rfl, rfl, y.2 rfl⟩
  ·refine W.use (y.1 rfl) fun f h t y => ?_
   rcases y with ⟨rfl, m, lt, inv⟩ | ⟨u, rfl, q⟩
   ·exact ⟨m, lt, h, t, rfl, inv⟩
   ·exact ⟨_, h, t, rfl, rfl, q⟩
 refine ⟨wpAny_While ?_⟩
 exact codeAny_mono loop fun r s' y => by refine ek3_3 y fun f h' t' z1 z2 q => ?_; clear y; obtain rfl := z1; obtain rfl := z2; exact ⟨h', t', rfl, q⟩
end
end
section
inductive Subs {α : Type} : List α → List α → Prop
 | nil {l} : Subs [] l
 | cons {p r l} : Has p l → Subs r l → Subs (p :: r) l
theorem Subs.mem {α : Type} {r l : List α} (x : Subs r l) : ∀ p ∈ r, p ∈ l := by
 induction x with
 | nil => exact fun ξ h => nomatch h
 | cons a _ ih => intro p hp; rcases List.mem_cons.mp hp with rfl | hp; exact a.mem; exact ih p hp
theorem mem_of_lookup {α : Type} {n : Str} {c : α} : ∀ {l : List (Str × α)}, l.lookup n = some c → (n, c) ∈ l
 | (m, d) :: r, q => by
  rw [List.lookup_cons] at q
  by_cases e : n = m
  ·rw [beq_iff_eq.mpr e] at q; cases q; rw [e]; exact .head _
  ·rw [beq_eq_false_iff_ne.mpr e] at q; exact .tail _ (mem_of_lookup q)
noncomputable def closeL (cells : List (Str × Addr)) : List (Str × NameKind) → List (Str × Addr) → List (Str × Addr)
 | [], acc => acc
 | (n, k) :: r, acc => if k == .free then closeL cells r ((n, (cells.lookup n).getD 0) :: acc) else closeL cells r acc
theorem closeL_sound {cells : List (Str × Addr)} : ∀ (names : List (Str × NameKind)) (acc : List (Str × Addr)), (∀ p ∈ acc, p.2 = (cells.lookup p.1).getD 0) → ∀ p ∈ closeL cells names acc, p.2 = (cells.lookup p.1).getD 0
 | [], _, h => h
 | (n, k) :: r, acc, h => by
  show ∀ p ∈ (if (k == .free) = true then closeL cells r ((n, (cells.lookup n).getD 0) :: acc) else closeL cells r acc), _
  by_cases e : (k == .free) = true
  ·rw [if_pos e]; exact closeL_sound r _ fun p hp => by rcases List.mem_cons.mp hp with rfl | hp; rfl; exact h p hp
  ·rw [if_neg e]; exact closeL_sound r _ h
theorem closeL_acc {cells : List (Str × Addr)} : ∀ (names : List (Str × NameKind)) (acc : List (Str × Addr)) (p : Str × Addr), p ∈ acc → p ∈ closeL cells names acc
 | [], _, _, h => h
 | (n, k) :: r, acc, p, h => by
  show p ∈ (if (k == .free) = true then closeL cells r ((n, (cells.lookup n).getD 0) :: acc) else closeL cells r acc)
  by_cases e : (k == .free) = true
  ·rw [if_pos e]; exact closeL_acc r _ p (.tail _ h)
  ·rw [if_neg e]; exact closeL_acc r _ p h
theorem closeL_has {cells : List (Str × Addr)} : ∀ (names : List (Str × NameKind)) (acc : List (Str × Addr)) (n : Str), (n, NameKind.free) ∈ names → (n, (cells.lookup n).getD 0) ∈ closeL cells names acc
 | (n', k) :: r, acc, n, h => by
  show (n, (cells.lookup n).getD 0) ∈ (if (k == .free) = true then closeL cells r ((n', (cells.lookup n').getD 0) :: acc) else closeL cells r acc)
  rcases List.mem_cons.mp h with e | h
  ·cases e; rw [if_pos (show (NameKind.free == NameKind.free) = true from by decide)]; exact closeL_acc r _ _ (.head _)
  ·by_cases e : (k == .free) = true
   ·rw [if_pos e]; exact closeL_has r _ n h
   ·rw [if_neg e]; exact closeL_has r _ n h
theorem lookup_some_of_mem {α : Type} {n : Str} {c : α} : ∀ {l : List (Str × α)}, (n, c) ∈ l → ∃ c', l.lookup n = some c' ∧ (n, c') ∈ l
 | (m, d) :: r, h => by
  rw [List.lookup_cons]
  by_cases q : n = m
  ·rw [beq_iff_eq.mpr q]; exact ⟨d, rfl, q ▸ .head _⟩
  ·rw [beq_eq_false_iff_ne.mpr q]
   rcases List.mem_cons.mp h with e | h
   ·cases e; exact absurd rfl q
   ·refine ek1_2 (lookup_some_of_mem h) fun c' a b => ?_; exact ⟨c', a, .tail _ b⟩
theorem closeL_lookup {cells : List (Str × Addr)} {names : List (Str × NameKind)} {n : Str} {c : Addr} (h : (n, NameKind.free) ∈ names) (hc : cells.lookup n = some c) : (closeL cells names []).lookup n = some c := by
 refine ek1_2 (lookup_some_of_mem (closeL_has (cells := cells) names [] n h)) fun c' a b => ?_
 have := closeL_sound names [] (fun ξ h => nomatch h) _ b
 rw [hc] at this
 rw [a]; exact congrArg some this
theorem closureFor_of {env : Env} {scope : Scope} (hf : ∀ x ∈ scope.names, x.2 = .free → (env.cells.lookup x.1).isSome = true) : closureFor scope env = pure (closeL env.cells scope.names []) := by
 have : ∀ (names : List (Str × NameKind)) (acc : List (Str × Addr)), (∀ x ∈ names, x.2 = .free → (env.cells.lookup x.1).isSome = true) →
   ((do let r ← forIn names acc fun x r => (match x with | (name, kind) => if (kind == NameKind.free) = true then do let a ← cellOf env name; pure (ForInStep.yield ((name, a) :: r)) else pure (ForInStep.yield r)); pure r) : Sem (List (Str × Addr))) = pure (closeL env.cells names acc) := by
  intro names
  induction names with
  | nil => intro acc _; rfl
  | cons x r ih =>
   intro acc hx
   obtain ⟨n, k⟩ := x
   have ih' := fun acc => ih acc fun y hy => hx y (.tail _ hy)
   show _ = pure (if (k == .free) = true then closeL env.cells r ((n, (env.cells.lookup n).getD 0) :: acc) else closeL env.cells r acc)
   by_cases q : k = .free
   ·subst q
    refine ek1_1 (Option.isSome_iff_exists.mp (hx _ (.head _) rfl)) fun c hc => ?_
    rw [if_pos (show (NameKind.free == NameKind.free) = true from by decide)]; rw [← ih']
    have hc' : env.cells.lookup n = some c := hc
    simp only [List.forIn_cons, cellOf, hc', Option.getD_some]
    rfl
   ·have : (k == NameKind.free) = false := by simpa using q
    rw [this]; rw [if_neg Bool.false_ne_true]; rw [← ih']
    simp only [List.forIn_cons, this]
    rfl
 have e := this scope.names [] hf
 simp only [closureFor]
 first | (refine e.symm ▸ ?_; rfl) | (erw [e]; rfl)
noncomputable def compOk (scope : Scope) (ns gn cn oc : List Str) : Bool :=
 scope.kind == .function && scope.names.all (fun x => x.2 != .cell) && scope.names.all (fun x => x.2 != .local || scope.names.lookup x.1 == some .local) &&
 ns.all (fun x => scope.names.lookup x == some .local && !(x == ("__debug__" : Str))) && decide ns.Nodup &&
 gn.all (fun x => scope.names.lookup x == some .globalImplicit && !(x == ("__debug__" : Str))) &&
 cn.all (fun x => scope.names.lookup x == some .free && !(x == ("__debug__" : Str)) && !(x == ("__classdict__" : Str))) &&
 scope.names.all (fun x => x.2 != .free || oc.contains x.1)
theorem compOk_k {P : Prop} {scope : Scope} {ns gn cn oc : List Str} (e : compOk scope ns gn cn oc = true) (k : scope.kind = .function → (∀ x ∈ scope.names, ¬x.2 = .cell) → (∀ x ∈ scope.names, ¬x.2 = .local ∨ scope.names.lookup x.1 = some .local) →
  (∀ x ∈ ns, scope.names.lookup x = some .local ∧ (x == ("__debug__" : Str)) = false) → ns.Nodup → (∀ x ∈ gn, scope.names.lookup x = some .globalImplicit ∧ (x == ("__debug__" : Str)) = false) → (∀ x ∈ cn, (scope.names.lookup x = some .free ∧ (x == ("__debug__" : Str)) = false) ∧ (x == ("__classdict__" : Str)) = false) → (∀ x ∈ scope.names, ¬x.2 = .free ∨ x.1 ∈ oc) → P) : P :=
 ba8 e fun e1 e2 e3 e4 e5 e6 e7 e8 => k (eq_of_beq e1) (fun ξ hx => bne_iff_ne.mp (al e2 hx)) (fun ξ hx => (bor (al e3 hx)).imp bne_iff_ne.mp eq_of_beq) (fun ξ hx => ba2 (al e4 hx) fun a b => ⟨eq_of_beq a, nt b⟩) (of_decide_eq_true e5)
  (fun ξ hx => ba2 (al e6 hx) fun a b => ⟨eq_of_beq a, nt b⟩) (fun ξ hx => ba3 (al e7 hx) fun a b c => ⟨⟨eq_of_beq a, nt b⟩, nt c⟩) fun ξ hx => (bor (al e8 hx)).imp bne_iff_ne.mp List.contains_iff_mem.mp
theorem lookup_map {f : Str × NameKind → Str × NameKind} (hf : ∀ p, (f p).1 = p.1) {x : Str} {k : NameKind} : ∀ {l : List (Str × NameKind)}, l.lookup x = some k → (l.map f).lookup x = some (f (x, k)).2
 | (n, k') :: r, h => by
  rw [List.lookup_cons] at h
  have e : f (n, k') = (n, (f (n, k')).2) := Prod.ext (hf _) rfl
  rw [List.map_cons, e, List.lookup_cons]
  by_cases q : x = n
  ·rw [beq_iff_eq.mpr q] at h ⊢; cases h; rw [q]
  ·rw [beq_eq_false_iff_ne.mpr q] at h ⊢; exact lookup_map hf h
theorem relabel_fst (env : Env) (p : Str × NameKind) : ((fun (n, k) => if (k == NameKind.free && env.scope.kind == .function && env.kindOf n == some .cell) then (n, NameKind.cell) else (n, k)) p : Str × NameKind).1 = p.1 := by
 obtain ⟨n, k⟩ := p
 show (if (k == NameKind.free && env.scope.kind == .function && env.kindOf n == some .cell) = true then (n, NameKind.cell) else (n, k)).1 = n
 by_cases h : (k == NameKind.free && env.scope.kind == .function && env.kindOf n == some .cell) = true
 ·rw [if_pos h]
 ·rw [if_neg h]
theorem lookup_relabel_glob {env : Env} {names : List (Str × NameKind)} {x : Str} (h : names.lookup x = some .globalImplicit) :
  (names.map fun (n, k) => if (k == NameKind.free && env.scope.kind == .function && env.kindOf n == some .cell) then (n, NameKind.cell) else (n, k)).lookup x = some .globalImplicit := (lookup_map (relabel_fst env) h).trans rfl
theorem lookup_relabel_free {env : Env} {names : List (Str × NameKind)} {x : Str} (h : names.lookup x = some .free) :
  (names.map fun (n, k) => if (k == NameKind.free && env.scope.kind == .function && env.kindOf n == some .cell) then (n, NameKind.cell) else (n, k)).lookup x = some .cell ∨
  (names.map fun (n, k) => if (k == NameKind.free && env.scope.kind == .function && env.kindOf n == some .cell) then (n, NameKind.cell) else (n, k)).lookup x = some .free := by
 rw [lookup_map (relabel_fst env) h]
 show some (if (NameKind.free == NameKind.free && env.scope.kind == .function && env.kindOf x == some .cell) = true then (x, NameKind.cell) else (x, NameKind.free)).2 = _ ∨ some (if (NameKind.free == NameKind.free && env.scope.kind == .function && env.kindOf x == some .cell) = true then (x, NameKind.cell) else (x, NameKind.free)).2 = _
 by_cases q : (NameKind.free == NameKind.free && env.scope.kind == .function && env.kindOf x == some .cell) = true
 ·rw [if_pos q]; exact .inl rfl
 ·rw [if_neg q]; exact .inr rfl
section
variable {h h' : Heap} {t : Nat} {gl cl : List (Str × Value)} {env : Env} {γ : G} {A : Around} {K : Frag} {D D' : Dm} {own news news' : List (Addr × Obj)} {vars vars' : List (Str × Option Value)}
structure CompR (γ : G) (A : Around) (elt tgt iter : Expr) (ifs : List Expr) (scope : Scope) (pos : Pos) (it : Value) (env : Env) (Q : Value → Heap → Nat → Prop) (h : Heap) (t : Nat) : Prop where
 out : wpAny (MM γ) A (newList []) (fun acc s₃ => wpAny (MM γ) A (newFunctionEnv scope env.globals (closeL env.cells scope.names []) [] env.qual none .none (some env)) (fun cenv s₄ =>
  codeAny (MM γ) A (.compStart (.ListComp elt [⟨tgt, iter, ifs, 0⟩] scope pos) 0 it acc { cenv with scope := relabel scope env })
   (compPost (MM γ) A (fun ξ ξ => False) none (fun v s' => ∃ h' t', s' = mkS γ h' t' ∧ Q v h' t') acc cenv.locals) s₄) (fun ξ ξ => False) s₃) (fun ξ ξ => False) (mkS γ h t)
structure CompTests (γ : G) (A : Around) (ifs : List Expr) (env : Env) (Q : Bool → Heap → Nat → Prop) (h : Heap) (t : Nat) : Prop where
 out : W γ A (forIn ifs true fun c r => if r = true then do let ok ← isTrue c env (eval c env); pure (ForInStep.yield ok) else pure (ForInStep.yield r)) Q h t
theorem w_tests_nil {Q : Bool → Heap → Nat → Prop} (q : Q true h t) : CompTests γ A [] env Q h t := ⟨⟨wpAny_tests_nil ⟨h, t, rfl, q⟩⟩⟩
theorem w_tests_one {c : Expr} {Q : Bool → Heap → Nat → Prop} (q : W γ A (isTrue c env (eval c env)) Q h t) : CompTests γ A [c] env Q h t := ⟨⟨wpAny_tests_one q.out⟩⟩
theorem w_listcomp {elt tgt iter : Expr} {ifs : List Expr} {scope : Scope} {pos : Pos} {Q : Value → Heap → Nat → Prop} (F : Fx K D env gl cl vars news h)
  (x : W γ A (eval iter env) (fun v h t => PyIter γ A v (fun it h t => CompR γ A elt tgt iter ifs scope pos it env Q h t) h t) h t)
  {ns gn cn : List Str} (ok : compOk scope ns gn cn (cl.map (·.1)) = true) (hs : ∀ x, foldedSetIterable iter env x = pure x := by intro _; rfl) :
  W γ A (eval (.ListComp elt [⟨tgt, iter, ifs, 0⟩] scope pos) env) Q h t := by
 refine compOk_k ok fun o1 o2 o3 o4 o5 o6 o7 o8 => ?_; clear ok
 refine ⟨?_⟩
 rw [eval_ListComp]
 refine wpAny_comprehension_free (use := none) rfl hs (closureFor_of fun y hy e => ?_) o1 (fun y hy e => (o3 y hy).resolve_left fun q => q e) (W.use x fun v h t y => W.use y.out fun it h t z => z.out)
 have hm := (o8 y hy).resolve_left fun q => q e
 refine ek1_2 (List.mem_map.mp hm) fun p hp e => ?_
 refine ek0_4 (F.e.ck p hp) fun ξ ξ ξ z1 => ?_; refine ek2_2 z1 fun c o hc ξ => ?_; clear z1
 rw [← e, hc]; rfl
inductive CompN (K : Frag) (cenv : Env) (glC clC : List (Str × Value)) (ns : List Str) (D : Dm) (P : Dm → List (Addr × Obj) → Prop) (own : List (Addr × Obj)) (h : Heap) : Prop
 | mk {D' : Dm} {vars' : List (Str × Option Value)} {news : List (Addr × Obj)} : Le D D' → vars'.map (·.1) = ns → P D' news → Fx K D' cenv glC clC vars' (news ++ own) h → CompN K cenv glC clC ns D P own h
inductive CompM (K : Frag) (cenv : Env) (glC clC : List (Str × Value)) (ns : List Str) (D : Dm) (P St : Dm → List (Addr × Obj) → Prop) (l lp : Addr × Obj) (h : Heap) : Prop
 | mk {D' : Dm} {vars' : List (Str × Option Value)} {news own : List (Addr × Obj)} : Le D D' → vars'.map (·.1) = ns → P D' news → St D' own → Fx K D' cenv glC clC vars' ((news ++ [l, lp]) ++ own) h → CompM K cenv glC clC ns D P St l lp h
inductive CompS (γ : G) (K : Frag) (cenv : Env) (glC clC : List (Str × Value)) (ns : List Str) (n : Nat) (D : Dm) (Inv : Nat → Dm → List Value → List (Addr × Obj) → Prop) (St : Nat → Dm → List (Addr × Obj) → Prop) (ac : Addr) (lp : Addr × Obj) : Nat → Shared → Prop
 | mk {i : Nat} {D' : Dm} {u : Str → Option Value} {ys : List Value} {news : List (Addr × Obj)} {lo : Obj} {own : List (Addr × Obj)} {h : Heap} {t : Nat} : i ≤ n → Le D D' → Inv i D' ys news → St i D' own → ys.length ≤ i → LstO ys.toArray lo →
   Fx K D' cenv glC clC (ns.map fun x => (x, u x)) ((news ++ [(ac, lo), lp]) ++ own) h → CompS γ K cenv glC clC ns n D Inv St ac lp (n - i) (mkS γ h t)
theorem w_comp_it {elt tgt iter : Expr} {ifs : List Expr} {scope : Scope} {pos : Pos} {it : Value} {n : Nat} {St P} {Q : Value → Heap → Nat → Prop} (I : Iter γ K it tgt n St P) (hh : A.handled = none)
  (F : Fx K D env gl cl vars (news ++ own) h) (hst : St 0 D own) (ns : List Str) (glC clC : List (Str × Value)) (ok : compOk scope ns (glC.map (·.1)) (clC.map (·.1)) (cl.map (·.1)) = true)
  (hg : GlobAll K glC) (hsub : Subs clC cl) (hn : n ≤ sizeLine) (Inv : Nat → Dm → List Value → List (Addr × Obj) → Prop) (h0 : Inv 0 D [] news)
  (imono : ∀ i D D' ys news, Le D D' → Inv i D ys news → Inv i D' ys news)
  (turn : ∀ cenv i D' ys news' own' (u : Str → Option Value) v h t, Le D D' → i < n → Inv i D' ys news' → P i D' v → Fx K D' cenv glC clC (ns.map fun x => (x, u x)) (news' ++ own') h →
   W γ A (assign tgt cenv v) (fun ξ => CompTests γ A ifs cenv (fun b h t => Br b (W γ A (eval elt cenv) (fun y h ξ => CompN K cenv glC clC ns D' (fun D n => Inv (i + 1) D (ys ++ [y]) n) own' h) h t) (CompN K cenv glC clC ns D' (fun D n => Inv (i + 1) D ys n) own' h))) h t)
  (fin : ∀ D' ys news' acc o h t, Le D D' → Inv n D' ys news' → LstO ys.toArray o → Fx K D' env gl cl vars ((acc, o) :: news') h → Q (.ref acc) h t) :
  CompR γ A elt tgt iter ifs scope pos it env Q h t := by
 refine compOk_k ok fun o1 o2 o3 o4 o5 o6 o7 o8 => ?_; clear ok
 obtain ⟨oL, S, fr⟩ := F.f
 refine ⟨wpAny_newObj_type (wpAny_newFunctionEnv o2 (by intro y hy; simp at hy) (fun h₁ hns hsb => ?_) o1)⟩
 dsimp only at hns hsb ⊢
 have S1 := S.push { cls := .type "list", data := .seq ([] : List Value).toArray }
 generalize hH : h.push { cls := .type "list", dict := none, data := .seq ([] : List Value).toArray } = H at hns hsb S1
 have S2 : Sc K D ((h.objs.size, { cls := .type "list", dict := none, data := .seq ([] : List Value).toArray }) :: (env.locals, oL) :: (news ++ own)) h₁ := S1.grow fun b o e => hsb.extBut b o (Nat.ne_of_lt (Heap.lt_size e)) (Heap.get?_push_of_some _ e)
 generalize hC : H.objs.size = C at hns hsb ⊢
 refine ek3_4 hns fun oC es ep hoC hdC hkC hfC => ?_; clear hns
 have S3 := S2.add hoC (hC ▸ S1.noD (Nat.le_refl _)) (hC ▸ S1.noN (Nat.le_refl _))
 generalize hacc : h.objs.size = ac at S2 S3 ⊢
 generalize hce : ({ newEnv scope C env.globals (closeL env.cells scope.names []) env.qual none .none (some env) builtinsNs with scope := relabel scope env } : Env) = cenv
 have hce' : cenv = compEnvC scope (closeL env.cells scope.names []) C env := hce.symm
 have hloc : cenv.locals = C := by rw [hce']; rfl
 have eo : EnvOk K D cenv glC clC ns := by
  subst hce'
  refine ⟨o1, F.e.ng, F.e.nb, fun x hx => ⟨lookup_relabel_local (o4 x hx).1, (o4 x hx).2⟩, o5, fun p hp => ?_, fun p hp => ?_⟩
  ·have := o6 p.1 (List.mem_map_of_mem hp)
   exact ⟨lookup_relabel_glob this.1, this.2, hg.get p hp⟩
  ·have q := o7 p.1 (List.mem_map_of_mem hp)
   refine ek0_4 (F.e.ck p (hsub.mem p hp)) fun ξ ξ ξ z1 => ?_; refine ek2_3 z1 fun c o hc hd ho => ?_; clear z1
   refine ⟨lookup_relabel_free q.1.1, q.1.2, q.2, c, o, closeL_lookup (mem_of_lookup q.1.1) hc, hd, ho⟩
 have nomap : ∀ (es : Array DictEntry) (ep : Nat) (o : Obj), o.data = .dict es ep → StrKeys es → FrObj o (ns.map fun x => (x, nsFind es x)) := fun es ep o a b => ⟨es, ep, a, b, fun p hp => by obtain ⟨x, _, rfl⟩ := List.mem_map.mp hp; rfl⟩
 have F0 : Fx K D cenv glC clC (ns.map fun x => (x, nsFind es x)) ((news ++ [(ac, { cls := .type "list", dict := none, data := .seq ([] : List Value).toArray }), (env.locals, oL)]) ++ own) h₁ := by
  refine ⟨by simpa [Function.comp_def] using eo, oC, ?_, nomap es ep oC hdC hkC⟩
  rw [hloc]
  refine S3.perm (.cons _ ?_)
  rw [List.append_assoc]
  exact (List.perm_append_comm (l₁ := [_, _]) (l₂ := news ++ own)).trans (by rw [List.append_assoc]; exact List.Perm.append_left _ (List.perm_append_comm (l₁ := own)))
 have loop : ∀ (it' : Value), it' = it → ∀ h t, Fx K D cenv glC clC (ns.map fun x => (x, nsFind es x)) ((news ++ [(ac, { cls := .type "list", dict := none, data := .seq ([] : List Value).toArray }), (env.locals, oL)]) ++ own) h →
   codeAny (MM γ) A (.compLoop (.ListComp elt [⟨tgt, iter, ifs, 0⟩] scope pos) 0 it' (.ref ac) cenv) (compPost (MM γ) A (fun ξ ξ => False) none (fun v s' => ∃ h' t', s' = mkS γ h' t' ∧ Q v h' t') (.ref ac) C) (mkS γ h t) := by
  rintro it' rfl h t F0
  refine codeAny_loop rfl (fun k s' => CompS γ K cenv glC clC ns n D Inv St ac (env.locals, oL) k s') (fun k s' hI => ?_) n (.mk (u := fun x => nsFind es x) (Nat.zero_le _) (Le.refl _) h0 hst (Nat.le_refl _) ⟨_, rfl⟩ F0)
  cases hI with
  | @mk i D' u ys news lo own h t hi le inv st yl lx F =>
  show wpAny _ A ((compTurn (.ListComp elt [⟨tgt, iter, ifs, 0⟩] scope pos) 0 it' (.ref ac) cenv).onRaise (fun x => do noteFrame x cenv; theTreesLotGoes x)) _ _ _
  refine wpAny_noted ?_
  refine (compTurn_list ..).symm ▸ ?_
  refine wpAny_bind (wpAny_standAt (wpAny_bind ?_))
  rcases Nat.lt_or_ge i n with hlt | hge
  ·refine W.use (I.nextF hh hlt F st (Q := fun v => W γ A (assign tgt cenv v) (fun ξ => CompTests γ A ifs cenv (fun b h t =>
    Br b (W γ A (eval elt cenv) (fun y h ξ => CompM K cenv glC clC ns D (fun D n => Inv (i + 1) D (ys ++ [y]) n) (St (i + 1)) (ac, lo) (env.locals, oL) h) h t) (CompM K cenv glC clC ns D (fun D n => Inv (i + 1) D ys n) (St (i + 1)) (ac, lo) (env.locals, oL) h)))) ?_ fun v h t y => ?_) fun ξ ξ ξ y => y
   ·intro v D2 own' h t le' st' p F'
    rw [List.append_assoc] at F'
    have up : ∀ {P h}, CompN K cenv glC clC ns D2 P ([(ac, lo), (env.locals, oL)] ++ own') h → CompM K cenv glC clC ns D P (St (i + 1)) (ac, lo) (env.locals, oL) h := fun z => by
     cases z with
     | mk le3 a b c => exact .mk ((le.trans le').trans le3) a b (I.mono _ _ _ _ le3 st') (by rw [List.append_assoc]; exact c)
    exact (turn cenv i D2 ys news _ u v h t (le.trans le') hlt (imono _ _ _ _ _ le' inv) p F').mono fun ξ h t y => ⟨y.out.mono fun b h t y => ⟨fun e => (y.1 e).mono fun y h t z => up z, fun e => up (y.2 e)⟩⟩
   ·have again : ∀ D3 (vars' : List (Str × Option Value)) news3 ys3 lo3 own3 h3 t3, Le D D3 → vars'.map (·.1) = ns → Inv (i + 1) D3 ys3 news3 → St (i + 1) D3 own3 → ys3.length ≤ i + 1 → LstO ys3.toArray lo3 →
      Fx K D3 cenv glC clC vars' ((news3 ++ [(ac, lo3), (env.locals, oL)]) ++ own3) h3 → ∃ m, m < n - i ∧ CompS γ K cenv glC clC ns n D Inv St ac (env.locals, oL) m (mkS γ h3 t3) := by
     intro D3 vars' news3 ys3 lo3 own3 h3 t3 le3 e inv3 st3 yl3 lx3 F3
     refine ek1_2 F3.f fun o3 S3 z1 => ?_; refine ek2_3 z1 fun es3 ep3 d3 k3 f3 => ?_; clear z1
     refine ⟨n - (i + 1), by exact Nat.sub_lt_sub_left hlt (Nat.lt_succ_self _), .mk (u := fun x => nsFind es3 x) hlt le3 inv3 st3 yl3 lx3 ⟨?_, o3, S3, nomap es3 ep3 o3 d3 k3⟩⟩
     have e' : (ns.map fun x => (x, nsFind es3 x)).map (·.1) = vars'.map (·.1) := by rw [e]; simp [Function.comp_def]
     rw [e']; exact F3.e
    refine wpAny_bind (W.use y fun ξ h t y => wpAny_bind (W.use y fun ξ h t y => wpAny_bind (W.use y.out fun b h t y => ?_)))
    cases b with
    | false =>
     cases y.2 rfl with
     | mk le3 a b c F3 => exact wpAny_pure ⟨rfl, again _ _ _ ys lo _ h t le3 a b c (Nat.le_succ_of_le yl) lx F3⟩
    | true =>
     refine wpAny_bind (wpAny_bind (W.use (y.1 rfl) fun val h t z => wpAny_bind ?_))
     cases z with
     | @mk D3 vars' news3 own3 le3 a b c F3 =>
     have F4 : Fx K D3 cenv glC clC vars' ((ac, lo) :: (news3 ++ (env.locals, oL) :: own3)) h := F3.perm (by
      rw [List.append_assoc]; exact List.perm_middle)
     refine ek1_1 lx fun n0 z1 => ?_; clear lx; obtain rfl := z1
     refine wpAny_list_append_plain (s := mkS γ h t) (l := ac) (items := ys.toArray) ⟨n0, F4.sc.head⟩ (fun h' hl hs => ?_) (by simp; exact nZ (nA hn (nA yl hlt)) (by kcf_m))
     refine ek1_1 hl fun n1 e1 => ?_; clear hl
     refine wpAny_pure (wpAny_pure ⟨rfl, again D3 vars' news3 (ys ++ [val]) { cls := .type "list", dict := none, data := .seq (ys ++ [val]).toArray n1, slots := #[] } own3 h' t le3 a b c (by simp; exact yl) ⟨_, rfl⟩ ?_⟩)
     have F5 := F4.upd (fun b x hb e => hs.extBut b x hb e) e1
     have e2 : ys.toArray.push val = (ys ++ [val]).toArray := by simp
     rw [e2] at F5
     exact F5.perm (by refine (List.append_assoc ..).symm ▸ ?_; exact List.perm_middle.symm)
  ·have e : i = n := Nat.le_antisymm hi hge
   subst e
   refine W.use (I.lastF hh F st fun h t F => ?_) fun ξ ξ ξ y => y
   refine wpAny_pure ?_
   refine ek1_2 F.f fun o3 S3 z1 => ?_; refine ek2_3 z1 fun es3 ep3 d3 k3 f3 => ?_; clear z1
   rw [hloc] at S3
   refine ⟨_, ⟨o3, es3, ep3, S3.head, d3, k3, fun ξ => rfl⟩, fun h' hs => ⟨h', t, rfl, fin D' ys news ac lo h' t le inv lx ⟨?_, oL, ?_, fr⟩⟩⟩
   ·exact (by assumption : Fx K D env gl cl vars _ _) |>.e.mono le
   ·refine (S3.skip hs.extBut).perm ?_
    exact (List.perm_append_comm (l₁ := news) (l₂ := [_, _])).trans (.swap _ _ _)
 have e5 : (mkS γ h₁ (t + ([] : List (Str × Value)).length)) = mkS γ h₁ t := rfl
 show codeAny (MM γ) A (.compStart (.ListComp elt [⟨tgt, iter, ifs, 0⟩] scope pos) 0 it (.ref ac) cenv) _ (mkS γ h₁ t)
 refine codeAny_compStart_list (loop it rfl h₁ t F0) ?_
 refine ek1_2 F0.f fun oC' SC' frC => ?_
 refine W.use (I.self D own ((cenv.locals, oC') :: (news ++ [(ac, { cls := .type "list", dict := none, data := .seq ([] : List Value).toArray }), (env.locals, oL)])) A h₁ t (fun it' h t => it' = it ∧ Sc K D _ h) hst (SC'.perm (List.perm_append_comm (l₁ := (cenv.locals, oC') :: (news ++ [_, _])) (l₂ := own))) fun h t SS => ⟨rfl, SS⟩) fun it' h t y => ?_
 refine ek0_2 y fun z1 SS => ?_; clear y; obtain rfl := z1
 exact loop _ rfl h t ⟨F0.e, oC', SS.perm (List.perm_append_comm (l₁ := own)), frC⟩
end
end
section
theorem cellsFrom_acc : ∀ (names : List (Str × NameKind)) (n : Nat) (acc : List (Str × Addr)) (x : Str), (acc.lookup x).isSome = true → ((cellsFrom n names acc).lookup x).isSome = true
 | [], _, _, _, h => h
 | (m, k) :: r, n, acc, x, h => by
  unfold cellsFrom; split
  ·refine cellsFrom_acc r _ _ x ?_
   rw [List.lookup_cons]; split
   ·rfl
   ·exact h
  ·exact cellsFrom_acc r _ _ x h
theorem cellsFrom_has : ∀ (names : List (Str × NameKind)) (n : Nat) (acc : List (Str × Addr)) (x : Str), names.lookup x = some .cell → ((cellsFrom n names acc).lookup x).isSome = true
 | (m, k) :: r, n, acc, x, h => by
  rw [List.lookup_cons] at h
  unfold cellsFrom
  by_cases q : x = m
  ·subst q
   simp at h; subst h
   rw [if_pos (by decide)]
   exact cellsFrom_acc r _ _ x (by simp)
  ·have q' : (x == m) = false := beq_eq_false_iff_ne.mpr q
   rw [q'] at h
   split
   ·exact cellsFrom_has r _ _ x h
   ·exact cellsFrom_has r _ _ x h
theorem bindL_miss {kindOf : Str → Option NameKind} : ∀ {binds : List (Str × Value)} {m : Str → Option Value} {x : Str}, x ∉ binds.map (·.1) → bindL kindOf binds m x = m x
 | [], _, _, _ => rfl
 | (n, v) :: r, m, x, h => by
  simp only [List.map_cons, List.mem_cons, not_or] at h
  unfold bindL
  rw [bindL_miss h.2]
  split
  ·show (if x = n then some v else m x) = m x; rw [if_neg h.1]
  ·rfl
theorem bindC_miss {kindOf : Str → Option NameKind} : ∀ {binds : List (Str × Value)} {m : Str → Option Value} {x : Str}, x ∉ binds.map (·.1) → bindC kindOf binds m x = m x
 | [], _, _, _ => rfl
 | (n, v) :: r, m, x, h => by
  simp only [List.map_cons, List.mem_cons, not_or] at h
  unfold bindC
  rw [bindC_miss h.2]
  split
  ·rfl
  ·show (if x = n then some v else m x) = m x; rw [if_neg h.1]
theorem bindL_hit {kindOf : Str → Option NameKind} : ∀ {binds : List (Str × Value)} {m : Str → Option Value} {p : Str × Value}, (binds.map (·.1)).Nodup → p ∈ binds → kindOf p.1 = some .local → bindL kindOf binds m p.1 = some p.2
 | (n, v) :: r, m, p, nd, h, k => by
  have nd' := List.nodup_cons.mp nd
  unfold bindL
  rcases List.mem_cons.mp h with rfl | h
  ·rw [bindL_miss nd'.1, if_pos k]; simp
  ·exact bindL_hit nd'.2 h k
theorem bindC_hit {kindOf : Str → Option NameKind} {binds : List (Str × Value)} {m : Str → Option Value} {p : Str × Value} (nd : (binds.map (·.1)).Nodup) (h : p ∈ binds) (k : kindOf p.1 = some .cell) : bindC kindOf binds m p.1 = some p.2 := by
 induction binds generalizing m with
 | nil => cases h
 | cons q r ih =>
  have nd' := List.nodup_cons.mp nd
  unfold bindC
  refine (List.mem_cons.mp h).elim (fun e => ?_) fun h => ih nd'.2 h
  subst e
  rw [bindC_miss nd'.1, if_neg (by rw [k]; simp)]; simp
noncomputable def entryOkC (scope : Scope) (bn lbn others cn gn : List Str) : Bool :=
 scope.kind == .function && !scope.isCoroutine && !scope.isGenerator && bn.all (fun x => scope.names.lookup x == some .local || scope.names.lookup x == some .cell) &&
 (lbn ++ others).all (fun x => scope.names.lookup x == some .local && !(x == ("__debug__" : Str))) && decide (lbn ++ others).Nodup && decide bn.Nodup && others.all (fun x => !bn.contains x) &&
 cn.all (fun x => scope.names.lookup x == some .cell && !(x == ("__debug__" : Str)) && !(x == ("__classdict__" : Str))) &&
 gn.all (fun x => scope.names.lookup x == some .globalImplicit && !(x == ("__debug__" : Str)))
theorem entryOkC_k {P : Prop} {scope : Scope} {bn lbn others cn gn : List Str} (e : entryOkC scope bn lbn others cn gn = true) (k : scope.kind = .function → scope.isCoroutine = false → scope.isGenerator = false → (∀ x ∈ bn, scope.names.lookup x = some .local ∨ scope.names.lookup x = some .cell) →
  (∀ x ∈ lbn ++ others, scope.names.lookup x = some .local ∧ (x == ("__debug__" : Str)) = false) → (lbn ++ others).Nodup → bn.Nodup → (∀ x ∈ others, bn.contains x = false) → (∀ x ∈ cn, (scope.names.lookup x = some .cell ∧ (x == ("__debug__" : Str)) = false) ∧ (x == ("__classdict__" : Str)) = false) → (∀ x ∈ gn, scope.names.lookup x = some .globalImplicit ∧ (x == ("__debug__" : Str)) = false) → P) : P :=
 ba10 e fun e1 e2 e3 e4 e5 e6 e7 e8 e9 e10 => k (eq_of_beq e1) (nt e2) (nt e3) (fun ξ hx => (bor (al e4 hx)).imp eq_of_beq eq_of_beq) (fun ξ hx => ba2 (al e5 hx) fun a b => ⟨eq_of_beq a, nt b⟩) (of_decide_eq_true e6) (of_decide_eq_true e7) (fun ξ hx => nt (al e8 hx))
  (fun ξ hx => ba3 (al e9 hx) fun a b c => ⟨⟨eq_of_beq a, nt b⟩, nt c⟩) fun ξ hx => ba2 (al e10 hx) fun a b => ⟨eq_of_beq a, nt b⟩
section
variable {h : Heap} {t : Nat} {γ : G} {A : Around} {K : Frag} {D : Dm} {news : List (Addr × Obj)} {f : Addr} {R : Value → Heap → Nat → Prop}
 {name qual : Str} {params : Arguments} {body : List Stmt} {scope : Scope} {dV kV doc pm cdv ct oc : Value} {an od : Option Addr} {osl : Array (Option Value)}
end
end
section
noncomputable def calmId (id : String) : Bool := id != "bytearray.__contains__" && id != "bytearray.__mod__" && id != "bytearray.__rmod__" && id != "_struct.pack_into.held" && id != "bytearray.find.held" && !Builtin.Bytes.decodersThatHold.contains id
noncomputable def Calm1 : Code → Bool
 | .builtin id _ => calmId id
 | _ => true
noncomputable def CalmB (Γ : Ctx) : Prop := ∀ x ∈ Γ.below, Calm1 x.1 = true
noncomputable def CalmC (Γ : Ctx) : Prop := Calm1 Γ.code = true ∧ CalmB Γ
structure V {α : Type} (γ : G) (A : Around) (tree : Sem α) (Q : α → Heap → Nat → Prop) (h : Heap) (t : Nat) : Prop where
 out : ∀ Γ p, Γ.In A → CalmC Γ → Sem.wp (MM γ) Γ tree (fun a ξ s' => ∃ h' t', s' = mkS γ h' t' ∧ Q a h' t') (fun ξ ξ ξ => False) p (mkS γ h t)
theorem v_ifn {α : Type} {γ : G} {A : Around} {c : Prop} [Decidable c] {a b : Sem α} {Q : α → Heap → Nat → Prop} {h : Heap} {t : Nat} (n : ¬c) (x : V γ A b Q h t) : V γ A (if c then a else b) Q h t := by rw [if_neg n]; exact x
theorem v_ifp {α : Type} {γ : G} {A : Around} {c : Prop} [Decidable c] {a b : Sem α} {Q : α → Heap → Nat → Prop} {h : Heap} {t : Nat} (y : c) (x : V γ A a Q h t) : V γ A (if c then a else b) Q h t := by rw [if_pos y]; exact x
theorem v_ite {α : Type} {γ : G} {A : Around} {c : Prop} [Decidable c] {a b : Sem α} {Q : α → Heap → Nat → Prop} {h : Heap} {t : Nat} (x : V γ A a Q h t) (y : V γ A b Q h t) : V γ A (if c then a else b) Q h t := by by_cases e : c; exact v_ifp e x; exact v_ifn e y
structure VK (γ : G) (A : Around) (c : Code) (R : Flow → Heap → Nat → Prop) (h : Heap) (t : Nat) : Prop where
 out : ∀ Γ p, Γ.code = c → Γ.Below A → CalmB Γ → wpCode (MM γ) Γ (fun r s' => ∃ f h' t', r = .ok f ∧ s' = mkS γ h' t' ∧ R f h' t') p (mkS γ h t)
noncomputable abbrev VC (γ : G) (A : Around) (c : Code) (R : Value → Heap → Nat → Prop) (h : Heap) (t : Nat) : Prop := VK γ A c (RetV R) h t
section
variable {α β : Type} {h : Heap} {t : Nat} {env : Env} {γ : G} {A : Around}
theorem V.of_w {tree : Sem α} {Q : α → Heap → Nat → Prop} (x : W γ A tree Q h t) : V γ A tree Q h t := ⟨fun Γ p hi ξ => x.out Γ p hi⟩
theorem V.of_any {tree : Sem α} {Q : α → Heap → Nat → Prop} (x : wpAny (MM γ) A tree (fun a s' => ∃ h' t', s' = mkS γ h' t' ∧ Q a h' t') (fun ξ ξ => False) (mkS γ h t)) : V γ A tree Q h t := .of_w ⟨x⟩
theorem V.mono {tree : Sem α} {Q Q' : α → Heap → Nat → Prop} (x : V γ A tree Q h t) (hq : ∀ a h' t', Q a h' t' → Q' a h' t') : V γ A tree Q' h t :=
 ⟨fun Γ p hi hc => Sem.wp_mono _ _ _ (fun a _ s' ⟨h', t', e, q⟩ => ⟨h', t', e, hq a h' t' q⟩) (fun ξ ξ ξ f => f) _ _ (x.out Γ p hi hc)⟩
theorem VK.mono {c : Code} {R R' : Flow → Heap → Nat → Prop} (x : VK γ A c R h t) (hq : ∀ f h' t', R f h' t' → R' f h' t') : VK γ A c R' h t :=
 ⟨fun Γ p hc hb hx => wpCode_mono (fun r s' ⟨f, h', t', e, e2, q⟩ => ⟨f, h', t', e, e2, hq f h' t' q⟩) (x.out Γ p hc hb hx)⟩
theorem VC.mono {c : Code} {R R' : Value → Heap → Nat → Prop} (x : VC γ A c R h t) (hq : ∀ v h' t', R v h' t' → R' v h' t') : VC γ A c R' h t :=
 VK.mono x fun ξ h' t' z => ek1_2 z fun v e q => ⟨v, e, hq v h' t' q⟩
theorem v_pure {a : α} {Q : α → Heap → Nat → Prop} (q : Q a h t) : V γ A (pure a) Q h t := .of_w (w_pure q)
theorem v_bind {m : Sem α} {f : α → Sem β} {Q : β → Heap → Nat → Prop} (x : V γ A m (fun a => V γ A (f a) Q) h t) : V γ A (m >>= f) Q h t := by
 refine ⟨fun Γ p hi hc => ?_⟩
 rw [Sem.wp_bind']
 refine Sem.wp_mono _ _ _ (fun a p' s' y => ?_) (fun ξ ξ ξ f => f) _ _ (x.out Γ p hi hc)
 refine ek2_2 y ?_; clear y; intro h' t' z1 y; obtain rfl := z1
 exact y.out Γ p' hi hc
theorem v_bindw {m : Sem α} {f : α → Sem β} {Q : β → Heap → Nat → Prop} (x : W γ A m (fun a => V γ A (f a) Q) h t) : V γ A (m >>= f) Q h t := v_bind (.of_w x)
theorem v_standAt {pos : Pos} {f : Unit → Sem β} {Q : β → Heap → Nat → Prop} (x : V γ A (f ()) Q h t) : V γ A (standAt pos >>= f) Q h t := v_bindw (w_standAt x)
theorem v_holding {vs : List Value} {m : Sem α} {Q : α → Heap → Nat → Prop} (x : V γ A m Q h t) : V γ A (holding vs m) Q h t :=
 ⟨fun Γ p hi hc => by rw [Sem.wp_holding]; exact x.out Γ p hi hc⟩
theorem v_keep {vs : List Value} {m : Sem α} {Q : α → Heap → Nat → Prop} (x : V γ A m Q h t) : V γ A (m.keep vs) Q h t :=
 ⟨fun Γ p hi hc => by rw [Sem.wp_keep]; exact x.out Γ p hi hc⟩
theorem v_onRaise {m : Sem α} {k : Value → Sem Unit} {Q : α → Heap → Nat → Prop} (x : V γ A m Q h t) : V γ A (m.onRaise k) Q h t := by
 refine ⟨fun Γ p hi hc => ?_⟩
 rw [Sem.wp_onRaise]
 exact Sem.wp_mono _ _ _ (fun ξ ξ ξ y => y) (fun ξ ξ ξ f => f.elim) _ _ (x.out Γ p hi hc)
theorem v_attempt {m : Sem α} {Q : Except Value α → Heap → Nat → Prop} (x : V γ A m (fun a => Q (.ok a)) h t) : V γ A m.attempt Q h t := by
 refine ⟨fun Γ p hi hc => ?_⟩
 rw [Sem.wp_attempt]
 exact Sem.wp_mono _ _ _ (fun ξ ξ ξ y => y) (fun ξ ξ ξ f => f.elim) _ _ (x.out Γ p hi hc)
theorem CalmC.enter {Γ : Ctx} (hc : CalmC Γ) (c : Code) (hd : Option Value) (p : Pos) : CalmB (Γ.enter c hd p) := by
 intro x hx
 rcases List.mem_cons.mp (show x ∈ (Γ.code, p) :: Γ.below from hx) with rfl | hx
 ·exact hc.1
 ·exact hc.2 x hx
theorem mark_none (A : Around) : A.mark none = A := by cases A; rfl
theorem v_run {c : Code} {Q : Flow → Heap → Nat → Prop} (x : VK γ A c Q h t) : V γ A (run c) Q h t := by
 refine ⟨fun Γ p hi hc => ?_⟩
 rw [Sem.wp_run]
 refine wpCode_mono (fun r s' y => ?_) (x.out _ p rfl (mark_none A ▸ hi.enter c none p (by intro x; cases x)) (hc.enter c none p))
 refine ek3_3 y fun f h' t' z1 z2 q => ?_; clear y; obtain rfl := z1; obtain rfl := z2
 exact ⟨h', t', rfl, q⟩
theorem v_runValue {c : Code} {Q : Value → Heap → Nat → Prop} (x : VC γ A c Q h t) : V γ A (runValue c) Q h t := by
 refine ⟨fun Γ p hi hc => ?_⟩
 rw [Sem.wp_runValue]
 refine wpCode_mono (fun r s' y => ?_) (x.out _ p rfl (mark_none A ▸ hi.enter c none p (by intro x; cases x)) (hc.enter c none p))
 refine ek3_3 y fun f h' t' z1 z2 z3 => ?_; clear y; obtain rfl := z1; obtain rfl := z2; refine ek1_2 z3 fun v z4 q => ?_; clear z3; obtain rfl := z4
 exact ⟨h', t', rfl, q⟩
theorem v_call {f : Value} {pos : List Value} {kw : List (Str × Value)} {Q : Value → Heap → Nat → Prop} (x : VC γ A (.call f ⟨pos, kw⟩) Q h t) : V γ A (call f pos kw) Q h t := v_runValue x
theorem v_runOwn {c : Code} {Q : Flow → Heap → Nat → Prop} (x : VK γ A c Q h t) : V γ A (runOwn c env) Q h t := v_onRaise (v_run x)
noncomputable def FinV (γ : G) (A : Around) (R : Flow → Heap → Nat → Prop) : Fin → Heap → Nat → Prop
 | .done f, h, t => R f h t
 | .again c, h, t => c.quiet = true ∧ VK γ A c R h t
theorem vk_tree {c : Code} {R : Flow → Heap → Nat → Prop} (hc : Calm1 c = true) (x : V γ (A.under c) ((MM γ).den c) (FinV γ A R) h t) : VK γ A c R h t := by
 refine ⟨fun Γ p e hb hx => ?_⟩
 rw [wpCode_iff_wp, e]
 refine Sem.wp_mono _ _ _ (fun fin p' s' y => ?_) (fun ξ ξ ξ f => f.elim) _ _ (x.out Γ p (e ▸ hb.in) ⟨e ▸ hc, hx⟩)
 refine ek2_2 y ?_; clear y; intro h' t' z1 y; obtain rfl := z1
 cases fin with
 | done f => exact ⟨f, h', t', rfl, rfl, y⟩
 | again c' => exact ⟨y.1, y.2.out (Γ.goto c') p' rfl (hb.goto c') hx⟩
noncomputable def VThen (γ : G) (A : Around) (rest : List Stmt) (env : Env) (Q : Flow → Heap → Nat → Prop) : Flow → Heap → Nat → Prop
 | .next, h, t => V γ A (execs rest env) Q h t
 | f, h, t => Q f h t
theorem v_then_next {rest : List Stmt} {Q : Flow → Heap → Nat → Prop} (x : V γ A (execs rest env) Q h t) : VThen γ A rest env Q .next h t := x
theorem v_then_ret {rest : List Stmt} {Q : Flow → Heap → Nat → Prop} {v : Value} (x : Q (.ret v) h t) : VThen γ A rest env Q (.ret v) h t := x
theorem v_execs_nil {Q : Flow → Heap → Nat → Prop} (q : Q .next h t) : V γ A (execs [] env) Q h t := .of_w (w_execs_nil q)
theorem v_execs_cons {st : Stmt} {rest : List Stmt} {Q : Flow → Heap → Nat → Prop} (x : V γ A (exec st env) (VThen γ A rest env Q) h t) : V γ A (execs (st :: rest) env) Q h t := by
 rw [arm_execs_cons]
 refine v_bind (x.mono fun f h t y => ?_)
 cases f <;> first | exact y | exact v_pure y
theorem v_stmt {st : Stmt} {rest : List Stmt} {Q : Flow → Heap → Nat → Prop} (x : W γ A (exec st env) (VThen γ A rest env Q) h t) : V γ A (execs (st :: rest) env) Q h t := v_execs_cons (.of_w x)
theorem v_if {test : Expr} {body orelse : List Stmt} {pos : Pos} {Q : Flow → Heap → Nat → Prop}
  (x : W γ A (isTrue test env (eval test env)) (fun b h t => Br b (V γ A (execs body env) Q h t) (V γ A (execs orelse env) Q h t)) h t) :
  V γ A (exec (.If test body orelse pos) env) Q h t := by
 rw [arm_exec_If]
 refine v_standAt (v_bindw (x.mono fun b h t y => ?_))
 cases b
 ·exact y.2 rfl
 ·exact y.1 rfl
theorem v_if_v {test : Expr} {body orelse : List Stmt} {pos : Pos} {Q : Flow → Heap → Nat → Prop}
  (x : V γ A (isTrue test env (eval test env)) (fun b h t => Br b (V γ A (execs body env) Q h t) (V γ A (execs orelse env) Q h t)) h t) :
  V γ A (exec (.If test body orelse pos) env) Q h t := by
 rw [arm_exec_If]
 refine v_standAt (v_bind (x.mono fun b h t y => ?_))
 cases b
 ·exact y.2 rfl
 ·exact y.1 rfl
theorem v_expr {e : Expr} {pos : Pos} {Q : Flow → Heap → Nat → Prop} (x : V γ A (eval e env) (fun v h t => NotRef v ∧ Q .next h t) h t)
  (hi : interactive env = false) (hs : swapsWith e none pos.line env = pure false := by with_unfolding_all rfl) : V γ A (exec (.Expr e pos) env) Q h t := by
 rw [exec_Expr (hi := hi) (hs := hs)]
 refine v_standAt (v_bind (x.mono fun v h t y => ?_))
 rw [dropValue_plain fun a q => by subst q; exact y.1]
 exact v_pure y.2
theorem v_assign_name {x : Str} {pos' pos : Pos} {value : Expr} {Q : Flow → Heap → Nat → Prop} (k : V γ A (eval value env) (fun v => W γ A (storeName env x v) (fun ξ => Q .next)) h t)
  (hs : swapsWith value (some (.Name x pos')) pos.line env = pure false := by with_unfolding_all rfl) : V γ A (exec (.Assign [.Name x pos'] value pos) env) Q h t := by
 rw [exec_Assign_Name (hs := hs)]
 exact v_standAt (v_bind (k.mono fun v h t y => v_standAt (v_bindw ⟨wpAny_bindName (W.use y fun ξ h' t' q => ⟨h', t', rfl, v_pure q⟩)⟩)))
theorem v_return {e : Expr} {pos : Pos} {Q : Flow → Heap → Nat → Prop} (x : V γ A (eval e env) (fun v => Q (.ret v)) h t) : V γ A (exec (.Return (some e) pos) env) Q h t := by
 rw [exec_Return_some]
 exact v_standAt (v_bind (x.mono fun v h t y => v_pure y))
theorem vk_block {stmts : List Stmt} {R : Flow → Heap → Nat → Prop} (x : V γ A (execs stmts env) R h t) : VK γ A (.block stmts env) R h t := by
 refine vk_tree rfl ?_
 show V γ A (do return Fin.done (← (execs stmts env).onRaise (fun x => do noteFrame x env; theTreesLotGoes x))) _ h t
 exact v_bind (v_onRaise (x.mono fun f h t y => v_pure y))
theorem v_try_finally {body : List Stmt} {f₀ : Stmt} {fs : List Stmt} {pos : Pos} {Q : Flow → Heap → Nat → Prop}
  (x : V γ A (execs body env) (fun f h t => f = .next ∧ V γ A (execs (f₀ :: fs) env) (fun g h t => g = .next ∧ Q .next h t) h t) h t) :
  V γ A (exec (.Try body [] [] (f₀ :: fs) pos) env) Q h t := by
 rw [arm_exec_Try]
 refine v_standAt ?_
 unfold tryStmt
 refine v_ifn Bool.false_ne_true ?_
 refine v_bind (v_attempt (v_bind (v_attempt (x.mono fun f h t y => ?_))))
 refine ek0_2 y ?_; clear y; intro z1 y; obtain rfl := z1
 refine v_pure ?_
 refine v_bind (v_holding (v_runOwn (vk_block (y.mono fun g h t z => ?_))))
 obtain ⟨rfl, z⟩ := z
 exact v_pure z
section
variable {pos : Pos} {e : Expr} {rest : List Expr} {kws : List Keyword} {K : Frag} {f : Value} {first : List Value} {Q : Value → Heap → Nat → Prop}
theorem v_callwith_of {P : Heap → Prop} {args : List (Bool × Sem Value)} {keywords : List (Option Str × Sem Value)} (hplain : (args.any (·.1) || keywords.any (·.1.isNone)) = false)
  (hk : ∀ h, P h → ∃ k, (k = Keeper.frame ∨ k = Keeper.machine ∨ k = Keeper.boundFrame) ∧ Looks (MM γ) h (keeperOf f) k)
  (x : W γ A (evalArgs f true args keywords) (fun a h t => P h ∧ V γ A (call f (first ++ a.pos) a.kw) Q h t) h t) : V γ A (callWith pos f first args keywords) Q h t := by
 unfold callWith
 refine v_bindw (w_holding (x.mono fun a h t y => v_standAt ?_))
 refine ek1_2 (hk _ y.1) fun k hk' L => ?_
 generalize (args.any (·.1) || keywords.any (·.1.isNone)) = st at hplain ⊢
 subst hplain
 refine v_bindw ⟨L.here ⟨h, t, rfl, ?_⟩⟩
 have tail : ∀ {tr : Sem Value}, V γ A tr Q h t → V γ A (tr >>= fun r => holding [r] point >>= fun ξ => pure r) Q h t :=
  fun z => v_bind (z.mono fun r h t q => v_bindw (w_holding (w_point (v_pure q))))
 have marked (mk : Value) : V γ A (callMarked mk f (first ++ a.pos) a.kw) Q h t := v_keep y.2
 rcases hk' with rfl | rfl | rfl
 ·exact v_ite (tail y.2) (tail (marked _))
 ·exact tail y.2
 ·exact v_ite (tail y.2) (tail (marked _))
theorem v_callwith (hk : keepOk K f = true) (x : W γ A (spliced (backTo pos (starEach (e :: rest) env))) (fun vs h t => K.In h ∧ V γ A (call f (cat first vs)) Q h t) h t)
  (he : starEach (e :: rest) env = (false, eval e env) :: starEach rest env := by with_unfolding_all rfl) (hplain : (backTo pos (starEach rest env)).any (·.1) = false := by with_unfolding_all rfl) :
  V γ A (callWith pos f first (backTo pos (starEach (e :: rest) env)) (backToKw pos (keywordEach [] env))) Q h t := by
 simp only [cat_eq] at x
 show V γ A (callWith pos f first (backTo pos (starEach (e :: rest) env)) []) Q h t
 rw [he] at x ⊢
 exact v_callwith_of (P := K.In) (by show ((false || (backTo pos (starEach rest env)).any (·.1)) || false) = false; rw [hplain]; rfl) (keepOk_of hk) ⟨evalArgs_plain (W.use x fun ξ h t y => ⟨h, t, rfl, y.1, y.2⟩)⟩
theorem v_callwith0 (hk : keepOk K f = true) (X : K.In h) (x : V γ A (call f (cat first [])) Q h t) : V γ A (callWith pos f first (backTo pos (starEach [] env)) (backToKw pos (keywordEach [] env))) Q h t := by
 rw [cat_eq] at x
 exact v_callwith_of (P := K.In) rfl (keepOk_of hk) ⟨evalArgs_nil3 ⟨h, t, rfl, X, x⟩⟩
theorem v_callwith_kw (hk : keepOk K f = true)
  (x : W γ A (spliced (backTo pos (starEach (e :: rest) env))) (fun vs => W γ A (evalAll ((backToKw pos (keywordEach kws env)).map (·.2))) (fun ks h t => K.In h ∧ V γ A (call f (cat first vs) (((backToKw pos (keywordEach kws env)).filterMap (·.1)).zip ks)) Q h t)) h t)
  (hall : (backToKw pos (keywordEach kws env)).all (·.1.isSome) = true := by with_unfolding_all rfl)
  (hplain : ((backTo pos (starEach (e :: rest) env)).any (·.1) || (backToKw pos (keywordEach kws env)).any (·.1.isNone)) = false := by with_unfolding_all rfl) (he : starEach (e :: rest) env = (false, eval e env) :: starEach rest env := by with_unfolding_all rfl) :
  V γ A (callWith pos f first (backTo pos (starEach (e :: rest) env)) (backToKw pos (keywordEach kws env))) Q h t := by
 simp only [cat_eq] at x
 exact v_callwith_of (P := K.In) hplain (keepOk_of hk) ⟨evalArgs_kw2 hall (W.use x fun ξ ξ ξ y => W.use y fun ξ h t z => ⟨h, t, rfl, z.1, z.2⟩) he⟩
theorem v_cw_plain (hf : f.onHeap = false) (x : W γ A (spliced (backTo pos (starEach (e :: rest) env))) (fun vs => V γ A (call f (cat first vs)) Q) h t)
  (he : starEach (e :: rest) env = (false, eval e env) :: starEach rest env := by with_unfolding_all rfl) (hplain : (backTo pos (starEach rest env)).any (·.1) = false := by with_unfolding_all rfl) :
  V γ A (callWith pos f first (backTo pos (starEach (e :: rest) env)) (backToKw pos (keywordEach [] env))) Q h t := by
 simp only [cat_eq] at x
 show V γ A (callWith pos f first (backTo pos (starEach (e :: rest) env)) []) Q h t
 rw [he] at x ⊢
 exact v_callwith_of (P := fun ξ => True) (by show ((false || (backTo pos (starEach rest env)).any (·.1)) || false) = false; rw [hplain]; rfl) (plain_keep hf) ⟨evalArgs_plain (W.use x fun ξ h t y => ⟨h, t, rfl, trivial, y⟩)⟩
theorem v_cw_bi {n : String} (x : W γ A (spliced (backTo pos (starEach (e :: rest) env))) (fun vs => V γ A (call (.builtin n) (cat first vs)) Q) h t)
  (he : starEach (e :: rest) env = (false, eval e env) :: starEach rest env := by with_unfolding_all rfl) (hplain : (backTo pos (starEach rest env)).any (·.1) = false := by with_unfolding_all rfl) :
  V γ A (callWith pos (.builtin n) first (backTo pos (starEach (e :: rest) env)) (backToKw pos (keywordEach [] env))) Q h t := v_cw_plain rfl x he hplain
theorem v_cw_ty0 {n : String} (x : V γ A (call (.type n) (cat first [])) Q h t) : V γ A (callWith pos (.type n) first (backTo pos (starEach [] env)) (backToKw pos (keywordEach [] env))) Q h t := by
 rw [cat_eq] at x
 exact v_callwith_of (P := fun ξ => True) rfl (plain_keep rfl) ⟨evalArgs_nil3 ⟨h, t, rfl, trivial, x⟩⟩
theorem v_ecall {func : Expr} {args : List Expr}
  (x : W γ A (eval func env) (fun f => V γ A (callWith pos f [] (backTo pos (starEach args env)) (backToKw pos (keywordEach kws env))) Q) h t)
  (he : eval (.Call func args kws pos) env = (do callWith pos (← eval func env) [] (backTo pos (starEach args env)) (backToKw pos (keywordEach kws env))) := by with_unfolding_all rfl) :
  V γ A (eval (.Call func args kws pos) env) Q h t := by
 rw [he]; exact v_bindw x
theorem v_mcall {o : Expr} {name : Str} {apos : Pos} {args : List Expr}
  (x : W γ A (eval o env) (fun ov => W γ A (getMethod ov name (do return (← importBound o env).getD true)) (fun fs => V γ A (callWith pos fs.1 fs.2 (backTo pos (starEach args env)) (backToKw pos (keywordEach kws env))) Q)) h t)
  (hb : attributeBase o name env (eval o env) = eval o env := by with_unfolding_all rfl)
  (hf : methodCallForm (args.length + kws.length) (backTo pos (starEach args env)) (backToKw pos (keywordEach kws env)) = true := by with_unfolding_all rfl)
  (hp : methodCallPos true o env apos pos = pure pos := by with_unfolding_all rfl) : V γ A (eval (.Call (.Attribute o name apos) args kws pos) env) Q h t := by
 rw [arm_eval_Call, hb]
 refine v_bindw (x.mono fun ov h₁ t₁ y => v_standAt ?_)
 unfold methodCall
 refine hf.symm ▸ ?_
 refine v_bindw (w_holding (y.mono fun fs h₂ t₂ z => ?_))
 obtain ⟨f, first⟩ := fs
 rw [hp]
 exact v_bindw (w_pure z)
end
end
end
theorem v_call_entry {γ : G} {A : Around} {h : Heap} {t : Nat} {T : String} {name : Str} {id : String} {b : Builtin} {self : Value} {rest : List Value} {Q : Value → Heap → Nat → Prop} (slot : Slot T name id) (hT : (mkS γ h t).TypeIs self T)
  (hb : entryFor table id = some b) (ha : argsOk id ⟨self :: rest, []⟩) (hc : Calm1 (.builtin id ⟨self :: rest, []⟩) = true)
  (x : V γ A.in1 (b ⟨self :: rest, []⟩) (fun fin h t => ∃ v, fin = .done (.ret v) ∧ Q v h t) h t) : V γ A (call (.builtin id) (self :: rest)) Q h t := by
 refine v_call (vk_tree rfl ?_)
 show V γ A.in1 (do checkBuiltinCall id ⟨self :: rest, []⟩; again (.builtin id ⟨self :: rest, []⟩)) _ h t
 refine v_bind (.of_any (slot.check _ _ _ _ _ _ _ _ hT ha ⟨h, t, rfl, ?_⟩))
 refine v_pure ⟨plainId_quiet slot.plain _, vk_tree hc ?_⟩
 show V γ _ (match entryFor table id with | some b => b ⟨self :: rest, []⟩ | none => unsupported ((withoutEnding? id "#data").getD id)) _ h t
 rw [hb, Around.under_plainId slot.plain]
 exact x.mono fun fin h t ⟨v, e, q⟩ => by subst e; exact ⟨v, rfl, q⟩
theorem v_exported {γ : G} {A : Around} {h : Heap} {t : Nat} {self : Value} {Q : Bool → Heap → Nat → Prop} (q : Q false h t) : V γ A (Builtin.Bytes.exported self) Q h t := by
 refine ⟨fun Γ p hi hc => ?_⟩
 show ∃ h' t', mkS γ h t = mkS γ h' t' ∧ Q (((Γ.code, p) :: Γ.below).any _) h' t'
 have key : ∀ r : Bool, r = false → Q r h t := fun r e => e ▸ q
 refine ⟨h, t, rfl, key _ (List.any_eq_false.mpr fun x hx => ?_)⟩
 have q : Calm1 x.1 = true := by
  rcases List.mem_cons.mp hx with rfl | hx
  ·exact hc.1
  ·exact hc.2 x hx
 obtain ⟨c, p⟩ := x
 cases c with
 | builtin id a =>
  refine ba6 (show (_ && _ && _ && _ && _ && _) = true from q) fun h1 h2 h3 h4 h5 h6 => ?_
  unfold Builtin.Bytes.exported.match_1
  refine Bool.eq_false_iff.mp ?_
  show dite (id = "bytearray.__contains__") _ _ = false
  rw [dif_neg (bne_iff_ne.mp h1), dif_neg (bne_iff_ne.mp h2), dif_neg (bne_iff_ne.mp h3), dif_neg (bne_iff_ne.mp h4), dif_neg (bne_iff_ne.mp h5)]
  obtain ⟨pos, kw⟩ := a
  cases pos with
  | nil => rfl
  | cons v r =>
   show (Builtin.Bytes.sameRef v self && Builtin.Bytes.decodersThatHold.contains id) = false
   rw [show Builtin.Bytes.decodersThatHold.contains id = false from Bool.not_eq_true' _ ▸ h6, Bool.and_false]
 | _ => exact Bool.false_ne_true
noncomputable def BaO (bs : List Int) (o : Obj) : Prop := ∃ b : Array UInt8, bInts b = bs ∧ o = { cls := .type "bytearray", dict := none, data := .bytearray b 0, slots := #[] }
theorem v_checkResize {γ : G} {A : Around} {h : Heap} {t : Nat} {a : Addr} {bs : List Int} {o : Obj} {Q : Unit → Heap → Nat → Prop} (ho : h.get? a = some o) (hb : BaO bs o) (q : Q () h t) : V γ A (Builtin.Bytes.checkResize (.ref a)) Q h t := by
 obtain ⟨b, _, rfl⟩ := hb
 unfold Builtin.Bytes.checkResize
 refine v_bind (Q := Q) (v_bind (v_exported ?_))
 refine .of_any ?_
 show wpAny _ _ (Builtin.Bytes.exportsOf (.ref a) >>= fun n => pure (decide (n > 0))) _ _ _
 refine wpAny_bind (wpAny_bind (wpAny_load ho (wpAny_pure ?_)))
 refine wpAny_pure ⟨h, t, rfl, ?_⟩
 exact v_pure q
section
theorem slot_ba_extend : Slot "bytearray" "extend" "bytearray.extend" :=
 .of (owner := "bytearray") (n := "extend") (by rw [typeLookup_type, builtinLookup_eq_fast]; kernel_rfl) (by decide +kernel) (by decide +kernel) (by decide +kernel)
  (by first | exact .inl (by decide +kernel) | exact .inr (by decide +kernel)) (by rw [isSubtype_type]; kernel_rfl)
theorem slot_ba_append : Slot "bytearray" "append" "bytearray.append" :=
 .of (owner := "bytearray") (n := "append") (by rw [typeLookup_type, builtinLookup_eq_fast]; kernel_rfl) (by decide +kernel) (by decide +kernel) (by decide +kernel)
  (by first | exact .inl (by decide +kernel) | exact .inr (by decide +kernel)) (by rw [isSubtype_type]; kernel_rfl)
theorem slot_ba_len : Slot "bytearray" "__len__" "bytearray.__len__" :=
 .of (owner := "bytearray") (n := "__len__") (by rw [typeLookup_type, builtinLookup_eq_fast]; kernel_rfl) (by decide +kernel) (by decide +kernel) (by decide +kernel)
  (by first | exact .inl (by decide +kernel) | exact .inr (by decide +kernel)) (by rw [isSubtype_type]; kernel_rfl)
theorem type_ba_extend : typeOf (.builtin "bytearray.extend") = pure (.type "method_descriptor") := by show builtinType _ = _; rw [builtinType_eq_fast]; kernel_rfl
theorem type_ba_append : typeOf (.builtin "bytearray.append") = pure (.type "method_descriptor") := by show builtinType _ = _; rw [builtinType_eq_fast]; kernel_rfl
theorem entry_ba_extend : entryFor table "bytearray.extend" = some Builtin.«bytearray.extend» := entryFor_of_tree (by kernel_rfl)
theorem entry_ba_append : entryFor table "bytearray.append" = some Builtin.«bytearray.append» := entryFor_of_tree (by kernel_rfl)
theorem entry_ba_len : entryFor table "bytearray.__len__" = some Builtin.«bytearray.__len__» := entryFor_of_tree (by kernel_rfl)
theorem args_ba_extend (a b : Value) : argsOk "bytearray.extend" ⟨[a, b], []⟩ := by unfold argsOk; kernel_rfl
theorem args_ba_append (a b : Value) : argsOk "bytearray.append" ⟨[a, b], []⟩ := by unfold argsOk; kernel_rfl
theorem args_ba_len (a : Value) : argsOk "bytearray.__len__" ⟨[a], []⟩ := by unfold argsOk; kernel_rfl
theorem plain_ba : PlainAttrs "bytearray" :=
 ⟨⟨"bytearray.__getattribute__", by rw [typeLookup_type, builtinLookup_eq_fast]; kernel_rfl, by decide +kernel⟩, by rw [typeLookup_type, builtinLookup_eq_fast]; kernel_rfl⟩
theorem buf_bytes : typeLookup (.type "bytes") (ofString "__buffer__") = pure (some (.builtin "bytes.__buffer__")) := by rw [typeLookup_type, builtinLookup_eq_fast]; kernel_rfl
theorem rel_bytes : typeLookup (.type "bytes") (ofString "__release_buffer__") = pure none := by rw [typeLookup_type, builtinLookup_eq_fast]; kernel_rfl
theorem sub_bytes : isSubtype (.type "bytes") (.type "bytes") = pure true := by rw [isSubtype_type]; kernel_rfl
theorem BaO.type {bs : List Int} {o : Obj} {γ : G} {h : Heap} {t : Nat} {a : Addr} (hb : BaO bs o) (ho : h.get? a = some o) : (mkS γ h t).TypeIs (.ref a) "bytearray" := by
 obtain ⟨b, _, rfl⟩ := hb; exact ⟨_, ho, rfl⟩
section
variable {h : Heap} {t : Nat} {gl cl : List (Str × Value)} {env : Env} {γ : G} {A : Around} {K : Frag} {D : Dm} {news rest : List (Addr × Obj)} {vars : List (Str × Option Value)} {a : Addr} {bs : List Int} {o : Obj}
theorem w_getm_ba {name : Str} {id : String} {pl : Sem Bool} {Q : Value × List Value → Heap → Nat → Prop} (slot : Slot "bytearray" name id) (hty : typeOf (.builtin id) = pure (.type "method_descriptor")) (ho : h.get? a = some o) (hb : BaO bs o)
  (q : Q (.builtin id, [.ref a]) h t) : W γ A (getMethod (.ref a) name pl) Q h t :=
 ⟨getMethod_builtin (s := mkS γ h t) (hb.type ho) plain_ba slot hty (fun a' e => by cases e; refine ek1_2 hb fun b ξ z1 => ?_; clear hb; obtain rfl := z1; exact ⟨_, ho, rfl⟩) ⟨h, t, rfl, q⟩⟩
theorem w_payload {Q : Array UInt8 → Heap → Nat → Prop} (ho : h.get? a = some o) (hb : BaO bs o) (q : ∀ b, bInts b = bs → Q b h t) : W γ A (Builtin.Bytes.payload (.ref a)) Q h t := by
 obtain ⟨b, e, rfl⟩ := hb
 refine ⟨?_⟩
 show wpAny _ _ (Builtin.Bytes.payload? (.ref a) >>= _) _ _ _
 exact wpAny_bind (wpAny_bind (wpAny_load ho (wpAny_pure (wpAny_pure ⟨h, t, rfl, q b e⟩))))
theorem bInts_append (b c : Array UInt8) : bInts (b ++ c) = bInts b ++ bInts c := by simp [bInts, KBw.bInts]
theorem bInts_length (b : Array UInt8) : (bInts b).length = b.size := by simp [bInts, KBw.bInts]
theorem w_write {f : Array UInt8 → Array UInt8} {bs' : List Int} {Q : Unit → Heap → Nat → Prop} (S : Sc K D ((a, o) :: rest) h) (hb : BaO bs o) (hf : ∀ b, bInts b = bs → bInts (f b) = bs') (hl : bs'.length ≤ sizeLine)
  (k : ∀ o' h', BaO bs' o' → Sc K D ((a, o') :: rest) h' → Q () h' t) : W γ A (Builtin.Bytes.write (.ref a) f) Q h t := by
 obtain ⟨b, e, rfl⟩ := hb
 refine ⟨?_⟩
 show wpAny _ _ (updateBytearray a f) _ _ (mkS γ h t)
 unfold updateBytearray
 refine wpAny_bind (wpAny_load S.head ?_)
 refine wpAny_bind (wpAny_update S.head ?_)
 have hs := Heap.get?_update_self (Obj.mapBytearray f) S.head rfl
 refine wpAny_lookBehind hs ?_ ⟨_, t, rfl, k _ _ ⟨f b, hf b e, rfl⟩ (S.upd (fun c x hc q => (Heap.get?_update_ne _ _ _ _ hc).trans q) hs)⟩
 have := hf b e
 have l2 := bInts_length (f b)
 rw [this] at l2
 show (if (f b).size > sizeLine then _ else _) = none
 rw [if_neg (by kcf_m)]
theorem ends_buf : ("bytes.__buffer__".endsWith ("." ++ "__buffer__")) = true := by decide +kernel
theorem drop_buf : "bytes.__buffer__".dropRight ("__buffer__".length + 1) = "bytes" := by decide +kernel
theorem own_buf {b : Array UInt8} {u : Tok} {Q : Bool → Heap → Nat → Prop} (q : Q true h t) : W γ A (Builtin.Bytes.slotIsOwn (.bytes b u) "__buffer__") Q h t := by
 have hT : (mkS γ h t).TypeIs (.bytes b u) "bytes" := rfl
 refine ⟨?_⟩
 unfold Builtin.Bytes.slotIsOwn
 refine wpAny_bind (wpAny_specialOf hT buf_bytes ?_)
 dsimp only
 refine ends_buf.symm ▸ ?_; refine drop_buf.symm ▸ ?_
 exact wpAny_isInstance hT sub_bytes ⟨h, t, rfl, q⟩
theorem own_rel {b : Array UInt8} {u : Tok} {Q : Bool → Heap → Nat → Prop} (q : Q false h t) : W γ A (Builtin.Bytes.ownRelease (.bytes b u)) Q h t := by
 have hT : (mkS γ h t).TypeIs (.bytes b u) "bytes" := rfl
 refine ⟨?_⟩
 unfold Builtin.Bytes.ownRelease Builtin.Bytes.slotIsOwn
 exact wpAny_bind (wpAny_bind (wpAny_specialOf hT rel_bytes (wpAny_pure (wpAny_pure ⟨h, t, rfl, q⟩))))
theorem buf_ask {b : Array UInt8} {u : Tok} {full : Bool} {Q : Option (Array UInt8) → Heap → Nat → Prop} {id : String} (q : Q (some b) h t) : W γ A (Builtin.Bytes.buffer? id (.bytes b u) full) Q h t := by
 have hT : (mkS γ h t).TypeIs (.bytes b u) "bytes" := rfl
 refine ⟨?_⟩
 unfold Builtin.Bytes.buffer?
 refine wpAny_bind (wpAny_specialOf hT buf_bytes ?_)
 try dsimp only
 refine wpAny_bind (W.use (own_buf ?_) fun ξ ξ ξ y => y)
 refine wpAny_ifn (by decide : ¬ (!true) = true) ?_
 refine wpAny_bind (wpAny_specialOf hT buf_bytes ?_)
 try dsimp only
 refine wpAny_bind (W.use (own_rel ?_) fun ξ ξ ξ y => y)
 refine wpAny_ifn Bool.false_ne_true ?_
 exact wpAny_bind (m := Builtin.Bytes.payload (.bytes b u)) (wpAny_bind (m := Builtin.Bytes.payload? (.bytes b u)) (wpAny_pure (wpAny_pure (wpAny_pure ⟨_, _, rfl, q⟩))))
theorem takebuf_ask {b : Array UInt8} {u : Tok} {Q : Option (Array UInt8 × Option Value) → Heap → Nat → Prop} {id : String} {n : Int} (q : Q (some (b, none)) h t) : W γ A (Builtin.Bytes.takeBufferQuiet? id (.bytes b u) n) Q h t := by
 have hT : (mkS γ h t).TypeIs (.bytes b u) "bytes" := rfl
 refine ⟨?_⟩
 unfold Builtin.Bytes.takeBufferQuiet? Builtin.Bytes.takeBuffer?
 refine wpAny_bind (wpAny_attempt ?_)
 refine wpAny_bind (wpAny_specialOf hT buf_bytes ?_)
 try dsimp only
 refine wpAny_bind (W.use (own_buf ?_) fun ξ ξ ξ y => y)
 refine wpAny_ifn (by decide : ¬ (!true) = true) ?_
 refine wpAny_bind (wpAny_specialOf hT buf_bytes ?_)
 try dsimp only
 refine wpAny_bind (W.use (buf_ask (b := b) (u := u) ?_) fun ξ ξ ξ y => y)
 exact wpAny_pure (wpAny_pure ⟨_, _, rfl, q⟩)
theorem asIndex_int {i : Int} {u : Tok} {Q : Int → Heap → Nat → Prop} (q : Q i h t) : W γ A (asIndex (.int i u)) Q h t := ⟨wpAny_bind (m := asInt? (.int i u)) (wpAny_pure (wpAny_pure ⟨h, t, rfl, q⟩))⟩
theorem w_byteValue {i : Int} {u : Tok} {Q : UInt8 → Heap → Nat → Prop} (h0 : 0 ≤ i) (h1 : i < 256) (q : Q i.toNat.toUInt8 h t) : W γ A (Builtin.Bytes.byteValue (.int i u)) Q h t := by
 unfold Builtin.Bytes.byteValue
 refine w_bind (asIndex_int ?_)
 rw [if_neg (by simp; exact ⟨h0, h1⟩)]
 exact w_pure q
theorem v_extend {b : Array UInt8} {u : Tok} {rest : List (Addr × Obj)} {Q : Value → Heap → Nat → Prop} (S : Sc K D ((a, o) :: rest) h) (hb : BaO bs o) (hl : bs.length + (bInts b).length ≤ sizeLine)
  (k : ∀ o' h', BaO (bs ++ bInts b) o' → Sc K D ((a, o') :: rest) h' → Q .none h' t) : V γ A (call (.builtin "bytearray.extend") [.ref a, .bytes b u]) Q h t := by
 have hT : (mkS γ h t).TypeIs (.bytes b u) "bytes" := rfl
 refine v_call_entry slot_ba_extend (hb.type S.head) entry_ba_extend (args_ba_extend _ _) (by kernel_rfl) ?_
 unfold Builtin.«bytearray.extend»
 refine v_bindw (m := selfAndOne "bytearray.extend" _) (w_pure ?_)
 refine v_bindw (m := specialOf (.bytes b u) "__buffer__") ⟨wpAny_specialOf hT buf_bytes ⟨h, t, rfl, ?_⟩⟩
 refine v_ifp (by decide) ?_
 refine v_bindw (w_rule ?_)
 refine v_bindw (w_payload S.head hb fun ξ ξ => ?_)
 refine v_bindw (takebuf_ask ?_)
 refine v_ifp (by decide) ?_
 show V γ A.in1 (do
  if !b.isEmpty then Builtin.Bytes.checkResize (.ref a)
  Builtin.Bytes.write (.ref a) (· ++ b)
  ret .none) _ h t
 have fin : V γ A.in1 (do Builtin.Bytes.write (.ref a) (· ++ b); ret .none) (fun fin h t => ∃ v, fin = .done (.ret v) ∧ Q v h t) h t :=
  v_bindw (w_write S hb (fun c e => by rw [bInts_append, e]) (by simpa using hl) fun o' h' hb' S' => v_pure ⟨_, rfl, k o' h' hb' S'⟩)
 split
 ·exact v_bind (v_checkResize S.head hb fin)
 ·exact fin
theorem v_append {i : Int} {u : Tok} {rest : List (Addr × Obj)} {Q : Value → Heap → Nat → Prop} (S : Sc K D ((a, o) :: rest) h) (hb : BaO bs o) (h0 : 0 ≤ i) (h1 : i < 256) (hl : bs.length + 1 ≤ sizeLine)
  (k : ∀ o' h', BaO (bs ++ [i]) o' → Sc K D ((a, o') :: rest) h' → Q .none h' t) : V γ A (call (.builtin "bytearray.append") [.ref a, .int i u]) Q h t := by
 refine v_call_entry slot_ba_append (hb.type S.head) entry_ba_append (args_ba_append _ _) (by kernel_rfl) ?_
 unfold Builtin.«bytearray.append»
 refine v_bindw (m := selfAndOne "bytearray.append" _) (w_pure ?_)
 refine v_bindw (w_byteValue h0 h1 ?_)
 refine v_bind (v_checkResize S.head hb ?_)
 refine v_bindw (w_write (bs' := bs ++ [i]) S hb (fun c e => ?_) (by simpa using hl) fun o' h' hb' S' => v_pure ⟨_, rfl, k o' h' hb' S'⟩)
 have : ((i.toNat.toUInt8.toNat : Nat) : Int) = i := by
  show (((UInt8.ofNat i.toNat).toNat : Nat) : Int) = i
  rw [UInt8.toNat_ofNat']; kcf_m
 rw [← e]
 simp [bInts, KBw.bInts] at this ⊢
 exact this
end
end
section
theorem mro_ba : mroOf (.type "bytearray") = pure [.type "bytearray", .type "object"] := by rw [mroOf_type]; kernel_rfl
theorem new_ba : typeLookup (.type "bytearray") "__new__" = pure (some (.builtin "bytearray.__new__")) := by rw [typeLookup_type, builtinLookup_eq_fast]; kernel_rfl
theorem slot_ba_init : Slot "bytearray" "__init__" "bytearray.__init__" :=
 .of (owner := "bytearray") (n := "__init__") (by rw [typeLookup_type, builtinLookup_eq_fast]; kernel_rfl) (by decide +kernel) (by decide +kernel) (by decide +kernel)
  (by first | exact .inl (by decide +kernel) | exact .inr (by decide +kernel)) (by rw [isSubtype_type]; kernel_rfl)
theorem called_ba : TypeCalled "bytearray" "bytearray.__new__" "bytearray.__init__" :=
 ⟨by decide +kernel, by decide +kernel, ⟨_, _, mro_ba⟩, madeBy_type mro_ba new_ba (by decide +kernel), by decide +kernel, by rw [isSubtype_type]; kernel_rfl, slot_ba_init⟩
theorem typeCall_ba : checkTypeCall "bytearray" ⟨[], []⟩ = pure () := by kernel_rfl
theorem newCall_ba : checkBuiltinCall "bytearray.__new__" ⟨[.type "bytearray"], []⟩ = pure () := by kernel_rfl
theorem entry_ba_new : entryFor table "bytearray.__new__" = some Builtin.«list.__new__» := entryFor_alias (id' := "list.__new__") ((fastTable_eq_tree _).trans (by kernel_rfl)) (by decide +kernel) (by decide +kernel) ((fastTable_eq_tree _).trans (by kernel_rfl))
theorem plain_ba_new : plainId "bytearray.__new__" = true := by decide +kernel
set_option maxRecDepth 1000000 in
set_option maxHeartbeats 4000000 in
theorem owner_ba_new : ("bytearray.__new__".splitOn ".__new__").headD "" = "bytearray" := by simp +decide [String.splitOn, String.splitOnAux]
theorem entry_ba_init : entryFor table "bytearray.__init__" = some Builtin.«bytearray.__init__» := entryFor_of_tree (by kernel_rfl)
theorem args_ba_init (a : Value) : argsOk "bytearray.__init__" ⟨[a], []⟩ := by unfold argsOk; kernel_rfl
theorem rel_ba : typeLookup (.type "bytearray") (ofString "__release_buffer__") = pure (some (.builtin "bytearray.__release_buffer__")) := by rw [typeLookup_type, builtinLookup_eq_fast]; kernel_rfl
theorem ends_rel : ("bytearray.__release_buffer__".endsWith ("." ++ "__release_buffer__")) = true := by decide +kernel
theorem drop_rel : "bytearray.__release_buffer__".dropRight ("__release_buffer__".length + 1) = "bytearray" := by decide +kernel
section
variable {A : Around} {prog : Program} {w : World} {E : Value → Shared → Prop} {s : Shared}
theorem code_ba_new {Q₁ : Value → Shared → Prop} (q : Q₁ (.ref s.heap.objs.size) { s with heap := s.heap.push { cls := .type "bytearray", data := .bytearray #[] } }) :
  codeAny (model prog w) A (.call (.builtin "bytearray.__new__") ⟨[.type "bytearray"], []⟩) (wants Q₁ E) s := by
 refine codeAny_of_tree ?_
 show wpAny _ A.in1 (do checkBuiltinCall "bytearray.__new__" ⟨[.type "bytearray"], []⟩; again (.builtin "bytearray.__new__" ⟨[.type "bytearray"], []⟩)) _ _ s
 refine wpAny_bind (wpAny_of_eq newCall_ba (wpAny_pure ⟨plainId_quiet plain_ba_new _, codeAny_builtin_stack entry_ba_new rfl fun p st => ?_⟩))
 refine (Around.under_plainId plain_ba_new _).symm ▸ ?_
 have hsub := called_ba.sub
 have hown := owner_ba_new
 obtain ⟨hp, g, d, tk, os⟩ := s
 dsimp only
 rw [hown]
 wp_walk
 exact q
end
section
variable {h : Heap} {t : Nat} {γ : G} {A : Around} {K : Frag} {D : Dm} {news : List (Addr × Obj)} {R : Flow → Heap → Nat → Prop}
theorem vk_builtin {id : String} {args : Args} {b : Builtin} (hb : entryFor table id = some b) (hc : Calm1 (.builtin id args) = true)
  (x : V γ (A.under (.builtin id args)) (b args) (FinV γ A R) h t) : VK γ A (.builtin id args) R h t := by
 refine vk_tree hc ?_
 show V γ _ (match entryFor table id with | some b => b args | none => unsupported ((withoutEnding? id "#data").getD id)) _ h t
 rw [hb]; exact x
theorem v_callSpecial {T : String} {name : Str} {id : String} {self : Value} {args : List Value} {Q : Option Value → Heap → Nat → Prop} (slot : Slot T name id) (hT : (mkS γ h t).TypeIs self T)
  (x : V γ A (call (.builtin id) (self :: args)) (fun v h t => Q (some v) h t) h t) : V γ A (callSpecial? self name args) Q h t := by
 unfold callSpecial?
 refine v_bindw ⟨wpAny_specialOf hT slot.lookup ⟨h, t, rfl, ?_⟩⟩
 dsimp only
 refine v_holding (v_bindw ⟨wpAny_of_eq (slot.bind self) ⟨h, t, rfl, ?_⟩⟩)
 exact v_bind (x.mono fun v h t q => v_pure q)
theorem own_rel_ba {a : Addr} {bs : List Int} {o : Obj} {Q : Bool → Heap → Nat → Prop} (ho : h.get? a = some o) (hb : BaO bs o) (q : Q false h t) : W γ A (Builtin.Bytes.ownRelease (.ref a)) Q h t := by
 have hT := hb.type (γ := γ) (t := t) ho
 refine ⟨?_⟩
 unfold Builtin.Bytes.ownRelease Builtin.Bytes.slotIsOwn
 refine wpAny_bind (wpAny_bind (wpAny_specialOf hT rel_ba ?_))
 dsimp only
 refine ends_rel.symm ▸ ?_; refine drop_rel.symm ▸ ?_
 exact wpAny_isInstance hT called_ba.sub (wpAny_pure ⟨h, t, rfl, q⟩)
theorem bind_none : Builtin.Bytes.bindOptional "bytearray.__init__" "bytearray" ["source", "encoding", "errors"] [] [] = pure [none, none, none] := by kernel_rfl
theorem v_ba_init {a : Addr} {o : Obj} {Q : PySem.Fin → Heap → Nat → Prop} (S : Sc K D ((a, o) :: news) h) (hb : BaO [] o) (q : ∀ o' h', BaO [] o' → Sc K D ((a, o') :: news) h' → Q (.done (.ret .none)) h' t) : V γ A (Builtin.«bytearray.__init__» ⟨[.ref a], []⟩) Q h t := by
 unfold Builtin.«bytearray.__init__»
 refine v_bindw (own_rel_ba S.head hb ?_)
 refine v_ifn Bool.false_ne_true ?_
 refine v_bindw (m := Builtin.Bytes.bindOptional _ _ _ _ _) ⟨wpAny_of_eq bind_none ⟨_, t, rfl, ?_⟩⟩
 refine v_bindw (m := Builtin.Bytes.checkCodecArg _ _ _ _) (w_pure (a := ()) ?_)
 refine v_bindw (m := Builtin.Bytes.checkCodecArg _ _ _ _) (w_pure (a := ()) ?_)
 refine v_bind (v_bind (v_exported ?_))
 refine .of_any ?_
 show wpAny _ _ (Builtin.Bytes.exportsOf (.ref a) >>= fun n => pure (decide (n > 0))) _ _ _
 refine ek1_2 hb fun b ξ z1 => ?_; obtain rfl := z1
 refine wpAny_bind (wpAny_bind (wpAny_load S.head (wpAny_pure ?_)))
 refine wpAny_pure ⟨_, t, rfl, ?_⟩
 refine v_ifn (by decide) ?_
 refine v_bindw (w_write (bs' := []) S ⟨b, by assumption, rfl⟩ (fun c e => rfl) (by decide) fun o' h' hb' S' => ?_)
 exact v_pure (q o' h' hb' S')
theorem v_new_ba {Q : Value → Heap → Nat → Prop} (S : Sc K D news h) (k : ∀ a o h', BaO [] o → Sc K D ((a, o) :: news) h' → Q (.ref a) h' t) : V γ A (call (.type "bytearray") []) Q h t := by
 refine v_call (vk_tree rfl ?_)
 show V γ A.in1 (callAny (.type "bytearray") ⟨[], []⟩) _ h t
 refine v_pure (a := Fin.again (.builtin "type.__call__" ⟨[.type "bytearray"], []⟩)) ⟨Code.quiet_builtin _ (by decide +kernel), vk_builtin F.entry_type_call (by kernel_rfl) ?_⟩
 unfold Builtin.«type.__call__»
 dsimp only
 refine v_ifn (by decide) ?_; refine v_ifn (by rw [called_ba.canCreate]; exact Bool.false_ne_true) ?_
 refine v_bindw ⟨wpAny_of_eq typeCall_ba ⟨h, t, rfl, ?_⟩⟩
 refine v_bindw ⟨wpAny_of_eq mro_ba ⟨h, t, rfl, ?_⟩⟩
 refine v_ifn (by decide) ?_
 refine v_bindw ⟨wpAny_of_eq called_ba.made ⟨h, t, rfl, ?_⟩⟩
 dsimp only
 refine v_bindw (w_pure ?_)
 refine v_bindw (w_holding ⟨wpAny_call (codeAny_mono (code_ba_new (E := fun ξ ξ => False) (Q₁ := fun v s' => v = .ref h.objs.size ∧ s' = mkS γ (h.push { cls := .type "bytearray", data := .bytearray #[] }) t) ⟨rfl, rfl⟩) fun r s' y => ?_)⟩)
 rcases r with e | (_ | _ | _ | v) <;> first | exact y.elim | skip
 refine ek0_2 y fun z1 z2 => ?_; clear y; obtain rfl := z1; obtain rfl := z2
 have S1 := S.push { cls := .type "bytearray", data := .bytearray #[] }
 have hb : BaO [] { cls := .type "bytearray", data := .bytearray #[] } := ⟨#[], rfl, rfl⟩
 refine ⟨_, t, rfl, ?_⟩
 have hT := hb.type (γ := γ) (t := t) S1.head
 refine v_bindw ⟨wpAny_isInstance hT called_ba.sub ⟨_, t, rfl, ?_⟩⟩
 refine v_ifn (by decide) ?_
 refine v_bind (v_holding (v_callSpecial slot_ba_init hT (v_call_entry slot_ba_init hT entry_ba_init (args_ba_init _) (by kernel_rfl) ?_)))
 exact v_ba_init S1 hb fun o' h' hb' S' => ⟨_, rfl, v_pure ⟨_, rfl, k _ _ _ hb' S'⟩⟩
end
end
section
section
variable {h : Heap} {t : Nat} {γ : G} {A : Around} {K : Frag} {D : Dm} {news : List (Addr × Obj)} {C fI : Addr}
theorem v_ndload {α : Type} {a : Addr} {p : Option Value} {k : Obj → Sem α} {o : Obj} {Q : α → Heap → Nat → Prop} (ho : h.get? a = some o) (x : V γ A (k o) Q h t) : V γ A (.load a p k) Q h t :=
 ⟨fun Γ q hi hc => ⟨o, ho, x.out Γ q hi hc⟩⟩
theorem v_looks {α β : Type} {m : Sem α} {f : α → Sem β} {v : α} {Q : β → Heap → Nat → Prop} (L : Looks (MM γ) h m v) (x : V γ A (f v) Q h t) : V γ A (m >>= f) Q h t := v_bindw ⟨L.here ⟨h, t, rfl, x⟩⟩
theorem v_make {rest : List Value} {kw : List (Str × Value)} {init : Value} {R : Value → Heap → Nat → Prop} (Y : Makes (MM γ) h C) (hi : Looks (MM γ) h (typeLookup (.ref C) "__init__") (some init))
  (hb : ∀ self, Looks (MM γ) h (bindSpecial init self) (init, [self])) (hne : (some init != some (Value.builtin "object.__init__")) = true)
  (hq : VC γ (A.under (.builtin "type.__call__" ⟨.ref C :: rest, kw⟩)) (.call init ⟨.ref (h.objs.size + 1) :: rest, kw⟩) (fun v h' t' => v = .none ∧ R (.ref (h.objs.size + 1)) h' t') ((h.push emptyDict).push (instObj C h.objs.size)) t) :
  VC γ A (.call (.ref C) ⟨rest, kw⟩) R h t := by
 have Y' := Y
 obtain ⟨⟨oc, od, cd, sl, hC, e1, e2, e4⟩, made, base, self, top, call, typ⟩ := Y
 refine vk_tree rfl ?_
 show V γ A.in1 (callAny (.ref C) ⟨rest, kw⟩) _ h t
 refine v_ndload hC ?_
 show V γ A.in1 (callAny.viaDunder (.ref C) _) _ _ _
 unfold callAny.viaDunder
 refine v_looks call ?_
 dsimp only
 refine (tc_bind ..).symm ▸ ?_
 refine v_bindw (w_pure (v_bindw (w_pure ?_)))
 refine v_pure (a := Fin.again (.call (.builtin "type.__call__") ⟨.ref C :: rest, kw⟩)) ⟨rfl, ?_⟩
 refine vk_tree rfl ?_
 show V γ A.in1 (do checkBuiltinCall "type.__call__" ⟨.ref C :: rest, kw⟩; again (.builtin "type.__call__" ⟨.ref C :: rest, kw⟩)) _ h t
 refine v_bindw ⟨check_slot tc_kind tc_split typ (tc_args _ _ _) ⟨h, t, rfl, ?_⟩⟩
 refine v_pure ⟨Code.quiet_builtin _ (by decide +kernel), vk_builtin entry_typeCall (by kernel_rfl) ?_⟩
 unfold Builtin.«type.__call__»
 have hm : Looks (MM γ) h (mroOf (.ref C)) cd.mro := ((Looks.ld (part := none) hC).andThen .now).andThen .now
 dsimp only
 refine v_ifn (show ¬ (Value.ref C == Value.type "type") = true from Bool.false_ne_true) ?_
 refine v_looks hm ?_
 refine v_ifn (by rw [e4]; exact Bool.false_ne_true) ?_
 refine v_looks made ?_
 dsimp only
 refine v_bindw (w_pure ?_)
 refine v_bindw (w_holding ⟨wpAny_call (new_K Y' hi (.inl hne) ?_)⟩)
 refine ⟨_, t, rfl, ?_⟩
 have k : ∀ b o, h.get? b = some o → ((h.push emptyDict).push (instObj C h.objs.size)).get? b = some o := fun b o e => Heap.get?_push_of_some _ (Heap.get?_push_of_some _ e)
 have hx : ((h.push emptyDict).push (instObj C h.objs.size)).get? (h.objs.size + 1) = some (instObj C h.objs.size) := by
  have := Heap.get?_push_size (h.push emptyDict) (o := instObj C h.objs.size) rfl
  rwa [Heap.size_push] at this
 have t1 : Looks (MM γ) ((h.push emptyDict).push (instObj C h.objs.size)) (typeOf (.ref (h.objs.size + 1))) (.ref C) := (Looks.ld hx).andThen .now
 have s1 := self.keeps k
 have i1 := hi.keeps k
 have b1 := (hb (.ref (h.objs.size + 1))).keeps k
 refine v_bindw (m := isInstance _ _) ⟨wpAny_bind (t1.here (s1.here ⟨_, t, rfl, ?_⟩))⟩
 refine v_ifn (by decide) ?_
 refine v_bind (v_holding ?_)
 unfold callSpecial? specialOf
 refine v_bindw ⟨wpAny_bind (t1.here (i1.here ⟨_, t, rfl, ?_⟩))⟩
 dsimp only
 refine v_holding (v_looks b1 ?_)
 refine v_bind (v_call (hq.mono fun v h' t' y => v_pure ?_))
 refine ek0_2 y ?_; clear y; intro z1 y; obtain rfl := z1
 dsimp only
 exact v_pure ⟨_, rfl, y⟩
theorem v_new {pos : List Value} {kw : List (Str × Value)} {R : Value → Heap → Nat → Prop} (S : Sc K D news h) (e : newIn K C fI = true)
  (k : ∀ x dx h' od, D x = none → Sc K (D.put x (instObj C dx)) ((dx, od) :: news) h' → TabO [] od → (D.put x (instObj C dx)) x = some (instObj C dx) → Le D (D.put x (instObj C dx)) →
   VC γ (A.under (.builtin "type.__call__" ⟨.ref C :: pos, kw⟩)) (.call (.ref fI) ⟨.ref x :: pos, kw⟩) (fun v h t => v = .none ∧ R (.ref x) h t) h' t) :
  VC γ A (.call (.ref C) ⟨pos, kw⟩) R h t := by
 refine ba3 e fun e1 e2 e3 => ?_
 have S1 := S.push emptyDict
 have S2 := S1.push (instObj C h.objs.size)
 rw [Heap.size_push] at S2
 have hn : D (h.objs.size + 1) = none := S2.off _ (.head _)
 exact v_make (makes_of S.inK e1) (looks_findIn S.inK (eq_of_beq e2)) (fun self => bind_fn S.inK self (eq_of_beq e3)) rfl (k (h.objs.size + 1) h.objs.size _ emptyDict hn S2.freeze TabO.nil (Dm.put_at _ _ _) (Dm.put_le hn))
end
section
variable {A : Around} {prog : Program} {w : World} {E : Value → Shared → Prop} {s : Shared}
theorem call_tree {a : Addr} {args : Args} {o : Obj} {fd : FuncData} {body : List Stmt} {P : Env → Shared → Prop} (hroom : A.depth < recursionLimit) (ho : s.heap.get? a = some o)
  (hd : o.data = .func fd) (hco : fd.scope.isCoroutine = false) (hgen : fd.scope.isGenerator = false) (hbody : fd.body = .stmts body) (hcd : s.heap.CodeRec fd.code fd.qualname)
  (x : wpAny (model prog w) A.in1 (bindArgs fd args) (fun binds s₁ => wpAny (model prog w) A.in1 (newFunctionEnv fd.scope fd.globals fd.closure binds (fd.qualname ++ ".<locals>.") (some a) fd.code none fd.builtins)
    (fun env s₂ => s₂.heap.NoLimit ∧ P env s₂) E s₁) E s) :
  wpAny (model prog w) A.in1 (callAny (.ref a) args) (fun fin s' => ∃ env, fin = .again (.func body env) ∧ P env s') E s := by
 refine wpAny_bind (m := load a) (wpAny_load ho ?_)
 refine ek4_4 hcd fun c oc vs tq hc hoc hdc hq => ?_; clear hcd
 rw [hd]
 show wpAny _ _ (callFunction a fd args) _ _ _
 unfold callFunction
 rw [hco, hgen, hbody, hc]
 rw [hc] at x
 refine wpAny_bind (m := field (.ref c) 1) (wpAny_field hoc hdc hq (wpAny_bind (wpAny_pure ?_)))
 exact wpAny_bind (wpAny_mono x (fun binds s₁ y => wpAny_bind (wpAny_mono y (fun env s₂ z => wpAny_bind (wpAny_enterFrame z.1 hroom (wpAny_pure ⟨env, rfl, z.2⟩))) fun ξ ξ e => e)) fun ξ ξ e => e)
end
section
variable {h : Heap} {t : Nat} {γ : G} {A : Around} {K : Frag} {D : Dm} {news : List (Addr × Obj)} {f : Addr} {args : Args} {R : Value → Heap → Nat → Prop}
 {name qual : Str} {params : Arguments} {body : List Stmt} {scope : Scope} {dV kV doc pm cdv ct oc : Value} {an od : Option Addr} {osl : Array (Option Value)}
theorem v_func {env : Env} {R : Flow → Heap → Nat → Prop} (x : V γ (A.deeper env) (execs body env) (fun fl h t => R (.ret (retOf fl)) h t) h t) : VK γ A (.func body env) R h t := by
 refine vk_tree rfl ?_
 show V γ (A.deeper env) (do point; match ← (execs body env).onRaise (leaving env) with | .ret v => ret v | _ => ret .none) _ h t
 refine v_bindw (w_point (v_bind (v_onRaise (x.mono fun fl h t y => ?_))))
 cases fl <;> exact v_pure y
theorem fx_new (S : Sc K D news h) (binds : List (Str × Value)) (others : List Str) (gl : List (Str × Value)) (ok : entryOk scope (binds.map (·.1)) others (gl.map (·.1)) = true) (hg : GlobAll K gl) {h₁ : Heap}
  (hns : h₁.Ns h.objs.size (fun x => binds.reverse.lookup x)) (hk : ∀ b o, h.get? b = some o → h₁.get? b = some o) :
  Fx K D (callEnv (fnOf name qual params body scope dV kV doc pm an cdv ct) h.objs.size f) gl [] (mkV binds others) news h₁ := by
 exact entryOk_k ok fun o1 o2 o3 o4 o5 o6 o7 => Fx.fresh S rfl hk o1 rfl rfl o5 o6 o7 hg (fun p hp => nomatch hp) hns
theorem v_enter (S : Sc K D news h) (ho : K.lookup f = some ⟨oc, od, .func (fnOf name qual params body scope dV kV doc pm an cdv ct), osl⟩) (hcd : codeIn K cdv qual = true) (hroom : A.depth < recursionLimit)
  (binds : List (Str × Value)) (others : List Str) (gl : List (Str × Value)) (hb : BindsTo (mkS γ h t) (fnOf name qual params body scope dV kV doc pm an cdv ct) args binds)
  (ok : entryOk scope (binds.map (·.1)) others (gl.map (·.1)) = true) (hg : GlobAll K gl)
  (k : ∀ env h' t', Fx K D env gl [] (mkV binds others) news h' → V γ (A.deeper env) (execs body env) (fun fl => R (retOf fl)) h' t') :
  VC γ A (.call (.ref f) args) R h t := by
 have ok' := ok
 refine entryOk_k ok' fun o1 o2 o3 o4 o5 o6 o7 => ?_; clear ok'
 refine vk_tree rfl ?_
 show V γ A.in1 (callAny (.ref f) args) _ h t
 refine V.mono (Q := fun fin h' t' => ∃ env, fin = .again (.func body env) ∧ Fx K D env gl [] (mkV binds others) news h') (.of_any ?_) fun fin h' t' y => ?_
 ·refine wpAny_mono (call_tree (s := mkS γ h t) (fd := fnOf name qual params body scope dV kV doc pm an cdv ct) (P := fun env s' => ∃ h' t', s' = mkS γ h' t' ∧ Fx K D env gl [] (mkV binds others) news h')
   hroom (S.inK _ _ ho) rfl o2 o3 rfl (codeRec_of S.inK hcd) (hb _ _ _ _ (wpAny_newFunctionEnv (fun x hx q => o4 x hx q) (fun x hx => (o5 x.1 (List.mem_append_left _ (List.mem_map_of_mem hx))).1) (fun h₁ hns hsb => ?_) o1)))
   (fun fin s' y => ?_) fun ξ ξ e => e
  ·have hk : ∀ b o, h.get? b = some o → h₁.get? b = some o := fun b o e => hsb.extBut b o (Nat.ne_of_lt (Heap.lt_size e)) (Heap.get?_push_of_some _ e)
   exact ⟨(S.grow hk).nolimit, h₁, t + binds.length, rfl, fx_new S binds others gl ok hg hns hk⟩
  ·refine ek1_2 y fun env z1 z2 => ?_; clear y; obtain rfl := z1; refine ek2_2 z2 fun h' t' z3 F => ?_; clear z2; obtain rfl := z3
   exact ⟨h', t', rfl, env, rfl, F⟩
 ·obtain ⟨env, rfl, F⟩ := y
  exact ⟨rfl, v_func ((k env h' t' F).mono fun fl h t q => ⟨_, rfl, q⟩)⟩
end
end
section
section
variable {h h' : Heap} {t : Nat} {gl cl : List (Str × Value)} {env : Env} {γ : G} {A : Around} {K : Frag} {D D' : Dm} {own news news' : List (Addr × Obj)} {vars vars' : List (Str × Option Value)}
theorem v_forLoop {tgt : Expr} {it : Value} {body : List Stmt} {R : Flow → Heap → Nat → Prop} (Inv : Nat → Heap → Nat → Prop)
  (turn : ∀ n h t, Inv n h t → W γ A (pyNext it) (fun r h t => (r = none ∧ R .next h t) ∨ ∃ v, r = some v ∧ W γ A (letOwnedTupleGo tgt it v) (fun ξ h t => W γ A (assign tgt env v) (fun ξ h t =>
   V γ A (execs body env) (fun f h t => (f = .next ∧ ∃ m, m < n ∧ Inv m h t) ∨ (∃ u, f = .ret u ∧ R f h t)) h t) h t) h t) h t) :
  ∀ n h t, Inv n h t → VK γ A (.forLoop tgt it body [] env) R h t := by
 intro n
 induction n using Nat.strongRecOn with
 | ind n ih =>
  intro h t h0
  refine vk_tree rfl ?_
  show V γ A ((forTurn tgt it body [] env).onRaise (fun x => do noteFrame x env; theTreesLotGoes x)) _ h t
  refine v_onRaise ?_
  simp only [forTurn]
  refine v_standAt (v_bind (v_onRaise (.of_w ((turn n h t h0).mono fun r h t y => ?_))))
  rcases y with ⟨rfl, y⟩ | ⟨v, rfl, y⟩
  ·exact v_pure ⟨rfl, vk_block (v_execs_nil y)⟩
  ·refine v_bindw (y.mono fun ξ h t y => v_bindw (y.mono fun ξ h t y => v_bind (y.mono fun f h t y => ?_)))
   rcases y with ⟨rfl, m, lt, inv⟩ | ⟨u, rfl, y⟩
   ·exact v_pure ⟨rfl, ih m lt h t inv⟩
   ·exact v_pure y
structure VForR (γ : G) (A : Around) (tgt : Expr) (it : Value) (body : List Stmt) (env : Env) (Q : Flow → Heap → Nat → Prop) (h : Heap) (t : Nat) : Prop where
 out : VK γ A (.forLoop tgt it body [] env) Q h t
theorem v_for {tgt iter : Expr} {body : List Stmt} {pos : Pos} {Q : Flow → Heap → Nat → Prop}
  (x : W γ A (eval iter env) (fun v h t => PyIter γ A v (fun it h t => VForR γ A tgt it body env Q h t) h t) h t)
  (hs : ∀ x, foldedSetIterable iter env x = pure x := by intro _; rfl) : V γ A (exec (.For tgt iter body [] pos) env) Q h t := by
 rw [exec_For]
 refine v_standAt (v_bindw (x.mono fun v h t y => ?_))
 refine v_bindw ⟨wpAny_of_eq (hs v) ⟨h, t, rfl, ?_⟩⟩
 exact v_standAt (v_bindw (w_holding (y.out.mono fun it h t z => v_runOwn z.out)))
theorem v_for_it {it : Value} {tgt : Expr} {n : Nat} {St P} {body : List Stmt} {Q : Flow → Heap → Nat → Prop} (I : Iter γ K it tgt n St P) (hh : A.handled = none)
  (Inv : Nat → Dm → List (Str × Option Value) → List (Addr × Obj) → Prop) (F : Fx K D env gl cl vars (news ++ own) h) (hst : St 0 D own) (h0 : Inv 0 D vars news)
  (imono : ∀ i D D' vars news, Le D D' → Inv i D vars news → Inv i D' vars news)
  (turn : ∀ i D' vars news own v h t, Le D D' → i < n → Inv i D' vars news → P i D' v → Fx K D' env gl cl vars (news ++ own) h →
   W γ A (assign tgt env v) (fun ξ => V γ A (execs body env) (fun f h t => (f = .next ∧ ∃ D'' vars' news', Le D' D'' ∧ Inv (i + 1) D'' vars' news' ∧ Fx K D'' env gl cl vars' (news' ++ own) h) ∨
    (∃ u, f = .ret u ∧ Q f h t))) h t)
  (fin : ∀ D' vars news h t, Le D D' → Inv n D' vars news → Fx K D' env gl cl vars news h → Q .next h t) : VForR γ A tgt it body env Q h t := by
 refine ⟨v_forLoop (fun k h t => LoopS γ K env gl cl n D Inv St k (mkS γ h t)) (fun k h t x => ?_) n h t (.mk (Nat.zero_le _) (Le.refl _) h0 hst F)⟩
 generalize hs : mkS γ h t = s' at x
 cases x with
 | @mk i D' vars news own h t hi le inv st F =>
 cases hs
 rcases Nat.lt_or_ge i n with hlt | hge
 ·refine (I.nextF hh hlt F st (Q := fun v => W γ A (assign tgt env v) (fun ξ => V γ A (execs body env) (fun f h t => (f = .next ∧ ∃ m, m < n - i ∧ LoopS γ K env gl cl n D Inv St m (mkS γ h t)) ∨
    (∃ u, f = .ret u ∧ Q f h t)))) ?_ fun v h t y => .inr ⟨v, rfl, y⟩)
  intro v D2 own' h t le' st' p F'
  refine (turn i D2 vars news own' v h t (le.trans le') hlt (imono _ _ _ _ _ le' inv) p F').mono fun ξ h t y => y.mono fun f h t y => ?_
  rcases y with ⟨rfl, D3, vars', news', le3, inv', F3⟩ | y
  ·exact .inl ⟨rfl, n - (i + 1), by exact Nat.sub_lt_sub_left hlt (Nat.lt_succ_self _), .mk hlt ((le.trans le').trans le3) inv' (I.mono _ _ _ _ le3 st') F3⟩
  ·exact .inr y
 ·have e : i = n := Nat.le_antisymm hi hge
  subst e
  exact I.lastF hh F st fun h t F => .inl ⟨rfl, fin D' vars news h t le inv F⟩
end
end
noncomputable abbrev baseC : Ctx := ⟨.builtin "claim.caller" {}, none, none, [], none⟩
theorem base_calm : CalmC baseC := ⟨by kernel_rfl, fun ξ h => nomatch h⟩
noncomputable def Ends0 {α : Type} (prog : Program) (w : World) (t : Sem α) (Q : α → Shared → Prop) (s : Shared) : Prop :=
 ∀ p, Sem.wp (model prog w) baseC t (fun a ξ s' => Q a s') (fun ξ ξ ξ => False) p s
theorem Ends0.mono {α : Type} {prog : Program} {w : World} {t : Sem α} {Q Q' : α → Shared → Prop} {s : Shared} (x : Ends0 prog w t Q s) (hq : ∀ a s', Q a s' → Q' a s') : Ends0 prog w t Q' s :=
 fun p => Sem.wp_mono _ _ _ (fun a ξ s' q => hq a s' q) (fun ξ ξ ξ f => f) _ _ (x p)
theorem Ends0.bind {α β : Type} {prog : Program} {w : World} {m : Sem α} {f : α → Sem β} {Q : β → Shared → Prop} {s : Shared} (x : Ends0 prog w m (fun a s' => Ends0 prog w (f a) Q s') s) : Ends0 prog w (m >>= f) Q s := fun p => by
 rw [Sem.wp_bind']
 exact Sem.wp_mono _ _ _ (fun a p' s' y => y p') (fun ξ ξ ξ f => f) _ _ (x p)
theorem Ends0.of_any {α : Type} {prog : Program} {w : World} {t : Sem α} {Q : α → Shared → Prop} {s : Shared} (x : wpAny (model prog w) callerA t Q (fun ξ ξ => False) s) : Ends0 prog w t Q s := fun p => x _ p caller_in
theorem thread_calm {prog : Program} {w : World} {t : Sem Fin} {s : Shared} {R : Result → Shared → Prop} (hreg : s.asleep)
  (x : Ends0 prog w t (fun fin s' => ∃ f, fin = .done f ∧ R (.ok f) s' ∧ leftWithCleanup s'.gens = false) s) :
  ∃ n r s' s'', runN (denote table) prog w n s ⟨t, .builtin "claim.caller" {}, default, []⟩ = .halted (outcomeOf r) s' ∧
   schedN (denote table) prog w n (.single s ⟨t, .builtin "claim.caller" {}, default, []⟩) = .halted (outcomeOf r) s' ∧ s'.forget = s''.forget ∧ R r s'' := by
 have y : Sem.wp (model prog w) baseC t (Sem.finPost (model prog w) baseC fun r s' => R r s' ∧ leftWithCleanup s'.gens = false) (fun e ξ s' => R (.error e) s' ∧ leftWithCleanup s'.gens = false) default s :=
  Sem.wp_mono _ _ _ (fun fin _ s' ⟨f, e, q⟩ => by subst e; exact q) (fun ξ ξ ξ f => f.elim) _ _ (x default)
 refine ek4_4 (wp_halts_full (M := model prog w) (R := R) hreg y) fun n r s₁ s₂ hs hn hfo hR => ?_
 exact ⟨n, r, s₂, s₁, hn, hs, hfo, hR⟩
noncomputable abbrev WalkV (q : Program) (loose : List Str) (XP : (Str → Option Value) → Heap → Prop) (YP : World → Heap → Prop) (r : RowW) (d : DefRec) (kwd : List (Str × Expr)) : Prop :=
 ∀ (w : World) (s₀ s₁ : Shared) (mg mb : Str → Option Value), Ground q loose r.records XP w s₀ mg mb s₁.heap → YP w s₁.heap → ∀ (a : Addr) (o : Obj) (pm cd doc dV kV : Value), s₁.heap.get? a = some o →
  o.data = .func { docDef d.name d.params d.body d.scope pm cd doc with defaults := dV, kwdefaults := kV } → s₁.heap.CodeRec cd d.name → Dflts mg s₁.heap d.params kwd dV kV → mg d.name = some (.ref a) → s₁.gens = #[] →
  ∀ (args : List WData) (vals : List Value) (as : List Addr), r.claim.pre args = true → WData.layableAll args = true → ReadsAllW r.records (classAt s₀.heap) s₁.heap vals args as → WellAll w.params s₁.heap vals args → (∀ a ∈ as, (a == sysModules) = false) →
   Ends0 r.prog w (call (.ref a) vals) (fun v s' => GoodWG r.claim (classAt s₀.heap) (ExcName.means s₀.heap) args s₁ (.ok (.ret v)) s') s₁
theorem PySem.W.holds_open {r : OpenRow} {q : Program} {loose : List Str} {Xt : Shared → Bool} {XP : (Str → Option Value) → Heap → Prop} {α : Type} {Yf : Shared → α} {Ya : World → α} {YP : World → Heap → Prop} {d : DefRec} {kwd : List (Str × Expr)} {N : Nat}
  (left : LeftO r.prog q loose Xt Yf Ya N) (hY : ∀ w s, Yf s = Ya w → YP w s.heap) (hYk : ∀ w h h', YP w h → (∀ b o, h.get? b = some o → h'.get? b = some o) → YP w h')
  (hX : ∀ s, Xt s = true → XP (s.heap.nsMap mainGlobals) s.heap) (hXk : ∀ mg h h', XP mg h → (∀ b o, h.get? b = some o → h'.get? b = some o) → XP mg h')
  (hdef : defOf q r.name = some (d, kwd)) (hp : r.prog.theDef r.name = some (d.params, d.body, d.scope)) (hk : kwWritten? d.params.kwonlyargs d.params.kw_defaults = some kwd) (hRf : ∀ s, Xt s = true → RecFacts r.records s.heap) (hwr : (!r.writes || r.records.isEmpty) = true)
  (k1 : r.wellSaid = true) (ok : (chainsOk q && opensWell r.prog && (frees r.toRowW && r.within.isEmpty)) = true) (hb : r.prog.bare) (hw : r.toRowW.promised)
  (walk : WalkV q loose XP YP r.toRowW d kwd) : r.Holds := by
 simp only [Bool.and_eq_true] at ok
 obtain ⟨⟨hch, o1⟩, k5, k6⟩ := ok
 refine ek0_5 (frees_parts k5) fun hsame hu ha hap hm => ?_
 refine ⟨k1, hw, ⟨hb, o1, by show r.makers.map _ = []; rw [hm]; rfl⟩, hw.witness, fun w => ⟨(left.behind hX hch w).1, fun sT hsT => ?_⟩⟩
 refine ek1_3 ((left.behind (XP := fun mg h => XP mg h ∧ RecFacts r.records h) (fun s hs => ⟨hX s hs, hRf s hs⟩) hch w).2 sT hsT) fun s₀ hf hg0 z1 => ?_; refine ek1_6 z1 fun s hT hz hgens hg GG y => ?_; clear z1
 have G0 : Ground q loose [] XP w s (s.heap.nsMap mainGlobals) (s.heap.nsMap builtinsNs) s.heap := ⟨GG.T, GG.B, GG.D, GG.TE, GG.TD, GG.W, GG.X.1, GG.cls, GG.has, GG.apart, GG.once, GG.K⟩
 have RF := GG.X.2
 have gen0 : s.gens = #[] := Array.eq_empty_of_size_eq_zero (beq_iff_eq.mp hgens)
 refine ⟨s₀, hf, hg0, s, hT, fun n hn => ?_, RF.1, RF.2.1, fun args hpre hlay ord hord => ?_⟩
 ·obtain rfl : n = r.name := by split at hn <;> simp_all
  exact pinned_of_view hg G0 hdef hp hk
 have Gr : Ground q loose r.records XP w s _ _ s.heap := RF.ground G0
 refine ek1_1 (Option.isSome_iff_exists.mp (layAllW_isSome (P := w.params) (ord := ord) Gr.has args r.args s (pre_splitW hpre).1)) fun z1 hlaid => ?_; obtain ⟨vs, s₁⟩ := z1
 have keeps := layAllW_keeps _ _ _ hlaid
 have hal := layAllW_rest _ _ _ hlaid
 refine ek1_3 (reads_layAllW hord _ _ _ hlaid hlay s₁.heap (fun ξ ξ e => e)) fun as hrd hin hold => ?_
 have L : Laid r.records w s s₁ args vs as := ⟨⟨ord, hord, hlaid⟩, hrd, hin, hold, keeps, hal.1.trans gen0, hal.2.2.1⟩
 have G₁ := Gr.keeps hXk keeps
 refine ek7_5 (G₁.fn hdef) fun a o pm cd doc dV kV h1 h2 h3 h4 h5 => ?_
 have run := walk w s s₁ _ _ G₁ (hYk _ _ _ (hY w s y) keeps) a o pm cd doc dV kV h2 h3 h4 h5 (defOf_name hdef ▸ h1) L.gens args vs as hpre hlay L.reads L.well (L.low Gr.low)
 have tree : Ends0 r.prog w (do match ← nsGet mainNs r.name with
   | some f => do ret (← PySem.call f vs)
   | none => unsupported "claim.caller:no-such-global") (fun fin s' => ∃ f, fin = .done f ∧ (r.claim.Ends s args vs s₁ (.ok f) s' ∧ s'.os = s.os ∧ (r.writes = true → namesKept r.prog r.keeps s.heap s'.heap ∧ ∀ x ∈ r.records, ∀ a, classAt s.heap x.1 = some a → recordClass s'.heap a x.1 (x.2.map (·.1)) = true)) ∧ leftWithCleanup s'.gens = false) s₁ := by
  refine Ends0.bind (.of_any (wpAny_nsGet G₁.T.g ?_))
  refine h1.symm ▸ ?_
  refine Ends0.bind (run.mono fun v s' g => ?_)
  have z := g.laid (c := r.claim) hsame (List.isEmpty_iff.mp k6) (ident_freeW hu ha hap) L
  exact .of_any (wpAny_pure ⟨_, rfl, ⟨z.1, z.2.1, fun e => ⟨namesKept_of hT hg r.keeps keeps g.2.1.old, noTable hwr e⟩⟩, leftWithCleanup_false_of_bare z.2.2⟩)
 refine ek4_4 (thread_calm (R := fun res s' => r.claim.Ends s args vs s₁ res s' ∧ s'.os = s.os ∧ (r.writes = true → namesKept r.prog r.keeps s.heap s'.heap ∧ ∀ x ∈ r.records, ∀ a, classAt s.heap x.1 = some a → recordClass s'.heap a x.1 (x.2.map (·.1)) = true))
  (Shared.asleep_of_life hal.2.2.2 hz) tree) fun k res s' s'' hrun hsched hfo z => ?_
 refine ek0_3 z fun hcase hos hkp => ?_
 refine ek0_5 (Shared.forget_eq hfo) fun eh ξ ξ eo ξ => ?_
 have hcase' := hcase.congr eh
 have hlife : s'.heap.life = s.heap.life := (runN_life _ _ _ hrun).trans hal.2.2.2
 refine ⟨vs, s₁, hlaid, k, _, s', hsched, ?_, (fun ξ i x hx => by rw [gen0] at hx; simp at hx), by rw [eh]; exact hkp, by rw [hlife], Shared.rest_eq (eo.trans hos)⟩
 refine hcase'.elim (fun z => .inl (ek1_6 z fun v z1 d1 d2 d3 d4 d5 => ⟨v, congrArg outcomeOf z1, d1, d2, d3, fun b o y ξ => d4 b o y, d5⟩)) fun z => .inr ?_
 refine ek3_6 z fun e ob cls z1 d1 d2 d3 d4 d5 => ?_
 exact ⟨e, ob, cls, congrArg outcomeOf z1, d1, d2, d3, d4, fun b o y ξ => d5 b o y⟩
section
noncomputable def LsO (items : List Value) (o : Obj) : Prop := o.cls = .type "list" ∧ ∃ n, o.data = .seq items.toArray n
theorem LsO.isList {items : List Value} {o : Obj} {l : Addr} {h : Heap} (x : LsO items o) (e : h.get? l = some o) : h.IsList l items.toArray := ⟨o, e, x.1, x.2⟩
theorem LstO.ls {items : List Value} {o : Obj} (x : LstO items.toArray o) : LsO items o := by obtain ⟨n, rfl⟩ := x; exact ⟨rfl, n, rfl⟩
theorem of_isList {items : List Value} {l : Addr} {h : Heap} {its : Array Value} (x : h.IsList l its) (e : its = items.toArray) : ∃ o, h.get? l = some o ∧ LsO items o := by refine ek1_3 x fun o a b c => ?_; clear x; exact ⟨o, a, b, e ▸ c⟩
section
variable {h : Heap} {t : Nat} {gl cl : List (Str × Value)} {env : Env} {γ : G} {A : Around} {K : Frag} {D : Dm} {news rest : List (Addr × Obj)} {vars : List (Str × Option Value)} {a l : Addr} {items : List Value} {o : Obj} {k : Int} {u : Tok} {x v : Value}
theorem w_tail_list {value slice : Expr} {Q : Value → Heap → Nat → Prop} (ho : h.get? l = some o) (hl : LsO items o) (h0 : 0 ≤ k) (hx : items[k.toNat]? = some x) (hf : k < 2 ^ 63 := by kcf_m) (q : Q x h t)
  (hs : subscripted slice false (.ref l) (.int k u) = operate [.ref l, .int k u] (getItem (.ref l) (.int k u)) := by with_unfolding_all rfl) : W γ A (subscriptTail value slice (.ref l) (.int k u)) Q h t :=
 ⟨tail_any (s := mkS γ h t) (hl.isList ho).typeIs slot_list_getitem.lookup (wpAny_getItem_list (hl.isList ho) h0 hf (by simpa using hx) ⟨h, t, rfl, q⟩) hs⟩
theorem w_setitem {Q : Unit → Heap → Nat → Prop} (F : Fx K D env gl cl vars news h) (p : Pick (l, o) news rest) (hl : LsO items o) (h0 : 0 ≤ k) (hn : k < items.length) (hf : k < 2 ^ 63)
  (q : ∀ o' h', LsO (items.set k.toNat v) o' → Fx K D env gl cl vars ((l, o') :: rest) h' → Q () h' t) : W γ A (setItem (.ref l) (.int k u) v) Q h t := by
 refine ⟨wpAny_setItem_list (s := mkS γ h t) (hl.isList (F.got p)) h0 hf (by simpa using hn) fun h' hl' hs => ?_⟩
 refine ek1_2 (of_isList (items := items.set k.toNat v) hl' (by simp)) fun o' e z => ?_
 exact ⟨h', t, rfl, q o' h' z ((F.pick p).upd (fun b x hb e => hs.extBut b x hb e) e)⟩
theorem w_len_list {Q : Value → Heap → Nat → Prop} (ho : h.get? l = some o) (hl : LsO items o) (hn : items.length ≤ sizeLine) (q : Q (.int items.length (t + 1)) h (t + 2)) : W γ A (call (.builtin "len") [.ref l]) Q h t := by
 have : sizeLine = 16777216 := sizeLine_eq
 refine ⟨call_len_list (s := mkS γ h t) (hl.isList ho) (by simp; exact cL (items.length) (9223372036854775808) (nL (nA hn (Nat.le_of_eq this)) (by kcf_m))) ⟨h, t + 2, ?_, ?_⟩⟩
 ·rfl
 ·simpa using q
theorem Fx.frz {a : Addr} {o : Obj} (F : Fx K D env gl cl vars ((a, o) :: news) h) : ∃ D', Le D D' ∧ D' a = some o ∧ Fx K D' env gl cl vars news h :=
 ⟨_, Dm.put_le (F.sc.off (a, o) (.head _)), Dm.put_at _ _ _, F.freeze⟩
theorem Fx.frzk {P : Prop} {a : Addr} {o : Obj} (F : Fx K D env gl cl vars ((a, o) :: news) h) (k : ∀ D', Le D D' → D' a = some o → Fx K D' env gl cl vars news h → P) : P :=
 k _ (Dm.put_le (F.sc.off (a, o) (.head _))) (Dm.put_at _ _ _) F.freeze
theorem w_newtup {vs : List Value} {Q : Value → Heap → Nat → Prop} (F : Fx K D env gl cl vars news h) (hn : vs.length ≤ 1000000) (q : ∀ D' a o h', Le D D' → D' a = some o → TupO vs o → Fx K D' env gl cl vars news h' → Q (.ref a) h' t) : W γ A (newTuple vs) Q h t := by
 have sz : sizeLine = 16777216 := sizeLine_eq
 have F1 := F.push { cls := .type "tuple", data := .seq vs.toArray }
 obtain ⟨D', le, e, F2⟩ := F1.frz
 exact ⟨wpAny_newTuple (s := mkS γ h t) ⟨_, t, rfl, q D' _ _ _ le e ⟨_, rfl⟩ F2⟩ (szle (Nat.le_trans hn (by decide)))⟩
theorem w_newlist {vs : List Value} {Q : Value → Heap → Nat → Prop} (F : Fx K D env gl cl vars news h) (hn : vs.length ≤ 1000000) (q : ∀ a o h', LstO vs.toArray o → Fx K D env gl cl vars ((a, o) :: news) h' → Q (.ref a) h' t) : W γ A (newList vs) Q h t := by
 have sz : sizeLine = 16777216 := sizeLine_eq
 exact ⟨wpAny_newList (s := mkS γ h t) ⟨_, t, rfl, q _ _ _ ⟨_, rfl⟩ (F.push { cls := .type "list", data := .seq vs.toArray })⟩ (szle (Nat.le_trans hn (by decide)))⟩
theorem w_assign_swap2 {x y : Str} {e1 e2 : Expr} {k : Nat} {pos' pos : Pos} {value : Expr} {Q : Flow → Heap → Nat → Prop} (hh : A.handled = none)
  (z : W γ A (eval value env) (fun v h t => ∃ a o v1 v2, v = .ref a ∧ h.get? a = some o ∧ TupO [v1, v2] o ∧ ∀ h', (∀ b x, h.get? b = some x → h'.get? b = some x) → W γ A (storeName env y v2) (fun ξ => W γ A (storeName env x v1) (fun ξ => Q .next)) h' t) h t)
  (hs : swapsWithSole [.Tuple [e1, e2] k pos'] value pos.line env = pure false) (hw : swappedStores [.Tuple [e1, e2] k pos'] value env = pure (some [x, y])) :
  W γ A (exec (.Assign [.Tuple [e1, e2] k pos'] value pos) env) Q h t := by
 rw [exec_Assign_arm]
 refine w_bind (w_standAt ?_)
 refine hs.symm ▸ ?_
 refine w_bind (w_pure ?_)
 rw [if_neg (by decide)]
 refine w_bind (z.mono fun v h t w => ?_)
 refine ek4_4 w fun a o v1 v2 z1 ho hT q => ?_; clear w; obtain rfl := z1
 rw [hw]
 refine w_bind (w_pure ?_)
 show W γ A (do PySem.rule "assign.swapped-stores"; let items ← unpackItems (.ref a) 2 none; assignInOrder [bindName env y, bindName env x] items.reverse; pure .next) Q h t
 refine w_bind (w_rule (w_bind ⟨wpAny_unpackItems_tuple (s := mkS γ h t) (items := [v1, v2].toArray) hh (hT.isTuple ho) fun h' he => ⟨h', t, rfl, ?_⟩⟩))
 show W γ A (do assignInOrder [bindName env y, bindName env x] [v2, v1]; pure .next) Q h' t
 have kk : ∀ b x, h.get? b = some x → h'.get? b = some x := fun b x e => he b x (Nat.ne_of_lt (Heap.lt_size e)) e
 refine w_bind (w_bind (w_holding ⟨wpAny_bindName ((q h' kk).use fun ξ h t w => ⟨h, t, rfl, ?_⟩)⟩))
 exact w_bind (w_holding ⟨wpAny_bindName (w.use fun ξ h t w => ⟨h, t, rfl, w_pure (w_pure w)⟩)⟩)
theorem swap2 {x y : Str} {px py p1 p2 : Pos} {k1 k2 : Nat} {va vb : Expr} (hbk : env.blockKind = .function) (hx : env.kindOf x = some .local) (hy : env.kindOf y = some .local) (hl : (py.line == px.line) = true) (hxy : ([x, y].eraseDups.length != 2) = false)
  (hs : ([va, vb].any fun | .Starred .. => true | _ => false) = false) (hf : ([va, vb].all (foldedForSure 8)) = false) (hc : ([va, vb].all (constantsAlone 8)) = false) :
  swappedStores [.Tuple [.Name x px, .Name y py] k1 p1] (.Tuple [va, vb] k2 p2) env = pure (some [x, y]) := by
 have nt : ∀ {b : Bool}, b = false → ¬b = true := fun e q => Bool.noConfusion (e.symm.trans q)
 have e : ∀ f : Expr → Option Str, f (.Name x px) = some x → f (.Name y py) = some y → [Expr.Name x px, .Name y py].filterMap f = [x, y] := fun f a b => (List.filterMap_cons_some a).trans (congrArg _ (List.filterMap_cons_some b))
 delta swappedStores
 refine (if_neg (nt (show (false || env.blockKind != .function) = false by rw [hbk]; rfl))).trans ((if_neg (nt hs)).trans ?_)
 dsimp only
 rw [e]
 ·exact (if_neg (nt (show (false || _) = false from hxy))).trans ((if_neg (nt hf)).trans (if_neg (nt hc)))
 ·exact if_pos (show (env.kindOf x == some .local && px.line == px.line) = true by rw [hx]; exact beq_self_eq_true px.line)
 ·exact if_pos (show (env.kindOf y == some .local && py.line == px.line) = true by rw [hy, hl]; rfl)
end
end
section
section
variable {h : Heap} {t : Nat} {gl cl : List (Str × Value)} {env : Env} {γ : G} {A : Around} {K : Frag} {D : Dm} {news rest : List (Addr × Obj)} {vars : List (Str × Option Value)} {a l : Addr} {bs : List Int} {o : Obj}
theorem inter (F : Fx K D env gl cl vars news h) : interactive env = false := by simp only [interactive, F.e.kind]; rfl
theorem w_len_ba {Q : Value → Heap → Nat → Prop} (ho : h.get? a = some o) (hb : BaO bs o) (hn : bs.length ≤ sizeLine) (q : Q (.int bs.length (t + 1)) h (t + 2)) : W γ A (call (.builtin "len") [.ref a]) Q h t := by
 have sz : sizeLine = 16777216 := sizeLine_eq
 refine ⟨call_len_slot (s := mkS γ h t) (n := bs.length) (hb.type ho) slot_ba_len (fun Q' hq => ?_) (by kcf_m) (by kcf_m) ⟨h, t + 2, rfl, q⟩⟩
 refine wpAny_call_entry slot_ba_len (hb.type ho) entry_ba_len ?_ (args_ba_len _)
 unfold Builtin.«bytearray.__len__»
 refine wpAny_bind (m := slotArgs "__len__" 0 _) (wpAny_pure ?_)
 refine wpAny_bind (W.use (w_payload (Q := fun b h' t' => b.size = bs.length ∧ h' = h ∧ t' = t) ho hb fun b e => ⟨by rw [← bInts_length, e], rfl, rfl⟩) fun b h' t' y => ?_)
 refine ek0_3 y fun e z1 z2 => ?_; clear y; obtain rfl := z1; obtain rfl := z2
 rw [show ((b.size : Nat) : Int) = (bs.length : Int) by rw [e]]
 exact wpAny_ret_mkInt hq
theorem w_join {α : Type} {tree : Sem α} {P : α → Prop} {Q : α → Heap → Nat → Prop} (F : Fx K D env gl cl vars news h) (x : W γ A tree (fun b h' t' => P b ∧ Fx K D env gl cl vars news h') h t) (k : ∀ b h t, P b → Fx K D env gl cl vars news h → Q b h t) :
  W γ A tree Q h t := x.mono fun b h t y => k b h t y.1 y.2
end
end
section
section
variable {h : Heap} {t : Nat} {gl cl : List (Str × Value)} {env : Env} {γ : G} {A : Around} {K : Frag} {D : Dm} {news rest : List (Addr × Obj)} {vars : List (Str × Option Value)} {a l d : Addr} {o : Obj}
variable {κ : Type} [DecidableEq κ]
noncomputable abbrev evV (v : Expr) (pos : Pos) (env : Env) : Sem Value := do let x ← eval v env; standAt pos; pure x
theorem w_evV {v : Expr} {pos : Pos} {Q : Value → Heap → Nat → Prop} (x : W γ A (eval v env) Q h t) : W γ A (evV v pos env) Q h t := w_bind (x.mono fun v h t q => w_bind (w_standAt (w_pure q)))
theorem w_pairs_nil {Q : List (Value × Value) → Heap → Nat → Prop} (q : Q [] h t) : W γ A (evalPairs []) Q h t := ⟨evalPairs_nil ⟨h, t, rfl, q⟩⟩
theorem w_pairs_cons {k v : Expr} {pos : Pos} {r : List (Sem Value × Sem Value)} {Q : List (Value × Value) → Heap → Nat → Prop}
  (x : W γ A (eval k env) (fun kv => W γ A (eval v env) (fun vv => W γ A (evalPairs r) (fun vs h t => Q ((kv, vv) :: vs) h t))) h t) : W γ A (evalPairs ((eval k env, evV v pos env) :: r)) Q h t :=
 ⟨evalPairs_cons (W.use x fun kv h t y => W.use (w_evV y) fun vv h t y => W.use y fun vs h t q => ⟨h, t, rfl, q⟩)⟩
noncomputable abbrev dictNew : Obj := { cls := .type "dict", dict := none, data := .dict #[], slots := #[] }
theorem dictNew_is (knd : PySem.KeyKind γ.prog γ.w κ) (h : Heap) : dictNew.IsDictOf knd [] := by
 obtain ⟨o, e, x⟩ := Heap.dictOf_iff.mp (show (h.push dictNew).DictOf knd h.objs.size [] from ⟨_, _, _, Heap.get?_push_size _ rfl, ⟨rfl, rfl, rfl⟩, rfl, fun e he => by simp at he, .nil, List.nodup_nil⟩)
 have := Heap.get?_push_size h (o := dictNew) rfl
 rw [this] at e; cases e; exact x
theorem dictOf {knd : PySem.KeyKind γ.prog γ.w κ} {kvs : List (κ × Value)} (x : o.IsDictOf knd kvs) (e : h.get? d = some o) : h.DictOf knd d kvs := Heap.dictOf_iff.mpr ⟨o, e, x⟩
noncomputable def Shown (knd : PySem.KeyKind γ.prog γ.w κ) (K : Frag) (D : Dm) (env : Env) (gl cl : List (Str × Value)) (vars : List (Str × Option Value)) (news : List (Addr × Obj)) (d : Addr) (kvs : List (κ × Value)) (vs : List (Value × Value)) (h : Heap) : Prop :=
 Carries knd vs kvs ∧ ∃ o, o.IsDictOf knd [] ∧ Fx K D env gl cl vars ((d, o) :: news) h
theorem w_dict_pairs {keys : List (Option Expr)} {values : List Expr} {pos : Pos} {pairs : List (Sem Value × Sem Value)} {Q : Value → Heap → Nat → Prop} (knd : PySem.KeyKind γ.prog γ.w κ) (kvs : List (κ × Value)) (F : Fx K D env gl cl vars news h)
  (hshape : (evalEachOpt keys env).zip ((evalEach values env).map fun v => do let x ← v; standAt pos; pure x) = pairs.map fun p => (some p.1, p.2)) (h0 : pairs ≠ []) (hlen : pairs.length ≤ 15)
  (x : ∀ d o h', o.IsDictOf knd [] → Fx K D env gl cl vars ((d, o) :: news) h' → W γ A (evalPairs pairs) (fun vs h t => Shown knd K D env gl cl vars news d kvs vs h) h' t)
  (q : ∀ d o h t, (d == sysModules) = false → o.IsDictOf knd (merged [] kvs) → Fx K D env gl cl vars ((d, o) :: news) h → Q (.ref d) h t) : W γ A (eval (.Dict keys values pos) env) Q h t := by
 have F1 := F.push dictNew
 have nm : (h.objs.size == sysModules) = false := by
  refine ek4_1 F.sc.top fun ξ ξ ξ ξ T => ?_
  have := T.g.lt
  have e : mainGlobals = 3 := rfl
  rw [e] at this
  have this : 3 < h.objs.size := this
  have q : h.objs.size ≠ 1 := by kcf_m
  exact beq_eq_false_iff_ne.mpr q
 refine ⟨wpAny_Dict_pairs (s := mkS γ h t) (knd := knd) hshape h0 hlen (W.use (x _ _ _ (dictNew_is knd h) F1) fun vs h₁ t₁ y => ?_)⟩
 refine ek0_2 y fun c z1 => ?_; clear y; refine ek1_2 z1 fun o e F2 => ?_; clear z1
 refine ⟨kvs, c, dictOf e F2.sc.head, fun h' hm hs => ?_⟩
 refine ek1_2 (Heap.dictOf_iff.mp hm) fun o' e1 e2 => ?_
 exact ⟨h', t₁ + vs.length, rfl, q _ o' _ _ nm e2 (F2.upd (fun b x hb e => hs.extBut b x hb e) e1)⟩
theorem w_dict1 {k1 v1 : Expr} {pos : Pos} {Q : Value → Heap → Nat → Prop} (knd : PySem.KeyKind γ.prog γ.w κ) (kvs : List (κ × Value)) (F : Fx K D env gl cl vars news h)
  (x : ∀ d o h', o.IsDictOf knd [] → Fx K D env gl cl vars ((d, o) :: news) h' → W γ A (evalPairs [(eval k1 env, evV v1 pos env)]) (fun vs h t => Shown knd K D env gl cl vars news d kvs vs h) h' t)
  (q : ∀ d o h t, (d == sysModules) = false → o.IsDictOf knd (merged [] kvs) → Fx K D env gl cl vars ((d, o) :: news) h → Q (.ref d) h t) : W γ A (eval (.Dict [some k1] [v1] pos) env) Q h t :=
 w_dict_pairs knd kvs F rfl (by simp) (by simp) x q
theorem w_dict4 {k1 k2 k3 k4 v1 v2 v3 v4 : Expr} {pos : Pos} {Q : Value → Heap → Nat → Prop} (knd : PySem.KeyKind γ.prog γ.w κ) (kvs : List (κ × Value)) (F : Fx K D env gl cl vars news h)
  (x : ∀ d o h', o.IsDictOf knd [] → Fx K D env gl cl vars ((d, o) :: news) h' →
   W γ A (evalPairs [(eval k1 env, evV v1 pos env), (eval k2 env, evV v2 pos env), (eval k3 env, evV v3 pos env), (eval k4 env, evV v4 pos env)]) (fun vs h t => Shown knd K D env gl cl vars news d kvs vs h) h' t)
  (q : ∀ d o h t, (d == sysModules) = false → o.IsDictOf knd (merged [] kvs) → Fx K D env gl cl vars ((d, o) :: news) h → Q (.ref d) h t) : W γ A (eval (.Dict [some k1, some k2, some k3, some k4] [v1, v2, v3, v4] pos) env) Q h t :=
 w_dict_pairs knd kvs F rfl (by simp) (by simp) x q
theorem w_getm_dict {name : Str} {id : String} {pl : Sem Bool} {knd : PySem.KeyKind γ.prog γ.w κ} {kvs : List (κ × Value)} {Q : Value × List Value → Heap → Nat → Prop} (slot : Slot "dict" name id) (hty : typeOf (.builtin id) = pure (.type "method_descriptor")) (e : h.get? d = some o) (x : o.IsDictOf knd kvs)
  (q : Q (.builtin id, [.ref d]) h t) : W γ A (getMethod (.ref d) name pl) Q h t :=
 ⟨getMethod_builtin (s := mkS γ h t) (dictOf x e).typeIs PySem.F.plainAttrs_dict slot hty (dictOf x e).mapOf.noDict ⟨h, t, rfl, q⟩⟩
theorem c_dict_get {knd : PySem.KeyKind γ.prog γ.w κ} {kvs : List (κ × Value)} {key : Value} {k : κ} {Q : Value → Heap → Nat → Prop} (e : h.get? d = some o) (x : o.IsDictOf knd kvs) (hk : knd.is k key = true) (hd : (d == sysModules) = false) (q : Q ((valueAt kvs k).getD .none) h (t + 1)) :
  W γ A (call (.builtin "dict.get") [.ref d, key]) Q h t :=
 ⟨call_meetsIn PySem.F.slot_dict_get (dictOf x e).typeIs PySem.F.entry_dict_get (PySem.F.args_dict_get_2 _ _) (meets_dict_get knd d hk hd) ⟨_, (dictOf x e).mapOf, h, t + 1, rfl, q⟩⟩
theorem w_truthy_dict {knd : PySem.KeyKind γ.prog γ.w κ} {kvs : List (κ × Value)} {Q : Bool → Heap → Nat → Prop} (e : h.get? d = some o) (x : o.IsDictOf knd kvs) (hd : (d == sysModules) = false) (hn : kvs.length ≤ 1000000) (q : Q (!kvs.isEmpty) h (t + 2)) : W γ A (truthy (.ref d)) Q h t :=
 ⟨wpAny_truthy_dict (s := mkS γ h t) hd (dictOf x e) (by kcf_m) ⟨h, t + 2, rfl, q⟩⟩
end
end
section
theorem two_turns {σ α : Type} {n : Nat} {init st1 : σ} {f : Nat → σ → Sem (ForInStep σ)} {g : σ → Sem α} (hn : 0 < n) (h1 : f 0 init = pure (.yield st1)) (h2 : ∀ k, f k st1 = pure (.done st1)) : (forIn [0 : n] init f >>= g) = g st1 := by
 rw [Std.Legacy.Range.forIn_eq_forIn_range']
 simp only [Std.Legacy.Range.size, Nat.sub_zero, Nat.add_sub_cancel, Nat.div_one]
 obtain ⟨m, rfl⟩ : ∃ m, n = m + 1 := ⟨n - 1, by kcf_m⟩
 rw [List.range'_succ, List.forIn_cons, h1]
 cases m with
 | zero => rfl
 | succ m =>
  refine List.range'_succ.symm ▸ ?_
  show (forIn (_ :: _) st1 f >>= g) = _
  rw [List.forIn_cons, h2]
  rfl
theorem zero_turns {σ α : Type} {n : Nat} {init : σ} {f : Nat → σ → Sem (ForInStep σ)} {g : σ → Sem α} (hn : n = 0) : (forIn [0 : n] init f >>= g) = g init := by
 subst hn
 rw [Std.Legacy.Range.forIn_eq_forIn_range']
 rfl
open PySem.Builtin._codecs in
theorem enc_narrow {id : String} {c : TextCodec} {errors : Option Str} {self : Value} {s : Str} (good : ∀ y ∈ s.cps, c.bad y = false) (hz : (s.cps.foldl (fun acc y => acc ++ (c.bytesOf y).toArray) (#[] : Array UInt8)).size ≤ sizeLine) :
  encodeNarrow id c errors self s = pure (s.cps.foldl (fun acc y => acc ++ (c.bytesOf y).toArray) #[]) := by
 have hf : s.cps.findIdx? c.bad = none := Array.findIdx?_eq_none_iff.mpr good
 by_cases hn : s.cps.size = 0
 ·have e : s.cps = #[] := Array.eq_empty_of_size_eq_zero hn
  obtain ⟨cps⟩ := s
  simp only at e
  subst e
  unfold encodeNarrow
  exact (zero_turns rfl).trans rfl
 have h0 : s.cps[0]? = some (s.cps[0]'(Nat.pos_of_ne_zero hn)) := Array.getElem?_eq_getElem _
 have g0 : c.bad (s.cps[0]'(Nat.pos_of_ne_zero hn)) = false := good _ (Array.getElem_mem _)
 have hN : s.cps[s.cps.size]? = none := Array.getElem?_eq_none (Nat.le_refl _)
 unfold encodeNarrow
 refine (two_turns (st1 := (s.cps.size, s.cps.foldl (fun acc y => acc ++ (c.bytesOf y).toArray) #[], {})) (show 0 < s.length by show 0 < s.cps.size; exact Nat.pos_of_ne_zero hn) ?_ fun k => ?_).trans ?_
 ·dsimp only
  rw [if_neg (by decide)]; rw [h0]
  dsimp only
  refine g0.symm ▸ ?_
  refine (if_pos rfl).trans ?_
  rw [Array.extract_size, hf]
  show pure (ForInStep.yield (0 + s.cps.size, (s.cps.extract 0 s.cps.size).foldl (fun acc y => acc ++ (c.bytesOf y).toArray) #[], _)) = _
  rw [Array.extract_size, Nat.zero_add]
 ·dsimp only
  rw [if_neg (Nat.not_lt.mpr hz)]; rw [hN]
 ·rfl
noncomputable def utf8 (x : Str) : List Int := bInts (x.cps.foldl (fun acc y => acc ++ (Str.utf8Of y).toArray) #[])
noncomputable def ascii (x : Str) : List Int := bInts (x.cps.foldl (fun acc y => acc ++ ([y.toUInt8]).toArray) #[])
theorem enc_tree_utf8 (x : Str) (u v : Tok) : Builtin.«str.encode» ⟨[.str x u, .str (ofString "utf-8") v], []⟩ = (do ret (← Builtin._codecs.encodeRoad "str.encode" (.str x u) x (ofString "utf-8") none)) := by kernel_rfl
theorem enc_tree_ascii (x : Str) (u v : Tok) : Builtin.«str.encode» ⟨[.str x u, .str (ofString "ascii") v], []⟩ = (do ret (← Builtin._codecs.encodeRoad "str.encode" (.str x u) x (ofString "ascii") none)) := by kernel_rfl
theorem road_utf8 (id : String) (self : Value) (x : Str) (errors : Option Str) : Builtin._codecs.encodeRoad id self x (ofString "utf-8") errors = (do mkBytes (← Builtin._codecs.encodeNarrow id Builtin._codecs.utf8Codec errors self x)) := by kernel_rfl
theorem road_ascii (id : String) (self : Value) (x : Str) (errors : Option Str) : Builtin._codecs.encodeRoad id self x (ofString "ascii") errors = (do mkBytes (← Builtin._codecs.encodeNarrow id Builtin._codecs.asciiCodec errors self x)) := by kernel_rfl
section
variable {h : Heap} {t : Nat} {x : Str} {γ : G} {A : Around} {u v : Tok}
theorem w_getm_encode {pl : Sem Bool} {Q : Value × List Value → Heap → Nat → Prop} (q : Q (.builtin "str.encode", [.str x u]) h t) : W γ A (getMethod (.str x u) (ofString "encode") pl) Q h t :=
 ⟨getMethod_builtin (s := mkS γ h t) rfl PySem.F.plainAttrs_str PySem.F.slot_str_encode PySem.F.type_str_encode (fun a e => by cases e) ⟨h, t, rfl, q⟩⟩
theorem c_encode {Q : Value → Heap → Nat → Prop} (good : ∀ y ∈ x.cps, Str.isSurrogate y = false) (hz : (utf8 x).length ≤ 1000000) (q : ∀ b tk t, bInts b = utf8 x → Q (.bytes b tk) h t) :
  W γ A (call (.builtin "str.encode") [.str x u, .str (ofString "utf-8") v]) Q h t := by
 have sz : sizeLine = 16777216 := sizeLine_eq
 have hz' : (x.cps.foldl (fun acc y => acc ++ (Str.utf8Of y).toArray) (#[] : Array UInt8)).size ≤ sizeLine := by
  have := bInts_length (x.cps.foldl (fun acc y => acc ++ (Str.utf8Of y).toArray) #[]); unfold utf8 at hz; exact Nat.le_trans (Nat.le_trans (Nat.le_of_eq this.symm) hz) (by decide)
 refine ⟨wpAny_call_entry PySem.F.slot_str_encode rfl PySem.F.entry_str_encode ?_ (PySem.F.args_str_encode_2 _ _)⟩
 rw [enc_tree_utf8, road_utf8, enc_narrow (c := Builtin._codecs.utf8Codec) good hz']
 exact wpAny_bind (wpAny_bind (wpAny_pure (wpAny_mkBytes (wpAny_pure ⟨_, rfl, _, _, rfl, q _ _ _ rfl⟩) hz')))
theorem c_ascii {Q : Value → Heap → Nat → Prop} (good : ∀ y ∈ x.cps, y < 128) (hz : (ascii x).length ≤ 1000000) (q : ∀ b tk t, bInts b = ascii x → Q (.bytes b tk) h t) :
  W γ A (call (.builtin "str.encode") [.str x u, .str (ofString "ascii") v]) Q h t := by
 have sz : sizeLine = 16777216 := sizeLine_eq
 have hz' : (x.cps.foldl (fun acc y => acc ++ ([y.toUInt8]).toArray) (#[] : Array UInt8)).size ≤ sizeLine := by
  have := bInts_length (x.cps.foldl (fun acc y => acc ++ ([y.toUInt8]).toArray) #[]); unfold ascii at hz; exact Nat.le_trans (Nat.le_trans (Nat.le_of_eq this.symm) hz) (by decide)
 refine ⟨wpAny_call_entry PySem.F.slot_str_encode rfl PySem.F.entry_str_encode ?_ (PySem.F.args_str_encode_2 _ _)⟩
 rw [enc_tree_ascii, road_ascii, enc_narrow (c := Builtin._codecs.asciiCodec) (fun y hy => decide_eq_false (by have := good y hy; exact Nat.not_le.mpr this)) hz']
 exact wpAny_bind (wpAny_bind (wpAny_pure (wpAny_mkBytes (wpAny_pure ⟨_, rfl, _, _, rfl, q _ _ _ rfl⟩) hz')))
end
end
section
section
variable {h : Heap} {t : Nat} {gl cl : List (Str × Value)} {env : Env} {γ : G} {A : Around} {K : Frag} {D : Dm} {news rest : List (Addr × Obj)} {vars : List (Str × Option Value)} {a l : Addr} {items : List Value} {o : Obj} {v : Value}
theorem w_getm_list {name : Str} {id : String} {pl : Sem Bool} {Q : Value × List Value → Heap → Nat → Prop} (slot : Slot "list" name id) (hty : typeOf (.builtin id) = pure (.type "method_descriptor")) (ho : h.get? l = some o) (hl : LstO items.toArray o)
  (q : Q (.builtin id, [.ref l]) h t) : W γ A (getMethod (.ref l) name pl) Q h t := by
 obtain ⟨n, rfl⟩ := hl
 exact ⟨getMethod_builtin (s := mkS γ h t) ⟨_, ho, rfl⟩ PySem.F.plainAttrs_list slot hty (fun a' e => by cases e; exact ⟨_, ho, rfl⟩) ⟨h, t, rfl, q⟩⟩
theorem w_lappend {Q : Value → Heap → Nat → Prop} (F : Fx K D env gl cl vars news h) (p : Pick (l, o) news rest) (hl : LstO items.toArray o) (hn : items.length ≤ 1000000)
  (q : ∀ o' h', LstO (items ++ [v]).toArray o' → Fx K D env gl cl vars ((l, o') :: rest) h' → Q .none h' t) : W γ A (call (.builtin "list.append") [.ref l, v]) Q h t := by
 have sz : sizeLine = 16777216 := sizeLine_eq
 obtain ⟨n, rfl⟩ := hl
 refine ⟨wpAny_list_append_plain (s := mkS γ h t) ⟨n, F.got p⟩ (fun h' hl hs => ?_) (by simp; exact Nat.le_trans hn (by decide))⟩
 obtain ⟨n', e⟩ := hl
 have e2 : items.toArray.push v = (items ++ [v]).toArray := by simp
 rw [e2] at e
 exact ⟨h', t, rfl, q _ h' ⟨n', rfl⟩ ((F.pick p).upd (fun b x hb e => hs.extBut b x hb e) e)⟩
theorem w_len_bytes {b : Array UInt8} {u : Tok} {Q : Value → Heap → Nat → Prop} (hn : b.size ≤ 1000000) (q : Q (.int b.size (t + 1)) h (t + 2)) : W γ A (call (.builtin "len") [.bytes b u]) Q h t :=
 ⟨len_bytes (s := mkS γ h t) (Nat.le_trans hn (by decide)) ⟨h, t + 2, rfl, q⟩⟩
end
end
section
theorem slot_bi_next : Slot "bytes_iterator" "__next__" "bytes_iterator.__next__" :=
 .of (owner := "bytes_iterator") (n := "__next__") (by rw [typeLookup_type, builtinLookup_eq_fast]; kernel_rfl) (by decide +kernel) (by decide +kernel) (by decide +kernel)
  (by first | exact .inl (by decide +kernel) | exact .inr (by decide +kernel)) (by rw [isSubtype_type]; kernel_rfl)
theorem slot_ai_next : Slot "bytearray_iterator" "__next__" "bytearray_iterator.__next__" :=
 .of (owner := "bytearray_iterator") (n := "__next__") (by rw [typeLookup_type, builtinLookup_eq_fast]; kernel_rfl) (by decide +kernel) (by decide +kernel) (by decide +kernel)
  (by first | exact .inl (by decide +kernel) | exact .inr (by decide +kernel)) (by rw [isSubtype_type]; kernel_rfl)
theorem entry_bi_next : entryFor table "bytes_iterator.__next__" = some Builtin.«bytes_iterator.__next__» := entryFor_of_tree (by kernel_rfl)
theorem entry_ai_next : entryFor table "bytearray_iterator.__next__" = some Builtin.«bytearray_iterator.__next__» := entryFor_of_tree (by kernel_rfl)
theorem args_bi_next (a : Value) : argsOk "bytes_iterator.__next__" ⟨[a], []⟩ := by unfold argsOk; kernel_rfl
theorem args_ai_next (a : Value) : argsOk "bytearray_iterator.__next__" ⟨[a], []⟩ := by unfold argsOk; kernel_rfl
section
variable {A : Around} {prog : Program} {w : World} {E : Value → Shared → Prop} {s : Shared}
theorem stop_raises {α : Type} {Q : α → Shared → Prop} {E' : Value → Shared → Prop} (hh : A.handled = none)
  (q : ∀ e h', (∀ b o, s.heap.get? b = some o → h'.get? b = some o) → ({ s with heap := h' } : Shared).TypeIs e "StopIteration" → E' e { s with heap := h' }) : wpAny (model prog w) A (Builtin.SmallTypes.stopIteration : Sem α) Q E' s := by
 unfold Builtin.SmallTypes.stopIteration
 refine wpAny_bind ?_
 unfold newExc newTuple
 refine wpAny_bind (wpAny_newObj_type ?_ (by size_fits))
 refine wpAny_bind (m := firstArgMember _ _) (wpAny_of_eq (a := Value.none) rfl ?_)
 refine wpAny_newObj_type ?_ (by size_fits)
 unfold raiseNew
 refine wpAny_bind (wpAny_handled ?_)
 refine hh.symm ▸ ?_
 refine wpAny_bind (wpAny_pure (wpAny_throw ?_))
 exact q _ _ (fun b o e => Heap.get?_push_of_some _ (Heap.get?_push_of_some _ e)) ⟨_, Heap.get?_push_size _ rfl, rfl⟩
end
noncomputable def itObj (T : String) (x : Value) (i : Nat) : Obj := { cls := .type T, dict := none, data := .fields #[x, .int i 0], slots := #[] }
section
variable {h : Heap} {t : Nat} {γ : G} {A : Around} {it : Addr} {i : Nat}
theorem next_bytes {b : Array UInt8} {u : Tok} (hit : h.get? it = some (itObj "bytes_iterator" (.bytes b u) i)) {c : UInt8} (hc : b[i]? = some c) {Q : Option Value → Heap → Nat → Prop}
  (q : ∀ h', h'.get? it = some (itObj "bytes_iterator" (.bytes b u) (i + 1)) → Heap.SameBut it h h' → Q (some (.int (c.toNat : Int) t)) h' (t + 1)) : W γ A (pyNext (.ref it)) Q h t := by
 have hT : (mkS γ h t).TypeIs (.ref it) "bytes_iterator" := ⟨_, hit, rfl⟩
 refine ⟨?_⟩
 unfold pyNext
 refine wpAny_bind (wpAny_attempt (wpAny_callSpecial?_slot (name := ofString "__next__") hT slot_bi_next (wpAny_call_entry slot_bi_next hT entry_bi_next ?_ (args_bi_next _))))
 show wpAny _ _ (field (.ref it) 0 >>= _) _ _ _
 refine wpAny_bind (wpAny_field hit rfl (x := .bytes b u) rfl ?_)
 show wpAny _ _ (if (Value.bytes b u == Value.none) = true then _ else _) _ _ _
 refine wpAny_ifn (show ¬ ((Value.bytes b u == Value.none) = true) from Bool.false_ne_true) ?_
 show wpAny _ _ (field (.ref it) 1 >>= _) _ _ _
 refine wpAny_bind (wpAny_field hit rfl (x := .int i 0) rfl ?_)
 show wpAny _ _ (match b[((i : Nat) : Int).toNat]? with | some b => (setField (.ref it) 1 (rawInt ((i : Nat) + 1)) >>= fun ξ => retInt b.toNat) | none => _) _ _ _
 rw [Int.toNat_natCast, hc]
 refine wpAny_bind (wpAny_setField hit rfl (by simp) ?_)
 refine wpAny_bind (wpAny_mkInt (wpAny_pure ⟨_, rfl, wpAny_pure ⟨_, _, rfl, q _ ?_ (Heap.SameBut.update ..)⟩⟩))
 rw [Heap.get?_update_self _ hit rfl]
 rfl
theorem next_bytes_end {b : Array UInt8} {u : Tok} (hh : A.handled = none) (hit : h.get? it = some (itObj "bytes_iterator" (.bytes b u) i)) (hc : b[i]? = none) {Q : Option Value → Heap → Nat → Prop}
  (q : ∀ h', Heap.ExtBut it h h' → Q none h' t) : W γ A (pyNext (.ref it)) Q h t := by
 have hT : (mkS γ h t).TypeIs (.ref it) "bytes_iterator" := ⟨_, hit, rfl⟩
 refine ⟨?_⟩
 unfold pyNext
 refine wpAny_bind (wpAny_attempt (wpAny_callSpecial?_slot (name := ofString "__next__") hT slot_bi_next (wpAny_call_entry slot_bi_next hT entry_bi_next ?_ (args_bi_next _))))
 show wpAny _ _ (field (.ref it) 0 >>= _) _ _ _
 refine wpAny_bind (wpAny_field hit rfl (x := .bytes b u) rfl ?_)
 show wpAny _ _ (if (Value.bytes b u == Value.none) = true then _ else _) _ _ _
 refine wpAny_ifn (show ¬ ((Value.bytes b u == Value.none) = true) from Bool.false_ne_true) ?_
 show wpAny _ _ (field (.ref it) 1 >>= _) _ _ _
 refine wpAny_bind (wpAny_field hit rfl (x := .int i 0) rfl ?_)
 show wpAny _ _ (match b[((i : Nat) : Int).toNat]? with | some b => (setField (.ref it) 1 (rawInt ((i : Nat) + 1)) >>= fun ξ => retInt b.toNat) | none => (PySem.rule "bytes_iterator.__next__.end" >>= fun ξ => setField (.ref it) 0 .none >>= fun ξ => Builtin.SmallTypes.stopIteration)) _ _ _
 rw [Int.toNat_natCast, hc]
 refine wpAny_bind (wpAny_rule (wpAny_bind (wpAny_setField hit rfl (by simp) (stop_raises hh fun e h' kp hT => ?_))))
 refine wpAny_bind (wpAny_isInstance (T := "StopIteration") (b := true) hT isSubtype_stop ?_)
 exact wpAny_pure ⟨_, _, rfl, q _ fun b x hb e => kp _ _ ((Heap.get?_update_ne _ _ _ _ hb).trans e)⟩
theorem next_ba {a : Addr} {b : Array UInt8} {n : Nat} (hit : h.get? it = some (itObj "bytearray_iterator" (.ref a) i)) (ha : h.get? a = some { cls := .type "bytearray", dict := none, data := .bytearray b n, slots := #[] }) {c : UInt8} (hc : b[i]? = some c) {Q : Option Value → Heap → Nat → Prop}
  (q : ∀ h', h'.get? it = some (itObj "bytearray_iterator" (.ref a) (i + 1)) → Heap.SameBut it h h' → Q (some (.int (c.toNat : Int) t)) h' (t + 1)) : W γ A (pyNext (.ref it)) Q h t := by
 have hT : (mkS γ h t).TypeIs (.ref it) "bytearray_iterator" := ⟨_, hit, rfl⟩
 refine ⟨?_⟩
 unfold pyNext
 refine wpAny_bind (wpAny_attempt (wpAny_callSpecial?_slot (name := ofString "__next__") hT slot_ai_next (wpAny_call_entry slot_ai_next hT entry_ai_next ?_ (args_ai_next _))))
 show wpAny _ _ (field (.ref it) 0 >>= _) _ _ _
 refine wpAny_bind (wpAny_field hit rfl (x := .ref a) rfl ?_)
 show wpAny _ _ (load a >>= _) _ _ _
 refine wpAny_bind (wpAny_load ha ?_)
 show wpAny _ _ (field (.ref it) 1 >>= _) _ _ _
 refine wpAny_bind (wpAny_field hit rfl (x := .int i 0) rfl ?_)
 show wpAny _ _ (match b[((i : Nat) : Int).toNat]? with | some b => (setField (.ref it) 1 (rawInt ((i : Nat) + 1)) >>= fun ξ => retInt b.toNat) | none => _) _ _ _
 rw [Int.toNat_natCast, hc]
 refine wpAny_bind (wpAny_setField hit rfl (by simp) ?_)
 refine wpAny_bind (wpAny_mkInt (wpAny_pure ⟨_, rfl, wpAny_pure ⟨_, _, rfl, q _ ?_ (Heap.SameBut.update ..)⟩⟩))
 rw [Heap.get?_update_self _ hit rfl]
 rfl
theorem next_ba_end {a : Addr} {b : Array UInt8} {n : Nat} (hh : A.handled = none) (hit : h.get? it = some (itObj "bytearray_iterator" (.ref a) i)) (ha : h.get? a = some { cls := .type "bytearray", dict := none, data := .bytearray b n, slots := #[] }) (hc : b[i]? = none) {Q : Option Value → Heap → Nat → Prop}
  (q : ∀ h', Heap.ExtBut it h h' → Q none h' t) : W γ A (pyNext (.ref it)) Q h t := by
 have hT : (mkS γ h t).TypeIs (.ref it) "bytearray_iterator" := ⟨_, hit, rfl⟩
 refine ⟨?_⟩
 unfold pyNext
 refine wpAny_bind (wpAny_attempt (wpAny_callSpecial?_slot (name := ofString "__next__") hT slot_ai_next (wpAny_call_entry slot_ai_next hT entry_ai_next ?_ (args_ai_next _))))
 show wpAny _ _ (field (.ref it) 0 >>= _) _ _ _
 refine wpAny_bind (wpAny_field hit rfl (x := .ref a) rfl ?_)
 show wpAny _ _ (load a >>= _) _ _ _
 refine wpAny_bind (wpAny_load ha ?_)
 show wpAny _ _ (field (.ref it) 1 >>= _) _ _ _
 refine wpAny_bind (wpAny_field hit rfl (x := .int i 0) rfl ?_)
 show wpAny _ _ (match b[((i : Nat) : Int).toNat]? with | some b => (setField (.ref it) 1 (rawInt ((i : Nat) + 1)) >>= fun ξ => retInt b.toNat) | none => (PySem.rule "bytearray_iterator.__next__.end" >>= fun ξ => setField (.ref it) 0 .none >>= fun ξ => letGo [.ref a] >>= fun ξ => Builtin.SmallTypes.stopIteration)) _ _ _
 rw [Int.toNat_natCast, hc]
 refine wpAny_bind (wpAny_rule (wpAny_bind (wpAny_setField hit rfl (by simp) (wpAny_bind (wpAny_letGo (stop_raises hh fun e h' kp hT => ?_))))))
 refine wpAny_bind (wpAny_isInstance (T := "StopIteration") (b := true) hT isSubtype_stop ?_)
 exact wpAny_pure ⟨_, _, rfl, q _ fun b x hb e => kp _ _ ((Heap.get?_update_ne _ _ _ _ hb).trans e)⟩
end
end
section
theorem slot_ba_iter : Slot "bytearray" "__iter__" "bytearray.__iter__" :=
 .of (owner := "bytearray") (n := "__iter__") (by rw [typeLookup_type, builtinLookup_eq_fast]; kernel_rfl) (by decide +kernel) (by decide +kernel) (by decide +kernel)
  (by first | exact .inl (by decide +kernel) | exact .inr (by decide +kernel)) (by rw [isSubtype_type]; kernel_rfl)
theorem entry_ba_iter : entryFor table "bytearray.__iter__" = some Builtin.«bytearray.__iter__» := entryFor_of_tree (by kernel_rfl)
theorem args_ba_iter (a : Value) : argsOk "bytearray.__iter__" ⟨[a], []⟩ := by unfold argsOk; kernel_rfl
theorem by_len : typeLookup (.type "bytes") "__len__" = pure (some (.builtin "bytes.__len__")) := by rw [typeLookup_type, builtinLookup_eq_fast]; kernel_rfl
theorem ba_len : typeLookup (.type "bytearray") "__len__" = pure (some (.builtin "bytearray.__len__")) := by rw [typeLookup_type, builtinLookup_eq_fast]; kernel_rfl
theorem sub_by : isSubtype (.type "bytes") (.type "bytes") = pure true := by rw [isSubtype_type]; kernel_rfl
section
variable {h : Heap} {t : Nat} {γ : G} {A : Around} {K : Frag} {D : Dm} {news rest : List (Addr × Obj)}
structure OctIt (γ : G) (K : Frag) (D : Dm) (it : Addr) (row : List Int) (extra : List (Addr × Obj)) (St : Nat → Obj) : Prop where
 next : ∀ i rest A h t, i < row.length → Sc K D ((it, St i) :: extra ++ rest) h → W γ A (pyNext (.ref it)) (fun r h t => ∃ v tk, r = some (.int v tk) ∧ row[i]? = some v ∧ Sc K D ((it, St (i + 1)) :: extra ++ rest) h) h t
 last : ∀ rest A h t, A.handled = none → Sc K D ((it, St row.length) :: extra ++ rest) h → W γ A (pyNext (.ref it)) (fun r h t => r = none ∧ Sc K D (extra ++ rest) h) h t
theorem w_oct_loop {it l : Addr} {row : List Int} {extra : List (Addr × Obj)} {St : Nat → Obj} (I : OctIt γ K D it row extra St) (hh : A.handled = none) (hn : row.length ≤ 1000000) {R : Result → Shared → Prop} :
  ∀ (k i : Nat) (acc : List Value) (lo : Obj) (h : Heap) (t : Nat), i + k = row.length → IntsAre acc (row.take i) → LstO acc.toArray lo → Sc K D ((it, St i) :: extra ++ ((l, lo) :: rest)) h →
  (∀ vs lo h t, IntsAre vs row → LstO vs.toArray lo → Sc K D (extra ++ ((l, lo) :: rest)) h → R (.ok (.ret .none)) (mkS γ h t)) →
  codeAny (MM γ) A (.builtin "list.extend.loop" ⟨[.ref l, .ref it, .none], []⟩) R (mkS γ h t) := by
 have sz : sizeLine = 16777216 := sizeLine_eq
 intro k
 induction k with
 | zero =>
  intro i acc lo h t hk ha hl S hR
  obtain rfl : i = row.length := hk
  refine codeAny_builtin F.entry_extend_loop ?_
  refine (Around.under_plainId F.plain_extend_loop _).symm ▸ ?_
  show wpAny _ A.in1 (pyNext (.ref it) >>= _) _ _ _
  refine wpAny_bind (W.use (I.last _ _ _ _ hh S) fun r h t y => ?_)
  refine ek0_2 y fun z1 S => ?_; clear y; obtain rfl := z1
  exact wpAny_pure (hR acc lo h t (by simpa using ha) hl S)
 | succ k ih =>
  intro i acc lo h t hk ha hl S hR
  have hlt : i < row.length := Nat.lt_of_lt_of_eq (Nat.lt_add_of_pos_right (Nat.succ_pos k)) hk
  refine codeAny_builtin F.entry_extend_loop ?_
  refine (Around.under_plainId F.plain_extend_loop _).symm ▸ ?_
  show wpAny _ A.in1 (pyNext (.ref it) >>= _) _ _ _
  refine wpAny_bind (W.use (I.next i _ _ _ _ hlt S) fun r h t y => ?_)
  refine ek2_3 y fun v tk z1 hv S => ?_; clear y; obtain rfl := z1
  have S' : Sc K D ((l, lo) :: ((it, St (i + 1)) :: extra ++ rest)) h := S.perm List.perm_middle
  refine ek1_1 hl fun n z1 => ?_; clear hl; obtain rfl := z1
  show wpAny _ A.in1 (updateSeq l (·.push (.int v tk)) >>= _) _ _ _
  have al := ha.length
  rw [List.length_take, Nat.min_eq_left (Nat.le_of_lt hlt)] at al
  have ha' : IntsAre (acc ++ [.int v tk]) (row.take (i + 1)) := by
   obtain ⟨hh, e⟩ := List.getElem?_eq_some_iff.mp hv
   rw [List.take_succ_eq_append_getElem hh, e]
   exact IntsAre.append ha (.cons _ _ .nil)
  refine wpAny_bind (wpAny_updateSeq S'.head rfl (wpAny_pure ⟨plainId_quiet F.plain_extend_loop _, ?_⟩) (by simp; exact nZ (nA hn (nA (Nat.le_of_eq sz.symm) (nA hlt (Nat.le_of_eq al)))) (by kcf_m)) (by simp; exact nZ (nA hn (nA (Nat.le_of_eq sz.symm) (nA hlt (Nat.le_of_eq al)))) (by kcf_m)))
  obtain ⟨n', e⟩ : ∃ n', Obj.mapSeq (·.push (Value.int v tk)) { cls := .type "list", dict := none, data := .seq acc.toArray n, slots := #[] } = ({ cls := .type "list", dict := none, data := .seq (acc ++ [Value.int v tk]).toArray n', slots := #[] } : Obj) := by
   simp only [Obj.mapSeq]
   have e3 : (acc ++ [Value.int v tk]).toArray = acc.toArray.push (Value.int v tk) := by simp
   refine e3.symm ▸ ?_
   exact ⟨_, rfl⟩
  have S2 := S'.upd (h' := h.update l (Obj.mapSeq (·.push (.int v tk)))) (fun b x hb e => (Heap.get?_update_other _ _ (Ne.symm hb)).trans e) (Heap.get?_update_self _ S'.head rfl)
  rw [e] at S2
  exact ih (i + 1) _ _ _ _ ((Nat.succ_add i k).trans hk) ha' ⟨n', rfl⟩ (S2.perm List.perm_middle.symm) hR
theorem w_list_oct {x : Value} {T : String} {row : List Int} {extra : List (Addr × Obj)} {St : Nat → Obj} {Q : Value → Heap → Nat → Prop} (hTT : T = "bytes" ∨ T = "bytearray") (S : Sc K D (extra ++ rest) h) (hh : A.handled = none) (hn : row.length ≤ 1000000)
  (hT : ∀ rest h t, Sc K D (extra ++ rest) h → (mkS γ h t).TypeIs x T) (h1 : Builtin.List.listSameRef (.ref h.objs.size) x = false)
  (hint : ∀ A rest h t Q, Sc K D (extra ++ rest) h → Q false h t → W γ A (Builtin.List.listLengthHint x) Q h t)
  (hit : ∀ A rest h t, Sc K D (extra ++ rest) h → W γ A (pyIter x) (fun it h t => ∃ I, it = .ref I ∧ Sc K D ((I, St 0) :: extra ++ rest) h ∧ OctIt γ K D I row extra St) h t)
  (q : ∀ l lo vs h t, IntsAre vs row → LstO vs.toArray lo → Sc K D ((l, lo) :: (extra ++ rest)) h → Q (.ref l) h t) : W γ A (call (.type "list") [x]) Q h t := by
 have sz : sizeLine = 16777216 := sizeLine_eq
 refine ⟨callType_codes (Q₁ := fun obj s₁ => obj = .ref h.objs.size ∧ s₁ = mkS γ (h.push { cls := .type "list", data := .seq #[] }) t) F.called_list (F.typeCall_list_1 _) F.entry_list_init
  (code_list_new _ ⟨rfl, rfl⟩) fun obj s₁ h₁ => ?_⟩
 refine ek0_2 h₁ fun z1 z2 => ?_; clear h₁; obtain rfl := z1; obtain rfl := z2
 have S1 := S.push { cls := .type "list", data := .seq #[] }
 refine ⟨⟨_, S1.head, rfl⟩, F.args_list_init_2 _ _, ?_⟩
 show wpAny _ A.in1.in1 (do let old ← Builtin.List.listItems (.ref h.objs.size); Builtin.List.listUpdate (.ref h.objs.size) (fun ξ => #[]); letGo old.toList.reverse; Builtin.List.listExtendWith (.ref h.objs.size) x .none) _ _ _
 refine wpAny_bind ?_
 unfold Builtin.List.listItems
 refine wpAny_bind (wpAny_seqItems S1.head rfl (wpAny_pure ?_))
 show wpAny _ _ (updateSeq h.objs.size (fun ξ => #[]) >>= fun ξ => letGo (#[] : Array Value).toList.reverse >>= fun ξ => Builtin.List.listExtendWith (.ref h.objs.size) x .none) _ _ _
 refine wpAny_bind (wpAny_updateSeq S1.head rfl ?_)
 have S2 := S1.upd (h' := (h.push { cls := .type "list", data := .seq #[] }).update h.objs.size (Obj.mapSeq (fun ξ => (#[] : Array Value)))) (fun b x hb e => (Heap.get?_update_other _ _ (Ne.symm hb)).trans e) (Heap.get?_update_self _ S1.head rfl)
 refine wpAny_bind (wpAny_letGo ?_)
 unfold Builtin.List.listExtendWith
 have S3 := S2.perm (List.perm_middle (l₁ := extra)).symm
 refine wpAny_bind (wpAny_typeOf (s := mkS γ _ _) (hT _ _ _ S3) ?_)
 have h2 : (Value.type T == Value.type "list") = false := by rcases hTT with rfl | rfl <;> decide
 have h3 : (Value.type T == Value.type "tuple") = false := by rcases hTT with rfl | rfl <;> decide
 refine wpAny_ifn (by rw [h1, h2, h3]; decide) ?_
 refine wpAny_bind (W.use (hit _ _ _ t S3) fun it h2 t y => ?_)
 refine ek1_3 y fun I z1 S4 oc => ?_; clear y; obtain rfl := z1
 refine wpAny_bind (wpAny_holding (W.use (hint A.in1.in1 _ h2 t _ (S4.perm (List.perm_middle (l₁ := extra)).symm) ?_) fun ξ ξ ξ y => y))
 refine wpAny_ifn (by rcases hTT with rfl | rfl <;> decide) ?_
 refine wpAny_pure ⟨plainId_quiet F.plain_extend_loop _, w_oct_loop (A := A.in1) oc hh hn row.length 0 [] _ _ _ (Nat.zero_add _) .nil ⟨_, rfl⟩ S4 fun vs lo h t hv hl S => ?_⟩
 exact ⟨rfl, h, t, rfl, q _ lo vs h t hv hl (S.perm (List.perm_middle (l₁ := extra)))⟩
theorem hint_bytes {b : Array UInt8} {u : Tok} {Q : Bool → Heap → Nat → Prop} (q : Q false h t) : W γ A (Builtin.List.listLengthHint (.bytes b u)) Q h t := by
 refine ⟨?_⟩
 unfold Builtin.List.listLengthHint
 refine wpAny_bind (wpAny_specialOf (T := "bytes") (v := .bytes b u) rfl by_len ?_)
 wp_delta
 refine wpAny_bind (wpAny_isInstance (T := "bytes") (v := .bytes b u) (b := true) rfl sub_by ?_)
 show wpAny _ _ (typeOf (Value.bytes b u) >>= _) _ _ _
 refine wpAny_bind (wpAny_typeOf (T := "bytes") (v := .bytes b u) rfl ?_)
 exact wpAny_pure ⟨h, t, rfl, q⟩
theorem hint_ba {a : Addr} (hT : (mkS γ h t).TypeIs (.ref a) "bytearray") {Q : Bool → Heap → Nat → Prop} (q : Q false h t) : W γ A (Builtin.List.listLengthHint (.ref a)) Q h t := by
 refine ⟨?_⟩
 unfold Builtin.List.listLengthHint
 refine wpAny_bind (wpAny_specialOf (T := "bytearray") hT ba_len ?_)
 wp_delta
 refine wpAny_bind (wpAny_isInstance (T := "bytearray") (b := true) hT called_ba.sub ?_)
 show wpAny _ _ (typeOf (Value.ref a) >>= _) _ _ _
 refine wpAny_bind (wpAny_typeOf (T := "bytearray") hT ?_)
 exact wpAny_pure ⟨h, t, rfl, q⟩
theorem bi_next : typeLookup (.type "bytes_iterator") "__next__" = pure (some (.builtin "bytes_iterator.__next__")) := slot_bi_next.lookup
theorem ai_next : typeLookup (.type "bytearray_iterator") "__next__" = pure (some (.builtin "bytearray_iterator.__next__")) := slot_ai_next.lookup
theorem w_list_bytes {b : Array UInt8} {u : Tok} {Q : Value → Heap → Nat → Prop} (S : Sc K D rest h) (hh : A.handled = none) (hn : b.size ≤ 1000000)
  (q : ∀ l lo vs h t, IntsAre vs (bInts b) → LstO vs.toArray lo → Sc K D ((l, lo) :: rest) h → Q (.ref l) h t) : W γ A (call (.type "list") [.bytes b u]) Q h t := by
 refine w_list_oct (extra := []) (St := fun i => itObj "bytes_iterator" (.bytes b u) i) (.inl rfl) S hh (by rw [bInts_length]; exact hn) (fun ξ ξ ξ ξ => rfl) rfl (fun A rest h t Q S q => hint_bytes q) (fun A rest h t S => ?_) q
 refine ⟨wpAny_pyIter_slot (T := "bytes") rfl FB.slot_bytes_iter (wpAny_call_entry FB.slot_bytes_iter (T := "bytes") rfl FB.entry_bytes_iter ?_ (FB.args_bytes_iter_1 _))⟩
 show wpAny _ _ (newFields "bytes_iterator" [.bytes b u, rawInt 0] >>= fun v => ret v) _ _ _
 refine wpAny_bind ?_
 refine wpAny_newObj_type ?_ (by size_fits)
 have S1 := S.push (itObj "bytes_iterator" (.bytes b u) 0)
 refine wpAny_pure ⟨_, rfl, "bytes_iterator", _, ⟨_, S1.head, rfl⟩, bi_next, _, t, rfl, _, rfl, S1, ?_⟩
 refine ⟨fun i rest A h t hi S => ?_, fun rest A h t hh S => ?_⟩
 ·rw [bInts_length] at hi
  refine next_bytes S.head (c := b[i]) (by simp [hi]) fun h' e sb => ⟨_, _, rfl, ?_, S.upd (fun b x hb e => sb.extBut b x hb e) e⟩
  simp [bInts, KBw.bInts, hi]
 ·rw [bInts_length] at S
  exact next_bytes_end hh S.head (by simp) fun h' e => ⟨rfl, S.skip e⟩
theorem w_list_ba {a : Addr} {bs : List Int} {bo : Obj} {Q : Value → Heap → Nat → Prop} (S : Sc K D ((a, bo) :: rest) h) (hb : BaO bs bo) (hh : A.handled = none) (hn : bs.length ≤ 1000000)
  (q : ∀ l lo vs h t, IntsAre vs bs → LstO vs.toArray lo → Sc K D ((l, lo) :: (a, bo) :: rest) h → Q (.ref l) h t) : W γ A (call (.type "list") [.ref a]) Q h t := by
 have hb0 := hb
 refine ek1_2 hb fun b z1 z2 => ?_; clear hb; obtain rfl := z1; obtain rfl := z2
 rw [bInts_length] at hn
 have ty : ∀ rest h t, Sc K D ([(a, ({ cls := .type "bytearray", dict := none, data := .bytearray b 0, slots := #[] } : Obj))] ++ rest) h → (mkS γ h t).TypeIs (.ref a) "bytearray" := fun rest h t S => ⟨_, S.head, rfl⟩
 refine w_list_oct (extra := [(a, { cls := .type "bytearray", dict := none, data := .bytearray b 0, slots := #[] })]) (St := fun i => itObj "bytearray_iterator" (.ref a) i) (.inr rfl) S hh (by rw [bInts_length]; exact hn) ty (by simp [Builtin.List.listSameRef]; exact fun e => Nat.lt_irrefl _ (e ▸ Heap.lt_size S.head)) (fun A rest h t Q S q => hint_ba (ty _ _ t S) q) (fun A rest h t S => ?_) q
 refine ⟨wpAny_pyIter_slot (T := "bytearray") (ty _ _ t S) slot_ba_iter (wpAny_call_entry slot_ba_iter (T := "bytearray") (ty _ _ t S) entry_ba_iter ?_ (args_ba_iter _))⟩
 show wpAny _ _ (newFields "bytearray_iterator" [.ref a, rawInt 0] >>= fun v => ret v) _ _ _
 refine wpAny_bind ?_
 refine wpAny_newObj_type ?_ (by size_fits)
 have S1 := S.push (itObj "bytearray_iterator" (.ref a) 0)
 refine wpAny_pure ⟨_, rfl, "bytearray_iterator", _, ⟨_, S1.head, rfl⟩, ai_next, _, t, rfl, _, rfl, S1, ?_⟩
 refine ⟨fun i rest A h t hi S => ?_, fun rest A h t hh S => ?_⟩
 ·rw [bInts_length] at hi
  have S' := S.perm (.swap _ _ _)
  refine next_ba S.head S'.head (c := b[i]) (by simp [hi]) fun h' e sb => ⟨_, _, rfl, ?_, S.upd (fun b x hb e => sb.extBut b x hb e) e⟩
  simp [bInts, KBw.bInts, hi]
 ·rw [bInts_length] at S
  have S' := S.perm (.swap _ _ _)
  exact next_ba_end hh S.head S'.head (by simp) fun h' e => ⟨rfl, S.skip e⟩
end
end
section
section
variable {h : Heap} {t : Nat} {gl cl : List (Str × Value)} {env : Env} {b : Bool} {T : String} {γ : G} {A : Around} {K : Frag} {D : Dm} {news rest : List (Addr × Obj)} {vars : List (Str × Option Value)} {x : Value} {H : Heap → Prop} {Q : Value → Heap → Nat → Prop}
theorem w_isi {c : Value} (Z : KitX K x (.type T) H) (S : Sc K D news h) (p : H h) (e : kitOne K (.type T) c = some b) (q : ∀ tk, Q (.bool b) h tk) (hx : x ≠ .builtin "__main__.__loader__#opaque" := by intro e; cases e) :
  W γ A (call (.builtin "isinstance") [x, c]) Q h t :=
 ⟨kia_one (s := mkS γ h t) Z S.inK p e hx fun tk => ⟨h, tk, rfl, q tk⟩⟩
theorem w_isi_tup {tp : Addr} {o : Obj} {cs : List Value} (Z : KitX K x (.type T) H) (S : Sc K D news h) (p : H h) (ho : h.get? tp = some o) (hT : TupO cs o) (e : kitAny K (.type T) cs = some b) (q : ∀ tk, Q (.bool b) h tk) (hx : x ≠ .builtin "__main__.__loader__#opaque" := by intro e; cases e) :
  W γ A (call (.builtin "isinstance") [x, .ref tp]) Q h t := by
 obtain ⟨n, rfl⟩ := hT
 exact ⟨kia_tup (s := mkS γ h t) Z S.inK p ho e hx fun tk => ⟨h, tk, rfl, q tk⟩⟩
theorem w_isi_ba {a : Addr} {o : Obj} {bs : List Int} (ho : h.get? a = some o) (hb : BaO bs o) (q : ∀ tk, Q (.bool true) h tk) : W γ A (call (.builtin "isinstance") [.ref a, .type "bytearray"]) Q h t := by
 have hT := hb.type (γ := γ) (t := t) ho
 exact ⟨call_isinstance (isinstance_true F.isi_meta_bytearray F.isi_self_bytearray) ⟨hT, h, t, rfl, q t⟩⟩
theorem w_in_ints {l : Addr} {o : Obj} {vs : List Value} {ns : List Int} {k : Int} {u : Tok} (ho : h.get? l = some o) (hl : LsO vs o) (hi : IntsAre vs ns) (q : Q (.bool (ns.any (· == k))) h t) : W γ A (compareOp .In (.int k u) (.ref l)) Q h t :=
 ⟨in_list_ints (s := mkS γ h t) (hl.isList ho) hi ⟨h, t, rfl, q⟩⟩
end
end
section
section
variable {h : Heap} {t : Nat} {gl cl : List (Str × Value)} {env : Env} {γ : G} {A : Around} {K : Frag} {D : Dm} {news own rest : List (Addr × Obj)} {vars : List (Str × Option Value)}
theorem Fx.add2 {a b : Addr} {oa ob : Obj} {h' : Heap} (F : Fx K D env gl cl vars news h) (hk : ∀ b x, h.get? b = some x → h'.get? b = some x) (ha : h.objs.size ≤ a) (hb : h.objs.size ≤ b) (hab : a ≠ b) (ea : h'.get? a = some oa) (eb : h'.get? b = some ob) :
  Fx K D env gl cl vars ((a, oa) :: (b, ob) :: news) h' := by
 refine ek1_2 F.f fun oL S x => ?_
 have off : ∀ c, h.objs.size ≤ c → D c = none := fun c hc => by
  cases q : D c with
  | none => rfl
  | some x => exact absurd (Heap.lt_size (S.keep _ _ q)) (Nat.not_lt.mpr hc)
 have notin : ∀ c, h.objs.size ≤ c → c ∉ ((env.locals, oL) :: news).map (·.1) := fun c hc hm => by
  obtain ⟨p, hp, rfl⟩ := List.mem_map.mp hm
  exact absurd (Heap.lt_size (S.led p hp)) (Nat.not_lt.mpr hc)
 have S' := S.grow hk
 have S2 : Sc K D ((a, oa) :: (b, ob) :: (env.locals, oL) :: news) h' := by
  refine ⟨S.st, S'.keep, fun p hp => ?_, ?_, fun p hp => ?_⟩
  ·rcases List.mem_cons.mp hp with rfl | hp
   ·exact ea
   rcases List.mem_cons.mp hp with rfl | hp
   ·exact eb
   ·exact S'.led p hp
  ·refine List.nodup_cons.mpr ⟨fun hm => ?_, List.nodup_cons.mpr ⟨notin b hb, S.nodup⟩⟩
   rcases List.mem_cons.mp hm with e | hm
   ·exact hab e
   ·exact notin a ha hm
  ·rcases List.mem_cons.mp hp with rfl | hp
   ·exact off _ ha
   rcases List.mem_cons.mp hp with rfl | hp
   ·exact off _ hb
   ·exact S.off p hp
 exact ⟨F.e, oL, S2.perm (List.perm_middle (l₁ := [(a, oa), (b, ob)])), x⟩
theorem w_asg_tup2 {x y : Str} {px py pos : Pos} {k : Nat} {a : Addr} {o : Obj} {v1 v2 : Value} {Q : Unit → Heap → Nat → Prop} (F : Fx K D env gl cl vars news h) (hh : A.handled = none) (ho : D a = some o) (hT : TupO [v1, v2] o)
  (z : ∀ h, Fx K D env gl cl vars news h → W γ A (storeName env x v1) (fun ξ => W γ A (storeName env y v2) Q) h t) : W γ A (assign (.Tuple [.Name x px, .Name y py] k pos) env (.ref a)) Q h t := by
 refine ⟨wpAny_assign_Tuple (s := mkS γ h t) (items := [v1, v2].toArray) hh (hT.isTuple (F.sc.keep _ _ ho)) rfl rfl fun h' he => ?_⟩
 have kk : ∀ b x, h.get? b = some x → h'.get? b = some x := fun b x e => he b x (Nat.ne_of_lt (Heap.lt_size e)) e
 refine wpAny_assignInOrder_more (wpAny_assign_Name ((z h' (F.grow kk)).use fun ξ h t w => ?_))
 refine wpAny_assignInOrder_more (wpAny_assign_Name (w.use fun ξ h t w => ?_))
 exact wpAny_assignInOrder_none ⟨h, t, rfl, w⟩
theorem w_pyiter_lst {items : List Value} {o : Obj} {l : Addr} {Q : Value → Heap → Nat → Prop} (F : Fx K D env gl cl vars news h) (hl : D l = some o) (T : LstO items.toArray o)
  (q : ∀ it own h', (∀ tgt, Tgt tgt → ((∃ x p, tgt = .Name x p) ∨ ∀ v ∈ items, ∃ a, v = .ref a) → Iter γ K (.ref it) tgt items.length (ListSt l it items) (fun i ξ v => items[i]? = some v)) → ListSt l it items 0 D own → Fx K D env gl cl vars (news ++ own) h' → Q (.ref it) h' t) : PyIter γ A (.ref l) Q h t := by
 have F1 := F.push { cls := .type "list_iterator", data := .fields #[.ref l, .int 0 0] }
 exact ⟨⟨wpAny_pyIter_list (s := mkS γ h t) (T.isList (F.sc.keep _ _ hl)) ⟨_, t, rfl, q _ [_] _ (fun ξ ht hr => iter_list ht hr) (.mk hl T rfl rfl) (F1.perm (List.perm_append_comm (l₁ := [_]) (l₂ := news)))⟩⟩⟩
theorem w_call_enum {items : List Value} {o : Obj} {l : Addr} {Q : Value → Heap → Nat → Prop} (F : Fx K D env gl cl vars news h) (hl : D l = some o) (T : LstO items.toArray o)
  (q : ∀ e it own h', EnumSt l it e items 0 D own → Fx K D env gl cl vars (news ++ own) h' → Q (.ref e) h' t) : W γ A (call (.type "enumerate") [.ref l]) Q h t := by
 refine ⟨call_enumerate_list (s := mkS γ h t) (T.isList (F.sc.keep _ _ hl)) fun h' he hi hs hk => ⟨h', t, rfl, ?_⟩⟩
 refine ek1_3 hi fun oi e1 e2 e3 => ?_; clear hi
 have hz : h.objs.size + 1 ≠ h.objs.size := by kcf_m
 have F2 := F.add2 hk (Nat.le_succ h.objs.size) (Nat.le_refl _) hz he e1
 exact q _ _ [_, _] h' (.mk hl T e2 e3) (F2.perm (List.perm_append_comm (l₁ := [_, _]) (l₂ := news)))
theorem w_pyiter_enum {items : List Value} {l it e : Addr} {Q : Value → Heap → Nat → Prop} (F : Fx K D env gl cl vars (news ++ own) h) (st : EnumSt l it e items 0 D own)
  (q : Q (.ref e) h t) : PyIter γ A (.ref e) Q h t := by
 cases st with
 | mk a b c d => exact ⟨⟨wpAny_pyIter_enum (s := mkS γ h t) (it := it) (i := 0) (F.perm (List.perm_append_comm (l₁ := news))).sc.head ⟨h, t, rfl, q⟩⟩⟩
end
end
section
noncomputable def zip2 {α : Type} (ks vs : List α) : List α := (ks.zip vs).flatMap fun p => [p.1, p.2]
theorem zip2_length {α : Type} : ∀ (ks vs : List α), ks.length = vs.length → (zip2 ks vs).length = 2 * ks.length
 | [], [], _ => rfl
 | _ :: ks, _ :: vs, e => congrArg (· + 2) (zip2_length ks vs (Nat.succ.inj e))
theorem zip2_even {α : Type} : ∀ (ks vs : List α) (i : Nat), ks.length = vs.length → (zip2 ks vs)[2 * i]? = ks[i]?
 | [], [], i, _ => (List.getElem?_nil).trans List.getElem?_nil.symm
 | _ :: _, _ :: _, 0, _ => rfl
 | _ :: ks, _ :: vs, i + 1, e => zip2_even ks vs i (Nat.succ.inj e)
theorem zip2_odd {α : Type} : ∀ (ks vs : List α) (i : Nat), ks.length = vs.length → (zip2 ks vs)[2 * i + 1]? = vs[i]?
 | [], [], i, _ => (List.getElem?_nil).trans List.getElem?_nil.symm
 | _ :: _, _ :: _, 0, _ => rfl
 | _ :: ks, _ :: vs, i + 1, e => zip2_odd ks vs i (Nat.succ.inj e)
theorem zip2_append {α : Type} : ∀ (ks vs : List α) (k v : α), ks.length = vs.length → zip2 (ks ++ [k]) (vs ++ [v]) = zip2 ks vs ++ [k, v]
 | [], [], _, _, _ => rfl
 | a :: ks, b :: vs, k, v, e => congrArg (fun l => a :: b :: l) (zip2_append ks vs k v (Nat.succ.inj e))
theorem range_pick {α : Type} (xs : List α) : (List.range xs.length).filterMap (xs[·]?) = xs := by
 have := pick_run xs.toArray 0 xs.length
 simpa using this
theorem fm_congr {α β : Type} {f g : α → Option β} : ∀ {l : List α}, (∀ x ∈ l, f x = g x) → l.filterMap f = l.filterMap g
 | [], _ => rfl
 | a :: l, h => by rw [List.filterMap_cons, List.filterMap_cons, h a (.head _), fm_congr (fun x hx => h x (.tail _ hx))]
theorem pick_step2 (items : Array Value) (a n : Nat) (row : List Value) (hn : row.length = n) (hs : a + 2 * n = items.size ∨ (a + 2 * n = items.size + 1 ∧ 0 < n) ∨ (n = 0 ∧ items.size ≤ a)) (hp : ∀ k, k < n → items[a + 2 * k]? = row[k]?) :
  ((sliceRange (min a items.size : Nat) (items.size : Int) 2).filterMap (items[·]?)) = row := by
 have e : sliceRange (min a items.size : Nat) (items.size : Int) 2 = (List.range n).map (fun k => a + 2 * k) := by
  unfold sliceRange
  rw [if_pos (by decide)]
  clear hp
  by_cases h : ((min a items.size : Nat) : Int) < items.size
  ·rw [if_pos h]
   have h1 : a < items.size := by clear hs; kcf_m
   have b : items.size ≤ a + 2 * n ∧ a + 2 * n ≤ items.size + 1 := by
    clear h
    rcases hs with q | q | q
    ·kcf_m
    ·kcf_m
    ·kcf_m
   have m : min a items.size = a := Nat.min_eq_left (Nat.le_of_lt h1)
   clear hs h
   rw [m]
   have h2 : ((items.size : Int) - (a : Int) + 2 - 1) / 2 = n := by clear m h1; kcf_m
   rw [h2]
   dsimp only
   rw [Int.toNat_natCast]
   exact List.map_congr_left fun k ξ => Int.toNat_natCast (a + 2 * k)
  ·rw [if_neg h]
   have : n = 0 := by
    rcases hs with q | q | q
    ·kcf_m
    ·kcf_m
    ·exact q.1
   subst this; rfl
 rw [e, List.filterMap_map]
 subst hn
 refine Eq.trans ?_ (range_pick row)
 refine fm_congr fun k hk => ?_
 exact hp k (by simpa using hk)
theorem slice_step2 (items : Array Value) (a n : Nat) (row : List Value) (hn : row.length = n) (hs : a + 2 * n = items.size ∨ (a + 2 * n = items.size + 1 ∧ 0 < n) ∨ (n = 0 ∧ items.size ≤ a)) (hp : ∀ k, k < n → items[a + 2 * k]? = row[k]?) :
  slicePick items (some (a : Int)) none (some 2) = row.toArray := by
 unfold slicePick
 have e : sliceBounds (some (a : Int)) none (some 2) items.size = (((min a items.size : Nat) : Int), (items.size : Int), 2) := by
  clear hs hp hn
  have h1 : ¬ ((a : Int) < 0) := by kcf_m
  simp only [sliceBounds, Option.getD_some, h1, if_false, show (2 : Int) > 0 by decide, if_true]
  congr 1
  kcf_m
 rw [e]
 exact congrArg _ (pick_step2 items a n row hn hs hp)
theorem slice_step2' (items : Array Value) (n : Nat) (row : List Value) (hn : row.length = n) (hs : 2 * n = items.size) (hp : ∀ k, k < n → items[2 * k]? = row[k]?) :
  slicePick items none none (some 2) = row.toArray := by
 unfold slicePick
 have e : sliceBounds none none (some 2) items.size = (((min 0 items.size : Nat) : Int), (items.size : Int), 2) := by
  simp [sliceBounds]
 rw [e]
 exact congrArg _ (pick_step2 items 0 n row hn (.inl (nE hs (by kcf_m))) (fun k hk => by simpa using hp k hk))
section
variable {h : Heap} {t : Nat} {gl cl : List (Str × Value)} {env : Env} {γ : G} {A : Around} {K : Frag} {D : Dm} {news rest : List (Addr × Obj)} {vars : List (Str × Option Value)} {l sl : Addr} {o : Obj} {items : List Value} {vl vu vs : Value} {lo hi st : Option Int}
theorem w_part_none {Q : Value → Heap → Nat → Prop} (q : Q .none h t) : W γ A (evalPart none env) Q h t := w_pure q
theorem w_part_some {e : Expr} {Q : Value → Heap → Nat → Prop} (q : W γ A (eval e env) Q h t) : W γ A (evalPart (some e) env) Q h t := q
noncomputable def slObj (vl vu vs : Value) : Obj := { cls := .type "slice", data := .fields #[vl, vu, vs] }
theorem w_sl {lower upper step : Option Expr} {p : Pos} {Q : Value → Heap → Nat → Prop}
  (x : W γ A (evalPart lower env) (fun l => W γ A (evalPart upper env) (fun u => W γ A (evalPart step env) (fun st h t => Q (.ref h.objs.size) (h.push (slObj l u st)) t))) h t) :
  W γ A (eval (.Slice lower upper step p) env) Q h t :=
 ⟨wpAny_Slice (W.use x fun ξ ξ ξ y => W.use y fun ξ ξ ξ z => W.use z fun ξ h t q => ⟨_, t, rfl, q⟩)⟩
theorem w_tail_slice {value lower upper step : Expr} {slice : Expr} {Q : Value → Heap → Nat → Prop} (F : Fx K D env gl cl vars news h) (ho : h.get? l = some o) (hl : LsO items o) (pl : IsPart vl lo) (pu : IsPart vu hi) (ps : IsPart vs st) (h0 : st ≠ some 0) (hn : items.length ≤ 1000000)
  (q : ∀ a o h', LstO (slicePick items.toArray lo hi st) o → Fx K D env gl cl vars ((a, o) :: news) h' → Q (.ref a) h' t)
  {ops : List Value} (hs : subscripted slice false (.ref l) (.ref h.objs.size) = operate ops (getItem (.ref l) (.ref h.objs.size)) := by with_unfolding_all rfl) :
  W γ A (subscriptTail value slice (.ref l) (.ref h.objs.size)) Q (h.push (slObj vl vu vs)) t := by
 have sz : sizeLine = 16777216 := sizeLine_eq
 have F1 := F.push (slObj vl vu vs)
 have hl' : (h.push (slObj vl vu vs)).IsList l items.toArray := hl.isList (Heap.get?_push_of_some _ ho)
 refine ⟨tail_any (s := mkS γ _ t) hl'.typeIs slot_list_getitem.lookup (wpAny_getItem_list_slice hl' ⟨_, Heap.get?_push_size _ rfl, rfl, rfl⟩ pl pu ps h0 ⟨_, t, rfl, ?_⟩ (by simp; exact Nat.le_trans hn (by decide))) hs⟩
 exact q _ _ _ ⟨_, rfl⟩ ((F1.push { cls := .type "list", data := .seq (slicePick items.toArray lo hi st) }).perm (.swap _ _ _)).drop
theorem w_del_sub {o i : Expr} {p pos : Pos} {Q : Flow → Heap → Nat → Prop} (x : W γ A (eval o env) (fun ov => W γ A (eval i env) (fun iv => W γ A (delItem ov iv) (fun ξ => Q .next))) h t) :
  W γ A (exec (.Delete [.Subscript o i p] pos) env) Q h t :=
 ⟨wpAny_Delete (wpAny_deleteEach_cons (wpAny_delete_Subscript (W.use x fun ξ ξ ξ y => W.use y fun ξ ξ ξ z => W.use z fun ξ h t q => wpAny_deleteEach_nil ⟨h, t, rfl, q⟩)))⟩
theorem del_from (items : List Value) (a : Nat) : ((items.zipIdx).filterMap fun (p : Value × Nat) => if (decide ((a : Int) ≤ p.2) && decide ((p.2 : Int) < items.length) && ((p.2 : Int) - a) % 1 == 0) = true then none else some p.1) = items.take a := by
 have gen : ∀ (xs : List Value) (k n : Nat), k + xs.length ≤ n → ((xs.zipIdx k).filterMap fun (p : Value × Nat) => if (decide ((a : Int) ≤ p.2) && decide ((p.2 : Int) < n) && ((p.2 : Int) - a) % 1 == 0) = true then none else some p.1) = xs.take (a - k) := by
  intro xs
  induction xs with
  | nil => intro k n _; simp
  | cons x xs ih =>
   intro k n hn
   simp only [List.length_cons] at hn
   refine List.zipIdx_cons.symm ▸ ?_; refine List.filterMap_cons.symm ▸ ?_; refine (ih (k + 1) n (nZ hn (by kcf_m))).symm ▸ ?_
   by_cases hk : a ≤ k
   ·have c1 : (decide ((a : Int) ≤ k) && decide ((k : Int) < n) && ((k : Int) - a) % 1 == 0) = true := by simp [Int.emod_one]; exact ⟨(nZ hk (by kcf_m)), (nL hn (by kcf_m))⟩
    refine (show a - k = 0 by kcf_m).symm ▸ ?_; refine (show a - (k + 1) = 0 by kcf_m).symm ▸ ?_
    simp only [c1, if_true]
    simp
   ·have c1 : ¬ (decide ((a : Int) ≤ k) && decide ((k : Int) < n) && ((k : Int) - a) % 1 == 0) = true := by simp; exact hk.elim
    refine (show a - k = (a - (k + 1)) + 1 by kcf_m).symm ▸ ?_
    simp only [c1, if_false, List.take_succ_cons]
    simp
 simpa using gen items 0 items.length (by kcf_m)
theorem w_delitem_from {a : Nat} {u : Tok} {Q : Unit → Heap → Nat → Prop} (F : Fx K D env gl cl vars news h) (p : Pick (l, o) news rest) (hl : LstO items.toArray o) (ha : a ≤ items.length) (hn : items.length ≤ 1000000)
  (q : ∀ o' h', LstO (items.take a).toArray o' → Fx K D env gl cl vars ((l, o') :: rest) h' → Q () h' t) :
  W γ A (delItem (.ref l) (.ref h.objs.size)) Q (h.push (slObj (.int a u) .none .none)) t := by
 have sz : sizeLine = 16777216 := sizeLine_eq
 have F1 := ((F.push (slObj (.int a u) .none .none)).perm ((p.perm.cons _).trans (.swap _ _ _)))
 have ho := F1.sc.head
 obtain ⟨n, rfl⟩ := hl
 have hlT : (mkS γ (h.push (slObj (.int a u) .none .none)) t).TypeIs (.ref l) "list" := ⟨_, ho, rfl⟩
 have hos : (h.push (slObj (.int a u) .none .none)).get? h.objs.size = some (slObj (.int a u) .none .none) := Heap.get?_push_size _ rfl
 have hTs : (mkS γ (h.push (slObj (.int a u) .none .none)) t).TypeIs (.ref h.objs.size) "slice" := ⟨_, hos, rfl⟩
 refine ⟨wpAny_delItem_slot hlT (by decide) PySem.F.slot_list_delitem (wpAny_call_entry PySem.F.slot_list_delitem hlT PySem.F.entry_list_delitem ?_ (PySem.F.args_list_delitem_2 _ _))⟩
 show wpAny _ _ (Builtin.List.listSubscript? (.ref h.objs.size) >>= _) _ _ _
 refine wpAny_bind ?_
 unfold Builtin.List.listSubscript?
 refine wpAny_bind (wpAny_specialOf hTs slice_no_index ?_)
 refine wpAny_ifp rfl ?_
 refine wpAny_pure ?_
 show wpAny _ _ (typeOf (.ref h.objs.size) >>= _) _ _ _
 refine wpAny_bind (wpAny_typeOf hTs ?_)
 refine wpAny_ifn (by decide) ?_
 refine (listSliceParts_eq ..).symm ▸ ?_
 refine wpAny_bind (wpAny_bind (wpAny_field hos rfl (x := .none) rfl (wpAny_bind (wpAny_listPart .none ?_))))
 refine wpAny_ifn (by decide) ?_
 refine wpAny_bind (wpAny_field hos rfl (x := .int a u) rfl (wpAny_bind (wpAny_listPart (.int a u) ?_)))
 refine wpAny_bind (wpAny_field hos rfl (x := .none) rfl (wpAny_bind (wpAny_listPart .none (wpAny_pure ?_))))
 refine wpAny_bind (m := Builtin.List.listItems (.ref l)) ?_
 unfold Builtin.List.listItems
 refine wpAny_bind (wpAny_seqItems ho rfl (wpAny_pure ?_))
 refine wpAny_bind (wpAny_of_eq (sliceIndices_raw (some (a : Int)) none none items.toArray.size (by simp)) ?_)
 have e : sliceBounds (some (a : Int)) none none items.toArray.size = ((a : Int), (items.toArray.size : Int), 1) := by
  have h1 : ¬ ((a : Int) < 0) := by kcf_m
  simp only [sliceBounds, Option.getD_none, h1, if_false, show (1 : Int) > 0 by decide, if_true]
  congr 1
  simp; kcf_m
 refine e.symm ▸ ?_
 refine wpAny_bind (wpAny_rule ?_)
 refine wpAny_bind (m := updateSeq l _) (wpAny_updateSeq ho rfl ?_ (by simp; exact Nat.le_trans hn (by decide)) (by
  refine List.size_toArray.symm ▸ ?_
  refine Nat.le_trans (List.length_filterMap_le _ _) ?_
  simp; exact Nat.le_trans hn (by decide)))
 refine wpAny_bind (wpAny_letGo ?_)
 refine wpAny_pure ⟨_, rfl, _, t, rfl, ?_⟩
 have key : ∀ f : Array Value → Array Value, f items.toArray = (items.take a).toArray → Q () ((h.push (slObj (.int a u) .none .none)).update l (Obj.mapSeq f)) t := by
  intro f e
  have F2 := F1.upd (h' := (h.push (slObj (.int a u) .none .none)).update l (Obj.mapSeq f)) (fun b x hb e => (Heap.get?_update_other _ _ (Ne.symm hb)).trans e) (Heap.get?_update_self _ ho rfl)
  exact q _ _ ⟨_, by rw [← e]; rfl⟩ (F2.perm (.swap _ _ _)).drop
 exact key _ (congrArg List.toArray (del_from items a))
end
end
section
section
variable {h : Heap} {t : Nat} {env : Env} {γ : G} {A : Around}
noncomputable abbrev VOn (rest : List Stmt) (env : Env) (γ : G) (A : Around) (Q Q' : Flow → Heap → Nat → Prop) : Prop := ∀ f h t, VThen γ A rest env Q f h t → Q' f h t
noncomputable abbrev WOn (rest : List Stmt) (env : Env) (γ : G) (A : Around) (Q Q' : Flow → Heap → Nat → Prop) : Prop := ∀ f h t, Then γ A rest env Q f h t → Q' f h t
theorem v_execs_consq {st : Stmt} {rest : List Stmt} {Q : Flow → Heap → Nat → Prop} (x : ∀ Q' : Flow → Heap → Nat → Prop, VOn rest env γ A Q Q' → V γ A (exec st env) Q' h t) : V γ A (execs (st :: rest) env) Q h t :=
 v_execs_cons (x _ fun ξ ξ ξ y => y)
theorem w_execs_consq {st : Stmt} {rest : List Stmt} {Q : Flow → Heap → Nat → Prop} (x : ∀ Q' : Flow → Heap → Nat → Prop, WOn rest env γ A Q Q' → W γ A (exec st env) Q' h t) : W γ A (execs (st :: rest) env) Q h t :=
 w_execs_cons (x _ fun ξ ξ ξ y => y)
end
section
variable {α β : Type} {h h' : Heap} {t : Nat} {gl cl : List (Str × Value)} {env : Env} {γ : G} {A : Around} {K : Frag} {D D' : Dm} {own news news' : List (Addr × Obj)} {vars vars' : List (Str × Option Value)}
theorem w_for_itq {it : Value} {tgt : Expr} {n : Nat} {St P} {body : List Stmt} {Q : Flow → Heap → Nat → Prop} (I : Iter γ K it tgt n St P) (hh : A.handled = none)
  (Inv : Nat → Dm → List (Str × Option Value) → List (Addr × Obj) → Prop) (F : Fx K D env gl cl vars (news ++ own) h) (hst : St 0 D own) (h0 : Inv 0 D vars news)
  (imono : ∀ i D D' vars news, Le D D' → Inv i D vars news → Inv i D' vars news)
  (turn : ∀ i D' vars news own v h t (K0 : Flow → Heap → Nat → Prop), (∀ f h t, ((f = .next ∧ ∃ D'' vars' news', Le D' D'' ∧ Inv (i + 1) D'' vars' news' ∧ Fx K D'' env gl cl vars' (news' ++ own) h) ∨ (∃ u, f = .ret u ∧ Q f h t)) → K0 f h t) →
   Le D D' → i < n → Inv i D' vars news → P i D' v → Fx K D' env gl cl vars (news ++ own) h → W γ A (assign tgt env v) (fun ξ => W γ A (execs body env) K0) h t)
  (fin : ∀ D' vars news h t, Le D D' → Inv n D' vars news → Fx K D' env gl cl vars news h → Q .next h t) : ForR γ A tgt it body env Q h t :=
 w_for_it I hh Inv F hst h0 (fun i D' vars news own v h t a b c d e => turn i D' vars news own v h t _ (fun ξ ξ ξ y => y) a b c d e) imono fin
theorem v_for_itq {it : Value} {tgt : Expr} {n : Nat} {St P} {body : List Stmt} {Q : Flow → Heap → Nat → Prop} (I : Iter γ K it tgt n St P) (hh : A.handled = none)
  (Inv : Nat → Dm → List (Str × Option Value) → List (Addr × Obj) → Prop) (F : Fx K D env gl cl vars (news ++ own) h) (hst : St 0 D own) (h0 : Inv 0 D vars news)
  (imono : ∀ i D D' vars news, Le D D' → Inv i D vars news → Inv i D' vars news)
  (turn : ∀ i D' vars news own v h t (K0 : Flow → Heap → Nat → Prop), (∀ f h t, ((f = .next ∧ ∃ D'' vars' news', Le D' D'' ∧ Inv (i + 1) D'' vars' news' ∧ Fx K D'' env gl cl vars' (news' ++ own) h) ∨ (∃ u, f = .ret u ∧ Q f h t)) → K0 f h t) →
   Le D D' → i < n → Inv i D' vars news → P i D' v → Fx K D' env gl cl vars (news ++ own) h → W γ A (assign tgt env v) (fun ξ => V γ A (execs body env) K0) h t)
  (fin : ∀ D' vars news h t, Le D D' → Inv n D' vars news → Fx K D' env gl cl vars news h → Q .next h t) : VForR γ A tgt it body env Q h t :=
 v_for_it I hh Inv F hst h0 imono (fun i D' vars news own v h t a b c d e => turn i D' vars news own v h t _ (fun ξ ξ ξ y => y) a b c d e) fin
end
end
section
section
variable {h h' : Heap} {t : Nat} {gl cl : List (Str × Value)} {env : Env} {γ : G} {A : Around} {K : Frag} {D D' : Dm} {own rest news : List (Addr × Obj)} {vars : List (Str × Option Value)}
noncomputable abbrev sk (γ : G) := PySem.strKind γ.prog γ.w
noncomputable def itmObj (d : Addr) (i n ep : Nat) (ok ov : Value) : Obj := { cls := .type "dict_itemiterator", dict := none, data := .fields #[.none, .bool false, .ref d, .int i 0, .int n 0, .int ep 0, ok, ov], slots := #[] }
inductive ItemsSt (γ : G) (I d : Addr) (kvs : List (Str × Value)) (i : Nat) (D : Dm) : List (Addr × Obj) → Prop
 | mk {od : Obj} {ep : Nat} {ok ov : Value} : D d = some od → (∀ h : Heap, h.get? d = some od → h.DictAt (sk γ) d kvs ep) → ItemsSt γ I d kvs i D [(I, itmObj d i kvs.length ep ok ov)]
theorem isStrOf_of {s : Str} {v : Value} (e : v.isStrOf s = true) : ∃ tk, v = .str s tk := by
 cases v with
 | str x tk => exact ⟨tk, by rw [eq_of_beq (show (x == s) = true from e)]⟩
 | _ => exact Bool.noConfusion (show false = true from e)
theorem entry_itemiter : entryFor table "dict_itemiterator.__iter__" = some Builtin.«dict_keyiterator.__iter__» := entryFor_alias (id' := "dict_keyiterator.__iter__") ((fastTable_eq_tree _).trans (by kernel_rfl)) (by decide +kernel) (by decide +kernel) ((fastTable_eq_tree _).trans (by kernel_rfl))
theorem iter_items {I d : Addr} {kvs : List (Str × Value)} {es k p} : Iter γ K (.ref I) (.Tuple es k p) kvs.length (ItemsSt γ I d kvs)
  (fun i D v => ∃ s tk x a o, kvs[i]? = some (s, x) ∧ v = .ref a ∧ D a = some o ∧ TupO [.str s tk, x] o) := by
 refine ⟨?_, ?_, ?_, ?_⟩
 ·intro i D D' own le st; cases st with | mk a b => exact .mk (le _ _ a) b
 ·intro D own rest A h t Q st S q
  cases st with
  | mk a b =>
  have hT : (mkS γ h t).TypeIs (.ref I) "dict_itemiterator" := ⟨_, S.head, rfl⟩
  refine ⟨wpAny_pyIter_slot hT F.slot_dict_itemiterator_iter (wpAny_call_entry F.slot_dict_itemiterator_iter hT entry_itemiter ?_ (F.args_dict_itemiterator_iter_1 _))⟩
  show wpAny _ _ (ret (.ref I)) _ _ _
  exact wpAny_pure ⟨_, rfl, "dict_itemiterator", _, hT, F.slot_dict_itemiterator_next.lookup, h, t, rfl, q h t S⟩
 ·intro i D own rest A h t Q hh hi st S q
  cases st with
  | @mk od ep ok ov a b =>
  have hx : kvs[i]? = some (kvs[i].1, kvs[i].2) := List.getElem?_eq_getElem hi
  refine ⟨wpAny_pyNext_items_item (s := mkS γ h t) S.head (b _ (S.keep _ _ a)) hx fun key h' hk hit ht hz kp => ⟨h', t, rfl, q _ _ _ ?_⟩⟩
  refine ⟨wpAny_letOwnedTupleGo_items (s := mkS γ h' t) hit fun h₂ he₂ hs₂ => ⟨h₂, t, rfl, ?_⟩⟩
  have get2 : ∀ b x, b ≠ I → h'.get? b = some x → h₂.get? b = some x := fun b x hb q => (hs₂.2 b hb).trans q
  have noD := S.noD (Nat.le_refl _)
  refine ek1_1 (isStrOf_of hk) fun tk z1 => ?_; obtain rfl := z1
  have le := Dm.put_le (o := { cls := .type "tuple", data := .seq #[.str kvs[i].1 tk, kvs[i].2] }) noD
  exact .mk le (.mk (le _ _ a) b) ⟨kvs[i].1, tk, kvs[i].2, h.objs.size, _, hx, rfl, Dm.put_at _ _ _, ⟨_, rfl⟩⟩
   ((S.swap (ps := [(I, itmObj d i kvs.length ep ok ov)]) (ps' := [(I, itmObj d (i + 1) kvs.length ep (.str kvs[i].1 tk) kvs[i].2)]) rfl (List.forall_mem_cons.mpr ⟨he₂, List.forall_mem_nil _⟩)
    fun c x n g => have ne : c ≠ I := fun q => n (q ▸ .head _); get2 _ _ ne (kp _ _ ne g)).add (get2 _ _ (Nat.ne_of_gt (Heap.lt_size S.head)) ht) noD (show h.objs.size ∉ I :: rest.map (·.1) from S.noN (Nat.le_refl _))).freeze
 ·intro D own rest A h t Q hh st S q
  cases st with
  | mk a b => exact ⟨wpAny_pyNext_items_end (s := mkS γ h t) hh S.head (b _ (S.keep _ _ a)) (List.getElem?_eq_none (Nat.le_refl _)) fun h' he => ⟨h', t, rfl, q h' t (S.skip he)⟩⟩
theorem w_getm_items {d : Addr} {o : Obj} {kvs : List (Str × Value)} {pl : Sem Bool} {Q : Value × List Value → Heap → Nat → Prop} (e : h.get? d = some o) (x : o.IsDictOf (sk γ) kvs)
  (q : Q (.builtin "dict.items", [.ref d]) h t) : W γ A (getMethod (.ref d) (ofString "items") pl) Q h t := w_getm_dict PySem.F.slot_dict_items PySem.F.type_dict_items e x q
theorem c_dict_items {d : Addr} {o : Obj} {kvs : List (Str × Value)} {Q : Value → Heap → Nat → Prop} (e : h.get? d = some o) (x : o.IsDictOf (sk γ) kvs) (hd : (d == sysModules) = false)
  (q : Q (.ref h.objs.size) (h.push { cls := .type "dict_items", data := .fields #[.ref d] }) t) : W γ A (call (.builtin "dict.items") [.ref d]) Q h t :=
 ⟨call_meetsIn PySem.F.slot_dict_items (dictOf x e).typeIs PySem.F.entry_dict_items (PySem.F.args_dict_items_1 _) (meets_dict_items (sk γ) d hd) ⟨⟨_, dictOf x e⟩, _, t, rfl, q⟩⟩
theorem w_pyiter_items {d : Addr} {o : Obj} {kvs : List (Str × Value)} {Q : Value → Heap → Nat → Prop} (F : Fx K D env gl cl vars news h) (ho : D d = some o) (x : o.IsDictOf (sk γ) kvs)
  (q : ∀ I own h', ItemsSt γ I d kvs 0 D own → Fx K D env gl cl vars (news ++ own) h' → Q (.ref I) h' t) : PyIter γ A (.ref h.objs.size) Q (h.push { cls := .type "dict_items", data := .fields #[.ref d] }) t := by
 refine ek2_5 x fun es n h1 h2 h3 h4 h5 => ?_; clear x
 have F1 := F.push { cls := .type "dict_items", data := .fields #[.ref d] }
 have F2 := F1.push (itmObj d 0 kvs.length n .none .none)
 have at' : ∀ h : Heap, h.get? d = some o → h.DictAt (sk γ) d kvs n := fun h e => ⟨o, es, e, h1, h2, h3, h4, h5⟩
 refine ⟨⟨wpAny_pyIter_items (s := mkS γ _ t) (kvs := kvs) (ep := n) ⟨_, F1.sc.head, rfl, rfl⟩ (at' _ (F1.sc.keep _ _ ho)) ⟨_, t, rfl, q _ [(_, itmObj d 0 kvs.length n .none .none)] _ (.mk ho at') ?_⟩⟩⟩
 exact (F2.perm (.swap _ _ _)).drop.perm (List.perm_append_comm (l₁ := [_]) (l₂ := news))
end
end
section
section
variable {A : Around} {prog : Program} {w : World} {E : Value → Shared → Prop} {s : Shared}
theorem wpAny_alive {M : Model} {a : Addr} {Q : Option Obj → Shared → Prop} (h : Q (s.heap.get? a) s) : wpAny M A (loadIfAlive a) Q E s := by
 intro Γ p hi
 show Sem.wp M Γ (.loadIfAlive a .pure) _ _ _ _
 rw [Sem.wp_loadIfAlive]
 exact h
noncomputable abbrev ZipO (h : Heap) (z TI TO T : Addr) (f1 : Bool) : Prop :=
 h.get? z = some { cls := .type "zip", dict := none, data := .fields #[rawInt T, .bool f1, .bool false, .ref TI, .ref TO], slots := #[] }
theorem zip_free_no {z TI TO T : Addr} {f1 : Bool} {oT : Obj} {Q : Bool → Shared → Prop} (hz : ZipO s.heap z TI TO T f1) (hT : s.heap.get? T = some oT)
  (hQ : ∀ h', ZipO h' z TI TO T true → Heap.SameBut z s.heap h' → Q false { s with heap := h' }) : wpAny (model prog w) A (Builtin.SmallTypes.ownedTupleIsFree (.ref z)) Q E s := by
 unfold Builtin.SmallTypes.ownedTupleIsFree
 refine wpAny_bind (wpAny_field hz rfl (x := rawInt T) rfl ?_)
 show wpAny _ _ (loadIfAlive (T : Int).toNat >>= _) _ _ _
 refine (show (T : Int).toNat = T by exact rfl).symm ▸ ?_
 refine wpAny_bind (wpAny_alive ?_)
 refine hT.symm ▸ ?_
 refine wpAny_ifn Bool.false_ne_true ?_
 refine wpAny_bind (wpAny_field hz rfl (x := .bool f1) rfl ?_)
 cases f1
 ·rw [if_pos (by decide)]
  refine wpAny_bind (wpAny_setField_rec hz (by simp) fun h' hz' hs' => ?_)
  exact wpAny_pure (hQ h' hz' hs')
 ·rw [if_neg (by decide)]
  exact wpAny_pure (hQ s.heap hz (.refl _ _))
theorem zip_more {z TI TO T i1 i2 l1 l2 : Addr} {f1 : Bool} {oT : Obj} {k : Nat} {xs ys : Array Value} {x y : Value} {Q : Option Value → Shared → Prop} (zT : T ≠ z) (D : ZipApart z TI TO i1 i2 l1 l2) (hz : ZipO s.heap z TI TO T f1) (hT : s.heap.get? T = some oT) (hTI : IsPair s.heap TI (.ref i1) (.ref i2))
  (h1 : s.heap.IsListIter i1 l1 k) (h2 : s.heap.IsListIter i2 l2 k) (hl1 : s.heap.IsList l1 xs) (hl2 : s.heap.IsList l2 ys) (hx : xs[k]? = some x) (hy : ys[k]? = some y)
  (hQ : ∀ h', ZipO h' z TI TO T true → h'.IsListIter i1 l1 (k + 1) → h'.IsListIter i2 l2 (k + 1) → IsPair h' s.heap.objs.size x y → h'.objs.size = s.heap.objs.size + 1 →
   (∀ c o, c ≠ z → c ≠ i1 → c ≠ i2 → s.heap.get? c = some o → h'.get? c = some o) → Q (some (.ref s.heap.objs.size)) { s with heap := h' }) : wpAny (model prog w) A (pyNext (.ref z)) Q E s := by
 have hTy : s.TypeIs (.ref z) "zip" := ⟨_, hz, rfl⟩
 unfold pyNext
 refine wpAny_bind (wpAny_attempt (wpAny_callSpecial?_slot (name := ofString "__next__") hTy F.slot_zip_next
  (wpAny_call_entry F.slot_zip_next hTy F.entry_zip_next ?_ (F.args_zip_next_1 _))))
 show wpAny _ _ (field (.ref z) 2 >>= _) _ _ _
 refine wpAny_bind (wpAny_field hz rfl (x := .bool false) rfl ?_)
 show wpAny _ _ (field (.ref z) 3 >>= _) _ _ _
 refine wpAny_bind (wpAny_field hz rfl (x := .ref TI) rfl ?_)
 refine wpAny_bind (wpAny_seqItems hTI rfl ?_)
 show wpAny _ _ (Builtin.SmallTypes.ownedTupleIsFree (.ref z) >>= _) _ _ _
 refine wpAny_bind (zip_free_no hz hT fun h₁ hz₁ hs₁ => ?_)
 refine wpAny_ifn Bool.false_ne_true ?_
 dsimp only
 rw [← Array.forIn_toList, List.forIn_cons]
 refine wpAny_bind ?_
 refine wpAny_bind (wpAny_bind (wpAny_holding ?_))
 show wpAny _ _ (Builtin.SmallTypes.nextOf (.ref i1) >>= _) _ _ _
 refine wpAny_bind (wpAny_nextOf_list_item (h1.extBut hs₁.extBut D.i1z) (hl1.extBut hs₁.extBut D.l1z) hx fun h₂ h1₂ hs₂ => wpAny_pure (wpAny_pure ?_))
 dsimp only
 rw [List.forIn_cons]
 refine wpAny_bind (wpAny_bind (wpAny_holding ?_))
 show wpAny _ _ (Builtin.SmallTypes.nextOf (.ref i2) >>= _) _ _ _
 refine wpAny_bind (wpAny_nextOf_list_item ((h2.extBut hs₁.extBut D.i2z).extBut hs₂.extBut D.i12.symm) ((hl2.extBut hs₁.extBut D.l2z).extBut hs₂.extBut D.l2i1) hy fun h₃ h2₃ hs₃ => wpAny_pure (wpAny_pure (wpAny_pure ?_)))
 have hsz : h₃.objs.size = s.heap.objs.size := by rw [hs₃.1, hs₂.1, hs₁.1]
 have hk : ∀ c o, c ≠ z → c ≠ i1 → c ≠ i2 → s.heap.get? c = some o → h₃.get? c = some o := fun c o c1 c2 c3 e => hs₃.extBut _ _ c3 (hs₂.extBut _ _ c2 (hs₁.extBut _ _ c1 e))
 refine wpAny_bind (wpAny_newTuple ?_ (by show 2 ≤ sizeLine; rw [sizeLine_eq]; decide))
 refine wpAny_pure ⟨_, rfl, ?_⟩
 refine wpAny_pure ?_
 show Q (some (.ref h₃.objs.size)) _
 refine hsz.symm ▸ ?_
 have hz₃ : ZipO h₃ z TI TO T true := hs₃.extBut _ _ D.i2z.symm (hs₂.extBut _ _ D.i1z.symm hz₁)
 have h1₃ : h₃.IsListIter i1 l1 (k + 1) := h1₂.extBut hs₃.extBut D.i12
 refine hQ _ (Heap.get?_push_of_some _ hz₃) (h1₃.at fun o e => Heap.get?_push_of_some _ e) (h2₃.at fun o e => Heap.get?_push_of_some _ e) ?_ (by rw [Heap.size_push, hsz]) fun c o c1 c2 c3 e => Heap.get?_push_of_some _ (hk c o c1 c2 c3 e)
 have := Heap.get?_push_size h₃ (o := { cls := .type "tuple", data := .seq ((#[].push x).push y) }) rfl
 rw [hsz] at this
 exact this
theorem zip_stop {z TI TO T i1 i2 l1 l2 : Addr} {f1 : Bool} {oT : Obj} {k : Nat} {xs : Array Value} {Q : Option Value → Shared → Prop} (hh : A.handled = none) (zT : T ≠ z) (D : ZipApart z TI TO i1 i2 l1 l2) (hz : ZipO s.heap z TI TO T f1) (hT : s.heap.get? T = some oT) (hTI : IsPair s.heap TI (.ref i1) (.ref i2))
  (h1 : s.heap.IsListIter i1 l1 k) (hl1 : s.heap.IsList l1 xs) (hx : xs[k]? = none)
  (hQ : ∀ h', (∀ c o, c ≠ z → c ≠ i1 → c ≠ i2 → s.heap.get? c = some o → h'.get? c = some o) → Q none { s with heap := h' }) : wpAny (model prog w) A (pyNext (.ref z)) Q E s := by
 have hTy : s.TypeIs (.ref z) "zip" := ⟨_, hz, rfl⟩
 unfold pyNext
 refine wpAny_bind (wpAny_attempt (wpAny_callSpecial?_slot (name := ofString "__next__") hTy F.slot_zip_next
  (wpAny_call_entry F.slot_zip_next hTy F.entry_zip_next ?_ (F.args_zip_next_1 _))))
 show wpAny _ _ (field (.ref z) 2 >>= _) _ _ _
 refine wpAny_bind (wpAny_field hz rfl (x := .bool false) rfl ?_)
 show wpAny _ _ (field (.ref z) 3 >>= _) _ _ _
 refine wpAny_bind (wpAny_field hz rfl (x := .ref TI) rfl ?_)
 refine wpAny_bind (wpAny_seqItems hTI rfl ?_)
 show wpAny _ _ (Builtin.SmallTypes.ownedTupleIsFree (.ref z) >>= _) _ _ _
 refine wpAny_bind (zip_free_no hz hT fun h₁ hz₁ hs₁ => ?_)
 refine wpAny_ifn Bool.false_ne_true ?_
 dsimp only
 rw [← Array.forIn_toList, List.forIn_cons]
 refine wpAny_bind ?_
 refine wpAny_bind (wpAny_bind (wpAny_holding ?_))
 show wpAny _ _ (Builtin.SmallTypes.nextOf (.ref i1) >>= _) _ _ _
 refine wpAny_bind (wpAny_nextOf_list_end hh (h1.extBut hs₁.extBut D.i1z) (hl1.extBut hs₁.extBut D.l1z) hx fun h₂ e hs₂ he => ?_)
 refine ek1_2 he fun o ho hc => ?_; clear he
 refine wpAny_bind (wpAny_isInstance (T := "StopIteration") (b := true) ⟨o, ho, hc⟩ isSubtype_stop ?_)
 exact wpAny_pure (hQ _ fun c o c1 c2 c3 e => hs₂ _ _ c2 (hs₁.extBut _ _ c1 e))
end
noncomputable def zipObj (f0 : Value) (f1 : Bool) (TI TO : Addr) : Obj := { cls := .type "zip", dict := none, data := .fields #[f0, .bool f1, .bool false, .ref TI, .ref TO], slots := #[] }
noncomputable def LitO (l : Addr) (i : Nat) (o : Obj) : Prop := o.cls = .type "list_iterator" ∧ o.data = .fields #[.ref l, .int i 0]
noncomputable def pairObj (x y : Value) : Obj := { cls := .type "tuple", data := .seq #[x, y] }
inductive ZT (D : Dm) (TI TO : Addr) : Obj → Obj → Prop
 | fst : ZT D TI TO (zipObj .none false TI TO) (pairObj .none .none)
 | nxt {T : Nat} {f1 : Bool} {oT oO : Obj} : D T = some oT → ZT D TI TO (zipObj (rawInt T) f1 TI TO) oO
inductive ZSt (z TI TO i1 i2 l1 l2 : Addr) (xs ys : List Value) (i : Nat) (D : Dm) : List (Addr × Obj) → Prop
 | mk {oz oO o1 o2 L1 L2 : Obj} : D TI = some (pairObj (.ref i1) (.ref i2)) → D l1 = some L1 → LstO xs.toArray L1 → D l2 = some L2 → LstO ys.toArray L2 → LitO l1 i o1 → LitO l2 i o2 → ZT D TI TO oz oO →
   ZSt z TI TO i1 i2 l1 l2 xs ys i D [(z, oz), (TO, oO), (i1, o1), (i2, o2)]
section
variable {h h' : Heap} {t : Nat} {gl cl : List (Str × Value)} {env : Env} {γ : G} {A : Around} {K : Frag} {D D' : Dm} {own rest news ps ps' : List (Addr × Obj)} {vars : List (Str × Option Value)} {z TI TO i1 i2 l1 l2 : Addr} {xs ys : List Value} {i : Nat}
theorem ZSt.apart (st : ZSt z TI TO i1 i2 l1 l2 xs ys i D own) (S : Sc K D (own ++ rest) h) : ZipApart z TI TO i1 i2 l1 l2 := by
 cases st with
 | mk a1 a3 a4 a5 a6 a7 a8 a9 =>
 have n1 := List.nodup_cons.mp S.nodup
 have n2 := List.nodup_cons.mp n1.2
 have n3 := List.nodup_cons.mp n2.2
 have z0 := fun {b o} => S.ne (b := b) (o := o) (.head _)
 have z1 := fun {b o} => S.ne (b := b) (o := o) (.tail _ (.head _))
 have z2 := fun {b o} => S.ne (b := b) (o := o) (.tail _ (.tail _ (.head _)))
 have z3 := fun {b o} => S.ne (b := b) (o := o) (.tail _ (.tail _ (.tail _ (.head _))))
 exact { TIz := z0 a1, TOz := nm n1.1 (.head _), i1z := nm n1.1 (.tail _ (.head _)), i2z := nm n1.1 (.tail _ (.tail _ (.head _))), TITO := z1 a1, TIi1 := z2 a1, TIi2 := z3 a1, TOi1 := (nm n2.1 (.head _)).symm, TOi2 := (nm n2.1 (.tail _ (.head _))).symm, i12 := (nm n3.1 (.head _)).symm, l1z := z0 a3, l1TO := z1 a3, l1i1 := z2 a3, l1i2 := z3 a3, l2z := z0 a5, l2TO := z1 a5, l2i1 := z2 a5, l2i2 := z3 a5 }
theorem ZSt.shape (st : ZSt z TI TO i1 i2 l1 l2 xs ys i D own) : ∃ oz oO o1 o2, own = [(z, oz), (TO, oO), (i1, o1), (i2, o2)] := by cases st with | mk => exact ⟨_, _, _, _, rfl⟩
theorem w_zip_next {x y : Value} {Q : Option Value → Heap → Nat → Prop} (st : ZSt z TI TO i1 i2 l1 l2 xs ys i D own) (S : Sc K D (own ++ rest) h) (hx : xs[i]? = some x) (hy : ys[i]? = some y)
  (q : ∀ a D' own' o h', Le D D' → D' a = some o → TupO [x, y] o → ZSt z TI TO i1 i2 l1 l2 xs ys (i + 1) D' own' → Sc K D' (own' ++ rest) h' → Q (some (.ref a)) h' t) : W γ A (pyNext (.ref z)) Q h t := by
 have Ap := st.apart S
 cases st with
 | @mk oz oO o1 o2 L1 L2 a1 a3 a4 a5 a6 a7 a8 a9 =>
 have z0 := S.led (z, oz) (.head _)
 have z1 := S.led (TO, oO) (.tail _ (.head _))
 have z2 := S.led (i1, o1) (.tail _ (.tail _ (.head _)))
 have z3 := S.led (i2, o2) (.tail _ (.tail _ (.tail _ (.head _))))
 have hx' : xs.toArray[i]? = some x := (List.getElem?_toArray ..).trans hx
 have hy' : ys.toArray[i]? = some y := (List.getElem?_toArray ..).trans hy
 have noD := S.noD (Nat.le_refl _)
 have noN : ∀ a b c d : Obj, h.objs.size ∉ ([(z, a), (TO, b), (i1, c), (i2, d)] ++ rest).map (·.1) := fun ξ ξ ξ ξ => show h.objs.size ∉ z :: TO :: i1 :: i2 :: rest.map (·.1) from S.noN (Nat.le_refl _)
 have le := Dm.put_le (o := pairObj x y) noD
 have fin : ∀ (h' : Heap) oz' oO' o1' o2', h'.get? z = some oz' → h'.get? TO = some oO' → h'.get? i1 = some o1' → h'.get? i2 = some o2' → h'.get? h.objs.size = some (pairObj x y) →
   (∀ c o, c ≠ z → c ≠ TO → c ≠ i1 → c ≠ i2 → h.get? c = some o → h'.get? c = some o) → Sc K (D.put h.objs.size (pairObj x y)) ([(z, oz'), (TO, oO'), (i1, o1'), (i2, o2')] ++ rest) h' :=
  fun h' oz' oO' o1' o2' e0 e1 e2 e3 e4 kp => Sc.freeze (Sc.add (S.swap (ps := [(z, oz), (TO, oO), (i1, o1), (i2, o2)]) (ps' := [(z, oz'), (TO, oO'), (i1, o1'), (i2, o2')]) rfl (List.forall_mem_cons.mpr ⟨e0, List.forall_mem_cons.mpr ⟨e1, List.forall_mem_cons.mpr ⟨e2, List.forall_mem_cons.mpr ⟨e3, List.forall_mem_nil _⟩⟩⟩⟩)
   fun c o n => kp c o (fun e => n (e ▸ .head _)) (fun e => n (e ▸ .tail _ (.head _))) (fun e => n (e ▸ .tail _ (.tail _ (.head _)))) fun e => n (e ▸ .tail _ (.tail _ (.tail _ (.head _))))) e4 noD (noN _ _ _ _))
 cases a9 with
 | fst =>
  refine ⟨wpAny_pyNext_zip_item (s := mkS γ h t) Ap z0 (S.keep _ _ a1) z1 ⟨_, z2, a7.1, a7.2⟩ ⟨_, z3, a8.1, a8.2⟩ (a4.isList (S.keep _ _ a3)) (a6.isList (S.keep _ _ a5)) hx' hy' fun h' b1 b2 b3 b4 b5 b6 kp => ⟨h', t, rfl, ?_⟩⟩
  refine ek1_3 b3 fun o1' c1 c2 c3 => ?_; clear b3
  refine ek1_3 b4 fun o2' d1 d2 d3 => ?_; clear b4
  exact q _ _ _ _ h' le (Dm.put_at _ _ _) ⟨_, rfl⟩ (.mk (le _ _ a1) (le _ _ a3) a4 (le _ _ a5) a6 ⟨c2, c3⟩ ⟨d2, d3⟩ (.nxt (f1 := false) (Dm.put_at _ _ _))) (fin h' _ _ _ _ b1 b2 c1 d1 b5 kp)
 | @nxt T f1 oT _ eT =>
  refine ⟨zip_more (s := mkS γ h t) (S.ne (.head _) eT) Ap z0 (S.keep _ _ eT) (S.keep _ _ a1) ⟨_, z2, a7.1, a7.2⟩ ⟨_, z3, a8.1, a8.2⟩ (a4.isList (S.keep _ _ a3)) (a6.isList (S.keep _ _ a5)) hx' hy' fun h' b1 b3 b4 b5 b6 kp => ⟨h', t, rfl, ?_⟩⟩
  refine ek1_3 b3 fun o1' c1 c2 c3 => ?_; clear b3
  refine ek1_3 b4 fun o2' d1 d2 d3 => ?_; clear b4
  exact q _ _ _ _ h' le (Dm.put_at _ _ _) ⟨_, rfl⟩ (.mk (le _ _ a1) (le _ _ a3) a4 (le _ _ a5) a6 ⟨c2, c3⟩ ⟨d2, d3⟩ (.nxt (f1 := true) (le _ _ eT))) (fin h' _ _ _ _ b1 (kp _ _ Ap.TOz Ap.TOi1 Ap.TOi2 z1) c1 d1 b5 fun c o n1 ξ n3 n4 e => kp c o n1 n3 n4 e)
theorem w_zip_last {Q : Option Value → Heap → Nat → Prop} (hh : A.handled = none) (st : ZSt z TI TO i1 i2 l1 l2 xs ys i D own) (S : Sc K D (own ++ rest) h) (hx : xs[i]? = none) (q : ∀ h', Sc K D rest h' → Q none h' t) : W γ A (pyNext (.ref z)) Q h t := by
 have Ap := st.apart S
 cases st with
 | @mk oz oO o1 o2 L1 L2 a1 a3 a4 a5 a6 a7 a8 a9 =>
 have z0 := S.led (z, oz) (.head _)
 have z1 := S.led (TO, oO) (.tail _ (.head _))
 have z2 := S.led (i1, o1) (.tail _ (.tail _ (.head _)))
 have z3 := S.led (i2, o2) (.tail _ (.tail _ (.tail _ (.head _))))
 have hx' : xs.toArray[i]? = none := (List.getElem?_toArray ..).trans hx
 have fin : ∀ (h' : Heap), (∀ c o, c ≠ z → c ≠ TO → c ≠ i1 → c ≠ i2 → h.get? c = some o → h'.get? c = some o) → Sc K D rest h' :=
  fun h' kp => S.leave (ps := [(z, oz), (TO, oO), (i1, o1), (i2, o2)]) fun c o n => kp c o (fun e => n (e ▸ .head _)) (fun e => n (e ▸ .tail _ (.head _))) (fun e => n (e ▸ .tail _ (.tail _ (.head _)))) fun e => n (e ▸ .tail _ (.tail _ (.tail _ (.head _))))
 cases a9 with
 | fst => exact ⟨wpAny_pyNext_zip_end (s := mkS γ h t) hh Ap z0 (S.keep _ _ a1) z1 ⟨_, z2, a7.1, a7.2⟩ ⟨_, z3, a8.1, a8.2⟩ (a4.isList (S.keep _ _ a3)) (a6.isList (S.keep _ _ a5)) (.inl hx') fun h' kp => ⟨h', t, rfl, q h' (fin h' kp)⟩⟩
 | nxt eT => exact ⟨zip_stop (s := mkS γ h t) hh (S.ne (.head _) eT) Ap z0 (S.keep _ _ eT) (S.keep _ _ a1) ⟨_, z2, a7.1, a7.2⟩ (a4.isList (S.keep _ _ a3)) hx' fun h' kp => ⟨h', t, rfl, q h' (fin h' fun c o n1 ξ n3 n4 e => kp c o n1 n3 n4 e)⟩⟩
theorem ne_add {n a b : Nat} (h : a ≠ b) : n + a ≠ n + b := fun e => h (Nat.add_left_cancel e)
theorem w_call_zip {Q : Value → Heap → Nat → Prop} {L1 L2 : Obj} (F : Fx K D env gl cl vars news h) (e1 : D l1 = some L1) (h1 : LstO xs.toArray L1) (e2 : D l2 = some L2) (h2 : LstO ys.toArray L2)
  (q : ∀ z TI TO i1 i2 D' own h', Le D D' → ZSt z TI TO i1 i2 l1 l2 xs ys 0 D' own → Fx K D' env gl cl vars (own ++ news) h' → Q (.ref z) h' t) : W γ A (call (.type "zip") [.ref l1, .ref l2]) Q h t := by
 refine ⟨call_zip_2 (s := mkS γ h t) (h1.isList (F.sc.keep _ _ e1)) (h2.isList (F.sc.keep _ _ e2)) fun h' b1 b2 b3 b4 b5 b6 kp => ⟨h', t, rfl, ?_⟩⟩
 refine ek1_3 b4 fun o1 c1 c2 c3 => ?_; clear b4
 refine ek1_3 b5 fun o2 d1 d2 d3 => ?_; clear b5
 refine ek1_2 F.f fun oL S fr => ?_
 have no : ∀ k, D (h.objs.size + k) = none := fun k => S.noD (Nat.le_add_right _ k)
 have nn : ∀ k, h.objs.size + k ∉ ((env.locals, oL) :: news).map (·.1) := fun k => S.noN (Nat.le_add_right _ k)
 have nc := fun {k j : Nat} {l : List Addr} (d : k ≠ j) (n : h.objs.size + k ∉ l) => List.not_mem_cons_of_ne_of_not_mem (ne_add (n := h.objs.size) d) n
 have s1 := (S.grow kp).add d1 (no 1) (nn 1)
 have s2 := s1.add c1 (no 0) (nc (by decide) (nn 0))
 have s3 := s2.add b3 (no 3) (nc (j := 0) (by decide) (nc (by decide) (nn 3)))
 have s4 := s3.add b1 (no 4) (nc (by decide) (nc (j := 0) (by decide) (nc (by decide) (nn 4))))
 have s5 := s4.add b2 (no 2) (nc (by decide) (nc (by decide) (nc (j := 0) (by decide) (nc (by decide) (nn 2)))))
 have le := Dm.put_le (o := pairObj (.ref h.objs.size) (.ref (h.objs.size + 1))) (no 2)
 exact q _ _ _ _ _ _ _ h' le (.mk (Dm.put_at _ _ _) (le _ _ e1) h1 (le _ _ e2) h2 ⟨c2, c3⟩ ⟨d2, d3⟩ .fst) ⟨F.e.mono le, oL, s5.freeze.perm (List.perm_middle (l₁ := [_, _, _, _])), fr⟩
end
end
section
noncomputable abbrev KyK := PyProof.Rows.KeyKind
noncomputable def KeysAre (κ : KyK) (vs : List Value) (ks : List κ.α) : Prop := vs.map κ.keyOf = ks.map some
noncomputable def SortOut (κ : KyK) (ks : List κ.α) (vs out : List Value) : Prop := ∃ ps : List (κ.α × Value), ps.Perm (ks.zip vs) ∧ out = ps.map (·.2) ∧ ps.Pairwise (fun p q => κ.kle p.1 q.1)
theorem KeysAre.length {κ : KyK} {vs : List Value} {ks : List κ.α} (h : KeysAre κ vs ks) : vs.length = ks.length := by simpa using congrArg List.length h
theorem sort_out {κ : KyK} {keys : Array Value} {vs : List Value} {ks : List κ.α} (hk : KeysAre κ keys.toList ks) {xs : Array Keyed} (hp : xs.Perm (keys.zip vs.toArray)) (hs : SortedToK κ xs xs.size) : SortOut κ ks vs (xs.map (·.2)).toList := by
 have hl : xs.toList.Perm (keys.toList.zip vs) := by rw [← ksk_zip]; exact Array.perm_iff_toList_perm.mp hp
 have e1 : keys.toList.map (fun v => (κ.keyOf v).getD κ.dflt) = ks := by
  have := congrArg (List.map (fun o : Option κ.α => o.getD κ.dflt)) hk
  simpa [Function.comp_def] using this
 have h1 : (xs.toList.map (fun p : Keyed => ((κ.keyOf p.1).getD κ.dflt, p.2))).Perm (ks.zip vs) := by
  have e2 : (keys.toList.zip vs).map (fun p : Keyed => ((κ.keyOf p.1).getD κ.dflt, p.2)) = ks.zip vs := by
   rw [← e1, List.zip_map_left]
   rfl
  rw [← e2]; exact hl.map _
 refine ⟨_, h1, by simp [Function.comp_def], ?_⟩
 rw [List.pairwise_map, List.pairwise_iff_getElem]
 intro i j hi hj hij
 have hi' : i < xs.size := by simpa using hi
 have hj' : j < xs.size := by simpa using hj
 have := hs i j (Nat.le_of_lt hij) hj'
 unfold KK at this
 rw [Array.getElem?_eq_getElem hi', Array.getElem?_eq_getElem hj'] at this
 simpa using this
section
variable {h h' : Heap} {t : Nat} {γ : G} {A : Around} {K : Frag} {D D' : Dm} {news rest : List (Addr × Obj)} {a kS : Addr} {vs : List Value} {κ : KyK} {ks : List κ.α} {P : PySem.Fin → Heap → Nat → Prop}
theorem Sc.setl {a : Addr} {xs : Array Value} {n : Nat} {f : Array Value → Array Value} (S : Sc K D ((a, seqObj "list" xs n) :: news) h) : ∃ n', Sc K D ((a, seqObj "list" (f xs) n') :: news) (h.update a (Obj.mapSeq f)) := by
 have s1 := Heap.SameBut.update h a (Obj.mapSeq f)
 exact ⟨_, S.upd (fun b x hb e => (s1.2 b hb).trans e) (get?_update_seq S.head f)⟩
theorem w_sort_tail {st : SortSt} {keys : Array Value} {e e1 : Nat} (S : Sc K D ((kS, seqObj "list" keys e) :: (a, seqObj "list" #[] e1) :: news) h) (hk : KeysAre κ keys.toList ks) (hlen : ks.length = vs.length) (h64 : vs.length < 64)
  (hp : (arrOf st).Perm (keys.zip vs.toArray)) (hs : SortedToK κ (arrOf st) (arrOf st).size) (hfl : failedOf st = none)
  (q : ∀ out o h t, SortOut κ ks vs out → LstO out.toArray o → Sc K D ((a, o) :: news) h → P (.done (.ret .none)) h t) : W γ A (ksk_tail a false e1 (.ref kS) st) P h t := by
 have sz : sizeLine = 16777216 := sizeLine_eq
 have hl : keys.size = ks.length := by simpa using hk.length
 have hsz2 : (arrOf st).size = vs.length := by rw [hp.size_eq]; simp only [Array.size_zip, List.size_toArray]; kcf_m
 obtain ⟨n1, S1⟩ := S.setl (f := fun ξ => #[])
 have S2 := S1.drop
 obtain ⟨n2, S3⟩ := S2.setl (f := fun ξ => (arrOf st).map (·.2))
 unfold ksk_tail
 refine ⟨?_⟩
 try dsimp only
 refine wpAny_bind (listUpdate_at (s := mkS γ h t) S.head rfl ?_ (nZ (nA (Nat.le_of_eq hlen) (nA h64 (nA (Nat.le_of_eq sz.symm) (Nat.le_of_eq hl)))) (by kcf_m)) (Nat.zero_le _))
 refine wpAny_bind (wpAny_letGo ?_)
 refine wpAny_bind (seqEpoch_at S2.head rfl ?_)
 refine wpAny_bind (listUpdate_at S2.head rfl ?_ (Nat.zero_le _) (by simp; exact nZ (nA h64 (nA (Nat.le_of_eq sz.symm) (Nat.le_of_eq hsz2))) (by kcf_m)))
 refine hfl.symm ▸ ?_
 simp only [bne_self_eq_false, Bool.false_eq_true, if_false]
 exact wpAny_pure ⟨_, t, rfl, q _ _ _ _ (sort_out hk hp hs) ⟨n2, by simp only [Array.toArray_toList, seqObj]⟩ S3⟩
theorem w_sort_end {b : Bool} {keys : Array Value} {e e1 : Nat} (hb : b = false) (hO : κ.OneLt) (hkk : ∀ keys : List Value, KeysAre κ keys ks → 2 ≤ keys.length → keyKind' keys.toArray = pure oneType')
  (S : Sc K D ((kS, seqObj "list" keys e) :: (a, seqObj "list" #[] e1) :: news) h) (hk : KeysAre κ keys.toList ks) (hlen : ks.length = vs.length) (h64 : vs.length < 64)
  (q : ∀ out o h t, SortOut κ ks vs out → LstO out.toArray o → Sc K D ((a, o) :: news) h → P (.done (.ret .none)) h t) : W γ A (ksk_end a b vs.toArray e1 (.ref kS) keys) P h t := by
 have hl : keys.size = ks.length := by simpa using hk.length
 have hzs : (keys.zip vs.toArray).size = vs.length := by simp only [Array.size_zip, List.size_toArray]; kcf_m
 unfold ksk_end
 refine ⟨?_⟩
 try dsimp only
 have hnb : ¬ (b = true) := by rw [hb]; decide
 have hpr : (if b = true then (keys.zip vs.toArray).reverse else keys.zip vs.toArray) = keys.zip vs.toArray := if_neg hnb
 rw [hpr]; refine wpAny_ifn hnb ?_
 by_cases h2 : vs.toArray.size < 2
 ·refine wpAny_ifp h2 ?_; rw [if_pos h2]
  refine wpAny_bind (wpAny_pure ?_)
  rw [StateT.run_pure]
  refine wpAny_bind (wpAny_pure ?_)
  try dsimp only
  subst hb
  refine (w_sort_tail (st := SortSt.mk' general' (keys.zip vs.toArray) #[] 7 none) S hk hlen h64 (.refl _) ?_ rfl q).out
  intro i j hij hj
  have hj2 : j < (keys.zip vs.toArray).size := hj
  rw [hzs] at hj2
  rw [List.size_toArray] at h2
  have : i = j := by kcf_m
  subst this
  exact KeyOrd.kle_refl _
 ·refine wpAny_ifn h2 ?_; rw [if_neg h2]
  rw [List.size_toArray] at h2
  have ek : keyKind' keys = pure oneType' := by
   have := hkk keys.toList hk (by rw [Array.length_toList]; exact nZ (nA (Nat.le_of_eq hlen.symm) (nA (Nat.le_of_eq hl.symm) (Nat.le_of_not_lt h2))) (by kcf_m))
   rwa [Array.toArray_toList] at this
  refine ek.symm ▸ ?_
  refine wpAny_bind (wpAny_pure ?_)
  have hko : KeysOf κ (keys.zip vs.toArray) := by
   intro p hp
   rw [ksk_zip] at hp
   obtain ⟨x, y⟩ := p
   have hx := (List.of_mem_zip hp).1
   have : κ.keyOf x ∈ ks.map some := by rw [← hk]; exact List.mem_map_of_mem hx
   refine ek1_2 (List.mem_map.mp this) fun k ξ e => ?_
   exact ⟨k, e.symm⟩
  refine wpAny_bind (wpAny_mono (wpS_sortRunsK (κ := κ) hO (a₀ := keys.zip vs.toArray) (st := SortSt.mk' oneType' (keys.zip vs.toArray) #[] 7 none)
   (Q := fun ξ st' => (arrOf st').Perm (keys.zip vs.toArray) ∧ failedOf st' = none ∧ SortedToK κ (arrOf st') (keys.zip vs.toArray).size)
   hko ⟨.refl _, rfl, rfl, rfl⟩ (by rw [hzs]; exact Nat.le_of_not_lt h2) (by rw [hzs]; exact h64) fun st' a1 a2 a3 => ⟨a1, a2, a3⟩) ?_ fun ξ ξ e => e)
  intro y1 s' y2; obtain ⟨⟨⟩, st'⟩ := y1; refine ek0_4 y2 fun z1 hp hf hs => ?_; clear y2; obtain rfl := z1
  try dsimp only
  subst hb
  exact (w_sort_tail S hk hlen h64 hp (by rw [hp.size_eq]; exact hs) hf q).out
noncomputable def Turns (γ : G) (A : Around) (K : Frag) (D : Dm) (news : List (Addr × Obj)) (κ : KyK) (f : Value) (vs : List Value) (ks : List κ.α) : Prop :=
 ∀ (i : Nat) (v : Value) (k : κ.α), vs[i]? = some v → ks[i]? = some k → ∀ D' own h t, Le D D' → Sc K D' (own ++ news) h → W γ A (call f [v]) (fun kv h t => κ.keyOf kv = some k ∧ ∃ D'', Le D' D'' ∧ Sc K D'' (own ++ news) h) h t
theorem w_sort_rest {f : Value} {e1 : Nat} (hO : κ.OneLt) (hkk : ∀ keys : List Value, KeysAre κ keys ks → 2 ≤ keys.length → keyKind' keys.toArray = pure oneType')
  (S : Sc K D ((kS, seqObj "list" #[] 0) :: (a, seqObj "list" #[] e1) :: news) h) (hlen : ks.length = vs.length) (h64 : vs.length < 64) (turn : Turns γ A K D news κ f vs ks)
  (q : ∀ D' out o h t, Le D D' → SortOut κ ks vs out → LstO out.toArray o → Sc K D' ((a, o) :: news) h → P (.done (.ret .none)) h t) : W γ A (ksk_rest a f false vs.toArray e1 (.ref kS)) P h t := by
 have sz : sizeLine = 16777216 := sizeLine_eq
 unfold ksk_rest
 refine ⟨wpAny_bind (wpAny_rule ?_)⟩
 first
  | (refine List.forIn_toArray.symm ▸ ?_)
  | (rw [← Array.forIn_toList]; simp only [List.toList_toArray])
  | rw [← Array.forIn_toList]
 refine wpAny_bind (ksk_fold (fun i s' => ∃ D' h' t' kA e, s' = mkS γ h' t' ∧ Le D D' ∧ Sc K D' ((kS, seqObj "list" kA e) :: (a, seqObj "list" #[] e1) :: news) h' ∧ KeysAre κ kA.toList (ks.take i)) vs 0 (mkS γ h t)
  ⟨D, h, t, #[], 0, rfl, Le.refl _, S, rfl⟩ ?step ?done)
 case step =>
  intro j x s' hx y1; refine ek5_4 y1 fun D' h' t' kA e z1 le S' hk => ?_; clear y1; obtain rfl := z1
  simp only [Nat.zero_add] at hk ⊢
  have hj : j < vs.length := (List.getElem?_eq_some_iff.mp hx).1
  obtain ⟨k, hkj⟩ : ∃ k, ks[j]? = some k := ⟨_, List.getElem?_eq_getElem (Nat.lt_of_lt_of_eq hj hlen.symm)⟩
  have hz : kA.size ≤ vs.length := by
   have h1 := hk.length
   simp at h1
   kcf_m
  refine wpAny_bind (wpAny_attempt (W.use (turn j x k hx hkj D' [(kS, seqObj "list" kA e), (a, seqObj "list" #[] e1)] h' t' le S') fun kv h t y => ?_))
  refine ek0_2 y fun ek z1 => ?_; clear y; refine ek1_2 z1 fun D2 le2 S2 => ?_; clear z1
  refine ek1_1 (S2.setl (f := (·.push kv))) fun n2 S3 => ?_
  try dsimp only
  refine wpAny_bind (listUpdate_at (s := mkS γ h t) S2.head rfl ?_ (nZ (nA h64 (nA (Nat.le_of_eq sz.symm) hz)) (by kcf_m)) (Nat.le_trans (Nat.le_of_eq (Array.size_push ..)) (nZ (nA h64 (nA (Nat.le_of_eq sz.symm) hz)) (by kcf_m))))
  refine wpAny_pure ⟨rfl, D2, _, t, kA.push kv, n2, rfl, le.trans le2, S3, ?_⟩
  have et : ks.take (j + 1) = ks.take j ++ [k] := by rw [List.take_add_one, hkj]; simp
  unfold KeysAre
  rw [et, Array.toList_push, List.map_append, List.map_append, hk, List.map_cons, ek]
  rfl
 case done =>
  intro s' y1; refine ek5_4 y1 fun D' h' t' kA e z1 le S' hk => ?_; clear y1; obtain rfl := z1
  have e3 : ks.take (0 + vs.length) = ks := List.take_of_length_le (nZ (Nat.le_of_eq hlen) (by kcf_m))
  rw [e3] at hk
  try dsimp only
  refine wpAny_bind (listItems_at (s := mkS γ h' t') S'.head rfl ?_)
  exact (w_sort_end rfl hO hkk S' hk hlen h64 fun out o h t a1 a2 a3 => q D' out o h t le a1 a2 a3).out
theorem w_sort_tree {f : Value} {n : Nat} (hO : κ.OneLt) (hkk : ∀ keys : List Value, KeysAre κ keys ks → 2 ≤ keys.length → keyKind' keys.toArray = pure oneType')
  (S : Sc K D ((a, seqObj "list" vs.toArray n) :: news) h) (hlen : ks.length = vs.length) (h64 : vs.length < 64) (turn : Turns γ A K D news κ f vs ks)
  (q : ∀ D' out o h t, Le D D' → SortOut κ ks vs out → LstO out.toArray o → Sc K D' ((a, o) :: news) h → P (.done (.ret .none)) h t) : W γ A (ksk_tree a f false) P h t := by
 have sz : sizeLine = 16777216 := sizeLine_eq
 obtain ⟨n1, S1⟩ := S.setl (f := fun ξ => #[])
 have S2 := (S1.push { cls := .type "tuple", data := .seq vs.toArray }).drop
 have S3 := S2.push (seqObj "list" #[] 0)
 unfold ksk_tree
 refine ⟨wpAny_bind (listItems_at (s := mkS γ h t) S.head rfl ?_)⟩
 refine wpAny_bind (listUpdate_at (s := mkS γ h t) S.head rfl ?_ (by rw [List.size_toArray]; exact Nat.le_trans (Nat.le_of_lt h64) (by decide)) (Nat.zero_le _))
 refine wpAny_bind (seqEpoch_at S1.head rfl ?_)
 refine wpAny_bind (wpAny_newTuple ?_ (by show vs.length ≤ _; exact Nat.le_trans (Nat.le_of_lt h64) (by decide)))
 refine wpAny_bind (wpAny_newList ?_ (Nat.zero_le _))
 exact wpAny_holding (w_sort_rest hO hkk S3 hlen h64 turn q).out
theorem w_sorted {it f : Value} {Q : Value → Heap → Nat → Prop} (hO : κ.OneLt) (hkk : ∀ keys : List Value, KeysAre κ keys ks → 2 ≤ keys.length → keyKind' keys.toArray = pure oneType')
  (ha1 : argsOk "sorted" ⟨[it], [(ofString "key", f)]⟩) (ha2 : ∀ x, argsOk "list.sort" ⟨[.ref x], [(ofString "key", f)]⟩) (ht : ∀ x, Builtin.«list.sort» ⟨[.ref x], [(ofString "key", f)]⟩ = ksk_tree x f false)
  (col : W γ A.in1 (collect it) (fun vs h t => ∃ D₁, Le D D₁ ∧ Sc K D₁ news h ∧ vs.length < 64 ∧ ks.length = vs.length ∧ Turns γ A.in1.in1 K D₁ news κ f vs ks ∧
   (∀ D' l out o h t, Le D₁ D' → SortOut κ ks vs out → LstO out.toArray o → Sc K D' ((l, o) :: news) h → Q (.ref l) h t)) h t) :
  W γ A (call (.builtin "sorted") [it] [(ofString "key", f)]) Q h t := by
 have sz : sizeLine = 16777216 := sizeLine_eq
 refine ⟨call_function_entry_kw kind_sorted plain_sorted entry_sorted ha1 ?_⟩
 unfold Builtin.«sorted»
 refine wpAny_bind (m := checkCount "sorted" 1 1 _) (wpAny_pure ?_)
 refine wpAny_bind (W.use col fun vs h t y => ?_)
 refine ek1_6 y fun D₁ le S h64 hlen turn q => ?_; clear y
 have S1 := S.push (seqObj "list" vs.toArray 0)
 refine wpAny_bind (wpAny_newList ?_ (by show vs.length ≤ _; exact Nat.le_trans (Nat.le_of_lt h64) (by decide)))
 refine wpAny_bind (wpAny_holding (wpAny_call_entry_kw slot_list_sort ⟨_, S1.head, rfl⟩ entry_list_sort ?body (ha2 _)))
 case body =>
  have ht' := ht h.objs.size
  show wpAny (MM γ) A.in1.in1 (Builtin.«list.sort» ⟨[.ref h.objs.size], [(ofString "key", f)]⟩) _ _ _
  refine ht'.symm ▸ ?_
  refine (w_sort_tree (P := fun fin h t => fin = .done (.ret .none) ∧ Q (.ref _) h t) hO hkk S1 hlen h64 turn fun D' out o h' t' le' a1 a2 a3 => ⟨rfl, q D' _ out o h' t' le' a1 a2 a3⟩).use fun fin h' t' y => ?_
  refine ek0_2 y ?_; clear y; intro z1 y; obtain rfl := z1
  exact ⟨_, rfl, wpAny_pure ⟨_, rfl, h', t', rfl, y⟩⟩
end
end
section
theorem zip_no_len : typeLookup (.type "zip") "__len__" = pure none := by rw [typeLookup_type, builtinLookup_eq_fast]; kernel_rfl
theorem zip_no_hint : typeLookup (.type "zip") "__length_hint__" = pure none := by rw [typeLookup_type, builtinLookup_eq_fast]; kernel_rfl
noncomputable def PairsAt (D : Dm) (acc xs ys : List Value) (n : Nat) : Prop := acc.length = n ∧ ∀ j, j < n → ∃ a o x y, acc[j]? = some (.ref a) ∧ D a = some o ∧ TupO [x, y] o ∧ xs[j]? = some x ∧ ys[j]? = some y
section
variable {h h' : Heap} {t : Nat} {γ : G} {A : Around} {K : Frag} {D D' : Dm} {own rest news : List (Addr × Obj)} {z TI TO i1 i2 l1 l2 l : Addr} {xs ys vs : List Value} {i : Nat}
theorem w_collect_list {lo : Obj} {Q : List Value → Heap → Nat → Prop} (S : Sc K D news h) (ho : D l = some lo) (hl : LstO vs.toArray lo) (hn : vs.length ≤ 1000) (q : ∀ h, Sc K D news h → Q vs h t) : W γ A (collect (.ref l)) Q h t := by
 have sz : sizeLine = 16777216 := sizeLine_eq
 have S1 := S.push (seqObj "list" #[] 0)
 obtain ⟨n, S2⟩ := S1.setl (f := (· ++ vs.toArray))
 exact ⟨collect_list (s := mkS γ h t) (hl.isList (S.keep _ _ ho)) ⟨_, t, rfl, q _ S2.drop⟩ (szle (Nat.le_trans hn (by decide)))⟩
theorem zip_loop {S l : Addr} (hh : A.handled = none) (hxy : xs.length = ys.length) (hn : xs.length ≤ 1000) {R : Result → Shared → Prop} :
  ∀ (k i : Nat) (acc : List Value) (D : Dm) (own : List (Addr × Obj)) (n : Nat) (h : Heap) (t : Nat), i + k = xs.length → PairsAt D acc xs ys i → ZSt z TI TO i1 i2 l1 l2 xs ys i D own →
  Sc K D (own ++ ((l, seqObj "list" acc.toArray n) :: rest)) h →
  (∀ D' acc n h t, Le D D' → PairsAt D' acc xs ys xs.length → Sc K D' ((l, seqObj "list" acc.toArray n) :: rest) h → R (.ok (.ret (.ref l))) (mkS γ h t)) →
  codeAny (MM γ) A (.builtin "list.extend.loop" ⟨[.ref l, .ref z, .ref l], []⟩) R (mkS γ h t) := by
 have sz : sizeLine = 16777216 := sizeLine_eq
 intro k
 induction k with
 | zero =>
  intro i acc D own n h t hk ha st S hR
  obtain rfl : i = xs.length := hk
  refine codeAny_builtin F.entry_extend_loop ?_
  refine (Around.under_plainId F.plain_extend_loop _).symm ▸ ?_
  show wpAny _ A.in1 (pyNext (.ref z) >>= _) _ _ _
  refine wpAny_bind (W.use (w_zip_last hh st S (List.getElem?_eq_none (Nat.le_refl _)) fun h S => ?_) fun ξ ξ ξ y => y)
  exact wpAny_pure (hR D acc n h t (Le.refl _) ha S)
 | succ k ih =>
  intro i acc D own n h t hk ha st S hR
  have hlt : i < xs.length := Nat.lt_of_lt_of_eq (Nat.lt_add_of_pos_right (Nat.succ_pos k)) hk
  have hx : xs[i]? = some xs[i] := List.getElem?_eq_getElem hlt
  have hy : ys[i]? = some (ys[i]'(Nat.lt_of_lt_of_eq hlt hxy)) := List.getElem?_eq_getElem (Nat.lt_of_lt_of_eq hlt hxy)
  refine codeAny_builtin F.entry_extend_loop ?_
  refine (Around.under_plainId F.plain_extend_loop _).symm ▸ ?_
  show wpAny _ A.in1 (pyNext (.ref z) >>= _) _ _ _
  refine wpAny_bind (W.use (w_zip_next st S hx hy fun a D' own' o h le eo To st' S' => ?_) fun ξ ξ ξ y => y)
  have S'' : Sc K D' ((l, seqObj "list" acc.toArray n) :: (own' ++ rest)) h := S'.perm List.perm_middle
  refine ek1_1 (S''.setl (f := (·.push (.ref a)))) fun n' S2 => ?_
  show wpAny _ A.in1 (updateSeq l (·.push (.ref a)) >>= _) _ _ _
  have al := ha.1
  refine wpAny_bind (wpAny_updateSeq S''.head rfl (wpAny_pure ⟨plainId_quiet F.plain_extend_loop _, ?_⟩) (by rw [List.size_toArray]; exact nZ (nA hn (nA (Nat.le_of_eq sz.symm) (nA hlt (Nat.le_of_eq al)))) (by kcf_m)) (by simp; exact nZ (nA hn (nA (Nat.le_of_eq sz.symm) (nA hlt (Nat.le_of_eq al)))) (by kcf_m)))
  have e3 : acc.toArray.push (.ref a) = (acc ++ [Value.ref a]).toArray := by simp
  rw [e3] at S2
  refine ih (i + 1) _ D' own' n' _ t ((Nat.succ_add i k).trans hk) ⟨by simp [al], fun j hj => ?_⟩ st' (S2.perm List.perm_middle.symm) fun D2 acc n h t le2 a1 a2 => hR D2 acc n h t (le.trans le2) a1 a2
  rcases Nat.lt_or_ge j i with q | q
  ·refine ek4_3 (ha.2 j q) fun a' o' x' y' e1 e2 r => ?_
   exact ⟨a', o', x', y', by rw [List.getElem?_append_left (Nat.lt_of_lt_of_eq q al.symm)]; exact e1, le _ _ e2, r⟩
  ·have : j = i := Nat.le_antisymm (nZ hj (by kcf_m)) (nZ q (by kcf_m))
   subst this
   exact ⟨a, o, _, _, by rw [List.getElem?_append_right (Nat.le_of_eq al)]; simp [al], eo, To, hx, hy⟩
theorem ZSt.mono (st : ZSt z TI TO i1 i2 l1 l2 xs ys i D own) (l : Le D D') : ZSt z TI TO i1 i2 l1 l2 xs ys i D' own := by
 cases st with
 | mk a1 a3 a4 a5 a6 a7 a8 a9 => exact .mk (l _ _ a1) (l _ _ a3) a4 (l _ _ a5) a6 a7 a8 (by cases a9 with | fst => exact .fst | nxt e => exact .nxt (l _ _ e))
theorem ZSt.isZip (st : ZSt z TI TO i1 i2 l1 l2 xs ys i D own) (S : Sc K D (own ++ rest) h) : ∃ f0 f1, h.get? z = some (zipObj f0 f1 TI TO) := by
 cases st with
 | mk a1 a3 a4 a5 a6 a7 a8 a9 =>
 cases a9 with
 | fst => exact ⟨_, _, S.led _ (.head _)⟩
 | nxt e => exact ⟨_, _, S.led _ (.head _)⟩
theorem w_collect_zip {Q : List Value → Heap → Nat → Prop} (hh : A.handled = none) (st : ZSt z TI TO i1 i2 l1 l2 xs ys 0 D own) (S : Sc K D (own ++ rest) h) (hxy : xs.length = ys.length) (hn : xs.length ≤ 1000)
  (q : ∀ D' acc h t, Le D D' → PairsAt D' acc xs ys xs.length → Sc K D' rest h → Q acc h t) : W γ A (collect (.ref z)) Q h t := by
 have sz : sizeLine = 16777216 := sizeLine_eq
 have S1 : Sc K D (own ++ ((h.objs.size, seqObj "list" #[] 0) :: rest)) (h.push (seqObj "list" #[] 0)) := (S.push (seqObj "list" #[] 0)).perm List.perm_middle.symm
 obtain ⟨f0, f1, hz⟩ := st.isZip S
 obtain ⟨f0', f1', hz1⟩ := st.isZip S1
 have hSI : h.objs.size ≠ z := Nat.ne_of_gt (Heap.lt_size hz)
 have h1 : Builtin.List.listSameRef (.ref h.objs.size) (.ref z) = false := by simp [Builtin.List.listSameRef, hSI]
 have hT : ∀ {h t f0 f1}, Heap.get? h z = some (zipObj f0 f1 TI TO) → (mkS γ h t).TypeIs (.ref z) "zip" := fun e => ⟨_, e, rfl⟩
 unfold collect
 refine ⟨wpAny_bind (wpAny_runValue (codeAny_builtin F.entry_proto_collect ?_))⟩
 refine (Around.under_plainId F.plain_proto_collect _).symm ▸ ?_
 show wpAny _ A.in1 (newList [] >>= fun l => again (.builtin "list.__iadd__" ⟨[l, .ref z], []⟩)) _ _ _
 refine wpAny_bind (wpAny_newObj_type ?_)
 refine wpAny_pure ⟨plainId_quiet F.plain_list_iadd _, codeAny_builtin F.entry_list_iadd ?_⟩
 refine (Around.under_plainId F.plain_list_iadd _).symm ▸ ?_
 show wpAny _ A.in1 (Builtin.List.listExtendWith (.ref h.objs.size) (.ref z) (.ref h.objs.size)) _ _ (mkS γ (h.push (seqObj "list" #[] 0)) t)
 unfold Builtin.List.listExtendWith
 refine wpAny_bind (wpAny_typeOf (hT hz1) ?_)
 have h2 : (Value.type "zip" == Value.type "list") = false := by decide
 have h3 : (Value.type "zip" == Value.type "tuple") = false := by decide
 refine wpAny_ifn (by rw [h1, h2, h3]; decide) ?_
 refine wpAny_bind (wpAny_pyIter_slot (hT hz1) F.slot_zip_iter (wpAny_call_entry F.slot_zip_iter (hT hz1) F.entry_zip_iter ?_ (F.args_zip_iter_1 _)))
 show wpAny _ _ (ret (.ref z)) _ _ _
 refine wpAny_pure ⟨_, rfl, "zip", _, hT hz1, F.slot_zip_next.lookup, ?_⟩
 refine wpAny_bind (wpAny_holding ?_)
 unfold Builtin.List.listLengthHint
 refine wpAny_bind (wpAny_specialOf (hT hz1) zip_no_len ?_)
 show wpAny _ A.in1 (specialOf (Value.ref z) (ofString "__length_hint__") >>= _) _ _ _
 refine wpAny_bind (wpAny_specialOf (hT hz1) zip_no_hint ?_)
 refine wpAny_pure ?_
 show wpAny _ A.in1 (rule "list.extend.makes-room" >>= fun ξ => Builtin.List.listTouch (.ref h.objs.size) >>= fun ξ =>
  again (.builtin "list.extend.loop" ⟨[.ref h.objs.size, .ref z, .ref h.objs.size], []⟩)) _ _ _
 refine wpAny_bind (wpAny_rule ?_)
 have S2 : Sc K D ((h.objs.size, seqObj "list" #[] 0) :: (own ++ rest)) (h.push (seqObj "list" #[] 0)) := S1.perm List.perm_middle
 refine wpAny_bind ?_
 show wpAny _ A.in1 (updateSeq h.objs.size (·.push .none) >>= fun ξ => updateSeq h.objs.size (·.pop)) _ _ _
 refine ek1_1 (S2.setl (f := (·.push .none))) fun n1 S3 => ?_
 refine ek1_1 (S3.setl (f := (·.pop))) fun n2 S4 => ?_
 refine wpAny_bind (wpAny_updateSeq S2.head rfl ?_)
 refine wpAny_updateSeq S3.head rfl ?_
 refine wpAny_pure ⟨plainId_quiet F.plain_extend_loop _, zip_loop (S := z) (by exact hh) hxy hn _ 0 [] D own n2 _ t (Nat.zero_add _) ⟨rfl, fun j hj => absurd hj (Nat.not_lt_zero _)⟩ st (S4.perm List.perm_middle.symm) fun D' acc n h' t' le a1 a2 => ?_⟩
 show wpAny _ A (load h.objs.size >>= _) _ _ _
 refine wpAny_bind (wpAny_load a2.head ?_)
 show wpAny _ A (pure acc.toArray.toList) _ _ _
 rw [List.toList_toArray]
 exact wpAny_pure ⟨h', t', rfl, q D' acc h' t' le a1 a2.drop⟩
end
end
section
open _root_.PySem.Spec _root_.PySem.Builtin
theorem ltCps_iff : ∀ (a b : List Nat), ltCps a b = decide (a < b)
 | [], [] => rfl
 | [], b :: bs => rfl
 | a :: as, [] => rfl
 | a :: as, b :: bs => by
  simp only [ltCps, ltCps_iff as bs, List.cons_lt_cons_iff]
  by_cases h : a < b <;> by_cases h2 : a = b <;> simp [h, h2]
theorem order_lt : ∀ (a b : List UInt8), (Bytes.order a b == .lt) = decide (a.map UInt8.toNat < b.map UInt8.toNat)
 | [], [] => rfl
 | [], b :: bs => rfl
 | a :: as, [] => rfl
 | x :: as, y :: bs => by
  simp only [Bytes.order, List.map_cons, List.cons_lt_cons_iff]
  have ih := order_lt as bs
  by_cases h1 : x < y
  ·have : x.toNat < y.toNat := h1
   simp [h1, this]
  ·have n1 : ¬ x.toNat < y.toNat := h1
   by_cases h2 : x > y
   ·have n2 : y.toNat < x.toNat := h2
    have : x.toNat ≠ y.toNat := Nat.ne_of_gt n2
    simp [h1, h2, n1, this]
   ·have n2 : ¬ y.toNat < x.toNat := h2
    have : x.toNat = y.toNat := Nat.le_antisymm (nZ (Nat.le_of_not_lt n2) (by kcf_m)) (nZ (Nat.le_of_not_lt n1) (by kcf_m))
    simp [h1, h2, ih, this]
@[reducible] noncomputable def bytKind : KyK := { PyProof.Rows.strKind with keyOf := fun v => match v with | .bytes b _ => some (b.toList.map UInt8.toNat) | _ => none }
theorem slot_by_lt : Slot "bytes" "__lt__" "bytes.__lt__" :=
 .of (owner := "bytes") (n := "__lt__") (by rw [typeLookup_type, builtinLookup_eq_fast]; kernel_rfl) (by decide +kernel) (by decide +kernel) (by decide +kernel)
  (by first | exact .inl (by decide +kernel) | exact .inr (by decide +kernel)) (by rw [isSubtype_type]; kernel_rfl)
theorem entry_by_lt : entryFor table "bytes.__lt__" = some Builtin.«bytes.__lt__» := entryFor_of_tree (by kernel_rfl)
theorem args_by_lt (a b : Value) : argsOk "bytes.__lt__" ⟨[a, b], []⟩ := by unfold argsOk; kernel_rfl
section
variable {A : Around} {prog : Program} {w : World} {E : Value → Shared → Prop} {s : Shared}
theorem call_by_lt {a b : Array UInt8} {t u : Tok} {Q : Value → Shared → Prop} (h : Q (.bool (decide (a.toList.map UInt8.toNat < b.toList.map UInt8.toNat))) s) :
  wpAny (model prog w) A (call (.builtin "bytes.__lt__") [.bytes a t, .bytes b u]) Q E s := by
 refine wpAny_call_entry slot_by_lt (typeIs_bytes s a t) entry_by_lt ?_ (args_by_lt _ _)
 show wpAny _ _ (isInstance (.bytes b u) (.type "bytes") >>= fun r => _) _ E s
 refine wpAny_bind (wpAny_isInstance (typeIs_bytes s b u) F.sub_bytes_bytes ?_)
 exact wpAny_pure ⟨_, rfl, by rw [← order_lt] at h; exact h⟩
theorem oneLt_by {a b : Array UInt8} {t u : Tok} {Q : Bool → Shared → Prop} (h : Q (decide (a.toList.map UInt8.toNat < b.toList.map UInt8.toNat)) s) : wpAny (model prog w) A (oneLt' true (.bytes a t) (.bytes b u)) Q E s := by
 rw [oneLt'_eq]
 refine wpAny_ifp (rfl : true = true) ?_
 refine wpAny_bind (wpAny_cRoomFor_byValue rfl ?_)
 refine wpAny_bind (wpAny_callSpecialIfBound?_slot (typeIs_bytes s a t) slot_by_lt (call_by_lt ?_))
 exact wpAny_truthy_bool h
end
theorem none_no {α : Type} {P : Prop} {x : α} (e : none = some x) : P := nomatch e
theorem byt_of {v : Value} {k : List Nat} (e : bytKind.keyOf v = some k) : ∃ b t, v = .bytes b t ∧ b.toList.map UInt8.toNat = k := by
 cases v with
 | bytes b t => exact ⟨b, t, rfl, Option.some.inj e⟩
 | _ => exact none_no e
theorem str_of {v : Value} {k : List Nat} (e : PyProof.Rows.strKind.keyOf v = some k) : ∃ x t, v = .str x t := by
 cases v with
 | str x t => exact ⟨x, t, rfl⟩
 | _ => exact none_no e
theorem bytKind_oneLt : bytKind.OneLt := by
 intro prog w A E s x y a b Q ha hb h
 refine ek2_2 (byt_of ha) fun p t z1 z2 => ?_; obtain rfl := z1; obtain rfl := z2
 refine ek2_2 (byt_of hb) fun p t z1 z2 => ?_; obtain rfl := z1; obtain rfl := z2
 exact oneLt_by h
theorem mapM_const {α : Type} {f : Value → Sem α} {c : α} : ∀ l : List Value, (∀ v ∈ l, f v = pure c) → l.mapM f = pure (l.map fun ξ => c)
 | [], _ => rfl
 | v :: r, h => by rw [List.mapM_cons, h v (.head _), mapM_const r fun x hx => h x (.tail _ hx)]; rfl
theorem kind_one {T : String} {v₁ v₂ : Value} {vs : List Value} (h1 : ∀ v ∈ v₁ :: v₂ :: vs, firstOfTuple' v = pure none ∧ typeOf v = pure (.type T)) : keyKind' (v₁ :: v₂ :: vs).toArray = pure oneType' := by
 have hall : ((List.map (fun ξ => Value.type T) (v₁ :: v₂ :: vs)).toArray.all fun x => x == Value.type T) = true := by
  rw [List.all_toArray' rfl, List.all_map]
  exact List.all_eq_true.mpr fun ξ ξ => beq_self_eq_true (Value.type T)
 rw [keyKind'_eq, List.mapM_toArray, mapM_const _ fun v hv => (h1 v hv).1]
 refine (if_neg (c := ((List.map (fun ξ => (none : Option Value)) (v₁ :: v₂ :: vs)).toArray.all (·.isSome)) = true) (by rw [List.all_toArray' rfl]; exact Bool.false_ne_true)).trans ?_
 refine (if_neg Bool.false_ne_true).trans ?_
 rw [oneTypeOnly'_eq, List.mapM_toArray, mapM_const _ fun v hv => (h1 v hv).2]
 show (pure (if ((if ((List.map (fun ξ => Value.type T) (v₁ :: v₂ :: vs)).toArray.all fun x => x == Value.type T) = true then some (Value.type T) else none) : Option Value).isSome = true then oneType' else general') : Sem _) = pure oneType'
 rw [hall]; rfl
theorem kind_all {κ : KyK} {T : String} {ks : List κ.α} (hv : ∀ v k, κ.keyOf v = some k → firstOfTuple' v = pure none ∧ typeOf v = pure (.type T)) (keys : List Value) (hk : KeysAre κ keys ks) (h2 : 2 ≤ keys.length) : keyKind' keys.toArray = pure oneType' := by
 have all : ∀ v ∈ keys, firstOfTuple' v = pure none ∧ typeOf v = pure (.type T) := by
  intro v hm
  have : κ.keyOf v ∈ ks.map some := by rw [← hk]; exact List.mem_map_of_mem hm
  refine ek1_2 (List.mem_map.mp this) fun k ξ e => ?_
  exact hv v k e.symm
 match keys, h2, all with
 | v₁ :: v₂ :: vs, _, all => exact kind_one all
theorem byt_kind {ks : List (List Nat)} (keys : List Value) (hk : KeysAre bytKind keys ks) (h2 : 2 ≤ keys.length) : keyKind' keys.toArray = pure oneType' :=
 kind_all (κ := bytKind) (T := "bytes") (fun v k e => ek2_2 (byt_of e) fun ξ ξ z ξ => z ▸ ⟨rfl, rfl⟩) keys hk h2
theorem str_kind {ks : List (List Nat)} (keys : List Value) (hk : KeysAre PyProof.Rows.strKind keys ks) (h2 : 2 ≤ keys.length) : keyKind' keys.toArray = pure oneType' :=
 kind_all (κ := PyProof.Rows.strKind) (T := "str") (fun v k e => ek2_1 (str_of e) fun ξ ξ z => z ▸ ⟨rfl, rfl⟩) keys hk h2
end
section
section
variable {h : Heap} {t : Nat} {γ : G} {A : Around} {K : Frag} {D : Dm} {news : List (Addr × Obj)} {f : Addr} {R : Value → Heap → Nat → Prop}
 {name qual : Str} {params : Arguments} {body : List Stmt} {scope : Scope} {dV kV doc pm cdv ct oc : Value} {an od : Option Addr} {osl : Array (Option Value)}
theorem Sc.widen (S : Sc K D news h) (l : List Addr) (hn : ∀ p ∈ news, p.1 ∉ l) (hd : ∀ a x, D a = some x → a ∉ l) : Le D (fun a => if a ∈ l then h.get? a else D a) ∧ Sc K (fun a => if a ∈ l then h.get? a else D a) news h :=
 have le : Le D (fun a => if a ∈ l then h.get? a else D a) := fun a x e => (if_neg (hd a x e)).trans e
 ⟨le, S.st.mono le, fun a x e => by by_cases q : a ∈ l; exact (if_pos q).symm.trans e; exact S.keep _ _ ((if_neg q).symm.trans e), S.led, S.nodup, fun p hp => (if_neg (hn p hp)).trans (S.off p hp)⟩
theorem Fx.freshC {h₁ : Heap} {env : Env} {binds lb cl gl : List (Str × Value)} {others : List Str} (S : Sc K D news h) (hL : env.locals = h.objs.size) (keep : ∀ b o, h.get? b = some o → h₁.get? b = some o) (hlb : Subs lb binds) (hcl : Subs cl binds)
  (kind : env.scope.kind = .function) (ng : env.globals = mainGlobals) (nb : env.builtins = builtinsNs) (lk : ∀ x ∈ lb.map (·.1) ++ others, env.kindOf x = some .local ∧ (x == ("__debug__" : Str)) = false) (nd : (lb.map (·.1) ++ others).Nodup) (nb2 : (binds.map (·.1)).Nodup) (no : ∀ x ∈ others, (binds.map (·.1)).contains x = false)
  (gk : ∀ x ∈ gl.map (·.1), env.kindOf x = some .globalImplicit ∧ (x == ("__debug__" : Str)) = false) (hg : GlobAll K gl) (ck : ∀ x ∈ cl.map (·.1), (env.kindOf x = some .cell ∧ (x == ("__debug__" : Str)) = false) ∧ (x == ("__classdict__" : Str)) = false) (has : ∀ x, env.kindOf x = some .cell → (env.cells.lookup x).isSome = true)
  (ns : h₁.Ns h.objs.size (bindL env.kindOf binds fun ξ => none)) (cell : ∀ n c, env.cells.lookup n = some c → h₁.IsCell c (bindC env.kindOf binds (fun ξ => none) n)) (above : ∀ n c, (n, c) ∈ env.cells → h.objs.size < c) : ∃ D', Le D D' ∧ Fx K D' env gl cl (mkV lb others) news h₁ := by
 refine ek3_4 ns fun o es ep ho hd hk hf => ?_
 have out : ∀ a, a ≤ h.objs.size → a ∉ env.cells.map (·.2) := fun a ha q => ek1_2 (List.mem_map.mp q) fun p hp e => Nat.lt_irrefl _ (Nat.lt_of_lt_of_le (above p.1 p.2 hp) (e ▸ ha))
 have S2 := ((S.grow keep).add ho (S.noD (Nat.le_refl _)) (S.noN (Nat.le_refl _))).widen (env.cells.map (·.2)) (List.forall_mem_cons.mpr ⟨out _ (Nat.le_refl _), fun p hp => out _ (Nat.le_of_lt (Heap.lt_size (S.led p hp)))⟩) fun a x e => out a (Nat.le_of_lt (Heap.lt_size (S.keep a x e)))
 refine ⟨_, S2.1, ⟨kind, ng, nb, fun x hx => lk x (mkV_names _ _ ▸ hx), (mkV_names _ _).symm ▸ nd, fun p hp => have q := gk _ (List.mem_map_of_mem hp); ⟨q.1, q.2, hg.get p hp⟩, fun p hp => ?_⟩, o, hL.symm ▸ S2.2, es, ep, hd, hk, fun p hp => (hf p.1).trans ?_⟩
 ·have q := ck _ (List.mem_map_of_mem hp)
  refine ek1_1 (Option.isSome_iff_exists.mp (has _ q.1.1)) fun c hc => ?_
  refine ek1_2 (cell _ _ hc) fun oc e1 e2 => ?_
  exact ⟨.inl q.1.1, q.1.2, q.2, c, oc, hc, (if_pos (List.mem_map_of_mem (f := (·.2)) (mem_of_lookup hc))).trans e1, by rw [e2, bindC_hit nb2 (hcl.mem p hp) q.1.1]⟩
 ·rcases List.mem_append.mp hp with hp | hp
  ·refine ek1_2 (List.mem_map.mp hp) fun q hq z1 => ?_; obtain rfl := z1
   exact bindL_hit nb2 (hlb.mem q hq) (lk _ (List.mem_append_left _ (List.mem_map_of_mem hq))).1
  ·refine ek1_2 (List.mem_map.mp hp) fun x hx z1 => ?_; obtain rfl := z1
   exact bindL_miss fun hm => Bool.false_ne_true ((no x hx).symm.trans (List.contains_iff_mem.mpr hm))
theorem fx_new_c (S : Sc K D news h) (binds lb : List (Str × Value)) (others : List Str) (cl gl : List (Str × Value)) (hlb : Subs lb binds) (hcl : Subs cl binds)
  (ok : entryOkC scope (binds.map (·.1)) (lb.map (·.1)) others (cl.map (·.1)) (gl.map (·.1)) = true) (hg : GlobAll K gl) {s₁ : Shared}
  (X : InCallC (mkS γ h t) (callEnvC (fnOf name qual params body scope dV kV doc pm an cdv ct) h.objs.size f).locals (bindL (callEnvC (fnOf name qual params body scope dV kV doc pm an cdv ct) h.objs.size f).kindOf binds fun ξ => none) (callEnvC (fnOf name qual params body scope dV kV doc pm an cdv ct) h.objs.size f).cells
    (bindC (callEnvC (fnOf name qual params body scope dV kV doc pm an cdv ct) h.objs.size f).kindOf binds fun ξ => none) s₁) :
  ∃ D' h₁ t₁, s₁ = mkS γ h₁ t₁ ∧ Le D D' ∧ Fx K D' (callEnvC (fnOf name qual params body scope dV kV doc pm an cdv ct) h.objs.size f) gl cl (mkV lb others) news h₁ := by
 refine entryOkC_k ok fun o1 o2 o3 o4 o5 o6 o7 o8 o9 o10 => ?_; clear ok
 refine ek2_2 X.done fun h₁ t₁ z1 keep => ?_; obtain rfl := z1
 exact ek1_2 (Fx.freshC (env := callEnvC (fnOf name qual params body scope dV kV doc pm an cdv ct) h.objs.size f) S rfl keep hlb hcl o1 rfl rfl o5 o6 o7 o8 o10 hg o9 (fun x q => cellsFrom_has _ _ _ _ q) X.toInCall.ns X.cell X.above) fun D' le F => ⟨D', h₁, t₁, rfl, le, F⟩
theorem w_enter_cc {vals : List Value} (S : Sc K D news h) (ho : K.lookup f = some ⟨oc, od, .func (fnOf name qual params body scope dV kV doc pm an cdv ct), osl⟩) (hcd : codeIn K cdv qual = true) (hroom : A.depth < recursionLimit)
  (binds lb : List (Str × Value)) (others : List Str) (cl gl : List (Str × Value)) (hb : bindArgs (fnOf name qual params body scope dV kV doc pm an cdv ct) ⟨vals, []⟩ = pure binds)
  (hlb : Subs lb binds) (hcl : Subs cl binds)
  (ok : entryOkC scope (binds.map (·.1)) (lb.map (·.1)) others (cl.map (·.1)) (gl.map (·.1)) = true) (hg : GlobAll K gl)
  (k : ∀ env D' h' t', Le D D' → env.code = cdv → env.qual = qual ++ ".<locals>." → Fx K D' env gl cl (mkV lb others) news h' → W γ (A.deeper env) (execs body env) (fun fl => R (retOf fl)) h' t') :
  WC γ A (.call (.ref f) ⟨vals, []⟩) R h t := by
 have ok' := ok
 refine entryOkC_k ok' fun o1 o2 o3 o4 o5 o6 o7 o8 o9 o10 => ?_; clear ok'
 refine ⟨codeAny_call_cells (s := mkS γ h t) (fd := fnOf name qual params body scope dV kV doc pm an cdv ct) (body := body) hroom (S.inK _ _ ho) rfl S.nolimit (codeRec_of S.inK hcd) rfl hb rfl
  (fun x hx => (o4 x.1 (List.mem_map_of_mem hx)).imp id fun q => ⟨q, cellsFrom_has _ _ _ _ q⟩) (fun s₁ X => ?_) o2 o3 o1⟩
 refine ek3_3 (fx_new_c S binds lb others cl gl hlb hcl ok hg X) fun D' h₁ t₁ z1 le F => ?_; obtain rfl := z1
 refine wpAny_mono (W.out (k _ D' h₁ t₁ le rfl rfl F)) (fun fl s' y => ?_) fun ξ ξ y => y.elim
 refine ek2_2 y fun h' t' z1 q => ?_; clear y; obtain rfl := z1
 exact ⟨_, h', t', by cases fl <;> rfl, rfl, _, rfl, q⟩
theorem w_enter_c {vals : List Value} (S : Sc K D news h) (ho : K.lookup f = some ⟨oc, od, .func (fnOf name qual params body scope dV kV doc pm an cdv ct), osl⟩) (hcd : codeIn K cdv qual = true) (hroom : A.depth < recursionLimit)
  (binds lb : List (Str × Value)) (others : List Str) (cl gl : List (Str × Value)) (hb : bindArgs (fnOf name qual params body scope dV kV doc pm an cdv ct) ⟨vals, []⟩ = pure binds) (hlb : Subs lb binds) (hcl : Subs cl binds)
  (ok : entryOkC scope (binds.map (·.1)) (lb.map (·.1)) others (cl.map (·.1)) (gl.map (·.1)) = true) (hg : GlobAll K gl)
  (k : ∀ env D' h' t', Le D D' → Fx K D' env gl cl (mkV lb others) news h' → W γ (A.deeper env) (execs body env) (fun fl => R (retOf fl)) h' t') : WC γ A (.call (.ref f) ⟨vals, []⟩) R h t :=
 w_enter_cc S ho hcd hroom binds lb others cl gl hb hlb hcl ok hg fun env D' h' t' le ξ ξ F => k env D' h' t' le F
theorem v_enter_cc {vals : List Value} (S : Sc K D news h) (ho : K.lookup f = some ⟨oc, od, .func (fnOf name qual params body scope dV kV doc pm an cdv ct), osl⟩) (hcd : codeIn K cdv qual = true) (hroom : A.depth < recursionLimit)
  (binds lb : List (Str × Value)) (others : List Str) (cl gl : List (Str × Value)) (hb : bindArgs (fnOf name qual params body scope dV kV doc pm an cdv ct) ⟨vals, []⟩ = pure binds)
  (hlb : Subs lb binds) (hcl : Subs cl binds)
  (ok : entryOkC scope (binds.map (·.1)) (lb.map (·.1)) others (cl.map (·.1)) (gl.map (·.1)) = true) (hg : GlobAll K gl)
  (k : ∀ env D' h' t', Le D D' → env.code = cdv → env.qual = qual ++ ".<locals>." → Fx K D' env gl cl (mkV lb others) news h' → V γ (A.deeper env) (execs body env) (fun fl => R (retOf fl)) h' t') :
  VC γ A (.call (.ref f) ⟨vals, []⟩) R h t := by
 have ok' := ok
 refine entryOkC_k ok' fun o1 o2 o3 o4 o5 o6 o7 o8 o9 o10 => ?_; clear ok'
 refine vk_tree rfl ?_
 show V γ A.in1 (callAny (.ref f) ⟨vals, []⟩) _ h t
 refine V.mono (Q := fun fin h' t' => ∃ env D', fin = .again (.func body env) ∧ Le D D' ∧ env.code = cdv ∧ env.qual = qual ++ ".<locals>." ∧ Fx K D' env gl cl (mkV lb others) news h') (.of_any ?_) fun fin h' t' y => ?_
 ·refine wpAny_mono (call_tree (s := mkS γ h t) (fd := fnOf name qual params body scope dV kV doc pm an cdv ct) (P := fun env s' => ∃ h' t' D', s' = mkS γ h' t' ∧ Le D D' ∧ env.code = cdv ∧ env.qual = qual ++ ".<locals>." ∧ Fx K D' env gl cl (mkV lb others) news h')
   hroom (S.inK _ _ ho) rfl o2 o3 rfl (codeRec_of S.inK hcd) ?_) (fun fin s' y => ?_) fun ξ ξ e => e
  ·refine hb.symm ▸ ?_
   refine wpAny_pure (wpAny_newFunctionEnv_cells o1 (fun x hx => (o4 x.1 (List.mem_map_of_mem hx)).imp id fun q => ⟨q, cellsFrom_has _ _ _ _ q⟩) fun env he s' X => ?_)
   subst he
   refine ek3_3 (fx_new_c (t := t) (f := f) (name := name) (qual := qual) (params := params) (body := body) (dV := dV) (kV := kV) (doc := doc) (pm := pm) (cdv := cdv) (ct := ct) (an := an) S binds lb others cl gl hlb hcl ok hg X) fun D' h₁ t₁ z1 le F => ?_; obtain rfl := z1
   exact ⟨F.sc.nolimit, h₁, t₁, D', rfl, le, rfl, rfl, F⟩
  ·refine ek1_2 y fun env z1 z2 => ?_; clear y; obtain rfl := z1; refine ek3_2 z2 fun h' t' D' z3 y => ?_; clear z2; obtain rfl := z3
   exact ⟨h', t', rfl, env, D', rfl, y⟩
 ·refine ek2_5 y fun env D' z1 le e e2 F => ?_; clear y; obtain rfl := z1
  exact ⟨rfl, v_func ((k env D' h' t' le e e2 F).mono fun fl h t q => ⟨_, rfl, q⟩)⟩
end
end
section
noncomputable def BM (D : Dm) : Prop := ∃ (h₀ : Heap) (mg : Str → Option Value) (bm : Addr) (ob : Obj), (∀ a o, h₀.get? a = some o → D a = some o) ∧ h₀.Ns mainGlobals mg ∧ mg "__builtins__" = some (.ref bm) ∧ bm ≠ builtinsNs ∧ bm ≠ mainGlobals ∧ h₀.get? bm = some ob ∧ ob.cls = .type "module" ∧ ob.dict = some builtinsNs ∧ ob.data = .plain
theorem BM.mono {D D' : Dm} (b : BM D) (l : Le D D') : BM D' := ek4_2 b fun h₀ mg bm ob k r => ⟨h₀, mg, bm, ob, fun a o e => l _ _ (k a o e), r⟩
noncomputable def CodeAt (D : Dm) (c : Addr) (q : Str) : Prop := ∃ oc vs t, D c = some oc ∧ oc.data = .fields vs ∧ vs[1]? = some (.str q t)
theorem CodeAt.mono {D D' : Dm} {c : Addr} {q : Str} (x : CodeAt D c q) (l : Le D D') : CodeAt D' c q := ek3_2 x fun oc vs t e r => ⟨oc, vs, t, l _ _ e, r⟩
noncomputable def TabIs (D : Dm) (line col : Nat) (q : Str) (o : Obj) : Prop := o = tabObj #[] ∨ ∃ c', o = tabObj #[rawInt line, rawInt col, .ref c'] ∧ CodeAt D c' q
theorem TabIs.mono {D D' : Dm} {line col : Nat} {q : Str} {o : Obj} (x : TabIs D line col q o) (l : Le D D') : TabIs D' line col q o := x.imp id fun z => ek1_2 z fun c e r => ⟨c, e, r.mono l⟩
noncomputable def isS : Value → Bool
 | .str .. => true
 | _ => false
noncomputable def isI : Value → Bool
 | .int .. => true
 | _ => false
noncomputable def isB : Value → Bool
 | .bool _ => true
 | _ => false
theorem isS_of {v : Value} (e : isS v = true) : ∃ a b, v = .str a b := by cases v with | str a b => exact ⟨a, b, rfl⟩ | _ => cases e
theorem isI_of {v : Value} (e : isI v = true) : ∃ a b, v = .int a b := by cases v with | int a b => exact ⟨a, b, rfl⟩ | _ => cases e
theorem isB_of {v : Value} (e : isB v = true) : ∃ a, v = .bool a := by cases v with | bool a => exact ⟨a, rfl⟩ | _ => cases e
noncomputable def codeHdIn (K : Frag) (c P : Addr) : Bool := (recIn K c "code").any fun vs => vs.toArray[11]? == some (.ref P) && vs.toArray.getD 11 .none == .ref P && isS (vs.toArray.getD 18 .none) && isI (vs.toArray.getD 7 .none) && isB (vs.toArray.getD 9 .none) && isI (vs.toArray.getD 10 .none) && !(c == P)
theorem codeHd_of {K : Frag} {h : Heap} {c P : Addr} (X : K.In h) (e : codeHdIn K c P = true) : CodeHd h c P :=
 ek1_2 (any_some e) fun vs hr e => ba7 e fun e2 e3 s1 s2 s3 s4 e5 => ek2_1 (rec_of X hr) fun d sl hl => ek2_1 (isS_of s1) fun file tf a1 => ek2_1 (isI_of s2) fun flags tg a2 => ek1_1 (isB_of s3) fun inF a3 => ek2_1 (isI_of s4) fun text tt a4 =>
  ⟨_, _, file, tf, flags, tg, inF, text, tt, hl, rfl, rfl, eq_of_beq e2, eq_of_beq e3, a1, a2, a3, a4, fun q => by rw [q, beq_self_eq_true] at e5; cases e5⟩
section
variable {h h' : Heap} {t : Nat} {gl cl : List (Str × Value)} {env : Env} {body : Expr} {pos : Pos} {γ : G} {A : Around} {K : Frag} {D D' : Dm} {own rest news : List (Addr × Obj)} {vars : List (Str × Option Value)} {P c : Addr} {params : Arguments} {scope : Scope} {clos : List (Str × Addr)}
theorem Sc.grow2 {o o' oc : Obj} {c' : Addr} (S : Sc K D ((P, o) :: news) h) (kp : Heap.ExtBut P h h') (hP : h'.get? P = some o') (hc : h.objs.size ≤ c') (ec : h'.get? c' = some oc) : Sc K (D.put c' oc) ((P, o') :: news) h' ∧ Le D (D.put c' oc) := by
 have lt : ∀ {b o}, h.get? b = some o → b ≠ c' := fun e => Nat.ne_of_lt (Nat.lt_of_lt_of_le (Heap.lt_size e) hc)
 have no : D c' = none := by
  cases q : D c' with
  | none => rfl
  | some x => exact absurd rfl (lt (S.keep _ _ q))
 have nd := List.nodup_cons.mp S.nodup
 have offP := S.off (P, o) (.head _)
 refine ⟨⟨S.st.mono (Dm.put_le no), ?_, ?_, S.nodup, ?_⟩, Dm.put_le no⟩
 ·intro b x q
  unfold Dm.put at q; split at q
  ·rename_i qq; subst qq; cases q; exact ec
  ·exact kp _ _ (fun w => by subst w; rw [offP] at q; cases q) (S.keep _ _ q)
 ·intro p hp
  rcases List.mem_cons.mp hp with rfl | hp
  ·exact hP
  ·exact kp _ _ (ne_fst nd.1 hp) (S.led _ (.tail _ hp))
 ·intro p hp
  have : D p.1 = none ∧ p.1 ≠ c' := by
   rcases List.mem_cons.mp hp with rfl | hp
   ·exact ⟨offP, lt S.head⟩
   ·exact ⟨S.off _ (.tail _ hp), lt (S.led _ (.tail _ hp))⟩
  unfold Dm.put; rw [if_neg this.2]; exact this.1
theorem w_lambda {o : Obj} {Q : Value → Heap → Nat → Prop} (F : Fx K D env gl cl vars ((P, o) :: news) h) (bm : BM D) (hc : env.code = .ref c) (C : CodeHd h c P) (T : TabIs D pos.line pos.col (env.qual ++ "<lambda>") o) (hcl : closureFor scope env = pure clos) (hd : defaultsOf params env = ([], []))
  (q : ∀ D' f c' ctv o' pm h' t', Le D D' → D' f = some (kla_obj "<lambda>" (env.qual ++ "<lambda>") params body scope clos pm c' ctv) → CodeAt D' c' (env.qual ++ "<lambda>") → TabIs D' pos.line pos.col (env.qual ++ "<lambda>") o' → Fx K D' env gl cl vars ((P, o') :: news) h' → Q (.ref f) h' t') :
  W γ A (eval (.Lambda params body scope pos) env) Q h t := by
 obtain ⟨oL, S0, fr⟩ := F.f
 have S := S0.perm (.swap _ _ _)
 refine ek4_9 bm fun h₀ mg b ob kd g1 g2 g3 g4 g5 g6 g7 g8 => ?_; clear bm
 have kh : ∀ a o, h₀.get? a = some o → h.get? a = some o := fun a o e => S.keep _ _ (kd _ _ e)
 have hg : (mkS γ h t).heap.Ns mainGlobals mg := g1.keeps kh
 have offP := S.off (P, o) (.head _)
 have hP := S.head
 have hgP : mainGlobals ≠ P := fun w => by
  refine ek3_2 g1 fun og es ep e ξ => ?_; clear g1
  have := kd _ _ e
  rw [w, offP] at this; cases this
 have hbP : b ≠ P := fun w => by
  have := kd _ _ g5
  rw [w, offP] at this; cases this
 have hb : (mkS γ h t).heap.BuiltinsAt mg P := ⟨b, ob, g2, g3, g4, hbP, kh _ _ g5, g6, g7, g8⟩
 refine ⟨kla_eval hd ?_⟩
 rcases T with rfl | ⟨c', rfl, ca⟩
 ·refine kla_makeFunction (s := mkS γ h t) (mg := mg) hcl F.e.ng hg hc C hP trivial rfl hgP hb fun c' ctv h' tk hx hge hlt hrec htb => ?_
  refine ek4_4 hrec fun c₂ oc vs tq e2 hoc hdt hv => ?_; clear hrec
  cases e2
  refine ek0_2 (S.grow2 hx htb hge hoc) fun S2 le2 => ?_
  have S3 := S2.push (kla_obj "<lambda>" (env.qual ++ "<lambda>") params body scope clos ((mg "__name__").getD .none) c' ctv)
  have le3 := S3.freeze_le
  have S4 := S3.freeze
  have ec : (D.put c' oc) c' = some oc := Dm.put_at _ _ _
  exact ⟨_, tk, rfl, q _ _ c' ctv _ _ _ _ (le2.trans le3) (Dm.put_at _ _ _) ⟨oc, vs, tq, le3 _ _ ec, hdt, hv⟩ (.inr ⟨c', rfl, oc, vs, tq, le3 _ _ ec, hdt, hv⟩) ⟨F.e.mono (le2.trans le3), oL, S4.perm (.swap _ _ _), fr⟩⟩
 ·refine kla_makeFunctionHit (s := mkS γ h t) (mg := mg) (cv := .ref c') hcl F.e.ng hg hc C hP trivial ?_ hb fun ctv h' tk hk hsz => ?_
  ·simp [codeAmong, rawInt]
  ·have S3 := (S.grow hk).push (kla_obj "<lambda>" (env.qual ++ "<lambda>") params body scope clos ((mg "__name__").getD .none) c' ctv)
   have le3 := S3.freeze_le
   have S4 := S3.freeze
   exact ⟨_, tk, rfl, q _ _ c' ctv _ _ _ _ le3 (Dm.put_at _ _ _) (ca.mono le3) (.inr ⟨c', rfl, ca.mono le3⟩) ⟨F.e.mono le3, oL, S4.perm (.swap _ _ _), fr⟩⟩
theorem w_call_lam {f c' : Addr} {name qual : Str} {pm ctv : Value} {vals : List Value} {R : Value → Heap → Nat → Prop} (S : Sc K D news h) (ho : D f = some (kla_obj name qual params body scope clos pm c' ctv)) (ca : CodeAt D c' qual) (hroom : A.depth < recursionLimit)
  (binds : List (Str × Value)) (gl cv : List (Str × Value)) (hb : bindArgs (kla_fn name qual params body scope clos pm (.ref c') ctv) ⟨vals, []⟩ = pure binds) (ok : entryOk scope (binds.map (·.1)) [] (gl.map (·.1)) = true) (hg : GlobAll K gl)
  (hcv : ∀ p ∈ cv, scope.names.lookup p.1 = some .free ∧ (p.1 == ("__debug__" : Str)) = false ∧ (p.1 == ("__classdict__" : Str)) = false ∧ ∃ c o, clos.lookup p.1 = some c ∧ D c = some o ∧ o.data = .cell (some p.2))
  (k : ∀ env h' t', Fx K D env gl cv (mkV binds []) news h' → W γ (A.deeper env) (eval body env) R h' t') : WC γ A (.call (.ref f) ⟨vals, []⟩) R h t := by
 have ok' := ok
 refine entryOk_k ok' fun o1 o2 o3 o4 o5 o6 o7 => ?_; clear ok'
 refine ek3_3 ca fun oc vs tq ec hdt hv => ?_; clear ca
 refine ⟨kla_callFunE (s := mkS γ h t) hroom (S.keep _ _ ho) rfl o2 o3 rfl ⟨c', oc, vs, tq, rfl, S.keep _ _ ec, hdt, hv⟩ ?_⟩
 refine hb.symm ▸ ?_
 refine wpAny_pure (wpAny_newFunctionEnv (fun x hx q => o4 x hx q) (fun x hx => (o5 x.1 (List.mem_append_left _ (List.mem_map_of_mem hx))).1) (fun h₁ hns hsb => ?_) o1)
 have hk : ∀ b o, h.get? b = some o → h₁.get? b = some o := fun b o e => hsb.extBut b o (Nat.ne_of_lt (Heap.lt_size e)) (Heap.get?_push_of_some _ e)
 refine ⟨(S.grow hk).nolimit, ?_⟩
 have FF : Fx K D (envX qual scope h.objs.size f (.ref c') clos) gl cv (mkV binds []) news h₁ := Fx.fresh S rfl hk o1 rfl rfl o5 o6 o7 hg (fun p hp => ek0_4 (hcv p hp) fun a1 a2 a3 z => ⟨.inr a1, a2, a3, z⟩) hns
 exact kla_codeExpr ((k _ h₁ _ FF).use fun v h' t' y => ⟨.ret v, h', t', rfl, rfl, v, rfl, y⟩)
end
end
section
open _root_.PySem.Builtin
theorem bufa_ba : typeLookup (.type "bytearray") (ofString "__buffer__") = pure (some (.builtin "bytearray.__buffer__")) := by rw [typeLookup_type, builtinLookup_eq_fast]; kernel_rfl
theorem rela_ba : typeLookup (.type "bytearray") (ofString "__release_buffer__") = pure (some (.builtin "bytearray.__release_buffer__")) := by rw [typeLookup_type, builtinLookup_eq_fast]; kernel_rfl
theorem sub_ba : isSubtype (.type "bytearray") (.type "bytearray") = pure true := by rw [isSubtype_type]; kernel_rfl
theorem nobytes_ba : typeLookup (.type "bytearray") (ofString "__bytes__") = pure none := by rw [typeLookup_type, builtinLookup_eq_fast]; kernel_rfl
theorem noindex_ba : typeLookup (.type "bytearray") (ofString "__index__") = pure none := by rw [typeLookup_type, builtinLookup_eq_fast]; kernel_rfl
theorem ends_bufa : ("bytearray.__buffer__".endsWith ("." ++ "__buffer__")) = true := by decide +kernel
theorem drop_bufa : "bytearray.__buffer__".dropRight ("__buffer__".length + 1) = "bytearray" := by decide +kernel
theorem ends_rela : ("bytearray.__release_buffer__".endsWith ("." ++ "__release_buffer__")) = true := by decide +kernel
theorem drop_rela : "bytearray.__release_buffer__".dropRight ("__release_buffer__".length + 1) = "bytearray" := by decide +kernel
theorem slot_ba_getitem : Slot "bytearray" "__getitem__" "bytearray.__getitem__" :=
 .of (owner := "bytearray") (n := "__getitem__") (by rw [typeLookup_type, builtinLookup_eq_fast]; kernel_rfl) (by decide +kernel) (by decide +kernel) (by decide +kernel)
  (by first | exact .inl (by decide +kernel) | exact .inr (by decide +kernel)) (by rw [isSubtype_type]; kernel_rfl)
theorem entry_ba_getitem : entryFor table "bytearray.__getitem__" = some Builtin.«bytearray.__getitem__» := entryFor_of_tree (by kernel_rfl)
theorem args_ba_getitem (a b : Value) : argsOk "bytearray.__getitem__" ⟨[a, b], []⟩ := by unfold argsOk; kernel_rfl
theorem picked_from (b : Array UInt8) (n : Nat) : bInts (KBy.picked b (some (n : Int)) none) = (bInts b).drop n := by
 show KBw.bInts (KBy.picked b (some (n : Int)) none) = (KBw.bInts b).drop n
 rw [KBc.ints_picked (ks := KBw.bInts b) rfl]
 simp only [Option.elim, clipAt_nat]
 rw [List.take_of_length_le (by simp)]
 rcases Nat.le_total n (KBw.bInts b).length with h | h
 ·rw [Nat.min_eq_left h]
 ·rw [Nat.min_eq_right h, List.drop_of_length_le (Nat.le_refl _), List.drop_of_length_le h]
theorem picked_upto (b : Array UInt8) (n : Nat) : bInts (KBy.picked b none (some (n : Int))) = (bInts b).take n := by
 show KBw.bInts (KBy.picked b none (some (n : Int))) = (KBw.bInts b).take n
 rw [KBc.ints_picked (ks := KBw.bInts b) rfl]
 simp only [Option.elim, clipAt_nat, List.drop_zero, Nat.sub_zero]
 rcases Nat.le_total n (KBw.bInts b).length with h | h
 ·rw [Nat.min_eq_left h]
 ·rw [Nat.min_eq_right h, List.take_of_length_le (Nat.le_refl _), List.take_of_length_le h]
section
variable {h : Heap} {t : Nat} {gl cl : List (Str × Value)} {env : Env} {γ : G} {A : Around} {K : Frag} {D : Dm} {news rest : List (Addr × Obj)} {vars : List (Str × Option Value)} {a : Addr} {bs : List Int} {o : Obj}
theorem slice_parts {M : Model} {A : Around} {E : Value → Shared → Prop} {s : Shared} {sl : Addr} {l u : Value} {lo hi : Option Int} {Q : Value × Value × Value → Shared → Prop} (hS : s.heap.IsSliceOf sl l u .none) (hl : IsPart l lo) (hu : IsPart u hi)
  (q : Q (rawPart lo, rawPart hi, rawPart none) s) : wpAny M A (Bytes.sliceParts (.ref sl)) Q E s := by
 refine ek1_3 hS fun os hos hc hd => ?_; clear hS
 unfold Bytes.sliceParts
 refine wpAny_bind (wpAny_field (x := .none) hos hd rfl ?_)
 kby_none
 refine wpAny_ite (KBy.ite_no (show ¬ ((Value.none == rawInt 0) = true) from Bool.false_ne_true) ?_)
 refine wpAny_bind (wpAny_field (x := l) hos hd rfl ?_)
 cases hl <;> cases hu <;> (first
  | (kby_none; (refine wpAny_bind (wpAny_field (x := .none) hos hd rfl ?_)); kby_none)
  | (kby_none; (refine wpAny_bind (wpAny_field (x := .int _ _) hos hd rfl ?_)); kby_int)
  | (kby_int; (refine wpAny_bind (wpAny_field (x := .none) hos hd rfl ?_)); kby_none)
  | (kby_int; (refine wpAny_bind (wpAny_field (x := .int _ _) hos hd rfl ?_)); kby_int)) <;> exact wpAny_pure q
theorem ba_slice {prog : Program} {w : World} {E : Value → Shared → Prop} {s : Shared} {b : Array UInt8} {sl : Addr} {l u : Value} {lo hi : Option Int} {Q : Value → Shared → Prop} (ho : s.heap.get? a = some { cls := .type "bytearray", dict := none, data := .bytearray b 0, slots := #[] }) (hS : s.heap.IsSliceOf sl l u .none) (hl : IsPart l lo) (hu : IsPart u hi) (hn : b.size ≤ sizeLine)
  (h : Q (.ref s.heap.objs.size) { s with heap := s.heap.push { cls := .type "bytearray", data := .bytearray (KBy.picked b lo hi) } }) : wpAny (model prog w) A (getItem (.ref a) (.ref sl)) Q E s := by
 refine ek1_3 hS fun os hos hc hd => ?_; clear hS
 have hT : s.TypeIs (.ref sl) "slice" := ⟨os, hos, hc⟩
 have hTa : s.TypeIs (.ref a) "bytearray" := ⟨_, ho, rfl⟩
 unfold getItem
 try with_reducible refine wpAny_holding ?_
 first | refine wpAny_bind (wpAny_pure ?_) | skip
 refine wpAny_bind (wpAny_sequenceKey hTa (by decide) ?_)
 refine wpAny_bind (wpAny_callSpecial?_slot (name := ofString "__getitem__") hTa slot_ba_getitem
  (wpAny_call_entry slot_ba_getitem hTa entry_ba_getitem ?_ (args_ba_getitem _ _)))
 show wpAny _ _ (Bytes.subscript? (.ref sl) >>= fun r => _) _ _ s
 refine wpAny_bind ?_
 unfold Bytes.subscript?
 refine wpAny_bind (wpAny_specialOf hT slice_no_index (wpAny_pure ?_))
 refine wpAny_bind (wpAny_typeOf hT ?_)
 show wpAny _ _ (Bytes.sliceParts (.ref sl) >>= fun r => _) _ _ s
 refine wpAny_bind ?_
 refine slice_parts ⟨os, hos, hc, hd⟩ hl hu ?_
 refine wpAny_bind (m := Bytes.payload (.ref a)) ?_
 refine wpAny_bind (m := Bytes.payload? (.ref a)) (wpAny_bind (wpAny_load ho (wpAny_pure (wpAny_pure ?_))))
 exact wpAny_bind (wpAny_of_eq (sliceIndices_raw lo hi none b.size (fun e => nomatch e)) (wpAny_bind (wpAny_newObj_type (wpAny_pure ⟨_, rfl, wpAny_pure h⟩) (Nat.le_trans (KBc.size_picked_le b lo hi) hn))))
theorem w_tail_ba {value slice : Expr} {vl vu : Value} {lo hi : Option Int} {Q : Value → Heap → Nat → Prop} (F : Fx K D env gl cl vars news h) (ho : h.get? a = some o) (hb : BaO bs o) (pl : IsPart vl lo) (pu : IsPart vu hi) (hn : bs.length ≤ 1000000)
  (q : ∀ c b o' h', bInts b = bs → BaO (bInts (KBy.picked b lo hi)) o' → Fx K D env gl cl vars ((c, o') :: news) h' → Q (.ref c) h' t)
  {ops : List Value} (hs : subscripted slice false (.ref a) (.ref h.objs.size) = operate ops (getItem (.ref a) (.ref h.objs.size)) := by with_unfolding_all rfl) :
  W γ A (subscriptTail value slice (.ref a) (.ref h.objs.size)) Q (h.push (slObj vl vu .none)) t := by
 have sz : sizeLine = 16777216 := sizeLine_eq
 have F1 := F.push (slObj vl vu .none)
 refine ek1_2 hb fun b e z1 => ?_; clear hb; obtain rfl := z1
 have bl := bInts_length b
 have ho' := Heap.get?_push_of_some (slObj vl vu .none) ho
 refine ⟨tail_any (s := mkS γ _ t) (T := "bytearray") ⟨_, ho', rfl⟩ slot_ba_getitem.lookup (ba_slice ho' ⟨_, Heap.get?_push_size _ rfl, rfl, rfl⟩ pl pu (by rw [← e, bl] at hn; exact Nat.le_trans hn (by decide)) ⟨_, t, rfl, ?_⟩) hs⟩
 exact q _ b _ _ e ⟨_, rfl, rfl⟩ ((F1.push { cls := .type "bytearray", data := .bytearray (KBy.picked b lo hi) }).perm (.swap _ _ _)).drop
theorem own_bufa {Q : Bool → Heap → Nat → Prop} (hT : (mkS γ h t).TypeIs (.ref a) "bytearray") (q : Q true h t) : W γ A (Bytes.slotIsOwn (.ref a) "__buffer__") Q h t := by
 refine ⟨?_⟩
 unfold Bytes.slotIsOwn
 refine wpAny_bind (wpAny_specialOf hT bufa_ba ?_)
 dsimp only
 refine ends_bufa.symm ▸ ?_; refine drop_bufa.symm ▸ ?_
 exact wpAny_isInstance hT sub_ba ⟨h, t, rfl, q⟩
theorem own_rela {Q : Bool → Heap → Nat → Prop} (hT : (mkS γ h t).TypeIs (.ref a) "bytearray") (q : Q false h t) : W γ A (Bytes.ownRelease (.ref a)) Q h t := by
 refine ⟨?_⟩
 unfold Bytes.ownRelease Bytes.slotIsOwn
 refine wpAny_bind (wpAny_bind (wpAny_specialOf hT rela_ba ?_))
 dsimp only
 refine ends_rela.symm ▸ ?_; refine drop_rela.symm ▸ ?_
 exact wpAny_isInstance hT sub_ba (wpAny_pure ⟨h, t, rfl, q⟩)
theorem bufa_ask {full : Bool} {Q : Option (Array UInt8) → Heap → Nat → Prop} {id : String} (ho : h.get? a = some o) (hb : BaO bs o) (q : ∀ b, bInts b = bs → Q (some b) h t) : W γ A (Bytes.buffer? id (.ref a) full) Q h t := by
 have hT := hb.type (γ := γ) (t := t) ho
 refine ⟨?_⟩
 unfold Bytes.buffer?
 refine wpAny_bind (wpAny_specialOf hT bufa_ba ?_)
 try dsimp only
 refine wpAny_bind (W.use (own_bufa hT ?_) fun ξ ξ ξ y => y)
 refine wpAny_ifn (by decide : ¬ (!true) = true) ?_
 refine wpAny_bind (wpAny_specialOf hT bufa_ba ?_)
 try dsimp only
 refine wpAny_bind (W.use (own_rela hT ?_) fun ξ ξ ξ y => y)
 refine wpAny_ifn Bool.false_ne_true ?_
 refine ek1_2 hb fun b e z1 => ?_; clear hb; obtain rfl := z1
 exact wpAny_bind (m := Bytes.payload (.ref a)) (wpAny_bind (m := Bytes.payload? (.ref a)) (wpAny_bind (wpAny_load ho (wpAny_pure (wpAny_pure (wpAny_pure ⟨_, _, rfl, q b e⟩))))))
theorem ba_new {Q : Value → Shared → Prop} {E : Value → Shared → Prop} (ho : h.get? a = some o) (hb : BaO bs o) (hn : bs.length ≤ 1000000) (hQ : ∀ b tk t', bInts b = bs → Q (.bytes b tk) (mkS γ h t')) :
  codeAny (MM γ) A (.call (.builtin "bytes.__new__") ⟨[.type "bytes", .ref a], []⟩) (wants Q E) (mkS γ h t) := by
 have sz : sizeLine = 16777216 := sizeLine_eq
 have hT := hb.type (γ := γ) (t := t) ho
 refine codeAny_of_tree ?_
 show wpAny _ A.in1 (do checkBuiltinCall "bytes.__new__" ⟨[.type "bytes", .ref a], []⟩; again (.builtin "bytes.__new__" ⟨[.type "bytes", .ref a], []⟩)) _ _ _
 refine wpAny_bind (wpAny_of_eq (F.bm_newCall _) (wpAny_pure ⟨plainId_quiet F.bm_plain _, codeAny_builtin F.bm_entry ?_⟩))
 refine (Around.under_plainId F.bm_plain _).symm ▸ ?_
 unfold Builtin.«bytes.__new__»
 refine wpAny_bind (wpAny_of_eq (a := true) rfl ?_)
 refine bm_if_false rfl ?_
 refine wpAny_bind (wpAny_of_eq F.bm_sub ?_)
 refine bm_if_false rfl ?_
 refine wpAny_bind (wpAny_of_eq (F.bm_bind _) ?_)
 refine wpAny_bind (wpAny_of_eq (a := ()) rfl ?_)
 refine wpAny_bind (wpAny_of_eq (a := ()) rfl ?_)
 refine bm_if_false rfl ?_
 refine wpAny_bind (wpAny_specialOf hT nobytes_ba ?_)
 refine wpAny_bind (wpAny_bind ?_)
 show wpAny _ _ (load a >>= _) _ _ _
 refine ek1_2 (id hb) fun b e z1 => ?_; obtain rfl := z1
 refine wpAny_bind (wpAny_load ho ?_)
 refine wpAny_pure (wpAny_pure ?_)
 refine bm_if_false rfl ?_
 refine wpAny_bind (wpAny_specialOf hT noindex_ba ?_)
 refine bm_if_true rfl ?_
 first
  | show wpAny _ _ (Builtin.Bytes.buffer? "bytes.__new__" (.ref a) true >>= _) _ _ _
  | (refine wpAny_bind ?_; show wpAny _ _ (Builtin.Bytes.buffer? "bytes.__new__" (.ref a) true >>= _) _ _ _)
 refine wpAny_bind (W.use (bufa_ask ho hb fun b' e' => ?_) fun ξ ξ ξ y => y)
 have bl := bInts_length b'
 refine wpAny_bind (wpAny_rule ?_)
 refine wpAny_bind (wpAny_mkBytes ?_ (by rw [← e', bl] at hn; exact Nat.le_trans hn (by decide)))
 first
  | exact wpAny_pure (hQ b' _ _ e')
  | exact wpAny_pure (wpAny_pure (hQ b' _ _ e'))
theorem w_bytes_ba {Q : Value → Heap → Nat → Prop} (ho : h.get? a = some o) (hb : BaO bs o) (hn : bs.length ≤ 1000000) (q : ∀ b tk t, bInts b = bs → Q (.bytes b tk) h t) : W γ A (call (.type "bytes") [.ref a]) Q h t := by
 refine ⟨callType_codes (Q₁ := fun obj s₁ => s₁.TypeIs obj "bytes" ∧ ∃ h' t', s₁ = mkS γ h' t' ∧ Q obj h' t') F.bm_called (F.bm_typeCall _) F.entry_object_init
  (ba_new ho hb hn fun b tk t' e => ⟨PySem.W.typeIs_bytes _ _ _, h, t', rfl, q b tk t' e⟩) fun obj s₁ h₁ => ?_⟩
 exact ⟨h₁.1, F.args_object_init_2 obj _, object_init_meets F.bm_called.init.lookup F.bm_called.made (by decide) γ.prog γ.w A.in1 _ s₁ ⟨h₁.1, rfl, h₁.2⟩⟩
theorem w_index_ints {l : Addr} {vs : List Value} {ns : List Int} {k : Int} {u : Tok} {Q : Value → Heap → Nat → Prop} (ho : h.get? l = some o) (hl : LsO vs o) (hi : IntsAre vs ns) (hk : k ∈ ns) (hn : ns.length ≤ 1000000) (q : ∀ tk t, Q (.int (ns.idxOf k : Nat) tk) h t) :
  W γ A (call (.builtin "list.index") [.ref l, .int k u]) Q h t := by
 have hl' := hl.isList ho
 refine ek1_3 hl' fun z1 ho2 hc z2 => ?_; clear hl'; obtain ⟨cls, dd, data, sl⟩ := z1; refine ek1_1 z2 fun n hd => ?_; clear z2
 simp only at hc hd
 subst hc hd
 have hlen := hi.length
 have hj : ns.idxOf k < ns.length := List.idxOf_lt_length_iff.mpr hk
 refine ⟨call_meets (s := mkS γ h t) PySem.F.slot_list_index ⟨_, ho2, rfl⟩ PySem.F.entry_list_index (PySem.F.args_list_index_2 _ _)
  (SeqAt.list_indexAt l vs.toArray n dd sl (.int k u) (PyProof.Rows.isInt k) (ns.idxOf k) (by simpa [hlen] using hj) (by kcf_m) ?_ ?_) ⟨ho2, fun y hy => (eq_isInt k u hi y (by simpa using hy)).at _ _, h, t + 1, rfl, q _ _⟩⟩
 ·show PyProof.Rows.isInt k vs[ns.idxOf k] = true
  rw [isInt_at k hi _ (Nat.lt_of_lt_of_eq hj hlen.symm) hj]
  simpa using List.getElem_idxOf hj
 ·intro j hjs hlt
  show PyProof.Rows.isInt k vs[j] = false
  rw [isInt_at k hi j (by simpa using hjs) (Nat.lt_trans hlt hj)]
  exact PyProof.Rows.ne_of_lt_idxOf hlt _
end
end
section
section
variable {h : Heap} {t : Nat} {gl cl : List (Str × Value)} {env : Env} {γ : G} {A : Around} {K : Frag} {D : Dm} {news rest : List (Addr × Obj)} {vars : List (Str × Option Value)} {l tp : Addr} {items xs : List Value} {o so : Obj}
theorem w_lextend {T : String} {n : Nat} {Q : Value → Heap → Nat → Prop} (hTT : T = "list" ∨ T = "tuple") (F : Fx K D env gl cl vars news h) (p : Pick (l, o) news rest) (hl : LstO items.toArray o) (ho : h.get? tp = some { cls := .type T, dict := none, data := .seq xs.toArray n, slots := #[] }) (hne : tp ≠ l) (hn : items.length + xs.length ≤ 1000000)
  (q : ∀ o' h', LstO (items ++ xs).toArray o' → Fx K D env gl cl vars ((l, o') :: rest) h' → Q .none h' t) : W γ A (call (.builtin "list.extend") [.ref l, .ref tp]) Q h t := by
 have sz : sizeLine = 16777216 := sizeLine_eq
 obtain ⟨m, rfl⟩ := hl
 have ol := F.got p
 refine ⟨wpAny_call_entry (s := mkS γ h t) PySem.F.slot_list_extend ⟨_, ol, rfl⟩ PySem.F.entry_list_extend ?_ (PySem.F.args_list_extend_2 _ _)⟩
 unfold Builtin.«list.extend»
 refine wpAny_bind (m := selfAndOne "list.extend" _) (wpAny_pure ?_)
 show wpAny _ _ (Builtin.List.listExtendWith (.ref l) (.ref tp) .none) _ _ _
 unfold Builtin.List.listExtendWith
 refine wpAny_bind (wpAny_typeOf (T := T) ⟨_, ho, rfl⟩ ?_)
 have hc : (Builtin.List.listSameRef (.ref l) (.ref tp) || Value.type T == .type "list" || Value.type T == .type "tuple") = true := by rcases hTT with rfl | rfl <;> simp
 refine wpAny_ifp hc ?_
 refine wpAny_bind (listItems_at ho rfl ?_)
 refine wpAny_bind (listItems_at ol rfl ?_)
 refine wpAny_ifn (by
  simp only [Bool.and_eq_true, not_and]
  intro _
  unfold Builtin.List.listTooLong
  simp; exact Nat.le_trans hn (by decide)) ?_
 refine wpAny_bind (listUpdate_at ol rfl ?_ (by rw [List.size_toArray]; exact le_a hn (by decide)) (by simp; exact Nat.le_trans hn (by decide)))
 refine wpAny_pure ⟨_, rfl, h.update l (Obj.mapSeq (· ++ xs.toArray)), t, rfl, ?_⟩
 have s1 := Heap.SameBut.update h l (Obj.mapSeq (· ++ xs.toArray))
 have e1 := get?_update_seq (c := "list") (xs := items.toArray) (n := m) ol (· ++ xs.toArray)
 refine q _ _ ?_ ((F.pick p).upd (fun b x hb e => (s1.2 b hb).trans e) e1)
 exact ⟨_, by simp [seqObj]; rfl⟩
theorem w_tail_tup {value slice : Expr} {k : Int} {u : Tok} {x : Value} {Q : Value → Heap → Nat → Prop} (ho : h.get? tp = some o) (hl : TupO items o) (h0 : 0 ≤ k) (hx : items[k.toNat]? = some x) (hn : items.length ≤ 1000000) (q : Q x h t)
  (hs : subscripted slice false (.ref tp) (.int k u) = operate [.ref tp, .int k u] (getItem (.ref tp) (.int k u)) := by with_unfolding_all rfl) : W γ A (subscriptTail value slice (.ref tp) (.int k u)) Q h t := by
 have hk := (List.getElem?_eq_some_iff.mp hx).1
 exact ⟨tail_any (s := mkS γ h t) (hl.isTuple ho).typeIs PySem.F.slot_tuple_getitem.lookup (getItem_tuple (hl.isTuple ho) (Int.le_trans (by decide) h0) (by kcf_m) (j := k.toNat) (by unfold seqIndex?; simp only [List.size_toArray, if_neg (show ¬ (k < 0) by exact Int.not_lt.mpr h0)]; rw [if_pos (by simp only [Bool.and_eq_true, decide_eq_true_eq]; kcf_m)]) (by simpa using hx) ⟨h, t, rfl, q⟩) hs⟩
theorem w_tt {value slice : Expr} {k : Int} {u : Tok} {x : Value} {Q : Value → Heap → Nat → Prop} (F : Fx K D env gl cl vars news h) (ho : D tp = some o) (hl : TupO items o) (q : Q x h t) (h0 : 0 ≤ k := by decide) (hx : items[k.toNat]? = some x := by rfl) (hn : items.length ≤ 1000000 := by exact n_le rfl)
  (hs : subscripted slice false (.ref tp) (.int k u) = operate [.ref tp, .int k u] (getItem (.ref tp) (.int k u)) := by with_unfolding_all rfl) : W γ A (subscriptTail value slice (.ref tp) (.int k u)) Q h t := w_tail_tup (F.sc.keep _ _ ho) hl h0 hx hn q hs
end
section
variable {h : Heap} {t : Nat} {env : Env} {pos : Pos} {e : Expr} {rest : List Expr} {kws : List Keyword} {γ : G} {A : Around} {first : List Value} {Q : Value → Heap → Nat → Prop}
theorem w_attr_sub {v sl : Expr} {p pos : Pos} {attr : Str} (k : W γ A (eval (.Subscript v sl p) env) (fun o => W γ A (getAttr o attr true) Q) h t) : W γ A (eval (.Attribute (.Subscript v sl p) attr pos) env) Q h t :=
 w_attr (k.mono fun ξ ξ ξ y => y.mono fun ξ h t q => ⟨wpAny_letTemporaryGo ⟨h, t, rfl, q⟩⟩)
theorem w_cw_bik {n : String}
  (x : W γ A (spliced (backTo pos (starEach (e :: rest) env))) (fun vs => W γ A (evalAll ((backToKw pos (keywordEach kws env)).map (·.2))) (fun ks => W γ A (call (.builtin n) (cat first vs) (((backToKw pos (keywordEach kws env)).filterMap (·.1)).zip ks)) Q)) h t)
  (hall : (backToKw pos (keywordEach kws env)).all (·.1.isSome) = true := by with_unfolding_all rfl)
  (hplain : ((backTo pos (starEach (e :: rest) env)).any (·.1) || (backToKw pos (keywordEach kws env)).any (·.1.isNone)) = false := by with_unfolding_all rfl) (he : starEach (e :: rest) env = (false, eval e env) :: starEach rest env := by with_unfolding_all rfl) :
  W γ A (callWith pos (.builtin n) first (backTo pos (starEach (e :: rest) env)) (backToKw pos (keywordEach kws env))) Q h t := by
 simp only [cat_eq] at x
 exact ⟨callWith_of (P := fun ξ => True) hplain (plain_keep rfl) (evalArgs_kw2 hall (W.use x fun ξ ξ ξ y => W.use y fun ξ ξ ξ z => ⟨trivial, z.out⟩) he)⟩
end
end
section
section
variable {h : Heap} {t : Nat} {gl cl : List (Str × Value)} {env : Env} {γ : G} {A : Around} {K : Frag} {D D' D₂ : Dm} {news rest : List (Addr × Obj)} {vars : List (Str × Option Value)} {a : Addr} {o : Obj}
theorem v_assign_attr {x attr : Str} {p pos' pos : Pos} {value : Expr} {Q : Flow → Heap → Nat → Prop}
  (k : V γ A (eval value env) (fun v => W γ A (eval (.Name x p) env) (fun ov => W γ A (setAttr ov attr v) (fun ξ => Q .next))) h t)
  (hs : swapsWith value (some (.Attribute (.Name x p) attr pos')) pos.line env = pure false := by rfl) : V γ A (exec (.Assign [.Attribute (.Name x p) attr pos'] value pos) env) Q h t := by
 rw [plainObj_exec_Assign_Attribute (.Name x p) attr pos' value pos hs]
 refine v_standAt (v_bind (k.mono fun v h t y => v_bindw ?_))
 rw [assign_Attribute]
 refine w_bind (w_holding (y.mono fun ov h t y => ?_))
 refine w_bind (w_standAt (w_bind (w_holding (y.mono fun ξ h t q => ?_))))
 exact ⟨wpAny_release ⟨h, t, rfl, v_pure q⟩⟩
theorem Sc.thaw (st : Stat K D) (off : D a = none) (le : Le D D₂) (S : Sc K D₂ news h) (e : D₂ a = some o) : ∃ D₃, Le D D₃ ∧ D₃ a = none ∧ (∀ b, b ≠ a → D₃ b = D₂ b) ∧ Sc K D₃ ((a, o) :: news) h := by
 refine ⟨fun b => if b = a then none else D₂ b, fun b x e => ?_, by simp, fun b hb => if_neg hb, ⟨st.mono fun b x e => ?_, fun b x e => ?_, fun p hp => ?_, ?_, fun p hp => ?_⟩⟩
 ·show (if b = a then none else D₂ b) = some x
  rw [if_neg (fun q => by rw [q, off] at e; cases e)]; exact le _ _ e
 ·show (if b = a then none else D₂ b) = some x
  rw [if_neg (fun q => by rw [q, off] at e; cases e)]; exact le _ _ e
 ·have e : (if b = a then none else D₂ b) = some x := e
  split at e
  ·cases e
  ·exact S.keep _ _ e
 ·rcases List.mem_cons.mp hp with rfl | hp
  ·exact S.keep _ _ ‹D₂ a = some o›
  ·exact S.led p hp
 ·refine List.nodup_cons.mpr ⟨fun q => ?_, S.nodup⟩
  obtain ⟨p, hp, e2⟩ := List.mem_map.mp q
  have := S.off p hp
  rw [e2] at this
  have e3 : D₂ a = some o := ‹D₂ a = some o›
  rw [this] at e3; cases e3
 ·show (if p.1 = a then none else D₂ p.1) = none
  rcases List.mem_cons.mp hp with rfl | hp
  ·simp
  ·split
   ·rfl
   ·exact S.off p hp
theorem Fx.thaw (st : Stat K D) (off : D a = none) (le : Le D D₂) (F : Fx K D₂ env gl [] vars news h) (e : D₂ a = some o) : ∃ D₃, Le D D₃ ∧ D₃ a = none ∧ (∀ b, b ≠ a → D₃ b = D₂ b) ∧ Fx K D₃ env gl [] vars ((a, o) :: news) h := by
 refine ek1_2 F.f fun oL S fr => ?_
 refine ek1_4 (S.thaw st off le e) fun D₃ l e1 e2 S3 => ?_
 exact ⟨D₃, l, e1, e2, ⟨F.e.kind, F.e.ng, F.e.nb, F.e.lk, F.e.nd, F.e.gk, fun p hp => (nomatch hp)⟩, oL, S3.perm (.swap _ _ _), fr⟩
end
end
section
noncomputable def RangeD (D : Dm) (r : Addr) (n : Int) : Prop := ∃ t u v, D r = some { cls := .type "range", dict := none, data := .fields #[.int 0 t, .int n u, .int 1 v], slots := #[] }
noncomputable def IO (bs : List Int) (o : Obj) : Prop := ∃ vs, IntsAre vs bs ∧ LstO vs.toArray o
section
variable {h : Heap} {t : Nat} {gl cl : List (Str × Value)} {env : Env} {γ : G} {A : Around} {K : Frag} {D D' : Dm} {news rest : List (Addr × Obj)} {vars : List (Str × Option Value)} {a l : Addr} {o : Obj} {bs : List Int}
theorem w_call_range {n : Int} {u : Tok} {Q : Value → Heap → Nat → Prop} (F : Fx K D env gl cl vars news h) (q : ∀ D' r h t, Le D D' → RangeD D' r n → Fx K D' env gl cl vars news h → Q (.ref r) h t) : W γ A (call (.type "range") [.int n u]) Q h t := by
 have F1 := F.push { cls := .type "range", data := .fields #[.int 0 t, .int n u, .int 1 (t + 1)] }
 refine ek1_3 F1.frz fun D1 le e F2 => ?_
 exact ⟨call_range_1 (s := mkS γ h t) ⟨_, t + 2, rfl, q D1 _ _ _ le ⟨_, _, _, e⟩ F2⟩⟩
theorem w_pyiter_range {r : Addr} {n : Nat} {Q : Value → Heap → Nat → Prop} (F : Fx K D env gl cl vars news h) (hr : RangeD D r n) (hn : n ≤ 1000000) (q : ∀ it own h', RangeSt it 0 n 0 D own → Fx K D env gl cl vars (news ++ own) h' → Q (.ref it) h' t) : PyIter γ A (.ref r) Q h t := by
 obtain ⟨t0, u, v, e⟩ := hr
 have F1 := F.push { cls := .type "range_iterator", data := .fields #[rawInt 0, rawInt (Builtin.Range.rangeSize 0 n 1), rawInt 1] }
 have hsz : Builtin.Range.rangeSize 0 n 1 = (n : Int) := by rw [rangeSize_one]; split <;> kcf_m
 refine ⟨⟨wpAny_pyIter_range (s := mkS γ h t) (F.sc.keep _ _ e) (small_one (by decide) (by decide) (Int.natCast_nonneg _) (by kcf_m)) ⟨_, t, rfl, q _ [_] _ ?_ (F1.perm (List.perm_append_comm (l₁ := [_]) (l₂ := news)))⟩⟩⟩
 unfold RangeSt
 refine hsz.symm ▸ ?_
 rfl
theorem w_io_append {n : Int} {u : Tok} {Q : Value → Heap → Nat → Prop} (F : Fx K D env gl cl vars news h) (p : Pick (l, o) news rest) (hl : IO bs o) (hn : bs.length ≤ 1000000)
  (q : ∀ o' h', IO (bs ++ [n]) o' → Fx K D env gl cl vars ((l, o') :: rest) h' → Q .none h' t) : W γ A (call (.builtin "list.append") [.ref l, .int n u]) Q h t := by
 refine ek1_2 hl fun vs h1 h2 => ?_; clear hl
 exact w_lappend F p h2 (by rw [h1.length]; exact hn) fun o' h' h3 F => q o' h' ⟨_, ksk_snoc h1, h3⟩ F
theorem w_io_getm {name : Str} {id : String} {pl : Sem Bool} {Q : Value × List Value → Heap → Nat → Prop} (slot : Slot "list" name id) (hty : typeOf (.builtin id) = pure (.type "method_descriptor")) (ho : h.get? l = some o) (hl : IO bs o)
  (q : Q (.builtin id, [.ref l]) h t) : W γ A (getMethod (.ref l) name pl) Q h t := by
 obtain ⟨vs, h1, h2⟩ := hl
 exact w_getm_list slot hty ho h2 q
theorem w_io_len {Q : Value → Heap → Nat → Prop} (ho : h.get? l = some o) (hl : IO bs o) (hn : bs.length ≤ 1000000) (q : Q (.int bs.length (t + 1)) h (t + 2)) : W γ A (call (.builtin "len") [.ref l]) Q h t := by
 refine ek1_2 hl fun vs h1 h2 => ?_; clear hl
 have e := h1.length
 refine w_len_list ho h2.ls (by rw [sizeLine_eq]; exact Nat.le_trans (Nat.le_trans (Nat.le_of_eq e) hn) (by decide)) ?_
 rw [e]; exact q
theorem w_io_extend {cs : List Int} {tp : Addr} {po : Obj} {Q : Value → Heap → Nat → Prop} (F : Fx K D env gl cl vars news h) (p : Pick (l, o) news rest) (hl : IO bs o) (ho : h.get? tp = some po) (hp : IO cs po) (hne : tp ≠ l) (hn : bs.length + cs.length ≤ 1000000)
  (q : ∀ o' h', IO (bs ++ cs) o' → Fx K D env gl cl vars ((l, o') :: rest) h' → Q .none h' t) : W γ A (call (.builtin "list.extend") [.ref l, .ref tp]) Q h t := by
 refine ek1_2 hl fun vs h1 h2 => ?_; clear hl
 refine ek1_2 hp fun ws g1 z1 => ?_; clear hp; refine ek1_1 z1 fun m z2 => ?_; clear z1; obtain rfl := z2
 exact w_lextend (T := "list") (.inl rfl) F p h2 ho hne (by rw [h1.length, g1.length]; exact hn) fun o' h' h3 F => q o' h' ⟨_, IntsAre.append h1 g1, h3⟩ F
end
theorem little_mod : ∀ (m : Nat) (x : Int), KTBy.little m (x % 256 ^ m) = KTBy.little m x
 | 0, _ => rfl
 | m + 1, x => by
  have e1 : x % 256 ^ (m + 1) % 256 = x % 256 := Int.emod_emod_of_dvd _ ⟨256 ^ m, by rw [Int.pow_succ, Int.mul_comm]⟩
  have e2 : x % 256 ^ (m + 1) / 256 % 256 ^ m = x / 256 % 256 ^ m := by
   have hp : (0 : Int) < 256 ^ m := Int.pow_pos (by decide)
   have h1 : x = 256 * (x / 256) + x % 256 := (Int.mul_ediv_add_emod x 256).symm
   have key : x % 256 ^ (m + 1) = 256 * (x / 256 % 256 ^ m) + x % 256 := by
    have a1 := Int.emod_nonneg (x / 256) (Int.ne_of_gt hp)
    have a2 := Int.emod_lt_of_pos (x / 256) hp
    have a3 := Int.emod_nonneg x (show (256 : Int) ≠ 0 by decide)
    have a4 := Int.emod_lt_of_pos x (show (0 : Int) < 256 by decide)
    have h2 : x / 256 = 256 ^ m * (x / 256 / 256 ^ m) + x / 256 % 256 ^ m := (Int.mul_ediv_add_emod _ _).symm
    have e3 : x = 256 ^ (m + 1) * (x / 256 / 256 ^ m) + (256 * (x / 256 % 256 ^ m) + x % 256) := by
     conv => lhs; rw [h1, h2]
     rw [Int.pow_succ, Int.mul_add, ← Int.mul_assoc, Int.mul_comm 256 (256 ^ m), Int.add_assoc]
    have b1 : 0 ≤ 256 * (x / 256 % 256 ^ m) + x % 256 := by kcf_m
    have b2 : 256 * (x / 256 % 256 ^ m) + x % 256 < 256 ^ (m + 1) := by rw [Int.pow_succ]; kcf_m
    conv => lhs; rw [e3]
    rw [Int.mul_comm, Int.add_comm, Int.add_mul_emod_self_right, Int.emod_eq_of_lt b1 b2]
   have a3 := Int.emod_nonneg x (show (256 : Int) ≠ 0 by decide)
   have a4 := Int.emod_lt_of_pos x (show (0 : Int) < 256 by decide)
   have e4 : (256 * (x / 256 % 256 ^ m) + x % 256) / 256 = x / 256 % 256 ^ m := by kcf_m
   rw [key, e4, Int.emod_emod_of_dvd _ ⟨1, by simp⟩]
  show (x % 256 ^ (m + 1) % 256) :: KTBy.little m (x % 256 ^ (m + 1) / 256) = (x % 256) :: KTBy.little m (x / 256)
  rw [e1, ← little_mod m (x % 256 ^ (m + 1) / 256), e2, little_mod m (x / 256)]
theorem little_succ (i : Nat) (x : Int) : KTBy.little (i + 1) x = KTBy.little i x ++ [x / 256 ^ i % 256] := by
 rw [KTBy.little_eq, KTBy.little_eq, List.range_succ, List.map_append]
 rfl
end
section
section
variable {h : Heap} {t : Nat} {γ : G} {A : Around} {D : Dm} {tp : Addr} {o : Obj} {items : List Value}
theorem w_in_tup_ints {ns : List Int} {k : Int} {u : Tok} {Q : Value → Heap → Nat → Prop} (ho : h.get? tp = some o) (hT : TupO items o) (hi : IntsAre items ns) (q : Q (.bool (ns.any (· == k))) h t) : W γ A (compareOp .In (.int k u) (.ref tp)) Q h t :=
 ⟨in_tuple_ints (s := mkS γ h t) (hT.isTuple ho) hi ⟨h, t, rfl, q⟩⟩
theorem w_in_tup_strs {ys : List Str} {x : Str} {u : Tok} {Q : Value → Heap → Nat → Prop} (ho : h.get? tp = some o) (hT : TupO items o) (hi : StrsAre items ys) (q : Q (.bool (ys.any (· == x))) h t) : W γ A (compareOp .In (.str x u) (.ref tp)) Q h t :=
 ⟨in_tuple_strs (s := mkS γ h t) (hT.isTuple ho) (by simpa using hi) ⟨h, t, rfl, q⟩⟩
theorem w_in_tup_strsb {ys : List Str} {x : Str} {u : Tok} {c : Bool} {Q : Value → Heap → Nat → Prop} (ho : h.get? tp = some o) (hT : TupO items o) (hi : StrsAre items ys) (e : ys.any (· == x) = c) (q : Q (.bool c) h t) : W γ A (compareOp .In (.str x u) (.ref tp)) Q h t := by subst e; exact w_in_tup_strs ho hT hi q
end
end
section
section
variable {h : Heap} {t : Nat} {gl cl : List (Str × Value)} {env : Env} {γ : G} {A : Around} {K : Frag} {D D' : Dm} {own news rest : List (Addr × Obj)} {vars : List (Str × Option Value)} {l b : Addr} {o : Obj} {Q : Value → Heap → Nat → Prop}
theorem w_eq_str {x y : Str} {u v : Tok} (q : Q (.bool (x == y)) h t) : W γ A (compareOp .Eq (.str x u) (.str y v)) Q h t := ⟨eq_str (s := mkS γ h t) ⟨h, t, rfl, q⟩⟩
theorem w_eq_strb {x y : Str} {u v : Tok} {c : Bool} (e : (x == y) = c) (q : Q (.bool c) h t) : W γ A (compareOp .Eq (.str x u) (.str y v)) Q h t := by subst e; exact w_eq_str q
theorem w_add_str {x y : Str} {u v : Tok} (hn : x.length + y.length ≤ 1000000) (q : ∀ tk t, Q (.str (x ++ y) tk) h t) : W γ A (binaryOp .Add (.str x u) (.str y v)) Q h t :=
 ⟨add_str (s := mkS γ h t) (fun t' tk => ⟨h, tk, rfl, q t' tk⟩) (by rw [sizeLine_eq]; exact Nat.le_trans hn (by decide))⟩
theorem w_join_strs {x : Str} {u : Tok} {items : List Value} {ys : List Str} (ho : h.get? l = some o) (hl : LstO items.toArray o) (hi : StrsAre items ys) (hn : (ys.map (·.length)).sum + ys.length * x.length ≤ 16777216) (q : ∀ tk t, Q (.str (Txt.join x ys) tk) h t) : W γ A (call (.builtin "str.join") [.str x u, .ref l]) Q h t :=
 ⟨join_list (s := mkS γ h t) (hl.isList ho) (by simpa using hi) hn fun t' k => ⟨h, k, rfl, q t' k⟩⟩
theorem w_ord {c : Nat} {u : Tok} (q : Q (.int c t) h (t + 1)) : W γ A (call (.builtin "ord") [.str ⟨#[c]⟩ u]) Q h t := ⟨PySem.P.ord_of_char (s := mkS γ h t) ⟨h, t + 1, rfl, q⟩⟩
theorem rep_flat {α : Type} (xs : List α) (n : Nat) : (List.foldl (fun x1 x2 => x1 ++ x2) #[] (List.replicate (if xs.toArray.isEmpty = true then 0 else n) xs.toArray)).toList = (List.replicate n xs).flatten := by
 have gen : ∀ (n : Nat) (acc : Array α), (List.foldl (fun x1 x2 => x1 ++ x2) acc (List.replicate n xs.toArray)).toList = acc.toList ++ (List.replicate n xs).flatten := by
  intro n
  induction n with
  | zero => intro acc; simp
  | succ n ih => intro acc; rw [List.replicate_succ, List.foldl_cons, ih, List.replicate_succ]; simp
 by_cases he : xs = []
 ·subst he; simp
 ·rw [if_neg (by simpa using he), gen]; simp
theorem w_mul_list {items : List Value} {x : Int} {u : Tok} (F : Fx K D env gl cl vars news h) (ho : h.get? l = some o) (hl : LstO items.toArray o) (h0 : 0 ≤ x) (hn : items.length * x.toNat ≤ 1000000) (hx : x ≤ 1000000)
  (q : ∀ a o' h', LstO ((List.replicate x.toNat items).flatten).toArray o' → Fx K D env gl cl vars ((a, o') :: news) h' → Q (.ref a) h' t) : W γ A (binaryOp .Mult (.ref l) (.int x u)) Q h t := by
 obtain ⟨k, rfl⟩ := hl
 refine ⟨wpAny_binaryOp_repeat_ref (s := mkS γ h t) (T := "list") (U := "int") (by decide) ⟨_, ho, rfl⟩ (fun s' => typeIs_int s' x u) noFill_list_mul PySem.F.fills_int_mul PySem.F.slot_int_rmul repeat_list PySem.F.slot_int_index.lookup
  (call_meets PySem.F.slot_int_rmul (typeIs_int _ x u) PySem.F.entry_int_rmul (PySem.F.args_int_rmul_2 _ _) (int___rmul___int_list x u l items.toArray k)
   ⟨ho, rfl, ⟨_, ho, rfl⟩, call_meets PySem.F.slot_list_mul ⟨_, ho, rfl⟩ PySem.F.entry_list_mul (PySem.F.args_list_mul_2 _ _)
    (AutoListH.list___mul___list_int_3 l items.toArray k x u (by simp [Builtin.List.listFitsIndex]; exact ⟨(iZ h0 (by kcf_m)), (iL hx (by kcf_m))⟩) (by rw [List.size_toArray]; kcf_m) (by simp [Builtin.List.listTooLong, sizeLine]; exact Nat.le_trans hn (by decide)))
    ⟨ho, _, t, rfl, ?_⟩⟩)⟩
 refine q _ _ _ ?_ (F.push { cls := .type "list", data := .seq (List.foldl (fun x1 x2 => x1 ++ x2) #[] (List.replicate (if items.toArray.isEmpty = true then 0 else x.toNat) items.toArray)) })
 refine ⟨0, ?_⟩
 have e := rep_flat items x.toNat
 rw [← e, Array.toArray_toList]
theorem w_add_lists {xs ys : List Value} {ob : Obj} (F : Fx K D env gl cl vars news h) (ho : h.get? l = some o) (hl : LstO xs.toArray o) (hb : h.get? b = some ob) (hl2 : LstO ys.toArray ob) (hn : xs.length + ys.length ≤ 1000000)
  (q : ∀ a o' h', LstO (xs ++ ys).toArray o' → Fx K D env gl cl vars ((a, o') :: news) h' → Q (.ref a) h' t) : W γ A (binaryOp .Add (.ref l) (.ref b)) Q h t := by
 obtain ⟨k, rfl⟩ := hl
 obtain ⟨k2, rfl⟩ := hl2
 refine ⟨P.add_list (s := mkS γ h t) ho hb ⟨_, t, rfl, ?_⟩ (by rw [sizeLine_eq, List.size_toArray, List.size_toArray]; exact Nat.le_trans hn (by decide))⟩
 exact q _ _ _ ⟨0, by simp⟩ (F.push { cls := .type "list", data := .seq (xs.toArray ++ ys.toArray) })
inductive StrSt (it : Addr) (x : Str) (u : Tok) (i : Nat) (D : Dm) : List (Addr × Obj) → Prop
 | mk {o : Obj} : o.cls = .type "str_ascii_iterator" → o.data = .fields #[.str x u, .int i 0] → StrSt it x u i D [(it, o)]
theorem iter_str {it : Addr} {x : Str} {u : Tok} {n : Str} {p : Pos} : Iter γ K (.ref it) (.Name n p) x.cps.size (StrSt it x u) (fun i ξ v => ∃ c tk, x.cps[i]? = some c ∧ v = .str ⟨#[c]⟩ tk) := by
 refine ⟨?_, ?_, ?_, ?_⟩
 ·intro i D D' own _ st; cases st with | mk c d => exact .mk c d
 ·intro D own rest A h t Q st S q; cases st with | mk c d => exact ⟨wpAny_pyIter_striter_ascii (s := mkS γ h t) (x := x) (t := u) (i := 0) ⟨_, S.head, c, d⟩ ⟨h, t, rfl, q h t S⟩⟩
 ·intro i D own rest A h t Q hh hi st S q
  cases st with
  | mk c d =>
  have hx : x.cps[i]? = some x.cps[i] := Array.getElem?_eq_getElem hi
  refine ⟨wpAny_pyNext_ascii_item (s := mkS γ h t) (x := x) (t := u) (i := i) ⟨_, S.head, c, d⟩ hx fun h' hit hs => ⟨h', t + 1, rfl, q _ _ _ ?_⟩⟩
  refine ek1_3 (id hit) fun o' e1 e2 e3 => ?_
  exact w_pure (.mk (Le.refl _) (.mk e2 e3) ⟨_, _, hx, rfl⟩ (S.upd (fun b x hb e => hs.extBut b x hb e) e1))
 ·intro D own rest A h t Q hh st S q; cases st with | mk c d => exact ⟨wpAny_pyNext_ascii_end (s := mkS γ h t) (x := x) (t := u) (i := x.cps.size) hh ⟨_, S.head, c, d⟩ (Array.getElem?_eq_none (Nat.le_refl _)) fun h' he => ⟨h', t, rfl, q h' t (S.skip he)⟩⟩
theorem w_pyiter_str {x : Str} {u : Tok} (F : Fx K D env gl cl vars news h) (ha : x.cps.all (· < 128) = true) (q : ∀ it own h', StrSt it x u 0 D own → Fx K D env gl cl vars (news ++ own) h' → Q (.ref it) h' t) : PyIter γ A (.str x u) Q h t := by
 have F1 := F.push { cls := .type "str_ascii_iterator", data := .fields #[.str x u, .int 0 0] }
 exact ⟨⟨wpAny_pyIter_ascii (s := mkS γ h t) ha ⟨_, t, rfl, q _ [_] _ (.mk rfl rfl) (F1.perm (List.perm_append_comm (l₁ := [_]) (l₂ := news)))⟩⟩⟩
end
end
section
structure St {α : Type} (γ : G) (A : Around) (h : Heap) (t : Nat) (tree : Sem α) (a : α) (t' : Nat) : Prop where
 go : ∀ Q : α → Heap → Nat → Prop, Q a h t' → W γ A tree Q h t
@[reducible] noncomputable def notStar : Expr → Bool
 | .Starred .. => false
 | _ => true
theorem star_of {e : Expr} {rest : List Expr} {env : Env} (n : notStar e = true) : starEach (e :: rest) env = (false, eval e env) :: starEach rest env := by
 cases e <;> first | rfl | cases n
theorem plain_of {pos : Pos} {env : Env} : ∀ {l : List Expr}, l.all notStar = true → (backTo pos (starEach l env)).any (·.1) = false
 | [], _ => rfl
 | e :: r, n => by
  rw [List.all_cons, Bool.and_eq_true] at n
  rw [star_of n.1]
  show (false || (backTo pos (starEach r env)).any (·.1)) = false
  rw [plain_of n.2]; rfl
section
variable {α : Type} {h : Heap} {t t1 t2 t3 t' : Nat} {env : Env} {γ : G} {A : Around}
theorem St.use {tree : Sem α} {a : α} {Q : α → Heap → Nat → Prop} (x : St γ A h t tree a t') (q : Q a h t') : W γ A tree Q h t := x.go Q q
section
variable {gl cl : List (Str × Value)} {x : Str} {pos : Pos} {K : Frag} {D : Dm} {news : List (Addr × Obj)} {vars vars' : List (Str × Option Value)} {v : Value}
theorem St.ld (F : Fx K D env gl cl vars news h) (hm : Has (x, some v) vars) : St γ A h t (eval (.Name x pos) env) v t := ⟨fun ξ q => w_ld F hm q⟩
theorem St.lg (F : Fx K D env gl cl vars news h) (hm : Has (x, v) gl) : St γ A h t (eval (.Name x pos) env) v t := ⟨fun ξ q => w_gl F hm q⟩
theorem St.lc (F : Fx K D env gl cl vars news h) (hm : Has (x, v) cl) : St γ A h t (eval (.Name x pos) env) v t := ⟨fun ξ q => w_cl F hm q⟩
theorem St.cls {C : Addr} {name : Str} {ex : Bool} (F : Fx K D env gl cl vars news h) (e : clsVal K C name v = true) : St γ A h t (getAttr (.ref C) name ex) v (t + 1) := ⟨fun ξ q => w_cls_val (Sc.inK (Fx.sc F)) e q⟩
theorem St.sm {C f : Addr} {name : Str} {pl : Sem Bool} (F : Fx K D env gl cl vars news h) (e : clsSm K C name f = true) : St γ A h t (getMethod (.ref C) name pl) (.ref f, []) (t + 1) := ⟨fun ξ q => w_getm_sm (Sc.inK (Fx.sc F)) e q⟩
end
section
variable {pos p : Pos} {x : Str} {i a b : Int} {u v w : Tok} {k : Nat} {y : Value}
theorem St.int : St γ A h t (eval (.Constant (.int i) k pos) env) (.int i t) (t + 1) := ⟨fun ξ q => w_int q⟩
theorem St.str : St γ A h t (eval (.Constant (.str x) k pos) env) (.str x t) (t + 1) := ⟨fun ξ q => w_str q⟩
theorem St.none : St γ A h t (eval (.Constant .none k pos) env) .none t := ⟨fun ξ q => w_none q⟩
theorem St.bool {b : Bool} : St γ A h t (eval (.Constant (.bool b) k pos) env) (.bool b) t := ⟨fun ξ q => w_bool q⟩
theorem St.add : St γ A h t (binaryOp .Add (.int a u) (.int b v)) (.int (a + b) t) (t + 1) := ⟨fun ξ q => i_add q⟩
theorem St.sub : St γ A h t (binaryOp .Sub (.int a u) (.int b v)) (.int (a - b) t) (t + 1) := ⟨fun ξ q => i_sub q⟩
theorem St.band : St γ A h t (binaryOp .BitAnd (.int a u) (.int b v)) (.int (Builtin.bitAnd a b) t) (t + 1) := ⟨fun ξ q => i_and q⟩
theorem St.neg : St γ A h t (unaryOp .USub (.int a u)) (.int (-a) t) (t + 1) := ⟨fun ξ q => i_neg q⟩
theorem St.inv : St γ A h t (unaryOp .Invert (.int a u)) (.int (Builtin.bitNot a) t) (t + 1) := ⟨fun ξ q => i_not q⟩
theorem St.lt : St γ A h t (compareOp .Lt (.int a u) (.int b v)) (.bool (decide (a < b))) t := ⟨fun ξ q => i_lt q⟩
theorem St.le : St γ A h t (compareOp .LtE (.int a u) (.int b v)) (.bool (decide (a ≤ b))) t := ⟨fun ξ q => i_le q⟩
theorem St.gt : St γ A h t (compareOp .Gt (.int a u) (.int b v)) (.bool (decide (a > b))) t := ⟨fun ξ q => i_gt q⟩
theorem St.ge : St γ A h t (compareOp .GtE (.int a u) (.int b v)) (.bool (decide (a ≥ b))) t := ⟨fun ξ q => i_ge q⟩
theorem St.eq : St γ A h t (compareOp .Eq (.int a u) (.int b v)) (.bool (decide (a = b))) t := ⟨fun ξ q => i_eq q⟩
theorem St.isN : St γ A h t (compareOp .Is y .none) (.bool (y == .none)) t := ⟨fun ξ q => w_isNone q⟩
theorem St.notN : St γ A h t (compareOp .IsNot y .none) (.bool (!(y == .none))) t := ⟨fun ξ q => w_isNotNone q⟩
theorem St.tBool {b : Bool} : St γ A h t (truthy (.bool b)) b t := ⟨fun ξ q => w_truthy_bool q⟩
theorem St.tNone : St γ A h t (truthy .none) false t := ⟨fun ξ q => w_truthy_none q⟩
end
section
variable {l r e o test : Expr} {op : Operator} {uop : UnaryOp} {cop : CmpOp} {pos p apos : Pos} {x attr name : Str} {rest args : List Expr} {kws : List Keyword} {b : Bool} {K : Frag} {va vb v f : Value} {vs first : List Value} {whole : Sem Value}
theorem St.bin (x : St γ A h t (eval l env) va t1) (y : St γ A h t1 (eval r env) vb t2) (z : St γ A h t2 (binaryOp op va vb) v t3) : St γ A h t (eval (.BinOp l op r pos) env) v t3 := ⟨fun ξ q => w_binop (x.go _ (y.go _ (z.go _ q)))⟩
theorem St.un (x : St γ A h t (eval l env) va t1) (z : St γ A h t1 (unaryOp uop va) v t2) : St γ A h t (eval (.UnaryOp uop l pos) env) v t2 := ⟨fun ξ q => w_unop (x.go _ (z.go _ q))⟩
theorem St.cmp (x : St γ A h t (eval l env) va t1) (y : St γ A h t1 (eval r env) vb t2) (z : St γ A h t2 (compareOp cop va vb) v t3) (hm : behindInMarks cop r = false) : St γ A h t (eval (.Compare l [cop] [r] pos) env) v t3 := ⟨fun ξ q => w_compare (x.go _ (y.go _ (z.go _ q))) hm⟩
theorem St.tcmp (x : St γ A h t (eval l env) va t1) (y : St γ A h t1 (eval r env) vb t2) (z : St γ A h t2 (compareOp cop va vb) v t3) (w : St γ A h t3 (truthy v) b t') (hm : behindInMarks cop r = false) : St γ A h t (isTrue (.Compare l [cop] [r] pos) env whole) b t' := ⟨fun ξ q => w_test_compare (x.go _ (y.go _ (z.go _ (w.go _ q)))) hm⟩
theorem St.tname (s : St γ A h t (eval (.Name x p) env) v t1) (w : St γ A h t1 (truthy v) b t') : St γ A h t (PySem.isTrue (.Name x p) env (eval (.Name x p) env)) b t' := ⟨fun ξ q => w_test_value (s.go _ (w.go _ q)) (by with_unfolding_all rfl)⟩
theorem St.att (s : St γ A h t (eval (.Name x p) env) va t1) (y : St γ A h t1 (getAttr va attr true) v t2) : St γ A h t (eval (.Attribute (.Name x p) attr pos) env) v t2 := ⟨fun ξ q => w_attr_name (s.go _ (y.go _ q))⟩
theorem St.nil : St γ A h t (spliced (backTo pos (starEach [] env))) [] t := ⟨fun ξ q => w_args_nil q⟩
theorem St.cons (n : notStar e = true) (x : St γ A h t (eval e env) v t1) (y : St γ A h t1 (spliced (backTo pos (starEach rest env))) vs t2) : St γ A h t (spliced (backTo pos (starEach (e :: rest) env))) (v :: vs) t2 :=
 ⟨fun ξ q => w_args_cons (x.go _ (y.go _ q)) (star_of n)⟩
theorem w_cwS {Q : Value → Heap → Nat → Prop} (hk : keepOk K f = true) (X : K.In h) (n : (e :: rest).all notStar = true) (x : St γ A h t (spliced (backTo pos (starEach (e :: rest) env))) vs t') (k : W γ A (call f (cat first vs)) Q h t') :
  W γ A (callWith pos f first (backTo pos (starEach (e :: rest) env)) (backToKw pos (keywordEach [] env))) Q h t := by
 rw [List.all_cons, Bool.and_eq_true] at n
 exact w_callwith hk (x.go _ ⟨X, k⟩) (star_of n.1) (plain_of n.2)
theorem v_cwS {Q : Value → Heap → Nat → Prop} (hk : keepOk K f = true) (X : K.In h) (n : (e :: rest).all notStar = true) (x : St γ A h t (spliced (backTo pos (starEach (e :: rest) env))) vs t') (k : V γ A (call f (cat first vs)) Q h t') :
  V γ A (callWith pos f first (backTo pos (starEach (e :: rest) env)) (backToKw pos (keywordEach [] env))) Q h t := by
 rw [List.all_cons, Bool.and_eq_true] at n
 exact v_callwith hk (x.go _ ⟨X, k⟩) (star_of n.1) (plain_of n.2)
theorem w_cwP {Q : Value → Heap → Nat → Prop} (hf : f.onHeap = false) (n : (e :: rest).all notStar = true) (x : St γ A h t (spliced (backTo pos (starEach (e :: rest) env))) vs t') (k : W γ A (call f (cat first vs)) Q h t') :
  W γ A (callWith pos f first (backTo pos (starEach (e :: rest) env)) (backToKw pos (keywordEach [] env))) Q h t := by
 rw [List.all_cons, Bool.and_eq_true] at n
 exact w_cw_plain hf (x.go _ k) (star_of n.1) (plain_of n.2)
theorem v_cwP {Q : Value → Heap → Nat → Prop} (hf : f.onHeap = false) (n : (e :: rest).all notStar = true) (x : St γ A h t (spliced (backTo pos (starEach (e :: rest) env))) vs t') (k : V γ A (call f (cat first vs)) Q h t') :
  V γ A (callWith pos f first (backTo pos (starEach (e :: rest) env)) (backToKw pos (keywordEach [] env))) Q h t := by
 rw [List.all_cons, Bool.and_eq_true] at n
 exact v_cw_plain hf (x.go _ k) (star_of n.1) (plain_of n.2)
theorem w_ecN {Q : Value → Heap → Nat → Prop} (s : St γ A h t (eval (.Name x p) env) f t1) (k : W γ A (callWith pos f [] (backTo pos (starEach args env)) (backToKw pos (keywordEach kws env))) Q h t1) : W γ A (eval (.Call (.Name x p) args kws pos) env) Q h t :=
 w_ecall (s.go _ k) (by with_unfolding_all rfl)
theorem v_ecN {Q : Value → Heap → Nat → Prop} (s : St γ A h t (eval (.Name x p) env) f t1) (k : V γ A (callWith pos f [] (backTo pos (starEach args env)) (backToKw pos (keywordEach kws env))) Q h t1) : V γ A (eval (.Call (.Name x p) args kws pos) env) Q h t :=
 v_ecall (s.go _ k) (by with_unfolding_all rfl)
theorem w_mcN {Q : Value → Heap → Nat → Prop} (s : St γ A h t (eval (.Name x p) env) v t1) (m : St γ A h t1 (getMethod v name (do return (← importBound (.Name x p) env).getD true)) (f, first) t2)
  (k : W γ A (callWith pos f first (backTo pos (starEach args env)) (backToKw pos (keywordEach kws env))) Q h t2)
  (hf : methodCallForm (args.length + kws.length) (backTo pos (starEach args env)) (backToKw pos (keywordEach kws env)) = true) (hp : methodCallPos true (.Name x p) env apos pos = pure pos) : W γ A (eval (.Call (.Attribute (.Name x p) name apos) args kws pos) env) Q h t :=
 w_mcall (s.go _ (m.go _ k)) (by with_unfolding_all rfl) hf hp
section
variable {l r e value slice : Expr} {op : Operator} {uop : UnaryOp} {cop : CmpOp} {pos p apos : Pos} {x attr name : Str} {rest args : List Expr} {kws : List Keyword} {va vb v o i : Value} {whole : Sem Value} {Q : Value → Heap → Nat → Prop}
theorem w_binSS (x : St γ A h t (eval l env) va t1) (y : St γ A h t1 (eval r env) vb t2) (k : W γ A (binaryOp op va vb) Q h t2) : W γ A (eval (.BinOp l op r pos) env) Q h t := w_binop (x.go _ (y.go _ k))
theorem w_binS (x : St γ A h t (eval l env) va t1) (k : W γ A (eval r env) (fun b => W γ A (binaryOp op va b) Q) h t1) : W γ A (eval (.BinOp l op r pos) env) Q h t := w_binop (x.go _ k)
theorem w_subSS (x : St γ A h t (eval value env) o t1) (y : St γ A h t1 (eval slice env) i t2) (k : W γ A (subscriptTail value slice o i) Q h t2) : W γ A (eval (.Subscript value slice pos) env) Q h t := w_subscript (x.go _ (y.go _ k))
theorem w_subS (x : St γ A h t (eval value env) o t1) (k : W γ A (eval slice env) (fun i => W γ A (subscriptTail value slice o i) Q) h t1) : W γ A (eval (.Subscript value slice pos) env) Q h t := w_subscript (x.go _ k)
theorem w_tcmpS {Q : Bool → Heap → Nat → Prop} (x : St γ A h t (eval l env) va t1) (k : W γ A (eval r env) (fun b => W γ A (compareOp cop va b) (fun c => W γ A (truthy c) Q)) h t1) (hm : behindInMarks cop r = false) : W γ A (isTrue (.Compare l [cop] [r] pos) env whole) Q h t := w_test_compare (x.go _ k) hm
theorem w_argsS {Q : List Value → Heap → Nat → Prop} (x : St γ A h t (eval e env) v t1) (k : W γ A (spliced (backTo pos (starEach rest env))) (fun vs => Q (v :: vs)) h t1) (n : notStar e = true) : W γ A (spliced (backTo pos (starEach (e :: rest) env))) Q h t := w_args_cons (x.go _ k) (star_of n)
theorem w_attrS (s : St γ A h t (eval (.Name x p) env) va t1) (k : W γ A (getAttr va attr true) Q h t1) : W γ A (eval (.Attribute (.Name x p) attr pos) env) Q h t := w_attr_name (s.go _ k)
theorem w_mcS (s : St γ A h t (eval (.Name x p) env) v t1) (k : W γ A (getMethod v name (do return (← importBound (.Name x p) env).getD true)) (fun fs => W γ A (callWith pos fs.1 fs.2 (backTo pos (starEach args env)) (backToKw pos (keywordEach kws env))) Q) h t1)
  (hf : methodCallForm (args.length + kws.length) (backTo pos (starEach args env)) (backToKw pos (keywordEach kws env)) = true) (hp : methodCallPos true (.Name x p) env apos pos = pure pos) : W γ A (eval (.Call (.Attribute (.Name x p) name apos) args kws pos) env) Q h t :=
 w_mcall (s.go _ k) (by with_unfolding_all rfl) hf hp
theorem v_mcS (s : St γ A h t (eval (.Name x p) env) v t1) (k : W γ A (getMethod v name (do return (← importBound (.Name x p) env).getD true)) (fun fs => V γ A (callWith pos fs.1 fs.2 (backTo pos (starEach args env)) (backToKw pos (keywordEach kws env))) Q) h t1)
  (hf : methodCallForm (args.length + kws.length) (backTo pos (starEach args env)) (backToKw pos (keywordEach kws env)) = true) (hp : methodCallPos true (.Name x p) env apos pos = pure pos) : V γ A (eval (.Call (.Attribute (.Name x p) name apos) args kws pos) env) Q h t :=
 v_mcall (s.go _ k) (by with_unfolding_all rfl) hf hp
theorem w_asubS {Q : Flow → Heap → Nat → Prop} {a b : Expr} (x : St γ A h t (eval value env) v t1) (y : St γ A h t1 (eval a env) o t2) (z : St γ A h t2 (eval b env) i t3) (k : W γ A (setItem o i v) (fun ξ => Q .next) h t3)
  (hs : swapsWithSole [.Subscript a b p] value pos.line env = pure false) (hw : swappedStores [.Subscript a b p] value env = pure none) : W γ A (exec (.Assign [.Subscript a b p] value pos) env) Q h t := w_assign_sub (x.go _ (y.go _ (z.go _ k))) hs hw
theorem w_aattrS {Q : Flow → Heap → Nat → Prop} {a : Expr} (x : St γ A h t (eval value env) v t1) (y : St γ A h t1 (eval a env) o t2) (k : W γ A (setAttr o attr v) (fun ξ => Q .next) h t2)
  (hs : swapsWith value (some (.Attribute a attr p)) pos.line env = pure false) : W γ A (exec (.Assign [.Attribute a attr p] value pos) env) Q h t := w_assign_attr (x.go _ (y.go _ k)) hs
end
variable {body orelse : List Stmt}
theorem w_ifS {Q : Flow → Heap → Nat → Prop} (x : St γ A h t (isTrue test env (eval test env)) b t1) (k : Br b (W γ A (execs body env) Q h t1) (W γ A (execs orelse env) Q h t1)) : W γ A (exec (.If test body orelse pos) env) Q h t := w_if (x.go _ k)
theorem v_ifS {Q : Flow → Heap → Nat → Prop} (x : St γ A h t (isTrue test env (eval test env)) b t1) (k : Br b (V γ A (execs body env) Q h t1) (V γ A (execs orelse env) Q h t1)) : V γ A (exec (.If test body orelse pos) env) Q h t := v_if (x.go _ k)
theorem w_retS {Q : Flow → Heap → Nat → Prop} (x : St γ A h t (eval e env) v t1) (q : Q (.ret v) h t1) : W γ A (exec (.Return (some e) pos) env) Q h t := w_return (x.go _ q)
theorem v_retS {Q : Flow → Heap → Nat → Prop} (x : St γ A h t (eval e env) v t1) (q : Q (.ret v) h t1) : V γ A (exec (.Return (some e) pos) env) Q h t := .of_w (w_retS x q)
end
section
variable {gl cl : List (Str × Value)} {x : Str} {pos pos' : Pos} {value : Expr} {K : Frag} {D : Dm} {news : List (Addr × Obj)} {vars vars' : List (Str × Option Value)} {v : Value}
theorem w_asgS {Q : Flow → Heap → Nat → Prop} (F : Fx K D env gl cl vars news h) (s : St γ A h t (eval value env) v t1) (hs : SetV x (some v) vars vars') (k : ∀ h' t', Fx K D env gl cl vars' news h' → Q .next h' t')
  (sw : swapsWith value (some (.Name x pos')) pos.line env = pure false) : W γ A (exec (.Assign [.Name x pos'] value pos) env) Q h t := w_assign_name (s.go _ (w_st F hs k)) sw
end
end
end
section
section
variable {h h' : Heap} {t : Nat} {gl cl : List (Str × Value)} {env : Env} {γ : G} {A : Around} {K : Frag} {D D' : Dm} {own news news' : List (Addr × Obj)} {vars vars' : List (Str × Option Value)}
theorem Fx.joinc {G : Prop} {Q0 : Flow → Heap → Nat → Prop} (F : Fx K D env gl cl vars news h) (J : (Dm → List (Str × Option Value) → List (Addr × Obj) → Prop) → Prop)
  (br : (∀ h t, J fun D vars news => Fx K D env gl cl vars news h → Q0 .next h t) → G) (co : ∀ h t, J fun D vars news => Fx K D env gl cl vars news h → Q0 .next h t) : G := br co
theorem w_for_c {it : Value} {tgt : Expr} {n : Nat} {St P} {body : List Stmt} {Q : Flow → Heap → Nat → Prop} (I : Iter γ K it tgt n St P) (hh : A.handled = none)
  (J : Nat → Dm → (List (Str × Option Value) → List (Addr × Obj) → Prop) → Prop) (F : Fx K D env gl cl vars (news ++ own) h) (hst : St 0 D own) (h0 : ∀ Φ, J 0 D Φ → Φ vars news)
  (imono : ∀ i D D' Φ, Le D D' → J i D' Φ → J i D Φ)
  (turn : ∀ i D' own v h t (K0 : Flow → Heap → Nat → Prop), (∀ D'' vars' news' h t, Le D' D'' → (∀ Φ, J (i + 1) D'' Φ → Φ vars' news') → Fx K D'' env gl cl vars' (news' ++ own) h → K0 .next h t) →
   (∀ u h t, Q (.ret u) h t → K0 (.ret u) h t) → Le D D' → i < n → P i D' v → J i D' fun vars news => Fx K D' env gl cl vars (news ++ own) h → W γ A (assign tgt env v) (fun ξ => W γ A (execs body env) K0) h t)
  (fin : ∀ D' h t, Le D D' → J n D' fun vars news => Fx K D' env gl cl vars news h → Q .next h t) : ForR γ A tgt it body env Q h t :=
 w_for_itq I hh (fun i D vars news => ∀ Φ, J i D Φ → Φ vars news) F hst h0 (fun i D D' vars news le a Φ j => a Φ (imono i D D' Φ le j))
  (fun i D' vars news own v h t K0 k le lt inv p F => inv _ (turn i D' own v h t K0 (fun D'' vars' news' h t le a F => k _ _ _ (.inl ⟨rfl, D'', vars', news', le, a, F⟩)) (fun u h t q => k _ _ _ (.inr ⟨u, rfl, q⟩)) le lt p) F)
  fun D' vars news h t le inv F => inv _ (fin D' h t le) F
theorem v_for_c {it : Value} {tgt : Expr} {n : Nat} {St P} {body : List Stmt} {Q : Flow → Heap → Nat → Prop} (I : Iter γ K it tgt n St P) (hh : A.handled = none)
  (J : Nat → Dm → (List (Str × Option Value) → List (Addr × Obj) → Prop) → Prop) (F : Fx K D env gl cl vars (news ++ own) h) (hst : St 0 D own) (h0 : ∀ Φ, J 0 D Φ → Φ vars news)
  (imono : ∀ i D D' Φ, Le D D' → J i D' Φ → J i D Φ)
  (turn : ∀ i D' own v h t (K0 : Flow → Heap → Nat → Prop), (∀ D'' vars' news' h t, Le D' D'' → (∀ Φ, J (i + 1) D'' Φ → Φ vars' news') → Fx K D'' env gl cl vars' (news' ++ own) h → K0 .next h t) →
   (∀ u h t, Q (.ret u) h t → K0 (.ret u) h t) → Le D D' → i < n → P i D' v → J i D' fun vars news => Fx K D' env gl cl vars (news ++ own) h → W γ A (assign tgt env v) (fun ξ => V γ A (execs body env) K0) h t)
  (fin : ∀ D' h t, Le D D' → J n D' fun vars news => Fx K D' env gl cl vars news h → Q .next h t) : VForR γ A tgt it body env Q h t :=
 v_for_itq I hh (fun i D vars news => ∀ Φ, J i D Φ → Φ vars news) F hst h0 (fun i D D' vars news le a Φ j => a Φ (imono i D D' Φ le j))
  (fun i D' vars news own v h t K0 k le lt inv p F => inv _ (turn i D' own v h t K0 (fun D'' vars' news' h t le a F => k _ _ _ (.inl ⟨rfl, D'', vars', news', le, a, F⟩)) (fun u h t q => k _ _ _ (.inr ⟨u, rfl, q⟩)) le lt p) F)
  fun D' vars news h t le inv F => inv _ (fin D' h t le) F
end
end
noncomputable abbrev pwH : Program := PySem.Challenge.pw_jd0006_01
noncomputable abbrev rw6 : OpenRow := PySem.Challenge.rw_jd0006_01.row
noncomputable abbrev vqH : Program := view pwH [0, 2, 3, 4, 5, 6, 7, 8, 9, 10, 11, 12, 13, 14, 15, 17, 18, 19, 20, 21, 22, 23, 24, 25, 26, 27, 28, 29, 30, 31, 32, 33, 34, 35]
noncomputable abbrev vloose : List Str := [ofString "BitWidth", ofString "I", ofString "U", ofString "Type", ofString "Type_flexbuffers", ofString "Value", ofString "Value_flexbuffers", ofString "Pool", ofString "Builder", ofString "_law_letters", ofString "_law_octets"]
noncomputable abbrev vXt : Shared → Bool := fun s => xlAt vqH [] s && recOk rw6.records s
theorem said6' : Fast.tw9446332074065402090 PySem.Challenge.rw_jd0006_01 = true := by kernel_rfl
theorem said6 : PySem.Challenge.rw_jd0006_01.wellSaid = true := by
 rw [Fast.te9446332074065402090]; exact said6'
theorem ok6 : (chainsOk vqH && opensWell rw6.prog && (frees rw6.toRowW && rw6.within.isEmpty)) = true := by kernel_rfl
theorem bare6 : rw6.prog.bare := ⟨rfl, rfl, rfl, rfl, rfl, by decide +kernel⟩
theorem rok6 : rw6.wellSaid = true := row_said said6
theorem prom6 : PySem.Challenge.rw_jd0006_01.row.toRowW.promised := by
 w_witness2
section
noncomputable abbrev fuelH : Nat := 16000
theorem open6 : ∀ w : World, (fencedOpening treeTable pwH w fuelH).map (fun s => (s.heap, s.gens, s.drawn, s.toks)) = some (boot_heap w.params, Array.mk [], boot_drawn, boot_toks) :=
 boot_open (by kernel_rfl) (by kernel_rfl) (fun ξ => by kernel_rfl)
noncomputable abbrev ann6 : Option Value := some (.ref 6)
theorem size6 : ∀ w : World, ((boot_heap w.params).isNs mainGlobals && (Array.mk [] : Array GenState).size == 0, (boot_heap w.params).objs.size, (boot_heap w.params).nsMap mainGlobals "__annotations__") = (true, 11, ann6) := fun w => by kernel_rfl
noncomputable abbrev env6 : Env := { scope := pwH.main.scope, locals := mainNs, globals := mainNs, cells := [], code := .ref 13, frame := some 14 }
noncomputable abbrev body6 : List Stmt := behindTheImports pwH
noncomputable abbrev code6 : Code := .body body6 env6
noncomputable abbrev pos0 : Pos := ⟨0, 0, 0, 0⟩
noncomputable abbrev B6 : List Frame := [topFrame pos0]
noncomputable abbrev boot6 (w : World) (os : OsState) : Shared := ⟨boot_heap w.params, Array.mk [], boot_drawn, boot_toks, os⟩
noncomputable def treeH (l : List Obj) : BT := (l.foldl (fun (x : BT × Nat) o => (x.1.ins x.2 o, x.2 + 1)) (BT.nil, 0)).1
noncomputable def preT (w : World) (os : OsState) : SharedT := match Fast.tw15667345088766844465 Fast.tw14364793385576792824 pwH w 11 ann6 12 (boot6 w os) (topStub pwH) with
 | some (s, _) => ⟨treeH s.heap.objs.toList, s.heap.objs.size, s.heap.life, s.gens, s.drawn, s.toks, s.os⟩
 | none => ⟨.nil, 0, (boot_heap w.params).life, Array.mk [], boot_drawn, 0, os⟩
theorem pre6' (w : World) (os : OsState) : Fast.tw15667345088766844465 Fast.tw14364793385576792824 pwH w 11 ann6 12 (boot6 w os) (topStub pwH) = some ((preT w os).abs, ⟨Fast.tw11892475500146522536 Fast.tw14364793385576792824 code6, code6, pos0, B6⟩) := by kernel_rfl
theorem pre6 (w : World) (os : OsState) : topGo treeTable pwH w 11 ann6 12 (boot6 w os) (topStub pwH) = some ((preT w os).abs, ⟨denote treeTable code6, code6, pos0, B6⟩) := by
 rw [Fast.te15667345088766844465, Fast.te14364793385576792824, Fast.te11892475500146522536]
 exact pre6' w os
theorem block6 (w : World) (os : OsState) : segRun treeTable pwH w 11 ann6 1 1 (preT w os).abs (blockOf body6 env6 code6 pos0 B6) = some (.next, (preT w os).abs, code6, pos0) := by kernel_rfl
theorem fin6 (w : World) (s : Shared) (p : Pos) : topRun treeTable pwH w 11 ann6 2 s ⟨doneF .next, code6, p, B6⟩ = some s := by kernel_rfl
end
section
noncomputable abbrev WalkS (YP : World → Heap → Prop) (r : RowW) : Prop :=
 ∀ (w : World) (s₀ s₁ : Shared) (mg mb : Str → Option Value), Ground vqH vloose r.records (XL vqH []) w s₀ mg mb s₁.heap → YP w s₁.heap → ∀ (a : Addr), mg (ofString "law") = some (.ref a) → s₁.gens = #[] →
  ∀ (args : List WData) (vals : List Value) (as : List Addr), r.claim.pre args = true → WData.layableAll args = true → ReadsAllW r.records (classAt s₀.heap) s₁.heap vals args as → WellAll w.params s₁.heap vals args → (∀ a ∈ as, (a == sysModules) = false) →
   Ends0 r.prog w (call (.ref a) vals) (fun v s' => GoodWG r.claim (classAt s₀.heap) (ExcName.means s₀.heap) args s₁ (.ok (.ret v)) s') s₁
theorem holds_slim (H : Hook) (hw : True) (hc : LeftO pwH vqH vloose vXt H.obs H.val fuelH ∧ WalkS H.says PySem.Challenge.rw_jd0006_01.row.toRowW) : PySem.Challenge.rw_jd0006_01.row.Holds :=
 PySem.W.holds_open (q := vqH) (loose := vloose) (Xt := vXt) (XP := XL vqH []) (Yf := H.obs) (Ya := H.val) (YP := H.says) (N := fuelH) hc.1 H.of H.keeps (fun s e => xl_of s (Bool.and_eq_true_iff.mp e).1) XL.keeps (by rfl) (by rfl) (by rfl) (fun s e => recFacts_of (Bool.and_eq_true_iff.mp e).2) (by rfl) rok6 ok6 bare6 prom6
  fun w s₀ s₁ mg mb G Y a o pm cd doc dV kV ξ ξ ξ ξ hmg hg => hc.2 w s₀ s₁ mg mb G Y a hmg hg
local macro_rules | `(tactic| o_law) => tg (tk "<refine ^refine {app holds_law (null said6 {fun ^fun {basicFun (null said ) (null ) ^=> ` ) ) ) ) )")
local macro_rules | `(tactic| o_head $H) => tg (tk "<refine ^refine {app holds_slim (null H {syntheticHole ^? hw ) {syntheticHole ^? hc ) ) ) )") H
local macro_rules | `(tactic| w_witness2) => tg (tk "<tacticTrivial ^trivial )")
open_top hd for PySem.Challenge.rw_jd0006_01
end
section
noncomputable abbrev seg6 (n : Nat) (l : List Stmt) (w : World) (s : SharedT) (p : Pos) : Option (Flow × SharedT × Code × Pos) :=
 Fast.tw10110043849684766642 Fast.tw14364793385576792824 pwH w 11 ann6 1 n s (⟨(Fast.tw12563942051412417395 l env6).wrap doneF deadEnd id id, code6, p, B6⟩ : Thread)
noncomputable abbrev rowW (w : World) (b : Bool) : World := w.withFollow "special-get-raises" b
noncomputable def sp6 (w : World) (os : OsState) : SharedT × Pos := match seg6 1077 (body6.take 6) (rowW w false) (preT w os) pos0 with
 | some (_, s, _, p) => (s, p)
 | none => (preT w os, pos0)
theorem first6 (w : World) (os : OsState) (b : Bool) : seg6 1077 (body6.take 6) (rowW w b) (preT w os) pos0 = some (.next, (sp6 w os).1, code6, (sp6 w os).2) :=
 b.casesOn (by kernel_rfl) (by kernel_rfl)
end
section
noncomputable abbrev rest6 (w : World) (os : OsState) (b : Bool) : Option (Flow × SharedT × Code × Pos) := seg6 6480 (body6.drop 6) (rowW w b) (sp6 w os).1 (sp6 w os).2
noncomputable abbrev look6 (h₀ : Heap) (s : Shared) : Bool := staticsOk (importedModules pwH.main.body) h₀ s.heap && namesBound pwH s.heap && gensDone s && laidKept h₀ s.heap
theorem ran6 (w : World) (os : OsState) (b : Bool) : (rest6 w os b).map (fun r => (r.1, r.2.2.1, look6 (boot_heap w.params) r.2.1.abs, Fast.tw4187177175401517315 vqH vloose (Fast.tw5923862056798008813 pwH.main.body) vXt true r.2.1.abs, (hd.heap_1 w.params).map (fun p => r.2.1.tree.get p.1), (hd.heap_1 w.params).all (fun p => Nat.blt p.1 r.2.1.n), [780, 646, 382].map (fun a => r.2.1.tree.get a), [780, 646, 382].all (fun p => Nat.blt p r.2.1.n))) =
  some (.next, code6, true, openGood vqH vloose, (hd.heap_1 w.params).map (fun p => some p.2), true, [780, 646, 382].map (fun ξ => some (tabObj #[])), true) := by kernel_rfl
end
section
theorem segH {n : Nat} {l : List Stmt} {w : World} {s : SharedT} {p : Pos} {r : Option (Flow × SharedT × Code × Pos)} (h : seg6 n l w s p = r) : segRunT treeTable pwH w 11 ann6 1 n s (piecesOf l env6 code6 p B6) = r := by
 unfold piecesOf
 rw [Fast.te10110043849684766642, Fast.te14364793385576792824, Fast.te12563942051412417395]
 exact h
theorem get_all {s : SharedT} {K : Frag} (g : K.map (fun p => s.tree.get p.1) = K.map (fun p => some p.2)) (n : K.all (fun p => Nat.blt p.1 s.n) = true) (al : K.map (fun p => alive p.2) = K.map (fun p => some p.2)) :
  (K.map (·.1)).map s.abs.heap.get? = K.map fun p => some p.2 := by
 rw [List.map_map]
 refine List.map_inj_left.mpr fun p hp => ?_
 show (absHeap s.tree s.n s.life).get? p.1 = some p.2
 rw [abs_get (Nat.le_of_ble_eq_true (List.all_eq_true.mp n p hp)) (List.map_inj_left.mp g p hp)]
 exact List.map_inj_left.mp al p hp
theorem get_tabs {s : SharedT} {ts : List Addr} {o : Obj} (g : ts.map (fun a => s.tree.get a) = ts.map (fun ξ => some o)) (n : ts.all (fun a => Nat.blt a s.n) = true) (al : alive o = some o) :
  ts.map s.abs.heap.get? = ts.map fun ξ => some o := by
 refine List.map_inj_left.mpr fun a ha => ?_
 show (absHeap s.tree s.n s.life).get? a = some o
 rw [abs_get (Nat.le_of_ble_eq_true (List.all_eq_true.mp n a ha)) (List.map_inj_left.mp g a ha), al]
theorem alive6 (P : Params) : (hd.heap_1 P).map (fun p => alive p.2) = (hd.heap_1 P).map (fun p => some p.2) := by kernel_rfl
theorem top6 (w : World) (os : OsState) {s : SharedT} {p : Pos} (F0 : seg6 1077 (body6.take 6) w (preT w os) pos0 = some (.next, (sp6 w os).1, code6, (sp6 w os).2))
  (r1 : seg6 6480 (body6.drop 6) w (sp6 w os).1 (sp6 w os).2 = some (.next, s, code6, p)) : topRun treeTable pwH w 11 ann6 fuelH (boot6 w os) (topStub pwH) = some s.abs := by
 have t1 := piece_app (q := pos0) (rest := []) (segRun_of (segH r1)) (piece_nil (fin6 w s.abs p))
 rw [List.append_nil] at t1
 have t1' := piece_app (q := pos0) (segRun_of (segH F0)) t1
 rw [List.take_append_drop] at t1'
 exact topRun_mono (fuelH - (12 + (1 + (1077 + (6480 + 2))))) _ _ _ _ (go_top (pre6 w os) (piece_block (block6 w os) t1'))
theorem from6 (w : World) (os : OsState) {s : Shared} (t : topRun treeTable pwH w 11 ann6 fuelH (boot6 w os) (topStub pwH) = some s) (l : look6 (boot_heap w.params) s = true) : topFrom treeTable pwH w fuelH (boot6 w os) = some s := by
 obtain ⟨z1, z2, z3⟩ : _ ∧ _ ∧ _ := by simpa only [Prod.mk.injEq] using size6 w
 unfold topFrom
 dsimp only
 refine z1.symm ▸ ?_; refine z2.symm ▸ ?_; refine z3.symm ▸ ?_
 refine (congrArg (fun x => Option.bind x _) t).trans ?_
 show (match look6 (boot_heap w.params) s with | true => _ | false => _) = _
 rw [l]
theorem pf {α β γ δ : Type} {f f' : α} {c c' : β} {s : γ} {p : δ} (a : f = f') (b : c = c') : some (f, s, c, p) = some (f', s, c', p) := a ▸ b ▸ rfl
theorem left6 {as : List Addr} {e : ∀ P, as = (hd.heap_1 P).map (·.1)} : LeftO pwH vqH vloose vXt (kmHook hd.heap_1 as e [780, 646, 382]).obs (kmHook hd.heap_1 as e [780, 646, 382]).val fuelH := fun w => by
 refine ek1_2 (Option.map_eq_some_iff.mp (open6 w)) fun z1 e1 e2 => ?_; obtain ⟨h, gs, d, k, os⟩ := z1
 obtain ⟨rfl, rfl, rfl, rfl⟩ : h = boot_heap w.params ∧ gs = Array.mk [] ∧ d = boot_drawn ∧ k = boot_toks := by simpa using e2
 have F0 := first6 w os (w.params.followText "special-get-raises")
 have E0 := ran6 w os (w.params.followText "special-get-raises")
 unfold rest6 rowW at E0
 unfold rowW at F0
 rw [World.withFollow_self] at F0 E0
 refine ek1_2 (Option.map_eq_some_iff.mp E0) fun z1 r1 r2 => ?_; obtain ⟨f, s, c, p⟩ := z1
 have j1 := Prod.mk.inj r2
 have j2 := Prod.mk.inj j1.2
 have j3 := Prod.mk.inj j2.2
 have j4 := Prod.mk.inj j3.2
 have j5 := Prod.mk.inj j4.2
 have j6 := Prod.mk.inj j5.2
 have j7 := Prod.mk.inj j6.2
 have t := from6 w os (top6 w os F0 (r1.trans (pf j1.1 j2.1))) j3.1
 unfold openEnds
 rw [e1, Option.bind_some, t, Option.map_some]
 refine Fast.te4187177175401517315.symm ▸ ?_; refine Fast.te5923862056798008813.symm ▸ ?_
 have q : (as.map s.abs.heap.get?, [780, 646, 382].map s.abs.heap.get?) = ((hd.heap_1 w.params).map (fun p => some p.2), [780, 646, 382].map fun ξ => some (tabObj #[])) :=
  Prod.ext ((congrArg (List.map _) (e w.params)).trans (get_all j5.1 j6.1 (alive6 _))) (get_tabs j7.1 j7.2 rfl)
 exact congrArg some (Prod.ext j4.1 q)
end
noncomputable def globL : List (Str × Value) := [(ofString "BitWidth", .ref 74), (ofString "I", .ref 79), (ofString "U", .ref 80), (ofString "_Pack", .ref 87), (ofString "_PaddingBytes", .ref 94), (ofString "Type_flexbuffers", .ref 229), (ofString "Value_flexbuffers", .ref 362), (ofString "Pool", .ref 405), (ofString "Builder", .ref 690), (ofString "_law_letters", .ref 695), (ofString "_law_octets", .ref 704), (ofString "_law_next", .ref 711), (ofString "_law_whole", .ref 718), (ofString "_law_places", .ref 723), (ofString "_law_key", .ref 730), (ofString "_law_tree", .ref 735), (ofString "_law_given", .ref 740), (ofString "_law_octets_of", .ref 747), (ofString "_law_bits", .ref 752), (ofString "_law_own_bits", .ref 757), (ofString "_law_write", .ref 764), (ofString "_law_pad", .ref 771), (ofString "_law_far", .ref 778), (ofString "_law_lay", .ref 783), (ofString "_law_inline", .ref 790), (ofString "_law_row", .ref 797), (ofString "_law_whole_buffer", .ref 804), (ofString "len", .builtin "len"), (ofString "isinstance", .builtin "isinstance"), (ofString "max", .builtin "max"), (ofString "ord", .builtin "ord"), (ofString "sorted", .builtin "sorted"), (ofString "int", .type "int"), (ofString "bytes", .type "bytes"), (ofString "bytearray", .type "bytearray"), (ofString "list", .type "list"), (ofString "tuple", .type "tuple"), (ofString "dict", .type "dict"), (ofString "str", .type "str"), (ofString "bool", .type "bool"), (ofString "range", .type "range"), (ofString "enumerate", .type "enumerate"), (ofString "zip", .type "zip")]
noncomputable def globOk (K : Frag) (x : Str) (v : Value) : Bool := match nsIn K mainGlobals x with
 | some (some a) => a == v
 | some none => bootBuiltins x == some v && !(x == ("__name__" : Str))
 | none => false
theorem glob_of {K : Frag} {x : Str} {v : Value} (e : globOk K x v = true) : Glob K x v := by
 unfold globOk at e
 split at e
 ·rename_i a h; exact .inl (by rw [h, beq_iff_eq.mp e])
 ·rename_i h
  simp only [Bool.and_eq_true, beq_iff_eq, Bool.not_eq_true', beq_eq_false_iff_ne] at e
  exact .inr ⟨h, e.1, e.2⟩
 ·cases e
theorem glob_all (w : World) : (globL.all fun p => globOk (hd.heap_1 w.params) p.1 p.2) = true := by kernel_rfl
theorem globs {w : World} : ∀ {gl : List (Str × Value)}, (gl.all fun p => globL.contains p) = true → GlobAll (hd.heap_1 w.params) gl
 | [], _ => trivial
 | p :: r, e => by
  simp only [List.all_cons, Bool.and_eq_true] at e
  exact ⟨glob_of (List.all_eq_true.mp (glob_all w) p (List.contains_iff_mem.mp e.1)), globs e.2⟩
section
theorem all_get {α : Type} {p : α → Bool} {l : List α} (e : l.all p = true) {x : α} (m : Has x l) : p x = true := List.all_eq_true.mp e x m.mem
noncomputable abbrev ownL : List (Addr × Str) := [(362, ofString "_value"), (362, ofString "_type"), (362, ofString "_min_bit_width"), (690, ofString "_share_strings"), (690, ofString "_share_keys"), (690, ofString "_force_min_bit_width"), (690, ofString "_string_pool"), (690, ofString "_key_pool"), (690, ofString "_finished"), (690, ofString "_buf"), (690, ofString "_stack")]
noncomputable abbrev propL : List (Addr × Str × Addr) := [(362, ofString "Value", 304), (362, ofString "Type", 312), (362, ofString "MinBitWidth", 320)]
noncomputable abbrev methL : List (Addr × Str × Addr) := [(362, ofString "StoredPackedType", 329), (362, ofString "ElemWidth", 337), (362, ofString "StoredWidth", 345), (405, ofString "Clear", 394), (690, ofString "Clear", 454), (690, ofString "Finish", 461), (690, ofString "_ReadKey", 468), (690, ofString "_Align", 475), (690, ofString "_Write", 482), (690, ofString "_WriteOffset", 496), (690, ofString "_WriteAny", 503), (690, ofString "_WriteBlob", 510), (690, ofString "_CreateVector", 525), (690, ofString "String", 539), (690, ofString "Blob", 546), (690, ofString "Key", 553), (690, ofString "Null", 561), (690, ofString "Bool", 568), (690, ofString "Int", 576), (690, ofString "_StartVector", 607), (690, ofString "_EndVector", 614), (690, ofString "VectorFromElements", 621), (690, ofString "_StartMap", 644), (690, ofString "_EndMap", 651), (690, ofString "Add", 672)]
noncomputable abbrev valL : List (Addr × Str × Value) := [(74, ofString "W8", .int 0 228), (74, ofString "W16", .int 1 230), (74, ofString "W32", .int 2 232), (74, ofString "W64", .int 3 234), (229, ofString "NULL", .int 0 382), (229, ofString "INT", .int 1 384), (229, ofString "UINT", .int 2 386), (229, ofString "FLOAT", .int 3 388), (229, ofString "KEY", .int 4 390), (229, ofString "STRING", .int 5 392), (229, ofString "MAP", .int 9 400), (229, ofString "VECTOR", .int 10 402), (229, ofString "VECTOR_INT", .int 11 404), (229, ofString "VECTOR_INT2", .int 16 414), (229, ofString "VECTOR_INT3", .int 19 420), (229, ofString "VECTOR_INT4", .int 22 426), (229, ofString "BLOB", .int 25 432), (229, ofString "BOOL", .int 26 434)]
noncomputable abbrev smL : List (Addr × Str × Addr) := [(74, ofString "U", 48), (74, ofString "I", 58), (229, ofString "Of", 122), (229, ofString "Pack", 132), (229, ofString "IsInline", 152), (229, ofString "IsTypedVectorElementType", 172), (229, ofString "ToTypedVector", 223), (362, ofString "Null", 247), (362, ofString "Bool", 257), (362, ofString "Int", 267), (362, ofString "Key", 287)]
noncomputable abbrev newL : List (Addr × Addr) := [(362, 297), (405, 380), (690, 424)]
noncomputable abbrev setL : List (Addr × Str) := [(362, ofString "_value"), (362, ofString "_type"), (362, ofString "_min_bit_width"), (405, ofString "_pool"), (690, ofString "_share_strings"), (690, ofString "_share_keys"), (690, ofString "_force_min_bit_width"), (690, ofString "_string_pool"), (690, ofString "_key_pool"), (690, ofString "_finished"), (690, ofString "_buf"), (690, ofString "_stack"), (690, ofString "finished")]
noncomputable abbrev keepL : List (Addr) := [48, 58, 74, 87, 94, 122, 132, 152, 172, 223, 229, 247, 257, 267, 287, 297, 304, 312, 320, 329, 337, 345, 362, 380, 394, 405, 424, 431, 454, 461, 468, 475, 482, 496, 503, 510, 525, 539, 546, 553, 561, 568, 576, 607, 614, 621, 644, 651, 672, 690, 711, 718, 723, 730, 735, 740, 747, 752, 757, 764, 771, 778, 783, 790, 797, 804]
theorem looks_all (w : World) : (ownL.all (fun p => ownAttr (hd.heap_1 w.params) p.1 p.2) && propL.all (fun p => propIn (hd.heap_1 w.params) p.1 p.2.1 p.2.2) && methL.all (fun p => methIn (hd.heap_1 w.params) p.1 p.2.1 p.2.2) && valL.all (fun p => clsVal (hd.heap_1 w.params) p.1 p.2.1 p.2.2) &&
 smL.all (fun p => clsSm (hd.heap_1 w.params) p.1 p.2.1 p.2.2) && newL.all (fun p => newIn (hd.heap_1 w.params) p.1 p.2) && setL.all (fun p => setIn (hd.heap_1 w.params) p.1 p.2) && keepL.all (fun a => keepOk (hd.heap_1 w.params) (.ref a))) = true := by kernel_rfl
variable {w : World}
theorem l_own {C : Addr} {n : Str} (m : Has (C, n) ownL) : ownAttr (hd.heap_1 w.params) C n = true := all_get (p := (fun p : Addr × Str => ownAttr (hd.heap_1 w.params) p.1 p.2)) (x := (C, n)) (ba8 (looks_all w) fun e ξ ξ ξ ξ ξ ξ ξ => e) m
theorem l_prop {C f : Addr} {n : Str} (m : Has (C, n, f) propL) : propIn (hd.heap_1 w.params) C n f = true := all_get (p := (fun p : Addr × Str × Addr => propIn (hd.heap_1 w.params) p.1 p.2.1 p.2.2)) (x := (C, n, f)) (ba8 (looks_all w) fun ξ e ξ ξ ξ ξ ξ ξ => e) m
theorem l_meth {C f : Addr} {n : Str} (m : Has (C, n, f) methL) : methIn (hd.heap_1 w.params) C n f = true := all_get (p := (fun p : Addr × Str × Addr => methIn (hd.heap_1 w.params) p.1 p.2.1 p.2.2)) (x := (C, n, f)) (ba8 (looks_all w) fun ξ ξ e ξ ξ ξ ξ ξ => e) m
theorem l_val {C : Addr} {n : Str} {v : Value} (m : Has (C, n, v) valL) : clsVal (hd.heap_1 w.params) C n v = true := all_get (p := (fun p : Addr × Str × Value => clsVal (hd.heap_1 w.params) p.1 p.2.1 p.2.2)) (x := (C, n, v)) (ba8 (looks_all w) fun ξ ξ ξ e ξ ξ ξ ξ => e) m
theorem l_sm {C f : Addr} {n : Str} (m : Has (C, n, f) smL) : clsSm (hd.heap_1 w.params) C n f = true := all_get (p := (fun p : Addr × Str × Addr => clsSm (hd.heap_1 w.params) p.1 p.2.1 p.2.2)) (x := (C, n, f)) (ba8 (looks_all w) fun ξ ξ ξ ξ e ξ ξ ξ => e) m
theorem l_new {C f : Addr} (m : Has (C, f) newL) : newIn (hd.heap_1 w.params) C f = true := all_get (p := (fun p : Addr × Addr => newIn (hd.heap_1 w.params) p.1 p.2)) (x := (C, f)) (ba8 (looks_all w) fun ξ ξ ξ ξ ξ e ξ ξ => e) m
theorem l_set {C : Addr} {n : Str} (m : Has (C, n) setL) : setIn (hd.heap_1 w.params) C n = true := all_get (p := (fun p : Addr × Str => setIn (hd.heap_1 w.params) p.1 p.2)) (x := (C, n)) (ba8 (looks_all w) fun ξ ξ ξ ξ ξ ξ e ξ => e) m
theorem l_keep {a : Addr} (m : Has a keepL) : keepOk (hd.heap_1 w.params) (.ref a) = true := all_get (p := (fun a : Addr => keepOk (hd.heap_1 w.params) (.ref a))) (x := a) (ba8 (looks_all w) fun ξ ξ ξ ξ ξ ξ ξ e => e) m
end
local macro_rules | `(tactic| tb_start) => tg (tk "<withReducible ^with_reducible « <first ^first (null / Has.head ) » ) / Has.x1 ) » ) / Has.x2 ) » ) / Has.x3 ) » ) / Has.x4 ) » ) / Has.x5 ) » ) / Has.x6 ) » ) / Has.x7 ) » ) / {app Has.t8 (null & %x0 ) ) ) ) @ %x0 * #m » ) » ) ) ) » )")
local macro_rules | `(tactic| k_subL) => tg (tk "<withReducible ^with_reducible « <first ^first (null / SetV.head ) » ) / SetV.x1 ) » ) / SetV.x2 ) » ) / SetV.x3 ) » ) / SetV.x4 ) » ) / SetV.x5 ) » ) / SetV.x6 ) » ) / SetV.x7 ) » ) / {app SetV.t8 (null & %x0 ) ) ) ) @ %x0 * #v » ) » ) ) ) » )")
local macro_rules | `(tactic| kas_types) => tg (tk "<first ^first (null (group ^| « <exact ^exact Pick.head ) » ) (group ^| « <apply ^apply Pick.tail ) ^; (PySem.W.tacticKas_types ^kas_types ) » ) ) )")
local macro_rules | `(tactic| kp_flats) => tg (tk "<first ^first (null (group ^| « <exact ^exact Take.nil ) » ) (group ^| « <apply ^apply Take.cons ) ^; (PySem.W.tacticKas_types ^kas_types ) ^; (PySem.W.tacticKp_flats ^kp_flats ) » ) ) )")
local macro_rules | `(tactic| kpc_turns) => tg (tk "<withReducible ^with_reducible « <first ^first (null / {app St.ld (null F & %x1 ) ) ) ) @ %x1 * #m » ) » ) / {app St.lg (null F & %x1 ) ) ) ) @ %x1 * #m » ) » ) / {app St.lc (null F & %x1 ) ) ) ) @ %x1 * #m » ) » ) / St.int ) » ) / St.str ) » ) / St.none ) » ) / St.bool ) » ) / St.nil ) » ) / {app St.cons (null & %x0 ) & %x1 ) & %x2 ) ) ) ) @ %x0 * #r » ) @ %x1 * #e » ) @ %x2 * #e » ) » ) / {app St.bin (null & %x0 ) & %x1 ) & %x2 ) ) ) ) @ %x0 * #e » ) @ %x1 * #e » ) @ %x2 * #e » ) » ) / {app St.tcmp (null & %x0 ) & %x1 ) & %x2 ) & %x3 ) & %x4 ) ) ) ) @ %x0 * #e » ) @ %x1 * #e » ) @ %x2 * #e » ) @ %x3 * #e » ) @ %x4 * #r » ) » ) / {app St.cmp (null & %x0 ) & %x1 ) & %x2 ) & %x3 ) ) ) ) @ %x0 * #e » ) @ %x1 * #e » ) @ %x2 * #e » ) @ %x3 * #r » ) » ) / {app St.tname (null & %x0 ) & %x1 ) ) ) ) @ %x0 * #e » ) @ %x1 * #e » ) » ) / {app St.att (null & %x0 ) & %x1 ) ) ) ) @ %x0 * #e » ) @ %x1 * #e » ) » ) / {app St.un (null & %x0 ) & %x1 ) ) ) ) @ %x0 * #e » ) @ %x1 * #e » ) » ) / {app St.clsk (null F & %x1 ) ) ) ) @ %x1 * #m » ) » ) / {app St.smk (null F & %x1 ) ) ) ) @ %x1 * #m » ) » ) / St.add ) » ) / St.sub ) » ) / St.lt ) » ) / St.le ) » ) / St.gt ) » ) / St.ge ) » ) / St.eq ) » ) / St.neg ) » ) / St.inv ) » ) / St.band ) » ) / St.isN ) » ) / St.notN ) » ) / St.tBool ) » ) / St.tNone ) » ) ) ) » )")
local macro_rules | `(tactic| tb_rel) => tg (tk "<withReducible ^with_reducible « <first ^first (null ! W (null $ $ {app eval (null $ $ - / {app w_ld (null F & %x1 ) ` ) ) ) @ %x1 * #m » ) » ) / {app w_gl (null F & %x1 ) ` ) ) ) @ %x1 * #m » ) » ) / {app w_cl (null F & %x1 ) ` ) ) ) @ %x1 * #m » ) » ) / {app w_int (null ` ) ) ) » ) / {app w_str (null ` ) ) ) » ) / {app w_none (null ` ) ) ) » ) / {app w_bool (null ` ) ) ) » ) / {app St.use (null & %x0 ) ` ) ) ) @ %x0 * #e » ) » ) / {app w_ecN (null & %x0 ) ` ) ) ) @ %x0 * #e » ) » ) / {app w_mcN (null & %x0 ) & %x1 ) ` & %x3 ) & %x4 ) ) ) ) @ %x0 * #e » ) @ %x1 * #e » ) @ %x3 * #r » ) @ %x4 * #r » ) » ) / {app w_attrS (null & %x0 ) ` ) ) ) @ %x0 * #e » ) » ) / {app w_attr_name (null ` ) ) ) » ) / {app w_mcS (null & %x0 ) ` & %x2 ) & %x3 ) ) ) ) @ %x0 * #e » ) @ %x2 * #r » ) @ %x3 * #r » ) » ) / {app w_mcall (null ` ) ) ) » ) / {app w_ecall (null ` ) ) ) » ) / {app w_binSS (null & %x0 ) & %x1 ) ` ) ) ) @ %x0 * #e » ) @ %x1 * #e » ) » ) / {app w_binS (null & %x0 ) ` ) ) ) @ %x0 * #e » ) » ) / {app w_binop (null ` ) ) ) » ) / {app w_subSS (null & %x0 ) & %x1 ) ` ) ) ) @ %x0 * #e » ) @ %x1 * #e » ) » ) / {app w_subS (null & %x0 ) ` ) ) ) @ %x0 * #e » ) » ) / {app w_subscript (null ` ) ) ) » ) / {app w_compare (null ` ) ) ) » ) / {app w_compare2 (null ` ) ) ) » ) / {app w_unop (null ` ) ) ) » ) / {app w_ifexp (null ` ) ) ) » ) / {app w_tuple (null ` ) ) ) » ) / {app w_list (null ` ) ) ) » ) / {app w_boolop_and2 (null ` ) ) ) » ) / {app w_boolop_or2 (null ` ) ) ) » ) / {app w_bytes (null ` ) ) ) » ) ) ) » ) ! W (null $ $ {app spliced (null $ - / {app St.use (null & %x0 ) ` ) ) ) @ %x0 * #e » ) » ) / {app w_argsS (null & %x0 ) ` & %x2 ) ) ) ) @ %x0 * #e » ) @ %x2 * #r » ) » ) / {app w_args_cons (null ` ) ) ) » ) / {app w_args_nil (null ` ) ) ) » ) ) ) » ) / {app then_next (null ` ) ) ) » ) / {app then_ret (null ` ) ) ) » ) / {app v_then_next (null ` ) ) ) » ) / {app v_then_ret (null ` ) ) ) » ) / {app q0 (null $ $ $ ` ) ) ) #z » ) / {app w_execs_consq (null ` ) ) ) #q » ) ! W (null $ $ {app exec (null $ $ - / {app w_ifS (null & %x0 ) ` ) ) ) @ %x0 * #e » ) » ) / {app w_if (null ` ) ) ) » ) / {app w_retS (null & %x0 ) ` ) ) ) @ %x0 * #e » ) » ) / {app w_return (null ` ) ) ) » ) / {app w_asgS (null F & %x1 ) & %x2 ) ` & %x4 ) ) ) ) @ %x1 * #e » ) @ %x2 * #v » ) @ %x4 * #r » ) #c » ) / {app w_assign_name (null ` ) ) ) » ) / {app w_exprk (null F ` ) ) ) » ) / {app w_aattrS (null & %x0 ) & %x1 ) ` & %x3 ) ) ) ) @ %x0 * #e » ) @ %x1 * #e » ) @ %x3 * #r » ) » ) / {app w_assign_attr (null ` ) ) ) » ) / {app w_asubS (null & %x0 ) & %x1 ) & %x2 ) ` & %x4 ) & %x5 ) ) ) ) @ %x0 * #e » ) @ %x1 * #e » ) @ %x2 * #e » ) @ %x4 * #r » ) @ %x5 * #r » ) » ) / {app w_assign_sub (null ` ) ) ) » ) / {app w_aug_name (null ` ) ) ) » ) / {app w_assert (null ` ) ) ) » ) ) ) » ) ! W (null $ $ {app isTrue (null $ $ $ - / {app St.use (null & %x0 ) ` ) ) ) @ %x0 * #e » ) » ) / {app w_tcmpS (null & %x0 ) ` & %x2 ) ) ) ) @ %x0 * #e » ) @ %x2 * #r » ) » ) / {app w_test_compare (null ` ) ) ) » ) / {app w_test_compare2 (null ` ) ) ) » ) / {app w_test_not (null ` ) ) ) » ) / {app w_test_boolop (null ` ) ) ) » ) / {app w_test_value (null ` ) ) ) » ) ) ) » ) ! W (null $ $ {app storeName (null $ $ $ - / {app w_st (null F & %x1 ) ` ) ) ) @ %x1 * #v » ) #c » ) ) ) » ) ! W (null $ $ {app getMethod (null $ $ $ - / {app w_getm_tb (null ` ) ) ) » ) ) ) » ) ! W (null $ $ {app callWith (null $ $ $ $ $ - / {app w_cwk (null F & %x1 ) & %x2 ) & %x3 ) ` ) ) ) @ %x1 * #m » ) @ %x2 * #r » ) @ %x3 * #e » ) » ) / {app w_cwP (null & %x0 ) & %x1 ) & %x2 ) ` ) ) ) @ %x0 * #r » ) @ %x1 * #r » ) @ %x2 * #e » ) » ) / {app w_callk (null & %x0 ) ` ) ) ) @ %x0 * #m » ) » ) / {app w_call0k (null F & %x1 ) ` ) ) ) @ %x1 * #m » ) » ) / {app w_cw_bi (null ` ) ) ) » ) / {app w_cw_ty (null ` ) ) ) » ) / {app w_cw_bi0 (null ` ) ) ) » ) ) ) » ) ! V (null $ $ {app callWith (null $ $ $ $ $ - / {app v_cwk (null F & %x1 ) & %x2 ) & %x3 ) ` ) ) ) @ %x1 * #m » ) @ %x2 * #r » ) @ %x3 * #e » ) » ) / {app v_cwP (null & %x0 ) & %x1 ) & %x2 ) ` ) ) ) @ %x0 * #r » ) @ %x1 * #r » ) @ %x2 * #e » ) » ) / {app v_callk (null & %x0 ) ` ) ) ) @ %x0 * #m » ) » ) / {app v_call0k (null F & %x1 ) ` ) ) ) @ %x1 * #m » ) » ) / {app v_cw_bi (null ` ) ) ) » ) / {app v_cw_ty0 (null ` ) ) ) » ) / {app v_callkwk (null & %x0 ) ` ) ) ) @ %x0 * #m » ) » ) ) ) » ) ! V (null $ $ {app eval (null $ $ - / {app v_ecN (null & %x0 ) ` ) ) ) @ %x0 * #e » ) » ) / {app v_mcS (null & %x0 ) ` & %x2 ) & %x3 ) ) ) ) @ %x0 * #e » ) @ %x2 * #r » ) @ %x3 * #r » ) » ) / {app v_mcall (null ` ) ) ) » ) / {app v_ecall (null ` ) ) ) » ) / {app V.of_w (null ` ) ) ) » ) ) ) » ) / {app w_execs_nil (null ` ) ) ) » ) / {app w_ldn (null F & %x1 ) ` ) ) ) @ %x1 * #m » ) » ) / {app in_and (null F ` ) ) ) » ) / {app v_execs_nil (null ` ) ) ) » ) / {app i_add (null ` ) ) ) » ) / {app i_sub (null ` ) ) ) » ) / {app i_lt (null ` ) ) ) » ) / {app i_le (null ` ) ) ) » ) / {app i_gt (null ` ) ) ) » ) / {app i_eq (null ` ) ) ) » ) / {app i_ne (null ` ) ) ) » ) / {app i_neg (null ` ) ) ) » ) / {app i_iadd (null ` ) ) ) » ) / {app i_or (null ` ) ) ) » ) / {app w_isNotNone (null ` ) ) ) » ) / {app w_in_str (null ` ) ) ) » ) / {app c_int_int (null ` ) ) ) » ) / {app c_int_bool (null ` ) ) ) » ) / {app w_allAnd_cons (null ` ) ) ) » ) / {app w_allOr_cons (null ` ) ) ) » ) / {app w_allAnd_nil (null ` ) ) ) » ) / {app w_allOr_nil (null ` ) ) ) » ) / {app w_truthy_bool (null ` ) ) ) » ) / {app w_kw_cons (null ` ) ) ) » ) / {app w_kw_nil (null ` ) ) ) » ) ) ) » )")
local macro_rules | `(tactic| kd_p) => tg (tk "<tacticRepeat_ ^repeat « (PySem.W.tacticTb_rel ^tb_rel ) » )")
local macro_rules | `(tactic| kd_facts1) => tg (tk "<paren ^( « <case ^case (null <caseArg (Lean.binderIdent ho ) (null ) ) ) ^=> « (PySem.W.tacticK_is ^k_is ) » ) ^; <case ^case (null <caseArg (Lean.binderIdent hcd ) (null ) ) ) ^=> « (PySem.W.tacticK_is ^k_is ) » ) ^; <case ^case (null <caseArg (Lean.binderIdent hb ) (null ) ) ) ^=> « <first ^first (null (group ^| « <exact ^exact {app BindsTo.of_eq (null {byTactic ^by « <withUnfoldingAll ^with_unfolding_all « <tacticRfl ^rfl ) » ) » ) ) ) ) » ) (group ^| « <exact ^exact {app binds_K (null {app Sc.inK (null S ) ) rfl {byTactic ^by « (PySem.W.tacticK_is ^k_is ) » ) rfl rfl rfl ) ) ) » ) ) ) » ) ^; <case ^case (null <caseArg (Lean.binderIdent ok ) (null ) ) ) ^=> « (tacticKernel_rfl ^kernel_rfl ) » ) » ^) )")
local macro_rules | `(tactic| kd_adr) => tg (tk "<paren ^( « <clear ^clear (null S ) ) ^; <intro ^intro (null env h t F ) ) ^; <dsimp ^dsimp <optConfig (null ) ) (null ) (null ^only ) (null ^[ (null <simpLemma (null ) (null ) mkV ) ^, <simpLemma (null ) (null ) List.map ) ^, <simpLemma (null ) (null ) List.cons_append ) ^, <simpLemma (null ) (null ) List.nil_append ) ) ^] ) (null <location ^at <locationHyp (null F ) ) ) ) ) » ^) )")
local macro_rules | `(tactic| kqd_sub) => tg (tk "<paren ^( « <refine ^refine {app Fx.call0k (null F ` ) ) ) ^; <intro ^intro (null nw S back ) ) ^; <clear ^clear (null F ) ) ^; <refine ^refine {app w_call (null ` ) ) ) » ^) )")
local macro_rules | `(tactic| krn_off) => tg (tk "<paren ^( « <tacticHave__ ^have {letConfig (null ) ) {letDecl {letIdDecl {letId F ) (null ) (null ) ^:= {app back (null $ S ) ) ) ) ) ^; <clear ^clear (null S back ) ) » ^) )")
local macro_rules | `(tactic| ktu_offI) => tg (tk "<paren ^( « <refine ^refine {app v_execs_consq (null ` ) ) ) ^; <intro ^intro (null Q0 q0 ) ) » ^) )")
local macro_rules | `(tactic| kqd_in) => tg (tk "<first ^first (null / {app v_ifS (null & %x0 ) ` ) ) ) @ %x0 * #e » ) » ) / {app v_if (null ` ) ) ) » ) / {app v_retS (null & %x0 ) ` ) ) ) @ %x0 * #e » ) » ) / {app v_return (null ` ) ) ) » ) / {app v_assign_name (null ` ) ) ) » ) / {app v_exprk (null F ` ) ) ) » ) ) )")
local macro_rules | `(tactic| kct_ten) => tg (tk "<paren ^( « (PySem.W.tacticKtu_offI ^ktu_offI ) ^; <refine ^refine {app V.of_w (null ` ) ) ) ^; (PySem.W.tacticKd_p ^kd_p ) » ^) )")
local macro_rules | `(tactic| kct_fill) => tg (tk "<paren ^( « (PySem.W.tacticKtu_offI ^ktu_offI ) ^; (PySem.W.tacticKqd_in ^kqd_in ) ^; (PySem.W.tacticKd_p ^kd_p ) » ^) )")
local macro_rules | `(tactic| kso_len) => tg (tk "<dsimp ^dsimp <optConfig (null ) ) (null ) (null ^only ) (null ^[ (null <simpLemma (null ) (null ) List.nil_append ) ^, <simpLemma (null ) (null ) List.cons_append ) ) ^] ) (null <location ^at <locationHyp (null F ) ) ) ) )")
section
section
variable {h : Heap} {t t' : Nat} {gl cl : List (Str × Value)} {env : Env} {pos : Pos} {name : Str} {e : Expr} {rest : List Expr} {kws : List Keyword} {a C f : Addr} {ex : Bool} {γ : G} {A : Around} {D : Dm} {news : List (Addr × Obj)} {vars : List (Str × Option Value)} {v : Value} {vs first : List Value} {Q : Value → Heap → Nat → Prop}
theorem St.clsk (F : Fx (hd.heap_1 γ.w.params) D env gl cl vars news h) (m : Has (C, name, v) valL) : St γ A h t (getAttr (.ref C) name ex) v (t + 1) := St.cls F (l_val m)
theorem St.smk {pl : Sem Bool} (F : Fx (hd.heap_1 γ.w.params) D env gl cl vars news h) (m : Has (C, name, f) smL) : St γ A h t (getMethod (.ref C) name pl) (.ref f, []) (t + 1) := St.sm F (l_sm m)
theorem in_and {P : Prop} (F : Fx (hd.heap_1 γ.w.params) D env gl cl vars news h) (x : P) : Frag.In (hd.heap_1 γ.w.params) h ∧ P := ⟨Sc.inK F.sc, x⟩
theorem w_cwk (F : Fx (hd.heap_1 γ.w.params) D env gl cl vars news h) (m : Has a keepL) (n : (e :: rest).all notStar = true) (x : St γ A h t (spliced (backTo pos (starEach (e :: rest) env))) vs t') (k : W γ A (call (.ref a) (cat first vs)) Q h t') : W γ A (callWith pos (.ref a) first (backTo pos (starEach (e :: rest) env)) (backToKw pos (keywordEach [] env))) Q h t := w_cwS (l_keep m) (Sc.inK F.sc) n x k
theorem w_callk (m : Has a keepL) (x : W γ A (spliced (backTo pos (starEach (e :: rest) env))) (fun vs h t => Frag.In (hd.heap_1 γ.w.params) h ∧ W γ A (call (.ref a) (cat first vs)) Q h t) h t)
  (he : starEach (e :: rest) env = (false, eval e env) :: starEach rest env := by with_unfolding_all rfl) (hplain : (backTo pos (starEach rest env)).any (·.1) = false := by with_unfolding_all rfl) : W γ A (callWith pos (.ref a) first (backTo pos (starEach (e :: rest) env)) (backToKw pos (keywordEach [] env))) Q h t := w_callwith (l_keep m) x he hplain
theorem w_call0k (F : Fx (hd.heap_1 γ.w.params) D env gl cl vars news h) (m : Has a keepL) (x : W γ A (call (.ref a) (cat first [])) Q h t) : W γ A (callWith pos (.ref a) first (backTo pos (starEach [] env)) (backToKw pos (keywordEach [] env))) Q h t := w_callwith0 (l_keep m) (Sc.inK F.sc) x
theorem w_exprk {Q : Flow → Heap → Nat → Prop} (F : Fx (hd.heap_1 γ.w.params) D env gl cl vars news h) (x : W γ A (eval e env) (fun v h t => NotRef v ∧ Q .next h t) h t) (hs : swapsWith e none pos.line env = pure false := by with_unfolding_all rfl) : W γ A (exec (.Expr e pos) env) Q h t := w_expr x (inter F) hs
theorem v_cwk (F : Fx (hd.heap_1 γ.w.params) D env gl cl vars news h) (m : Has a keepL) (n : (e :: rest).all notStar = true) (x : St γ A h t (spliced (backTo pos (starEach (e :: rest) env))) vs t') (k : V γ A (call (.ref a) (cat first vs)) Q h t') : V γ A (callWith pos (.ref a) first (backTo pos (starEach (e :: rest) env)) (backToKw pos (keywordEach [] env))) Q h t := v_cwS (l_keep m) (Sc.inK F.sc) n x k
theorem v_callk (m : Has a keepL) (x : W γ A (spliced (backTo pos (starEach (e :: rest) env))) (fun vs h t => Frag.In (hd.heap_1 γ.w.params) h ∧ V γ A (call (.ref a) (cat first vs)) Q h t) h t)
  (he : starEach (e :: rest) env = (false, eval e env) :: starEach rest env := by with_unfolding_all rfl) (hplain : (backTo pos (starEach rest env)).any (·.1) = false := by with_unfolding_all rfl) : V γ A (callWith pos (.ref a) first (backTo pos (starEach (e :: rest) env)) (backToKw pos (keywordEach [] env))) Q h t := v_callwith (l_keep m) x he hplain
theorem v_call0k (F : Fx (hd.heap_1 γ.w.params) D env gl cl vars news h) (m : Has a keepL) (x : V γ A (call (.ref a) (cat first [])) Q h t) : V γ A (callWith pos (.ref a) first (backTo pos (starEach [] env)) (backToKw pos (keywordEach [] env))) Q h t := v_callwith0 (l_keep m) (Sc.inK F.sc) x
theorem v_exprk {Q : Flow → Heap → Nat → Prop} (F : Fx (hd.heap_1 γ.w.params) D env gl cl vars news h) (x : V γ A (eval e env) (fun v h t => NotRef v ∧ Q .next h t) h t) (hs : swapsWith e none pos.line env = pure false := by with_unfolding_all rfl) : V γ A (exec (.Expr e pos) env) Q h t := v_expr x (inter F) hs
theorem v_callkwk (m : Has a keepL)
  (x : W γ A (spliced (backTo pos (starEach (e :: rest) env))) (fun vs => W γ A (evalAll ((backToKw pos (keywordEach kws env)).map (·.2))) (fun ks h t => Frag.In (hd.heap_1 γ.w.params) h ∧ V γ A (call (.ref a) (cat first vs) (((backToKw pos (keywordEach kws env)).filterMap (·.1)).zip ks)) Q h t)) h t)
  (hall : (backToKw pos (keywordEach kws env)).all (·.1.isSome) = true := by with_unfolding_all rfl)
  (hplain : ((backTo pos (starEach (e :: rest) env)).any (·.1) || (backToKw pos (keywordEach kws env)).any (·.1.isNone)) = false := by with_unfolding_all rfl) (he : starEach (e :: rest) env = (false, eval e env) :: starEach rest env := by with_unfolding_all rfl) :
  V γ A (callWith pos (.ref a) first (backTo pos (starEach (e :: rest) env)) (backToKw pos (keywordEach kws env))) Q h t := v_callwith_kw (l_keep m) x hall hplain he
end
noncomputable abbrev SC (γ : G) (D : Dm) (news : List (Addr × Obj)) (h : Heap) : Prop := Sc (hd.heap_1 γ.w.params) D news h
noncomputable abbrev FX (γ : G) := Fx (hd.heap_1 γ.w.params)
section
variable {γ : G} {A : Around} {D : Dm} {news : List (Addr × Obj)} {h : Heap} {t : Nat} {R : Value → Heap → Nat → Prop}
noncomputable def bw (v : Int) : Int := if v < 256 then 0 else if v < 65536 then 1 else if v < 4294967296 then 2 else 3
theorem ct_U {v : Int} {tv : Tok} (S : SC γ D news h) (r : Room A 1) (h0 : 0 ≤ v) (h1 : v < 18446744073709551616) (k : ∀ h t tk, SC γ D news h → R (.int (bw v) tk) h t) :
  WC γ A (.call (.ref 48) ⟨[.int v tv], []⟩) R h t := by
 refine' w_enter S ?ho ?hcd r.lt [(ofString "value", .int v tv)] [] [(ofString "BitWidth", .ref 74)] ?hb ?ok (globs (by kernel_rfl)) ?_
 kd_facts1
 kd_adr
 kd_p
 refine ⟨by simp [h0], ?_⟩
 kd_p
 refine i_shl (by decide) (by decide) (by decide) ?_
 kd_p
 refine ⟨fun hc => ?_, fun hc => ?_⟩ <;> simp at hc
 ·kd_p
  have e : (0 : Int) = bw v := by unfold bw; rw [if_pos hc]
  rw [e]; exact k _ _ _ F.sc
 kd_p
 refine i_shl (by decide) (by decide) (by decide) ?_
 kd_p
 refine ⟨fun hc2 => ?_, fun hc2 => ?_⟩ <;> simp at hc2
 ·kd_p
  have e : (1 : Int) = bw v := by unfold bw; rw [if_neg (Int.not_lt.mpr hc), if_pos hc2]
  rw [e]; exact k _ _ _ F.sc
 kd_p
 refine i_shl (by decide) (by decide) (by decide) ?_
 kd_p
 refine ⟨fun hc3 => ?_, fun hc3 => ?_⟩ <;> simp at hc3
 ·kd_p
  have e : (2 : Int) = bw v := by unfold bw; rw [if_neg (by kcf_m), if_neg (Int.not_lt.mpr hc2), if_pos hc3]
  rw [e]; exact k _ _ _ F.sc
 kd_p
 refine i_shl (by decide) (by decide) (by decide) ?_
 kd_p
 refine ⟨fun hc4 => ?_, fun hc4 => ?_⟩ <;> simp at hc4
 ·kd_p
  have e : (3 : Int) = bw v := by unfold bw; rw [if_neg (by kcf_m), if_neg (by kcf_m), if_neg (Int.not_lt.mpr hc3)]
  rw [e]; exact k _ _ _ F.sc
 exact absurd h1 (Int.not_lt.mpr hc4)
noncomputable def inl (ty : Int) : Bool := decide (ty ≤ 3) || decide (ty = 26)
theorem ct_IsInline {ty : Int} {tv : Tok} (S : SC γ D news h) (r : Room A 1) (k : ∀ h t, SC γ D news h → R (.bool (inl ty)) h t) : WC γ A (.call (.ref 152) ⟨[.int ty tv], []⟩) R h t := by
 refine' w_enter S ?ho ?hcd r.lt [(ofString "type_", .int ty tv)] [] [(ofString "Type_flexbuffers", .ref 229)] ?hb ?ok (globs (by kernel_rfl)) ?_
 kd_facts1
 kd_adr
 kd_p
 refine ⟨fun hc => ?_, fun hc => ?_⟩
 ·kd_p
  have e := fun t => k h t F.sc
  unfold inl at e; simp at hc; rw [decide_eq_false (Int.not_le.mpr hc)] at e; exact e _
 ·kd_p
  have e := fun t => k h t F.sc
  unfold inl at e; simp at hc; rw [decide_eq_true hc] at e; rw [decide_eq_true hc]; exact e _
theorem ct_PackT {ty w : Int} {t1 t2 : Tok} (S : SC γ D news h) (r : Room A 1) (h0 : 0 ≤ ty) (h1 : ty < 100) (w0 : 0 ≤ w) (w1 : w < 4) (k : ∀ h t tk, SC γ D news h → R (.int (4 * ty + w) tk) h t) :
  WC γ A (.call (.ref 132) ⟨[.int ty t1, .int w t2], []⟩) R h t := by
 refine' w_enter S ?ho ?hcd r.lt [(ofString "type_", .int ty t1), (ofString "bit_width", .int w t2)] [] [(ofString "int", .type "int")] ?hb ?ok (globs (by kernel_rfl)) ?_
 kd_facts1
 kd_adr
 kd_p
 refine i_shl (by decide) (by decide) (by kcf_m) ?_
 kd_p
 have e : Builtin.bitOr (ty * 2 ^ (2 : Int).toNat) w = 4 * ty + w := by
  have e1 : ty * 2 ^ (2 : Int).toNat = 4 * ty := by show ty * 4 = 4 * ty; kcf_m
  rw [e1]
  have : ∀ a ∈ List.range 100, ∀ b ∈ List.range 4, Builtin.bitOr (4 * (a : Int)) (b : Int) = 4 * (a : Int) + b := by decide +kernel
  have q := this ty.toNat (by simp; exact h1) w.toNat (by simp; exact w1)
  rwa [Int.toNat_of_nonneg h0, Int.toNat_of_nonneg w0] at q
 rw [e]; exact k _ _ _ F.sc
end
end
section
section
variable {γ : G} {A : Around} {D : Dm} {news : List (Addr × Obj)} {h : Heap} {t : Nat} {R : Value → Heap → Nat → Prop}
noncomputable def iw (v : Int) : Int := bw (if 0 ≤ v then v * 2 else -(v * 2) - 1)
theorem ct_I {v : Int} {tv : Tok} (S : SC γ D news h) (r : Room A 2) (h0 : -9223372036854775808 ≤ v) (h1 : v < 9223372036854775808) (k : ∀ h t tk, SC γ D news h → R (.int (iw v) tk) h t) :
  WC γ A (.call (.ref 58) ⟨[.int v tv], []⟩) R h t := by
 refine' w_enter S ?ho ?hcd r.lt [(ofString "value", .int v tv)] [] [(ofString "BitWidth", .ref 74)] ?hb ?ok (globs (by kernel_rfl)) ?_
 kd_facts1
 kd_adr
 kd_p
 refine i_imul (IntMulOk.of_right (by decide +kernel)) ?_
 kd_p
 refine ⟨fun hc => ?_, fun hc => ?_⟩ <;> simp at hc
 ·kd_p
  kqd_sub
  refine ct_U S r.deeper (by kcf_m) (by kcf_m) fun h t tk S => ?_
  krn_off
  kd_p
  have e : iw v = bw (v * 2) := by unfold iw; rw [if_pos (by kcf_m)]
  rw [← e]; exact k _ _ _ F.sc
 ·kd_p
  kqd_sub
  have e1 : Builtin.bitNot (v * 2) = -(v * 2) - 1 := by unfold Builtin.bitNot; exact rfl
  refine e1.symm ▸ ?_
  refine ct_U S r.deeper (by kcf_m) (by kcf_m) fun h t tk S => ?_
  krn_off
  kd_p
  have e : iw v = bw (-(v * 2) - 1) := by unfold iw; rw [if_neg (by kcf_m)]
  rw [← e]; exact k _ _ _ F.sc
theorem ct_IsTVE4 {tv : Tok} (S : SC γ D news h) (r : Room A 1) (k : ∀ h t, SC γ D news h → R (.bool true) h t) : WC γ A (.call (.ref 172) ⟨[.int 4 tv], []⟩) R h t := by
 refine' w_enter S ?ho ?hcd r.lt [(ofString "type_", .int 4 tv)] [] [(ofString "Type_flexbuffers", .ref 229)] ?hb ?ok (globs (by kernel_rfl)) ?_
 kd_facts1
 kd_adr
 kd_p
 refine ⟨fun ξ => ?_, fun hc => by simp at hc⟩
 kd_p
 refine ⟨fun hc => by simp at hc, fun ξ => ?_⟩
 kd_p
 exact k _ _ F.sc
theorem ct_Of14 {tv : Tok} (S : SC γ D news h) (r : Room A 1) (k : ∀ h t, SC γ D news h → R (.int 14 tv) h t) : WC γ A (.call (.ref 122) ⟨[.int 14 tv], []⟩) R h t := by
 refine' w_enter S ?ho ?hcd r.lt [(ofString "number", .int 14 tv)] [] [] ?hb ?ok trivial ?_
 kd_facts1
 kd_adr
 kd_p
 refine ⟨fun ξ => ?_, fun hc => by simp at hc⟩
 kd_p
 refine ⟨fun hc => by simp at hc, fun ξ => ?_⟩
 refine ⟨fun ξ => ?_, fun hc => by simp at hc⟩
 kd_p
 exact k _ _ F.sc
theorem ct_TTV {tv tw : Tok} (S : SC γ D news h) (r : Room A 2) (k : ∀ h t tk, SC γ D news h → R (.int 14 tk) h t) : WC γ A (.call (.ref 223) ⟨[.int 4 tv, .int 0 tw], []⟩) R h t := by
 refine' w_enter S ?ho ?hcd r.lt [(ofString "element_type", .int 4 tv), (ofString "fixed_len", .int 0 tw)] [ofString "offset"] [(ofString "Type_flexbuffers", .ref 229)] ?hb ?ok (globs (by kernel_rfl)) ?_
 kd_facts1
 kd_adr
 kd_p
 refine ⟨fun ξ => ?_, fun hc => by simp at hc⟩
 kd_p
 kqd_sub
 refine ct_IsTVE4 S r.deeper fun h t S => ?_
 krn_off
 kd_p
 refine ⟨fun hc => by simp at hc, fun ξ => ?_⟩
 kd_p
 refine ⟨fun ξ => ?_, fun hc => by simp at hc⟩
 kd_p
 kqd_sub
 refine ct_Of14 S r.deeper fun h t S => ?_
 krn_off
 kd_p
 exact k _ _ _ F.sc
end
end
section
section
variable {γ : G} {A : Around} {D : Dm} {news : List (Addr × Obj)} {h : Heap} {t : Nat} {R : Value → Heap → Nat → Prop}
noncomputable abbrev esI : Array DictEntry := #[⟨1, .int 1 301, .str (ofString "b") 302⟩, ⟨2, .int 2 303, .str (ofString "h") 304⟩, ⟨4, .int 4 305, .str (ofString "i") 306⟩, ⟨8, .int 8 307, .str (ofString "q") 308⟩]
noncomputable abbrev esU : Array DictEntry := #[⟨1, .int 1 314, .str (ofString "B") 315⟩, ⟨2, .int 2 316, .str (ofString "H") 317⟩, ⟨4, .int 4 318, .str (ofString "I") 319⟩, ⟨8, .int 8 320, .str (ofString "Q") 321⟩]
theorem lk79 (w : World) : (hd.heap_1 w.params).lookup 79 = some ⟨.type "dict", none, .dict esI 4, #[]⟩ := by kernel_rfl
theorem lk80 (w : World) : (hd.heap_1 w.params).lookup 80 = some ⟨.type "dict", none, .dict esU 4, #[]⟩ := by kernel_rfl
theorem ok79 : ∀ e ∈ esI, ∃ k t, e.key = .int k t ∧ e.hash = hashInt k := by
 intro e he
 simp only [esI, List.mem_toArray, List.mem_cons, List.not_mem_nil, or_false] at he
 rcases he with rfl | rfl | rfl | rfl <;> exact ⟨_, _, rfl, by decide +kernel⟩
theorem ok80 : ∀ e ∈ esU, ∃ k t, e.key = .int k t ∧ e.hash = hashInt k := by
 intro e he
 simp only [esU, List.mem_toArray, List.mem_cons, List.not_mem_nil, or_false] at he
 rcases he with rfl | rfl | rfl | rfl <;> exact ⟨_, _, rfl, by decide +kernel⟩
theorem fI1 : findBy Value.isInt esI 1 = some (.str (ofString "b") 302) := by decide +kernel
theorem fI2 : findBy Value.isInt esI 2 = some (.str (ofString "h") 304) := by decide +kernel
theorem fI4 : findBy Value.isInt esI 4 = some (.str (ofString "i") 306) := by decide +kernel
theorem fI8 : findBy Value.isInt esI 8 = some (.str (ofString "q") 308) := by decide +kernel
theorem fU1 : findBy Value.isInt esU 1 = some (.str (ofString "B") 315) := by decide +kernel
theorem fU2 : findBy Value.isInt esU 2 = some (.str (ofString "H") 317) := by decide +kernel
theorem fU4 : findBy Value.isInt esU 4 = some (.str (ofString "I") 319) := by decide +kernel
theorem fU8 : findBy Value.isInt esU 8 = some (.str (ofString "Q") 321) := by decide +kernel
noncomputable def Wd (m : Nat) (B : Int) : Prop := (m = 1 ∧ B = 256) ∨ (m = 2 ∧ B = 65536) ∨ (m = 4 ∧ B = 4294967296) ∨ (m = 8 ∧ B = 18446744073709551616)
theorem Wd.range {m B} (w : Wd m B) : 1 ≤ m ∧ m ≤ 8 := by unfold Wd at w; kcf_m
theorem Wd.pow {m B} (w : Wd m B) : 1 * 2 ^ ((8 * (m : Int))).toNat = B := by
 rcases w with ⟨rfl, rfl⟩ | ⟨rfl, rfl⟩ | ⟨rfl, rfl⟩ | ⟨rfl, rfl⟩ <;> decide
theorem Wd.half {m B} (w : Wd m B) : 1 * 2 ^ ((8 * (m : Int) - 1)).toNat * 2 = B := by
 rcases w with ⟨rfl, rfl⟩ | ⟨rfl, rfl⟩ | ⟨rfl, rfl⟩ | ⟨rfl, rfl⟩ <;> decide
theorem Wd.pow256 {m B} (w : Wd m B) : (256 : Int) ^ m = B := by
 rcases w with ⟨rfl, rfl⟩ | ⟨rfl, rfl⟩ | ⟨rfl, rfl⟩ | ⟨rfl, rfl⟩ <;> decide
theorem Wd.itemU {m B} (w : Wd m B) : ∃ c tk, findBy Value.isInt esU (m : Int) = some (.str c tk) ∧ (!(Builtin.Str.occurrences (ofString "bhiq") c 0 (ofString "bhiq").length 1).isEmpty) = false := by
 rcases w with ⟨rfl, rfl⟩ | ⟨rfl, rfl⟩ | ⟨rfl, rfl⟩ | ⟨rfl, rfl⟩
 ·exact ⟨_, _, fU1, by decide +kernel⟩
 ·exact ⟨_, _, fU2, by decide +kernel⟩
 ·exact ⟨_, _, fU4, by decide +kernel⟩
 ·exact ⟨_, _, fU8, by decide +kernel⟩
theorem Wd.itemI {m B} (w : Wd m B) : ∃ c tk, findBy Value.isInt esI (m : Int) = some (.str c tk) ∧ (!(Builtin.Str.occurrences (ofString "bhiq") c 0 (ofString "bhiq").length 1).isEmpty) = true := by
 rcases w with ⟨rfl, rfl⟩ | ⟨rfl, rfl⟩ | ⟨rfl, rfl⟩ | ⟨rfl, rfl⟩
 ·exact ⟨_, _, fI1, by decide +kernel⟩
 ·exact ⟨_, _, fI2, by decide +kernel⟩
 ·exact ⟨_, _, fI4, by decide +kernel⟩
 ·exact ⟨_, _, fI8, by decide +kernel⟩
theorem ct_PackU {m : Nat} {B v : Int} {tv tn : Tok} (S : SC γ D news h) (r : Room A 1) (hw : Wd m B) (h0 : 0 ≤ v) (h1 : v < B) (k : ∀ h t b tk, SC γ D news h → bInts b = KTBy.little m v → R (.bytes b tk) h t) :
  WC γ A (.call (.ref 87) ⟨[.ref 80, .int v tv, .int (m : Int) tn], []⟩) R h t := by
 have hr := hw.range
 have hp := hw.pow
 refine ek2_2 hw.itemU fun c tk hi ho => ?_
 refine' w_enter S ?ho ?hcd r.lt [(ofString "fmt", .ref 80), (ofString "value", .int v tv), (ofString "byte_width", .int (m : Int) tn)] [ofString "signed", ofString "low"] [(ofString "int", .type "int")] ?hb ?ok (globs (by kernel_rfl)) ?_
 kd_facts1
 kd_adr
 kd_p
 refine w_tail_intdict F.sc.inK (lk80 _) ok80 hi ?_ (by with_unfolding_all rfl)
 kd_p
 refine ho.symm ▸ ?_
 refine ⟨fun hc => absurd hc (by decide), fun ξ => ?_⟩
 kd_p
 refine ⟨fun ξ => ?_, fun hc => by simp at hc; kcf_m⟩
 kd_p
 refine i_mul (IntMulOk.of_left (by decide +kernel)) ?_
 kd_p
 refine i_shl (by kcf_m) (by kcf_m) (by decide) ?_
 refine hp.symm ▸ ?_
 kd_p
 refine ⟨fun hc => by simp at hc; kcf_m, fun ξ => ?_⟩
 kd_p
 refine i_mul (IntMulOk.of_left (by decide +kernel)) ?_
 kd_p
 refine i_shl (by kcf_m) (by kcf_m) (by decide) ?_
 refine hp.symm ▸ ?_
 kd_p
 refine i_mod (by kcf_m) ?_
 refine (Int.emod_eq_of_lt h0 h1).symm ▸ ?_
 kd_p
 refine c_tb hr.2 hw.pow256 h0 h1 fun b tk t e => ?_
 kd_p
 exact k _ _ _ _ F.sc e
theorem ct_PackI {m : Nat} {B v : Int} {tv tn : Tok} (S : SC γ D news h) (r : Room A 1) (hw : Wd m B) (h0 : -B ≤ 2 * v) (h1 : 2 * v < B) (k : ∀ h t b tk, SC γ D news h → bInts b = KTBy.little m (v % B) → R (.bytes b tk) h t) :
  WC γ A (.call (.ref 87) ⟨[.ref 79, .int v tv, .int (m : Int) tn], []⟩) R h t := by
 have hr := hw.range
 have hp := hw.pow
 have hh := hw.half
 have hpos : 0 < B := by rcases hw with ⟨_, rfl⟩ | ⟨_, rfl⟩ | ⟨_, rfl⟩ | ⟨_, rfl⟩ <;> decide
 refine ek2_2 hw.itemI fun c tk hi ho => ?_
 generalize hG : (1 : Int) * 2 ^ ((8 * (m : Int) - 1)).toNat = H at hh
 refine' w_enter S ?ho ?hcd r.lt [(ofString "fmt", .ref 79), (ofString "value", .int v tv), (ofString "byte_width", .int (m : Int) tn)] [ofString "signed", ofString "low"] [(ofString "int", .type "int")] ?hb ?ok (globs (by kernel_rfl)) ?_
 kd_facts1
 kd_adr
 kd_p
 refine w_tail_intdict F.sc.inK (lk79 _) ok79 hi ?_ (by with_unfolding_all rfl)
 kd_p
 refine ho.symm ▸ ?_
 refine ⟨fun ξ => ?_, fun hc => absurd hc (by decide)⟩
 kd_p
 refine i_mul (IntMulOk.of_left (by decide +kernel)) ?_
 kd_p
 refine i_shl (by kcf_m) (by kcf_m) (by decide) ?_
 refine hG.symm ▸ ?_
 kd_p
 refine ⟨fun ξ => ?_, fun hc => by simp at hc; kcf_m⟩
 kd_p
 refine i_mul (IntMulOk.of_left (by decide +kernel)) ?_
 kd_p
 refine i_shl (by kcf_m) (by kcf_m) (by decide) ?_
 refine hp.symm ▸ ?_
 kd_p
 refine ⟨fun hc => by simp at hc; kcf_m, fun ξ => ?_⟩
 kd_p
 refine i_mul (IntMulOk.of_left (by decide +kernel)) ?_
 kd_p
 refine i_shl (by kcf_m) (by kcf_m) (by decide) ?_
 refine hp.symm ▸ ?_
 kd_p
 refine i_mod (by kcf_m) ?_
 kd_p
 refine c_tb hr.2 hw.pow256 (Int.emod_nonneg _ (by kcf_m)) (Int.emod_lt_of_pos _ hpos) fun b tk t e => ?_
 kd_p
 exact k _ _ _ _ F.sc e
noncomputable def b2 (b : Bool) : Int := if b = true then 1 else 0
theorem b2r (b : Bool) : 0 ≤ b2 b ∧ b2 b ≤ 1 := by unfold b2; split <;> exact by decide
theorem ct_PackB {m : Nat} {B : Int} {v : Bool} {tn : Tok} (S : SC γ D news h) (r : Room A 1) (hw : Wd m B) (k : ∀ h t b tk, SC γ D news h → bInts b = KTBy.little m (b2 v) → R (.bytes b tk) h t) :
  WC γ A (.call (.ref 87) ⟨[.ref 80, .bool v, .int (m : Int) tn], []⟩) R h t := by
 have hr := hw.range
 have hp := hw.pow
 have hpos : 256 ≤ B := by rcases hw with ⟨_, rfl⟩ | ⟨_, rfl⟩ | ⟨_, rfl⟩ | ⟨_, rfl⟩ <;> decide
 have hb := b2r v
 refine ek2_2 hw.itemU fun c tk hi ho => ?_
 refine' w_enter S ?ho ?hcd r.lt [(ofString "fmt", .ref 80), (ofString "value", .bool v), (ofString "byte_width", .int (m : Int) tn)] [ofString "signed", ofString "low"] [(ofString "int", .type "int")] ?hb ?ok (globs (by kernel_rfl)) ?_
 kd_facts1
 kd_adr
 kd_p
 refine w_tail_intdict F.sc.inK (lk80 _) ok80 hi ?_ (by with_unfolding_all rfl)
 kd_p
 refine ho.symm ▸ ?_
 refine ⟨fun hc => absurd hc (by decide), fun ξ => ?_⟩
 kd_p
 refine w_le_int_bool ?_
 show W γ _ (truthy (.bool (decide (b2 v ≥ 0)))) _ _ _
 kd_p
 refine ⟨fun ξ => ?_, fun hc => by simp at hc; kcf_m⟩
 kd_p
 refine i_mul (IntMulOk.of_left (by decide +kernel)) ?_
 kd_p
 refine i_shl (by kcf_m) (by kcf_m) (by decide) ?_
 refine hp.symm ▸ ?_
 kd_p
 refine w_lt_bool_int ?_
 show W γ _ (truthy (.bool (decide (b2 v < 0 + B)))) _ _ _
 kd_p
 refine ⟨fun hc => by simp at hc; kcf_m, fun ξ => ?_⟩
 kd_p
 refine i_mul (IntMulOk.of_left (by decide +kernel)) ?_
 kd_p
 refine i_shl (by kcf_m) (by kcf_m) (by decide) ?_
 refine hp.symm ▸ ?_
 kd_p
 refine i_mod (by kcf_m) ?_
 refine (show (if v = true then (1 : Int) else 0) % B = b2 v from Int.emod_eq_of_lt hb.1 (by show b2 v < B; exact iL (iA hpos hb.2) (by kcf_m))).symm ▸ ?_
 kd_p
 refine c_tb hr.2 hw.pow256 hb.1 (iL (iA hpos hb.2) (by kcf_m)) fun b tk t e => ?_
 kd_p
 exact k _ _ _ _ F.sc e
end
end
section
noncomputable def ValIn (D : Dm) (a : Addr) (v : Value) (ty w : Int) : Prop := ∃ dx od t1 t2, D a = some (instObj 362 dx) ∧ D dx = some od ∧
 TabO [(ofString "_value", v), (ofString "_type", .int ty t1), (ofString "_min_bit_width", .int w t2)] od ∧ handedIn v = true
theorem ValIn.mono {D D' : Dm} {a : Addr} {v : Value} {ty w : Int} (x : ValIn D a v ty w) (l : Le D D') : ValIn D' a v ty w :=
 ek4_4 x fun dx od t1 t2 a b c d => ⟨dx, od, t1, t2, l _ _ a, l _ _ b, c, d⟩
section
variable {γ : G} {A : Around} {D : Dm} {news rest : List (Addr × Obj)} {h : Heap} {t : Nat} {R : Value → Heap → Nat → Prop} {v : Value} {ty w : Int} {x dx : Addr} {od : Obj} {t1 t2 : Tok}
theorem ct_ValInit (S : SC γ D ((dx, od) :: rest) h) (r : Room A 1) (hx : D x = some (instObj 362 dx)) (T : TabO [] od)
  (k : ∀ h t od', TabO [(ofString "_value", v), (ofString "_type", .int ty t1), (ofString "_min_bit_width", .int w t2)] od' → SC γ D ((dx, od') :: rest) h → R .none h t) :
  WC γ A (.call (.ref 297) ⟨[.ref x, v, .int ty t1, .int w t2], []⟩) R h t := by
 refine' w_enter S ?ho ?hcd r.lt [(ofString "self", .ref x), (ofString "value", v), (ofString "type_", .int ty t1), (ofString "min_bit_width", .int w t2)] [] [] ?hb ?ok trivial ?_
 kd_facts1
 kd_adr
 kd_p
 refine w_set F hx .head T (l_set (by tb_start)) (Nat.le_of_ble_eq_true rfl) fun od' h t T F => ?_
 kd_p
 refine w_set F hx .head T (l_set (by tb_start)) (Nat.le_of_ble_eq_true rfl) fun od' h t T F => ?_
 kd_p
 refine w_set F hx .head T (l_set (by tb_start)) (Nat.le_of_ble_eq_true rfl) fun od' h t T F => ?_
 kd_p
 exact k _ _ _ T F.sc
theorem ct_ValNew (S : SC γ D rest h) (r : Room A 2) (hv : handedIn v = true) (k : ∀ h t D' a, Le D D' → ValIn D' a v ty w → SC γ D' rest h → R (.ref a) h t) :
  WC γ A (.call (.ref 362) ⟨[v, .int ty t1, .int w t2], []⟩) R h t := by
 refine w_new S (l_new (by tb_start)) fun x dx h' od ξ S' T hx le => ?_
 refine ct_ValInit S' r.make hx T fun h t od' T S => ⟨rfl, ?_⟩
 exact k _ _ _ _ (le.trans S.freeze_le) ⟨dx, od', t1, t2, S.freeze_le _ _ hx, Dm.put_at _ _ _, T, hv⟩ S.freeze
end
end
section
section
variable {γ : G} {A : Around} {D : Dm} {env : Env} {gl cl : List (Str × Value)} {vars : List (Str × Option Value)} {news rest : List (Addr × Obj)} {h : Heap} {t : Nat} {R : Value → Heap → Nat → Prop} {v : Value} {ty w : Int} {a : Addr}
theorem w_own {C dx : Addr} {od : Obj} {fs : List (Str × Value)} {name : Str} {ex : Bool} {Q : Value → Heap → Nat → Prop} (F : FX γ D env gl cl vars news h) (hx : D a = some (instObj C dx)) (hd : h.get? dx = some od) (T : TabO fs od) (e : Has (C, name) ownL) (hf : fs.lookup name = some v) (hv : handedIn v = true)
  (q : Q v h (t + 1)) : W γ A (getAttr (.ref a) name ex) Q h t := w_get_own F.sc.inK (F.sc.keep _ _ hx) hd T (l_own e) hf hv q
theorem ct_VValue (S : SC γ D news h) (r : Room A 1) (V : ValIn D a v ty w) (k : ∀ h t, SC γ D news h → R v h t) : WC γ A (.call (.ref 304) ⟨[.ref a], []⟩) R h t := by
 refine ek4_4 V fun dx od t1 t2 V1 V2 V3 V4 => ?_; clear V
 refine' w_enter S ?ho ?hcd r.lt [(ofString "self", .ref a)] [] [] ?hb ?ok trivial ?_
 kd_facts1
 kd_adr
 kd_p
 refine w_own F V1 (F.sc.keep _ _ V2) V3 (by tb_start) rfl V4 ?_
 kd_p
 exact k _ _ F.sc
theorem ct_VType (S : SC γ D news h) (r : Room A 1) (V : ValIn D a v ty w) (k : ∀ h t tk, SC γ D news h → R (.int ty tk) h t) : WC γ A (.call (.ref 312) ⟨[.ref a], []⟩) R h t := by
 refine ek4_4 V fun dx od t1 t2 V1 V2 V3 V4 => ?_; clear V
 refine' w_enter S ?ho ?hcd r.lt [(ofString "self", .ref a)] [] [] ?hb ?ok trivial ?_
 kd_facts1
 kd_adr
 kd_p
 refine w_own F V1 (F.sc.keep _ _ V2) V3 (by tb_start) rfl rfl ?_
 kd_p
 exact k _ _ _ F.sc
theorem ct_VWidth (S : SC γ D news h) (r : Room A 1) (V : ValIn D a v ty w) (k : ∀ h t tk, SC γ D news h → R (.int w tk) h t) : WC γ A (.call (.ref 320) ⟨[.ref a], []⟩) R h t := by
 refine ek4_4 V fun dx od t1 t2 V1 V2 V3 V4 => ?_; clear V
 refine' w_enter S ?ho ?hcd r.lt [(ofString "self", .ref a)] [] [] ?hb ?ok trivial ?_
 kd_facts1
 kd_adr
 kd_p
 refine w_own F V1 (F.sc.keep _ _ V2) V3 (by tb_start) rfl rfl ?_
 kd_p
 exact k _ _ _ F.sc
theorem p_Value {Q : Value → Heap → Nat → Prop} (F : FX γ D env gl cl vars news h) (r : Room A 2) (V : ValIn D a v ty w) (q : ∀ h t, FX γ D env gl cl vars news h → Q v h t) : W γ A (getAttr (.ref a) (ofString "Value") true) Q h t := by
 refine F.call0k fun nw S back => ?_
 refine ek4_4 (id V) fun dx od t1 t2 V1 V2 V3 V4 => ?_
 exact w_get_prop F.sc.inK (F.sc.keep _ _ V1) (F.sc.keep _ _ V2) (l_prop (by tb_start)) (ct_VValue S r.in1 V fun h t S => ⟨V4, q _ _ (back _ S)⟩)
theorem p_Type {Q : Value → Heap → Nat → Prop} (F : FX γ D env gl cl vars news h) (r : Room A 2) (V : ValIn D a v ty w) (q : ∀ h t tk, FX γ D env gl cl vars news h → Q (.int ty tk) h t) : W γ A (getAttr (.ref a) (ofString "Type") true) Q h t := by
 refine F.call0k fun nw S back => ?_
 refine ek4_4 (id V) fun dx od t1 t2 V1 V2 V3 V4 => ?_
 exact w_get_prop F.sc.inK (F.sc.keep _ _ V1) (F.sc.keep _ _ V2) (l_prop (by tb_start)) (ct_VType S r.in1 V fun h t tk S => ⟨rfl, q _ _ _ (back _ S)⟩)
theorem p_Width {Q : Value → Heap → Nat → Prop} (F : FX γ D env gl cl vars news h) (r : Room A 2) (V : ValIn D a v ty w) (q : ∀ h t tk, FX γ D env gl cl vars news h → Q (.int w tk) h t) : W γ A (getAttr (.ref a) (ofString "MinBitWidth") true) Q h t := by
 refine F.call0k fun nw S back => ?_
 refine ek4_4 (id V) fun dx od t1 t2 V1 V2 V3 V4 => ?_
 exact w_get_prop F.sc.inK (F.sc.keep _ _ V1) (F.sc.keep _ _ V2) (l_prop (by tb_start)) (ct_VWidth S r.in1 V fun h t tk S => ⟨rfl, q _ _ _ (back _ S)⟩)
noncomputable def stW (ty w p : Int) : Int := if inl ty = true then max w p else w
theorem ct_StoredWidth {p : Int} {tp : Tok} (S : SC γ D news h) (r : Room A 2) (V : ValIn D a v ty w) (k : ∀ h t tk, SC γ D news h → R (.int (stW ty w p) tk) h t) : WC γ A (.call (.ref 345) ⟨[.ref a, .int p tp], []⟩) R h t := by
 have V' := V
 refine ek4_4 V fun dx od t1 t2 V1 V2 V3 V4 => ?_; clear V
 refine' w_enter S ?ho ?hcd r.lt [(ofString "self", .ref a), (ofString "parent_bit_width", .int p tp)] [] [(ofString "Type_flexbuffers", .ref 229), (ofString "max", .builtin "max")] ?hb ?ok (globs (by kernel_rfl)) ?_
 kd_facts1
 kd_adr
 kd_p
 refine w_own F V1 (F.sc.keep _ _ V2) V3 (by tb_start) rfl rfl ?_
 kd_p
 kqd_sub
 refine ct_IsInline S r.deeper fun h t S => ?_
 krn_off
 kd_p
 refine ⟨fun hc => ?_, fun hc => ?_⟩
 ·kd_p
  refine w_own F V1 (F.sc.keep _ _ V2) V3 (by tb_start) rfl rfl ?_
  kd_p
  refine w_max2 F r.hn fun h tk t F => ?_
  kd_p
  have e : max w p = stW ty w p := by unfold stW; rw [if_pos hc]
  rw [e]; exact k _ _ _ F.sc
 ·kd_p
  refine w_own F V1 (F.sc.keep _ _ V2) V3 (by tb_start) rfl rfl ?_
  kd_p
  have e : w = stW ty w p := by unfold stW; rw [if_neg (by rw [hc]; decide)]
  have kk := k
  rw [← e] at kk; exact kk _ _ _ F.sc
theorem ct_SPT {p : Int} {tp : Tok} (S : SC γ D news h) (r : Room A 3) (V : ValIn D a v ty w) (h0 : 0 ≤ ty) (h1 : ty < 100) (w0 : 0 ≤ w) (w1 : w < 4) (p0 : 0 ≤ p) (p1 : p < 4) (k : ∀ h t tk, SC γ D news h → R (.int (4 * ty + stW ty w p) tk) h t) :
  WC γ A (.call (.ref 329) ⟨[.ref a, .int p tp], []⟩) R h t := by
 have V' := V
 refine ek4_4 V fun dx od t1 t2 V1 V2 V3 V4 => ?_; clear V
 refine' w_enter S ?ho ?hcd r.lt [(ofString "self", .ref a), (ofString "parent_bit_width", .int p tp)] [] [(ofString "Type_flexbuffers", .ref 229)] ?hb ?ok (globs (by kernel_rfl)) ?_
 kd_facts1
 kd_adr
 kd_p
 refine w_own F V1 (F.sc.keep _ _ V2) V3 (by tb_start) rfl rfl ?_
 kd_p
 refine w_getm_inst F.sc.inK (F.sc.keep _ _ V1) (F.sc.keep _ _ V2) V3 (l_meth (by tb_start)) rfl ?_
 kd_p
 kqd_sub
 refine ct_StoredWidth S r.deeper V' fun h t tk S => ?_
 krn_off
 kd_p
 kqd_sub
 have sw : 0 ≤ stW ty w p ∧ stW ty w p < 4 := by unfold stW; split <;> kcf_m
 refine ct_PackT S (r.deeper.mono (by decide)) h0 h1 sw.1 sw.2 fun h t tk S => ?_
 krn_off
 kd_p
 exact k _ _ _ F.sc
theorem ct_SPT0 (S : SC γ D news h) (r : Room A 3) (V : ValIn D a v ty w) (h0 : 0 ≤ ty) (h1 : ty < 100) (w0 : 0 ≤ w) (w1 : w < 4) (k : ∀ h t tk, SC γ D news h → R (.int (4 * ty + w) tk) h t) :
  WC γ A (.call (.ref 329) ⟨[.ref a], []⟩) R h t := by
 have V' := V
 refine ek4_4 V fun dx od t1 t2 V1 V2 V3 V4 => ?_; clear V
 refine' w_enter S ?ho ?hcd r.lt [(ofString "self", .ref a), (ofString "parent_bit_width", .int 0 802)] [] [(ofString "Type_flexbuffers", .ref 229)] ?hb ?ok (globs (by kernel_rfl)) ?_
 kd_facts1
 kd_adr
 kd_p
 refine w_own F V1 (F.sc.keep _ _ V2) V3 (by tb_start) rfl rfl ?_
 kd_p
 refine w_getm_inst F.sc.inK (F.sc.keep _ _ V1) (F.sc.keep _ _ V2) V3 (l_meth (by tb_start)) rfl ?_
 kd_p
 kqd_sub
 refine ct_StoredWidth S r.deeper V' fun h t tk S => ?_
 krn_off
 kd_p
 kqd_sub
 have sw : stW ty w 0 = w := by unfold stW; split <;> kcf_m
 rw [sw]
 refine ct_PackT S (r.deeper.mono (by decide)) h0 h1 w0 w1 fun h t tk S => ?_
 krn_off
 kd_p
 exact k _ _ _ F.sc
end
end
section
section
variable {γ : G} {A : Around} {D : Dm} {env : Env} {gl cl : List (Str × Value)} {vars : List (Str × Option Value)} {news rest own : List (Addr × Obj)} {h : Heap} {t : Nat} {R : Value → Heap → Nat → Prop} {v : Value} {ty w : Int} {a : Addr}
theorem ct_Pad {i : Int} {m : Nat} {B : Int} {ti tj : Tok} (S : SC γ D news h) (r : Room A 1) (hm : Wd m B) (k : ∀ h t tk, SC γ D news h → R (.int ((-i) % (m : Int)) tk) h t) :
  WC γ A (.call (.ref 94) ⟨[.int i ti, .int (m : Int) tj], []⟩) R h t := by
 refine' w_enter S ?ho ?hcd r.lt [(ofString "buf_size", .int i ti), (ofString "scalar_size", .int (m : Int) tj)] [] [] ?hb ?ok trivial ?_
 kd_facts1
 kd_adr
 kd_p
 have e : Builtin.bitAnd (-i) ((m : Int) - 1) = (-i) % (m : Int) := by
  rcases hm with ⟨rfl, _⟩ | ⟨rfl, _⟩ | ⟨rfl, _⟩ | ⟨rfl, _⟩
  ·show Builtin.bitAnd (-i) 0 = _; rw [bitAnd_zero]; kcf_m
  ·exact bitAnd_m1 _
  ·exact bitAnd_m2 _
  ·exact bitAnd_m3 _
 rw [e]; exact k _ _ _ F.sc
noncomputable def far (n v idx : Int) : Int := if n + idx - v < 256 then 0 else 1
noncomputable def elW (ty v w n idx : Int) : Int := if inl ty = true then w else far n v idx
theorem w_pyiter_tup {items : List Value} {o : Obj} {l : Addr} {Q : Value → Heap → Nat → Prop} {K : Frag} (F : Fx K D env gl cl vars news h) (hl : D l = some o) (T : TupO items o)
  (q : ∀ it own h', (∀ x p, Iter γ K (.ref it) (.Name x p) items.length (TupSt l it items) (fun i ξ v => items[i]? = some v)) → TupSt l it items 0 D own → Fx K D env gl cl vars (news ++ own) h' → Q (.ref it) h' t) : PyIter γ A (.ref l) Q h t := by
 have F1 := F.push { cls := .type "tuple_iterator", data := .fields #[.ref l, .int 0 0] }
 exact ⟨⟨wpAny_pyIter_tuple (s := mkS γ h t) (T.isTuple (F.sc.keep _ _ hl)) ⟨_, t, rfl, q _ [_] _ (fun ξ ξ => iter_tup) (.mk hl T rfl rfl) (F1.perm (List.perm_append_comm (l₁ := [_]) (l₂ := news)))⟩⟩⟩
theorem w_asg_name {x : Str} {p : Pos} {Q : Unit → Heap → Nat → Prop} (q : W γ A (storeName env x v) Q h t) : W γ A (assign (.Name x p) env v) Q h t := ⟨wpAny_assign_Name q.out⟩
theorem ct_EW {n idx p : Int} {tn ti : Tok} {args : Args} (ha : args = ⟨[.ref a, .int n tn, .int idx ti], []⟩ ∨ (args = ⟨[.ref a, .int n tn], []⟩ ∧ idx = 0 ∧ ti = 811)) (S : SC γ D news h) (r : Room A 2) (V : ValIn D a v ty w) (hi : 0 ≤ idx) (hp : inl ty = false → (∃ tp, v = .int p tp) ∧ 0 ≤ p ∧ p ≤ n ∧ n + 2 * idx + 1 < 65536)
  (k : ∀ h t tk, SC γ D news h → R (.int (elW ty p w n idx) tk) h t) : WC γ A (.call (.ref 337) args) R h t := by
 refine ek4_4 V fun dx od t1 t2 V1 V2 V3 V4 => ?_; clear V
 have st := S.st
 refine' w_enter S ?ho ?hcd r.lt [(ofString "self", .ref a), (ofString "buf_size", .int n tn), (ofString "elem_index", .int idx ti)] [ofString "byte_width", ofString "offset_loc", ofString "bit_width"]
  [(ofString "Type_flexbuffers", .ref 229), (ofString "_PaddingBytes", .ref 94), (ofString "BitWidth", .ref 74)] ?hb ?ok (globs (by kernel_rfl)) ?_
 case ho => k_is
 case hcd => k_is
 case hb =>
  rcases ha with rfl | ⟨rfl, rfl, rfl⟩
  ·exact binds_K S.inK rfl (by k_is) rfl rfl rfl
  ·exact binds_K S.inK rfl (by k_is) rfl rfl rfl
 case ok => kernel_rfl
 clear ha
 kd_adr
 kd_p
 refine w_own F V1 (F.sc.keep _ _ V2) V3 (by tb_start) rfl rfl ?_
 kd_p
 kqd_sub
 refine ct_IsInline S r.deeper fun h t S => ?_
 krn_off
 kd_p
 refine ⟨fun hc => ?_, fun hc => ?_⟩
 ·kd_p
  refine w_own F V1 (F.sc.keep _ _ V2) V3 (by tb_start) rfl rfl ?_
  kd_p
  have e : w = elW ty p w n idx := by unfold elW; rw [if_pos hc]
  have kk := k
  rw [← e] at kk; exact kk _ _ _ F.sc
 refine ek0_4 (hp hc) fun z1 p0 pn nb => ?_; refine ek1_1 z1 fun tp z2 => ?_; clear z1; obtain rfl := z2
 have e0 : elW ty p w n idx = far n p idx := by unfold elW; rw [if_neg (by rw [hc]; decide)]
 rw [e0] at k
 kd_p
 refine w_for ?_
 kd_p
 refine w_newtup F (n_le rfl) fun D' ta o h le ea T F => ?_
 have V1 := le _ _ V1
 have V2 := le _ _ V2
 refine w_pyiter_tup F ea T fun it own h I hst F => ?_
 refine w_for_it (I _ _) r.hn (fun i D' vars' news' => (∃ u1 u2 u3, vars' = [(ofString "self", some (.ref a)), (ofString "buf_size", some (.int n tn)), (ofString "elem_index", some (.int idx ti)), (ofString "byte_width", u1), (ofString "offset_loc", u2), (ofString "bit_width", u3)]) ∧
  news' = news ∧ i < 2 ∧ (i = 1 → 256 ≤ n + idx - p)) F hst ⟨⟨_, _, _, rfl⟩, rfl, by decide, by simp⟩ ?_ (fun ξ ξ ξ ξ ξ ξ q => q) ?_
 ·intro i D2 vars news' own u h t le2 hi4 y1; refine ek0_4 y1 fun z1 z2 hi2 h256 => ?_; clear y1; refine ek3_1 z1 fun u1 u2 u3 z3 => ?_; clear z1; obtain rfl := z3; obtain rfl := z2; intro hv F
  have V1 := le2 _ _ V1
  have V2 := le2 _ _ V2
  have fin : ∀ {h t tk}, SC γ D2 (news' ++ own) h → R (.int (far n p idx) tk) h t := fun S => k _ _ _ ((S.weaken st (le.trans le2)).sub (by simp))
  refine w_asg_name ?_
  have n0 : 0 ≤ n := Int.le_trans p0 pn
  rcases (show i = 0 ∨ i = 1 by kcf_m) with rfl | rfl
  ·simp at hv
   subst hv
   kd_p
   kqd_sub
   refine ct_Pad (m := 1) S r.deeper (.inl ⟨rfl, rfl⟩) fun h t tk S => ?_
   krn_off
   kd_p
   refine i_mul (IntMulOk.of_right (by decide)) ?_
   kd_p
   refine w_own F V1 (F.sc.keep _ _ V2) V3 (by tb_start) rfl rfl ?_
   kd_p
   kqd_sub
   have e1 : n + (-n) % ((1 : Nat) : Int) + idx * 1 - p = n + idx - p := by kcf_m
   refine e1.symm ▸ ?_
   refine ct_U S r.deeper (by kcf_m) (by kcf_m) fun h t tk S => ?_
   krn_off
   kd_p
   have bb : bw (n + idx - p) = if n + idx - p < 256 then 0 else 1 := by unfold bw; split; rfl; rw [if_pos (iL (iA hi (iA p0 nb)) (by kcf_m))]
   refine i_shl (by rw [bb]; split <;> decide) (by rw [bb]; split <;> decide) (by decide) ?_
   kd_p
   refine ⟨fun hc => ?_, fun hc => ?_⟩ <;> simp at hc
   ·have e : bw (n + idx - p) = far n p idx := by
     rw [bb] at hc ⊢; unfold far; split
     ·rfl
     ·rename_i q; exact absurd hc (by rw [if_neg q]; decide)
    kd_p
    refine e.symm ▸ ?_
    exact .inr ⟨_, rfl, q0 _ _ _ (fin F.sc)⟩
   ·kd_p
    refine .inl ⟨rfl, D2, _, _, Le.refl _, ⟨⟨_, _, _, rfl⟩, rfl, by decide, fun ξ => ?_⟩, F⟩
    rw [bb] at hc
    by_cases q : n + idx - p < 256
    ·rw [if_pos q] at hc; simp at hc
    ·exact Int.not_lt.mp q
  ·simp at hv
   subst hv
   have h256 := h256 rfl
   kd_p
   kqd_sub
   refine ct_Pad (m := 2) S r.deeper (.inr (.inl ⟨rfl, rfl⟩)) fun h t tk S => ?_
   krn_off
   kd_p
   refine i_mul (IntMulOk.of_right (by decide)) ?_
   kd_p
   refine w_own F V1 (F.sc.keep _ _ V2) V3 (by tb_start) rfl rfl ?_
   kd_p
   kqd_sub
   refine ct_U S r.deeper (by kcf_m) (by kcf_m) fun h t tk S => ?_
   krn_off
   kd_p
   have bb : bw (n + (-n) % ((2 : Nat) : Int) + idx * 2 - p) = 1 := by unfold bw; rw [if_neg (by kcf_m), if_pos (by kcf_m)]
   refine bb.symm ▸ ?_
   refine i_shl (by decide) (by decide) (by decide) ?_
   kd_p
   refine ⟨fun hc => ?_, fun hc => absurd hc (by decide)⟩
   kd_p
   have e : bw (n + (-n) % ((2 : Nat) : Int) + idx * 2 - p) = far n p idx := by rw [bb]; unfold far; rw [if_neg (Int.not_lt.mpr h256)]
   refine e.symm ▸ ?_
   exact .inr ⟨_, rfl, q0 _ _ _ (fin F.sc)⟩
 ·intro D2 vars news' h t le2 y1; refine ek0_4 y1 fun ξ ξ q ξ => ?_; clear y1
  exact absurd q (by simp)
theorem ct_ElemWidth {n idx p : Int} {tn ti : Tok} (S : SC γ D news h) (r : Room A 2) (V : ValIn D a v ty w) (hi : 0 ≤ idx) (hp : inl ty = false → (∃ tp, v = .int p tp) ∧ 0 ≤ p ∧ p ≤ n ∧ n + 2 * idx + 1 < 65536)
  (k : ∀ h t tk, SC γ D news h → R (.int (elW ty p w n idx) tk) h t) : WC γ A (.call (.ref 337) ⟨[.ref a, .int n tn, .int idx ti], []⟩) R h t := ct_EW (.inl rfl) S r V hi hp k
theorem ct_ElemWidth0 {n p : Int} {tn : Tok} (S : SC γ D news h) (r : Room A 2) (V : ValIn D a v ty w) (hp : inl ty = false → (∃ tp, v = .int p tp) ∧ 0 ≤ p ∧ p ≤ n ∧ n + 1 < 65536)
  (k : ∀ h t tk, SC γ D news h → R (.int (elW ty p w n 0) tk) h t) : WC γ A (.call (.ref 337) ⟨[.ref a, .int n tn], []⟩) R h t := ct_EW (.inr ⟨rfl, rfl, rfl⟩) S r V (Int.le_refl 0) (fun q => ⟨(hp q).1, (hp q).2.1, (hp q).2.2.1, by have := (hp q).2.2.2; kcf_m⟩) k
end
end
section
section
variable {γ : G} {A : Around} {D : Dm} {env : Env} {gl cl : List (Str × Value)} {vars : List (Str × Option Value)} {news rest : List (Addr × Obj)} {h : Heap} {t : Nat} {R : Value → Heap → Nat → Prop}
theorem ct_VNull (S : SC γ D rest h) (r : Room A 3) (k : ∀ h t D' a tk, Le D D' → ValIn D' a (.int 0 tk) 0 0 → SC γ D' rest h → R (.ref a) h t) : WC γ A (.call (.ref 247) ⟨[], []⟩) R h t := by
 refine' w_enter S ?ho ?hcd r.lt [] [] [(ofString "Value_flexbuffers", .ref 362), (ofString "Type_flexbuffers", .ref 229), (ofString "BitWidth", .ref 74)] ?hb ?ok (globs (by kernel_rfl)) ?_
 kd_facts1
 kd_adr
 kd_p
 refine F.outk (ps := []) (by kp_flats) fun oL S back => ?_
 refine w_call (ct_ValNew S r.deeper rfl fun h t D' a le V S => ?_)
 have F := back _ [] _ le S
 kso_len
 kd_p
 exact k _ _ _ _ _ le V F.sc
theorem ct_VBool {b : Bool} (S : SC γ D rest h) (r : Room A 3) (k : ∀ h t D' a, Le D D' → ValIn D' a (.bool b) 26 0 → SC γ D' rest h → R (.ref a) h t) : WC γ A (.call (.ref 257) ⟨[.bool b], []⟩) R h t := by
 refine' w_enter S ?ho ?hcd r.lt [(ofString "value", .bool b)] [] [(ofString "Value_flexbuffers", .ref 362), (ofString "Type_flexbuffers", .ref 229), (ofString "BitWidth", .ref 74)] ?hb ?ok (globs (by kernel_rfl)) ?_
 kd_facts1
 kd_adr
 kd_p
 refine F.outk (ps := []) (by kp_flats) fun oL S back => ?_
 refine w_call (ct_ValNew S r.deeper rfl fun h t D' a le V S => ?_)
 have F := back _ [] _ le S
 kso_len
 kd_p
 exact k _ _ _ _ le V F.sc
theorem ct_VInt {n w : Int} {tn tw : Tok} (S : SC γ D rest h) (r : Room A 3) (k : ∀ h t D' a, Le D D' → ValIn D' a (.int n tn) 1 w → SC γ D' rest h → R (.ref a) h t) : WC γ A (.call (.ref 267) ⟨[.int n tn, .int w tw], []⟩) R h t := by
 refine' w_enter S ?ho ?hcd r.lt [(ofString "value", .int n tn), (ofString "bit_width", .int w tw)] [] [(ofString "Value_flexbuffers", .ref 362), (ofString "Type_flexbuffers", .ref 229)] ?hb ?ok (globs (by kernel_rfl)) ?_
 kd_facts1
 kd_adr
 kd_p
 refine F.outk (ps := []) (by kp_flats) fun oL S back => ?_
 refine w_call (ct_ValNew S r.deeper rfl fun h t D' a le V S => ?_)
 have F := back _ [] _ le S
 kso_len
 kd_p
 exact k _ _ _ _ le V F.sc
theorem ct_VKey {n : Int} {tn : Tok} (S : SC γ D rest h) (r : Room A 3) (k : ∀ h t D' a, Le D D' → ValIn D' a (.int n tn) 4 0 → SC γ D' rest h → R (.ref a) h t) : WC γ A (.call (.ref 287) ⟨[.int n tn], []⟩) R h t := by
 refine' w_enter S ?ho ?hcd r.lt [(ofString "offset", .int n tn)] [] [(ofString "Value_flexbuffers", .ref 362), (ofString "Type_flexbuffers", .ref 229), (ofString "BitWidth", .ref 74)] ?hb ?ok (globs (by kernel_rfl)) ?_
 kd_facts1
 kd_adr
 kd_p
 refine F.outk (ps := []) (by kp_flats) fun oL S back => ?_
 refine w_call (ct_ValNew S r.deeper rfl fun h t D' a le V S => ?_)
 have F := back _ [] _ le S
 kso_len
 kd_p
 exact k _ _ _ _ le V F.sc
end
end
section
noncomputable abbrev bFields (buf stk : Addr) (force : Int) (tk : Tok) : List (Str × Value) := [(ofString "_share_strings", .bool false), (ofString "_share_keys", .bool false), (ofString "_force_min_bit_width", .int force tk), (ofString "_finished", .bool false),
 (ofString "_buf", .ref buf), (ofString "_stack", .ref stk)]
noncomputable abbrev bMeths : List Str := [ofString "_ReadKey", ofString "_Align", ofString "_Write", ofString "_WriteOffset", ofString "_WriteAny", ofString "_WriteBlob", ofString "_CreateVector", ofString "String", ofString "Blob", ofString "Key",
 ofString "Null", ofString "Bool", ofString "Int", ofString "_StartVector", ofString "_EndVector", ofString "VectorFromElements", ofString "_StartMap", ofString "_EndMap", ofString "Add", ofString "Finish", ofString "Clear"]
structure BTab (buf stk : Addr) (force : Int) (od : Obj) : Prop where
 out : ∃ fs tk, TabO fs od ∧ (∀ n v, Has (n, v) (bFields buf stk force tk) → fs.lookup n = some v) ∧ ∀ n, Has n bMeths → fs.lookup n = none
noncomputable def Bld (D : Dm) (x buf stk : Addr) (force : Int) : Prop := ∃ bd od, D x = some (instObj 690 bd) ∧ D bd = some od ∧ BTab buf stk force od
theorem Bld.mono {D D' : Dm} {x buf stk : Addr} {force : Int} (b : Bld D x buf stk force) (l : Le D D') : Bld D' x buf stk force := ek2_3 b fun bd od a b c => ⟨bd, od, l _ _ a, l _ _ b, c⟩
section
variable {γ : G} {A : Around} {D : Dm} {env : Env} {gl cl : List (Str × Value)} {vars : List (Str × Option Value)} {news rest : List (Addr × Obj)} {h : Heap} {t : Nat} {R : Value → Heap → Nat → Prop} {x buf stk : Addr} {force : Int} {bs : List Int} {bo : Obj}
theorem b_buf {Q : Value → Heap → Nat → Prop} {ex : Bool} (F : FX γ D env gl cl vars news h) (B : Bld D x buf stk force) (q : Q (.ref buf) h (t + 1)) : W γ A (getAttr (.ref x) (ofString "_buf") ex) Q h t := by
 refine ek2_3 B fun bd od b1 b2 z1 => ?_; clear B; obtain ⟨fs, tk, b3, b4, b5⟩ := z1
 exact w_own F b1 (F.sc.keep _ _ b2) b3 (by tb_start) (b4 _ _ (by tb_start)) rfl q
theorem b_stack {Q : Value → Heap → Nat → Prop} {ex : Bool} (F : FX γ D env gl cl vars news h) (B : Bld D x buf stk force) (q : Q (.ref stk) h (t + 1)) : W γ A (getAttr (.ref x) (ofString "_stack") ex) Q h t := by
 refine ek2_3 B fun bd od b1 b2 z1 => ?_; clear B; obtain ⟨fs, tk, b3, b4, b5⟩ := z1
 exact w_own F b1 (F.sc.keep _ _ b2) b3 (by tb_start) (b4 _ _ (by tb_start)) rfl q
theorem b_meth {n : Str} {f : Addr} {pl : Sem Bool} {Q : Value × List Value → Heap → Nat → Prop} (F : FX γ D env gl cl vars news h) (B : Bld D x buf stk force) (hm : Has (690, n, f) methL) (hn : Has n bMeths) (q : Q (.ref f, [.ref x]) h t) : W γ A (getMethod (.ref x) n pl) Q h t := by
 refine ek2_3 B fun bd od b1 b2 z1 => ?_; clear B; obtain ⟨fs, tk, b3, b4, b5⟩ := z1
 exact w_getm_inst F.sc.inK (F.sc.keep _ _ b1) (F.sc.keep _ _ b2) b3 (l_meth hm) (b5 _ hn) q
theorem bits_zeros (n : Nat) : bInts ((List.replicate n [(0 : UInt8)]).flatten).toArray = List.replicate n 0 := by
 have : (List.replicate n [(0 : UInt8)]).flatten = List.replicate n 0 := by
  induction n with
  | zero => rfl
  | succ n ih => rw [List.replicate_succ, List.flatten_cons, ih, List.replicate_succ]; rfl
 rw [this]; simp [bInts, KBw.bInts]
noncomputable def padN (n m : Nat) : List Int := List.replicate ((-(n : Int)) % (m : Int)).toNat 0
theorem padN_length (n : Nat) {m : Nat} (hm : 0 < m) : (padN n m).length < m := by
 have := Int.emod_lt_of_pos (-(n : Int)) (show (0 : Int) < m by exact Int.ofNat_lt.mpr hm)
 have := Int.emod_nonneg (-(n : Int)) (show (m : Int) ≠ 0 by kcf_m)
 simp [padN]; kcf_m
noncomputable def Wb (b : Int) (m : Nat) (B : Int) : Prop := 0 ≤ b ∧ b ≤ 3 ∧ (1 : Int) * 2 ^ b.toNat = (m : Int) ∧ Wd m B
theorem ct_Align {b : Int} {m : Nat} {B : Int} {tb : Tok} (S : SC γ D ((buf, bo) :: rest) h) (r : Room A 2) (Bx : Bld D x buf stk force) (hb : BaO bs bo) (w : Wb b m B) (hl : bs.length ≤ 100000)
  (k : ∀ h t tk bo', BaO (bs ++ padN bs.length m) bo' → SC γ D ((buf, bo') :: rest) h → R (.int (m : Int) tk) h t) : VC γ A (.call (.ref 475) ⟨[.ref x, .int b tb], []⟩) R h t := by
 refine ek0_4 w fun w0 w1 w2 w3 => ?_; clear w
 have sz : sizeLine = 16777216 := sizeLine_eq
 refine' v_enter S ?ho ?hcd r.lt [(ofString "self", .ref x), (ofString "alignment", .int b tb)] [ofString "byte_width"] [(ofString "_PaddingBytes", .ref 94), (ofString "len", .builtin "len")] ?hb ?ok (globs (by kernel_rfl)) ?_
 kd_facts1
 kd_adr
 kct_ten
 refine i_shl w0 (Int.le_trans w1 (by decide)) (by decide) ?_
 rw [w2]
 kd_p
 kct_fill
 refine b_buf F Bx ?_
 kd_p
 refine w_getm_ba slot_ba_extend type_ba_extend (F.got .head) hb ?_
 kd_p
 refine b_buf F Bx ?_
 kd_p
 refine w_len_ba (F.got .head) hb (szle (Nat.le_trans hl (by decide))) ?_
 kd_p
 kqd_sub
 refine ct_Pad S r.deeper w3 fun h t tk S => ?_
 krn_off
 kd_p
 have pl := padN_length bs.length (show 0 < m by have := w3.range; exact this.1)
 have mr := w3.range
 have pn := Int.emod_nonneg (-(bs.length : Int)) (show (m : Int) ≠ 0 by kcf_m)
 have pm := Int.emod_lt_of_pos (-(bs.length : Int)) (show (0 : Int) < m by exact cL (0) (m) (nL mr.1 (by kcf_m)))
 refine c_bytes_mul (by decide) (Int.le_trans (by decide) pn) (by kcf_m) (by decide) fun tk t => ?_
 kd_p
 refine F.outk (ps := [(buf, bo)]) (by kp_flats) fun oL S back => ?_
 refine v_extend S hb (by rw [bits_zeros]; simp; kcf_m) fun bo' h hb' S => ?_
 have F := back _ [(buf, bo')] _ (Le.refl _) S
 kso_len
 rw [bits_zeros] at hb'
 refine ⟨trivial, ?_⟩
 kd_p
 kct_fill
 exact k _ _ _ _ hb' F.sc
end
end
section
noncomputable def Packs (γ : G) (fmt : Addr) (v : Value) (m : Nat) (os : List Int) : Prop := ∀ (A : Around) (D : Dm) (news : List (Addr × Obj)) (h : Heap) (t : Nat) (R : Value → Heap → Nat → Prop) (tn : Tok), SC γ D news h → Room A 1 →
 (∀ h t b tk, SC γ D news h → bInts b = os → R (.bytes b tk) h t) → WC γ A (.call (.ref 87) ⟨[.ref fmt, v, .int (m : Int) tn], []⟩) R h t
theorem packs_U {γ : G} {m : Nat} {B v : Int} {tv : Tok} (w : Wd m B) (h0 : 0 ≤ v) (h1 : v < B) : Packs γ 80 (.int v tv) m (KTBy.little m v) := fun ξ ξ ξ ξ ξ ξ ξ S r k => ct_PackU S r w h0 h1 k
theorem packs_I {γ : G} {m : Nat} {B v : Int} {tv : Tok} (w : Wd m B) (h0 : -B ≤ 2 * v) (h1 : 2 * v < B) : Packs γ 79 (.int v tv) m (KTBy.little m (v % B)) := fun ξ ξ ξ ξ ξ ξ ξ S r k => ct_PackI S r w h0 h1 k
theorem packs_B {γ : G} {m : Nat} {B : Int} {v : Bool} (w : Wd m B) : Packs γ 80 (.bool v) m (KTBy.little m (b2 v)) := fun ξ ξ ξ ξ ξ ξ ξ S r k => ct_PackB S r w k
section
variable {γ : G} {A : Around} {D : Dm} {env : Env} {gl cl : List (Str × Value)} {vars : List (Str × Option Value)} {news rest : List (Addr × Obj)} {h : Heap} {t : Nat} {R : Value → Heap → Nat → Prop} {x buf stk : Addr} {force : Int} {bs os : List Int} {bo : Obj} {v : Value}
theorem ct_Write {fmt : Addr} {m : Nat} {tn : Tok} (S : SC γ D ((buf, bo) :: rest) h) (r : Room A 2) (Bx : Bld D x buf stk force) (hb : BaO bs bo) (P : Packs γ fmt v m os) (hl : bs.length + os.length ≤ 100000)
  (k : ∀ h t bo', BaO (bs ++ os) bo' → SC γ D ((buf, bo') :: rest) h → R .none h t) : VC γ A (.call (.ref 482) ⟨[.ref x, .ref fmt, v, .int (m : Int) tn], []⟩) R h t := by
 have sz : sizeLine = 16777216 := sizeLine_eq
 refine' v_enter S ?ho ?hcd r.lt [(ofString "self", .ref x), (ofString "fmt", .ref fmt), (ofString "value", v), (ofString "byte_width", .int (m : Int) tn)] [] [(ofString "_Pack", .ref 87)] ?hb ?ok (globs (by kernel_rfl)) ?_
 kd_facts1
 kd_adr
 kct_fill
 refine b_buf F Bx ?_
 kd_p
 refine w_getm_ba slot_ba_extend type_ba_extend (F.got .head) hb ?_
 kd_p
 kqd_sub
 refine P _ _ _ _ _ _ _ S r.deeper fun h t b tk S e => ?_
 krn_off
 kd_p
 refine F.outk (ps := [(buf, bo)]) (by kp_flats) fun oL S back => ?_
 refine v_extend S hb (by rw [e]; kcf_m) fun bo' h hb' S => ?_
 have F := back _ [(buf, bo')] _ (Le.refl _) S
 kso_len
 rw [e] at hb'
 refine ⟨trivial, ?_⟩
 kd_p
 exact k _ _ _ hb' F.sc
theorem ct_Writek {fmt : Addr} {m : Nat} {tn : Tok} (S : SC γ D ((buf, bo) :: rest) h) (r : Room A 2) (Bx : Bld D x buf stk force) (hb : BaO bs bo) (P : Packs γ fmt v m os) (hl : bs.length + os.length ≤ 100000)
  (k : ∀ h t bo', BaO (bs ++ os) bo' → SC γ D ((buf, bo') :: rest) h → R .none h t) : VC γ A (.call (.ref 482) ⟨[.ref x, .ref fmt, v], [(ofString "byte_width", .int (m : Int) tn)]⟩) R h t := by
 have sz : sizeLine = 16777216 := sizeLine_eq
 refine' v_enter S ?ho ?hcd r.lt [(ofString "self", .ref x), (ofString "fmt", .ref fmt), (ofString "value", v), (ofString "byte_width", .int (m : Int) tn)] [] [(ofString "_Pack", .ref 87)] ?hb ?ok (globs (by kernel_rfl)) ?_
 kd_facts1
 kd_adr
 kct_fill
 refine b_buf F Bx ?_
 kd_p
 refine w_getm_ba slot_ba_extend type_ba_extend (F.got .head) hb ?_
 kd_p
 kqd_sub
 refine P _ _ _ _ _ _ _ S r.deeper fun h t b tk S e => ?_
 krn_off
 kd_p
 refine F.outk (ps := [(buf, bo)]) (by kp_flats) fun oL S back => ?_
 refine v_extend S hb (by rw [e]; kcf_m) fun bo' h hb' S => ?_
 have F := back _ [(buf, bo')] _ (Le.refl _) S
 kso_len
 rw [e] at hb'
 refine ⟨trivial, ?_⟩
 kd_p
 exact k _ _ _ hb' F.sc
theorem ct_WriteOffset {m : Nat} {B off : Int} {to tn : Tok} (S : SC γ D ((buf, bo) :: rest) h) (r : Room A 3) (Bx : Bld D x buf stk force) (hb : BaO bs bo) (w : Wd m B) (h0 : off ≤ bs.length) (h1 : bs.length - off < B) (hl : bs.length + m ≤ 100000)
  (k : ∀ h t bo', BaO (bs ++ KTBy.little m (bs.length - off)) bo' → SC γ D ((buf, bo') :: rest) h → R .none h t) : VC γ A (.call (.ref 496) ⟨[.ref x, .int off to, .int (m : Int) tn], []⟩) R h t := by
 have sz : sizeLine = 16777216 := sizeLine_eq
 refine' v_enter S ?ho ?hcd r.lt [(ofString "self", .ref x), (ofString "offset", .int off to), (ofString "byte_width", .int (m : Int) tn)] [ofString "relative_offset"] [(ofString "len", .builtin "len"), (ofString "U", .ref 80)] ?hb ?ok (globs (by kernel_rfl)) ?_
 kd_facts1
 kd_adr
 kct_ten
 refine b_buf F Bx ?_
 kd_p
 refine w_len_ba (F.got .head) hb (le_a hl (by decide)) ?_
 kd_p
 refine v_stmt (w_assert (w_join (P := (· = true)) F ?_ fun b h t e F => ?_))
 ·kd_p
  refine ⟨fun hc => ?_, fun hc => ⟨rfl, F⟩⟩
  kd_p
  refine i_mul (IntMulOk.of_left (by decide +kernel)) ?_
  kd_p
  have mr := w.range
  refine i_shl (Int.natCast_nonneg _) (by kcf_m) (by decide) ?_
  refine w.pow.symm ▸ ?_
  kd_p
  exact ⟨fun q => by simp at q; exact absurd h1 (Int.not_lt.mpr q), fun ξ => ⟨rfl, F⟩⟩
 refine ⟨e, v_then_next ?_⟩
 kct_fill
 refine b_meth F Bx (by tb_start) (by tb_start) ?_
 kd_p
 refine F.outk (ps := [(buf, bo)]) (by kp_flats) fun oL S back => ?_
 refine v_call (ct_Write S r.deeper Bx hb (packs_U w (iZ h0 (by kcf_m)) h1) (by rw [KTBy.little_length]; exact hl) fun h t bo' hb' S => ?_)
 have F := back _ [(buf, bo')] _ (Le.refl _) S
 kso_len
 refine ⟨trivial, ?_⟩
 kd_p
 exact k _ _ _ hb' F.sc
end
end
section
theorem kd_int {γ : G} {es : Array DictEntry} {n : Nat} {kvs : List (Int × Value)} (hk : ∀ e ∈ es, ∃ k t, e.key = .int k t ∧ e.hash = hashInt k) (hp : Pairs (PySem.intKind γ.prog γ.w) es.toList kvs) (nd : (kvs.map (·.1)).Nodup) :
  Obj.IsDictOf (PySem.intKind γ.prog γ.w) ⟨.type "dict", none, .dict es n, #[]⟩ kvs :=
 ⟨es, n, ⟨rfl, rfl, rfl⟩, rfl, fun e he => by refine ek2_2 (hk e he) fun k t e1 e2 => ?_; exact ⟨k, by rw [e1]; simp [PySem.intKind, Value.isInt], e2⟩, hp, nd⟩
theorem d80 {γ : G} : Obj.IsDictOf (PySem.intKind γ.prog γ.w) ⟨.type "dict", none, .dict esU 4, #[]⟩ [(1, .str (ofString "B") 315), (2, .str (ofString "H") 317), (4, .str (ofString "I") 319), (8, .str (ofString "Q") 321)] :=
 kd_int ok80 (.cons rfl rfl (.cons rfl rfl (.cons rfl rfl (.cons rfl rfl .nil)))) (by decide)
theorem d79 {γ : G} : Obj.IsDictOf (PySem.intKind γ.prog γ.w) ⟨.type "dict", none, .dict esI 4, #[]⟩ [(1, .str (ofString "b") 302), (2, .str (ofString "h") 304), (4, .str (ofString "i") 306), (8, .str (ofString "q") 308)] :=
 kd_int ok79 (.cons rfl rfl (.cons rfl rfl (.cons rfl rfl (.cons rfl rfl .nil)))) (by decide)
section
variable {γ : G} {A : Around} {D : Dm} {env : Env} {gl cl : List (Str × Value)} {vars : List (Str × Option Value)} {news rest : List (Addr × Obj)} {h : Heap} {t : Nat} {R : Value → Heap → Nat → Prop} {x buf stk : Addr} {force : Int} {bs os : List Int} {bo : Obj} {v : Value} {ty w : Int} {a : Addr}
theorem t80 {Q : Bool → Heap → Nat → Prop} (F : FX γ D env gl cl vars news h) (q : Q true h (t + 2)) : W γ A (truthy (.ref 80)) Q h t := w_truthy_dict (F.sc.inK _ _ (lk80 _)) d80 (by decide) (by decide) q
theorem t79 {Q : Bool → Heap → Nat → Prop} (F : FX γ D env gl cl vars news h) (q : Q true h (t + 2)) : W γ A (truthy (.ref 79)) Q h t := w_truthy_dict (F.sc.inK _ _ (lk79 _)) d79 (by decide) (by decide) q
noncomputable abbrev fmtKvs : List (Int × Value) := [(0, .ref 80), (26, .ref 80), (1, .ref 79), (2, .ref 80)]
noncomputable def valI (v : Value) : Int := match v with | .int n _ => n | .bool b => b2 b | _ => 0
theorem ct_WriteAnyG {kw : Bool} {m : Nat} {B : Int} {tn : Tok} (S : SC γ D ((buf, bo) :: rest) h) (r : Room A 4) (Bx : Bld D x buf stk force) (Vh : ValIn D a v ty w) (hb : BaO bs bo) (hw : Wd m B) (hl : bs.length + m ≤ 100000)
  (hv : (ty = 0 ∧ ∃ tk, v = .int 0 tk) ∨ (ty = 26 ∧ ∃ b, v = .bool b) ∨ (ty = 1 ∧ ∃ n tk, v = .int n tk ∧ -B ≤ 2 * n ∧ 2 * n < B) ∨ (3 < ty ∧ ty ≠ 26 ∧ ∃ n tk, v = .int n tk ∧ n ≤ bs.length ∧ bs.length - n < B))
  (k : ∀ h t bo', BaO (bs ++ KTBy.little m (if inl ty = true then valI v % B else bs.length - valI v)) bo' → SC γ D ((buf, bo') :: rest) h → R .none h t) :
  VC γ A (.call (.ref 503) (cond kw ⟨[.ref x, .ref a], [(ofString "byte_width", .int (m : Int) tn)]⟩ ⟨[.ref x, .ref a, .int (m : Int) tn], []⟩)) R h t := by
 refine' v_enter S ?ho ?hcd r.lt [(ofString "self", .ref x), (ofString "value", .ref a), (ofString "byte_width", .int (m : Int) tn)] [ofString "fmt"] [(ofString "Type_flexbuffers", .ref 229), (ofString "U", .ref 80), (ofString "I", .ref 79)] ?hb ?ok (globs (by kernel_rfl)) ?_
 case ho => k_is
 case hcd => k_is
 case hb => cases kw <;> exact BindsTo.of_eq (by with_unfolding_all rfl)
 case ok => kernel_rfl
 kd_adr
 kct_ten
 refine w_dict4 (PySem.intKind γ.prog γ.w) fmtKvs F (fun d o h' e F => ?_) fun d o h t hd e F => ?_
 ·refine w_pairs_cons ?_
  kd_p
  refine w_pairs_cons ?_
  kd_p
  refine w_pairs_cons ?_
  kd_p
  refine w_pairs_cons ?_
  kd_p
  exact w_pairs_nil ⟨⟨rfl, rfl, rfl, rfl, rfl, rfl, rfl, rfl, trivial⟩, o, e, F⟩
 have hm : merged [] fmtKvs = fmtKvs := by rfl
 rw [hm] at e
 refine w_getm_dict PySem.F.slot_dict_get PySem.F.type_dict_get (F.got .head) e ?_
 kd_p
 refine p_Type F (r.deeper.mono (by decide)) Vh fun h t tk F => ?_
 kd_p
 refine c_dict_get (k := ty) (F.got .head) e (by simp [PySem.intKind, Value.isInt]) hd ?_
 have fin : ∀ {h t bo'}, BaO (bs ++ KTBy.little m (if inl ty = true then valI v % B else bs.length - valI v)) bo' → SC γ D ((d, o) :: (buf, bo') :: rest) h → R .none h t := fun b S => k _ _ _ b S.drop
 have ww := hw.range
 have bp : 0 < B := by rcases hw with ⟨_, rfl⟩ | ⟨_, rfl⟩ | ⟨_, rfl⟩ | ⟨_, rfl⟩ <;> decide
 have bp2 : 1 < B := by rcases hw with ⟨_, rfl⟩ | ⟨_, rfl⟩ | ⟨_, rfl⟩ | ⟨_, rfl⟩ <;> decide
 rcases hv with ⟨rfl, tk0, rfl⟩ | ⟨rfl, b0, rfl⟩ | ⟨rfl, n0, tk0, rfl, n1, n2⟩ | ⟨g1, g2, n0, tk0, rfl, n1, n2⟩
 ·rw [show (valueAt fmtKvs 0).getD Value.none = .ref 80 from rfl]
  kd_p
  kct_fill
  refine t80 F ?_
  refine Br.tt ?_
  kct_fill
  refine b_meth F Bx (by tb_start) (by tb_start) ?_
  kd_p
  refine p_Value F (r.deeper.mono (by decide)) Vh fun h t F => ?_
  kd_p
  refine F.outk (ps := [(buf, bo)]) (by kp_flats) fun oL S back => ?_
  refine v_call (ct_Write S (r.deeper.mono (by decide)) Bx hb (packs_U hw (by decide) bp) (by rw [KTBy.little_length]; exact hl) fun h t bo' hb' S => ?_)
  have F := back _ [(buf, bo')] _ (Le.refl _) S
  kso_len
  refine ⟨trivial, ?_⟩
  kd_p
  refine fin ?_ (F.sc.perm (.swap _ _ _))
  exact hb'
 ·rw [show (valueAt fmtKvs 26).getD Value.none = .ref 80 from rfl]
  kd_p
  kct_fill
  refine t80 F ?_
  refine Br.tt ?_
  kct_fill
  refine b_meth F Bx (by tb_start) (by tb_start) ?_
  kd_p
  refine p_Value F (r.deeper.mono (by decide)) Vh fun h t F => ?_
  kd_p
  refine F.outk (ps := [(buf, bo)]) (by kp_flats) fun oL S back => ?_
  refine v_call (ct_Write S (r.deeper.mono (by decide)) Bx hb (packs_B hw) (by rw [KTBy.little_length]; exact hl) fun h t bo' hb' S => ?_)
  have F := back _ [(buf, bo')] _ (Le.refl _) S
  kso_len
  refine ⟨trivial, ?_⟩
  kd_p
  refine fin ?_ (F.sc.perm (.swap _ _ _))
  have e2 : b2 b0 % B = b2 b0 := Int.emod_eq_of_lt (b2r b0).1 (by have := (b2r b0).2; exact Int.lt_of_le_of_lt this bp2)
  show BaO (bs ++ KTBy.little m (b2 b0 % B)) bo'
  rw [e2]; exact hb'
 ·rw [show (valueAt fmtKvs 1).getD Value.none = .ref 79 from rfl]
  kd_p
  kct_fill
  refine t79 F ?_
  refine Br.tt ?_
  kct_fill
  refine b_meth F Bx (by tb_start) (by tb_start) ?_
  kd_p
  refine p_Value F (r.deeper.mono (by decide)) Vh fun h t F => ?_
  kd_p
  refine F.outk (ps := [(buf, bo)]) (by kp_flats) fun oL S back => ?_
  refine v_call (ct_Write S (r.deeper.mono (by decide)) Bx hb (packs_I hw n1 n2) (by rw [KTBy.little_length]; exact hl) fun h t bo' hb' S => ?_)
  have F := back _ [(buf, bo')] _ (Le.refl _) S
  kso_len
  refine ⟨trivial, ?_⟩
  kd_p
  refine fin ?_ (F.sc.perm (.swap _ _ _))
  exact hb'
 ·have g3 : (valueAt fmtKvs ty).getD Value.none = .none := by
   have q : ∀ n : Int, n = 0 ∨ n = 26 ∨ n = 1 ∨ n = 2 → decide (n = ty) = false := fun n hn => decide_eq_false (by kcf_m)
   unfold valueAt fmtKvs
   simp [List.find?, q 0 (by simp), q 26 (by simp), q 1 (by simp), q 2 (by simp)]
  have g4 : inl ty = false := by unfold inl; rw [decide_eq_false (Int.not_le.mpr g1), decide_eq_false g2]; rfl
  rw [g3]
  kd_p
  kct_fill
  refine Br.ff ?_
  kct_fill
  refine b_meth F Bx (by tb_start) (by tb_start) ?_
  kd_p
  refine p_Value F (r.deeper.mono (by decide)) Vh fun h t F => ?_
  kd_p
  refine F.outk (ps := [(buf, bo)]) (by kp_flats) fun oL S back => ?_
  refine v_call (ct_WriteOffset S r.deeper Bx hb hw n1 n2 hl fun h t bo' hb' S => ?_)
  have F := back _ [(buf, bo')] _ (Le.refl _) S
  kso_len
  refine ⟨trivial, ?_⟩
  kd_p
  refine fin ?_ (F.sc.perm (.swap _ _ _))
  rw [g4]
  exact hb'
end
end
section
noncomputable def pw (w : Int) : Nat := 2 ^ w.toNat
theorem bw_range (v : Int) : 0 ≤ bw v ∧ bw v ≤ 3 := by unfold bw; repeat' split <;> kcf_m
theorem wb_pw {b : Int} (h0 : 0 ≤ b) (h1 : b ≤ 3) : ∃ B, Wb b (pw b) B := by
 have : b = 0 ∨ b = 1 ∨ b = 2 ∨ b = 3 := by kcf_m
 rcases this with rfl | rfl | rfl | rfl
 ·exact ⟨_, by decide, by decide, by decide, .inl ⟨rfl, rfl⟩⟩
 ·exact ⟨_, by decide, by decide, by decide, .inr (.inl ⟨rfl, rfl⟩)⟩
 ·exact ⟨_, by decide, by decide, by decide, .inr (.inr (.inl ⟨rfl, rfl⟩))⟩
 ·exact ⟨_, by decide, by decide, by decide, .inr (.inr (.inr ⟨rfl, rfl⟩))⟩
theorem pw_le {b : Int} (h0 : 0 ≤ b) (h1 : b ≤ 3) : 1 ≤ pw b ∧ pw b ≤ 8 := by refine ek1_1 (wb_pw h0 h1) fun B z1 => ?_; refine ek0_4 z1 fun ξ ξ ξ w => ?_; clear z1; exact w.range
theorem bw_fits {v B : Int} (h1 : v < 18446744073709551616) (w : Wd (pw (bw v)) B) : v < B := by
 have e0 : pw 0 = 1 := rfl
 have e1 : pw 1 = 2 := rfl
 have e2 : pw 2 = 4 := rfl
 have e3 : pw 3 = 8 := rfl
 unfold bw at w
 split at w
 ·rw [e0] at w; rcases w with ⟨_, rfl⟩ | ⟨q, _⟩ | ⟨q, _⟩ | ⟨q, _⟩ <;> kcf_m
 split at w
 ·rw [e1] at w; rcases w with ⟨q, _⟩ | ⟨_, rfl⟩ | ⟨q, _⟩ | ⟨q, _⟩ <;> kcf_m
 split at w
 ·rw [e2] at w; rcases w with ⟨q, _⟩ | ⟨q, _⟩ | ⟨_, rfl⟩ | ⟨q, _⟩ <;> kcf_m
 ·rw [e3] at w; rcases w with ⟨q, _⟩ | ⟨q, _⟩ | ⟨q, _⟩ | ⟨_, rfl⟩ <;> kcf_m
noncomputable def blobA (row out : List Int) : List Int := out ++ padN out.length (pw (bw row.length)) ++ KTBy.little (pw (bw row.length)) row.length
section
variable {γ : G} {A : Around} {D : Dm} {env : Env} {gl cl : List (Str × Value)} {vars : List (Str × Option Value)} {news rest : List (Addr × Obj)} {h : Heap} {t : Nat} {R : Value → Heap → Nat → Prop} {x buf stk : Addr} {force : Int} {out row : List Int} {bo so : Obj} {vs : List Value} {ty : Int}
theorem ct_WriteBlob {b : Array UInt8} {tb : Tok} {zero : Bool} {tt : Tok} (S : SC γ D ((buf, bo) :: (stk, so) :: rest) h) (r : Room A 4) (Bx : Bld D x buf stk force) (hb : BaO out bo) (hs : LstO vs.toArray so) (hr : bInts b = row) (hl : out.length + row.length ≤ 90000) (hn : vs.length ≤ 100000)
  (k : ∀ h t D' bo' so' a tk tk2, Le D D' → BaO (blobA row out ++ row ++ (if zero = true then [0] else [])) bo' → LstO (vs ++ [Value.ref a]).toArray so' → ValIn D' a (.int (blobA row out).length tk) ty (bw row.length) → SC γ D' ((buf, bo') :: (stk, so') :: rest) h → R (.int (blobA row out).length tk2) h t) :
  VC γ A (.call (.ref 510) ⟨[.ref x, .bytes b tb], [(ofString "append_zero", .bool zero), (ofString "type_", .int ty tt)]⟩) R h t := by
 have st := S.st
 have hsz : b.size = row.length := by rw [← hr, bInts_length]
 refine' v_enter S ?ho ?hcd r.lt [(ofString "self", .ref x), (ofString "data", .bytes b tb), (ofString "append_zero", .bool zero), (ofString "type_", .int ty tt)] [ofString "bit_width", ofString "byte_width", ofString "loc"]
  [(ofString "BitWidth", .ref 74), (ofString "len", .builtin "len"), (ofString "U", .ref 80), (ofString "Value_flexbuffers", .ref 362)] ?hb ?ok (globs (by kernel_rfl)) ?_
 kd_facts1
 kd_adr
 kct_ten
 refine w_len_bytes (by kcf_m) ?_
 kd_p
 kqd_sub
 refine ct_U S (r.deeper.mono (by decide)) (Int.natCast_nonneg _) (cL (b.size) (18446744073709551616) (nL (nA hl (Nat.le_of_eq hsz)) (by kcf_m))) fun h t tk S => ?_
 krn_off
 rw [hsz]
 kd_p
 kct_fill
 refine b_meth F Bx (by tb_start) (by tb_start) ?_
 kd_p
 have wr := bw_range row.length
 refine ek1_1 (wb_pw wr.1 wr.2) fun B wb => ?_
 have wl := pw_le wr.1 wr.2
 refine F.outk (ps := [(buf, bo)]) (by kp_flats) fun oL S back => ?_
 refine v_call (ct_Align S (r.deeper.mono (by decide)) Bx hb wb (le_a hl (by decide)) fun h t tk bo1 hb1 S => ?_)
 have F := back _ [(buf, bo1)] _ (Le.refl _) S
 kso_len
 kd_p
 kct_fill
 refine b_meth F Bx (by tb_start) (by tb_start) ?_
 kd_p
 refine w_len_bytes (by kcf_m) ?_
 kd_p
 have pl := padN_length out.length (show 0 < pw (bw row.length) by exact wl.1)
 have rB : (row.length : Int) < B := bw_fits (cL (row.length) (18446744073709551616) (nL hl (by kcf_m))) wb.2.2.2
 refine F.outk (ps := [(buf, bo1)]) (by kp_flats) fun oL S back => ?_
 refine hsz.symm ▸ ?_
 refine v_call (ct_Write S (r.deeper.mono (by decide)) Bx hb1 (packs_U wb.2.2.2 (Int.natCast_nonneg _) rB) (by rw [KTBy.little_length]; simp; exact nZ (nA hl (nA wl.2 (nA wl.2 pl))) (by kcf_m)) fun h t bo2 hb2 S => ?_)
 have F := back _ [(buf, bo2)] _ (Le.refl _) S
 kso_len
 refine ⟨trivial, ?_⟩
 kd_p
 kct_ten
 refine b_buf F Bx ?_
 kd_p
 refine w_len_ba (F.got .head) hb2 (by simp [KTBy.little_length, sizeLine_eq]; exact nZ (nA hl (nA wl.2 (nA wl.2 pl))) (by kcf_m)) ?_
 kd_p
 have e1 : out ++ padN out.length (pw (bw row.length)) ++ KTBy.little (pw (bw row.length)) row.length = blobA row out := rfl
 rw [e1] at hb2 F
 have ll : (blobA row out).length ≤ out.length + 16 := by unfold blobA; simp [KTBy.little_length]; exact nZ (nA wl.2 (nA wl.2 pl)) (by kcf_m)
 kct_fill
 refine b_buf F Bx ?_
 kd_p
 refine w_getm_ba slot_ba_extend type_ba_extend (F.got .head) hb2 ?_
 kd_p
 refine F.outk (ps := [(buf, bo2)]) (by kp_flats) fun oL S back => ?_
 refine v_extend S hb2 (by rw [hr, sizeLine_eq]; exact nZ (nA hl ll) (by kcf_m)) fun bo3 h hb3 S => ?_
 have F := back _ [(buf, bo3)] _ (Le.refl _) S
 kso_len
 rw [hr] at hb3
 refine ⟨trivial, ?_⟩
 kd_p
 cases zero
 ·kct_fill
  refine Br.ff ?_
  kd_p
  kct_fill
  refine b_stack F Bx ?_
  kd_p
  refine w_getm_list PySem.F.slot_list_append PySem.F.type_list_append (F.got (by kas_types)) hs ?_
  kd_p
  refine F.outk (ps := []) (by kp_flats) fun oL S back => ?_
  refine w_call (ct_ValNew S (r.deeper.mono (by decide)) rfl fun h t D' va le Vh S => ?_)
  have F := back _ [] _ le S
  kso_len
  kd_p
  refine V.of_w (w_lappend F (by kas_types) hs (by kcf_m) fun so' h hs' F => ?_)
  refine ⟨trivial, ?_⟩
  kd_p
  kct_fill
  exact k _ _ _ _ _ _ _ _ le (by simpa using hb3) hs' Vh (F.sc.perm (.swap _ _ _))
 ·kct_fill
  refine Br.tt ?_
  kct_fill
  refine b_buf F Bx ?_
  kd_p
  refine w_getm_ba slot_ba_append type_ba_append (F.got .head) hb3 ?_
  kd_p
  refine F.outk (ps := [(buf, bo3)]) (by kp_flats) fun oL S back => ?_
  refine v_append S hb3 (by decide) (by decide) (by simp [sizeLine_eq]; exact nZ (nA hl ll) (by kcf_m)) fun bo4 h hb4 S => ?_
  have F := back _ [(buf, bo4)] _ (Le.refl _) S
  kso_len
  refine ⟨trivial, ?_⟩
  kd_p
  kct_fill
  refine b_stack F Bx ?_
  kd_p
  refine w_getm_list PySem.F.slot_list_append PySem.F.type_list_append (F.got (by kas_types)) hs ?_
  kd_p
  refine F.outk (ps := []) (by kp_flats) fun oL S back => ?_
  refine w_call (ct_ValNew S (r.deeper.mono (by decide)) rfl fun h t D' va le Vh S => ?_)
  have F := back _ [] _ le S
  kso_len
  kd_p
  refine V.of_w (w_lappend F (by kas_types) hs (by kcf_m) fun so' h hs' F => ?_)
  refine ⟨trivial, ?_⟩
  kd_p
  kct_fill
  exact k _ _ _ _ _ _ _ _ le (by simpa using hb4) hs' Vh (F.sc.perm (.swap _ _ _))
end
end
section
section
variable {γ : G} {A : Around} {D : Dm} {env : Env} {gl cl : List (Str × Value)} {vars : List (Str × Option Value)} {news rest : List (Addr × Obj)} {h : Heap} {t : Nat} {R : Value → Heap → Nat → Prop} {x buf stk : Addr} {force : Int} {out row : List Int} {bo so : Obj} {vs : List Value} {ty : Int}
theorem b_strings {Q : Value → Heap → Nat → Prop} {ex : Bool} (F : FX γ D env gl cl vars news h) (B : Bld D x buf stk force) (q : Q (.bool false) h (t + 1)) : W γ A (getAttr (.ref x) (ofString "_share_strings") ex) Q h t := by
 refine ek2_3 B fun bd od b1 b2 z1 => ?_; clear B; obtain ⟨fs, tk, b3, b4, b5⟩ := z1
 exact w_own F b1 (F.sc.keep _ _ b2) b3 (by tb_start) (b4 _ _ (by tb_start)) rfl q
theorem b_keys {Q : Value → Heap → Nat → Prop} {ex : Bool} (F : FX γ D env gl cl vars news h) (B : Bld D x buf stk force) (q : Q (.bool false) h (t + 1)) : W γ A (getAttr (.ref x) (ofString "_share_keys") ex) Q h t := by
 refine ek2_3 B fun bd od b1 b2 z1 => ?_; clear B; obtain ⟨fs, tk, b3, b4, b5⟩ := z1
 exact w_own F b1 (F.sc.keep _ _ b2) b3 (by tb_start) (b4 _ _ (by tb_start)) rfl q
theorem b_force {Q : Value → Heap → Nat → Prop} {ex : Bool} (F : FX γ D env gl cl vars news h) (B : Bld D x buf stk force) (q : ∀ tk, Q (.int force tk) h (t + 1)) : W γ A (getAttr (.ref x) (ofString "_force_min_bit_width") ex) Q h t := by
 refine ek2_3 B fun bd od b1 b2 z1 => ?_; clear B; obtain ⟨fs, tk, b3, b4, b5⟩ := z1
 exact w_own F b1 (F.sc.keep _ _ b2) b3 (by tb_start) (b4 _ _ (by tb_start)) rfl (q tk)
noncomputable def Pushed (γ : G) (D : Dm) (buf stk : Addr) (rest : List (Addr × Obj)) (vs : List Value) (out' : List Int) (ty w : Int) (v : Value → Prop) (D' : Dm) (h : Heap) : Prop :=
 ∃ bo' so' a u, Le D D' ∧ BaO out' bo' ∧ LstO (vs ++ [Value.ref a]).toArray so' ∧ ValIn D' a u ty w ∧ v u ∧ SC γ D' ((buf, bo') :: (stk, so') :: rest) h
noncomputable def isInt (n : Int) : Value → Prop | .int m _ => m = n | _ => False
noncomputable def isBool (b : Bool) : Value → Prop | .bool c => c = b | _ => False
theorem ct_String {s : Str} {ts : Tok} (S : SC γ D ((buf, bo) :: (stk, so) :: rest) h) (r : Room A 5) (Bx : Bld D x buf stk force) (hb : BaO out bo) (hs : LstO vs.toArray so) (good : ∀ y ∈ s.cps, Str.isSurrogate y = false) (hl : out.length + (utf8 s).length ≤ 90000) (hn : vs.length ≤ 100000)
  (k : ∀ h t D', Pushed γ D buf stk rest vs (blobA (utf8 s) out ++ utf8 s ++ [0]) 5 (bw (utf8 s).length) (isInt (blobA (utf8 s) out).length) D' h → R .none h t) :
  VC γ A (.call (.ref 539) ⟨[.ref x, .str s ts], []⟩) R h t := by
 refine' v_enter S ?ho ?hcd r.lt [(ofString "self", .ref x), (ofString "value", .str s ts)] [ofString "reset_to", ofString "encoded", ofString "loc", ofString "prev_loc"]
  [(ofString "len", .builtin "len"), (ofString "Type_flexbuffers", .ref 229)] ?hb ?ok (globs (by kernel_rfl)) ?_
 kd_facts1
 kd_adr
 kct_ten
 refine b_buf F Bx ?_
 kd_p
 refine w_len_ba (F.got .head) hb (by rw [sizeLine_eq]; exact le_a hl (by decide)) ?_
 kd_p
 kct_ten
 refine w_getm_encode ?_
 kd_p
 refine c_encode good (le_b hl (by decide)) fun b tk t e => ?_
 kd_p
 kct_fill
 refine b_meth F Bx (by tb_start) (by tb_start) ?_
 kd_p
 refine F.outk (ps := [(buf, bo), (stk, so)]) (by kp_flats) fun oL S back => ?_
 refine v_call (ct_WriteBlob S r.deeper Bx hb hs e hl hn fun h t D' bo' so' a tk tk2 le hb' hs' Vh S => ?_)
 have F := back _ [(buf, bo'), (stk, so')] _ le S
 kso_len
 kd_p
 kct_fill
 refine b_strings F (Bx.mono le) ?_
 kd_p
 refine Br.ff ?_
 kd_p
 exact k _ _ _ ⟨_, _, _, _, le, by simpa using hb', hs', Vh, rfl, F.sc⟩
theorem ct_Blob {b : Array UInt8} {tb : Tok} (S : SC γ D ((buf, bo) :: (stk, so) :: rest) h) (r : Room A 5) (Bx : Bld D x buf stk force) (hb : BaO out bo) (hs : LstO vs.toArray so) (hr : bInts b = row) (hl : out.length + row.length ≤ 90000) (hn : vs.length ≤ 100000)
  (k : ∀ h t D', Pushed γ D buf stk rest vs (blobA row out ++ row) 25 (bw row.length) (isInt (blobA row out).length) D' h → R .none h t) :
  VC γ A (.call (.ref 546) ⟨[.ref x, .bytes b tb], []⟩) R h t := by
 refine' v_enter S ?ho ?hcd r.lt [(ofString "self", .ref x), (ofString "value", .bytes b tb)] [] [(ofString "Type_flexbuffers", .ref 229)] ?hb ?ok (globs (by kernel_rfl)) ?_
 kd_facts1
 kd_adr
 kct_fill
 refine b_meth F Bx (by tb_start) (by tb_start) ?_
 kd_p
 refine F.outk (ps := [(buf, bo), (stk, so)]) (by kp_flats) fun oL S back => ?_
 refine v_call (ct_WriteBlob S r.deeper Bx hb hs hr hl hn fun h t D' bo' so' a tk tk2 le hb' hs' Vh S => ?_)
 have F := back _ [(buf, bo'), (stk, so')] _ le S
 kso_len
 refine ⟨trivial, ?_⟩
 kd_p
 exact k _ _ _ ⟨_, _, _, _, le, by simpa using hb', hs', Vh, rfl, F.sc⟩
theorem ct_Bool {b : Bool} (S : SC γ D ((buf, bo) :: (stk, so) :: rest) h) (r : Room A 4) (Bx : Bld D x buf stk force) (hb : BaO out bo) (hs : LstO vs.toArray so) (hn : vs.length ≤ 100000)
  (k : ∀ h t D', Pushed γ D buf stk rest vs out 26 0 (isBool b) D' h → R .none h t) : WC γ A (.call (.ref 568) ⟨[.ref x, .bool b], []⟩) R h t := by
 refine' w_enter S ?ho ?hcd r.lt [(ofString "self", .ref x), (ofString "value", .bool b)] [] [(ofString "Value_flexbuffers", .ref 362)] ?hb ?ok (globs (by kernel_rfl)) ?_
 kd_facts1
 kd_adr
 kd_p
 refine b_stack F Bx ?_
 kd_p
 refine w_getm_list PySem.F.slot_list_append PySem.F.type_list_append (F.got (by kas_types)) hs ?_
 kd_p
 refine F.outk (ps := []) (by kp_flats) fun oL S back => ?_
 refine w_call (ct_VBool S r.deeper fun h t D' va le Vh S => ?_)
 have F := back _ [] _ le S
 kso_len
 kd_p
 refine w_lappend F (by kas_types) hs (by kcf_m) fun so' h hs' F => ?_
 refine ⟨trivial, ?_⟩
 kd_p
 exact k _ _ _ ⟨_, _, _, _, le, hb, hs', Vh, rfl, F.sc.perm (.swap _ _ _)⟩
theorem ct_Null (S : SC γ D ((buf, bo) :: (stk, so) :: rest) h) (r : Room A 4) (Bx : Bld D x buf stk force) (hb : BaO out bo) (hs : LstO vs.toArray so) (hn : vs.length ≤ 100000)
  (k : ∀ h t D', Pushed γ D buf stk rest vs out 0 0 (isInt 0) D' h → R .none h t) : WC γ A (.call (.ref 561) ⟨[.ref x], []⟩) R h t := by
 refine' w_enter S ?ho ?hcd r.lt [(ofString "self", .ref x), (ofString "key", .none)] [] [(ofString "Value_flexbuffers", .ref 362)] ?hb ?ok (globs (by kernel_rfl)) ?_
 kd_facts1
 kd_adr
 kd_p
 refine Br.ff ?_
 kd_p
 refine b_stack F Bx ?_
 kd_p
 refine w_getm_list PySem.F.slot_list_append PySem.F.type_list_append (F.got (by kas_types)) hs ?_
 kd_p
 refine F.outk (ps := []) (by kp_flats) fun oL S back => ?_
 refine w_call (ct_VNull S r.deeper fun h t D' va tk le Vh S => ?_)
 have F := back _ [] _ le S
 kso_len
 kd_p
 refine w_lappend F (by kas_types) hs (by kcf_m) fun so' h hs' F => ?_
 refine ⟨trivial, ?_⟩
 kd_p
 exact k _ _ _ ⟨_, _, _, _, le, hb, hs', Vh, rfl, F.sc.perm (.swap _ _ _)⟩
theorem ct_IntV {n : Int} {tn : Tok} (S : SC γ D ((buf, bo) :: (stk, so) :: rest) h) (r : Room A 4) (Bx : Bld D x buf stk force) (hb : BaO out bo) (hs : LstO vs.toArray so) (hn : vs.length ≤ 100000) (h0 : -9223372036854775808 ≤ n) (h1 : n < 9223372036854775808)
  (k : ∀ h t D', Pushed γ D buf stk rest vs out 1 (iw n) (isInt n) D' h → R .none h t) : WC γ A (.call (.ref 576) ⟨[.ref x, .int n tn], []⟩) R h t := by
 refine' w_enter S ?ho ?hcd r.lt [(ofString "self", .ref x), (ofString "value", .int n tn), (ofString "byte_width", .int 0 1135)] [ofString "bit_width"] [(ofString "Value_flexbuffers", .ref 362), (ofString "BitWidth", .ref 74)] ?hb ?ok (globs (by kernel_rfl)) ?_
 kd_facts1
 kd_adr
 kd_p
 refine ⟨fun ξ => ?_, fun hc => (by simp at hc)⟩
 kd_p
 kqd_sub
 refine ct_I S (r.deeper.mono (by decide)) h0 h1 fun h t tk S => ?_
 krn_off
 kd_p
 refine b_stack F Bx ?_
 kd_p
 refine w_getm_list PySem.F.slot_list_append PySem.F.type_list_append (F.got (by kas_types)) hs ?_
 kd_p
 refine F.outk (ps := []) (by kp_flats) fun oL S back => ?_
 refine w_call (ct_VInt S r.deeper fun h t D' va le Vh S => ?_)
 have F := back _ [] _ le S
 kso_len
 kd_p
 refine w_lappend F (by kas_types) hs (by kcf_m) fun so' h hs' F => ?_
 refine ⟨trivial, ?_⟩
 kd_p
 exact k _ _ _ ⟨_, _, _, _, le, hb, hs', Vh, rfl, F.sc.perm (.swap _ _ _)⟩
end
end
section
section
variable {γ : G} {A : Around} {D : Dm} {env : Env} {gl cl : List (Str × Value)} {vars : List (Str × Option Value)} {news rest : List (Addr × Obj)} {h : Heap} {t : Nat} {R : Value → Heap → Nat → Prop} {x buf stk : Addr} {force : Int} {out row : List Int} {bo so : Obj} {vs : List Value} {ty : Int}
theorem ct_Key {s : Str} {ts : Tok} (S : SC γ D ((buf, bo) :: (stk, so) :: rest) h) (r : Room A 5) (Bx : Bld D x buf stk force) (hb : BaO out bo) (hs : LstO vs.toArray so) (good : ∀ y ∈ s.cps, y < 128) (nz : (ascii s).any (· == 0) = false) (hl : out.length + (ascii s).length ≤ 90000) (hn : vs.length ≤ 100000)
  (k : ∀ h t D' n tk, Pushed γ D buf stk rest vs (out ++ ascii s ++ [0]) 4 0 (Fb.isInt out.length) D' h → R (.int n tk) h t) :
  VC γ A (.call (.ref 553) ⟨[.ref x, .str s ts], []⟩) R h t := by
 have sz : sizeLine = 16777216 := sizeLine_eq
 refine' v_enter S ?ho ?hcd r.lt [(ofString "self", .ref x), (ofString "value", .str s ts)] [ofString "encoded", ofString "loc", ofString "prev_loc"]
  [(ofString "isinstance", .builtin "isinstance"), (ofString "bytes", .type "bytes"), (ofString "bytearray", .type "bytearray"), (ofString "list", .type "list"), (ofString "len", .builtin "len"), (ofString "Value_flexbuffers", .ref 362)] ?hb ?ok (globs (by kernel_rfl)) ?_
 kd_facts1
 kd_adr
 kct_ten
 refine w_newtup F (by decide) fun D1 tp tpo h le1 e1 hT F => ?_
 kd_p
 refine w_isi_tup kitx_str F.sc trivial (F.sc.keep _ _ e1) hT (b := false) (by kernel_rfl) fun t => ?_
 kd_p
 refine Br.ff ?_
 kd_p
 refine w_getm_encode ?_
 kd_p
 refine c_ascii good (le_b hl (by decide)) fun b tk t e => ?_
 have bl := bInts_length b
 rw [e] at bl
 kd_p
 kct_ten
 refine F.outk (ps := []) (by kp_flats) fun oL S back => ?_
 refine w_list_bytes S r.hn (nZ (nA hl (Nat.le_of_eq bl.symm)) (by kcf_m)) fun l lo vs2 h t hv hlo S => ?_
 have F := back _ [(l, lo)] _ (Le.refl _) S
 kso_len
 kd_p
 refine w_in_ints (F.got (by kas_types)) hlo.ls hv ?_
 refine e.symm ▸ ?_; refine nz.symm ▸ ?_
 kd_p
 refine Br.ff ?_
 kd_p
 kct_ten
 refine b_buf F (Bx.mono le1) ?_
 kd_p
 refine w_len_ba (F.got (by kas_types)) hb (le_a hl (by decide)) ?_
 kd_p
 kct_fill
 refine b_buf F (Bx.mono le1) ?_
 kd_p
 refine w_getm_ba slot_ba_extend type_ba_extend (F.got (by kas_types)) hb ?_
 kd_p
 refine F.outk (ps := [(buf, bo)]) (by kp_flats) fun oL S back => ?_
 refine v_extend S hb (by rw [e]; exact Nat.le_trans hl (by decide)) fun bo3 h hb3 S => ?_
 have F := back _ [(buf, bo3)] _ (Le.refl _) S
 kso_len
 rw [e] at hb3
 refine ⟨trivial, ?_⟩
 kd_p
 kct_fill
 refine b_buf F (Bx.mono le1) ?_
 kd_p
 refine w_getm_ba slot_ba_append type_ba_append (F.got (by kas_types)) hb3 ?_
 kd_p
 refine F.outk (ps := [(buf, bo3)]) (by kp_flats) fun oL S back => ?_
 refine v_append S hb3 (by decide) (by decide) (by simp; exact Nat.lt_of_le_of_lt hl (by decide)) fun bo4 h hb4 S => ?_
 have F := back _ [(buf, bo4)] _ (Le.refl _) S
 kso_len
 refine ⟨trivial, ?_⟩
 kd_p
 kct_fill
 refine b_keys F (Bx.mono le1) ?_
 kd_p
 refine Br.ff ?_
 kd_p
 kct_fill
 refine b_stack F (Bx.mono le1) ?_
 kd_p
 refine w_getm_list PySem.F.slot_list_append PySem.F.type_list_append (F.got (by kas_types)) hs ?_
 kd_p
 refine F.outk (ps := []) (by kp_flats) fun oL S back => ?_
 refine w_call (ct_VKey S (r.deeper.mono (by decide)) fun h t D' va le Vh S => ?_)
 have F := back _ [] _ le S
 kso_len
 kd_p
 refine V.of_w (w_lappend F (by kas_types) hs (Nat.le_trans hn (by decide)) fun so' h hs' F => ?_)
 refine ⟨trivial, ?_⟩
 kd_p
 kct_fill
 exact k _ _ _ _ _ ⟨_, _, _, _, le1.trans le, by simpa using hb4, hs', Vh, rfl, (F.sc.perm (.swap _ _ _)).sub (by simp)⟩
end
end
structure Pv where
 ty : Int
 v : Int
 w : Int
noncomputable def Pv.ok (p : Pv) : Prop := (p.ty = 0 ∧ p.v = 0 ∧ p.w = 0) ∨ (p.ty = 26 ∧ (p.v = 0 ∨ p.v = 1) ∧ p.w = 0) ∨ (p.ty = 1 ∧ -9223372036854775808 ≤ p.v ∧ p.v < 9223372036854775808 ∧ p.w = iw p.v) ∨ (3 < p.ty ∧ p.ty ≠ 26 ∧ p.ty < 30 ∧ 0 ≤ p.v ∧ 0 ≤ p.w ∧ p.w ≤ 3)
noncomputable def Pv.el (p : Pv) (n idx : Int) : Int := elW p.ty p.v p.w n idx
noncomputable def elMax (n : Int) : Int → List Pv → Int → Int
 | _, [], b => b
 | i, p :: ps, b => elMax n (i + 1) ps (max b (p.el n i))
noncomputable def bigOf (m : Nat) : Int := 256 ^ m
noncomputable def cell (m : Nat) (len : Int) (p : Pv) : List Int := KTBy.little m (if inl p.ty = true then p.v % bigOf m else len - p.v)
noncomputable def cells (m : Nat) : List Pv → List Int → List Int
 | [], out => out
 | p :: ps, out => cells m ps (out ++ cell m out.length p)
noncomputable def tags (bits : Int) (ps : List Pv) : List Int := ps.map fun p => 4 * p.ty + stW p.ty p.w bits
noncomputable def rowBits (force n : Int) (k : Option Pv) (ps : List Pv) : Int := match k with
 | none => elMax n 1 ps (max force (bw ps.length))
 | some k => elMax n 3 ps (max (max force (bw ps.length)) (k.el n 0))
noncomputable def rowHead (m : Nat) (k : Option Pv) (ps : List Pv) (out : List Int) : List Int := match k with
 | none => out ++ padN out.length m ++ KTBy.little m ps.length
 | some k => out ++ padN out.length m ++ KTBy.little m ((out ++ padN out.length m).length - k.v) ++ KTBy.little m (2 ^ k.w.toNat) ++ KTBy.little m ps.length
noncomputable def vecOut (typed : Bool) (force : Int) (k : Option Pv) (ps : List Pv) (out : List Int) : List Int × Pv :=
 let b := rowBits force out.length k ps
 let o3 := rowHead (pw b) k ps out
 let o4 := cells (pw b) ps o3
 (if typed = true then o4 else o4 ++ tags b ps, ⟨if k.isSome = true then 9 else if typed = true then 14 else 10, o3.length, b⟩)
theorem elMax_append (n : Int) : ∀ (ps : List Pv) (i b : Int) (p : Pv), elMax n i (ps ++ [p]) b = max (elMax n i ps b) (p.el n (i + ps.length))
 | [], i, b, p => congrArg (fun x => max b (p.el n x)) (Int.add_zero i).symm
 | q :: ps, i, b, p => (elMax_append n ps (i + 1) _ p).trans (congrArg (fun x => max (elMax n (i + 1) ps (max b (q.el n i))) (p.el n x)) (show i + 1 + (ps.length : Int) = i + ((ps.length + 1 : Nat) : Int) by kcf_m))
theorem cells_append (m : Nat) : ∀ (ps : List Pv) (out : List Int) (p : Pv), cells m (ps ++ [p]) out = cells m ps out ++ cell m (cells m ps out).length p
 | [], out, p => rfl
 | q :: ps, out, p => cells_append m ps (out ++ cell m out.length q) p
theorem cells_length (m : Nat) : ∀ (ps : List Pv) (out : List Int), (cells m ps out).length = out.length + m * ps.length
 | [], out => rfl
 | q :: ps, out => (cells_length m ps (out ++ cell m out.length q)).trans ((congrArg (· + m * ps.length) (List.length_append.trans (congrArg (out.length + ·) (KTBy.little_length _ _)))).trans ((Nat.add_assoc _ _ _).trans (congrArg (out.length + ·) (Nat.add_comm m _))))
theorem tags_length (b : Int) (ps : List Pv) : (tags b ps).length = ps.length := by simp [tags]
theorem elMax_le (n : Int) : ∀ (ps : List Pv) (i b : Int), b ≤ elMax n i ps b
 | [], i, b => Int.le_refl _
 | q :: ps, i, b => Int.le_trans (Int.le_max_left _ _) (elMax_le n ps _ _)
theorem elMax_ge (n : Int) (ps : List Pv) : ∀ (i b : Int) (j : Nat) (p : Pv), ps[j]? = some p → p.el n (i + j) ≤ elMax n i ps b := by
 induction ps with
 | nil => intro i b j p e; cases e
 | cons q ps ih =>
  intro i b j p e
  cases j with
  | zero =>
   cases e
   have := elMax_le n ps (i + 1) (max b (q.el n i))
   show q.el n (i + 0) ≤ elMax n (i + 1) ps _
   rw [Int.add_zero]; kcf_m
  | succ j =>
   have := ih (i + 1) (max b (q.el n i)) j p e
   show p.el n _ ≤ elMax n (i + 1) ps _
   rw [show i + ((j + 1 : Nat) : Int) = i + 1 + (j : Int) by kcf_m]; exact this
theorem iw_range (n : Int) : 0 ≤ iw n ∧ iw n ≤ 3 := by unfold iw; exact bw_range _
theorem far_range (n v i : Int) : 0 ≤ far n v i ∧ far n v i ≤ 1 := by unfold far; split <;> exact by decide
theorem Pv.w_range {p : Pv} (h : p.ok) : 0 ≤ p.w ∧ p.w ≤ 3 := by
 have := iw_range p.v
 rcases h with h | h | h | h <;> kcf_m
theorem Pv.ty_range {p : Pv} (h : p.ok) : 0 ≤ p.ty ∧ p.ty < 30 := by rcases h with h | h | h | h <;> kcf_m
theorem Pv.el_range {p : Pv} (h : p.ok) (n i : Int) : 0 ≤ p.el n i ∧ p.el n i ≤ 3 := by
 unfold Pv.el elW
 have a := p.w_range h
 have b := far_range n p.v i
 split <;> kcf_m
theorem elMax_range (n : Int) : ∀ (ps : List Pv) (i b : Int), (∀ p ∈ ps, p.ok) → 0 ≤ b → b ≤ 3 → 0 ≤ elMax n i ps b ∧ elMax n i ps b ≤ 3
 | [], i, b, _, h0, h1 => ⟨h0, h1⟩
 | q :: ps, i, b, h, h0, h1 => by
  have a := q.el_range (h q (.head _)) n i
  exact elMax_range n ps _ _ (fun p hp => h p (.tail _ hp)) (Int.le_trans (iZ h0 (by kcf_m)) (Int.le_max_left _ _)) (Int.max_le.mpr ⟨(iZ h1 (by kcf_m)), (iZ a.2 (by kcf_m))⟩)
theorem rowBits_range {force n : Int} {k : Option Pv} {ps : List Pv} (f0 : 0 ≤ force) (f1 : force ≤ 3) (hk : ∀ p, k = some p → p.ok) (h : ∀ p ∈ ps, p.ok) : 0 ≤ rowBits force n k ps ∧ rowBits force n k ps ≤ 3 := by
 have a := bw_range ps.length
 cases k with
 | none => exact elMax_range _ _ _ _ h (Int.le_trans (iZ f0 (by kcf_m)) (Int.le_max_left _ _)) (Int.max_le.mpr ⟨(iZ f1 (by kcf_m)), (iZ a.2 (by kcf_m))⟩)
 | some k =>
  have b := k.el_range (hk k rfl) n 0
  exact elMax_range _ _ _ _ h (Int.le_trans (iZ b.1 (by kcf_m)) (Int.le_max_right _ _)) (Int.max_le.mpr ⟨(Int.max_le.mpr ⟨(iZ f1 (by kcf_m)), (iZ a.2 (by kcf_m))⟩), (iZ b.2 (by kcf_m))⟩)
theorem inl_big {ty : Int} (h : 3 < ty ∧ ty ≠ 26) : inl ty = false := by unfold inl; rw [decide_eq_false (Int.not_le.mpr h.1), decide_eq_false h.2]; rfl
theorem Pv.v0 {p : Pv} (h : p.ok) (hi : inl p.ty = false) : 0 ≤ p.v := by
 rcases h with h | h | h | h
 ·rw [h.1] at hi; cases hi
 ·rw [h.1] at hi; cases hi
 ·rw [h.1] at hi; cases hi
 ·exact h.2.2.2.1
section
section
variable {h : Heap} {t : Nat} {gl cl : List (Str × Value)} {env : Env} {γ : G} {A : Around} {K : Frag} {D D' : Dm} {own news rest : List (Addr × Obj)} {vars : List (Str × Option Value)} {l b : Addr} {o : Obj}
theorem w_max_list {vs : List Value} {ns : List Int} {M : Int} {Q : Value → Heap → Nat → Prop} (F : Fx K D env gl cl vars news h) (hh : A.handled = none) (ho : h.get? l = some o) (hl : LstO vs.toArray o) (hi : IntsAre vs ns) (hm : M ∈ ns) (hM : ∀ a ∈ ns, a ≤ M)
  (q : ∀ h tk t, Fx K D env gl cl vars news h → Q (.int M tk) h t) : W γ A (call (.builtin "max") [.ref l]) Q h t := by
 have hne : 0 < ns.length := List.length_pos_of_mem hm
 obtain ⟨xs, e⟩ := hi.allInts.items
 have hns : ns = xs.toList.map (·.1) := by
  rw [← hi.numsOf, ← nums_intItems, ← e]
 have hsz : 0 < xs.size := by
  have h3 := hne; rw [hns, List.length_map, Array.length_toList] at h3; exact h3
 have hl' := hl.isList ho
 rw [e] at hl'
 refine ⟨max_intList (s := mkS γ h t) hh hl' hsz fun v h' tk hv hk => ?_⟩
 obtain ⟨t', rfl⟩ := intItems_at hv
 refine ek0_2 (argBest_gt (numAt xs) (xs.size - 1)) fun h1 h2 => ?_
 have e1 : numAt xs (argBest (fun i j => decide (numAt xs i > numAt xs j)) (xs.size - 1)) ∈ ns := by rw [hns, numAt_eq]; exact getD_mem (by rw [List.length_map, Array.length_toList]; kcf_m)
 have e2 : ∀ a ∈ ns, a ≤ numAt xs (argBest (fun i j => decide (numAt xs i > numAt xs j)) (xs.size - 1)) := fun a ha => by
  rw [hns] at ha
  refine ek1_2 (mem_getD ha) fun j hj z1 => ?_; obtain rfl := z1
  rw [List.length_map, Array.length_toList] at hj
  rw [← numAt_eq]; exact h2 j (by kcf_m)
 have e3 : numAt xs (argBest (fun i j => decide (numAt xs i > numAt xs j)) (xs.size - 1)) = M := Int.le_antisymm (hM _ e1) (e2 _ hm)
 refine e3.symm ▸ ?_
 exact ⟨h', tk, rfl, q _ _ _ (F.grow hk)⟩
end
theorem elMax_mem (n : Int) : ∀ (ps : List Pv) (i b : Int), elMax n i ps b = b ∨ ∃ (j : Nat) (p : Pv), ps[j]? = some p ∧ elMax n i ps b = p.el n (i + j)
 | [], i, b => .inl rfl
 | q :: ps, i, b => by
  rcases elMax_mem n ps (i + 1) (max b (q.el n i)) with h | ⟨j, p, h1, h2⟩
  ·rcases Int.le_total b (q.el n i) with c | c
   ·right
    exact ⟨0, q, rfl, by rw [show elMax n i (q :: ps) b = elMax n (i + 1) ps (max b (q.el n i)) from rfl, h, Int.max_eq_right c]; simp⟩
   ·left
    rw [show elMax n i (q :: ps) b = elMax n (i + 1) ps (max b (q.el n i)) from rfl, h, Int.max_eq_left c]
  ·right
   exact ⟨j + 1, p, by simpa using h1, by rw [show elMax n i (q :: ps) b = elMax n (i + 1) ps (max b (q.el n i)) from rfl, h2]; congr 1; push_cast; kcf_m⟩
end
section
section
variable {h : Heap} {t : Nat} {gl cl : List (Str × Value)} {env : Env} {γ : G} {A : Around} {K : Frag} {D D' : Dm} {own news rest : List (Addr × Obj)} {vars : List (Str × Option Value)} {l d b : Addr} {o : Obj}
theorem w_tail_str {x : Str} {k : Int} {u v : Tok} {c : Nat} {value slice : Expr} {Q : Value → Heap → Nat → Prop} (h0 : 0 ≤ k) (hx : x.cps[k.toNat]? = some c) (hn : x.cps.size ≤ 1000000) (q : ∀ tk t, Q (.str ⟨#[c]⟩ tk) h t)
  (hs : subscripted slice false (.str x v) (.int k u) = operate [.str x v, .int k u] (getItem (.str x v) (.int k u)) := by with_unfolding_all rfl) : W γ A (subscriptTail value slice (.str x v) (.int k u)) Q h t := by
 have hk : k.toNat < x.cps.size := (Array.getElem?_eq_some_iff.mp hx).1
 refine ⟨tail_any (s := mkS γ h t) (typeIs_str _ x v) PySem.F.slot_str_getitem.lookup (P.getItem_str (c := c) (by simp; kcf_m) ?_ ⟨h, t + 1, rfl, q _ _⟩) hs⟩
 unfold seqIndex?
 simp only [if_neg (show ¬ (k < 0) by exact Int.not_lt.mpr h0)]
 rw [if_pos (by show (decide (0 ≤ k) && decide (k < ((x.cps.size : Nat) : Int))) = true; simp only [Bool.and_eq_true, decide_eq_true_eq]; kcf_m)]
 exact hx
theorem rep_one (c : Nat) (m : Nat) : (List.replicate m #[c]).foldl (· ++ ·) #[] = (List.replicate m c).toArray := by
 have gen : ∀ (m : Nat) (acc : Array Nat), (List.replicate m #[c]).foldl (· ++ ·) acc = acc ++ (List.replicate m c).toArray := by
  intro m
  induction m with
  | zero => intro acc; simp
  | succ m ih => intro acc; rw [List.replicate_succ, List.foldl_cons, ih, List.replicate_succ]; apply Array.ext'; simp
 rw [gen]; simp
theorem w_mul_str {c : Nat} {n : Int} {u v : Tok} {Q : Value → Heap → Nat → Prop} (h1 : 1 < n) (hn : n ≤ 1000) (q : ∀ tk t, Q (.str ⟨(List.replicate n.toNat c).toArray⟩ tk) h t) : W γ A (binaryOp .Mult (.str ⟨#[c]⟩ v) (.int n u)) Q h t := by
 have c1 : ¬ n < 1 := by kcf_m
 have hx : (⟨#[c]⟩ : Str).length = 1 := rfl
 have c2 : ¬ (n == 1 || (⟨#[c]⟩ : Str).length == 0) = true := by rw [hx]; simp; kcf_m
 refine ⟨P.mul_str (s := mkS γ h t) (by simp; exact ⟨(iZ h1 (by kcf_m)), (iL hn (by kcf_m))⟩) (fun ξ ξ => ?_) (fun ξ ξ => ?_) ?_⟩
 ·rw [hx]
  have : 1 ≤ (2 ^ 63 - 1) / n := by
   rw [Int.le_ediv_iff_mul_le (Int.le_of_lt h1)]; kcf_m
  exact Int.not_lt.mpr this
 ·rw [hx]; unfold Builtin.Str.tooLong; rw [sizeLine_eq]; simp; exact Int.le_trans hn (by decide)
 ·rw [if_neg c1]; rw [if_neg c2]; rw [rep_one]
  refine ⟨?_, h, t + 1, rfl, q _ _⟩
  rw [sizeLine_eq]
  show (List.replicate n.toNat c).toArray.size ≤ _
  simp; exact Int.le_trans hn (by decide)
theorem w_notin_strs {vs : List Value} {ys : List Str} {k : Str} {u : Tok} {Q : Value → Heap → Nat → Prop} (ho : h.get? l = some o) (hl : LstO vs.toArray o) (hi : StrsAre vs ys) (q : Q (.bool (!(ys.any (· == k)))) h t) : W γ A (compareOp .NotIn (.str k u) (.ref l)) Q h t :=
 ⟨notin_list_strs (s := mkS γ h t) (hl.isList ho) hi ⟨h, t, rfl, q⟩⟩
theorem w_bytes_list {vs : List Value} {ns : List Int} {Q : Value → Heap → Nat → Prop} (hh : A.handled = none) (F : Fx K D env gl cl vars news h) (ho : h.get? l = some o) (hl : LstO vs.toArray o) (hi : IntsAre vs ns) (hr : ∀ n ∈ ns, 0 ≤ n ∧ n < 256) (hn : ns.length ≤ 1000000)
  (q : ∀ h t tk b, bInts b = ns → Fx K D env gl cl vars news h → Q (.bytes b tk) h t) : W γ A (call (.type "bytes") [.ref l]) Q h t := by
 have sz : sizeLine = 16777216 := sizeLine_eq
 refine ⟨call_bytes_ints (s := mkS γ h t) (hl.isList ho) hi hr (by rw [hi.length]; exact Nat.le_trans hn (by decide)) hh fun h' t' k hk => ⟨h', k, rfl, q h' k t' _ ?_ (F.grow hk)⟩⟩
 exact KBa.ints_make hr
theorem w_dict_empty {pos : Pos} {Q : Value → Heap → Nat → Prop} (F : Fx K D env gl cl vars news h) (q : ∀ d o h, (d == sysModules) = false → o.IsDictOf (sk γ) [] → Fx K D env gl cl vars ((d, o) :: news) h → Q (.ref d) h t) : W γ A (eval (.Dict [] [] pos) env) Q h t := by
 have F1 := F.push dictNew
 have nm : (h.objs.size == sysModules) = false := by
  refine ek4_1 F.sc.top fun ξ ξ ξ ξ T => ?_
  have := T.g.lt
  have e : mainGlobals = 3 := rfl
  rw [e] at this
  have this : 3 < h.objs.size := this
  have q : h.objs.size ≠ 1 := by kcf_m
  exact beq_eq_false_iff_ne.mpr q
 exact ⟨wpAny_Dict_empty (s := mkS γ h t) ⟨_, t, rfl, q _ _ _ nm (dictNew_is (sk γ) h) F1⟩⟩
theorem w_setitem_dict {k : Str} {u : Tok} {v : Value} {kvs : List (Str × Value)} {Q : Unit → Heap → Nat → Prop} (F : Fx K D env gl cl vars news h) (p : Pick (d, o) news rest) (hd : o.IsDictOf (sk γ) kvs) (hn : kvs.length ≤ 1000) (hk : k ∉ kvs.map (·.1))
  (q : ∀ o' h' t, o'.IsDictOf (sk γ) (kvs ++ [(k, v)]) → Fx K D env gl cl vars ((d, o') :: rest) h' → Q () h' t) : W γ A (setItem (.ref d) (.str k u) v) Q h t := by
 have sz : sizeLine = 16777216 := sizeLine_eq
 refine ⟨wpAny_setItem_pairs (s := mkS γ h t) (knd := sk γ) (k := k) (PySem.strKind_is _ _ _ _) (dictOf hd (F.got p)) (fun h' hm hs => ?_) (szle (Nat.le_trans hn (by decide)))⟩
 refine ek1_2 (Heap.dictOf_iff.mp hm) fun o' ho' hd' => ?_
 have es : stored kvs k v = kvs ++ [(k, v)] := by
  unfold stored
  rw [if_neg]
  intro hc
  obtain ⟨x, hx, e⟩ := List.any_eq_true.mp hc
  exact hk (List.mem_map.mpr ⟨x, hx, by simpa using e⟩)
 rw [es] at hd'
 exact ⟨h', t + 1, rfl, q o' h' _ hd' ((F.pick p).upd (fun b x hb e => hs.extBut b x hb e) ho')⟩
end
end
section
noncomputable def lenIn (K : Frag) (C f : Addr) : Bool := findIn K (.ref C) "__len__" == some (some (.ref f)) && isFn K (.ref f)
section
variable {h : Heap} {t : Nat} {gl cl : List (Str × Value)} {fs : List (Str × Value)} {env : Env} {γ : G} {A : Around} {K : Frag} {D : Dm} {news : List (Addr × Obj)} {vars : List (Str × Option Value)} {x dx C f l b : Addr} {od o ob : Obj}
theorem w_len_inst {Q : Value → Heap → Nat → Prop} (X : K.In h) (hx : h.get? x = some (instObj C dx)) (hd : h.get? dx = some od) (e : lenIn K C f = true)
  (q : WC γ A.in1 (.call (.ref f) ⟨[.ref x], []⟩) (fun v h t => ∃ n tk, v = .int n tk ∧ 0 ≤ n ∧ n < 9223372036854775808 ∧ ∀ t tk, Q (.int n tk) h t) h t) : W γ A (call (.builtin "len") [.ref x]) Q h t := by
 simp only [lenIn, Bool.and_eq_true, beq_iff_eq] at e
 obtain ⟨e1, e2⟩ := e
 refine ⟨Calls.call_function_entry kind_len plain_len entry_len (args_len1 _) ?_⟩
 unfold Builtin.«len»
 refine wpAny_bind (m := oneArg "len" _) (wpAny_pure ?_)
 refine wpAny_bind (m := callSpecial? (.ref x) (ofString "__len__")) (special_fn (s := mkS γ h t) X (instAt hx hd) e1 (beq_iff_eq.mp e2) (wpAny_call (WK.use q fun fl h' t' y => ?_)))
 refine ek1_2 y fun v z1 z2 => ?_; clear y; obtain rfl := z1; refine ek2_4 z2 fun n tk z3 h0 h1 y => ?_; clear z2; obtain rfl := z3
 refine wpAny_bind (wpAny_holding (wpAny_pure ?_))
 refine wpAny_bind (wpAny_letGo ?_)
 show wpAny _ _ (if n < 0 then _ else _) _ _ _
 refine wpAny_ifn (by kcf_m) ?_
 show wpAny _ _ (if n ≥ 2 ^ 63 then _ else _) _ _ _
 refine wpAny_ifn (by kcf_m) ?_
 exact wpAny_bind (wpAny_mkInt (wpAny_pure ⟨_, rfl, h', _, rfl, y _ _⟩))
theorem w_assign_tup {elts : List Expr} {k : Nat} {tpos pos : Pos} {value : Expr} {Q : Flow → Heap → Nat → Prop} (x : W γ A (eval value env) (fun v => W γ A (assign (.Tuple elts k tpos) env v) (fun ξ => Q .next)) h t)
  (hs : swapsWithSole [.Tuple elts k tpos] value pos.line env = pure false := by rfl) (hw : swappedStores [.Tuple elts k tpos] value env = pure none := by rfl) : W γ A (exec (.Assign [.Tuple elts k tpos] value pos) env) Q h t :=
 ⟨Assign_Tuple (W.use x fun v h t y => W.use y fun ξ h t q => ⟨h, t, rfl, q⟩) hs hw⟩
theorem w_eq_ints {xs ys : List Value} {ns : List Int} {Q : Value → Heap → Nat → Prop} (hu : A.units < cLine) (ho : h.get? l = some o) (hl : LstO xs.toArray o) (hi : IntsAre xs ns) (hb : h.get? b = some ob) (hl2 : LstO ys.toArray ob) (hi2 : IntsAre ys ns) (q : Q (.bool true) h t) : W γ A (compareOp .Eq (.ref l) (.ref b)) Q h t := by
 obtain ⟨n, rfl⟩ := hl
 obtain ⟨n2, rfl⟩ := hl2
 have l1 := hi.length
 have l2 := hi2.length
 refine ⟨P.eq_list (s := mkS γ h t) (e := fun ξ => true) ho hb (by simp [l1, l2]) (fun j h1 h2 => ?_) hu ⟨h, t, rfl, ?_⟩⟩
 ·have hj : j < ns.length := by rw [← l1]; simpa using h1
  obtain ⟨t1, g1⟩ := hi.get j ns[j] (by simp [hj])
  obtain ⟨t2, g2⟩ := hi2.get j ns[j] (by simp [hj])
  have e1 : xs.toArray[j] = .int ns[j] t1 := by
   have := (List.getElem?_eq_some_iff.mp g1).2
   simpa using this
  have e2 : ys.toArray[j] = .int ns[j] t2 := by
   have := (List.getElem?_eq_some_iff.mp g2).2
   simpa using this
  rw [e1, e2]
  have := MeetsSeq.EqGives.int ns[j] ns[j] t1 t2
  simpa using this
 ·have : (List.range xs.toArray.size).all (fun ξ => true) = true := by simp
  rw [this]; exact q
end
end
section
section
variable {h : Heap} {t : Nat} {env : Env} {γ : G} {A : Around}
theorem v_test_compare {l r : Expr} {op : CmpOp} {pos : Pos} {whole : Sem Value} {Q : Bool → Heap → Nat → Prop}
  (x : V γ A (eval l env) (fun a => W γ A (eval r env) (fun b => W γ A (compareOp op a b) (fun c => W γ A (truthy c) Q))) h t) (hm : behindInMarks op r = false := by with_unfolding_all rfl) :
  V γ A (isTrue (.Compare l [op] [r] pos) env whole) Q h t := by
 rw [isTrue_Compare1]
 refine v_bind (x.mono fun a h t y => .of_w ⟨fun Γ p hΓ => ?_⟩)
 simp only [markedBehindIn_of_false hm, Sem.wp_bind', Sem.wp_holding, Sem.wp_cmd_standAt, Sem.wp_operate]
 refine Sem.wp_mono _ Γ _ (fun b p₁ s₁ h₁ => ?_) (fun ξ ξ ξ f => f) _ _ (y.out Γ p hΓ)
 refine ek2_2 h₁ fun h' t' z1 z => ?_; clear h₁; obtain rfl := z1
 refine Sem.wp_mono _ Γ _ (fun c p₂ s₂ h₂ => ?_) (fun ξ ξ ξ f => f) _ _ (z.out Γ _ hΓ)
 refine ek2_2 h₂ fun h' t' z1 z => ?_; clear h₂; obtain rfl := z1
 exact z.out Γ _ hΓ
theorem v_evalArgs1 {f : Value} {m : Sem Value} {Q : Args → Heap → Nat → Prop} (x : V γ A m (fun v h t => Q ⟨[v], []⟩ h t) h t) : V γ A (evalArgs f true [(false, m)] []) Q h t := by
 unfold evalArgs
 show V γ A (spliced [(false, m)] >>= _) Q h t
 refine v_bind ?_
 show V γ A (m >>= _) _ h t
 refine v_bind (x.mono fun v h t q => ?_)
 refine V.of_w ⟨?_⟩
 refine wpAny_ifn Bool.false_ne_true ?_
 refine wpAny_bind (wpAny_pure (wpAny_bind (wpAny_holding (wpAny_pure (wpAny_pure ⟨h, t, rfl, ?_⟩)))))
 refine V.of_w ⟨wpAny_holding (wpAny_bind (wpAny_pure (wpAny_bind (wpAny_pure (wpAny_pure ⟨h, t, rfl, q⟩)))))⟩
theorem v_cw_bi1 {n : String} {pos : Pos} {e : Expr} {Q : Value → Heap → Nat → Prop} (x : V γ A (eval e env) (fun v => W γ A (call (.builtin n) [v]) Q) h t) (he : starEach [e] env = [(false, eval e env)] := by rfl) :
  V γ A (callWith pos (.builtin n) [] (backTo pos (starEach [e] env)) (backToKw pos (keywordEach [] env))) Q h t := by
 show V γ A (callWith pos (.builtin n) [] (backTo pos (starEach [e] env)) []) Q h t
 rw [he]
 show V γ A (callWith pos (.builtin n) [] [(false, eval e env)] []) Q h t
 unfold callWith
 refine v_bind (v_holding (v_evalArgs1 (x.mono fun v h t y => v_standAt ?_)))
 refine ek1_2 (plain_keep (M := MM γ) (f := .builtin n) rfl h trivial) fun k hk' L => ?_
 refine v_bindw ⟨L.here ⟨h, t, rfl, ?_⟩⟩
 have tail : ∀ {tr : Sem Value}, V γ A tr Q h t → V γ A (tr >>= fun r => holding [r] point >>= fun ξ => pure r) Q h t :=
  fun z => v_bind (z.mono fun r h t q => v_bindw (w_holding (w_point (v_pure q))))
 have marked (mk : Value) : V γ A (callMarked mk (.builtin n) ([] ++ [v]) []) Q h t := v_keep (.of_w y)
 have y' : V γ A (call (.builtin n) ([] ++ [v]) []) Q h t := .of_w y
 rcases hk' with rfl | rfl | rfl
 ·exact tail (marked _)
 ·exact tail y'
 ·exact tail (marked _)
end
end
section
noncomputable def VIs (D : Dm) (a : Addr) (p : Pv) : Prop := ∃ u, ValIn D a u p.ty p.w ∧ ((p.ty = 26 ∧ ∃ b, u = .bool b ∧ b2 b = p.v) ∨ (p.ty ≠ 26 ∧ ∃ tk, u = .int p.v tk))
theorem VIs.mono {D D' : Dm} {a : Addr} {p : Pv} (x : VIs D a p) (l : Le D D') : VIs D' a p := ek1_2 x fun u a b => ⟨u, a.mono l, b⟩
theorem VIs.valI {D : Dm} {a : Addr} {p : Pv} (x : VIs D a p) : ∃ u, ValIn D a u p.ty p.w ∧ valI u = p.v ∧ (p.ty ≠ 26 → ∃ tk, u = .int p.v tk) ∧ (p.ty = 26 → ∃ b, u = .bool b) := by
 refine ek1_2 x fun u h z1 => ?_; clear x; obtain ⟨e, b, rfl, e2⟩ | ⟨e, tk, rfl⟩ := z1
 ·exact ⟨_, h, e2, fun q => absurd e q, fun ξ => ⟨b, rfl⟩⟩
 ·exact ⟨_, h, rfl, fun ξ => ⟨tk, rfl⟩, fun q => absurd q e⟩
noncomputable def VsAre (D : Dm) (as : List Addr) (ps : List Pv) : Prop := as.length = ps.length ∧ ∀ (i : Nat) (a : Addr) (p : Pv), as[i]? = some a → ps[i]? = some p → VIs D a p
theorem VsAre.mono {D D' : Dm} {as : List Addr} {ps : List Pv} (x : VsAre D as ps) (l : Le D D') : VsAre D' as ps := ⟨x.1, fun i a p h1 h2 => (x.2 i a p h1 h2).mono l⟩
theorem elMax_step {n i0 b : Int} {ps : List Pv} {i : Nat} {p : Pv} (hp : ps[i]? = some p) : max (elMax n i0 (ps.take i) b) (elW p.ty p.v p.w n (i0 + (i : Int))) = elMax n i0 (ps.take (i + 1)) b := by
 refine ek1_1 (List.getElem?_eq_some_iff.mp hp) fun hi z1 => ?_; obtain rfl := z1
 refine (List.take_succ_eq_append_getElem hi).symm ▸ ?_; refine (elMax_append ..).symm ▸ ?_; refine List.length_take.symm ▸ ?_; refine (Nat.min_eq_left (Nat.le_of_lt hi)).symm ▸ ?_
 rfl
theorem big_of {m : Nat} {B : Int} (w : Wd m B) : bigOf m = B := by rcases w with ⟨rfl, rfl⟩ | ⟨rfl, rfl⟩ | ⟨rfl, rfl⟩ | ⟨rfl, rfl⟩ <;> rfl
theorem Wd.le {m k : Nat} {B C : Int} (w : Wd m B) (v : Wd k C) (h : m ≤ k) : B ≤ C := by
 rcases w with ⟨rfl, rfl⟩ | ⟨rfl, rfl⟩ | ⟨rfl, rfl⟩ | ⟨rfl, rfl⟩ <;> rcases v with ⟨rfl, rfl⟩ | ⟨rfl, rfl⟩ | ⟨rfl, rfl⟩ | ⟨rfl, rfl⟩ <;> first | decide | exact absurd h (by decide)
theorem wd_mono {b c B C : Int} {m k : Nat} (w : Wb b m B) (w' : Wb c k C) (h : b ≤ c) : B ≤ C := by
 have e : ∀ {n j : Nat}, (1 : Int) * 2 ^ n = (j : Int) → 2 ^ n = j := fun e => Int.ofNat.inj ((Int.natCast_pow 2 _).trans ((Int.one_mul _).symm.trans e))
 exact w.2.2.2.le w'.2.2.2 (e w.2.2.1 ▸ e w'.2.2.1 ▸ Nat.pow_le_pow_right (by decide) (Int.toNat_le_toNat h))
theorem bw_below {v b B : Int} {m : Nat} (h1 : v < 18446744073709551616) (w : Wb b m B) (h : bw v ≤ b) : v < B := by
 have r := bw_range v
 obtain ⟨C, wc⟩ := wb_pw r.1 r.2
 exact Int.lt_of_lt_of_le (bw_fits h1 wc.2.2.2) (wd_mono wc w h)
theorem iw_below {v b B : Int} {m : Nat} (h0 : -9223372036854775808 ≤ v) (h1 : v < 9223372036854775808) (w : Wb b m B) (h : iw v ≤ b) : -B ≤ 2 * v ∧ 2 * v < B := by
 unfold iw at h
 have := bw_below (by split <;> kcf_m) w h
 split at this <;> constructor <;> kcf_m
section
variable {γ : G} {A : Around} {D : Dm} {env : Env} {gl cl : List (Str × Value)} {vars : List (Str × Option Value)} {news rest : List (Addr × Obj)} {h : Heap} {t : Nat} {R : Value → Heap → Nat → Prop} {x buf stk a : Addr} {force : Int} {bs : List Int} {bo : Obj} {v : Value} {ty w : Int}
noncomputable abbrev vMeths : List Str := [ofString "ElemWidth", ofString "StoredPackedType", ofString "StoredWidth"]
theorem v_meth {n : Str} {f : Addr} {pl : Sem Bool} {Q : Value × List Value → Heap → Nat → Prop} (F : FX γ D env gl cl vars news h) (Vh : ValIn D a v ty w) (hm : Has (362, n, f) methL) (hn : Has n vMeths) (q : Q (.ref f, [.ref a]) h t) : W γ A (getMethod (.ref a) n pl) Q h t := by
 refine ek4_4 Vh fun dx od t1 t2 V1 V2 V3 V4 => ?_; clear Vh
 refine w_getm_inst F.sc.inK (F.sc.keep _ _ V1) (F.sc.keep _ _ V2) V3 (l_meth hm) ?_ q
 exact Has.of (P := fun n => List.lookup n _ = none) hn ⟨rfl, rfl, rfl, trivial⟩
theorem w_max2e {K : Frag} {a b c : Int} {u v : Tok} {Q : Value → Heap → Nat → Prop} (F : Fx K D env gl cl vars news h) (hh : A.handled = none) (e : max a b = c) (q : ∀ h tk t, Fx K D env gl cl vars news h → Q (.int c tk) h t) : W γ A (call (.builtin "max") [.int a u, .int b v]) Q h t := by
 subst e; exact w_max2 F hh q
theorem ct_Cell {p : Pv} {m : Nat} {B : Int} {tn : Tok} {kw : Bool} (S : SC γ D ((buf, bo) :: rest) h) (r : Room A 4) (Bx : Bld D x buf stk force) (Vh : VIs D a p) (ok : p.ok) (hb : BaO bs bo) (hw : Wd m B) (hl : bs.length + m ≤ 100000)
  (f1 : p.ty = 1 → -B ≤ 2 * p.v ∧ 2 * p.v < B) (f2 : inl p.ty = false → p.v ≤ bs.length ∧ bs.length - p.v < B)
  (k : ∀ h t bo', BaO (bs ++ cell m bs.length p) bo' → SC γ D ((buf, bo') :: rest) h → R .none h t) :
  VC γ A (.call (.ref 503) (cond kw ⟨[.ref x, .ref a], [(ofString "byte_width", .int (m : Int) tn)]⟩ ⟨[.ref x, .ref a, .int (m : Int) tn], []⟩)) R h t := by
 refine ek1_4 Vh.valI fun u h1 h2 h3 h4 => ?_
 have e : ∀ n : Int, KTBy.little m (if inl p.ty = true then valI u % B else n - valI u) = cell m n p := fun n => by unfold cell; rw [h2, big_of hw]
 refine ct_WriteAnyG S r Bx h1 hb hw hl ?_ fun h t bo' hb' S => k h t bo' (by rw [← e]; exact hb') S
 rcases ok with ⟨e1, e2, e3⟩ | ⟨e1, e2, e3⟩ | ⟨e1, e2, e3, e4⟩ | ⟨e1, e2, e3, e4⟩
 ·refine ek1_1 (h3 (by kcf_m)) fun tk e5 => ?_
  exact .inl ⟨e1, tk, by rw [e5, e2]⟩
 ·exact .inr (.inl ⟨e1, h4 e1⟩)
 ·refine ek1_1 (h3 (by kcf_m)) fun tk e5 => ?_
  exact .inr (.inr (.inl ⟨e1, p.v, tk, e5, f1 e1⟩))
 ·refine ek1_1 (h3 e2) fun tk e5 => ?_
  refine .inr (.inr (.inr ⟨e1, e2, p.v, tk, e5, f2 ?_⟩))
  exact inl_big ⟨e1, e2⟩
end
end
theorem padN_one (n : Nat) : padN n 1 = [] := by simp [padN]
noncomputable def preOf (k : Option Pv) : Nat := match k with | none => 1 | some _ => 3
theorem rowHead_length (m : Nat) (k : Option Pv) (ps : List Pv) (out : List Int) : (rowHead m k ps out).length = out.length + (padN out.length m).length + preOf k * m := by
 cases k <;> simp only [rowHead, List.length_append, KTBy.little_length, preOf] <;> kcf_m
theorem Wb.zero {b B : Int} {m : Nat} (w : Wb b m B) (h : b = 0) : m = 1 ∧ B = 256 := by
 refine ek0_4 w fun ξ ξ w2 w3 => ?_; clear w
 subst h
 unfold Wd at w3
 simp at w2; kcf_m
theorem Wb.pos {b B : Int} {m : Nat} (w : Wb b m B) (h : 1 ≤ b) : 65536 ≤ B := by
 obtain ⟨w0, w1, w2, w3⟩ := w
 unfold Wd at w3
 have : b = 1 ∨ b = 2 ∨ b = 3 := by kcf_m
 rcases this with rfl | rfl | rfl <;> simp at w2 <;> kcf_m
theorem far_fits {n v i b B len : Int} {m : Nat} (w : Wb b m B) (h : far n v i ≤ b) (z : b = 0 → len = n + i) (v0 : 0 ≤ v) (vl : v ≤ n) (nl : n ≤ len) (big : len ≤ 65500) : v ≤ len ∧ len - v < B := by
 refine ⟨by exact Int.le_trans vl nl, ?_⟩
 by_cases hb : b = 0
 ·have := w.zero hb
  have := z hb
  unfold far at h
  split at h <;> kcf_m
 ·have := w.pos (by have := w.1; kcf_m)
  exact iL (iA v0 (iA big this)) (by kcf_m)
theorem el_far {p : Pv} (h : inl p.ty = false) (n i : Int) : p.el n i = far n p.v i := by unfold Pv.el elW; rw [h]; rfl
theorem row_fits {k : Option Pv} {ps : List Pv} {out : List Int} {p : Pv} {b B : Int} {m i : Nat} (w : Wb b m B) (hp : inl p.ty = false) (hi : i ≤ ps.length) (h : p.el out.length ((preOf k : Nat) + (i : Nat)) ≤ b) (v0 : 0 ≤ p.v) (vl : p.v ≤ out.length) (big : out.length + 9 * ps.length + 40 ≤ 65000) :
  p.v ≤ (cells m (ps.take i) (rowHead m k ps out)).length ∧ ((cells m (ps.take i) (rowHead m k ps out)).length : Int) - p.v < B := by
 rw [el_far hp] at h
 have hm := w.2.2.2.range
 have pl := padN_length out.length (show 0 < m by kcf_m)
 have e : (cells m (ps.take i) (rowHead m k ps out)).length = out.length + (padN out.length m).length + preOf k * m + m * i := by rw [cells_length, rowHead_length, List.length_take, Nat.min_eq_left hi]
 have pre3 : preOf k ≤ 3 := by cases k <;> simp [preOf]
 have m1 : preOf k * m ≤ 3 * 8 := Nat.mul_le_mul pre3 hm.2
 have m2 : m * i ≤ 8 * ps.length := Nat.mul_le_mul hm.2 hi
 refine far_fits w h (fun z => ?_) v0 vl (cE (out.length) ((cells m (List.take i ps) (rowHead m k ps out)).length) (nZ (Nat.le_of_eq e.symm) (by kcf_m))) (by kcf_m)
 obtain ⟨rfl, _⟩ := w.zero z
 rw [e, padN_one]; simp; kcf_m
theorem key_fits {out : List Int} {p : Pv} {b B : Int} {m : Nat} (w : Wb b m B) (hp : inl p.ty = false) (h : p.el out.length 0 ≤ b) (v0 : 0 ≤ p.v) (vl : p.v ≤ out.length) (big : out.length + 40 ≤ 65000) :
  p.v ≤ (out ++ padN out.length m).length ∧ ((out ++ padN out.length m).length : Int) - p.v < B := by
 rw [el_far hp] at h
 have hm := w.2.2.2.range
 have pl := padN_length out.length (show 0 < m by kcf_m)
 refine far_fits w h (fun z => ?_) v0 vl (by simp; exact cE (out.length) (out.length + (padN out.length m).length) (by kcf_m)) (by simp; exact cE (out.length + (padN out.length m).length) (65500) (nZ (nA big (nA hm.2 pl)) (by kcf_m)))
 obtain ⟨rfl, _⟩ := w.zero z
 rw [padN_one]; simp
theorem one_fits {p : Pv} (ok : p.ok) (h1 : p.ty = 1) {n i b B : Int} {m : Nat} (w : Wb b m B) (h : p.el n i ≤ b) : -B ≤ 2 * p.v ∧ 2 * p.v < B := by
 have e : p.el n i = p.w := by unfold Pv.el elW; rw [if_pos (by rw [h1]; decide)]
 rcases ok with q | q | q | q
 ·kcf_m
 ·kcf_m
 ·exact iw_below q.2.1 q.2.2.1 w (by rw [← q.2.2.2, ← e]; exact h)
 ·kcf_m
theorem tags_append (b : Int) (ps : List Pv) (p : Pv) : tags b (ps ++ [p]) = tags b ps ++ [4 * p.ty + stW p.ty p.w b] := by simp [tags]
theorem stW_range {p : Pv} (ok : p.ok) {b : Int} (h0 : 0 ≤ b) (h1 : b ≤ 3) : 0 ≤ stW p.ty p.w b ∧ stW p.ty p.w b ≤ 3 := by
 have := p.w_range ok
 unfold stW; split <;> kcf_m
theorem vecOut_length (typed : Bool) {force : Int} {k : Option Pv} {ps : List Pv} {out : List Int} (f0 : 0 ≤ force) (f1 : force ≤ 3) (hk : ∀ p, k = some p → p.ok) (h : ∀ p ∈ ps, p.ok) :
  out.length ≤ (vecOut typed force k ps out).1.length ∧ (vecOut typed force k ps out).1.length ≤ out.length + 9 * ps.length + 32 := by
 have rr := rowBits_range (n := out.length) f0 f1 hk h
 refine ek1_1 (wb_pw rr.1 rr.2) fun B wb => ?_
 have hm := wb.2.2.2.range
 have pl := padN_length out.length (show 0 < pw (rowBits force out.length k ps) by exact hm.1)
 have pre3 : preOf k ≤ 3 := by cases k <;> simp [preOf]
 have m1 : preOf k * pw (rowBits force out.length k ps) ≤ 3 * 8 := Nat.mul_le_mul pre3 hm.2
 have m2 : pw (rowBits force out.length k ps) * ps.length ≤ 8 * ps.length := Nat.mul_le_mul_right _ hm.2
 have e := cells_length (pw (rowBits force out.length k ps)) ps (rowHead (pw (rowBits force out.length k ps)) k ps out)
 have e2 := rowHead_length (pw (rowBits force out.length k ps)) k ps out
 have g := Nat.le_trans (Nat.le_trans (Nat.le_trans (Nat.le_add_right _ _) (Nat.le_add_right _ _)) (Nat.le_of_eq e2.symm)) (Nat.le_trans (Nat.le_add_right _ _) (Nat.le_of_eq e.symm))
 have l := Nat.le_trans (Nat.le_of_eq e) (nA (Nat.le_trans (Nat.le_of_eq e2) (nA (nA (Nat.le_refl out.length) (Nat.le_of_lt (Nat.lt_of_lt_of_le pl hm.2))) m1)) m2)
 cases typed
 ·have q := (List.length_append (as := cells (pw (rowBits force out.length k ps)) ps (rowHead (pw (rowBits force out.length k ps)) k ps out)) (bs := tags (rowBits force out.length k ps) ps)).trans (congrArg _ (tags_length _ _))
  exact ⟨Nat.le_trans g (Nat.le_trans (Nat.le_add_right _ _) (Nat.le_of_eq q.symm)), Nat.le_trans (Nat.le_of_eq q) (Nat.le_trans (nA l (Nat.le_refl ps.length)) (by kcf_m))⟩
 ·exact ⟨g, Nat.le_trans l (by kcf_m)⟩
theorem vecOut_ok (typed : Bool) {force : Int} {k : Option Pv} {ps : List Pv} {out : List Int} (f0 : 0 ≤ force) (f1 : force ≤ 3) (hk : ∀ p, k = some p → p.ok) (h : ∀ p ∈ ps, p.ok) : (vecOut typed force k ps out).2.ok := by
 have rr := rowBits_range (n := out.length) f0 f1 hk h
 refine .inr (.inr (.inr ?_))
 unfold vecOut
 refine ⟨?_, ?_, ?_, by simp, rr.1, rr.2⟩ <;> simp only <;> (repeat' split) <;> kcf_m
theorem vecOut_place (typed : Bool) {force : Int} {k : Option Pv} {ps : List Pv} {out : List Int} : (vecOut typed force k ps out).2.v ≤ (vecOut typed force k ps out).1.length := by
 unfold vecOut
 have e := cells_length (pw (rowBits force out.length k ps)) ps (rowHead (pw (rowBits force out.length k ps)) k ps out)
 cases typed
 ·simp only [Bool.false_eq_true, if_false, List.length_append]; kcf_m
 ·simp only [if_true]; kcf_m
inductive Ky
 | n
 | s (a : Addr) (p : Pv)
namespace Ky
noncomputable def v : Ky → Value
 | .n => .none
 | .s a _ => .ref a
noncomputable def o : Ky → Option Pv
 | .n => none
 | .s _ p => some p
noncomputable def front (k : Ky) : Int := (preOf k.o : Nat)
noncomputable def base (force n : Int) (m : Nat) : Ky → Int
 | .n => max force (bw m)
 | .s _ p => max (max force (bw m)) (p.el n 0)
noncomputable def pre (m : Nat) (out : List Int) : Ky → List Int
 | .n => out ++ padN out.length m
 | .s _ k => out ++ padN out.length m ++ KTBy.little m ((out ++ padN out.length m).length - k.v) ++ KTBy.little m (2 ^ k.w.toNat)
theorem bits (k : Ky) (force n : Int) (ps : List Pv) : rowBits force n k.o ps = elMax n k.front ps (k.base force n ps.length) := by cases k <;> rfl
theorem head (k : Ky) (m : Nat) (ps : List Pv) (out : List Int) : rowHead m k.o ps out = k.pre m out ++ KTBy.little m ps.length := by cases k <;> rfl
theorem pre_len (k : Ky) {m : Nat} (h : m ≤ 8) (out : List Int) : (k.pre m out).length ≤ out.length + (padN out.length m).length + 16 := by
 cases k <;> simp only [pre, List.length_append, KTBy.little_length] <;> kcf_m
theorem pre_of (k : Ky) : preOf k.o ≤ 3 := by
 cases k
 ·exact (by decide : 1 ≤ 3)
 ·exact Nat.le_refl 3
theorem front_of (k : Ky) : 0 ≤ k.front ∧ k.front ≤ 3 := by have := k.pre_of; unfold front; kcf_m
theorem base_ge (k : Ky) (force n : Int) (m : Nat) : bw m ≤ k.base force n m ∧ 0 ≤ bw m := ⟨by cases k <;> simp only [base] <;> kcf_m, (bw_range m).1⟩
end Ky
section
theorem refs_get {as : List Addr} {i : Nat} {v : Value} (h : (as.map Value.ref)[i]? = some v) : ∃ a, as[i]? = some a ∧ v = .ref a := by
 rw [List.getElem?_map] at h
 cases q : as[i]? with
 | none => rw [q] at h; cases h
 | some a => rw [q] at h; cases h; exact ⟨a, rfl, rfl⟩
theorem VsAre.at {D : Dm} {as : List Addr} {ps : List Pv} (x : VsAre D as ps) {i : Nat} {v : Value} (h : (as.map Value.ref)[i]? = some v) : ∃ a p, v = .ref a ∧ ps[i]? = some p ∧ VIs D a p ∧ i < ps.length ∧ ps.take (i + 1) = ps.take i ++ [p] := by
 refine ek1_2 (refs_get h) fun a h1 z1 => ?_; obtain rfl := z1
 have hi : i < ps.length := by rw [← x.1]; exact (List.getElem?_eq_some_iff.mp h1).1
 exact ⟨a, ps[i], rfl, by simp [hi], x.2 i a _ h1 (by simp [hi]), hi, List.take_succ_eq_append_getElem hi⟩
theorem mul_le_len {m i n : Nat} (h : i ≤ n) : m * i ≤ m * n := Nat.mul_le_mul_left m h
noncomputable def Ky.inB (D : Dm) (out : List Int) : Ky → Prop
 | .n => True
 | .s ka kp => VIs D ka kp ∧ kp.ok ∧ (3 < kp.ty ∧ kp.ty ≠ 26) ∧ kp.v ≤ out.length
theorem Ky.inB.mono {D D' : Dm} {out : List Int} {ky : Ky} (x : ky.inB D out) (l : Le D D') : ky.inB D' out := by
 cases ky with
 | n => exact trivial
 | s => exact ⟨VIs.mono x.1 l, x.2⟩
theorem Ky.inB.ok {D : Dm} {out : List Int} {ky : Ky} (x : ky.inB D out) : ∀ p, ky.o = some p → p.ok := by
 cases ky with
 | n => intro p e; cases e
 | s => intro p e; cases e; exact x.2.1
section
variable {γ : G} {A : Around} {D : Dm} {env : Env} {gl cl : List (Str × Value)} {vars : List (Str × Option Value)} {news rest : List (Addr × Obj)} {h : Heap} {t : Nat} {R : Value → Heap → Nat → Prop} {x buf stk l : Addr} {force : Int} {out : List Int} {bo lo : Obj} {as : List Addr} {ps : List Pv}
theorem ct_CV {ty : Bool} {ky : Ky} {kk : Option Pv} {args : Args} (hkk : ky.o = kk) {wd : Int} {hv0 : List Int} (hW : rowBits force out.length ky.o ps = wd) (hH : rowHead (pw wd) ky.o ps out = hv0) (ha : (args = ⟨[.ref x, .ref l, .bool ty, .bool false], []⟩ ∧ ky = .n) ∨ (args = ⟨[.ref x, .ref l], [(ofString "typed", .bool ty), (ofString "fixed", .bool false)]⟩ ∧ ky = .n) ∨ args = ⟨[.ref x, .ref l], [(ofString "typed", .bool ty), (ofString "fixed", .bool false), (ofString "keys", ky.v)]⟩)
  (S : SC γ D ((buf, bo) :: rest) h) (r : Room A 6) (Bx : Bld D x buf stk force) (f0 : 0 ≤ force) (f1 : force ≤ 3) (hb : BaO out bo) (hl : D l = some lo) (hL : LstO (as.map Value.ref).toArray lo) (hv : VsAre D as ps) (okp : ∀ p ∈ ps, p.ok) (ple : ∀ p ∈ ps, inl p.ty = false → p.v ≤ out.length) (hk : ky.inB D out) (ht : ty = true → ∀ p ∈ ps, p.ty = 4) (hs : out.length + 9 * ps.length + 40 ≤ 65000)
  (k : ∀ h t D' bo' a, Le D D' → BaO (vecOut ty force kk ps out).1 bo' → VIs D' a (vecOut ty force kk ps out).2 → SC γ D' ((buf, bo') :: rest) h → R (.ref a) h t) :
  VC γ A (.call (.ref 525) args) R h t := by
 subst hkk
 have sz : sizeLine = 16777216 := sizeLine_eq
 have st := S.st
 have al : (as.map Value.ref).length = ps.length := by rw [List.length_map, hv.1]
 refine' v_enter S ?ho ?hcd r.lt [(ofString "self", .ref x), (ofString "elements", .ref l), (ofString "typed", .bool ty), (ofString "fixed", .bool false), (ofString "keys", ky.v)] [ofString "length", ofString "bit_width", ofString "prefix_elems", ofString "vector_type", ofString "i", ofString "e", ofString "byte_width", ofString "loc", ofString "type_"]
  [(ofString "len", .builtin "len"), (ofString "max", .builtin "max"), (ofString "BitWidth", .ref 74), (ofString "Type_flexbuffers", .ref 229), (ofString "enumerate", .type "enumerate"), (ofString "U", .ref 80), (ofString "Value_flexbuffers", .ref 362)] ?hb ?ok (globs (by kernel_rfl)) ?_
 case ho => k_is
 case hcd => k_is
 case hb =>
  rcases ha with ⟨rfl, rfl⟩ | ⟨rfl, rfl⟩ | rfl
  ·exact binds_K S.inK rfl (by k_is) rfl rfl rfl
  ·exact binds_K S.inK rfl (by k_is) rfl rfl rfl
  ·exact binds_K S.inK rfl (by k_is) rfl rfl rfl
 case ok => kernel_rfl
 clear ha
 kd_adr
 kct_ten
 refine w_len_list (F.sc.keep _ _ hl) hL.ls (by rw [al]; exact nZ (nA hs (Nat.le_of_eq sz.symm)) (by kcf_m)) ?_
 rw [al]
 kd_p
 kct_ten
 refine Br.ff ?_
 kd_p
 refine Br.ff ?_
 kd_p
 kct_ten
 refine b_force F Bx fun tkf => ?_
 kd_p
 kqd_sub
 refine ct_U S (r.deeper.mono (by decide)) (cE (0) (ps.length) (by kcf_m)) (cL (ps.length) (18446744073709551616) (nL hs (by kcf_m))) fun h t tk S => ?_
 krn_off
 kd_p
 refine w_max2 F r.hn fun h tk t F => ?_
 kd_p
 kct_ten
 kct_ten
 have bb := ky.base_ge force out.length ps.length
 have ff := ky.front_of
 refine F.joinc (Q0 := Q0) (fun Φ => ∀ ta tb tc, Φ D [(ofString "self", some (.ref x)), (ofString "elements", some (.ref l)), (ofString "typed", some (.bool ty)), (ofString "fixed", some (.bool false)), (ofString "keys", some ky.v), (ofString "length", some (.int ps.length ta)), (ofString "bit_width", some (.int (ky.base force out.length ps.length) tb)), (ofString "prefix_elems", some (.int ky.front tc)), (ofString "vector_type", none), (ofString "i", none), (ofString "e", none), (ofString "byte_width", none), (ofString "loc", none), (ofString "type_", none)] ((buf, bo) :: rest)) (fun j => ?_) fun h t ta tb tc F => ?_
 ·clear q0 k bb ff hW hH
  cases ky with
  | n =>
   refine Br.ff ?_
   kd_p
   exact j _ _ _ _ _ F
  | s ka kp =>
   refine Br.tt ?_
   refine ek0_4 hk fun hk okk kpl kle => ?_
   kd_p
   refine ek1_4 hk.valI fun ku hk1 hk2 hk3 hk4 => ?_
   refine ek1_1 (hk3 kpl.2) fun tkk z1 => ?_; obtain rfl := z1
   refine v_meth F hk1 (by tb_start) (by tb_start) ?_
   kd_p
   refine b_buf F Bx ?_
   kd_p
   refine w_len_ba (F.got (by kas_types)) hb (nZ (nA hs (Nat.le_of_eq sz.symm)) (by kcf_m)) ?_
   kd_p
   kqd_sub
   refine ct_ElemWidth0 (p := kp.v) S (r.deeper.mono (by decide)) hk1 (fun ξ => ⟨⟨_, rfl⟩, kp.v0 okk (inl_big kpl), kle, by exact cL (out.length + 1) (65536) (nL hs (by kcf_m))⟩) fun h t tk S => ?_
   krn_off
   kd_p
   refine w_max2 F r.hn fun h tk t F => ?_
   kd_p
   exact j _ _ _ _ _ F
 refine q0 _ _ _ ?_
 clear q0 Q0
 kd_p
 kct_ten
 refine v_execs_consq ?_
 intro Q0 q0
 refine V.of_w ?_
 refine w_for ?_
 kd_p
 refine w_call_enum F hl hL fun e1 it own h hst F => ?_
 refine w_pyiter_enum F hst ?_
 refine w_for_c iter_enum r.hn (fun i D' Φ => ∀ t1 t2 t3 t4 ui ue, Φ [(ofString "self", some (.ref x)), (ofString "elements", some (.ref l)), (ofString "typed", some (.bool ty)), (ofString "fixed", some (.bool false)), (ofString "keys", some ky.v), (ofString "length", some (.int ps.length t1)), (ofString "bit_width", some (.int (elMax out.length ky.front (ps.take i) (ky.base force out.length ps.length)) t2)), (ofString "prefix_elems", some (.int ky.front t3)), (ofString "vector_type", some (.int 4 t4)), (ofString "i", ui), (ofString "e", ue), (ofString "byte_width", none), (ofString "loc", none), (ofString "type_", none)] ((buf, bo) :: rest)) F hst (fun ξ j => j _ _ _ _ _ _) (fun ξ ξ ξ ξ ξ q => q) ?_ ?_
 ·intro i D2 own u h t K0 k0 kr le2 hi y1; refine ek4_4 y1 fun xv ta ot tki hx z1 eD eT => ?_; clear y1; obtain rfl := z1; intro t1 t2 t3 t4 ui ue F
  refine ek2_5 ((hv.mono le2).at hx) fun a p z1 hp vis hi' etk => ?_; obtain rfl := z1
  have okq := okp p (List.mem_of_getElem? hp)
  have pleq := ple p (List.mem_of_getElem? hp)
  refine ek1_4 vis.valI fun pu hp1 hp2 hp3 hp4 => ?_
  refine w_asg_tup2 F r.hn eD eT fun h F => ?_
  kd_p
  refine v_meth F hp1 (by tb_start) (by tb_start) ?_
  kd_p
  refine b_buf F (Bx.mono le2) ?_
  kd_p
  refine w_len_ba (F.got (by kas_types)) hb (nZ (nA hs (Nat.le_of_eq sz.symm)) (by kcf_m)) ?_
  kd_p
  kqd_sub
  refine ct_ElemWidth (p := p.v) S (r.deeper.mono (by decide)) hp1 (by kcf_m) (fun hin => ⟨hp3 (by intro q; rw [q] at hin; exact absurd hin (by decide)), p.v0 okq hin, pleq hin, by kcf_m⟩) fun h t tk S => ?_
  krn_off
  kd_p
  refine w_max2e F r.hn (elMax_step hp) fun h tk t F => ?_
  kd_p
  refine ⟨fun hty => ?_, fun ξ => ?_⟩
  ·have pt4 := ht hty p (List.mem_of_getElem? hp)
   kd_p
   refine ⟨fun hc => ?_, fun hc => ?_⟩
   ·kd_p
    refine p_Type F (r.deeper.mono (by decide)) hp1 fun h t tk F => ?_
    rw [pt4]
    kd_p
    exact k0 D2 _ _ _ _ (Le.refl _) (fun ξ j => j _ _ _ _ _ _) F
   ·kd_p
    refine p_Type F (r.deeper.mono (by decide)) hp1 fun h t tk F => ?_
    refine pt4.symm ▸ ?_
    kd_p
    refine ⟨fun hc => absurd hc (by decide), fun ξ => ?_⟩
    kd_p
    exact k0 D2 _ _ _ _ (Le.refl _) (fun ξ j => j _ _ _ _ _ _) F
  ·kd_p
   exact k0 D2 _ _ _ _ (Le.refl _) (fun ξ j => j _ _ _ _ _ _) F
 rintro D1 h t le1 t1 t2 t3 t4 ui ue F
 have eb : elMax out.length ky.front (ps.take (as.map Value.ref).length) (ky.base force out.length ps.length) = wd := by rw [al, List.take_length, ← hW, Ky.bits]
 rw [eb] at F
 clear eb
 have Bx := Bx.mono le1
 have hv := hv.mono le1
 have hl := le1 _ _ hl
 have rr := rowBits_range (n := out.length) (k := ky.o) (ps := ps) f0 f1 hk.ok okp
 rw [hW] at rr
 have bge : ∀ (j : Nat) (p : Pv), ps[j]? = some p → p.el out.length (ky.front + (j : Nat)) ≤ wd := fun j p e => by rw [← hW, Ky.bits]; exact elMax_ge _ _ _ _ j p e
 have blen : bw ps.length ≤ wd := by rw [← hW, Ky.bits]; exact Int.le_trans bb.1 (elMax_le _ _ _ _)
 obtain ⟨B, wb⟩ := wb_pw rr.1 rr.2
 have wl := pw_le rr.1 rr.2
 have pl := padN_length out.length (show 0 < pw wd by exact nL wl.1 (by kcf_m))
 have rB : (ps.length : Int) < B := bw_below (cL (ps.length) (18446744073709551616) (nL hs (by kcf_m))) wb blen
 refine q0 _ _ _ ?_
 clear q0 Q0
 kd_p
 kct_ten
 refine Br.ff ?_
 kd_p
 refine Br.ff ?_
 kd_p
 kct_fill
 refine b_meth F Bx (by tb_start) (by tb_start) ?_
 kd_p
 refine F.outk (ps := [(buf, bo)]) (by kp_flats) fun oL S back => ?_
 refine v_call (ct_Align S (r.deeper.mono (by decide)) Bx hb wb (nZ hs (by kcf_m)) fun h t tk bo1 hb1 S => ?_)
 have F := back _ [(buf, bo1)] _ (Le.refl _) S
 kso_len
 kd_p
 have l1 := ky.pre_len (m := pw wd) wl.2 out
 kct_fill
 refine F.joinc (Q0 := Q0) (fun Φ => ∀ tkb o, BaO (ky.pre (pw wd) out) o → Φ D1 [(ofString "self", some (.ref x)), (ofString "elements", some (.ref l)), (ofString "typed", some (.bool ty)), (ofString "fixed", some (.bool false)), (ofString "keys", some ky.v), (ofString "length", some (.int ps.length t1)), (ofString "bit_width", some (.int wd t2)), (ofString "prefix_elems", some (.int ky.front t3)), (ofString "vector_type", some (.int 4 t4)), (ofString "i", ui), (ofString "e", ue), (ofString "byte_width", some (.int ((pw wd : Nat) : Int) tkb)), (ofString "loc", none), (ofString "type_", none)] ((buf, o) :: rest)) (fun j => ?_) fun h t tkb bo3 hb3 F => ?_
 ·clear q0 k bb ff l1 bge blen hH
  cases ky with
  | n =>
   refine Br.ff ?_
   kd_p
   exact j _ _ _ _ hb1 F
  | s ka kp =>
   refine Br.tt ?_
   refine ek0_4 (hk.mono le1) fun hk okk kpl kle => ?_
   refine ek1_4 hk.valI fun ku hk1 hk2 hk3 hk4 => ?_
   refine ek1_1 (hk3 kpl.2) fun tkk z1 => ?_; obtain rfl := z1
   have bkey : kp.el out.length 0 ≤ wd := by rw [← hW]; exact Int.le_trans (Int.le_max_right _ _) (elMax_le _ _ _ _)
   have kf := key_fits wb (inl_big kpl) bkey (kp.v0 okk (inl_big kpl)) kle (nZ hs (by kcf_m))
   have kw3 := kp.w_range okk
   refine ek1_1 (wb_pw kw3.1 kw3.2) fun B4 wb4 => ?_
   kct_fill
   refine b_meth F Bx (by tb_start) (by tb_start) ?_
   kd_p
   refine p_Value F (r.deeper.mono (by decide)) hk1 fun h t F => ?_
   kd_p
   refine F.outk (ps := [(buf, bo1)]) (by kp_flats) fun oL S back => ?_
   refine v_call (ct_WriteOffset S (r.deeper.mono (by decide)) Bx hb1 wb.2.2.2 kf.1 kf.2 (by simp; exact nZ (nA hs (nA wl.2 (nA wl.2 pl))) (by kcf_m)) fun h t bo2 hb2 S => ?_)
   have F := back _ [(buf, bo2)] _ (Le.refl _) S
   kso_len
   refine ⟨trivial, ?_⟩
   kd_p
   kct_fill
   refine b_meth F Bx (by tb_start) (by tb_start) ?_
   kd_p
   refine p_Width F (r.deeper.mono (by decide)) hk1 fun h t tk F => ?_
   kd_p
   refine i_shl kw3.1 (iZ kw3.2 (by kcf_m)) (by decide) ?_
   kd_p
   have p4 : (1 : Int) * 2 ^ kp.w.toNat = 2 ^ kp.w.toNat := Int.one_mul _
   have p5 : (0 : Int) ≤ 2 ^ kp.w.toNat ∧ (2 : Int) ^ kp.w.toNat < B := by
    have := wb4.2.2.1
    have := wb4.2.2.2.range
    have := wb.2.2.2
    unfold Wd at this
    kcf_m
   refine p4.symm ▸ ?_
   refine F.outk (ps := [(buf, bo2)]) (by kp_flats) fun oL S back => ?_
   refine v_call (ct_Write S (r.deeper.mono (by decide)) Bx hb2 (packs_U wb.2.2.2 p5.1 p5.2) (by simp only [KTBy.little_length, List.length_append]; exact nZ (nA hs (nA wl.2 (nA wl.2 (nA wl.2 pl)))) (by kcf_m)) fun h t bo3 hb3 S => ?_)
   have F := back _ [(buf, bo3)] _ (Le.refl _) S
   kso_len
   refine ⟨trivial, ?_⟩
   kd_p
   exact j _ _ _ _ hb3 F
 refine q0 _ _ _ ?_
 clear q0 Q0
 kd_p
 kct_fill
 refine Br.tt ?_
 kct_fill
 refine b_meth F Bx (by tb_start) (by tb_start) ?_
 kd_p
 refine F.outk (ps := [(buf, bo3)]) (by kp_flats) fun oL S back => ?_
 refine v_call (ct_Write S (r.deeper.mono (by decide)) Bx hb3 (packs_U wb.2.2.2 (cE (0) (ps.length) (by kcf_m)) rB) (by simp only [KTBy.little_length, List.length_append]; exact nZ (nA hs (nA wl.2 (nA wl.2 (nA pl l1)))) (by kcf_m)) fun h t bo5 hb5 S => ?_)
 have F := back _ [(buf, bo5)] _ (Le.refl _) S
 kso_len
 refine ⟨trivial, ?_⟩
 kd_p
 rw [← Ky.head, hH] at hb5
 have l3' : hv0.length ≤ out.length + 32 := by rw [← hH, Ky.head, List.length_append, KTBy.little_length]; exact nZ (nA wl.2 (nA wl.2 (nA pl l1))) (by kcf_m)
 kct_ten
 refine b_buf F Bx ?_
 kd_p
 refine w_len_ba (F.got (by kas_types)) hb5 (nZ (nA hs (nA (Nat.le_of_eq sz.symm) l3')) (by kcf_m)) ?_
 kd_p
 refine v_execs_consq ?_
 intro Q0 q0
 refine v_for ?_
 kd_p
 refine w_pyiter_lst F hl hL fun it own h itr hst F => ?_
 refine v_for_c (itr _ .name (.inl ⟨_, _, rfl⟩)) r.hn (fun i D' Φ => ∀ ue t5 t6 bo', (BaO (cells (pw wd) (ps.take i) hv0) bo') → Φ [(ofString "self", some (.ref x)), (ofString "elements", some (.ref l)), (ofString "typed", some (.bool ty)), (ofString "fixed", some (.bool false)), (ofString "keys", some ky.v), (ofString "length", some (.int ps.length t1)), (ofString "bit_width", some (.int wd t2)), (ofString "prefix_elems", some (.int ky.front t3)), (ofString "vector_type", some (.int 4 t4)), (ofString "i", ui), (ofString "e", ue), (ofString "byte_width", some (.int ((pw wd : Nat) : Int) t5)), (ofString "loc", some (.int hv0.length t6)), (ofString "type_", none)] ((buf, bo') :: rest)) F hst (fun ξ j => j _ _ _ _ hb5) (fun ξ ξ ξ ξ ξ q => q) ?_ ?_
 ·rintro i D2 own v h t K0 k0 kr le2 hi hx ue t5 t6 bo6 hb6 F
  refine ek2_5 ((hv.mono le2).at hx) fun a p z1 hp vis hi' etk => ?_; obtain rfl := z1
  have okq := okp p (List.mem_of_getElem? hp)
  have pleq := ple p (List.mem_of_getElem? hp)
  have bgi := bge i p hp
  have Bx := Bx.mono le2
  have mle : pw wd * i ≤ pw wd * ps.length := mul_le_len (Nat.le_of_lt hi')
  have mle2 : pw wd * ps.length ≤ 8 * ps.length := Nat.mul_le_mul_right _ wl.2
  have lc : (cells (pw wd) (ps.take i) hv0).length = hv0.length + pw wd * i := by rw [cells_length, List.length_take, Nat.min_eq_left (Nat.le_of_lt hi')]
  refine w_asg_name ?_
  kd_p
  kct_fill
  refine b_meth F Bx (by tb_start) (by tb_start) ?_
  kd_p
  refine F.outk (ps := [(buf, bo6)]) (by kp_flats) fun oL S back => ?_
  refine v_call (ct_Cell (kw := false) S (r.deeper.mono (by decide)) Bx vis okq hb6 wb.2.2.2 (nZ (nA hs (nA wl.2 (nA l3' (nA mle (nA mle2 (Nat.le_of_eq lc)))))) (by kcf_m)) (fun h1 => one_fits okq h1 wb bgi)
   (fun h2 => by rw [← hH]; exact row_fits wb h2 (Nat.le_of_lt hi') bgi (p.v0 okq h2) (pleq h2) hs) fun h t bo7 hb7 S => ?_)
  have F := back _ [(buf, bo7)] _ (Le.refl _) S
  kso_len
  refine ⟨trivial, ?_⟩
  kd_p
  refine k0 D2 _ _ _ _ (Le.refl _) (fun ξ j => j _ _ _ _ ?_) F
  rw [etk, cells_append]; exact hb7
 rintro D3 h t le3 ue3 t5 t6 bo8 hb8 F
 have e3 : ps.take (as.map Value.ref).length = ps := by rw [al, List.take_length]
 rw [e3] at hb8
 have Bx := Bx.mono le3
 have hv := hv.mono le3
 have hl := le3 _ _ hl
 have lc : (cells (pw wd) ps hv0).length = hv0.length + pw wd * ps.length := by rw [cells_length]
 have mle2 : pw wd * ps.length ≤ 8 * ps.length := Nat.mul_le_mul_right _ wl.2
 kd_p
 have le13 := le1.trans le3
 kct_fill
 refine F.joinc (Q0 := Q0) (fun Φ => ∀ D4 ue9 bo9 t7 t8, Le D3 D4 → BaO (vecOut ty force ky.o ps out).1 bo9 → Φ D4 [(ofString "self", some (.ref x)), (ofString "elements", some (.ref l)), (ofString "typed", some (.bool ty)), (ofString "fixed", some (.bool false)), (ofString "keys", some ky.v), (ofString "length", some (.int ps.length t1)), (ofString "bit_width", some (.int wd t2)), (ofString "prefix_elems", some (.int ky.front t3)), (ofString "vector_type", some (.int 4 t4)), (ofString "i", ui), (ofString "e", ue9), (ofString "byte_width", some (.int ((pw wd   : Nat) : Int) t7)), (ofString "loc", some (.int hv0.length t8)), (ofString "type_", none)] ((buf, bo9) :: rest)) (fun j => ?_) fun h t D4 ue9 bo9 t7 t8 le34 hb9 F => ?_
 ·clear q0 k
  cases ty with
  | true =>
   refine Br.ff ?_
   kd_p
   exact j _ _ _ _ _ _ _ (Le.refl _) (by rw [show (vecOut true force ky.o ps out).1 = cells (pw wd) ps hv0 by rw [← hH, ← hW]; rfl]; exact hb8) F
  | false =>
   refine Br.tt ?_
   refine v_execs_consq ?_
   intro Q1 q1
   refine v_for ?_
   kd_p
   refine w_pyiter_lst F hl hL fun it own h itr hst F => ?_
   refine v_for_c (itr _ .name (.inl ⟨_, _, rfl⟩)) r.hn (fun i D' Φ => ∀ ue t5 t6 bo', (BaO ((cells (pw wd) ps hv0) ++ tags wd (ps.take i)) bo') → Φ [(ofString "self", some (.ref x)), (ofString "elements", some (.ref l)), (ofString "typed", some (.bool false)), (ofString "fixed", some (.bool false)), (ofString "keys", some ky.v), (ofString "length", some (.int ps.length t1)), (ofString "bit_width", some (.int wd t2)), (ofString "prefix_elems", some (.int ky.front t3)), (ofString "vector_type", some (.int 4 t4)), (ofString "i", ui), (ofString "e", ue), (ofString "byte_width", some (.int ((pw wd : Nat) : Int) t5)), (ofString "loc", some (.int hv0.length t6)), (ofString "type_", none)] ((buf, bo') :: rest)) F hst (fun ξ j => j _ _ _ _ (by rw [List.take_zero]; simpa [tags] using hb8)) (fun ξ ξ ξ ξ ξ q => q) ?_ ?_
   ·rintro i D2 own u h t K0 k0 kr le2 hi hx ue t5 t6 bo6 hb6 F
    refine ek2_5 ((hv.mono le2).at hx) fun a p z1 hp vis hi' etk => ?_; obtain rfl := z1
    have okq := okp p (List.mem_of_getElem? hp)
    have Bx := Bx.mono le2
    refine ek1_4 vis.valI fun pu hp1 hp2 hp3 hp4 => ?_
    have tyr := p.ty_range okq
    have wr := p.w_range okq
    have sr := stW_range okq rr.1 rr.2
    refine w_asg_name ?_
    kd_p
    kct_fill
    refine b_buf F Bx ?_
    kd_p
    refine w_getm_ba slot_ba_append type_ba_append (F.got (by kas_types)) hb6 ?_
    kd_p
    refine v_meth F hp1 (by tb_start) (by tb_start) ?_
    kd_p
    kqd_sub
    refine ct_SPT S (r.deeper.mono (by decide)) hp1 tyr.1 (iL tyr.2 (by kcf_m)) wr.1 (iL wr.2 (by kcf_m)) rr.1 (iL rr.2 (by kcf_m)) fun h t tk S => ?_
    krn_off
    kd_p
    refine F.outk (ps := [(buf, bo6)]) (by kp_flats) fun oL S back => ?_
    refine v_append S hb6 (iZ (iA tyr.1 (iA tyr.1 (iA tyr.1 (iA tyr.1 sr.1)))) (by kcf_m)) (iL (iA tyr.2 (iA tyr.2 (iA tyr.2 (iA tyr.2 sr.2)))) (by kcf_m)) (szle (nZ (nA hs (nA l3' (nA mle2 (nA (Nat.le_of_eq lc) (nA (Nat.le_of_eq (List.length_append (as := cells (pw wd) ps hv0) (bs := tags wd (ps.take i)))) (Nat.le_trans (Nat.le_of_eq ((tags_length wd _).trans List.length_take)) (Nat.min_le_right _ _))))))) (by kcf_m))) fun bo7 h hb7 S => ?_
    have F := back _ [(buf, bo7)] _ (Le.refl _) S
    kso_len
    refine ⟨trivial, ?_⟩
    kd_p
    refine k0 D2 _ _ _ _ (Le.refl _) (fun ξ j => j _ _ _ _ ?_) F
    rw [etk, tags_append, ← List.append_assoc]; exact hb7
   rintro D4 h t le4 ue4 t7 t8 bo9 hb9 F
   rw [e3] at hb9
   refine q1 _ _ _ ?_
   kd_p
   exact j _ _ _ _ _ _ _ (le4) (by rw [show (vecOut false force ky.o ps out).1 = cells (pw wd) ps hv0 ++ tags wd ps by rw [← hH, ← hW]; rfl]; exact hb9) F
 refine q0 _ _ _ ?_
 clear q0 Q0
 have le14 := le13.trans le34
 have ev : (vecOut ty force ky.o ps out).2 = ⟨if ky.o.isSome = true then 9 else if ty = true then 14 else 10, hv0.length, wd⟩ := by rw [← hH, ← hW]; rfl
 clear hH hW
 kct_fill
 cases ky with
 | s ka kp =>
  refine Br.tt ?_
  kct_ten
  kct_fill
  refine F.outk (ps := []) (by kp_flats) fun oL S back => ?_
  refine V.of_w (w_call (ct_ValNew S (r.deeper.mono (by decide)) rfl fun h t D5 va le5 Vh S => ?_))
  have F := back _ [] _ le5 S
  kso_len
  kd_p
  exact k _ _ _ _ _ (le14.trans le5) hb9 (by rw [ev]; exact ⟨_, Vh, .inr ⟨show (9 : Int) ≠ 26 by decide, _, rfl⟩⟩) F.sc
 | n =>
  refine Br.ff ?_
  kct_fill
  cases ty with
  | true =>
   refine Br.tt ?_
   kct_ten
   refine Br.ff ?_
   kd_p
   kqd_sub
   refine ct_TTV S (r.deeper.mono (by decide)) fun h t tk S => ?_
   krn_off
   kd_p
   kct_fill
   refine F.outk (ps := []) (by kp_flats) fun oL S back => ?_
   refine V.of_w (w_call (ct_ValNew S (r.deeper.mono (by decide)) rfl fun h t D5 va le5 Vh S => ?_))
   have F := back _ [] _ le5 S
   kso_len
   kd_p
   exact k _ _ _ _ _ (le14.trans le5) hb9 (by rw [ev]; exact ⟨_, Vh, .inr ⟨show (14 : Int) ≠ 26 by decide, _, rfl⟩⟩) F.sc
  | false =>
   refine Br.ff ?_
   kct_ten
   kct_fill
   refine F.outk (ps := []) (by kp_flats) fun oL S back => ?_
   refine V.of_w (w_call (ct_ValNew S (r.deeper.mono (by decide)) rfl fun h t D5 va le5 Vh S => ?_))
   have F := back _ [] _ le5 S
   kso_len
   kd_p
   exact k _ _ _ _ _ (le14.trans le5) hb9 (by rw [ev]; exact ⟨_, Vh, .inr ⟨show (10 : Int) ≠ 26 by decide, _, rfl⟩⟩) F.sc
end
end
section
open _root_.PySem.Spec
inductive Tree where
 | none
 | truth (b : Bool)
 | num (n : Int)
 | text (bs : List Int)
 | oct (bs : List Int)
 | row (l : List Tree)
 | map (l : List (List Nat × Tree))
noncomputable def kOct (k : List Nat) : List Int := k.map fun (c : Nat) => (c : Int)
noncomputable abbrev Kp := List Nat × Pv × Pv
noncomputable def layAll (f : Tree → List Int → List Int × Pv) : List Tree → List Int → List Int × List Pv
 | [], out => (out, [])
 | t :: ts, out => ((layAll f ts (f t out).1).1, (f t out).2 :: (layAll f ts (f t out).1).2)
noncomputable def layMap (f : Tree → List Int → List Int × Pv) : List (List Nat × Tree) → List Int → List Int × List Kp
 | [], out => (out, [])
 | (k, t) :: ts, out => ((layMap f ts (f t (out ++ kOct k ++ [0])).1).1, (k, ⟨4, out.length, 0⟩, (f t (out ++ kOct k ++ [0])).2) :: (layMap f ts (f t (out ++ kOct k ++ [0])).1).2)
noncomputable def ins {β : Type} (x : List Nat × β) : List (List Nat × β) → List (List Nat × β)
 | [] => [x]
 | y :: r => if ltCps y.1 x.1 = true then y :: ins x r else x :: y :: r
noncomputable def srt {β : Type} : List (List Nat × β) → List (List Nat × β)
 | [] => []
 | x :: r => ins x (srt r)
noncomputable def mapOut (force : Int) (s : List Kp) (out : List Int) : List Int × Pv :=
 vecOut false force (some (vecOut true force none (s.map (·.2.1)) out).2) (s.map (·.2.2)) (vecOut true force none (s.map (·.2.1)) out).1
noncomputable def lay (force : Int) : Nat → Tree → List Int → List Int × Pv
 | _, .none, out => (out, ⟨0, 0, 0⟩)
 | _, .truth b, out => (out, ⟨26, b2 b, 0⟩)
 | _, .num n, out => (out, ⟨1, n, iw n⟩)
 | _, .text bs, out => (blobA bs out ++ bs ++ [0], ⟨5, (blobA bs out).length, bw bs.length⟩)
 | _, .oct bs, out => (blobA bs out ++ bs, ⟨25, (blobA bs out).length, bw bs.length⟩)
 | n + 1, .row l, out => vecOut false force none (layAll (lay force n) l out).2 (layAll (lay force n) l out).1
 | n + 1, .map l, out => mapOut force (srt (layMap (lay force n) l out).2) (layMap (lay force n) l out).1
 | 0, _, out => (out, ⟨0, 0, 0⟩)
noncomputable def KeyOk (k : List Nat) : Prop := k.length ≤ 8 ∧ ∀ c ∈ k, 0 < c ∧ c < 128
noncomputable def Ok : Nat → Tree → Prop
 | _, .none => True
 | _, .truth b => True
 | _, .num n => -9223372036854775808 ≤ n ∧ n < 9223372036854775808
 | _, .text bs => bs.length ≤ 800
 | _, .oct bs => bs.length ≤ 800
 | n + 1, .row l => l.length ≤ 5 ∧ ∀ t ∈ l, Ok n t
 | n + 1, .map l => l.length ≤ 5 ∧ (l.map (·.1)).Nodup ∧ ∀ p ∈ l, KeyOk p.1 ∧ Ok n p.2
 | 0, _ => False
noncomputable def nodes : Nat → Tree → Nat
 | n + 1, .row l => 1 + (l.map (nodes n)).sum
 | n + 1, .map l => 1 + (l.map fun p => nodes n p.2).sum
 | _, _ => 1
theorem lay0 {force : Int} {n : Nat} {out : List Int} : lay force n .none out = (out, ⟨0, 0, 0⟩) := by cases n <;> rfl
theorem lay1 {force : Int} {n : Nat} {b : Bool} {out : List Int} : lay force n (.truth b) out = (out, ⟨26, b2 b, 0⟩) := by cases n <;> rfl
theorem lay2 {force : Int} {n : Nat} {m : Int} {out : List Int} : lay force n (.num m) out = (out, ⟨1, m, iw m⟩) := by cases n <;> rfl
theorem lay3 {force : Int} {n : Nat} {bs out : List Int} : lay force n (.text bs) out = (blobA bs out ++ bs ++ [0], ⟨5, (blobA bs out).length, bw bs.length⟩) := by cases n <;> rfl
theorem lay4 {force : Int} {n : Nat} {bs out : List Int} : lay force n (.oct bs) out = (blobA bs out ++ bs, ⟨25, (blobA bs out).length, bw bs.length⟩) := by cases n <;> rfl
theorem ok0 {n : Nat} : Ok n .none := by cases n <;> exact trivial
theorem ok1 {n : Nat} {b : Bool} : Ok n (.truth b) := by cases n <;> exact trivial
theorem ok2 {n : Nat} {m : Int} : Ok n (.num m) ↔ -9223372036854775808 ≤ m ∧ m < 9223372036854775808 := by cases n <;> exact Iff.rfl
theorem ok3 {n : Nat} {bs : List Int} : Ok n (.text bs) ↔ bs.length ≤ 800 := by cases n <;> exact Iff.rfl
theorem ok4 {n : Nat} {bs : List Int} : Ok n (.oct bs) ↔ bs.length ≤ 800 := by cases n <;> exact Iff.rfl
theorem node0 {n : Nat} : nodes n .none = 1 := by cases n <;> rfl
theorem node1 {n : Nat} {b : Bool} : nodes n (.truth b) = 1 := by cases n <;> rfl
theorem node2 {n : Nat} {m : Int} : nodes n (.num m) = 1 := by cases n <;> rfl
theorem node3 {n : Nat} {bs : List Int} : nodes n (.text bs) = 1 := by cases n <;> rfl
theorem node4 {n : Nat} {bs : List Int} : nodes n (.oct bs) = 1 := by cases n <;> rfl
theorem layAll_append (f : Tree → List Int → List Int × Pv) : ∀ (l l' : List Tree) (out : List Int), layAll f (l ++ l') out = ((layAll f l' (layAll f l out).1).1, (layAll f l out).2 ++ (layAll f l' (layAll f l out).1).2)
 | [], l', out => rfl
 | t :: ts, l', out => congrArg (fun r => (r.1, (f t out).2 :: r.2)) (layAll_append f ts l' (f t out).1)
theorem layMap_append (f : Tree → List Int → List Int × Pv) : ∀ (l l' : List (List Nat × Tree)) (out : List Int), layMap f (l ++ l') out = ((layMap f l' (layMap f l out).1).1, (layMap f l out).2 ++ (layMap f l' (layMap f l out).1).2)
 | [], l', out => rfl
 | (k, t) :: ts, l', out => congrArg (fun r => (r.1, (k, (⟨4, out.length, 0⟩ : Pv), (f t (out ++ kOct k ++ [0])).2) :: r.2)) (layMap_append f ts l' (f t (out ++ kOct k ++ [0])).1)
theorem layAll_length (f : Tree → List Int → List Int × Pv) : ∀ (l : List Tree) (out : List Int), (layAll f l out).2.length = l.length
 | [], out => rfl
 | t :: ts, out => congrArg (· + 1) (layAll_length f ts (f t out).1)
theorem layMap_keys (f : Tree → List Int → List Int × Pv) : ∀ (l : List (List Nat × Tree)) (out : List Int), (layMap f l out).2.map (·.1) = l.map (·.1)
 | [], out => rfl
 | (k, t) :: ts, out => congrArg (k :: ·) (layMap_keys f ts (f t (out ++ kOct k ++ [0])).1)
theorem layMap_length (f : Tree → List Int → List Int × Pv) (l : List (List Nat × Tree)) (out : List Int) : (layMap f l out).2.length = l.length := (List.length_map _).symm.trans ((congrArg List.length (layMap_keys f l out)).trans (List.length_map _))
theorem ins_perm {β : Type} (x : List Nat × β) : ∀ l, (ins x l).Perm (x :: l)
 | [] => .refl _
 | y :: r => by
  show (if ltCps y.1 x.1 = true then y :: ins x r else x :: y :: r).Perm _
  by_cases hc : ltCps y.1 x.1 = true
  ·rw [if_pos hc]; exact ((ins_perm x r).cons y).trans (.swap _ _ _)
  ·rw [if_neg hc]
theorem srt_perm {β : Type} : ∀ l : List (List Nat × β), (srt l).Perm l
 | [] => .refl _
 | x :: r => (ins_perm x _).trans ((srt_perm r).cons x)
theorem ltCps_trans : ∀ {a b c : List Nat}, ltCps a b = true → ltCps b c = true → ltCps a c = true
 | [], [], _, h, _ => Bool.noConfusion (show false = true from h)
 | [], _ :: _, [], _, h => Bool.noConfusion (show false = true from h)
 | [], _ :: _, _ :: _, _, _ => rfl
 | _ :: _, [], _, h, _ => Bool.noConfusion (show false = true from h)
 | _ :: _, _ :: _, [], _, h => Bool.noConfusion (show false = true from h)
 | a :: r, b :: t, c :: u, h1, h2 => by
  simp only [ltCps, Bool.or_eq_true, decide_eq_true_eq, Bool.and_eq_true, beq_iff_eq] at h1 h2 ⊢
  rcases h1 with h1 | ⟨rfl, h1⟩ <;> rcases h2 with h2 | ⟨rfl, h2⟩
  ·exact .inl (Nat.lt_trans h1 h2)
  ·exact .inl h1
  ·exact .inl h2
  ·exact .inr ⟨rfl, ltCps_trans h1 h2⟩
theorem ltCps_irrefl : ∀ (a : List Nat), ltCps a a = false
 | [] => rfl
 | a :: r => by simp [ltCps, ltCps_irrefl r]
theorem ltCps_total : ∀ (a b : List Nat), a ≠ b → ltCps a b = false → ltCps b a = true
 | [], [], h, _ => absurd rfl h
 | [], _ :: _, _, h => by simp [ltCps] at h
 | _ :: _, [], _, _ => rfl
 | a :: r, b :: t, hn, h => by
  simp only [ltCps, Bool.or_eq_false_iff, decide_eq_false_iff_not, Bool.and_eq_false_iff, beq_eq_false_iff_ne, Bool.or_eq_true, decide_eq_true_eq, Bool.and_eq_true, beq_iff_eq] at h ⊢
  by_cases e : a = b
  ·subst e
   exact .inr ⟨rfl, ltCps_total r t (fun q => hn (by rw [q])) (by rcases h.2 with h | h; exact absurd rfl h; exact h)⟩
  ·exact .inl (by kcf_m)
theorem ins_sorted {β : Type} (x : List Nat × β) : ∀ l : List (List Nat × β), (∀ y ∈ l, y.1 ≠ x.1) → l.Pairwise (fun a b => ltCps a.1 b.1 = true) → (ins x l).Pairwise (fun a b => ltCps a.1 b.1 = true)
 | [], _, _ => .cons (fun ξ h => nomatch h) .nil
 | y :: r, hn, h => by
  obtain ⟨h1, h2⟩ := List.pairwise_cons.mp h
  show List.Pairwise _ (if ltCps y.1 x.1 = true then y :: ins x r else x :: y :: r)
  by_cases hc : ltCps y.1 x.1 = true
  ·rw [if_pos hc]
   refine List.pairwise_cons.mpr ⟨fun z hz => ?_, ins_sorted x r (fun z hz => hn z (.tail _ hz)) h2⟩
   rcases List.mem_cons.mp ((ins_perm x r).mem_iff.mp hz) with rfl | hz
   ·exact hc
   ·exact h1 _ hz
  ·rw [if_neg hc]
   have hc : ltCps x.1 y.1 = true := ltCps_total _ _ (hn y (.head _)) (Bool.eq_false_iff.mpr hc)
   refine List.pairwise_cons.mpr ⟨fun z hz => ?_, h⟩
   rcases List.mem_cons.mp hz with rfl | hz
   ·exact hc
   ·exact ltCps_trans hc (h1 _ hz)
theorem srt_sorted {β : Type} : ∀ l : List (List Nat × β), (l.map (·.1)).Nodup → (srt l).Pairwise (fun a b => ltCps a.1 b.1 = true)
 | [], _ => .nil
 | x :: r, h => by
  obtain ⟨h1, h2⟩ := List.nodup_cons.mp (show (x.1 :: r.map (·.1)).Nodup from h)
  refine ins_sorted x _ (fun y hy e => h1 ?_) (srt_sorted r h2)
  rw [← e]
  exact List.mem_map_of_mem ((srt_perm r).mem_iff.mp hy)
theorem sorted_uniq {α : Type} {lt : α → α → Prop} (asymm : ∀ a b, lt a b → lt b a → False) : ∀ {l l' : List α}, l.Perm l' → l.Pairwise lt → l'.Pairwise lt → l = l'
 | [], l', p, _, _ => (List.nil_perm.mp p).symm
 | a :: r, [], p, _, _ => by have := p.length_eq; simp at this
 | a :: r, b :: t, p, h1, h2 => by
  obtain ⟨a1, a2⟩ := List.pairwise_cons.mp h1
  obtain ⟨b1, b2⟩ := List.pairwise_cons.mp h2
  have e : a = b := by
   rcases List.mem_cons.mp (p.mem_iff.mp (List.mem_cons_self ..)) with h | h
   ·exact h
   rcases List.mem_cons.mp (p.mem_iff.mpr (List.mem_cons_self ..)) with h' | h'
   ·exact h'.symm
   ·exact (asymm _ _ (a1 _ h') (b1 _ h)).elim
  subst e
  rw [sorted_uniq asymm ((List.perm_cons a).mp p) a2 b2]
theorem srt_uniq {β : Type} {l s : List (List Nat × β)} (hn : (l.map (·.1)).Nodup) (hp : s.Perm l) (hs : s.Pairwise (fun a b => ltCps b.1 a.1 = false)) : s = srt l := by
 have hn' : (s.map (·.1)).Nodup := (hp.map _).nodup_iff.mpr hn
 refine sorted_uniq (lt := fun a b => ltCps a.1 b.1 = true) (fun a b h1 h2 => ?_) (hp.trans (srt_perm l).symm) ?_ (srt_sorted l hn)
 ·have := ltCps_trans h1 h2
  rw [ltCps_irrefl] at this; cases this
 ·have h2 : s.Pairwise (fun a b => a.1 ≠ b.1) := List.pairwise_map.mp hn'
  exact (hs.and h2).imp fun ⟨x, y⟩ => ltCps_total _ _ (fun q => y q.symm) x
end
section
section
variable {γ : G} {A : Around} {D : Dm} {env : Env} {gl cl : List (Str × Value)} {vars : List (Str × Option Value)} {news rest : List (Addr × Obj)} {h : Heap} {t : Nat} {R : Value → Heap → Nat → Prop} {x buf stk : Addr} {force : Int} {out : List Int} {bo so : Obj} {vs : List Value} {as0 as : List Addr} {ps : List Pv}
noncomputable def PushP (γ : G) (D : Dm) (buf stk : Addr) (rest : List (Addr × Obj)) (vs : List Value) (out' : List Int) (p : Pv) (D' : Dm) (h : Heap) : Prop :=
 ∃ bo' so' a, Le D D' ∧ BaO out' bo' ∧ LstO (vs ++ [Value.ref a]).toArray so' ∧ VIs D' a p ∧ SC γ D' ((buf, bo') :: (stk, so') :: rest) h
theorem Pushed.int {out' : List Int} {ty n w : Int} {D' : Dm} (P : Pushed γ D buf stk rest vs out' ty w (isInt n) D' h) (ht : ty ≠ 26) : PushP γ D buf stk rest vs out' ⟨ty, n, w⟩ D' h := by
 refine ek4_6 P fun bo' so' a u le hb hs Vh e S => ?_; clear P
 refine ⟨bo', so', a, le, hb, hs, ⟨u, Vh, .inr ⟨ht, ?_⟩⟩, S⟩
 cases u <;> first | exact e.elim | (cases e; exact ⟨_, rfl⟩)
theorem Pushed.bool {out' : List Int} {b : Bool} {w : Int} {D' : Dm} (P : Pushed γ D buf stk rest vs out' 26 w (isBool b) D' h) : PushP γ D buf stk rest vs out' ⟨26, b2 b, w⟩ D' h := by
 refine ek4_6 P fun bo' so' a u le hb hs Vh e S => ?_; clear P
 refine ⟨bo', so', a, le, hb, hs, ⟨u, Vh, .inl ⟨rfl, ?_⟩⟩, S⟩
 cases u <;> first | exact e.elim | (cases e; exact ⟨_, rfl, rfl⟩)
theorem w_tsl {K : Frag} {items : List Value} {o : Obj} {l : Addr} {lo hi st : Option Int} {vl vu vs : Value} {value slice : Expr} {Q : Value → Heap → Nat → Prop} (F : Fx K D env gl cl vars news h) (ho : h.get? l = some o) (hl : LsO items o) (pl : IsPart vl lo) (pu : IsPart vu hi) (ps : IsPart vs st) (h0 : st ≠ some 0) (hn : items.length ≤ 1000000)
  (q : ∀ a o h', LstO (slicePick items.toArray lo hi st) o → Fx K D env gl cl vars ((a, o) :: news) h' → Q (.ref a) h' t)
  {ops : List Value} (hs : subscripted slice false (.ref l) (.ref h.objs.size) = operate ops (getItem (.ref l) (.ref h.objs.size)) := by with_unfolding_all rfl) :
  W γ A (subscriptTail value slice (.ref l) (.ref h.objs.size)) Q (h.push (slObj vl vu vs)) t := w_tail_slice (lower := slice) (upper := slice) (step := slice) F ho hl pl pu ps h0 hn q hs
theorem ct_StartVector (S : SC γ D ((buf, bo) :: (stk, so) :: rest) h) (r : Room A 1) (Bx : Bld D x buf stk force) (hs : LstO vs.toArray so) (hn : vs.length ≤ 100000)
  (k : ∀ h t tk, SC γ D ((buf, bo) :: (stk, so) :: rest) h → R (.int vs.length tk) h t) : WC γ A (.call (.ref 607) ⟨[.ref x], []⟩) R h t := by
 have sz : sizeLine = 16777216 := sizeLine_eq
 refine' w_enter S ?ho ?hcd r.lt [(ofString "self", .ref x)] [] [(ofString "len", .builtin "len")] ?hb ?ok (globs (by kernel_rfl)) ?_
 kd_facts1
 kd_adr
 kd_p
 refine b_stack F Bx ?_
 kd_p
 refine w_len_list (F.got (by kas_types)) hs.ls (by kcf_m) ?_
 kd_p
 exact k _ _ _ F.sc
theorem ct_StartMap (S : SC γ D ((buf, bo) :: (stk, so) :: rest) h) (r : Room A 1) (Bx : Bld D x buf stk force) (hs : LstO vs.toArray so) (hn : vs.length ≤ 100000)
  (k : ∀ h t tk, SC γ D ((buf, bo) :: (stk, so) :: rest) h → R (.int vs.length tk) h t) : WC γ A (.call (.ref 644) ⟨[.ref x], []⟩) R h t := by
 have sz : sizeLine = 16777216 := sizeLine_eq
 refine' w_enter S ?ho ?hcd r.lt [(ofString "self", .ref x)] [] [(ofString "len", .builtin "len")] ?hb ?ok (globs (by kernel_rfl)) ?_
 kd_facts1
 kd_adr
 kd_p
 refine b_stack F Bx ?_
 kd_p
 refine w_len_list (F.got (by kas_types)) hs.ls (by kcf_m) ?_
 kd_p
 exact k _ _ _ F.sc
theorem ct_EndVector {ts : Tok} (S : SC γ D ((buf, bo) :: (stk, so) :: rest) h) (r : Room A 7) (Bx : Bld D x buf stk force) (f0 : 0 ≤ force) (f1 : force ≤ 3) (hb : BaO out bo) (hs : LstO (vs ++ as.map Value.ref).toArray so) (hn : vs.length + as.length ≤ 100000)
  (hv : VsAre D as ps) (okp : ∀ p ∈ ps, p.ok) (ple : ∀ p ∈ ps, inl p.ty = false → p.v ≤ out.length) (hl : out.length + 9 * ps.length + 40 ≤ 65000)
  (k : ∀ h t D' n tk, PushP γ D buf stk rest vs (vecOut false force none ps out).1 (vecOut false force none ps out).2 D' h → R (.int n tk) h t) :
  VC γ A (.call (.ref 614) ⟨[.ref x, .int vs.length ts], [(ofString "typed", .bool false), (ofString "fixed", .bool false)]⟩) R h t := by
 have sz : sizeLine = 16777216 := sizeLine_eq
 refine' v_enter S ?ho ?hcd r.lt [(ofString "self", .ref x), (ofString "start", .int vs.length ts), (ofString "typed", .bool false), (ofString "fixed", .bool false)] [ofString "vec"] [] ?hb ?ok (globs (by kernel_rfl)) ?_
 kd_facts1
 kd_adr
 have vl : (vs ++ as.map Value.ref).length = vs.length + as.length := by simp
 kct_fill
 refine b_meth F Bx (by tb_start) (by tb_start) ?_
 kd_p
 refine b_stack F Bx ?_
 kd_p
 refine w_sl ?_
 refine w_part_some ?_
 kd_p
 refine w_part_none ?_
 refine w_part_none ?_
 refine w_tsl F (F.got (by kas_types)) hs.ls (.int _ _) .none .none (by decide) (Nat.le_trans (Nat.le_trans (Nat.le_of_eq vl) hn) (by decide)) (fun l lo h hlo F => ?_)
 rw [slicePick_from', List.toList_toArray, List.drop_left] at hlo
 refine F.frzk fun D1 le1 e1 F => ?_
 kd_p
 refine F.outk (ps := [(buf, bo)]) (by kp_flats) fun oL S back => ?_
 refine v_call (ct_CV (ky := .n) rfl rfl rfl (.inl ⟨rfl, rfl⟩) S (r.deeper.mono (by decide)) (Bx.mono le1) f0 f1 hb e1 hlo (hv.mono le1) okp ple trivial (fun e => absurd e Bool.false_ne_true) hl fun h t D2 bo2 va le2 hb2 Vh S => ?_)
 have F := back _ [(buf, bo2)] _ le2 S
 kso_len
 kd_p
 have Bx := Bx.mono (le1.trans le2)
 kct_ten
 refine w_del_sub ?_
 kd_p
 refine b_stack F Bx ?_
 kd_p
 refine w_sl ?_
 refine w_part_some ?_
 kd_p
 refine w_part_none ?_
 refine w_part_none ?_
 refine w_delitem_from F (by kas_types) hs (nZ (Nat.le_of_eq vl.symm) (by kcf_m)) (Nat.le_trans (Nat.le_trans (Nat.le_of_eq vl) hn) (by decide)) fun so2 h hs2 F => ?_
 rw [List.take_left] at hs2
 kd_p
 kct_fill
 refine b_stack F Bx ?_
 kd_p
 refine w_getm_list PySem.F.slot_list_append PySem.F.type_list_append (F.got (by kas_types)) hs2 ?_
 kd_p
 refine V.of_w (w_lappend F (by kas_types) hs2 (le_a hn (by decide)) fun so3 h hs3 F => ?_)
 refine ⟨trivial, ?_⟩
 kd_p
 kct_fill
 refine ek1_4 Vh.valI fun u h1 h2 h3 h4 => ?_
 refine p_Value F (r.deeper.mono (by decide)) h1 fun h t F => ?_
 kd_p
 obtain ⟨tk, rfl⟩ := h3 (by show (10 : Int) ≠ 26; decide)
 exact k _ _ _ _ _ ⟨_, _, _, le1.trans le2, hb2, hs3, Vh, F.sc.perm (.swap _ _ _)⟩
end
end
section
noncomputable def KeyLies (out : List Int) (n : Nat) (k : List Nat) : Prop := ∃ post, out.drop n = kOct k ++ 0 :: post
theorem kOct_length (k : List Nat) : (kOct k).length = k.length := by simp [kOct]
theorem idx0 : ∀ (l post : List Int), (0 : Int) ∉ l → (l ++ 0 :: post).idxOf 0 = l.length
 | [], post, _ => by simp
 | a :: l, post, h => by
  have h1 : a ≠ 0 := fun e => h (by simp [e])
  have h2 : (0 : Int) ∉ l := fun e => h (by simp [e])
  rw [List.cons_append, List.idxOf_cons, idx0 l post h2, beq_eq_false_iff_ne.mpr h1]
  rfl
theorem KeyLies.idx {out : List Int} {n : Nat} {k : List Nat} (x : KeyLies out n k) (ok : KeyOk k) : (0 : Int) ∈ out.drop n ∧ (out.drop n).idxOf 0 = k.length ∧ (out.drop n).take k.length = kOct k := by
 obtain ⟨post, e⟩ := x
 rw [e]
 have n0 : (0 : Int) ∉ kOct k := by
  intro h
  obtain ⟨c, hc, e⟩ := List.mem_map.mp h
  have := ok.2 c hc
  kcf_m
 refine ⟨by simp, ?_, ?_⟩
 ·rw [idx0 _ _ n0, kOct_length]
 ·rw [← kOct_length, List.take_left]
theorem kOct_bytes {b : Array UInt8} {k : List Nat} (e : bInts b = kOct k) : b.toList.map UInt8.toNat = k := by
 have h : b.toList.map (fun x : UInt8 => (x.toNat : Int)) = k.map (fun (c : Nat) => (c : Int)) := e
 have := congrArg (List.map Int.toNat) h
 simpa [Function.comp_def] using this
section
variable {γ : G} {A : Around} {D : Dm} {env : Env} {gl cl : List (Str × Value)} {vars : List (Str × Option Value)} {news rest : List (Addr × Obj)} {h : Heap} {t : Nat} {R : Value → Heap → Nat → Prop} {x buf stk : Addr} {force : Int} {out : List Int} {bo so : Obj} {vs : List Value}
theorem ct_ReadKey {n : Nat} {tn : Tok} {ky : List Nat} (S : SC γ D news h) (hm : (buf, bo) ∈ news) (r : Room A 1) (Bx : Bld D x buf stk force) (hb : BaO out bo) (hl : out.length ≤ 100000) (ok : KeyOk ky) (kl : KeyLies out n ky)
  (k : ∀ h t b tk, b.toList.map UInt8.toNat = ky → SC γ D news h → R (.bytes b tk) h t) : WC γ A (.call (.ref 468) ⟨[.ref x, .int (n : Int) tn], []⟩) R h t := by
 have sz : sizeLine = 16777216 := sizeLine_eq
 refine ek0_3 (kl.idx ok) fun k1 k2 k3 => ?_
 refine' w_enter S ?ho ?hcd r.lt [(ofString "self", .ref x), (ofString "offset", .int (n : Int) tn)] [ofString "key"] [(ofString "bytes", .type "bytes"), (ofString "list", .type "list")] ?hb ?ok (globs (by kernel_rfl)) ?_
 kd_facts1
 kd_adr
 kd_p
 refine b_buf F Bx ?_
 kd_p
 refine w_sl ?_
 refine w_part_some ?_
 kd_p
 refine w_part_none ?_
 refine w_part_none ?_
 refine w_tail_ba F (F.sc.led _ hm) hb (.int _ _) .none (Nat.le_trans hl (by decide)) fun ka b0 ko h e0 hko F => ?_
 rw [picked_from, e0] at hko
 kd_p
 refine w_sl ?_
 refine w_part_none ?_
 refine w_part_some ?_
 kd_p
 refine F.outk (ps := [(ka, ko)]) (by kp_flats) fun oL S back => ?_
 refine w_list_ba S hko r.hn (by simp; exact nZ hl (by kcf_m)) fun l lo vs2 h t hv hlo S => ?_
 have F := back _ [(l, lo), (ka, ko)] _ (Le.refl _) S
 kso_len
 kd_p
 refine w_getm_list PySem.F.slot_list_index PySem.F.type_list_index (F.got (by kas_types)) hlo ?_
 kd_p
 refine w_index_ints (F.got (by kas_types)) hlo.ls hv k1 (by simp; exact nZ hl (by kcf_m)) fun tk t => ?_
 refine k2.symm ▸ ?_
 kd_p
 refine w_part_none ?_
 refine w_tail_ba F (F.got (by kas_types)) hko .none (.int _ _) (by simp; exact nZ hl (by kcf_m)) fun kb b1 kbo h e1 hkb F => ?_
 rw [picked_upto, e1, k3] at hkb
 kd_p
 refine w_bytes_ba (F.got (by kas_types)) hkb (by rw [kOct_length]; have := ok.1; exact Nat.le_trans this (by decide)) fun b tk t e => ?_
 kd_p
 exact k _ _ _ _ (kOct_bytes e) (F.sc.sub (.cons _ (.cons _ (.cons _ (.refl _)))))
end
end
section
open _root_.PySem.Spec
theorem perm_lift {α β : Type} {f : α → β} : ∀ {ps : List β} {T : List α}, ps.Perm (T.map f) → ∃ T' : List α, T'.Perm T ∧ T'.map f = ps
 | [], T, h => by
  obtain rfl : T = [] := List.map_eq_nil_iff.mp (List.nil_perm.mp h)
  exact ⟨[], .refl _, rfl⟩
 | p :: r, T, h => by
  have hm : p ∈ T.map f := h.mem_iff.mp (.head _)
  refine ek1_2 (List.mem_map.mp hm) fun t ht z1 => ?_; obtain rfl := z1
  refine ek2_1 (List.append_of_mem ht) fun s u z1 => ?_; obtain rfl := z1
  have h2 : (f t :: r).Perm (f t :: (s ++ u).map f) := h.trans (by rw [List.map_append, List.map_cons, List.map_append]; exact List.perm_middle)
  refine ek1_2 (perm_lift ((List.perm_cons _).mp h2)) fun T' h3 h4 => ?_
  exact ⟨t :: T', ((h3.cons t).trans List.perm_middle.symm), by simp [h4]⟩
theorem ins_map {β δ : Type} (g : β → δ) (x : List Nat × β) : ∀ l : List (List Nat × β), ins (x.1, g x.2) (l.map fun t => (t.1, g t.2)) = (ins x l).map fun t => (t.1, g t.2)
 | [] => rfl
 | y :: r => by
  show (if ltCps y.1 x.1 = true then (y.1, g y.2) :: ins (x.1, g x.2) (r.map fun t => (t.1, g t.2)) else (x.1, g x.2) :: (y.1, g y.2) :: r.map fun t => (t.1, g t.2)) = (if ltCps y.1 x.1 = true then y :: ins x r else x :: y :: r).map fun t => (t.1, g t.2)
  by_cases hc : ltCps y.1 x.1 = true
  ·rw [if_pos hc, if_pos hc]; exact congrArg ((y.1, g y.2) :: ·) (ins_map g x r)
  ·rw [if_neg hc, if_neg hc]; rfl
theorem srt_map {β δ : Type} (g : β → δ) : ∀ l : List (List Nat × β), srt (l.map fun t => (t.1, g t.2)) = (srt l).map fun t => (t.1, g t.2)
 | [] => rfl
 | x :: r => (congrArg (ins (x.1, g x.2)) (srt_map g r)).trans (ins_map g x (srt r))
structure Ent where
 key : List Nat
 kp : Pv
 p : Pv
 ka : Addr
 va : Addr
noncomputable def Ent.kps (e : Ent) : Kp := (e.key, e.kp, e.p)
noncomputable abbrev kRefs (es : List Ent) : List Value := (es.map (·.ka)).map Value.ref
noncomputable abbrev vRefs (es : List Ent) : List Value := (es.map (·.va)).map Value.ref
theorem sorted_ents {es : List Ent} {acc outl : List Value} {κ : KyK} (hκ : κ.α = List Nat) (hle : ∀ a b : κ.α, κ.kle a b → ltCps (cast hκ b) (cast hκ a) = false) {ks : List κ.α} (eks : ks.map (cast hκ) = es.map (·.key)) (hl : acc.length = es.length)
  (nd : (es.map (·.key)).Nodup) (so : SortOut κ ks acc outl) : ∃ T : List (Ent × Value), T.Perm (es.zip acc) ∧ outl = T.map (·.2) ∧ srt (es.map Ent.kps) = T.map (fun t => t.1.kps) := by
 refine ek1_3 so fun ps hp ho hs => ?_; clear so
 have e1 : (ks.zip acc).map (fun p => ((cast hκ p.1 : List Nat), p.2)) = (es.zip acc).map (fun t => (t.1.key, t.2)) := by
  have a1 : (ks.zip acc).map (fun p => ((cast hκ p.1 : List Nat), p.2)) = (ks.map (cast hκ)).zip acc := by rw [List.zip_map_left]; rfl
  have a2 : (es.zip acc).map (fun t => (t.1.key, t.2)) = (es.map (·.key)).zip acc := by rw [List.zip_map_left]; rfl
  rw [a1, a2, eks]
 have hp2 : (ps.map (fun p => ((cast hκ p.1 : List Nat), p.2))).Perm ((es.zip acc).map (fun t => (t.1.key, t.2))) := by rw [← e1]; exact hp.map _
 refine ek1_2 (perm_lift hp2) fun T h1 h2 => ?_
 refine ⟨T, h1, ?_, ?_⟩
 ·rw [ho]
  have := congrArg (List.map Prod.snd) h2
  simpa [Function.comp_def] using this.symm
 ·have hst : (T.map fun t => (t.1.key, t)).Pairwise (fun a b => ltCps b.1 a.1 = false) := by
   have h3 : (ps.map (fun p => ((cast hκ p.1 : List Nat), p.2))).Pairwise (fun a b => ltCps b.1 a.1 = false) := by
    rw [List.pairwise_map]
    exact hs.imp fun h => hle _ _ h
   rw [← h2, List.pairwise_map] at h3
   rw [List.pairwise_map]
   exact h3
  have hmap : (es.zip acc).map (fun t => t.1) = es := by
   exact List.map_fst_zip (Nat.le_of_eq hl.symm)
  have nd2 : (((es.zip acc).map fun t => (t.1.key, t)).map (·.1)).Nodup := by
   have : ((es.zip acc).map fun t => (t.1.key, t)).map (·.1) = es.map (·.key) := by
    rw [List.map_map]
    conv => rhs; rw [← hmap, List.map_map]
    rfl
   rw [this]; exact nd
  have u := srt_uniq nd2 (h1.map _) hst
  have e3 : es.map Ent.kps = ((es.zip acc).map fun t => (t.1.key, t)).map fun q => (q.1, (q.2.1.kp, q.2.1.p)) := by
   conv => lhs; rw [← hmap]
   rw [List.map_map, List.map_map]
   rfl
  rw [e3, srt_map (fun t : Ent × Value => (t.1.kp, t.1.p)), ← u, List.map_map]
  rfl
theorem byt_le (a b : bytKind.α) (h : bytKind.kle a b) : ltCps (cast (rfl : bytKind.α = List Nat) b) (cast rfl a) = false := by
 rw [ltCps_iff]; exact h
theorem str_le (a b : PyProof.Rows.strKind.α) (h : PyProof.Rows.strKind.kle a b) : ltCps (cast (rfl : PyProof.Rows.strKind.α = List Nat) b) (cast rfl a) = false := by
 rw [ltCps_iff]; exact h
end
section
noncomputable abbrev endQ : Str := (ofString "Builder._EndMap" ++ ".<locals>.") ++ "<lambda>"
noncomputable def EntOk (D : Dm) (out : List Int) (e : Ent) : Prop :=
 VIs D e.ka e.kp ∧ VIs D e.va e.p ∧ e.kp.ty = 4 ∧ e.kp.ok ∧ e.p.ok ∧ KeyOk e.key ∧ KeyLies out e.kp.v.toNat e.key ∧ e.kp.v ≤ out.length ∧ (inl e.p.ty = false → e.p.v ≤ out.length)
theorem EntOk.mono {D D' : Dm} {out : List Int} {e : Ent} (x : EntOk D out e) (l : Le D D') : EntOk D' out e := ek0_3 x fun a b r => ⟨a.mono l, b.mono l, r⟩
section
variable {γ : G} {A : Around} {D : Dm} {env : Env} {gl cl : List (Str × Value)} {vars : List (Str × Option Value)} {news rest : List (Addr × Obj)} {h : Heap} {t : Nat} {R : Value → Heap → Nat → Prop} {x buf stk : Addr} {force : Int} {out : List Int} {bo so to : Obj} {vs : List Value} {es : List Ent}
theorem codeHd_650 (w : World) : codeHdIn (hd.heap_1 w.params) 650 646 = true := by kernel_rfl
theorem ct_EndMap {ts : Tok} (S : SC γ D ((buf, bo) :: (stk, so) :: (646, to) :: rest) h) (r : Room A 9) (Bx : Bld D x buf stk force) (bm : BM D) (f0 : 0 ≤ force) (f1 : force ≤ 3) (hb : BaO out bo) (hs : LstO (vs ++ zip2 (kRefs es) (vRefs es)).toArray so) (hn : vs.length + 200 ≤ 100000)
  (tb : TabIs D 450 34 endQ to) (he : ∀ e ∈ es, EntOk D out e) (nd : (es.map (·.key)).Nodup) (h5 : es.length ≤ 60) (hl : out.length + 3000 ≤ 64000)
  (k : ∀ h t D' n tk to', TabIs D' 450 34 endQ to' → PushP γ D buf stk ((646, to') :: rest) vs (mapOut force (srt (es.map Ent.kps)) out).1 (mapOut force (srt (es.map Ent.kps)) out).2 D' h → R (.int n tk) h t) :
  VC γ A (.call (.ref 651) ⟨[.ref x, .int vs.length ts], []⟩) R h t := by
 have sz : sizeLine = 16777216 := sizeLine_eq
 have st := S.st
 refine' v_enter_cc S ?ho ?hcd r.lt [(ofString "self", .ref x), (ofString "start", .int vs.length ts)] [(ofString "start", .int vs.length ts)] [ofString "stack", ofString "key", ofString "pairs", ofString "pair", ofString "keys", ofString "values"] [(ofString "self", .ref x)]
  [(ofString "len", .builtin "len"), (ofString "Type_flexbuffers", .ref 229), (ofString "zip", .type "zip"), (ofString "sorted", .builtin "sorted")] ?hb ?hlb ?hcl ?ok (globs (by kernel_rfl)) ?_
 case ho => k_is
 case hcd => k_is
 case hb => with_unfolding_all rfl
 case ok => kernel_rfl
 case hlb => exact .cons (by tb_start) .nil
 case hcl => exact .cons (by tb_start) .nil
 clear S
 intro env D1 h t le1 hcode hqual F
 dsimp only [mkV, List.map, List.cons_append, List.nil_append] at F
 have Bx := Bx.mono le1
 have bm := bm.mono le1
 have tb := tb.mono le1
 have he : ∀ e ∈ es, EntOk D1 out e := fun e hm => (he e hm).mono le1
 have kl : (kRefs es).length = es.length := by simp
 have vl : (vRefs es).length = es.length := by simp
 have zl : (zip2 (kRefs es) (vRefs es)).length = 2 * es.length := by rw [zip2_length _ _ (by rw [kl, vl]), kl]
 kct_ten
 refine b_stack F Bx ?_
 kd_p
 refine w_sl ?_
 refine w_part_some ?_
 kd_p
 refine w_part_none ?_
 refine w_part_none ?_
 refine w_tsl F (F.got (by kas_types)) hs.ls (.int _ _) .none .none (by decide) (by rw [List.length_append, zl]; exact nZ (nA hn (nA h5 h5)) (by kcf_m)) (fun l1 lo1 h hl1 F => ?_)
 rw [slicePick_from', List.toList_toArray, List.drop_left] at hl1
 refine F.frzk fun D2 le2 e1 F => ?_
 kd_p
 kct_ten
 refine w_len_list (F.sc.keep _ _ e1) hl1.ls (by rw [zl]; exact nZ (nA h5 (nA h5 (Nat.le_of_eq sz.symm))) (by kcf_m)) ?_
 refine zl.symm ▸ ?_
 kd_p
 refine i_mod (by decide) ?_
 kd_p
 refine ⟨fun hc => ?_, fun ξ => ?_⟩
 ·simp at hc
 kd_p
 refine v_execs_consq ?_
 intro Q0 q0
 refine V.of_w ?_
 refine w_for ?_
 kd_p
 refine w_sl ?_
 refine w_part_none ?_
 refine w_part_none ?_
 refine w_part_some ?_
 kd_p
 refine w_tsl F (F.sc.keep _ _ e1) hl1.ls .none .none (.int _ _) (by decide) (by rw [zl]; exact nZ (nA h5 h5) (by kcf_m)) (fun l2 lo2 h hl2 F => ?_)
 rw [slice_step2' _ es.length (kRefs es) kl (by rw [List.size_toArray, zl]) (fun i hi => by rw [List.getElem?_toArray, zip2_even _ _ _ (by rw [kl, vl])])] at hl2
 refine F.frzk fun D3 le3 e2 F => ?_
 kd_p
 have geta : ∀ {i : Nat} {u : Value}, (kRefs es)[i]? = some u → ∃ e ∈ es, u = .ref e.ka := by
  intro i u h
  refine ek1_2 (refs_get h) fun a h1 z1 => ?_; obtain rfl := z1
  rw [List.getElem?_map] at h1
  cases q : es[i]? with
  | none => rw [q] at h1; cases h1
  | some e => rw [q] at h1; cases h1; exact ⟨e, List.mem_of_getElem? q, rfl⟩
 refine w_pyiter_lst F e2 hl2 fun it own h itr hst F => ?_
 refine w_for_c (itr _ .name (.inl ⟨_, _, rfl⟩)) r.hn (fun i D' Φ => ∀ uk, Φ [(ofString "start", some (.int vs.length ts)), (ofString "stack", some (.ref l1)), (ofString "key", uk), (ofString "pairs", none), (ofString "pair", none), (ofString "keys", none), (ofString "values", none)] ((buf, bo) :: (stk, so) :: (646, to) :: rest)) F hst (fun ξ j => j _) (fun ξ ξ ξ ξ ξ q => q) ?_ ?_
 ·rintro i D4 own u h t K0 k0 kr le4 hi hx uk F
  refine ek1_2 (geta hx) fun e hm z1 => ?_; obtain rfl := z1
  refine ek0_4 (((he e hm).mono ((le2.trans le3).trans le4))) fun v1 v2 t4 ξ => ?_
  refine ek1_4 v1.valI fun u1 hp1 hp2 hp3 hp4 => ?_
  refine w_asg_name ?_
  kd_p
  refine p_Type F (r.deeper.mono (by decide)) hp1 fun h t tk F => ?_
  refine t4.symm ▸ ?_
  kd_p
  refine ⟨fun hc => absurd hc (by decide), fun ξ => ?_⟩
  kd_p
  exact k0 D4 _ _ _ _ (Le.refl _) (fun ξ j => j _) F
 rintro D4 h t le4 uk F
 have e1 := le4 _ _ (le3 _ _ e1)
 refine q0 _ _ _ ?_
 clear q0 Q0
 kd_p
 kct_ten
 refine w_sl ?_
 refine w_part_none ?_
 refine w_part_none ?_
 refine w_part_some ?_
 kd_p
 refine w_tsl F (F.sc.keep _ _ e1) hl1.ls .none .none (.int _ _) (by decide) (by rw [zl]; exact nZ (nA h5 h5) (by kcf_m)) (fun l3 lo3 h hl3 F => ?_)
 rw [slice_step2' _ es.length (kRefs es) kl (by rw [List.size_toArray, zl]) (fun i hi => by rw [List.getElem?_toArray, zip2_even _ _ _ (by rw [kl, vl])])] at hl3
 refine F.frzk fun D5 le5 e3 F => ?_
 have e1 := le5 _ _ e1
 kd_p
 refine w_sl ?_
 refine w_part_some ?_
 kd_p
 refine w_part_none ?_
 refine w_part_some ?_
 kd_p
 refine w_tsl F (F.sc.keep _ _ e1) hl1.ls (.int _ _) .none (.int _ _) (by decide) (by rw [zl]; exact nZ (nA h5 h5) (by kcf_m)) (fun l4 lo4 h hl4 F => ?_)
 have sl4 := slice_step2 (zip2 (kRefs es) (vRefs es)).toArray 1 es.length (vRefs es) vl (by rw [List.size_toArray, zl]; kcf_m) (fun i hi => by rw [List.getElem?_toArray, Nat.add_comm, zip2_odd _ _ _ (by rw [kl, vl])])
 rw [show (((1 : Nat) : Int)) = 1 from rfl] at sl4
 rw [sl4] at hl4
 refine F.frzk fun D6 le6 e4 F => ?_
 kd_p
 refine w_call_zip F (le6 _ _ e3) hl3 e4 hl4 fun z TI TO i1 i2 D7 own h le7 stz F => ?_
 kd_p
 kct_ten
 refine w_cw_bik ?_
 kd_p
 refine ek4_1 stz.shape fun oz oO o1 o2 z1 => ?_; obtain rfl := z1
 kso_len
 have bm := bm.mono (((((le2.trans le3).trans le4).trans le5).trans le6).trans le7)
 have tb := tb.mono (((((le2.trans le3).trans le4).trans le5).trans le6).trans le7)
 have Bx := Bx.mono (((((le2.trans le3).trans le4).trans le5).trans le6).trans le7)
 have he : ∀ e ∈ es, EntOk D7 out e := fun e hm => (he e hm).mono (((((le2.trans le3).trans le4).trans le5).trans le6).trans le7)
 refine ek0_4 (F.e.ck (ofString "self", .ref x) (.head _)) fun ξ ξ ξ z1 => ?_; refine ek2_3 z1 fun cs co hcs eco dco => ?_; clear z1
 refine w_lambda (F.pick (by kas_types)) bm hcode (codeHd_of F.sc.inK (codeHd_650 _)) (by rw [hqual]; exact tb) (clos := [(ofString "self", cs)]) (by simp [closureFor, cellOf, hcs]) rfl fun D8 f c' ctv to1 pm h t le8 ef ca tb1 F => ?_
 rw [hqual] at ef ca tb1
 kd_p
 have stz := stz.mono le8
 have Bx := Bx.mono le8
 have he : ∀ e ∈ es, EntOk D8 out e := fun e hm => (he e hm).mono le8
 refine F.outk (ps := [(z, oz), (TO, oO), (i1, o1), (i2, o2)]) (by kp_flats) fun oL S back => ?_
 refine w_sorted (K := hd.heap_1 γ.w.params) (D := D8) (news := (env.locals, oL) :: (646, to1) :: (buf, bo) :: (stk, so) :: rest) (κ := bytKind) (ks := es.map (·.key)) bytKind_oneLt byt_kind (ksk_s1 _ _) (fun x => ksk_l1 _ _) (fun x => ksk_t1 _ _) (w_collect_zip r.hn stz S (by rw [kl, vl]) (by rw [kl]; exact Nat.le_trans h5 (by decide)) fun D9 acc h t le9 pa S => ?_)
 rw [kl] at pa
 have eco := le9 _ _ (le8 _ _ eco)
 have ef := le9 _ _ ef
 have ca := ca.mono le9
 have Bx := Bx.mono le9
 have he : ∀ e ∈ es, EntOk D9 out e := fun e hm => (he e hm).mono le9
 have pget : ∀ {j : Nat} {e : Ent} {v : Value}, es[j]? = some e → acc[j]? = some v → ∃ a o, v = .ref a ∧ D9 a = some o ∧ TupO [.ref e.ka, .ref e.va] o := by
  intro j e v h1 h2
  obtain ⟨hj, _⟩ := List.getElem?_eq_some_iff.mp h1
  refine ek4_5 (pa.2 j hj) fun a o x1 y1 p1 p2 p3 p4 p5 => ?_
  rw [h2] at p1; cases p1
  have q4 : (kRefs es)[j]? = some (.ref e.ka) := by rw [List.getElem?_map, List.getElem?_map, h1]; rfl
  have q5 : (vRefs es)[j]? = some (.ref e.va) := by rw [List.getElem?_map, List.getElem?_map, h1]; rfl
  rw [p4] at q4; cases q4
  rw [p5] at q5; cases q5
  exact ⟨a, o, rfl, p2, p3⟩
 refine ⟨D9, le9, S, by rw [pa.1]; exact Nat.lt_of_le_of_lt h5 (by decide), by rw [pa.1, List.length_map], ?_, ?_⟩
 ·intro i v kk hv hk D10 own h t le10 S
  rw [List.getElem?_map] at hk
  cases qe : es[i]? with
  | none => rw [qe] at hk; cases hk
  | some e =>
  rw [qe] at hk; cases hk
  refine ek2_3 (pget qe hv) fun a o z1 eo To => ?_; obtain rfl := z1
  refine ek0_9 ((he e (List.mem_of_getElem? qe)).mono le10) fun v1 v2 t4 ok4 ok5 kok klies kle ξ => ?_
  refine ek1_4 v1.valI fun u1 hp1 hp2 hp3 hp4 => ?_
  refine ek1_1 (hp3 (by rw [t4]; decide)) fun tku z1 => ?_; obtain rfl := z1
  have v0 : 0 ≤ e.kp.v := e.kp.v0 ok4 (by rw [t4]; rfl)
  refine w_call (w_call_lam S (le10 _ _ ef) (ca.mono le10) r.deeper.in1.in1.lt [(ofString "pair", .ref a)] [] [(ofString "self", .ref x)] (by with_unfolding_all rfl) (by kernel_rfl) trivial ?_ fun env2 h t F => ?_)
  ·intro p hp
   simp only [List.mem_singleton] at hp
   subst hp
   exact ⟨rfl, rfl, rfl, cs, co, rfl, le10 _ _ eco, dco⟩
  dsimp only [mkV, List.map, List.cons_append, List.nil_append] at F
  kd_p
  refine b_meth F (Bx.mono le10) (by tb_start) (by tb_start) ?_
  kd_p
  refine w_attr_sub ?_
  kd_p
  refine w_tt F (le10 _ _ eo) To ?_
  kd_p
  refine p_Value F (r.deeper.in1.in1.deeper.mono (by decide)) hp1 fun h t F => ?_
  kd_p
  refine ek1_2 F.f fun oL2 S2 fr => ?_
  have ev : e.kp.v = ((e.kp.v.toNat : Nat) : Int) := (Int.toNat_of_nonneg v0).symm
  refine ev.symm ▸ ?_
  refine w_call (ct_ReadKey S2 (by simp) (r.deeper.in1.in1.deeper.mono (by decide)) (Bx.mono le10) hb (le_a hl (by decide)) kok klies fun h t b tk eb S => ?_)
  exact ⟨by show some _ = some _; rw [eb], D10, Le.refl _, S.drop⟩
 intro D10 l5 outl o5 h t le10 so5 hl5 S
 have F := back _ [(l5, o5)] _ (le9.trans le10) S
 kso_len
 clear back
 refine ek1_3 (sorted_ents (κ := bytKind) rfl byt_le (ks := es.map (·.key)) (by simp) (pa.1) nd so5) fun T hT eo5 es5 => ?_
 have stT : ∀ t ∈ T, ∃ a o, t.2 = .ref a ∧ D9 a = some o ∧ TupO [.ref t.1.ka, .ref t.1.va] o ∧ t.1 ∈ es := by
  intro t ht
  refine ek1_1 (List.getElem?_of_mem (hT.mem_iff.mp ht)) fun j hj => ?_
  refine ek0_2 (List.getElem?_zip_eq_some.mp hj) fun h1 h2 => ?_
  refine ek2_3 (pget h1 h2) fun a o r1 r2 r3 => ?_
  exact ⟨a, o, r1, r2, r3, List.mem_of_getElem? h1⟩
 have Tl : T.length = es.length := by rw [hT.length_eq, List.length_zip, pa.1, Nat.min_self]
 obtain ⟨es2, hes2⟩ : ∃ es2, es2 = T.map (·.1) := ⟨_, rfl⟩
 have el2 : es2.length = es.length := by rw [hes2, List.length_map, Tl]
 have he2 : ∀ e ∈ es2, EntOk D10 out e := by
  intro e hm
  rw [hes2] at hm
  obtain ⟨t, ht, rfl⟩ := List.mem_map.mp hm
  refine ek2_4 (stT t ht) fun ξ ξ ξ ξ ξ hm' => ?_
  exact (he _ hm').mono le10
 have mo : mapOut force (srt (es.map Ent.kps)) out = vecOut false force (some (vecOut true force none (es2.map (·.kp)) out).2) (es2.map (·.p)) (vecOut true force none (es2.map (·.kp)) out).1 := by
  rw [es5]
  have a1 : (T.map fun t => t.1.kps).map (·.2.1) = es2.map (·.kp) := by rw [hes2, List.map_map, List.map_map]; rfl
  have a2 : (T.map fun t => t.1.kps).map (·.2.2) = es2.map (·.p) := by rw [hes2, List.map_map, List.map_map]; rfl
  unfold mapOut
  rw [a1, a2]
 refine F.frzk fun D11 le11 e5 F => ?_
 kd_p
 have Bx := Bx.mono (le10.trans le11)
 kct_ten
 refine w_del_sub ?_
 kd_p
 refine b_stack F Bx ?_
 kd_p
 refine w_sl ?_
 refine w_part_some ?_
 kd_p
 refine w_part_none ?_
 refine w_part_none ?_
 refine w_delitem_from F (by kas_types) hs (by rw [List.length_append]; exact Nat.le_add_right _ _) (by rw [List.length_append, zl]; exact nZ (nA hn (nA h5 h5)) (by kcf_m)) fun so2 h hs2 F => ?_
 rw [List.take_left] at hs2
 kd_p
 refine v_execs_consq ?_
 intro Q0 q0
 refine V.of_w ?_
 refine w_for ?_
 kd_p
 refine w_pyiter_lst F e5 hl5 fun it own h itr hst F => ?_
 refine w_for_c (itr _ .name (.inl ⟨_, _, rfl⟩)) r.hn (fun i D' Φ => ∀ up so', (LstO (vs ++ zip2 (kRefs (es2.take i)) (vRefs (es2.take i))).toArray so') → Φ [(ofString "start", some (.int vs.length ts)), (ofString "stack", some (.ref l1)), (ofString "key", uk), (ofString "pairs", some (.ref l5)), (ofString "pair", up), (ofString "keys", none), (ofString "values", none)] ((stk, so') :: (646, to1) :: (buf, bo) :: rest)) F hst (fun ξ j => j _ _ (by simpa [zip2] using hs2)) (fun ξ ξ ξ ξ ξ q => q) ?_ ?_
 ·rintro i D12 own u h t K0 k0 kr le12 hi hx up so3 hs3 F
  rw [eo5, List.getElem?_map] at hx
  cases qt : T[i]? with
  | none => rw [qt] at hx; cases hx
  | some tt =>
  rw [qt] at hx
  obtain rfl : u = tt.2 := (Option.some.inj hx).symm
  refine ek2_4 (stT tt (List.mem_of_getElem? qt)) fun a o r1 r2 r3 r4 => ?_
  refine r1.symm ▸ ?_
  have r2 := le12 _ _ (le11 _ _ (le10 _ _ r2))
  have ei : es2[i]? = some tt.1 := by rw [hes2, List.getElem?_map, qt]; rfl
  refine ek1_1 (List.getElem?_eq_some_iff.mp ei) fun hi2 ei2 => ?_
  have etk : es2.take (i + 1) = es2.take i ++ [tt.1] := by rw [List.take_succ_eq_append_getElem hi2, ei2]
  have Bx := Bx.mono le12
  refine w_asg_name ?_
  kd_p
  refine b_stack F Bx ?_
  kd_p
  refine w_getm_list PySem.F.slot_list_extend PySem.F.type_list_extend (F.got (by kas_types)) hs3 ?_
  kd_p
  refine ek1_1 r3 fun no z1 => ?_; clear r3; obtain rfl := z1
  have hne : a ≠ stk := fun q => by
   have := F.sc.off (stk, so3) (by simp)
   rw [← q, r2] at this; cases this
  refine w_lextend (T := "tuple") (.inr rfl) F (by kas_types) hs3 (F.sc.keep _ _ r2) hne (by rw [List.length_append, zip2_length _ _ (by simp)]; simp; kcf_m) fun so4 h hs4 F => ?_
  refine ⟨trivial, ?_⟩
  kd_p
  refine k0 D12 _ _ _ _ (Le.refl _) (fun ξ j => j _ _ ?_) F
  have ez : zip2 (kRefs (es2.take (i + 1))) (vRefs (es2.take (i + 1))) = zip2 (kRefs (es2.take i)) (vRefs (es2.take i)) ++ [.ref tt.1.ka, .ref tt.1.va] := by
   rw [etk]
   simp only [kRefs, vRefs, List.map_append, List.map_cons, List.map_nil]
   exact zip2_append _ _ _ _ (by simp)
  rw [ez, ← List.append_assoc]
  exact hs4
 rintro D12 h t le12 up so3 hs3 F
 have eol : outl.length = es2.length := by rw [eo5, List.length_map, el2, Tl]
 rw [eol, List.take_length] at hs3
 have Bx := Bx.mono le12
 have he2 : ∀ e ∈ es2, EntOk D12 out e := fun e hm => (he2 e hm).mono (le11.trans le12)
 have kl2 : (kRefs es2).length = es2.length := by simp
 have vl2 : (vRefs es2).length = es2.length := by simp
 have zl2 : (zip2 (kRefs es2) (vRefs es2)).length = 2 * es2.length := by rw [zip2_length _ _ (by rw [kl2, vl2]), kl2]
 refine q0 _ _ _ ?_
 clear q0 Q0
 kd_p
 kct_fill
 refine b_meth F Bx (by tb_start) (by tb_start) ?_
 kd_p
 refine b_stack F Bx ?_
 kd_p
 refine w_sl ?_
 refine w_part_some ?_
 kd_p
 refine w_part_none ?_
 refine w_part_some ?_
 kd_p
 refine w_tsl F (F.got (by kas_types)) hs3.ls (.int _ _) .none (.int _ _) (by decide) (by rw [List.length_append, zl2]; exact nZ (nA hn (nA h5 (nA h5 (nA (Nat.le_of_eq el2) (Nat.le_of_eq el2))))) (by kcf_m)) (fun l6 lo6 h hl6 F => ?_)
 have sl6 := slice_step2 (vs ++ zip2 (kRefs es2) (vRefs es2)).toArray vs.length es2.length (kRefs es2) kl2 (by rw [List.size_toArray, List.length_append, zl2]; kcf_m) (fun i hi => by rw [List.getElem?_toArray, List.getElem?_append_right (Nat.le_add_right _ _), Nat.add_sub_cancel_left, zip2_even _ _ _ (by rw [kl2, vl2])])
 rw [sl6] at hl6
 refine F.frzk fun D13 le13 e6 F => ?_
 have Bx := Bx.mono le13
 kd_p
 have okk : ∀ p ∈ es2.map (·.kp), p.ok := by
  intro p hp
  obtain ⟨e, hm, rfl⟩ := List.mem_map.mp hp
  exact (he2 e hm).2.2.2.1
 have okp : ∀ p ∈ es2.map (·.p), p.ok := by
  intro p hp
  obtain ⟨e, hm, rfl⟩ := List.mem_map.mp hp
  exact (he2 e hm).2.2.2.2.1
 have plk : ∀ (p : Pv), p ∈ es2.map (·.kp) → inl p.ty = false → p.v ≤ (out.length : Int) := by
  intro p hp _
  obtain ⟨e, hm, rfl⟩ := List.mem_map.mp hp
  exact (he2 e hm).2.2.2.2.2.2.2.1
 have plp : ∀ (p : Pv), p ∈ es2.map (·.p) → inl p.ty = false → p.v ≤ (out.length : Int) := by
  intro p hp
  refine ek1_2 (List.mem_map.mp hp) fun e hm z1 => ?_; obtain rfl := z1
  exact (he2 e hm).2.2.2.2.2.2.2.2
 have t4s : ∀ p ∈ es2.map (·.kp), p.ty = 4 := by
  intro p hp
  obtain ⟨e, hm, rfl⟩ := List.mem_map.mp hp
  exact (he2 e hm).2.2.1
 have vsk : VsAre D12 (es2.map (·.ka)) (es2.map (·.kp)) := by
  refine ⟨by simp, fun i a p h1 h2 => ?_⟩
  rw [List.getElem?_map] at h1 h2
  cases q : es2[i]? with
  | none => rw [q] at h1; cases h1
  | some e => rw [q] at h1 h2; cases h1; cases h2; exact (he2 e (List.mem_of_getElem? q)).1
 have vsp : VsAre D12 (es2.map (·.va)) (es2.map (·.p)) := by
  refine ⟨by simp, fun i a p h1 h2 => ?_⟩
  rw [List.getElem?_map] at h1 h2
  cases q : es2[i]? with
  | none => rw [q] at h1; cases h1
  | some e => rw [q] at h1 h2; cases h1; cases h2; exact (he2 e (List.mem_of_getElem? q)).2.1
 have lk : (es2.map (·.kp)).length = es2.length := by simp
 have lp : (es2.map (·.p)).length = es2.length := by simp
 refine F.outk (ps := [(buf, bo)]) (by kp_flats) fun oL S back => ?_
 refine v_call (ct_CV (ky := .n) (kk := none) rfl rfl rfl (.inr (.inl ⟨rfl, rfl⟩)) S (r.deeper.mono (by decide)) Bx f0 f1 hb e6 hl6 (vsk.mono le13) okk plk trivial (fun ξ => t4s) (by kcf_m) fun h t D14 bo2 kva le14 hb2 Vk S => ?_)
 have F := back _ [(buf, bo2)] _ le14 S
 kso_len
 kd_p
 have Bx := Bx.mono le14
 have ol := vecOut_length true (k := none) (out := out) f0 f1 (fun p e => by cases e) okk
 have ook := vecOut_ok true (k := none) (out := out) f0 f1 (fun p e => by cases e) okk
 have opl := vecOut_place true (force := force) (k := none) (ps := es2.map (·.kp)) (out := out)
 have oty : (vecOut true force none (es2.map (·.kp)) out).2.ty = 14 := rfl
 kct_fill
 refine b_meth F Bx (by tb_start) (by tb_start) ?_
 kd_p
 refine b_stack F Bx ?_
 kd_p
 refine w_sl ?_
 refine w_part_some ?_
 kd_p
 refine w_part_none ?_
 refine w_part_some ?_
 kd_p
 refine w_tsl F (F.got (by kas_types)) hs3.ls (.int _ _) .none (.int _ _) (by decide) (by rw [List.length_append, zl2]; exact nZ (nA hn (nA h5 (nA h5 (nA (Nat.le_of_eq el2) (Nat.le_of_eq el2))))) (by kcf_m)) (fun l7 lo7 h hl7 F => ?_)
 have sl7 := slice_step2 (vs ++ zip2 (kRefs es2) (vRefs es2)).toArray (vs.length + 1) es2.length (vRefs es2) vl2 (by refine List.size_toArray.symm ▸ ?_; refine List.length_append.symm ▸ ?_; refine zl2.symm ▸ ?_; kcf_m) (fun i hi => by
  rw [List.getElem?_toArray, List.getElem?_append_right (by kcf_m), show vs.length + 1 + 2 * i - vs.length = 2 * i + 1 by kcf_m, zip2_odd _ _ _ (by rw [kl2, vl2])])
 rw [show (((vs.length + 1 : Nat) : Int)) = (vs.length : Int) + 1 by exact rfl] at sl7
 rw [sl7] at hl7
 refine F.frzk fun D15 le15 e7 F => ?_
 have Bx := Bx.mono le15
 kd_p
 refine F.outk (ps := [(buf, bo2)]) (by kp_flats) fun oL S back => ?_
 generalize hko : vecOut true force none (es2.map (·.kp)) out = ko at *
 refine v_call (ct_CV (ky := .s _ _) (kk := some _) rfl rfl rfl (.inr (.inr rfl)) S (r.deeper.mono (by decide)) Bx f0 f1 hb2 e7 hl7 (vsp.mono ((le13.trans le14).trans le15)) okp (fun p hp hin => Int.le_trans (plp p hp hin) (cE (out.length) (ko.fst.length) (nZ ol.1 (by kcf_m)))) ⟨Vk.mono le15, ook, (by rw [oty]; decide), opl⟩ (fun e => absurd e Bool.false_ne_true) (by kcf_m) fun h t D16 bo3 va le16 hb3 Vh S => ?_)
 have F := back _ [(buf, bo3)] _ le16 S
 kso_len
 kd_p
 have Bx := Bx.mono le16
 kct_ten
 refine w_del_sub ?_
 kd_p
 refine b_stack F Bx ?_
 kd_p
 refine w_sl ?_
 refine w_part_some ?_
 kd_p
 refine w_part_none ?_
 refine w_part_none ?_
 refine w_delitem_from F (by kas_types) hs3 (by rw [List.length_append]; exact Nat.le_add_right _ _) (by rw [List.length_append, zl2]; exact nZ (nA hn (nA h5 (nA h5 (nA (Nat.le_of_eq el2) (Nat.le_of_eq el2))))) (by kcf_m)) fun so4 h hs4 F => ?_
 rw [List.take_left] at hs4
 kd_p
 kct_fill
 refine b_stack F Bx ?_
 kd_p
 refine w_getm_list PySem.F.slot_list_append PySem.F.type_list_append (F.got (by kas_types)) hs4 ?_
 kd_p
 refine V.of_w (w_lappend F (by kas_types) hs4 (le_a hn (by decide)) fun so5 h hs5 F => ?_)
 refine ⟨trivial, ?_⟩
 kd_p
 kct_fill
 refine ek1_4 Vh.valI fun u h1 h2 h3 h4 => ?_
 refine p_Value F (r.deeper.mono (by decide)) h1 fun h t F => ?_
 kd_p
 obtain ⟨tk, rfl⟩ := h3 (by show (9 : Int) ≠ 26; decide)
 have leA := (((((le2.trans le3).trans le4).trans le5).trans le6).trans le7).trans le8
 have leB := (((((le11.trans le12).trans le13).trans le14).trans le15).trans le16)
 refine k _ _ D16 _ _ to1 (tb1.mono ((le9.trans le10).trans leB)) ?_
 rw [mo]
 exact ⟨bo3, so5, va, (le1.trans leA).trans ((le9.trans le10).trans leB), hb3, hs5, Vh, F.sc.perm (.swap _ _ _)⟩
end
end
section
open _root_.PySem.Spec
noncomputable def Ext (a b : List Int) : Prop := ∃ m, b = a ++ m
theorem Ext.refl (a : List Int) : Ext a a := ⟨[], (List.append_nil a).symm⟩
theorem Ext.trans {a b c : List Int} : Ext a b → Ext b c → Ext a c := fun ⟨m, e⟩ ⟨n, f⟩ => ⟨m ++ n, by rw [f, e, List.append_assoc]⟩
theorem Ext.app (a m : List Int) : Ext a (a ++ m) := ⟨m, rfl⟩
theorem Ext.len {a b : List Int} : Ext a b → a.length ≤ b.length := fun ⟨m, e⟩ => e ▸ List.length_append ▸ Nat.le_add_right _ _
theorem KeyLies.ext {a b : List Int} {n : Nat} {k : List Nat} (x : ∃ post, a.drop n = kOct k ++ 0 :: post) (e : Ext a b) (hn : n ≤ a.length) : ∃ post, b.drop n = kOct k ++ 0 :: post := by
 obtain ⟨post, h⟩ := x
 obtain ⟨m, rfl⟩ := e
 refine ⟨post ++ m, ?_⟩
 rw [List.drop_append_of_le_length hn, h, List.append_assoc]; rfl
theorem ext_blob (row out : List Int) : Ext out (blobA row out) := ⟨_, by unfold blobA; rw [List.append_assoc]⟩
theorem blob_length (row out : List Int) : (blobA row out).length ≤ out.length + 16 := by
 have wr := bw_range row.length
 obtain ⟨B, wb⟩ := wb_pw wr.1 wr.2
 have wl := wb.2.2.2.range
 have pl := padN_length out.length (show 0 < pw (bw row.length) by exact wl.1)
 unfold blobA
 rw [List.length_append, List.length_append, KTBy.little_length]
 exact nZ (nA wl.2 (nA wl.2 pl)) (by kcf_m)
theorem ext_cells (m : Nat) : ∀ (ps : List Pv) (out : List Int), Ext out (cells m ps out)
 | [], out => .refl _
 | p :: ps, out => (Ext.app out (cell m out.length p)).trans (ext_cells m ps _)
theorem ext_vec (typed : Bool) (force : Int) (k : Option Pv) (ps : List Pv) (out : List Int) : Ext out (vecOut typed force k ps out).1 := by
 have h1 : Ext out (rowHead (pw (rowBits force out.length k ps)) k ps out) := by
  cases k <;> unfold rowHead <;> simp only [List.append_assoc] <;> exact .app _ _
 have h2 := h1.trans (ext_cells (pw (rowBits force out.length k ps)) ps _)
 unfold vecOut
 cases typed
 ·exact h2.trans (.app _ _)
 ·exact h2
theorem ext_map (force : Int) (s : List Kp) (out : List Int) : Ext out (mapOut force s out).1 := (ext_vec _ _ _ _ _).trans (ext_vec _ _ _ _ _)
structure LayOk (out : List Int) (r : List Int × Pv) (m : Nat) : Prop where
 ok : r.2.ok
 place : inl r.2.ty = false → r.2.v ≤ (r.1.length : Int)
 ext : Ext out r.1
 len : r.1.length + 100 ≤ out.length + m
structure AllOk (out : List Int) (r : List Int × List Pv) (m n : Nat) : Prop where
 ok : ∀ p ∈ r.2, p.ok
 place : ∀ p ∈ r.2, inl p.ty = false → p.v ≤ (r.1.length : Int)
 ext : Ext out r.1
 len : r.1.length + 100 * n ≤ out.length + m
theorem lenK {a b c d e m n : Nat} (h : a + 100 * (n + 1) = e) (x : b + 100 ≤ c + d) (y : a + 100 * n ≤ b + m) : e ≤ c + (d + m) := nZ (nA (Nat.le_of_eq h.symm) (nA x y)) (by kcf_m)
theorem allOk {f : Tree → List Int → List Int × Pv} {c : Tree → Nat} : ∀ (l : List Tree) (out : List Int), (∀ t ∈ l, ∀ out, LayOk out (f t out) (c t)) → AllOk out (layAll f l out) ((l.map c).sum) l.length
 | [], out, _ => ⟨fun p h => (nomatch h), fun p h => (nomatch h), .refl _, Nat.le_refl _⟩
 | t :: ts, out, h => by
  have a := h t (.head _) out
  have b := allOk ts (f t out).1 (fun t ht => h t (.tail _ ht))
  have e := b.ext.len
  refine ⟨fun p hp => ?_, fun p hp => ?_, a.ext.trans b.ext, ?_⟩
  ·rcases List.mem_cons.mp hp with rfl | hp
   ·exact a.ok
   ·exact b.ok p hp
  ·rcases List.mem_cons.mp hp with rfl | hp
   ·intro hi
    have := a.place hi
    show _ ≤ ((layAll f ts (f t out).1).1.length : Int)
    kcf_m
   ·exact b.place p hp
  ·exact lenK (show (layAll f ts (f t out).1).1.length + 100 * (ts.length + 1) = _ from rfl) a.len b.len
structure MapOk (out : List Int) (r : List Int × List Kp) (m n : Nat) : Prop where
 ok : ∀ q ∈ r.2, q.2.1.ok ∧ q.2.1.ty = 4 ∧ q.2.1.v ≤ (r.1.length : Int) ∧ q.2.2.ok ∧ (inl q.2.2.ty = false → q.2.2.v ≤ (r.1.length : Int))
 ext : Ext out r.1
 len : r.1.length + 90 * n ≤ out.length + m
theorem mapOk {f : Tree → List Int → List Int × Pv} {c : Tree → Nat} : ∀ (l : List (List Nat × Tree)) (out : List Int), (∀ q ∈ l, KeyOk q.1 ∧ ∀ out, LayOk out (f q.2 out) (c q.2)) → MapOk out (layMap f l out) ((l.map fun q => c q.2).sum) l.length
 | [], out, _ => ⟨fun p h => (nomatch h), .refl _, Nat.le_refl _⟩
 | (k, t) :: ts, out, h => by
  obtain ⟨hk, ha⟩ := h (k, t) (.head _)
  have ha : ∀ out, LayOk out (f t out) (c t) := ha
  have a := ha (out ++ kOct k ++ [0])
  have b := mapOk ts (f t (out ++ kOct k ++ [0])).1 (fun t ht => h t (.tail _ ht))
  have e1 : Ext out (out ++ kOct k ++ [0]) := ⟨kOct k ++ [0], List.append_assoc _ _ _⟩
  have e := b.ext.len
  have e2 := (e1.trans a.ext).len
  have kl : (kOct k).length ≤ 8 := Nat.le_trans (Nat.le_of_eq (List.length_map _)) hk.1
  have el : (out ++ kOct k ++ [0]).length = out.length + (kOct k).length + 1 := by rw [List.length_append, List.length_append]; rfl
  refine ⟨fun p hp => ?_, (e1.trans a.ext).trans b.ext, ?_⟩
  ·rcases List.mem_cons.mp hp with rfl | hp
   ·refine ⟨.inr (.inr (.inr (by simp))), rfl, ?_, a.ok, fun hi => ?_⟩
    ·show (out.length : Int) ≤ ((layMap f ts (f t (out ++ kOct k ++ [0])).1).1.length : Int)
     kcf_m
    ·have := a.place hi
     show (f t (out ++ kOct k ++ [0])).2.v ≤ ((layMap f ts (f t (out ++ kOct k ++ [0])).1).1.length : Int)
     kcf_m
   ·exact b.ok p hp
  ·have h1 := a.len
   have h2 : (layMap f ts (f t (out ++ kOct k ++ [0])).1).1.length + 90 * ts.length ≤ (f t (out ++ kOct k ++ [0])).1.length + (ts.map fun q => c q.2).sum := b.len
   show (layMap f ts (f t (out ++ kOct k ++ [0])).1).1.length + 90 * (ts.length + 1) ≤ out.length + (c t + (ts.map fun q => c q.2).sum)
   exact nZ (nA kl (nA (Nat.le_of_eq el) (nA h1 h2))) (by kcf_m)
theorem mul_sum {α : Type} (k : Nat) (c : α → Nat) : ∀ l : List α, (l.map fun t => k * c t).sum = k * (l.map c).sum
 | [] => rfl
 | a :: l => (congrArg (k * c a + ·) (mul_sum k c l)).trans (Nat.mul_add k (c a) _).symm
theorem lay_ok {force : Int} (f0 : 0 ≤ force) (f1 : force ≤ 3) : ∀ (n : Nat) (t : Tree) (out : List Int), Ok n t → LayOk out (lay force n t out) (1000 * nodes n t) := by
 have turn : ∀ n, (∀ m, n = m + 1 → ∀ (t : Tree) (out : List Int), Ok m t → LayOk out (lay force m t out) (1000 * nodes m t)) → ∀ (t : Tree) (out : List Int), Ok n t → LayOk out (lay force n t out) (1000 * nodes n t) := by
  intro n sub t out h
  have s1 : out.length + 100 ≤ out.length + 1000 * 1 := Nat.add_le_add_left (by decide) _
  cases t with
  | none => rw [lay0, node0]; exact ⟨.inl ⟨rfl, rfl, rfl⟩, fun h => absurd (show inl 0 = false from h) (by decide), .refl _, s1⟩
  | truth b => rw [lay1, node1]; exact ⟨.inr (.inl ⟨rfl, by cases b; exact .inl rfl; exact .inr rfl, rfl⟩), fun h => absurd (show inl 26 = false from h) (by decide), .refl _, s1⟩
  | num k => rw [lay2, node2]; exact ⟨.inr (.inr (.inl ⟨rfl, (ok2.mp h).1, (ok2.mp h).2, rfl⟩)), fun h => absurd (show inl 1 = false from h) (by decide), .refl _, s1⟩
  | text bs =>
   have hk := ok3.mp h
   have b := blob_length bs out
   have br := bw_range bs.length
   rw [lay3, node3]
   refine ⟨.inr (.inr (.inr ⟨(by decide : (3 : Int) < 5), (by decide : (5 : Int) ≠ 26), (by decide : (5 : Int) < 30), Int.natCast_nonneg _, br.1, br.2⟩)), fun ξ => ?_, ?_, ?_⟩
   ·rw [List.append_assoc]; show ((blobA bs out).length : Int) ≤ ((blobA bs out ++ (bs ++ [0])).length : Int); rw [List.length_append]; exact cE ((blobA bs out).length) ((blobA bs out).length + (bs ++ [0]).length) (by kcf_m)
   ·rw [List.append_assoc]; exact (ext_blob bs out).trans (.app _ _)
   ·show (blobA bs out ++ bs ++ [0]).length + 100 ≤ _; rw [List.length_append, List.length_append]; show _ + 1 + 100 ≤ _; exact nZ (nA hk b) (by kcf_m)
  | oct bs =>
   have hk := ok4.mp h
   have b := blob_length bs out
   have br := bw_range bs.length
   rw [lay4, node4]
   refine ⟨.inr (.inr (.inr ⟨(by decide : (3 : Int) < 25), (by decide : (25 : Int) ≠ 26), (by decide : (25 : Int) < 30), Int.natCast_nonneg _, br.1, br.2⟩)), fun ξ => ?_, ?_, ?_⟩
   ·show ((blobA bs out).length : Int) ≤ ((blobA bs out ++ bs).length : Int); rw [List.length_append]; exact cE ((blobA bs out).length) ((blobA bs out).length + bs.length) (by kcf_m)
   ·exact (ext_blob bs out).trans (.app _ _)
   ·show (blobA bs out ++ bs).length + 100 ≤ _; rw [List.length_append]; exact nZ (nA hk b) (by kcf_m)
  | row l =>
   cases n with
   | zero => exact h.elim
   | succ n =>
    have ih := sub n rfl
    clear sub
    obtain ⟨hl, ht⟩ := h
    have a := allOk (f := lay force n) (c := fun t => 1000 * nodes n t) l out (fun t m out => ih t out (ht t m))
    have vl := vecOut_length false (k := none) (ps := (layAll (lay force n) l out).2) (out := (layAll (lay force n) l out).1) f0 f1 (fun p e => by cases e) a.ok
    have len := a.len
    have ll := layAll_length (lay force n) l out
    rw [mul_sum] at len
    refine ⟨vecOut_ok false f0 f1 (fun p e => by cases e) a.ok, fun ξ => vecOut_place false, a.ext.trans (ext_vec _ _ _ _ _), ?_⟩
    show (vecOut false force none (layAll (lay force n) l out).2 (layAll (lay force n) l out).1).1.length + 100 ≤ out.length + 1000 * (1 + (l.map (nodes n)).sum)
    kcf_m
  | map l =>
   cases n with
   | zero => exact h.elim
   | succ n =>
    have ih := sub n rfl
    clear sub
    refine ek0_3 h fun hl nd ht => ?_; clear h
    have a := mapOk (f := lay force n) (c := fun t => 1000 * nodes n t) l out (fun q m => ⟨(ht q m).1, fun out => ih q.2 out (ht q m).2⟩)
    have sp := srt_perm (layMap (lay force n) l out).2
    have o1 : ∀ p ∈ (srt (layMap (lay force n) l out).2).map (·.2.1), p.ok := fun p hp => by
     obtain ⟨q, hq, rfl⟩ := List.mem_map.mp hp
     exact (a.ok q (sp.mem_iff.mp hq)).1
    have o2 : ∀ p ∈ (srt (layMap (lay force n) l out).2).map (·.2.2), p.ok := fun p hp => by
     obtain ⟨q, hq, rfl⟩ := List.mem_map.mp hp
     exact (a.ok q (sp.mem_iff.mp hq)).2.2.2.1
    have v1 := vecOut_length true (k := none) (ps := (srt (layMap (lay force n) l out).2).map (·.2.1)) (out := (layMap (lay force n) l out).1) f0 f1 (fun p e => by cases e) o1
    have k1 := vecOut_ok true (k := none) (ps := (srt (layMap (lay force n) l out).2).map (·.2.1)) (out := (layMap (lay force n) l out).1) f0 f1 (fun p e => by cases e) o1
    have v2 := vecOut_length false (k := some (vecOut true force none ((srt (layMap (lay force n) l out).2).map (·.2.1)) (layMap (lay force n) l out).1).2) (ps := (srt (layMap (lay force n) l out).2).map (·.2.2))
     (out := (vecOut true force none ((srt (layMap (lay force n) l out).2).map (·.2.1)) (layMap (lay force n) l out).1).1) f0 f1 (fun p e => by cases e; exact k1) o2
    have len := a.len
    have ll := layMap_length (lay force n) l out
    have sl := sp.length_eq
    rw [mul_sum] at len
    refine ⟨vecOut_ok false f0 f1 (fun p e => by cases e; exact k1) o2, fun ξ => vecOut_place false, a.ext.trans (ext_map _ _ _), ?_⟩
    show (vecOut false force (some (vecOut true force none ((srt (layMap (lay force n) l out).2).map (·.2.1)) (layMap (lay force n) l out).1).2) ((srt (layMap (lay force n) l out).2).map (·.2.2)) (vecOut true force none ((srt (layMap (lay force n) l out).2).map (·.2.1)) (layMap (lay force n) l out).1).1).1.length + 100 ≤ out.length + 1000 * (1 + (l.map fun p => nodes n p.2).sum)
    rw [List.length_map] at v1 v2
    kcf_m
 intro n
 induction n with
 | zero => exact turn 0 fun m h => absurd h (by kcf_m)
 | succ n ih => exact turn (n + 1) fun m h => by cases h; exact ih
theorem ascii_oct {s : Str} (h : ∀ y ∈ s.cps, y < 128) : ascii s = kOct s.cps.toList := by
 have gen : ∀ (l : List Nat) (acc : Array UInt8), (∀ y ∈ l, y < 128) → bInts (l.foldl (fun acc y => acc ++ ([y.toUInt8]).toArray) acc) = bInts acc ++ kOct l := by
  intro l
  induction l with
  | nil => intro acc _; simp [kOct]
  | cons y r ih =>
   intro acc hy
   have hy0 := hy y (.head _)
   rw [List.foldl_cons, ih _ fun z hz => hy z (.tail _ hz), bInts_append]
   have e1 : bInts [y.toUInt8].toArray = [(y : Int)] := by
    show [((y.toUInt8).toNat : Int)] = [(y : Int)]
    have : (y.toUInt8).toNat = y := by
     show y % 256 = y
     kcf_m
    rw [this]
   rw [e1, List.append_assoc]
   rfl
 unfold ascii
 rw [← Array.foldl_toList, gen s.cps.toList #[] (fun y hy => h y (by simpa using hy))]
 rfl
end
section
noncomputable def GivenIn (γ : G) : Nat → Dm → Tree → Value → Prop
 | _, _, .none, v => v = .none
 | _, _, .truth b, v => v = .bool b
 | _, _, .num k, v => ∃ tk, v = .int k tk
 | _, _, .text bs, v => ∃ (s : Str) (tk : Tok), v = .str s tk ∧ utf8 s = bs ∧ ∀ y ∈ s.cps, Str.isSurrogate y = false
 | _, _, .oct bs, v => ∃ (b : Array UInt8) (tk : Tok), v = .bytes b tk ∧ bInts b = bs
 | n + 1, D, .row l, v => ∃ (a : Addr) (o : Obj) (items : List Value), v = .ref a ∧ D a = some o ∧ LstO items.toArray o ∧ items.length = l.length ∧ ∀ (i : Nat) (x : Value) (t : Tree), items[i]? = some x → l[i]? = some t → GivenIn γ n D t x
 | n + 1, D, .map l, v => ∃ (a : Addr) (o : Obj) (kvs : List (Str × Value)), v = .ref a ∧ D a = some o ∧ o.IsDictOf (sk γ) kvs ∧ (a == sysModules) = false ∧ kvs.length = l.length ∧ ∀ (i : Nat) (s : Str) (x : Value) (k : List Nat) (t : Tree), kvs[i]? = some (s, x) → l[i]? = some (k, t) → s.cps.toList = k ∧ GivenIn γ n D t x
 | 0, _, .row _, _ => False
 | 0, _, .map _, _ => False
theorem giv0 {γ : G} {n : Nat} {D : Dm} {v : Value} : GivenIn γ n D .none v ↔ v = .none := by cases n <;> exact Iff.rfl
theorem giv1 {γ : G} {n : Nat} {D : Dm} {b : Bool} {v : Value} : GivenIn γ n D (.truth b) v ↔ v = .bool b := by cases n <;> exact Iff.rfl
theorem giv2 {γ : G} {n : Nat} {D : Dm} {k : Int} {v : Value} : GivenIn γ n D (.num k) v ↔ ∃ tk, v = .int k tk := by cases n <;> exact Iff.rfl
theorem giv3 {γ : G} {n : Nat} {D : Dm} {bs : List Int} {v : Value} : GivenIn γ n D (.text bs) v ↔ ∃ (s : Str) (tk : Tok), v = .str s tk ∧ utf8 s = bs ∧ ∀ y ∈ s.cps, Str.isSurrogate y = false := by cases n <;> exact Iff.rfl
theorem giv4 {γ : G} {n : Nat} {D : Dm} {bs : List Int} {v : Value} : GivenIn γ n D (.oct bs) v ↔ ∃ (b : Array UInt8) (tk : Tok), v = .bytes b tk ∧ bInts b = bs := by cases n <;> exact Iff.rfl
theorem GivenIn.mono {γ : G} {D D' : Dm} (le : Le D D') : ∀ {n : Nat} {t : Tree} {v : Value}, GivenIn γ n D t v → GivenIn γ n D' t v := by
 intro n
 induction n with
 | zero =>
  intro t v h
  cases t with
  | none => exact h
  | truth => exact h
  | num => exact h
  | text => exact h
  | oct => exact h
  | row => exact False.elim h
  | map => exact False.elim h
 | succ n ih =>
  intro t v h
  cases t with
  | none => exact h
  | truth => exact h
  | num => exact h
  | text => exact h
  | oct => exact h
  | row => exact ek3_5 h fun a o items e1 e2 e3 e4 e5 => ⟨a, o, items, e1, le _ _ e2, e3, e4, fun i x t h1 h2 => ih (e5 i x t h1 h2)⟩
  | map => exact ek3_6 h fun a o kvs e1 e2 e3 e4 e5 e6 => ⟨a, o, kvs, e1, le _ _ e2, e3, e4, e5, fun i s x k t h1 h2 => ⟨(e6 i s x k t h1 h2).1, ih (e6 i s x k t h1 h2).2⟩⟩
noncomputable def AddAt (γ : G) (x buf stk : Addr) (force : Int) (n : Nat) : Prop :=
 ∀ {A : Around} {D : Dm} {rest : List (Addr × Obj)} {h : Heap} {t : Nat} {R : Value → Heap → Nat → Prop} {out : List Int} {bo so to : Obj} {vs : List Value} {tr : Tree} {v : Value},
  SC γ D ((buf, bo) :: (stk, so) :: (646, to) :: rest) h → Room A (12 + 3 * n) → Bld D x buf stk force → BM D → TabIs D 450 34 endQ to → BaO out bo → LstO vs.toArray so → Ok n tr → GivenIn γ n D tr v → out.length + 1000 * nodes n tr ≤ 60000 → vs.length + 200 * (n + 1) ≤ 10000 →
  (∀ h t D' to', TabIs D' 450 34 endQ to' → PushP γ D buf stk ((646, to') :: rest) vs (lay force n tr out).1 (lay force n tr out).2 D' h → R .none h t) → VC γ A (.call (.ref 672) ⟨[.ref x, v], []⟩) R h t
theorem sum_take_le {α : Type} (c : α → Nat) : ∀ (l : List α) (i : Nat) (a : α), l[i]? = some a → ((l.take i).map c).sum + c a ≤ (l.map c).sum
 | b :: l, 0, a, e => by simp at e; subst e; simp
 | b :: l, i + 1, a, e => by
  have := sum_take_le c l i a (by simpa using e)
  simp only [List.take_succ_cons, List.map_cons, List.sum_cons]; exact nZ this (by kcf_m)
section
variable {γ : G} {A : Around} {D : Dm} {env : Env} {gl cl : List (Str × Value)} {vars : List (Str × Option Value)} {news rest : List (Addr × Obj)} {h : Heap} {t : Nat} {R : Value → Heap → Nat → Prop} {x buf stk : Addr} {force : Int} {out : List Int} {bo so to : Obj} {vs : List Value}
theorem ct_VFE {n : Nat} {l : Addr} {lo : Obj} {items : List Value} {ts : List Tree} (sub : AddAt γ x buf stk force n) (S : SC γ D ((buf, bo) :: (stk, so) :: (646, to) :: rest) h) (r : Room A (14 + 3 * n)) (Bx : Bld D x buf stk force) (f0 : 0 ≤ force) (f1 : force ≤ 3) (bm : BM D) (tb : TabIs D 450 34 endQ to) (hb : BaO out bo) (hs : LstO vs.toArray so)
  (hl : D l = some lo) (hL : LstO items.toArray lo) (hn : items.length = ts.length) (h5 : ts.length ≤ 5) (oks : ∀ t ∈ ts, Ok n t) (gs : ∀ (i : Nat) (x : Value) (t : Tree), items[i]? = some x → ts[i]? = some t → GivenIn γ n D t x) (hz : out.length + 1000 * (1 + (ts.map (nodes n)).sum) ≤ 60000) (hv : vs.length + 200 * (n + 2) ≤ 10000)
  (k : ∀ h t D' to', TabIs D' 450 34 endQ to' → PushP γ D buf stk ((646, to') :: rest) vs (lay force (n + 1) (.row ts) out).1 (lay force (n + 1) (.row ts) out).2 D' h → R .none h t) :
  VC γ A (.call (.ref 621) ⟨[.ref x, .ref l], []⟩) R h t := by
 have sz : sizeLine = 16777216 := sizeLine_eq
 have r : Room A (13 + 3 * n + 1) := r.mono (by kcf_m)
 refine' v_enter S ?ho ?hcd r.lt [(ofString "self", .ref x), (ofString "elements", .ref l)] [ofString "start", ofString "e"] [] ?hb ?ok (globs (by kernel_rfl)) ?_
 kd_facts1
 kd_adr
 kct_ten
 refine b_meth F Bx (by tb_start) (by tb_start) ?_
 kd_p
 refine F.outk (ps := [(buf, bo), (stk, so)]) (by kp_flats) fun oL S back => ?_
 refine w_call (ct_StartVector S (r.deeper.mono (by kcf_m)) Bx hs (le_a hv (by decide)) fun h t tks S => ?_)
 have F := back _ [(buf, bo), (stk, so)] _ (Le.refl _) S
 kso_len
 kd_p
 refine v_execs_consq ?_
 intro Q0 q0
 refine v_try_finally ?_
 refine v_execs_consq ?_
 intro Q1 q1
 refine v_for ?_
 kd_p
 refine w_pyiter_lst F hl hL fun it own h itr hst F => ?_
 have lay0 : ∀ t ∈ ts, ∀ out, LayOk out (lay force n t out) (1000 * nodes n t) := fun t ht out => lay_ok f0 f1 n t out (oks t ht)
 refine v_for_c (itr _ .name (.inl ⟨_, _, rfl⟩)) r.hn (fun i D' Φ => ∀ ue bo' so' to' as, (TabIs D' 450 34 endQ to') → (BaO (layAll (lay force n) (ts.take i) out).1 bo') → (LstO (vs ++ as.map Value.ref).toArray so') → (VsAre D' as (layAll (lay force n) (ts.take i) out).2) → Φ [(ofString "self", some (.ref x)), (ofString "elements", some (.ref l)), (ofString "start", some (.int vs.length tks)), (ofString "e", ue)] ((buf, bo') :: (stk, so') :: (646, to') :: rest)) F hst (fun ξ j => j _ _ _ _ [] tb hb (by simpa using hs) ⟨rfl, fun i a p h => by simp at h⟩) (fun i D D' Φ l q ue bo' so' to' as a3 a4 a5 a6 => q ue bo' so' to' as (a3.mono l) a4 a5 (a6.mono l)) ?_ ?_
 ·rintro i D2 own v h t K0 k0 kr le2 hi hx ue bo1 so1 to1 as tb1 hb1 hs1 va1 F
  rw [hn] at hi
  have et : ts[i]? = some ts[i] := List.getElem?_eq_getElem hi
  have etk : ts.take (i + 1) = ts.take i ++ [ts[i]] := List.take_succ_eq_append_getElem hi
  have g := (gs i v _ hx et).mono le2
  have a := allOk (f := lay force n) (c := fun t => 1000 * nodes n t) (ts.take i) out (fun t ht => lay0 t (List.mem_of_mem_take ht))
  have len := a.len
  rw [mul_sum, List.length_take, Nat.min_eq_left (Nat.le_of_lt hi)] at len
  have sm := sum_take_le (nodes n) ts i _ et
  have al : as.length = i := by rw [va1.1, layAll_length, List.length_take, Nat.min_eq_left (Nat.le_of_lt hi)]
  have Bx := Bx.mono le2
  refine w_asg_name ?_
  kd_p
  kct_fill
  refine b_meth F Bx (by tb_start) (by tb_start) ?_
  kd_p
  refine F.outk (ps := [(buf, bo1), (stk, so1), (646, to1)]) (by kp_flats) fun oL S back => ?_
  refine v_call (sub S (r.deeper.mono (by kcf_m)) Bx (bm.mono le2) tb1 hb1 hs1 (oks _ (List.getElem_mem hi)) g (by kcf_m) (by rw [List.length_append, List.length_map, al]; exact nZ (nA h5 (nA hv hi)) (by kcf_m)) fun h t D3 to2 tb2 P => ?_)
  refine ek3_5 P fun bo2 so2 a2 le3 hb2 hs2 Vh S => ?_; clear P
  have F := back _ [(buf, bo2), (stk, so2), (646, to2)] _ le3 S
  kso_len
  refine ⟨trivial, ?_⟩
  kd_p
  have eL := layAll_append (lay force n) (ts.take i) [ts[i]] out
  refine k0 D3 _ _ _ _ le3 (fun ξ j => j _ bo2 so2 to2 (as ++ [a2]) tb2 ?_ ?_ ?_) F
  ·rw [etk, eL]; exact hb2
  ·rw [List.map_append, ← List.append_assoc]; exact hs2
  ·rw [etk, eL]
   refine ⟨by refine List.length_append.symm ▸ ?_; refine List.length_append.symm ▸ ?_; refine va1.1.symm ▸ ?_; rfl, fun j b p h1 h2 => ?_⟩
   have v2 := va1.mono le3
   rcases Nat.lt_or_ge j as.length with q | q
   ·rw [List.getElem?_append_left q] at h1
    rw [List.getElem?_append_left (by rw [← va1.1]; exact q)] at h2
    exact v2.2 j b p h1 h2
   ·rw [List.getElem?_append_right q] at h1
    rw [List.getElem?_append_right (by rw [← va1.1]; exact q)] at h2
    have j0 : j - as.length = 0 := by
     cases w : j - as.length with
     | zero => rfl
     | succ m => rw [w] at h1; simp at h1
    rw [j0] at h1
    rw [← va1.1, j0] at h2
    obtain rfl : a2 = b := Option.some.inj h1
    obtain rfl : (lay force n ts[i] (layAll (lay force n) (ts.take i) out).1).2 = p := Option.some.inj h2
    exact Vh
 rintro D4 h t le4 ue bo1 so1 to1 as tb1 hb1 hs1 va1 F
 rw [hn, List.take_length] at hb1 va1
 have a := allOk (f := lay force n) (c := fun t => 1000 * nodes n t) ts out lay0
 have len := a.len
 rw [mul_sum] at len
 have al : as.length = ts.length := by rw [va1.1, layAll_length]
 have pl : (layAll (lay force n) ts out).2.length = ts.length := layAll_length _ _ _
 have Bx := Bx.mono le4
 refine q1 _ _ _ ?_
 clear q1
 kd_p
 refine ⟨rfl, ?_⟩
 kct_fill
 refine b_meth F Bx (by tb_start) (by tb_start) ?_
 kd_p
 refine F.outk (ps := [(buf, bo1), (stk, so1)]) (by kp_flats) fun oL S back => ?_
 refine v_call (ct_EndVector S (r.deeper.mono (by kcf_m)) Bx f0 f1 hb1 hs1 (nZ (nA h5 (nA hv (Nat.le_of_eq al))) (by kcf_m)) va1 a.ok a.place (by rw [pl]; exact nZ (nA hz len) (by kcf_m)) fun h t D5 m tk P => ?_)
 refine ek3_5 P fun bo2 so2 a2 le5 hb2 hs2 Vh S => ?_; clear P
 have F := back _ [(buf, bo2), (stk, so2)] _ le5 S
 kso_len
 refine ⟨trivial, ?_⟩
 kd_p
 refine ⟨rfl, ?_⟩
 kd_p
 exact k _ _ _ _ (tb1.mono le5) ⟨_, _, _, le4.trans le5, hb2, hs2, Vh, F.sc⟩
end
end
section
section
variable {γ : G} {A : Around} {D : Dm} {env : Env} {gl cl : List (Str × Value)} {vars : List (Str × Option Value)} {news rest : List (Addr × Obj)} {h : Heap} {t : Nat} {R : Value → Heap → Nat → Prop} {x buf stk : Addr} {force : Int} {out : List Int} {bo so to : Obj} {vs : List Value}
noncomputable abbrev addGl : List (Str × Value) := [(ofString "isinstance", .builtin "isinstance"), (ofString "bool", .type "bool"), (ofString "int", .type "int"), (ofString "str", .type "str"), (ofString "bytes", .type "bytes"), (ofString "bytearray", .type "bytearray"), (ofString "dict", .type "dict"), (ofString "list", .type "list"), (ofString "tuple", .type "tuple")]
noncomputable abbrev Fin1 (γ : G) (D : Dm) (buf stk : Addr) (rest : List (Addr × Obj)) (vs : List Value) (out' : List Int) (p : Pv) (R : Value → Heap → Nat → Prop) : Prop :=
 ∀ h t D' to', TabIs D' 450 34 endQ to' → PushP γ D buf stk ((646, to') :: rest) vs out' p D' h → R .none h t
theorem add_none (S : SC γ D ((buf, bo) :: (stk, so) :: (646, to) :: rest) h) (r : Room A 12) (Bx : Bld D x buf stk force) (tb : TabIs D 450 34 endQ to) (hb : BaO out bo) (hs : LstO vs.toArray so) (hn : vs.length ≤ 100000)
  (k : Fin1 γ D buf stk rest vs out ⟨0, 0, 0⟩ R) : VC γ A (.call (.ref 672) ⟨[.ref x, .none], []⟩) R h t := by
 refine' v_enter S ?ho ?hcd r.lt [(ofString "self", .ref x), (ofString "value", .none)] [ofString "start", ofString "k", ofString "v"] addGl ?hb ?ok (globs (by kernel_rfl)) ?_
 kd_facts1
 kd_adr
 kct_fill
 refine Br.tt ?_
 kct_ten
 refine b_meth F Bx (by tb_start) (by tb_start) ?_
 kd_p
 refine F.outk (ps := [(buf, bo), (stk, so)]) (by kp_flats) fun oL S back => ?_
 refine w_call (ct_Null S (r.deeper.mono (by decide)) Bx hb hs hn fun h t D' P => ?_)
 refine ek3_5 (P.int (by decide)) fun bo2 so2 a2 le hb2 hs2 Vh S => ?_
 have F := back _ [(buf, bo2), (stk, so2)] _ le S
 kso_len
 refine ⟨trivial, ?_⟩
 kd_p
 exact k _ _ _ _ (tb.mono le) ⟨_, _, _, le, hb2, hs2, Vh, F.sc⟩
theorem add_bool {b : Bool} (S : SC γ D ((buf, bo) :: (stk, so) :: (646, to) :: rest) h) (r : Room A 12) (Bx : Bld D x buf stk force) (tb : TabIs D 450 34 endQ to) (hb : BaO out bo) (hs : LstO vs.toArray so) (hn : vs.length ≤ 100000)
  (k : Fin1 γ D buf stk rest vs out ⟨26, b2 b, 0⟩ R) : VC γ A (.call (.ref 672) ⟨[.ref x, .bool b], []⟩) R h t := by
 refine' v_enter S ?ho ?hcd r.lt [(ofString "self", .ref x), (ofString "value", .bool b)] [ofString "start", ofString "k", ofString "v"] addGl ?hb ?ok (globs (by kernel_rfl)) ?_
 kd_facts1
 kd_adr
 kct_fill
 refine Br.ff ?_
 kct_fill
 refine w_isi kitx_bool F.sc trivial (b := true) (by kernel_rfl) fun t => ?_
 kd_p
 refine Br.tt ?_
 kct_ten
 refine b_meth F Bx (by tb_start) (by tb_start) ?_
 kd_p
 refine F.outk (ps := [(buf, bo), (stk, so)]) (by kp_flats) fun oL S back => ?_
 refine w_call (ct_Bool S (r.deeper.mono (by decide)) Bx hb hs hn fun h t D' P => ?_)
 refine ek3_5 P.bool fun bo2 so2 a2 le hb2 hs2 Vh S => ?_
 have F := back _ [(buf, bo2), (stk, so2)] _ le S
 kso_len
 refine ⟨trivial, ?_⟩
 kd_p
 exact k _ _ _ _ (tb.mono le) ⟨_, _, _, le, hb2, hs2, Vh, F.sc⟩
theorem add_int {n : Int} {tn : Tok} (S : SC γ D ((buf, bo) :: (stk, so) :: (646, to) :: rest) h) (r : Room A 12) (Bx : Bld D x buf stk force) (tb : TabIs D 450 34 endQ to) (hb : BaO out bo) (hs : LstO vs.toArray so) (hn : vs.length ≤ 100000) (h0 : -9223372036854775808 ≤ n) (h1 : n < 9223372036854775808)
  (k : Fin1 γ D buf stk rest vs out ⟨1, n, iw n⟩ R) : VC γ A (.call (.ref 672) ⟨[.ref x, .int n tn], []⟩) R h t := by
 refine' v_enter S ?ho ?hcd r.lt [(ofString "self", .ref x), (ofString "value", .int n tn)] [ofString "start", ofString "k", ofString "v"] addGl ?hb ?ok (globs (by kernel_rfl)) ?_
 kd_facts1
 kd_adr
 kct_fill
 refine Br.ff ?_
 kct_fill
 refine w_isi kitx_int F.sc trivial (b := false) (by kernel_rfl) fun t => ?_
 kd_p
 refine Br.ff ?_
 kct_fill
 refine w_isi kitx_int F.sc trivial (b := true) (by kernel_rfl) fun t => ?_
 kd_p
 refine Br.tt ?_
 kct_ten
 refine b_meth F Bx (by tb_start) (by tb_start) ?_
 kd_p
 refine F.outk (ps := [(buf, bo), (stk, so)]) (by kp_flats) fun oL S back => ?_
 refine w_call (ct_IntV S (r.deeper.mono (by decide)) Bx hb hs hn h0 h1 fun h t D' P => ?_)
 refine ek3_5 (P.int (by decide)) fun bo2 so2 a2 le hb2 hs2 Vh S => ?_
 have F := back _ [(buf, bo2), (stk, so2)] _ le S
 kso_len
 refine ⟨trivial, ?_⟩
 kd_p
 exact k _ _ _ _ (tb.mono le) ⟨_, _, _, le, hb2, hs2, Vh, F.sc⟩
theorem add_str {s : Str} {ts : Tok} (S : SC γ D ((buf, bo) :: (stk, so) :: (646, to) :: rest) h) (r : Room A 12) (Bx : Bld D x buf stk force) (tb : TabIs D 450 34 endQ to) (hb : BaO out bo) (hs : LstO vs.toArray so) (hn : vs.length ≤ 100000) (good : ∀ y ∈ s.cps, Str.isSurrogate y = false) (hl : out.length + (utf8 s).length ≤ 90000)
  (k : Fin1 γ D buf stk rest vs (blobA (utf8 s) out ++ utf8 s ++ [0]) ⟨5, (blobA (utf8 s) out).length, bw (utf8 s).length⟩ R) : VC γ A (.call (.ref 672) ⟨[.ref x, .str s ts], []⟩) R h t := by
 refine' v_enter S ?ho ?hcd r.lt [(ofString "self", .ref x), (ofString "value", .str s ts)] [ofString "start", ofString "k", ofString "v"] addGl ?hb ?ok (globs (by kernel_rfl)) ?_
 kd_facts1
 kd_adr
 kct_fill
 refine Br.ff ?_
 kct_fill
 refine w_isi kitx_str F.sc trivial (b := false) (by kernel_rfl) fun t => ?_
 kd_p
 refine Br.ff ?_
 kct_fill
 refine w_isi kitx_str F.sc trivial (b := false) (by kernel_rfl) fun t => ?_
 kd_p
 refine Br.ff ?_
 kct_fill
 refine w_isi kitx_str F.sc trivial (b := true) (by kernel_rfl) fun t => ?_
 kd_p
 refine Br.tt ?_
 kct_fill
 refine b_meth F Bx (by tb_start) (by tb_start) ?_
 kd_p
 refine F.outk (ps := [(buf, bo), (stk, so)]) (by kp_flats) fun oL S back => ?_
 refine v_call (ct_String S (r.deeper.mono (by decide)) Bx hb hs good hl hn fun h t D' P => ?_)
 refine ek3_5 (P.int (by decide)) fun bo2 so2 a2 le hb2 hs2 Vh S => ?_
 have F := back _ [(buf, bo2), (stk, so2)] _ le S
 kso_len
 refine ⟨trivial, ?_⟩
 kd_p
 exact k _ _ _ _ (tb.mono le) ⟨_, _, _, le, hb2, hs2, Vh, F.sc⟩
theorem add_bytes {b : Array UInt8} {u : Tok} {row : List Int} (S : SC γ D ((buf, bo) :: (stk, so) :: (646, to) :: rest) h) (r : Room A 12) (Bx : Bld D x buf stk force) (tb : TabIs D 450 34 endQ to) (hb : BaO out bo) (hs : LstO vs.toArray so) (hn : vs.length ≤ 100000) (hr : bInts b = row) (hl : out.length + row.length ≤ 90000)
  (k : Fin1 γ D buf stk rest vs (blobA row out ++ row) ⟨25, (blobA row out).length, bw row.length⟩ R) : VC γ A (.call (.ref 672) ⟨[.ref x, .bytes b u], []⟩) R h t := by
 refine' v_enter S ?ho ?hcd r.lt [(ofString "self", .ref x), (ofString "value", .bytes b u)] [ofString "start", ofString "k", ofString "v"] addGl ?hb ?ok (globs (by kernel_rfl)) ?_
 kd_facts1
 kd_adr
 kct_fill
 refine Br.ff ?_
 kct_fill
 refine w_isi kitx_bytes F.sc trivial (b := false) (by kernel_rfl) fun t => ?_
 kd_p
 refine Br.ff ?_
 kct_fill
 refine w_isi kitx_bytes F.sc trivial (b := false) (by kernel_rfl) fun t => ?_
 kd_p
 refine Br.ff ?_
 kct_fill
 refine w_isi kitx_bytes F.sc trivial (b := false) (by kernel_rfl) fun t => ?_
 kd_p
 refine Br.ff ?_
 kct_fill
 refine w_newtup F (by decide) fun D1 tp tpo h le1 e1 hT F => ?_
 kd_p
 refine w_isi_tup kitx_bytes F.sc trivial (F.sc.keep _ _ e1) hT (b := true) (by kernel_rfl) fun t => ?_
 kd_p
 refine Br.tt ?_
 have Bx := Bx.mono le1
 kct_fill
 refine b_meth F Bx (by tb_start) (by tb_start) ?_
 kd_p
 refine F.outk (ps := [(buf, bo), (stk, so)]) (by kp_flats) fun oL S back => ?_
 refine v_call (ct_Blob S (r.deeper.mono (by decide)) Bx hb hs hr hl hn fun h t D' P => ?_)
 refine ek3_5 (P.int (by decide)) fun bo2 so2 a2 le hb2 hs2 Vh S => ?_
 have F := back _ [(buf, bo2), (stk, so2)] _ le S
 kso_len
 refine ⟨trivial, ?_⟩
 kd_p
 exact k _ _ _ _ (tb.mono (le1.trans le)) ⟨_, _, _, le1.trans le, hb2, hs2, Vh, F.sc⟩
end
end
section
section
variable {γ : G} {A : Around} {D : Dm} {env : Env} {gl cl : List (Str × Value)} {vars : List (Str × Option Value)} {news rest : List (Addr × Obj)} {h : Heap} {t : Nat} {R : Value → Heap → Nat → Prop} {x buf stk : Addr} {force : Int} {out : List Int} {bo so to : Obj} {vs : List Value}
theorem add_row {n : Nat} {l : Addr} {lo : Obj} {items : List Value} {ts : List Tree} (sub : AddAt γ x buf stk force n) (S : SC γ D ((buf, bo) :: (stk, so) :: (646, to) :: rest) h) (r : Room A (15 + 3 * n)) (Bx : Bld D x buf stk force) (f0 : 0 ≤ force) (f1 : force ≤ 3) (bm : BM D) (tb : TabIs D 450 34 endQ to) (hb : BaO out bo) (hs : LstO vs.toArray so)
  (hl : D l = some lo) (hL : LstO items.toArray lo) (hn : items.length = ts.length) (h5 : ts.length ≤ 5) (oks : ∀ t ∈ ts, Ok n t) (gs : ∀ (i : Nat) (x : Value) (t : Tree), items[i]? = some x → ts[i]? = some t → GivenIn γ n D t x) (hz : out.length + 1000 * (1 + (ts.map (nodes n)).sum) ≤ 60000) (hv : vs.length + 200 * (n + 2) ≤ 10000)
  (k : Fin1 γ D buf stk rest vs (lay force (n + 1) (.row ts) out).1 (lay force (n + 1) (.row ts) out).2 R) : VC γ A (.call (.ref 672) ⟨[.ref x, .ref l], []⟩) R h t := by
 have r : Room A (14 + 3 * n + 1) := r.mono (by kcf_m)
 have ka : KitAt l "list" h := by obtain ⟨m, rfl⟩ := hL; exact ⟨_, S.keep _ _ hl, rfl⟩
 refine' v_enter S ?ho ?hcd r.lt [(ofString "self", .ref x), (ofString "value", .ref l)] [ofString "start", ofString "k", ofString "v"] addGl ?hb ?ok (globs (by kernel_rfl)) ?_
 kd_facts1
 kd_adr
 have ka : ∀ {h D'}, Le D D' → (∀ a o, D' a = some o → h.get? a = some o) → KitAt l "list" h := fun le kp => by obtain ⟨m, rfl⟩ := hL; exact ⟨_, kp _ _ (le _ _ hl), rfl⟩
 kct_fill
 refine Br.ff ?_
 kct_fill
 refine w_isi kitx_list F.sc (ka (Le.refl _) F.sc.keep) (b := false) (by kernel_rfl) fun t => ?_
 kd_p
 refine Br.ff ?_
 kct_fill
 refine w_isi kitx_list F.sc (ka (Le.refl _) F.sc.keep) (b := false) (by kernel_rfl) fun t => ?_
 kd_p
 refine Br.ff ?_
 kct_fill
 refine w_isi kitx_list F.sc (ka (Le.refl _) F.sc.keep) (b := false) (by kernel_rfl) fun t => ?_
 kd_p
 refine Br.ff ?_
 kct_fill
 refine w_newtup F (by decide) fun D1 tp tpo h le1 e1 hT F => ?_
 kd_p
 refine w_isi_tup kitx_list F.sc (ka le1 F.sc.keep) (F.sc.keep _ _ e1) hT (b := false) (by kernel_rfl) fun t => ?_
 kd_p
 refine Br.ff ?_
 kct_fill
 refine w_isi kitx_list F.sc (ka le1 F.sc.keep) (b := false) (by kernel_rfl) fun t => ?_
 kd_p
 refine Br.ff ?_
 kct_fill
 refine w_newtup F (by decide) fun D2 tp2 tpo2 h le2 e2 hT2 F => ?_
 kd_p
 refine w_isi_tup kitx_list F.sc (ka (le1.trans le2) F.sc.keep) (F.sc.keep _ _ e2) hT2 (b := true) (by kernel_rfl) fun t => ?_
 kd_p
 refine Br.tt ?_
 have le := le1.trans le2
 kct_fill
 refine b_meth F (Bx.mono le) (by tb_start) (by tb_start) ?_
 kd_p
 refine F.outk (ps := [(buf, bo), (stk, so), (646, to)]) (by kp_flats) fun oL S back => ?_
 refine v_call (ct_VFE sub S (r.deeper.mono (Nat.le_refl _)) (Bx.mono le) f0 f1 (bm.mono le) (tb.mono le) hb hs (le _ _ hl) hL hn h5 oks (fun i x t h1 h2 => (gs i x t h1 h2).mono le) hz hv fun h t D' to2 tb2 P => ?_)
 refine ek3_5 P fun bo2 so2 a2 le3 hb2 hs2 Vh S => ?_; clear P
 have F := back _ [(buf, bo2), (stk, so2), (646, to2)] _ le3 S
 kso_len
 refine ⟨trivial, ?_⟩
 kd_p
 exact k _ _ _ _ tb2 ⟨_, _, _, le.trans le3, hb2, hs2, Vh, F.sc⟩
theorem add_map {n : Nat} {d : Addr} {dobj : Obj} {kvs : List (Str × Value)} {l : List (List Nat × Tree)} (sub : AddAt γ x buf stk force n) (S : SC γ D ((buf, bo) :: (stk, so) :: (646, to) :: rest) h) (r : Room A (15 + 3 * n)) (Bx : Bld D x buf stk force) (f0 : 0 ≤ force) (f1 : force ≤ 3) (bm : BM D) (tb : TabIs D 450 34 endQ to) (hb : BaO out bo) (hs : LstO vs.toArray so)
  (hd : D d = some dobj) (hD : dobj.IsDictOf (sk γ) kvs) (hsm : (d == sysModules) = false) (hn : kvs.length = l.length) (ok : Ok (n + 1) (.map l)) (gs : ∀ (i : Nat) (s : Str) (x : Value) (k : List Nat) (t : Tree), kvs[i]? = some (s, x) → l[i]? = some (k, t) → s.cps.toList = k ∧ GivenIn γ n D t x)
  (hz : out.length + 1000 * (1 + (l.map fun p => nodes n p.2).sum) ≤ 60000) (hv : vs.length + 200 * (n + 2) ≤ 10000)
  (k : Fin1 γ D buf stk rest vs (lay force (n + 1) (.map l) out).1 (lay force (n + 1) (.map l) out).2 R) : VC γ A (.call (.ref 672) ⟨[.ref x, .ref d], []⟩) R h t := by
 have sz : sizeLine = 16777216 := sizeLine_eq
 have r : Room A (14 + 3 * n + 1) := r.mono (by kcf_m)
 have ka : ∀ {h D'}, Le D D' → (∀ a o, D' a = some o → h.get? a = some o) → KitAt d "dict" h := fun le kp => by refine ek2_2 hD fun es m z1 r => ?_; clear hD; refine ek0_3 z1 fun c1 c2 c3 => ?_; clear z1; exact ⟨_, kp _ _ (le _ _ hd), c1⟩
 refine ek0_3 ok fun h5 nd oks => ?_; clear ok
 refine' v_enter S ?ho ?hcd r.lt [(ofString "self", .ref x), (ofString "value", .ref d)] [ofString "start", ofString "k", ofString "v"] addGl ?hb ?ok (globs (by kernel_rfl)) ?_
 kd_facts1
 kd_adr
 kct_fill
 refine Br.ff ?_
 kct_fill
 refine w_isi kitx_dict F.sc (ka (Le.refl _) F.sc.keep) (b := false) (by kernel_rfl) fun t => ?_
 kd_p
 refine Br.ff ?_
 kct_fill
 refine w_isi kitx_dict F.sc (ka (Le.refl _) F.sc.keep) (b := false) (by kernel_rfl) fun t => ?_
 kd_p
 refine Br.ff ?_
 kct_fill
 refine w_isi kitx_dict F.sc (ka (Le.refl _) F.sc.keep) (b := false) (by kernel_rfl) fun t => ?_
 kd_p
 refine Br.ff ?_
 kct_fill
 refine w_newtup F (by decide) fun D1 tp tpo h le1 e1 hT F => ?_
 kd_p
 refine w_isi_tup kitx_dict F.sc (ka le1 F.sc.keep) (F.sc.keep _ _ e1) hT (b := false) (by kernel_rfl) fun t => ?_
 kd_p
 refine Br.ff ?_
 kct_fill
 refine w_isi kitx_dict F.sc (ka le1 F.sc.keep) (b := true) (by kernel_rfl) fun t => ?_
 kd_p
 refine Br.tt ?_
 have Bx := Bx.mono le1
 have bm := bm.mono le1
 have hd := le1 _ _ hd
 kct_ten
 refine b_meth F Bx (by tb_start) (by tb_start) ?_
 kd_p
 refine F.outk (ps := [(buf, bo), (stk, so)]) (by kp_flats) fun oL S back => ?_
 refine w_call (ct_StartMap S (r.deeper.mono (by kcf_m)) Bx hs (le_a hv (by decide)) fun h t tks S => ?_)
 have F := back _ [(buf, bo), (stk, so)] _ (Le.refl _) S
 kso_len
 kd_p
 refine v_execs_consq ?_
 intro Q0 q0
 refine v_try_finally ?_
 refine v_execs_consq ?_
 intro Q1 q1
 refine v_for ?_
 kd_p
 refine w_getm_items (F.sc.keep _ _ hd) hD ?_
 kd_p
 refine c_dict_items (F.sc.keep _ _ hd) hD hsm ?_
 kd_p
 refine w_pyiter_items F hd hD fun I own h stI F => ?_
 have lay0 : ∀ q ∈ l, KeyOk q.1 ∧ ∀ out, LayOk out (lay force n q.2 out) (1000 * nodes n q.2) := fun q hq => ⟨(oks q hq).1, fun out => lay_ok f0 f1 n q.2 out (oks q hq).2⟩
 refine v_for_c iter_items r.hn (fun i D' Φ => ∀ uk uv bo' so' to' es, (TabIs D' 450 34 endQ to') → (BaO (layMap (lay force n) (l.take i) out).1 bo') → (LstO (vs ++ zip2 (kRefs es) (vRefs es)).toArray so') → (es.map Ent.kps = (layMap (lay force n) (l.take i) out).2) → ((∀ e ∈ es, EntOk D' (layMap (lay force n) (l.take i) out).1 e)) → Φ [(ofString "self", some (.ref x)), (ofString "value", some (.ref d)), (ofString "start", some (.int vs.length tks)), (ofString "k", uk), (ofString "v", uv)] ((buf, bo') :: (stk, so') :: (646, to') :: rest)) F stI (fun ξ j => j _ _ _ _ _ [] (tb.mono le1) hb (by simpa [zip2] using hs) rfl (fun e h => (nomatch h))) (fun i D D' Φ l q uk uv bo' so' to' es a3 a4 a5 a6 a7 => q uk uv bo' so' to' es (a3.mono l) a4 a5 a6 (fun e he => (a7 e he).mono l)) ?_ ?_
 ·intro i D2 own v h t K0 k0 kr le2 hi y1; refine ek5_4 y1 fun s tk xv ta ot hx z1 eD eT => ?_; clear y1; obtain rfl := z1; intro uk uv bo1 so1 to1 es tb1 hb1 hs1 ek he F
  rw [hn] at hi
  have et : l[i]? = some l[i] := List.getElem?_eq_getElem hi
  have etk : l.take (i + 1) = l.take i ++ [l[i]] := List.take_succ_eq_append_getElem hi
  refine ek0_2 (gs i s xv l[i].1 l[i].2 hx et) fun es1 g => ?_
  have g := g.mono (le1.trans le2)
  refine ek0_2 (oks l[i] (List.getElem_mem hi)) fun kok tok => ?_
  have a := mapOk (f := lay force n) (c := fun t => 1000 * nodes n t) (l.take i) out (fun q hq => lay0 q (List.mem_of_mem_take hq))
  have len := a.len
  have am := mul_sum 1000 (fun q : List Nat × Tree => nodes n q.2) (l.take i)
  rw [am, List.length_take, Nat.min_eq_left (Nat.le_of_lt hi)] at len
  have sm := sum_take_le (fun q : List Nat × Tree => nodes n q.2) l i _ et
  have al : es.length = i := by have := congrArg List.length ek; rw [List.length_map, layMap_length, List.length_take, Nat.min_eq_left (Nat.le_of_lt hi)] at this; exact this
  have zl : (zip2 (kRefs es) (vRefs es)).length = 2 * i := by rw [zip2_length _ _ (by simp)]; simp [al]
  have Bx := Bx.mono le2
  have gc : ∀ y ∈ s.cps, y < 128 := fun y hy => by
   have : y ∈ s.cps.toList := by simpa using hy
   rw [es1] at this
   exact (kok.2 y this).2
  have ao : ascii s = kOct l[i].1 := by rw [ascii_oct gc, es1]
  have nz : (ascii s).any (· == 0) = false := by
   rw [ao, List.any_eq_false]
   intro z hz
   obtain ⟨c, hc, rfl⟩ := List.mem_map.mp hz
   have := (kok.2 c hc).1
   simp; exact Nat.ne_of_gt this
  have kol : (kOct l[i].1).length ≤ 8 := by rw [kOct_length]; exact kok.1
  refine w_asg_tup2 F r.hn eD eT fun h F => ?_
  kd_p
  kct_fill
  refine b_meth F Bx (by tb_start) (by tb_start) ?_
  kd_p
  refine F.outk (ps := [(buf, bo1), (stk, so1)]) (by kp_flats) fun oL S back => ?_
  refine v_call (ct_Key S (r.deeper.mono (by kcf_m)) Bx hb1 hs1 gc nz (by rw [ao]; kcf_m) (by rw [List.length_append, zl]; exact nZ (nA hv (nA h5 (nA h5 (nA hi hi)))) (by kcf_m)) fun h t D3 m tk P => ?_)
  refine ek3_5 (P.int (by decide)) fun bo2 so2 ka2 le3 hb2 hs2 Vk S => ?_
  have F := back _ [(buf, bo2), (stk, so2)] _ le3 S
  kso_len
  rw [ao] at hb2
  refine ⟨trivial, ?_⟩
  kd_p
  have Bx := Bx.mono le3
  kct_fill
  refine b_meth F Bx (by tb_start) (by tb_start) ?_
  kd_p
  refine F.outk (ps := [(buf, bo2), (stk, so2), (646, to1)]) (by kp_flats) fun oL S back => ?_
  refine v_call (sub S (r.deeper.mono (by kcf_m)) Bx (bm.mono (le2.trans le3)) (tb1.mono le3) hb2 hs2 tok (g.mono le3) (by simp only [List.length_append, List.length_cons, List.length_nil]; kcf_m) (by simp only [List.length_append, List.length_cons, List.length_nil, zl]; exact nZ (nA hv (nA h5 (nA h5 (nA hi hi)))) (by kcf_m)) fun h t D4 to2 tb2 P => ?_)
  refine ek3_5 P fun bo3 so3 va3 le4 hb3 hs3 Vh S => ?_; clear P
  have F := back _ [(buf, bo3), (stk, so3), (646, to2)] _ le4 S
  kso_len
  refine ⟨trivial, ?_⟩
  kd_p
  have eL := layMap_append (lay force n) (l.take i) [l[i]] out
  have ext1 := lay_ok f0 f1 n l[i].2 ((layMap (lay force n) (l.take i) out).1 ++ kOct l[i].1 ++ [0]) tok
  have exA : Ext (layMap (lay force n) (l.take i) out).1 ((layMap (lay force n) (l.take i) out).1 ++ kOct l[i].1 ++ [0]) := ⟨kOct l[i].1 ++ [0], by simp⟩
  have exB := exA.trans ext1.ext
  have lenB := exB.len
  have e1' : (layMap (lay force n) (l.take (i + 1)) out).1 = (lay force n l[i].2 ((layMap (lay force n) (l.take i) out).1 ++ kOct l[i].1 ++ [0])).1 := by refine etk.symm ▸ ?_; refine eL.symm ▸ ?_; rfl
  have e2' : (layMap (lay force n) (l.take (i + 1)) out).2 = (layMap (lay force n) (l.take i) out).2 ++ [(l[i].1, ⟨4, (layMap (lay force n) (l.take i) out).1.length, 0⟩, (lay force n l[i].2 ((layMap (lay force n) (l.take i) out).1 ++ kOct l[i].1 ++ [0])).2)] := by refine etk.symm ▸ ?_; refine eL.symm ▸ ?_; rfl
  refine k0 D4 _ _ _ _ (le3.trans le4) (fun ξ j => j _ _ bo3 so3 to2 (es ++ [⟨l[i].1, ⟨4, (layMap (lay force n) (l.take i) out).1.length, 0⟩, (lay force n l[i].2 ((layMap (lay force n) (l.take i) out).1 ++ kOct l[i].1 ++ [0])).2, ka2, va3⟩]) tb2 ?_ ?_ ?_ ?_) F
  ·rw [e1']; exact hb3
  ·have ez := zip2_append (kRefs es) (vRefs es) (.ref ka2) (.ref va3) (by simp)
   have e3 : zip2 (kRefs (es ++ [⟨l[i].1, ⟨4, (layMap (lay force n) (l.take i) out).1.length, 0⟩, (lay force n l[i].2 ((layMap (lay force n) (l.take i) out).1 ++ kOct l[i].1 ++ [0])).2, ka2, va3⟩])) (vRefs (es ++ [⟨l[i].1, ⟨4, (layMap (lay force n) (l.take i) out).1.length, 0⟩, (lay force n l[i].2 ((layMap (lay force n) (l.take i) out).1 ++ kOct l[i].1 ++ [0])).2, ka2, va3⟩])) = zip2 (kRefs es) (vRefs es) ++ [.ref ka2, .ref va3] := by
    simp only [kRefs, vRefs, List.map_append, List.map_cons, List.map_nil]
    exact ez
   refine e3.symm ▸ ?_
   simpa using hs3
  ·refine List.map_append.symm ▸ ?_; refine ek.symm ▸ ?_; refine e2'.symm ▸ ?_; rfl
  ·intro e hm
   rw [e1']
   rcases List.mem_append.mp hm with hm | hm
   ·refine ek0_9 ((he e hm).mono (le3.trans le4)) fun v1 v2 t4 o4 o5 o6 o7 o8 o9 => ?_
    have v0 : 0 ≤ e.kp.v := e.kp.v0 o4 (by rw [t4]; rfl)
    exact ⟨v1, v2, t4, o4, o5, o6, KeyLies.ext o7 exB (by kcf_m), by kcf_m, fun hi => by have := o9 hi; kcf_m⟩
   ·rw [List.mem_singleton] at hm
    subst hm
    refine ⟨Vk.mono le4, Vh, rfl, .inr (.inr (.inr (by simp))), ext1.ok, kok, ?_, by show ((layMap (lay force n) (l.take i) out).1.length : Int) ≤ _; exact Int.ofNat_le.mpr lenB, ext1.place⟩
    have kl0 : ∃ post, ((layMap (lay force n) (l.take i) out).1 ++ kOct l[i].1 ++ [0]).drop (layMap (lay force n) (l.take i) out).1.length = kOct l[i].1 ++ 0 :: post := ⟨[], by rw [List.append_assoc, List.drop_left]⟩
    exact KeyLies.ext kl0 ext1.ext (by simp)
 rintro D4 h t le4 uk uv bo1 so1 to1 es tb1 hb1 hs1 ek he F
 rw [hn, List.take_length] at hb1 ek he
 have a := mapOk (f := lay force n) (c := fun t => 1000 * nodes n t) l out lay0
 have len := a.len
 have am := mul_sum 1000 (fun q : List Nat × Tree => nodes n q.2) l
 rw [am] at len
 have al : es.length = l.length := by have := congrArg List.length ek; rw [List.length_map, layMap_length] at this; exact this
 have Bx := Bx.mono le4
 have nd2 : (es.map (·.key)).Nodup := by
  have : es.map (·.key) = l.map (·.1) := by
   rw [← layMap_keys (lay force n) l out, ← ek, List.map_map]; rfl
  rw [this]; exact nd
 refine q1 _ _ _ ?_
 clear q1
 kd_p
 refine ⟨rfl, ?_⟩
 kct_fill
 refine b_meth F Bx (by tb_start) (by tb_start) ?_
 kd_p
 refine F.outk (ps := [(buf, bo1), (stk, so1), (646, to1)]) (by kp_flats) fun oL S back => ?_
 refine v_call (ct_EndMap S (r.deeper.mono (by kcf_m)) Bx (bm.mono le4) f0 f1 hb1 hs1 (nZ hv (by kcf_m)) tb1 he nd2 (Nat.le_trans (Nat.le_trans (Nat.le_of_eq al) h5) (by decide)) (nZ (nA hz len) (by kcf_m)) fun h t D5 m tk to2 tb2 P => ?_)
 refine ek3_5 P fun bo2 so2 a2 le5 hb2 hs2 Vh S => ?_; clear P
 rw [ek] at hb2 Vh
 have F := back _ [(buf, bo2), (stk, so2), (646, to2)] _ le5 S
 kso_len
 refine ⟨trivial, ?_⟩
 kd_p
 refine ⟨rfl, ?_⟩
 kd_p
 exact k _ _ _ _ tb2 ⟨_, _, _, (le1.trans le4).trans le5, hb2, hs2, Vh, F.sc⟩
end
theorem ct_Add {γ : G} {x buf stk : Addr} {force : Int} (f0 : 0 ≤ force) (f1 : force ≤ 3) : ∀ n, AddAt γ x buf stk force n := by
 have leaf : ∀ n, (∀ m, n = m + 1 → AddAt γ x buf stk force m) → AddAt γ x buf stk force n := by
  intro n sub A D rest h t R out bo so to vs tr v S r Bx bm tb hb hs ok g hz hv k
  have r12 : Room A 12 := r.mono (Nat.le_add_right _ _)
  cases tr with
  | none =>
   have g := giv0.mp g
   subst g
   refine add_none S r12 Bx tb hb hs (le_a hv (by decide)) fun h t D' to' tb' P => k h t D' to' tb' ?_
   rw [lay0]; exact P
  | truth b =>
   have g := giv1.mp g
   subst g
   refine add_bool S r12 Bx tb hb hs (le_a hv (by decide)) fun h t D' to' tb' P => k h t D' to' tb' ?_
   rw [lay1]; exact P
  | num m =>
   have g := giv2.mp g
   obtain ⟨tk, rfl⟩ := g
   have ok := ok2.mp ok
   refine add_int S r12 Bx tb hb hs (le_a hv (by decide)) ok.1 ok.2 fun h t D' to' tb' P => k h t D' to' tb' ?_
   rw [lay2]; exact P
  | text bs =>
   have g := giv3.mp g
   refine ek2_3 g fun s tk z1 z2 good => ?_; clear g; obtain rfl := z1; obtain rfl := z2
   have ok := ok3.mp ok
   refine add_str S r12 Bx tb hb hs (le_a hv (by decide)) good (nZ (nA hz ok) (by kcf_m)) fun h t D' to' tb' P => k h t D' to' tb' ?_
   rw [lay3]; exact P
  | oct bs =>
   have g := giv4.mp g
   refine ek2_2 g fun b tk z1 hr => ?_; clear g; obtain rfl := z1
   have ok := ok4.mp ok
   refine add_bytes S r12 Bx tb hb hs (le_a hv (by decide)) hr (nZ (nA hz ok) (by kcf_m)) fun h t D' to' tb' P => k h t D' to' tb' ?_
   rw [lay4]; exact P
  | row l =>
   cases n with
   | zero => exact ok.elim
   | succ n =>
    refine ek3_5 g fun a o items z1 e2 e3 e4 e5 => ?_; clear g; obtain rfl := z1
    exact add_row (sub n rfl) S (r.mono (by kcf_m)) Bx f0 f1 bm tb hb hs e2 e3 e4 ok.1 ok.2 e5 hz (Nat.le_trans hv (by decide)) k
  | map l =>
   cases n with
   | zero => exact ok.elim
   | succ n =>
    refine ek3_6 g fun a o kvs z1 e2 e3 e4 e5 e6 => ?_; clear g; obtain rfl := z1
    exact add_map (sub n rfl) S (r.mono (by kcf_m)) Bx f0 f1 bm tb hb hs e2 e3 e4 e5 ok e6 hz (Nat.le_trans hv (by decide)) k
 intro n
 induction n with
 | zero => exact leaf 0 fun m h => absurd h (by kcf_m)
 | succ n ih => exact leaf (n + 1) fun m h => by cases h; exact ih
end
section
noncomputable abbrev bList (buf stk : Addr) (force : Int) (tk : Tok) (p1 p2 : Addr) (extra : List (Str × Value)) : List (Str × Value) := (ofString "_share_strings", .bool false) :: (ofString "_share_keys", .bool false) :: (ofString "_force_min_bit_width", .int force tk) :: (ofString "_string_pool", .ref p1) :: (ofString "_key_pool", .ref p2) :: (ofString "_finished", .bool false) :: (ofString "_buf", .ref buf) :: (ofString "_stack", .ref stk) :: extra
noncomputable def Extra (e : List (Str × Value)) : Prop := e = [] ∨ e = [(ofString "finished", .bool true)]
theorem meths_none0 (buf stk p1 p2 : Addr) (force : Int) (tk : Tok) : (bMeths.all fun n => ((bList buf stk force tk p1 p2 []).lookup n).isNone) = true := by kernel_rfl
theorem meths_none1 (buf stk p1 p2 : Addr) (force : Int) (tk : Tok) : (bMeths.all fun n => ((bList buf stk force tk p1 p2 [(ofString "finished", .bool true)]).lookup n).isNone) = true := by kernel_rfl
theorem btab_of {buf stk p1 p2 : Addr} {force : Int} {tk : Tok} {e : List (Str × Value)} {od : Obj} (T : TabO (bList buf stk force tk p1 p2 e) od) (he : Extra e) : BTab buf stk force od := by
 refine ⟨_, tk, T, fun n v h => Has.of (P := fun p => List.lookup p.1 _ = some p.2) h (by refine ⟨?_, ?_, ?_, ?_, ?_, ?_, trivial⟩ <;> with_unfolding_all rfl), fun n h => ?_⟩
 ·have hm := h.mem
  rcases he with rfl | rfl
  ·exact Option.isNone_iff_eq_none.mp (List.all_eq_true.mp (meths_none0 buf stk p1 p2 force tk) n hm)
  ·exact Option.isNone_iff_eq_none.mp (List.all_eq_true.mp (meths_none1 buf stk p1 p2 force tk) n hm)
section
variable {γ : G} {A : Around} {D : Dm} {env : Env} {gl cl : List (Str × Value)} {vars : List (Str × Option Value)} {news rest : List (Addr × Obj)} {h : Heap} {t : Nat} {R : Value → Heap → Nat → Prop} {x p dx pd buf stk : Addr} {force : Int} {out : List Int} {bo so to po od : Obj} {vs : List Value} {v : Value}
theorem ct_PoolInit (S : SC γ D ((dx, od) :: rest) h) (r : Room A 1) (hx : D x = some (instObj 405 dx)) (T : TabO [] od)
  (k : ∀ h t D' od' l, Le D D' → TabO [(ofString "_pool", .ref l)] od' → SC γ D' ((dx, od') :: rest) h → R .none h t) : WC γ A (.call (.ref 380) ⟨[.ref x], []⟩) R h t := by
 refine' w_enter S ?ho ?hcd r.lt [(ofString "self", .ref x)] [] [] ?hb ?ok trivial ?_
 kd_facts1
 kd_adr
 kd_p
 refine w_newlist F (by decide) fun l lo h hl F => ?_
 refine F.frzk fun D1 le1 e1 F => ?_
 kd_p
 refine w_set F (le1 _ _ hx) .head T (l_set (by tb_start)) (Nat.le_of_ble_eq_true rfl) fun od' h t T F => ?_
 kd_p
 exact k _ _ _ _ _ le1 T F.sc
theorem ct_PoolNew (S : SC γ D rest h) (r : Room A 2) (k : ∀ h t D' p pd po l, Le D D' → D' p = some (instObj 405 pd) → TabO [(ofString "_pool", .ref l)] po → SC γ D' ((pd, po) :: rest) h → R (.ref p) h t) :
  WC γ A (.call (.ref 405) ⟨[], []⟩) R h t := by
 refine w_new S (l_new (by tb_start)) fun x dx h' od ξ S' T hx le => ?_
 refine ct_PoolInit S' r.make hx T fun h t D' od' l le' T S => ⟨rfl, ?_⟩
 exact k _ _ _ _ _ _ _ (le.trans le') (le' _ _ hx) T S
theorem ct_PoolClear (S : SC γ D ((pd, po) :: rest) h) (r : Room A 1) (hx : D p = some (instObj 405 pd)) (T : TabO [(ofString "_pool", v)] po)
  (k : ∀ h t D' po' l, Le D D' → TabO [(ofString "_pool", .ref l)] po' → SC γ D' ((pd, po') :: rest) h → R .none h t) : WC γ A (.call (.ref 394) ⟨[.ref p], []⟩) R h t := by
 refine' w_enter S ?ho ?hcd r.lt [(ofString "self", .ref p)] [] [] ?hb ?ok trivial ?_
 kd_facts1
 kd_adr
 kd_p
 refine w_newlist F (by decide) fun l lo h hl F => ?_
 refine F.frzk fun D1 le1 e1 F => ?_
 kd_p
 refine w_set F (le1 _ _ hx) .head T (l_set (by tb_start)) (Nat.le_of_ble_eq_true rfl) fun od' h t T F => ?_
 kd_p
 exact k _ _ _ _ _ le1 T F.sc
theorem ct_Len (S : SC γ D ((buf, bo) :: rest) h) (r : Room A 1) (Bx : Bld D x buf stk force) (hb : BaO out bo) (hl : out.length ≤ 100000) (k : ∀ h t tk, SC γ D ((buf, bo) :: rest) h → R (.int out.length tk) h t) : WC γ A (.call (.ref 431) ⟨[.ref x], []⟩) R h t := by
 have sz : sizeLine = 16777216 := sizeLine_eq
 refine' w_enter S ?ho ?hcd r.lt [(ofString "self", .ref x)] [] [(ofString "len", .builtin "len")] ?hb ?ok (globs (by kernel_rfl)) ?_
 kd_facts1
 kd_adr
 kd_p
 refine b_buf F Bx ?_
 kd_p
 refine w_len_ba (F.got (by kas_types)) hb (szle (Nat.le_trans hl (by decide))) ?_
 kd_p
 exact k _ _ _ F.sc
theorem ct_BInit {tf : Tok} (S : SC γ D ((dx, od) :: rest) h) (r : Room A 4) (hx : D x = some (instObj 690 dx)) (T : TabO [] od)
  (k : ∀ h t D' od' p1 p2 pd1 pd2 po1 po2 l1 l2 buf bo stk so, Le D D' → TabO (bList buf stk force tf p1 p2 []) od' → D' p1 = some (instObj 405 pd1) → TabO [(ofString "_pool", .ref l1)] po1 → D' p2 = some (instObj 405 pd2) → TabO [(ofString "_pool", .ref l2)] po2 → BaO [] bo → LstO #[] so →
   SC γ D' ((dx, od') :: (stk, so) :: (buf, bo) :: (pd2, po2) :: (pd1, po1) :: rest) h → R .none h t) : VC γ A (.call (.ref 424) ⟨[.ref x, .bool false, .bool false, .int force tf], []⟩) R h t := by
 refine' v_enter S ?ho ?hcd r.lt [(ofString "self", .ref x), (ofString "share_strings", .bool false), (ofString "share_keys", .bool false), (ofString "force_min_bit_width", .int force tf)] [] [(ofString "Pool", .ref 405), (ofString "bytearray", .type "bytearray")] ?hb ?ok (globs (by kernel_rfl)) ?_
 kd_facts1
 kd_adr
 kct_ten
 refine w_set F hx .head T (l_set (by tb_start)) (Nat.le_of_ble_eq_true rfl) fun od' h t T F => ?_
 kd_p
 kct_ten
 refine w_set F hx .head T (l_set (by tb_start)) (Nat.le_of_ble_eq_true rfl) fun od' h t T F => ?_
 kd_p
 kct_ten
 refine w_set F hx .head T (l_set (by tb_start)) (Nat.le_of_ble_eq_true rfl) fun od' h t T F => ?_
 kd_p
 kct_ten
 refine F.outk (ps := []) (by kp_flats) fun oL S back => ?_
 refine w_call (ct_PoolNew S (r.deeper.mono (by decide)) fun h t D1 p1 pd1 po1 l1 le1 ep1 T1 S => ?_)
 have F := back _ [(pd1, po1)] _ le1 S
 kso_len
 kd_p
 have hx := le1 _ _ hx
 refine w_set F hx (by kas_types) T (l_set (by tb_start)) (Nat.le_of_ble_eq_true rfl) fun od' h t T F => ?_
 kd_p
 kct_ten
 refine F.outk (ps := []) (by kp_flats) fun oL S back => ?_
 refine w_call (ct_PoolNew S (r.deeper.mono (by decide)) fun h t D2 p2 pd2 po2 l2 le2 ep2 T2 S => ?_)
 have F := back _ [(pd2, po2)] _ le2 S
 kso_len
 kd_p
 have hx := le2 _ _ hx
 refine w_set F hx (by kas_types) T (l_set (by tb_start)) (Nat.le_of_ble_eq_true rfl) fun od' h t T F => ?_
 kd_p
 kct_ten
 refine w_set F hx .head T (l_set (by tb_start)) (Nat.le_of_ble_eq_true rfl) fun od' h t T F => ?_
 kd_p
 refine v_execs_consq ?_
 intro Q0 q0
 refine v_assign_attr ?_ (by with_unfolding_all rfl)
 kd_p
 refine F.outk (ps := []) (by kp_flats) fun oL S back => ?_
 refine v_new_ba S fun buf bo h hb S => ?_
 have F := back _ [(buf, bo)] _ (Le.refl _) S
 kso_len
 kd_p
 refine w_set F hx (by kas_types) T (l_set (by tb_start)) (Nat.le_of_ble_eq_true rfl) fun od' h t T F => ?_
 kd_p
 kct_ten
 refine w_newlist F (by decide) fun stk so h hso F => ?_
 kd_p
 refine w_set F hx (by kas_types) T (l_set (by tb_start)) (Nat.le_of_ble_eq_true rfl) fun od' h t T F => ?_
 kd_p
 exact k _ _ _ _ _ _ _ _ _ _ _ _ _ _ _ _ (le1.trans le2) T (le2 _ _ ep1) T1 ep2 T2 hb hso F.sc
end
end
section
noncomputable def finOut (p : Pv) (out : List Int) : List Int :=
 (out ++ padN out.length (pw (p.el out.length 0))) ++ cell (pw (p.el out.length 0)) (out ++ padN out.length (pw (p.el out.length 0))).length p ++ KTBy.little 1 (4 * p.ty + p.w) ++ KTBy.little 1 (pw (p.el out.length 0) : Nat)
section
variable {γ : G} {A : Around} {D D0 : Dm} {env : Env} {gl cl : List (Str × Value)} {vars : List (Str × Option Value)} {news rest : List (Addr × Obj)} {h : Heap} {t : Nat} {R : Value → Heap → Nat → Prop} {x p1 p2 pd1 pd2 bd buf stk : Addr} {force : Int} {out : List Int} {bo so to po1 po2 od : Obj} {vs : List Value} {v v1 v2 : Value} {tk : Tok} {extra : List (Str × Value)}
theorem ct_BNew (S : SC γ D rest h) (r : Room A 6)
  (k : ∀ h t D' x bd od' p1 p2 pd1 pd2 po1 po2 l1 l2 buf bo stk so, Le D D' → D' x = some (instObj 690 bd) → TabO (bList buf stk force tk p1 p2 []) od' → D' p1 = some (instObj 405 pd1) → TabO [(ofString "_pool", .ref l1)] po1 → D' p2 = some (instObj 405 pd2) → TabO [(ofString "_pool", .ref l2)] po2 → BaO [] bo → LstO #[] so →
   SC γ D' ((bd, od') :: (stk, so) :: (buf, bo) :: (pd2, po2) :: (pd1, po1) :: rest) h → R (.ref x) h t) : VC γ A (.call (.ref 690) ⟨[.bool false, .bool false, .int force tk], []⟩) R h t := by
 have r : Room A (5 + 1) := r
 refine v_new S (l_new (by tb_start)) fun x dx h' od ξ S' T hx le => ?_
 refine ct_BInit S' (r.make.mono (by decide)) hx T fun h t D' od' p1 p2 pd1 pd2 po1 po2 l1 l2 buf bo stk so le' T' e1 T1 e2 T2 hb hs S => ⟨rfl, ?_⟩
 exact k _ _ _ _ _ _ _ _ _ _ _ _ _ _ _ _ _ _ (le.trans le') (le' _ _ hx) T' e1 T1 e2 T2 hb hs S
theorem b_fin {Q : Value → Heap → Nat → Prop} {ex : Bool} (F : FX γ D env gl cl vars news h) (B : Bld D x buf stk force) (q : Q (.bool false) h (t + 1)) : W γ A (getAttr (.ref x) (ofString "_finished") ex) Q h t := by
 refine ek2_3 B fun bd od b1 b2 z1 => ?_; clear B; obtain ⟨fs, tk, b3, b4, b5⟩ := z1
 exact w_own F b1 (F.sc.keep _ _ b2) b3 (by tb_start) (b4 _ _ (by tb_start)) rfl q
theorem ct_Finish {p : Pv} {a : Addr} (st0 : Stat (hd.heap_1 γ.w.params) D0) (le0 : Le D0 D) (off : D0 bd = none) (S : SC γ D ((buf, bo) :: (stk, so) :: rest) h) (r : Room A 8) (hx : D0 x = some (instObj 690 bd)) (hbd : D bd = some od) (T : TabO (bList buf stk force tk p1 p2 extra) od) (he : Extra extra)
  (hb : BaO out bo) (hs : LstO [Value.ref a].toArray so) (Vh : VIs D a p) (okp : p.ok) (ple : inl p.ty = false → p.v ≤ out.length) (hl : out.length ≤ 60000)
  (k : ∀ h t D' bo' od', Le D0 D' → BaO (finOut p out) bo' → TabO (bList buf stk force tk p1 p2 [(ofString "finished", .bool true)]) od' → SC γ D' ((bd, od') :: (buf, bo') :: (stk, so) :: rest) h → R (.ref buf) h t) :
  VC γ A (.call (.ref 461) ⟨[.ref x], []⟩) R h t := by
 have sz : sizeLine = 16777216 := sizeLine_eq
 have Bx : Bld D x buf stk force := ⟨bd, od, le0 _ _ hx, hbd, btab_of T he⟩
 refine ek1_4 Vh.valI fun u h1 h2 h3 h4 => ?_
 have er := p.el_range okp out.length 0
 obtain ⟨B, wb⟩ := wb_pw er.1 er.2
 have wl := pw_le er.1 er.2
 have wm := wb.2.2.2.range
 have pl := padN_length out.length (show 0 < pw (p.el out.length 0) by exact wl.1)
 have tyr := p.ty_range okp
 have wr := p.w_range okp
 refine' v_enter S ?ho ?hcd r.lt [(ofString "self", .ref x)] [ofString "value", ofString "byte_width"] [(ofString "len", .builtin "len"), (ofString "U", .ref 80)] ?hb ?ok (globs (by kernel_rfl)) ?_
 kd_facts1
 kd_adr
 kct_fill
 refine b_fin F Bx ?_
 kd_p
 refine Br.ff ?_
 kd_p
 kct_fill
 refine b_stack F Bx ?_
 kd_p
 refine w_len_list (F.got (by kas_types)) hs.ls (by simp [sizeLine_eq]) ?_
 kd_p
 refine ⟨fun hc => (by simp at hc), fun ξ => ?_⟩
 kd_p
 kct_ten
 refine b_stack F Bx ?_
 kd_p
 refine w_tail_list (F.got (by kas_types)) hs.ls (by decide) (x := .ref a) rfl (by decide) ?_ (by with_unfolding_all rfl)
 kd_p
 kct_fill
 refine b_meth F Bx (by tb_start) (by tb_start) ?_
 kd_p
 refine v_meth F h1 (by tb_start) (by tb_start) ?_
 kd_p
 refine b_buf F Bx ?_
 kd_p
 refine w_len_ba (F.got (by kas_types)) hb (szle (Nat.le_trans hl (by decide))) ?_
 kd_p
 kqd_sub
 refine ct_ElemWidth0 (p := p.v) S (r.deeper.mono (by decide)) h1 (fun hin => ⟨h3 (by intro q; rw [q] at hin; exact absurd hin (by decide)), p.v0 okp hin, ple hin, by exact cL (out.length + 1) (65536) (nL hl (by kcf_m))⟩) fun h t tk2 S => ?_
 krn_off
 kd_p
 have eel : elW p.ty p.v p.w out.length 0 = p.el out.length 0 := rfl
 refine eel.symm ▸ ?_
 refine F.outk (ps := [(buf, bo)]) (by kp_flats) fun oL S back => ?_
 refine v_call (ct_Align S (r.deeper.mono (by decide)) Bx hb wb (Nat.le_trans hl (by decide)) fun h t tk bo1 hb1 S => ?_)
 have F := back _ [(buf, bo1)] _ (Le.refl _) S
 kso_len
 kd_p
 have l1 : (out ++ padN out.length (pw (p.el out.length 0))).length ≤ out.length + 8 := by rw [List.length_append]; exact nZ (nA wl.2 pl) (by kcf_m)
 kct_fill
 refine b_meth F Bx (by tb_start) (by tb_start) ?_
 kd_p
 refine F.outk (ps := [(buf, bo1)]) (by kp_flats) fun oL S back => ?_
 refine v_call (ct_Cell (kw := true) S (r.deeper.mono (by decide)) Bx Vh okp hb1 wb.2.2.2 (nZ (nA hl (nA wl.2 l1)) (by kcf_m)) (fun q => one_fits okp q wb (Int.le_refl _))
  (fun q => key_fits wb q (Int.le_refl _) (p.v0 okp q) (ple q) (nZ hl (by kcf_m))) fun h t bo2 hb2 S => ?_)
 have F := back _ [(buf, bo2)] _ (Le.refl _) S
 kso_len
 refine ⟨trivial, ?_⟩
 kd_p
 have l2 : (cell (pw (p.el out.length 0)) (out ++ padN out.length (pw (p.el out.length 0))).length p).length = pw (p.el out.length 0) := by unfold cell; rw [KTBy.little_length]
 kct_fill
 refine b_meth F Bx (by tb_start) (by tb_start) ?_
 kd_p
 refine v_meth F h1 (by tb_start) (by tb_start) ?_
 kd_p
 kqd_sub
 refine ct_SPT0 S (r.deeper.mono (by decide)) h1 tyr.1 (Int.lt_of_lt_of_le tyr.2 (by decide)) wr.1 (Int.lt_of_le_of_lt wr.2 (by decide)) fun h t tk3 S => ?_
 krn_off
 kd_p
 refine F.outk (ps := [(buf, bo2)]) (by kp_flats) fun oL S back => ?_
 refine v_call (ct_Writek (m := 1) S (r.deeper.mono (by decide)) Bx hb2 (packs_U (B := 256) (.inl ⟨rfl, rfl⟩) (iZ (iA tyr.1 (iA tyr.1 (iA tyr.1 (iA tyr.1 wr.1)))) (by kcf_m)) (iL (iA tyr.2 (iA tyr.2 (iA tyr.2 (iA tyr.2 wr.2)))) (by kcf_m))) (by refine List.length_append.symm ▸ ?_; refine l2.symm ▸ ?_; refine (KTBy.little_length ..).symm ▸ ?_; exact nZ (nA hl (nA wl.2 l1)) (by kcf_m)) fun h t bo3 hb3 S => ?_)
 have F := back _ [(buf, bo3)] _ (Le.refl _) S
 kso_len
 refine ⟨trivial, ?_⟩
 kd_p
 kct_fill
 refine b_meth F Bx (by tb_start) (by tb_start) ?_
 kd_p
 refine F.outk (ps := [(buf, bo3)]) (by kp_flats) fun oL S back => ?_
 refine v_call (ct_Writek (m := 1) S (r.deeper.mono (by decide)) Bx hb3 (packs_U (B := 256) (.inl ⟨rfl, rfl⟩) (Int.natCast_nonneg _) (Int.lt_of_le_of_lt (Int.ofNat_le.mpr wl.2) (by decide))) (by rw [List.length_append, List.length_append, l2, KTBy.little_length, KTBy.little_length]; exact nZ (nA hl (nA wl.2 l1)) (by kcf_m)) fun h t bo4 hb4 S => ?_)
 have F := back _ [(buf, bo4)] _ (Le.refl _) S
 kso_len
 refine ⟨trivial, ?_⟩
 kd_p
 refine ek1_4 (F.thaw st0 off le0 hbd) fun D3 le3 e3 same F => ?_
 rcases he with rfl | rfl
 ·kct_ten
  refine w_set F (le3 _ _ hx) .head T (l_set (by tb_start)) (Nat.le_of_ble_eq_true rfl) fun od' h t T F => ?_
  kd_p
  kct_fill
  refine w_own F (le3 _ _ hx) (F.got .head) T (by tb_start) (v := .ref buf) (by with_unfolding_all rfl) rfl ?_
  kd_p
  exact k _ _ _ _ _ le3 hb4 T F.sc
 ·kct_ten
  refine w_set F (le3 _ _ hx) .head T (l_set (by tb_start)) (Nat.le_of_ble_eq_true rfl) fun od' h t T F => ?_
  kd_p
  kct_fill
  refine w_own F (le3 _ _ hx) (F.got .head) T (by tb_start) (v := .ref buf) (by with_unfolding_all rfl) rfl ?_
  kd_p
  exact k _ _ _ _ _ le3 hb4 T F.sc
theorem ct_Clear (S : SC γ D ((bd, od) :: (pd1, po1) :: (pd2, po2) :: rest) h) (r : Room A 4) (hx : D x = some (instObj 690 bd)) (T : TabO (bList buf stk force tk p1 p2 extra) od) (he : Extra extra)
  (e1 : D p1 = some (instObj 405 pd1)) (T1 : TabO [(ofString "_pool", v1)] po1) (e2 : D p2 = some (instObj 405 pd2)) (T2 : TabO [(ofString "_pool", v2)] po2)
  (k : ∀ h t D' od' po1' po2' buf' bo' stk' so', Le D D' → TabO (bList buf' stk' force tk p1 p2 extra) od' → BaO [] bo' → LstO #[] so' → SC γ D' ((bd, od') :: (stk', so') :: (buf', bo') :: (pd2, po2') :: (pd1, po1') :: rest) h → R .none h t) :
  VC γ A (.call (.ref 454) ⟨[.ref x], []⟩) R h t := by
 refine' v_enter S ?ho ?hcd r.lt [(ofString "self", .ref x)] [] [(ofString "bytearray", .type "bytearray")] ?hb ?ok (globs (by kernel_rfl)) ?_
 kd_facts1
 kd_adr
 kct_ten
 refine w_own F hx (F.got (by kas_types)) T (by tb_start) (v := .ref p1) (by with_unfolding_all rfl) rfl ?_
 kd_p
 refine w_getm_inst F.sc.inK (F.sc.keep _ _ e1) (F.got (by kas_types)) T1 (l_meth (by tb_start)) (by with_unfolding_all rfl) ?_
 kd_p
 refine F.outk (ps := [(pd1, po1)]) (by kp_flats) fun oL S back => ?_
 refine w_call (ct_PoolClear S (r.deeper.mono (by decide)) e1 T1 fun h t D1 po1' l1 le1 T1 S => ?_)
 have F := back _ [(pd1, po1')] _ le1 S
 kso_len
 refine ⟨trivial, ?_⟩
 kd_p
 have hx := le1 _ _ hx
 have e2 := le1 _ _ e2
 kct_ten
 refine w_own F hx (F.got (by kas_types)) T (by tb_start) (v := .ref p2) (by with_unfolding_all rfl) rfl ?_
 kd_p
 refine w_getm_inst F.sc.inK (F.sc.keep _ _ e2) (F.got (by kas_types)) T2 (l_meth (by tb_start)) (by with_unfolding_all rfl) ?_
 kd_p
 refine F.outk (ps := [(pd2, po2)]) (by kp_flats) fun oL S back => ?_
 refine w_call (ct_PoolClear S (r.deeper.mono (by decide)) e2 T2 fun h t D2 po2' l2 le2 T2 S => ?_)
 have F := back _ [(pd2, po2')] _ le2 S
 kso_len
 refine ⟨trivial, ?_⟩
 kd_p
 have hx := le2 _ _ hx
 kct_ten
 have he10 : extra.length ≤ 1 := by rcases he with rfl | rfl <;> simp
 refine w_set F hx (by kas_types) T (l_set (by tb_start)) (by simp; exact Nat.le_trans he10 (by decide)) fun od' h t T F => ?_
 kd_p
 refine v_execs_consq ?_
 intro Q0 q0
 refine v_assign_attr ?_ (by with_unfolding_all rfl)
 kd_p
 refine F.outk (ps := []) (by kp_flats) fun oL S back => ?_
 refine v_new_ba S fun buf' bo h hb S => ?_
 have F := back _ [(buf', bo)] _ (Le.refl _) S
 kso_len
 kd_p
 refine w_set F hx (by kas_types) T (l_set (by tb_start)) (Nat.le_trans (putF_length _ _ _) (by simp; exact Nat.le_trans he10 (by decide))) fun od' h t T F => ?_
 kd_p
 kct_ten
 refine w_newlist F (by decide) fun stk' so h hso F => ?_
 kd_p
 refine w_set F hx (by kas_types) T (l_set (by tb_start)) (Nat.le_trans (putF_length _ _ _) (Nat.succ_le_succ (Nat.le_trans (putF_length _ _ _) (by simp; exact Nat.le_trans he10 (by decide))))) fun od' h t T F => ?_
 kd_p
 exact k _ _ _ _ _ _ _ _ _ _ (le1.trans le2) T hb hso F.sc
end
end
section
section
variable {γ : G} {A : Around} {D : Dm} {news rest : List (Addr × Obj)} {h : Heap} {t : Nat} {R : Value → Heap → Nat → Prop}
noncomputable def TapeO (ns : List Int) (k : Nat) (D : Dm) (o : Obj) : Prop := ∃ rw tk ro vs, LsO [.ref rw, .int (k : Int) tk] o ∧ D rw = some ro ∧ LsO vs ro ∧ IntsAre vs ns ∧ ns.length ≤ 63
noncomputable def nx (ns : List Int) (k : Nat) : Int := if ns.length = 0 then (k : Int) * 5 else ns.getD (k % ns.length) 0 + (k : Int) / (ns.length : Int) * 7
theorem ints_at {vs : List Value} {ns : List Int} (hi : IntsAre vs ns) : ∀ {j : Nat}, j < ns.length → ∃ tk, vs[j]? = some (.int (ns.getD j 0) tk) := by
 induction hi with
 | nil => intro j hj; simp at hj
 | cons n t _ ih =>
  intro j hj
  cases j with
  | zero => exact ⟨t, by simp⟩
  | succ j => refine ek1_1 (ih (j := j) (by simpa using hj)) fun tk e => ?_; exact ⟨tk, by simpa using e⟩
theorem blk {K : Frag} {env : Env} {gl cl : List (Str × Value)} {vars : List (Str × Option Value)} (F : Fx K D env gl cl vars news h) : env.blockKind = .function := by unfold Env.blockKind; rw [F.e.kind]; rfl
theorem ct_next {ns : List Int} {k : Nat} {tp : Addr} {o : Obj} (S : SC γ D ((tp, o) :: rest) h) (r : Room A 1) (T : TapeO ns k D o)
  (kk : ∀ h t tk o', TapeO ns (k + 1) D o' → SC γ D ((tp, o') :: rest) h → R (.int (nx ns k) tk) h t) : WC γ A (.call (.ref 711) ⟨[.ref tp], []⟩) R h t := by
 refine ek4_5 T fun rw tk0 ro vs T1 T2 T3 T4 T5 => ?_; clear T
 have T2' := T2
 have st := S.st
 refine' w_enter S ?ho ?hcd r.lt [(ofString "tape", .ref tp)] [ofString "row", ofString "at"] [(ofString "len", .builtin "len")] ?hb ?ok (globs (by kernel_rfl)) ?_
 kd_facts1
 kd_adr
 refine' w_execs_cons (w_assign_swap2 (x := ofString "row") (y := ofString "at") r.hn ?_ (by with_unfolding_all rfl) (swap2 (blk F) (F.e.lk _ (by simp)).1 (F.e.lk _ (by simp)).1 rfl (by decide) rfl (by decide +kernel) (by decide +kernel)))
 kd_p
 refine w_tail_list F.sc.head T1 (by decide) rfl (by decide) ?_ (by with_unfolding_all rfl)
 kd_p
 refine w_tail_list F.sc.head T1 (by decide) rfl (by decide) ?_ (by with_unfolding_all rfl)
 kd_p
 refine w_newtup F (n_le rfl) fun D' a o2 h le e T F => ?_
 refine ⟨_, _, _, _, rfl, F.sc.keep _ _ e, T, fun h' kp => ?_⟩
 have F := F.grow kp
 have T2 := le _ _ T2
 have hv := T4.length
 kd_p
 refine w_setitem F .head T1 (by decide) (by simp) (by decide) fun o' h T1 F => ?_
 have T1 : LsO [.ref rw, .int ((k + 1 : Nat) : Int) _] o' := T1
 have fin : ∀ {h t tk}, SC γ D' ((tp, o') :: rest) h → R (.int (nx ns k) tk) h t := fun S => kk _ _ _ _ ⟨rw, _, ro, vs, T1, T2', T3, T4, T5⟩ (S.weaken st le)
 kd_p
 refine w_len_list (F.sc.keep _ _ T2) T3 (by rw [hv, sizeLine_eq]; kcf_m) ?_
 kd_p
 refine ⟨fun hc => ?_, fun hc => ?_⟩ <;> simp at hc
 ·kd_p
  refine i_mul (IntMulOk.of_right (by decide)) ?_
  kd_p
  have e : nx ns k = (k : Int) * 5 := by unfold nx; rw [if_pos (by rw [← hv]; simp [hc])]
  rw [← e]; exact fin F.sc
 have hl : 0 < ns.length := by rw [← hv]; exact List.length_pos_iff.mpr hc
 kd_p
 refine w_len_list (F.sc.keep _ _ T2) T3 (by rw [hv, sizeLine_eq]; kcf_m) ?_
 kd_p
 refine i_mod (cL (0) (vs.length) (nL (nA (Nat.le_of_eq hv.symm) hl) (by kcf_m))) ?_
 refine ek1_1 (ints_at T4 (Nat.mod_lt k hl)) fun tk hx => ?_
 kd_p
 refine w_tail_list (F.sc.keep _ _ T2) T3 (Int.emod_nonneg _ (by kcf_m)) (x := .int (ns.getD (k % ns.length) 0) tk) (by rw [hv, show ((k : Int) % (ns.length : Int)).toNat = k % ns.length by exact rfl]; exact hx) (Int.lt_of_lt_of_le (Int.emod_lt_of_pos _ (cL (0) (vs.length) (nL (nA (Nat.le_of_eq hv.symm) hl) (by kcf_m)))) (by kcf_m)) ?_ (by with_unfolding_all rfl)
 kd_p
 refine w_len_list (F.sc.keep _ _ T2) T3 (by rw [hv, sizeLine_eq]; kcf_m) ?_
 kd_p
 refine i_fdiv (cL (0) (vs.length) (nL (nA (Nat.le_of_eq hv.symm) hl) (by kcf_m))) (cL (vs.length) (1000000000) (nL (nA T5 (Nat.le_of_eq hv)) (by kcf_m))) ?_
 kd_p
 refine i_mul (IntMulOk.of_right (by decide)) ?_
 kd_p
 have e : nx ns k = ns.getD (k % ns.length) 0 + (k : Int) / (vs.length : Int) * 7 := by unfold nx; rw [if_neg (Nat.ne_of_gt hl), hv]
 refine e ▸ ?_; exact fin F.sc
end
end
section
theorem pw_eq {b : Int} (h0 : 0 ≤ b) : (1 : Int) * 2 ^ b.toNat = (pw b : Nat) := by unfold pw; rw [Int.one_mul]; simp
theorem pow256 (k : Nat) : (2 : Int) ^ (8 * (k : Int)).toNat = 256 ^ k := by
 rw [show (8 * (k : Int)).toNat = 8 * k by exact rfl, Int.pow_mul]; rfl
theorem pad_mod {n m j : Nat} (hm : 0 < m) (hj : j ≤ ((-(n : Int)) % (m : Int)).toNat) : (((n + j : Nat) : Int) % (m : Int) = 0) ↔ j = ((-(n : Int)) % (m : Int)).toNat := by
 have a1 := Int.emod_nonneg (-(n : Int)) (show (m : Int) ≠ 0 by kcf_m)
 have a2 := Int.emod_lt_of_pos (-(n : Int)) (show (0 : Int) < m by exact Int.ofNat_lt.mpr hm)
 have h1 : -(n : Int) = m * (-(n : Int) / m) + -(n : Int) % m := (Int.mul_ediv_add_emod _ _).symm
 generalize hr : -(n : Int) % m = r at *
 generalize -(n : Int) / m = q at *
 constructor
 ·intro h
  have h2 : ((n + j : Nat) : Int) = (r - j) * (-1) + m * (-q) := by push_cast; simp only [Int.mul_neg]; exact iE h1.symm (by kcf_m)
  have h3 : (r - (j : Int)) % m = 0 := by
   have : ((n + j : Nat) : Int) = -(r - j) + m * (-q) := by rw [h2]; kcf_m
   rw [this, Int.add_mul_emod_self_left] at h
   have := Int.emod_emod_of_dvd (-(r - (j : Int))) (Int.dvd_refl (m : Int))
   have d : (m : Int) ∣ -(r - j) := Int.dvd_of_emod_eq_zero h
   exact Int.emod_eq_zero_of_dvd (Int.dvd_neg.mp d)
  rw [Int.emod_eq_of_lt (by kcf_m) (by kcf_m)] at h3
  kcf_m
 ·intro h
  have h2 : ((n + j : Nat) : Int) = m * (-q) := by push_cast; simp only [Int.mul_neg]; kcf_m
  rw [h2]; exact Int.mul_emod_right _ _
section
variable {γ : G} {A : Around} {D : Dm} {env : Env} {gl cl : List (Str × Value)} {vars : List (Str × Option Value)} {news rest : List (Addr × Obj)} {h : Heap} {t : Nat} {R : Value → Heap → Nat → Prop} {l : Addr} {lo : Obj} {out : List Int}
theorem ct_write {n b : Int} {tn tb : Tok} (S : SC γ D ((l, lo) :: rest) h) (r : Room A 1) (hb : IO out lo) (b0 : 0 ≤ b) (b3 : b ≤ 3) (hl : out.length ≤ 100000)
  (k : ∀ h t lo', IO (out ++ KTBy.little (pw b) n) lo' → SC γ D ((l, lo') :: rest) h → R .none h t) : WC γ A (.call (.ref 764) ⟨[.ref l, .int n tn, .int b tb], []⟩) R h t := by
 have wl := pw_le b0 b3
 have st := S.st
 refine' w_enter S ?ho ?hcd r.lt [(ofString "out", .ref l), (ofString "number", .int n tn), (ofString "bits", .int b tb)] [ofString "k"] [(ofString "range", .type "range")] ?hb ?ok (globs (by kernel_rfl)) ?_
 kd_facts1
 kd_adr
 refine w_execs_consq ?_
 intro Q0 q0
 refine w_for ?_
 kd_p
 refine i_shl b0 (by kcf_m) (by decide) ?_
 kd_p
 refine (pw_eq b0).symm ▸ ?_
 refine w_call_range F fun D1 ra h t le1 hr F => ?_
 refine w_pyiter_range F hr (Nat.le_trans wl.2 (by decide)) fun it own h hst F => ?_
 refine w_for_c iter_range r.hn (fun i D' Φ => ∀ uk lo', (IO (out ++ KTBy.little i n) lo') → Φ [(ofString "out", some (.ref l)), (ofString "number", some (.int n tn)), (ofString "bits", some (.int b tb)), (ofString "k", uk)] ((l, lo') :: rest)) F hst (fun ξ j => j _ _ (by simpa [KTBy.little] using hb)) (fun ξ ξ ξ ξ ξ q => q) ?_ ?_
 ·intro i D2 own u h t K0 k0 kr le2 hi y1; refine ek1_1 y1 fun tk z1 => ?_; clear y1; obtain rfl := z1; intro uk lo1 hb1 F
  refine w_asg_name ?_
  kd_p
  refine w_io_getm PySem.F.slot_list_append PySem.F.type_list_append (F.got .head) hb1 ?_
  kd_p
  refine i_mul (IntMulOk.of_left (by decide)) ?_
  kd_p
  refine i_shr (Int.natCast_nonneg _) ?_
  kd_p
  refine i_mod (by decide) ?_
  kd_p
  refine w_io_append F .head hb1 (by simp only [List.length_append, KTBy.little_length]; exact nZ (nA hl (nA wl.2 hi)) (by kcf_m)) fun lo2 h hb2 F => ?_
  refine ⟨trivial, ?_⟩
  kd_p
  refine k0 D2 _ _ _ _ (Le.refl _) (fun ξ j => j _ lo2 ?_) F
  have e0 : (0 : Int) + (i : Int) = (i : Int) := Int.zero_add _
  rw [e0, pow256, List.append_assoc, ← little_succ] at hb2
  exact hb2
 rintro D3 h t le3 uk lo1 hb1 F
 refine q0 _ _ _ ?_
 kd_p
 exact k _ _ _ hb1 (F.sc.weaken st (le1.trans le3))
theorem ct_pad {b : Int} {tb : Tok} (S : SC γ D ((l, lo) :: rest) h) (r : Room A 1) (hb : IO out lo) (b0 : 0 ≤ b) (b3 : b ≤ 3) (hl : out.length ≤ 100000)
  (k : ∀ h t lo', IO (out ++ padN out.length (pw b)) lo' → SC γ D ((l, lo') :: rest) h → R .none h t) : WC γ A (.call (.ref 771) ⟨[.ref l, .int b tb], []⟩) R h t := by
 have wl := pw_le b0 b3
 have pl := padN_length out.length (show 0 < pw b by exact wl.1)
 have a1 := Int.emod_nonneg (-(out.length : Int)) (show (pw b : Int) ≠ 0 by kcf_m)
 have a2 := Int.emod_lt_of_pos (-(out.length : Int)) (show (0 : Int) < pw b by exact cL (0) (pw b) (nL wl.1 (by kcf_m)))
 refine' w_enter S ?ho ?hcd r.lt [(ofString "out", .ref l), (ofString "bits", .int b tb)] [] [(ofString "len", .builtin "len")] ?hb ?ok (globs (by kernel_rfl)) ?_
 kd_facts1
 kd_adr
 refine w_execs_consq ?_
 intro Q0 q0
 refine w_while (fun m h => ∃ j lo', m + j = ((-(out.length : Int)) % (pw b : Int)).toNat ∧ IO (out ++ List.replicate j 0) lo' ∧ FX γ D env [(ofString "len", .builtin "len")] [] [(ofString "out", some (.ref l)), (ofString "bits", some (.int b tb))] ((l, lo') :: rest) h) ((-(out.length : Int)) % (pw b : Int)).toNat ⟨0, _, by exact rfl, by simpa using hb, F⟩ ?_
 intro m h t y1; refine ek2_3 y1 fun j lo1 hj hb1 F => ?_; clear y1
 have len1 : (out ++ List.replicate j (0 : Int)).length = out.length + j := by simp
 kd_p
 refine w_io_len (F.got .head) hb1 (by kcf_m) ?_
 kd_p
 refine i_shl b0 (by kcf_m) (by decide) ?_
 kd_p
 refine (pw_eq b0).symm ▸ ?_
 refine i_mod (cL (0) (pw b) (nL wl.1 (by kcf_m))) ?_
 kd_p
 refine len1.symm ▸ ?_
 have pm := pad_mod (n := out.length) (m := pw b) (j := j) wl.1 (nZ (Nat.le_of_eq hj) (by kcf_m))
 refine ⟨fun hc => ?_, fun hc => ?_⟩ <;> simp only [bne_iff_ne, ne_eq, decide_eq_true_eq, decide_eq_false_iff_not, Decidable.not_not, bne_eq_false_iff_eq, Bool.not_eq_true'] at hc
 ·rw [pm] at hc
  kd_p
  refine w_io_getm PySem.F.slot_list_append PySem.F.type_list_append (F.got .head) hb1 ?_
  kd_p
  refine w_io_append F .head hb1 (by kcf_m) fun lo2 h hb2 F => ?_
  refine ⟨trivial, ?_⟩
  kd_p
  exact .inl ⟨rfl, m - 1, by kcf_m, j + 1, lo2, by kcf_m, by rw [List.append_assoc, ← List.replicate_succ'] at hb2; exact hb2, F⟩
 ·rw [pm] at hc
  refine q0 _ _ _ ?_
  kd_p
  exact k _ _ _ (by unfold padN; rw [← hc]; exact hb1) F.sc
end
end
section
noncomputable def upTo (c : Nat → Bool) (i : Nat) : List Int := ((List.range i).filter c).map fun (k : Nat) => (k : Int)
theorem upTo_yes {c : Nat → Bool} {i : Nat} (h : c i = true) : upTo c (i + 1) = upTo c i ++ [(i : Int)] := by simp [upTo, List.range_succ, List.filter_append, h]
theorem upTo_no {c : Nat → Bool} {i : Nat} (h : c i = false) : upTo c (i + 1) = upTo c i := by simp [upTo, List.range_succ, List.filter_append, h]
theorem up0 {c : Nat → Bool} (h0 : c 0 = true) : ∃ r, upTo c 4 = 0 :: r := ⟨(List.filter c [1, 2, 3]).map fun k : Nat => (k : Int), congrArg (List.map fun k : Nat => (k : Int)) (List.filter_cons_of_pos h0)⟩
theorem up_no {c : Nat → Bool} {i : Nat} {l : List Nat} (h : c i = false) : List.filter c (i :: l) = List.filter c l := List.filter_cons_of_neg (by rw [h]; exact Bool.false_ne_true)
theorem up1 {c : Nat → Bool} (h0 : c 0 = false) (h1 : c 1 = true) : ∃ r, upTo c 4 = 1 :: r :=
 ⟨(List.filter c [2, 3]).map fun k : Nat => (k : Int), congrArg (List.map fun k : Nat => (k : Int)) ((up_no h0).trans (List.filter_cons_of_pos h1))⟩
theorem up2 {c : Nat → Bool} (h0 : c 0 = false) (h1 : c 1 = false) (h2 : c 2 = true) : ∃ r, upTo c 4 = 2 :: r :=
 ⟨(List.filter c [3]).map fun k : Nat => (k : Int), congrArg (List.map fun k : Nat => (k : Int)) ((up_no h0).trans ((up_no h1).trans (List.filter_cons_of_pos h2)))⟩
theorem up3 {c : Nat → Bool} (h0 : c 0 = false) (h1 : c 1 = false) (h2 : c 2 = false) (h3 : c 3 = true) : ∃ r, upTo c 4 = 3 :: r :=
 ⟨[], congrArg (List.map fun k : Nat => (k : Int)) ((up_no h0).trans ((up_no h1).trans ((up_no h2).trans (List.filter_cons_of_pos h3))))⟩
theorem bits_first {n : Int} (h1 : n < 18446744073709551616) : ∃ r, upTo (fun k => decide (n < 2 ^ (8 * 2 ^ k))) 4 = bw n :: r := by
 have e0 : (2 : Int) ^ (8 * 2 ^ 0) = 256 := by decide
 have e1 : (2 : Int) ^ (8 * 2 ^ 1) = 65536 := by decide
 have e2 : (2 : Int) ^ (8 * 2 ^ 2) = 4294967296 := by decide
 have e3 : (2 : Int) ^ (8 * 2 ^ 3) = 18446744073709551616 := by decide
 unfold bw
 by_cases a : n < 256
 ·rw [if_pos a]; exact up0 (decide_eq_true (e0.symm ▸ a))
 have a' := decide_eq_false (e0.symm ▸ a)
 rw [if_neg a]
 by_cases b : n < 65536
 ·rw [if_pos b]; exact up1 a' (decide_eq_true (e1.symm ▸ b))
 have b' := decide_eq_false (e1.symm ▸ b)
 rw [if_neg b]
 by_cases c : n < 4294967296
 ·rw [if_pos c]; exact up2 a' b' (decide_eq_true (e2.symm ▸ c))
 ·rw [if_neg c]; exact up3 a' b' (decide_eq_false (e2.symm ▸ c)) (decide_eq_true (e3.symm ▸ h1))
theorem iw_lev {n m : Int} : (if 0 ≤ n then n * 2 else -(n * 2) - 1) < 2 * m ↔ -m ≤ n ∧ n < m := by split <;> kcf_m
theorem own_first {n : Int} (h0 : -9223372036854775808 ≤ n) (h1 : n < 9223372036854775808) : ∃ r, upTo (fun k => decide (-(2 ^ (8 * 2 ^ k - 1)) ≤ n) && decide (n < 2 ^ (8 * 2 ^ k - 1))) 4 = iw n :: r := by
 have e : (fun k => decide (-(2 ^ (8 * 2 ^ k - 1)) ≤ n) && decide (n < 2 ^ (8 * 2 ^ k - 1))) = fun k => decide ((if 0 ≤ n then n * 2 else -(n * 2) - 1) < 2 ^ (8 * 2 ^ k)) := by
  funext k
  have p := Nat.one_le_two_pow (n := k)
  have q : (2 : Int) ^ (8 * 2 ^ k) = 2 * 2 ^ (8 * 2 ^ k - 1) := by rw [show 8 * 2 ^ k = 8 * 2 ^ k - 1 + 1 by kcf_m, Int.pow_succ, Int.mul_comm]; rfl
  rw [q, ← Bool.decide_and]
  exact decide_eq_decide.mpr iw_lev.symm
 rw [e]
 exact bits_first (iw_lev (m := 9223372036854775808).mpr ⟨h0, h1⟩)
theorem shl8 (i : Nat) : (8 : Int) * 2 ^ (0 + (i : Int)).toNat = ((8 * 2 ^ i : Nat) : Int) := by rw [show (0 + (i : Int)).toNat = i by kcf_m]; push_cast; rfl
section
variable {γ : G} {A : Around} {D : Dm} {env : Env} {gl cl : List (Str × Value)} {vars : List (Str × Option Value)} {news rest : List (Addr × Obj)} {h : Heap} {t : Nat} {R : Value → Heap → Nat → Prop} {l : Addr} {lo : Obj} {out : List Int}
theorem ct_lbits {n : Int} {tn : Tok} (S : SC γ D news h) (r : Room A 2) (h1 : n < 18446744073709551616) (k : ∀ h t tk, SC γ D news h → R (.int (bw n) tk) h t) : WC γ A (.call (.ref 752) ⟨[.int n tn], []⟩) R h t := by
 have st := S.st
 refine' w_enter_c S ?ho ?hcd r.lt [(ofString "number", .int n tn)] [] [] [(ofString "number", .int n tn)] [(ofString "range", .type "range")] ?hb ?hlb ?hcl ?ok (globs (by kernel_rfl)) ?_
 case ho => k_is
 case hcd => k_is
 case hb => with_unfolding_all rfl
 case hlb => exact .nil
 case hcl => exact .cons (by tb_start) .nil
 case ok => kernel_rfl
 clear S
 intro env D1 h t le1 F
 dsimp only [mkV, List.map, List.cons_append, List.nil_append] at F
 kd_p
 refine w_listcomp F ?_ (ns := [ofString "k"]) (gn := []) (cn := [ofString "number"]) (by kernel_rfl)
 kd_p
 refine w_call_range F fun D2 ra h t le2 hr F => ?_
 refine w_pyiter_range (n := 4) F hr (by decide) fun it own h hst F => ?_
 refine w_comp_it iter_range r.hn F hst [ofString "k"] [] [(ofString "number", .int n tn)] (by kernel_rfl) trivial (.cons (by tb_start) .nil) (by decide)
  (fun i D' ys news' => news' = news ∧ IntsAre ys (upTo (fun k => decide (n < 2 ^ (8 * 2 ^ k))) i)) ⟨rfl, .nil⟩ (fun ξ ξ ξ ξ ξ ξ q => q) ?_ ?_
 ·intro cenv i D3 ys news' own' u v h t le3 hi y1; refine ek0_2 y1 fun z1 hys => ?_; clear y1; obtain rfl := z1; intro y2; refine ek1_1 y2 fun tk z2 => ?_; clear y2; obtain rfl := z2; intro F
  dsimp only [List.map] at F
  refine w_asg_name ?_
  kd_p
  refine w_tests_one ?_
  kd_p
  refine i_shl (by kcf_m) (by kcf_m) (by decide) ?_
  kd_p
  refine (shl8 ..).symm ▸ ?_
  refine i_shl (Int.natCast_nonneg _) (by have : 2 ^ i ≤ 2 ^ 3 := Nat.pow_le_pow_right (by decide) (nZ hi (by kcf_m)); kcf_m) (by decide) ?_
  kd_p
  have ec : decide (n < 1 * 2 ^ (((8 * 2 ^ i : Nat) : Int)).toNat) = decide (n < 2 ^ (8 * 2 ^ i)) := by rw [Int.one_mul, Int.toNat_natCast]
  refine ec.symm ▸ ?_
  refine ⟨fun hc => ?_, fun hc => ?_⟩
  ·kd_p
   refine ⟨Le.refl _, rfl, ⟨rfl, ?_⟩, F⟩
   refine (upTo_yes (c := fun k => decide (n < 2 ^ (8 * 2 ^ k))) hc).symm ▸ ?_; refine (show (0 : Int) + (i : Int) = (i : Int) by kcf_m).symm ▸ ?_
   exact ksk_snoc hys
  ·refine ⟨Le.refl _, rfl, ⟨rfl, ?_⟩, F⟩
   rw [upTo_no (c := fun k => decide (n < 2 ^ (8 * 2 ^ k))) hc]
   exact hys
 intro D4 ys news' acc o h t le4 y1; refine ek0_2 y1 fun z1 hys => ?_; clear y1; obtain rfl := z1; intro hl F
 refine ek1_1 (bits_first h1) fun rr er => ?_
 rw [er] at hys
 cases hys with
 | cons _ t0 hys =>
  kd_p
  refine w_tail_list (F.got .head) hl.ls (by decide) (x := .int (bw n) t0) rfl (by decide) ?_ (by with_unfolding_all rfl)
  kd_p
  exact k _ _ _ ((F.sc.weaken st ((le1.trans le2).trans le4)).drop)
theorem ct_lown {n : Int} {tn : Tok} (S : SC γ D news h) (r : Room A 2) (h0 : -9223372036854775808 ≤ n) (h1 : n < 9223372036854775808) (k : ∀ h t tk, SC γ D news h → R (.int (iw n) tk) h t) : WC γ A (.call (.ref 757) ⟨[.int n tn], []⟩) R h t := by
 have st := S.st
 refine' w_enter_c S ?ho ?hcd r.lt [(ofString "number", .int n tn)] [] [] [(ofString "number", .int n tn)] [(ofString "range", .type "range")] ?hb ?hlb ?hcl ?ok (globs (by kernel_rfl)) ?_
 case ho => k_is
 case hcd => k_is
 case hb => with_unfolding_all rfl
 case hlb => exact .nil
 case hcl => exact .cons (by tb_start) .nil
 case ok => kernel_rfl
 clear S
 intro env D1 h t le1 F
 dsimp only [mkV, List.map, List.cons_append, List.nil_append] at F
 kd_p
 refine w_listcomp F ?_ (ns := [ofString "k"]) (gn := []) (cn := [ofString "number"]) (by kernel_rfl)
 kd_p
 refine w_call_range F fun D2 ra h t le2 hr F => ?_
 refine w_pyiter_range (n := 4) F hr (by decide) fun it own h hst F => ?_
 refine w_comp_it iter_range r.hn F hst [ofString "k"] [] [(ofString "number", .int n tn)] (by kernel_rfl) trivial (.cons (by tb_start) .nil) (by decide)
  (fun i D' ys news' => news' = news ∧ IntsAre ys (upTo (fun k => decide (-(2 ^ (8 * 2 ^ k - 1)) ≤ n) && decide (n < 2 ^ (8 * 2 ^ k - 1))) i)) ⟨rfl, .nil⟩ (fun ξ ξ ξ ξ ξ ξ q => q) ?_ ?_
 ·intro cenv i D3 ys news' own' u v h t le3 hi y1; refine ek0_2 y1 fun z1 hys => ?_; clear y1; obtain rfl := z1; intro y2; refine ek1_1 y2 fun tk z2 => ?_; clear y2; obtain rfl := z2; intro F
  dsimp only [List.map] at F
  have p1 : 1 ≤ 2 ^ i := Nat.one_le_two_pow
  have p8 : 2 ^ i ≤ 2 ^ 3 := Nat.pow_le_pow_right (by decide) (nZ hi (by kcf_m))
  have ex : (((8 * 2 ^ i : Nat) : Int) - 1).toNat = 8 * 2 ^ i - 1 := by kcf_m
  refine w_asg_name ?_
  kd_p
  refine w_tests_one ?_
  kd_p
  refine i_shl (by kcf_m) (by kcf_m) (by decide) ?_
  kd_p
  refine (shl8 ..).symm ▸ ?_
  refine i_shl (by kcf_m) (by kcf_m) (by decide) ?_
  kd_p
  refine ex.symm ▸ ?_; refine (Int.one_mul ..).symm ▸ ?_
  kd_p
  have no : ∀ ys, IntsAre ys (upTo (fun k => decide (-(2 ^ (8 * 2 ^ k - 1)) ≤ n) && decide (n < 2 ^ (8 * 2 ^ k - 1))) i) → (decide (-(2 ^ (8 * 2 ^ i - 1)) ≤ n) && decide (n < 2 ^ (8 * 2 ^ i - 1))) = false → IntsAre ys (upTo (fun k => decide (-(2 ^ (8 * 2 ^ k - 1)) ≤ n) && decide (n < 2 ^ (8 * 2 ^ k - 1))) (i + 1)) := by
   intro ys hys hc
   refine (upTo_no (c := fun k => decide (-(2 ^ (8 * 2 ^ k - 1)) ≤ n) && decide (n < 2 ^ (8 * 2 ^ k - 1))) hc).symm ▸ ?_; exact hys
  refine ⟨fun ha => ?_, fun ha => ?_⟩
  ·kd_p
   refine i_shl (by kcf_m) (by kcf_m) (by decide) ?_
   kd_p
   refine (shl8 ..).symm ▸ ?_
   refine i_shl (by kcf_m) (by kcf_m) (by decide) ?_
   kd_p
   refine ex.symm ▸ ?_; refine (Int.one_mul ..).symm ▸ ?_
   kd_p
   refine ⟨fun hc => ?_, fun hc => ?_⟩
   ·kd_p
    refine ⟨Le.refl _, rfl, ⟨rfl, ?_⟩, F⟩
    rw [upTo_yes (c := fun k => decide (-(2 ^ (8 * 2 ^ k - 1)) ≤ n) && decide (n < 2 ^ (8 * 2 ^ k - 1))) (by simp only [ha, hc, Bool.and_self]), show (0 : Int) + (i : Int) = (i : Int) by kcf_m]
    exact ksk_snoc hys
   ·exact ⟨Le.refl _, rfl, ⟨rfl, no _ hys (by rw [hc, Bool.and_false])⟩, F⟩
  ·kd_p
   refine Br.ff ?_
   exact ⟨Le.refl _, rfl, ⟨rfl, no _ hys (by rw [ha, Bool.false_and])⟩, F⟩
 intro D4 ys news' acc o h t le4 y1; refine ek0_2 y1 fun z1 hys => ?_; clear y1; obtain rfl := z1; intro hl F
 refine ek1_1 (own_first h0 h1) fun rr er => ?_
 rw [er] at hys
 cases hys with
 | cons _ t0 hys =>
  kd_p
  refine w_tail_list (F.got .head) hl.ls (by decide) (x := .int (iw n) t0) rfl (by decide) ?_ (by with_unfolding_all rfl)
  kd_p
  exact k _ _ _ ((F.sc.weaken st ((le1.trans le2).trans le4)).drop)
theorem ct_lfar {p idx : Int} {tp ti : Tok} (S : SC γ D ((l, lo) :: rest) h) (r : Room A 1) (hb : IO out lo) (h0 : 0 ≤ p) (h1 : p ≤ out.length) (hi : 0 ≤ idx) (hz : out.length + 2 * idx + 2 < 65536)
  (k : ∀ h t tk, SC γ D ((l, lo) :: rest) h → R (.int (far out.length p idx) tk) h t) : WC γ A (.call (.ref 778) ⟨[.ref l, .int p tp, .int idx ti], []⟩) R h t := by
 have st := S.st
 refine' w_enter S ?ho ?hcd r.lt [(ofString "out", .ref l), (ofString "place", .int p tp), (ofString "index", .int idx ti)] [ofString "k", ofString "slot"] [(ofString "range", .type "range"), (ofString "len", .builtin "len")] ?hb ?ok (globs (by kernel_rfl)) ?_
 kd_facts1
 kd_adr
 refine w_execs_consq ?_
 intro Q0 q0
 refine w_for ?_
 kd_p
 refine w_call_range F fun D1 ra h t le1 hr F => ?_
 refine w_pyiter_range (n := 4) F hr (by decide) fun it own h hst F => ?_
 refine w_for_c iter_range r.hn (fun i D' Φ => ∀ uk us, (i ≤ 1) → ((i = 1 → 256 ≤ out.length + idx - p)) → Φ [(ofString "out", some (.ref l)), (ofString "place", some (.int p tp)), (ofString "index", some (.int idx ti)), (ofString "k", uk), (ofString "slot", us)] ((l, lo) :: rest)) F hst (fun ξ j => j _ _ (by decide) (by simp)) (fun ξ ξ ξ ξ ξ q => q) ?_ ?_
 ·intro i D2 own u h t K0 k0 kr le2 hi4 y1; refine ek1_1 y1 fun tk z1 => ?_; clear y1; obtain rfl := z1; intro uk us i1 h256 F
  have fin : ∀ {h t tk}, SC γ D2 ((l, lo) :: rest ++ own) h → R (.int (far out.length p idx) tk) h t := fun S => k _ _ _ ((S.weaken st (le1.trans le2)).sub (by simp))
  refine w_asg_name ?_
  rcases (show i = 0 ∨ i = 1 by kcf_m) with rfl | rfl
  ·kd_p
   refine w_io_len (F.got .head) hb (by kcf_m) ?_
   kd_p
   refine i_shl (by decide) (by decide) (by decide) ?_
   kd_p
   refine i_fdiv (by decide) (by decide) ?_
   kd_p
   refine i_shl (by decide) (by decide) (by decide) ?_
   kd_p
   refine i_mul (IntMulOk.of_right (by decide)) ?_
   kd_p
   refine i_shl (by decide) (by decide) (by rw [show (2 : Nat) ^ 64 = 18446744073709551616 by rfl]; kcf_m) ?_
   kd_p
   refine i_shl (by decide) (by decide) (by decide) ?_
   kd_p
   refine i_shl (by decide) (by decide) (by decide) ?_
   kd_p
   have e1 : -(-(out.length : Int) / (1 * 2 ^ (0 + ((0 : Nat) : Int)).toNat)) * (1 * 2 ^ (0 + ((0 : Nat) : Int)).toNat) + idx * 2 ^ (0 + ((0 : Nat) : Int)).toNat - p = out.length + idx - p := by
    refine (show (0 + ((0 : Nat) : Int)).toNat = 0 by rfl).symm ▸ ?_; kcf_m
   have e2 : (1 : Int) * 2 ^ (8 * 2 ^ (0 + ((0 : Nat) : Int)).toNat : Int).toNat = 256 := by rfl
   refine e1.symm ▸ ?_; refine e2.symm ▸ ?_
   refine Br.dec (fun hc => ?_) fun hc => ?_
   ·kd_p
    have ef : (0 + ((0 : Nat) : Int)) = far out.length p idx := by unfold far; rw [if_pos hc]; rfl
    rw [ef]
    exact kr _ _ _ (q0 _ _ _ (fin F.sc))
   ·kd_p
    exact k0 D2 _ _ _ _ (Le.refl _) (fun ξ j => j _ _ (by decide) (fun ξ => by exact Int.not_lt.mp hc)) F
  ·kd_p
   refine w_io_len (F.got .head) hb (by kcf_m) ?_
   kd_p
   refine i_shl (by decide) (by decide) (by decide) ?_
   kd_p
   refine i_fdiv (by decide) (by decide) ?_
   kd_p
   refine i_shl (by decide) (by decide) (by decide) ?_
   kd_p
   refine i_mul (IntMulOk.of_right (by decide)) ?_
   kd_p
   refine i_shl (by decide) (by decide) (by rw [show (2 : Nat) ^ 64 = 18446744073709551616 by rfl]; kcf_m) ?_
   kd_p
   refine i_shl (by decide) (by decide) (by decide) ?_
   kd_p
   refine i_shl (by decide) (by decide) (by decide) ?_
   kd_p
   have h256 := h256 rfl
   have e2 : (1 : Int) * 2 ^ (8 * 2 ^ (0 + ((1 : Nat) : Int)).toNat : Int).toNat = 65536 := by rfl
   have e1 : (2 : Int) ^ (0 + ((1 : Nat) : Int)).toNat = 2 := by rfl
   refine e2.symm ▸ ?_; refine e1.symm ▸ ?_
   refine Br.dec (fun hc => ?_) fun hc => ?_
   ·kd_p
    have ef : (0 + ((1 : Nat) : Int)) = far out.length p idx := by unfold far; rw [if_neg (Int.not_lt.mpr h256)]; rfl
    rw [ef]
    exact kr _ _ _ (q0 _ _ _ (fin F.sc))
   ·kcf_m
 rintro D3 h t le3 uk us i1 _ F
 exact absurd i1 (by decide)
end
end
section
noncomputable def PartIs (D : Dm) (v : Value) (p : Pv) : Prop := ∃ a o t1 t2 t3, v = .ref a ∧ D a = some o ∧ TupO [.int p.ty t1, .int p.v t2, .int p.w t3] o
theorem PartIs.mono {D D' : Dm} {v : Value} {p : Pv} (x : PartIs D v p) (l : Le D D') : PartIs D' v p := ek5_3 x fun a o t1 t2 t3 e1 e2 e3 => ⟨a, o, t1, t2, t3, e1, l _ _ e2, e3⟩
noncomputable def PartsAre (D : Dm) (vs : List Value) (ps : List Pv) : Prop := vs.length = ps.length ∧ ∀ (i : Nat) (v : Value) (p : Pv), vs[i]? = some v → ps[i]? = some p → PartIs D v p
theorem PartsAre.mono {D D' : Dm} {vs : List Value} {ps : List Pv} (x : PartsAre D vs ps) (l : Le D D') : PartsAre D' vs ps := ⟨x.1, fun i v p h1 h2 => (x.2 i v p h1 h2).mono l⟩
theorem PartsAre.at {D : Dm} {vs : List Value} {ps : List Pv} (x : PartsAre D vs ps) {i : Nat} {v : Value} (h : vs[i]? = some v) : ∃ p, ps[i]? = some p ∧ PartIs D v p ∧ i < ps.length ∧ ps.take (i + 1) = ps.take i ++ [p] := by
 have hi : i < ps.length := by rw [← x.1]; exact (List.getElem?_eq_some_iff.mp h).1
 exact ⟨ps[i], by simp [hi], x.2 i v _ h (by simp [hi]), hi, List.take_succ_eq_append_getElem hi⟩
theorem inl_any {p : Pv} (ok : p.ok) : ([0, 1, 26].any (· == p.ty)) = inl p.ty := by
 unfold inl
 rcases ok with q | q | q | q
 ·rw [q.1]; rfl
 ·rw [q.1]; rfl
 ·rw [q.1]; rfl
 ·have a0 : ¬ (0 : Int) = p.ty := fun e => absurd (e ▸ q.1 : (3 : Int) < 0) (by decide)
  have a1 : ¬ (1 : Int) = p.ty := fun e => absurd (e ▸ q.1 : (3 : Int) < 1) (by decide)
  have a2 : ¬ (26 : Int) = p.ty := fun e => q.2.1 e.symm
  have a3 : ¬ p.ty ≤ 3 := Int.not_le.mpr q.1
  have a4 : ¬ p.ty = 26 := q.2.1
  simp [a0, a1, a2, a3, a4]
theorem el_inl {p : Pv} (h : inl p.ty = true) (n i : Int) : p.el n i = p.w := by unfold Pv.el elW; rw [if_pos h]
theorem cell_inl {p : Pv} {m : Nat} (h : inl p.ty = true) (n : Int) : cell m n p = KTBy.little m p.v := by unfold cell; rw [if_pos h]; exact little_mod m p.v
theorem cell_far {p : Pv} {m : Nat} (h : inl p.ty = false) (n : Int) : cell m n p = KTBy.little m (n - p.v) := by unfold cell; rw [if_neg (by rw [h]; decide)]
noncomputable def Ky.inL (D : Dm) (out : List Int) : Ky → Prop
 | .n => True
 | .s ka kp => ∃ (ko : Obj) (k1 k2 : Tok), D ka = some ko ∧ TupO [.int kp.v k1, .int kp.w k2] ko ∧ kp.ok ∧ (3 < kp.ty ∧ kp.ty ≠ 26) ∧ kp.v ≤ out.length
theorem Ky.inL.mono {D D' : Dm} {out : List Int} {ky : Ky} (x : ky.inL D out) (l : Le D D') : ky.inL D' out := by
 cases ky with
 | n => exact trivial
 | s => exact ek3_2 x fun a b c e r => ⟨a, b, c, l _ _ e, r⟩
theorem Ky.inL.ok {D : Dm} {out : List Int} {ky : Ky} (x : ky.inL D out) : ∀ p, ky.o = some p → p.ok := by
 cases ky with
 | n => intro p e; cases e
 | s => intro p e; cases e; exact ek3_4 x fun ξ ξ ξ ξ ξ r ξ => r
section
variable {γ : G} {A : Around} {D : Dm} {env : Env} {gl cl : List (Str × Value)} {vars : List (Str × Option Value)} {news rest : List (Addr × Obj)} {h : Heap} {t : Nat} {R : Value → Heap → Nat → Prop} {l pl : Addr} {lo po : Obj} {out : List Int} {force : Int} {tf : Tok} {items : List Value} {ps : List Pv}
theorem ct_linline {v : Value} {p : Pv} (S : SC γ D news h) (r : Room A 1) (pi : PartIs D v p) (ok : p.ok) (k : ∀ h t, SC γ D news h → R (.bool (inl p.ty)) h t) : WC γ A (.call (.ref 790) ⟨[v], []⟩) R h t := by
 refine ek5_3 pi fun a o t1 t2 t3 z1 e1 T => ?_; clear pi; obtain rfl := z1
 have st := S.st
 refine' w_enter S ?ho ?hcd r.lt [(ofString "part", .ref a)] [] [] ?hb ?ok (globs (by kernel_rfl)) ?_
 kd_facts1
 kd_adr
 kd_p
 refine w_tt F e1 T ?_
 kd_p
 refine w_newtup F (n_le rfl) fun D1 tp tpo h le1 e2 hT F => ?_
 kd_p
 refine w_in_tup_ints (F.sc.keep _ _ e2) hT (.cons _ _ (.cons _ _ (.cons _ _ .nil))) ?_
 rw [inl_any ok]
 kd_p
 exact k _ _ (F.sc.weaken st le1)
theorem ct_lrow {ky : Ky} (S : SC γ D ((l, lo) :: rest) h) (r : Room A 3) (hb : IO out lo) (hp : D pl = some po) (hP : LstO items.toArray po) (hv : PartsAre D items ps) (f0 : 0 ≤ force) (f1 : force ≤ 3) (okp : ∀ p ∈ ps, p.ok) (ple : ∀ p ∈ ps, inl p.ty = false → p.v ≤ (out.length : Int)) (hk : ky.inL D out) (hs : out.length + 9 * ps.length + 40 ≤ 65000)
  (k : ∀ h t D' lo' v, Le D D' → IO (vecOut false force ky.o ps out).1 lo' → PartIs D' v (vecOut false force ky.o ps out).2 → SC γ D' ((l, lo') :: rest) h → R v h t) :
  WC γ A (.call (.ref 797) ⟨[.ref l, .ref pl, ky.v, .int force tf], []⟩) R h t := by
 have sz : sizeLine = 16777216 := sizeLine_eq
 have il : items.length = ps.length := hv.1
 refine' w_enter S ?ho ?hcd r.lt [(ofString "out", .ref l), (ofString "parts", .ref pl), (ofString "keys", ky.v), (ofString "force", .int force tf)] [ofString "front", ofString "bits", ofString "k", ofString "part", ofString "place"]
  [(ofString "max", .builtin "max"), (ofString "len", .builtin "len"), (ofString "enumerate", .type "enumerate"), (ofString "_law_bits", .ref 752), (ofString "_law_far", .ref 778), (ofString "_law_inline", .ref 790), (ofString "_law_pad", .ref 771), (ofString "_law_write", .ref 764)] ?hb ?ok (globs (by kernel_rfl)) ?_
 kd_facts1
 kd_adr
 have bb := ky.base_ge force out.length ps.length
 have ff := ky.front_of
 kd_p
 refine F.joinc (Q0 := Q0) (fun Φ => ∀ t0, Φ D [(ofString "out", some (.ref l)), (ofString "parts", some (.ref pl)), (ofString "keys", some ky.v), (ofString "force", some (.int force tf)), (ofString "front", some (.int ky.front t0)), (ofString "bits", none), (ofString "k", none), (ofString "part", none), (ofString "place", none)] ((l, lo) :: rest)) (fun j => ?_) fun h t t0 F => ?_
 ·clear q0 k hk bb ff
  cases ky
  ·refine Br.tt ?_
   kd_p
   exact j _ _ _ F
  ·refine Br.ff ?_
   kd_p
   exact j _ _ _ F
 refine q0 _ _ _ ?_
 clear q0 Q0
 kd_p
 refine w_len_list (F.sc.keep _ _ hp) hP.ls (by kcf_m) ?_
 refine il.symm ▸ ?_
 kd_p
 kqd_sub
 refine ct_lbits S (r.deeper.mono (by decide)) (cL (ps.length) (18446744073709551616) (nL hs (by kcf_m))) fun h t tk S => ?_
 krn_off
 kd_p
 refine w_max2 F r.hn fun h tk t F => ?_
 kd_p
 refine F.joinc (Q0 := Q0) (fun Φ => ∀ t2, Φ D [(ofString "out", some (.ref l)), (ofString "parts", some (.ref pl)), (ofString "keys", some ky.v), (ofString "force", some (.int force tf)), (ofString "front", some (.int ky.front t0)), (ofString "bits", some (.int (ky.base force out.length ps.length) t2)), (ofString "k", none), (ofString "part", none), (ofString "place", none)] ((l, lo) :: rest)) (fun j => ?_) fun h t t2 F => ?_
 ·clear q0 k bb ff
  cases ky with
  | n =>
   refine Br.ff ?_
   kd_p
   exact j _ _ _ F
  | s ka kp =>
   refine Br.tt ?_
   refine ek3_5 hk fun ko k1 k2 hka hkt okk kpl kle => ?_
   clear hk
   have kv0 : 0 ≤ kp.v := kp.v0 okk (inl_big kpl)
   have kin : inl kp.ty = false := inl_big kpl
   kd_p
   refine w_tt F hka hkt ?_
   kd_p
   refine F.outk (ps := [(l, lo)]) (by kp_flats) fun oL S back => ?_
   refine w_call (ct_lfar S (r.deeper.mono (by decide)) hb kv0 kle (by decide) (cL (out.length + 2 * 0 + 2) (65536) (nL hs (by kcf_m))) fun h t tk S => ?_)
   have F := back _ [(l, lo)] _ (Le.refl _) S
   kso_len
   kd_p
   refine w_max2e F r.hn (show max (max force (bw ps.length)) (far out.length kp.v 0) = max (max force (bw ps.length)) (kp.el out.length 0) by rw [el_far kin]) fun h tk t F => ?_
   kd_p
   exact j _ _ _ F
 refine q0 _ _ _ ?_
 clear q0 Q0
 kd_p
 refine w_for ?_
 kd_p
 refine w_call_enum F hp hP fun e1 it own h hst F => ?_
 refine w_pyiter_enum F hst ?_
 refine w_for_c iter_enum r.hn (fun i D' Φ => ∀ t0 t2 uk up, Φ [(ofString "out", some (.ref l)), (ofString "parts", some (.ref pl)), (ofString "keys", some ky.v), (ofString "force", some (.int force tf)), (ofString "front", some (.int ky.front t0)), (ofString "bits", some (.int (elMax out.length ky.front (ps.take i) (ky.base force out.length ps.length)) t2)), (ofString "k", uk), (ofString "part", up), (ofString "place", none)] ((l, lo) :: rest)) F hst (fun ξ j => j _ _ _ _) (fun ξ ξ ξ ξ ξ q => q) ?_ ?_
 ·intro i D2 own u h t K0 k0 kr le2 hi y1; refine ek4_4 y1 fun xv ta ot tki hx z1 eD eT => ?_; clear y1; obtain rfl := z1; intro t0 t2 uk up F
  refine ek1_4 ((hv.mono le2).at hx) fun p hp1 vis hi' etk => ?_
  have okq := okp p (List.mem_of_getElem? hp1)
  have pleq := ple p (List.mem_of_getElem? hp1)
  refine ek5_3 (id vis) fun pa po1 q1 q2 q3 z1 ep Tp => ?_; obtain rfl := z1
  refine w_asg_tup2 F r.hn eD eT fun h F => ?_
  kd_p
  kqd_sub
  refine ct_linline S (r.deeper.mono (by decide)) vis okq fun h t S => ?_
  krn_off
  kd_p
  refine Br.fm (fun hin => ?_) fun hin => ?_
  ·have pv0 : 0 ≤ p.v := p.v0 okq hin
   kd_p
   refine w_tt F ep Tp ?_
   kd_p
   have F := F.perm (List.perm_append_comm.trans (List.perm_append_comm (l₁ := own) (l₂ := (l, lo) :: rest)))
   refine F.outk (ps := [(l, lo)]) (by kp_flats) fun oL S back => ?_
   refine w_call (ct_lfar S (r.deeper.mono (by decide)) hb pv0 (pleq hin) (by kcf_m) (by kcf_m) fun h t tk S => ?_)
   have F := back _ [(l, lo)] _ (Le.refl _) S
   kd_p
   refine w_max2e F r.hn (show max (elMax out.length ky.front (ps.take i) (ky.base force out.length ps.length)) (far out.length p.v (ky.front + (i : Int))) = elMax out.length ky.front (ps.take (i + 1)) (ky.base force out.length ps.length) by rw [← el_far hin]; exact elMax_step hp1) fun h tk t F => ?_
   kd_p
   exact k0 D2 _ _ _ _ (Le.refl _) (fun ξ j => j _ _ _ _) F
  ·kd_p
   refine w_tt F ep Tp ?_
   kd_p
   refine w_max2e F r.hn (show max (elMax out.length ky.front (ps.take i) (ky.base force out.length ps.length)) p.w = elMax out.length ky.front (ps.take (i + 1)) (ky.base force out.length ps.length) by rw [← el_inl hin out.length (ky.front + (i : Int))]; exact elMax_step hp1) fun h tk t F => ?_
   kd_p
   exact k0 D2 _ _ _ _ (Le.refl _) (fun ξ j => j _ _ _ _) F
 rintro D1 h t le1 t0 t2 uk up F
 have eb : elMax out.length ky.front (ps.take items.length) (ky.base force out.length ps.length) = (rowBits force out.length ky.o ps) := by rw [il, List.take_length, Ky.bits]
 rw [eb] at F
 clear eb
 have hv := hv.mono le1
 have hp := le1 _ _ hp
 have rr := rowBits_range (n := out.length) (k := ky.o) (ps := ps) f0 f1 hk.ok okp
 obtain ⟨B, wb⟩ := wb_pw rr.1 rr.2
 have wl := pw_le rr.1 rr.2
 have pdl := padN_length out.length (show 0 < pw (rowBits force out.length ky.o ps) by exact nL wl.1 (by kcf_m))
 refine q0 _ _ _ ?_
 clear q0
 kd_p
 refine F.outk (ps := [(l, lo)]) (by kp_flats) fun oL S back => ?_
 refine w_call (ct_pad S (r.deeper.mono (by decide)) hb rr.1 rr.2 (nZ hs (by kcf_m)) fun h t lo1 hb1 S => ?_)
 have F := back _ [(l, lo1)] _ (Le.refl _) S
 kso_len
 refine ⟨trivial, ?_⟩
 kd_p
 have l1 := ky.pre_len (m := pw (rowBits force out.length ky.o ps)) wl.2 out
 refine F.joinc (Q0 := Q0) (fun Φ => ∀ o, IO (ky.pre (pw (rowBits force out.length ky.o ps)) out) o → Φ D1 [(ofString "out", some (.ref l)), (ofString "parts", some (.ref pl)), (ofString "keys", some ky.v), (ofString "force", some (.int force tf)), (ofString "front", some (.int ky.front t0)), (ofString "bits", some (.int (rowBits force out.length ky.o ps) t2)), (ofString "k", uk), (ofString "part", up), (ofString "place", none)] ((l, o) :: rest)) (fun j => ?_) fun h t lo3 hb3 F => ?_
 ·clear q0 k bb ff
  have hk := hk.mono le1
  clear le1
  generalize rowBits force out.length ky.o ps = b at *
  cases ky with
  | n =>
   refine Br.ff ?_
   kd_p
   exact j _ _ _ hb1 F
  | s ka kp =>
   refine Br.tt ?_
   refine ek3_5 hk fun ko k1 k2 hka hkt okk kpl kle => ?_
   clear hk
   have l2 : (out ++ padN out.length (pw b)).length ≤ out.length + 8 := by rw [List.length_append]; exact nZ (nA wl.2 pdl) (by kcf_m)
   kd_p
   refine w_io_len (F.got .head) hb1 (nZ (nA hs l2) (by kcf_m)) ?_
   kd_p
   refine w_tt F hka hkt ?_
   kd_p
   refine F.outk (ps := [(l, lo1)]) (by kp_flats) fun oL S back => ?_
   refine w_call (ct_write S (r.deeper.mono (by decide)) hb1 rr.1 rr.2 (nZ (nA hs l2) (by kcf_m)) fun h t lo2 hb2 S => ?_)
   have F := back _ [(l, lo2)] _ (Le.refl _) S
   kso_len
   refine ⟨trivial, ?_⟩
   kd_p
   refine w_tt F hka hkt ?_
   have kw3 := kp.w_range okk
   kd_p
   refine i_shl kw3.1 (iZ kw3.2 (by kcf_m)) (by decide) ?_
   kd_p
   refine (Int.one_mul ..).symm ▸ ?_
   refine F.outk (ps := [(l, lo2)]) (by kp_flats) fun oL S back => ?_
   refine w_call (ct_write S (r.deeper.mono (by decide)) hb2 rr.1 rr.2 (by rw [List.length_append, KTBy.little_length]; exact nZ (nA hs (nA wl.2 l2)) (by kcf_m)) fun h t lo3 hb3 S => ?_)
   have F := back _ [(l, lo3)] _ (Le.refl _) S
   kso_len
   refine ⟨trivial, ?_⟩
   kd_p
   exact j _ _ _ hb3 F
 refine q0 _ _ _ ?_
 clear q0 Q0
 kd_p
 refine w_len_list (F.sc.keep _ _ hp) hP.ls (by kcf_m) ?_
 refine il.symm ▸ ?_
 kd_p
 refine F.outk (ps := [(l, lo3)]) (by kp_flats) fun oL S back => ?_
 refine w_call (ct_write S (r.deeper.mono (by decide)) hb3 rr.1 rr.2 (nZ (nA hs (nA wl.2 (nA pdl l1))) (by kcf_m)) fun h t lo5 hb5 S => ?_)
 have F := back _ [(l, lo5)] _ (Le.refl _) S
 kso_len
 refine ⟨trivial, ?_⟩
 kd_p
 rw [← Ky.head] at hb5
 have l3' : (rowHead (pw (rowBits force out.length ky.o ps)) ky.o ps out).length ≤ out.length + 32 := by rw [Ky.head, List.length_append, KTBy.little_length]; exact nZ (nA wl.2 (nA wl.2 (nA pdl l1))) (by kcf_m)
 refine w_io_len (F.got .head) hb5 (nZ (nA hs l3') (by kcf_m)) ?_
 kd_p
 refine w_for ?_
 kd_p
 refine w_pyiter_lst F hp hP fun it own h itr hst F => ?_
 refine w_for_c (itr _ .name (.inl ⟨_, _, rfl⟩)) r.hn (fun i D' Φ => ∀ up t6 lo', (IO (cells (pw (rowBits force out.length ky.o ps)) (ps.take i) (rowHead (pw (rowBits force out.length ky.o ps)) ky.o ps out)) lo') → Φ [(ofString "out", some (.ref l)), (ofString "parts", some (.ref pl)), (ofString "keys", some ky.v), (ofString "force", some (.int force tf)), (ofString "front", some (.int ky.front t0)), (ofString "bits", some (.int (rowBits force out.length ky.o ps) t2)), (ofString "k", uk), (ofString "part", up), (ofString "place", some (.int (rowHead (pw (rowBits force out.length ky.o ps)) ky.o ps out).length t6))] ((l, lo') :: rest)) F hst (fun ξ j => j _ _ _ hb5) (fun ξ ξ ξ ξ ξ q => q) ?_ ?_
 ·rintro i D2 own v h t K0 k0 kr le2 hi hx up t6 lo6 hb6 F
  refine ek1_4 ((hv.mono le2).at hx) fun p hp1 vis hi' etk => ?_
  have okq := okp p (List.mem_of_getElem? hp1)
  refine ek5_3 (id vis) fun pa po1 q1 q2 q3 z1 ep Tp => ?_; obtain rfl := z1
  have mle : pw (rowBits force out.length ky.o ps) * i ≤ pw (rowBits force out.length ky.o ps) * ps.length := Nat.mul_le_mul_left _ (Nat.le_of_lt hi')
  have mle2 : pw (rowBits force out.length ky.o ps) * ps.length ≤ 8 * ps.length := Nat.mul_le_mul_right _ wl.2
  have lc : (cells (pw (rowBits force out.length ky.o ps)) (ps.take i) (rowHead (pw (rowBits force out.length ky.o ps)) ky.o ps out)).length = (rowHead (pw (rowBits force out.length ky.o ps)) ky.o ps out).length + pw (rowBits force out.length ky.o ps) * i := by rw [cells_length, List.length_take, Nat.min_eq_left (Nat.le_of_lt hi')]
  have lq : (cells (pw (rowBits force out.length ky.o ps)) (ps.take i) (rowHead (pw (rowBits force out.length ky.o ps)) ky.o ps out)).length ≤ 100000 := nZ (nA hs (nA l3' (nA mle (nA mle2 (Nat.le_of_eq lc))))) (by kcf_m)
  refine w_asg_name ?_
  kd_p
  kqd_sub
  refine ct_linline S (r.deeper.mono (by decide)) vis okq fun h t S => ?_
  krn_off
  kd_p
  refine Br.fm (fun hin => ?_) fun hin => ?_
  ·kd_p
   refine w_io_len (F.got .head) hb6 (Nat.le_trans lq (by decide)) ?_
   kd_p
   refine w_tt F ep Tp ?_
   kd_p
   refine F.outk (ps := [(l, lo6)]) (by kp_flats) fun oL S back => ?_
   refine w_call (ct_write S (r.deeper.mono (by decide)) hb6 rr.1 rr.2 lq fun h t lo7 hb7 S => ?_)
   have F := back _ [(l, lo7)] _ (Le.refl _) S
   refine ⟨trivial, ?_⟩
   kd_p
   refine k0 D2 _ _ _ _ (Le.refl _) (fun ξ j => j _ _ _ ?_) F
   rw [etk, cells_append, cell_far hin]; exact hb7
  ·kd_p
   refine w_tt F ep Tp ?_
   kd_p
   refine F.outk (ps := [(l, lo6)]) (by kp_flats) fun oL S back => ?_
   refine w_call (ct_write S (r.deeper.mono (by decide)) hb6 rr.1 rr.2 lq fun h t lo7 hb7 S => ?_)
   have F := back _ [(l, lo7)] _ (Le.refl _) S
   refine ⟨trivial, ?_⟩
   kd_p
   refine k0 D2 _ _ _ _ (Le.refl _) (fun ξ j => j _ _ _ ?_) F
   rw [etk, cells_append, cell_inl hin]; exact hb7
 rintro D3 h t le3 up3 t6 lo8 hb8 F
 have e3 : ps.take items.length = ps := by rw [il, List.take_length]
 rw [e3] at hb8
 have hv := hv.mono le3
 have hp := le3 _ _ hp
 have lc : (cells (pw (rowBits force out.length ky.o ps)) ps (rowHead (pw (rowBits force out.length ky.o ps)) ky.o ps out)).length = (rowHead (pw (rowBits force out.length ky.o ps)) ky.o ps out).length + pw (rowBits force out.length ky.o ps) * ps.length := by rw [cells_length]
 have mle2 : pw (rowBits force out.length ky.o ps) * ps.length ≤ 8 * ps.length := Nat.mul_le_mul_right _ wl.2
 refine q0 _ _ _ ?_
 clear q0
 kd_p
 refine w_for ?_
 kd_p
 refine w_pyiter_lst F hp hP fun it own h itr hst F => ?_
 refine w_for_c (itr _ .name (.inl ⟨_, _, rfl⟩)) r.hn (fun i D' Φ => ∀ up lo', (IO ((cells (pw (rowBits force out.length ky.o ps)) ps (rowHead (pw (rowBits force out.length ky.o ps)) ky.o ps out)) ++ tags (rowBits force out.length ky.o ps) (ps.take i)) lo') → Φ [(ofString "out", some (.ref l)), (ofString "parts", some (.ref pl)), (ofString "keys", some ky.v), (ofString "force", some (.int force tf)), (ofString "front", some (.int ky.front t0)), (ofString "bits", some (.int (rowBits force out.length ky.o ps) t2)), (ofString "k", uk), (ofString "part", up), (ofString "place", some (.int (rowHead (pw (rowBits force out.length ky.o ps)) ky.o ps out).length t6))] ((l, lo') :: rest)) F hst (fun ξ j => j _ _ (by rw [List.take_zero]; simpa [tags] using hb8)) (fun ξ ξ ξ ξ ξ q => q) ?_ ?_
 ·rintro i D2 own v h t K0 k0 kr le2 hi hx up lo6 hb6 F
  refine ek1_4 ((hv.mono le2).at hx) fun p hp1 vis hi' etk => ?_
  have okq := okp p (List.mem_of_getElem? hp1)
  refine ek5_3 (id vis) fun pa po1 q1 q2 q3 z1 ep Tp => ?_; obtain rfl := z1
  have ls : (tags (rowBits force out.length ky.o ps) (ps.take i)).length ≤ ps.length := Nat.le_trans (Nat.le_of_eq ((tags_length _ _).trans List.length_take)) (Nat.min_le_right _ _)
  have lq : (cells (pw (rowBits force out.length ky.o ps)) ps (rowHead (pw (rowBits force out.length ky.o ps)) ky.o ps out) ++ tags (rowBits force out.length ky.o ps) (ps.take i)).length ≤ 1000000 := lapp (nZ (nA hs (nA l3' (nA mle2 (nA (Nat.le_of_eq lc) ls)))) (by kcf_m))
  refine w_asg_name ?_
  kd_p
  refine w_io_getm PySem.F.slot_list_append PySem.F.type_list_append (F.got .head) hb6 ?_
  kd_p
  refine w_tt F ep Tp ?_
  kd_p
  refine i_mul (IntMulOk.of_left (by decide)) ?_
  kd_p
  kqd_sub
  refine ct_linline S (r.deeper.mono (by decide)) vis okq fun h t S => ?_
  krn_off
  kd_p
  refine Br.fm (fun hin => ?_) fun hin => ?_
  ·kd_p
   refine w_tt F ep Tp ?_
   kd_p
   refine w_io_append F .head hb6 lq fun lo7 h hb7 F => ?_
   refine ⟨trivial, ?_⟩
   kd_p
   refine k0 D2 _ _ _ _ (Le.refl _) (fun ξ j => j _ _ ?_) F
   have es : stW p.ty p.w (rowBits force out.length ky.o ps) = p.w := by unfold stW; rw [if_neg (by rw [hin]; decide)]
   rw [etk, tags_append, es, ← List.append_assoc]; exact hb7
  ·kd_p
   refine w_tt F ep Tp ?_
   kd_p
   refine w_max2 F r.hn fun h tk t F => ?_
   kd_p
   refine w_io_append F .head hb6 lq fun lo7 h hb7 F => ?_
   refine ⟨trivial, ?_⟩
   kd_p
   refine k0 D2 _ _ _ _ (Le.refl _) (fun ξ j => j _ _ ?_) F
   have es : stW p.ty p.w (rowBits force out.length ky.o ps) = max p.w (rowBits force out.length ky.o ps) := by unfold stW; rw [if_pos hin]
   rw [etk, tags_append, es, ← List.append_assoc]; exact hb7
 rintro D4 h t le4 up4 lo9 hb9 F
 rw [e3] at hb9
 refine q0 _ _ _ ?_
 clear q0
 kd_p
 cases ky with
 | n =>
  refine Br.tt ?_
  kd_p
  refine w_newtup F (n_le rfl) fun D5 rt ro h le5 er hT F => ?_
  kd_p
  exact k _ _ D5 lo9 _ (((le1.trans le3).trans le4).trans le5) hb9 ⟨rt, ro, _, _, _, rfl, er, hT⟩ F.sc
 | s ka kp =>
  refine Br.ff ?_
  kd_p
  refine w_newtup F (n_le rfl) fun D5 rt ro h le5 er hT F => ?_
  kd_p
  exact k _ _ D5 lo9 _ (((le1.trans le3).trans le4).trans le5) hb9 ⟨rt, ro, _, _, _, rfl, er, hT⟩ F.sc
end
end
section
noncomputable def letO (k : Nat) : List Int := ([[97], [98], [90], [48], [32], [126], [195, 169], [230, 151, 165]] : List (List Int)).getD k []
noncomputable def letC (k : Nat) : Nat := ([97, 98, 90, 48, 32, 126, 233, 26085] : List Nat).getD k 0
noncomputable def textOct (ks : List Nat) : List Int := if 9 < ks.length then (List.replicate ks.length (letO (ks.headD 0))).flatten else (ks.map letO).flatten
noncomputable def nInts (ks : List Nat) : List Int := ks.map fun (k : Nat) => (k : Int)
theorem lk704 (w : World) : (hd.heap_1 w.params).lookup 704 = some { cls := .type "list", dict := none, data := .seq #[.ref 696, .ref 697, .ref 698, .ref 699, .ref 700, .ref 701, .ref 702, .ref 703] 0, slots := #[] } := by kernel_rfl
theorem lk696 (w : World) : (hd.heap_1 w.params).lookup 696 = some { cls := .type "list", dict := none, data := .seq #[.int 97 1318] 0, slots := #[] } := by kernel_rfl
theorem lk697 (w : World) : (hd.heap_1 w.params).lookup 697 = some { cls := .type "list", dict := none, data := .seq #[.int 98 1319] 0, slots := #[] } := by kernel_rfl
theorem lk698 (w : World) : (hd.heap_1 w.params).lookup 698 = some { cls := .type "list", dict := none, data := .seq #[.int 90 1320] 0, slots := #[] } := by kernel_rfl
theorem lk699 (w : World) : (hd.heap_1 w.params).lookup 699 = some { cls := .type "list", dict := none, data := .seq #[.int 48 1321] 0, slots := #[] } := by kernel_rfl
theorem lk700 (w : World) : (hd.heap_1 w.params).lookup 700 = some { cls := .type "list", dict := none, data := .seq #[.int 32 1322] 0, slots := #[] } := by kernel_rfl
theorem lk701 (w : World) : (hd.heap_1 w.params).lookup 701 = some { cls := .type "list", dict := none, data := .seq #[.int 126 1323] 0, slots := #[] } := by kernel_rfl
theorem lk702 (w : World) : (hd.heap_1 w.params).lookup 702 = some { cls := .type "list", dict := none, data := .seq #[.int 195 1324, .int 169 1325] 0, slots := #[] } := by kernel_rfl
theorem lk703 (w : World) : (hd.heap_1 w.params).lookup 703 = some { cls := .type "list", dict := none, data := .seq #[.int 230 1326, .int 151 1327, .int 165 1328] 0, slots := #[] } := by kernel_rfl
noncomputable abbrev octRow : List Value := [.ref 696, .ref 697, .ref 698, .ref 699, .ref 700, .ref 701, .ref 702, .ref 703]
theorem lt8 {P : Nat → Prop} {k : Nat} (hk : k < 8) (h0 : P 0) (h1 : P 1) (h2 : P 2) (h3 : P 3) (h4 : P 4) (h5 : P 5) (h6 : P 6) (h7 : P 7) : P k := by
 rcases (show k = 0 ∨ k = 1 ∨ k = 2 ∨ k = 3 ∨ k = 4 ∨ k = 5 ∨ k = 6 ∨ k = 7 by kcf_m) with rfl | rfl | rfl | rfl | rfl | rfl | rfl | rfl <;> assumption
theorem let_at (w : World) {k : Nat} (hk : k < 8) : ∃ a o vs, octRow[k]? = some (.ref a) ∧ (hd.heap_1 w.params).lookup a = some o ∧ IntsAre vs (letO k) ∧ LstO vs.toArray o := by
 exact lt8 (P := fun k => ∃ a o vs, octRow[k]? = some (.ref a) ∧ (hd.heap_1 w.params).lookup a = some o ∧ IntsAre vs (letO k) ∧ LstO vs.toArray o) hk ⟨696, _, [.int 97 1318], rfl, lk696 w, .cons _ _ .nil, 0, rfl⟩
  ⟨697, _, [.int 98 1319], rfl, lk697 w, .cons _ _ .nil, 0, rfl⟩
  ⟨698, _, [.int 90 1320], rfl, lk698 w, .cons _ _ .nil, 0, rfl⟩
  ⟨699, _, [.int 48 1321], rfl, lk699 w, .cons _ _ .nil, 0, rfl⟩
  ⟨700, _, [.int 32 1322], rfl, lk700 w, .cons _ _ .nil, 0, rfl⟩
  ⟨701, _, [.int 126 1323], rfl, lk701 w, .cons _ _ .nil, 0, rfl⟩
  ⟨702, _, [.int 195 1324, .int 169 1325], rfl, lk702 w, .cons _ _ (.cons _ _ .nil), 0, rfl⟩
  ⟨703, _, [.int 230 1326, .int 151 1327, .int 165 1328], rfl, lk703 w, .cons _ _ (.cons _ _ (.cons _ _ .nil)), 0, rfl⟩
theorem letO_len {k : Nat} (hk : k < 8) : (letO k).length ≤ 3 := by
 exact lt8 (P := fun k => (letO k).length ≤ 3) hk (by decide) (by decide) (by decide) (by decide) (by decide) (by decide) (by decide) (by decide)
theorem flat_len : ∀ {ls : List (List Int)} {m : Nat}, (∀ l ∈ ls, l.length ≤ m) → ls.flatten.length ≤ m * ls.length
 | [], m, _ => by simp
 | l :: ls, m, h => by
  have := flat_len (fun x hx => h x (.tail _ hx))
  have h0 := h l (.head _)
  rw [List.flatten_cons, List.length_append, List.length_cons, Nat.mul_succ]
  exact nZ (nA this h0) (by kcf_m)
theorem textOct_len {ks : List Nat} (h : ∀ k ∈ ks, k < 8) : (textOct ks).length ≤ 3 * ks.length := by
 unfold textOct
 split
 ·have : (List.replicate ks.length (letO (ks.headD 0))).flatten.length ≤ 3 * (List.replicate ks.length (letO (ks.headD 0))).length := flat_len fun l hl => by
   rw [List.eq_of_mem_replicate hl]
   refine letO_len ?_
   cases ks with
   | nil => decide
   | cons a r => exact h a (.head _)
  simpa using this
 ·have : (ks.map letO).flatten.length ≤ 3 * (ks.map letO).length := flat_len fun l hl => by
   obtain ⟨k, hk, rfl⟩ := List.mem_map.mp hl
   exact letO_len (h k hk)
  simpa using this
theorem ints_rep {vs : List Value} {ns : List Int} (h : IntsAre vs ns) : ∀ n, IntsAre (List.replicate n vs).flatten (List.replicate n ns).flatten
 | 0 => .nil
 | n + 1 => by rw [List.replicate_succ, List.replicate_succ, List.flatten_cons, List.flatten_cons]; exact IntsAre.append h (ints_rep h n)
section
variable {γ : G} {A : Around} {D : Dm} {env : Env} {gl cl : List (Str × Value)} {vars : List (Str × Option Value)} {news rest : List (Addr × Obj)} {h : Heap} {t : Nat} {R : Value → Heap → Nat → Prop} {l a : Addr} {lo ao : Obj} {tt : Tok}
theorem ct_ooct (S : SC γ D news h) (r : Room A 1) (ha : D a = some ao) (hT : TupO [.str (ofString "octets") tt, .ref l] ao) (k : ∀ h t, SC γ D news h → R (.ref l) h t) : WC γ A (.call (.ref 747) ⟨[.ref a], []⟩) R h t := by
 refine' w_enter S ?ho ?hcd r.lt [(ofString "tree", .ref a)] [ofString "found", ofString "k"] [] ?hb ?ok (globs (by kernel_rfl)) ?_
 kd_facts1
 kd_adr
 kd_p
 refine w_tt F ha hT ?_
 kd_p
 refine w_eq_strb (c := true) (by kernel_rfl) ?_
 kd_p
 refine Br.tt ?_
 kd_p
 refine w_tt F ha hT ?_
 kd_p
 exact k _ _ F.sc
theorem ct_otext {ks : List Nat} {kvs : List Value} (S : SC γ D news h) (r : Room A 1) (ha : D a = some ao) (hT : TupO [.str (ofString "text") tt, .ref l] ao) (hl : D l = some lo) (hL : LstO kvs.toArray lo) (hi : IntsAre kvs (nInts ks)) (h8 : ∀ k ∈ ks, k < 8) (hn : ks.length ≤ 300)
  (k : ∀ h t D' b o, Le D D' → D' b = some o → IO (textOct ks) o → SC γ D' news h → R (.ref b) h t) : WC γ A (.call (.ref 747) ⟨[.ref a], []⟩) R h t := by
 have sz : sizeLine = 16777216 := sizeLine_eq
 have il : kvs.length = ks.length := by rw [hi.length]; simp [nInts]
 refine' w_enter S ?ho ?hcd r.lt [(ofString "tree", .ref a)] [ofString "found", ofString "k"] [(ofString "len", .builtin "len"), (ofString "_law_octets", .ref 704)] ?hb ?ok (globs (by kernel_rfl)) ?_
 kd_facts1
 kd_adr
 have kint : ∀ {j : Nat} {v : Value}, kvs[j]? = some v → ∃ kk tk, v = .int (kk : Nat) tk ∧ ks[j]? = some kk ∧ kk < 8 := by
  intro j v hv
  have hj : j < ks.length := by rw [← il]; exact (List.getElem?_eq_some_iff.mp hv).1
  refine ek1_1 (hi.get j ((ks[j] : Nat) : Int) (by simp [nInts, hj])) fun tk e => ?_
  rw [hv] at e; cases e
  exact ⟨ks[j], tk, rfl, by simp [hj], h8 _ (List.getElem_mem hj)⟩
 kd_p
 refine w_tt F ha hT ?_
 kd_p
 refine w_eq_strb (c := false) (by kernel_rfl) ?_
 kd_p
 refine Br.ff ?_
 kd_p
 refine w_tt F ha hT ?_
 kd_p
 refine w_len_list (F.sc.keep _ _ hl) hL.ls (Nat.le_trans (Nat.le_trans (Nat.le_of_eq il) hn) (by decide)) ?_
 refine il.symm ▸ ?_
 kd_p
 refine Br.dec (fun hc => ?_) fun hc => ?_
 ·kd_p
  refine w_tt F ha hT ?_
  kd_p
  obtain ⟨v0, hv0⟩ : ∃ v, kvs[0]? = some v := ⟨kvs[0]'(by kcf_m), by simp⟩
  refine ek2_3 (kint hv0) fun kk tk z1 hk0 hk8 => ?_; obtain rfl := z1
  refine ek3_4 (let_at γ.w hk8) fun la lob lvs e1 e2 e3 e4 => ?_
  refine w_tail_list (F.sc.keep _ _ hl) hL.ls (by decide) (x := .int (kk : Nat) tk) hv0 (by decide) ?_ (by with_unfolding_all rfl)
  kd_p
  refine w_tail_list (F.sc.inK _ _ (lk704 _)) (LstO.ls (items := octRow) ⟨0, rfl⟩) (Int.natCast_nonneg _) (x := .ref la) (by rw [Int.toNat_natCast]; exact e1) (by kcf_m) ?_ (by with_unfolding_all rfl)
  kd_p
  refine w_tt F ha hT ?_
  kd_p
  refine w_len_list (F.sc.keep _ _ hl) hL.ls (Nat.le_trans (Nat.le_trans (Nat.le_of_eq il) hn) (by decide)) ?_
  rw [il]
  kd_p
  have l3 := letO_len hk8
  have lv3 := e3.length
  refine w_mul_list F (F.sc.inK _ _ e2) e4 (Int.natCast_nonneg _) (by rw [Int.toNat_natCast, lv3]; have := Nat.mul_le_mul l3 hn; exact Nat.le_trans this (by decide)) (Int.ofNat_le.mpr (Nat.le_trans hn (by decide))) fun b o h hb F => ?_
  refine F.frzk fun D1 le1 eb F => ?_
  kd_p
  refine k _ _ D1 b o le1 eb ⟨_, ?_, hb⟩ F.sc
  rw [Int.toNat_natCast]
  unfold textOct
  rw [if_pos (Int.ofNat_lt.mp hc)]
  have hh : ks.headD 0 = kk := by cases ks with
   | nil => simp at hk0
   | cons a r => simp at hk0; exact hk0
  rw [hh]
  exact ints_rep e3 _
 ·kd_p
  refine w_newlist F (by decide) fun f0 fo h hf0 F => ?_
  refine F.frzk fun D1 le1 ef F => ?_
  kd_p
  refine w_for ?_
  kd_p
  refine w_tt F (le1 _ _ ha) hT ?_
  kd_p
  refine w_pyiter_lst F (le1 _ _ hl) hL fun it own h itr hst F => ?_
  refine w_for_c (itr _ .name (.inl ⟨_, _, rfl⟩)) r.hn (fun i D' Φ => ∀ fa fo uk, (D' fa = some fo) → (IO ((ks.take i).map letO).flatten fo) → Φ [(ofString "tree", some (.ref a)), (ofString "found", some (.ref fa)), (ofString "k", uk)] (news)) F hst (fun ξ j => j _ _ _ ef ⟨[], .nil, hf0⟩) (fun i D D' Φ l q fa fo uk a3 a4 => q fa fo uk (l _ _ a3) a4) ?_ ?_
  ·intro i D2 own v h t K0 k0 kr le2 hi2 hx fa fo uk efa y1; refine ek1_2 y1 fun fvs f1 f2 => ?_; clear y1; intro F
   refine ek2_3 (kint hx) fun kk tk z1 hk0 hk8 => ?_; obtain rfl := z1
   refine ek3_4 (let_at γ.w hk8) fun la lob lvs e1 e2 e3 e4 => ?_
   refine w_asg_name ?_
   kd_p
   refine w_tail_list (F.sc.inK _ _ (lk704 _)) (LstO.ls (items := octRow) ⟨0, rfl⟩) (Int.natCast_nonneg _) (x := .ref la) (by rw [Int.toNat_natCast]; exact e1) (by kcf_m) ?_ (by with_unfolding_all rfl)
   kd_p
   have l3 := letO_len hk8
   have lv3 := e3.length
   have fl : (((ks.take i).map letO).flatten).length ≤ 3 * ((ks.take i).map letO).length := flat_len fun l hl => by
    obtain ⟨k, hk, rfl⟩ := List.mem_map.mp hl
    exact letO_len (h8 k (List.mem_of_mem_take hk))
   rw [List.length_map, List.length_take] at fl
   have fvl := f1.length
   refine w_add_lists F (F.sc.keep _ _ efa) f2 (F.sc.inK _ _ e2) e4 (by kcf_m) fun fb fob h hfb F => ?_
   refine F.frzk fun D3 le3 efb F => ?_
   kd_p
   refine k0 D3 _ _ _ _ le3 (fun ξ j => j fb fob _ efb ?_) F
   obtain ⟨hj, ej⟩ := List.getElem?_eq_some_iff.mp hk0
   rw [List.take_succ_eq_append_getElem hj, ej, List.map_append, List.flatten_append]
   exact ⟨_, IntsAre.append f1 (by simpa using e3), hfb⟩
  rintro D3 h t le3 fa fo uk efa hio F
  rw [il, List.take_length] at hio
  refine q0 _ _ _ ?_
  clear q0
  kd_p
  refine k _ _ D3 fa fo (le1.trans le3) efa ?_ F.sc
  unfold textOct
  rw [if_neg (by kcf_m)]
  exact hio
end
end
section
noncomputable abbrev layQ : Str := (ofString "_law_lay" ++ ".<locals>.") ++ "<lambda>"
noncomputable def TreeIn : Nat → Dm → Tree → Value → Prop
 | _, D, .none, v => ∃ a o tt, v = .ref a ∧ D a = some o ∧ TupO [.str (ofString "none") tt] o
 | _, D, .truth b, v => ∃ a o tt, v = .ref a ∧ D a = some o ∧ TupO [.str (ofString "truth") tt, .bool b] o
 | _, D, .num n, v => ∃ a o tt u, v = .ref a ∧ D a = some o ∧ TupO [.str (ofString "number") tt, .int n u] o
 | _, D, .text bs, v => ∃ (a : Addr) (o : Obj) (tt : Tok) (l : Addr) (lo : Obj) (ks : List Nat) (kvs : List Value), v = .ref a ∧ D a = some o ∧ TupO [.str (ofString "text") tt, .ref l] o ∧ D l = some lo ∧ LstO kvs.toArray lo ∧ IntsAre kvs (nInts ks) ∧ (∀ k ∈ ks, k < 8) ∧ ks.length ≤ 300 ∧ textOct ks = bs
 | _, D, .oct bs, v => ∃ a o tt l lo, v = .ref a ∧ D a = some o ∧ TupO [.str (ofString "octets") tt, .ref l] o ∧ D l = some lo ∧ IO bs lo ∧ ∀ b ∈ bs, 0 ≤ b ∧ b < 256
 | n + 1, D, .row ts, v => ∃ (a : Addr) (o : Obj) (tt : Tok) (l : Addr) (lo : Obj) (items : List Value), v = .ref a ∧ D a = some o ∧ TupO [.str (ofString "row") tt, .ref l] o ∧ D l = some lo ∧ LstO items.toArray lo ∧ items.length = ts.length ∧ ∀ (i : Nat) (x : Value) (t : Tree), items[i]? = some x → ts[i]? = some t → TreeIn n D t x
 | n + 1, D, .map ts, v => ∃ (a : Addr) (o : Obj) (tt : Tok) (l : Addr) (lo : Obj) (items : List Value), v = .ref a ∧ D a = some o ∧ TupO [.str (ofString "map") tt, .ref l] o ∧ D l = some lo ∧ LstO items.toArray lo ∧ items.length = ts.length ∧
   ∀ (i : Nat) (x : Value) (k : List Nat) (t : Tree), items[i]? = some x → ts[i]? = some (k, t) → ∃ pa po s u pv, x = .ref pa ∧ D pa = some po ∧ TupO [.str s u, pv] po ∧ s.cps.toList = k ∧ TreeIn n D t pv
 | 0, _, .row _, _ => False
 | 0, _, .map _, _ => False
theorem tre0 {n : Nat} {D : Dm} {v : Value} : TreeIn n D .none v ↔ ∃ a o tt, v = .ref a ∧ D a = some o ∧ TupO [.str (ofString "none") tt] o := by cases n <;> exact Iff.rfl
theorem tre1 {n : Nat} {D : Dm} {b : Bool} {v : Value} : TreeIn n D (.truth b) v ↔ ∃ a o tt, v = .ref a ∧ D a = some o ∧ TupO [.str (ofString "truth") tt, .bool b] o := by cases n <;> exact Iff.rfl
theorem tre2 {n : Nat} {D : Dm} {n0 : Int} {v : Value} : TreeIn n D (.num n0) v ↔ ∃ a o tt u, v = .ref a ∧ D a = some o ∧ TupO [.str (ofString "number") tt, .int n0 u] o := by cases n <;> exact Iff.rfl
theorem tre3 {n : Nat} {D : Dm} {bs : List Int} {v : Value} : TreeIn n D (.text bs) v ↔ ∃ (a : Addr) (o : Obj) (tt : Tok) (l : Addr) (lo : Obj) (ks : List Nat) (kvs : List Value), v = .ref a ∧ D a = some o ∧ TupO [.str (ofString "text") tt, .ref l] o ∧ D l = some lo ∧ LstO kvs.toArray lo ∧ IntsAre kvs (nInts ks) ∧ (∀ k ∈ ks, k < 8) ∧ ks.length ≤ 300 ∧ textOct ks = bs := by cases n <;> exact Iff.rfl
theorem tre4 {n : Nat} {D : Dm} {bs : List Int} {v : Value} : TreeIn n D (.oct bs) v ↔ ∃ a o tt l lo, v = .ref a ∧ D a = some o ∧ TupO [.str (ofString "octets") tt, .ref l] o ∧ D l = some lo ∧ IO bs lo ∧ ∀ b ∈ bs, 0 ≤ b ∧ b < 256 := by cases n <;> exact Iff.rfl
theorem TreeIn.mono {D D' : Dm} (le : Le D D') : ∀ {n : Nat} {t : Tree} {v : Value}, TreeIn n D t v → TreeIn n D' t v := by
 intro n
 induction n with
 | zero =>
  intro t v h
  cases t with
  | none => exact ek3_3 h fun a o tt e1 e2 r => ⟨a, o, tt, e1, le _ _ e2, r⟩
  | truth => exact ek3_3 h fun a o tt e1 e2 r => ⟨a, o, tt, e1, le _ _ e2, r⟩
  | num => exact ek4_3 h fun a o tt u e1 e2 r => ⟨a, o, tt, u, e1, le _ _ e2, r⟩
  | text => exact ek7_5 h fun a o tt l lo ks kvs e1 e2 e3 e4 r => ⟨a, o, tt, l, lo, ks, kvs, e1, le _ _ e2, e3, le _ _ e4, r⟩
  | oct => exact ek5_5 h fun a o tt l lo e1 e2 e3 e4 r => ⟨a, o, tt, l, lo, e1, le _ _ e2, e3, le _ _ e4, r⟩
  | row => exact False.elim h
  | map => exact False.elim h
 | succ n ih =>
  intro t v h
  cases t with
  | none => exact ek3_3 h fun a o tt e1 e2 r => ⟨a, o, tt, e1, le _ _ e2, r⟩
  | truth => exact ek3_3 h fun a o tt e1 e2 r => ⟨a, o, tt, e1, le _ _ e2, r⟩
  | num => exact ek4_3 h fun a o tt u e1 e2 r => ⟨a, o, tt, u, e1, le _ _ e2, r⟩
  | text => exact ek7_5 h fun a o tt l lo ks kvs e1 e2 e3 e4 r => ⟨a, o, tt, l, lo, ks, kvs, e1, le _ _ e2, e3, le _ _ e4, r⟩
  | oct => exact ek5_5 h fun a o tt l lo e1 e2 e3 e4 r => ⟨a, o, tt, l, lo, e1, le _ _ e2, e3, le _ _ e4, r⟩
  | row => exact ek6_7 h fun a o tt l lo items e1 e2 e3 e4 e5 e6 e7 => ⟨a, o, tt, l, lo, items, e1, le _ _ e2, e3, le _ _ e4, e5, e6, fun i x t h1 h2 => ih (e7 i x t h1 h2)⟩
  | map => exact ek6_7 h fun a o tt l lo items e1 e2 e3 e4 e5 e6 e7 => ⟨a, o, tt, l, lo, items, e1, le _ _ e2, e3, le _ _ e4, e5, e6, fun i x k t h1 h2 => ek5_5 (e7 i x k t h1 h2) fun pa po s u pv f1 f2 f3 f4 f5 => ⟨pa, po, s, u, pv, f1, le _ _ f2, f3, f4, ih f5⟩⟩
noncomputable def LayFin (γ : G) (D : Dm) (l : Addr) (rest : List (Addr × Obj)) (r : List Int × Pv) (R : Value → Heap → Nat → Prop) : Prop :=
 ∀ h t D' lo' to' v, Le D D' → TabIs D' 620 30 layQ to' → IO r.1 lo' → PartIs D' v r.2 → SC γ D' ((l, lo') :: (780, to') :: rest) h → R v h t
noncomputable def LayAt (γ : G) (l : Addr) (force : Int) (n : Nat) : Prop :=
 ∀ {A : Around} {D : Dm} {rest : List (Addr × Obj)} {h : Heap} {t : Nat} {R : Value → Heap → Nat → Prop} {out : List Int} {lo to : Obj} {tr : Tree} {v : Value} {tf : Tok},
  SC γ D ((l, lo) :: (780, to) :: rest) h → Room A (4 + n) → BM D → TabIs D 620 30 layQ to → IO out lo → Ok n tr → TreeIn n D tr v → out.length + 1000 * nodes n tr ≤ 60000 →
  LayFin γ D l rest (lay force n tr out) R → WC γ A (.call (.ref 783) ⟨[.ref l, v, .int force tf], []⟩) R h t
noncomputable abbrev layGl : List (Str × Value) := [(ofString "int", .type "int"), (ofString "_law_own_bits", .ref 757), (ofString "_law_octets_of", .ref 747), (ofString "_law_bits", .ref 752), (ofString "len", .builtin "len"), (ofString "_law_pad", .ref 771), (ofString "_law_write", .ref 764), (ofString "_law_row", .ref 797), (ofString "_law_lay", .ref 783), (ofString "sorted", .builtin "sorted"), (ofString "max", .builtin "max"), (ofString "enumerate", .type "enumerate")]
section
variable {γ : G} {A : Around} {D : Dm} {env : Env} {gl cl : List (Str × Value)} {vars : List (Str × Option Value)} {news rest : List (Addr × Obj)} {h : Heap} {t : Nat} {R : Value → Heap → Nat → Prop} {l a : Addr} {lo to ao : Obj} {out : List Int} {force : Int} {tf tt : Tok}
theorem lay_none (S : SC γ D ((l, lo) :: (780, to) :: rest) h) (r : Room A 4) (tb : TabIs D 620 30 layQ to) (hb : IO out lo) (ha : D a = some ao) (hT : TupO [.str (ofString "none") tt] ao) (k : LayFin γ D l rest (out, ⟨0, 0, 0⟩) R) : WC γ A (.call (.ref 783) ⟨[.ref l, .ref a, .int force tf], []⟩) R h t := by
 have sz : sizeLine = 16777216 := sizeLine_eq
 refine' w_enter_cc S ?ho ?hcd r.lt [(ofString "out", .ref l), (ofString "tree", .ref a), (ofString "force", .int force tf)] [(ofString "tree", .ref a)]
  [ofString "row", ofString "bits", ofString "place", ofString "part", ofString "pairs", ofString "key", ofString "pair", ofString "keys"] [(ofString "out", .ref l), (ofString "force", .int force tf)] layGl ?hb ?hlb ?hcl ?ok (globs (by kernel_rfl)) ?_
 case ho => k_is
 case hcd => k_is
 case hb => with_unfolding_all rfl
 case ok => kernel_rfl
 case hlb => exact .cons (by tb_start) .nil
 case hcl => exact .cons (by tb_start) (.cons (by tb_start) .nil)
 clear S
 intro env D1 h t le1 hcode hqual F
 dsimp only [mkV, List.map, List.cons_append, List.nil_append] at F
 have ha := le1 _ _ ha
 kd_p
 refine w_tt F ha hT ?_
 kd_p
 refine w_eq_strb (c := true) (by kernel_rfl) ?_
 kd_p
 refine Br.tt ?_
 kd_p
 refine w_newtup F (n_le rfl) fun D5 rt ro h le5 er hT F => ?_
 kd_p
 exact k _ _ D5 lo to _ (le1.trans le5) (tb.mono (le1.trans le5)) hb ⟨rt, ro, _, _, _, rfl, er, hT⟩ F.sc
theorem lay_truth {b : Bool} (S : SC γ D ((l, lo) :: (780, to) :: rest) h) (r : Room A 4) (tb : TabIs D 620 30 layQ to) (hb : IO out lo) (ha : D a = some ao) (hT : TupO [.str (ofString "truth") tt, .bool b] ao) (k : LayFin γ D l rest (out, ⟨26, b2 b, 0⟩) R) : WC γ A (.call (.ref 783) ⟨[.ref l, .ref a, .int force tf], []⟩) R h t := by
 have sz : sizeLine = 16777216 := sizeLine_eq
 refine' w_enter_cc S ?ho ?hcd r.lt [(ofString "out", .ref l), (ofString "tree", .ref a), (ofString "force", .int force tf)] [(ofString "tree", .ref a)]
  [ofString "row", ofString "bits", ofString "place", ofString "part", ofString "pairs", ofString "key", ofString "pair", ofString "keys"] [(ofString "out", .ref l), (ofString "force", .int force tf)] layGl ?hb ?hlb ?hcl ?ok (globs (by kernel_rfl)) ?_
 case ho => k_is
 case hcd => k_is
 case hb => with_unfolding_all rfl
 case ok => kernel_rfl
 case hlb => exact .cons (by tb_start) .nil
 case hcl => exact .cons (by tb_start) (.cons (by tb_start) .nil)
 clear S
 intro env D1 h t le1 hcode hqual F
 dsimp only [mkV, List.map, List.cons_append, List.nil_append] at F
 have ha := le1 _ _ ha
 kd_p
 refine w_tt F ha hT ?_
 kd_p
 refine w_eq_strb (c := false) (by kernel_rfl) ?_
 kd_p
 refine Br.ff ?_
 kd_p
 refine w_tt F ha hT ?_
 kd_p
 refine w_eq_strb (c := true) (by kernel_rfl) ?_
 kd_p
 refine Br.tt ?_
 kd_p
 refine w_tt F ha hT ?_
 kd_p
 refine w_newtup F (n_le rfl) fun D5 rt ro h le5 er hT F => ?_
 kd_p
 exact k _ _ D5 lo to _ (le1.trans le5) (tb.mono (le1.trans le5)) hb ⟨rt, ro, _, _, _, rfl, er, hT⟩ F.sc
theorem lay_num {n : Int} {tn : Tok} (S : SC γ D ((l, lo) :: (780, to) :: rest) h) (r : Room A 4) (tb : TabIs D 620 30 layQ to) (hb : IO out lo) (ha : D a = some ao) (hT : TupO [.str (ofString "number") tt, .int n tn] ao) (h0 : -9223372036854775808 ≤ n) (h1 : n < 9223372036854775808) (k : LayFin γ D l rest (out, ⟨1, n, iw n⟩) R) : WC γ A (.call (.ref 783) ⟨[.ref l, .ref a, .int force tf], []⟩) R h t := by
 have sz : sizeLine = 16777216 := sizeLine_eq
 refine' w_enter_cc S ?ho ?hcd r.lt [(ofString "out", .ref l), (ofString "tree", .ref a), (ofString "force", .int force tf)] [(ofString "tree", .ref a)]
  [ofString "row", ofString "bits", ofString "place", ofString "part", ofString "pairs", ofString "key", ofString "pair", ofString "keys"] [(ofString "out", .ref l), (ofString "force", .int force tf)] layGl ?hb ?hlb ?hcl ?ok (globs (by kernel_rfl)) ?_
 case ho => k_is
 case hcd => k_is
 case hb => with_unfolding_all rfl
 case ok => kernel_rfl
 case hlb => exact .cons (by tb_start) .nil
 case hcl => exact .cons (by tb_start) (.cons (by tb_start) .nil)
 clear S
 intro env D1 h t le1 hcode hqual F
 dsimp only [mkV, List.map, List.cons_append, List.nil_append] at F
 have ha := le1 _ _ ha
 kd_p
 refine w_tt F ha hT ?_
 kd_p
 refine w_eq_strb (c := false) (by kernel_rfl) ?_
 kd_p
 refine Br.ff ?_
 kd_p
 refine w_tt F ha hT ?_
 kd_p
 refine w_eq_strb (c := false) (by kernel_rfl) ?_
 kd_p
 refine Br.ff ?_
 kd_p
 refine w_tt F ha hT ?_
 kd_p
 refine w_eq_strb (c := true) (by kernel_rfl) ?_
 kd_p
 refine Br.tt ?_
 kd_p
 refine w_tt F ha hT ?_
 kd_p
 refine w_tt F ha hT ?_
 kd_p
 kqd_sub
 refine ct_lown S (r.deeper.mono (by decide)) h0 h1 fun h t tk S => ?_
 krn_off
 kd_p
 refine w_newtup F (n_le rfl) fun D5 rt ro h le5 er hT F => ?_
 kd_p
 exact k _ _ D5 lo to _ (le1.trans le5) (tb.mono (le1.trans le5)) hb ⟨rt, ro, _, _, _, rfl, er, hT⟩ F.sc
theorem lay_text {l2 : Addr} {lo2 : Obj} {bs : List Int} {ks : List Nat} {kvs : List Value} (S : SC γ D ((l, lo) :: (780, to) :: rest) h) (r : Room A 4) (tb : TabIs D 620 30 layQ to) (hb : IO out lo) (ha : D a = some ao) (hT : TupO [.str (ofString "text") tt, .ref l2] ao) (hl : D l2 = some lo2) (hL : LstO kvs.toArray lo2) (hi : IntsAre kvs (nInts ks)) (h8 : ∀ k ∈ ks, k < 8) (hn : ks.length ≤ 300) (hbs : textOct ks = bs) (hz : bs.length ≤ 800) (hz2 : out.length ≤ 60000) (k : LayFin γ D l rest (blobA bs out ++ bs ++ [0], ⟨5, (blobA bs out).length, bw bs.length⟩) R) : WC γ A (.call (.ref 783) ⟨[.ref l, .ref a, .int force tf], []⟩) R h t := by
 have sz : sizeLine = 16777216 := sizeLine_eq
 refine' w_enter_cc S ?ho ?hcd r.lt [(ofString "out", .ref l), (ofString "tree", .ref a), (ofString "force", .int force tf)] [(ofString "tree", .ref a)]
  [ofString "row", ofString "bits", ofString "place", ofString "part", ofString "pairs", ofString "key", ofString "pair", ofString "keys"] [(ofString "out", .ref l), (ofString "force", .int force tf)] layGl ?hb ?hlb ?hcl ?ok (globs (by kernel_rfl)) ?_
 case ho => k_is
 case hcd => k_is
 case hb => with_unfolding_all rfl
 case ok => kernel_rfl
 case hlb => exact .cons (by tb_start) .nil
 case hcl => exact .cons (by tb_start) (.cons (by tb_start) .nil)
 clear S
 intro env D1 h t le1 hcode hqual F
 dsimp only [mkV, List.map, List.cons_append, List.nil_append] at F
 have ha := le1 _ _ ha
 kd_p
 refine w_tt F ha hT ?_
 kd_p
 refine w_eq_strb (c := false) (by kernel_rfl) ?_
 kd_p
 refine Br.ff ?_
 kd_p
 refine w_tt F ha hT ?_
 kd_p
 refine w_eq_strb (c := false) (by kernel_rfl) ?_
 kd_p
 refine Br.ff ?_
 kd_p
 refine w_tt F ha hT ?_
 kd_p
 refine w_eq_strb (c := false) (by kernel_rfl) ?_
 kd_p
 refine Br.ff ?_
 kd_p
 refine w_tt F ha hT ?_
 kd_p
 refine w_newtup F (n_le rfl) fun D2 tp tpo h le2 e2 hT2 F => ?_
 kd_p
 refine w_in_tup_strsb (c := true) (F.sc.keep _ _ e2) hT2 (.cons _ _ (.cons _ _ .nil)) (by kernel_rfl) ?_
 kd_p
 refine Br.tt ?_
 have ha := le2 _ _ ha
 kd_p
 have hl := le2 _ _ (le1 _ _ hl)
 refine F.outk (ps := [(l, lo)]) (by kp_flats) fun oL S back => ?_
 refine w_call (ct_otext S (r.deeper.mono (by decide)) ha hT hl hL hi h8 hn fun h t D3 b bo le3 eb hbb S => ?_)
 have F := back _ [(l, lo)] _ le3 S
 kso_len
 clear back
 rw [hbs] at hbb
 have ha := le3 _ _ ha
 kd_p
 refine w_io_len (F.sc.keep _ _ eb) hbb (by kcf_m) ?_
 kd_p
 kqd_sub
 refine ct_lbits S (r.deeper.mono (by decide)) (by kcf_m) fun h t tk S => ?_
 krn_off
 kd_p
 have br := bw_range bs.length
 have bl := blob_length bs out
 have pl := padN_length out.length (show 0 < pw (bw bs.length) by have := pw_le br.1 br.2; kcf_m)
 have wl := pw_le br.1 br.2
 have l1 : (out ++ padN out.length (pw (bw bs.length))).length ≤ 60100 := by rw [List.length_append]; kcf_m
 refine F.outk (ps := [(l, lo)]) (by kp_flats) fun oL S back => ?_
 refine w_call (ct_pad S (r.deeper.mono (by decide)) hb br.1 br.2 (by kcf_m) fun h t lo3 hb3 S => ?_)
 have F := back _ [(l, lo3)] _ (Le.refl _) S
 kso_len
 refine ⟨trivial, ?_⟩
 kd_p
 refine w_io_len (F.sc.keep _ _ eb) hbb (by kcf_m) ?_
 kd_p
 refine F.outk (ps := [(l, lo3)]) (by kp_flats) fun oL S back => ?_
 refine w_call (ct_write S (r.deeper.mono (by decide)) hb3 br.1 br.2 (by kcf_m) fun h t lo4 hb4 S => ?_)
 have F := back _ [(l, lo4)] _ (Le.refl _) S
 kso_len
 refine ⟨trivial, ?_⟩
 kd_p
 have hb4 : IO (blobA bs out) lo4 := hb4
 refine w_io_len (F.got (by kas_types)) hb4 (by kcf_m) ?_
 kd_p
 refine w_io_getm PySem.F.slot_list_extend PySem.F.type_list_extend (F.got (by kas_types)) hb4 ?_
 kd_p
 have hne : b ≠ l := fun q => by
  have := F.sc.off (l, lo4) (by simp)
  rw [← q, eb] at this; cases this
 refine w_io_extend F (by kas_types) hb4 (F.sc.keep _ _ eb) hbb hne (by kcf_m) fun lo5 h hb5 F => ?_
 refine ⟨trivial, ?_⟩
 kd_p
 refine w_tt F ha hT ?_
 kd_p
 refine w_eq_strb (c := true) (by kernel_rfl) ?_
 kd_p
 refine Br.tt ?_
 kd_p
 refine w_io_getm PySem.F.slot_list_append PySem.F.type_list_append (F.got (by kas_types)) hb5 ?_
 kd_p
 refine w_io_append F (by kas_types) hb5 (by rw [List.length_append]; kcf_m) fun lo6 h hb6 F => ?_
 refine ⟨trivial, ?_⟩
 kd_p
 refine w_tt F ha hT ?_
 kd_p
 refine w_eq_strb (c := true) (by kernel_rfl) ?_
 kd_p
 refine Br.tt ?_
 kd_p
 refine w_newtup F (n_le rfl) fun D5 rt ro h le5 er hT F => ?_
 kd_p
 exact k _ _ D5 _ to _ (((le1.trans le2).trans le3).trans le5) (tb.mono (((le1.trans le2).trans le3).trans le5)) hb6 ⟨rt, ro, _, _, _, rfl, er, hT⟩ F.sc
theorem lay_octets {l2 : Addr} {lo2 : Obj} {bs : List Int} (S : SC γ D ((l, lo) :: (780, to) :: rest) h) (r : Room A 4) (tb : TabIs D 620 30 layQ to) (hb : IO out lo) (ha : D a = some ao) (hT : TupO [.str (ofString "octets") tt, .ref l2] ao) (hl : D l2 = some lo2) (hL : IO bs lo2) (hz : bs.length ≤ 800) (hz2 : out.length ≤ 60000) (k : LayFin γ D l rest (blobA bs out ++ bs, ⟨25, (blobA bs out).length, bw bs.length⟩) R) : WC γ A (.call (.ref 783) ⟨[.ref l, .ref a, .int force tf], []⟩) R h t := by
 have sz : sizeLine = 16777216 := sizeLine_eq
 refine' w_enter_cc S ?ho ?hcd r.lt [(ofString "out", .ref l), (ofString "tree", .ref a), (ofString "force", .int force tf)] [(ofString "tree", .ref a)]
  [ofString "row", ofString "bits", ofString "place", ofString "part", ofString "pairs", ofString "key", ofString "pair", ofString "keys"] [(ofString "out", .ref l), (ofString "force", .int force tf)] layGl ?hb ?hlb ?hcl ?ok (globs (by kernel_rfl)) ?_
 case ho => k_is
 case hcd => k_is
 case hb => with_unfolding_all rfl
 case ok => kernel_rfl
 case hlb => exact .cons (by tb_start) .nil
 case hcl => exact .cons (by tb_start) (.cons (by tb_start) .nil)
 clear S
 intro env D1 h t le1 hcode hqual F
 dsimp only [mkV, List.map, List.cons_append, List.nil_append] at F
 have ha := le1 _ _ ha
 kd_p
 refine w_tt F ha hT ?_
 kd_p
 refine w_eq_strb (c := false) (by kernel_rfl) ?_
 kd_p
 refine Br.ff ?_
 kd_p
 refine w_tt F ha hT ?_
 kd_p
 refine w_eq_strb (c := false) (by kernel_rfl) ?_
 kd_p
 refine Br.ff ?_
 kd_p
 refine w_tt F ha hT ?_
 kd_p
 refine w_eq_strb (c := false) (by kernel_rfl) ?_
 kd_p
 refine Br.ff ?_
 kd_p
 refine w_tt F ha hT ?_
 kd_p
 refine w_newtup F (n_le rfl) fun D2 tp tpo h le2 e2 hT2 F => ?_
 kd_p
 refine w_in_tup_strsb (c := true) (F.sc.keep _ _ e2) hT2 (.cons _ _ (.cons _ _ .nil)) (by kernel_rfl) ?_
 kd_p
 refine Br.tt ?_
 have ha := le2 _ _ ha
 kd_p
 have hl := le2 _ _ (le1 _ _ hl)
 kqd_sub
 refine ct_ooct S (r.deeper.mono (by decide)) ha hT fun h t S => ?_
 krn_off
 have le3 := Le.refl D2
 have eb := hl
 have hbb := hL
 have ha := le3 _ _ ha
 kd_p
 refine w_io_len (F.sc.keep _ _ eb) hbb (by kcf_m) ?_
 kd_p
 kqd_sub
 refine ct_lbits S (r.deeper.mono (by decide)) (by kcf_m) fun h t tk S => ?_
 krn_off
 kd_p
 have br := bw_range bs.length
 have bl := blob_length bs out
 have pl := padN_length out.length (show 0 < pw (bw bs.length) by have := pw_le br.1 br.2; kcf_m)
 have wl := pw_le br.1 br.2
 have l1 : (out ++ padN out.length (pw (bw bs.length))).length ≤ 60100 := by rw [List.length_append]; kcf_m
 refine F.outk (ps := [(l, lo)]) (by kp_flats) fun oL S back => ?_
 refine w_call (ct_pad S (r.deeper.mono (by decide)) hb br.1 br.2 (by kcf_m) fun h t lo3 hb3 S => ?_)
 have F := back _ [(l, lo3)] _ (Le.refl _) S
 kso_len
 refine ⟨trivial, ?_⟩
 kd_p
 refine w_io_len (F.sc.keep _ _ eb) hbb (by kcf_m) ?_
 kd_p
 refine F.outk (ps := [(l, lo3)]) (by kp_flats) fun oL S back => ?_
 refine w_call (ct_write S (r.deeper.mono (by decide)) hb3 br.1 br.2 (by kcf_m) fun h t lo4 hb4 S => ?_)
 have F := back _ [(l, lo4)] _ (Le.refl _) S
 kso_len
 refine ⟨trivial, ?_⟩
 kd_p
 have hb4 : IO (blobA bs out) lo4 := hb4
 refine w_io_len (F.got (by kas_types)) hb4 (by kcf_m) ?_
 kd_p
 refine w_io_getm PySem.F.slot_list_extend PySem.F.type_list_extend (F.got (by kas_types)) hb4 ?_
 kd_p
 have hne : l2 ≠ l := fun q => by
  have := F.sc.off (l, lo4) (by simp)
  rw [← q, eb] at this; cases this
 refine w_io_extend F (by kas_types) hb4 (F.sc.keep _ _ eb) hbb hne (by kcf_m) fun lo5 h hb5 F => ?_
 refine ⟨trivial, ?_⟩
 kd_p
 refine w_tt F ha hT ?_
 kd_p
 refine w_eq_strb (c := false) (by kernel_rfl) ?_
 kd_p
 refine Br.ff ?_
 kd_p
 have hb6 := hb5
 refine w_tt F ha hT ?_
 kd_p
 refine w_eq_strb (c := false) (by kernel_rfl) ?_
 kd_p
 refine Br.ff ?_
 kd_p
 refine w_newtup F (n_le rfl) fun D5 rt ro h le5 er hT F => ?_
 kd_p
 exact k _ _ D5 _ to _ (((le1.trans le2).trans le3).trans le5) (tb.mono (((le1.trans le2).trans le3).trans le5)) hb6 ⟨rt, ro, _, _, _, rfl, er, hT⟩ F.sc
end
end
section
theorem snoc_all {α β : Type} {P : α → β → Prop} {xs : List α} {ys : List β} {x : α} {y : β} (h : xs.length = ys.length ∧ ∀ (i : Nat) (a : α) (b : β), xs[i]? = some a → ys[i]? = some b → P a b) (hp : P x y) :
  (xs ++ [x]).length = (ys ++ [y]).length ∧ ∀ (i : Nat) (a : α) (b : β), (xs ++ [x])[i]? = some a → (ys ++ [y])[i]? = some b → P a b := by
 refine ⟨by rw [List.length_append, List.length_append, h.1]; rfl, fun j a b h1 h2 => ?_⟩
 rcases Nat.lt_or_ge j xs.length with q | q
 ·rw [List.getElem?_append_left q] at h1
  rw [List.getElem?_append_left (by rw [← h.1]; exact q)] at h2
  exact h.2 j a b h1 h2
 ·rw [List.getElem?_append_right q] at h1
  rw [List.getElem?_append_right (by rw [← h.1]; exact q)] at h2
  have j0 : j - xs.length = 0 := by
   cases w : j - xs.length with
   | zero => rfl
   | succ m => rw [w] at h1; simp at h1
  rw [j0] at h1
  rw [← h.1, j0] at h2
  obtain rfl : x = a := Option.some.inj h1
  obtain rfl : y = b := Option.some.inj h2
  exact hp
section
variable {γ : G} {A : Around} {D : Dm} {env : Env} {gl cl : List (Str × Value)} {vars : List (Str × Option Value)} {news rest : List (Addr × Obj)} {h : Heap} {t : Nat} {R : Value → Heap → Nat → Prop} {l a : Addr} {lo to ao : Obj} {out : List Int} {force : Int} {tf tt : Tok}
theorem lay_row {n : Nat} {l2 : Addr} {lo2 : Obj} {items : List Value} {ts : List Tree} (sub : LayAt γ l force n) (S : SC γ D ((l, lo) :: (780, to) :: rest) h) (r : Room A (5 + n)) (f0 : 0 ≤ force) (f1 : force ≤ 3) (bm : BM D) (tb : TabIs D 620 30 layQ to) (hb : IO out lo) (ha : D a = some ao) (hT : TupO [.str (ofString "row") tt, .ref l2] ao)
  (hl : D l2 = some lo2) (hL : LstO items.toArray lo2) (hn : items.length = ts.length) (h5 : ts.length ≤ 5) (oks : ∀ t ∈ ts, Ok n t) (gs : ∀ (i : Nat) (x : Value) (t : Tree), items[i]? = some x → ts[i]? = some t → TreeIn n D t x) (hz : out.length + 1000 * (1 + (ts.map (nodes n)).sum) ≤ 60000)
  (k : LayFin γ D l rest (lay force (n + 1) (.row ts) out) R) : WC γ A (.call (.ref 783) ⟨[.ref l, .ref a, .int force tf], []⟩) R h t := by
 have r : Room A (4 + n + 1) := r.mono (by kcf_m)
 have sz : sizeLine = 16777216 := sizeLine_eq
 refine' w_enter_cc S ?ho ?hcd r.lt [(ofString "out", .ref l), (ofString "tree", .ref a), (ofString "force", .int force tf)] [(ofString "tree", .ref a)]
  [ofString "row", ofString "bits", ofString "place", ofString "part", ofString "pairs", ofString "key", ofString "pair", ofString "keys"] [(ofString "out", .ref l), (ofString "force", .int force tf)] layGl ?hb ?hlb ?hcl ?ok (globs (by kernel_rfl)) ?_
 case ho => k_is
 case hcd => k_is
 case hb => with_unfolding_all rfl
 case ok => kernel_rfl
 case hlb => exact .cons (by tb_start) .nil
 case hcl => exact .cons (by tb_start) (.cons (by tb_start) .nil)
 clear S
 intro env D1 h t le1 hcode hqual F
 dsimp only [mkV, List.map, List.cons_append, List.nil_append] at F
 have ha := le1 _ _ ha
 kd_p
 refine w_tt F ha hT ?_
 kd_p
 refine w_eq_strb (c := false) (by kernel_rfl) ?_
 kd_p
 refine Br.ff ?_
 kd_p
 refine w_tt F ha hT ?_
 kd_p
 refine w_eq_strb (c := false) (by kernel_rfl) ?_
 kd_p
 refine Br.ff ?_
 kd_p
 refine w_tt F ha hT ?_
 kd_p
 refine w_eq_strb (c := false) (by kernel_rfl) ?_
 kd_p
 refine Br.ff ?_
 kd_p
 refine w_tt F ha hT ?_
 kd_p
 refine w_newtup F (n_le rfl) fun D2 tp tpo h le2 e2 hT2 F => ?_
 kd_p
 refine w_in_tup_strsb (c := false) (F.sc.keep _ _ e2) hT2 (.cons _ _ (.cons _ _ .nil)) (by kernel_rfl) ?_
 kd_p
 refine Br.ff ?_
 have ha := le2 _ _ ha
 kd_p
 refine w_tt F ha hT ?_
 kd_p
 refine w_eq_strb (c := true) (by kernel_rfl) ?_
 kd_p
 refine Br.tt ?_
 kd_p
 have le := le1.trans le2
 have hl := le _ _ hl
 have tb := tb.mono le
 have bm := bm.mono le
 refine w_listcomp F ?_ (ns := [ofString "part"]) (gn := [ofString "_law_lay"]) (cn := [ofString "force", ofString "out"]) (by kernel_rfl)
 kd_p
 refine w_tt F ha hT ?_
 kd_p
 have lay0 : ∀ t ∈ ts, ∀ out, LayOk out (lay force n t out) (1000 * nodes n t) := fun t ht out => lay_ok f0 f1 n t out (oks t ht)
 refine w_pyiter_lst F hl hL fun it own h itr hst F => ?_
 refine w_comp_it (itr _ .name (.inl ⟨_, _, rfl⟩)) r.hn F hst [ofString "part"] [(ofString "_law_lay", .ref 783)] [(ofString "force", .int force tf), (ofString "out", .ref l)] (by kernel_rfl) (globs (by kernel_rfl)) (.cons (by tb_start) (.cons (by tb_start) .nil)) (Nat.le_trans (Nat.le_trans (Nat.le_of_eq hn) h5) (by decide))
  (fun i D' ys news' => ∃ lo' to', news' = (l, lo') :: (780, to') :: rest ∧ TabIs D' 620 30 layQ to' ∧ IO (layAll (lay force n) (ts.take i) out).1 lo' ∧ PartsAre D' ys (layAll (lay force n) (ts.take i) out).2) ⟨_, _, rfl, tb, by simpa [layAll] using hb, rfl, fun i v p h => by simp at h⟩
  (fun i D D' ys news l ⟨lo', to', a1, a2, a3, a4⟩ => ⟨lo', to', a1, a2.mono l, a3, a4.mono l⟩) ?_ ?_
 ·intro cenv i D3 ys news' own' u v h t le3 hi y1; refine ek2_4 y1 fun lo1 to1 z1 tb1 hb1 pa1 => ?_; clear y1; obtain rfl := z1; intro hx F
  dsimp only [List.map] at F
  rw [hn] at hi
  have et : ts[i]? = some ts[i] := List.getElem?_eq_getElem hi
  have etk : ts.take (i + 1) = ts.take i ++ [ts[i]] := List.take_succ_eq_append_getElem hi
  have g := (gs i v _ hx et).mono (le.trans le3)
  have al := allOk (f := lay force n) (c := fun t => 1000 * nodes n t) (ts.take i) out (fun t ht => lay0 t (List.mem_of_mem_take ht))
  have len := al.len
  rw [mul_sum, List.length_take, Nat.min_eq_left (Nat.le_of_lt hi)] at len
  have sm := sum_take_le (nodes n) ts i _ et
  refine w_asg_name ?_
  kd_p
  refine w_tests_nil ?_
  refine Br.tt ?_
  kd_p
  refine F.outk (ps := [(l, lo1), (780, to1)]) (by kp_flats) fun oL S back => ?_
  refine w_call (sub S (r.deeper.mono (Nat.le_refl _)) (bm.mono le3) tb1 hb1 (oks _ (List.getElem_mem hi)) g (by kcf_m) fun h t D4 lo4 to4 v4 le4 tb4 hb4 pv S => ?_)
  have F := back _ [(l, lo4), (780, to4)] _ le4 S
  kso_len
  have eL := layAll_append (lay force n) (ts.take i) [ts[i]] out
  refine ⟨le4, rfl, ⟨lo4, to4, rfl, tb4, ?_, ?_⟩, F⟩
  ·rw [etk, eL]; exact hb4
  ·rw [etk, eL]; exact snoc_all (pa1.mono le4) pv
 intro D4 ys news' acc o h t le4 y1; refine ek2_4 y1 fun lo1 to1 z1 tb1 hb1 pa1 => ?_; clear y1; obtain rfl := z1; intro hl1 F
 rw [hn, List.take_length] at hb1 pa1
 have al := allOk (f := lay force n) (c := fun t => 1000 * nodes n t) ts out lay0
 have len := al.len
 rw [mul_sum] at len
 have pl : (layAll (lay force n) ts out).2.length = ts.length := layAll_length _ _ _
 refine F.frzk fun D5 le5 e5 F => ?_
 kd_p
 refine F.outk (ps := [(l, lo1)]) (by kp_flats) fun oL S back => ?_
 refine w_call (ct_lrow (ky := .n) S (r.deeper.mono (by kcf_m)) hb1 e5 hl1 (pa1.mono le5) f0 f1 al.ok al.place trivial (by rw [pl]; exact nZ (nA hz len) (by kcf_m)) fun h t D6 lo6 v le6 hb6 pv S => ?_)
 have F := back _ [(l, lo6)] _ le6 S
 kso_len
 kd_p
 exact k _ _ D6 lo6 _ v (((le.trans le4).trans le5).trans le6) (tb1.mono (le5.trans le6)) hb6 pv F.sc
end
end
section
theorem codeHd_782 (w : World) : codeHdIn (hd.heap_1 w.params) 782 780 = true := by kernel_rfl
noncomputable def TripIs (D : Dm) (v : Value) (q : Kp) : Prop := ∃ pa po s u tk pv, v = .ref pa ∧ D pa = some po ∧ TupO [.str s u, .int q.2.1.v tk, pv] po ∧ s.cps.toList = q.1 ∧ PartIs D pv q.2.2
noncomputable def TripsAre (D : Dm) (vs : List Value) (qs : List Kp) : Prop := vs.length = qs.length ∧ ∀ (i : Nat) (v : Value) (q : Kp), vs[i]? = some v → qs[i]? = some q → TripIs D v q
theorem TripIs.mono {D D' : Dm} {v : Value} {q : Kp} (x : TripIs D v q) (l : Le D D') : TripIs D' v q := ek6_5 x fun pa po s u tk pv e1 e2 e3 e4 e5 => ⟨pa, po, s, u, tk, pv, e1, l _ _ e2, e3, e4, e5.mono l⟩
theorem TripsAre.mono {D D' : Dm} {vs : List Value} {qs : List Kp} (x : TripsAre D vs qs) (l : Le D D') : TripsAre D' vs qs := ⟨x.1, fun i v q h1 h2 => (x.2 i v q h1 h2).mono l⟩
theorem TripsAre.at {D : Dm} {vs : List Value} {qs : List Kp} (x : TripsAre D vs qs) {i : Nat} {v : Value} (h : vs[i]? = some v) : ∃ q, qs[i]? = some q ∧ TripIs D v q ∧ i < qs.length ∧ qs.take (i + 1) = qs.take i ++ [q] := by
 have hi : i < qs.length := by rw [← x.1]; exact (List.getElem?_eq_some_iff.mp h).1
 exact ⟨qs[i], by simp [hi], x.2 i v _ h (by simp [hi]), hi, List.take_succ_eq_append_getElem hi⟩
theorem sorted_trips {D : Dm} {qs : List Kp} {ys outl : List Value} (pa : TripsAre D ys qs) (nd : (qs.map (·.1)).Nodup) (so : SortOut PyProof.Rows.strKind (qs.map (·.1)) ys outl) : TripsAre D outl (srt qs) := by
 have k1 : (qs.map fun q => (⟨q.1, q.2.1, q.2.2, 0, 0⟩ : Ent)).map Ent.kps = qs := by
  rw [List.map_map]
  conv => rhs; rw [← List.map_id qs]
  rfl
 have k2 : (qs.map fun q => (⟨q.1, q.2.1, q.2.2, 0, 0⟩ : Ent)).map (·.key) = qs.map (·.1) := by rw [List.map_map]; rfl
 obtain ⟨T, hT, ho, hs⟩ := sorted_ents (es := qs.map fun q => (⟨q.1, q.2.1, q.2.2, 0, 0⟩ : Ent)) (κ := PyProof.Rows.strKind) rfl str_le (ks := qs.map (·.1)) (by rw [k2]; simp) (by rw [List.length_map]; exact pa.1) (by rw [k2]; exact nd) so
 rw [k1] at hs
 rw [ho, hs]
 refine ⟨by rw [List.length_map, List.length_map], fun i v q h1 h2 => ?_⟩
 rw [List.getElem?_map] at h1 h2
 cases qt : T[i]? with
 | none => rw [qt] at h1; cases h1
 | some tt =>
 rw [qt] at h1 h2
 obtain rfl : tt.2 = v := Option.some.inj h1
 obtain rfl : tt.1.kps = q := Option.some.inj h2
 obtain ⟨j, hj⟩ := List.getElem?_of_mem (hT.mem_iff.mp (List.mem_of_getElem? qt))
 obtain ⟨g1, g2⟩ := List.getElem?_zip_eq_some.mp hj
 refine pa.2 j _ _ g2 ?_
 have := congrArg (fun l => l[j]?) k1
 rw [← this, List.getElem?_map, g1]
 rfl
theorem bits_list {force n : Int} {qs : List Kp} {ns : List Int} (h4 : ∀ q ∈ qs, inl q.2.1.ty = false) (e1 : ns.length = qs.length) (e2 : ∀ (j : Nat) (q : Kp), qs[j]? = some q → ns[j]? = some (far n q.2.1.v (1 + j))) :
  rowBits force n none (qs.map (·.2.1)) ∈ [force, bw qs.length] ++ ns ∧ ∀ a ∈ [force, bw qs.length] ++ ns, a ≤ rowBits force n none (qs.map (·.2.1)) := by
 have el : ∀ (j : Nat) (p : Pv), (qs.map (·.2.1))[j]? = some p → ns[j]? = some (p.el n (1 + j)) := by
  intro j p h
  rw [List.getElem?_map] at h
  cases q : qs[j]? with
  | none => rw [q] at h; cases h
  | some x =>
   rw [q] at h
   obtain rfl : x.2.1 = p := Option.some.inj h
   rw [e2 j x q, el_far (h4 x (List.mem_of_getElem? q))]
 have ll : (qs.map (·.2.1)).length = qs.length := List.length_map ..
 unfold rowBits
 simp only [ll]
 constructor
 ·rcases elMax_mem n (qs.map (·.2.1)) 1 (max force (bw qs.length)) with h | ⟨j, p, h1, h2⟩
  ·rw [h]
   rcases Int.le_total force (bw qs.length) with c | c
   ·rw [Int.max_eq_right c]; simp
   ·rw [Int.max_eq_left c]; simp
  ·rw [h2]
   exact List.mem_append_right _ (List.mem_of_getElem? (el j p h1))
 ·intro a ha
  have l0 := elMax_le n (qs.map (·.2.1)) 1 (max force (bw qs.length))
  rcases List.mem_append.mp ha with ha | ha
  ·have : a = force ∨ a = bw qs.length := by simpa using ha
   rcases this with rfl | rfl <;> kcf_m
  ·refine ek1_1 (List.getElem?_of_mem ha) fun j hj => ?_
   have hjl : j < qs.length := by rw [← e1]; exact (List.getElem?_eq_some_iff.mp hj).1
   have hp : (qs.map (·.2.1))[j]? = some (qs[j]).2.1 := by simp [hjl]
   rw [el j _ hp] at hj
   obtain rfl := Option.some.inj hj
   exact elMax_ge n _ 1 _ j _ hp
section
variable {γ : G} {A : Around} {D : Dm} {env : Env} {gl cl : List (Str × Value)} {vars : List (Str × Option Value)} {news rest : List (Addr × Obj)} {h : Heap} {t : Nat} {R : Value → Heap → Nat → Prop} {l a : Addr} {lo to ao : Obj} {out : List Int} {force : Int} {tf tt : Tok}
theorem lay_map {n : Nat} {l2 : Addr} {lo2 : Obj} {items : List Value} {ts : List (List Nat × Tree)} (sub : LayAt γ l force n) (S : SC γ D ((l, lo) :: (780, to) :: rest) h) (r : Room A (5 + n)) (f0 : 0 ≤ force) (f1 : force ≤ 3) (bm : BM D) (tb : TabIs D 620 30 layQ to) (hb : IO out lo) (ha : D a = some ao) (hT : TupO [.str (ofString "map") tt, .ref l2] ao)
  (hl : D l2 = some lo2) (hL : LstO items.toArray lo2) (hn : items.length = ts.length) (ok : Ok (n + 1) (.map ts)) (gs : ∀ (i : Nat) (x : Value) (k : List Nat) (t : Tree), items[i]? = some x → ts[i]? = some (k, t) → ∃ pa po s u pv, x = .ref pa ∧ D pa = some po ∧ TupO [.str s u, pv] po ∧ s.cps.toList = k ∧ TreeIn n D t pv)
  (hz : out.length + 1000 * (1 + (ts.map fun p => nodes n p.2).sum) ≤ 60000)
  (k : LayFin γ D l rest (lay force (n + 1) (.map ts) out) R) : WC γ A (.call (.ref 783) ⟨[.ref l, .ref a, .int force tf], []⟩) R h t := by
 have r : Room A (4 + n + 1) := r.mono (by kcf_m)
 have sz : sizeLine = 16777216 := sizeLine_eq
 refine' w_enter_cc S ?ho ?hcd r.lt [(ofString "out", .ref l), (ofString "tree", .ref a), (ofString "force", .int force tf)] [(ofString "tree", .ref a)]
  [ofString "row", ofString "bits", ofString "place", ofString "part", ofString "pairs", ofString "key", ofString "pair", ofString "keys"] [(ofString "out", .ref l), (ofString "force", .int force tf)] layGl ?hb ?hlb ?hcl ?ok (globs (by kernel_rfl)) ?_
 case ho => k_is
 case hcd => k_is
 case hb => with_unfolding_all rfl
 case ok => kernel_rfl
 case hlb => exact .cons (by tb_start) .nil
 case hcl => exact .cons (by tb_start) (.cons (by tb_start) .nil)
 clear S
 intro env D1 h t le1 hcode hqual F
 dsimp only [mkV, List.map, List.cons_append, List.nil_append] at F
 have ha := le1 _ _ ha
 kd_p
 refine w_tt F ha hT ?_
 kd_p
 refine w_eq_strb (c := false) (by kernel_rfl) ?_
 kd_p
 refine Br.ff ?_
 kd_p
 refine w_tt F ha hT ?_
 kd_p
 refine w_eq_strb (c := false) (by kernel_rfl) ?_
 kd_p
 refine Br.ff ?_
 kd_p
 refine w_tt F ha hT ?_
 kd_p
 refine w_eq_strb (c := false) (by kernel_rfl) ?_
 kd_p
 refine Br.ff ?_
 kd_p
 refine w_tt F ha hT ?_
 kd_p
 refine w_newtup F (n_le rfl) fun D2 tp tpo h le2 e2 hT2 F => ?_
 kd_p
 refine w_in_tup_strsb (c := false) (F.sc.keep _ _ e2) hT2 (.cons _ _ (.cons _ _ .nil)) (by kernel_rfl) ?_
 kd_p
 refine Br.ff ?_
 have ha := le2 _ _ ha
 kd_p
 refine w_tt F ha hT ?_
 kd_p
 refine w_eq_strb (c := false) (by kernel_rfl) ?_
 kd_p
 refine Br.ff ?_
 kd_p
 have le := le1.trans le2
 have hl := le _ _ hl
 have tb := tb.mono le
 have bm := bm.mono le
 refine ek0_3 ok fun h5 nd oks => ?_; clear ok
 refine w_newlist F (n_le rfl) fun p0 po h hp0 F => ?_
 kd_p
 refine w_for ?_
 kd_p
 refine w_tt F ha hT ?_
 kd_p
 have lay0 : ∀ q ∈ ts, KeyOk q.1 ∧ ∀ out, LayOk out (lay force n q.2 out) (1000 * nodes n q.2) := fun q hq => ⟨(oks q hq).1, fun out => lay_ok f0 f1 n q.2 out (oks q hq).2⟩
 have refs : ∀ v ∈ items, ∃ a, v = .ref a := by
  intro v hv
  obtain ⟨i, hi⟩ := List.getElem?_of_mem hv
  have hil : i < ts.length := by rw [← hn]; exact (List.getElem?_eq_some_iff.mp hi).1
  refine ek5_2 (gs i v (ts[i]).1 (ts[i]).2 hi (by simp [hil])) fun pa po s u pv e ξ => ?_
  exact ⟨pa, e⟩
 refine w_pyiter_lst F hl hL fun it own h itr hst F => ?_
 refine w_for_c (itr _ .tup (.inr refs)) r.hn (fun i D' Φ => ∀ (upl up uk : Option Value) (lo' to' po' : Obj) (ys : List Value), (TabIs D' 620 30 layQ to') → (IO (layMap (lay force n) (ts.take i) out).1 lo') → (LstO ys.toArray po') → (TripsAre D' ys (layMap (lay force n) (ts.take i) out).2) → Φ [(ofString "tree", some (.ref a)), (ofString "row", none), (ofString "bits", none), (ofString "place", upl), (ofString "part", up), (ofString "pairs", some (.ref p0)), (ofString "key", uk), (ofString "pair", none), (ofString "keys", none)] ((p0, po') :: (l, lo') :: (780, to') :: rest)) F hst (fun ξ j => j _ _ _ _ _ _ [] tb hb hp0 ⟨rfl, fun i v p h => by simp at h⟩) (fun i D D' Φ l q upl up uk lo' to' po' ys a3 a4 a5 a6 => q upl up uk lo' to' po' ys (a3.mono l) a4 a5 (a6.mono l)) ?_ ?_
 ·rintro i D3 own v h t K0 k0 kr le3 hi hx upl up uk lo1 to1 po1 ys tb1 hb1 hp1 pa1 F
  rw [hn] at hi
  have et : ts[i]? = some ts[i] := List.getElem?_eq_getElem hi
  have etk : ts.take (i + 1) = ts.take i ++ [ts[i]] := List.take_succ_eq_append_getElem hi
  refine ek5_5 (gs i v (ts[i]).1 (ts[i]).2 hx et) fun pa pob s u pv z1 ep Tp es g => ?_; obtain rfl := z1
  have ep := (le.trans le3) _ _ ep
  have al := mapOk (f := lay force n) (c := fun t => 1000 * nodes n t) (ts.take i) out (fun q hq => lay0 q (List.mem_of_mem_take hq))
  have len := al.len
  have am := mul_sum 1000 (fun q : List Nat × Tree => nodes n q.2) (ts.take i)
  rw [am, List.length_take, Nat.min_eq_left (Nat.le_of_lt hi)] at len
  have sm := sum_take_le (fun q : List Nat × Tree => nodes n q.2) ts i _ et
  have yl : ys.length = i := by rw [pa1.1, layMap_length, List.length_take, Nat.min_eq_left (Nat.le_of_lt hi)]
  refine ek0_2 (oks _ (List.getElem_mem hi)) fun ki kt => ?_
  have kl : (kOct (ts[i]).1).length ≤ 8 := by have := ki.1; simp [kOct]; exact this
  have ksz : s.cps.size = (ts[i]).1.length := by rw [← es, Array.length_toList]
  have asc : s.cps.all (· < 128) = true := by
   rw [Array.all_eq_true_iff_forall_mem]
   intro c hc
   have : c ∈ (ts[i]).1 := by rw [← es]; exact Array.mem_toList_iff.mpr hc
   simpa using (ki.2 c this).2
  have eL := layMap_append (lay force n) (ts.take i) [ts[i]] out
  refine w_asg_tup2 F r.hn ep Tp fun h F => ?_
  kd_p
  refine w_io_len (F.got (by kas_types)) hb1 (by kcf_m) ?_
  kd_p
  refine w_io_getm PySem.F.slot_list_extend PySem.F.type_list_extend (F.got (by kas_types)) hb1 ?_
  kd_p
  refine w_listcomp F ?_ (ns := [ofString "letter"]) (gn := [ofString "ord"]) (cn := []) (by kernel_rfl)
  kd_p
  refine w_pyiter_str F asc fun it2 own2 h hst2 F => ?_
  refine w_comp_it iter_str r.hn F hst2 [ofString "letter"] [(ofString "ord", .builtin "ord")] [] (by kernel_rfl) (globs (by kernel_rfl)) .nil (by have := ki.1; exact Nat.le_trans (Nat.le_trans (Nat.le_of_eq ksz) this) (by decide))
   (fun i D' ys news' => news' = (p0, po1) :: (l, lo1) :: (780, to1) :: rest ++ own ∧ IntsAre ys ((kOct s.cps.toList).take i)) ⟨rfl, .nil⟩ (fun ξ ξ ξ ξ ξ ξ q => q) ?_ ?_
  ·intro cenv j D4 zs news' own' uu v h t le4 hj y1; refine ek0_2 y1 fun z1 hys => ?_; clear y1; obtain rfl := z1; intro y2; refine ek2_2 y2 fun c tk hc z2 => ?_; clear y2; obtain rfl := z2; intro F
   dsimp only [List.map] at F
   refine w_asg_name ?_
   kd_p
   refine w_tests_nil ?_
   refine Br.tt ?_
   kd_p
   refine w_ord ?_
   refine ⟨Le.refl _, rfl, ⟨rfl, ?_⟩, F⟩
   have hc2 : (kOct s.cps.toList)[j]? = some (c : Int) := by simp [kOct, hc]
   refine ek1_1 (List.getElem?_eq_some_iff.mp hc2) fun hj2 ej => ?_
   rw [List.take_succ_eq_append_getElem hj2, ej]
   exact ksk_snoc hys
  intro D4 zs news' acc o h t le4 y1; refine ek0_2 y1 fun z1 hys => ?_; clear y1; obtain rfl := z1; intro hl4 F
  have fl : (kOct s.cps.toList).take s.cps.size = kOct (ts[i]).1 := by rw [es, ksz, List.take_of_length_le (by simp [kOct])]
  rw [fl] at hys
  refine F.frzk fun D5 le5 e5 F => ?_
  kso_len
  kd_p
  have hne : acc ≠ l := fun q => by
   have := F.sc.off (l, lo1) (by simp)
   rw [← q, e5] at this; cases this
  refine w_io_extend F (by kas_types) hb1 (F.sc.keep _ _ e5) ⟨zs, hys, hl4⟩ hne (by kcf_m) fun lo2 h hb2 F => ?_
  refine ⟨trivial, ?_⟩
  kd_p
  refine w_io_getm PySem.F.slot_list_append PySem.F.type_list_append (F.got (by kas_types)) hb2 ?_
  kd_p
  refine w_io_append F (by kas_types) hb2 (by rw [List.length_append]; kcf_m) fun lo3 h hb3 F => ?_
  refine ⟨trivial, ?_⟩
  kd_p
  refine w_getm_list PySem.F.slot_list_append PySem.F.type_list_append (F.got (by kas_types)) hp1 ?_
  kd_p
  refine F.outk (ps := [(l, lo3), (780, to1)]) (by kp_flats) fun oL S back => ?_
  refine w_call (sub S (r.deeper.mono (Nat.le_refl _)) (bm.mono (le3.trans (le4.trans le5))) (tb1.mono (le4.trans le5)) hb3 kt (g.mono ((le.trans le3).trans (le4.trans le5))) (by simp only [List.length_append, List.length_cons, List.length_nil]; kcf_m) fun h t D6 lo4 to4 v4 le6 tb4 hb4 pv4 S => ?_)
  have F := back _ [(l, lo4), (780, to4)] _ le6 S
  try kso_len
  kd_p
  refine w_newtup F (n_le rfl) fun D7 tp tpo h le7 e7 hT7 F => ?_
  kd_p
  refine w_lappend F (by kas_types) hp1 (nZ (nA h5 (nA hi (Nat.le_of_eq yl))) (by kcf_m)) fun po2 h hp2 F => ?_
  refine ⟨trivial, ?_⟩
  kd_p
  refine k0 D7 _ _ _ _ (((le4.trans le5).trans le6).trans le7) (fun ξ j => j _ _ _ lo4 to4 po2 _ (tb4.mono le7) ?_ hp2 ?_) F
  ·rw [etk, eL]; exact hb4
  ·rw [etk, eL]
   exact snoc_all (pa1.mono (((le4.trans le5).trans le6).trans le7)) ⟨tp, tpo, s, u, _, v4, rfl, e7, hT7, es, pv4.mono le7⟩
 rintro D3 h t le3 upl up uk lo1 to1 po1 ys tb1 hb1 hp1 pa1 F
 rw [hn, List.take_length] at hb1 pa1
 have al := mapOk (f := lay force n) (c := fun t => 1000 * nodes n t) ts out lay0
 have len := al.len
 have o1 := al.ok
 clear al
 have am := mul_sum 1000 (fun q : List Nat × Tree => nodes n q.2) ts
 rw [am] at len
 have ql := layMap_length (lay force n) ts out
 have qk := layMap_keys (lay force n) ts out
 have k : LayFin γ D l rest (mapOut force (srt (layMap (lay force n) ts out).2) (layMap (lay force n) ts out).1) R := k
 generalize (layMap (lay force n) ts out).1 = out1 at *
 generalize (layMap (lay force n) ts out).2 = qs at *
 refine F.frzk fun D4 le4 ep F => ?_
 refine q0 _ _ _ ?_
 clear q0
 kd_p
 refine w_cw_bik ?_
 kd_p
 refine w_lambda (F.pick (by kas_types)) (bm.mono (le3.trans le4)) hcode (codeHd_of F.sc.inK (codeHd_782 _)) (by rw [hqual]; exact tb1.mono le4) (clos := []) (by rfl) rfl fun D5 f c' ctv to2 pm h t le5 ef ca tb2 F => ?_
 rw [hqual] at ef ca tb2
 kd_p
 refine ek1_2 (F.out (ps := []) Take.nil) fun oL S back => ?_
 have ep := le5 _ _ ep
 refine w_sorted (K := hd.heap_1 γ.w.params) (D := D5) (news := (env.locals, oL) :: (780, to2) :: (l, lo1) :: rest) (κ := PyProof.Rows.strKind) (ks := qs.map (·.1)) PyProof.Rows.strKind_oneLt str_kind (ksk_s1 _ _) (fun x => ksk_l1 _ _) (fun x => ksk_t1 _ _) (w_collect_list S ep hp1 (by rw [pa1.1, ql]; exact Nat.le_trans h5 (by decide)) fun h S => ?_)
 refine ⟨D5, Le.refl _, S, by rw [pa1.1, ql]; exact Nat.lt_of_le_of_lt h5 (by decide), by rw [List.length_map, pa1.1], ?_, ?_⟩
 ·intro i v kk hv hkk D10 own h t le10 S
  refine ek1_4 ((pa1.mono (le4.trans (le5.trans le10))).at hv) fun q hq z1 ξ ξ => ?_; refine ek6_5 z1 fun pa pob s u tk pv z2 epa Tp es pvi => ?_; clear z1; obtain rfl := z2
  rw [List.getElem?_map, hq] at hkk
  cases hkk
  refine w_call (w_call_lam S (le10 _ _ ef) (ca.mono le10) (r.mono (show 4 ≤ 4 + n + 1 by kcf_m)).deeper.in1.in1.lt [(ofString "pair", .ref pa)] [] [] (by with_unfolding_all rfl) (by kernel_rfl) trivial (fun p hp => nomatch hp) fun env2 h t F => ?_)
  dsimp only [mkV, List.map, List.cons_append, List.nil_append] at F
  kd_p
  refine w_tt F epa Tp ?_
  exact ⟨by show some _ = some _; rw [es], D10, Le.refl _, F.sc⟩
 intro D6 l5 outl o5 h t le6 so5 hl5 S
 have F := back _ [(l5, o5)] _ le6 S
 kso_len
 clear back
 have nd2 : (qs.map (·.1)).Nodup := by rw [qk]; exact nd
 have pa2 := (sorted_trips (pa1.mono (le4.trans le5)) nd2 so5).mono le6
 have sp := srt_perm qs
 have sl : (srt qs).length = ts.length := by rw [sp.length_eq, ql]
 have o2 := fun q (hq : q ∈ srt qs) => o1 q (sp.mem_iff.mp hq)
 clear so5 sp o1
 generalize srt qs = qs2 at *
 refine F.frzk fun D7 le7 e5 F => ?_
 have F := F.perm (List.Perm.swap _ _ _)
 have pa2 := pa2.mono le7
 have ol : outl.length = qs2.length := pa2.1
 have leA : Le D D7 := ((((le.trans le3).trans le4).trans le5).trans le6).trans le7
 have tb2 := tb2.mono (le6.trans le7)
 kd_p
 refine w_len_list (F.sc.keep _ _ e5) hl5.ls (by kcf_m) ?_
 refine ol.symm ▸ ?_
 kd_p
 kqd_sub
 refine ct_lbits S (r.deeper.mono (by kcf_m)) (cL (qs2.length) (18446744073709551616) (nL (nA h5 (Nat.le_of_eq sl)) (by kcf_m))) fun h t tkb S => ?_
 krn_off
 kd_p
 refine w_newlist F (n_le rfl) fun fz0 fo h hf0 F => ?_
 refine F.frzk fun D8 le8 ef0 F => ?_
 have pa2 := pa2.mono le8
 have e5 := le8 _ _ e5
 have tb2 := tb2.mono le8
 have leA := leA.trans le8
 kd_p
 refine w_listcomp F ?_ (ns := [ofString "k", ofString "pair"]) (gn := [ofString "_law_far"]) (cn := [ofString "out"]) (by kernel_rfl)
 kd_p
 refine w_call_enum F e5 hl5 fun e1 it own h hst F => ?_
 refine w_pyiter_enum F hst ?_
 refine w_comp_it iter_enum r.hn F hst [ofString "k", ofString "pair"] [(ofString "_law_far", .ref 778)] [(ofString "out", .ref l)] (by kernel_rfl) (globs (by kernel_rfl)) (.cons (by tb_start) .nil) (nZ (nA (Nat.le_of_eq sz.symm) (nA h5 (nA (Nat.le_of_eq sl) (Nat.le_of_eq ol)))) (by kcf_m))
  (fun i D' ys news' => news' = (l, lo1) :: (780, to2) :: rest ∧ ∃ ns : List Int, IntsAre ys ns ∧ ns.length = i ∧ ∀ (j : Nat) (q : Kp), j < i → qs2[j]? = some q → ns[j]? = some (far out1.length q.2.1.v (1 + (j : Int)))) ⟨rfl, [], .nil, rfl, fun j q hj => absurd hj (Nat.not_lt_zero _)⟩ (fun ξ ξ ξ ξ ξ ξ q => q) ?_ ?_
 ·intro cenv i D9 zs news' own' u v h t le9 hi y1; refine ek0_2 y1 fun z1 z2 => ?_; clear y1; obtain rfl := z1; refine ek1_3 z2 fun ns i1 i2 i3 => ?_; clear z2; intro y2; refine ek4_4 y2 fun xv ta ot tki hx z3 eD eT => ?_; clear y2; obtain rfl := z3; intro F
  dsimp only [List.map] at F
  refine ek1_4 ((pa2.mono le9).at hx) fun q hq z1 hql ξ => ?_; refine ek6_5 z1 fun pa pob s u2 tk pv z2 epa Tp es pvi => ?_; clear z1; obtain rfl := z2
  refine ek0_5 (o2 q (List.mem_of_getElem? hq)) fun ok1 ok2 ok3 ok4 ok5 => ?_
  have v0 : 0 ≤ q.2.1.v := by rcases ok1 with w | w | w | w <;> kcf_m
  refine w_asg_tup2 F r.hn eD eT fun h F => ?_
  kd_p
  refine w_tests_nil ?_
  refine Br.tt ?_
  kd_p
  refine w_tt F epa Tp ?_
  kd_p
  refine F.outk (ps := [(l, lo1)]) (by kp_flats) fun oL S back => ?_
  refine w_call (ct_lfar S (r.deeper.mono (by kcf_m)) hb1 v0 ok3 (Int.natCast_nonneg _) (by kcf_m) fun h t tk S => ?_)
  have F := back _ [(l, lo1)] _ (Le.refl _) S
  refine ⟨Le.refl _, rfl, ⟨rfl, ns ++ [_], ksk_snoc i1, by simp [i2], fun j q' hj hq' => ?_⟩, F⟩
  rcases Nat.lt_or_ge j i with w | w
  ·rw [List.getElem?_append_left (nL (nA (Nat.le_of_eq i2.symm) w) (by kcf_m))]; exact i3 j q' w hq'
  ·obtain rfl : j = i := Nat.le_antisymm (nZ hj (by kcf_m)) (nZ w (by kcf_m))
   rw [hq] at hq'; cases hq'
   rw [List.getElem?_append_right (nZ (Nat.le_of_eq i2) (by kcf_m)), i2]
   simp
 intro D9 zs news' acc o h t le9 y1; refine ek0_2 y1 fun z1 z2 => ?_; clear y1; obtain rfl := z1; refine ek1_3 z2 fun ns i1 i2 i3 => ?_; clear z2; intro hl9 F
 refine ek0_2 (bits_list (force := force) (n := out1.length) (qs := qs2) (ns := ns) (fun q hq => by obtain ⟨ok1, ok2, _⟩ := o2 q hq; rw [ok2]; rfl) (by rw [i2, ol]) (fun j q hq => i3 j q (by rw [ol]; exact (List.getElem?_eq_some_iff.mp hq).1) hq)) fun bl1 bl2 => ?_
 refine w_add_lists F (F.sc.keep _ _ (le9 _ _ ef0)) hf0 (F.got .head) hl9 (by have := i1.length; simp only [List.length_cons, List.length_nil]; exact nZ (nA h5 (nA (Nat.le_of_eq sl) (nA (Nat.le_of_eq ol) (nA (Nat.le_of_eq i2) (Nat.le_of_eq this))))) (by kcf_m)) fun g0 go h hg0 F => ?_
 kd_p
 refine w_max_list F r.hn (F.got .head) hg0 (IntsAre.append (.cons _ _ (.cons _ _ .nil)) i1) bl1 bl2 fun h tB t F => ?_
 refine F.frzk fun DA leB ξ F => ?_
 refine F.frzk fun DB leC ξ F => ?_
 have leD := le9.trans (leB.trans leC)
 have pa2 := pa2.mono leD
 have e5 := leD _ _ e5
 have tb2 := tb2.mono leD
 have leA := leA.trans leD
 clear bl1 bl2 i3 hg0 hl9 hf0 ef0
 kd_p
 have okk : ∀ p ∈ qs2.map (·.2.1), p.ok := fun p hp => by
  obtain ⟨q, hq, rfl⟩ := List.mem_map.mp hp
  exact (o2 q hq).1
 have okp : ∀ p ∈ qs2.map (·.2.2), p.ok := fun p hp => by
  obtain ⟨q, hq, rfl⟩ := List.mem_map.mp hp
  exact (o2 q hq).2.2.2.1
 have mo : mapOut force qs2 out1 = vecOut false force (some (vecOut true force none (qs2.map (·.2.1)) out1).2) (qs2.map (·.2.2)) (vecOut true force none (qs2.map (·.2.1)) out1).1 := rfl
 have vo := vecOut_ok true (k := none) (ps := qs2.map (·.2.1)) (out := out1) f0 f1 (fun p e => by cases e) okk
 have vl := vecOut_length true (k := none) (ps := qs2.map (·.2.1)) (out := out1) f0 f1 (fun p e => by cases e) okk
 have vp := vecOut_place true (force := force) (k := none) (ps := qs2.map (·.2.1)) (out := out1)
 have xv := ext_vec true force none (qs2.map (·.2.1)) out1
 rw [List.length_map] at vl
 have rr := rowBits_range (n := out1.length) (k := none) (ps := qs2.map (·.2.1)) f0 f1 (fun p e => by cases e) okk
 have wl := pw_le rr.1 rr.2
 have pdl := padN_length out1.length (show 0 < pw (rowBits force out1.length none (qs2.map (·.2.1))) by exact wl.1)
 have v1 : (vecOut true force none (qs2.map (·.2.1)) out1).1 = cells (pw (rowBits force out1.length none (qs2.map (·.2.1)))) (qs2.map (·.2.1)) (rowHead (pw (rowBits force out1.length none (qs2.map (·.2.1)))) none (qs2.map (·.2.1)) out1) := rfl
 have v2 : (vecOut true force none (qs2.map (·.2.1)) out1).2 = ⟨14, (rowHead (pw (rowBits force out1.length none (qs2.map (·.2.1)))) none (qs2.map (·.2.1)) out1).length, rowBits force out1.length none (qs2.map (·.2.1))⟩ := rfl
 have rh : rowHead (pw (rowBits force out1.length none (qs2.map (·.2.1)))) none (qs2.map (·.2.1)) out1 = out1 ++ padN out1.length (pw (rowBits force out1.length none (qs2.map (·.2.1)))) ++ KTBy.little (pw (rowBits force out1.length none (qs2.map (·.2.1)))) qs2.length := by
  show _ ++ KTBy.little _ ((qs2.map (·.2.1)).length : Nat) = _
  rw [List.length_map]
 generalize hB : rowBits force out1.length none (qs2.map (·.2.1)) = B at *
 refine F.outk (ps := [(l, lo1)]) (by kp_flats) fun oL S back => ?_
 refine w_call (ct_pad S (r.deeper.mono (by kcf_m)) hb1 rr.1 rr.2 (nZ (nA hz len) (by kcf_m)) fun h t lo2 hb2 S => ?_)
 have F := back _ [(l, lo2)] _ (Le.refl _) S
 kso_len
 refine ⟨trivial, ?_⟩
 kd_p
 refine w_len_list (F.sc.keep _ _ e5) hl5.ls (by kcf_m) ?_
 refine ol.symm ▸ ?_
 kd_p
 refine F.outk (ps := [(l, lo2)]) (by kp_flats) fun oL S back => ?_
 refine w_call (ct_write S (r.deeper.mono (by kcf_m)) hb2 rr.1 rr.2 (by rw [List.length_append]; exact nZ (nA hz (nA len (nA wl.2 pdl))) (by kcf_m)) fun h t lo3 hb3 S => ?_)
 have F := back _ [(l, lo3)] _ (Le.refl _) S
 kso_len
 refine ⟨trivial, ?_⟩
 kd_p
 rw [← rh] at hb3
 have rl := rowHead_length (pw B) none (qs2.map (·.2.1)) out1
 have rl' : (rowHead (pw B) none (qs2.map (·.2.1)) out1).length ≤ out1.length + 32 := by rw [rl]; simp only [preOf]; exact nZ (nA wl.2 (nA wl.2 pdl)) (by kcf_m)
 generalize hH : rowHead (pw B) none (qs2.map (·.2.1)) out1 = H at *
 refine w_io_len (F.got (by kas_types)) hb3 (by kcf_m) ?_
 kd_p
 refine w_newtup F (n_le rfl) fun DC ka kao h leE eka hkt F => ?_
 have pa2 := pa2.mono leE
 have e5 := leE _ _ e5
 have tb2 := tb2.mono leE
 have leA := leA.trans leE
 kd_p
 refine w_for ?_
 kd_p
 refine w_pyiter_lst F e5 hl5 fun it own h itr hst F => ?_
 refine w_for_c (itr _ .name (.inl ⟨_, _, rfl⟩)) r.hn (fun i D' Φ => ∀ (upr : Option Value) (lo' : Obj), (IO (cells (pw B) ((qs2.take i).map fun q : Kp => q.2.1) H) lo') → Φ [(ofString "tree", some (.ref a)), (ofString "row", none), (ofString "bits", some (.int B tB)), (ofString "place", upl), (ofString "part", up), (ofString "pairs", some (.ref l5)), (ofString "key", uk), (ofString "pair", upr), (ofString "keys", some (.ref ka))] ((l, lo') :: (780, to2) :: rest)) F hst (fun ξ j => j _ _ hb3) (fun ξ ξ ξ ξ ξ q => q) ?_ ?_
 ·rintro i D9 own' v h t K0 k0 kr le9 hi hx upr lo4 hb4 F
  refine ek1_4 ((pa2.mono le9).at hx) fun q hq z1 hql etk => ?_; refine ek6_5 z1 fun pa pob s u2 tk pv z2 epa Tp es pvi => ?_; clear z1; obtain rfl := z2
  refine ek0_5 (o2 q (List.mem_of_getElem? hq)) fun ok1 ok2 ok3 ok4 ok5 => ?_
  have lc : (cells (pw B) ((qs2.take i).map fun q : Kp => q.2.1) H).length = H.length + pw B * i := by rw [cells_length, List.length_map, List.length_take, Nat.min_eq_left (Nat.le_of_lt hql)]
  have mle : pw B * i ≤ 8 * i := Nat.mul_le_mul_right _ wl.2
  refine w_asg_name ?_
  kd_p
  refine w_io_len (F.got (by kas_types)) hb4 (by kcf_m) ?_
  kd_p
  refine w_tt F epa Tp ?_
  kd_p
  refine F.outk (ps := [(l, lo4)]) (by kp_flats) fun oL S back => ?_
  refine w_call (ct_write S (r.deeper.mono (by kcf_m)) hb4 rr.1 rr.2 (by kcf_m) fun h t lo5 hb5 S => ?_)
  have F := back _ [(l, lo5)] _ (Le.refl _) S
  refine ⟨trivial, ?_⟩
  kd_p
  refine k0 D9 _ _ _ _ (Le.refl _) (fun ξ j => j _ lo5 ?_) F
  rw [etk, List.map_append, List.map_cons, List.map_nil, cells_append, cell_far (by rw [ok2]; rfl)]
  exact hb5
 rintro D9 h t le9 upr lo4 hb4 F
 rw [ol, List.take_length] at hb4
 rw [← v1] at hb4
 have pa2 := pa2.mono le9
 have e5 := le9 _ _ e5
 have eka := le9 _ _ eka
 have tb2 := tb2.mono le9
 have leA := leA.trans le9
 refine q0 _ _ _ ?_
 clear q0
 kd_p
 refine w_listcomp F ?_ (ns := [ofString "pair"]) (gn := []) (cn := []) (by kernel_rfl)
 kd_p
 refine w_pyiter_lst F e5 hl5 fun it own h itr hst F => ?_
 refine w_comp_it (itr _ .name (.inl ⟨_, _, rfl⟩)) r.hn F hst [ofString "pair"] [] [] (by kernel_rfl) trivial .nil (nZ (nA (Nat.le_of_eq sz.symm) (nA h5 (nA (Nat.le_of_eq sl) (Nat.le_of_eq ol)))) (by kcf_m))
  (fun i D' ys news' => news' = (l, lo4) :: (780, to2) :: rest ∧ PartsAre D' ys ((qs2.take i).map fun q : Kp => q.2.2)) ⟨rfl, rfl, fun i v p h => by simp at h⟩ (fun i D D' ys news l z => ek0_2 z fun a1 a2 => ⟨a1, a2.mono l⟩) ?_ ?_
 ·intro cenv i DE zs news' own' uu v h t leF hi y1; refine ek0_2 y1 fun z1 pz => ?_; clear y1; obtain rfl := z1; intro hx F
  dsimp only [List.map] at F
  refine ek1_4 ((pa2.mono leF).at hx) fun q hq z1 hql etk => ?_; refine ek6_5 z1 fun pa pob s u2 tk pv z2 epa Tp es pvi => ?_; clear z1; obtain rfl := z2
  refine w_asg_name ?_
  kd_p
  refine w_tests_nil ?_
  refine Br.tt ?_
  kd_p
  refine w_tt F epa Tp ?_
  refine ⟨Le.refl _, rfl, ⟨rfl, ?_⟩, F⟩
  rw [etk, List.map_append]
  exact snoc_all pz pvi
 intro DE zs news' acc2 oa2 h t leF y1; refine ek0_2 y1 fun z1 pz => ?_; clear y1; obtain rfl := z1; intro hla F
 rw [ol, List.take_length] at pz
 refine F.frzk fun DF leG ea2 F => ?_
 have leH := leF.trans leG
 have eka := leH _ _ eka
 have tb2 := tb2.mono leH
 have leA := leA.trans leH
 kd_p
 rw [v2] at mo vo
 have b2l : (vecOut true force none (qs2.map (·.2.1)) out1).1.length ≤ out1.length + 100 := by kcf_m
 refine F.outk (ps := [(l, lo4)]) (by kp_flats) fun oL S back => ?_
 refine w_call (ct_lrow (ky := .s _ ⟨14, H.length, B⟩) S (r.deeper.mono (by kcf_m)) hb4 ea2 hla (pz.mono leG) f0 f1 okp (fun p hp hi => ?_) ⟨_, _, _, eka, hkt, vo, (show (3 : Int) < 14 ∧ (14 : Int) ≠ 26 by decide), by rw [v2] at vp; exact vp⟩ (by rw [List.length_map]; kcf_m) fun h t DG lo6 v leI hb6 pv S => ?_)
 ·refine ek1_2 (List.mem_map.mp hp) fun q hq z1 => ?_; obtain rfl := z1
  have := (o2 q hq).2.2.2.2 hi
  have := xv.len
  kcf_m
 have F := back _ [(l, lo6)] _ leI S
 kso_len
 kd_p
 exact k _ _ DG lo6 _ v (leA.trans leI) (tb2.mono leI) (by rw [mo]; exact hb6) (by rw [mo]; exact pv) F.sc
end
end
section
theorem ct_Lay {γ : G} {l : Addr} {force : Int} (f0 : 0 ≤ force) (f1 : force ≤ 3) : ∀ n, LayAt γ l force n := by
 have leaf : ∀ n, (∀ m, n = m + 1 → LayAt γ l force m) → LayAt γ l force n := by
  intro n sub A D rest h t R out lo to tr v tf S r bm tb hb ok g hz k
  have r4 : Room A 4 := r.mono (Nat.le_add_right _ _)
  cases tr with
  | none =>
   have g := tre0.mp g
   refine ek3_3 g fun a o tt z1 e1 e2 => ?_; clear g; obtain rfl := z1
   exact lay_none S r4 tb hb e1 e2 (by rw [lay0] at k; exact k)
  | truth b =>
   have g := tre1.mp g
   refine ek3_3 g fun a o tt z1 e1 e2 => ?_; clear g; obtain rfl := z1
   exact lay_truth S r4 tb hb e1 e2 (by rw [lay1] at k; exact k)
  | num m =>
   have g := tre2.mp g
   refine ek4_3 g fun a o tt u z1 e1 e2 => ?_; clear g; obtain rfl := z1
   have ok := ok2.mp ok
   exact lay_num S r4 tb hb e1 e2 ok.1 ok.2 (by rw [lay2] at k; exact k)
  | text bs =>
   have g := tre3.mp g
   refine ek7_9 g fun a o tt l2 lo2 ks kvs z1 e1 e2 e3 e4 e5 e6 e7 e8 => ?_; clear g; obtain rfl := z1
   have ok := ok3.mp ok
   exact lay_text S r4 tb hb e1 e2 e3 e4 e5 e6 e7 e8 ok (le_a hz (Nat.le_refl _)) (by rw [lay3] at k; exact k)
  | oct bs =>
   have g := tre4.mp g
   refine ek5_6 g fun a o tt l2 lo2 z1 e1 e2 e3 e4 e5 => ?_; clear g; obtain rfl := z1
   have ok := ok4.mp ok
   exact lay_octets S r4 tb hb e1 e2 e3 e4 ok (le_a hz (Nat.le_refl _)) (by rw [lay4] at k; exact k)
  | row ts =>
   cases n with
   | zero => exact ok.elim
   | succ n =>
    refine ek6_7 g fun a o tt l2 lo2 items z1 e1 e2 e3 e4 e5 e6 => ?_; clear g; obtain rfl := z1
    exact lay_row (sub n rfl) S (r.mono (by kcf_m)) f0 f1 bm tb hb e1 e2 e3 e4 e5 ok.1 ok.2 e6 hz k
  | map ts =>
   cases n with
   | zero => exact ok.elim
   | succ n =>
    refine ek6_7 g fun a o tt l2 lo2 items z1 e1 e2 e3 e4 e5 e6 => ?_; clear g; obtain rfl := z1
    exact lay_map (sub n rfl) S (r.mono (by kcf_m)) f0 f1 bm tb hb e1 e2 e3 e4 e5 ok e6 hz k
 intro n
 induction n with
 | zero => exact leaf 0 fun m h => absurd h (by kcf_m)
 | succ n ih => exact leaf (n + 1) fun m h => by cases h; exact ih
theorem little_one {x : Int} (h0 : 0 ≤ x) (h1 : x < 256) : KTBy.little 1 x = [x] := by
 show [x % 256] = [x]
 rw [Int.emod_eq_of_lt h0 h1]
section
variable {γ : G} {A : Around} {D : Dm} {env : Env} {gl cl : List (Str × Value)} {vars : List (Str × Option Value)} {news rest : List (Addr × Obj)} {h : Heap} {t : Nat} {R : Value → Heap → Nat → Prop} {to : Obj} {force : Int} {tf : Tok}
theorem ct_wholebuf {n : Nat} {tr : Tree} {v : Value} (f0 : 0 ≤ force) (f1 : force ≤ 3) (S : SC γ D ((780, to) :: rest) h) (r : Room A (6 + n)) (bm : BM D) (tb : TabIs D 620 30 layQ to) (ok : Ok n tr) (g : TreeIn n D tr v) (hz : 1000 * nodes n tr ≤ 60000)
  (k : ∀ h t D' to' a o u b lo, Le D D' → TabIs D' 620 30 layQ to' → D' a = some o → TupO [.int ((lay force n tr []).1.length : Nat) u, .ref b] o → D' b = some lo → IO (finOut (lay force n tr []).2 (lay force n tr []).1) lo → SC γ D' ((780, to') :: rest) h → R (.ref a) h t) :
  WC γ A (.call (.ref 804) ⟨[v, .int force tf], []⟩) R h t := by
 have r : Room A (5 + n + 1) := r.mono (by kcf_m)
 refine' w_enter S ?ho ?hcd r.lt [(ofString "tree", v), (ofString "force", .int force tf)] [ofString "out", ofString "root", ofString "ahead", ofString "bits"] [(ofString "_law_lay", .ref 783), (ofString "len", .builtin "len"), (ofString "_law_inline", .ref 790), (ofString "_law_far", .ref 778), (ofString "_law_pad", .ref 771), (ofString "_law_write", .ref 764)] ?hb ?ok (globs (by kernel_rfl)) ?_
 kd_facts1
 kd_adr
 kd_p
 refine w_newlist F (n_le rfl) fun l lo h hl0 F => ?_
 kd_p
 have LO := lay_ok f0 f1 n tr [] ok
 refine F.outk (ps := [(l, lo), (780, to)]) (by kp_flats) fun oL S back => ?_
 refine w_call (ct_Lay f0 f1 n S (r.deeper.mono (by kcf_m)) bm tb ⟨[], .nil, hl0⟩ ok g (by simpa using hz) fun h t D1 lo1 to1 vr le1 tb1 hb1 pv S => ?_)
 have F := back _ [(l, lo1), (780, to1)] _ le1 S
 kso_len
 clear back
 have hlen := LO.len
 have okp := LO.ok
 have pl := LO.place
 simp only [List.length_nil] at hlen
 generalize (lay force n tr []).1 = out at *
 generalize (lay force n tr []).2 = p at *
 refine ek5_3 (id pv) fun pa po q1 q2 q3 z1 ep Tp => ?_; obtain rfl := z1
 kd_p
 refine w_io_len (F.got (by kas_types)) hb1 (nZ (nA hz hlen) (by kcf_m)) ?_
 kd_p
 kqd_sub
 refine ct_linline S (r.deeper.mono (by kcf_m)) pv okp fun h t S => ?_
 krn_off
 have er := p.el_range okp out.length 0
 have wr := p.w_range okp
 have tr' := p.ty_range okp
 have wl := pw_le er.1 er.2
 have pdl := padN_length out.length (show 0 < pw (p.el out.length 0) by exact wl.1)
 have fin : finOut p out = (out ++ padN out.length (pw (p.el out.length 0))) ++ cell (pw (p.el out.length 0)) (out ++ padN out.length (pw (p.el out.length 0))).length p ++ [4 * p.ty + p.w] ++ [(pw (p.el out.length 0) : Int)] := by
  unfold finOut
  rw [little_one (iZ (iA wr.1 (iA tr'.1 (iA tr'.1 (iA tr'.1 tr'.1)))) (by kcf_m)) (iL (iA wr.2 (iA tr'.2 (iA tr'.2 (iA tr'.2 tr'.2)))) (by kcf_m)), little_one (Int.natCast_nonneg _) (Int.lt_of_le_of_lt (Int.ofNat_le.mpr wl.2) (by decide))]
 rw [fin] at k
 clear fin
 have l1 : (out ++ padN out.length (pw (p.el out.length 0))).length ≤ out.length + 8 := by rw [List.length_append]; exact nZ (nA wl.2 pdl) (by kcf_m)
 kd_p
 refine F.joinc (Q0 := Q0) (fun Φ => ∀ ta tb2, Φ D1 [(ofString "tree", some v), (ofString "force", some (.int force tf)), (ofString "out", some (.ref l)), (ofString "root", some (.ref pa)), (ofString "ahead", some (.int out.length ta)), (ofString "bits", some (.int (p.el out.length 0) tb2))] ((l, lo1) :: (780, to1) :: rest)) (fun j => ?_) fun h t ta tb2 F => ?_
 ·clear q0 k
  refine Br.fm (fun hin => ?_) fun hin => ?_
  ·have pv0 : 0 ≤ p.v := p.v0 okp hin
   kd_p
   refine w_tt F ep Tp ?_
   kd_p
   refine F.outk (ps := [(l, lo1)]) (by kp_flats) fun oL S back => ?_
   refine w_call (ct_lfar S (r.deeper.mono (by kcf_m)) hb1 pv0 (pl hin) (Int.natCast_nonneg _) (cL (out.length + 2 * 0 + 2) (65536) (nL (nA hz hlen) (by kcf_m))) fun h t tk S => ?_)
   have F := back _ [(l, lo1)] _ (Le.refl _) S
   kso_len
   rw [← el_far hin]
   kd_p
   exact j _ _ _ _ F
  ·kd_p
   refine w_tt F ep Tp ?_
   rw [← el_inl hin out.length 0]
   kd_p
   exact j _ _ _ _ F
 refine q0 _ _ _ ?_
 clear q0 Q0
 kd_p
 refine F.outk (ps := [(l, lo1)]) (by kp_flats) fun oL S back => ?_
 refine w_call (ct_pad S (r.deeper.mono (by kcf_m)) hb1 er.1 er.2 (nZ (nA hz hlen) (by kcf_m)) fun h t lo2 hb2 S => ?_)
 have F := back _ [(l, lo2)] _ (Le.refl _) S
 kso_len
 refine ⟨trivial, ?_⟩
 kd_p
 kqd_sub
 refine ct_linline S (r.deeper.mono (by kcf_m)) pv okp fun h t S => ?_
 krn_off
 kd_p
 refine F.joinc (Q0 := Q0) (fun Φ => ∀ lo3, IO ((out ++ padN out.length (pw (p.el out.length 0))) ++ cell (pw (p.el out.length 0)) (out ++ padN out.length (pw (p.el out.length 0))).length p) lo3 → Φ D1 [(ofString "tree", some v), (ofString "force", some (.int force tf)), (ofString "out", some (.ref l)), (ofString "root", some (.ref pa)), (ofString "ahead", some (.int out.length ta)), (ofString "bits", some (.int (p.el out.length 0) tb2))] ((l, lo3) :: (780, to1) :: rest)) (fun j => ?_) fun h t lo3 hb3 F => ?_
 ·clear q0 k
  refine Br.fm (fun hin => ?_) fun hin => ?_
  ·kd_p
   refine w_io_len (F.got (by kas_types)) hb2 (nZ (nA hz (nA hlen l1)) (by kcf_m)) ?_
   kd_p
   refine w_tt F ep Tp ?_
   kd_p
   refine F.outk (ps := [(l, lo2)]) (by kp_flats) fun oL S back => ?_
   refine w_call (ct_write S (r.deeper.mono (by kcf_m)) hb2 er.1 er.2 (by kcf_m) fun h t lo3 hb3 S => ?_)
   have F := back _ [(l, lo3)] _ (Le.refl _) S
   kso_len
   refine ⟨trivial, ?_⟩
   rw [← cell_far hin] at hb3
   kd_p
   exact j _ _ _ hb3 F
  ·kd_p
   refine w_tt F ep Tp ?_
   kd_p
   refine F.outk (ps := [(l, lo2)]) (by kp_flats) fun oL S back => ?_
   refine w_call (ct_write S (r.deeper.mono (by kcf_m)) hb2 er.1 er.2 (by kcf_m) fun h t lo3 hb3 S => ?_)
   have F := back _ [(l, lo3)] _ (Le.refl _) S
   kso_len
   refine ⟨trivial, ?_⟩
   rw [← cell_inl hin (out ++ padN out.length (pw (p.el out.length 0))).length] at hb3
   kd_p
   exact j _ _ _ hb3 F
 have lc : (cell (pw (p.el out.length 0)) (out ++ padN out.length (pw (p.el out.length 0))).length p).length = pw (p.el out.length 0) := by unfold cell; exact KTBy.little_length _ _
 refine q0 _ _ _ ?_
 clear q0 Q0
 kd_p
 refine w_io_getm PySem.F.slot_list_append PySem.F.type_list_append (F.got (by kas_types)) hb3 ?_
 kd_p
 refine w_tt F ep Tp ?_
 kd_p
 refine i_mul (IntMulOk.of_left (by decide)) ?_
 kd_p
 refine w_tt F ep Tp ?_
 kd_p
 refine w_io_append F (by kas_types) hb3 (by rw [List.length_append, lc]; exact nZ (nA hz (nA hlen (nA wl.2 l1))) (by kcf_m)) fun lo4 h hb4 F => ?_
 refine ⟨trivial, ?_⟩
 kd_p
 refine w_io_getm PySem.F.slot_list_append PySem.F.type_list_append (F.got (by kas_types)) hb4 ?_
 kd_p
 refine i_shl er.1 (Int.le_trans er.2 (by decide)) (by decide) ?_
 kd_p
 refine (pw_eq er.1).symm ▸ ?_
 refine w_io_append F (by kas_types) hb4 (by rw [List.length_append, List.length_append, lc]; simp; exact nZ (nA hz (nA hlen (nA wl.2 (nA wl.2 pdl)))) (by kcf_m)) fun lo5 h hb5 F => ?_
 refine ⟨trivial, ?_⟩
 kd_p
 refine F.frzk fun D2 le2 el2 F => ?_
 refine w_newtup F (n_le rfl) fun D3 rt ro h le3 er3 hT F => ?_
 kd_p
 exact k _ _ D3 to1 rt ro _ l _ ((le1.trans le2).trans le3) (tb1.mono (le2.trans le3)) er3 hT (le3 _ _ el2) hb5 F.sc
end
end
section
theorem TapeO.mono {ns : List Int} {k : Nat} {D D' : Dm} {o : Obj} (x : TapeO ns k D o) (l : Le D D') : TapeO ns k D' o := ek4_3 x fun rw tk ro vs a b c => ⟨rw, tk, ro, vs, a, l _ _ b, c⟩
noncomputable def TapeE (ns : List Int) (D : Dm) (o : Obj) : Prop := ∃ k, TapeO ns k D o
theorem TapeE.mono {ns : List Int} {D D' : Dm} {o : Obj} (x : TapeE ns D o) (l : Le D D') : TapeE ns D' o := ek1_1 x fun k y => ⟨k, y.mono l⟩
noncomputable def RoomO (a b : Int) (o : Obj) : Prop := ∃ ta tb, LsO [.int a ta, .int b tb] o
theorem pick4 {a b c d : Value} {o : Obj} {x : Int} (hL : LstO [a, b, c, d].toArray o) (P : Value → Prop) (ha : P a) (hb : P b) (hc : P c) (hd : P d) (h0 : 0 ≤ x) (h4 : x < 4) : ∃ v, [a, b, c, d][x.toNat]? = some v ∧ P v := by
 obtain ⟨j, rfl⟩ : ∃ j : Nat, x = j := ⟨x.toNat, by exact (Int.toNat_of_nonneg h0).symm⟩
 have hj : j < 4 := Int.ofNat_lt.mp h4
 rw [Int.toNat_natCast]
 match j, hj with
 | 0, _ => exact ⟨a, rfl, ha⟩
 | 1, _ => exact ⟨b, rfl, hb⟩
 | 2, _ => exact ⟨c, rfl, hc⟩
 | 3, _ => exact ⟨d, rfl, hd⟩
section
variable {γ : G} {A : Around} {D : Dm} {env : Env} {gl cl : List (Str × Value)} {vars : List (Str × Option Value)} {news rest : List (Addr × Obj)} {h : Heap} {t : Nat} {R : Value → Heap → Nat → Prop} {tp rm : Addr} {tpo rmo : Obj} {ns : List Int}
theorem ct_nextE (S : SC γ D ((tp, tpo) :: rest) h) (r : Room A 1) (T : TapeE ns D tpo)
  (kk : ∀ h t x tk o', TapeE ns D o' → SC γ D ((tp, o') :: rest) h → R (.int x tk) h t) : WC γ A (.call (.ref 711) ⟨[.ref tp], []⟩) R h t := by
 obtain ⟨k, T⟩ := T
 exact ct_next S r T fun h t tk o' T S => kk h t _ tk o' ⟨_, T⟩ S
theorem ct_lwhole (S : SC γ D ((tp, tpo) :: rest) h) (r : Room A 2) (T : TapeE ns D tpo)
  (k : ∀ h t D' m tk o', Le D D' → -9223372036854775808 ≤ m → m < 9223372036854775808 → TapeE ns D' o' → SC γ D' ((tp, o') :: rest) h → R (.int m tk) h t) : WC γ A (.call (.ref 718) ⟨[.ref tp], []⟩) R h t := by
 refine' w_enter S ?ho ?hcd r.lt [(ofString "tape", .ref tp)] [ofString "bits", ofString "number", ofString "pick"] [(ofString "_law_next", .ref 711)] ?hb ?ok (globs (by kernel_rfl)) ?_
 kd_facts1
 kd_adr
 kd_p
 refine w_newlist F (n_le rfl) fun l0 lo h hl0 F => ?_
 refine F.frzk fun D1 le1 ea F => ?_
 have T := T.mono le1
 kd_p
 refine F.outk (ps := [(tp, tpo)]) (by kp_flats) fun oL S back => ?_
 refine w_call (ct_nextE S (r.deeper.mono (by kcf_m)) T fun h t x1 tk1 tpo1 T S => ?_)
 have F := back _ [(tp, tpo1)] _ (Le.refl _) S
 try kso_len
 kd_p
 refine i_mod (by decide) ?_
 have b1a := Int.emod_nonneg x1 (show (4 : Int) ≠ 0 by decide)
 have b1b := Int.emod_lt_of_pos x1 (show (0 : Int) < 4 by decide)
 kd_p
 refine ek1_2 (pick4 (x := x1 % 4) hl0 (fun v => ∃ b tb, v = .int b tb ∧ (b = 8 ∨ b = 16 ∨ b = 32 ∨ b = 64)) ⟨_, _, rfl, .inl rfl⟩ ⟨_, _, rfl, .inr (.inl rfl)⟩ ⟨_, _, rfl, .inr (.inr (.inl rfl))⟩ ⟨_, _, rfl, .inr (.inr (.inr rfl))⟩ b1a b1b) fun v hv z1 => ?_; refine ek2_2 z1 fun b tb z2 hb => ?_; clear z1; obtain rfl := z2
 have hP : ∃ H : Int, (1 : Int) * 2 ^ (b - 1).toNat = H ∧ (1 : Int) * 2 ^ b.toNat = 2 * H ∧ 1 ≤ H ∧ H ≤ 9223372036854775808 ∧ 2 * H ≠ 0 ∧ 0 ≤ b - 1 ∧ b - 1 ≤ 1000000 ∧ 0 ≤ b ∧ b ≤ 1000000 := by
  rcases hb with rfl | rfl | rfl | rfl <;> exact ⟨_, rfl, by decide⟩
 refine ek1_4 hP fun H eH eP H1 z => ?_; refine ek0_2 z fun H2 hz => ?_; clear hP z
 refine w_tail_list (F.sc.keep _ _ ea) hl0.ls b1a (x := .int b tb) hv (Int.lt_of_lt_of_le (Int.emod_lt_of_pos _ (by decide)) (by decide)) ?_ (by with_unfolding_all rfl)
 kd_p
 refine F.outk (ps := [(tp, tpo1)]) (by kp_flats) fun oL S back => ?_
 refine w_call (ct_nextE S (r.deeper.mono (Nat.le_refl _)) T fun h t x2 tk2 tpo2 T S => ?_)
 have F := back _ [(tp, tpo2)] _ (Le.refl _) S
 try kso_len
 kd_p
 refine i_shl hz.2.2.2.1 hz.2.2.2.2 (by decide) ?_
 refine eP.symm ▸ ?_
 kd_p
 have hp : (0 : Int) < 2 * H := iL (iA H1 H1) (by kcf_m)
 refine i_mod hp ?_
 have b2a := Int.emod_nonneg x2 hz.1
 have b2b := Int.emod_lt_of_pos x2 hp
 kd_p
 refine i_shl hz.2.1 hz.2.2.1 (by decide) ?_
 refine eH.symm ▸ ?_
 kd_p
 refine F.outk (ps := [(tp, tpo2)]) (by kp_flats) fun oL S back => ?_
 refine w_call (ct_nextE S (r.deeper.mono (Nat.le_refl _)) T fun h t x3 tk3 tpo3 T S => ?_)
 have F := back _ [(tp, tpo3)] _ (Le.refl _) S
 try kso_len
 kd_p
 refine i_mod (by decide) ?_
 have b3a := Int.emod_nonneg x3 (show (6 : Int) ≠ 0 by decide)
 have b3b := Int.emod_lt_of_pos x3 (show (0 : Int) < 6 by decide)
 kd_p
 refine ⟨fun hc => ?_, fun hc => ?_⟩
 ·kd_p
  refine i_shl hz.2.1 hz.2.2.1 (by decide) ?_
  refine eH.symm ▸ ?_
  kd_p
  exact k _ _ D1 _ _ _ le1 (iZ H1 (by kcf_m)) (iL H2 (by kcf_m)) T F.sc
 kd_p
 refine ⟨fun hc => ?_, fun hc => ?_⟩
 ·kd_p
  refine i_shl hz.2.1 hz.2.2.1 (by decide) ?_
  refine eH.symm ▸ ?_
  kd_p
  exact k _ _ D1 _ _ _ le1 (iZ H2 (by kcf_m)) (iL H1 (by kcf_m)) T F.sc
 kd_p
 exact k _ _ D1 _ _ _ le1 (iZ (iA H2 b2a) (by kcf_m)) (iL (iA H2 b2b) (by kcf_m)) T F.sc
theorem ct_lplaces {a b : Int} (S : SC γ D ((tp, tpo) :: (rm, rmo) :: rest) h) (r : Room A 2) (T : TapeE ns D tpo) (RO : RoomO a b rmo)
  (k : ∀ h t D' tpo' rmo' b' l lo ks kvs, Le D D' → TapeE ns D' tpo' → RoomO a b' rmo' → D' l = some lo → LstO kvs.toArray lo → IntsAre kvs (nInts ks) → (∀ k ∈ ks, k < 8) → ks.length ≤ 257 → SC γ D' ((tp, tpo') :: (rm, rmo') :: rest) h → R (.ref l) h t) : WC γ A (.call (.ref 723) ⟨[.ref tp, .ref rm], []⟩) R h t := by
 refine' w_enter_c S ?ho ?hcd r.lt [(ofString "tape", .ref tp), (ofString "room", .ref rm)] [(ofString "room", .ref rm)] [] [(ofString "tape", .ref tp)] [(ofString "_law_next", .ref 711), (ofString "range", .type "range")] ?hb ?hlb ?hcl ?ok (globs (by kernel_rfl)) ?_
 case ho => k_is
 case hcd => k_is
 case hb => with_unfolding_all rfl
 case hlb => exact .cons (by tb_start) .nil
 case hcl => exact .cons (by tb_start) .nil
 case ok => kernel_rfl
 clear S
 intro env D1 h t le1 F
 dsimp only [mkV, List.map, List.cons_append, List.nil_append] at F
 have sz : sizeLine = 16777216 := sizeLine_eq
 have T := T.mono le1
 refine ek2_1 (id RO) fun ta tb hro => ?_
 kd_p
 refine w_tail_list (F.got (by kas_types)) hro (by decide) (x := .int b tb) rfl (by decide) ?_ (by with_unfolding_all rfl)
 kd_p
 refine ⟨fun hc => ?_, fun hc => ?_⟩
 ·kd_p
  refine F.outk (ps := [(tp, tpo)]) (by kp_flats) fun oL S back => ?_
  refine w_call (ct_nextE S (r.deeper.mono (Nat.le_refl _)) T fun h t x1 tk1 tpo1 T S => ?_)
  have F := back _ [(tp, tpo1)] _ (Le.refl _) S
  try kso_len
  kd_p
  refine i_mod (by decide) ?_
  have b1a := Int.emod_nonneg x1 (show (3 : Int) ≠ 0 by decide)
  have b1b := Int.emod_lt_of_pos x1 (show (0 : Int) < 3 by decide)
  kd_p
  refine ⟨fun hc2 => ?_, fun hc2 => ?_⟩
  ·kd_p
   refine Br.tt ?_
   kd_p
   refine w_tail_list (F.got (by kas_types)) hro (by decide) (x := .int b tb) rfl (by decide) ?_ (by with_unfolding_all rfl)
   kd_p
   refine w_setitem F (by kas_types) hro (by decide) (by simp) (by decide) fun rmo2 h hro2 F => ?_
   have RO2 : RoomO a (b - 1) rmo2 := ⟨_, _, hro2⟩
   kd_p
   refine F.outk (ps := [(tp, tpo1)]) (by kp_flats) fun oL S back => ?_
   refine w_call (ct_nextE S (r.deeper.mono (Nat.le_refl _)) T fun h t x2 tk2 tpo2 T S => ?_)
   have F := back _ [(tp, tpo2)] _ (Le.refl _) S
   try kso_len
   kd_p
   refine i_mod (by decide) ?_
   have b2a := Int.emod_nonneg x2 (show (6 : Int) ≠ 0 by decide)
   have b2b := Int.emod_lt_of_pos x2 (show (0 : Int) < 6 by decide)
   kd_p
   refine w_newlist F (n_le rfl) fun l0 lo h hl0 F => ?_
   refine F.frzk fun D2 le2 e2 F => ?_
   have T := T.mono le2
   kd_p
   refine F.outk (ps := [(tp, tpo2)]) (by kp_flats) fun oL S back => ?_
   refine w_call (ct_nextE S (r.deeper.mono (Nat.le_refl _)) T fun h t x3 tk3 tpo3 T S => ?_)
   have F := back _ [(tp, tpo3)] _ (Le.refl _) S
   try kso_len
   kd_p
   refine i_mod (by decide) ?_
   have b3a := Int.emod_nonneg x3 (show (10 : Int) ≠ 0 by decide)
   have b3b := Int.emod_lt_of_pos x3 (show (0 : Int) < 10 by decide)
   kd_p
   obtain ⟨kk, hkk, ek⟩ : ∃ kk : Nat, kk < 8 ∧ x2 % 6 = kk := ⟨(x2 % 6).toNat, by kcf_m, by exact (Int.toNat_of_nonneg b2a).symm⟩
   refine w_mul_list F (F.sc.keep _ _ e2) hl0 (iZ b3a (by kcf_m)) (by simp; kcf_m) (by kcf_m) fun l1 lo1 h hl1 F => ?_
   refine F.frzk fun D3 le3 e3 F => ?_
   kd_p
   rw [ek] at hl1
   refine k _ _ D3 _ _ (b - 1) _ _ (List.replicate (248 + x3 % 10).toNat kk) _ ((le1.trans le2).trans le3) (T.mono le3) RO2 e3 hl1 ?_ (fun q hq => by rw [List.eq_of_mem_replicate hq]; exact hkk) (by simp; kcf_m) F.sc
   rw [show nInts (List.replicate (248 + x3 % 10).toNat kk) = (List.replicate (248 + x3 % 10).toNat [(kk : Int)]).flatten by unfold nInts; simp]
   exact ints_rep (IntsAre.cons (kk : Int) _ .nil) _
  ·refine Br.ff ?_
   kd_p
   refine w_listcomp F ?_ (ns := [ofString "k"]) (gn := [ofString "_law_next"]) (cn := [ofString "tape"]) (by kernel_rfl)
   kd_p
   refine F.outk (ps := [(tp, tpo1)]) (by kp_flats) fun oL S back => ?_
   refine w_call (ct_nextE S (r.deeper.mono (Nat.le_refl _)) T fun h t x4 tk4 tpo4 T S => ?_)
   have F := back _ [(tp, tpo4)] _ (Le.refl _) S
   try kso_len
   kd_p
   refine i_mod (by decide) ?_
   have b4a := Int.emod_nonneg x4 (show (5 : Int) ≠ 0 by decide)
   have b4b := Int.emod_lt_of_pos x4 (show (0 : Int) < 5 by decide)
   kd_p
   obtain ⟨n, hn, en⟩ : ∃ n : Nat, n ≤ 4 ∧ x4 % 5 = n := ⟨(x4 % 5).toNat, by kcf_m, by exact (Int.toNat_of_nonneg b4a).symm⟩
   refine en.symm ▸ ?_
   refine w_call_range F fun D2 ra h t le2 hr F => ?_
   refine w_pyiter_range F hr (by kcf_m) fun it own h hst F => ?_
   have T := T.mono le2
   refine w_comp_it iter_range r.hn F hst [ofString "k"] [(ofString "_law_next", .ref 711)] [(ofString "tape", .ref tp)] (by kernel_rfl) (globs (by kernel_rfl)) (.cons (by tb_start) .nil) (by kcf_m)
    (fun i D' ys news' => ∃ (o' : Obj) (ks : List Nat), news' = (tp, o') :: (rm, rmo) :: rest ∧ TapeE ns D' o' ∧ IntsAre ys (nInts ks) ∧ ks.length = i ∧ ∀ k ∈ ks, k < 8) ⟨_, [], rfl, T, .nil, rfl, fun k hk => nomatch hk⟩ (fun i D D' ys news l ⟨o', ks, a1, a2, a3⟩ => ⟨o', ks, a1, a2.mono l, a3⟩) ?_ ?_
   ·intro cenv i D3 ys news' own' uu v h t le3 hi y1; refine ek2_5 y1 fun tpo9 ks z1 T i1 i2 i3 => ?_; clear y1; obtain rfl := z1; intro y2; refine ek1_1 y2 fun tkk z2 => ?_; clear y2; obtain rfl := z2; intro F
    dsimp only [List.map] at F
    refine w_asg_name ?_
    kd_p
    refine w_tests_nil ?_
    refine Br.tt ?_
    kd_p
    refine F.outk (ps := [(tp, tpo9)]) (by kp_flats) fun oL S back => ?_
    refine w_call (ct_nextE S (r.deeper.mono (Nat.le_refl _)) T fun h t x9 tk9 tpo9 T S => ?_)
    have F := back _ [(tp, tpo9)] _ (Le.refl _) S
    try kso_len
    kd_p
    refine i_mod (by decide) ?_
    have b9a := Int.emod_nonneg x9 (show (8 : Int) ≠ 0 by decide)
    have b9b := Int.emod_lt_of_pos x9 (show (0 : Int) < 8 by decide)
    kd_p
    obtain ⟨kk, hkk, ek⟩ : ∃ kk : Nat, kk < 8 ∧ x9 % 8 = kk := ⟨(x9 % 8).toNat, by kcf_m, by exact (Int.toNat_of_nonneg b9a).symm⟩
    refine ek.symm ▸ ?_
    refine ⟨Le.refl _, rfl, ⟨_, ks ++ [kk], rfl, T, ?_, by simp [i2], ?_⟩, F⟩
    ·unfold nInts; rw [List.map_append]; exact ksk_snoc i1
    ·intro q hq
     rcases List.mem_append.mp hq with hq | hq
     ·exact i3 q hq
     ·rw [List.mem_singleton] at hq; kcf_m
   intro D3 ys news' acc o h t le3 y1; refine ek2_5 y1 fun tpo9 ks z1 T i1 i2 i3 => ?_; clear y1; obtain rfl := z1; intro hl3 F
   refine F.frzk fun D4 le4 e4 F => ?_
   kd_p
   exact k _ _ D4 _ _ b _ _ ks ys ((le1.trans le2).trans (le3.trans le4)) (T.mono le4) RO e4 hl3 i1 i3 (by kcf_m) F.sc
 ·refine Br.ff ?_
  kd_p
  refine w_listcomp F ?_ (ns := [ofString "k"]) (gn := [ofString "_law_next"]) (cn := [ofString "tape"]) (by kernel_rfl)
  kd_p
  refine F.outk (ps := [(tp, tpo)]) (by kp_flats) fun oL S back => ?_
  refine w_call (ct_nextE S (r.deeper.mono (Nat.le_refl _)) T fun h t x4 tk4 tpo4 T S => ?_)
  have F := back _ [(tp, tpo4)] _ (Le.refl _) S
  try kso_len
  kd_p
  refine i_mod (by decide) ?_
  have b4a := Int.emod_nonneg x4 (show (5 : Int) ≠ 0 by decide)
  have b4b := Int.emod_lt_of_pos x4 (show (0 : Int) < 5 by decide)
  kd_p
  obtain ⟨n, hn, en⟩ : ∃ n : Nat, n ≤ 4 ∧ x4 % 5 = n := ⟨(x4 % 5).toNat, by kcf_m, by exact (Int.toNat_of_nonneg b4a).symm⟩
  refine en.symm ▸ ?_
  refine w_call_range F fun D2 ra h t le2 hr F => ?_
  refine w_pyiter_range F hr (by kcf_m) fun it own h hst F => ?_
  have T := T.mono le2
  refine w_comp_it iter_range r.hn F hst [ofString "k"] [(ofString "_law_next", .ref 711)] [(ofString "tape", .ref tp)] (by kernel_rfl) (globs (by kernel_rfl)) (.cons (by tb_start) .nil) (by kcf_m)
   (fun i D' ys news' => ∃ (o' : Obj) (ks : List Nat), news' = (tp, o') :: (rm, rmo) :: rest ∧ TapeE ns D' o' ∧ IntsAre ys (nInts ks) ∧ ks.length = i ∧ ∀ k ∈ ks, k < 8) ⟨_, [], rfl, T, .nil, rfl, fun k hk => nomatch hk⟩ (fun i D D' ys news l ⟨o', ks, a1, a2, a3⟩ => ⟨o', ks, a1, a2.mono l, a3⟩) ?_ ?_
  ·intro cenv i D3 ys news' own' uu v h t le3 hi y1; refine ek2_5 y1 fun tpo9 ks z1 T i1 i2 i3 => ?_; clear y1; obtain rfl := z1; intro y2; refine ek1_1 y2 fun tkk z2 => ?_; clear y2; obtain rfl := z2; intro F
   dsimp only [List.map] at F
   refine w_asg_name ?_
   kd_p
   refine w_tests_nil ?_
   refine Br.tt ?_
   kd_p
   refine F.outk (ps := [(tp, tpo9)]) (by kp_flats) fun oL S back => ?_
   refine w_call (ct_nextE S (r.deeper.mono (Nat.le_refl _)) T fun h t x9 tk9 tpo9 T S => ?_)
   have F := back _ [(tp, tpo9)] _ (Le.refl _) S
   try kso_len
   kd_p
   refine i_mod (by decide) ?_
   have b9a := Int.emod_nonneg x9 (show (8 : Int) ≠ 0 by decide)
   have b9b := Int.emod_lt_of_pos x9 (show (0 : Int) < 8 by decide)
   kd_p
   obtain ⟨kk, hkk, ek⟩ : ∃ kk : Nat, kk < 8 ∧ x9 % 8 = kk := ⟨(x9 % 8).toNat, by kcf_m, by exact (Int.toNat_of_nonneg b9a).symm⟩
   refine ek.symm ▸ ?_
   refine ⟨Le.refl _, rfl, ⟨_, ks ++ [kk], rfl, T, ?_, by simp [i2], ?_⟩, F⟩
   ·unfold nInts; rw [List.map_append]; exact ksk_snoc i1
   ·intro q hq
    rcases List.mem_append.mp hq with hq | hq
    ·exact i3 q hq
    ·rw [List.mem_singleton] at hq; kcf_m
  intro D3 ys news' acc o h t le3 y1; refine ek2_5 y1 fun tpo9 ks z1 T i1 i2 i3 => ?_; clear y1; obtain rfl := z1; intro hl3 F
  refine F.frzk fun D4 le4 e4 F => ?_
  kd_p
  exact k _ _ D4 _ _ b _ _ ks ys ((le1.trans le2).trans (le3.trans le4)) (T.mono le4) RO e4 hl3 i1 i3 (by kcf_m) F.sc
theorem key_step {n : Nat} {num : Int} (g : num > 0) (h : (n = 0 ∧ num < 40) ∨ (n = 1 ∧ num < 14) ∨ (n = 2 ∧ num < 5) ∨ (n = 3 ∧ num < 2) ∨ (n = 4 ∧ num = 0)) : (n + 1 = 0 ∧ num / 3 < 40) ∨ (n + 1 = 1 ∧ num / 3 < 14) ∨ (n + 1 = 2 ∧ num / 3 < 5) ∨ (n + 1 = 3 ∧ num / 3 < 2) ∨ (n + 1 = 4 ∧ num / 3 = 0) := by
 rcases h with ⟨rfl, h⟩ | ⟨rfl, h⟩ | ⟨rfl, h⟩ | ⟨rfl, h⟩ | ⟨rfl, h⟩
 ·exact .inr (.inl ⟨rfl, by kcf_m⟩)
 ·exact .inr (.inr (.inl ⟨rfl, by kcf_m⟩))
 ·exact .inr (.inr (.inr (.inl ⟨rfl, by kcf_m⟩)))
 ·exact .inr (.inr (.inr (.inr ⟨rfl, by kcf_m⟩)))
 ·exact (fZ (iA g (Int.le_of_eq h)) (by kcf_m)).elim
theorem ct_lkey (S : SC γ D ((tp, tpo) :: rest) h) (r : Room A 2) (T : TapeE ns D tpo)
  (k : ∀ h t s ts o', KeyOk s.cps.toList → TapeE ns D o' → SC γ D ((tp, o') :: rest) h → R (.str s ts) h t) : WC γ A (.call (.ref 730) ⟨[.ref tp], []⟩) R h t := by
 refine' w_enter S ?ho ?hcd r.lt [(ofString "tape", .ref tp)] [ofString "number", ofString "text"] [(ofString "_law_next", .ref 711)] ?hb ?ok (globs (by kernel_rfl)) ?_
 kd_facts1
 kd_adr
 kd_p
 refine F.outk (ps := [(tp, tpo)]) (by kp_flats) fun oL S back => ?_
 refine w_call (ct_nextE S (r.deeper.mono (by kcf_m)) T fun h t x1 tk1 tpo1 T S => ?_)
 have F := back _ [(tp, tpo1)] _ (Le.refl _) S
 try kso_len
 kd_p
 refine i_mod (by decide) ?_
 have b1a := Int.emod_nonneg x1 (show (40 : Int) ≠ 0 by decide)
 have b1b := Int.emod_lt_of_pos x1 (show (0 : Int) < 40 by decide)
 kd_p
 have e0 : ∀ c ∈ (ofString "").cps, 0 < c ∧ c < 128 := by
  have e : (ofString "").cps = #[] := by kernel_rfl
  rw [e]; simp
 refine w_while (fun m h => ∃ num tn s ts, m = num.toNat ∧ 0 ≤ num ∧ ((s.cps.size = 0 ∧ num < 40) ∨ (s.cps.size = 1 ∧ num < 14) ∨ (s.cps.size = 2 ∧ num < 5) ∨ (s.cps.size = 3 ∧ num < 2) ∨ (s.cps.size = 4 ∧ num = 0)) ∧ (∀ c ∈ s.cps, 0 < c ∧ c < 128) ∧
  FX γ D env [(ofString "_law_next", .ref 711)] [] [(ofString "tape", some (.ref tp)), (ofString "number", some (.int num tn)), (ofString "text", some (.str s ts))] ((tp, tpo1) :: rest) h) _ ⟨_, _, _, _, rfl, b1a, .inl ⟨rfl, b1b⟩, e0, F⟩ ?_
 intro m h t y1; refine ek4_5 y1 fun num tn s ts z1 n0 hs hc F => ?_; clear y1; obtain rfl := z1
 kd_p
 refine Br.dec (fun hg => ?_) fun hg => ?_
 ·kd_p
  refine i_mod (by decide) ?_
  kd_p
  have m0 := Int.emod_nonneg num (show (3 : Int) ≠ 0 by decide)
  have m1 := Int.emod_lt_of_pos num (show (0 : Int) < 3 by decide)
  obtain ⟨c, hcx, c0, c1⟩ : ∃ c, (ofString "abB").cps[(num % 3).toNat]? = some c ∧ 0 < c ∧ c < 128 := by
   obtain ⟨j, ej⟩ : ∃ j : Nat, num % 3 = j := ⟨(num % 3).toNat, by exact (Int.toNat_of_nonneg m0).symm⟩
   rw [ej, Int.toNat_natCast]
   have hj : j < 3 := by kcf_m
   match j, hj with
   | 0, _ => exact ⟨97, by kernel_rfl, by decide, by decide⟩
   | 1, _ => exact ⟨98, by kernel_rfl, by decide, by decide⟩
   | 2, _ => exact ⟨66, by kernel_rfl, by decide, by decide⟩
  refine w_tail_str m0 hcx (by decide) (fun tk t => ?_) (by with_unfolding_all rfl)
  kd_p
  have e1 : (s ++ (⟨#[c]⟩ : Str)).cps = s.cps ++ #[c] := rfl
  refine w_add_str (by show s.cps.size + 1 ≤ _; kcf_m) fun tk t => ?_
  kd_p
  refine i_fdiv (by decide) (by decide) ?_
  kd_p
  refine .inl ⟨rfl, (num / 3).toNat, by kcf_m, num / 3, _, _, _, rfl, by kcf_m, ?_, ?_, F⟩
  ·have e2 : (s ++ (⟨#[c]⟩ : Str)).cps.size = s.cps.size + 1 := by rw [e1]; simp
   refine e2.symm ▸ ?_
   exact key_step hg hs
  ·intro y hy
   rw [e1] at hy
   rcases Array.mem_append.mp hy with hy | hy
   ·exact hc y hy
   ·have : y = c := by simpa using hy
    subst this; exact ⟨c0, c1⟩
 ·refine q0 _ _ _ ?_
  kd_p
  exact k _ _ s _ _ ⟨by rw [Array.length_toList]; kcf_m, fun y hy => hc y (Array.mem_toList_iff.mp hy)⟩ T F.sc
end
end
section
theorem Fx.thawc {K : Frag} {D D₂ : Dm} {env : Env} {gl cl : List (Str × Value)} {vars vars0 : List (Str × Option Value)} {news news0 : List (Addr × Obj)} {h h0 : Heap} {a : Addr} {o o0 : Obj} (F0 : Fx K D env gl cl vars0 ((a, o0) :: news0) h0) (hv : vars0.map (·.1) = vars.map (·.1)) (le : Le D D₂) (F : Fx K D₂ env gl cl vars news h) (e : D₂ a = some o) :
  ∃ D₃, Le D D₃ ∧ D₃ a = none ∧ (∀ b, b ≠ a → D₃ b = D₂ b) ∧ Fx K D₃ env gl cl vars ((a, o) :: news) h := by
 refine ek1_2 F.f fun oL S fr => ?_
 refine ek1_4 (S.thaw F0.sc.st (F0.sc.off (a, o0) (.head _)) le e) fun D₃ l e1 e2 S3 => ?_
 exact ⟨D₃, l, e1, e2, ⟨hv ▸ F0.e.mono l, oL, S3.perm (.swap _ _ _), fr⟩⟩
theorem strs_snoc {vs : List Value} {ys : List Str} (h : StrsAre vs ys) (y : Str) (t : Tok) : StrsAre (vs ++ [.str y t]) (ys ++ [y]) := by
 induction h with
 | nil => exact .cons _ _ .nil
 | cons a b _ ih => exact .cons _ _ ih
noncomputable def EntIn (n : Nat) (D : Dm) (v : Value) (p : Str × Tree) : Prop := ∃ pa po u pv, v = .ref pa ∧ D pa = some po ∧ TupO [.str p.1 u, pv] po ∧ TreeIn n D p.2 pv
theorem EntIn.mono {n : Nat} {D D' : Dm} {v : Value} {p : Str × Tree} (x : EntIn n D v p) (l : Le D D') : EntIn n D' v p := ek4_4 x fun pa po u pv e1 e2 e3 e4 => ⟨pa, po, u, pv, e1, l _ _ e2, e3, e4.mono l⟩
noncomputable def TreeAt (γ : G) (tp rm : Addr) (ns : List Int) (n : Nat) : Prop :=
 ∀ {A : Around} {D : Dm} {rest : List (Addr × Obj)} {h : Heap} {t : Nat} {R : Value → Heap → Nat → Prop} {tpo rmo : Obj} {a b : Int} {td : Tok}, SC γ D ((tp, tpo) :: (rm, rmo) :: rest) h → Room A (3 + n) → TapeE ns D tpo → RoomO a b rmo → 1 ≤ a → a ≤ 18 →
  (∀ h t D' tr v tpo' rmo' b', Le D D' → Ok n tr → TreeIn n D' tr v → TapeE ns D' tpo' → RoomO (a - (nodes n tr : Nat)) b' rmo' → (nodes n tr : Int) ≤ a → SC γ D' ((tp, tpo') :: (rm, rmo') :: rest) h → R v h t) →
  WC γ A (.call (.ref 735) ⟨[.ref tp, .int (n : Nat) td, .ref rm], []⟩) R h t
noncomputable abbrev treeGl : List (Str × Value) := [(ofString "_law_next", .ref 711), (ofString "_law_whole", .ref 718), (ofString "_law_places", .ref 723), (ofString "len", .builtin "len"), (ofString "range", .type "range"), (ofString "_law_key", .ref 730), (ofString "_law_tree", .ref 735)]
section
variable {γ : G} {A : Around} {D : Dm} {env : Env} {gl cl : List (Str × Value)} {vars : List (Str × Option Value)} {news rest : List (Addr × Obj)} {h : Heap} {t : Nat} {R : Value → Heap → Nat → Prop} {tp rm : Addr} {tpo rmo : Obj} {ns : List Int}
theorem tree_turn {n : Nat} {a b : Int} {td : Tok} (sub : ∀ m, n = m + 1 → TreeAt γ tp rm ns m) (S : SC γ D ((tp, tpo) :: (rm, rmo) :: rest) h) (r : Room A (3 + n)) (T : TapeE ns D tpo) (RO : RoomO a b rmo) (a1 : 1 ≤ a) (a18 : a ≤ 18)
  (k : ∀ h t D' tr v tpo' rmo' b', Le D D' → Ok n tr → TreeIn n D' tr v → TapeE ns D' tpo' → RoomO (a - (nodes n tr : Nat)) b' rmo' → (nodes n tr : Int) ≤ a → SC γ D' ((tp, tpo') :: (rm, rmo') :: rest) h → R v h t) :
  WC γ A (.call (.ref 735) ⟨[.ref tp, .int (n : Nat) td, .ref rm], []⟩) R h t := by
 have sz : sizeLine = 16777216 := sizeLine_eq
 have r : Room A (2 + n + 1) := r.mono (by kcf_m)
 refine' w_enter_c S ?ho ?hcd r.lt [(ofString "tape", .ref tp), (ofString "deep", .int (n : Nat) td), (ofString "room", .ref rm)] [] [ofString "kind", ofString "places", ofString "k", ofString "many", ofString "found", ofString "key"] [(ofString "tape", .ref tp), (ofString "deep", .int (n : Nat) td), (ofString "room", .ref rm)] treeGl ?hb ?hlb ?hcl ?ok (globs (by kernel_rfl)) ?_
 case ho => k_is
 case hcd => k_is
 case hb => with_unfolding_all rfl
 case hlb => exact .nil
 case hcl => exact .cons (by tb_start) (.cons (by tb_start) (.cons (by tb_start) .nil))
 case ok => kernel_rfl
 clear S
 intro env D1 h t le1 F
 dsimp only [mkV, List.map, List.cons_append, List.nil_append] at F
 have T := T.mono le1
 refine ek2_1 (id RO) fun ta tb hro => ?_
 kd_p
 refine w_tail_list (F.got (by kas_types)) hro (by decide) (x := .int a ta) rfl (by decide) ?_ (by with_unfolding_all rfl)
 kd_p
 refine w_setitem F (by kas_types) hro (by decide) (by simp) (by decide) fun rmo1 h hro F => ?_
 have RO : RoomO (a - 1) b rmo1 := ⟨_, _, hro⟩
 clear hro
 kd_p
 refine F.outk (ps := [(tp, tpo)]) (by kp_flats) fun oL S back => ?_
 refine w_call (ct_nextE S (r.deeper.mono (by kcf_m)) T fun h t x1 tk1 tpo1 T S => ?_)
 have F := back _ [(tp, tpo1)] _ (Le.refl _) S
 try kso_len
 kd_p
 refine i_mod (by decide) ?_
 have b1a := Int.emod_nonneg x1 (show (9 : Int) ≠ 0 by decide)
 have b1b := Int.emod_lt_of_pos x1 (show (0 : Int) < 9 by decide)
 kd_p
 have q1 : ∀ {h : Heap} {t : Nat} {kk : Int} {tk : Tok} {tpo : Obj}, 0 ≤ kk → kk < 9 → TapeE ns D1 tpo → FX γ D1 env treeGl [(ofString "tape", .ref tp), (ofString "deep", .int (n : Nat) td), (ofString "room", .ref rm)] [(ofString "kind", some (.int kk tk)), (ofString "places", none), (ofString "k", none), (ofString "many", none), (ofString "found", none), (ofString "key", none)] ((tp, tpo) :: (rm, rmo1) :: rest) h → Q0 .next h t := by
  clear F T
  intro h t kk tk tpo k0 k9 T F
  refine q0 _ _ _ ?_
  clear q0 Q0
  kd_p
  have q2 : ∀ {h : Heap} {t : Nat} {kk : Int} {tk : Tok}, 0 ≤ kk → kk < 9 → (n = 0 ∨ a ≤ 1 → kk < 6) → FX γ D1 env treeGl [(ofString "tape", .ref tp), (ofString "deep", .int (n : Nat) td), (ofString "room", .ref rm)] [(ofString "kind", some (.int kk tk)), (ofString "places", none), (ofString "k", none), (ofString "many", none), (ofString "found", none), (ofString "key", none)] ((tp, tpo) :: (rm, rmo1) :: rest) h → Q0 .next h t := by
   clear F k0 k9
   intro h t kk tk k0 k9 k6 F
   refine q0 _ _ _ ?_
   clear q0 Q0
   kd_p
   refine Br.dec (fun hc0 => ?_) fun hc0 => ?_
   ·kd_p
    refine w_newtup F (n_le rfl) fun D2 rt ro h le2 er hT F => ?_
    kd_p
    refine k _ _ D2 .none _ _ _ _ (le1.trans le2) ok0 (tre0.mpr ⟨rt, ro, _, rfl, er, hT⟩) (T.mono le2) (by rw [node0]; exact RO) (by rw [node0]; exact a1) F.sc
   kd_p
   refine Br.dec (fun hc1 => ?_) fun hc1 => ?_
   ·kd_p
    refine F.outk (ps := [(tp, tpo)]) (by kp_flats) fun oL S back => ?_
    refine w_call (ct_nextE S (r.deeper.mono (by kcf_m)) T fun h t x2 tk2 tpo2 T S => ?_)
    have F := back _ [(tp, tpo2)] _ (Le.refl _) S
    try kso_len
    kd_p
    refine i_mod (by decide) ?_
    have b2a := Int.emod_nonneg x2 (show (2 : Int) ≠ 0 by decide)
    have b2b := Int.emod_lt_of_pos x2 (show (0 : Int) < 2 by decide)
    kd_p
    refine w_newtup F (n_le rfl) fun D2 rt ro h le2 er hT F => ?_
    kd_p
    refine k _ _ D2 (.truth _) _ _ _ _ (le1.trans le2) ok1 (tre1.mpr ⟨rt, ro, _, rfl, er, hT⟩) (T.mono le2) (by rw [node1]; exact RO) (by rw [node1]; exact a1) F.sc
   kd_p
   refine BrF.mk ?_ fun hc2 => ?_
   rotate_left
   ·try kd_p
    refine Br.tt ?_
    kd_p
    refine F.outk (ps := [(tp, tpo)]) (by kp_flats) fun oL S back => ?_
    refine w_call (ct_lwhole S (r.deeper.mono (by kcf_m)) T fun h t D2 m tkm tpo2 le2 m0 m1 T S => ?_)
    have F := back _ [(tp, tpo2)] _ le2 S
    try kso_len
    kd_p
    refine w_newtup F (n_le rfl) fun D3 rt ro h le3 er hT F => ?_
    kd_p
    exact k _ _ D3 (.num m) _ _ _ _ (le1.trans (le2.trans le3)) (ok2.mpr ⟨m0, m1⟩) (tre2.mpr ⟨rt, ro, _, _, rfl, er, hT⟩) (T.mono le3) (by rw [node2]; exact RO) (by rw [node2]; kcf_m) F.sc
   intro hc2
   simp only [decide_eq_true_eq, decide_eq_false_iff_not] at hc2
   kd_p
   refine BrF.mk ?_ fun hc3 => ?_
   rotate_left
   ·try kd_p
    refine Br.tt ?_
    kd_p
    refine F.outk (ps := [(tp, tpo)]) (by kp_flats) fun oL S back => ?_
    refine w_call (ct_lwhole S (r.deeper.mono (by kcf_m)) T fun h t D2 m tkm tpo2 le2 m0 m1 T S => ?_)
    have F := back _ [(tp, tpo2)] _ le2 S
    try kso_len
    kd_p
    refine w_newtup F (n_le rfl) fun D3 rt ro h le3 er hT F => ?_
    kd_p
    exact k _ _ D3 (.num m) _ _ _ _ (le1.trans (le2.trans le3)) (ok2.mpr ⟨m0, m1⟩) (tre2.mpr ⟨rt, ro, _, _, rfl, er, hT⟩) (T.mono le3) (by rw [node2]; exact RO) (by rw [node2]; kcf_m) F.sc
   intro hc3
   simp only [decide_eq_true_eq, decide_eq_false_iff_not] at hc3
   kd_p
   refine Br.ff ?_
   kd_p
   refine Br.dec (fun hc4 => ?_) fun hc4 => ?_
   ·kd_p
    refine F.outk (ps := [(tp, tpo), (rm, rmo1)]) (by kp_flats) fun oL S back => ?_
    refine w_call (ct_lplaces S (r.deeper.mono (by kcf_m)) T RO fun h t D2 tpo2 rmo2 b2 l lo ks kvs le2 T RO el hl hi h8 hks S => ?_)
    have F := back _ [(tp, tpo2), (rm, rmo2)] _ le2 S
    try kso_len
    kd_p
    refine w_newtup F (n_le rfl) fun D3 rt ro h le3 er hT F => ?_
    kd_p
    have tl := textOct_len h8
    refine k _ _ D3 (.text (textOct ks)) _ _ _ _ (le1.trans (le2.trans le3)) (ok3.mpr (show (textOct ks).length ≤ 800 by exact nZ (nA hks (nA hks (nA hks tl))) (by kcf_m))) (tre3.mpr ⟨rt, ro, _, l, lo, ks, kvs, rfl, er, hT, le3 _ _ el, hl, hi, h8, by exact Nat.le_trans hks (by decide), rfl⟩) (T.mono le3) (by rw [node3]; exact RO) (by rw [node3]; exact a1) F.sc
   kd_p
   refine Br.dec (fun hc5 => ?_) fun hc5 => ?_
   ·kd_p
    refine F.outk (ps := [(tp, tpo), (rm, rmo1)]) (by kp_flats) fun oL S back => ?_
    refine w_call (ct_lplaces S (r.deeper.mono (by kcf_m)) T RO fun h t D2 tpo2 rmo2 b2 l lo ks kvs le2 T RO el hl hi h8 hks S => ?_)
    have F := back _ [(tp, tpo2), (rm, rmo2)] _ le2 S
    try kso_len
    have il : kvs.length = ks.length := by rw [hi.length]; simp [nInts]
    kd_p
    refine w_len_list (F.sc.keep _ _ el) hl.ls (Nat.le_trans (Nat.le_trans (Nat.le_of_eq il) hks) (by decide)) ?_
    refine il.symm ▸ ?_
    kd_p
    refine Br.dec (fun hg => ?_) fun hg => ?_
    ·kd_p
     obtain ⟨x0, hx0⟩ : ∃ x0, ks[0]? = some x0 := ⟨ks[0]'(by kcf_m), by simp⟩
     refine ek1_1 (hi.get 0 (x0 : Int) (by simp [nInts, hx0])) fun tk0 ek0 => ?_
     refine w_tail_list (F.sc.keep _ _ el) hl.ls (by decide) (x := .int (x0 : Int) tk0) ek0 (by decide) ?_ (by with_unfolding_all rfl)
     kd_p
     refine i_mul (IntMulOk.of_right (by decide)) ?_
     kd_p
     refine i_mod (by decide) ?_
     have c0 := Int.emod_nonneg ((x0 : Int) * 37 + 200) (show (256 : Int) ≠ 0 by decide)
     have c1 := Int.emod_lt_of_pos ((x0 : Int) * 37 + 200) (show (0 : Int) < 256 by decide)
     kd_p
     refine w_newlist F (n_le rfl) fun l0 lo0 h hl0 F => ?_
     refine F.frzk fun D3 le3 e3 F => ?_
     kd_p
     refine w_len_list (F.sc.keep _ _ (le3 _ _ el)) hl.ls (Nat.le_trans (Nat.le_trans (Nat.le_of_eq il) hks) (by decide)) ?_
     refine il.symm ▸ ?_
     kd_p
     refine w_mul_list F (F.sc.keep _ _ e3) hl0 (Int.natCast_nonneg _) (by simp; exact Nat.le_trans hks (by decide)) (Int.ofNat_le.mpr (Nat.le_trans hks (by decide))) fun l1 lo1 h hl1 F => ?_
     refine F.frzk fun D4 le4 e4 F => ?_
     kd_p
     refine w_newtup F (n_le rfl) fun D5 rt ro h le5 er hT F => ?_
     kd_p
     refine k _ _ D5 (.oct (List.replicate ((ks.length : Int)).toNat [((x0 : Int) * 37 + 200) % 256]).flatten) _ _ _ _ (le1.trans (le2.trans (le3.trans (le4.trans le5)))) (ok4.mpr (show (List.replicate ((ks.length : Int)).toNat [((x0 : Int) * 37 + 200) % 256]).flatten.length ≤ 800 by simp; exact Nat.le_trans hks (by decide))) (tre4.mpr ⟨rt, ro, _, l1, lo1, rfl, er, hT, le5 _ _ e4, ⟨_, by exact ints_rep (IntsAre.cons _ _ .nil) _, hl1⟩, fun y hy => by obtain ⟨w, hw, hy⟩ := List.mem_flatten.mp hy; rw [List.eq_of_mem_replicate hw] at hy; rw [List.mem_singleton] at hy; kcf_m⟩) (T.mono (le3.trans (le4.trans le5))) (by rw [node4]; exact RO) (by rw [node4]; exact a1) F.sc
    kd_p
    refine w_listcomp F ?_ (ns := [ofString "k"]) (gn := []) (cn := []) (by kernel_rfl)
    kd_p
    refine w_pyiter_lst F el hl fun it own h itr hst F => ?_
    refine w_comp_it (itr _ .name (.inl ⟨_, _, rfl⟩)) r.hn F hst [ofString "k"] [] [] (by kernel_rfl) trivial .nil (by kcf_m)
     (fun i D' ys news' => news' = (tp, tpo2) :: (rm, rmo2) :: rest ∧ ∃ bs : List Int, IntsAre ys bs ∧ bs.length = i ∧ ∀ b ∈ bs, 0 ≤ b ∧ b < 256) ⟨rfl, [], .nil, rfl, fun y hy => nomatch hy⟩ (fun ξ ξ ξ ξ ξ ξ q => q) ?_ ?_
    ·intro cenv i D3 ys news' own' uu v h t le3 hii y1; refine ek0_2 y1 fun z1 z2 => ?_; clear y1; obtain rfl := z1; refine ek1_3 z2 fun bs i1 i2 i3 => ?_; clear z2; intro hx F
     dsimp only [List.map] at F
     obtain ⟨x0, tk0, rfl⟩ : ∃ x0 tk0, v = .int x0 tk0 := by
      obtain ⟨hj, ej⟩ := List.getElem?_eq_some_iff.mp hx
      obtain ⟨tk0, ek0⟩ := hi.get i ((ks[i]'(Nat.lt_of_lt_of_eq hii il) : Nat) : Int) (by simp [nInts, show i < ks.length by exact Nat.lt_of_lt_of_eq hii il])
      rw [hx] at ek0; cases ek0; exact ⟨_, _, rfl⟩
     refine w_asg_name ?_
     kd_p
     refine w_tests_nil ?_
     refine Br.tt ?_
     kd_p
     refine i_mul (IntMulOk.of_right (by decide)) ?_
     kd_p
     refine i_mod (by decide) ?_
     have c0 := Int.emod_nonneg (x0 * 37 + 200) (show (256 : Int) ≠ 0 by decide)
     have c1 := Int.emod_lt_of_pos (x0 * 37 + 200) (show (0 : Int) < 256 by decide)
     refine ⟨Le.refl _, rfl, ⟨rfl, bs ++ [_], ksk_snoc i1, by simp [i2], fun y hy => ?_⟩, F⟩
     rcases List.mem_append.mp hy with hy | hy
     ·exact i3 y hy
     ·rw [List.mem_singleton] at hy; kcf_m
    intro D3 ys news' acc o h t le3 y1; refine ek0_2 y1 fun z1 z2 => ?_; clear y1; obtain rfl := z1; refine ek1_3 z2 fun bs i1 i2 i3 => ?_; clear z2; intro hl3 F
    refine F.frzk fun D4 le4 e4 F => ?_
    kd_p
    refine w_newtup F (n_le rfl) fun D5 rt ro h le5 er hT F => ?_
    kd_p
    refine k _ _ D5 (.oct bs) _ _ _ _ (le1.trans (le2.trans (le3.trans (le4.trans le5)))) (ok4.mpr (show bs.length ≤ 800 by kcf_m)) (tre4.mpr ⟨rt, ro, _, acc, o, rfl, er, hT, le5 _ _ e4, ⟨_, i1, hl3⟩, i3⟩) (T.mono (le3.trans (le4.trans le5))) (by rw [node4]; exact RO) (by rw [node4]; exact a1) F.sc
   kd_p
   obtain ⟨m, rfl⟩ : ∃ m, n = m + 1 := ⟨n - 1, by kcf_m⟩
   have a2 : 2 ≤ a := by kcf_m
   refine F.outk (ps := [(tp, tpo)]) (by kp_flats) fun oL S back => ?_
   refine w_call (ct_nextE S (r.deeper.mono (by kcf_m)) T fun h t x2 tk2 tpo2 T S => ?_)
   have F := back _ [(tp, tpo2)] _ (Le.refl _) S
   try kso_len
   kd_p
   refine i_mod (by decide) ?_
   obtain ⟨mm, hmm, em⟩ : ∃ mm : Nat, mm ≤ 5 ∧ x2 % 6 = mm := ⟨(x2 % 6).toNat, by kcf_m, by kcf_m⟩
   rw [em]
   kd_p
   refine Br.dec (fun hc8 => ?_) fun hc8 => ?_
   ·kd_p
    refine w_listcomp F ?_ (ns := [ofString "k"]) (gn := [ofString "_law_tree"]) (cn := [ofString "deep", ofString "room", ofString "tape"]) (by kernel_rfl)
    kd_p
    refine w_call_range F fun D2 ra h t le2 hr F => ?_
    refine w_pyiter_range F hr (Nat.le_trans hmm (by decide)) fun it own h hst F => ?_
    have T := T.mono le2
    refine w_comp_it iter_range r.hn F hst [ofString "k"] [(ofString "_law_tree", .ref 735)] [(ofString "deep", .int ((m + 1 : Nat) : Int) td), (ofString "room", .ref rm), (ofString "tape", .ref tp)] (by kernel_rfl) (globs (by kernel_rfl)) (.cons (by tb_start) (.cons (by tb_start) (.cons (by tb_start) .nil))) (Nat.le_trans hmm (by decide))
     (fun i D' ys news' => ∃ (tpo' rmo' : Obj) (b' : Int) (ts : List Tree), news' = (tp, tpo') :: (rm, rmo') :: rest ∧ TapeE ns D' tpo' ∧ RoomO (a - 1 - ((ts.map (nodes m)).sum : Nat)) b' rmo' ∧ ((ts.map (nodes m)).sum : Int) ≤ a - 1 ∧ ts.length ≤ i ∧ (∀ t ∈ ts, Ok m t) ∧ (ys.length = ts.length ∧ ∀ (i : Nat) (v : Value) (t : Tree), ys[i]? = some v → ts[i]? = some t → TreeIn m D' t v))
     ⟨_, _, _, [], rfl, T, by simpa using RO, by simp; exact Int.le_of_lt a2, by simp, (fun t ht => (nomatch ht)), rfl, fun i v t hv => by simp at hv⟩ (fun i D D' ys news l z => ek4_8 z fun tpo' rmo' b' ts x1 x2 x3 x4 x5 x6 x7 x8 => ⟨tpo', rmo', b', ts, x1, x2.mono l, x3, x4, x5, x6, x7, fun i v t h1 h2 => (x8 i v t h1 h2).mono l⟩) ?_ ?_
    ·intro cenv i D3 ys news' own' uu v h t le3 hii y1; refine ek4_8 y1 fun tpo3 rmo3 b3 ts z1 T RO sm tl oks ty1 ty2 => ?_; clear y1; obtain rfl := z1; intro y2; refine ek1_1 y2 fun tkk z2 => ?_; clear y2; obtain rfl := z2; intro F
     dsimp only [List.map] at F
     refine ek2_1 (id RO) fun ta tb hro => ?_
     refine w_asg_name ?_
     kd_p
     refine w_tests_one ?_
     kd_p
     refine w_tail_list (F.got (by kas_types)) hro (by decide) (x := .int (a - 1 - ((ts.map (nodes m)).sum : Nat)) ta) rfl (by decide) ?_ (by with_unfolding_all rfl)
     kd_p
     refine Br.dec (fun hg => ?_) fun hg => ?_
     ·kd_p
      refine (show (((m + 1 : Nat) : Int) - 1) = ((m : Nat) : Int) by kcf_m).symm ▸ ?_
      refine F.outk (ps := [(tp, tpo3), (rm, rmo3)]) (by kp_flats) fun oL S back => ?_
      refine w_call (sub m rfl S (r.deeper.mono (by kcf_m)) T RO hg (by kcf_m) fun h t D4 tr4 v4 tpo4 rmo4 b4 le4 ok4 ti4 T RO4 nl S => ?_)
      have F := back _ [(tp, tpo4), (rm, rmo4)] _ le4 S
      have es : ((ts ++ [tr4]).map (nodes m)).sum = (ts.map (nodes m)).sum + nodes m tr4 := by rw [List.map_append, List.sum_append]; simp
      refine ⟨le4, rfl, ⟨tpo4, rmo4, b4, ts ++ [tr4], rfl, T, ?_, by rw [es]; kcf_m, by simp; exact tl, fun t ht => ?_, snoc_all ⟨ty1, fun i v t h1 h2 => (ty2 i v t h1 h2).mono le4⟩ ti4⟩, F⟩
      ·rw [es]
       rw [show a - 1 - (((ts.map (nodes m)).sum + nodes m tr4 : Nat) : Int) = a - 1 - ((ts.map (nodes m)).sum : Nat) - (nodes m tr4 : Nat) by kcf_m]
       exact RO4
      ·rcases List.mem_append.mp ht with ht | ht
       ·exact oks t ht
       ·rw [List.mem_singleton] at ht; subst ht; exact ok4
     ·exact ⟨Le.refl _, rfl, ⟨tpo3, rmo3, b3, ts, rfl, T, RO, sm, by exact Nat.le_succ_of_le tl, oks, ty1, ty2⟩, F⟩
    intro D3 ys news' acc o h t le3 y1; refine ek4_8 y1 fun tpo3 rmo3 b3 ts z1 T RO sm tl oks ty1 ty2 => ?_; clear y1; obtain rfl := z1; intro hl3 F
    refine F.frzk fun D4 le4 e4 F => ?_
    kd_p
    refine w_newtup F (n_le rfl) fun D5 rt ro h le5 er hT F => ?_
    kd_p
    have en : nodes (m + 1) (.row ts) = 1 + (ts.map (nodes m)).sum := rfl
    refine k _ _ D5 (.row ts) _ _ _ b3 (le1.trans (le2.trans (le3.trans (le4.trans le5)))) ⟨by exact Nat.le_trans tl hmm, oks⟩ ⟨rt, ro, _, acc, o, ys, rfl, er, hT, le5 _ _ e4, hl3, ty1, fun i v t h1 h2 => (ty2 i v t h1 h2).mono (le4.trans le5)⟩ (T.mono (le4.trans le5)) ?_ (by rw [en]; kcf_m) F.sc
    rw [en, show a - ((1 + (ts.map (nodes m)).sum : Nat) : Int) = a - 1 - ((ts.map (nodes m)).sum : Nat) by kcf_m]
    exact RO
   kd_p
   refine w_newlist F (n_le rfl) fun fd fdo h hfd F => ?_
   kd_p
   refine w_for ?_
   kd_p
   refine w_call_range F fun D2 ra h t le2 hr F => ?_
   refine w_pyiter_range F hr (Nat.le_trans hmm (by decide)) fun it own h hst F => ?_
   have T := T.mono le2
   refine w_for_c iter_range r.hn (fun i D' Φ => ∀ (tkm : Tok) (tpo' rmo' fdo' : Obj) (b' : Int) (L : List (Str × Tree)) (ys : List Value) (uk ukey : Option Value), (TapeE ns D' tpo') → (RoomO (a - 1 - ((L.map fun p => nodes m p.2).sum : Nat)) b' rmo') → (((L.map fun p => nodes m p.2).sum : Int) ≤ a - 1) → (L.length ≤ i) → (LstO ys.toArray fdo') → ((L.map fun p : Str × Tree => p.1).Nodup) → ((∀ p ∈ L, KeyOk p.1.cps.toList ∧ Ok m p.2)) → ((ys.length = L.length ∧ ∀ (i : Nat) (v : Value) (p : Str × Tree), ys[i]? = some v → L[i]? = some p → EntIn m D' v p)) → Φ [(ofString "kind", some (.int kk tk)), (ofString "places", none), (ofString "k", uk), (ofString "many", some (.int (mm : Nat) tkm)), (ofString "found", some (.ref fd)), (ofString "key", ukey)] ((fd, fdo') :: (tp, tpo') :: (rm, rmo') :: rest)) F hst (fun ξ j => j _ _ _ _ _ [] [] _ _ T (by simpa using RO) (by simp; exact Int.le_of_lt a2) (by simp) hfd .nil (fun t ht => (nomatch ht)) ⟨rfl, fun i v t hv => by simp at hv⟩) (fun i D D' Φ l q tkm tpo' rmo' fdo' b' L ys uk ukey x3 x4 x5 x6 x7 x8 x9 z => ek0_2 z fun x10 x11 => q tkm tpo' rmo' fdo' b' L ys uk ukey (x3.mono l) x4 x5 x6 x7 x8 x9 ⟨x10, fun i v t h1 h2 => (x11 i v t h1 h2).mono l⟩) ?_ ?_
   ·intro i D3 own' v h t K0 kz kr le3 hii y1; refine ek1_1 y1 fun tki z1 => ?_; clear y1; obtain rfl := z1; intro tkm tpo3 rmo3 fdo3 b3 L ys uk ukey T RO sm tl hfd nd oks y2; refine ek0_2 y2 fun ty1 ty2 => ?_; clear y2; intro F
    refine ek2_1 (id RO) fun ta tb hro => ?_
    refine w_asg_name ?_
    kd_p
    refine F.outk (ps := [(tp, tpo3)]) (by kp_flats) fun oL S back => ?_
    refine w_call (ct_lkey S (r.deeper.mono (Nat.le_add_right _ _)) T fun h t s tks tpo4 kok T S => ?_)
    have F := back _ [(tp, tpo4)] _ (Le.refl _) S
    have F := F.perm (List.Perm.swap _ _ _)
    kd_p
    refine w_tail_list (F.got (by kas_types)) hro (by decide) (x := .int (a - 1 - ((L.map fun p => nodes m p.2).sum : Nat)) ta) rfl (by decide) ?_ (by with_unfolding_all rfl)
    kd_p
    refine Br.dec (fun hg => ?_) fun hg => ?_
    ·kd_p
     have F0 := F
     refine F.frzk fun D4 le4 e4 F => ?_
     refine w_listcomp F ?_ (ns := [ofString "pair"]) (gn := []) (cn := []) (by kernel_rfl)
     kd_p
     refine w_pyiter_lst F e4 hfd fun it2 own2 h itr hst2 F => ?_
     refine w_comp_it (itr _ .name (.inl ⟨_, _, rfl⟩)) r.hn F hst2 [ofString "pair"] [] [] (by kernel_rfl) trivial .nil (by kcf_m)
      (fun i D' zs news' => news' = (tp, tpo4) :: (rm, rmo3) :: rest ++ own' ∧ StrsAre zs ((L.map fun p : Str × Tree => p.1).take i)) ⟨rfl, .nil⟩ (fun ξ ξ ξ ξ ξ ξ q => q) ?_ ?_
     ·intro cenv j D5 zs news' own3 uu v h t le5 hj y1; refine ek0_2 y1 fun z1 hz => ?_; clear y1; obtain rfl := z1; intro hx F
      dsimp only [List.map] at F
      have hjl : j < L.length := Nat.lt_of_lt_of_eq hj ty1
      refine ek4_4 ((ty2 j v L[j] hx (by simp [hjl])).mono (le4.trans le5)) fun pa po u pv z1 epa Tp ξ => ?_; obtain rfl := z1
      refine w_asg_name ?_
      kd_p
      refine w_tests_nil ?_
      refine Br.tt ?_
      kd_p
      refine w_tt F epa Tp ?_
      refine ⟨Le.refl _, rfl, ⟨rfl, ?_⟩, F⟩
      rw [List.take_succ_eq_append_getElem (by simpa using hjl), List.getElem_map]
      exact strs_snoc hz _ _
     intro D5 zs news' acc o h t le5 y1; refine ek0_2 y1 fun z1 hz => ?_; clear y1; obtain rfl := z1; intro hl5 F
     rw [ty1, List.take_of_length_le (by simp)] at hz
     refine F.frzk fun D6 le6 e6 F => ?_
     kd_p
     refine w_notin_strs (F.sc.keep _ _ e6) hl5 hz ?_
     refine ek1_4 (Fx.thawc F0 rfl ((le4.trans le5).trans le6) F ((le5.trans le6) _ _ e4)) fun D7 le7 ξ ξ F => ?_
     have T := T.mono le7
     kd_p
     refine ⟨fun hn => ?_, fun hn => ?_⟩
     ·try kd_p
      refine Br.tt ?_
      kd_p
      refine w_getm_list PySem.F.slot_list_append PySem.F.type_list_append (F.got (by kas_types)) hfd ?_
      kd_p
      refine (show (((m + 1 : Nat) : Int) - 1) = ((m : Nat) : Int) by kcf_m).symm ▸ ?_
      refine F.outk (ps := [(tp, tpo4), (rm, rmo3)]) (by kp_flats) fun oL S back => ?_
      refine w_call (sub m rfl S (r.deeper.mono (by kcf_m)) T RO hg (by kcf_m) fun h t D8 tr4 v4 tpo5 rmo5 b5 le8 ok4 ti4 T RO4 nl S => ?_)
      have F := back _ [(tp, tpo5), (rm, rmo5)] _ le8 S
      try kso_len
      kd_p
      refine w_newtup F (n_le rfl) fun D9 rt ro h le9 er hT F => ?_
      kd_p
      refine w_lappend F (by kas_types) hfd (by kcf_m) fun fdo6 h hfd6 F => ?_
      refine ⟨trivial, ?_⟩
      kd_p
      have es : ((L ++ [(s, tr4)]).map fun p => nodes m p.2).sum = (L.map fun p => nodes m p.2).sum + nodes m tr4 := by rw [List.map_append, List.sum_append]; simp
      refine kz D9 _ _ _ _ (le7.trans (le8.trans le9)) (fun ξ j => j _ tpo5 rmo5 fdo6 b5 (L ++ [(s, tr4)]) _ _ _ (T.mono le9) ?_ (by rw [es]; kcf_m) (by simp; exact tl) hfd6 ?_ (fun p hp => ?_) (snoc_all ⟨ty1, fun i v t h1 h2 => (ty2 i v t h1 h2).mono (le7.trans (le8.trans le9))⟩ ⟨rt, ro, _, v4, rfl, er, hT, ti4.mono le9⟩)) F
      ·rw [es]
       rw [show a - 1 - (((L.map fun p => nodes m p.2).sum + nodes m tr4 : Nat) : Int) = a - 1 - ((L.map fun p => nodes m p.2).sum : Nat) - (nodes m tr4 : Nat) by kcf_m]
       exact RO4
      ·rw [List.map_append]
       refine List.nodup_append.mpr ⟨nd, by simp, fun x hx y hy e => ?_⟩
       have : y = s := by simpa using hy
       subst this; subst e
       have : (L.map fun p : Str × Tree => p.1).any (· == x) = true := List.any_eq_true.mpr ⟨x, hx, by simp⟩
       rw [this] at hn; cases hn
      ·rcases List.mem_append.mp hp with hp | hp
       ·exact oks p hp
       ·rw [List.mem_singleton] at hp; subst hp; exact ⟨kok, ok4⟩
     ·try kd_p
      refine Br.ff ?_
      kd_p
      exact kz D7 _ _ _ _ le7 (fun ξ j => j _ tpo4 rmo3 fdo3 b3 L ys _ _ T RO sm (Nat.le_succ_of_le tl) hfd nd oks ⟨ty1, fun i v t h1 h2 => (ty2 i v t h1 h2).mono le7⟩) F
    ·try kd_p
     refine Br.ff ?_
     kd_p
     exact kz D3 _ _ _ _ (Le.refl _) (fun ξ j => j _ tpo4 rmo3 fdo3 b3 L ys _ _ T RO sm (Nat.le_succ_of_le tl) hfd nd oks ⟨ty1, ty2⟩) F
   intro D3 h t le3 tkm tpo3 rmo3 fdo3 b3 L ys uk ukey T RO sm tl hfd nd oks y1; refine ek0_2 y1 fun ty1 ty2 => ?_; clear y1; intro F
   refine F.frzk fun D4 le4 e4 F => ?_
   refine q0 _ _ _ ?_
   clear q0
   kd_p
   refine w_newtup F (n_le rfl) fun D5 rt ro h le5 er hT F => ?_
   kd_p
   have en : nodes (m + 1) (.map (L.map fun p => (p.1.cps.toList, p.2))) = 1 + (L.map fun p => nodes m p.2).sum := by
    show 1 + ((L.map fun p => (p.1.cps.toList, p.2)).map fun p => nodes m p.2).sum = _
    rw [List.map_map]; rfl
   refine k _ _ D5 (.map (L.map fun p => (p.1.cps.toList, p.2))) _ _ _ b3 (le1.trans (le2.trans (le3.trans (le4.trans le5)))) ⟨by rw [List.length_map]; exact Nat.le_trans tl hmm, ?_, fun p hp => ?_⟩ ⟨rt, ro, _, fd, fdo3, ys, rfl, er, hT, le5 _ _ e4, hfd, by rw [List.length_map]; exact ty1, fun i v kk t h1 h2 => ?_⟩ (T.mono (le4.trans le5)) ?_ (by rw [en]; kcf_m) F.sc
   ·rw [List.map_map]
    show ((L.map fun p => p.1.cps.toList)).Nodup
    refine List.pairwise_map.mpr ((List.pairwise_map.mp nd).imp fun {x y} hne e => hne ?_)
    obtain ⟨⟨⟨xl⟩⟩, _⟩ := x
    obtain ⟨⟨⟨yl⟩⟩, _⟩ := y
    simp at e
    simp [e]
   ·obtain ⟨q, hq, rfl⟩ := List.mem_map.mp hp
    exact oks q hq
   ·rw [List.getElem?_map] at h2
    cases eL : L[i]? with
    | none => rw [eL] at h2; cases h2
    | some p =>
     rw [eL] at h2; cases h2
     refine ek4_4 ((ty2 i v p h1 eL).mono (le4.trans le5)) fun pa po u pv z1 z2 z3 z4 => ?_
     exact ⟨pa, po, p.1, u, pv, z1, z2, z3, rfl, z4⟩
   ·rw [en, show a - ((1 + (L.map fun p => nodes m p.2).sum : Nat) : Int) = a - 1 - ((L.map fun p => nodes m p.2).sum : Nat) by kcf_m]
    exact RO
  clear q0
  refine BrF.mk ?_ fun hc => ?_
  rotate_left
  ·refine Br.tt ?_
   kd_p
   refine i_mod (by decide) ?_
   have c0 := Int.emod_nonneg kk (show (6 : Int) ≠ 0 by decide)
   have c1 := Int.emod_lt_of_pos kk (show (0 : Int) < 6 by decide)
   kd_p
   exact q2 c0 (by kcf_m) (fun ξ => c1) F
  intro hc
  simp only [decide_eq_true_eq, decide_eq_false_iff_not] at hc
  refine ek2_1 (id RO) fun ta tb hro => ?_
  kd_p
  refine w_tail_list (F.got (by kas_types)) hro (by decide) (x := .int (a - 1) ta) rfl (by decide) ?_ (by with_unfolding_all rfl)
  kd_p
  refine BrF.mk ?_ fun hc2 => ?_
  rotate_left
  ·try kd_p
   refine Br.tt ?_
   kd_p
   refine i_mod (by decide) ?_
   have c0 := Int.emod_nonneg kk (show (6 : Int) ≠ 0 by decide)
   have c1 := Int.emod_lt_of_pos kk (show (0 : Int) < 6 by decide)
   kd_p
   exact q2 c0 (by kcf_m) (fun ξ => c1) F
  intro hc2
  simp only [decide_eq_true_eq, decide_eq_false_iff_not] at hc2
  kd_p
  refine Br.ff ?_
  kd_p
  exact q2 k0 k9 (fun w => by kcf_m) F
 clear q0
 refine Br.dec (fun hc => ?_) fun hc => ?_
 ·kd_p
  refine Br.dec (fun hc2 => ?_) fun hc2 => ?_
  ·kd_p
   refine F.outk (ps := [(tp, tpo1)]) (by kp_flats) fun oL S back => ?_
   refine w_call (ct_nextE S (r.deeper.mono (by kcf_m)) T fun h t x2 tk2 tpo2 T S => ?_)
   have F := back _ [(tp, tpo2)] _ (Le.refl _) S
   try kso_len
   kd_p
   refine i_mod (by decide) ?_
   have b2a := Int.emod_nonneg x2 (show (8 : Int) ≠ 0 by decide)
   have b2b := Int.emod_lt_of_pos x2 (show (0 : Int) < 8 by decide)
   kd_p
   refine ⟨fun hc3 => ?_, fun hc3 => ?_⟩
   ·try kd_p
    refine Br.tt ?_
    kd_p
    refine i_mod (by decide) ?_
    have c0 := Int.emod_nonneg (x1 % 9) (show (3 : Int) ≠ 0 by decide)
    have c1 := Int.emod_lt_of_pos (x1 % 9) (show (0 : Int) < 3 by decide)
    kd_p
    exact q1 (iZ c0 (by kcf_m)) (by kcf_m) T F
   try kd_p
   refine Br.ff ?_
   kd_p
   exact q1 b1a b1b T F
  try kd_p
  refine Br.ff ?_
  kd_p
  exact q1 b1a b1b T F
 refine Br.ff ?_
 kd_p
 exact q1 b1a b1b T F
theorem ct_Tree : ∀ n, TreeAt γ tp rm ns n
 | 0 => fun S r T RO a1 a18 k => tree_turn (fun m e => absurd e (by kcf_m)) S r T RO a1 a18 k
 | n + 1 => fun S r T RO a1 a18 k => tree_turn (fun m e => by cases e; exact ct_Tree n) S r T RO a1 a18 k
end
end
section
theorem lk695 (w : World) : (hd.heap_1 w.params).lookup 695 = some { cls := .type "list", dict := none, data := .seq #[.str ⟨#[97]⟩ 1309, .str ⟨#[98]⟩ 1310, .str ⟨#[90]⟩ 1311, .str ⟨#[48]⟩ 1312, .str ⟨#[32]⟩ 1313, .str ⟨#[126]⟩ 1314, .str ⟨#[233]⟩ 1315, .str ⟨#[26085]⟩ 1316] 0, slots := #[] } := by kernel_rfl
noncomputable abbrev letRow : List Value := [.str ⟨#[97]⟩ 1309, .str ⟨#[98]⟩ 1310, .str ⟨#[90]⟩ 1311, .str ⟨#[48]⟩ 1312, .str ⟨#[32]⟩ 1313, .str ⟨#[126]⟩ 1314, .str ⟨#[233]⟩ 1315, .str ⟨#[26085]⟩ 1316]
theorem let_str {k : Nat} (hk : k < 8) : ∃ tk, letRow[k]? = some (.str ⟨#[letC k]⟩ tk) ∧ bInts (Str.utf8Of (letC k)).toArray = letO k ∧ Str.isSurrogate (letC k) = false := by
 exact lt8 (P := fun k => ∃ tk, letRow[k]? = some (.str ⟨#[letC k]⟩ tk) ∧ bInts (Str.utf8Of (letC k)).toArray = letO k ∧ Str.isSurrogate (letC k) = false) hk ⟨_, rfl, by decide, by decide⟩
  ⟨_, rfl, by decide, by decide⟩
  ⟨_, rfl, by decide, by decide⟩
  ⟨_, rfl, by decide, by decide⟩
  ⟨_, rfl, by decide, by decide⟩
  ⟨_, rfl, by decide, by decide⟩
  ⟨_, rfl, by decide, by decide⟩
  ⟨_, rfl, by decide, by decide⟩
theorem utf8_list (l : List Nat) : utf8 ⟨l.toArray⟩ = (l.map fun y => bInts (Str.utf8Of y).toArray).flatten := by
 have gen : ∀ (l : List Nat) (acc : Array UInt8), bInts (l.foldl (fun acc y => acc ++ (Str.utf8Of y).toArray) acc) = bInts acc ++ (l.map fun y => bInts (Str.utf8Of y).toArray).flatten := by
  intro l
  induction l with
  | nil => intro acc; simp
  | cons y r ih => intro acc; rw [List.foldl_cons, ih, bInts_append, List.append_assoc]; rfl
 unfold utf8
 rw [← Array.foldl_toList, gen]
 rfl
theorem let_utf8 {ks : List Nat} (h : ∀ k ∈ ks, k < 8) : utf8 ⟨(ks.map letC).toArray⟩ = (ks.map letO).flatten := by
 rw [utf8_list, List.map_map]
 congr 1
 exact List.map_congr_left fun k hk => (let_str (h k hk)).choose_spec.2.1
theorem join_cps {sep : Str} (h : sep.cps = #[]) : ∀ ys : List Str, (Str.join sep ys).cps.toList = (ys.map fun y => y.cps.toList).flatten
 | [] => rfl
 | [x] => by simp [Str.join]
 | x :: y :: r => by
  have ih := join_cps h (y :: r)
  show ((x ++ sep) ++ Str.join sep (y :: r)).cps.toList = _
  have e : ((x ++ sep) ++ Str.join sep (y :: r)).cps = x.cps ++ sep.cps ++ (Str.join sep (y :: r)).cps := rfl
  rw [e, Array.toList_append, Array.toList_append, ih, h]
  simp
theorem ones_sum : ∀ l : List Nat, ((l.map fun k => (⟨#[letC k]⟩ : Str)).map fun s : Str => s.length).sum = l.length
 | [] => rfl
 | a :: r => by
  have ih := ones_sum r
  rw [List.map_cons, List.map_cons, List.sum_cons, ih]
  show 1 + r.length = r.length + 1
  kcf_m
theorem letters_flat : ∀ l : List Nat, (l.map fun k => [letC k]).flatten = l.map letC
 | [] => rfl
 | a :: r => by
  have ih := letters_flat r
  rw [List.map_cons, List.flatten_cons, ih]; rfl
theorem w_getm_join {γ : G} {A : Around} {h : Heap} {t : Nat} {x : Str} {u : Tok} {pl : Sem Bool} {Q : Value × List Value → Heap → Nat → Prop} (q : Q (.builtin "str.join", [.str x u]) h t) : W γ A (getMethod (.str x u) (ofString "join") pl) Q h t :=
 ⟨getMethod_builtin (s := mkS γ h t) rfl PySem.F.plainAttrs_str PySem.F.slot_str_join PySem.F.type_str_join (fun a e => by cases e) ⟨h, t, rfl, q⟩⟩
theorem text_str {ks : List Nat} (h8 : ∀ k ∈ ks, k < 8) {s : Str} (hs : s.cps.toList = ks.map letC) : utf8 s = (ks.map letO).flatten ∧ ∀ y ∈ s.cps, Str.isSurrogate y = false := by
 have e : s = ⟨(ks.map letC).toArray⟩ := by
  obtain ⟨c⟩ := s
  simp only at hs
  rw [← hs]
 rw [e]
 refine ⟨let_utf8 h8, fun y hy => ?_⟩
 have hy : y ∈ ks.map letC := by simpa using hy
 obtain ⟨k, hk, rfl⟩ := List.mem_map.mp hy
 exact (let_str (h8 k hk)).choose_spec.2.2
noncomputable def GiveAt (γ : G) (n : Nat) : Prop := ∀ {A : Around} {D : Dm} {news : List (Addr × Obj)} {h : Heap} {t : Nat} {R : Value → Heap → Nat → Prop} {tr : Tree} {v : Value}, SC γ D news h → Room A (2 + n) → Ok n tr → TreeIn n D tr v →
 (∀ h t D' gv, Le D D' → GivenIn γ n D' tr gv → SC γ D' news h → R gv h t) → WC γ A (.call (.ref 740) ⟨[v], []⟩) R h t
noncomputable abbrev giveGl : List (Str × Value) := [(ofString "len", .builtin "len"), (ofString "_law_letters", .ref 695), (ofString "bytes", .type "bytes"), (ofString "_law_given", .ref 740)]
section
variable {γ : G} {A : Around} {D : Dm} {env : Env} {gl cl : List (Str × Value)} {vars : List (Str × Option Value)} {news rest : List (Addr × Obj)} {h : Heap} {t : Nat} {R : Value → Heap → Nat → Prop} {a : Addr} {ao : Obj} {tt : Tok}
theorem give_none (S : SC γ D news h) (r : Room A 2) (ha : D a = some ao) (hT : TupO [.str (ofString "none") tt] ao) (k : ∀ h t, SC γ D news h → R .none h t) : WC γ A (.call (.ref 740) ⟨[.ref a], []⟩) R h t := by
 have sz : sizeLine = 16777216 := sizeLine_eq
 refine' w_enter S ?ho ?hcd r.lt [(ofString "tree", .ref a)] [ofString "part", ofString "found", ofString "key"] giveGl ?hb ?ok (globs (by kernel_rfl)) ?_
 kd_facts1
 kd_adr
 kd_p
 refine w_tt F ha hT ?_
 kd_p
 refine w_eq_strb (c := true) (by kernel_rfl) ?_
 kd_p
 refine Br.tt ?_
 kd_p
 exact k _ _ F.sc
theorem give_truth (S : SC γ D news h) (r : Room A 2) (ha : D a = some ao) {b : Bool} (hT : TupO [.str (ofString "truth") tt, .bool b] ao) (k : ∀ h t, SC γ D news h → R (.bool b) h t) : WC γ A (.call (.ref 740) ⟨[.ref a], []⟩) R h t := by
 have sz : sizeLine = 16777216 := sizeLine_eq
 refine' w_enter S ?ho ?hcd r.lt [(ofString "tree", .ref a)] [ofString "part", ofString "found", ofString "key"] giveGl ?hb ?ok (globs (by kernel_rfl)) ?_
 kd_facts1
 kd_adr
 kd_p
 refine w_tt F ha hT ?_
 kd_p
 refine w_eq_strb (c := false) (by kernel_rfl) ?_
 kd_p
 refine Br.ff ?_
 kd_p
 refine w_tt F ha hT ?_
 kd_p
 refine w_eq_strb (c := false) (by kernel_rfl) ?_
 kd_p
 refine Br.ff ?_
 kd_p
 refine w_tt F ha hT ?_
 kd_p
 refine w_eq_strb (c := false) (by kernel_rfl) ?_
 kd_p
 refine Br.ff ?_
 kd_p
 refine w_tt F ha hT ?_
 kd_p
 refine w_eq_strb (c := false) (by kernel_rfl) ?_
 kd_p
 refine Br.ff ?_
 kd_p
 refine w_tt F ha hT ?_
 kd_p
 refine w_eq_strb (c := false) (by kernel_rfl) ?_
 kd_p
 refine Br.ff ?_
 kd_p
 refine w_tt F ha hT ?_
 kd_p
 exact k _ _ F.sc
theorem give_num (S : SC γ D news h) (r : Room A 2) (ha : D a = some ao) {n : Int} {tn : Tok} (hT : TupO [.str (ofString "number") tt, .int n tn] ao) (k : ∀ h t, SC γ D news h → R (.int n tn) h t) : WC γ A (.call (.ref 740) ⟨[.ref a], []⟩) R h t := by
 have sz : sizeLine = 16777216 := sizeLine_eq
 refine' w_enter S ?ho ?hcd r.lt [(ofString "tree", .ref a)] [ofString "part", ofString "found", ofString "key"] giveGl ?hb ?ok (globs (by kernel_rfl)) ?_
 kd_facts1
 kd_adr
 kd_p
 refine w_tt F ha hT ?_
 kd_p
 refine w_eq_strb (c := false) (by kernel_rfl) ?_
 kd_p
 refine Br.ff ?_
 kd_p
 refine w_tt F ha hT ?_
 kd_p
 refine w_eq_strb (c := false) (by kernel_rfl) ?_
 kd_p
 refine Br.ff ?_
 kd_p
 refine w_tt F ha hT ?_
 kd_p
 refine w_eq_strb (c := false) (by kernel_rfl) ?_
 kd_p
 refine Br.ff ?_
 kd_p
 refine w_tt F ha hT ?_
 kd_p
 refine w_eq_strb (c := false) (by kernel_rfl) ?_
 kd_p
 refine Br.ff ?_
 kd_p
 refine w_tt F ha hT ?_
 kd_p
 refine w_eq_strb (c := false) (by kernel_rfl) ?_
 kd_p
 refine Br.ff ?_
 kd_p
 refine w_tt F ha hT ?_
 kd_p
 exact k _ _ F.sc
theorem give_oct (S : SC γ D news h) (r : Room A 2) (ha : D a = some ao) {l2 : Addr} {lo2 : Obj} {bs : List Int} (hT : TupO [.str (ofString "octets") tt, .ref l2] ao) (hl : D l2 = some lo2) (hL : IO bs lo2) (hr : ∀ n ∈ bs, 0 ≤ n ∧ n < 256) (hz : bs.length ≤ 800) (k : ∀ h t b tk, bInts b = bs → SC γ D news h → R (.bytes b tk) h t) : WC γ A (.call (.ref 740) ⟨[.ref a], []⟩) R h t := by
 have sz : sizeLine = 16777216 := sizeLine_eq
 refine' w_enter S ?ho ?hcd r.lt [(ofString "tree", .ref a)] [ofString "part", ofString "found", ofString "key"] giveGl ?hb ?ok (globs (by kernel_rfl)) ?_
 kd_facts1
 kd_adr
 kd_p
 refine w_tt F ha hT ?_
 kd_p
 refine w_eq_strb (c := false) (by kernel_rfl) ?_
 kd_p
 refine Br.ff ?_
 kd_p
 refine w_tt F ha hT ?_
 kd_p
 refine w_eq_strb (c := false) (by kernel_rfl) ?_
 kd_p
 refine Br.ff ?_
 kd_p
 refine w_tt F ha hT ?_
 kd_p
 refine w_eq_strb (c := true) (by kernel_rfl) ?_
 kd_p
 refine Br.tt ?_
 kd_p
 refine w_tt F ha hT ?_
 kd_p
 refine ek1_2 hL fun vs h1 h2 => ?_; clear hL
 refine w_bytes_list r.hn F (F.sc.keep _ _ hl) h2 h1 hr (Nat.le_trans hz (by decide)) fun h t tk b hb F => ?_
 kd_p
 exact k _ _ b _ hb F.sc
theorem give_text (S : SC γ D news h) (r : Room A 2) (ha : D a = some ao) {l2 : Addr} {lo2 : Obj} {ks : List Nat} {kvs : List Value} (hT : TupO [.str (ofString "text") tt, .ref l2] ao) (hl : D l2 = some lo2) (hL : LstO kvs.toArray lo2) (hi : IntsAre kvs (nInts ks)) (h8 : ∀ k ∈ ks, k < 8) (hn : ks.length ≤ 300) (k : ∀ h t D' s tk, Le D D' → utf8 s = textOct ks → (∀ y ∈ s.cps, Str.isSurrogate y = false) → SC γ D' news h → R (.str s tk) h t) : WC γ A (.call (.ref 740) ⟨[.ref a], []⟩) R h t := by
 have sz : sizeLine = 16777216 := sizeLine_eq
 refine' w_enter S ?ho ?hcd r.lt [(ofString "tree", .ref a)] [ofString "part", ofString "found", ofString "key"] giveGl ?hb ?ok (globs (by kernel_rfl)) ?_
 kd_facts1
 kd_adr
 kd_p
 refine w_tt F ha hT ?_
 kd_p
 refine w_eq_strb (c := false) (by kernel_rfl) ?_
 kd_p
 refine Br.ff ?_
 kd_p
 refine w_tt F ha hT ?_
 kd_p
 refine w_eq_strb (c := true) (by kernel_rfl) ?_
 kd_p
 refine Br.tt ?_
 kd_p
 have il : kvs.length = ks.length := by rw [hi.length]; simp [nInts]
 have kint : ∀ {j : Nat} {v : Value}, kvs[j]? = some v → ∃ kk tk, v = .int (kk : Nat) tk ∧ ks[j]? = some kk ∧ kk < 8 := by
  intro j v hv
  have hj : j < ks.length := by rw [← il]; exact (List.getElem?_eq_some_iff.mp hv).1
  refine ek1_1 (hi.get j ((ks[j] : Nat) : Int) (by simp [nInts, hj])) fun tk e => ?_
  rw [hv] at e; cases e
  exact ⟨ks[j], tk, rfl, by simp [hj], h8 _ (List.getElem_mem hj)⟩
 refine w_tt F ha hT ?_
 kd_p
 refine w_len_list (F.sc.keep _ _ hl) hL.ls (Nat.le_trans (Nat.le_trans (Nat.le_of_eq il) hn) (by decide)) ?_
 refine il.symm ▸ ?_
 kd_p
 refine Br.dec (fun hc => ?_) fun hc => ?_
 ·kd_p
  refine w_tt F ha hT ?_
  kd_p
  obtain ⟨v0, hv0⟩ : ∃ v, kvs[0]? = some v := ⟨kvs[0]'(by kcf_m), by simp⟩
  refine ek2_3 (kint hv0) fun kk tk z1 hk0 hk8 => ?_; obtain rfl := z1
  refine ek1_3 (let_str hk8) fun tks es eu esur => ?_
  refine w_tail_list (F.sc.keep _ _ hl) hL.ls (by decide) (x := .int (kk : Nat) tk) hv0 (by decide) ?_ (by with_unfolding_all rfl)
  kd_p
  refine w_tail_list (F.sc.inK _ _ (lk695 _)) (LstO.ls (items := letRow) ⟨0, rfl⟩) (by kcf_m) (x := .str ⟨#[letC kk]⟩ tks) (by rw [Int.toNat_natCast]; exact es) (by kcf_m) ?_ (by with_unfolding_all rfl)
  kd_p
  refine w_tt F ha hT ?_
  kd_p
  refine w_len_list (F.sc.keep _ _ hl) hL.ls (Nat.le_trans (Nat.le_trans (Nat.le_of_eq il) hn) (by decide)) ?_
  refine il.symm ▸ ?_
  kd_p
  refine w_mul_str (Int.lt_of_lt_of_le (by decide) hc) (Int.ofNat_le.mpr (Nat.le_trans hn (by decide))) fun tk t => ?_
  kd_p
  have hh : ks.headD 0 = kk := by cases ks with
   | nil => simp at hk0
   | cons a r => simp at hk0; exact hk0
  refine k _ _ D _ _ (Le.refl _) ?_ ?_ F.sc
  ·rw [utf8_list]
   unfold textOct
   rw [if_pos (Int.ofNat_lt.mp hc), hh, Int.toNat_natCast, List.map_replicate, eu]
  ·intro y hy
   have hy : y ∈ List.replicate ((ks.length : Int)).toNat (letC kk) := by simpa using hy
   rw [List.eq_of_mem_replicate hy]; exact esur
 kd_p
 refine w_getm_join ?_
 kd_p
 refine w_listcomp F ?_ (ns := [ofString "k"]) (gn := [ofString "_law_letters"]) (cn := []) (by kernel_rfl)
 kd_p
 refine w_tt F ha hT ?_
 kd_p
 refine w_pyiter_lst F hl hL fun it own h itr hst F => ?_
 refine w_comp_it (itr _ .name (.inl ⟨_, _, rfl⟩)) r.hn F hst [ofString "k"] [(ofString "_law_letters", .ref 695)] [] (by kernel_rfl) (globs (by kernel_rfl)) .nil (by kcf_m)
  (fun i D' ys news' => news' = news ∧ StrsAre ys ((ks.take i).map fun k => (⟨#[letC k]⟩ : Str))) ⟨rfl, .nil⟩ (fun ξ ξ ξ ξ ξ ξ q => q) ?_ ?_
 ·intro cenv i D3 ys news' own' uu v h t le3 hii y1; refine ek0_2 y1 fun z1 hz => ?_; clear y1; obtain rfl := z1; intro hx F
  dsimp only [List.map] at F
  refine ek2_3 (kint hx) fun kk tk z1 hk0 hk8 => ?_; obtain rfl := z1
  refine ek1_3 (let_str hk8) fun tks es eu esur => ?_
  refine w_asg_name ?_
  kd_p
  refine w_tests_nil ?_
  refine Br.tt ?_
  kd_p
  refine w_tail_list (F.sc.inK _ _ (lk695 _)) (LstO.ls (items := letRow) ⟨0, rfl⟩) (by kcf_m) (x := .str ⟨#[letC kk]⟩ tks) (by rw [Int.toNat_natCast]; exact es) (by kcf_m) ?_ (by with_unfolding_all rfl)
  refine ⟨Le.refl _, rfl, ⟨rfl, ?_⟩, F⟩
  refine ek1_1 (List.getElem?_eq_some_iff.mp hk0) fun hj ej => ?_
  rw [List.take_succ_eq_append_getElem hj, ej, List.map_append]
  exact strs_snoc hz _ _
 intro D3 ys news' acc o h t le3 y1; refine ek0_2 y1 fun z1 hz => ?_; clear y1; obtain rfl := z1; intro hl3 F
 rw [il, List.take_length] at hz
 refine F.frzk fun D4 le4 e4 F => ?_
 kd_p
 refine w_join_strs (F.sc.keep _ _ e4) hl3 hz (by rw [ones_sum, List.length_map, show (ofString "").length = 0 by kernel_rfl]; kcf_m) fun tk t => ?_
 kd_p
 have jc : (Txt.join (ofString "") (ks.map fun k => (⟨#[letC k]⟩ : Str))).cps.toList = ks.map letC := by
  show (Builtin.Str.glued _ _).cps.toList = _
  rw [StrLaws.glued_eq_join, join_cps (by kernel_rfl), List.map_map]
  have : ((fun y : Str => y.cps.toList) ∘ fun k => (⟨#[letC k]⟩ : Str)) = fun k => [letC k] := by funext k; rfl
  rw [this, letters_flat]
 obtain ⟨u1, u2⟩ := text_str h8 jc
 refine k _ _ D4 _ _ (le3.trans le4) ?_ u2 F.sc
 rw [u1]
 unfold textOct
 rw [if_neg (by kcf_m)]
theorem give_row {n : Nat} {l2 : Addr} {lo2 : Obj} {items : List Value} {ts : List Tree} (sub : GiveAt γ n) (S : SC γ D news h) (r : Room A (3 + n)) (ha : D a = some ao) (hT : TupO [.str (ofString "row") tt, .ref l2] ao) (hl : D l2 = some lo2) (hL : LstO items.toArray lo2) (hn : items.length = ts.length) (h5 : ts.length ≤ 5) (oks : ∀ t ∈ ts, Ok n t)
  (gs : ∀ (i : Nat) (x : Value) (t : Tree), items[i]? = some x → ts[i]? = some t → TreeIn n D t x) (k : ∀ h t D' gv, Le D D' → GivenIn γ (n + 1) D' (.row ts) gv → SC γ D' news h → R gv h t) : WC γ A (.call (.ref 740) ⟨[.ref a], []⟩) R h t := by
 have r : Room A (2 + n + 1) := r.mono (by kcf_m)
 have sz : sizeLine = 16777216 := sizeLine_eq
 refine' w_enter S ?ho ?hcd r.lt [(ofString "tree", .ref a)] [ofString "part", ofString "found", ofString "key"] giveGl ?hb ?ok (globs (by kernel_rfl)) ?_
 kd_facts1
 kd_adr
 kd_p
 refine w_tt F ha hT ?_
 kd_p
 refine w_eq_strb (c := false) (by kernel_rfl) ?_
 kd_p
 refine Br.ff ?_
 kd_p
 refine w_tt F ha hT ?_
 kd_p
 refine w_eq_strb (c := false) (by kernel_rfl) ?_
 kd_p
 refine Br.ff ?_
 kd_p
 refine w_tt F ha hT ?_
 kd_p
 refine w_eq_strb (c := false) (by kernel_rfl) ?_
 kd_p
 refine Br.ff ?_
 kd_p
 refine w_tt F ha hT ?_
 kd_p
 refine w_eq_strb (c := true) (by kernel_rfl) ?_
 kd_p
 refine Br.tt ?_
 kd_p
 refine w_listcomp F ?_ (ns := [ofString "part"]) (gn := [ofString "_law_given"]) (cn := []) (by kernel_rfl)
 kd_p
 refine w_tt F ha hT ?_
 kd_p
 refine w_pyiter_lst F hl hL fun it own h itr hst F => ?_
 refine w_comp_it (itr _ .name (.inl ⟨_, _, rfl⟩)) r.hn F hst [ofString "part"] [(ofString "_law_given", .ref 740)] [] (by kernel_rfl) (globs (by kernel_rfl)) .nil (Nat.le_trans (Nat.le_trans (Nat.le_of_eq hn) h5) (by decide))
  (fun i D' ys news' => news' = news ∧ (ys.length = (ts.take i).length ∧ ∀ (j : Nat) (x : Value) (t : Tree), ys[j]? = some x → (ts.take i)[j]? = some t → GivenIn γ n D' t x)) ⟨rfl, rfl, fun i v t hv => by simp at hv⟩ (fun i D D' ys news l z => ek0_3 z fun x1 x2 x3 => ⟨x1, x2, fun j x t h1 h2 => (x3 j x t h1 h2).mono l⟩) ?_ ?_
 ·intro cenv i D3 ys news' own' uu v h t le3 hii y1; refine ek0_3 y1 ?_; clear y1; intro z1 y1 y2; obtain rfl := z1; intro hx F
  dsimp only [List.map] at F
  rw [hn] at hii
  have et : ts[i]? = some ts[i] := List.getElem?_eq_getElem hii
  refine w_asg_name ?_
  kd_p
  refine w_tests_nil ?_
  refine Br.tt ?_
  kd_p
  refine ek1_2 (F.out (ps := []) Take.nil) fun oL S back => ?_
  refine w_call (sub S (r.deeper.mono (Nat.le_refl _)) (oks _ (List.getElem_mem hii)) ((gs i v _ hx et).mono le3) fun h t D4 gv le4 gi S => ?_)
  have F := back _ [] _ le4 S
  refine ⟨le4, rfl, ⟨rfl, ?_⟩, F⟩
  refine (List.take_succ_eq_append_getElem hii).symm ▸ ?_
  exact snoc_all ⟨y1, fun j x t h1 h2 => (y2 j x t h1 h2).mono le4⟩ gi
 intro D3 ys news' acc o h t le3 y1; refine ek0_3 y1 ?_; clear y1; intro z1 y1 y2; obtain rfl := z1; intro hl3 F
 rw [hn, List.take_length] at y1 y2
 refine F.frzk fun D4 le4 e4 F => ?_
 kd_p
 exact k _ _ D4 _ (le3.trans le4) ⟨acc, o, ys, rfl, e4, hl3, y1, fun j x t h1 h2 => (y2 j x t h1 h2).mono le4⟩ F.sc
theorem give_map {n : Nat} {l2 : Addr} {lo2 : Obj} {items : List Value} {ts : List (List Nat × Tree)} (sub : GiveAt γ n) (S : SC γ D news h) (r : Room A (3 + n)) (ha : D a = some ao) (hT : TupO [.str (ofString "map") tt, .ref l2] ao) (hl : D l2 = some lo2) (hL : LstO items.toArray lo2) (hn : items.length = ts.length) (ok : Ok (n + 1) (.map ts))
  (gs : ∀ (i : Nat) (x : Value) (k : List Nat) (t : Tree), items[i]? = some x → ts[i]? = some (k, t) → ∃ pa po s u pv, x = .ref pa ∧ D pa = some po ∧ TupO [.str s u, pv] po ∧ s.cps.toList = k ∧ TreeIn n D t pv) (k : ∀ h t D' gv, Le D D' → GivenIn γ (n + 1) D' (.map ts) gv → SC γ D' news h → R gv h t) : WC γ A (.call (.ref 740) ⟨[.ref a], []⟩) R h t := by
 have r : Room A (2 + n + 1) := r.mono (by kcf_m)
 refine ek0_3 ok fun h5 nd oks => ?_; clear ok
 have sz : sizeLine = 16777216 := sizeLine_eq
 refine' w_enter S ?ho ?hcd r.lt [(ofString "tree", .ref a)] [ofString "part", ofString "found", ofString "key"] giveGl ?hb ?ok (globs (by kernel_rfl)) ?_
 kd_facts1
 kd_adr
 kd_p
 refine w_tt F ha hT ?_
 kd_p
 refine w_eq_strb (c := false) (by kernel_rfl) ?_
 kd_p
 refine Br.ff ?_
 kd_p
 refine w_tt F ha hT ?_
 kd_p
 refine w_eq_strb (c := false) (by kernel_rfl) ?_
 kd_p
 refine Br.ff ?_
 kd_p
 refine w_tt F ha hT ?_
 kd_p
 refine w_eq_strb (c := false) (by kernel_rfl) ?_
 kd_p
 refine Br.ff ?_
 kd_p
 refine w_tt F ha hT ?_
 kd_p
 refine w_eq_strb (c := false) (by kernel_rfl) ?_
 kd_p
 refine Br.ff ?_
 kd_p
 refine w_tt F ha hT ?_
 kd_p
 refine w_eq_strb (c := true) (by kernel_rfl) ?_
 kd_p
 refine Br.tt ?_
 kd_p
 refine w_dict_empty F fun d dob h hne hd0 F => ?_
 kd_p
 refine w_for ?_
 kd_p
 refine w_tt F ha hT ?_
 kd_p
 have refs : ∀ v ∈ items, ∃ a, v = .ref a := by
  intro v hv
  obtain ⟨i, hi⟩ := List.getElem?_of_mem hv
  have hil : i < ts.length := by rw [← hn]; exact (List.getElem?_eq_some_iff.mp hi).1
  refine ek5_2 (gs i v (ts[i]).1 (ts[i]).2 hi (by simp [hil])) fun pa po s u pv e ξ => ?_
  exact ⟨pa, e⟩
 refine w_pyiter_lst F hl hL fun it own h itr hst F => ?_
 refine w_for_c (itr _ .tup (.inr refs)) r.hn (fun i D' Φ => ∀ (up uk : Option Value) (dob' : Obj) (kvs : List (Str × Value)), (dob'.IsDictOf (sk γ) kvs) → ((kvs.length = (ts.take i).length ∧ ∀ (j : Nat) (p : Str × Value) (q : List Nat × Tree), kvs[j]? = some p → (ts.take i)[j]? = some q → p.1.cps.toList = q.1 ∧ GivenIn γ n D' q.2 p.2)) → Φ [(ofString "tree", some (.ref a)), (ofString "part", up), (ofString "found", some (.ref d)), (ofString "key", uk)] ((d, dob') :: news)) F hst (fun ξ j => j _ _ _ [] hd0 ⟨rfl, fun i v t hv => by simp at hv⟩) (fun i D D' Φ l q up uk dob' kvs x3 z => ek0_2 z fun x4 x5 => q up uk dob' kvs x3 ⟨x4, fun j p q h1 h2 => ⟨(x5 j p q h1 h2).1, (x5 j p q h1 h2).2.mono l⟩⟩) ?_ ?_
 ·intro i D3 own' v h t K0 k0 kr le3 hii hx up uk dob1 kvs hd1 y1; refine ek0_2 y1 ?_; clear y1; intro y1 y2; intro F
  rw [hn] at hii
  have et : ts[i]? = some ts[i] := List.getElem?_eq_getElem hii
  refine ek5_5 (gs i v (ts[i]).1 (ts[i]).2 hx et) fun pa po s u pv z1 epa Tp es g => ?_; obtain rfl := z1
  have kl : kvs.length = i := by rw [y1, List.length_take, Nat.min_eq_left (Nat.le_of_lt hii)]
  have nk : s ∉ kvs.map (·.1) := by
   intro hm
   obtain ⟨p, hp, e⟩ := List.mem_map.mp hm
   obtain ⟨j, hj⟩ := List.getElem?_of_mem hp
   have hjl : j < i := by rw [← kl]; exact (List.getElem?_eq_some_iff.mp hj).1
   have hq : (ts.take i)[j]? = some ts[j] := by rw [List.getElem?_take_of_lt hjl]; simp
   have e2 := (y2 j p _ hj hq).1
   rw [e, es] at e2
   have h1 : (ts.map (·.1))[i]? = some (ts[i]).1 := by simp [hii]
   have h2 : (ts.map (·.1))[j]? = some (ts[i]).1 := by rw [e2]; simp [show j < ts.length by exact Nat.lt_trans hjl hii]
   have := (List.getElem?_inj (by simpa using hii) nd).mp (h1.trans h2.symm)
   exact (fN (nA hjl (Nat.le_of_eq this)) (by kcf_m)).elim
  refine w_asg_tup2 F r.hn (le3 _ _ epa) Tp fun h F => ?_
  kd_p
  refine F.outk (ps := [(d, dob1)]) (by kp_flats) fun oL S back => ?_
  have S := S.perm (List.perm_append_comm (l₁ := [(d, dob1)]))
  refine w_call (sub S (r.deeper.mono (Nat.le_refl _)) (oks _ (List.getElem_mem hii)).2 (g.mono le3) fun h t D4 gv le4 gi S => ?_)
  have F := back _ [(d, dob1)] _ le4 (S.perm (List.perm_append_comm (l₂ := [(d, dob1)])))
  try kso_len
  kd_p
  refine w_setitem_dict F (by kas_types) hd1 (nZ (nA h5 (nA hii (Nat.le_of_eq kl))) (by kcf_m)) nk fun dob2 h t hd2 F => ?_
  kd_p
  refine k0 D4 _ _ _ _ le4 (fun ξ j => j _ _ dob2 _ hd2 ?_) F
  refine (List.take_succ_eq_append_getElem hii).symm ▸ ?_
  exact snoc_all ⟨y1, fun j p q h1 h2 => ⟨(y2 j p q h1 h2).1, (y2 j p q h1 h2).2.mono le4⟩⟩ ⟨es, gi⟩
 intro D3 h t le3 up uk dob1 kvs hd1 y1; refine ek0_2 y1 ?_; clear y1; intro y1 y2; intro F
 rw [hn, List.take_length] at y1 y2
 refine F.frzk fun D4 le4 e4 F => ?_
 refine q0 _ _ _ ?_
 clear q0
 kd_p
 exact k _ _ D4 _ (le3.trans le4) ⟨d, dob1, kvs, rfl, e4, hd1, hne, y1, fun j s x k t h1 h2 => ⟨(y2 j _ _ h1 h2).1, (y2 j _ _ h1 h2).2.mono le4⟩⟩ F.sc
end
theorem ct_Give {γ : G} : ∀ n, GiveAt γ n := by
 have leaf : ∀ n, (∀ m, n = m + 1 → GiveAt γ m) → GiveAt γ n := by
  intro n sub A D news h t R tr v S r ok g k
  have r2 : Room A 2 := r.mono (Nat.le_add_right _ _)
  cases tr with
  | none =>
   have g := tre0.mp g
   refine ek3_3 g fun a o tt z1 e1 e2 => ?_; clear g; obtain rfl := z1
   exact give_none S r2 e1 e2 fun h t S => k _ _ D _ (Le.refl _) (giv0.mpr rfl) S
  | truth b =>
   have g := tre1.mp g
   refine ek3_3 g fun a o tt z1 e1 e2 => ?_; clear g; obtain rfl := z1
   exact give_truth S r2 e1 e2 fun h t S => k _ _ D _ (Le.refl _) (giv1.mpr rfl) S
  | num m =>
   have g := tre2.mp g
   refine ek4_3 g fun a o tt u z1 e1 e2 => ?_; clear g; obtain rfl := z1
   exact give_num S r2 e1 e2 fun h t S => k _ _ D _ (Le.refl _) (giv2.mpr ⟨_, rfl⟩) S
  | text bs =>
   have g := tre3.mp g
   refine ek7_9 g fun a o tt l2 lo2 ks kvs z1 e1 e2 e3 e4 e5 e6 e7 e8 => ?_; clear g; obtain rfl := z1
   exact give_text S r2 e1 e2 e3 e4 e5 e6 e7 fun h t D' s tk le u1 u2 S => k _ _ D' _ le (giv3.mpr ⟨s, tk, rfl, u1.trans e8, u2⟩) S
  | oct bs =>
   have g := tre4.mp g
   refine ek5_6 g fun a o tt l2 lo2 z1 e1 e2 e3 e4 e5 => ?_; clear g; obtain rfl := z1
   have ok := ok4.mp ok
   exact give_oct S r2 e1 e2 e3 e4 e5 ok fun h t b tk hb S => k _ _ D _ (Le.refl _) (giv4.mpr ⟨b, tk, rfl, hb⟩) S
  | row ts =>
   cases n with
   | zero => exact ok.elim
   | succ n =>
    refine ek6_7 g fun a o tt l2 lo2 items z1 e1 e2 e3 e4 e5 e6 => ?_; clear g; obtain rfl := z1
    exact give_row (sub n rfl) S (r.mono (by kcf_m)) e1 e2 e3 e4 e5 ok.1 ok.2 e6 k
  | map ts =>
   cases n with
   | zero => exact ok.elim
   | succ n =>
    refine ek6_7 g fun a o tt l2 lo2 items z1 e1 e2 e3 e4 e5 e6 => ?_; clear g; obtain rfl := z1
    exact give_map (sub n rfl) S (r.mono (by kcf_m)) e1 e2 e3 e4 e5 ok e6 k
 intro n
 induction n with
 | zero => exact leaf 0 fun m h => absurd h (by kcf_m)
 | succ n ih => exact leaf (n + 1) fun m h => by cases h; exact ih
end
section
theorem l_len (w : World) : lenIn (hd.heap_1 w.params) 690 431 = true := by kernel_rfl
theorem ints_take {vs : List Value} {ns : List Int} (h : IntsAre vs ns) : ∀ n, IntsAre (vs.take n) (ns.take n) := by
 induction h with
 | nil => intro n; simp; exact .nil
 | cons a t _ ih =>
  intro n
  cases n with
  | zero => exact .nil
  | succ n => exact .cons _ _ (ih n)
theorem TabIs.minus {D D10 : Dm} {line col : Nat} {q : Str} {o od : Obj} {bd : Addr} {fs : List (Str × Value)} (T : TabIs D line col q o) (ebd : D bd = some od) (TB : TabO fs od) (same : ∀ b, b ≠ bd → D10 b = D b) : TabIs D10 line col q o := by
 rcases T with rfl | ⟨c', e, oc, vs, t, e1, e2, e3⟩
 ·exact .inl rfl
 ·refine .inr ⟨c', e, oc, vs, t, ?_, e2, e3⟩
  rw [same c' fun w => ?_]
  ·exact e1
  ·subst w
   rw [ebd] at e1
   cases e1
   obtain ⟨_, _, e4, _⟩ := TB
   rw [e4] at e2
   cases e2
theorem finOut_le {p : Pv} (okp : p.ok) (out : List Int) : (finOut p out).length ≤ out.length + 20 := by
 have er := p.el_range okp out.length 0
 have wl := pw_le er.1 er.2
 have pdl := padN_length out.length (show 0 < pw (p.el out.length 0) by exact wl.1)
 unfold finOut
 simp only [List.length_append, cell, KTBy.little_length]
 exact nZ (nA wl.2 (nA wl.2 pdl)) (by kcf_m)
noncomputable def tree0 : Tree := .row [.text [115, 111, 109, 101], .map [([116, 104, 105, 110, 103], .num 300)]]
theorem tree0_ok : Ok 2 tree0 := by
 refine ⟨by decide, fun t ht => ?_⟩
 have ht : t = .text [115, 111, 109, 101] ∨ t = .map [([116, 104, 105, 110, 103], .num 300)] := by simpa using ht
 rcases ht with rfl | rfl
 ·show ([115, 111, 109, 101] : List Int).length ≤ 800
  decide
 ·refine ⟨by decide, by simp, fun p hp => ?_⟩
  have hp : p = ([116, 104, 105, 110, 103], .num 300) := by simpa using hp
  subst hp
  refine ⟨⟨by decide, by decide⟩, ?_⟩
  show (-9223372036854775808 : Int) ≤ 300 ∧ (300 : Int) < 9223372036854775808
  decide
theorem first10 {f : Int} (f0 : 0 ≤ f) (f1 : f ≤ 3) : 10 ≤ (finOut (lay f 2 tree0 []).2 (lay f 2 tree0 []).1).length := by
 have h : f = 0 ∨ f = 1 ∨ f = 2 ∨ f = 3 := by kcf_m
 rcases h with rfl | rfl | rfl | rfl <;> exact Nat.le_of_ble_eq_true (by kernel_rfl)
noncomputable abbrev lawGl : List (Str × Value) := [(ofString "_law_next", .ref 711), (ofString "_law_tree", .ref 735), (ofString "Builder", .ref 690), (ofString "len", .builtin "len"), (ofString "_law_given", .ref 740), (ofString "_law_whole_buffer", .ref 804), (ofString "isinstance", .builtin "isinstance"), (ofString "bytearray", .type "bytearray"), (ofString "list", .type "list")]
section
variable {γ : G} {A : Around} {D : Dm} {env : Env} {gl cl : List (Str × Value)} {vars : List (Str × Option Value)} {news rest : List (Addr × Obj)} {h : Heap} {t : Nat} {R : Value → Heap → Nat → Prop} {sc : Addr} {so to6 to7 : Obj} {items : List Value} {ns : List Int}
theorem ct_law (S : SC γ D ((646, to6) :: (780, to7) :: rest) h) (r : Room A 60) (bm : BM D) (t6 : TabIs D 450 34 endQ to6) (t7 : TabIs D 620 30 layQ to7) (hsc : D sc = some so) (hS : LsO items so) (hi : IntsAre items ns) (hn : ns.length ≤ 1000000)
  (k : ∀ h t D' to6' to7' rest', Le D D' → TabIs D' 450 34 endQ to6' → TabIs D' 620 30 layQ to7' → SC γ D' ((646, to6') :: (780, to7') :: rest') h → R (.bool true) h t) : VC γ A (.call (.ref 811) ⟨[.ref sc], []⟩) R h t := by
 have sz : sizeLine = 16777216 := sizeLine_eq
 have il : items.length = ns.length := hi.length
 have r : Room A (59 + 1) := r
 refine' v_enter S ?ho ?hcd r.lt [(ofString "script", .ref sc)] [ofString "tape", ofString "force", ofString "first", ofString "tree", ofString "maker", ofString "ahead", ofString "out", ofString "told"] lawGl ?hb ?ok (globs (by kernel_rfl)) ?_
 kd_facts1
 kd_adr
 kct_ten
 refine w_sl ?_
 refine w_part_none ?_
 refine w_part_some ?_
 kd_p
 refine w_part_none ?_
 refine w_tsl F (F.sc.keep _ _ hsc) hS .none (.int _ _) .none (by decide) (Nat.le_trans (Nat.le_of_eq il) hn) (fun rw0 ro h hro F => ?_)
 rw [show slicePick items.toArray none (some 40) none = (items.take 40).toArray from slicePick_upto' items.toArray 40] at hro
 refine F.frzk fun D1 le1 erw F => ?_
 kd_p
 refine w_newlist F (n_le rfl) fun tp tpo h hto F => ?_
 have T : TapeE (ns.take 40) D1 tpo := ⟨0, rw0, _, ro, items.take 40, hto.ls, erw, hro.ls, ints_take hi 40, by simp; kcf_m⟩
 clear hto
 kd_p
 kct_ten
 refine F.outk (ps := [(tp, tpo)]) (by kp_flats) fun oL S back => ?_
 refine w_call (ct_nextE S (r.deeper.mono (Nat.succ_pos _)) T fun h t x1 tk1 tpo1 T S => ?_)
 have F := back _ [(tp, tpo1)] _ (Le.refl _) S
 try kso_len
 kd_p
 refine i_mod (by decide) ?_
 have b1a := Int.emod_nonneg x1 (show (7 : Int) ≠ 0 by decide)
 kd_p
 kct_ten
 have q1 : ∀ {h : Heap} {t : Nat} {force : Int} {tf : Tok}, 0 ≤ force → force ≤ 3 → FX γ D1 env lawGl [] [(ofString "script", some (.ref sc)), (ofString "tape", some (.ref tp)), (ofString "force", some (.int force tf)), (ofString "first", none), (ofString "tree", none), (ofString "maker", none), (ofString "ahead", none), (ofString "out", none), (ofString "told", none)] ((tp, tpo1) :: (646, to6) :: (780, to7) :: rest) h → Q0 .next h t := by
  clear F
  intro h t force tf f0 f1 F
  refine q0 _ _ _ ?_
  clear q0
  kd_p
  kct_ten
  refine F.outk (ps := [(tp, tpo1)]) (by kp_flats) fun oL S back => ?_
  refine w_call (ct_nextE S (r.deeper.mono (Nat.succ_pos _)) T fun h t x2 tk2 tpo2 T S => ?_)
  have F := back _ [(tp, tpo2)] _ (Le.refl _) S
  try kso_len
  kd_p
  refine i_mod (by decide) ?_
  kd_p
  kct_ten
  refine w_newlist F (n_le rfl) fun rm rmo h hrm F => ?_
  have RO : RoomO 18 3 rmo := ⟨_, _, hrm.ls⟩
  clear hrm
  kd_p
  refine F.outk (ps := [(tp, tpo2), (rm, rmo)]) (by kp_flats) fun oL S back => ?_
  refine w_call (ct_Tree 3 S (r.deeper.mono (Nat.le_add_left _ _)) T RO (by decide) (by decide) fun h t D2 tr tv tpo3 rmo3 b3 le2 okt ti T RO nle S => ?_)
  have F := back _ [(tp, tpo3), (rm, rmo3)] _ le2 S
  try kso_len
  have n18 : nodes 3 tr ≤ 18 := Int.ofNat_le.mp nle
  kd_p
  refine F.frzk fun D3 le3 ξ F => ?_
  refine F.frzk fun D4 le4 ξ F => ?_
  have le := le1.trans (le2.trans (le3.trans le4))
  have ti := ti.mono (le3.trans le4)
  clear RO T
  kct_fill
  refine ek1_2 (F.out (ps := []) Take.nil) fun oL S back => ?_
  refine v_call (ct_BNew S (r.deeper.mono (Nat.le_add_left _ _)) fun h t D5 x bd od p1 p2 pd1 pd2 po1 po2 l1 l2 buf bo stk so1 le5 hx TB hp1 TP1 hp2 TP2 hb hs S => ?_)
  have F := back _ [(bd, od), (stk, so1), (buf, bo), (pd2, po2), (pd1, po1)] _ le5 S
  kso_len
  clear back
  kd_p
  have ti := ti.mono le5
  have le := le.trans le5
  have bm := bm.mono le
  have t6 := t6.mono le
  have t7 := t7.mono le
  kct_fill
  have LO := lay_ok f0 f1 3 tr [] okt
  have q2 : ∀ {h : Heap} {t : Nat} {D' : Dm} {buf stk : Addr} {od bo so1 to6 to7 : Obj} {extra : List (Str × Value)} {rest' : List (Addr × Obj)}, Le D5 D' → TabO (bList buf stk force tf p1 p2 extra) od → Extra extra → BaO [] bo → LstO #[] so1 → TabIs D' 450 34 endQ to6 → TabIs D' 620 30 layQ to7 →
    FX γ D' env lawGl [] [(ofString "script", some (.ref sc)), (ofString "tape", some (.ref tp)), (ofString "force", some (.int force tf)), (ofString "first", some (.bool (decide (x2 % 2 = 0)))), (ofString "tree", some tv), (ofString "maker", some (.ref x)), (ofString "ahead", none), (ofString "out", none), (ofString "told", none)] ((bd, od) :: (stk, so1) :: (buf, bo) :: (646, to6) :: (780, to7) :: rest') h → Q0 .next h t := by
   clear F TB hb hs t6 t7 TP1 TP2
   intro h t D6 buf stk od bo so1 to6 to7 extra rest' le6 TB he hb hs t6 t7 F
   refine q0 _ _ _ ?_
   clear q0
   kd_p
   have hx := le6 _ _ hx
   have ti := ti.mono le6
   have bm := bm.mono le6
   have le := le.trans le6
   have st0 := F.sc.st
   have off0 := F.sc.off (bd, od) (.head _)
   refine F.frzk fun D7 le7 ebd F => ?_
   have Bx : Bld D7 x buf stk force := ⟨bd, od, le7 _ _ hx, ebd, btab_of TB he⟩
   kct_fill
   refine b_meth F Bx (by tb_start) (by tb_start) ?_
   kd_p
   refine ek1_2 (F.out (ps := []) Take.nil) fun oL S back => ?_
   refine w_call (ct_Give 3 S (r.deeper.mono (Nat.le_add_left _ _)) okt (ti.mono le7) fun h t D8 gv le8 gi S => ?_)
   have F := back _ [] _ le8 S
   kso_len
   clear back
   kd_p
   have leA := le7.trans le8
   refine F.outk (ps := [(buf, bo), (stk, so1), (646, to6)]) (by kp_flats) fun oL S back => ?_
   refine v_call (ct_Add f0 f1 3 (vs := []) (out := []) S (r.deeper.mono (Nat.le_add_left _ _)) (Bx.mono le8) (bm.mono leA) (t6.mono leA) hb hs okt gi (by simp; kcf_m) (by simp) fun h t D9 to6b tb6 P => ?_)
   refine ek3_5 P fun bo2 so2 a2 le9 hb2 hs2 Vh S => ?_; clear P
   have F := back _ [(buf, bo2), (stk, so2), (646, to6b)] _ le9 S
   kso_len
   clear back
   refine ⟨trivial, ?_⟩
   kd_p
   have leA := leA.trans le9
   kct_ten
   refine w_assign_tup ?_
   kd_p
   refine F.outk (ps := [(780, to7)]) (by kp_flats) fun oL S back => ?_
   refine w_call (ct_wholebuf f0 f1 S (r.deeper.mono (Nat.le_add_left _ _)) (bm.mono leA) (t7.mono leA) okt (ti.mono leA) (by kcf_m) fun h t DA to7b wa wo u ob olo leB tb7 ewa hTw elo hio S => ?_)
   have F := back _ [(780, to7b)] _ leB S
   kso_len
   clear back
   kd_p
   refine w_asg_tup2 F r.hn ewa hTw fun h F => ?_
   kd_p
   have leA := leA.trans leB
   have Bx := Bx.mono (le8.trans (le9.trans leB))
   have ebd := (le8.trans (le9.trans leB)) _ _ ebd
   have Vh := Vh.mono leB
   have tb6 := tb6.mono leB
   have hlen := LO.len
   have okp := LO.ok
   have ple := LO.place
   simp only [List.length_nil] at hlen
   generalize (lay force 3 tr []).1 = out at *
   generalize (lay force 3 tr []).2 = p at *
   kct_fill
   refine F.outk (ps := [(buf, bo2)]) (by kp_flats) fun oL S back => ?_
   refine w_len_inst S.inK (S.keep _ _ (leA _ _ hx)) (S.keep _ _ ebd) (l_len _) ?_
   refine ct_Len S (r.deeper.in1.mono (Nat.succ_pos _)) Bx hb2 (by kcf_m) fun h t tk S => ⟨_, _, rfl, by exact Int.natCast_nonneg _, by kcf_m, fun t tk => ?_⟩
   have F := back _ [(buf, bo2)] _ (Le.refl _) S
   kso_len
   clear back
   kd_p
   refine ⟨fun hc => (by simp at hc), fun ξ => ?_⟩
   kd_p
   kct_fill
   refine b_meth F Bx (by tb_start) (by tb_start) ?_
   kd_p
   refine ek1_4 (F.thaw st0 off0 leA ebd) fun D10 l10 n10 same F => ?_
   have nob : ob ≠ bd := fun e => by
    rw [e, ebd] at elo
    obtain ⟨_, _, _, hlst⟩ := hio
    obtain ⟨_, rfl⟩ := hlst
    obtain ⟨_, _, e1, _⟩ := TB
    have q : Value.type "dict" = Value.type "list" := congrArg Obj.cls (e1.symm.trans (Option.some.inj elo))
    simp at q
   have elo10 : D10 ob = some olo := by rw [same _ nob]; exact elo
   refine F.outk (ps := [(bd, od), (buf, bo2), (stk, so2)]) (by kp_flats) fun oL S back => ?_
   have Sf : SC γ (D10.put bd od) ([(buf, bo2), (stk, so2)] ++ _) h := Sc.freeze S
   have leP : Le DA (D10.put bd od) := fun b y e => by
    unfold Dm.put
    split
    ·rename_i q; subst q; rw [ebd] at e; exact e
    ·rename_i q; rw [same _ q]; exact e
   refine v_call (ct_Finish (D0 := D10) S.st (Sc.freeze_le S) (S.off (bd, od) (.head _)) Sf (r.deeper.mono (Nat.le_add_left _ _)) (l10 _ _ hx) (Dm.put_at _ _ _) TB he hb2 hs2 (Vh.mono leP) okp ple (by kcf_m) fun h t D11 bo3 od3 le11 hb3 TB3 S => ?_)
   have F := back _ [(bd, od3), (buf, bo3), (stk, so2)] _ le11 S
   kso_len
   clear back
   kd_p
   have fl := finOut_le okp out
   refine ek1_2 (id hio) fun vo hio1 hio2 => ?_
   have elo11 := le11 _ _ elo10
   have tb6 := (tb6.minus ebd TB same).mono le11
   have tb7 := (tb7.minus ebd TB same).mono le11
   kct_fill
   refine w_isi_ba (F.got (by kas_types)) hb3 fun tk => ?_
   kd_p
   refine Br.tt ?_
   kd_p
   refine F.outk (ps := [(buf, bo3)]) (by kp_flats) fun oL S back => ?_
   refine w_list_ba S hb3 r.hn (by kcf_m) fun l lo vs h t i1 hl S => ?_
   have F := back _ [(l, lo), (buf, bo3)] _ (Le.refl _) S
   kso_len
   clear back
   kd_p
   refine w_eq_ints r.deeper.units (F.got .head) hl i1 (F.sc.keep _ _ elo11) hio2 hio1 ?_
   kd_p
   refine F.outk (ps := [(646, to6b), (780, to7b)]) (by kp_flats) fun oL S ξ => ?_
   exact k _ _ D11 to6b to7b _ (le.trans (l10.trans le11)) tb6 tb7 S
  clear q0
  refine ⟨fun hc => ?_, fun hc => ?_⟩
  ·have st0 := F.sc.st
   have off0 := F.sc.off (bd, od) (.head _)
   refine F.frzk fun D7 le7 ebd F => ?_
   have Bx : Bld D7 x buf stk force := ⟨bd, od, le7 _ _ hx, ebd, btab_of TB (.inl rfl)⟩
   kct_fill
   refine b_meth F Bx (by tb_start) (by tb_start) ?_
   kd_p
   refine' w_dict1 (sk γ) [(ofString "thing", .int 300 (t + 1 + 1))] F ?da ?db
   case da =>
    intro d dob h hd0 F
    refine w_pairs_cons ?_
    kd_p
    refine w_pairs_nil ?_
    exact ⟨⟨by simp [PySem.strKind, Value.isStrOf], rfl, trivial⟩, dob, hd0, F⟩
   intro d dob h t hne hd F
   refine F.frzk fun D8 le8 ed F => ?_
   kd_p
   refine w_newlist F (n_le rfl) fun l lo h hl F => ?_
   refine F.frzk fun D9 le9 el F => ?_
   have leA := le7.trans (le8.trans le9)
   have gi : GivenIn γ 2 D9 tree0 (.ref l) := by
    refine ⟨l, lo, _, rfl, el, hl, rfl, fun i y t h1 h2 => ?_⟩
    match i with
    | 0 =>
     cases h1; cases h2
     refine ⟨_, _, rfl, by kernel_rfl, fun y hy => ?_⟩
     have : ∀ y ∈ (ofString "some").cps, Str.isSurrogate y = false := by
      have e : (ofString "some").cps = #[115, 111, 109, 101] := by kernel_rfl
      rw [e]; decide
     exact this y hy
    | 1 =>
     cases h1; cases h2
     refine ⟨d, dob, _, rfl, le9 _ _ ed, hd, hne, rfl, fun i s y k t h1 h2 => ?_⟩
     match i with
     | 0 =>
      cases h1; cases h2
      exact ⟨by kernel_rfl, _, rfl⟩
     | i + 1 => cases h2
    | i + 2 => cases h2
   kd_p
   refine F.outk (ps := [(buf, bo), (stk, so1), (646, to6)]) (by kp_flats) fun oL S back => ?_
   refine v_call (ct_Add f0 f1 2 (vs := []) (out := []) S (r.deeper.mono (Nat.le_add_left _ _)) (Bx.mono (le8.trans le9)) (bm.mono leA) (t6.mono leA) hb hs tree0_ok gi (by decide) (by simp) fun h t DA to6b tb6 P => ?_)
   refine ek3_5 P fun bo2 so2 a2 leB hb2 hs2 Vh S => ?_; clear P
   have F := back _ [(buf, bo2), (stk, so2), (646, to6b)] _ leB S
   kso_len
   clear back
   refine ⟨trivial, ?_⟩
   kd_p
   have leA := leA.trans leB
   have LO := lay_ok f0 f1 2 tree0 [] tree0_ok
   have t10 := first10 f0 f1
   have hlen := LO.len
   have okp := LO.ok
   have ple := LO.place
   simp only [List.length_nil] at hlen
   rw [show nodes 2 tree0 = 4 by rfl] at hlen
   generalize (lay force 2 tree0 []).1 = out at *
   generalize (lay force 2 tree0 []).2 = p at *
   have Bx := Bx.mono (le8.trans (le9.trans leB))
   have ebd := (le8.trans (le9.trans leB)) _ _ ebd
   refine v_execs_consq ?_
   intro Q0 q0
   refine v_if_v ?_
   refine v_test_compare ?_ (by with_unfolding_all rfl)
   refine v_ecall ?_ (by with_unfolding_all rfl)
   tb_rel
   refine v_cw_bi1 ?_ (by rfl)
   kd_p
   refine b_meth F Bx (by tb_start) (by tb_start) ?_
   kd_p
   refine ek1_4 (F.thaw st0 off0 leA ebd) fun D10 l10 n10 same F => ?_
   refine F.outk (ps := [(bd, od), (buf, bo2), (stk, so2)]) (by kp_flats) fun oL S back => ?_
   have Sf : SC γ (D10.put bd od) ([(buf, bo2), (stk, so2)] ++ _) h := Sc.freeze S
   have leP : Le DA (D10.put bd od) := fun b y e => by
    unfold Dm.put
    split
    ·rename_i q; subst q; rw [ebd] at e; exact e
    ·rename_i q; rw [same _ q]; exact e
   refine v_call (ct_Finish (D0 := D10) S.st (Sc.freeze_le S) (S.off (bd, od) (.head _)) Sf (r.deeper.mono (Nat.le_add_left _ _)) (l10 _ _ hx) (Dm.put_at _ _ _) TB (.inl rfl) hb2 hs2 (Vh.mono leP) okp ple (le_a hlen (by decide)) fun h t D11 bo3 od3 le11 hb3 TB3 S => ?_)
   have F := back _ [(bd, od3), (buf, bo3), (stk, so2)] _ le11 S
   kso_len
   clear back
   have fl := finOut_le okp out
   have tb6 := (tb6.minus ebd TB same).mono le11
   have leC := l10.trans le11
   refine w_len_ba (F.got (by kas_types)) hb3 (nZ (nA (Nat.le_of_eq sz.symm) (nA hlen fl)) (by kcf_m)) ?_
   kd_p
   refine ⟨fun hc => ?_, fun ξ => ?_⟩
   ·simp only [decide_eq_true_eq] at hc
    kcf_m
   kd_p
   have hp1 := leC _ _ hp1
   have hp2 := leC _ _ hp2
   have hxC := leC _ _ hx
   kct_fill
   refine w_getm_inst F.sc.inK (F.sc.keep _ _ hxC) (F.got (by kas_types)) TB3 (l_meth (by tb_start)) (by with_unfolding_all rfl) ?_
   kd_p
   refine F.outk (ps := [(bd, od3), (pd1, po1), (pd2, po2)]) (by kp_flats) fun oL S back => ?_
   refine v_call (ct_Clear S (r.deeper.mono (Nat.le_add_left _ _)) hxC TB3 (.inr rfl) hp1 TP1 hp2 TP2 fun h t DC od4 po1b po2b buf4 bo4 stk4 so4 leD TB4 hb4 hs4 S => ?_)
   have F := back _ [(bd, od4), (stk4, so4), (buf4, bo4), (pd2, po2b), (pd1, po1b)] _ leD S
   kso_len
   clear back
   refine ⟨trivial, ?_⟩
   kd_p
   have hxD := leD _ _ hxC
   have st4 := F.sc.st
   have off4 := F.sc.off (bd, od4) (.head _)
   refine F.frzk fun DE leE ebd4 F => ?_
   have Bx4 : Bld DE x buf4 stk4 force := ⟨bd, od4, leE _ _ hxD, ebd4, btab_of TB4 (.inr rfl)⟩
   kct_fill
   refine F.outk (ps := [(buf4, bo4)]) (by kp_flats) fun oL S back => ?_
   refine w_len_inst S.inK (S.keep _ _ (leE _ _ hxD)) (S.keep _ _ ebd4) (l_len _) ?_
   refine ct_Len S (r.deeper.in1.mono (Nat.succ_pos _)) Bx4 hb4 (by simp) fun h t tk S => ⟨_, _, rfl, by simp, by simp, fun t tk => ?_⟩
   have F := back _ [(buf4, bo4)] _ (Le.refl _) S
   kso_len
   clear back
   kd_p
   refine ⟨fun hc => (by simp at hc), fun ξ => ?_⟩
   refine ek1_4 (F.thaw st4 off4 leE ebd4) fun DF leF nF sameF F => ?_
   kd_p
   have F := F.perm (Take.perm (ps := [(bd, od4), (stk4, so4), (buf4, bo4), (646, to6b), (780, to7)]) (by kp_flats))
   kso_len
   have leG := leC.trans (leD.trans leF)
   exact q2 leG TB4 (.inr rfl) hb4 hs4 (tb6.mono (leD.trans leF)) (t7.mono leG) F
  ·kd_p
   have F := F.perm (Take.perm (ps := [(bd, od), (stk, so1), (buf, bo), (646, to6), (780, to7)]) (by kp_flats))
   kso_len
   exact q2 (Le.refl _) TB (.inl rfl) hb hs t6 t7 F
 clear q0
 refine Br.dec (fun hc => ?_) fun hc => ?_
 ·kd_p
  exact q1 b1a (iZ hc (by kcf_m)) F
 ·kd_p
  exact q1 (by decide) (by decide) F
end
end
noncomputable def free1 (h : Heap) (a : Addr) : Heap := { h with objs := h.objs.setIfInBounds a { cls := .none, data := .freed } }
theorem free1_get (h : Heap) (a b : Addr) : (free1 h a).get? b = if b = a then none else h.get? b := by
 unfold free1 Heap.get?
 dsimp only
 by_cases e : b = a
 ·subst e
  rw [if_pos rfl, Array.getElem?_setIfInBounds_self]
  by_cases hs : b < h.objs.size
  ·rw [if_pos hs]
  ·rw [if_neg hs]
 ·rw [if_neg e, Array.getElem?_setIfInBounds_ne (Ne.symm e)]
noncomputable def hole (h : Heap) : Heap := free1 (free1 h 646) 780
theorem hole_old {h : Heap} {b : Addr} {o : Obj} (e : (hole h).get? b = some o) : h.get? b = some o ∧ b ≠ 646 ∧ b ≠ 780 := by
 unfold hole at e
 rw [free1_get] at e
 by_cases h1 : b = 780
 ·rw [if_pos h1] at e; cases e
 ·rw [if_neg h1, free1_get] at e
  by_cases h2 : b = 646
  ·rw [if_pos h2] at e; cases e
  ·rw [if_neg h2] at e; exact ⟨e, h2, h1⟩
theorem hole_keep {h : Heap} {b : Addr} {o : Obj} (h1 : b ≠ 646) (h2 : b ≠ 780) (e : h.get? b = some o) : (hole h).get? b = some o := by
 unfold hole; rw [free1_get, if_neg h2, free1_get, if_neg h1]; exact e
theorem hole_none {h : Heap} {b : Addr} (hb : b = 646 ∨ b = 780) : (hole h).get? b = none := by
 cases q : (hole h).get? b with
 | none => rfl
 | some o => exact (hb.elim (hole_old q).2.1 (hole_old q).2.2).elim
theorem hole_ns {h : Heap} {a : Addr} {m : Str → Option Value} (x : h.Ns a m) (h1 : a ≠ 646) (h2 : a ≠ 780) : (hole h).Ns a m := ek3_2 x fun o es ep e r => ⟨o, es, ep, hole_keep h1 h2 e, r⟩
theorem hole_top {p : Program} {loose : List Str} {mg mb : Str → Option Value} {h : Heap} (T : TopRead p loose mg mb h) : TopRead p loose mg mb (hole h) :=
 ⟨hole_ns T.g (by decide) (by decide), hole_ns T.b (by decide) (by decide), ek1_2 T.nolimit fun mc a b => ⟨mc, hole_ns a (by decide) (by decide), b⟩, T.builtins, T.free⟩
theorem hole_K {w : World} {h : Heap} (X : (hd.heap_1 w.params).In h) : (hd.heap_1 w.params).In (hole h) := fun a o e => by
 have n1 : (hd.heap_1 w.params).lookup 646 = none := by kernel_rfl
 have n2 : (hd.heap_1 w.params).lookup 780 = none := by kernel_rfl
 exact hole_keep (fun q => by subst q; rw [n1] at e; cases e) (fun q => by subst q; rw [n2] at e; cases e) (X _ _ e)
theorem bm_of {p : Program} {loose : List Str} {mean : ExcName → Option Value} {mg mb : Str → Option Value} {h : Heap} (T : Top p loose mean mg mb h) (hT : ∀ P ∈ [780, 646, 382], h.get? P = some (tabObj #[])) : BM (fun b => (hole h).get? b) := by
 refine ek2_6 T.bmain fun bm ob a b c d e f => ?_
 have n : ∀ P ∈ [780, 646, 382], bm ≠ P := fun P hP q => by
  have := hT P hP
  rw [← q, c] at this
  cases this
  cases f
 refine ⟨hole h, mg, bm, ob, fun ξ ξ e => e, hole_ns T.g (by decide) (by decide), a, b, fun q => ?_, hole_keep (n 646 (by simp)) (n 780 (by simp)) c, d, e, f⟩
 refine ek3_3 T.g fun o es ep e1 e2 ξ => ?_
 rw [← q, c] at e1
 cases e1
 rw [f] at e2; cases e2
theorem start_sc {w : World} {p : Program} {loose : List Str} {mg mb : Str → Option Value} {h : Heap} (T : TopRead p loose mg mb h) (X : (hd.heap_1 w.params).In h) (hT : ∀ P ∈ [780, 646, 382], h.get? P = some (tabObj #[])) :
  Sc (hd.heap_1 w.params) (fun b => (hole h).get? b) [(646, tabObj #[]), (780, tabObj #[])] h :=
 ⟨⟨hole h, fun ξ ξ e => e, hole_K X, _, _, mg, mb, hole_top T⟩, fun a o e => (hole_old e).1, fun q hq => by
  rcases List.mem_cons.mp hq with rfl | hq
  ·exact hT 646 (by simp)
  ·rw [List.mem_singleton] at hq; subst hq; exact hT 780 (by simp), by decide, fun q hq => by
  rcases List.mem_cons.mp hq with rfl | hq
  ·exact hole_none (.inl rfl)
  ·rw [List.mem_singleton] at hq; subst hq; exact hole_none (.inr rfl)⟩
theorem fin_test : PySem.Challenge.rw_jd0006_01.Holds := by
 refine hd ⟨left6, ?_⟩
 intro w s₀ s₁ mg mb G Y fa hmg hg args vals as hpre hlay hrd hwl hlo
 have X := km_in_of Y
 have hT := km_tabs_of Y
 have T := G.T
 have efa : fa = 811 := by
  have e1 := mg_of X T.g (n := ofString "law") (v := .ref 811) (by kernel_rfl)
  rw [show mg (ofString "law") = some (Value.ref fa) from hmg] at e1
  cases e1; rfl
 subst efa
 clear hmg
 wrow_args hpre hlay hrd hwl hlo
 rename_i ns _ _ _ _ _ _ _ l items _ hL _ _ _ hI _ hc _
 refine ek1_3 (id hL) fun so eso cso z1 => ?_; refine ek1_1 z1 fun nso dso => ?_; clear z1
 have hlS : LsO items so := ⟨cso, nso, dso⟩
 have nl : ∀ P ∈ [780, 646, 382], l ≠ P := fun P hP q => by
  have := hT P hP
  rw [← q, eso] at this
  cases this
  cases cso
 have S := start_sc (topRead_of T) X hT
 have V := v_call (γ := ⟨Challenge.rw_jd0006_01.row.prog, w, s₁.gens, s₁.drawn, s₁.os⟩) (A := callerA) (t := s₁.toks) (f := .ref 811) (pos := [.ref l]) (kw := [])
  (Q := fun v h' t' => v = .bool true ∧ ∃ D' to6 to7 rest', Le (fun b => (hole s₁.heap).get? b) D' ∧ TabIs D' 450 34 endQ to6 ∧ TabIs D' 620 30 layQ to7 ∧ Sc (hd.heap_1 w.params) D' ((646, to6) :: (780, to7) :: rest') h')
  (ct_law S (room_caller.mono (by decide)) (bm_of T hT) (.inl rfl) (.inl rfl) (hole_keep (nl 646 (by simp)) (nl 780 (by simp)) eso) hlS hI (by kcf_m) fun h t D' to6 to7 rest' le t6 t7 S => ⟨rfl, D', to6, to7, rest', le, t6, t7, S⟩)
 intro p
 refine Sem.wp_mono _ _ _ (fun v ξ s' y => ?_) (fun ξ ξ ξ f => f) _ _ (V.out baseC p caller_in base_calm)
 refine ek2_3 y fun h' t' z1 z2 z3 => ?_; clear y; obtain rfl := z1; obtain rfl := z2; refine ek4_4 z3 fun D' to6 to7 rest' le t6 t7 S' => ?_; clear z3
 have e6 : h'.get? 646 = some to6 := S'.led (646, to6) (by simp)
 have e7 : h'.get? 780 = some to7 := S'.led (780, to7) (by simp)
 have tabs : ∀ {line col : Nat} {q : Str} {o : Obj}, TabIs D' line col q o → ∃ more, o = tabObj more := fun x => x.elim (fun e => ⟨_, e⟩) fun ⟨_, e, _⟩ => ⟨_, e⟩
 refine ⟨.inl ⟨.bool true, .bool true, [], rfl, raisesW_false ?_, .bool true, ?_, fun ξ => ⟨.nil, fun a ha => nomatch ha⟩⟩, ⟨fun b o e => ?_, fun b o e => ?_⟩, rfl, ?_⟩
 ·wrow_none_raised
 ·wrow_post
 ·have grown : ∀ {c P : Addr} {more : Array Value}, CodeHd s₁.heap c P → s₁.heap.get? P = some (tabObj #[]) → h'.get? P = some (tabObj more) → s₁.heap.get? P = some o → asItWas s₁.heap h' P o := by
   intro c P more C g1 g2 g3
   rw [g1] at g3
   cases g3
   refine ek9_5 C fun ob vs file tf flags tg inF text tt a1 a2 a3 a4 ξ => ?_; clear C
   exact .inr (.inl ⟨⟨c, ob, vs, a1, a2, a3, a4⟩, rfl, #[], more, rfl, by rw [g2]; simp [tabObj]⟩)
  by_cases h6 : b = 646
  ·subst h6
   obtain ⟨more, rfl⟩ := tabs t6
   exact grown (codeHd_of X (codeHd_650 w)) (hT 646 (by simp)) e6 e
  by_cases h7 : b = 780
  ·subst h7
   obtain ⟨more, rfl⟩ := tabs t7
   exact grown (codeHd_of X (codeHd_782 w)) (hT 780 (by simp)) e7 e
  exact .inl (S'.keep _ _ (le _ _ (hole_keep h6 h7 e)))
 ·by_cases h6 : b = 646
  ·subst h6; exact ⟨_, e6⟩
  by_cases h7 : b = 780
  ·subst h7; exact ⟨_, e7⟩
  exact ⟨o, S'.keep _ _ (le _ _ (hole_keep h6 h7 e))⟩
 ·show AllBare s₁.gens
  rw [hg]; exact AllBare.empty
end Fb
theorem PySem.Challenge.cw_jd0006_01_holds : PySem.Challenge.rw_jd0006_01.Holds := by
 exact Fb.fin_test
