import PyProof.Rows.All
import Wide.All
import OpenK.AllK
import Wide.FinOn
import PyProof.AutoIntG3
import Lean
import PySem.Challenge.RW_lh0039_01
open PySem PySem.W PySem.Spec PySem.Calls PyProof.Rows
set_option Elab.async false
set_option maxRecDepth 100000
set_option maxHeartbeats 2000000
set_option linter.unusedVariables false
set_option bootstrap.genMatcherCode false
set_option tactic.hygienic false
set_option genSizeOf false
set_option compiler.extract_closed false
namespace Mine
section
theorem oA {P0 : Prop} {P1 : Prop} {G : Prop} (h : P0 ∧ P1) (k : P0 → P1 → G) : G := k h.1 h.2
theorem oAA {P0 : Prop} {P1 : Prop} {P2 : Prop} {G : Prop} (h : P0 ∧ P1 ∧ P2) (k : P0 → P1 → P2 → G) : G := k h.1 h.2.1 h.2.2
theorem oAAA {P0 : Prop} {P1 : Prop} {P2 : Prop} {P3 : Prop} {G : Prop} (h : P0 ∧ P1 ∧ P2 ∧ P3) (k : P0 → P1 → P2 → P3 → G) : G := k h.1 h.2.1 h.2.2.1 h.2.2.2
theorem oAAAA {P0 : Prop} {P1 : Prop} {P2 : Prop} {P3 : Prop} {P4 : Prop} {G : Prop} (h : P0 ∧ P1 ∧ P2 ∧ P3 ∧ P4) (k : P0 → P1 → P2 → P3 → P4 → G) : G := k h.1 h.2.1 h.2.2.1 h.2.2.2.1 h.2.2.2.2
theorem oAAAAA {P0 : Prop} {P1 : Prop} {P2 : Prop} {P3 : Prop} {P4 : Prop} {P5 : Prop} {G : Prop} (h : P0 ∧ P1 ∧ P2 ∧ P3 ∧ P4 ∧ P5) (k : P0 → P1 → P2 → P3 → P4 → P5 → G) : G := k h.1 h.2.1 h.2.2.1 h.2.2.2.1 h.2.2.2.2.1 h.2.2.2.2.2
theorem oE.{u0} {α0 : Sort u0} {P0 : α0 → Prop} {G : Prop} (h : ∃ x0, P0 x0) (k : ∀ x0 : α0, P0 x0 → G) : G := h.elim fun x0 h => k x0 h
theorem oEA.{u0} {α0 : Sort u0} {P0 : α0 → Prop} {P1 : α0 → Prop} {G : Prop} (h : ∃ x0, P0 x0 ∧ P1 x0) (k : ∀ x0 : α0, P0 x0 → P1 x0 → G) : G := h.elim fun x0 h => k x0 h.1 h.2
theorem oEAA.{u0} {α0 : Sort u0} {P0 : α0 → Prop} {P1 : α0 → Prop} {P2 : α0 → Prop} {G : Prop} (h : ∃ x0, P0 x0 ∧ P1 x0 ∧ P2 x0) (k : ∀ x0 : α0, P0 x0 → P1 x0 → P2 x0 → G) : G := h.elim fun x0 h => k x0 h.1 h.2.1 h.2.2
theorem oEAAA.{u0} {α0 : Sort u0} {P0 : α0 → Prop} {P1 : α0 → Prop} {P2 : α0 → Prop} {P3 : α0 → Prop} {G : Prop} (h : ∃ x0, P0 x0 ∧ P1 x0 ∧ P2 x0 ∧ P3 x0) (k : ∀ x0 : α0, P0 x0 → P1 x0 → P2 x0 → P3 x0 → G) : G := h.elim fun x0 h => k x0 h.1 h.2.1 h.2.2.1 h.2.2.2
theorem oEE.{u0,u1} {α0 : Sort u0} {α1 : Sort u1} {P0 : α0 → α1 → Prop} {G : Prop} (h : ∃ x0, ∃ x1, P0 x0 x1) (k : ∀ x0 : α0, ∀ x1 : α1, P0 x0 x1 → G) : G := h.elim fun x0 h => h.elim fun x1 h => k x0 x1 h
theorem oEEA.{u0,u1} {α0 : Sort u0} {α1 : Sort u1} {P0 : α0 → α1 → Prop} {P1 : α0 → α1 → Prop} {G : Prop} (h : ∃ x0, ∃ x1, P0 x0 x1 ∧ P1 x0 x1) (k : ∀ x0 : α0, ∀ x1 : α1, P0 x0 x1 → P1 x0 x1 → G) : G := h.elim fun x0 h => h.elim fun x1 h => k x0 x1 h.1 h.2
theorem oEEAA.{u0,u1} {α0 : Sort u0} {α1 : Sort u1} {P0 : α0 → α1 → Prop} {P1 : α0 → α1 → Prop} {P2 : α0 → α1 → Prop} {G : Prop} (h : ∃ x0, ∃ x1, P0 x0 x1 ∧ P1 x0 x1 ∧ P2 x0 x1) (k : ∀ x0 : α0, ∀ x1 : α1, P0 x0 x1 → P1 x0 x1 → P2 x0 x1 → G) : G := h.elim fun x0 h => h.elim fun x1 h => k x0 x1 h.1 h.2.1 h.2.2
theorem oEEE.{u0,u1,u2} {α0 : Sort u0} {α1 : Sort u1} {α2 : Sort u2} {P0 : α0 → α1 → α2 → Prop} {G : Prop} (h : ∃ x0, ∃ x1, ∃ x2, P0 x0 x1 x2) (k : ∀ x0 : α0, ∀ x1 : α1, ∀ x2 : α2, P0 x0 x1 x2 → G) : G := h.elim fun x0 h => h.elim fun x1 h => h.elim fun x2 h => k x0 x1 x2 h
theorem oEEEA.{u0,u1,u2} {α0 : Sort u0} {α1 : Sort u1} {α2 : Sort u2} {P0 : α0 → α1 → α2 → Prop} {P1 : α0 → α1 → α2 → Prop} {G : Prop} (h : ∃ x0, ∃ x1, ∃ x2, P0 x0 x1 x2 ∧ P1 x0 x1 x2) (k : ∀ x0 : α0, ∀ x1 : α1, ∀ x2 : α2, P0 x0 x1 x2 → P1 x0 x1 x2 → G) : G := h.elim fun x0 h => h.elim fun x1 h => h.elim fun x2 h => k x0 x1 x2 h.1 h.2
theorem oEEEAA.{u0,u1,u2} {α0 : Sort u0} {α1 : Sort u1} {α2 : Sort u2} {P0 : α0 → α1 → α2 → Prop} {P1 : α0 → α1 → α2 → Prop} {P2 : α0 → α1 → α2 → Prop} {G : Prop} (h : ∃ x0, ∃ x1, ∃ x2, P0 x0 x1 x2 ∧ P1 x0 x1 x2 ∧ P2 x0 x1 x2) (k : ∀ x0 : α0, ∀ x1 : α1, ∀ x2 : α2, P0 x0 x1 x2 → P1 x0 x1 x2 → P2 x0 x1 x2 → G) : G := h.elim fun x0 h => h.elim fun x1 h => h.elim fun x2 h => k x0 x1 x2 h.1 h.2.1 h.2.2
theorem oEEEAAA.{u0,u1,u2} {α0 : Sort u0} {α1 : Sort u1} {α2 : Sort u2} {P0 : α0 → α1 → α2 → Prop} {P1 : α0 → α1 → α2 → Prop} {P2 : α0 → α1 → α2 → Prop} {P3 : α0 → α1 → α2 → Prop} {G : Prop} (h : ∃ x0, ∃ x1, ∃ x2, P0 x0 x1 x2 ∧ P1 x0 x1 x2 ∧ P2 x0 x1 x2 ∧ P3 x0 x1 x2) (k : ∀ x0 : α0, ∀ x1 : α1, ∀ x2 : α2, P0 x0 x1 x2 → P1 x0 x1 x2 → P2 x0 x1 x2 → P3 x0 x1 x2 → G) : G := h.elim fun x0 h => h.elim fun x1 h => h.elim fun x2 h => k x0 x1 x2 h.1 h.2.1 h.2.2.1 h.2.2.2
theorem oEEEAAAA.{u0,u1,u2} {α0 : Sort u0} {α1 : Sort u1} {α2 : Sort u2} {P0 : α0 → α1 → α2 → Prop} {P1 : α0 → α1 → α2 → Prop} {P2 : α0 → α1 → α2 → Prop} {P3 : α0 → α1 → α2 → Prop} {P4 : α0 → α1 → α2 → Prop} {G : Prop} (h : ∃ x0, ∃ x1, ∃ x2, P0 x0 x1 x2 ∧ P1 x0 x1 x2 ∧ P2 x0 x1 x2 ∧ P3 x0 x1 x2 ∧ P4 x0 x1 x2) (k : ∀ x0 : α0, ∀ x1 : α1, ∀ x2 : α2, P0 x0 x1 x2 → P1 x0 x1 x2 → P2 x0 x1 x2 → P3 x0 x1 x2 → P4 x0 x1 x2 → G) : G := h.elim fun x0 h => h.elim fun x1 h => h.elim fun x2 h => k x0 x1 x2 h.1 h.2.1 h.2.2.1 h.2.2.2.1 h.2.2.2.2
theorem oEEEEA.{u0,u1,u2,u3} {α0 : Sort u0} {α1 : Sort u1} {α2 : Sort u2} {α3 : Sort u3} {P0 : α0 → α1 → α2 → α3 → Prop} {P1 : α0 → α1 → α2 → α3 → Prop} {G : Prop} (h : ∃ x0, ∃ x1, ∃ x2, ∃ x3, P0 x0 x1 x2 x3 ∧ P1 x0 x1 x2 x3) (k : ∀ x0 : α0, ∀ x1 : α1, ∀ x2 : α2, ∀ x3 : α3, P0 x0 x1 x2 x3 → P1 x0 x1 x2 x3 → G) : G := h.elim fun x0 h => h.elim fun x1 h => h.elim fun x2 h => h.elim fun x3 h => k x0 x1 x2 x3 h.1 h.2
theorem oEEEEAA.{u0,u1,u2,u3} {α0 : Sort u0} {α1 : Sort u1} {α2 : Sort u2} {α3 : Sort u3} {P0 : α0 → α1 → α2 → α3 → Prop} {P1 : α0 → α1 → α2 → α3 → Prop} {P2 : α0 → α1 → α2 → α3 → Prop} {G : Prop} (h : ∃ x0, ∃ x1, ∃ x2, ∃ x3, P0 x0 x1 x2 x3 ∧ P1 x0 x1 x2 x3 ∧ P2 x0 x1 x2 x3) (k : ∀ x0 : α0, ∀ x1 : α1, ∀ x2 : α2, ∀ x3 : α3, P0 x0 x1 x2 x3 → P1 x0 x1 x2 x3 → P2 x0 x1 x2 x3 → G) : G := h.elim fun x0 h => h.elim fun x1 h => h.elim fun x2 h => h.elim fun x3 h => k x0 x1 x2 x3 h.1 h.2.1 h.2.2
theorem oEEEEAAA.{u0,u1,u2,u3} {α0 : Sort u0} {α1 : Sort u1} {α2 : Sort u2} {α3 : Sort u3} {P0 : α0 → α1 → α2 → α3 → Prop} {P1 : α0 → α1 → α2 → α3 → Prop} {P2 : α0 → α1 → α2 → α3 → Prop} {P3 : α0 → α1 → α2 → α3 → Prop} {G : Prop} (h : ∃ x0, ∃ x1, ∃ x2, ∃ x3, P0 x0 x1 x2 x3 ∧ P1 x0 x1 x2 x3 ∧ P2 x0 x1 x2 x3 ∧ P3 x0 x1 x2 x3) (k : ∀ x0 : α0, ∀ x1 : α1, ∀ x2 : α2, ∀ x3 : α3, P0 x0 x1 x2 x3 → P1 x0 x1 x2 x3 → P2 x0 x1 x2 x3 → P3 x0 x1 x2 x3 → G) : G := h.elim fun x0 h => h.elim fun x1 h => h.elim fun x2 h => h.elim fun x3 h => k x0 x1 x2 x3 h.1 h.2.1 h.2.2.1 h.2.2.2
theorem oEEEEAAAA.{u0,u1,u2,u3} {α0 : Sort u0} {α1 : Sort u1} {α2 : Sort u2} {α3 : Sort u3} {P0 : α0 → α1 → α2 → α3 → Prop} {P1 : α0 → α1 → α2 → α3 → Prop} {P2 : α0 → α1 → α2 → α3 → Prop} {P3 : α0 → α1 → α2 → α3 → Prop} {P4 : α0 → α1 → α2 → α3 → Prop} {G : Prop} (h : ∃ x0, ∃ x1, ∃ x2, ∃ x3, P0 x0 x1 x2 x3 ∧ P1 x0 x1 x2 x3 ∧ P2 x0 x1 x2 x3 ∧ P3 x0 x1 x2 x3 ∧ P4 x0 x1 x2 x3) (k : ∀ x0 : α0, ∀ x1 : α1, ∀ x2 : α2, ∀ x3 : α3, P0 x0 x1 x2 x3 → P1 x0 x1 x2 x3 → P2 x0 x1 x2 x3 → P3 x0 x1 x2 x3 → P4 x0 x1 x2 x3 → G) : G := h.elim fun x0 h => h.elim fun x1 h => h.elim fun x2 h => h.elim fun x3 h => k x0 x1 x2 x3 h.1 h.2.1 h.2.2.1 h.2.2.2.1 h.2.2.2.2
theorem oEEEEEA.{u0,u1,u2,u3,u4} {α0 : Sort u0} {α1 : Sort u1} {α2 : Sort u2} {α3 : Sort u3} {α4 : Sort u4} {P0 : α0 → α1 → α2 → α3 → α4 → Prop} {P1 : α0 → α1 → α2 → α3 → α4 → Prop} {G : Prop} (h : ∃ x0, ∃ x1, ∃ x2, ∃ x3, ∃ x4, P0 x0 x1 x2 x3 x4 ∧ P1 x0 x1 x2 x3 x4) (k : ∀ x0 : α0, ∀ x1 : α1, ∀ x2 : α2, ∀ x3 : α3, ∀ x4 : α4, P0 x0 x1 x2 x3 x4 → P1 x0 x1 x2 x3 x4 → G) : G := h.elim fun x0 h => h.elim fun x1 h => h.elim fun x2 h => h.elim fun x3 h => h.elim fun x4 h => k x0 x1 x2 x3 x4 h.1 h.2
theorem oEEEEEEA.{u0,u1,u2,u3,u4,u5} {α0 : Sort u0} {α1 : Sort u1} {α2 : Sort u2} {α3 : Sort u3} {α4 : Sort u4} {α5 : Sort u5} {P0 : α0 → α1 → α2 → α3 → α4 → α5 → Prop} {P1 : α0 → α1 → α2 → α3 → α4 → α5 → Prop} {G : Prop} (h : ∃ x0, ∃ x1, ∃ x2, ∃ x3, ∃ x4, ∃ x5, P0 x0 x1 x2 x3 x4 x5 ∧ P1 x0 x1 x2 x3 x4 x5) (k : ∀ x0 : α0, ∀ x1 : α1, ∀ x2 : α2, ∀ x3 : α3, ∀ x4 : α4, ∀ x5 : α5, P0 x0 x1 x2 x3 x4 x5 → P1 x0 x1 x2 x3 x4 x5 → G) : G := h.elim fun x0 h => h.elim fun x1 h => h.elim fun x2 h => h.elim fun x3 h => h.elim fun x4 h => h.elim fun x5 h => k x0 x1 x2 x3 x4 x5 h.1 h.2
theorem oEEEEEEEEA.{u0,u1,u2,u3,u4,u5,u6,u7} {α0 : Sort u0} {α1 : Sort u1} {α2 : Sort u2} {α3 : Sort u3} {α4 : Sort u4} {α5 : Sort u5} {α6 : Sort u6} {α7 : Sort u7} {P0 : α0 → α1 → α2 → α3 → α4 → α5 → α6 → α7 → Prop} {P1 : α0 → α1 → α2 → α3 → α4 → α5 → α6 → α7 → Prop} {G : Prop} (h : ∃ x0, ∃ x1, ∃ x2, ∃ x3, ∃ x4, ∃ x5, ∃ x6, ∃ x7, P0 x0 x1 x2 x3 x4 x5 x6 x7 ∧ P1 x0 x1 x2 x3 x4 x5 x6 x7) (k : ∀ x0 : α0, ∀ x1 : α1, ∀ x2 : α2, ∀ x3 : α3, ∀ x4 : α4, ∀ x5 : α5, ∀ x6 : α6, ∀ x7 : α7, P0 x0 x1 x2 x3 x4 x5 x6 x7 → P1 x0 x1 x2 x3 x4 x5 x6 x7 → G) : G := h.elim fun x0 h => h.elim fun x1 h => h.elim fun x2 h => h.elim fun x3 h => h.elim fun x4 h => h.elim fun x5 h => h.elim fun x6 h => h.elim fun x7 h => k x0 x1 x2 x3 x4 x5 x6 x7 h.1 h.2
theorem oEEEEEEEEEA.{u0,u1,u2,u3,u4,u5,u6,u7,u8} {α0 : Sort u0} {α1 : Sort u1} {α2 : Sort u2} {α3 : Sort u3} {α4 : Sort u4} {α5 : Sort u5} {α6 : Sort u6} {α7 : Sort u7} {α8 : Sort u8} {P0 : α0 → α1 → α2 → α3 → α4 → α5 → α6 → α7 → α8 → Prop} {P1 : α0 → α1 → α2 → α3 → α4 → α5 → α6 → α7 → α8 → Prop} {G : Prop} (h : ∃ x0, ∃ x1, ∃ x2, ∃ x3, ∃ x4, ∃ x5, ∃ x6, ∃ x7, ∃ x8, P0 x0 x1 x2 x3 x4 x5 x6 x7 x8 ∧ P1 x0 x1 x2 x3 x4 x5 x6 x7 x8) (k : ∀ x0 : α0, ∀ x1 : α1, ∀ x2 : α2, ∀ x3 : α3, ∀ x4 : α4, ∀ x5 : α5, ∀ x6 : α6, ∀ x7 : α7, ∀ x8 : α8, P0 x0 x1 x2 x3 x4 x5 x6 x7 x8 → P1 x0 x1 x2 x3 x4 x5 x6 x7 x8 → G) : G := h.elim fun x0 h => h.elim fun x1 h => h.elim fun x2 h => h.elim fun x3 h => h.elim fun x4 h => h.elim fun x5 h => h.elim fun x6 h => h.elim fun x7 h => h.elim fun x8 h => k x0 x1 x2 x3 x4 x5 x6 x7 x8 h.1 h.2
theorem oAE.{u0} {α0 : Sort u0} {P0 : Prop} {P1 : α0 → Prop} {G : Prop} (h : P0 ∧ ∃ x0, P1 x0) (k : P0 → ∀ x0 : α0, P1 x0 → G) : G := match h with | ⟨h0, x0, h1⟩ => k h0 x0 h1
theorem oAEAA.{u0} {α0 : Sort u0} {P0 : Prop} {P1 : α0 → Prop} {P2 : α0 → Prop} {P3 : α0 → Prop} {G : Prop} (h : P0 ∧ ∃ x0, P1 x0 ∧ P2 x0 ∧ P3 x0) (k : P0 → ∀ x0 : α0, P1 x0 → P2 x0 → P3 x0 → G) : G := match h with | ⟨h0, x0, h1, h2, h3⟩ => k h0 x0 h1 h2 h3
end
section
noncomputable abbrev AA (D U : Nat) : Around := { handled := none, depth := D, frames := none, guards := none, units := U }
theorem weaken {α : Type} {M : Model} {A : Around} {t : Sem α} {Q : α → Shared → Prop} {E : Value → Shared → Prop} {s : Shared} {D U : Nat}
    (h : A.handled = none) (hd : A.depth ≤ D) (hu : A.units ≤ U) (x : wpAny M (AA D U) t Q E s) : wpAny M A t Q E s :=
  fun Γ p hΓ => x Γ p ⟨hΓ.1.trans h, Nat.le_trans hΓ.2.1 hd, (fun _ e => nomatch e), (fun _ e => nomatch e), Nat.le_trans hΓ.2.2.2.2 hu⟩
noncomputable abbrev NoE : Value → Shared → Prop := fun _ _ => False
theorem noE {α : Type} {M : Model} {A : Around} {s : Shared} {t : Sem α} {Q : α → Shared → Prop} {E : Value → Shared → Prop} (h : wpAny M A t Q NoE s) : wpAny M A t Q E s := wpAny_mono h (fun _ _ q => q) fun _ _ f => f.elim

noncomputable abbrev fqDict (h1 h2 : Int) (t1 t2 t3 t4 : Tok) (p v : Int) : Obj := dictOf [⟨h1, .str (Str.ofString "field_modulus") t1, .int p t2⟩, ⟨h2, .str (Str.ofString "n") t3, .int v t4⟩] 2
noncomputable abbrev fqpDict (h1 h2 h3 h4 : Int) (t1 t2 t3 t4 t5 t6 : Tok) (p : Int) (tc tm : Addr) : Obj :=
  dictOf [⟨h1, .str (Str.ofString "field_modulus") t1, .int p t2⟩, ⟨h2, .str (Str.ofString "coeffs") t3, .ref tc⟩, ⟨h3, .str (Str.ofString "modulus_coeffs") t4, .ref tm⟩, ⟨h4, .str (Str.ofString "degree") t5, .int 2 t6⟩] 4
noncomputable abbrev fq2Dict (h1 h2 h3 h4 h5 : Int) (t1 t2 t3 t4 t5 t6 t7 : Tok) (p : Int) (lm tc tm : Addr) : Obj :=
  dictOf [⟨h1, .str (Str.ofString "field_modulus") t1, .int p t2⟩, ⟨h5, .str (Str.ofString "mc_tuples") t7, .ref lm⟩, ⟨h2, .str (Str.ofString "coeffs") t3, .ref tc⟩, ⟨h3, .str (Str.ofString "modulus_coeffs") t4, .ref tm⟩, ⟨h4, .str (Str.ofString "degree") t5, .int 2 t6⟩] 5
noncomputable abbrev tupN (l : List Value) (n : Nat) : Obj := { cls := .type "tuple", data := .seq l.toArray n }
noncomputable abbrev lstN (l : List Value) (n : Nat) : Obj := { cls := .type "list", data := .seq l.toArray n }

noncomputable def biV : Nat → Value
  | 0 => .builtin "isinstance" | 1 => .builtin "len" | 2 => .type "int" | 3 => .type "tuple" | 4 => .type "list" | 5 => .type "range" | 6 => .type "zip" | 7 => .type "enumerate" | _ => .builtin "pow"
inductive Dat where
  | lit (n : Int) | int (n : Int) (B : Nat) | prm (p : Int) | bool (b : Bool) | sb (b : Bool) | none | rf (a : Nat) | bi (n : Nat)
  | fq (p n : Int) | fqp (p a b : Int) | fq2 (p a b : Int) | ob (x C : Nat) (ns : List Str) (ds : List Dat)
  | tup (l : List Dat) | lst (l : List Dat)

noncomputable def Pr (p : Int) : Prop := p = 7 ∨ p = 19 ∨ p = 31 ∨ p = 43 ∨ p = 67 ∨ p = 79 ∨ p = 103 ∨ p = 127
theorem Pr.dec {p : Int} {C : Int → Prop} [DecidablePred C] (h : Pr p) (hc : ([7, 19, 31, 43, 67, 79, 103, 127].all fun n : Int => decide (C n)) = true) : C p := by
  have m : p ∈ ([7, 19, 31, 43, 67, 79, 103, 127] : List Int) := by
    unfold Pr at h
    simpa only [List.mem_cons, List.not_mem_nil, or_false] using h
  exact of_decide_eq_true (List.all_eq_true.mp hc p m)
theorem Pr.pos {p : Int} (h : Pr p) : 0 < p := h.dec (C := fun p => 0 < p) (by decide)
theorem Pr.le {p : Int} (h : Pr p) : p < 128 := h.dec (C := fun p => p < 128) (by decide)
theorem Pr.ge {p : Int} (h : Pr p) : 7 ≤ p := h.dec (C := fun p => 7 ≤ p) (by decide)
structure Can (p n : Int) : Prop where
  pr : Pr p
  lo : 0 ≤ n
  hi : n < p
theorem Can.of {p : Int} (h : Pr p) (n : Int) : Can p (n % p) := ⟨h, Int.emod_nonneg _ (Int.ne_of_gt h.pos), Int.emod_lt_of_pos _ h.pos⟩
theorem Can.abs {p n : Int} (h : Can p n) : n.natAbs ≤ 127 := by have := h.pr.le; have := h.lo; have := h.hi; omega
noncomputable abbrev Fm := Addr → Obj → Prop
inductive RFq (φ : Fm) (v : Value) (p n : Int) : Prop
  | mk (x dx : Addr) (h1 h2 : Int) (t1 t2 t3 t4 : Tok) (e : v = .ref x) (a : φ x (instObj 183 dx)) (b : φ dx (fqDict h1 h2 t1 t2 t3 t4 p n)) (c : Can p n)
inductive RFqp (φ : Fm) (v : Value) (p a b : Int) : Prop
  | mk (x dx tc tm : Addr) (q0 q1 : Value) (n1 n2 : Nat) (u1 u2 : Tok) (h1 h2 h3 h4 : Int) (t1 t2 t3 t4 t5 t6 : Tok) (e : v = .ref x) (y1 : φ x (instObj 297 dx)) (y2 : φ dx (fqpDict h1 h2 h3 h4 t1 t2 t3 t4 t5 t6 p tc tm)) (y3 : φ tc (tupN [q0, q1] n1)) (y4 : RFq φ q0 p a) (y5 : RFq φ q1 p b) (y6 : φ tm (tupN [.int 1 u1, .int 0 u2] n2))
inductive RFq2 (φ : Fm) (v : Value) (p a b : Int) : Prop
  | mk (x dx lm mt tc tm : Addr) (n1 n2 n3 n4 : Nat) (u1 u2 u3 u4 u5 u6 : Tok) (h1 h2 h3 h4 h5 : Int) (t1 t2 t3 t4 t5 t6 t7 : Tok) (e : v = .ref x) (y1 : φ x (instObj 486 dx)) (y2 : φ dx (fq2Dict h1 h2 h3 h4 h5 t1 t2 t3 t4 t5 t6 t7 p lm tc tm)) (y3 : φ tc (tupN [.int a u5, .int b u6] n1)) (y4 : φ tm (tupN [.int 1 u1, .int 0 u2] n2)) (y5 : φ lm (lstN [.ref mt] n3)) (y6 : φ mt (tupN [.int 0 u3, .int 1 u4] n4)) (ca : Can p a) (cb : Can p b)
inductive RSq (φ : Fm) (ob : List Value → Nat → Obj) (v : Value) (rl : List Value → Prop) : Prop
  | mk (a : Addr) (n : Nat) (vs : List Value) (e : v = .ref a) (o : φ a (ob vs n)) (r : rl vs)
noncomputable def attrs : List Str := ["field_modulus", "n", "coeffs", "modulus_coeffs", "degree", "mc_tuples"]
noncomputable def EntOk : List Str → List Value → List DictEntry → Prop
  | [], [], [] => True
  | n :: ns, v :: vs, e :: es => (∃ t, e.key = .str n t) ∧ e.val = v ∧ EntOk ns vs es
  | _, _, _ => False
inductive ROb (φ : Fm) (x C : Nat) (ns : List Str) (v : Value) (rl : List Value → Prop) : Prop
  | mk (z1 : C = 183 ∨ C = 297 ∨ C = 486) (z2 : ∀ y ∈ ns, y ∈ attrs) (dx : Addr) (es : List DictEntry) (n : Nat) (vs : List Value) (e : v = .ref x) (y1 : φ x (instObj C dx)) (y2 : φ dx (dictOf es n)) (y3 : EntOk ns vs es ∧ n = ns.length) (r : rl vs)
mutual
noncomputable def R (φ : Fm) : Dat → Value → Prop
  | .lit n, v => ∃ t, v = .int n t
  | .int n B, v => n.natAbs ≤ B ∧ ∃ t, v = .int n t
  | .prm p, v => Pr p ∧ ∃ t, v = .int p t
  | .bool b, v => v = .bool b
  | .sb b, v => v = .bool b
  | .none, v => v = .none
  | .rf c, v => v = .ref c
  | .bi c, v => v = biV c
  | .fq p n, v => RFq φ v p n
  | .fqp p a b, v => RFqp φ v p a b
  | .fq2 p a b, v => RFq2 φ v p a b
  | .ob x C ns ds, v => ROb φ x C ns v fun vs => RL φ ds vs
  | .tup l, v => RSq φ tupN v fun vs => RL φ l vs
  | .lst l, v => RSq φ lstN v fun vs => RL φ l vs
noncomputable def RL (φ : Fm) : List Dat → List Value → Prop
  | [], vs => vs = []
  | d :: ds, vs => ∃ v r, vs = v :: r ∧ R φ d v ∧ RL φ ds r
end
theorem RFq.mono {φ ψ : Fm} (h : ∀ a o, φ a o → ψ a o) {v : Value} {p n : Int} (x : RFq φ v p n) : RFq ψ v p n := by
  obtain ⟨x, dx, h1, h2, t1, t2, t3, t4, e, a, b, c⟩ := x
  exact ⟨x, dx, h1, h2, t1, t2, t3, t4, e, h _ _ a, h _ _ b, c⟩
theorem RFqp.mono {φ ψ : Fm} (h : ∀ a o, φ a o → ψ a o) {v : Value} {p a b : Int} (x : RFqp φ v p a b) : RFqp ψ v p a b := by
  obtain ⟨x, dx, tc, tm, q0, q1, n1, n2, u1, u2, h1, h2, h3, h4, t1, t2, t3, t4, t5, t6, e, y1, y2, y3, y4, y5, y6⟩ := x
  exact ⟨x, dx, tc, tm, q0, q1, n1, n2, u1, u2, h1, h2, h3, h4, t1, t2, t3, t4, t5, t6, e, h _ _ y1, h _ _ y2, h _ _ y3, y4.mono h, y5.mono h, h _ _ y6⟩
theorem RFq2.mono {φ ψ : Fm} (h : ∀ a o, φ a o → ψ a o) {v : Value} {p a b : Int} (x : RFq2 φ v p a b) : RFq2 ψ v p a b := by
  obtain ⟨x, dx, lm, mt, tc, tm, n1, n2, n3, n4, u1, u2, u3, u4, u5, u6, h1, h2, h3, h4, h5, t1, t2, t3, t4, t5, t6, t7, e, y1, y2, y3, y4, y5, y6, y7, y8⟩ := x
  exact ⟨x, dx, lm, mt, tc, tm, n1, n2, n3, n4, u1, u2, u3, u4, u5, u6, h1, h2, h3, h4, h5, t1, t2, t3, t4, t5, t6, t7, e, h _ _ y1, h _ _ y2, h _ _ y3, h _ _ y4, h _ _ y5, h _ _ y6, y7, y8⟩
theorem RSq.mono {φ ψ : Fm} {ob v rl rl'} (x : RSq φ ob v rl) (h : ∀ a o, φ a o → ψ a o) (g : ∀ l, rl l → rl' l) : RSq ψ ob v rl' := by
  obtain ⟨a, n, vs, e, y, z⟩ := x
  exact ⟨a, n, vs, e, h _ _ y, g _ z⟩
mutual
theorem R.mono {φ ψ : Fm} (h : ∀ a o, φ a o → ψ a o) : ∀ (d : Dat) {v : Value}, R φ d v → R ψ d v
  | .lit _, _, x | .int _ _, _, x | .prm _, _, x | .bool _, _, x | .sb _, _, x | .none, _, x | .rf _, _, x | .bi _, _, x => x
  | .fq _ _, _, x => RFq.mono h x
  | .fqp _ _ _, _, x => RFqp.mono h x
  | .fq2 _ _ _, _, x => RFq2.mono h x
  | .ob _ _ _ ds, _, .mk z1 z2 dx es n vs e y1 y2 y3 y4 => .mk z1 z2 dx es n vs e (h _ _ y1) (h _ _ y2) y3 (RL.mono h ds y4)
  | .tup l, _, x => RSq.mono x h fun _ => RL.mono h l
  | .lst l, _, x => RSq.mono x h fun _ => RL.mono h l
theorem RL.mono {φ ψ : Fm} (h : ∀ a o, φ a o → ψ a o) : ∀ (l : List Dat) {vs : List Value}, RL φ l vs → RL ψ l vs
  | [], _, x => x
  | d :: ds, _, ⟨v, r, e, y, z⟩ => ⟨v, r, e, R.mono h d y, RL.mono h ds z⟩
end
theorem R.lit {φ : Fm} {n : Int} {t : Tok} : R φ (.lit n) (.int n t) := Exists.intro t rfl
theorem R.int {φ : Fm} {n : Int} {B : Nat} {t : Tok} (h : n.natAbs ≤ B) : R φ (.int n B) (.int n t) := And.intro h (Exists.intro t rfl)
theorem R.prm {φ : Fm} {p : Int} {t : Tok} (h : Pr p) : R φ (.prm p) (.int p t) := And.intro h (Exists.intro t rfl)
theorem R.tup {φ : Fm} {l : List Dat} {a : Addr} {vs : List Value} {n : Nat} (o : φ a (tupN vs n)) (r : RL φ l vs) : R φ (.tup l) (.ref a) := RSq.mk a n vs rfl o r
theorem R.lst {φ : Fm} {l : List Dat} {a : Addr} {vs : List Value} {n : Nat} (o : φ a (lstN vs n)) (r : RL φ l vs) : R φ (.lst l) (.ref a) := RSq.mk a n vs rfl o r
theorem RL.nl {φ : Fm} : RL φ [] [] := rfl
theorem RL.cn {φ : Fm} {d : Dat} {v : Value} {ds : List Dat} {r : List Value} (x : R φ d v) (y : RL φ ds r) : RL φ (d :: ds) (v :: r) := Exists.intro v (Exists.intro r ⟨rfl, x, y⟩)
theorem RL.get2 {φ : Fm} {d : Dat} {ds : List Dat} {vs : List Value} (x : RL φ (d :: ds) vs) : ∃ v r, vs = v :: r ∧ R φ d v ∧ RL φ ds r := x
theorem RL.get0 {φ : Fm} {vs : List Value} (x : RL φ [] vs) : vs = [] := x
theorem RL.length {φ : Fm} : ∀ {ds : List Dat} {vs : List Value}, RL φ ds vs → vs.length = ds.length
  | [], _, x => by rw [x.get0]; rfl
  | d :: ds, _, x => by refine oEEAA x.get2 ?_; rintro v r rfl _ y; simp [y.length]
theorem RL.at {φ : Fm} : ∀ {ds : List Dat} {vs : List Value}, RL φ ds vs → ∀ (i : Nat) (d : Dat), ds[i]? = some d → ∃ v, vs[i]? = some v ∧ R φ d v
  | [], _, _, i, d, e => by simp at e
  | d0 :: ds, _, x, i, d, e => by
    refine oEEAA x.get2 ?_; rintro v r rfl y z
    cases i with
    | zero => simp at e; subst e; exact ⟨v, by simp, y⟩
    | succ i => simp at e; refine oEA (z.at i d e) ?_; intro w h1 h2; exact ⟨w, by simpa using h1, h2⟩
theorem RL.append {φ : Fm} : ∀ {ds es : List Dat} {vs us : List Value}, RL φ ds vs → RL φ es us → RL φ (ds ++ es) (vs ++ us)
  | [], _, _, _, x, y => by rw [x.get0]; exact y
  | d :: ds, _, _, _, x, y => by refine oEEAA x.get2 ?_; rintro v r rfl a b; exact .cn a (b.append y)
theorem RL.take {φ : Fm} : ∀ {ds : List Dat} {vs : List Value} (n : Nat), RL φ ds vs → RL φ (ds.take n) (vs.take n)
  | _, _, 0, _ => by simp; exact .nl
  | [], _, n + 1, x => by rw [x.get0]; simp; exact .nl
  | d :: ds, _, n + 1, x => by refine oEEAA x.get2 ?_; rintro v r rfl a b; simp; exact .cn a (b.take n)
theorem RL.set {φ : Fm} : ∀ {ds : List Dat} {vs : List Value} (i : Nat) {d : Dat} {v : Value}, RL φ ds vs → R φ d v → RL φ (ds.set i d) (vs.set i v)
  | [], _, i, _, _, x, _ => by rw [x.get0]; simp; exact .nl
  | d0 :: ds, _, 0, _, _, x, y => by refine oEEAA x.get2 ?_; rintro v r rfl a b; simp; exact .cn y b
  | d0 :: ds, _, i + 1, _, _, x, y => by refine oEEAA x.get2 ?_; rintro v r rfl a b; simp; exact .cn a (b.set i y)
theorem RL.dropLast {φ : Fm} {ds : List Dat} {vs : List Value} (x : RL φ ds vs) : RL φ ds.dropLast vs.dropLast := by
  rw [List.dropLast_eq_take, List.dropLast_eq_take, x.length]; exact x.take _
noncomputable def GK (a b : Array GenState) : Prop := a.size ≤ b.size ∧ ∀ i, i < a.size → b[i]? = a[i]?
theorem GK.refl (a : Array GenState) : GK a a := ⟨Nat.le_refl _, fun _ _ => rfl⟩
theorem GK.trans {a b c : Array GenState} (x : GK a b) (y : GK b c) : GK a c := ⟨Nat.le_trans x.1 y.1, fun i h => (y.2 i (Nat.lt_of_lt_of_le h x.1)).trans (x.2 i h)⟩
noncomputable def Same (s s' : Shared) : Prop := s'.drawn = s.drawn ∧ s'.os = s.os ∧ GK s.gens s'.gens
theorem Same.refl (s : Shared) : Same s s := ⟨rfl, rfl, GK.refl _⟩
theorem Same.trans {a b c : Shared} (x : Same a b) (y : Same b c) : Same a c := ⟨y.1.trans x.1, y.2.1.trans x.2.1, x.2.2.trans y.2.2⟩
noncomputable abbrev GS (s s' : Shared) : Prop := AllBare s'.gens ∧ Same s s'
theorem GS.of {s : Shared} (h : AllBare s.gens) : GS s s := ⟨h, Same.refl s⟩
theorem GS.trans {a b c : Shared} (x : GS a b) (y : GS b c) : GS a c := ⟨y.1, x.2.trans y.2⟩
noncomputable def Kp (h h' : Heap) : Prop := ∀ b o, h.get? b = some o → h'.get? b = some o

noncomputable def BM (mg : Str → Option Value) (h : Heap) : Prop := ∃ bm ob, mg "__builtins__" = some (.ref bm) ∧ bm ≠ builtinsNs ∧ h.get? bm = some ob ∧ ob.cls = .type "module" ∧ ob.dict = some builtinsNs ∧ ob.data = .plain
theorem BM.keeps {mg : Str → Option Value} {h h' : Heap} (x : BM mg h) (k : Kp h h') : BM mg h' := let ⟨bm, ob, a, b, c, r⟩ := x; ⟨bm, ob, a, b, k _ _ c, r⟩
structure Bs (K : Frag) (p : Program) (loose : List Str) (mg mb : Str → Option Value) (h : Heap) : Prop where
  X : K.In h
  T : TopRead p loose mg mb h
  M : BM mg h
theorem Bs.keeps {K p loose mg mb h h'} (B : Bs K p loose mg mb h) (k : Kp h h') : Bs K p loose mg mb h' := ⟨B.X.keeps k, B.T.keeps k, B.M.keeps k⟩

noncomputable def isTb (a : Addr) : Prop := a = 196 ∨ a = 345
noncomputable def TabOk (h : Heap) : Prop := ∀ P, isTb P → ∃ ps, h.get? P = some (tabObj ps) ∧ TriplesOk ps.toList
noncomputable abbrev AP := Addr → Prop
noncomputable def Dt (h : Heap) (O : AP) : Fm := fun a o => h.get? a = some o ∧ ¬ O a
noncomputable def Kt (h h' : Heap) : Prop := ∀ b o, ¬ isTb b → h.get? b = some o → h'.get? b = some o
theorem Kt.refl (h : Heap) : Kt h h := fun _ _ _ e => e
noncomputable def LastOk (g : Heap) : Prop := ∀ h : Heap, Kp g h → g.objs.size ≤ h.objs.size
structure Wd (g : Heap) (O : AP) (s : Shared) : Prop where
  keep : Kp g s.heap
  off : ∀ b, O b → g.get? b = none
  alive : ∀ b, O b → ∃ o, s.heap.get? b = some o
  tabs : TabOk s.heap
  tabO : ∀ b, isTb b → O b
  bare : AllBare s.gens
theorem Dt.kt {h h' : Heap} {O : AP} (tO : ∀ b, isTb b → O b) (k : Kt h h') : ∀ a o, Dt h O a o → Dt h' O a o := fun a o x => ⟨k a o (fun t => x.2 (tO a t)) x.1, x.2⟩
structure Ctr where
  f : Addr
  D : Nat
  U : Nat
  T : List Dat → List Bool → (Dat → List Bool → Prop) → Prop
noncomputable def Ctr.Ok (K : Params → Frag) (c : Ctr) : Prop :=
  ∀ (prog : Program) (w : World) (p : Program) (loose : List Str) (mg mb : Str → Option Value) (g : Heap) (O : AP) (s : Shared) (ds : List Dat) (vs : List Value) (orc : List Bool) (k : Dat → List Bool → Prop) (Q E : Value → Shared → Prop),
    Bs (K w.params) p loose mg mb g → LastOk g → Wd g O s → RL (Dt s.heap O) ds vs → c.T ds orc k →
    (∀ d orc' r s', k d orc' → Kt s.heap s'.heap → GS s s' → TabOk s'.heap → R (Dt s'.heap O) d r → Q r s') →
    wpAny (model prog w) (AA c.D c.U) (call (.ref c.f) vs) Q E s
end
section
section
variable {prog : Program} {w : World} {A : Around} {s : Shared} {env : Env} {R : Result → Shared → Prop}
theorem forGo {target : Expr} {it : Value} {body orelse : List Stmt}
    (h : wpAny (model prog w) A (pyNext it) (fun r s₁ => match r with
      | none => wpAny (model prog w) A (execs orelse env) (fun f s₃ => R (.ok f) s₃) NoE s₁
      | some v => wpAny (model prog w) A (letOwnedTupleGo target it v) (fun _ s₁' =>
          wpAny (model prog w) A (assign target env v) (fun _ s₂ => wpAny (model prog w) A (execs body env) (fun f s₃ => match f with
            | .next | .cont => codeAny (model prog w) A (.forLoop target it body orelse env) R s₃
            | .brk => R (.ok .next) s₃
            | .ret v => R (.ok (.ret v)) s₃) NoE s₂) NoE s₁') NoE s₁) NoE s) : codeAny (model prog w) A (.forLoop target it body orelse env) R s := by
  refine codeAny_of_tree ?_
  show wpAny _ A ((forTurn target it body orelse env).onRaise (fun x => do noteFrame x env; theTreesLotGoes x)) _ _ s
  refine wpAny_noted ?_
  simp only [forTurn]
  refine wpAny_bind (wpAny_standAt (wpAny_bind (wpAny_onRaise (wpAny_mono h (fun r s₁ h₁ => ?_) fun _ _ f => f.elim))))
  cases r with
  | none => exact wpAny_pure ⟨rfl, codeAny_block (noE h₁)⟩
  | some v =>
    refine wpAny_bind (wpAny_mono h₁ (fun _ s₁' h₁' => ?_) fun _ _ f => f.elim)
    refine wpAny_bind (wpAny_mono h₁' (fun _ s₂ h₂ => wpAny_bind (wpAny_mono h₂ (fun f s₃ h₃ => ?_) fun _ _ f => f.elim)) fun _ _ f => f.elim)
    cases f with
    | next => exact wpAny_pure ⟨rfl, h₃⟩
    | cont => exact wpAny_pure ⟨rfl, h₃⟩
    | brk => exact wpAny_pure h₃
    | ret v => exact wpAny_pure h₃
theorem forStart {target iter : Expr} {body orelse : List Stmt} {pos : Pos} {Q : Flow → Shared → Prop} {E : Value → Shared → Prop}
    (h : wpAny (model prog w) A (eval iter env) (fun x s₁ => wpAny (model prog w) A (pyIter x) (fun it s₂ =>
      codeAny (model prog w) A (.forLoop target it body orelse env) (fun r s' => match r with | .ok f => Q f s' | .error _ => False) s₂) NoE s₁) NoE s)
    (hs : ∀ x, foldedSetIterable iter env x = pure x) : wpAny (model prog w) A (exec (.For target iter body orelse pos) env) Q E s :=
  wpAny_For (wpAny_mono h (fun _ _ h₁ => wpAny_mono h₁ (fun _ _ h₂ => codeAny_mono h₂ fun r s' z => by cases r with | ok f => exact z | error e => exact z.elim) fun _ _ f => f.elim) fun _ _ f => f.elim) hs
theorem whileGo {test : Expr} {body orelse : List Stmt}
    (h : wpAny (model prog w) A (isTrue test env (eval test env)) (fun b s₁ => match b with
      | true => wpAny (model prog w) A (execs body env) (fun f s₃ => match f with
            | .next | .cont => codeAny (model prog w) A (.whileLoop test body orelse env) R s₃
            | .brk => R (.ok .next) s₃
            | .ret v => R (.ok (.ret v)) s₃) NoE s₁
      | false => wpAny (model prog w) A (execs orelse env) (fun f s₃ => R (.ok f) s₃) NoE s₁) NoE s) : codeAny (model prog w) A (.whileLoop test body orelse env) R s := by
  refine codeAny_of_tree ?_
  show wpAny _ A ((whileTurn test body orelse env).onRaise (fun x => do noteFrame x env; theTreesLotGoes x)) _ _ s
  refine wpAny_noted ?_
  simp only [whileTurn]
  refine wpAny_bind (wpAny_mono h (fun b s₁ h₁ => ?_) fun _ _ f => f.elim)
  cases b with
  | true =>
    simp only [if_true]
    refine wpAny_bind (wpAny_mono h₁ (fun f s₃ h₃ => ?_) fun _ _ f => f.elim)
    cases f with
    | next => exact wpAny_pure ⟨rfl, h₃⟩
    | cont => exact wpAny_pure ⟨rfl, h₃⟩
    | brk => exact wpAny_pure h₃
    | ret v => exact wpAny_pure h₃
  | false =>
    simp only [Bool.false_eq_true, if_false]
    exact wpAny_bind (wpAny_mono h₁ (fun f s₃ h₃ => wpAny_pure h₃) fun _ _ f => f.elim)
theorem whileStart {test : Expr} {body orelse : List Stmt} {pos : Pos} {Q : Flow → Shared → Prop} {E : Value → Shared → Prop}
    (h : codeAny (model prog w) A (.whileLoop test body orelse env) (fun r s' => match r with | .ok f => Q f s' | .error _ => False) s) : wpAny (model prog w) A (exec (.While test body orelse pos) env) Q E s :=
  wpAny_While (codeAny_mono h fun r s' z => by cases r with | ok f => exact z | error e => exact z.elim)
theorem lcGo {elt target iter : Expr} {ifs : List Expr} {scope : Scope} {pos : Pos} {it acc : Value}
    (h : wpAny (model prog w) A (pyNext it) (fun r s₁ => match r with
      | none => R (.ok .next) s₁
      | some v => wpAny (model prog w) A (letOwnedTupleGo target it v) (fun _ s₁' => wpAny (model prog w) A (assign target env v) (fun _ s₂ =>
          wpAny (model prog w) A (forIn ifs true fun c r => if r = true then do let ok ← isTrue c env (eval c env); pure (ForInStep.yield ok) else pure (ForInStep.yield r)) (fun ok s₃ => match ok with
            | true => wpAny (model prog w) A (eval elt env) (fun x s₄ => wpAny (model prog w) A (call (.builtin "list.append") [acc, x]) (fun _ s₅ => codeAny (model prog w) A (.compLoop (.ListComp elt [⟨target, iter, ifs, 0⟩] scope pos) 0 it acc env) R s₅) NoE s₄) NoE s₃
            | false => codeAny (model prog w) A (.compLoop (.ListComp elt [⟨target, iter, ifs, 0⟩] scope pos) 0 it acc env) R s₃) NoE s₂) NoE s₁') NoE s₁) NoE s) :
    codeAny (model prog w) A (.compLoop (.ListComp elt [⟨target, iter, ifs, 0⟩] scope pos) 0 it acc env) R s := by
  refine codeAny_of_tree ?_
  show wpAny _ A ((compTurn (.ListComp elt [⟨target, iter, ifs, 0⟩] scope pos) 0 it acc env).onRaise (fun x => do noteFrame x env; theTreesLotGoes x)) _ _ s
  refine wpAny_noted ?_
  rw [compTurn_list]
  refine wpAny_bind (wpAny_standAt (wpAny_bind (wpAny_mono h (fun r s₁ h₁ => ?_) fun _ _ f => f.elim)))
  cases r with
  | none => exact wpAny_pure h₁
  | some v =>
    refine wpAny_bind (wpAny_mono h₁ (fun _ s₁' h₁' => ?_) fun _ _ f => f.elim)
    refine wpAny_bind (wpAny_mono h₁' (fun _ s₂ h₂ => wpAny_bind (wpAny_mono h₂ (fun ok s₃ h₃ => ?_) fun _ _ f => f.elim)) fun _ _ f => f.elim)
    cases ok with
    | true => exact wpAny_bind (wpAny_bind (wpAny_mono h₃ (fun x s₄ h₄ => wpAny_bind (wpAny_mono h₄ (fun _ s₅ h₅ => wpAny_pure (wpAny_pure ⟨rfl, h₅⟩)) fun _ _ f => f.elim)) fun _ _ f => f.elim))
    | false => exact wpAny_pure ⟨rfl, h₃⟩
end
end
section
open PySem.SeqAt
noncomputable def gd (b : Bool) (f : Prop) : Prop := match b with | true => f | false => False
theorem no_some {α : Type} {r : α} {G : Prop} (h : none = some r) : G := nomatch h
theorem gd_x {b : Bool} {f : Prop} (h : gd b f) : b = true ∧ f := by cases b <;> first | exact h.elim | exact ⟨rfl, h⟩
noncomputable def l1 (l : List Dat) (f : Dat → Prop) : Prop := match l with
  | [] => False
  | a :: l => (match l with | [] => f a | _ :: _ => False)
theorem l1_x {l : List Dat} {f : Dat → Prop} (h : l1 l f) : ∃ a, l = [a] ∧ f a := by
  rcases l with _ | ⟨a, _ | ⟨b, l⟩⟩ <;> first | exact h.elim | exact ⟨_, rfl, h⟩
noncomputable def l2 (l : List Dat) (f : Dat → Dat → Prop) : Prop := match l with | [] => False | a :: l => l1 l (f a)
theorem l2_x {l : List Dat} {f : Dat → Dat → Prop} (h : l2 l f) : ∃ a b, l = [a, b] ∧ f a b := by
  cases l with
  | nil => exact h.elim
  | cons a l => refine oEA (l1_x h) ?_; rintro b rfl h; exact ⟨a, b, rfl, h⟩
noncomputable def l3 (l : List Dat) (f : Dat → Dat → Dat → Prop) : Prop := match l with | [] => False | a :: l => l2 l (f a)
theorem l3_x {l : List Dat} {f : Dat → Dat → Dat → Prop} (h : l3 l f) : ∃ a b c, l = [a, b, c] ∧ f a b c := by
  cases l with
  | nil => exact h.elim
  | cons a l => refine oEEA (l2_x h) ?_; rintro b c rfl h; exact ⟨a, b, c, rfl, h⟩
noncomputable def l4 (l : List Dat) (f : Dat → Dat → Dat → Dat → Prop) : Prop := match l with | [] => False | a :: l => l3 l (f a)
theorem l4_x {l : List Dat} {f : Dat → Dat → Dat → Dat → Prop} (h : l4 l f) : ∃ a b c d, l = [a, b, c, d] ∧ f a b c d := by
  cases l with
  | nil => exact h.elim
  | cons a l => refine oEEEA (l3_x h) ?_; rintro b c d rfl h; exact ⟨a, b, c, d, rfl, h⟩
noncomputable def l5 (l : List Dat) (f : Dat → Dat → Dat → Dat → Dat → Prop) : Prop := match l with | [] => False | a :: l => l4 l (f a)
theorem l5_x {l : List Dat} {f : Dat → Dat → Dat → Dat → Dat → Prop} (h : l5 l f) : ∃ a b c d e, l = [a, b, c, d, e] ∧ f a b c d e := by
  cases l with
  | nil => exact h.elim
  | cons a l => refine oEEEEA (l4_x h) ?_; rintro b c d e rfl h; exact ⟨a, b, c, d, e, rfl, h⟩
noncomputable def oP (d : Dat) (f : Int → Prop) (b : Prop) : Prop := Dat.casesOn (motive_1 := fun _ => Prop) d (fun _ => b) (fun _ _ => b) f (fun _ => b) (fun _ => b) b (fun _ => b) (fun _ => b) (fun _ _ => b) (fun _ _ _ => b) (fun _ _ _ => b) (fun _ _ _ _ => b) (fun _ => b) (fun _ => b)
theorem oP_x {d : Dat} {f : Int → Prop} {b : Prop} (h : oP d f b) : (∃ p, d = .prm p ∧ f p) ∨ b := by cases d <;> first | exact .inl ⟨_, rfl, h⟩ | exact .inr h
noncomputable def dP (d : Dat) (f : Int → Prop) : Prop := oP d f False
theorem dP_x {d : Dat} {f : Int → Prop} (h : dP d f) : ∃ p, d = .prm p ∧ f p := (oP_x h).resolve_right id
noncomputable def oL (d : Dat) (f : Int → Prop) (b : Prop) : Prop := Dat.casesOn (motive_1 := fun _ => Prop) d f (fun _ _ => b) (fun _ => b) (fun _ => b) (fun _ => b) b (fun _ => b) (fun _ => b) (fun _ _ => b) (fun _ _ _ => b) (fun _ _ _ => b) (fun _ _ _ _ => b) (fun _ => b) (fun _ => b)
theorem oL_x {d : Dat} {f : Int → Prop} {b : Prop} (h : oL d f b) : (∃ p, d = .lit p ∧ f p) ∨ b := by cases d <;> first | exact .inl ⟨_, rfl, h⟩ | exact .inr h
noncomputable def dL (d : Dat) (f : Int → Prop) : Prop := oL d f False
theorem dL_x {d : Dat} {f : Int → Prop} (h : dL d f) : ∃ p, d = .lit p ∧ f p := (oL_x h).resolve_right id
noncomputable def oI (d : Dat) (f : Int → Nat → Prop) (b : Prop) : Prop := Dat.casesOn (motive_1 := fun _ => Prop) d (fun _ => b) f (fun _ => b) (fun _ => b) (fun _ => b) b (fun _ => b) (fun _ => b) (fun _ _ => b) (fun _ _ _ => b) (fun _ _ _ => b) (fun _ _ _ _ => b) (fun _ => b) (fun _ => b)
theorem oI_x {d : Dat} {f : Int → Nat → Prop} {b : Prop} (h : oI d f b) : (∃ n m, d = .int n m ∧ f n m) ∨ b := by cases d <;> first | exact .inl ⟨_, _, rfl, h⟩ | exact .inr h
noncomputable def dI (d : Dat) (f : Int → Nat → Prop) : Prop := oI d f False
theorem dI_x {d : Dat} {f : Int → Nat → Prop} (h : dI d f) : ∃ n m, d = .int n m ∧ f n m := (oI_x h).resolve_right id
noncomputable def oF (d : Dat) (f : Int → Int → Prop) (b : Prop) : Prop := Dat.casesOn (motive_1 := fun _ => Prop) d (fun _ => b) (fun _ _ => b) (fun _ => b) (fun _ => b) (fun _ => b) b (fun _ => b) (fun _ => b) f (fun _ _ _ => b) (fun _ _ _ => b) (fun _ _ _ _ => b) (fun _ => b) (fun _ => b)
theorem oF_x {d : Dat} {f : Int → Int → Prop} {b : Prop} (h : oF d f b) : (∃ p n, d = .fq p n ∧ f p n) ∨ b := by cases d <;> first | exact .inl ⟨_, _, rfl, h⟩ | exact .inr h
noncomputable def dF (d : Dat) (f : Int → Int → Prop) : Prop := oF d f False
theorem dF_x {d : Dat} {f : Int → Int → Prop} (h : dF d f) : ∃ p n, d = .fq p n ∧ f p n := (oF_x h).resolve_right id
noncomputable def oG (d : Dat) (f : Int → Int → Int → Prop) (b : Prop) : Prop := Dat.casesOn (motive_1 := fun _ => Prop) d (fun _ => b) (fun _ _ => b) (fun _ => b) (fun _ => b) (fun _ => b) b (fun _ => b) (fun _ => b) (fun _ _ => b) f (fun _ _ _ => b) (fun _ _ _ _ => b) (fun _ => b) (fun _ => b)
theorem oG_x {d : Dat} {f : Int → Int → Int → Prop} {b : Prop} (h : oG d f b) : (∃ p x y, d = .fqp p x y ∧ f p x y) ∨ b := by cases d <;> first | exact .inl ⟨_, _, _, rfl, h⟩ | exact .inr h
noncomputable def dG (d : Dat) (f : Int → Int → Int → Prop) : Prop := oG d f False
theorem dG_x {d : Dat} {f : Int → Int → Int → Prop} (h : dG d f) : ∃ p x y, d = .fqp p x y ∧ f p x y := (oG_x h).resolve_right id
noncomputable def oO (d : Dat) (f : Int → Int → Int → Prop) (b : Prop) : Prop := Dat.casesOn (motive_1 := fun _ => Prop) d (fun _ => b) (fun _ _ => b) (fun _ => b) (fun _ => b) (fun _ => b) b (fun _ => b) (fun _ => b) (fun _ _ => b) (fun _ _ _ => b) f (fun _ _ _ _ => b) (fun _ => b) (fun _ => b)
theorem oO_x {d : Dat} {f : Int → Int → Int → Prop} {b : Prop} (h : oO d f b) : (∃ p x y, d = .fq2 p x y ∧ f p x y) ∨ b := by cases d <;> first | exact .inl ⟨_, _, _, rfl, h⟩ | exact .inr h
noncomputable def dO (d : Dat) (f : Int → Int → Int → Prop) : Prop := oO d f False
theorem dO_x {d : Dat} {f : Int → Int → Int → Prop} (h : dO d f) : ∃ p x y, d = .fq2 p x y ∧ f p x y := (oO_x h).resolve_right id
noncomputable def oT (d : Dat) (f : List Dat → Prop) (b : Prop) : Prop := Dat.casesOn (motive_1 := fun _ => Prop) d (fun _ => b) (fun _ _ => b) (fun _ => b) (fun _ => b) (fun _ => b) b (fun _ => b) (fun _ => b) (fun _ _ => b) (fun _ _ _ => b) (fun _ _ _ => b) (fun _ _ _ _ => b) f (fun _ => b)
theorem oT_x {d : Dat} {f : List Dat → Prop} {b : Prop} (h : oT d f b) : (∃ l, d = .tup l ∧ f l) ∨ b := by cases d <;> first | exact .inl ⟨_, rfl, h⟩ | exact .inr h
noncomputable def dT (d : Dat) (f : List Dat → Prop) : Prop := oT d f False
theorem dT_x {d : Dat} {f : List Dat → Prop} (h : dT d f) : ∃ l, d = .tup l ∧ f l := (oT_x h).resolve_right id
noncomputable def oS (d : Dat) (f : List Dat → Prop) (b : Prop) : Prop := Dat.casesOn (motive_1 := fun _ => Prop) d (fun _ => b) (fun _ _ => b) (fun _ => b) (fun _ => b) (fun _ => b) b (fun _ => b) (fun _ => b) (fun _ _ => b) (fun _ _ _ => b) (fun _ _ _ => b) (fun _ _ _ _ => b) (fun _ => b) f
theorem oS_x {d : Dat} {f : List Dat → Prop} {b : Prop} (h : oS d f b) : (∃ l, d = .lst l ∧ f l) ∨ b := by cases d <;> first | exact .inl ⟨_, rfl, h⟩ | exact .inr h
noncomputable def dS (d : Dat) (f : List Dat → Prop) : Prop := oS d f False
theorem dS_x {d : Dat} {f : List Dat → Prop} (h : dS d f) : ∃ l, d = .lst l ∧ f l := (oS_x h).resolve_right id
noncomputable def oN (d : Dat) (a b : Prop) : Prop := Dat.casesOn (motive_1 := fun _ => Prop) d (fun _ => b) (fun _ _ => b) (fun _ => b) (fun _ => b) (fun _ => b) a (fun _ => b) (fun _ => b) (fun _ _ => b) (fun _ _ _ => b) (fun _ _ _ => b) (fun _ _ _ _ => b) (fun _ => b) (fun _ => b)
theorem oN_x {d : Dat} {a b : Prop} (h : oN d a b) : d = .none ∧ a ∨ b := by cases d <;> first | exact .inl ⟨rfl, h⟩ | exact .inr h
noncomputable def t2 (d : Dat) (f : Dat → Dat → Prop) : Prop := dT d fun l => l2 l f
theorem t2_x {d : Dat} {f : Dat → Dat → Prop} (h : t2 d f) : ∃ a b, d = .tup [a, b] ∧ f a b := by
  refine oEA (dT_x h) ?_; rintro l rfl h; refine oEEA (l2_x h) ?_; rintro a b rfl h; exact ⟨a, b, rfl, h⟩
noncomputable def i2 (d : Dat) (f : Int → Nat → Int → Nat → Prop) : Prop := t2 d fun a b => dI a fun x X => dI b fun i I => f x X i I
theorem i2_x {d : Dat} {f : Int → Nat → Int → Nat → Prop} (h : i2 d f) : ∃ x X i I, d = .tup [.int x X, .int i I] ∧ f x X i I := by
  refine oEEA (t2_x h) ?_; rintro a b rfl h; refine oEEA (dI_x h) ?_; rintro x X rfl h; refine oEEA (dI_x h) ?_; rintro i I rfl h; exact ⟨x, X, i, I, rfl, h⟩
noncomputable def j2 (d : Dat) (f : Int → Int → Prop) : Prop := t2 d fun a b => dL a fun x => dL b fun y => f x y
theorem j2_x {d : Dat} {f : Int → Int → Prop} (h : j2 d f) : ∃ x y, d = .tup [.lit x, .lit y] ∧ f x y := by
  refine oEEA (t2_x h) ?_; rintro a b rfl h; refine oEA (dL_x h) ?_; rintro x rfl h; refine oEA (dL_x h) ?_; rintro y rfl h; exact ⟨x, y, rfl, h⟩
noncomputable def i4 (d : Dat) (f : Int → Nat → Int → Nat → Int → Nat → Int → Nat → Prop) : Prop := t2 d fun a b => i2 a fun x X i I => i2 b fun y Y j J => f x X i I y Y j J
theorem i4_x {d : Dat} {f : Int → Nat → Int → Nat → Int → Nat → Int → Nat → Prop} (h : i4 d f) : ∃ x X i I y Y j J, d = .tup [.tup [.int x X, .int i I], .tup [.int y Y, .int j J]] ∧ f x X i I y Y j J := by
  refine oEEA (t2_x h) ?_; rintro a b rfl h; refine oEEEEA (i2_x h) ?_; rintro x X i I rfl h; refine oEEEEA (i2_x h) ?_; rintro y Y j J rfl h; exact ⟨x, X, i, I, y, Y, j, J, rfl, h⟩
noncomputable def pG (d : Dat) (f : Int → Int → Int → Int → Int → Int → Prop) : Prop := t2 d fun a b => dG a fun p x i => dG b fun q y j => f p x i q y j
theorem pG_x {d : Dat} {f : Int → Int → Int → Int → Int → Int → Prop} (h : pG d f) : ∃ p x i q y j, d = .tup [.fqp p x i, .fqp q y j] ∧ f p x i q y j := by
  refine oEEA (t2_x h) ?_; rintro a b rfl h; refine oEEEA (dG_x h) ?_; rintro p x i rfl h; refine oEEEA (dG_x h) ?_; rintro q y j rfl h; exact ⟨p, x, i, q, y, j, rfl, h⟩
noncomputable def o3 (d : Dat) (f : Int → Int → Int → Int → Int → Int → Int → Int → Int → Prop) : Prop := dT d fun l => l3 l fun a b c => dO a fun q x0 x1 => dO b fun r y0 y1 => dO c fun t z0 z1 => f q x0 x1 r y0 y1 t z0 z1
theorem o3_x {d : Dat} {f : Int → Int → Int → Int → Int → Int → Int → Int → Int → Prop} (h : o3 d f) : ∃ q x0 x1 r y0 y1 t z0 z1, d = .tup [.fq2 q x0 x1, .fq2 r y0 y1, .fq2 t z0 z1] ∧ f q x0 x1 r y0 y1 t z0 z1 := by
  refine oEA (dT_x h) ?_; rintro l rfl h; refine oEEEA (l3_x h) ?_; rintro a b c rfl h; refine oEEEA (dO_x h) ?_; rintro q x0 x1 rfl h; refine oEEEA (dO_x h) ?_; rintro r y0 y1 rfl h; refine oEEEA (dO_x h) ?_; rintro t z0 z1 rfl h
  exact ⟨q, x0, x1, r, y0, y1, t, z0, z1, rfl, h⟩
noncomputable def nE (f n : Nat) (a b : Prop) : Prop := match Nat.beq f n with | true => a | false => b
theorem nE_x {f n : Nat} {a b : Prop} (h : nE f n a b) : f = n ∧ a ∨ b := by
  unfold nE at h
  cases e : Nat.beq f n <;> rw [e] at h
  · exact .inr h
  · exact .inl ⟨Nat.eq_of_beq_eq_true e, h⟩
noncomputable def oJ {α : Type} (o : Option α) (f : α → Prop) : Prop := match o with | some x => f x | none => False
theorem oJ_x {α : Type} {o : Option α} {f : α → Prop} (h : oJ o f) : ∃ x, o = some x ∧ f x := by cases o <;> first | exact h.elim | exact ⟨_, rfl, h⟩
noncomputable def oB {α : Type} (b : Bool) (o : Option α) : Option α := match b with | true => o | false => none
theorem oB_x {α : Type} {b : Bool} {o : Option α} {x : α} (h : oB b o = some x) : b = true ∧ o = some x := by cases b <;> first | exact ⟨rfl, h⟩ | cases h
theorem gd_k {b : Bool} {f G : Prop} (h : gd b f) (k : b = true → f → G) : G := by cases b <;> first | exact h.elim | exact k rfl h
noncomputable def gn (b : Bool) (f : Prop) : Prop := match b with | true => False | false => f
theorem gn_k {b : Bool} {f G : Prop} (h : gn b f) (k : b = false → f → G) : G := by cases b <;> first | exact h.elim | exact k rfl h
noncomputable def bb (b : Bool) (f g : Prop) : Prop := match b with | true => f | false => g
theorem bb_k {b : Bool} {f g G : Prop} (h : bb b f g) (k1 : b = true → f → G) (k2 : b = false → g → G) : G := by cases b <;> first | exact k2 rfl h | exact k1 rfl h
theorem oJ_k {α : Type} {o : Option α} {f : α → Prop} {G : Prop} (h : oJ o f) (k : ∀ x, o = some x → f x → G) : G := by cases o <;> first | exact h.elim | exact k _ rfl h
noncomputable def oo {α : Type} (o : Option α) (f : α → Prop) (g : Prop) : Prop := match o with | some x => f x | none => g
theorem oo_k {α : Type} {o : Option α} {f : α → Prop} {g G : Prop} (h : oo o f g) (k1 : ∀ x, o = some x → f x → G) (k2 : o = none → g → G) : G := by cases o <;> first | exact k2 rfl h | exact k1 _ rfl h
noncomputable def isNo {α : Type} (o : Option α) : Bool := match o with | none => true | some _ => false
theorem isNo_ok {α : Type} {o : Option α} (h : isNo o = true) : o = none := by cases o <;> first | rfl | cases h
theorem nE_k {f n : Nat} {a b G : Prop} (h : nE f n a b) (k1 : f = n → a → G) (k2 : b → G) : G := (nE_x h).elim (fun h => k1 h.1 h.2) k2
@[elab_as_elim] theorem oL_e {d : Dat} {f : Int → Prop} {b : Prop} {m : Dat → Prop} (h : oL d f b) (k1 : ∀ n, f n → m (.lit n)) (k2 : b → m d) : m d := by cases d <;> first | exact k1 _ h | exact k2 h
@[elab_as_elim] theorem oI_e {d : Dat} {f : Int → Nat → Prop} {b : Prop} {m : Dat → Prop} (h : oI d f b) (k1 : ∀ n B, f n B → m (.int n B)) (k2 : b → m d) : m d := by cases d <;> first | exact k1 _ _ h | exact k2 h
@[elab_as_elim] theorem oT_e {d : Dat} {f : List Dat → Prop} {b : Prop} {m : Dat → Prop} (h : oT d f b) (k1 : ∀ l, f l → m (.tup l)) (k2 : b → m d) : m d := by cases d <;> first | exact k1 _ h | exact k2 h
@[elab_as_elim] theorem oS_e {d : Dat} {f : List Dat → Prop} {b : Prop} {m : Dat → Prop} (h : oS d f b) (k1 : ∀ l, f l → m (.lst l)) (k2 : b → m d) : m d := by cases d <;> first | exact k1 _ h | exact k2 h
@[elab_as_elim] theorem dL_e {d : Dat} {f : Int → Prop} {m : Dat → Prop} (h : dL d f) (k : ∀ n, f n → m (.lit n)) : m d := oL_e h k False.elim
@[elab_as_elim] theorem dI_e {d : Dat} {f : Int → Nat → Prop} {m : Dat → Prop} (h : dI d f) (k : ∀ n B, f n B → m (.int n B)) : m d := oI_e h k False.elim
@[elab_as_elim] theorem dT_e {d : Dat} {f : List Dat → Prop} {m : Dat → Prop} (h : dT d f) (k : ∀ l, f l → m (.tup l)) : m d := oT_e h k False.elim
@[elab_as_elim] theorem dS_e {d : Dat} {f : List Dat → Prop} {m : Dat → Prop} (h : dS d f) (k : ∀ l, f l → m (.lst l)) : m d := oS_e h k False.elim
noncomputable def oR (d : Dat) (f : Nat → Prop) (g : Prop) : Prop := match d with | .rf a => f a | _ => g
@[elab_as_elim] theorem oR_e {d : Dat} {f : Nat → Prop} {g : Prop} {m : Dat → Prop} (h : oR d f g) (k1 : ∀ a, f a → m (.rf a)) (k2 : g → m d) : m d := by cases d <;> first | exact k1 _ h | exact k2 h
noncomputable def dBi (d : Dat) (f : Nat → Prop) : Prop := match d with | .bi a => f a | _ => False
@[elab_as_elim] theorem dBi_e {d : Dat} {f : Nat → Prop} {m : Dat → Prop} (h : dBi d f) (k : ∀ a, f a → m (.bi a)) : m d := by cases d <;> first | exact k _ h | exact h.elim
@[elab_as_elim] theorem l1_e {l : List Dat} {f : Dat → Prop} {m : List Dat → Prop} (h : l1 l f) (k : ∀ a, f a → m [a]) : m l := by refine oEA (l1_x h) ?_; rintro a rfl h; exact k a h
@[elab_as_elim] theorem l2_e {l : List Dat} {f : Dat → Dat → Prop} {m : List Dat → Prop} (h : l2 l f) (k : ∀ a b, f a b → m [a, b]) : m l := by refine oEEA (l2_x h) ?_; rintro a b rfl h; exact k a b h
@[elab_as_elim] theorem l3_e {l : List Dat} {f : Dat → Dat → Dat → Prop} {m : List Dat → Prop} (h : l3 l f) (k : ∀ a b c, f a b c → m [a, b, c]) : m l := by refine oEEEA (l3_x h) ?_; rintro a b c rfl h; exact k a b c h
noncomputable def n0 {α : Type} (l : List α) (f : Prop) : Prop := match l with | [] => f | _ :: _ => False
@[elab_as_elim] theorem n0_e {α : Type} {l : List α} {f : Prop} {m : List α → Prop} (h : n0 l f) (k : f → m []) : m l := by cases l <;> first | exact k h | exact h.elim
noncomputable def n1 {α : Type} (l : List α) (f : α → Prop) (g : Prop) : Prop := match l with | [] => g | a :: r => match r with | [] => f a | _ :: _ => g
@[elab_as_elim] theorem n1_e {α : Type} {l : List α} {f : α → Prop} {g : Prop} {m : List α → Prop} (h : n1 l f g) (k1 : ∀ a, f a → m [a]) (k2 : g → m l) : m l := by rcases l with _ | ⟨a, _ | ⟨b, l⟩⟩ <;> first | exact k1 _ h | exact k2 h
theorem n1_k {α : Type} {l : List α} {f : α → Prop} {g G : Prop} (h : n1 l f g) (k1 : ∀ a, l = [a] → f a → G) (k2 : g → G) : G := n1_e (m := fun l' => l = l' → G) h (fun a h q => k1 a q h) (fun h _ => k2 h) rfl
noncomputable def n2 {α : Type} (l : List α) (f : α → α → Prop) : Prop := match l with | [] => False | a :: r => n1 r (f a) False
@[elab_as_elim] theorem n2_e {α : Type} {l : List α} {f : α → α → Prop} {m : List α → Prop} (h : n2 l f) (k : ∀ a b, f a b → m [a, b]) : m l := by
  cases l with
  | nil => exact h.elim
  | cons a r => exact n1_e (m := fun r => m (a :: r)) h (k a) False.elim
theorem l1_k {l : List Dat} {f : Dat → Prop} (h : l1 l f) {G : Prop} (k : ∀ a, l = [a] → f a → G) : G := oEA (l1_x h) k
theorem l2_k {l : List Dat} {f : Dat → Dat → Prop} (h : l2 l f) {G : Prop} (k : ∀ a b, l = [a, b] → f a b → G) : G := oEEA (l2_x h) k
theorem l3_k {l : List Dat} {f : Dat → Dat → Dat → Prop} (h : l3 l f) {G : Prop} (k : ∀ a b c, l = [a, b, c] → f a b c → G) : G := oEEEA (l3_x h) k
theorem l4_k {l : List Dat} {f : Dat → Dat → Dat → Dat → Prop} (h : l4 l f) {G : Prop} (k : ∀ a b c d, l = [a, b, c, d] → f a b c d → G) : G := oEEEEA (l4_x h) k
theorem l5_k {l : List Dat} {f : Dat → Dat → Dat → Dat → Dat → Prop} (h : l5 l f) {G : Prop} (k : ∀ a b c d e, l = [a, b, c, d, e] → f a b c d e → G) : G := oEEEEEA (l5_x h) k
theorem dP_k {d : Dat} {f : Int → Prop} (h : dP d f) {G : Prop} (k : ∀ p, d = .prm p → f p → G) : G := oEA (dP_x h) k
theorem oL_k {d : Dat} {f : Int → Prop} {b : Prop} (h : oL d f b) {G : Prop} (k1 : ∀ p, d = .lit p → f p → G) (k2 : b → G) : G := Or.elim (oL_x h) (fun h => oEA h k1) fun h => k2 h
theorem dL_k {d : Dat} {f : Int → Prop} (h : dL d f) {G : Prop} (k : ∀ p, d = .lit p → f p → G) : G := oEA (dL_x h) k
theorem oI_k {d : Dat} {f : Int → Nat → Prop} {b : Prop} (h : oI d f b) {G : Prop} (k1 : ∀ n m, d = .int n m → f n m → G) (k2 : b → G) : G := Or.elim (oI_x h) (fun h => oEEA h k1) fun h => k2 h
theorem dI_k {d : Dat} {f : Int → Nat → Prop} (h : dI d f) {G : Prop} (k : ∀ n m, d = .int n m → f n m → G) : G := oEEA (dI_x h) k
theorem oF_k {d : Dat} {f : Int → Int → Prop} {b : Prop} (h : oF d f b) {G : Prop} (k1 : ∀ p n, d = .fq p n → f p n → G) (k2 : b → G) : G := Or.elim (oF_x h) (fun h => oEEA h k1) fun h => k2 h
theorem dF_k {d : Dat} {f : Int → Int → Prop} (h : dF d f) {G : Prop} (k : ∀ p n, d = .fq p n → f p n → G) : G := oEEA (dF_x h) k
theorem oG_k {d : Dat} {f : Int → Int → Int → Prop} {b : Prop} (h : oG d f b) {G : Prop} (k1 : ∀ p x y, d = .fqp p x y → f p x y → G) (k2 : b → G) : G := Or.elim (oG_x h) (fun h => oEEEA h k1) fun h => k2 h
theorem dG_k {d : Dat} {f : Int → Int → Int → Prop} (h : dG d f) {G : Prop} (k : ∀ p x y, d = .fqp p x y → f p x y → G) : G := oEEEA (dG_x h) k
theorem oO_k {d : Dat} {f : Int → Int → Int → Prop} {b : Prop} (h : oO d f b) {G : Prop} (k1 : ∀ p x y, d = .fq2 p x y → f p x y → G) (k2 : b → G) : G := Or.elim (oO_x h) (fun h => oEEEA h k1) fun h => k2 h
theorem dO_k {d : Dat} {f : Int → Int → Int → Prop} (h : dO d f) {G : Prop} (k : ∀ p x y, d = .fq2 p x y → f p x y → G) : G := oEEEA (dO_x h) k
theorem oT_k {d : Dat} {f : List Dat → Prop} {b : Prop} (h : oT d f b) {G : Prop} (k1 : ∀ l, d = .tup l → f l → G) (k2 : b → G) : G := Or.elim (oT_x h) (fun h => oEA h k1) fun h => k2 h
theorem dT_k {d : Dat} {f : List Dat → Prop} (h : dT d f) {G : Prop} (k : ∀ l, d = .tup l → f l → G) : G := oEA (dT_x h) k
theorem oS_k {d : Dat} {f : List Dat → Prop} {b : Prop} (h : oS d f b) {G : Prop} (k1 : ∀ l, d = .lst l → f l → G) (k2 : b → G) : G := Or.elim (oS_x h) (fun h => oEA h k1) fun h => k2 h
theorem dS_k {d : Dat} {f : List Dat → Prop} (h : dS d f) {G : Prop} (k : ∀ l, d = .lst l → f l → G) : G := oEA (dS_x h) k
theorem oN_k {d : Dat} {a b : Prop} (h : oN d a b) {G : Prop} (k1 : d = .none → a → G) (k2 : b → G) : G := Or.elim (oN_x h) (fun h => oA h k1) fun h => k2 h
theorem t2_k {d : Dat} {f : Dat → Dat → Prop} (h : t2 d f) {G : Prop} (k : ∀ a b, d = .tup [a, b] → f a b → G) : G := oEEA (t2_x h) k
theorem i2_k {d : Dat} {f : Int → Nat → Int → Nat → Prop} (h : i2 d f) {G : Prop} (k : ∀ x X i I, d = .tup [.int x X, .int i I] → f x X i I → G) : G := oEEEEA (i2_x h) k
theorem j2_k {d : Dat} {f : Int → Int → Prop} (h : j2 d f) {G : Prop} (k : ∀ x y, d = .tup [.lit x, .lit y] → f x y → G) : G := oEEA (j2_x h) k
theorem i4_k {d : Dat} {f : Int → Nat → Int → Nat → Int → Nat → Int → Nat → Prop} (h : i4 d f) {G : Prop} (k : ∀ x X i I y Y j J, d = .tup [.tup [.int x X, .int i I], .tup [.int y Y, .int j J]] → f x X i I y Y j J → G) : G := oEEEEEEEEA (i4_x h) k
theorem pG_k {d : Dat} {f : Int → Int → Int → Int → Int → Int → Prop} (h : pG d f) {G : Prop} (k : ∀ p x i q y j, d = .tup [.fqp p x i, .fqp q y j] → f p x i q y j → G) : G := oEEEEEEA (pG_x h) k
theorem o3_k {d : Dat} {f : Int → Int → Int → Int → Int → Int → Int → Int → Int → Prop} (h : o3 d f) {G : Prop} (k : ∀ q x0 x1 r y0 y1 t z0 z1, d = .tup [.fq2 q x0 x1, .fq2 r y0 y1, .fq2 t z0 z1] → f q x0 x1 r y0 y1 t z0 z1 → G) : G := oEEEEEEEEEA (o3_x h) k
theorem oB_k {α : Type} {b : Bool} {o : Option α} {x : α} (h : oB b o = some x) {G : Prop} (k : b = true → o = some x → G) : G := oA (oB_x h) k
end
section
open PySem.SeqAt
inductive Val where
  | d (x : Dat) | loc (i : Nat)
inductive Fl where
  | next | brk | cont | ret (d : Dat)
structure St where
  vars : List (Str × Val)
  own : List (Bool × List Dat)
  orc : List Bool
noncomputable def vv (v : Val) (f : Dat → Prop) (g : Nat → Prop) : Prop := match v with | .d x => f x | .loc i => g i
@[elab_as_elim] theorem vv_e {v : Val} {f : Dat → Prop} {g : Nat → Prop} {m : Val → Prop} (h : vv v f g) (k1 : ∀ x, f x → m (.d x)) (k2 : ∀ i, g i → m (.loc i)) : m v := by cases v <;> first | exact k1 _ h | exact k2 _ h
noncomputable def vD (v : Val) (f : Dat → Prop) : Prop := match v with | .d x => f x | .loc _ => False
@[elab_as_elim] theorem vD_e {v : Val} {f : Dat → Prop} {m : Val → Prop} (h : vD v f) (k : ∀ x, f x → m (.d x)) : m v := by cases v <;> first | exact k _ h | exact h.elim
noncomputable def vL (v : Val) (f : Nat → Prop) : Prop := match v with | .d _ => False | .loc i => f i
@[elab_as_elim] theorem vL_e {v : Val} {f : Nat → Prop} {m : Val → Prop} (h : vL v f) (k : ∀ i, f i → m (.loc i)) : m v := by cases v <;> first | exact k _ h | exact h.elim
noncomputable def vB (n : Nat) (v : Val) (f : Prop) : Prop := vD v fun d => dBi d fun i => gd (Nat.beq i n) f
@[elab_as_elim] theorem vB_e {n : Nat} {v : Val} {f : Prop} {m : Val → Prop} (h : vB n v f) (k : f → m (.d (.bi n))) : m v :=
  vD_e h fun x h => dBi_e (m := fun x => m (.d x)) h fun i h => gd_k h fun e h2 => by obtain rfl := Nat.eq_of_beq_eq_true e; exact k h2
noncomputable def ow (o : Option (Bool × List Dat)) (f : Bool → List Dat → Prop) : Prop := match o with | some (b, l) => f b l | none => False
theorem ow_k {o : Option (Bool × List Dat)} {f : Bool → List Dat → Prop} {G : Prop} (h : ow o f) (k : ∀ b l, o = some (b, l) → f b l → G) : G := by cases o <;> first | exact h.elim | exact k _ _ rfl h
noncomputable def owF (o : Option (Bool × List Dat)) (f : List Dat → Prop) : Prop := match o with | some (b, l) => gn b (f l) | none => False
theorem owF_k {o : Option (Bool × List Dat)} {f : List Dat → Prop} {G : Prop} (h : owF o f) (k : ∀ l, o = some (false, l) → f l → G) : G := ow_k h fun b l e h => gn_k h fun q h => by subst q; exact k l e h
structure Cx where
  kind : Str → Option NameKind
  gam : List Ctr
  D : Nat
  U : Nat
noncomputable abbrev KV := Val → St → Prop
noncomputable abbrev KD := Dat → St → Prop
noncomputable abbrev KB := Bool → St → Prop
noncomputable def seq (a b : Str) : Bool := go a.cps.toList b.cps.toList
where go : List Nat → List Nat → Bool
  | [], [] => true
  | x :: xs, y :: ys => match Nat.beq x y with | true => go xs ys | false => false
  | _, _ => false
noncomputable def look {α : Type} (x : Str) : List (Str × α) → Option α
  | [] => none
  | (y, a) :: r => match seq x y with | true => some a | false => look x r

noncomputable def globs : List (Str × Nat) := [("FQ", 183), ("FQP_field_elements", 297), ("FQP_optimized_field_elements", 457), ("FQ2", 486),
  ("prime_field_inv", 28), ("deg", 35), ("poly_rounded_div", 40), ("is_inf_bn128_curve", 308), ("is_on_curve", 315), ("double_bn128_curve", 322), ("add_bn128_curve", 329), ("neg", 336),
  ("is_inf_optimized_curve", 495), ("double_optimized_curve", 502), ("add_optimized_curve", 509), ("multiply", 516), ("eq", 523), ("normalize", 530),
  ("_law_at", 618), ("_law_mul", 625), ("_law_plus", 632), ("_law_over", 639), ("_law_sum", 646), ("_law_opposite", 653), ("_law_point", 660), ("_law_plain", 667), ("_law_told", 672), ("_law_quick", 677), ("_law_is_quick", 682), ("_law_answers", 689)]
noncomputable def bools : List (Str × Nat) := [("isinstance", 0), ("len", 1), ("int", 2), ("tuple", 3), ("list", 4), ("range", 5), ("zip", 6), ("enumerate", 7), ("pow", 8)]
noncomputable def mth (C : Nat) (x : Str) : Option Addr := match C with
  | 183 => look x [("__add__", 61), ("__mul__", 68), ("__rsub__", 89), ("__sub__", 96), ("__truediv__", 103), ("__rtruediv__", 110), ("__eq__", 124), ("__ne__", 131), ("__neg__", 138), ("__int__", 152), ("made", 166)]
  | 297 => look x [("made", 208), ("FQP_corresponding_FQ_class", 215), ("__add__", 220), ("__sub__", 225), ("__mul__", 230), ("__rmul__", 237), ("__truediv__", 242), ("__pow__", 249), ("inv", 254), ("__eq__", 268), ("__neg__", 280), ("one", 287)]
  | 486 => look x [("made", 475), ("__sub__", 365), ("__add__", 360), ("__mul__", 377), ("__rmul__", 384), ("__truediv__", 389), ("optimized_poly_rounded_div", 401), ("inv", 406), ("__eq__", 420), ("one", 447), ("zero", 454)]
  | _ => none
noncomputable def kls : Dat → Option Nat
  | .fq _ _ => some 183
  | .fqp _ _ _ => some 297
  | .ob _ C _ _ => oB (Nat.beq C 183 || Nat.beq C 297 || Nat.beq C 486) (some C)
  | .fq2 _ _ _ => some 486
  | _ => none
noncomputable def bits : Nat := 2 ^ 60
noncomputable def intOf : Dat → Option (Int × Nat)
  | .lit n => some (n, n.natAbs)
  | .int n B => some (n, B)
  | .prm p => some (p, 127)
  | _ => none
noncomputable def opN : Operator → Nat
  | .Add => 0 | .Sub => 1 | .Mult => 2 | .Mod => 3 | .FloorDiv => 4 | .Div => 5 | .Pow => 6 | _ => 7
noncomputable def isLit : Dat → Bool
  | .lit _ => true
  | _ => false
noncomputable def posD : Dat → Bool
  | .lit y => decide (0 < y)
  | .prm _ => true
  | _ => false
noncomputable def arI (op : Nat) (x : Int) (A : Nat) (y : Int) (B : Nat) (pos : Bool) : Option (Int × Nat) := match op with
  | 0 => some (x + y, A + B)
  | 1 => some (x - y, A + B)
  | 2 => (match Nat.ble (A * B) bits with | true => some (x * y, A * B) | false => none)
  | 3 => (match pos with | true => some (x % y, B) | false => none)
  | 4 => (match pos && Nat.ble B 1000000000 with | true => some (x / y, A) | false => none)
  | _ => none
noncomputable def bI {α : Type} (b : Bool) (x y : α) : α := match b with | true => x | false => y
noncomputable def oM {α β : Type} (o : Option α) (f : α → Option β) : Option β := match o with | some x => f x | none => none
theorem oM_k {α β : Type} {o : Option α} {f : α → Option β} {r : β} {G : Prop} (h : oM o f = some r) (k : ∀ x, o = some x → f x = some r → G) : G := by cases o <;> first | exact k _ rfl h | exact nomatch h
noncomputable def arith (op : Nat) (a b : Dat) : Option Dat := oM (intOf a) fun x => oM (intOf b) fun y => oM (arI op x.1 x.2 y.1 y.2 (posD b)) fun z => some (bI (isLit a && isLit b) (.lit z.1) (.int z.1 z.2))
noncomputable def cmpN : CmpOp → Nat
  | .Eq => 0 | .NotEq => 1 | .Lt => 2 | .LtE => 3 | .Gt => 4 | .GtE => 5 | .Is => 6 | .IsNot => 7 | _ => 8
noncomputable def cmpB (op : Nat) (x y : Int) : Option Bool := match op with
  | 0 => some (decide (x = y))
  | 1 => some (!decide (x = y))
  | 2 => some (decide (x < y))
  | 3 => some (decide (x ≤ y))
  | 4 => some (decide (y < x))
  | 5 => some (decide (y ≤ x))
  | _ => none
noncomputable def cmpI (op : Nat) (a b : Dat) : Option Dat := oM (intOf a) fun x => oM (intOf b) fun y => oM (cmpB op x.1 y.1) fun r => some (bI (isLit a && isLit b) (.bool r) (.sb r))
mutual
noncomputable def toPy : Dat → Option PyData
  | .lit n => some (.int n)
  | .int n _ => some (.int n)
  | .prm n => some (.int n)
  | .bool b => some (.bool b)
  | .sb b => some (.bool b)
  | .none => some .none
  | .tup l => oM (toPyL l) fun l => some (.tuple l)
  | _ => none
noncomputable def toPyL : List Dat → Option (List PyData)
  | [] => some []
  | d :: r => oM (toPy d) fun x => oM (toPyL r) fun l => some (x :: l)
end
noncomputable def isNn : Dat → Bool
  | .none => true
  | _ => false
noncomputable def eqD (neg : Bool) (a b : Dat) : Option Dat := oM (toPy a) fun x => oM (toPy b) fun y => oB (shaped x && shaped y) (some (bI (isNn a || isNn b) (.bool (xor neg (PyData.eqv x y))) (.sb (xor neg (PyData.eqv x y)))))
noncomputable def br (d : Dat) (st : St) (k : KB) : Prop := match d with
  | .bool true => k true st
  | .bool false => k false st
  | .none => k false st
  | .lit n => bb (decide (n = 0)) (k false st) (k true st)
  | .sb b => (match st.orc with
    | c :: r => b = c ∧ k c { st with orc := r }
    | [] => (b = true → k true st) ∧ (b = false → k false st))
  | _ => False
noncomputable def frz : List (Bool × List Dat) → Nat → List (Bool × List Dat)
  | [], _ => []
  | (_, l) :: r, 0 => (true, l) :: r
  | x :: r, i + 1 => x :: frz r i
noncomputable def toD (v : Val) (st : St) (k : KD) : Prop := vv v (fun x => k x st) fun i => ow st.own[i]? fun _ l => k (.lst l) { st with own := frz st.own i }
noncomputable def newL (l : List Dat) (st : St) (k : KV) : Prop := gd (Nat.ble l.length 1000) (k (.loc st.own.length) { st with own := st.own ++ [(false, l)] })
noncomputable def callF (cx : Cx) (f : Nat) (args : List Dat) (st : St) (k : KD) : Prop := oJ (cx.gam.find? (fun c => Nat.beq c.f f)) fun c => gd (Nat.ble cx.D c.D && Nat.ble cx.U c.U) (c.T args st.orc fun d o => k d { st with orc := o })
noncomputable def dund (op : Nat) : Str := match op with | 0 => "__add__" | 1 => "__sub__" | 2 => "__mul__" | 5 => "__truediv__" | 6 => "__pow__" | _ => ""
noncomputable def dundR (op : Nat) : Str := match op with | 2 => "__rmul__" | 1 => "__rsub__" | 5 => "__rtruediv__" | _ => ""
noncomputable def binO (cx : Cx) (op : Nat) (a b : Dat) (st : St) (k : KD) : Prop :=
  oo (kls a) (fun C => oJ (mth C (dund op)) fun f => oo (kls b) (fun C' => gd (Nat.beq C C') (callF cx f [a, b] st k)) (oJ (intOf b) fun _ => callF cx f [a, b] st k)) <|
    oJ (kls b) fun C => oJ (intOf a) fun _ => oJ (mth C (dundR op)) fun f => callF cx f [b, a] st k
noncomputable def isOb (a b : Dat) : Bool := (kls a).isSome || (kls b).isSome
noncomputable def binG (op : Nat) (a b : Dat) (st : St) (k : KV) : Prop := oJ (arith op a b) fun d => k (.d d) st
noncomputable def binD (cx : Cx) (op : Nat) (a b : Dat) (st : St) (k : KV) : Prop := bb (isOb a b) (binO cx op a b st fun d => k (.d d)) <|
    nE op 0 (oS a (fun l => dS b fun r => newL (l ++ r) st k) <| oT a (fun l => dT b fun r => gd (Nat.blt 0 l.length) <| gd (Nat.blt 0 r.length) <| gd (Nat.ble (l.length + r.length) 1000) (k (.d (.tup (l ++ r))) st)) <| binG op a b st k) <|
    nE op 2 (oS a (fun l => dL b fun n => gd (decide (0 ≤ n) && decide (n < 100) && Nat.ble l.length 1000) (newL ((List.replicate n.toNat l).flatten) st k)) <| binG op a b st k) <|
    nE op 3 (oI b (fun y B => oJ (intOf a) fun x => 0 < y ∧ k (.d (.int (x.1 % y) B)) st) <| binG op a b st k) <|
    nE op 4 (oI b (fun y B => oJ (intOf a) fun x => (0 < y ∧ y ≤ 1000) ∧ k (.d (.int (x.1 / y) x.2)) st) <| binG op a b st k) <| binG op a b st k
noncomputable def inpOk (a : Dat) : Bool := match kls a with | some C => Nat.beq C 183 | none => (intOf a).isSome
noncomputable def binI (cx : Cx) (op : Nat) (a b : Dat) (st : St) (k : KD) : Prop := bb (isOb a b) (gd (Nat.blt op 2 && inpOk a) (binO cx op a b st k)) (oJ (arith op a b) fun d => k d st)
noncomputable abbrev Pt4 := Int × Int × Int × Int
noncomputable def ptD (q : Pt4) : Dat := .tup [.int q.1 127, .int q.2.1 127, .int q.2.2.1 127, .int q.2.2.2 127]
noncomputable def inP (p n : Int) : Bool := decide (0 ≤ n) && decide (n < p)
noncomputable def ptOk (p b0 b1 : Int) (q : Pt4) : Bool :=
  inP p q.1 && inP p q.2.1 && inP p q.2.2.1 && inP p q.2.2.2 && !(decide (q.2.2.1 = 0) && decide (q.2.2.2 = 0)) &&
  decide ((q.2.2.1 * q.2.2.1 - q.2.2.2 * q.2.2.2 - (q.1 * q.1 * q.1 - 3 * q.1 * q.2.1 * q.2.1) - b0) % p = 0) &&
  decide ((2 * q.2.2.1 * q.2.2.2 - (3 * q.1 * q.1 * q.2.1 - q.2.1 * q.2.1 * q.2.1) - b1) % p = 0)
noncomputable def crvOk (p b0 b1 : Int) (pts : List Pt4) : Bool :=
  inP p b0 && inP p b1 && Nat.beq pts.length 7 && pts.all (ptOk p b0 b1) &&
  pts.all fun a => pts.all fun c => !(decide (a.1 = c.1) && decide (a.2.1 = c.2.1)) || (decide (a.2.2.1 = c.2.2.1) && decide (a.2.2.2 = c.2.2.2))
structure Crv (p b0 b1 : Int) (pts : List Pt4) : Prop where
  pr : Pr p
  ok : crvOk p b0 b1 pts = true
noncomputable def crvD (p b0 b1 : Int) (pts : List Pt4) : Dat := .tup [.prm p, .tup [.int b0 127, .int b1 127], .lst (pts.map ptD)]
noncomputable def Four (l : List Dat) : Prop := ∀ d ∈ l, ∃ q, d = ptD q
noncomputable def isNone : Dat → Option Bool
  | .none => some true
  | .sb _ => none
  | .bool _ => none
  | .bi _ => none
  | .ob _ _ _ _ => none
  | _ => some false
noncomputable def oEl {α : Type} (o p : Option α) : Option α := match o with | some x => some x | none => p
theorem oEl_x {α : Type} {o p : Option α} {x : α} (h : oEl o p = some x) : o = some x ∨ p = some x := by cases o <;> first | exact .inr h | exact .inl h
noncomputable def cmpIs (neg : Bool) (a b : Dat) : Option Dat := match b with
  | .none => oM (isNone a) fun r => some (.bool (bI neg (!r) r))
  | .bool y => (match a with
    | .sb x => some (.sb (bI neg (!(x == y)) (x == y)))
    | .bool x => some (.bool (bI neg (!(x == y)) (x == y)))
    | _ => none)
  | _ => none
noncomputable def cmpP (op : Nat) (a b : Dat) : Option Dat := match op with
  | 0 => oEl (cmpI 0 a b) (eqD false a b)
  | 1 => oEl (cmpI 1 a b) (eqD true a b)
  | 2 => cmpI 2 a b
  | 3 => cmpI 3 a b
  | 4 => cmpI 4 a b
  | 5 => cmpI 5 a b
  | 6 => cmpIs false a b
  | 7 => cmpIs true a b
  | _ => none
noncomputable def cmpM (op : Nat) (C : Nat) : Option Nat := match op with | 0 => mth C "__eq__" | 1 => mth C "__ne__" | _ => none
noncomputable def cmpD (cx : Cx) (op : Nat) (a b : Dat) (st : St) (k : KD) : Prop :=
  oo (oB (Nat.blt op 2) (kls a)) (fun C => oJ (cmpM op C) fun f => oo (kls b) (fun C' => gd (Nat.beq C C') (callF cx f [a, b] st k)) (oJ (intOf b) fun _ => callF cx f [a, b] st k)) (oJ (cmpP op a b) fun d => k d st)
noncomputable def tyN : Dat → Option Nat
  | .lit _ | .int _ _ | .prm _ => some 0
  | d => kls d
noncomputable def isTs : List (Nat × Nat × Bool) := [(0, 0, true), (0, 183, false), (0, 297, false), (0, 457, false), (183, 0, false), (183, 183, true), (297, 0, false), (297, 183, false), (297, 297, true), (486, 0, false), (486, 457, true)]
noncomputable def isT (t c : Nat) : Option Bool := go isTs
where go : List (Nat × Nat × Bool) → Option Bool
  | [] => none
  | y :: r => bI (Nat.beq y.1 t && Nat.beq y.2.1 c) (some y.2.2) (go r)
theorem bI_x {α : Type} {b : Bool} {x y r : α} (h : bI b x y = r) : b = true ∧ x = r ∨ b = false ∧ y = r := by cases b <;> first | exact .inr ⟨rfl, h⟩ | exact .inl ⟨rfl, h⟩
theorem isT_go {t c : Nat} {b : Bool} : ∀ {l : List (Nat × Nat × Bool)}, isT.go t c l = some b → (t, c, b) ∈ l
  | [], h => no_some h
  | (t', c', b') :: r, h => by
    rcases bI_x h with ⟨e, q⟩ | ⟨_, q⟩ <;> clear h
    · refine oA (Bool.and_eq_true_iff.mp e) ?_; intro e1 e2
      obtain rfl : t' = t := Nat.eq_of_beq_eq_true e1
      obtain rfl : c' = c := Nat.eq_of_beq_eq_true e2
      obtain rfl : b' = b := Option.some.inj q
      exact .head _
    · exact .tail _ (isT_go q)
noncomputable def clN : Dat → Option Nat
  | .rf (a + 1) => some (a + 1)
  | .bi 2 => some 0
  | _ => none
noncomputable def isInst (d c : Dat) : Option Bool := oM (tyN d) fun t => oM (clN c) fun c => isT t c
noncomputable def isInsts (d : Dat) : List Dat → Option Bool
  | [] => some false
  | t :: r => oM (isInst d t) fun b => bI b (some true) (isInsts d r)
noncomputable def okF : Dat → Bool
  | .lit _ | .int _ _ | .prm _ | .tup _ | .lst _ => true
  | _ => false
noncomputable def lookZ (x : Str) : List Str → List Dat → Option Dat
  | n :: ns, d :: ds => (match seq x n with | true => (match okF d with | true => some d | false => none) | false => lookZ x ns ds)
  | _, _ => none
noncomputable def attr (d : Dat) (x : Str) : Option Dat := match d with
  | .fq p n => look x [("field_modulus", .prm p), ("n", .int n 127)]
  | .fqp p a b => look x [("field_modulus", .prm p), ("coeffs", .tup [.fq p a, .fq p b]), ("modulus_coeffs", .tup [.lit 1, .lit 0]), ("degree", .lit 2)]
  | .ob _ _ ns ds => lookZ x ns ds
  | .fq2 p a b => look x [("field_modulus", .prm p), ("coeffs", .tup [.int a 127, .int b 127]), ("modulus_coeffs", .tup [.lit 1, .lit 0]), ("degree", .lit 2), ("mc_tuples", .lst [.tup [.lit 0, .lit 1]])]
  | _ => none
noncomputable def blt (cx : Cx) (f : Nat) (args : List Dat) (st : St) (k : KV) : Prop :=
  nE f 0 (l2 args fun d t => oT t (fun l => match l with
    | [] => False
    | t :: ts => oJ (isInsts d (t :: ts)) fun b => k (.d (.bool b)) st) <| oJ (isInst d t) fun b => k (.d (.bool b)) st) <|
  nE f 1 (l1 args fun d => oT d (fun l => gd (Nat.ble l.length 1000) (k (.d (.lit l.length)) st)) <| dS d fun l => gd (Nat.ble l.length 1000) (k (.d (.lit l.length)) st)) <|
  nE f 2 (l1 args fun d => oL d (fun n => k (.d (.lit n)) st) <| oI d (fun n B => k (.d (.int n B)) st) <| dF d fun p n => callF { cx with U := cx.U + 2 } 152 [.fq p n] st fun d st => oJ (intOf d) fun _ => k (.d d) st) <|
  nE f 3 (l1 args fun d => oT d (fun l => k (.d (.tup l)) st) <| dS d fun l => gd (Nat.ble l.length 1000) (k (.d (.tup l)) st)) <|
  nE f 4 (l1 args fun d => oT d (fun l => newL l st k) <| dS d fun l => newL l st k) <|
  nE f 8 (l3 args fun a b c => dI a fun a A => dI b fun b B => dP c fun p => 0 ≤ b ∧ k (.d (.int (Builtin.powMod (a % p).toNat b.toNat p.toNat % p) 127)) st) False
noncomputable def mName (x : Str) : Bool := [("made" : Str), "FQP_corresponding_FQ_class", "one", "zero", "inv", "optimized_poly_rounded_div"].any fun y => seq y x
noncomputable def isGl (f : Nat) : Bool := globs.any fun y => Nat.beq y.2 f
noncomputable def isName : Expr → Bool
  | .Name .. => true
  | _ => false
noncomputable def okBase : Expr → Bool
  | .Name .. => true
  | .Subscript .. => true
  | .Attribute .. => true
  | _ => false
noncomputable def noStar : List Expr → Bool
  | [] => true
  | .Starred _ _ :: _ => false
  | _ :: r => noStar r
structure Ev where
  e : Cx → Expr → St → KV → Prop
  t : Cx → Expr → St → KB → Prop
  s : Cx → List Stmt → St → (Fl → St → Prop) → Prop
section
variable (ih : Ev)
noncomputable def evD (cx : Cx) (e : Expr) (st : St) (k : KD) : Prop := ih.e cx e st fun v st => toD v st k
noncomputable def evL (cx : Cx) : List Expr → St → (List Dat → St → Prop) → Prop
  | [], st, k => k [] st
  | e :: r, st, k => gd (noStar [e]) <| evD ih cx e st fun d st => evL cx r st fun ds st => k (d :: ds) st
noncomputable def evA (cx : Cx) (l : List Expr) (st : St) (k : List Dat → St → Prop) : Prop := gd (noStar l) (evL ih cx l st k)
noncomputable def evVs (cx : Cx) : List Expr → St → (List Val → St → Prop) → Prop
  | [], st, k => k [] st
  | e :: r, st, k => gd (noStar [e]) <| ih.e cx e st fun d st => evVs cx r st fun ds st => k (d :: ds) st
noncomputable def upV (l : List (Str × Val)) (x : Str) (v : Val) : List (Str × Val) := match l with
  | [] => [(x, v)]
  | (y, w) :: r => match seq x y with | true => (x, v) :: r | false => (y, w) :: upV r x v
noncomputable def lcl (cx : Cx) (x : Str) : Bool := match cx.kind x with
  | some .local => true
  | _ => false
noncomputable def setV (cx : Cx) (x : Str) (v : Val) (st : St) (k : St → Prop) : Prop := gd (lcl cx x) (k { st with vars := upV st.vars x v })
noncomputable def nm (e : Expr) (f : Str → Prop) : Prop := match e with | .Name x _ => f x | _ => False
@[elab_as_elim] theorem nm_e {e : Expr} {f : Str → Prop} {m : Expr → Prop} (h : nm e f) (k : ∀ x p, f x → m (.Name x p)) : m e := by cases e <;> first | exact k _ _ h | exact h.elim
noncomputable def bindT (cx : Cx) (t : Expr) (d : Dat) (st : St) (k : St → Prop) : Prop := match t with
  | .Name x _ => setV cx x (.d d) st k
  | .Tuple ts _ _ => oT d (fun ds => go ts ds st) (dS d fun ds => go ts ds st)
  | _ => False
where go : List Expr → List Dat → St → Prop
  | [], l, st => n0 l (k st)
  | t :: ts, l, st => (match l with | [] => False | d :: ds => nm t fun x => setV cx x (.d d) st fun st => go ts ds st)
noncomputable def bindVs (cx : Cx) : List Expr → List Val → St → (St → Prop) → Prop
  | [], l, st, k => n0 l (k st)
  | t :: ts, l, st, k => (match l with | [] => False | v :: vs => nm t fun x => setV cx x v st fun st => bindVs cx ts vs st k)
noncomputable def zipD : List Dat → List Dat → List Dat
  | a :: l, b :: r => .tup [a, b] :: zipD l r
  | _, _ => []
noncomputable def enumD : Nat → List Dat → List Dat
  | n, a :: l => .tup [.lit n, a] :: enumD (n + 1) l
  | _, [] => []
noncomputable def upto : Nat → Nat → List Dat
  | _, 0 => []
  | i, n + 1 => .lit i :: upto (i + 1) n
noncomputable def downto : Nat → List Dat
  | 0 => []
  | n + 1 => .lit n :: downto n
noncomputable def isTup (e : Expr) : Bool := match e with
  | .Tuple .. => true
  | _ => false
noncomputable def vCn (e : Expr) (f : Str → Pos → List Expr → Pos → Prop) (g : Prop) : Prop := match e with
  | .Call c args kw q => (match c with | .Name x p => (match kw with | [] => f x p args q | _ :: _ => g) | _ => g)
  | _ => g
@[elab_as_elim] theorem vCn_e {e : Expr} {f : Str → Pos → List Expr → Pos → Prop} {g : Prop} {m : Expr → Prop} (h : vCn e f g) (k1 : ∀ x p args q, f x p args q → m (.Call (.Name x p) args [] q)) (k2 : g → m e) : m e := by
  cases e with
  | Call c args kw q => cases c <;> first | exact k2 h | (cases kw <;> first | exact k1 _ _ _ _ h | exact k2 h)
  | _ => exact k2 h
theorem vCn_k {e : Expr} {f : Str → Pos → List Expr → Pos → Prop} {g G : Prop} (h : vCn e f g) (k1 : ∀ x p args q, e = .Call (.Name x p) args [] q → f x p args q → G) (k2 : g → G) : G := vCn_e (m := fun e' => e = e' → G) h (fun _ _ _ _ h q => k1 _ _ _ _ q h) (fun h _ => k2 h) rfl
noncomputable def isSet (e : Expr) : Bool := match e with
  | .Set .. => true
  | _ => false
noncomputable def evRg (ds : List Dat) (st : St) (k : List Dat → St → Prop) : Prop :=
  n1 ds (fun d => oL d (fun n => gd (decide (0 ≤ n) && decide (n < 100)) (k (upto 0 n.toNat) st)) <|
    dI d fun n _ => (0 ≤ n ∧ n < 4) ∧ (n = 0 → k (upto 0 0) st) ∧ (n = 1 → k (upto 0 1) st) ∧ (n = 2 → k (upto 0 2) st) ∧ (n = 3 → k (upto 0 3) st)) <|
  l3 ds fun a b c => dL a fun a => dL b fun b => dL c fun c => gd (decide (b = -1) && decide (c = -1) && decide (-1 ≤ a) && decide (a < 100)) (k (downto (a + 1).toNat) st)
noncomputable def evI (cx : Cx) (t e : Expr) (st : St) (k : List Dat → St → Prop) : Prop := gn (isSet e) <|
  vCn e (fun f p args _ => oo (look f bools) (fun n =>
      nE n 5 (ih.e cx (.Name f p) st fun v st => vB 5 v <| evA ih cx args st fun ds st => evRg ds st k) <|
      nE n 6 (ih.e cx (.Name f p) st fun v st => vB 6 v <| evA ih cx args st fun ds st => gd (isTup t) <| l2 ds fun a b => dT a fun l => dT b fun r => gd (Nat.beq l.length r.length) (k (zipD l r) st)) <|
      nE n 7 (ih.e cx (.Name f p) st fun v st => vB 7 v <| evA ih cx args st fun ds st => l1 ds fun a => dT a fun l => k (enumD 0 l) st) (gen e)) (gen e)) (gen e)
where gen (e : Expr) : Prop := evD ih cx e st fun d st => oT d (fun l => k l st) (dS d fun l => k l st)
noncomputable def lcGoD (cx : Cx) (t : Expr) (ifs : List Expr) (elt : Expr) (cap : List (Str × Val)) : List Dat → List Dat → List Bool → (List Dat → List Bool → Prop) → Prop
  | [], acc, o, k => k acc.reverse o
  | x :: r, acc, o, k => match Nat.ble acc.length 1000 with
    | true => bindT cx t x ⟨cap, [], o⟩ fun st => (match ifs with
      | [] => evD ih cx elt st fun d st => lcGoD cx t ifs elt cap r (d :: acc) st.orc k
      | [c] => ih.t cx c st fun b st => (match b with
        | true => evD ih cx elt st fun d st => lcGoD cx t ifs elt cap r (d :: acc) st.orc k
        | false => lcGoD cx t ifs elt cap r acc st.orc k)
      | _ => False)
    | false => False
noncomputable def caps (cx : Cx) (vars : List (Str × Val)) : List (Str × NameKind) → Option (List (Str × Val))
  | [] => some []
  | (x, k) :: r => (match k with
    | .free => (match cx.kind x with
      | some .local => none
      | _ => (match look x vars, caps cx vars r with | some (.d d), some l => some ((x, .d d) :: l) | _, _ => none))
    | .cell => none
    | _ => caps cx vars r)
noncomputable def scOk (sc : Scope) : Bool := (match sc.kind with | .function => true | _ => false) && sc.names.all fun y => (match y.2 with
  | .cell => false
  | .local => (match look y.1 sc.names with | some .local => true | _ => false)
  | .free => (match look y.1 sc.names with | some .free => true | _ => false)
  | _ => true)
noncomputable def kindC (cx : Cx) (sc : Scope) (x : Str) : Option NameKind := match look x sc.names with
  | some .free => (match cx.kind x with | some .cell => some .cell | _ => some .free)
  | k => k
noncomputable def vLC (e : Expr) (f : Expr → Comprehension → Scope → Prop) : Prop := match e with
  | .ListComp elt gs sc _ => n1 gs (fun g => f elt g sc) False
  | _ => False
@[elab_as_elim] theorem vLC_e {e : Expr} {f : Expr → Comprehension → Scope → Prop} {m : Expr → Prop} (h : vLC e f) (k : ∀ elt g sc p, f elt g sc → m (.ListComp elt [g] sc p)) : m e := by
  cases e with
  | ListComp elt gs sc p => exact n1_e (m := fun gs => m (.ListComp elt gs sc p)) h (fun g h => k elt g sc p h) False.elim
  | _ => exact h.elim
noncomputable def evLC (cx : Cx) (e : Expr) (st : St) (k : List Dat → St → Prop) : Prop :=
  vLC e fun elt g sc => gd (scOk sc && decide (g.is_async = 0)) <| oJ (caps cx st.vars sc.names) fun cap => evI ih cx g.target g.iter st fun items st => lcGoD ih { cx with kind := kindC cx sc } g.target g.ifs elt cap items [] st.orc fun ds o => k ds { st with orc := o }
noncomputable def forGoD (cx : Cx) (t : Expr) (body : List Stmt) (items : List Dat) (st : St) (k : Fl → St → Prop) : Prop := match items with
  | [] => k .next st
  | x :: r => bindT cx t x st fun st => ih.s cx body st fun fl st => (match fl with
    | .next => forGoD cx t body r st k
    | .cont => forGoD cx t body r st k
    | .brk => k .next st
    | .ret d => k (.ret d) st)
noncomputable def getD (l : List Dat) (i : Int) : Option Dat := bI (decide (0 ≤ i)) l[i.toNat]? (oB (decide (0 ≤ i + l.length)) l[(i + l.length).toNat]?)
noncomputable def isSl (e : Expr) : Bool := match e with
  | .Slice .. => true
  | _ => false
noncomputable def vSl (i : Expr) (f : Option Expr → Option Expr → Option Expr → Prop) (g : Prop) : Prop := match i with | .Slice a b c _ => f a b c | _ => g
@[elab_as_elim] theorem vSl_e {i : Expr} {f : Option Expr → Option Expr → Option Expr → Prop} {g : Prop} {m : Expr → Prop} (h : vSl i f g) (k1 : ∀ a b c p, f a b c → m (.Slice a b c p)) (k2 : isSl i = false → g → m i) : m i := by cases i <;> first | exact k1 _ _ _ _ h | exact k2 rfl h
noncomputable def evIx (st : St) (v : Val) (n : Dat) (k : KV) : Prop :=
  oL n (fun n => vv v (fun d => oT d (fun l => gd (Nat.ble l.length 1000) <| oJ (getD l n) fun d => k (.d d) st) <| dS d fun l => gd (decide (0 ≤ n) && Nat.ble l.length 1000) <| oJ l[n.toNat]? fun d => k (.d d) st)
    fun j => ow st.own[j]? fun _ l => gd (decide (0 ≤ n)) <| gd (Nat.ble l.length 1000) <| oJ l[n.toNat]? fun d => k (.d d) st) <|
  dI n fun n _ => vD v fun d => dS d fun l => (0 ≤ n ∧ n < l.length ∧ l.length ≤ 1000 ∧ Four l) ∧ ∀ q, l[n.toNat]? = some (ptD q) → k (.d (ptD q)) st
noncomputable def evIdx (cx : Cx) (o i : Expr) (st : St) (k : KV) : Prop :=
  vSl i (fun a b c => gd (isNo a && isNo c && isName o) <| oJ b fun u => ih.e cx o st fun v st => evD ih cx u st fun n st => dL n fun n => vL v fun j => ow st.own[j]? fun _ l => gd (decide (0 ≤ n)) <| gd (Nat.ble l.length 1000) <| newL (l.take n.toNat) st k) <|
  ih.e cx o st fun v st => evD ih cx i st fun n st => evIx st v n k
noncomputable def eN {α : Type} (e : Expr) (f : Str → Pos → Option α) : Option α := match e with | .Name x p => f x p | _ => none
theorem eN_x {α : Type} {e : Expr} {f : Str → Pos → Option α} {r : α} (h : eN e f = some r) : ∃ x p, e = .Name x p ∧ f x p = some r := by cases e <;> first | exact ⟨_, _, rfl, h⟩ | exact no_some h
theorem eN_k {α : Type} {e : Expr} {f : Str → Pos → Option α} {r : α} (h : eN e f = some r) {G : Prop} (k : ∀ x p, e = .Name x p → f x p = some r → G) : G := oEEA (eN_x h) k
noncomputable def isCrv (e : Expr) : Option Str := eN e fun x _ => oB (seq x "_law_curves") (some x)
noncomputable def isGI (k : Option NameKind) : Bool := match k with | some .globalImplicit => true | _ => false
noncomputable def evCrv (cx : Cx) (x : Str) (i : Expr) (st : St) (k : KV) : Prop :=
  gd (!isSl i && isNo (look x st.vars) && isGI (cx.kind x)) <| evD ih cx i st fun d st => oJ (intOf d) fun n => (0 ≤ n.1 ∧ n.1 < 8) ∧ ∀ p b0 b1 pts, Crv p b0 b1 pts → k (.d (crvD p b0 b1 pts)) st
noncomputable def evTs (cx : Cx) (and : Bool) : List Expr → St → KB → Prop
  | [], st, k => k and st
  | e :: r, st, k => ih.t cx e st fun b st => (match and, b with
    | true, false => k false st
    | false, true => k true st
    | _, _ => evTs cx and r st k)
noncomputable def isDf (e : Expr) : Bool := match e with
  | .UnaryOp op _ _ => (match op with | .Not => false | _ => true)
  | .BoolOp .. => false
  | .IfExp .. => false
  | .Compare .. => false
  | _ => true
noncomputable def evCmp (cx : Cx) (l : Expr) (ops : List CmpOp) (rs : List Expr) (st : St) (k : KD) : Prop :=
  n1 ops (fun op => n1 rs (fun r => gn (behindInMarks op r) <| evD ih cx l st fun a st => evD ih cx r st fun b st => cmpD cx (cmpN op) a b st k) False) False
noncomputable def evT (cx : Cx) (e : Expr) (st : St) (k : KB) : Prop := bb (isDf e) (ih.e cx e st fun v st => toD v st fun d st => br d st k) (match e with
  | .UnaryOp _ x _ => ih.t cx x st fun b st => k (!b) st
  | .BoolOp op xs _ => (match op with | .And => evTs ih cx true xs st k | .Or => evTs ih cx false xs st k)
  | .Compare l ops rs _ => evCmp ih cx l ops rs st fun d st => br d st k
  | _ => False)
noncomputable def evNm (cx : Cx) (x : Str) (st : St) (k : KV) : Prop :=
  oo (look x st.vars) (fun v => k v st) <| gd (isGI (cx.kind x)) <| oo (look x globs) (fun v => k (.d (.rf v)) st) <| oJ (look x bools) fun v => k (.d (.bi v)) st
noncomputable def evUn (cx : Cx) (op : UnaryOp) (x : Expr) (st : St) (k : KV) : Prop := match op with
  | .USub => evD ih cx x st fun a st => oL a (fun n => k (.d (.lit (-n))) st) <| oI a (fun n B => k (.d (.int (-n) B)) st) <| oJ (kls a) fun C => oJ (mth C "__neg__") fun f => callF cx f [a] st fun d => k (.d d)
  | .Not => evD ih cx x st fun a st => br a st fun b st => k (.d (.bool (!b))) st
  | _ => False
noncomputable def evMt (cx : Cx) (x : Str) (args : List Expr) (v : Val) (st : St) (k : KV) : Prop :=
  vv v (fun a => oJ (kls a) fun C => oJ (oB (mName x) (mth C x)) fun f => evA ih cx args st fun ds st => callF cx f (a :: ds) st fun d => k (.d d)) fun i =>
    gd (seq x "pop") <| n0 args <| owF st.own[i]? fun l => oJ l.getLast? fun d => gd (Nat.ble l.length 1000) (k (.d d) { st with own := st.own.set i (false, l.dropLast) })
noncomputable def evBi (cx : Cx) (c : Nat) (args : List Expr) (st : St) (k : KV) : Prop :=
  nE c 1 (n1 args (fun a => gd (noStar [a]) <| ih.e cx a st fun v st => vv v (fun d => blt cx 1 [d] st k) fun i => ow st.own[i]? fun _ l => gd (Nat.ble l.length 1000) (k (.d (.lit l.length)) st)) plain) <|
  nE c 4 (n1 args (fun e => vCn e (fun y p as _ => n1 as (fun a => bb (is7 (look y bools)) (ih.e cx (.Name y p) st fun v st => vB 7 v <| evA ih cx [a] st fun ds st => l1 ds fun d => dT d fun l => newL (enumD 0 l) st k) plain) plain) plain) plain) plain
where
  plain : Prop := evA ih cx args st fun ds st => blt cx c ds st k
  is7 (o : Option Nat) : Bool := match o with | some n => Nat.beq n 7 | none => false
noncomputable def evCall (cx : Cx) (f : Expr) (args : List Expr) (pos : Pos) (st : St) (k : KV) : Prop := match f with
  | .Attribute o x ap => gd (okBase o && Nat.beq ap.endLine pos.line && Nat.blt args.length 30 && noStar args) <| ih.e cx o st fun v st => evMt ih cx x args v st k
  | .Name x p => ih.e cx (.Name x p) st fun v st => vD v fun d => oR d (fun f => gd (isGl f) <| evA ih cx args st fun ds st => callF cx f ds st fun d => k (.d d)) <| dBi d fun c => evBi ih cx c args st k
  | _ => False
noncomputable def evE (cx : Cx) (e : Expr) (st : St) (k : KV) : Prop := match e with
  | .Constant c _ _ => (match c with
    | .int i => k (.d (.lit i)) st
    | .none => k (.d .none) st
    | .bool b => k (.d (.bool b)) st
    | _ => False)
  | .Name x _ => gn (seq x "__debug__" || seq x "__classdict__") (evNm cx x st k)
  | .BinOp l op r _ => evD ih cx l st fun a st => evD ih cx r st fun b st => binD cx (opN op) a b st k
  | .UnaryOp op x _ => evUn ih cx op x st k
  | .BoolOp op xs _ => n2 xs fun x y => evD ih cx x st fun a st => br a st fun b st => (match op with
    | .And => bb b (ih.e cx y st k) (k (.d a) st)
    | .Or => bb b (k (.d a) st) (ih.e cx y st k))
  | .Compare l ops rs _ => evCmp ih cx l ops rs st fun d => k (.d d)
  | .IfExp c a b _ => ih.t cx c st fun t st => bb t (ih.e cx a st k) (ih.e cx b st k)
  | .Tuple es _ _ => evL ih cx es st fun ds st => gd (Nat.ble ds.length 1000) (k (.d (.tup ds)) st)
  | .List es _ => evL ih cx es st fun ds st => newL ds st k
  | .ListComp .. => evLC ih cx e st fun ds st => newL ds st k
  | .Attribute o x _ => gd (okBase o) <| evD ih cx o st fun a st => oJ (attr a x) fun d => k (.d d) st
  | .Subscript o i _ => oo (isCrv o) (fun x => evCrv ih cx x i st k) (evIdx ih cx o i st k)
  | .Call f args kw pos => n0 kw (evCall ih cx f args pos st k)
  | _ => False
noncomputable def goS (vs : List Expr) : Option Bool := bI (vs.all (foldedForSure 8)) (some false) (bI (vs.all (constantsAlone 8)) none (some true))
noncomputable def swp (cx : Cx) (ts vs : List Expr) : Option Bool := oB (Nat.beq vs.length ts.length && noStar vs) (match ts with
  | [a, b] => eN a fun x p => eN b fun y q => oB (lcl cx x) <| oB (lcl cx y) <| oB (Nat.beq q.line p.line) <| oB (!seq y x) (goS vs)
  | [a, b, c] => eN a fun x p => eN b fun y q => eN c fun z r => oB (lcl cx x) <| oB (lcl cx y) <| oB (lcl cx z) <| oB (Nat.beq q.line p.line) <| oB (Nat.beq r.line p.line) <| oB (!seq y x) <| oB (!seq z x) <| oB (!seq z y) (goS vs)
  | [_, _, _, _] => some false
  | _ => none)
noncomputable def vT (e : Expr) (f : List Expr → Prop) (g : Prop) : Prop := match e with | .Tuple vs _ _ => f vs | _ => g
@[elab_as_elim] theorem vT_e {e : Expr} {f : List Expr → Prop} {g : Prop} {m : Expr → Prop} (h : vT e f g) (k1 : ∀ vs j p, f vs → m (.Tuple vs j p)) (k2 : isTup e = false → g → m e) : m e := by cases e <;> first | exact k1 _ _ _ h | exact k2 rfl h
noncomputable def evAt (cx : Cx) (t : Expr) (ts : List Expr) (v : Expr) (st : St) (k : St → Prop) : Prop :=
  vT v (fun vs => oJ (swp cx ts vs) fun b => evVs ih cx vs st fun ds st => bb b (bindVs cx ts.reverse ds.reverse st k) (bindVs cx ts ds st k)) <| evD ih cx v st fun d st => bindT cx t d st k
noncomputable def evPut (st : St) (j : Nat) (n : Int) (d : Dat) (k : St → Prop) : Prop := owF st.own[j]? fun l => gd (Nat.blt n.toNat l.length && Nat.ble l.length 1000) (k { st with own := st.own.set j (false, l.set n.toNat d) })
noncomputable def evAs (cx : Cx) (t v : Expr) (st : St) (k : St → Prop) : Prop := match t with
  | .Name x _ => ih.e cx v st fun v st => setV cx x v st k
  | .Tuple ts _ _ => evAt ih cx t ts v st k
  | .Subscript o i _ => evD ih cx v st fun d st => ih.e cx o st fun ov st => evD ih cx i st fun iv st => vL ov fun j => dL iv fun n => gd (decide (0 ≤ n)) (evPut st j n d k)
  | _ => False
noncomputable def evAug (cx : Cx) (t : Expr) (op : Operator) (v : Expr) (st : St) (k : St → Prop) : Prop := match t with
  | .Name x p => gn (seq x "__debug__") <| ih.e cx (.Name x p) st fun a st => vv a (fun a => evD ih cx v st fun b st => oJ (arith (opN op) a b) fun d => setV cx x (.d d) st k) fun j =>
      gd (Nat.beq (opN op) 0) <| evD ih cx v st fun b st => dS b fun r => owF st.own[j]? fun l => gd (Nat.ble (l.length + r.length) 1000) (setV cx x (.loc j) { st with own := st.own.set j (false, l ++ r) } k)
  | .Subscript o i _ => gn (isSl i) <| ih.e cx o st fun ov st => evD ih cx i st fun iv st => vL ov fun j => dL iv fun n => owF st.own[j]? fun l => gd (decide (0 ≤ n)) <| oJ l[n.toNat]? fun old => gd (Nat.ble l.length 1000) <|
      evD ih cx v st fun d st => binI cx (opN op) old d st fun w st => evPut st j n w k
  | _ => False
noncomputable def evS1 (cx : Cx) (s : Stmt) (st : St) (k : Fl → St → Prop) : Prop := match s with
  | .Pass _ => k .next st
  | .Return o _ => oo o (fun e => evD ih cx e st fun d => k (.ret d)) (k (.ret .none) st)
  | .Assign ts v _ => n1 ts (fun t => evAs ih cx t v st (k .next)) False
  | .AugAssign t op v _ => evAug ih cx t op v st (k .next)
  | .If c a b _ => ih.t cx c st fun t st => bb t (ih.s cx a st k) (ih.s cx b st k)
  | .While c b els _ => n0 els <| ih.t cx c st fun t st => bb t (ih.s cx b st fun fl st => (match fl with
      | .next => ih.s cx [s] st k
      | .cont => ih.s cx [s] st k
      | .brk => k .next st
      | .ret d => k (.ret d) st)) (k .next st)
  | .For t it b els _ => n0 els <| evI ih cx t it st fun items st => forGoD ih cx t b items st k
  | _ => False
noncomputable def evS (cx : Cx) (l : List Stmt) (st : St) (k : Fl → St → Prop) : Prop := match l with
  | [] => k .next st
  | s :: r => evS1 ih cx s st fun fl st => (match fl with | .next => ih.s cx r st k | fl => k fl st)
noncomputable def step : Ev := ⟨evE ih, evT ih, evS ih⟩
end
noncomputable def evBot : Ev := ⟨fun _ _ _ _ => False, fun _ _ _ _ => False, fun _ _ _ _ => False⟩
noncomputable def ev : Nat → Ev
  | 0 => evBot
  | n + 1 => step (ev n)
end
section
theorem seq_go : ∀ a b : List Nat, seq.go a b = true ↔ a = b
  | [], [] => by simp [seq.go]
  | [], _ :: _ => by simp [seq.go]
  | _ :: _, [] => by simp [seq.go]
  | x :: xs, y :: ys => by
    unfold seq.go
    cases h : Nat.beq x y with
    | true => simp only [List.cons.injEq, Nat.eq_of_beq_eq_true h, true_and]; exact seq_go xs ys
    | false => simp only [Bool.false_eq_true, List.cons.injEq, Nat.ne_of_beq_eq_false h, false_and]
theorem seq_iff (a b : Str) : seq a b = true ↔ a = b := by
  unfold seq
  rw [seq_go]
  constructor
  · intro h; cases a; cases b; congr 1; exact Array.ext' h
  · intro h; rw [h]
theorem seq_eq (a b : Str) : seq a b = (a == b) := by
  rw [Bool.eq_iff_iff, seq_iff, beq_iff_eq]
theorem look_eq {α : Type} (x : Str) : ∀ l : List (Str × α), look x l = l.lookup x
  | [] => rfl
  | (y, a) :: r => by
    unfold look
    rw [List.lookup_cons, seq_eq, look_eq x r]; cases x == y <;> rfl
theorem look_upV (x y : Str) (v : Val) : ∀ l : List (Str × Val), look y (upV l x v) = if y = x then some v else look y l
  | [] => by
    unfold upV look
    by_cases h : y = x
    · rw [if_pos h, (seq_iff y x).mpr h]
    · rw [if_neg h, Bool.eq_false_iff.mpr fun q => h ((seq_iff y x).mp q)]; rfl
  | (z, w) :: r => by
    unfold upV
    cases hz : seq x z with
    | true =>
      have := (seq_iff x z).mp hz; subst this
      unfold look
      by_cases h : y = x
      · rw [if_pos h, (seq_iff y x).mpr h]
      · rw [if_neg h, Bool.eq_false_iff.mpr fun q => h ((seq_iff y x).mp q)]
    | false =>
      show look y ((z, w) :: upV r x v) = _
      unfold look
      cases hy : seq y z with
      | true =>
        have hyz := (seq_iff y z).mp hy
        rw [if_neg (fun q => by rw [← q, hyz] at hz; rw [(seq_iff z z).mpr rfl] at hz; cases hz)]
      | false => exact look_upV x y v r

noncomputable def VR (as : List Addr) (φ : Fm) : Val → Value → Prop
  | .d x, v => R φ x v
  | .loc i, v => ∃ a, as[i]? = some a ∧ v = .ref a
structure Fc where
  g : Heap
  Ref : Fm
  env : Env
  s₀ : Shared
  B : AP
structure Own (X : Fc) (O : AP) (as : List Addr) (own : List (Bool × List Dat)) (h : Heap) : Prop where
  len : as.length = own.length
  nodup : ∀ (i j : Nat) (a : Addr), as[i]? = some a → as[j]? = some a → i = j
  at_ : ∀ (i : Nat) (fr : Bool) (l : List Dat), own[i]? = some (fr, l) → ∃ a n vs, as[i]? = some a ∧ h.get? a = some (lstN vs n) ∧ RL (Dt h O) l vs ∧ (fr = false → O a ∧ a ≠ X.env.locals ∧ (∀ o, ¬ X.Ref a o) ∧ ¬ X.B a) ∧ (fr = true → ¬ O a)
structure Inv (X : Fc) (cx : Cx) (O : AP) (as : List Addr) (st : St) (s : Shared) : Prop where
  wd : Wd X.g O s
  ref : ∀ a o, X.Ref a o → s.heap.get? a = some o
  reft : ∀ a o, X.Ref a o → ¬ isTb a
  gs : GS X.s₀ s
  sub : ∀ a, X.B a → O a
  LO : O X.env.locals
  LR : ∀ o, ¬ X.Ref X.env.locals o
  LT : ¬ isTb X.env.locals
  above : X.g.objs.size ≤ X.env.locals
  ns : ∃ m, s.heap.Ns X.env.locals m ∧ ∀ x v, look x st.vars = some v → cx.kind x = some .local → ∃ u, m x = some u ∧ VR as (Dt s.heap O) v u
  cells : ∀ x v, look x st.vars = some v → cx.kind x ≠ some .local → ∃ c o u, (cx.kind x = some .cell ∨ cx.kind x = some .free) ∧ X.env.cells.lookup x = some c ∧ Dt s.heap O c o ∧ o.data = .cell (some u) ∧ VR as (Dt s.heap O) v u
  own : Own X O as st.own s.heap
structure Ex (O : AP) (as : List Addr) (s : Shared) (O' : AP) (as' : List Addr) (s' : Shared) : Prop where
  dt : ∀ a o, Dt s.heap O a o → Dt s'.heap O' a o
  pre : ∀ (i : Nat) (a : Addr), as[i]? = some a → as'[i]? = some a
theorem Ex.refl {O as s} : Ex O as s O as s := ⟨fun _ _ h => h, fun _ _ h => h⟩
theorem Ex.trans {O as s O' as' s' O'' as'' s''} (x : Ex O as s O' as' s') (y : Ex O' as' s' O'' as'' s'') : Ex O as s O'' as'' s'' := ⟨fun a o h => y.dt a o (x.dt a o h), fun i a h => y.pre i a (x.pre i a h)⟩
theorem VR.ex {O as s O' as' s'} (x : Ex O as s O' as' s') {v : Val} {u : Value} (h : VR as (Dt s.heap O) v u) : VR as' (Dt s'.heap O') v u := by
  cases v with
  | d d => exact R.mono x.dt d h
  | loc i => refine oEA h ?_; clear h; intro a h1 h2; exact ⟨a, x.pre _ _ h1, h2⟩
theorem RL.ex {O as s O' as' s'} (x : Ex O as s O' as' s') {l : List Dat} {u : List Value} (h : RL (Dt s.heap O) l u) : RL (Dt s'.heap O') l u := RL.mono x.dt l h
theorem R.ex {O as s O' as' s'} (x : Ex O as s O' as' s') {l : Dat} {u : Value} (h : R (Dt s.heap O) l u) : R (Dt s'.heap O') l u := R.mono x.dt l h
theorem TabOk.push {h : Heap} (t : TabOk h) (o : Obj) : TabOk (h.push o) := fun P hP => let ⟨ps, a, b⟩ := t P hP; ⟨ps, Heap.get?_push_of_some _ a, b⟩
theorem TabOk.of {h h' : Heap} (t : TabOk h) (k : ∀ a o, isTb a → h.get? a = some o → h'.get? a = some o) : TabOk h' := fun P hP => let ⟨ps, a, b⟩ := t P hP; ⟨ps, k _ _ hP a, b⟩
theorem Wd.kt {g O s s'} (W : Wd g O s) (k : Kt s.heap s'.heap) (b : AllBare s'.gens) (t : TabOk s'.heap) : Wd g O s' where
  keep := fun a o e => k a o (fun q => by rw [W.off a (W.tabO a q)] at e; cases e) (W.keep a o e)
  off := W.off
  alive := fun a ha => Classical.byCases (fun q : isTb a => let ⟨ps, e, _⟩ := t a q; ⟨_, e⟩) fun q => let ⟨o, e⟩ := W.alive a ha; ⟨o, k a o q e⟩
  tabs := t
  tabO := W.tabO
  bare := b
theorem Wd.ex {g O s s'} (W : Wd g O s) (k : Kt s.heap s'.heap) {as : List Addr} : Ex O as s O as s' := ⟨Dt.kt W.tabO k, fun _ _ h => h⟩
theorem Inv.kt {X cx O as st s s'} (I : Inv X cx O as st s) (k : Kt s.heap s'.heap) (gs : GS s s') (t : TabOk s'.heap) : Inv X cx O as st s' := by
  have e : Ex O as s O as s' := I.wd.ex k
  refine ⟨I.wd.kt k gs.1 t, fun a o h => k a o (I.reft a o h) (I.ref a o h), I.reft, I.gs.trans gs, I.sub, I.LO, I.LR, I.LT, I.above, ?_, fun x v h1 h2 => ?_, I.own.len, I.own.nodup, fun i fr l h => ?_⟩
  · refine oEA I.ns ?_; intro m hm hv
    refine ⟨m, hm.at' fun o e' => k _ _ I.LT e', fun x v h1 h2 => ?_⟩
    refine oEA (hv x v h1 h2) ?_; intro u h3 h4
    exact ⟨u, h3, h4.ex e⟩
  · refine oEEEAAAA (I.cells x v h1 h2) ?_; intro c o u h3 h4 h5 h6 h7
    exact ⟨c, o, u, h3, h4, e.dt _ _ h5, h6, h7.ex e⟩
  · refine oEEEAAAA (I.own.at_ i fr l h) ?_; intro a n vs h1 h2 h3 h4 h5
    refine ⟨a, n, vs, h1, k _ _ (fun q => ?_) h2, h3.ex e, h4, h5⟩
    refine oEA (I.wd.tabs a q) ?_; intro ps e1 _
    rw [h2] at e1; cases e1
theorem Inv.toks {X cx O as st s} (I : Inv X cx O as st s) (t : Tok) : Inv X cx O as st { s with toks := t } := I.kt (Kt.refl _) ⟨I.gs.1, rfl, rfl, GK.refl _⟩ I.wd.tabs
theorem Ex.toks {O as s} (t : Tok) : Ex O as s O as { s with toks := t } := ⟨fun _ _ h => h, fun _ _ h => h⟩
theorem kt_push (h : Heap) (o : Obj) : Kt h (h.push o) := fun _ _ _ e => Heap.get?_push_of_some _ e
theorem Inv.push {X cx O as st s} (I : Inv X cx O as st s) (o : Obj) (t : Tok) : Inv X cx O as st { s with heap := s.heap.push o, toks := t } :=
  I.kt (kt_push _ _) ⟨I.gs.1, rfl, rfl, GK.refl _⟩ (I.wd.tabs.push _)
theorem Wd.fresh {g O s} (W : Wd g O s) : ¬ O s.heap.objs.size := fun h => by
  refine oE (W.alive _ h) ?_; intro o e
  exact absurd (Heap.lt_size e) (Nat.lt_irrefl _)
theorem Wd.pushDt {g O s} (W : Wd g O s) (o : Obj) (hf : o.isFreed = false) : Dt (s.heap.push o) O s.heap.objs.size o := ⟨Heap.get?_push_size _ hf, W.fresh⟩
theorem Inv.exPush {X cx O as st s} (I : Inv X cx O as st s) (o : Obj) (t : Tok) : Ex O as s O as { s with heap := s.heap.push o, toks := t } := I.wd.ex (kt_push _ _)
theorem Inv.newOwnN {X cx O as st s s'} (I : Inv X cx O as st s) {l : List Dat} {vs : List Value} {n : Nat} {a : Addr} (r : RL (Dt s'.heap fun b => O b ∨ b = a) l vs) (k : Kt s.heap s'.heap) (gs : GS s s') (tb : TabOk s'.heap) (ha : s.heap.objs.size ≤ a) (hn : s'.heap.get? a = some (lstN vs n)) :
    Inv X cx (fun b => O b ∨ b = a) (as ++ [a]) { st with own := st.own ++ [(false, l)] } s' ∧ Ex O as s (fun b => O b ∨ b = a) (as ++ [a]) s' := by
  have J := I.kt k gs tb
  have old : ∀ {b o}, s.heap.get? b = some o → b ≠ a := fun {b o} h q => by
    have := Heap.lt_size h; rw [q] at this; exact absurd this (Nat.not_lt.mpr ha)
  have ed : ∀ b o, Dt s.heap O b o → Dt s'.heap (fun b => O b ∨ b = a) b o := fun b o h =>
    ⟨k b o (fun t => h.2 (I.wd.tabO b t)) h.1, fun q => q.elim h.2 fun e => old h.1 e⟩
  have e : Ex O as s (fun b => O b ∨ b = a) (as ++ [a]) s' :=
    ⟨ed, fun i a h => by rw [List.getElem?_append_left (List.getElem?_eq_some_iff.mp h).1]; exact h⟩
  have lt : ∀ i c, as[i]? = some c → c ≠ a := fun i c h => by
    obtain ⟨y, hy⟩ : ∃ y, st.own[i]? = some y := ⟨_, List.getElem?_eq_getElem (I.own.len ▸ (List.getElem?_eq_some_iff.mp h).1)⟩
    refine oEEEAA (I.own.at_ i y.1 y.2 hy) ?_; intro a' n' vs' h1 h2 _
    rw [h] at h1; cases h1; exact old h2
  have hL : X.env.locals ≠ a := by refine oEA I.ns ?_; rintro m ⟨o, _, _, hm, _⟩ _; exact old hm
  refine ⟨⟨⟨J.wd.keep, fun b hb => hb.elim (I.wd.off b) fun q => ?_, fun b hb => hb.elim (J.wd.alive b) fun q => ?_, J.wd.tabs, fun b hb => .inl (I.wd.tabO b hb), J.wd.bare⟩, J.ref, J.reft, J.gs, (fun b hb => .inl (I.sub b hb)), .inl I.LO, J.LR, J.LT, J.above, ?_, fun x v h1 h2 => ?_, ?_, fun i j c h1 h2 => ?_, fun i fr l' h => ?_⟩, e⟩
  · subst q
    cases c : X.g.get? b with
    | none => rfl
    | some o => exact absurd (Heap.lt_size (I.wd.keep _ _ c)) (Nat.not_lt.mpr ha)
  · subst q; exact ⟨_, hn⟩
  · refine oEA I.ns ?_; intro m hm hv
    refine oEEEA hm ?_; clear hm; intro o es ep ho hr
    refine ⟨m, ⟨o, es, ep, k _ _ I.LT ho, hr⟩, fun x v h1 h2 => ?_⟩
    refine oEA (hv x v h1 h2) ?_; intro u h3 h4
    exact ⟨u, h3, h4.ex e⟩
  · refine oEEEAAAA (I.cells x v h1 h2) ?_; intro c o u h3 h4 h5 h6 h7
    exact ⟨c, o, u, h3, h4, ed _ _ h5, h6, h7.ex e⟩
  · simp [I.own.len]
  · rcases Nat.lt_or_ge i as.length with hi | hi <;> rcases Nat.lt_or_ge j as.length with hj | hj
    · rw [List.getElem?_append_left hi] at h1; rw [List.getElem?_append_left hj] at h2; exact I.own.nodup i j c h1 h2
    · rw [List.getElem?_append_left hi] at h1; rw [List.getElem?_append_right hj] at h2
      have := lt i c h1
      refine oE (List.getElem?_eq_some_iff.mp h2) ?_; intro z hz
      simp only [List.getElem_singleton] at hz; exact absurd hz.symm this
    · rw [List.getElem?_append_left hj] at h2; rw [List.getElem?_append_right hi] at h1
      have := lt j c h2
      refine oE (List.getElem?_eq_some_iff.mp h1) ?_; intro z hz
      simp only [List.getElem_singleton] at hz; exact absurd hz.symm this
    · rw [List.getElem?_append_right hi] at h1; rw [List.getElem?_append_right hj] at h2
      have h1 := (List.getElem?_eq_some_iff.mp h1).1
      have h2 := (List.getElem?_eq_some_iff.mp h2).1
      simp at h1 h2; omega
  · rcases Nat.lt_or_ge i st.own.length with hi | hi
    · rw [List.getElem?_append_left hi] at h
      refine oEEEAAAA (I.own.at_ i fr l' h) ?_; intro c n' vs' h1 h2 h3 h4 h5
      have ht : ¬ isTb c := fun q => by refine oEA (I.wd.tabs _ q) ?_; intro ps e1 _; rw [h2] at e1; cases e1
      exact ⟨c, n', vs', e.pre i c h1, k _ _ ht h2, RL.mono ed _ h3, fun q => ⟨.inl (h4 q).1, (h4 q).2⟩, fun q z => z.elim (h5 q) fun z => old h2 z⟩
    · rw [List.getElem?_append_right hi] at h
      have hi2 := (List.getElem?_eq_some_iff.mp h).1
      have hi3 : i = st.own.length := by simp only [List.length_singleton] at hi2; omega
      subst hi3
      simp at h
      refine oA h ?_; clear h; rintro rfl rfl
      refine ⟨a, n, vs, ?_, hn, r, fun _ => ⟨.inr rfl, fun q => hL q.symm, (fun o q => old (I.ref _ _ q) rfl), fun q => ?_⟩, fun q => by cases q⟩
      · rw [← I.own.len, List.getElem?_append_right (Nat.le_refl _)]; simp
      · refine oE (I.wd.alive _ (I.sub _ q)) ?_; intro o e; exact old e rfl
theorem Inv.newOwnK {X cx O as st s s'} (I : Inv X cx O as st s) {l : List Dat} {vs : List Value} {n : Nat} {a : Addr} (r : RL (Dt s.heap O) l vs) (k : Kt s.heap s'.heap) (gs : GS s s') (tb : TabOk s'.heap) (ha : s.heap.objs.size ≤ a) (hn : s'.heap.get? a = some (lstN vs n)) :
    Inv X cx (fun b => O b ∨ b = a) (as ++ [a]) { st with own := st.own ++ [(false, l)] } s' ∧ Ex O as s (fun b => O b ∨ b = a) (as ++ [a]) s' :=
  I.newOwnN (RL.mono (fun b o h => ⟨k b o (fun t => h.2 (I.wd.tabO b t)) h.1, fun q => q.elim h.2 fun q => by
    have := Heap.lt_size h.1; rw [q] at this; exact absurd this (Nat.not_lt.mpr ha)⟩) _ r) k gs tb ha hn
theorem Inv.newOwn {X cx O as st s} (I : Inv X cx O as st s) {l : List Dat} {vs : List Value} {n : Nat} (r : RL (Dt s.heap O) l vs) (t : Tok) :
    Inv X cx (fun a => O a ∨ a = s.heap.objs.size) (as ++ [s.heap.objs.size]) { st with own := st.own ++ [(false, l)] } { s with heap := s.heap.push (lstN vs n), toks := t } ∧
    Ex O as s (fun a => O a ∨ a = s.heap.objs.size) (as ++ [s.heap.objs.size]) { s with heap := s.heap.push (lstN vs n), toks := t } :=
  I.newOwnK (s' := { s with heap := s.heap.push (lstN vs n), toks := t }) r (kt_push _ _) ⟨I.gs.1, rfl, rfl, GK.refl _⟩ (I.wd.tabs.push _) (Nat.le_refl _) (Heap.get?_push_size _ rfl)
theorem getElem?_frz : ∀ (own : List (Bool × List Dat)) (i j : Nat), (frz own i)[j]? = if j = i then (own[j]?).map fun p => (true, p.2) else own[j]?
  | [], i, j => by simp [frz]
  | (b, l) :: r, 0, 0 => by simp [frz]
  | (b, l) :: r, 0, j + 1 => by simp [frz]
  | x :: r, i + 1, 0 => by simp [frz]
  | x :: r, i + 1, j + 1 => by simp only [frz, List.getElem?_cons_succ, getElem?_frz r i j, Nat.add_right_cancel_iff]
theorem length_frz : ∀ (own : List (Bool × List Dat)) (i : Nat), (frz own i).length = own.length
  | [], _ => rfl
  | (b, l) :: r, 0 => rfl
  | x :: r, i + 1 => by simp [frz, length_frz r i]
theorem Inv.freeze {X cx O as st s} (I : Inv X cx O as st s) {i : Nat} {fr : Bool} {l : List Dat} {a : Addr} (h : st.own[i]? = some (fr, l)) (ha : as[i]? = some a) :
    Inv X cx (fun b => O b ∧ b ≠ a) as { st with own := frz st.own i } s ∧ Ex O as s (fun b => O b ∧ b ≠ a) as s ∧ R (Dt s.heap fun b => O b ∧ b ≠ a) (.lst l) (.ref a) := by
  have ed : ∀ b o, Dt s.heap O b o → Dt s.heap (fun b => O b ∧ b ≠ a) b o := fun b o h => ⟨h.1, fun q => h.2 q.1⟩
  have e : Ex O as s (fun b => O b ∧ b ≠ a) as s := ⟨ed, fun _ _ h => h⟩
  refine oEEEAAAA (I.own.at_ i fr l h) ?_; intro a' n vs h1 h2 h3 h4 h5
  rw [ha] at h1; cases h1
  have nt : ¬ isTb a := fun q => by refine oEA (I.wd.tabs _ q) ?_; intro ps e1 _; rw [h2] at e1; cases e1
  have nL : X.env.locals ≠ a := fun q => by
    refine oEA I.ns ?_; rintro m ⟨o, es, ep, g1, g2, _⟩ _
    rw [q, h2] at g1; cases g1; cases g2
  refine ⟨⟨⟨I.wd.keep, fun b hb => I.wd.off b hb.1, fun b hb => I.wd.alive b hb.1, I.wd.tabs, fun b hb => ⟨I.wd.tabO b hb, fun q => nt (q ▸ hb)⟩, I.wd.bare⟩, I.ref, I.reft, I.gs, ?_, ⟨I.LO, nL⟩, I.LR, I.LT, I.above, ?_, fun x v h1 h2 => ?_, (by rw [length_frz]; exact I.own.len), I.own.nodup, fun j fr' l' hj => ?_⟩, e, ?_⟩
  · intro b hb
    refine ⟨I.sub b hb, fun q => ?_⟩
    subst q
    cases fr with
    | false => exact (h4 rfl).2.2.2 hb
    | true => exact h5 rfl (I.sub _ hb)
  · refine oEA I.ns ?_; intro m hm hv
    refine ⟨m, hm, fun x v h1 h2 => ?_⟩
    refine oEA (hv x v h1 h2) ?_; intro u h3 h4
    exact ⟨u, h3, h4.ex e⟩
  · refine oEEEAAAA (I.cells x v h1 h2) ?_; intro c o u h3 h4 h5 h6 h7
    exact ⟨c, o, u, h3, h4, ed _ _ h5, h6, h7.ex e⟩
  · rw [getElem?_frz] at hj
    by_cases hji : j = i
    · subst hji
      rw [if_pos rfl, h] at hj
      cases hj
      exact ⟨a, n, vs, ha, h2, RL.mono ed _ h3, (fun q => by cases q), fun _ q => q.2 rfl⟩
    · rw [if_neg hji] at hj
      refine oEEEAAAA (I.own.at_ j fr' l' hj) ?_; intro b n' vs' g1 g2 g3 g4 g5
      refine ⟨b, n', vs', g1, g2, RL.mono ed _ g3, fun q => ⟨⟨(g4 q).1, fun z => ?_⟩, (g4 q).2⟩, fun q z => g5 q z.1⟩
      subst z
      exact hji (I.own.nodup j i _ g1 ha)
  · exact R.lst ⟨h2, fun q => q.2 rfl⟩ (RL.mono ed _ h3)
theorem Inv.setOwn {X cx O as st s} (I : Inv X cx O as st s) {i : Nat} {l l' : List Dat} {a : Addr} {h' : Heap} {n' : Nat} {vs' : List Value} (h : st.own[i]? = some (false, l)) (ha : as[i]? = some a) (sb : Heap.SameBut a s.heap h') (hn : h'.get? a = some (lstN vs' n')) (r : RL (Dt s.heap O) l' vs') (t : Tok) :
    Inv X cx O as { st with own := st.own.set i (false, l') } { s with heap := h', toks := t } ∧ Ex O as s O as { s with heap := h', toks := t } := by
  refine oEEEAAAA (I.own.at_ i false l h) ?_; intro a' n vs h1 h2 h3 h4 h5
  rw [ha] at h1; cases h1
  refine oAAA (h4 rfl) ?_; intro hO hL hR hB
  have ed : ∀ b o, Dt s.heap O b o → Dt h' O b o := fun b o h => ⟨(sb.2 b fun q => h.2 (q ▸ hO)).trans h.1, h.2⟩
  have e : Ex O as s O as { s with heap := h', toks := t } := ⟨ed, fun _ _ h => h⟩
  have nt : ¬ isTb a := fun q => by refine oEA (I.wd.tabs _ q) ?_; intro ps e1 _; rw [h2] at e1; cases e1
  refine ⟨⟨⟨fun b o e => (sb.2 b fun q => by rw [q, I.wd.off a hO] at e; cases e).trans (I.wd.keep b o e), I.wd.off, fun b hb => ?_, I.wd.tabs.of fun b o tb e => (sb.2 b fun q => nt (q ▸ tb)).trans e, I.wd.tabO, I.wd.bare⟩, fun b o q => (sb.2 b fun z => hR o (z ▸ q)).trans (I.ref b o q), I.reft, ⟨I.gs.1, I.gs.2⟩, I.sub, I.LO, I.LR, I.LT, I.above, ?_, fun x v h1 h2 => ?_, (by simp [I.own.len]), I.own.nodup, fun j fr' l'' hj => ?_⟩, e⟩
  · by_cases hb' : b = a
    · subst hb'; exact ⟨_, hn⟩
    · refine oE (I.wd.alive b hb) ?_; intro o e; exact ⟨o, (sb.2 b hb').trans e⟩
  · refine oEA I.ns ?_; intro m hm hv
    refine ⟨m, hm.sameBut sb (Ne.symm hL), fun x v h1 h2 => ?_⟩
    refine oEA (hv x v h1 h2) ?_; intro u h3 h4
    exact ⟨u, h3, h4.ex e⟩
  · refine oEEEAAAA (I.cells x v h1 h2) ?_; intro c o u h3 h4 h5 h6 h7
    exact ⟨c, o, u, h3, h4, ed _ _ h5, h6, h7.ex e⟩
  · rw [List.getElem?_set] at hj
    by_cases hji : i = j
    · subst hji
      have hlt := (List.getElem?_eq_some_iff.mp h).1
      rw [if_pos rfl, if_pos hlt] at hj
      cases hj
      exact ⟨a, n', vs', ha, hn, RL.mono ed _ r, fun _ => ⟨hO, hL, hR, hB⟩, fun q => by cases q⟩
    · rw [if_neg hji] at hj
      refine oEEEAAAA (I.own.at_ j fr' l'' hj) ?_; intro b n'' vs'' g1 g2 g3 g4 g5
      exact ⟨b, n'', vs'', g1, (sb.2 b fun z => hji (I.own.nodup i j _ ha (z ▸ g1))).trans g2, RL.mono ed _ g3, g4, g5⟩
theorem Inv.setVar {X cx O as st s} (I : Inv X cx O as st s) {m : Str → Option Value} {x : Str} {v : Val} {u : Value} {h' : Heap} (hm : s.heap.Ns X.env.locals m) (hk : cx.kind x = some .local) (r : VR as (Dt s.heap O) v u) (sb : Heap.SameBut X.env.locals s.heap h') (hn : h'.Ns X.env.locals fun y => if y = x then some u else m y) (t : Tok) :
    Inv X cx O as { st with vars := upV st.vars x v } { s with heap := h', toks := t } ∧ Ex O as s O as { s with heap := h', toks := t } := by
  have ed : ∀ b o, Dt s.heap O b o → Dt h' O b o := fun b o h => ⟨(sb.2 b fun q => h.2 (q ▸ I.LO)).trans h.1, h.2⟩
  have e : Ex O as s O as { s with heap := h', toks := t } := ⟨ed, fun _ _ h => h⟩
  refine ⟨⟨⟨fun b o e => (sb.2 b fun q => by rw [q, I.wd.off _ I.LO] at e; cases e).trans (I.wd.keep b o e), I.wd.off, fun b hb => ?_, I.wd.tabs.of fun b o tb e => (sb.2 b fun q => I.LT (q ▸ tb)).trans e, I.wd.tabO, I.wd.bare⟩, fun b o q => (sb.2 b fun z => I.LR o (z ▸ q)).trans (I.ref b o q), I.reft, ⟨I.gs.1, I.gs.2⟩, I.sub, I.LO, I.LR, I.LT, I.above, ⟨_, hn, fun y v' h1 h2 => ?_⟩, fun y v' h1 h2 => ?_, I.own.len, I.own.nodup, fun j fr' l'' hj => ?_⟩, e⟩
  · by_cases hb' : b = X.env.locals
    · subst hb'; refine oEEEA hn ?_; clear hn; intro o _ _ e _; exact ⟨_, e⟩
    · refine oE (I.wd.alive b hb) ?_; intro o e; exact ⟨o, (sb.2 b hb').trans e⟩
  · rw [look_upV] at h1
    by_cases hy : y = x
    · rw [if_pos hy] at h1; cases h1
      exact ⟨u, if_pos hy, r.ex e⟩
    · rw [if_neg hy] at h1
      refine oEA I.ns ?_; intro m' hm' hv
      refine oEA (hv y v' h1 h2) ?_; intro u' h3 h4
      refine ⟨u', ?_, h4.ex e⟩
      show (if y = x then some u else m y) = some u'
      rw [if_neg hy, ← h3]
      refine oEEEAAA hm ?_; clear hm; intro o1 es1 ep1 g1 g2 _ g4
      refine oEEEAAA hm' ?_; clear hm'; intro o2 es2 ep2 k1 k2 _ k4
      rw [g1] at k1; cases k1; rw [g2] at k2; cases k2
      rw [← g4, ← k4]
  · rw [look_upV] at h1
    by_cases hy : y = x
    · subst hy; exact absurd hk h2
    · rw [if_neg hy] at h1
      refine oEEEAAAA (I.cells y v' h1 h2) ?_; intro c o u h3 h4 h5 h6 h7
      exact ⟨c, o, u, h3, h4, ed _ _ h5, h6, h7.ex e⟩
  · refine oEEEAAAA (I.own.at_ j fr' l'' hj) ?_; intro b n'' vs'' g1 g2 g3 g4 g5
    refine ⟨b, n'', vs'', g1, (sb.2 b fun z => ?_).trans g2, RL.mono ed _ g3, g4, g5⟩
    refine oEEEAA hm ?_; clear hm; intro o es ep k1 k2 _
    rw [← z, g2] at k1; cases k1; cases k2
end
section
theorem R.rf' {φ : Fm} {v : Nat} : R φ (.rf v) (.ref v) := rfl
theorem R.bi' {φ : Fm} {v : Nat} : R φ (.bi v) (biV v) := rfl
theorem look_mem {α : Type} {x : Str} {v : α} : ∀ {l : List (Str × α)}, look x l = some v → (x, v) ∈ l
  | [], h => by cases h
  | (y, a) :: r, h => by
    unfold look at h
    cases q : seq x y with
    | true => rw [q] at h; cases h; rw [(seq_iff x y).mp q]; exact .head _
    | false => rw [q] at h; exact .tail _ (look_mem h)
noncomputable def nmOf : Nat → String
  | 0 => "add" | 1 => "sub" | 2 => "mul" | 5 => "truediv" | 6 => "pow" | _ => ""
noncomputable def noI (K : Frag) (C : Addr) (i : Str) : Bool := match clsIn K C with
  | some cd => cd.mro.all fun c => findIn K c i == some none
  | none => false
structure KOk (K : Frag) : Prop where
  gl : ∀ x v, look x globs = some v → nsIn K mainGlobals x = some (some (.ref v)) ∧ keepIn K (.ref v) = true
  bl : ∀ x v, look x bools = some v → nsIn K mainGlobals x = some none ∧ bootBuiltins x = some (biV v) ∧ x ≠ "__name__"
  mt : ∀ C x f, mth C x = some f → findIn K (.ref C) x = some (some (.ref f)) ∧ isFn K (.ref f) = true ∧ keepIn K (.ref f) = true ∧ plainGet K C x = true
  cl : ∀ C, C = 183 ∨ C = 297 ∨ C = 486 → selfFirst K C = true ∧ hasDictIn K C = true ∧ notFirst K C (.ref C) = true ∧ notFirst K C (.type "int") = true ∧ subIn K (.type "int") (.ref C) = some false ∧ subIn K (.ref C) (.type "int") = some false
  isi : ∀ t c b, isT t c = some b → kitOne K (if t = 0 then .type "int" else .ref t) (if c = 0 then .type "int" else .ref c) = some b
  op : ∀ C n, C = 183 ∨ C = 297 ∨ C = 486 → n = 0 ∨ n = 1 ∨ n = 2 ∨ n = 5 ∨ n = 6 → (∃ rc, findIn K (.ref C) (dunderR (nmOf n)) = some rc ∧ (rc = none ∨ ∃ g : Addr, rc = some (.ref g))) ∧ ∃ ro, findIn K (.type "int") (dunderR (nmOf n)) = some ro
  ro : ∀ C n f, mth C (dundR n) = some f → n = 1 ∨ n = 2 ∨ n = 5 → ∃ fr, findIn K (.ref C) (dund n) = some (some (.ref fr))
  noi : noI K 183 (dunderI "add") = true ∧ noI K 183 (dunderI "sub") = true
  ci : ∀ C, C = 183 ∨ C = 297 ∨ C = 486 → plainGet K C "__class__" = true ∧ findIn K (.ref C) "__class__" = some (some (.builtin "object.__class__")) ∧ mroIn K C (.type "object") = some true
  cg : specialIn K (.builtin "object.__class__") "__get__" = some (some (.builtin "getset_descriptor.__get__")) ∧ takesIn K (.builtin "object.__class__") = some true
  at_ : ∀ C x, C = 183 ∨ C = 297 ∨ C = 486 → x ∈ attrs → plainGet K C x = true ∧ findIn K (.ref C) x = some none
  crv : nsIn K mainGlobals "_law_curves" = some (some (.ref 611)) ∧ ∃ vs m, K.lookup 611 = some (lstN vs m) ∧ vs.length = 8 ∧ ∀ v ∈ vs, ∃ p b0 b1 pts, Crv p b0 b1 pts ∧ R (fun a o => K.lookup a = some o) (crvD p b0 b1 pts) v
structure Fok (K : Params → Frag) (prog : Program) (w : World) (p : Program) (loose : List Str) (mg mb : Str → Option Value) (X : Fc) (cx : Cx) : Prop where
  base : Bs (K w.params) p loose mg mb X.g
  last : LastOk X.g
  kok : KOk (K w.params)
  kinds : ∀ x, X.env.kindOf x = cx.kind x
  fn : X.env.scope.kind = .function
  glob : X.env.globals = mainGlobals
  bltn : X.env.builtins = builtinsNs
  gam : ∀ c ∈ cx.gam, c.Ok K
structure AOk (A : Around) (cx : Cx) : Prop where
  h : A.handled = none
  d : A.depth ≤ cx.D
  u : A.units ≤ cx.U
  dl : cx.D < recursionLimit
  ul : cx.U + 100 < cLine
section
variable {K : Params → Frag} {prog : Program} {w : World} {p : Program} {loose : List Str} {mg mb : Str → Option Value} {X : Fc} {cx : Cx} {A : Around} {O : AP} {as : List Addr} {st : St} {s : Shared}
noncomputable def PostE (X : Fc) (cx : Cx) (k : KV) (O : AP) (as : List Addr) (s : Shared) (Q : Value → Shared → Prop) : Prop :=
  ∀ v st' u s' O' as', k v st' → Inv X cx O' as' st' s' → Ex O as s O' as' s' → VR as' (Dt s'.heap O') v u → Q u s'
noncomputable def PostD (X : Fc) (cx : Cx) (k : KD) (O : AP) (as : List Addr) (s : Shared) (Q : Value → Shared → Prop) : Prop :=
  ∀ d st' u s' O' as', k d st' → Inv X cx O' as' st' s' → Ex O as s O' as' s' → R (Dt s'.heap O') d u → Q u s'
noncomputable def PostB (X : Fc) (cx : Cx) (k : KB) (O : AP) (as : List Addr) (s : Shared) (Q : Bool → Shared → Prop) : Prop :=
  ∀ b st' s' O' as', k b st' → Inv X cx O' as' st' s' → Ex O as s O' as' s' → Q b s'
noncomputable def PostS (X : Fc) (cx : Cx) (k : St → Prop) (O : AP) (as : List Addr) (s : Shared) (Q : Shared → Prop) : Prop :=
  ∀ st' s' O' as', k st' → Inv X cx O' as' st' s' → Ex O as s O' as' s' → Q s'
noncomputable def FlR (φ : Fm) : Fl → Flow → Prop
  | .next, f => f = .next
  | .brk, f => f = .brk
  | .cont, f => f = .cont
  | .ret d, f => ∃ v, f = .ret v ∧ R φ d v
noncomputable def PostF (X : Fc) (cx : Cx) (k : Fl → St → Prop) (O : AP) (as : List Addr) (s : Shared) (Q : Flow → Shared → Prop) : Prop :=
  ∀ fl st' f s' O' as', k fl st' → Inv X cx O' as' st' s' → Ex O as s O' as' s' → FlR (Dt s'.heap O') fl f → Q f s'
theorem PostE.trans {k : KV} {O' as' s'} {Q : Value → Shared → Prop} (P : PostE X cx k O as s Q) (e : Ex O as s O' as' s') : PostE X cx k O' as' s' Q := fun v st u s'' O'' as'' h1 h2 h3 h4 => P v st u s'' O'' as'' h1 h2 (e.trans h3) h4
theorem PostD.trans {k : KD} {O' as' s'} {Q : Value → Shared → Prop} (P : PostD X cx k O as s Q) (e : Ex O as s O' as' s') : PostD X cx k O' as' s' Q := fun v st u s'' O'' as'' h1 h2 h3 h4 => P v st u s'' O'' as'' h1 h2 (e.trans h3) h4
theorem PostB.trans {k : KB} {O' as' s'} {Q : Bool → Shared → Prop} (P : PostB X cx k O as s Q) (e : Ex O as s O' as' s') : PostB X cx k O' as' s' Q := fun v st s'' O'' as'' h1 h2 h3 => P v st s'' O'' as'' h1 h2 (e.trans h3)
theorem PostS.trans {k : St → Prop} {O' as' s'} {Q : Shared → Prop} (P : PostS X cx k O as s Q) (e : Ex O as s O' as' s') : PostS X cx k O' as' s' Q := fun st s'' O'' as'' h1 h2 h3 => P st s'' O'' as'' h1 h2 (e.trans h3)
theorem PostF.trans {k : Fl → St → Prop} {O' as' s'} {Q : Flow → Shared → Prop} (P : PostF X cx k O as s Q) (e : Ex O as s O' as' s') : PostF X cx k O' as' s' Q := fun fl st f s'' O'' as'' h1 h2 h3 h4 => P fl st f s'' O'' as'' h1 h2 (e.trans h3) h4
noncomputable def SndE (K : Params → Frag) (prog : Program) (w : World) (p : Program) (loose : List Str) (mg mb : Str → Option Value) (E : Ev) : Prop :=
  ∀ (cx : Cx) (X : Fc) (A : Around), Fok K prog w p loose mg mb X cx → AOk A cx → ∀ e st k O as s Q, E.e cx e st k → Inv X cx O as st s → PostE X cx k O as s Q → wpAny (model prog w) A (eval e X.env) Q NoE s
noncomputable def SndT (K : Params → Frag) (prog : Program) (w : World) (p : Program) (loose : List Str) (mg mb : Str → Option Value) (E : Ev) : Prop :=
  ∀ (cx : Cx) (X : Fc) (A : Around), Fok K prog w p loose mg mb X cx → AOk A cx → ∀ e st k O as s Q, E.t cx e st k → Inv X cx O as st s → PostB X cx k O as s Q → wpAny (model prog w) A (isTrue e X.env (eval e X.env)) Q NoE s
noncomputable def SndS (K : Params → Frag) (prog : Program) (w : World) (p : Program) (loose : List Str) (mg mb : Str → Option Value) (E : Ev) : Prop :=
  ∀ (cx : Cx) (X : Fc) (A : Around), Fok K prog w p loose mg mb X cx → AOk A cx → ∀ l st k O as s Q, E.s cx l st k → Inv X cx O as st s → PostF X cx k O as s Q → wpAny (model prog w) A (execs l X.env) Q NoE s
theorem toD_snd {v : Val} {k : KD} {u : Value} {Q : Value → Shared → Prop} (h : toD v st k) (I : Inv X cx O as st s) (r : VR as (Dt s.heap O) v u) (P : PostD X cx k O as s Q) : Q u s := by
  cases v with
  | d x => exact P x st u s O as h I Ex.refl r
  | loc i =>
    refine oEA r ?_; clear r; rintro a ha rfl
    refine ow_k h fun fr l e h => ?_
    refine oAA (I.freeze e ha) ?_; intro J x r'
    exact P _ _ _ _ _ _ h J x r'
theorem evD_snd {E : Ev} (S : SndE K prog w p loose mg mb E) (F : Fok K prog w p loose mg mb X cx) (a : AOk A cx) {e : Expr} {k : KD} {Q : Value → Shared → Prop} (h : evD E cx e st k) (I : Inv X cx O as st s) (P : PostD X cx k O as s Q) : wpAny (model prog w) A (eval e X.env) Q NoE s :=
  S cx X A F a e st _ O as s Q h I fun v st' u s' O' as' h1 h2 h3 h4 => toD_snd h1 h2 h4 (P.trans h3)
noncomputable def PostL (X : Fc) (cx : Cx) (k : List Dat → St → Prop) (O : AP) (as : List Addr) (s : Shared) (Q : List Value → Shared → Prop) : Prop :=
  ∀ ds st' us s' O' as', k ds st' → Inv X cx O' as' st' s' → Ex O as s O' as' s' → RL (Dt s'.heap O') ds us → Q us s'
theorem isName_ex {e : Expr} (h : isName e = true) : ∃ x p, e = .Name x p := by cases e <;> first | exact ⟨_, _, rfl⟩ | cases h
theorem isTup_ex {e : Expr} (h : isTup e = true) : ∃ es j p, e = .Tuple es j p := by cases e <;> first | exact ⟨_, _, _, rfl⟩ | cases h
theorem ns_of {e : Expr} (h : noStar [e] = true) : ∀ x q, e ≠ .Starred x q := fun x q z => by subst z; cases h
theorem starEach_cons {e : Expr} {rest : List Expr} {env : Env} (h : ∀ x q, e ≠ .Starred x q) : starEach (e :: rest) env = (false, eval e env) :: starEach rest env := by
  cases e <;> first | rfl | exact absurd rfl (h _ _)
theorem evL_ns {E : Ev} {e : Expr} {r : List Expr} {k : List Dat → St → Prop} (h : evL E cx (e :: r) st k) : (∀ x q, e ≠ .Starred x q) ∧ evD E cx e st fun d st => evL E cx r st fun ds st => k (d :: ds) st := gd_k h fun a b => ⟨ns_of a, b⟩
theorem evL_snd {E : Ev} (S : SndE K prog w p loose mg mb E) (F : Fok K prog w p loose mg mb X cx) (a : AOk A cx) (pos : Pos) : ∀ (l : List Expr) {st : St} {k : List Dat → St → Prop} {O : AP} {as : List Addr} {s : Shared} {Q : List Value → Shared → Prop}, evL E cx l st k → Inv X cx O as st s → PostL X cx k O as s Q →
    wpAny (model prog w) A (spliced (backTo pos (starEach l X.env))) Q NoE s
  | [], st, k, O, as, s, Q, h, I, P => wpAny_items_nil (P [] st [] s O as h I Ex.refl .nl)
  | e :: r, st, k, O, as, s, Q, h, I, P => by
    refine oA (evL_ns h) ?_; intro hn h
    refine wpAny_items_cons (he := starEach_cons hn) (evD_snd S F a h I fun d st' u s' O' as' h1 h2 h3 h4 => ?_)
    exact evL_snd S F a pos r h1 h2 fun ds st'' us s'' O'' as'' g1 g2 g3 g4 => P _ _ _ _ _ _ g1 g2 (h3.trans g3) (.cn (h4.ex g3) g4)
theorem Inv.fr (I : Inv X cx O as st s) : ∃ m, Fr X.g X.env.locals s.heap m := let ⟨m, hm, _⟩ := I.ns; ⟨m, hm, I.wd.keep, I.above⟩
theorem isGI_ok {k : Option NameKind} (h : isGI k = true) : k = some .globalImplicit := by
  cases k with
  | none => cases h
  | some k => cases k <;> first | rfl | cases h
theorem name_snd (F : Fok K prog w p loose mg mb X cx) {x : Str} {pos : Pos} {Q : Value → Shared → Prop} (hd : seq x "__debug__" = false) (hc : seq x "__classdict__" = false) {k : KV} (h : evNm cx x st k) (I : Inv X cx O as st s) (P : PostE X cx k O as s Q) : wpAny (model prog w) A (eval (.Name x pos) X.env) Q NoE s := by
  rw [seq_eq] at hd hc
  refine oo_k h (fun v e h => ?_) fun _ h => gd_k h fun hk h => ?_
  · by_cases hk : cx.kind x = some .local
    · refine oEA I.ns ?_; intro m hm hv
      refine oEA (hv x v e hk) ?_; intro u h1 h2
      exact wpAny_Name (wpAny_loadName_local F.fn ((F.kinds x).trans hk) hm h1 (P v st u s O as h I Ex.refl h2)) hd
    · refine oEEEAAAA (I.cells x v e hk) ?_; intro c o u h1 h2 h3 h4 h5
      have q := P v st u s O as h I Ex.refl h5
      rcases h1 with h1 | h1
      · exact wpAny_Name (wpAny_loadName_cell F.fn ((F.kinds x).trans h1) h2 ⟨o, h3.1, h4⟩ q) hd
      · exact wpAny_Name (wpAny_loadName_free F.fn ((F.kinds x).trans h1) h2 ⟨o, h3.1, h4⟩ q hc) hd
  · have hk' := (F.kinds x).trans (isGI_ok hk)
    have G : s.heap.Ns X.env.globals mg := by rw [F.glob]; exact F.base.T.g.keeps I.wd.keep
    refine oo_k h (fun v e h => ?_) fun _ h => oJ_k h fun v e h => ?_
    · exact Name_function_global F.fn hk' (loadGlobal_global G (mg_of F.base.X F.base.T.g (F.kok.gl x v e).1) (P _ st (.ref v) s O as h I Ex.refl (R.rf' (φ := Dt s.heap O)))) hd
    · refine oAA (F.kok.bl x v e) ?_; intro g1 g2 g3
      refine Name_function_global F.fn hk' (loadGlobal_builtin G (mg_none_of F.base.X F.base.T.g g1) (mb := mb) ?_ ((F.base.T.builtins x g3).trans g2) (P _ st (biV v) s O as h I Ex.refl (R.bi' (φ := Dt s.heap O)))) hd
      rw [F.bltn]; exact F.base.T.b.keeps I.wd.keep
theorem intOf_R {φ : Fm} {d : Dat} {n : Int} {B : Nat} {v : Value} (h : intOf d = some (n, B)) (r : R φ d v) : n.natAbs ≤ B ∧ ∃ t, v = .int n t := by
  cases d with
  | lit m => cases h; exact ⟨Nat.le_refl _, r⟩
  | int m B => cases h; exact r
  | prm q => cases h; exact ⟨by have := r.1.le; have := r.1.pos; omega, r.2⟩
  | _ => cases h
theorem posD_R {φ : Fm} {d : Dat} {n : Int} {B : Nat} {v : Value} (h : intOf d = some (n, B)) (q : posD d = true) (r : R φ d v) : 0 < n := by
  cases d with
  | lit m => cases h; exact of_decide_eq_true q
  | prm p => cases h; exact r.1.pos
  | int m B => cases q
  | _ => cases h
noncomputable def opOf : Nat → Operator
  | 0 => .Add | 1 => .Sub | 2 => .Mult | 3 => .Mod | 4 => .FloorDiv | 5 => .Div | _ => .Pow
theorem opN_inj {op : Operator} {n : Nat} (h : opN op = n) (hn : n < 7) : op = opOf n := by
  subst h
  cases op <;> first | rfl | (exact absurd hn (by decide))
theorem bits64 {x : Int} {A : Nat} (hx : x.natAbs ≤ A) (h : A ≤ bits) : Builtin.Int.intBits x ≤ 64 := by
  have e : bits = 1152921504606846976 := by decide
  exact intBits_le_64 (by omega) (by omega)
theorem mulOk {x y : Int} {A B : Nat} (hx : x.natAbs ≤ A) (hy : y.natAbs ≤ B) (h : Nat.ble (A * B) bits = true) : IntMulOk x y ∧ (x * y).natAbs ≤ A * B := by
  have h1 := Nat.le_of_ble_eq_true h
  refine ⟨?_, by rw [Int.natAbs_mul]; exact Nat.mul_le_mul hx hy⟩
  rcases Nat.eq_zero_or_pos B with q | q
  · subst q; exact .of_right (bits64 hy (Nat.zero_le _))
  · exact .of_left (bits64 hx (Nat.le_trans (Nat.le_mul_of_pos_right A q) h1))
theorem emod_abs {x y : Int} {B : Nat} (h : 0 < y) (hy : y.natAbs ≤ B) : (x % y).natAbs ≤ B := by
  have := Int.emod_nonneg x (Int.ne_of_gt h)
  have := Int.emod_lt_of_pos x h
  omega
theorem ediv_abs {x y : Int} {A : Nat} (h : 0 < y) (hx : x.natAbs ≤ A) : (x / y).natAbs ≤ A := by
  refine Nat.le_trans ?_ hx
  rcases Int.le_total 0 x with q | q
  · have := Int.ediv_nonneg q (Int.le_of_lt h)
    have := Int.ediv_le_self y q
    omega
  · have h1 : x / y ≤ 0 := by
      have := Int.ediv_le_ediv h q
      rw [Int.zero_ediv] at this; exact this
    have h2 : x ≤ x / y := by
      have e := Int.emod_add_mul_ediv x y
      have n := Int.emod_nonneg x (Int.ne_of_gt h)
      have l := Int.emod_lt_of_pos x h
      have : y * (x / y) ≤ 1 * (x / y) := by
        have := Int.mul_le_mul_of_nonpos_right (show (1 : Int) ≤ y by omega) h1
        exact this
      by_cases z : x / y = 0
      · rw [z]; omega
      · have : (y - 1) * (x / y) ≤ (y - 1) * (-1) := Int.mul_le_mul_of_nonneg_left (by omega) (by omega)
        have e2 : (y - 1) * (x / y) = y * (x / y) - x / y := by rw [Int.sub_mul, Int.one_mul]
        omega
    omega
theorem fmod_pos {x y : Int} (h : 0 < y) : Int.fmod x y = x % y := Int.fmod_eq_emod_of_nonneg _ (Int.le_of_lt h)
theorem fdiv_pos {x y : Int} (h : 0 < y) : Int.fdiv x y = x / y := Int.fdiv_eq_ediv_of_nonneg _ (Int.le_of_lt h)
theorem R.int_of {φ : Fm} {z : Int} {C : Nat} {t : Tok} {b : Bool} (h : z.natAbs ≤ C) : R φ (bI b (.lit z) (.int z C)) (.int z t) := by
  cases b with
  | true => exact R.lit
  | false => exact R.int h
inductive AOp : Operator → Int → Int → Int → Prop
  | add {x y : Int} : AOp .Add x y (x + y)
  | sub {x y : Int} : AOp .Sub x y (x - y)
  | mul {x y : Int} (h : IntMulOk x y) : AOp .Mult x y (x * y)
  | mod {x y : Int} (h : y ≠ 0) : AOp .Mod x y (Int.fmod x y)
  | div {x y : Int} (h : y ≠ 0) (g : Builtin.divisionGoesByPylong x y = false) : AOp .FloorDiv x y (Int.fdiv x y)
theorem arI_op {op : Operator} {n : Nat} {x y : Int} {A B : Nat} {b : Bool} {z : Int × Nat} (hx : x.natAbs ≤ A) (hy : y.natAbs ≤ B) (hb : b = true → 0 < y) (hn : opN op = n) (h : arI n x A y B b = some z) : AOp op x y z.1 ∧ z.1.natAbs ≤ z.2 := by
  match n, hn, h with
  | 0, hn, h => cases h; obtain rfl : op = .Add := opN_inj hn (by decide); exact ⟨.add, Nat.le_trans (Int.natAbs_add_le x y) (Nat.add_le_add hx hy)⟩
  | 1, hn, h => cases h; obtain rfl : op = .Sub := opN_inj hn (by decide); exact ⟨.sub, Nat.le_trans (Int.natAbs_sub_le x y) (Nat.add_le_add hx hy)⟩
  | 2, hn, h =>
    refine oA (oB_x (b := Nat.ble (A * B) bits) h) ?_; intro q h
    cases h; obtain rfl : op = .Mult := opN_inj hn (by decide)
    refine oA (mulOk hx hy q) ?_; intro m1 m2
    exact ⟨.mul m1, m2⟩
  | 3, hn, h =>
    refine oA (oB_x (b := b) h) ?_; intro q h
    cases h; obtain rfl : op = .Mod := opN_inj hn (by decide)
    have p0 := hb q
    exact ⟨fmod_pos p0 ▸ .mod (Int.ne_of_gt p0), emod_abs p0 hy⟩
  | 4, hn, h =>
    refine oA (oB_x (b := b && Nat.ble B 1000000000) h) ?_; intro q h
    cases h; obtain rfl : op = .FloorDiv := opN_inj hn (by decide)
    refine oA (Bool.and_eq_true_iff.mp q) ?_; intro q1 q2
    have p0 := hb q1
    exact ⟨fdiv_pos p0 ▸ .div (Int.ne_of_gt p0) (PyProof.noPylong_small (Nat.lt_of_le_of_lt (Nat.le_trans hy (Nat.le_of_ble_eq_true q2)) (by decide))), ediv_abs p0 hx⟩
  | _ + 5, _, h => cases h
theorem arith_op {op : Operator} {a b d : Dat} {u v : Value} {φ : Fm} (h : arith (opN op) a b = some d) (ra : R φ a u) (rb : R φ b v) : ∃ x y z s t, u = .int x s ∧ v = .int y t ∧ AOp op x y z ∧ ∀ t, R φ d (.int z t) := by
  refine oM_k h fun x ha h => oM_k h fun y hb h => oM_k h fun z hz h => ?_
  refine oAE (intOf_R ha ra) ?_; rintro h1 t1 rfl
  refine oAE (intOf_R hb rb) ?_; rintro h2 t2 rfl
  cases h
  refine oA (arI_op h1 h2 (fun q => posD_R hb q rb) rfl hz) ?_; intro q1 q2
  exact ⟨_, _, _, _, _, rfl, rfl, q1, fun t => R.int_of q2⟩
theorem arith_snd {op : Operator} {a b d : Dat} {u v : Value} {φ : Fm} {Q : Value → Shared → Prop} {E : Value → Shared → Prop} (h : arith (opN op) a b = some d) (ra : R φ a u) (rb : R φ b v) (k : ∀ r, R φ d r → Q r { s with toks := s.toks + 1 }) : wpAny (model prog w) A (binaryOp op u v) Q E s := by
  obtain ⟨x, y, z, t1, t2, rfl, rfl, q, r⟩ := arith_op h ra rb
  clear h ra rb
  cases q with
  | add => exact add_int (k _ (r _))
  | sub => exact sub_int (k _ (r _))
  | mul m => exact mul_int (k _ (r _)) m
  | mod n => exact mod_int' n (k _ (r _))
  | div n m => exact floordiv_int n (k _ (r _)) (.inl m)
theorem iarith_snd {op : Operator} {a b d : Dat} {u v : Value} {φ : Fm} {Q : Value → Shared → Prop} {E : Value → Shared → Prop} (h : arith (opN op) a b = some d) (ra : R φ a u) (rb : R φ b v) (k : ∀ r, R φ d r → Q r { s with toks := s.toks + 1 }) : wpAny (model prog w) A (inplaceOp op u v) Q E s := by
  obtain ⟨x, y, z, t1, t2, rfl, rfl, q, r⟩ := arith_op h ra rb
  clear h ra rb
  cases q with
  | add => exact iadd_int (k _ (r _))
  | sub => exact isub_int (k _ (r _))
  | mul m => exact imul_int (k _ (r _)) m
  | mod n => exact imod_int n (k _ (r _))
  | div n m => exact ifloordiv_int n (k _ (r _)) (.inl m)
end
end
section
theorem ent_find {y : Str} : ∀ {ns : List Str} {vs : List Value} {es : List DictEntry}, EntOk ns vs es → y ∉ ns → es.find? (·.key.isStr y) = none ∧ es.any (·.refKey) = false
  | [], [], [], _, _ => ⟨rfl, rfl⟩
  | n :: ns, v :: vs, e :: es, h, hy => by
    refine oAA h ?_; clear h; rintro ⟨t, e1⟩ e2 e3
    refine oA (ent_find e3 fun q => hy (.tail _ q)) ?_; intro a b
    have hk : e.key.isStr y = false := by
      rw [e1]
      show (n == y) = false
      simp; rintro rfl; exact hy (.head _)
    refine ⟨by rw [List.find?_cons, hk]; exact a, ?_⟩
    rw [List.any_cons, b, Bool.or_false]
    unfold DictEntry.refKey
    rw [e1]
  | [], [], _ :: _, h, _ => h.elim
  | [], _ :: _, _, h, _ => h.elim
  | _ :: _, [], _, h, _ => h.elim
  | _ :: _, _ :: _, [], h, _ => h.elim
theorem ent_none {y : Str} {ns : List Str} {vs : List Value} {es : List DictEntry} (h : EntOk ns vs es) (hy : y ∉ ns) : getL y es = some none := by
  refine oA (ent_find h hy) ?_; intro a b
  unfold getL
  rw [a, b]; rfl
set_option tactic.hygienic true in
theorem ent_some {φ : Fm} {y : Str} {r : Dat} : ∀ {ns : List Str} {ds : List Dat} {vs : List Value} {es : List DictEntry}, lookZ y ns ds = some r → EntOk ns vs es → RL φ ds vs → y ∈ ns ∧ ∃ v, getL y es = some (some v) ∧ R φ r v ∧ okF r = true
  | n :: ns, d :: ds, vs, es, h, he, hr => by
    refine oEEAA hr.get2 ?_; rintro v vs' rfl r1 r2
    match es, he with
    | e :: es, he =>
      refine oAA he ?_; clear he; rintro ⟨t, e1⟩ e2 e3
      unfold lookZ at h
      cases q : seq y n with
      | true =>
        have := (seq_iff _ _).mp q; subst this
        rw [q] at h
        dsimp only at h
        split at h
        · rename_i ho
          cases h
          refine ⟨.head _, v, ?_, r1, ho⟩
          unfold getL
          rw [List.find?_cons, show e.key.isStr y = true from by rw [e1]; show (y == y) = true; simp]
          dsimp only
          rw [e2]
        · cases h
      | false =>
        rw [q] at h
        refine oAEAA (ent_some h e3 r2) ?_; intro m u u1 u2 u3
        refine ⟨.tail _ m, u, ?_, u2, u3⟩
        have hk : e.key.isStr y = false := by
          rw [e1]
          show (n == y) = false
          rw [seq_eq] at q
          simp at q ⊢; exact fun z => q z.symm
        unfold getL at u1 ⊢
        rw [List.find?_cons, hk]
        dsimp only
        split at u1
        · rename_i en hen; rw [hen]; exact u1
        · rename_i hen
          split at u1
          · cases u1
          · cases u1
  | [], _, _, _, h, _, _ => nomatch h
  | _ :: _, [], _, _, h, _, _ => nomatch h
theorem okF_handed {φ : Fm} {d : Dat} {v : Value} (h : okF d = true) (r : R φ d v) : handedIn v = true := by
  cases d with
  | lit n => refine oE r ?_; clear r; rintro t rfl; rfl
  | int n B => refine oAE r ?_; clear r; rintro _ t rfl; rfl
  | prm n => refine oAE r ?_; clear r; rintro _ t rfl; rfl
  | tup l => obtain ⟨a, n, vs, rfl, _⟩ := r; rfl
  | lst l => obtain ⟨a, n, vs, rfl, _⟩ := r; rfl
  | _ => cases h
section
variable {K : Params → Frag} {prog : Program} {w : World} {p : Program} {loose : List Str} {mg mb : Str → Option Value} {X : Fc} {cx : Cx} {A : Around} {O : AP} {as : List Addr} {st : St} {s : Shared}
theorem R.inst {h : Heap} {d : Dat} {u : Value} {C : Nat} (r : R (Dt h O) d u) (hk : kls d = some C) : ∃ x dx es n, u = .ref x ∧ InstAt h x (instObj C dx) C (some (dictOf es n)) ∧ (C = 183 ∨ C = 297 ∨ C = 486) ∧
    (∀ y, y ∈ ["made", "FQP_corresponding_FQ_class", "one", "zero", "inv", "optimized_poly_rounded_div"].map Str.ofString → getL y es = some none) := by
  cases d with
  | fq p n =>
    cases hk
    obtain ⟨x, dx, _, _, _, _, _, _, e, a, b, _⟩ := r
    exact ⟨x, dx, _, _, e, ⟨a.1, rfl, rfl, b.1⟩, .inl rfl, fun y hy => by simp at hy; rcases hy with rfl | rfl | rfl | rfl | rfl | rfl <;> rfl⟩
  | fqp p a b =>
    cases hk
    obtain ⟨x, dx, _, _, _, _, _, _, _, _, _, _, _, _, _, _, _, _, _, _, e, a, b, _⟩ := r
    exact ⟨x, dx, _, _, e, ⟨a.1, rfl, rfl, b.1⟩, .inr (.inl rfl), fun y hy => by simp at hy; rcases hy with rfl | rfl | rfl | rfl | rfl | rfl <;> rfl⟩
  | ob x0 C' ns ds =>
    refine oA (oB_x hk) ?_; intro _ hk
    obtain rfl : C' = C := Option.some.inj hk
    obtain ⟨z1, z2, dx, es, n, vs, e, a, b, c, _⟩ := r
    exact ⟨x0, dx, es, n, e, ⟨a.1, rfl, rfl, b.1⟩, z1, fun y hy => ent_none c.1 fun q => by
      have := z2 y q
      simp at hy
      rcases hy with rfl | rfl | rfl | rfl | rfl | rfl <;> (revert this; decide +kernel)⟩
  | fq2 p a b =>
    cases hk
    obtain ⟨x, dx, _, _, _, _, _, _, _, _, _, _, _, _, _, _, _, _, _, _, _, _, _, _, _, _, _, _, e, a, b, _⟩ := r
    exact ⟨x, dx, _, _, e, ⟨a.1, rfl, rfl, b.1⟩, .inr (.inr rfl), fun y hy => by simp at hy; rcases hy with rfl | rfl | rfl | rfl | rfl | rfl <;> rfl⟩
  | _ => cases hk
theorem attr_one (F : Fok K prog w p loose mg mb X cx) (I : Inv X cx O as st s) {C : Nat} {x dx : Addr} {es : List DictEntry} {n : Nat} {y : Str} {v : Value} {Q : Value → Shared → Prop} {E : Value → Shared → Prop} (hC : C = 183 ∨ C = 297 ∨ C = 486) (J : InstAt s.heap x (instObj C dx) C (some (dictOf es n))) (hy : y ∈ attrs) (hl : getL y es = some (some v)) (hv : handedIn v = true)
    (h : Q v { s with toks := s.toks + 1 }) : wpAny (model prog w) A (getAttr (.ref x) y true) Q E s := by
  refine oE I.fr ?_; intro m Fm
  refine oA (F.kok.at_ C y hC hy) ?_; intro g1 g2
  exact get_own Fm F.base.X J g1 (F.kok.cl C hC).2.1 g2 rfl hl hv h
theorem attr_snd (F : Fok K prog w p loose mg mb X cx) (I : Inv X cx O as st s) {d r : Dat} {u : Value} {y : Str} {Q : Value → Shared → Prop} {E : Value → Shared → Prop} (ha : attr d y = some r) (hr : R (Dt s.heap O) d u)
    (h : ∀ v, R (Dt s.heap O) r v → Q v { s with toks := s.toks + 1 }) : wpAny (model prog w) A (getAttr u y true) Q E s := by
  have go := fun {C : Nat} {x dx : Addr} {es : List DictEntry} {n : Nat} {v : Value} hC J hy hl hv hh => attr_one (A := A) (E := E) (Q := Q) F I (C := C) (x := x) (dx := dx) (es := es) (n := n) (y := y) (v := v) hC J hy hl hv hh
  cases d with
  | fq p n =>
    have := look_mem ha
    obtain ⟨x, dx, _, _, _, _, _, _, rfl, a, b, c⟩ := hr
    simp only [List.mem_cons, Prod.mk.injEq, List.not_mem_nil, or_false] at this
    rcases this with ⟨rfl, rfl⟩ | ⟨rfl, rfl⟩
    · exact go (.inl rfl) ⟨a.1, rfl, rfl, b.1⟩ (by simp [attrs]) rfl rfl (h _ (R.prm c.pr))
    · exact go (.inl rfl) ⟨a.1, rfl, rfl, b.1⟩ (by simp [attrs]) rfl rfl (h _ (R.int c.abs))
  | fqp p a' b' =>
    have := look_mem ha
    obtain ⟨x, dx, tc, tm, q0, q1, n1, n2, u1, u2, _, _, _, _, _, _, _, _, _, _, rfl, a, b, c, r0, r1, e⟩ := hr
    simp only [List.mem_cons, Prod.mk.injEq, List.not_mem_nil, or_false] at this
    rcases this with ⟨rfl, rfl⟩ | ⟨rfl, rfl⟩ | ⟨rfl, rfl⟩ | ⟨rfl, rfl⟩
    · obtain ⟨_, _, _, _, _, _, _, _, _, _, _, c0⟩ := r0
      exact go (.inr (.inl rfl)) ⟨a.1, rfl, rfl, b.1⟩ (by simp [attrs]) rfl rfl (h _ (R.prm c0.pr))
    · exact go (.inr (.inl rfl)) ⟨a.1, rfl, rfl, b.1⟩ (by simp [attrs]) rfl rfl (h _ (R.tup c (.cn r0 (.cn r1 .nl))))
    · exact go (.inr (.inl rfl)) ⟨a.1, rfl, rfl, b.1⟩ (by simp [attrs]) rfl rfl (h _ (R.tup e (.cn R.lit (.cn R.lit .nl))))
    · exact go (.inr (.inl rfl)) ⟨a.1, rfl, rfl, b.1⟩ (by simp [attrs]) rfl rfl (h _ R.lit)
  | ob x0 C' ns ds =>
    obtain ⟨z1, z2, dx, es, n, vs, rfl, a, b, c, d⟩ := hr
    refine oAEAA (ent_some ha c.1 d) ?_; intro m v e1 e2 e3
    exact go z1 ⟨a.1, rfl, rfl, b.1⟩ (z2 y m) e1 (okF_handed e3 e2) (h _ e2)
  | fq2 p a' b' =>
    have := look_mem ha
    obtain ⟨x, dx, lm, mt, tc, tm, n1, n2, n3, n4, u1, u2, u3, u4, u5, u6, _, _, _, _, _, _, _, _, _, _, _, _, rfl, a, b, c, e, f, g, c0, c1⟩ := hr
    simp only [List.mem_cons, Prod.mk.injEq, List.not_mem_nil, or_false] at this
    rcases this with ⟨rfl, rfl⟩ | ⟨rfl, rfl⟩ | ⟨rfl, rfl⟩ | ⟨rfl, rfl⟩ | ⟨rfl, rfl⟩
    · exact go (.inr (.inr rfl)) ⟨a.1, rfl, rfl, b.1⟩ (by simp [attrs]) rfl rfl (h _ (R.prm c0.pr))
    · exact go (.inr (.inr rfl)) ⟨a.1, rfl, rfl, b.1⟩ (by simp [attrs]) rfl rfl (h _ (R.tup c (.cn (R.int c0.abs) (.cn (R.int c1.abs) .nl))))
    · exact go (.inr (.inr rfl)) ⟨a.1, rfl, rfl, b.1⟩ (by simp [attrs]) rfl rfl (h _ (R.tup e (.cn R.lit (.cn R.lit .nl))))
    · exact go (.inr (.inr rfl)) ⟨a.1, rfl, rfl, b.1⟩ (by simp [attrs]) rfl rfl (h _ R.lit)
    · exact go (.inr (.inr rfl)) ⟨a.1, rfl, rfl, b.1⟩ (by simp [attrs]) rfl rfl (h _ (R.lst f (.cn (R.tup g (.cn R.lit (.cn R.lit .nl))) .nl)))
  | _ => cases ha
end
end
section
theorem back_of {r : Value} {Q : Value → Shared → Prop} {s : Shared} (h : r ≠ .notImplemented) (q : Q r s) : PySem.W.CmpBack Q r s := by
  cases r <;> first | exact q | exact absurd rfl h
theorem biV_ne (n : Nat) : biV n ≠ .notImplemented := by unfold biV; split <;> exact fun h => by cases h
set_option tactic.hygienic true in
theorem R.back {φ : Fm} {d : Dat} {r : Value} {Q : Value → Shared → Prop} {s : Shared} (x : R φ d r) (q : Q r s) : PySem.W.CmpBack Q r s := by
  cases d <;> first
    | (refine oE x ?_; clear x; rintro t rfl; exact q)
    | (refine oAE x ?_; clear x; rintro _ t rfl; exact q)
    | (subst x; exact q)
    | (obtain ⟨_, _, _, _, _, _, _, _, rfl, _⟩ := x; exact q)
    | (obtain ⟨_, _, _, _, _, _, _, _, _, _, _, _, _, _, _, _, _, _, _, _, rfl, _⟩ := x; exact q)
    | (obtain ⟨_, _, _, _, _, _, _, _, _, _, _, _, _, _, _, _, _, _, _, _, _, _, _, _, _, _, _, _, rfl, _⟩ := x; exact q)
    | (obtain ⟨_, _, _, _, _, _, rfl, _⟩ := x; exact q)
    | (obtain ⟨_, _, _, rfl, _⟩ := x; exact q)
    | (rename_i n; subst x; exact back_of (biV_ne n) q)
noncomputable def Declines (nm : String) : Prop := ∀ (prog : Program) (w : World) (A : Around) (E : Value → Shared → Prop) (s : Shared) (x : Addr) (o : Obj) (n : Int) (t : Tok) (Q : Option Value → Shared → Prop),
  s.heap.get? x = some o → o.data = .plain → Q none s → wpAny (model prog w) A (tryMethod (.int n t) (PySem.dunder nm) (.ref x)) Q E s
theorem asInt_plain {M : Model} {A : Around} {E : Value → Shared → Prop} {s : Shared} {x : Addr} {o : Obj} {Q : Option Int → Shared → Prop} (hx : s.heap.get? x = some o) (hp : o.data = .plain) (h : Q none s) : wpAny M A (asInt? (.ref x)) Q E s := by
  unfold asInt?
  refine wpAny_bind (wpAny_load hx ?_)
  rw [hp]
  exact wpAny_pure h
theorem gv_mul {x : Addr} {o : Obj} {n : Int} {t : Tok} (hp : o.data = .plain) : GivesAt (fun s => s.heap.get? x = some o) (Builtin.«int.__mul__» ⟨[.int n t, .ref x], []⟩) (.val .notImplemented) := by
  intro prog w A R s hx h
  unfold Builtin.«int.__mul__» Builtin.Int.intBinary
  refine wpAny_bind (wpAny_of_eq (a := (Value.int n t, [Value.ref x])) rfl ?_)
  refine wpAny_bind (wpAny_of_eq (a := n) rfl ?_)
  refine wpAny_bind (asInt_plain hx hp ?_)
  exact wpAny_bind (wpAny_rule (wpAny_pure h))
theorem dec_mul : Declines "mul" := fun prog w A E s x o n t Q hx hp hq =>
  @wpAny_tryMethod_declines (model prog w) A E s (.int n t) (.ref x) "int" (PySem.dunder "mul") "int.__mul__" Q rfl F.slot_int_mul
    (call_givesAt (m := .val .notImplemented) (P := fun s => s.heap.get? x = some o) F.slot_int_mul (typeIs_int s n t) F.entry_int_mul (F.args_int_mul_2 _ _) (gv_mul hp) hx (And.intro rfl hq))
theorem gv_sub {x : Addr} {o : Obj} {n : Int} {t : Tok} (hp : o.data = .plain) : GivesAt (fun s => s.heap.get? x = some o) (Builtin.«int.__sub__» ⟨[.int n t, .ref x], []⟩) (.val .notImplemented) := by
  intro prog w A R s hx h
  unfold Builtin.«int.__sub__» Builtin.Int.intBinary
  refine wpAny_bind (wpAny_of_eq (a := (Value.int n t, [Value.ref x])) rfl ?_)
  refine wpAny_bind (wpAny_of_eq (a := n) rfl ?_)
  refine wpAny_bind (asInt_plain hx hp ?_)
  exact wpAny_bind (wpAny_rule (wpAny_pure h))
theorem dec_sub : Declines "sub" := fun prog w A E s x o n t Q hx hp hq =>
  @wpAny_tryMethod_declines (model prog w) A E s (.int n t) (.ref x) "int" (PySem.dunder "sub") "int.__sub__" Q rfl F.slot_int_sub
    (call_givesAt (m := .val .notImplemented) (P := fun s => s.heap.get? x = some o) F.slot_int_sub (typeIs_int s n t) F.entry_int_sub (F.args_int_sub_2 _ _) (gv_sub hp) hx (And.intro rfl hq))
theorem gv_div {x : Addr} {o : Obj} {n : Int} {t : Tok} (hp : o.data = .plain) : GivesAt (fun s => s.heap.get? x = some o) (Builtin.«int.__truediv__» ⟨[.int n t, .ref x], []⟩) (.val .notImplemented) := by
  intro prog w A R s hx h
  unfold Builtin.«int.__truediv__»
  refine wpAny_bind (wpAny_of_eq (a := (n, [Value.ref x])) rfl ?_)
  refine wpAny_bind (asInt_plain hx hp ?_)
  exact wpAny_pure h
theorem dec_div : Declines "truediv" := fun prog w A E s x o n t Q hx hp hq =>
  @wpAny_tryMethod_declines (model prog w) A E s (.int n t) (.ref x) "int" (PySem.dunder "truediv") "int.__truediv__" Q rfl F.slot_int_truediv
    (call_givesAt (m := .val .notImplemented) (P := fun s => s.heap.get? x = some o) F.slot_int_truediv (typeIs_int s n t) F.entry_int_truediv (F.args_int_truediv_2 _ _) (gv_div hp) hx (And.intro rfl hq))
section
variable {prog : Program} {w : World} {A : Around} {E : Value → Shared → Prop} {s : Shared} {K : Frag} {C C' f fr x y : Addr} {ox : Obj} {od : Option Obj} {a b : Value} {nm : String} {Q : Value → Shared → Prop}
noncomputable abbrev B1 (Q : Value → Shared → Prop) : Option Value → Shared → Prop := fun r s' => ∃ v, r = some v ∧ Q v s'
theorem w_pos {M : Model} {A : Around} {α : Type} {c : Prop} [Decidable c] {x y : Sem α} {Q : α → Shared → Prop} {E : Value → Shared → Prop} {s : Shared} (h : c) (k : wpAny M A x Q E s) : wpAny M A (if c then x else y) Q E s := by rw [if_pos h]; exact k
theorem w_neg {M : Model} {A : Around} {α : Type} {c : Prop} [Decidable c] {x y : Sem α} {Q : α → Shared → Prop} {E : Value → Shared → Prop} {s : Shared} (h : ¬ c) (k : wpAny M A y Q E s) : wpAny M A (if c then x else y) Q E s := by rw [if_neg h]; exact k
theorem b1_oo (X : K.In s.heap) (I : InstAt s.heap x ox C od) (hb : Looks (model prog w) s.heap (typeOf b) (.ref C)) (hc : selfFirst K C = true)
    (hs : findIn K (.ref C) (PySem.dunder nm) = some (some (.ref f))) (hf : isFn K (.ref f) = true) (h : wpAny (model prog w) A (call (.ref f) [.ref x, b]) (PySem.W.CmpBack Q) E s) : wpAny (model prog w) A (binaryOp1 nm (.ref x) b) (B1 Q) E s := by
  refine oEEA (ksp_first hc) ?_; intro cd rest hcd hm
  unfold binaryOp1
  refine wpAny_bind (I.type.here (wpAny_bind (hb.here (wpAny_bind ((fills_K X hcd hm hs).here (w_pos (beq_self_eq_true _) (wpAny_bind (wpAny_pure ?_))))))))
  refine w_neg Bool.false_ne_true (w_neg Bool.false_ne_true (w_neg Bool.false_ne_true (wpAny_bind (wpAny_pure (w_neg Bool.false_ne_true (w_pos rfl ?_))))))
  refine wpAny_bind (wpAny_mono (ksp_try X I hs hf h) (fun r s' hr => ?_) fun _ _ e => e)
  refine oEA hr ?_; clear hr; rintro v rfl hq
  exact wpAny_pure ⟨v, rfl, hq⟩
theorem b1_oi {n : Int} {t : Tok} {ro rc : Option Value} (hfT : fillsNumberSlot (.type "int") nm = pure true) (X : K.In s.heap) (I : InstAt s.heap x ox C od) (hc : selfFirst K C = true)
    (hs : findIn K (.ref C) (PySem.dunder nm) = some (some (.ref f))) (hf : isFn K (.ref f) = true) (hr : findIn K (.ref C) (dunderR nm) = some rc) (hp : rc = none ∨ ∃ g : Addr, rc = some (.ref g))
    (h2 : findIn K (.type "int") (dunderR nm) = some ro) (hsub : subIn K (.type "int") (.ref C) = some false)
    (h : wpAny (model prog w) A (call (.ref f) [.ref x, .int n t]) (PySem.W.CmpBack Q) E s) : wpAny (model prog w) A (binaryOp1 nm (.ref x) (.int n t)) (B1 Q) E s := by
  refine oEEA (ksp_first hc) ?_; intro cd rest hcd hm
  have one := ksp_try X I hs hf h
  have L3 : Looks (model prog w) s.heap (fillsNumberSlot (.ref C) nm) true := fills_K X hcd hm hs
  have L5 : Looks (model prog w) s.heap (isSubtype (.type "int") (.ref C)) false := looks_subIn X hsub
  have L6 : Looks (model prog w) s.heap (numberSlotInPython (.ref C) nm) true := ksp_inPy X hs hr hp
  have L8 : Looks (model prog w) s.heap (typeLookup (.type "int") (dunderR nm)) ro := looks_findIn X h2
  have hne : (Value.ref C == Value.type "int") = false := Bool.eq_false_iff.mpr fun q => by cases beq_iff_eq.mp q
  have hpy : numberSlotInPython (.type "int") nm = pure false := rfl
  unfold binaryOp1
  refine wpAny_bind (I.type.here (wpAny_bind (wpAny_of_eq (a := Value.type "int") rfl (wpAny_bind (L3.here (w_neg (fun q => Bool.false_ne_true (hne.symm.trans q)) (wpAny_bind (wpAny_of_eq hfT ?_))))))))
  refine w_pos rfl (wpAny_bind (L5.here (w_neg Bool.false_ne_true (w_neg Bool.false_ne_true (w_pos rfl (wpAny_bind (L6.here ?_)))))))
  refine w_pos rfl (wpAny_bind (wpAny_of_eq hpy (w_pos rfl (wpAny_bind (L8.here (w_pos rfl ?_))))))
  refine wpAny_bind (wpAny_mono one (fun r s' hr => ?_) fun _ _ e => e)
  refine oEA hr ?_; clear hr; rintro v rfl hq
  exact wpAny_pure ⟨v, rfl, hq⟩
theorem b1_io {n : Int} {t : Tok} (dc : Declines nm) (hfT : fillsNumberSlot (.type "int") nm = pure true) (X : K.In s.heap) (I : InstAt s.heap x ox C od) (hpl : ox.data = .plain) (hc : selfFirst K C = true)
    (h0 : findIn K (.ref C) (PySem.dunder nm) = some (some (.ref fr))) (hs : findIn K (.ref C) (dunderR nm) = some (some (.ref f))) (hf : isFn K (.ref f) = true) (hsub : subIn K (.ref C) (.type "int") = some false)
    (h : wpAny (model prog w) A (call (.ref f) [.ref x, .int n t]) (PySem.W.CmpBack Q) E s) : wpAny (model prog w) A (binaryOp1 nm (.int n t) (.ref x)) (B1 Q) E s := by
  refine oEEA (ksp_first hc) ?_; intro cd rest hcd hm
  have one := ksp_try X I hs hf h
  have L1 : Looks (model prog w) s.heap (typeOf (.ref x)) (.ref C) := I.type
  have L3 : Looks (model prog w) s.heap (fillsNumberSlot (.ref C) nm) true := fills_K X hcd hm h0
  have L5 : Looks (model prog w) s.heap (isSubtype (.ref C) (.type "int")) false := looks_subIn X hsub
  have hne : (Value.type "int" == Value.ref C) = false := Bool.eq_false_iff.mpr fun q => by cases beq_iff_eq.mp q
  unfold binaryOp1
  have hpy : numberSlotInPython (.type "int") nm = pure false := rfl
  refine wpAny_bind (wpAny_of_eq (a := Value.type "int") rfl (wpAny_bind (L1.here (wpAny_bind (wpAny_of_eq hfT (w_neg (fun q => Bool.false_ne_true (hne.symm.trans q)) (wpAny_bind (L3.here ?_))))))))
  refine w_pos rfl (wpAny_bind (L5.here (w_neg Bool.false_ne_true (w_neg Bool.false_ne_true (w_pos rfl (wpAny_bind (wpAny_of_eq hpy ?_)))))))
  refine w_neg Bool.false_ne_true (w_pos rfl (wpAny_bind (dc _ _ _ _ _ _ _ _ _ _ I.at_ hpl (w_neg Bool.false_ne_true (w_pos rfl ?_)))))
  refine wpAny_bind (wpAny_mono one (fun r s' hr' => ?_) fun _ _ e => e)
  refine oEA hr' ?_; clear hr'; rintro v rfl hq
  exact wpAny_bind (wpAny_rule (wpAny_pure ⟨v, rfl, hq⟩))
theorem bin_b1 {op : Operator} (h : wpAny (model prog w) A (binaryOp1 op.info.2 a b) (B1 Q) E s) : wpAny (model prog w) A (binaryOp op a b) Q E s := by
  rcases hi : op.info with ⟨sym, nm'⟩
  rw [hi] at h
  simp only [binaryOp, hi]
  refine wpAny_holding (wpAny_bind (wpAny_mono h (fun r s' hr => ?_) fun _ _ e => e))
  refine oEA hr ?_; clear hr; rintro v rfl hq
  exact wpAny_pure hq
theorem inp_b1 {op : Operator} {ta : Value} (ht : Looks (model prog w) s.heap (typeOf a) ta) (hno : Looks (model prog w) s.heap (fillsInplaceSlot ta op.info.2 (op == .Add)) false) (h : wpAny (model prog w) A (binaryOp1 op.info.2 a b) (B1 Q) E s) : wpAny (model prog w) A (inplaceOp op a b) Q E s := by
  unfold inplaceOp
  refine wpAny_holding (wpAny_bind (ht.here (wpAny_bind (hno.here ?_))))
  simp only [Bool.false_eq_true, if_false]
  refine wpAny_bind (wpAny_mono h (fun r s' hr => ?_) fun _ _ e => e)
  refine oEA hr ?_; clear hr; rintro v rfl hq
  exact wpAny_pure hq
theorem noI_anyM {M : Model} {h : Heap} (X : K.In h) {i : Str} (g : Value → Value → Sem Bool) : ∀ {l : List Value}, (l.all fun c => findIn K c i == some none) = true → Looks M h (l.anyM fun c => do
    let some x ← typeLookup c i | return false
    g c x) false
  | [], _ => .now
  | c :: r, e => by
    rw [List.all_cons, Bool.and_eq_true] at e
    rw [List.anyM_cons]
    refine Looks.andThen (a := false) ((looks_findIn X (beq_iff_eq.mp e.1)).andThen .now) ?_
    exact noI_anyM X g e.2
set_option tactic.hygienic true in
theorem fillsI_no {M : Model} {h : Heap} {add : Bool} (X : K.In h) (hn : noI K C (dunderI nm) = true) : Looks M h (fillsInplaceSlot (.ref C) nm add) false := by
  unfold noI at hn
  split at hn
  · rename_i cd hcd
    have Lm : Looks M h (mroOf (.ref C)) cd.mro := (looks_clsIn X hcd).andThen (f := fun cd => pure cd.mro) .now
    unfold fillsInplaceSlot
    exact Lm.andThen (noI_anyM X _ hn)
  · cases hn
theorem fillsI_int {M : Model} {h : Heap} {add : Bool} (hn : typeLookup (.type "int") (dunderI nm) = pure none) : Looks M h (fillsInplaceSlot (.type "int") nm add) false := by
  unfold fillsInplaceSlot
  refine Looks.of_pure ?_
  simp only [hn]
  rfl
end
end
section
section
variable {K : Params → Frag} {prog : Program} {w : World} {p : Program} {loose : List Str} {mg mb : Str → Option Value} {X : Fc} {cx : Cx} {A : Around} {O : AP} {as : List Addr} {st : St} {s : Shared}
theorem Inv.orc (I : Inv X cx O as st s) (o : List Bool) : Inv X cx O as { st with orc := o } s := ⟨I.wd, I.ref, I.reft, I.gs, I.sub, I.LO, I.LR, I.LT, I.above, I.ns, I.cells, I.own⟩
theorem callF_sn (F : Fok K prog w p loose mg mb X cx) (ah : A.handled = none) (ad : A.depth ≤ cx.D) (au : A.units ≤ cx.U) (I : Inv X cx O as st s) {f : Nat} {ds : List Dat} {vs : List Value} {k : KD} {Q : Value → Shared → Prop} (h : callF cx f ds st k) (rl : RL (Dt s.heap O) ds vs) (P : PostD X cx k O as s Q) :
    wpAny (model prog w) A (call (.ref f) vs) (PySem.W.CmpBack Q) NoE s := by
  refine oJ_k h ?_; clear h; rintro c hc h
  refine gd_k h ?_; clear h; rintro hb h
  obtain rfl : c.f = f := Nat.eq_of_beq_eq_true (by have := List.find?_some hc; exact this)
  refine oA (Bool.and_eq_true_iff.mp hb) ?_; intro h1 h2
  refine weaken ah (Nat.le_trans ad (Nat.le_of_ble_eq_true h1)) (Nat.le_trans au (Nat.le_of_ble_eq_true h2)) (F.gam c (List.mem_of_find?_eq_some hc) prog w p loose mg mb X.g O s ds vs st.orc _ _ NoE F.base F.last I.wd rl h fun d o r s' hk kt gs tb rr => ?_)
  exact rr.back (P d _ r s' O as hk ((I.kt kt gs tb).orc o) (I.wd.ex kt) rr)
theorem callF_snd (F : Fok K prog w p loose mg mb X cx) (a : AOk A cx) (I : Inv X cx O as st s) {f : Nat} {ds : List Dat} {vs : List Value} {k : KD} {Q : Value → Shared → Prop} (h : callF cx f ds st k) (rl : RL (Dt s.heap O) ds vs) (P : PostD X cx k O as s Q) :
    wpAny (model prog w) A (call (.ref f) vs) (PySem.W.CmpBack Q) NoE s := callF_sn F a.h a.d a.u I h rl P
theorem back_off {M : Model} {t : Sem Value} {Q : Value → Shared → Prop} {E : Value → Shared → Prop} (h : wpAny M A t (PySem.W.CmpBack Q) E s) : wpAny M A t Q E s := wpAny_mono h (fun v s' hv => by
  cases v <;> first | exact hv.elim | exact hv) fun _ _ e => e
theorem dund_eq {op : Operator} {n : Nat} (h : opN op = n) (hn : n = 0 ∨ n = 1 ∨ n = 2 ∨ n = 5 ∨ n = 6) : op.info.2 = nmOf n ∧ dund n = PySem.dunder (nmOf n) ∧ fillsNumberSlot (.type "int") (nmOf n) = pure true := by
  rcases hn with rfl | rfl | rfl | rfl | rfl
  · obtain rfl : op = .Add := opN_inj h (by decide); exact ⟨rfl, by decide +kernel, F.fills_int_add⟩
  · obtain rfl : op = .Sub := opN_inj h (by decide); exact ⟨rfl, by decide +kernel, F.fills_int_sub⟩
  · obtain rfl : op = .Mult := opN_inj h (by decide); exact ⟨rfl, by decide +kernel, F.fills_int_mul⟩
  · obtain rfl : op = .Div := opN_inj h (by decide); exact ⟨rfl, by decide +kernel, F.fills_int_truediv⟩
  · obtain rfl : op = .Pow := opN_inj h (by decide); exact ⟨rfl, by decide +kernel, F.fills_int_pow⟩
theorem dundR_eq {n : Nat} (hn : n = 1 ∨ n = 2 ∨ n = 5) : dundR n = dunderR (nmOf n) ∧ Declines (nmOf n) := by
  rcases hn with rfl | rfl | rfl
  · exact ⟨by decide +kernel, dec_sub⟩
  · exact ⟨by decide +kernel, dec_mul⟩
  · exact ⟨by decide +kernel, dec_div⟩
theorem mth_empty (C : Nat) : mth C "" = none := by
  unfold mth
  split <;> first | rfl | decide +kernel
theorem mth_dund {C n f : Nat} (h : mth C (dund n) = some f) : n = 0 ∨ n = 1 ∨ n = 2 ∨ n = 5 ∨ n = 6 := by
  unfold dund at h
  split at h <;> first | (simp; done) | (rw [mth_empty] at h; cases h)
theorem mth_dundR {C n f : Nat} (h : mth C (dundR n) = some f) : n = 1 ∨ n = 2 ∨ n = 5 := by
  unfold dundR at h
  split at h <;> first | (simp; done) | (rw [mth_empty] at h; cases h)
theorem binO_snd (F : Fok K prog w p loose mg mb X cx) (a : AOk A cx) (I : Inv X cx O as st s) {op : Operator} {d e : Dat} {u v : Value} {k : KD} {Q : Value → Shared → Prop} (h : binO cx (opN op) d e st k) (rd : R (Dt s.heap O) d u) (re : R (Dt s.heap O) e v) (P : PostD X cx k O as s Q) :
    wpAny (model prog w) A (binaryOp1 op.info.2 u v) (B1 Q) NoE s := by
  have XK := F.base.X.keeps I.wd.keep
  generalize hn : opN op = n at h
  refine oo_k h ?_ ?_ <;> clear h
  · intro C k1 h
    refine oJ_k h ?_; clear h; rintro f hm h
    have hN := mth_dund hm
    refine oAA (dund_eq hn hN) ?_; intro e1 e2 e3
    refine oAA (F.kok.mt _ _ _ hm) ?_; intro f1 f2 _
    refine oEEEEAAA (rd.inst k1) ?_; rintro x dx es m rfl J hC _
    rw [e1]
    rw [e2] at f1
    refine oo_k h ?_ ?_ <;> clear h
    · intro C' k2 h
      refine gd_k h ?_; clear h; rintro hb h
      refine oEEEEAA (re.inst k2) ?_; rintro y dy es' m' rfl J' _
      obtain rfl := Nat.eq_of_beq_eq_true hb
      exact b1_oo XK J J'.type (F.kok.cl _ hC).1 f1 f2 (callF_snd F a I h (.cn rd (.cn re .nl)) P)
    · intro k2 h
      refine oJ_k h ?_; clear h; rintro z hb h
      refine oAE (intOf_R hb re) ?_; rintro _ t rfl
      refine oAE (F.kok.op _ _ hC hN) ?_; rintro ⟨rc, g1, g2⟩ ro g3
      refine oAAAAA (F.kok.cl _ hC) ?_; intro c1 c2 c3 c4 c5 c6
      exact b1_oi e3 XK J c1 f1 f2 g1 g2 g3 c5 (callF_snd F a I h (.cn rd (.cn re .nl)) P)
  · intro k1 h
    refine oJ_k h ?_; clear h; rintro C k2 h
    refine oJ_k h ?_; clear h; rintro z hb h
    refine oJ_k h ?_; clear h; rintro f hm h
    have hN := mth_dundR hm
    refine oAA (dund_eq hn (hN.elim (fun q => .inr (.inl q)) fun q => q.elim (fun q => .inr (.inr (.inl q))) fun q => .inr (.inr (.inr (.inl q))))) ?_; intro e1 e2 e3
    refine oA (dundR_eq hN) ?_; intro e4 e5
    refine oAA (F.kok.mt _ _ _ hm) ?_; intro f1 f2 _
    refine oEEEEAAA (re.inst k2) ?_; rintro x dx es m rfl J hC _
    refine oAE (intOf_R hb rd) ?_; rintro _ t rfl
    refine oE (F.kok.ro _ _ _ hm hN) ?_; intro fr g1
    refine oAAAAA (F.kok.cl _ hC) ?_; intro c1 c2 c3 c4 c5 c6
    rw [e1]
    rw [e4] at f1
    rw [e2] at g1
    exact b1_io e5 e3 XK J rfl c1 g1 f1 f2 c6 (callF_snd F a I h (.cn re (.cn rd .nl)) P)
set_option tactic.hygienic true in
theorem binI_snd (F : Fok K prog w p loose mg mb X cx) (a : AOk A cx) (I : Inv X cx O as st s) {op : Operator} {d e : Dat} {u v : Value} {k : KD} {Q : Value → Shared → Prop} (h : binI cx (opN op) d e st k) (rd : R (Dt s.heap O) d u) (re : R (Dt s.heap O) e v) (P : PostD X cx k O as s Q) :
    wpAny (model prog w) A (inplaceOp op u v) Q NoE s := by
  have XK := F.base.X.keeps I.wd.keep
  refine bb_k h ?_ ?_ <;> clear h
  rotate_left
  · exact fun _ h => oJ_k h fun r e h => iarith_snd e rd re fun z rz => P _ _ _ _ _ _ h (I.toks _) (Ex.toks _) rz
  intro _ h
  refine gd_k h ?_; clear h; rintro hb h
  refine oA (Bool.and_eq_true_iff.mp hb) ?_; intro h1 h2
  have h1 : opN op < 2 := Nat.le_of_ble_eq_true h1
  have b1 := binO_snd F a I h rd re P
  have hop : op = .Add ∨ op = .Sub := by cases op <;> first | exact .inl rfl | exact .inr rfl | exact absurd h1 (by decide)
  clear hb h1 h
  unfold inpOk at h2
  split at h2
  · rename_i C hk
    obtain rfl := Nat.eq_of_beq_eq_true h2
    refine oEEEEAA (rd.inst hk) ?_; rintro x dx es m rfl J _
    refine inp_b1 J.type (fillsI_no XK ?_) b1
    rcases hop with rfl | rfl
    · exact F.kok.noi.1
    · exact F.kok.noi.2
  · refine oE (Option.isSome_iff_exists.mp h2) ?_; rintro ⟨n, B⟩ hi
    refine oAE (intOf_R hi rd) ?_; rintro _ t rfl
    refine inp_b1 (ta := .type "int") (Looks.of_pure rfl) (fillsI_int ?_) b1
    rcases hop with rfl | rfl
    · exact PySem.F.noI_int_add
    · exact PySem.F.noI_int_sub
end
end
section
section
variable {K : Params → Frag} {prog : Program} {w : World} {p : Program} {loose : List Str} {mg mb : Str → Option Value} {X : Fc} {cx : Cx} {A : Around} {O : AP} {as : List Addr} {st : St} {s : Shared}
theorem thou {n : Nat} (h : Nat.ble n 1000 = true) : n ≤ 1000 := Nat.le_of_ble_eq_true h
theorem line_eq : sizeLine = 16777216 := by decide
theorem newL_snd {l : List Dat} {k : KV} (h : newL l st k) (I : Inv X cx O as st s) {vs : List Value} (rl : RL (Dt s.heap O) l vs) {Q : Value → Shared → Prop} (P : PostE X cx k O as s Q) (t : Tok) :
    Q (.ref s.heap.objs.size) { s with heap := s.heap.push (lstN vs 0), toks := t } := by
  refine gd_k h ?_; clear h; rintro _ h
  refine oA (I.newOwn (n := 0) rl t) ?_; intro J x
  exact P _ _ _ _ _ _ h J x ⟨_, by rw [← I.own.len, List.getElem?_append_right (Nat.le_refl _)]; simp, rfl⟩
theorem newL_len {l : List Dat} {k : KV} (h : newL l st k) : l.length ≤ 1000 := gd_k h fun e _ => thou e
theorem tup_snd {l : List Dat} {k : KV} (h : k (.d (.tup l)) st) (I : Inv X cx O as st s) {vs : List Value} (rl : RL (Dt s.heap O) l vs) {Q : Value → Shared → Prop} (P : PostE X cx k O as s Q) (t : Tok) :
    Q (.ref s.heap.objs.size) { s with heap := s.heap.push (tupN vs 0), toks := t } :=
  P _ _ _ _ _ _ h (I.push _ t) (I.exPush _ t) (R.tup (n := 0) (I.wd.pushDt _ rfl) (rl.ex (I.exPush (tupN vs 0) t)))
theorem rep_flat : ∀ (n : Nat) (vs : List Value), (List.foldl (fun x1 x2 => x1 ++ x2) (#[] : Array Value) (List.replicate (if vs.toArray.isEmpty = true then 0 else n) vs.toArray)) = ((List.replicate n vs).flatten).toArray := by
  intro n vs
  have key : ∀ (k : Nat) (acc : List Value), List.foldl (fun x1 x2 => x1 ++ x2) acc.toArray (List.replicate k vs.toArray) = (acc ++ (List.replicate k vs).flatten).toArray := by
    intro k
    induction k with
    | zero => intro acc; simp
    | succ k ih => intro acc; rw [List.replicate_succ, List.foldl_cons, List.append_toArray, ih, List.replicate_succ, List.flatten_cons, List.append_assoc]
  by_cases h : vs = []
  · subst h
    simp
  · have : vs.toArray.isEmpty = false := by cases vs with | nil => exact absurd rfl h | cons a r => rfl
    rw [this]
    simp only [Bool.false_eq_true, if_false]
    have := key n []
    simpa using this
theorem RL.rep {φ : Fm} {l : List Dat} {vs : List Value} (h : RL φ l vs) : ∀ n : Nat, RL φ (List.replicate n l).flatten (List.replicate n vs).flatten
  | 0 => by simp; exact .nl
  | n + 1 => by rw [List.replicate_succ, List.replicate_succ, List.flatten_cons, List.flatten_cons]; exact h.append (RL.rep h n)
theorem mul_l {l : Addr} {vs : List Value} {n : Nat} {x : Int} {u : Tok} {Q : Value → Shared → Prop} {E : Value → Shared → Prop} (hl : s.heap.get? l = some (lstN vs n)) (h0 : 0 ≤ x) (h1 : x < 100) (h2 : vs.length ≤ 1000)
    (h : Q (.ref s.heap.objs.size) { s with heap := s.heap.push (lstN (List.replicate x.toNat vs).flatten 0) }) : wpAny (model prog w) A (binaryOp .Mult (.ref l) (.int x u)) Q E s := by
  have hz : vs.toArray.size * x.toNat ≤ 1000 * 100 := Nat.mul_le_mul (by rw [List.size_toArray]; exact h2) (by omega)
  have m1 := AutoListH.list___mul___list_int_3 l vs.toArray n x u (by simp [Builtin.List.listFitsIndex]; omega) (by omega) (by simp only [Builtin.List.listTooLong, line_eq]; simp; simp at hz; omega)
  have inner : wpAny (model prog w) A (call (.builtin "list.__mul__") [.ref l, .int x u]) Q E s := by
    refine call_meets PySem.F.slot_list_mul ⟨_, hl, rfl⟩ PySem.F.entry_list_mul (PySem.F.args_list_mul_2 _ _) m1 ⟨hl, ?_⟩
    rw [rep_flat]
    exact h
  refine wpAny_binaryOp_repeat_ref (T := "list") (U := "int") (by decide) ⟨_, hl, rfl⟩ (fun s' => typeIs_int s' x u) noFill_list_mul PySem.F.fills_int_mul PySem.F.slot_int_rmul repeat_list PySem.F.slot_int_index.lookup ?_
  exact call_meets PySem.F.slot_int_rmul (typeIs_int s x u) PySem.F.entry_int_rmul (PySem.F.args_int_rmul_2 _ _) (int___rmul___int_list x u l vs.toArray n) ⟨hl, rfl, ⟨_, hl, rfl⟩, inner⟩
theorem ne_emp {α : Type} {l : List α} (h : 0 < l.length) : ¬ l.toArray.isEmpty = true := by cases l <;> first | cases h | simp
theorem binD_snd (F : Fok K prog w p loose mg mb X cx) (a : AOk A cx) (I : Inv X cx O as st s) {op : Operator} {d e : Dat} {u v : Value} {k : KV} {Q : Value → Shared → Prop} (h : binD cx (opN op) d e st k) (rd : R (Dt s.heap O) d u) (re : R (Dt s.heap O) e v) (P : PostE X cx k O as s Q) :
    wpAny (model prog w) A (binaryOp op u v) Q NoE s := by
  refine bb_k h ?_ ?_ <;> clear h
  · intro _ h
    exact bin_b1 (binO_snd F a I h rd re fun d' st' u' s' O' as' h1 h2 h3 h4 => P _ _ _ _ _ _ h1 h2 h3 h4)
  · intro _ h
    have gen : binG (opN op) d e st k → wpAny (model prog w) A (binaryOp op u v) Q NoE s := fun h => by
      refine oJ_k h ?_; clear h; rintro r e h
      exact arith_snd e rd re fun z rz => P _ _ _ _ _ _ h (I.toks _) (Ex.toks _) rz
    refine nE_k h ?_ ?_ <;> clear h
    · intro hn h
      obtain rfl : op = .Add := opN_inj hn (by decide)
      refine oS_k h ?_ ?_ <;> clear h
      · rintro l rfl h
        refine dS_k h ?_; clear h; rintro l' rfl h
        have hl := newL_len h
        obtain ⟨x, n1, vs, rfl, hx, r1⟩ := rd
        obtain ⟨y, n2, us, rfl, hy, r2⟩ := re
        have e1 := r1.length
        have e2 := r2.length
        rw [List.length_append] at hl
        refine PySem.P.add_list hx.1 hy.1 ?_ (by rw [List.size_toArray, List.size_toArray, line_eq]; omega)
        rw [List.append_toArray]
        exact newL_snd h I (r1.append r2) P s.toks
      intro h
      refine oT_k h ?_ ?_ <;> clear h
      · rintro l rfl h
        refine dT_k h ?_; clear h; rintro l' rfl h
        refine gd_k h ?_; clear h; rintro z1 h
        refine gd_k h ?_; clear h; rintro z2 h
        refine gd_k h ?_; clear h; rintro hl h
        have hl := thou hl
        have z1 : 0 < l.length := Nat.le_of_ble_eq_true z1
        have z2 : 0 < l'.length := Nat.le_of_ble_eq_true z2
        obtain ⟨x, n1, vs, rfl, hx, r1⟩ := rd
        obtain ⟨y, n2, us, rfl, hy, r2⟩ := re
        have e1 := r1.length
        have e2 := r2.length
        refine PySem.P.add_tuple hx.1 hy.1 (ne_emp (by omega)) (ne_emp (by omega)) ?_ (by rw [List.size_toArray, List.size_toArray, line_eq]; omega)
        rw [List.append_toArray]
        exact tup_snd h I (r1.append r2) P s.toks
      · intro h
        exact gen h
    intro h
    refine nE_k h ?_ ?_ <;> clear h
    · intro hn h
      obtain rfl : op = .Mult := opN_inj hn (by decide)
      refine oS_k h ?_ ?_ <;> clear h
      · rintro l0 rfl h
        refine dL_k h ?_; clear h; rintro n0 rfl h
        refine gd_k h ?_; clear h; rintro hl h
        refine oA (Bool.and_eq_true_iff.mp hl) ?_; intro h12 h3
        refine oA (Bool.and_eq_true_iff.mp h12) ?_; intro h1 h2
        have h1 := of_decide_eq_true h1
        have h2 := of_decide_eq_true h2
        have h3 := thou h3
        obtain ⟨x, n1, vs, rfl, hx, r1⟩ := rd
        refine oE re ?_; clear re; rintro t rfl
        have e1 := r1.length
        exact mul_l hx.1 h1 h2 (by omega) (newL_snd h I (r1.rep _) P s.toks)
      · intro h
        exact gen h
    intro h
    refine nE_k h ?_ ?_ <;> clear h
    · intro hn h
      obtain rfl : op = .Mod := opN_inj hn (by decide)
      refine oI_k h ?_ ?_ <;> clear h
      · rintro y B rfl h
        refine oJ_k h ?_; clear h; rintro ⟨x, A0⟩ ha ⟨p0, h⟩
        refine oAE (intOf_R ha rd) ?_; rintro h1 t1 rfl
        refine oAE re ?_; clear re; rintro h2 t2 rfl
        refine mod_int' (Int.ne_of_gt p0) (P _ _ _ _ _ _ h (I.toks _) (Ex.toks _) ?_)
        rw [fmod_pos p0]
        show R (Dt s.heap O) (.int _ _) _
        exact R.int (emod_abs p0 h2)
      · intro h
        exact gen h
    intro h
    refine nE_k h ?_ ?_ <;> clear h
    · intro hn h
      obtain rfl : op = .FloorDiv := opN_inj hn (by decide)
      refine oI_k h ?_ ?_ <;> clear h
      · rintro y B rfl h
        refine oJ_k h ?_; clear h; rintro ⟨x, A0⟩ ha ⟨⟨p0, p1⟩, h⟩
        refine oAE (intOf_R ha rd) ?_; rintro h1 t1 rfl
        refine oAE re ?_; clear re; rintro h2 t2 rfl
        refine floordiv_int (Int.ne_of_gt p0) (P _ _ _ _ _ _ h (I.toks _) (Ex.toks _) ?_) (.inl (PyProof.noPylong_small (by omega)))
        rw [fdiv_pos p0]
        show R (Dt s.heap O) (.int _ _) _
        exact R.int (ediv_abs p0 h1)
      · intro h
        exact gen h
    · intro h
      exact gen h
end
end
section
mutual
theorem reads_of {h : Heap} {O : AP} : ∀ (d : Dat) {x : PyData} {v : Value}, toPy d = some x → R (Dt h O) d v → ∃ as, Reads h v x as
  | .lit n, x, v, e, ⟨t, r⟩ => by subst r; cases e; exact ⟨_, .int _ _⟩
  | .int n B, x, v, e, ⟨_, t, r⟩ => by subst r; cases e; exact ⟨_, .int _ _⟩
  | .prm n, x, v, e, ⟨_, t, r⟩ => by subst r; cases e; exact ⟨_, .int _ _⟩
  | .bool b, x, v, e, r => by obtain rfl := r; cases e; exact ⟨_, .bool _⟩
  | .sb b, x, v, e, r => by obtain rfl := r; cases e; exact ⟨_, .bool _⟩
  | .none, x, v, e, r => by obtain rfl := r; cases e; exact ⟨_, .none⟩
  | .tup l, x, v, e, ⟨a, n, vs, q, h1, h2⟩ => by
    subst q
    refine oM_k e fun l' e' e => ?_
    refine oE (readsAll_of l e' h2) ?_; intro as h3
    cases e
    exact ⟨as, .tuple h1.1 rfl rfl (by simpa using h3)⟩
  | .rf _, _, _, e, _ | .bi _, _, _, e, _ | .fq _ _, _, _, e, _ | .fqp _ _ _, _, _, e, _ | .fq2 _ _ _, _, _, e, _ | .ob _ _ _ _, _, _, e, _ | .lst _, _, _, e, _ => no_some e
theorem readsAll_of {h : Heap} {O : AP} : ∀ (l : List Dat) {xs : List PyData} {vs : List Value}, toPyL l = some xs → RL (Dt h O) l vs → ∃ as, ReadsAll h vs xs as
  | [], xs, vs, e, r => by obtain rfl := r.get0; cases e; exact ⟨_, .nil⟩
  | d :: l, xs, vs, e, ⟨v, us, q, r1, r2⟩ => by
    subst q
    refine oM_k e fun x e1 e => oM_k e fun l' e2 e => ?_
    refine oE (reads_of d e1 r1) ?_; intro as h1
    refine oE (readsAll_of l e2 r2) ?_; intro bs h2
    cases e
    exact ⟨_, .cons h1 h2⟩
end
noncomputable def cmOf : Nat → CmpOp
  | 0 => .Eq | 1 => .NotEq | 2 => .Lt | 3 => .LtE | 4 => .Gt | 5 => .GtE | 6 => .Is | _ => .IsNot
noncomputable def boolOf : Dat → Option Bool
  | .bool b => some b
  | .sb b => some b
  | _ => none
theorem R.ofB {φ : Fm} {d : Dat} {b : Bool} (h : boolOf d = some b) : R φ d (.bool b) := by
  cases d <;> first | (cases h; rfl) | cases h
section
variable {K : Params → Frag} {prog : Program} {w : World} {p : Program} {loose : List Str} {mg mb : Str → Option Value} {X : Fc} {cx : Cx} {A : Around} {O : AP} {as : List Addr} {st : St} {s : Shared}
theorem cmpN_inj {op : CmpOp} {n : Nat} (h : cmpN op = n) (hn : n < 8) : op = cmOf n := by
  subst h
  cases op <;> first | rfl | exact absurd hn (by decide)
theorem cmpI_snd {op : CmpOp} {a b d : Dat} {u v : Value} {φ : Fm} {Q : Value → Shared → Prop} {E : Value → Shared → Prop} {n : Nat} (hn : cmpN op = n) (h : cmpI n a b = some d) (ra : R φ a u) (rb : R φ b v) (k : ∀ r, R φ d r → Q r s) : wpAny (model prog w) A (compareOp op u v) Q E s := by
  refine oM_k h ?_; clear h; rintro x ha h
  refine oM_k h ?_; clear h; rintro y hb h
  refine oM_k h ?_; clear h; rintro r e h
  refine oAE (intOf_R ha ra) ?_; rintro h1 t1 rfl
  refine oAE (intOf_R hb rb) ?_; rintro h2 t2 rfl
  have q := k (.bool r) (by cases h; cases isLit a && isLit b <;> rfl)
  clear k h h1 h2 ha hb ra rb
  match n, hn, e with
  | 0, hn, e => cases e; obtain rfl : op = .Eq := cmpN_inj hn (by decide); exact eq_int q
  | 1, hn, e => cases e; obtain rfl : op = .NotEq := cmpN_inj hn (by decide); exact ne_int q
  | 2, hn, e => cases e; obtain rfl : op = .Lt := cmpN_inj hn (by decide); exact lt_int q
  | 3, hn, e => cases e; obtain rfl : op = .LtE := cmpN_inj hn (by decide); exact le_int q
  | 4, hn, e => cases e; obtain rfl : op = .Gt := cmpN_inj hn (by decide); exact gt_int q
  | 5, hn, e => cases e; obtain rfl : op = .GtE := cmpN_inj hn (by decide); exact ge_int q
  | _ + 6, _, e => cases e
theorem isNone_R {φ : Fm} {d : Dat} {b : Bool} {v : Value} (h : isNone d = some b) (r : R φ d v) : (v == .none) = b := by
  cases d <;> first
    | (refine oE r ?_; clear r; rintro t rfl; cases h; rfl)
    | (refine oAE r ?_; clear r; rintro _ t rfl; cases h; rfl)
    | (subst r; cases h; rfl)
    | (obtain ⟨_, _, _, _, _, _, _, _, rfl, _⟩ := r; cases h; rfl)
    | (obtain ⟨_, _, _, _, _, _, _, _, _, _, _, _, _, _, _, _, _, _, _, _, rfl, _⟩ := r; cases h; rfl)
    | (obtain ⟨_, _, _, _, _, _, _, _, _, _, _, _, _, _, _, _, _, _, _, _, _, _, _, _, _, _, _, _, rfl, _⟩ := r; cases h; rfl)
    | (obtain ⟨_, _, _, _, _, _, rfl, _⟩ := r; cases h; rfl)
    | (obtain ⟨_, _, _, rfl, _⟩ := r; cases h; rfl)
    | cases h
theorem eqD_snd {neg : Bool} {a b d : Dat} {u v : Value} (h : eqD neg a b = some d) (ra : R (Dt s.heap O) a u) (rb : R (Dt s.heap O) b v) : ∃ x y as bs, Reads s.heap u x as ∧ Reads s.heap v y bs ∧ PySem.SeqAt.shaped x = true ∧ PySem.SeqAt.shaped y = true ∧ ∀ φ : Fm, R φ d (.bool (xor neg (PyData.eqv x y))) := by
  refine oM_k h ?_; clear h; rintro x ea h
  refine oM_k h ?_; clear h; rintro y eb h
  refine oE (reads_of a ea ra) ?_; intro as r1
  refine oE (reads_of b eb rb) ?_; intro bs r2
  refine oA (oB_x h) ?_; intro hs h
  refine oA (Bool.and_eq_true_iff.mp hs) ?_; intro s1 s2
  exact ⟨x, y, as, bs, r1, r2, s1, s2, fun φ => by cases h; cases isNn a || isNn b <;> rfl⟩
theorem isNot_bool {M : Model} {c d : Bool} {Q : Value → Shared → Prop} {E : Value → Shared → Prop} (h : Q (.bool (!(c == d))) s) : wpAny M A (compareOp .IsNot (.bool c) (.bool d)) Q E s := by
  refine wpAny_of_eq (a := .bool (!(c == d))) ?_ h
  cases c <;> cases d <;> rfl
theorem cmpIs_snd {neg : Bool} {a b d : Dat} {u v : Value} {Q : Value → Shared → Prop} {E : Value → Shared → Prop} {φ : Fm} (h : cmpIs neg a b = some d) (ra : R φ a u) (rb : R φ b v) (k : ∀ r, R φ d r → Q r s) : wpAny (model prog w) A (compareOp (bI neg .IsNot .Is) u v) Q E s := by
  cases b with
  | none =>
    refine oM_k h ?_; clear h; rintro r e h
    obtain rfl := rb
    cases h
    have q := k (.bool (bI neg (!r) r)) rfl
    rw [← isNone_R e ra] at q
    cases neg <;> first | exact is_none q | exact isNot_none q
  | bool y =>
    obtain rfl := rb
    cases a with
    | bool x => obtain rfl := ra; cases h; have q := k _ rfl; clear k; cases neg <;> first | exact is_bool q | exact isNot_bool q
    | sb x => obtain rfl := ra; cases h; have q := k _ rfl; clear k; cases neg <;> first | exact is_bool q | exact isNot_bool q
    | _ => cases h
  | _ => cases h
theorem cmpP_snd {op : CmpOp} {a b d : Dat} {u v : Value} {Q : Value → Shared → Prop} {E : Value → Shared → Prop} (hu : A.units + 64 < cLine) (h : cmpP (cmpN op) a b = some d) (ra : R (Dt s.heap O) a u) (rb : R (Dt s.heap O) b v) (k : ∀ r, R (Dt s.heap O) d r → Q r s) :
    wpAny (model prog w) A (compareOp op u v) Q E s := by
  generalize hn : cmpN op = n at h
  match n, hn, h with
  | 0, hn, h =>
    rcases oEl_x h with e | h
    · exact cmpI_snd hn e ra rb k
    · obtain rfl : op = .Eq := cmpN_inj hn (by decide)
      refine oEEEEAAAA (eqD_snd h ra rb) ?_; intro x y as bs r1 r2 s1 s2 rd
      exact eq_dataH r1 r2 s1 s2 hu (k _ (by have := rd (Dt s.heap O); rwa [Bool.false_xor] at this))
  | 1, hn, h =>
    rcases oEl_x h with e | h
    · exact cmpI_snd hn e ra rb k
    · obtain rfl : op = .NotEq := cmpN_inj hn (by decide)
      refine oEEEEAAAA (eqD_snd h ra rb) ?_; intro x y as bs r1 r2 s1 s2 rd
      exact ne_dataH r1 r2 s1 s2 hu (k _ (by have := rd (Dt s.heap O); rwa [Bool.true_xor] at this))
  | 2, hn, h => exact cmpI_snd hn h ra rb k
  | 3, hn, h => exact cmpI_snd hn h ra rb k
  | 4, hn, h => exact cmpI_snd hn h ra rb k
  | 5, hn, h => exact cmpI_snd hn h ra rb k
  | 6, hn, h => obtain rfl : op = .Is := cmpN_inj hn (by decide); exact cmpIs_snd (neg := false) h ra rb k
  | 7, hn, h => obtain rfl : op = .IsNot := cmpN_inj hn (by decide); exact cmpIs_snd (neg := true) h ra rb k
  | _ + 8, _, h => cases h
theorem cmpD_snd (F : Fok K prog w p loose mg mb X cx) (a : AOk A cx) (I : Inv X cx O as st s) {op : CmpOp} {d e : Dat} {u v : Value} {k : KD} {Q : Value → Shared → Prop} (h : cmpD cx (cmpN op) d e st k) (rd : R (Dt s.heap O) d u) (re : R (Dt s.heap O) e v) (P : PostD X cx k O as s Q) :
    wpAny (model prog w) A (compareOp op u v) Q NoE s := by
  have hu : A.units + 64 < cLine := Nat.lt_of_le_of_lt (Nat.add_le_add a.u (by decide)) a.ul
  have XK := F.base.X.keeps I.wd.keep
  refine oo_k h ?_ ?_ <;> clear h
  · intro C hk h
    refine oA (oB_x hk) ?_; intro hb hk
    have ho : op = .Eq ∨ op = .NotEq := by cases op <;> first | exact .inl rfl | exact .inr rfl | cases hb
    clear hb
    refine oEEEEAAA (rd.inst hk) ?_; rintro x dx es m rfl J hC _
    refine oE I.fr ?_; intro mm Fm
    have hcmp : compareOp op (.ref x) v = richCompare op (.ref x) v := by rcases ho with rfl | rfl <;> rfl
    rw [hcmp]
    refine oJ_k h ?_; clear h; rintro f hm h
    have hm' : mth C (cmpInfo op).2.1 = some f := by rcases ho with rfl | rfl <;> exact hm
    refine oAA (F.kok.mt _ _ _ hm') ?_; intro f1 f2 _
    refine oAAAAA (F.kok.cl _ hC) ?_; intro c1 c2 c3 c4 c5 c6
    refine oo_k h ?_ ?_ <;> clear h
    · intro C' hk' h
      refine gd_k h ?_; clear h; rintro hbq h
      obtain rfl := Nat.eq_of_beq_eq_true hbq
      refine oEEEEAA (re.inst hk') ?_; rintro y dy es' m' rfl J' _
      exact cmp_K (Nat.lt_of_le_of_lt (Nat.le_add_right _ _) hu) Fm F.base.X J J'.type c3 f1 f2 (callF_snd F a I h (.cn rd (.cn re .nl)) P)
    · intro _ h
      refine oJ_k h ?_; clear h; rintro z hz h
      refine oAE (intOf_R hz re) ?_; rintro _ t rfl
      exact cmp_K (Nat.lt_of_le_of_lt (Nat.le_add_right _ _) hu) Fm F.base.X J (Looks.of_pure rfl) c4 f1 f2 (callF_snd F a I h (.cn rd (.cn re .nl)) P)
  · intro _ h
    exact oJ_k h fun d' e' h => cmpP_snd hu e' rd re fun r rr => P _ _ _ _ _ _ h I Ex.refl rr
end
end
section
open PyProof
theorem gives_pow3 (a : Int) (t : Tok) (b : Int) (u : Tok) (c : Int) (v : Tok) (hc0 : ¬(c == 0) = true) (hc1 : ¬ (c.natAbs == 1) = true) (hb : ¬ b < 0) (hc2 : ¬ c < 0) :
    Gives (Builtin.«int.__pow__» ⟨[.int a t, .int b u, .int c v], []⟩) (.int (Builtin.powMod (a % (c.natAbs : Int)).toNat b.natAbs c.natAbs)) :=
  .of_wp fun M A E s Q h => by
    obtain ⟨hp, g, d, tk, os⟩ := s; wp_walk
    rw [decide_eq_false hc2]
    exact ⟨_, rfl, h⟩
theorem powMod_lt {a b m : Nat} (h : 0 < m) : Builtin.powMod a b m < m := by
  unfold Builtin.powMod
  have gen : ∀ (l : List Nat) (x : Nat), x < m → List.foldl (fun p i => if b.testBit i then p * p % m * a % m else p * p % m) x l < m := by
    intro l
    induction l with
    | nil => intro x hx; exact hx
    | cons i l ih =>
      intro x hx
      refine ih _ ?_
      dsimp only
      split <;> exact Nat.mod_lt _ h
  exact gen _ _ (Nat.mod_lt _ h)
theorem entry_powT : entryFor table "pow" = some Builtin.«pow» := entryFor_of_fast (by kernel_rfl)
theorem kind_powT : builtinKind "pow" = none := by decide +kernel
theorem plain_powT : plainId "pow" = true := by decide +kernel
theorem args_pow3T (a b c : Value) : argsOk "pow" ⟨[a, b, c], []⟩ := by unfold argsOk; kernel_rfl
section
variable {prog : Program} {w : World} {A : Around} {E : Value → Shared → Prop} {s : Shared} {a b c : Int} {t u v : Tok} {Q : Value → Shared → Prop}
theorem call_pow3 (hc : 1 < c) (hb : 0 ≤ b) (h : Q (.int (Builtin.powMod (a % c).toNat b.toNat c.toNat) s.toks) { s with toks := s.toks + 1 }) :
    wpAny (model prog w) A (call (.builtin "pow") [.int a t, .int b u, .int c v]) Q E s := by
  refine Calls.call_function_entry kind_powT plain_powT entry_powT (args_pow3T _ _ _) ?_
  unfold Builtin.«pow»
  refine wpAny_bind (wpAny_of_eq (a := [some (Value.int a t), some (.int b u), some (.int c v)]) (by kernel_rfl) ?_)
  refine wpAny_bind (wpAny_rule (wpAny_bind (wpAny_of_eq (a := .type "int") rfl ?_)))
  show wpAny _ _ (typeLookup (Value.type "int") (Str.ofString "__pow__") >>= _) _ _ _
  have en : Str.ofString "__pow__" = PySem.dunder "pow" := by decide +kernel
  rw [en]
  refine wpAny_bind (wpAny_of_eq (a := some (.builtin "int.__pow__")) PySem.F.slot_int_pow.lookup ?_)
  dsimp only
  refine wpAny_bind (wpAny_callSpecial?_slot (typeIs_int s a t) PySem.F.slot_int_pow ?_)
  have n1 : c.natAbs = c.toNat := by omega
  have n2 : b.natAbs = b.toNat := by omega
  have n3 : (c.natAbs : Int) = c := by omega
  have g := gives_pow3 a t b u c v (by simp; omega) (by simp; omega) (by omega) (by omega)
  rw [n3, n2, n1] at g
  refine call_gives PySem.F.slot_int_pow (typeIs_int s a t) PySem.F.entry_int_pow (PySem.F.args_int_pow_3 _ _ _) g ?_
  exact wpAny_pure ⟨_, rfl, h⟩
end
end
section
theorem plain_int_new : plainId "int.__new__" = true := by decide +kernel
section
variable {prog : Program} {w : World} {A : Around} {E : Value → Shared → Prop} {s : Shared} {K : Frag} {C f x : Addr} {ox : Obj} {od : Option Obj} {Q : Value → Shared → Prop}
theorem int_obj (X : K.In s.heap) (I : InstAt s.heap x ox C od) (hs : findIn K (.ref C) "__int__" = some (some (.ref f))) (hf : isFn K (.ref f) = true)
    (h : wpAny (model prog w) A.in1.in1 (call (.ref f) [.ref x]) (fun v s' => ∃ n t, v = .int n t ∧ Q v s') E s) : wpAny (model prog w) A (call (.type "int") [.ref x]) Q E s := by
  refine callType_codes (Q₁ := fun obj s₁ => s₁.TypeIs obj "int" ∧ Q obj s₁) PySem.F.called_int (PySem.F.typeCall_int_1 _) PySem.F.entry_object_init ?_ fun obj s₁ h₁ =>
    ⟨h₁.1, PySem.F.args_object_init_2 obj _, object_init_meets PySem.F.called_int.init.lookup PySem.F.called_int.made (by decide) prog w A.in1 _ s₁ ⟨h₁.1, rfl, h₁.2⟩⟩
  refine codeAny_of_tree ?_
  show wpAny _ A.in1.in1 (do checkBuiltinCall "int.__new__" ⟨[.type "int", .ref x], []⟩; again (.builtin "int.__new__" ⟨[.type "int", .ref x], []⟩)) _ _ s
  refine wpAny_bind (wpAny_of_eq (PySem.F.newCall_int_1 _) (wpAny_pure ⟨plainId_quiet plain_int_new _, codeAny_builtin PySem.F.entry_int_new ?_⟩))
  rw [Around.under_plainId plain_int_new _]
  obtain ⟨hp, g, d, tk, os⟩ := s
  have f1 := PySem.F.conv_sub_int
  have f2 := PySem.F.madeHere_int
  have key : ∀ (Q' : Option Value → Shared → Prop) (E' : Value → Shared → Prop), (∀ e s', E e s' → E' e s') → (∀ v s', (∃ n t, v = .int n t ∧ Q v s') → Q' (some v) s') → wpAny (model prog w) A.in1.in1 (callSpecial? (.ref x) "__int__" []) Q' E' ⟨hp, g, d, tk, os⟩ := fun Q' E' hE k =>
    special_fn X I hs (beq_iff_eq.mp hf) (wpAny_mono h k hE)
  clear h
  repeat (any_goals (first | assumption | ((with_reducible show wpAny _ _ (callSpecial? (Value.ref _) _ _) _ _ _); refine key _ _ (fun _ _ z => z) fun v s' hv => ?_; refine oEEA hv ?_; clear hv; rintro n t rfl hq; dsimp only) | wp_step))
  all_goals exact ⟨typeIs_int _ _ _, hq⟩
end
section
variable {K : Params → Frag} {prog : Program} {w : World} {p : Program} {loose : List Str} {mg mb : Str → Option Value} {X : Fc} {cx : Cx} {A : Around} {O : AP} {as : List Addr} {st : St} {s : Shared}
noncomputable def tyV (t : Nat) : Value := if t = 0 then .type "int" else .ref t
theorem kit_of (F : Fok K prog w p loose mg mb X cx) {d : Dat} {t : Nat} {u : Value} {h : Heap} (e : tyN d = some t) (r : R (Dt h O) d u) : ∃ H : Heap → Prop, KitX (K w.params) u (tyV t) H ∧ H h ∧ u ≠ .builtin "__main__.__loader__#opaque" := by
  have ob : ∀ C, kls d = some C → t = C → ∃ H : Heap → Prop, KitX (K w.params) u (tyV t) H ∧ H h ∧ u ≠ .builtin "__main__.__loader__#opaque" := by
    rintro C hk rfl
    refine oEEEEAAA (r.inst hk) ?_; rintro x dx es n rfl J hC _
    refine oAA (F.kok.ci _ hC) ?_; intro c1 c2 c3
    refine oA F.kok.cg ?_; intro g1 g2
    have e : tyV t = .ref t := by unfold tyV; rw [if_neg]; rcases hC with rfl | rfl | rfl <;> decide
    rw [e]
    exact ⟨_, kitx_own c1 (F.kok.cl _ hC).2.1 c2 g1 g2 c3, J, fun q => by cases q⟩
  have it : ∀ n tk, u = .int n tk → t = 0 → ∃ H : Heap → Prop, KitX (K w.params) u (tyV t) H ∧ H h ∧ u ≠ .builtin "__main__.__loader__#opaque" := by
    rintro n tk rfl rfl
    exact ⟨_, kitx_int, trivial, fun q => by cases q⟩
  cases d with
  | lit n => refine oE r ?_; clear r; rintro tk rfl; exact it n tk rfl (by cases e; rfl)
  | int n B => refine oAE r ?_; clear r; rintro _ tk rfl; exact it n tk rfl (by cases e; rfl)
  | prm n => refine oAE r ?_; clear r; rintro _ tk rfl; exact it n tk rfl (by cases e; rfl)
  | fq p n => exact ob _ rfl (by cases e; rfl)
  | fqp p a b => exact ob _ rfl (by cases e; rfl)
  | ob _ C' ns ds => exact ob t e rfl
  | fq2 p a b => exact ob _ rfl (by cases e; rfl)
  | _ => cases e
theorem cls_of {c : Dat} {n : Nat} {v : Value} {φ : Fm} (e : clN c = some n) (r : R φ c v) : v = tyV n := by
  cases c with
  | rf a => cases a with
    | zero => cases e
    | succ a => cases e; rw [r]; rfl
  | bi a =>
    match a, e with
    | 2, e => cases e; exact r
  | _ => cases e
theorem one_of (F : Fok K prog w p loose mg mb X cx) {d c : Dat} {b : Bool} {v : Value} {φ : Fm} (h : isInst d c = some b) (rc : R φ c v) : ∃ t, tyN d = some t ∧ kitOne (K w.params) (tyV t) v = some b := by
  refine oM_k h fun t e1 h => oM_k h fun n e2 h => ⟨t, e1, ?_⟩
  rw [cls_of e2 rc]
  exact F.kok.isi t n b h
theorem any_of (F : Fok K prog w p loose mg mb X cx) {d : Dat} {t : Nat} {φ : Fm} (ht : tyN d = some t) : ∀ {l : List Dat} {vs : List Value} {b : Bool}, isInsts d l = some b → RL φ l vs → kitAny (K w.params) (tyV t) vs = some b
  | [], vs, b, h, r => by rw [r.get0]; exact h
  | c :: l, vs, b, h, r => by
    refine oEEAA r.get2 ?_; rintro v us rfl r1 r2
    refine oM_k h fun q e h => ?_
    refine oEA (one_of F e r1) ?_; intro t' e1 e2
    obtain rfl := Option.some.inj (ht.symm.trans e1)
    unfold kitAny
    rw [e2]
    cases q with
    | true => exact h
    | false => exact any_of F ht h r2
theorem ty_of : ∀ {l : List Dat} {d : Dat} {b : Bool}, isInsts d l = some b → l ≠ [] → ∃ t, tyN d = some t
  | [], _, _, _, h => absurd rfl h
  | c :: l, d, b, h, _ => oM_k h fun q e _ => oM_k e fun t e _ => ⟨t, e⟩
theorem cxU_inv (n : Nat) (I : Inv X cx O as st s) : Inv X { cx with U := cx.U + n } O as st s := ⟨I.wd, I.ref, I.reft, I.gs, I.sub, I.LO, I.LR, I.LT, I.above, I.ns, I.cells, I.own⟩
theorem cxU_inv' (n : Nat) (I : Inv X { cx with U := cx.U + n } O as st s) : Inv X cx O as st s := ⟨I.wd, I.ref, I.reft, I.gs, I.sub, I.LO, I.LR, I.LT, I.above, I.ns, I.cells, I.own⟩
theorem cxU_fok (n : Nat) (F : Fok K prog w p loose mg mb X cx) : Fok K prog w p loose mg mb X { cx with U := cx.U + n } := ⟨F.base, F.last, F.kok, F.kinds, F.fn, F.glob, F.bltn, F.gam⟩
theorem len_list {l : Addr} {vs : List Value} {n : Nat} {Q : Value → Shared → Prop} {E : Value → Shared → Prop} (hl : s.heap.get? l = some (lstN vs n)) (hz : vs.length ≤ 1000) (h : Q (.int vs.length (s.toks + 1)) { s with toks := s.toks + 1 + 1 }) :
    wpAny (model prog w) A (call (.builtin "len") [.ref l]) Q E s := by
  have e : ((vs.toArray.size : Nat) : Int) = (vs.length : Int) := by rw [List.size_toArray]
  refine call_len_meets (n := (vs.length : Int)) ⟨_, hl, rfl⟩ PySem.F.slot_list_len PySem.F.entry_list_len (PySem.F.args_list_len_1 _) (AutoListH.list___len___list_0 l vs.toArray n) (by omega) (by omega) (fun _ hq => ⟨hl, ?_⟩) h
  rw [e]; exact hq
theorem len_tup {l : Addr} {vs : List Value} {n : Nat} {Q : Value → Shared → Prop} {E : Value → Shared → Prop} (hl : s.heap.get? l = some (tupN vs n)) (hz : vs.length ≤ 1000) (h : Q (.int vs.length (s.toks + 1)) { s with toks := s.toks + 1 + 1 }) :
    wpAny (model prog w) A (call (.builtin "len") [.ref l]) Q E s := by
  refine PySem.P.len_tuple hl (by rw [List.size_toArray]; omega) ?_
  rw [List.size_toArray]; exact h
theorem list_seq {T : String} {x : Addr} {o : Obj} {its : List Value} {n : Nat} {l : List Dat} {k : KV} {Q : Value → Shared → Prop} (hT : T = "list" ∨ T = "tuple") (I : Inv X cx O as st s) (h1 : s.heap.get? x = some o) (hc : o.cls = .type T) (hd : o.data = .seq its.toArray n) (h2 : RL (Dt s.heap O) l its) (h : newL l st k) (P : PostE X cx k O as s Q) :
    wpAny (model prog w) A (call (.type "list") [.ref x]) Q NoE s := by
  have hz := h2.length
  have hl := newL_len h
  refine call_list_seq x hT h1 hc hd (fun h' c' hk hn => ?_) (by rw [List.size_toArray, hz, line_eq]; omega)
  have kt : Kt s.heap h' := fun b o _ e => hk b o e
  refine oA (I.newOwnK (s' := { s with heap := h' }) h2 kt ⟨I.gs.1, rfl, rfl, GK.refl _⟩ (I.wd.tabs.of fun a o _ e => hk a o e) (Nat.le_refl _) hn) ?_; intro J y
  exact P _ _ _ _ _ _ (gd_k h fun _ h => h) J y ⟨_, by rw [← I.own.len, List.getElem?_append_right (Nat.le_refl _)]; simp, rfl⟩
theorem blt_snd (F : Fok K prog w p loose mg mb X cx) (a : AOk A cx) (I : Inv X cx O as st s) {f : Nat} {ds : List Dat} {vs : List Value} {k : KV} {Q : Value → Shared → Prop} (h : blt cx f ds st k) (rl : RL (Dt s.heap O) ds vs) (P : PostE X cx k O as s Q) :
    wpAny (model prog w) A (call (biV f) vs) Q NoE s := by
  have XK := F.base.X.keeps I.wd.keep
  refine nE_k h ?_ ?_ <;> clear h
  · rintro rfl h
    refine l2_k h ?_; clear h; rintro d t rfl h
    refine oT_k h ?_ ?_ <;> clear h
    · rintro l rfl h
      cases l with
      | nil => exact h.elim
      | cons t0 ts =>
        refine oEEAA rl.get2 ?_; rintro u us rfl r1 r2
        refine oEEAA r2.get2 ?_; rintro v us rfl r3 r4
        rw [r4.get0]
        refine oJ_k h ?_; clear h; rintro b e h
        · obtain ⟨tp, n, its, rfl, h1, h2⟩ := r3
          have go : ∀ tk, Q (.bool b) { s with toks := tk } := fun tk => P _ _ _ _ _ _ h (I.toks tk) (Ex.toks tk) (R.ofB (φ := Dt s.heap O) rfl)
          refine oE (ty_of e (by simp)) ?_; intro t ht
          refine oEAA (kit_of F ht r1) ?_; intro H Z hH hne
          exact kia_tup Z XK hH h1.1 (any_of F ht e h2) hne go
    · intro h
      refine oJ_k h ?_; clear h; rintro b e h
      refine oEEAA rl.get2 ?_; rintro u us rfl r1 r2
      refine oEEAA r2.get2 ?_; rintro v us rfl r3 r4
      rw [r4.get0]
      refine oEA (one_of F e r3) ?_; intro t' ht hk
      refine oEAA (kit_of F ht r1) ?_; intro H Z hH hne
      exact kia_one Z XK hH hk hne fun tk => P _ _ _ _ _ _ h (I.toks tk) (Ex.toks tk) (R.ofB (φ := Dt s.heap O) rfl)
  intro h
  refine nE_k h ?_ ?_ <;> clear h
  · rintro rfl h
    refine l1_k h ?_; clear h; rintro d rfl h
    refine oT_k h ?_ ?_ <;> clear h
    · rintro l rfl h
      refine gd_k h ?_; clear h; rintro hl h
      refine oEEAA rl.get2 ?_; rintro u us rfl r1 r2
      rw [r2.get0]
      obtain ⟨x, n, its, rfl, h1, h2⟩ := r1
      have hz := h2.length
      refine len_tup h1.1 (by rw [hz]; exact thou hl) (P _ _ _ _ _ _ h (I.toks _) (Ex.toks _) ?_)
      rw [hz]; exact R.lit (φ := Dt s.heap O)
    · intro h
      refine dS_k h ?_; clear h; rintro l rfl h
      refine gd_k h ?_; clear h; rintro hl h
      refine oEEAA rl.get2 ?_; rintro u us rfl r1 r2
      rw [r2.get0]
      obtain ⟨x, n, its, rfl, h1, h2⟩ := r1
      have hz := h2.length
      refine len_list h1.1 (by rw [hz]; exact thou hl) (P _ _ _ _ _ _ h (I.toks _) (Ex.toks _) ?_)
      rw [hz]; exact R.lit (φ := Dt s.heap O)
  intro h
  refine nE_k h ?_ ?_ <;> clear h
  · rintro rfl h
    refine l1_k h ?_; clear h; rintro d rfl h
    refine oEEAA rl.get2 ?_; rintro u us rfl r1 r2
    rw [r2.get0]
    refine oL_k h ?_ ?_ <;> clear h
    · rintro n rfl h
      have r1' := r1
      refine oE r1 ?_; clear r1; rintro t rfl
      exact call_int_int (P _ _ _ _ _ _ h I Ex.refl r1')
    intro h
    refine oI_k h ?_ ?_ <;> clear h
    · rintro n B rfl h
      have r1' := r1
      refine oAE r1 ?_; clear r1; rintro _ t rfl
      exact call_int_int (P _ _ _ _ _ _ h I Ex.refl r1')
    intro h
    refine dF_k h ?_; clear h; rintro q n rfl h
    refine oEEEEAAA (r1.inst (C := 183) rfl) ?_; rintro x dx es m rfl J hC _
    refine oAA (F.kok.mt 183 "__int__" 152 rfl) ?_; intro f1 f2 _
    refine int_obj XK J f1 f2 (back_off (callF_sn (A := A.in1.in1) (cxU_fok 2 F) a.h a.d (Nat.add_le_add_right a.u 2) (cxU_inv 2 I) h (.cn r1 .nl) fun d st' v s' O' as' h1 h2 h3 h4 => ?_))
    refine oEA (oJ_x h1) ?_; intro z hz h1
    refine oAE (intOf_R hz h4) ?_; rintro _ t rfl
    exact ⟨_, _, rfl, P _ _ _ _ _ _ h1 (cxU_inv' 2 h2) h3 h4⟩
  intro h
  refine nE_k h ?_ ?_ <;> clear h
  · rintro rfl h
    refine l1_k h ?_; clear h; rintro d rfl h
    refine oEEAA rl.get2 ?_; rintro u us rfl r1 r2
    rw [r2.get0]
    refine oT_k h ?_ ?_ <;> clear h
    · rintro l rfl h
      have r1' := r1
      obtain ⟨x, n, its, rfl, h1, h2⟩ := r1
      exact call_tuple_tup ⟨_, h1.1, rfl, n, rfl⟩ (P _ _ _ _ _ _ h I Ex.refl r1')
    · intro h
      refine dS_k h ?_; clear h; rintro l rfl h
      refine gd_k h ?_; clear h; rintro hl h
      obtain ⟨x, n, its, rfl, h1, h2⟩ := r1
      have hz := h2.length
      refine call_tuple_list ⟨_, h1.1, rfl, n, rfl⟩ (fun h' hk => ?_) (by rw [List.size_toArray, hz, line_eq]; have := thou hl; omega)
      have kt : Kt s.heap h' := fun b o _ e => hk b o e
      have J : Inv X cx O as st { s with heap := h' } := I.kt kt ⟨I.gs.1, rfl, rfl, GK.refl _⟩ (I.wd.tabs.of fun a o _ e => hk a o e)
      exact (tup_snd h J (h2.ex (I.wd.ex (s' := { s with heap := h' }) kt (as := as))) (P.trans (I.wd.ex kt)) s.toks)
  intro h
  refine nE_k h ?_ ?_ <;> clear h
  · rintro rfl h
    refine l1_k h ?_; clear h; rintro d rfl h
    refine oEEAA rl.get2 ?_; rintro u us rfl r1 r2
    rw [r2.get0]
    refine oT_k h ?_ ?_ <;> clear h
    · rintro l rfl h
      obtain ⟨x, n, its, rfl, h1, h2⟩ := r1
      exact list_seq (.inr rfl) I h1.1 rfl rfl h2 h P
    · intro h
      refine dS_k h ?_; clear h; rintro l rfl h
      obtain ⟨x, n, its, rfl, h1, h2⟩ := r1
      exact list_seq (.inl rfl) I h1.1 rfl rfl h2 h P
  intro h
  refine nE_k h ?_ ?_ <;> clear h
  · rintro rfl h
    refine l3_k h ?_; clear h; rintro d1 d2 d3 rfl h
    refine dI_k h ?_; clear h; rintro x A0 rfl h
    refine dI_k h ?_; clear h; rintro y B0 rfl h
    refine dP_k h ?_; clear h; rintro q rfl ⟨h0, h⟩
    refine oEEAA rl.get2 ?_; rintro u1 us rfl r1 r2
    refine oEEAA r2.get2 ?_; rintro u2 us rfl r3 r4
    refine oEEAA r4.get2 ?_; rintro u3 us rfl r5 r6
    rw [r6.get0]
    refine oAE r1 ?_; clear r1; rintro _ t1 rfl
    refine oAE r3 ?_; clear r3; rintro _ t2 rfl
    refine oAE r5 ?_; clear r5; rintro hp t3 rfl
    have p1 := hp.ge
    have p2 := hp.le
    have e := powMod_lt (a := (x % q).toNat) (b := y.toNat) (m := q.toNat) (by omega)
    have e2 : (Builtin.powMod (x % q).toNat y.toNat q.toNat : Int) % q = (Builtin.powMod (x % q).toNat y.toNat q.toNat : Int) := Int.emod_eq_of_lt (Int.natCast_nonneg _) (by omega)
    rw [e2] at h
    refine call_pow3 (by omega) h0 (P _ _ _ _ _ _ h (I.toks _) (Ex.toks _) ?_)
    refine R.int (φ := Dt s.heap O) ?_
    rw [Int.natAbs_natCast]
    omega
  · intro h
    exact h.elim
end
end
section
noncomputable abbrev Ow := List (Addr × Obj)
noncomputable abbrev Fc.wI (X : Fc) (own : Ow) : Fc := { X with Ref := fun a o => X.Ref a o ∨ (a, o) ∈ own, B := fun a => X.B a ∨ a ∈ own.map (·.1) }
structure IA (X : Fc) (L : List Addr) : Prop where
  b : ∀ a ∈ L, ¬ X.B a
  r : ∀ a ∈ L, ∀ o, ¬ X.Ref a o
  t : ∀ a ∈ L, ¬ isTb a
noncomputable def Hv (own : Ow) (h : Heap) : Prop := ∀ p ∈ own, h.get? p.1 = some p.2
noncomputable def Cg (L : List Addr) (h h' : Heap) : Prop := ∀ a o, a ∉ L → h.get? a = some o → h'.get? a = some o
theorem Cg.one {a : Addr} {h h' : Heap} (x : Heap.ExtBut a h h') : Cg [a] h h' := fun b o hb e => x b o (fun q => hb (by simp [q])) e
section
variable {K : Params → Frag} {prog : Program} {w : World} {p : Program} {loose : List Str} {mg mb : Str → Option Value} {X : Fc} {cx : Cx} {A : Around} {O : AP} {as : List Addr} {st : St} {s : Shared}
theorem Fok.wI (F : Fok K prog w p loose mg mb X cx) {own : Ow} : Fok K prog w p loose mg mb (X.wI own) cx := ⟨F.base, F.last, F.kok, F.kinds, F.fn, F.glob, F.bltn, F.gam⟩
set_option tactic.hygienic true in
theorem br_snd {d : Dat} {k : KB} {u : Value} {Q : Bool → Shared → Prop} {E : Value → Shared → Prop} (h : br d st k) (I : Inv X cx O as st s) (r : R (Dt s.heap O) d u) (P : PostB X cx k O as s Q) : wpAny (model prog w) A (truthy u) Q E s := by
  have bo : ∀ b : Bool, k b st → wpAny (model prog w) A (truthy (.bool b)) Q E s := fun b hk => wpAny_truthy_bool (P _ _ _ _ _ hk I Ex.refl)
  cases d with
  | bool b => subst r; cases b <;> exact bo _ h
  | none => subst r; exact truthy_none (P _ _ _ _ _ h I Ex.refl)
  | lit n =>
    refine oE r ?_; clear r; rintro t rfl
    refine truthy_int ?_
    refine bb_k h ?_ ?_ <;> clear h
    · intro q h
      have q := of_decide_eq_true q; subst q; exact P _ _ _ _ _ h I Ex.refl
    · intro q h
      have q := of_decide_eq_false q
      rw [show (n != 0) = true from by simpa using q]; exact P _ _ _ _ _ h I Ex.refl
  | sb b =>
    subst r
    unfold br at h
    dsimp only at h
    split at h
    · rename_i c r e
      refine oA h ?_; clear h; rintro rfl h
      exact wpAny_truthy_bool (P _ _ _ _ _ h ⟨I.wd, I.ref, I.reft, I.gs, I.sub, I.LO, I.LR, I.LT, I.above, I.ns, I.cells, I.own⟩ Ex.refl)
    · cases b with
      | true => exact bo _ (h.1 rfl)
      | false => exact bo _ (h.2 rfl)
  | _ => exact h.elim
theorem Inv.addO {s' : Shared} {own : Ow} (I : Inv X cx O as st s) (k : Kt s.heap s'.heap) (gs : GS s s') (tb : TabOk s'.heap) (hf : ∀ p ∈ own, s.heap.objs.size ≤ p.1 ∧ s'.heap.get? p.1 = some p.2) :
    Inv (X.wI own) cx (fun a => O a ∨ a ∈ own.map (·.1)) as st s' ∧ Ex O as s (fun a => O a ∨ a ∈ own.map (·.1)) as s' ∧ IA X (own.map (·.1)) := by
  have J := I.kt k gs tb
  have old : ∀ {b o}, s.heap.get? b = some o → b ∉ own.map (·.1) := fun {b o} h q => by
    refine oEA (List.mem_map.mp q) ?_; rintro p hp rfl
    exact absurd (Heap.lt_size h) (Nat.not_lt.mpr (hf p hp).1)
  have ed : ∀ b o, Dt s.heap O b o → Dt s'.heap (fun a => O a ∨ a ∈ own.map (·.1)) b o := fun b o h =>
    ⟨k b o (fun t => h.2 (I.wd.tabO b t)) h.1, fun q => q.elim h.2 (old h.1)⟩
  have e : Ex O as s (fun a => O a ∨ a ∈ own.map (·.1)) as s' := ⟨ed, fun _ _ h => h⟩
  have hL : X.env.locals ∉ own.map (·.1) := by refine oEA I.ns ?_; rintro m ⟨o, _, _, hm, _⟩ _; exact old hm
  have nt : ∀ a ∈ own.map (·.1), ¬ isTb a := fun a ha q => by refine oEA (I.wd.tabs a q) ?_; intro ps e _; exact old e ha
  have nr : ∀ a ∈ own.map (·.1), ∀ o, ¬ X.Ref a o := fun a ha o q => old (I.ref a o q) ha
  have nb : ∀ a ∈ own.map (·.1), ¬ X.B a := fun a ha q => by refine oE (I.wd.alive _ (I.sub a q)) ?_; intro o e; exact old e ha
  refine ⟨⟨⟨J.wd.keep, fun b hb => hb.elim (I.wd.off b) fun q => ?_, fun b hb => hb.elim (J.wd.alive b) fun q => ?_, J.wd.tabs, fun b hb => .inl (I.wd.tabO b hb), J.wd.bare⟩, fun a o h => h.elim (J.ref a o) fun q => (hf _ q).2, fun a o h => h.elim (J.reft a o) fun q => nt a (List.mem_map.mpr ⟨_, q, rfl⟩), J.gs,
    fun a h => h.elim (fun q => .inl (I.sub a q)) .inr, .inl I.LO, fun o h => h.elim (I.LR o) fun q => hL (List.mem_map.mpr ⟨_, q, rfl⟩), J.LT, J.above, ?_, fun x v h1 h2 => ?_, I.own.len, I.own.nodup, fun i fr l h => ?_⟩, e, nb, nr, nt⟩
  · cases c : X.g.get? b with
    | none => rfl
    | some o => exact absurd q (old (I.wd.keep _ _ c))
  · refine oEA (List.mem_map.mp q) ?_; rintro p hp rfl; exact ⟨_, (hf p hp).2⟩
  · refine oEA J.ns ?_; intro m hm hv
    refine ⟨m, hm, fun x v h1 h2 => ?_⟩
    refine oEA I.ns ?_; intro m' hm' hv'
    refine oEA (hv' x v h1 h2) ?_; intro u h3 h4
    have hm'' : s'.heap.Ns X.env.locals m' := hm'.at' fun o e' => k _ _ I.LT e'
    refine ⟨u, ?_, h4.ex e⟩
    refine oEEEAAA hm ?_; clear hm; intro o1 es1 ep1 g1 g2 _ g4
    refine oEEEAAA hm'' ?_; clear hm''; intro o2 es2 ep2 k1 k2 _ k4
    rw [g1] at k1; cases k1; rw [g2] at k2; cases k2
    rw [← g4, k4, h3]
  · refine oEEEAAAA (I.cells x v h1 h2) ?_; intro c o u h3 h4 h5 h6 h7
    exact ⟨c, o, u, h3, h4, ed _ _ h5, h6, h7.ex e⟩
  · refine oEEEAAAA (I.own.at_ i fr l h) ?_; intro c n' vs' h1 h2 h3 h4 h5
    have ht : ¬ isTb c := fun q => by refine oEA (I.wd.tabs _ q) ?_; intro ps e1 _; rw [h2] at e1; cases e1
    exact ⟨c, n', vs', h1, k _ _ ht h2, RL.mono ed _ h3, fun q => ⟨.inl (h4 q).1, (h4 q).2.1, fun o z => z.elim ((h4 q).2.2.1 o) fun z => old h2 (List.mem_map.mpr ⟨_, z, rfl⟩), fun z => z.elim (h4 q).2.2.2 (old h2)⟩, fun q z => z.elim (h5 q) (old h2)⟩
theorem Inv.turn {own own' : Ow} {L : List Addr} {h' : Heap} {t : Tok} (I : Inv (X.wI own) cx O as st s) (A : IA X L) (hL : own.map (·.1) = L) (hL' : own'.map (·.1) = L) (k : Cg L s.heap h') (hv : Hv own' h') :
    Inv (X.wI own') cx O as st { s with heap := h', toks := t } ∧ Ex O as s O as { s with heap := h', toks := t } := by
  have sub : ∀ a ∈ L, O a := fun a ha => I.sub a (.inr (by rw [hL]; exact ha))
  have ed : ∀ b o, Dt s.heap O b o → Dt h' O b o := fun b o h => ⟨k b o (fun q => h.2 (sub b q)) h.1, h.2⟩
  have e : Ex O as s O as { s with heap := h', toks := t } := ⟨ed, fun _ _ h => h⟩
  have nL : X.env.locals ∉ L := fun q => by
    rw [← hL] at q; refine oEA (List.mem_map.mp q) ?_; intro p hp e
    exact I.LR p.2 (.inr (by show (X.env.locals, p.2) ∈ own; rw [← e]; exact hp))
  refine ⟨⟨⟨fun b o e => k b o (fun q => nomatch (I.wd.off b (sub b q)).symm.trans e) (I.wd.keep b o e), I.wd.off, fun b hb => ?_, I.wd.tabs.of fun b o tb e => k b o (fun q => A.t b q tb) e, I.wd.tabO, I.wd.bare⟩, fun b o q => q.elim (fun q => k b o (fun z => A.r b z o q) (I.ref b o (.inl q))) fun q => hv _ q,
    fun b o q => q.elim (fun q => I.reft b o (.inl q)) fun q => A.t b (by rw [← hL']; exact List.mem_map.mpr ⟨_, q, rfl⟩), ⟨I.gs.1, I.gs.2⟩, fun a h => h.elim (fun q => I.sub a (.inl q)) fun q => sub a (by rw [← hL']; exact q), I.LO, fun o h => h.elim (fun q => I.LR o (.inl q)) fun q => nL (by rw [← hL']; exact List.mem_map.mpr ⟨_, q, rfl⟩), I.LT, I.above, ?_, fun x v h1 h2 => ?_, I.own.len, I.own.nodup, fun i fr l h => ?_⟩, e⟩
  · by_cases hb' : b ∈ L
    · rw [← hL'] at hb'; refine oEA (List.mem_map.mp hb') ?_; rintro p hp rfl; exact ⟨_, hv p hp⟩
    · refine oE (I.wd.alive b hb) ?_; intro o e; exact ⟨o, k b o hb' e⟩
  · refine oEA I.ns ?_; intro m hm hv
    refine ⟨m, hm.at' fun o e' => k _ _ nL e', fun x v h1 h2 => ?_⟩
    refine oEA (hv x v h1 h2) ?_; intro u h3 h4
    exact ⟨u, h3, h4.ex e⟩
  · refine oEEEAAAA (I.cells x v h1 h2) ?_; intro c o u h3 h4 h5 h6 h7
    exact ⟨c, o, u, h3, h4, ed _ _ h5, h6, h7.ex e⟩
  · refine oEEEAAAA (I.own.at_ i fr l h) ?_; intro c n' vs' h1 h2 h3 h4 h5
    have hc : c ∉ L := fun q => by
      cases fr with
      | false => exact (h4 rfl).2.2.2 (.inr (by rw [hL]; exact q))
      | true => exact h5 rfl (sub c q)
    refine ⟨c, n', vs', h1, k _ _ hc h2, RL.mono ed _ h3, fun q => ⟨(h4 q).1, (h4 q).2.1, fun o z => z.elim (fun z => (h4 q).2.2.1 o (.inl z)) fun z => hc (by rw [← hL']; exact List.mem_map.mpr ⟨_, z, rfl⟩), fun z => z.elim (fun z => (h4 q).2.2.2 (.inl z)) fun z => hc (by rw [← hL']; exact z)⟩, h5⟩
theorem Inv.endI {own : Ow} {L : List Addr} {h' : Heap} {t : Tok} (I : Inv (X.wI own) cx O as st s) (A : IA X L) (hL : own.map (·.1) = L) (k : Cg L s.heap h') :
    Inv X cx (fun a => O a ∧ a ∉ L) as st { s with heap := h', toks := t } ∧ Ex O as s (fun a => O a ∧ a ∉ L) as { s with heap := h', toks := t } := by
  have sub : ∀ a ∈ L, O a := fun a ha => I.sub a (.inr (by rw [hL]; exact ha))
  have ed : ∀ b o, Dt s.heap O b o → Dt h' (fun a => O a ∧ a ∉ L) b o := fun b o h => ⟨k b o (fun q => h.2 (sub b q)) h.1, fun q => h.2 q.1⟩
  have e : Ex O as s (fun a => O a ∧ a ∉ L) as { s with heap := h', toks := t } := ⟨ed, fun _ _ h => h⟩
  have nL : X.env.locals ∉ L := fun q => by
    rw [← hL] at q; refine oEA (List.mem_map.mp q) ?_; intro p hp e
    exact I.LR p.2 (.inr (by show (X.env.locals, p.2) ∈ own; rw [← e]; exact hp))
  refine ⟨⟨⟨fun b o e => k b o (fun q => nomatch (I.wd.off b (sub b q)).symm.trans e) (I.wd.keep b o e), fun b hb => I.wd.off b hb.1, fun b hb => ?_, I.wd.tabs.of fun b o tb e => k b o (fun q => A.t b q tb) e, fun b hb => ⟨I.wd.tabO b hb, fun q => A.t b q hb⟩, I.wd.bare⟩, fun b o q => k b o (fun z => A.r b z o q) (I.ref b o (.inl q)),
    fun b o q => I.reft b o (.inl q), ⟨I.gs.1, I.gs.2⟩, fun a h => ⟨I.sub a (.inl h), fun q => A.b a q h⟩, ⟨I.LO, nL⟩, fun o h => I.LR o (.inl h), I.LT, I.above, ?_, fun x v h1 h2 => ?_, I.own.len, I.own.nodup, fun i fr l h => ?_⟩, e⟩
  · refine oE (I.wd.alive b hb.1) ?_; intro o e; exact ⟨o, k b o hb.2 e⟩
  · refine oEA I.ns ?_; intro m hm hv
    refine ⟨m, hm.at' fun o e' => k _ _ nL e', fun x v h1 h2 => ?_⟩
    refine oEA (hv x v h1 h2) ?_; intro u h3 h4
    exact ⟨u, h3, h4.ex e⟩
  · refine oEEEAAAA (I.cells x v h1 h2) ?_; intro c o u h3 h4 h5 h6 h7
    exact ⟨c, o, u, h3, h4, ed _ _ h5, h6, h7.ex e⟩
  · refine oEEEAAAA (I.own.at_ i fr l h) ?_; intro c n' vs' h1 h2 h3 h4 h5
    have hc : c ∉ L := fun q => by
      cases fr with
      | false => exact (h4 rfl).2.2.2 (.inr (by rw [hL]; exact q))
      | true => exact h5 rfl (sub c q)
    exact ⟨c, n', vs', h1, k _ _ hc h2, RL.mono ed _ h3, fun q => ⟨⟨(h4 q).1, hc⟩, (h4 q).2.1, fun o z => (h4 q).2.2.1 o (.inl z), fun z => (h4 q).2.2.2 (.inl z)⟩, fun q z => h5 q z.1⟩
end
noncomputable def Runs (prog : Program) (w : World) (I : Value) (t : Expr) (L : List Addr) (src : Fm) : List Dat → Ow → Prop
  | [], own => own.map (·.1) = L ∧ ∀ (A : Around) (s : Shared) (Q : Option Value → Shared → Prop) (E : Value → Shared → Prop), A.handled = none → Hv own s.heap → (∀ a o, src a o → s.heap.get? a = some o) →
      (∀ h' t', Cg L s.heap h' → Q none { s with heap := h', toks := t' }) → wpAny (model prog w) A (pyNext I) Q E s
  | d :: ds, own => own.map (·.1) = L ∧ ∀ (A : Around) (s : Shared) (Q : Option Value → Shared → Prop) (E : Value → Shared → Prop), A.handled = none → Hv own s.heap → (∀ a o, src a o → s.heap.get? a = some o) →
      (∀ v s₁, (∀ (Q₁ : Unit → Shared → Prop) (E₁ : Value → Shared → Prop), (∀ own' h' t', Cg L s.heap h' → Hv own' h' → R (fun a o => src a o ∨ (h'.get? a = some o ∧ s.heap.objs.size ≤ a)) d v → Runs prog w I t L src ds own' → Q₁ () { s with heap := h', toks := t' }) →
        wpAny (model prog w) A (letOwnedTupleGo t I v) Q₁ E₁ s₁) → Q (some v) s₁) → wpAny (model prog w) A (pyNext I) Q E s
theorem Runs.addr {prog w I t L src} : ∀ {ds : List Dat} {own : Ow}, Runs prog w I t L src ds own → own.map (·.1) = L
  | [], _, h => h.1
  | _ :: _, _, h => h.1
noncomputable def SelfI (prog : Program) (w : World) (I : Value) (own : Ow) : Prop := ∀ (A : Around) (s' : Shared) (Q : Value → Shared → Prop) (E : Value → Shared → Prop), Hv own s'.heap → Q I s' → wpAny (model prog w) A (pyIter I) Q E s'
theorem letGo_no {prog : Program} {w : World} {A : Around} {s : Shared} {E : Value → Shared → Prop} {I : Addr} {o : Obj} {n : String} {t : Expr} {v : Value} {Q : Unit → Shared → Prop} (ho : s.heap.get? I = some o) (hc : o.cls = .type n)
    (hn : ["enumerate", "zip", "dict_itemiterator", "dict_reverseitemiterator", "odict_iterator", "itertools.zip_longest", "itertools.pairwise"].contains n = false) (h : Q () s) : wpAny (model prog w) A (letOwnedTupleGo t (.ref I) v) Q E s := by
  unfold letOwnedTupleGo
  split
  all_goals first | exact wpAny_pure h | skip
  all_goals
    cases v with
    | ref a =>
      refine wpAny_bind (wpAny_load ho ?_)
      cases hd : o.data with
      | fields vs =>
        rw [hc]
        simp only [hn, Bool.false_and, Bool.false_eq_true, if_false]
        exact wpAny_pure h
      | _ =>
        rw [hc]
        exact wpAny_pure h
    | _ => exact wpAny_pure h
end
section
noncomputable abbrev rgO (a b c : Int) (t u v : Tok) : Obj := { cls := .type "range", data := .fields #[.int a t, .int b u, .int c v] }
noncomputable abbrev itR (x left c : Int) : Obj := { cls := .type "range_iterator", data := .fields #[rawInt x, rawInt left, rawInt c] }
noncomputable abbrev itT (t : Addr) (i : Nat) : Obj := { cls := .type "tuple_iterator", data := .fields #[.ref t, .int i 0] }
noncomputable abbrev itL (t : Addr) (i : Nat) : Obj := { cls := .type "list_iterator", data := .fields #[.ref t, .int i 0] }
section
variable {prog : Program} {w : World} {A : Around} {s : Shared} {E : Value → Shared → Prop}
theorem tup_item {it t : Addr} {i : Nat} {items : Array Value} {x : Value} {Q : Option Value → Shared → Prop} (ho : s.heap.get? it = some (itT t i)) (ht : IsTup s.heap t items) (hx : items[i]? = some x)
    (hQ : ∀ h', h'.get? it = some (itT t (i + 1)) → Heap.SameBut it s.heap h' → Q (some x) { s with heap := h' }) : wpAny (model prog w) A (pyNext (.ref it)) Q E s := by
  have hT : s.TypeIs (.ref it) "tuple_iterator" := ⟨_, ho, rfl⟩
  obtain ⟨ol, hol, _, nl, hdl⟩ := ht
  unfold pyNext
  refine wpAny_bind (wpAny_attempt (wpAny_callSpecial?_slot (name := Str.ofString "__next__") hT F.slot_tuple_iterator_next
    (wpAny_call_entry F.slot_tuple_iterator_next hT F.entry_tuple_iterator_next ?_ (F.args_tuple_iterator_next_1 _))))
  show wpAny _ _ (field (.ref it) 0 >>= _) _ _ s
  refine wpAny_bind (wpAny_field ho rfl (x := .ref t) rfl ?_)
  show wpAny _ _ (if (Value.ref t == Value.none) = true then _ else _) _ _ s
  rw [if_neg (show ¬ ((Value.ref t == Value.none) = true) from Bool.false_ne_true)]
  show wpAny _ _ (field (.ref it) 1 >>= _) _ _ s
  refine wpAny_bind (wpAny_field ho rfl (x := .int i 0) rfl ?_)
  show wpAny _ _ (seqItems? (.ref t) >>= _) _ _ s
  refine wpAny_bind (wpAny_seqItems hol hdl ?_)
  simp only [Int.toNat_natCast, hx]
  refine wpAny_bind (wpAny_setField_rec ho (by simp) fun h' hz' hs' => wpAny_pure ⟨x, rfl, wpAny_pure (hQ h' ?_ hs')⟩)
  rw [hz']; rfl
theorem lst_item {it t : Addr} {i : Nat} {items : Array Value} {x : Value} {Q : Option Value → Shared → Prop} (ho : s.heap.get? it = some (itL t i)) (ht : s.heap.IsList t items) (hx : items[i]? = some x)
    (hQ : ∀ h', h'.get? it = some (itL t (i + 1)) → Heap.SameBut it s.heap h' → Q (some x) { s with heap := h' }) : wpAny (model prog w) A (pyNext (.ref it)) Q E s := by
  have hT : s.TypeIs (.ref it) "list_iterator" := ⟨_, ho, rfl⟩
  obtain ⟨ol, hol, _, nl, hdl⟩ := ht
  unfold pyNext
  refine wpAny_bind (wpAny_attempt (wpAny_callSpecial?_slot (name := Str.ofString "__next__") hT slot_listiter_next
    (wpAny_call_entry slot_listiter_next hT entry_listiter_next ?_ (args_listiter_next _))))
  show wpAny _ _ (field (.ref it) 0 >>= _) _ _ s
  refine wpAny_bind (wpAny_field ho rfl (x := .ref t) rfl ?_)
  show wpAny _ _ (if (Value.ref t == Value.none) = true then _ else _) _ _ s
  rw [if_neg (show ¬ ((Value.ref t == Value.none) = true) from Bool.false_ne_true)]
  show wpAny _ _ (field (.ref it) 1 >>= _) _ _ s
  refine wpAny_bind (wpAny_field ho rfl (x := .int i 0) rfl ?_)
  show wpAny _ _ (seqItems? (.ref t) >>= _) _ _ s
  refine wpAny_bind (wpAny_seqItems hol hdl ?_)
  simp only [Int.toNat_natCast, hx]
  refine wpAny_bind (wpAny_setField_rec ho (by simp) fun h' hz' hs' => wpAny_pure ⟨x, rfl, wpAny_pure (hQ h' ?_ hs')⟩)
  rw [hz']; rfl
theorem nextOf_item {it t : Addr} {i : Nat} {items : Array Value} {x : Value} {Q : Value → Shared → Prop} (ho : s.heap.get? it = some (itT t i)) (ht : IsTup s.heap t items) (hx : items[i]? = some x)
    (hQ : ∀ h', h'.get? it = some (itT t (i + 1)) → Heap.SameBut it s.heap h' → Q x { s with heap := h' }) : wpAny (model prog w) A (Builtin.SmallTypes.nextOf (.ref it)) Q E s := by
  have hT : s.TypeIs (.ref it) "tuple_iterator" := ⟨_, ho, rfl⟩
  obtain ⟨ol, hol, _, nl, hdl⟩ := ht
  unfold Builtin.SmallTypes.nextOf
  refine wpAny_bind (wpAny_callSpecial?_slot (name := Str.ofString "__next__") hT F.slot_tuple_iterator_next
    (wpAny_call_entry F.slot_tuple_iterator_next hT F.entry_tuple_iterator_next ?_ (F.args_tuple_iterator_next_1 _)))
  show wpAny _ _ (field (.ref it) 0 >>= _) _ _ s
  refine wpAny_bind (wpAny_field ho rfl (x := .ref t) rfl ?_)
  show wpAny _ _ (if (Value.ref t == Value.none) = true then _ else _) _ _ s
  rw [if_neg (show ¬ ((Value.ref t == Value.none) = true) from Bool.false_ne_true)]
  show wpAny _ _ (field (.ref it) 1 >>= _) _ _ s
  refine wpAny_bind (wpAny_field ho rfl (x := .int i 0) rfl ?_)
  show wpAny _ _ (seqItems? (.ref t) >>= _) _ _ s
  refine wpAny_bind (wpAny_seqItems hol hdl ?_)
  simp only [Int.toNat_natCast, hx]
  refine wpAny_bind (wpAny_setField_rec ho (by simp) fun h' hz' hs' => wpAny_pure ⟨x, rfl, wpAny_pure (hQ h' ?_ hs')⟩)
  rw [hz']; rfl
theorem nextOf_end {it t : Addr} {i : Nat} {items : Array Value} {Q : Value → Shared → Prop} (hh : A.handled = none) (ho : s.heap.get? it = some (itT t i)) (ht : IsTup s.heap t items) (hx : items[i]? = none)
    (hE : ∀ h' e, Heap.ExtBut it s.heap h' → (∃ o, h'.get? e = some o ∧ o.cls = .type "StopIteration") → E (.ref e) { s with heap := h' }) : wpAny (model prog w) A (Builtin.SmallTypes.nextOf (.ref it)) Q E s := by
  have hT : s.TypeIs (.ref it) "tuple_iterator" := ⟨_, ho, rfl⟩
  obtain ⟨ol, hol, _, nl, hdl⟩ := ht
  unfold Builtin.SmallTypes.nextOf
  refine wpAny_bind (wpAny_callSpecial?_slot (name := Str.ofString "__next__") hT F.slot_tuple_iterator_next
    (wpAny_call_entry F.slot_tuple_iterator_next hT F.entry_tuple_iterator_next ?_ (F.args_tuple_iterator_next_1 _)))
  show wpAny _ _ (field (.ref it) 0 >>= _) _ _ s
  refine wpAny_bind (wpAny_field ho rfl (x := .ref t) rfl ?_)
  show wpAny _ _ (if (Value.ref t == Value.none) = true then _ else _) _ _ s
  rw [if_neg (show ¬ ((Value.ref t == Value.none) = true) from Bool.false_ne_true)]
  show wpAny _ _ (field (.ref it) 1 >>= _) _ _ s
  refine wpAny_bind (wpAny_field ho rfl (x := .int i 0) rfl ?_)
  show wpAny _ _ (seqItems? (.ref t) >>= _) _ _ s
  refine wpAny_bind (wpAny_seqItems hol hdl ?_)
  simp only [Int.toNat_natCast, hx]
  refine wpAny_bind (wpAny_rule (wpAny_bind (wpAny_setField ho rfl (by simp) ?_)))
  show wpAny _ _ (newExc (.type "StopIteration") [] >>= _) _ _ _
  refine wpAny_bind ?_
  simp only [newExc, newTuple]
  refine wpAny_bind (wpAny_newObj_type ?_ (by size_fits))
  refine wpAny_bind (m := firstArgMember _ _) (wpAny_of_eq (a := Value.none) (by first | rfl | (simp only [firstArgMember]; rfl)) ?_)
  refine wpAny_newObj_type ?_ (by size_fits)
  simp only [raiseNew]
  refine wpAny_bind (wpAny_handled ?_)
  first | rw [show A.in1.handled = none from hh] | rw [hh]
  refine wpAny_bind (wpAny_pure (wpAny_throw ?_))
  exact hE _ _ (((Heap.SameBut.update ..).extBut.push _).push _) ⟨_, Heap.get?_push_size _ rfl, rfl⟩
end
theorem drop_cons {vs r : List Value} {i : Nat} {u : Value} (e : vs.drop i = u :: r) : vs[i]? = some u ∧ vs.drop (i + 1) = r := by
  have h : (vs.drop i)[0]? = some u := by rw [e]; rfl
  refine ⟨by simpa using h, ?_⟩
  have := congrArg (List.drop 1) e
  simpa using this
theorem drop_nil {vs : List Value} {i : Nat} (e : vs.drop i = []) : vs[i]? = none := by
  have h : (vs.drop i)[0]? = none := by rw [e]; rfl
  simpa using h
section
variable {prog : Program} {w : World} {A : Around} {s : Shared} {E : Value → Shared → Prop} {src : Fm} {t : Expr}
theorem runs_tup {I tl : Addr} {vs : List Value} {n : Nat} (ht : src tl (tupN vs n)) : ∀ {ds : List Dat} {us : List Value} (i : Nat), RL src ds us → vs.drop i = us → Runs prog w (.ref I) t [I] src ds [(I, itT tl i)]
  | [], us, i, r, e => by
    rw [r.get0] at e
    refine ⟨rfl, fun A s Q E hh hv hs k => ?_⟩
    exact wpAny_pyNext_tuple_end (i := i) (items := vs.toArray) hh ⟨_, hv _ (.head _), rfl, rfl⟩ ⟨_, hs _ _ ht, rfl, n, rfl⟩ (by simpa using drop_nil e) fun h' hx => k h' s.toks (Cg.one hx)
  | d :: ds, us, i, r, e => by
    refine oEEAA r.get2 ?_; rintro u us' rfl r1 r2
    refine oA (drop_cons e) ?_; intro e1 e2
    refine ⟨rfl, fun A s Q E hh hv hs k => ?_⟩
    refine tup_item (hv _ (.head _)) ⟨_, hs _ _ ht, rfl, n, rfl⟩ (by simpa using e1) fun h' h1 h2 => k _ _ fun Q₁ E₁ hq => ?_
    refine letGo_no (s := { s with heap := h' }) h1 rfl rfl ?_
    exact hq [(I, itT tl (i + 1))] h' s.toks (Cg.one h2.extBut) (fun p hp => by rcases List.mem_cons.mp hp with rfl | hp; exact h1; cases hp) (R.mono (fun _ _ x => .inl x) _ r1) (runs_tup ht (i + 1) r2 e2)
theorem runs_lst {I tl : Addr} {vs : List Value} {n : Nat} (ht : src tl (lstN vs n)) : ∀ {ds : List Dat} {us : List Value} (i : Nat), RL src ds us → vs.drop i = us → Runs prog w (.ref I) t [I] src ds [(I, itL tl i)]
  | [], us, i, r, e => by
    rw [r.get0] at e
    refine ⟨rfl, fun A s Q E hh hv hs k => ?_⟩
    exact wpAny_pyNext_list_end (i := i) (items := vs.toArray) hh ⟨_, hv _ (.head _), rfl, rfl⟩ ⟨_, hs _ _ ht, rfl, n, rfl⟩ (by simpa using drop_nil e) fun h' hx => k h' s.toks (Cg.one hx)
  | d :: ds, us, i, r, e => by
    refine oEEAA r.get2 ?_; rintro u us' rfl r1 r2
    refine oA (drop_cons e) ?_; intro e1 e2
    refine ⟨rfl, fun A s Q E hh hv hs k => ?_⟩
    refine lst_item (hv _ (.head _)) ⟨_, hs _ _ ht, rfl, n, rfl⟩ (by simpa using e1) fun h' h1 h2 => k _ _ fun Q₁ E₁ hq => ?_
    refine letGo_no (s := { s with heap := h' }) h1 rfl rfl ?_
    exact hq [(I, itL tl (i + 1))] h' s.toks (Cg.one h2.extBut) (fun p hp => by rcases List.mem_cons.mp hp with rfl | hp; exact h1; cases hp) (R.mono (fun _ _ x => .inl x) _ r1) (runs_lst ht (i + 1) r2 e2)
noncomputable def rgD (x c : Int) : Nat → List Dat
  | 0 => []
  | n + 1 => .lit x :: rgD (x + c) c n
theorem runs_rng {I : Addr} {c : Int} : ∀ (n : Nat) (x left : Int), left = n → Runs prog w (.ref I) t [I] src (rgD x c n) [(I, itR x left c)]
  | 0, x, left, e => by
    subst e
    refine ⟨rfl, fun A s Q E hh hv hs k => ?_⟩
    exact wpAny_pyNext_range_end hh (hv _ (.head _)) (Int.le_refl _) fun h' hx => k h' s.toks (Cg.one hx)
  | n + 1, x, left, e => by
    refine ⟨rfl, fun A s Q E hh hv hs k => ?_⟩
    have hi : IsRangeIter s.heap I x left c := hv _ (.head _)
    refine wpAny_pyNext_range_item hi (by omega) fun h' h1 h2 => k _ _ fun Q₁ E₁ hq => ?_
    refine letGo_no (s := { s with heap := h', toks := s.toks + 1 }) h1 rfl rfl ?_
    exact hq [(I, itR (x + c) (left - 1) c)] h' (s.toks + 1) (Cg.one h2.extBut) (fun p hp => by rcases List.mem_cons.mp hp with rfl | hp; exact h1; cases hp) R.lit (runs_rng n (x + c) (left - 1) (by omega))
theorem upto_rgD : ∀ (n i : Nat), upto i n = rgD i 1 n
  | 0, _ => rfl
  | n + 1, i => by rw [upto, rgD, upto_rgD n (i + 1)]; rfl
theorem downto_rgD : ∀ n : Nat, downto n = rgD (n - 1) (-1) n
  | 0 => rfl
  | n + 1 => by
    rw [downto, rgD, downto_rgD n]
    congr 2 <;> omega
theorem self_tup {I tl : Addr} {i : Nat} : SelfI prog w (.ref I) [(I, itT tl i)] := fun A s' Q E h q => by
  have hT : s'.TypeIs (.ref I) "tuple_iterator" := ⟨_, h _ (.head _), rfl⟩
  refine wpAny_pyIter_slot hT F.slot_tuple_iterator_iter (wpAny_call_entry F.slot_tuple_iterator_iter hT F.entry_tuple_iterator_iter ?_ (F.args_tuple_iterator_iter_1 _))
  show wpAny _ _ (ret (.ref I)) _ _ s'
  exact wpAny_pure ⟨_, rfl, "tuple_iterator", _, hT, F.slot_tuple_iterator_next.lookup, q⟩
theorem self_lst {I tl : Addr} {i : Nat} : SelfI prog w (.ref I) [(I, itL tl i)] := fun A s' Q E h q => wpAny_pyIter_listiter (l := tl) (i := i) ⟨_, h _ (.head _), rfl, rfl⟩ q
theorem self_rng {I : Addr} {x left c : Int} : SelfI prog w (.ref I) [(I, itR x left c)] := fun A s' Q E h q => by
  have hT : s'.TypeIs (.ref I) "range_iterator" := ⟨_, h _ (.head _), rfl⟩
  refine wpAny_pyIter_slot hT F.slot_range_iterator_iter (wpAny_call_entry F.slot_range_iterator_iter hT F.entry_range_iterator_iter ?_ (F.args_range_iterator_iter_1 _))
  show wpAny _ _ (ret (.ref I)) _ _ s'
  exact wpAny_pure ⟨_, rfl, "range_iterator", _, hT, F.slot_range_iterator_next.lookup, q⟩
end
end
section
noncomputable abbrev zipO (f : Value) (TI TO : Addr) : Obj := { cls := .type "zip", dict := none, data := .fields #[f, .bool false, .bool false, .ref TI, .ref TO], slots := #[] }
structure ZA (Z TO I J TI : Addr) : Prop where
  zt : Z ≠ TO
  zi : Z ≠ I
  zj : Z ≠ J
  ti : TO ≠ I
  tj : TO ≠ J
  ij : I ≠ J
  cz : TI ≠ Z
  ct : TI ≠ TO
  ci : TI ≠ I
  cj : TI ≠ J
section
variable {prog : Program} {w : World} {A : Around} {s : Shared} {E : Value → Shared → Prop}
theorem zip_item {Z TO I J TI u v : Addr} {i j : Nat} {xs ys : Array Value} {x y a b : Value} {Q : Option Value → Shared → Prop} (D : ZA Z TO I J TI)
    (hz : s.heap.get? Z = some (zipO .none TI TO)) (hc : s.heap.get? TI = some (tupN [.ref I, .ref J] 0)) (ho : s.heap.get? TO = some (tupN [a, b] 0))
    (hi : s.heap.get? I = some (itT u i)) (hj : s.heap.get? J = some (itT v j)) (hu : IsTup s.heap u xs) (hv : IsTup s.heap v ys) (uL : u ∉ [Z, TO, I, J]) (vL : v ∉ [Z, TO, I, J]) (hx : xs[i]? = some x) (hy : ys[j]? = some y)
    (hQ : ∀ T h', T = s.heap.objs.size → h'.get? Z = some (zipO (rawInt T) TI TO) → h'.get? TO = some (tupN [x, y] 0) → h'.get? I = some (itT u (i + 1)) → h'.get? J = some (itT v (j + 1)) → h'.get? T = some (tupN [x, y] 0) →
      Cg [Z, TO, I, J] s.heap h' → Q (some (.ref T)) { s with heap := h' }) : wpAny (model prog w) A (pyNext (.ref Z)) Q E s := by
  have hT : s.TypeIs (.ref Z) "zip" := ⟨_, hz, rfl⟩
  have at' : ∀ {h h' : Heap} {c : Addr} {u : Addr} {xs : Array Value}, Heap.SameBut c h h' → u ≠ c → IsTup h u xs → IsTup h' u xs := fun sb ne ⟨o, e, r⟩ => ⟨o, (sb.2 _ ne).trans e, r⟩
  have nz : ∀ {q : Addr}, q ∉ [Z, TO, I, J] → q ≠ Z ∧ q ≠ TO ∧ q ≠ I ∧ q ≠ J := fun h => by simp at h; exact h
  refine oAAA (nz uL) ?_; intro u1 u2 u3 u4
  refine oAAA (nz vL) ?_; intro v1 v2 v3 v4
  unfold pyNext
  refine wpAny_bind (wpAny_attempt (wpAny_callSpecial?_slot (name := Str.ofString "__next__") hT F.slot_zip_next
    (wpAny_call_entry F.slot_zip_next hT F.entry_zip_next ?_ (F.args_zip_next_1 _))))
  show wpAny _ _ (field (.ref Z) 2 >>= _) _ _ _
  refine wpAny_bind (wpAny_field hz rfl (x := .bool false) rfl ?_)
  show wpAny _ _ (field (.ref Z) 3 >>= _) _ _ _
  refine wpAny_bind (wpAny_field hz rfl (x := .ref TI) rfl ?_)
  refine wpAny_bind (wpAny_seqItems hc rfl ?_)
  show wpAny _ _ (Builtin.SmallTypes.ownedTupleIsFree (.ref Z) >>= _) _ _ _
  refine wpAny_bind ?_
  unfold Builtin.SmallTypes.ownedTupleIsFree
  refine wpAny_bind (wpAny_field hz rfl (x := .none) rfl (wpAny_pure ?_))
  simp only [if_true]
  refine wpAny_bind (wpAny_rule ?_)
  refine wpAny_bind (wpAny_field hz rfl (x := .ref TO) rfl ?_)
  refine wpAny_bind (wpAny_setField_rec hz (by simp) fun g₁ z₁ s₁ => ?_)
  replace z₁ : g₁.get? Z = some (zipO .ellipsis TI TO) := z₁
  refine wpAny_bind ?_
  simp only [List.zipIdx_cons, List.zipIdx_nil, List.forIn_cons, List.forIn_nil]
  refine wpAny_bind (wpAny_bind (wpAny_onRaise ?_))
  show wpAny _ _ (Builtin.SmallTypes.nextOf (.ref I) >>= _) _ _ _
  refine wpAny_bind (nextOf_item (s := { s with heap := g₁ }) ((s₁.2 _ D.zi.symm).trans hi) (at' s₁ u1 hu) hx fun g₂ i₂ s₂ => wpAny_pure ?_)
  have o₂ : g₂.get? TO = some (tupN [a, b] 0) := (s₂.2 _ D.ti).trans ((s₁.2 _ D.zt.symm).trans ho)
  refine wpAny_bind (wpAny_seqItems o₂ rfl ?_)
  refine wpAny_bind (wpAny_updateSeq_pair o₂ fun g₃ o₃ s₃ => ?_)
  replace o₃ : g₃.get? TO = some (tupN [x, b] 0) := o₃
  refine wpAny_bind (wpAny_letGo (wpAny_pure ?_))
  refine wpAny_bind (wpAny_bind (wpAny_onRaise ?_))
  show wpAny _ _ (Builtin.SmallTypes.nextOf (.ref J) >>= _) _ _ _
  refine wpAny_bind (nextOf_item (s := { s with heap := g₃ }) ((s₃.2 _ D.tj.symm).trans ((s₂.2 _ D.ij.symm).trans ((s₁.2 _ D.zj.symm).trans hj))) (at' s₃ v2 (at' s₂ v3 (at' s₁ v1 hv))) hy fun g₄ j₄ s₄ => wpAny_pure ?_)
  have o₄ : g₄.get? TO = some (tupN [x, b] 0) := (s₄.2 _ D.tj).trans o₃
  refine wpAny_bind (wpAny_seqItems o₄ rfl ?_)
  refine wpAny_bind (wpAny_updateSeq_pair o₄ fun g₅ o₅ s₅ => ?_)
  replace o₅ : g₅.get? TO = some (tupN [x, y] 0) := o₅
  refine wpAny_bind (wpAny_letGo (wpAny_pure (wpAny_pure ?_)))
  refine wpAny_bind (wpAny_seqItems o₅ rfl ?_)
  refine wpAny_bind (wpAny_newTuple ?_)
  have hsz : g₅.objs.size = s.heap.objs.size := by rw [s₅.1, s₄.1, s₃.1, s₂.1]; exact s₁.1
  have z₅ : g₅.get? Z = some (zipO .ellipsis TI TO) := (s₅.2 _ D.zt).trans ((s₄.2 _ D.zj).trans ((s₃.2 _ D.zt).trans ((s₂.2 _ D.zi).trans z₁)))
  have i₅ : g₅.get? I = some (itT u (i + 1)) := (s₅.2 _ D.ti.symm).trans ((s₄.2 _ D.ij).trans ((s₃.2 _ D.ti.symm).trans i₂))
  have j₅ : g₅.get? J = some (itT v (j + 1)) := (s₅.2 _ D.tj.symm).trans j₄
  have k₅ : Cg [Z, TO, I, J] s.heap g₅ := fun c o hc e => by
    refine oAAA (nz hc) ?_; intro c1 c2 c3 c4
    exact (s₅.2 _ c2).trans ((s₄.2 _ c4).trans ((s₃.2 _ c2).trans ((s₂.2 _ c3).trans ((s₁.2 _ c1).trans e))))
  have zlt : Z < g₅.objs.size := Heap.lt_size z₅
  show wpAny _ _ (Builtin.SmallTypes.ownedTupleHandOut (.ref Z) (.ref g₅.objs.size) >>= _) _ _ _
  refine wpAny_bind ?_
  unfold Builtin.SmallTypes.ownedTupleHandOut
  have z₆ : (g₅.push { cls := .type "tuple", data := .seq #[x, y] }).get? Z = some (zipO .ellipsis TI TO) := Heap.get?_push_of_some _ z₅
  refine wpAny_bind (wpAny_setField_rec z₆ (by simp) fun g₇ z₇ s₇ => ?_)
  replace z₇ : g₇.get? Z = some (zipO (rawInt g₅.objs.size) TI TO) := z₇
  refine wpAny_setField_rec z₇ (by simp) fun g₈ z₈ s₈ => ?_
  replace z₈ : g₈.get? Z = some (zipO (rawInt g₅.objs.size) TI TO) := z₈
  have up : ∀ c o, c ≠ Z → g₅.get? c = some o → g₈.get? c = some o := fun c o c1 e => (s₈.2 _ c1).trans ((s₇.2 _ c1).trans (Heap.get?_push_of_some _ e))
  have t₈ : g₈.get? g₅.objs.size = some (tupN [x, y] 0) := (s₈.2 _ (Nat.ne_of_gt zlt)).trans ((s₇.2 _ (Nat.ne_of_gt zlt)).trans (Heap.get?_push_size _ rfl))
  refine wpAny_pure ⟨_, rfl, wpAny_pure (hQ _ _ hsz z₈ (up _ _ D.zt.symm o₅) (up _ _ D.zi.symm i₅) (up _ _ D.zj.symm j₅) t₈ fun c o hc e => ?_)⟩
  exact up c o (nz hc).1 (k₅ c o hc e)
theorem zip_end {Z TO I J TI u : Addr} {i : Nat} {xs : Array Value} {a b : Value} {Q : Option Value → Shared → Prop} (hh : A.handled = none) (D : ZA Z TO I J TI)
    (hz : s.heap.get? Z = some (zipO .none TI TO)) (hc : s.heap.get? TI = some (tupN [.ref I, .ref J] 0)) (ho : s.heap.get? TO = some (tupN [a, b] 0))
    (hi : s.heap.get? I = some (itT u i)) (hu : IsTup s.heap u xs) (uL : u ∉ [Z, TO, I, J]) (hx : xs[i]? = none)
    (hQ : ∀ h', Cg [Z, TO, I, J] s.heap h' → Q none { s with heap := h' }) : wpAny (model prog w) A (pyNext (.ref Z)) Q E s := by
  have hT : s.TypeIs (.ref Z) "zip" := ⟨_, hz, rfl⟩
  have at' : ∀ {h h' : Heap} {c : Addr} {u : Addr} {xs : Array Value}, Heap.SameBut c h h' → u ≠ c → IsTup h u xs → IsTup h' u xs := fun sb ne ⟨o, e, r⟩ => ⟨o, (sb.2 _ ne).trans e, r⟩
  have nz : ∀ {q : Addr}, q ∉ [Z, TO, I, J] → q ≠ Z ∧ q ≠ TO ∧ q ≠ I ∧ q ≠ J := fun h => by simp at h; exact h
  refine oAAA (nz uL) ?_; intro u1 u2 u3 u4
  unfold pyNext
  refine wpAny_bind (wpAny_attempt (wpAny_callSpecial?_slot (name := Str.ofString "__next__") hT F.slot_zip_next
    (wpAny_call_entry F.slot_zip_next hT F.entry_zip_next ?_ (F.args_zip_next_1 _))))
  show wpAny _ _ (field (.ref Z) 2 >>= _) _ _ _
  refine wpAny_bind (wpAny_field hz rfl (x := .bool false) rfl ?_)
  show wpAny _ _ (field (.ref Z) 3 >>= _) _ _ _
  refine wpAny_bind (wpAny_field hz rfl (x := .ref TI) rfl ?_)
  refine wpAny_bind (wpAny_seqItems hc rfl ?_)
  show wpAny _ _ (Builtin.SmallTypes.ownedTupleIsFree (.ref Z) >>= _) _ _ _
  refine wpAny_bind ?_
  unfold Builtin.SmallTypes.ownedTupleIsFree
  refine wpAny_bind (wpAny_field hz rfl (x := .none) rfl (wpAny_pure ?_))
  simp only [if_true]
  refine wpAny_bind (wpAny_rule ?_)
  refine wpAny_bind (wpAny_field hz rfl (x := .ref TO) rfl ?_)
  refine wpAny_bind (wpAny_setField_rec hz (by simp) fun g₁ z₁ s₁ => ?_)
  replace z₁ : g₁.get? Z = some (zipO .ellipsis TI TO) := z₁
  refine wpAny_bind ?_
  simp only [List.zipIdx_cons, List.zipIdx_nil, List.forIn_cons, List.forIn_nil]
  refine wpAny_bind (wpAny_bind (wpAny_onRaise ?_))
  show wpAny _ _ (Builtin.SmallTypes.nextOf (.ref I) >>= _) _ _ _
  refine wpAny_bind (nextOf_end (s := { s with heap := g₁ }) hh ((s₁.2 _ D.zi.symm).trans hi) (at' s₁ u1 hu) hx fun g₂ e s₂ he => ?_)
  refine oEA he ?_; clear he; intro oe hoe hce
  have z₂ : g₂.get? Z = some (zipO .ellipsis TI TO) := s₂ _ _ D.zi z₁
  have ez : e ≠ Z := fun x => by subst x; rw [z₂] at hoe; cases hoe; simp at hce
  refine wpAny_setField_rec z₂ (by simp) fun g₃ _ s₃ => ?_
  refine wpAny_bind (wpAny_isInstance (T := "StopIteration") (b := true) ⟨oe, s₃.extBut _ _ ez hoe, hce⟩ isSubtype_stop ?_)
  refine wpAny_pure (hQ g₃ fun c o hc x => ?_)
  refine oAAA (nz hc) ?_; intro c1 c2 c3 c4
  exact s₃.extBut _ _ c1 (s₂ _ _ c3 (s₁.extBut _ _ c1 x))
theorem runs_zip {Z TO I J TI u v : Addr} {es : List Expr} {x1 : Nat} {pos : Pos} {xs ys : List Value} {m n : Nat} {src : Fm} (D : ZA Z TO I J TI) (hc : src TI (tupN [.ref I, .ref J] 0)) (hu : src u (tupN xs m)) (hv : src v (tupN ys n)) (uL : u ∉ [Z, TO, I, J]) (vL : v ∉ [Z, TO, I, J]) :
    ∀ {ds es' : List Dat} {us vs : List Value} {a b : Value} (i j : Nat), ds.length = es'.length → RL src ds us → RL src es' vs → xs.drop i = us → ys.drop j = vs →
      Runs prog w (.ref Z) (.Tuple es x1 pos) [Z, TO, I, J] src (zipD ds es') [(Z, zipO .none TI TO), (TO, tupN [a, b] 0), (I, itT u i), (J, itT v j)]
  | [], [], us, vs, a, b, i, j, hl, r1, r2, e1, e2 => by
    rw [r1.get0] at e1
    refine ⟨rfl, fun A s Q E hh hv' hs k => ?_⟩
    exact zip_end hh D (hv' _ (.head _)) (hs _ _ hc) (hv' _ (.tail _ (.head _))) (hv' _ (.tail _ (.tail _ (.head _)))) ⟨_, hs _ _ hu, rfl, m, rfl⟩ uL (by simpa using drop_nil e1) fun h' hx => k h' s.toks hx
  | [], _ :: _, _, _, _, _, _, _, hl, _, _, _, _ => nomatch hl
  | _ :: _, [], _, _, _, _, _, _, hl, _, _, _, _ => nomatch hl
  | d :: ds, e' :: es', us, vs, a, b, i, j, hl, r1, r2, e1, e2 => by
    refine oEEAA r1.get2 ?_; rintro q us' rfl q1 q2
    refine oEEAA r2.get2 ?_; rintro r vs' rfl p1 p2
    refine oA (drop_cons e1) ?_; intro f1 f2
    refine oA (drop_cons e2) ?_; intro g1 g2
    refine ⟨rfl, fun A s Q E hh hv' hs k => ?_⟩
    refine zip_item D (hv' _ (.head _)) (hs _ _ hc) (hv' _ (.tail _ (.head _))) (hv' _ (.tail _ (.tail _ (.head _)))) (hv' _ (.tail _ (.tail _ (.tail _ (.head _))))) ⟨_, hs _ _ hu, rfl, m, rfl⟩ ⟨_, hs _ _ hv, rfl, n, rfl⟩ uL vL (by simpa using f1) (by simpa using g1) fun T h' hT z o i1 j1 t kk => k _ _ fun Q₁ E₁ hq => ?_
    refine wpAny_letOwnedTupleGo_zip (s := { s with heap := h' }) z fun h'' z' sb => ?_
    have tz : T ≠ Z := by rw [hT]; exact Nat.ne_of_gt (Heap.lt_size (hv' _ (.head _)))
    refine hq [(Z, zipO .none TI TO), (TO, tupN [q, r] 0), (I, itT u (i + 1)), (J, itT v (j + 1))] h'' s.toks (fun c o hc e => (sb.2 _ (fun z => hc (by rw [z]; exact .head _))).trans (kk c o hc e)) ?_ ?_ (runs_zip D hc hu hv uL vL (i + 1) (j + 1) (Nat.succ.inj hl) q2 p2 f2 g2)
    · intro p hp
      rcases List.mem_cons.mp hp with rfl | hp
      · exact z'
      rcases List.mem_cons.mp hp with rfl | hp
      · exact (sb.2 _ D.zt.symm).trans o
      rcases List.mem_cons.mp hp with rfl | hp
      · exact (sb.2 _ D.zi.symm).trans i1
      rcases List.mem_cons.mp hp with rfl | hp
      · exact (sb.2 _ D.zj.symm).trans j1
      · cases hp
    · exact R.tup (n := 0) (.inr ⟨(sb.2 _ tz).trans t, by rw [hT]; exact Nat.le_refl _⟩) (.cn (R.mono (fun _ _ x => .inl x) _ q1) (.cn (R.mono (fun _ _ x => .inl x) _ p1) .nl))
noncomputable abbrev zt1 (h : Heap) (u : Addr) : Heap := h.push (itT u 0)
noncomputable abbrev zt2 (h : Heap) (u v : Addr) : Heap := (zt1 h u).push (itT v 0)
noncomputable abbrev zt3 (h : Heap) (u v : Addr) : Heap := (zt2 h u v).push (tupN [.ref h.objs.size, .ref (zt1 h u).objs.size] 0)
noncomputable abbrev zt4 (h : Heap) (u v : Addr) : Heap := (zt3 h u v).push (tupN [.none, .none] 0)
noncomputable abbrev zt5 (h : Heap) (u v : Addr) : Heap := (zt4 h u v).push (zipO .none (zt2 h u v).objs.size (zt3 h u v).objs.size)
theorem zip_new (u v : Addr) (xs ys : Array Value) :
    Meets (Builtin.«zip.__new__» ⟨[.type "zip", .ref u, .ref v], []⟩) (fun _ R s => IsTup s.heap u xs ∧ IsTup s.heap v ys ∧ R (.ok (.ret (.ref (zt4 s.heap u v).objs.size))) { s with heap := zt5 s.heap u v }) :=
  .of_wp fun prog w A R s h => by
    obtain ⟨hp, g, d, tk, os⟩ := s; refine oAA h ?_; clear h; intro hl1 hl2 h
    have hsub := sub_zip
    have hL1 : Heap.IsTuple (Shared.heap ⟨hp, g, d, tk, os⟩) u xs := hl1
    have hL2 : Heap.IsTuple (Shared.heap ⟨hp.push { cls := .type "tuple_iterator", data := .fields #[.ref u, .int 0 0] }, g, d, tk, os⟩) v ys := by refine oEA hl2 ?_; clear hl2; intro o e r; exact ⟨o, Heap.get?_push_of_some _ e, r⟩
    wp_walk using wpAny_pyIter_tuple hL1, wpAny_pyIter_tuple hL2
    exact ⟨_, rfl, h⟩
theorem call_zipT {u v : Addr} {xs ys : Array Value} {Q : Value → Shared → Prop} (hu : IsTup s.heap u xs) (hv : IsTup s.heap v ys)
    (h : ∀ N h', N = s.heap.objs.size → h'.get? (N + 4) = some (zipO .none (N + 2) (N + 3)) → h'.get? (N + 2) = some (tupN [.ref N, .ref (N + 1)] 0) → h'.get? (N + 3) = some (tupN [.none, .none] 0) → h'.get? N = some (itT u 0) → h'.get? (N + 1) = some (itT v 0) →
      Kp s.heap h' → Q (.ref (N + 4)) { s with heap := h' }) : wpAny (model prog w) A (call (.type "zip") [.ref u, .ref v]) Q E s := by
  refine callType_new F.called_zip (by decide) (F.typeCall_zip_2 _ _) (F.newCall_zip_2 _ _) (fun obj => F.args_object_init_3 obj _ _) F.entry_zip_new (zip_new u v xs ys) ⟨hu, hv, ?_⟩
  have z1 : (zt1 s.heap u).objs.size = s.heap.objs.size + 1 := Heap.size_push ..
  have z2 : (zt2 s.heap u v).objs.size = s.heap.objs.size + 2 := by rw [Heap.size_push, z1]
  have z3 : (zt3 s.heap u v).objs.size = s.heap.objs.size + 3 := by rw [Heap.size_push, z2]
  have z4 : (zt4 s.heap u v).objs.size = s.heap.objs.size + 4 := by rw [Heap.size_push, z3]
  have g5 : (zt5 s.heap u v).get? (zt4 s.heap u v).objs.size = some _ := Heap.get?_push_size _ rfl
  have g4 : (zt5 s.heap u v).get? (zt3 s.heap u v).objs.size = some _ := Heap.get?_push_of_some _ (Heap.get?_push_size _ rfl)
  have g3 : (zt5 s.heap u v).get? (zt2 s.heap u v).objs.size = some _ := Heap.get?_push_of_some _ (Heap.get?_push_of_some _ (Heap.get?_push_size _ rfl))
  have g2 : (zt5 s.heap u v).get? (zt1 s.heap u).objs.size = some _ := Heap.get?_push_of_some _ (Heap.get?_push_of_some _ (Heap.get?_push_of_some _ (Heap.get?_push_size _ rfl)))
  have g1 : (zt5 s.heap u v).get? s.heap.objs.size = some _ := Heap.get?_push_of_some _ (Heap.get?_push_of_some _ (Heap.get?_push_of_some _ (Heap.get?_push_of_some _ (Heap.get?_push_size _ rfl))))
  show _ ∧ _
  rw [z2, z3, z4] at g5
  rw [z1, z2] at g3
  rw [z3] at g4
  rw [z1] at g2
  rw [z4]
  exact ⟨⟨_, g5, rfl⟩, h _ _ rfl g5 g3 g4 g1 g2 fun c o x => Heap.get?_push_of_some _ (Heap.get?_push_of_some _ (Heap.get?_push_of_some _ (Heap.get?_push_of_some _ (Heap.get?_push_of_some _ x))))⟩
end
end
section
noncomputable abbrev enumO (f fl : Value) (it : Addr) (i : Int) (old : Value) : Obj := { cls := .type "enumerate", dict := none, data := .fields #[f, fl, .ref it, rawInt i, .none, old], slots := #[] }
noncomputable def FrO (f : Value) : Prop := f = .none ∨ ∃ a : Nat, f = rawInt a
theorem enum_no_len : typeLookup (.type "enumerate") "__len__" = pure none := by rw [typeLookup_type, builtinLookup_eq_fast]; kernel_rfl
theorem enum_no_hint : typeLookup (.type "enumerate") "__length_hint__" = pure none := by rw [typeLookup_type, builtinLookup_eq_fast]; kernel_rfl
section
variable {prog : Program} {w : World} {A : Around} {s : Shared} {E : Value → Shared → Prop}
theorem free_any {e : Addr} {f fl : Value} {it : Addr} {i : Int} {old : Value} {Q : Bool → Shared → Prop} (he : s.heap.get? e = some (enumO f fl it i old)) (hf : FrO f)
    (h1 : Q true s) (h2 : ∀ h' fl', h'.get? e = some (enumO f fl' it i old) → Heap.SameBut e s.heap h' → Q false { s with heap := h' }) : wpAny (model prog w) A (Builtin.SmallTypes.ownedTupleIsFree (.ref e)) Q E s := by
  unfold Builtin.SmallTypes.ownedTupleIsFree
  rcases hf with rfl | ⟨a, rfl⟩
  · exact wpAny_bind (wpAny_field he rfl (x := .none) rfl (wpAny_pure h1))
  · refine wpAny_bind (wpAny_field he rfl (x := rawInt a) rfl ?_)
    show wpAny _ _ (loadIfAlive (Int.toNat a) >>= _) _ _ _
    refine wpAny_bind (m := loadIfAlive (Int.toNat a)) (fun Γ p hΓ => ?_)
    show Sem.wp _ Γ (.loadIfAlive _ .pure) _ _ p s
    rw [Sem.wp_loadIfAlive]
    refine (Sem.wp_pure ..).mpr ?_
    cases c : s.heap.get? (Int.toNat a) with
    | none =>
      simp only [Option.isNone_none, if_true]
      exact wpAny_pure h1
    | some o =>
      simp only [Option.isNone_some, Bool.false_eq_true, if_false]
      refine wpAny_bind (wpAny_field he rfl (x := fl) rfl ?_)
      by_cases q : (fl != .bool true) = true
      · rw [if_pos q]
        refine wpAny_bind (wpAny_setField_rec he (by simp) fun h' z' s' => wpAny_pure (h2 h' (.bool true) z' s'))
      · rw [if_neg q]
        exact wpAny_bind (wpAny_pure (wpAny_pure (h2 s.heap fl he ⟨rfl, fun _ _ => rfl⟩)))
theorem enum_item {e it u : Addr} {f fl old x : Value} {i : Nat} {xs : Array Value} {Q : Option Value → Shared → Prop} (hf : FrO f) (ne : e ≠ it) (uL : u ∉ [e, it])
    (he : s.heap.get? e = some (enumO f fl it i old)) (hi : s.heap.get? it = some (itT u i)) (hu : IsTup s.heap u xs) (hx : xs[i]? = some x)
    (hQ : ∀ T h' f' fl' old', T = s.heap.objs.size → FrO f' → h'.get? e = some (enumO f' fl' it ((i : Int) + 1) old') → h'.get? it = some (itT u (i + 1)) → h'.get? T = some (tupN [.int i s.toks, x] 0) → Cg [e, it] s.heap h' → Q (some (.ref T)) { s with heap := h', toks := s.toks + 1 }) :
    wpAny (model prog w) A (pyNext (.ref e)) Q E s := by
  have hT : s.TypeIs (.ref e) "enumerate" := ⟨_, he, rfl⟩
  obtain ⟨hp, g, d, tk, os⟩ := s
  unfold pyNext
  refine wpAny_bind (wpAny_attempt (wpAny_callSpecial?_slot (name := Str.ofString "__next__") hT F.slot_enumerate_next
    (wpAny_call_entry F.slot_enumerate_next hT F.entry_enumerate_next ?_ (F.args_enumerate_next_1 _))))
  show wpAny _ _ (field (.ref e) 2 >>= _) _ _ _
  refine wpAny_bind (wpAny_field he rfl (x := .ref it) rfl ?_)
  refine wpAny_bind (nextOf_item hi hu hx fun g₁ i₁ s₁ => ?_)
  replace s₁ : Heap.SameBut it hp g₁ := s₁
  have e₁ : g₁.get? e = some (enumO f fl it i old) := (s₁.2 e ne).trans he
  show wpAny _ _ (field (.ref e) 3 >>= _) _ _ ⟨g₁, g, d, tk, os⟩
  refine wpAny_bind (wpAny_field e₁ rfl (x := rawInt i) rfl ?_)
  show wpAny _ _ (field (.ref e) 4 >>= _) _ _ ⟨g₁, g, d, tk, os⟩
  refine wpAny_bind (wpAny_field e₁ rfl (x := .none) rfl ?_)
  show wpAny _ _ (mkInt i >>= _) _ _ ⟨g₁, g, d, tk, os⟩
  refine wpAny_bind (wpAny_mkInt ?_)
  show wpAny _ _ (setField (.ref e) 3 (rawInt ((i : Int) + 1)) >>= _) _ _ ⟨g₁, g, d, tk + 1, os⟩
  refine wpAny_bind (wpAny_setField_rec e₁ (by simp) fun g₂ e₂ s₂ => ?_)
  replace s₂ : Heap.SameBut e g₁ g₂ := s₂
  replace e₂ : g₂.get? e = some (enumO f fl it ((i : Int) + 1) old) := e₂
  show wpAny _ _ (setField (.ref e) 4 .none >>= _) _ _ ⟨g₂, g, d, tk + 1, os⟩
  refine wpAny_bind (wpAny_setField_rec e₂ (by simp) fun g₃ e₃ s₃ => ?_)
  replace s₃ : Heap.SameBut e g₂ g₃ := s₃
  replace e₃ : g₃.get? e = some (enumO f fl it ((i : Int) + 1) old) := e₃
  show wpAny _ _ (newTuple [.int i tk, x] >>= _) _ _ ⟨g₃, g, d, tk + 1, os⟩
  refine wpAny_bind (wpAny_newTuple ?_)
  have e₄ : (g₃.push { cls := .type "tuple", data := .seq #[.int i tk, x] }).get? e = some (enumO f fl it ((i : Int) + 1) old) := Heap.get?_push_of_some _ e₃
  have hsz : g₃.objs.size = hp.objs.size := by rw [s₃.1, s₂.1]; exact s₁.1
  have el : e < hp.objs.size := Heap.lt_size he
  have t₄ : (g₃.push { cls := .type "tuple", data := .seq #[.int i tk, x] }).get? hp.objs.size = some (tupN [.int i tk, x] 0) := by rw [← hsz]; exact Heap.get?_push_size _ rfl
  have k₄ : Cg [e, it] hp (g₃.push { cls := .type "tuple", data := .seq #[.int i tk, x] }) := fun b o hb h => by
    have hb : b ≠ e ∧ b ≠ it := by simp at hb; exact hb
    exact Heap.get?_push_of_some _ ((s₃.2 b hb.1).trans ((s₂.2 b hb.1).trans ((s₁.2 b hb.2).trans h)))
  have i₄ : (g₃.push { cls := .type "tuple", data := .seq #[.int i tk, x] }).get? it = some (itT u (i + 1)) := Heap.get?_push_of_some _ ((s₃.2 it (Ne.symm ne)).trans ((s₂.2 it (Ne.symm ne)).trans i₁))
  generalize g₃.push { cls := .type "tuple", data := .seq #[.int i tk, x] } = g₄ at e₄ t₄ k₄ i₄
  show wpAny _ _ (Builtin.SmallTypes.ownedTupleIsFree (.ref e) >>= _) _ _ ⟨g₄, g, d, tk + 1, os⟩
  rw [hsz]
  have fin : ∀ h' f' fl' old', FrO f' → h'.get? e = some (enumO f' fl' it ((i : Int) + 1) old') → Heap.ExtBut e g₄ h' → Q (some (.ref hp.objs.size)) ⟨h', g, d, tk + 1, os⟩ := fun h' f' fl' old' a b c =>
    hQ _ h' f' fl' old' rfl a b (c _ _ (Ne.symm ne) i₄) (c _ _ (Nat.ne_of_gt el) t₄) fun b o hb h => c b o (fun q => hb (by simp [q])) (k₄ b o hb h)
  refine wpAny_bind (free_any (s := ⟨g₄, g, d, tk + 1, os⟩) e₄ hf ?_ fun h' fl' a b => ?_)
  · simp only [if_true]
    refine wpAny_bind (wpAny_rule ?_)
    refine wpAny_bind (wpAny_field e₄ rfl (x := old) rfl ?_)
    refine wpAny_bind (wpAny_setField_rec e₄ (by simp) fun g₅ e₅ s₅ => ?_)
    replace s₅ : Heap.SameBut e g₄ g₅ := s₅
    replace e₅ : g₅.get? e = some (enumO f fl it ((i : Int) + 1) x) := e₅
    show wpAny _ _ (Builtin.SmallTypes.ownedTupleHandOut (.ref e) (.ref hp.objs.size) >>= _) _ _ ⟨g₅, g, d, tk + 1, os⟩
    refine wpAny_bind ?_
    unfold Builtin.SmallTypes.ownedTupleHandOut
    refine wpAny_bind (wpAny_setField_rec e₅ (by simp) fun g₆ e₆ s₆ => ?_)
    replace s₆ : Heap.SameBut e g₅ g₆ := s₆
    replace e₆ : g₆.get? e = some (enumO (rawInt hp.objs.size) fl it ((i : Int) + 1) x) := e₆
    refine wpAny_setField_rec e₆ (by simp) fun g₇ e₇ s₇ => ?_
    replace s₇ : Heap.SameBut e g₆ g₇ := s₇
    replace e₇ : g₇.get? e = some (enumO (rawInt hp.objs.size) (.bool false) it ((i : Int) + 1) x) := e₇
    refine wpAny_bind (wpAny_letGo (wpAny_pure ⟨_, rfl, wpAny_pure ?_⟩))
    exact fin g₇ _ _ _ (.inr ⟨_, rfl⟩) e₇ fun b o hb h => s₇.extBut b o hb (s₆.extBut b o hb (s₅.extBut b o hb h))
  · simp only [Bool.false_eq_true, if_false]
    exact wpAny_bind (wpAny_pure (wpAny_pure ⟨_, rfl, wpAny_pure (fin h' f fl' old hf a b.extBut)⟩))
theorem enum_end {e it u : Addr} {f fl old : Value} {i : Nat} {xs : Array Value} {Q : Option Value → Shared → Prop} (hh : A.handled = none) (he : s.heap.get? e = some (enumO f fl it i old)) (hi : s.heap.get? it = some (itT u i)) (hu : IsTup s.heap u xs) (hx : xs[i]? = none)
    (hQ : ∀ h', Heap.ExtBut it s.heap h' → Q none { s with heap := h' }) : wpAny (model prog w) A (pyNext (.ref e)) Q E s := by
  have hT : s.TypeIs (.ref e) "enumerate" := ⟨_, he, rfl⟩
  unfold pyNext
  refine wpAny_bind (wpAny_attempt (wpAny_callSpecial?_slot (name := Str.ofString "__next__") hT F.slot_enumerate_next
    (wpAny_call_entry F.slot_enumerate_next hT F.entry_enumerate_next ?_ (F.args_enumerate_next_1 _))))
  show wpAny _ _ (field (.ref e) 2 >>= _) _ _ _
  refine wpAny_bind (wpAny_field he rfl (x := .ref it) rfl ?_)
  refine wpAny_bind (nextOf_end hh hi hu hx fun h' x hk hx' => ?_)
  refine oEA hx' ?_; clear hx'; intro o ho hc
  refine wpAny_bind (wpAny_isInstance (T := "StopIteration") (b := true) ⟨o, ho, hc⟩ isSubtype_stop ?_)
  exact wpAny_pure (hQ _ hk)
theorem letGo_enum {e it T : Addr} {f fl old : Value} {i : Int} {t : Expr} {Q : Unit → Shared → Prop} (hf : FrO f) (he : s.heap.get? e = some (enumO f fl it i old))
    (hQ : ∀ h' f', FrO f' → h'.get? e = some (enumO f' fl it i old) → Heap.SameBut e s.heap h' → Q () { s with heap := h' }) : wpAny (model prog w) A (letOwnedTupleGo t (.ref e) (.ref T)) Q E s := by
  have no : Q () s := hQ s.heap f hf he ⟨rfl, fun _ _ => rfl⟩
  have go : wpAny (model prog w) A (do
      let o ← load e
      match o.cls, o.data with
      | .type n, .fields vs =>
        if ["enumerate", "zip", "dict_itemiterator", "dict_reverseitemiterator", "odict_iterator", "itertools.zip_longest", "itertools.pairwise"].contains n && vs[0]? == some (rawInt T) then
          rule "for.unpacks-the-owned-tuple"
          updateField e 0 .none
      | _, _ => pure ()) Q E s := by
    refine wpAny_bind (wpAny_load he ?_)
    show wpAny _ A (if (["enumerate", "zip", "dict_itemiterator", "dict_reverseitemiterator", "odict_iterator", "itertools.zip_longest", "itertools.pairwise"].contains "enumerate" &&
      (#[f, fl, .ref it, rawInt i, .none, old] : Array Value)[0]? == some (rawInt T)) = true then _ else _) Q E s
    split
    · refine wpAny_bind (wpAny_rule ?_)
      show wpAny _ A (setField (.ref e) 0 .none) Q E s
      exact wpAny_setField_rec he (by simp) fun h' he' hs' => hQ h' .none (.inl rfl) he' hs'
    · exact wpAny_pure no
  unfold letOwnedTupleGo
  split
  · exact go
  · exact go
  · exact wpAny_pure no
theorem runs_enum {e it u : Addr} {t : Expr} {xs : List Value} {m : Nat} {src : Fm} (ne : e ≠ it) (uL : u ∉ [e, it]) (hu : src u (tupN xs m)) :
    ∀ {ds : List Dat} {us : List Value} {f fl old : Value} (i : Nat), FrO f → RL src ds us → xs.drop i = us → Runs prog w (.ref e) t [e, it] src (enumD i ds) [(e, enumO f fl it i old), (it, itT u i)]
  | [], us, f, fl, old, i, hf, r, q => by
    rw [r.get0] at q
    refine ⟨rfl, fun A s Q E hh hv hs k => ?_⟩
    exact enum_end hh (hv _ (.head _)) (hv _ (.tail _ (.head _))) ⟨_, hs _ _ hu, rfl, m, rfl⟩ (by simpa using drop_nil q) fun h' hx => k h' s.toks fun b o hb => hx b o fun z => hb (by simp [z])
  | d :: ds, us, f, fl, old, i, hf, r, q => by
    refine oEEAA r.get2 ?_; rintro x us' rfl r1 r2
    refine oA (drop_cons q) ?_; intro q1 q2
    refine ⟨rfl, fun A s Q E hh hv hs k => ?_⟩
    refine enum_item hf ne uL (hv _ (.head _)) (hv _ (.tail _ (.head _))) ⟨_, hs _ _ hu, rfl, m, rfl⟩ (by simpa using q1) fun T h' f' fl' old' hT hf' he hi ht kk => k _ _ fun Q₁ E₁ hq => ?_
    refine letGo_enum (s := { s with heap := h', toks := s.toks + 1 }) hf' he fun h'' f'' hf'' he'' sb => ?_
    have te : T ≠ e := by rw [hT]; exact Nat.ne_of_gt (Heap.lt_size (hv _ (.head _)))
    have R1 := runs_enum (t := t) (f := f'') (fl := fl') (old := old') ne uL hu (i + 1) hf'' r2 q2
    refine hq [(e, enumO f'' fl' it ((i + 1 : Nat) : Int) old'), (it, itT u (i + 1))] h'' (s.toks + 1) (fun b o hb h => (sb.2 b fun z => hb (by rw [z]; exact .head _)).trans (kk b o hb h)) ?_ ?_ R1
    · intro p hp
      rcases List.mem_cons.mp hp with rfl | hp
      · exact he''
      rcases List.mem_cons.mp hp with rfl | hp
      · exact (sb.2 _ (Ne.symm ne)).trans hi
      · cases hp
    · exact R.tup (n := 0) (.inr ⟨(sb.2 _ te).trans ht, by rw [hT]; exact Nat.le_refl _⟩) (.cn R.lit (.cn (R.mono (fun _ _ x => .inl x) _ r1) .nl))
theorem self_enum {e it : Addr} {f fl old : Value} {i : Int} {o1 : Obj} : SelfI prog w (.ref e) [(e, enumO f fl it i old), (it, o1)] := fun A s' Q E h q => by
  have hT : s'.TypeIs (.ref e) "enumerate" := ⟨_, h _ (.head _), rfl⟩
  refine wpAny_pyIter_slot hT F.slot_enumerate_iter (wpAny_call_entry F.slot_enumerate_iter hT F.entry_enumerate_iter ?_ (F.args_enumerate_iter_1 _))
  show wpAny _ _ (ret (.ref e)) _ _ s'
  exact wpAny_pure ⟨_, rfl, "enumerate", _, hT, F.slot_enumerate_next.lookup, q⟩
set_option tactic.hygienic true in
theorem enum_new (u : Addr) (items : Array Value) (n : Nat) :
    Meets (Builtin.«enumerate.__new__» ⟨[.type "enumerate", .ref u], []⟩) (fun _ R s => s.heap.get? u = some { cls := .type "tuple", dict := none, data := .seq items n, slots := #[] } ∧
      R (.ok (.ret (.ref (s.heap.push { cls := .type "tuple_iterator", data := .fields #[.ref u, .int 0 0] }).objs.size)))
        { s with heap := (s.heap.push { cls := .type "tuple_iterator", data := .fields #[.ref u, .int 0 0] }).push { cls := .type "enumerate", data := .fields #[.none, .bool false, .ref s.heap.objs.size, rawInt 0, .none, .none] } }) :=
  .of_wp fun prog w A R s h => by
    obtain ⟨hp, g, d, tk, os⟩ := s; refine oA h ?_; clear h; intro hl h
    have hsub := sub_enumerate
    have hL : Heap.IsTuple (Shared.heap ⟨hp, g, d, tk, os⟩) u items := ⟨_, hl, rfl, n, rfl⟩
    wp_walk using AutoSeq1.wpAny_loadPart' hl
    refine wpAny_stack_any fun st => wpAny_pure ?_
    split
    · rename_i c _ _ _ _ _
      cases (c == Value.type "enumerate")
      · wp_walk using AutoSeq1.wpAny_loadPart' hl, wpAny_pyIter_tuple hL
        exact ⟨_, rfl, h⟩
      · wp_walk using AutoSeq1.wpAny_loadPart' hl, wpAny_pyIter_tuple hL
        exact ⟨_, rfl, h⟩
    · wp_walk using AutoSeq1.wpAny_loadPart' hl, wpAny_pyIter_tuple hL
      exact ⟨_, rfl, h⟩
theorem call_enumT {u : Addr} {xs : List Value} {n : Nat} {Q : Value → Shared → Prop} (hu : s.heap.get? u = some (tupN xs n))
    (h : ∀ N h', N = s.heap.objs.size → h'.get? (N + 1) = some (enumO .none (.bool false) N 0 .none) → h'.get? N = some (itT u 0) → Kp s.heap h' → Q (.ref (N + 1)) { s with heap := h' }) : wpAny (model prog w) A (call (.type "enumerate") [.ref u]) Q E s := by
  refine callType_new F.called_enumerate (by decide) (F.typeCall_enumerate_1 _) (F.newCall_enumerate_1 _) (fun obj => F.args_object_init_2 obj _) F.entry_enumerate_new (enum_new u xs.toArray n) ⟨hu, ?_⟩
  have hz : (s.heap.push { cls := .type "tuple_iterator", data := .fields #[.ref u, .int 0 0] }).objs.size = s.heap.objs.size + 1 := Heap.size_push ..
  show _ ∧ _
  rw [hz]
  have he := Heap.get?_push_size (s.heap.push { cls := .type "tuple_iterator", data := .fields #[.ref u, .int 0 0] })
      (o := { cls := .type "enumerate", data := .fields #[.none, .bool false, .ref s.heap.objs.size, rawInt 0, .none, .none] }) rfl
  rw [hz] at he
  exact ⟨⟨_, he, rfl⟩, h _ _ rfl he (Heap.get?_push_of_some _ (Heap.get?_push_size _ rfl)) fun b o x => Heap.get?_push_of_some _ (Heap.get?_push_of_some _ x)⟩
end
end
section
noncomputable def anyP : Pos := ⟨0, 0, 0, 0⟩
section
variable {prog : Program} {w : World} {A : Around} {s : Shared} {E : Value → Shared → Prop}
theorem ext_loop {I res : Value} {S : Addr} {L : List Addr} {src : Fm} {R' : Result → Shared → Prop} (hh : A.handled = none) (SL : S ∉ L) (sL : ∀ a o, src a o → a ∉ S :: L) {O : AP} (sO : ∀ a o, src a o → ¬ O a) :
    ∀ (items : List Dat) (own : Ow) (s : Shared) (done : List Dat) (acc : List Value) (c : Nat) (ψ : Fm), Runs prog w I (.Name "x" anyP) L src items own → Hv own s.heap → (∀ a o, src a o → s.heap.get? a = some o) → s.heap.get? S = some (lstN acc c) → RL ψ done acc →
      (∀ a o, ψ a o → s.heap.get? a = some o ∧ a ∉ S :: L ∧ ¬ O a) → (∀ a, O a → ∃ o, s.heap.get? a = some o) → done.length + items.length ≤ 1000 →
      (∀ h' t' vs n ψ', Cg (S :: L) s.heap h' → h'.get? S = some (lstN vs n) → RL ψ' (done ++ items) vs → (∀ a o, ψ' a o → h'.get? a = some o ∧ a ∉ S :: L ∧ ¬ O a) → R' (.ok (.ret res)) { s with heap := h', toks := t' }) →
      codeAny (model prog w) A (.builtin "list.extend.loop" ⟨[.ref S, I, res], []⟩) R' s
  | [], own, s, done, acc, c, ψ, ru, hv, hs, hS, ra, hψ, hO, hl, k => by
    refine codeAny_builtin F.entry_extend_loop ?_
    rw [Around.under_plainId F.plain_extend_loop _]
    show wpAny _ A.in1 (pyNext I >>= _) _ _ s
    refine wpAny_bind (ru.2 A.in1 s _ _ hh hv hs fun h' t' kk => ?_)
    have up : ∀ a o, a ∉ S :: L → s.heap.get? a = some o → h'.get? a = some o := fun a o ha e => kk a o (fun q => ha (.tail _ q)) e
    exact wpAny_pure (k h' t' acc c ψ up (kk _ _ SL hS) (by rw [List.append_nil]; exact ra) fun a o q => ⟨up a o (hψ a o q).2.1 (hψ a o q).1, (hψ a o q).2⟩)
  | d :: ds, own, s, done, acc, c, ψ, ru, hv, hs, hS, ra, hψ, hO, hl, k => by
    have la := ra.length
    have lx : S < s.heap.objs.size := Heap.lt_size hS
    have lL : ∀ a ∈ L, a < s.heap.objs.size := fun a ha => by
      rw [← ru.addr] at ha; refine oEA (List.mem_map.mp ha) ?_; rintro p hp rfl; exact Heap.lt_size (hv p hp)
    refine codeAny_builtin F.entry_extend_loop ?_
    rw [Around.under_plainId F.plain_extend_loop _]
    show wpAny _ A.in1 (pyNext I >>= _) _ _ s
    refine wpAny_bind (ru.2 A.in1 s _ _ hh hv hs fun v s₁ hk => ?_)
    show wpAny _ A.in1 (letOwnedTupleGo (.Name "x" anyP) I v >>= fun _ => updateSeq S (·.push v) >>= fun _ => again (.builtin "list.extend.loop" ⟨[.ref S, I, res], []⟩)) _ _ _
    refine wpAny_bind (hk _ _ fun own' h' t' kk hv' rv ru' => ?_)
    refine wpAny_bind ?_
    have hS' : h'.get? S = some (lstN acc c) := kk _ _ SL hS
    have hS₂ := Heap.get?_update_self (Obj.mapSeq (·.push v)) hS' rfl
    have oth : ∀ b o, b ≠ S → h'.get? b = some o → (h'.update S (Obj.mapSeq (·.push v))).get? b = some o := fun b o hb e => (Heap.get?_update_other _ _ (Ne.symm hb)).trans e
    have nS : ∀ p ∈ own', p.1 ≠ S := fun p hp q => SL (by rw [← ru'.addr, ← q]; exact List.mem_map.mpr ⟨_, hp, rfl⟩)
    let ψ' : Fm := fun a o => ψ a o ∨ src a o ∨ (h'.get? a = some o ∧ s.heap.objs.size ≤ a)
    have fS : ∀ {a : Addr}, s.heap.objs.size ≤ a → a ∉ S :: L := fun {a} ha q => by
      rcases List.mem_cons.mp q with rfl | q
      · exact absurd lx (Nat.not_lt.mpr ha)
      · exact absurd (lL a q) (Nat.not_lt.mpr ha)
    have up : ∀ a o, a ∉ S :: L → s.heap.get? a = some o → (h'.update S (Obj.mapSeq (·.push v))).get? a = some o := fun a o ha e => oth a o (fun q => ha (by rw [q]; exact .head _)) (kk a o (fun q => ha (.tail _ q)) e)
    have ih := ext_loop (res := res) (R' := R') hh SL sL sO ds own' { s with heap := h'.update S (Obj.mapSeq (·.push v)), toks := t' } (done ++ [d]) (acc ++ [v]) (c + 1) ψ' ru' (fun p hp => oth _ _ (nS p hp) (hv' p hp))
      (fun a o q => up a o (sL a o q) (hs a o q)) ?_ ((RL.mono (fun _ _ => .inl) _ ra).append (.cn (R.mono (fun _ _ => .inr) _ rv) .nl)) ?_ ?_ (by simp at hl ⊢; omega) fun h'' t'' vs n ψ'' g1 g2 g3 g4 => ?_
    refine wpAny_updateSeq hS' rfl (wpAny_pure ⟨plainId_quiet F.plain_extend_loop _, ih⟩) ?_ ?_
    · show acc.toArray.size ≤ _; rw [List.size_toArray, la]; simp at hl; exact Nat.le_trans (by omega) (show 1000 ≤ sizeLine by decide +kernel)
    · show (acc.toArray.push v).size ≤ _; rw [Array.size_push, List.size_toArray, la]; simp at hl; exact Nat.le_trans (by omega) (show 1000 ≤ sizeLine + 1 by decide +kernel)
    · rw [hS₂]; simp [Obj.mapSeq, lstN]
    · rintro a o (q | q | q)
      · exact ⟨up a o (hψ a o q).2.1 (hψ a o q).1, (hψ a o q).2⟩
      · exact ⟨up a o (sL a o q) (hs a o q), sL a o q, sO a o q⟩
      · exact ⟨oth a o (fun z => fS q.2 (by rw [z]; exact .head _)) q.1, fS q.2, fun z => by refine oE (hO a z) ?_; intro o' e'; exact absurd (Heap.lt_size e') (Nat.not_lt.mpr q.2)⟩
    · intro a ha
      refine oE (hO a ha) ?_; intro o e
      by_cases q : a = S
      · rw [q]; exact ⟨_, hS₂⟩
      by_cases q2 : a ∈ L
      · rw [← ru'.addr] at q2
        refine oEA (List.mem_map.mp q2) ?_; rintro p hp rfl
        exact ⟨_, oth _ _ q (hv' p hp)⟩
      · exact ⟨o, oth a o q (kk a o q2 e)⟩
    · exact k h'' t'' vs n ψ'' (fun a o ha e => g1 a o ha (up a o ha e)) g2 (by rw [List.append_assoc] at g3; exact g3) g4
theorem call_listE {e it : Addr} {f fl ol : Value} {i : Int} {oi : Obj} {src : Fm} {items : List Dat} {Q : Value → Shared → Prop} (hh : A.handled = none) (ru : Runs prog w (.ref e) (.Name "x" anyP) [e, it] src items [(e, enumO f fl it i ol), (it, oi)])
    (hv : Hv [(e, enumO f fl it i ol), (it, oi)] s.heap) {O : AP} (hs : ∀ a o, src a o → s.heap.get? a = some o ∧ a ∉ [e, it] ∧ ¬ O a) (hO : ∀ a, O a → ∃ o, s.heap.get? a = some o) (hl : items.length ≤ 1000)
    (k : ∀ h' t' vs n ψ, Cg [e, it] s.heap h' → h'.get? s.heap.objs.size = some (lstN vs n) → RL ψ items vs → (∀ a o, ψ a o → h'.get? a = some o ∧ a ≠ s.heap.objs.size ∧ a ∉ [e, it] ∧ ¬ O a) → Q (.ref s.heap.objs.size) { s with heap := h', toks := t' }) :
    wpAny (model prog w) A (call (.type "list") [.ref e]) Q E s := by
  have he := hv _ (.head _)
  have hi := hv _ (.tail _ (.head _))
  have le : e < s.heap.objs.size := Heap.lt_size he
  have li : it < s.heap.objs.size := Heap.lt_size hi
  refine callType_codes (Q₁ := fun obj s₁ => obj = .ref s.heap.objs.size ∧ s₁ = { s with heap := s.heap.push { cls := .type "list", data := .seq #[] } }) F.called_list (F.typeCall_list_1 _) F.entry_list_init
    (code_list_new _ ⟨rfl, rfl⟩) fun obj s₁ h₁ => ?_
  refine oA h₁ ?_; clear h₁; rintro rfl rfl
  have hS : (s.heap.push { cls := .type "list", data := .seq #[] }).get? s.heap.objs.size = some (lstN [] 0) := Heap.get?_push_size _ rfl
  refine ⟨⟨_, hS, rfl⟩, F.args_list_init_2 _ _, ?_⟩
  have old : ∀ a o, s.heap.get? a = some o → (s.heap.push { cls := .type "list", data := .seq #[] }).get? a = some o := fun a o e => Heap.get?_push_of_some _ e
  have SL : s.heap.objs.size ∉ [e, it] := fun q => by
    rcases List.mem_cons.mp q with q | q
    · exact absurd le (by rw [← q]; exact Nat.lt_irrefl _)
    · rcases List.mem_cons.mp q with q | q
      · exact absurd li (by rw [← q]; exact Nat.lt_irrefl _)
      · cases q
  have ltS : ∀ {a o}, s.heap.get? a = some o → a ≠ s.heap.objs.size := fun e => Nat.ne_of_lt (Heap.lt_size e)
  generalize s.heap.objs.size = S at hS SL ltS k
  show wpAny _ A.in1.in1 (do let old ← Builtin.List.listItems (.ref S); Builtin.List.listUpdate (.ref S) (fun _ => #[]); letGo old.toList.reverse; Builtin.List.listExtendWith (.ref S) (.ref e) .none) _ _ _
  generalize s.heap.push { cls := .type "list", data := .seq #[] } = g₀ at hS old
  refine wpAny_bind ?_
  unfold Builtin.List.listItems
  refine wpAny_bind (wpAny_seqItems hS rfl (wpAny_pure ?_))
  show wpAny _ _ (updateSeq S (fun _ => #[]) >>= fun _ => letGo (#[] : Array Value).toList.reverse >>= fun _ => Builtin.List.listExtendWith (.ref S) (.ref e) .none) _ _ _
  refine wpAny_bind (wpAny_updateSeq hS rfl ?_)
  have hS₂ := Heap.get?_update_self (Obj.mapSeq (fun _ => (#[] : Array Value))) hS rfl
  have old₂ : ∀ a o, a ≠ S → s.heap.get? a = some o → (g₀.update S (Obj.mapSeq (fun _ => (#[] : Array Value)))).get? a = some o := fun a o ha e => (Heap.get?_update_other _ _ (Ne.symm ha)).trans (old a o e)
  generalize g₀.update S (Obj.mapSeq (fun _ => (#[] : Array Value))) = g₁ at hS₂ old₂
  refine wpAny_bind (wpAny_letGo ?_)
  have hT : Shared.TypeIs { s with heap := g₁ } (.ref e) "enumerate" := ⟨_, old₂ _ _ (ltS he) he, rfl⟩
  unfold Builtin.List.listExtendWith
  refine wpAny_bind (wpAny_typeOf hT ?_)
  have h1 : Builtin.List.listSameRef (.ref S) (.ref e) = false := by simp [Builtin.List.listSameRef, Ne.symm (ltS he)]
  have h2 : (Value.type "enumerate" == Value.type "list") = false := by decide
  have h3 : (Value.type "enumerate" == Value.type "tuple") = false := by decide
  simp only [h1, h2, h3, Bool.or_false, Bool.false_eq_true, if_false]
  have hv₁ : Hv [(e, enumO f fl it i ol), (it, oi)] g₁ := fun p hp => by
    rcases List.mem_cons.mp hp with rfl | hp
    · exact old₂ _ _ (ltS he) he
    rcases List.mem_cons.mp hp with rfl | hp
    · exact old₂ _ _ (ltS hi) hi
    · cases hp
  refine wpAny_bind (self_enum A.in1.in1 _ _ _ hv₁ ?_)
  refine wpAny_bind (wpAny_holding ?_)
  unfold Builtin.List.listLengthHint
  refine wpAny_bind (wpAny_specialOf hT enum_no_len ?_)
  show wpAny _ _ (specialOf (Value.ref e) (Str.ofString "__length_hint__") >>= _) _ _ _
  refine wpAny_bind (wpAny_specialOf hT enum_no_hint ?_)
  refine wpAny_pure ?_
  show wpAny _ _ (rule "list.extend.makes-room" >>= fun _ => Builtin.List.listTouch (.ref S) >>= fun _ =>
    again (.builtin "list.extend.loop" ⟨[.ref S, .ref e, .none], []⟩)) _ _ _
  refine wpAny_bind (wpAny_rule ?_)
  refine wpAny_bind ?_
  show wpAny _ _ (updateSeq S (·.push .none) >>= fun _ => updateSeq S (·.pop)) _ _ _
  refine wpAny_bind (wpAny_updateSeq hS₂ rfl ?_)
  have hS₃ := Heap.get?_update_self (Obj.mapSeq (·.push Value.none)) hS₂ rfl
  refine wpAny_updateSeq (hz := by seq_fits) hS₃ rfl ?_
  have hS₄ := Heap.get?_update_self (Obj.mapSeq (·.pop)) hS₃ rfl
  have up : ∀ a o, a ≠ S → s.heap.get? a = some o → ((g₁.update S (Obj.mapSeq (·.push Value.none))).update S (Obj.mapSeq (·.pop))).get? a = some o :=
    fun b o hb e => (Heap.get?_update_other _ _ (Ne.symm hb)).trans ((Heap.get?_update_other _ _ (Ne.symm hb)).trans (old₂ b o hb e))
  generalize (g₁.update S (Obj.mapSeq (·.push Value.none))).update S (Obj.mapSeq (·.pop)) = g₂ at hS₄ up
  obtain ⟨c, hS₅⟩ : ∃ c, g₂.get? S = some (lstN [] c) := ⟨_, hS₄⟩
  refine wpAny_pure ⟨plainId_quiet F.plain_extend_loop _, ext_loop (A := A.in1) (src := src) (L := [e, it]) hh SL (fun a o q z => ?_) (O := O) (fun a o q => (hs a o q).2.2) items [(e, enumO f fl it i ol), (it, oi)] _ [] [] _ (fun _ _ => False) ru ?_ (fun a o q => up a o (ltS (hs a o q).1) (hs a o q).1) hS₅ .nl (fun _ _ q => q.elim) (fun a ha => by refine oE (hO a ha) ?_; intro o e; exact ⟨o, up a o (ltS e) e⟩) (by simpa using hl) fun h' t' vs n ψ c1 c2 c3 c4 => ⟨rfl, ?_⟩⟩
  · rcases List.mem_cons.mp z with rfl | z
    · exact ltS (hs _ o q).1 rfl
    · exact (hs a o q).2.1 z
  · intro p hp
    rcases List.mem_cons.mp hp with rfl | hp
    · exact up _ _ (ltS he) he
    rcases List.mem_cons.mp hp with rfl | hp
    · exact up _ _ (ltS hi) hi
    · cases hp
  · exact k h' t' vs n ψ (fun a o ha e => c1 a o (fun q => by rcases List.mem_cons.mp q with rfl | q; exact ltS e rfl; exact ha q) (up a o (ltS e) e)) c2 c3 fun a o q => ⟨(c4 a o q).1, fun z => (c4 a o q).2.1 (by rw [z]; exact .head _), fun z => (c4 a o q).2.1 (.tail _ z), (c4 a o q).2.2⟩
end
end
section
section
variable {prog : Program} {w : World} {A : Around} {s : Shared} {E : Value → Shared → Prop}
theorem draw_list {it t : Addr} {items : Array Value} (hne : t ≠ it) : ∀ (n i : Nat) (s : Shared) (Q : List Value → Shared → Prop), s.heap.get? it = some (itL t i) → s.heap.IsList t items → i + n ≤ items.size →
    (∀ h', h'.get? it = some (itL t (i + n)) → Heap.SameBut it s.heap h' → Q ((items.toList.drop i).take n) { s with heap := h' }) → wpAny (model prog w) A (draw (.ref it) n) Q E s
  | 0, i, s, Q, hit, _, _, hQ => by
    show wpAny _ _ (pure []) Q E s
    exact wpAny_pure (by simpa using hQ s.heap hit (Heap.SameBut.refl ..))
  | n + 1, i, s, Q, hit, ht, hle, hQ => by
    have hlt : i < items.size := by omega
    show wpAny _ _ (pyNext (.ref it) >>= _) Q E s
    refine wpAny_bind (lst_item hit ht (x := items[i]) (by simp [hlt]) fun h₁ hit₁ hs₁ => ?_)
    have ht₁ : h₁.IsList t items := by refine oEA ht ?_; clear ht; intro o e r; exact ⟨o, (hs₁.2 _ hne).trans e, r⟩
    refine wpAny_bind (wpAny_holding (draw_list hne n (i + 1) _ _ hit₁ ht₁ (by omega) fun h₂ hit₂ hs₂ => wpAny_pure ?_))
    have hd : items.toList.drop i = items[i] :: items.toList.drop (i + 1) := by simp [List.drop_eq_getElem_cons, hlt]
    have := hQ h₂ (by rw [show i + (n + 1) = i + 1 + n by omega]; exact hit₂) (hs₁.trans hs₂)
    rw [hd, List.take_succ_cons] at this
    exact this
theorem unpackItems_list {t : Addr} {items : Array Value} {Q : List Value → Shared → Prop} (hh : A.handled = none) (ht : s.heap.IsList t items)
    (hQ : ∀ h', Heap.ExtBut s.heap.objs.size s.heap h' → Q items.toList { s with heap := h' }) : wpAny (model prog w) A (unpackItems (.ref t) items.size none) Q E s := by
  have hlt : t ≠ s.heap.objs.size := by refine oEA ht ?_; clear ht; intro o ho _; exact Nat.ne_of_lt (Heap.lt_size ho)
  unfold unpackItems
  refine wpAny_bind ?_
  unfold notIterableAtAll
  refine wpAny_bind (wpAny_specialOf ht.typeIs slot_list_iter.lookup ?_)
  refine wpAny_pure ?_
  simp only [Bool.false_eq_true, if_false]
  refine wpAny_bind (wpAny_holding (wpAny_pyIter_list ht ?_))
  have tp : (s.heap.push { cls := .type "list_iterator", data := .fields #[.ref t, .int 0 0] }).IsList t items := by refine oEA ht ?_; clear ht; intro o e r; exact ⟨o, Heap.get?_push_of_some _ e, r⟩
  refine wpAny_bind (wpAny_holding (draw_list hlt items.size 0 _ _ (Heap.get?_push_size _ rfl) tp (by omega) fun h₁ hit₁ hs₁ => ?_))
  have hall : List.take items.size (List.drop 0 items.toList) = items.toList := by
    rw [List.drop_zero]; exact List.take_of_length_le (by simp)
  rw [hall]
  rw [if_neg (by simp)]
  have ht₁ : h₁.IsList t items := by refine oEA tp ?_; clear tp; intro o e r; exact ⟨o, (hs₁.2 _ hlt).trans e, r⟩
  refine wpAny_bind (wpAny_holding (wpAny_pyNext_list_end hh ⟨_, hit₁, rfl, rfl⟩ ht₁ (by simp) fun h₂ he₂ => ?_))
  simp only [Option.isSome_none, Bool.false_eq_true, if_false]
  refine wpAny_pure (hQ h₂ fun b o hb e => he₂ b o hb (hs₁.extBut b o hb (Heap.get?_push_of_some _ e)))
end
section
variable {K : Params → Frag} {prog : Program} {w : World} {p : Program} {loose : List Str} {mg mb : Str → Option Value} {X : Fc} {cx : Cx} {A : Around} {O : AP} {as : List Addr} {st : St} {s : Shared}
theorem Fok.plainKind (F : Fok K prog w p loose mg mb X cx) : (X.env.scope.kind == .class || (X.env.scope.kind == .module && X.env.locals != X.env.globals)) = false := by rw [F.fn]; rfl
theorem lclx {x : Str} (h : lcl cx x = true) : cx.kind x = some .local := by
  unfold lcl at h
  cases e : cx.kind x with
  | none => rw [e] at h; cases h
  | some k => rw [e] at h; cases k <;> first | rfl | cases h
theorem store_snd (F : Fok K prog w p loose mg mb X cx) {x : Str} {v : Val} {u : Value} {k : St → Prop} {Q : Unit → Shared → Prop} {E : Value → Shared → Prop} (h : setV cx x v st k) (I : Inv X cx O as st s) (r : VR as (Dt s.heap O) v u) (P : PostS X cx k O as s (Q ())) :
    wpAny (model prog w) A (storeName X.env x u) Q E s := by
  refine gd_k h ?_; clear h; rintro hk h
  have hk := lclx hk
  refine oEA I.ns ?_; intro m hm _
  refine wpAny_storeName_local ((F.kinds x).trans hk) hm (fun h' hn hs => ?_) F.plainKind
  refine oA (I.setVar hm hk r hs hn (s.toks + 1)) ?_; intro J e
  exact P _ _ _ _ h J e
theorem nm_snd (F : Fok K prog w p loose mg mb X cx) {x : Str} {pos : Pos} {v : Val} {u : Value} {k : St → Prop} {Q : Unit → Shared → Prop} {E : Value → Shared → Prop} (h : setV cx x v st k) (I : Inv X cx O as st s) (r : VR as (Dt s.heap O) v u) (P : PostS X cx k O as s (Q ())) :
    wpAny (model prog w) A (assign (.Name x pos) X.env u) Q E s := wpAny_assign_Name (store_snd F h I r P)
theorem Inv.extBut {h' : Heap} (I : Inv X cx O as st s) (x : Heap.ExtBut s.heap.objs.size s.heap h') : Inv X cx O as st { s with heap := h' } ∧ Ex O as s O as { s with heap := h' } := by
  have k : Kp s.heap h' := fun b o e => x b o (Nat.ne_of_lt (Heap.lt_size e)) e
  have kt : Kt s.heap h' := fun b o _ e => k b o e
  exact ⟨I.kt (s' := { s with heap := h' }) kt ⟨I.gs.1, rfl, rfl, GK.refl _⟩ (I.wd.tabs.of fun a o _ => k a o), I.wd.ex (s' := { s with heap := h' }) kt⟩
theorem assignEach_cons {e : Expr} {rest : List Expr} {env : Env} (h : ∀ x q, e ≠ .Starred x q) : assignEach (e :: rest) env = (false, assign e env) :: assignEach rest env := by
  cases e <;> first | rfl | exact absurd rfl (h _ _)
theorem go_snd (F : Fok K prog w p loose mg mb X cx) {k : St → Prop} {Q : Unit → Shared → Prop} {E : Value → Shared → Prop} : ∀ {ts : List Expr} {ds : List Dat} {us : List Value} {st : St} {O : AP} {as : List Addr} {s : Shared}, bindT.go cx k ts ds st → Inv X cx O as st s → RL (Dt s.heap O) ds us → PostS X cx k O as s (Q ()) →
    wpAny (model prog w) A (assignInOrder ((assignEach ts X.env).map (·.2)) us) Q E s
  | [], ds, us, st, O, as, s, h, I, r, P => by
    revert r
    refine n0_e h ?_
    clear h
    intro h r
    rw [r.get0]; exact assignInOrder_nil (P _ _ _ _ h I Ex.refl)
  | t :: ts, [], us, st, O, as, s, h, I, r, P => h.elim
  | t :: ts, d :: ds, us, st, O, as, s, h, I, ⟨u, us', e, r1, r2⟩, P => by
    subst e
    refine nm_e h ?_
    clear h
    intro x pos h
    rw [assignEach_cons (ns_of rfl)]
    refine assignInOrder_cons (nm_snd F h I (v := .d d) r1 fun st' s' O' as' h1 h2 h3 => ?_)
    exact go_snd F h1 h2 (r2.ex h3) (P.trans h3)
theorem go_nm {k : St → Prop} : ∀ {ts : List Expr} {ds : List Dat} {st : St}, bindT.go cx k ts ds st → ts.length = ds.length ∧ (∀ env : Env, (assignEach ts env).length = ds.length) ∧ ∀ env : Env, (assignEach ts env).findIdx? (·.1) = none
  | [], ds, _, h => n0_e (m := fun ds => 0 = ds.length ∧ (∀ env : Env, (assignEach [] env).length = ds.length) ∧ ∀ env : Env, (assignEach [] env).findIdx? (·.1) = none) h fun _ => ⟨rfl, fun _ => rfl, fun _ => rfl⟩
  | t :: ts, [], st, h => h.elim
  | t :: ts, d :: ds, st, h => by
    refine nm_e h ?_
    clear h
    intro x p h
    refine gd_k h ?_; clear h; rintro _ h
    refine oAA (go_nm h) ?_; intro a b c
    refine ⟨congrArg (· + 1) a, fun env => ?_, fun env => ?_⟩
    · rw [assignEach_cons (ns_of rfl)]; exact congrArg (· + 1) (b env)
    · rw [assignEach_cons (ns_of rfl)]; simp [List.findIdx?_cons, c env]
theorem bindT_snd (F : Fok K prog w p loose mg mb X cx) (a : AOk A cx) {t : Expr} {d : Dat} {u : Value} {k : St → Prop} {Q : Unit → Shared → Prop} {E : Value → Shared → Prop} (h : bindT cx t d st k) (I : Inv X cx O as st s) (r : R (Dt s.heap O) d u) (P : PostS X cx k O as s (Q ())) :
    wpAny (model prog w) A (assign t X.env u) Q E s := by
  cases t with
  | Name x pos => exact nm_snd F h I (v := .d d) r P
  | Tuple ts x1 pos =>
    revert r
    refine oT_e h ?_ ?_
    · clear h
      intro ds h r
      obtain ⟨b, n, vs, rfl, h1, h2⟩ := r
      refine oAA (go_nm h) ?_; intro l1 l2 l3
      refine wpAny_assign_Tuple (items := vs.toArray) a.h ⟨_, h1.1, rfl, n, rfl⟩ ((l2 _).trans (h2.length.symm.trans List.size_toArray.symm)) (l3 _) fun h' hx => ?_
      refine oA (I.extBut hx) ?_; intro J e
      exact go_snd F h J (h2.ex e) (P.trans e)
    · clear h
      intro h
      refine dS_e h ?_
      clear h
      intro ds h r
      obtain ⟨b, n, vs, rfl, h1, h2⟩ := r
      refine oAA (go_nm h) ?_; intro l1 l2 l3
      rw [arm_assign_Tuple]
      refine wpAny_bind (wpAny_standAt ?_)
      unfold unpack
      have hn : (assignEach ts X.env).length = vs.toArray.size := (l2 _).trans (h2.length.symm.trans List.size_toArray.symm)
      rw [hn, l3]
      refine wpAny_bind (wpAny_holding (unpackItems_list a.h ⟨_, h1.1, rfl, n, rfl⟩ fun h' hx => ?_))
      refine oA (I.extBut hx) ?_; intro J e
      exact go_snd F h J (h2.ex e) (P.trans e)
  | _ => exact h.elim
theorem for_snd {E : Ev} (S : SndS K prog w p loose mg mb E) (F : Fok K prog w p loose mg mb X cx) (a : AOk A cx) {t : Expr} {body : List Stmt} {it : Value} {L : List Addr} {src : Fm} {k : Fl → St → Prop} {Q : Flow → Shared → Prop} (A' : IA X L) :
    ∀ {items : List Dat} {own : Ow} {st : St} {O : AP} {as : List Addr} {s : Shared}, forGoD E cx t body items st k → Inv (X.wI own) cx O as st s → Runs prog w it t L src items own → (∀ a o, src a o → Dt s.heap O a o) → PostF X cx k O as s Q →
      codeAny (model prog w) A (.forLoop t it body [] X.env) (fun r s' => match r with | .ok f => Q f s' | .error _ => False) s
  | [], own, st, O, as, s, h, I, ru, hs, P => by
    refine forGo (noE (ru.2 A s _ _ a.h (fun p hp => I.ref _ _ (.inr hp)) (fun a o q => (hs a o q).1) fun h' t' kk => ?_))
    refine oA (I.endI (t := t') A' ru.addr kk) ?_; intro J e
    exact wpAny_execs_nil (P _ _ _ _ _ _ h J e rfl)
  | d :: ds, own, st, O, as, s, h, I, ru, hs, P => by
    refine forGo (noE (ru.2 A s _ _ a.h (fun p hp => I.ref _ _ (.inr hp)) (fun a o q => (hs a o q).1) fun v s₁ hk => ?_))
    refine hk _ _ fun own' h' t' kk hv rv ru' => ?_
    refine oA (I.turn (t := t') A' ru.addr ru'.addr kk hv) ?_; intro J e
    have rd : R (Dt h' O) d v := R.mono (fun a o q => q.elim (fun q => e.dt a o (hs a o q)) fun q => ⟨q.1, fun z => by refine oE (I.wd.alive a z) ?_; intro o' e'; exact absurd (Heap.lt_size e') (Nat.not_lt.mpr q.2)⟩) _ rv
    refine bindT_snd (X := X.wI own') F.wI a h J rd fun st₂ s₂ O₂ as₂ g1 g2 g3 => ?_
    refine S cx (X.wI own') A F.wI a body st₂ _ O₂ as₂ s₂ _ g1 g2 fun fl st₃ f s₃ O₃ as₃ q1 q2 q3 q4 => ?_
    have e3 := (e.trans g3).trans q3
    have hs₃ : ∀ a o, src a o → Dt s₃.heap O₃ a o := fun a o q => e3.dt a o (hs a o q)
    have stop : ∀ fl' f', k fl' st₃ → FlR (Dt s₃.heap O₃) fl' f' → Q f' s₃ := fun fl' f' hk' hf => by
      refine oA (q2.endI (h' := s₃.heap) (t := s₃.toks) A' ru'.addr (fun _ _ _ z => z)) ?_; intro J' e'
      refine P fl' st₃ f' s₃ _ _ hk' J' (e3.trans e') ?_
      cases fl' with
      | ret d => refine oEA hf ?_; clear hf; rintro v rfl r; exact ⟨v, rfl, r.ex e'⟩
      | _ => exact hf
    cases fl with
    | next => cases q4; exact for_snd S F a A' q1 q2 ru' hs₃ (P.trans e3)
    | cont => cases q4; exact for_snd S F a A' q1 q2 ru' hs₃ (P.trans e3)
    | brk => cases q4; exact stop .next .next q1 rfl
    | ret d => refine oEA q4 ?_; clear q4; rintro v rfl r; exact stop (.ret d) _ q1 ⟨v, rfl, r⟩
end
end
section
theorem noStar_ns : ∀ {l : List Expr}, noStar l = true → ∀ e ∈ l, ∀ x q, e ≠ .Starred x q
  | [], _, _, he, _, _, _ => nomatch he
  | e :: r, h, e', he, x, q, z => by
    subst z
    rcases List.mem_cons.mp he with he | he
    · subst he; cases h
    · exact noStar_ns (by cases e <;> first | exact h | cases h) _ he x q rfl
theorem plain_each {env : Env} {pos : Pos} : ∀ {l : List Expr}, noStar l = true → (backTo pos (starEach l env)).any (·.1) = false
  | [], _ => rfl
  | e :: r, h => by
    rw [starEach_cons (noStar_ns h e (.head _))]
    show (false || (backTo pos (starEach r env)).any (·.1)) = false
    rw [plain_each (by cases e <;> first | exact h | cases h)]; rfl
section
variable {K : Params → Frag} {prog : Program} {w : World} {p : Program} {loose : List Str} {mg mb : Str → Option Value} {X : Fc} {cx : Cx} {A : Around} {O : AP} {as : List Addr} {st : St} {s : Shared} {E : Ev}
theorem callT (S : SndE K prog w p loose mg mb E) (F : Fok K prog w p loose mg mb X cx) (a : AOk A cx) {pos : Pos} {f : Value} (hf : (∃ T, f = .type T) ∨ ∃ i, f = .builtin i) {args : List Expr} {k : List Dat → St → Prop} {Q : Value → Shared → Prop} (h : evA E cx args st k) (I : Inv X cx O as st s)
    (P : PostL X cx k O as s (fun us s' => wpAny (model prog w) A (call f us) Q NoE s')) : wpAny (model prog w) A (callWith pos f [] (backTo pos (starEach args X.env)) []) Q NoE s := by
  refine gd_k h ?_; clear h; rintro hn h
  · have q := evL_snd S F a pos args h I P
    have ea : wpAny (model prog w) A (evalArgs f true (backTo pos (starEach args X.env)) []) (fun a s₁ => wpAny (model prog w) A (call f ([] ++ a.pos) a.kw) Q NoE s₁) NoE s := by
      cases args with
      | nil => exact evalArgs_nil3 (P [] st [] s O as h I Ex.refl .nl)
      | cons e r =>
        rw [starEach_cons (noStar_ns hn e (.head _))] at q ⊢
        exact evalArgs_plain q
    rcases hf with ⟨T, rfl⟩ | ⟨i, rfl⟩
    · exact PyProof.Rows.callWith_type (plain_each hn) ea
    · exact callWith_builtin (plain_each hn) ea
theorem callK (S : SndE K prog w p loose mg mb E) (F : Fok K prog w p loose mg mb X cx) (a : AOk A cx) {pos : Pos} {f : Value} (hf : keepIn (K w.params) f = true) {first : List Value} {args : List Expr} {k : List Dat → St → Prop} {Q : Value → Shared → Prop} (h : evA E cx args st k) (I : Inv X cx O as st s)
    (P : PostL X cx k O as s (fun us s' => wpAny (model prog w) A (call f (first ++ us)) Q NoE s')) : wpAny (model prog w) A (callWith pos f first (backTo pos (starEach args X.env)) []) Q NoE s := by
  refine gd_k h ?_; clear h; rintro hn h
  · have q := evL_snd S F a pos args h I (Q := fun us s' => (K w.params).In s'.heap ∧ wpAny (model prog w) A (call f (first ++ us)) Q NoE s') fun ds st' us s' O' as' h1 h2 h3 h4 => ⟨F.base.X.keeps h2.wd.keep, P ds st' us s' O' as' h1 h2 h3 h4⟩
    have ea : wpAny (model prog w) A (evalArgs f true (backTo pos (starEach args X.env)) []) (fun a s₁ => (K w.params).In s₁.heap ∧ wpAny (model prog w) A (call f (first ++ a.pos) a.kw) Q NoE s₁) NoE s := by
      cases args with
      | nil => exact evalArgs_nil3 ⟨F.base.X.keeps I.wd.keep, P [] st [] s O as h I Ex.refl .nl⟩
      | cons e r =>
        rw [starEach_cons (noStar_ns hn e (.head _))] at q ⊢
        exact evalArgs_plain q
    exact callWith_of (by rw [plain_each hn]; rfl) (keeps_K hf) ea
theorem callB (S : SndE K prog w p loose mg mb E) (F : Fok K prog w p loose mg mb X cx) (a : AOk A cx) {f : Str} {pf q : Pos} {n : Nat} (hf : (∃ T, biV n = .type T) ∨ ∃ i, biV n = .builtin i) {args : List Expr} {k : List Dat → St → Prop} {Q : Value → Shared → Prop} (h : E.e cx (.Name f pf) st fun v st => vB n v <| evA E cx args st k) (I : Inv X cx O as st s)
    (P : PostL X cx k O as s (fun us s' => wpAny (model prog w) A (call (biV n) us) Q NoE s')) : wpAny (model prog w) A (eval (.Call (.Name f pf) args [] q) X.env) Q NoE s := by
  refine wpAny_Call_NameR (S cx X A F a _ st _ O as s _ h I fun v st₁ u s₁ O₁ as₁ g1 g2 g3 g4 => ?_)
  revert g4
  refine vB_e g1 ?_
  clear g1 h
  intro g1 g4
  obtain rfl : u = biV n := g4
  exact callT S F a hf g1 g2 fun ds st₂ us s₂ O₂ as₂ q1 q2 q3 q4 => P _ _ _ _ _ _ q1 q2 (g3.trans q3) q4
noncomputable def PostI (prog : Program) (w : World) (X : Fc) (cx : Cx) (t : Expr) (k : List Dat → St → Prop) (O : AP) (as : List Addr) (s : Shared) (Q : Value → Shared → Prop) : Prop :=
  ∀ items st' it own L src s' O' as', k items st' → Inv (X.wI own) cx O' as' st' s' → IA X L → Runs prog w it t L src items own → SelfI prog w it own → (∀ a o, src a o → Dt s'.heap O' a o) → Ex O as s O' as' s' → Q it s'
theorem Inv.tabOk {h : Heap} (I : Inv X cx O as st s) (k : Kp s.heap h) : TabOk h := I.wd.tabs.of fun a o _ => k a o
theorem Inv.iter {h' : Heap} {t' : Tok} {own : Ow} (I : Inv X cx O as st s) (k : Kp s.heap h') (hf : ∀ p ∈ own, s.heap.objs.size ≤ p.1 ∧ h'.get? p.1 = some p.2) :
    Inv (X.wI own) cx (fun a => O a ∨ a ∈ own.map (·.1)) as st { s with heap := h', toks := t' } ∧ Ex O as s (fun a => O a ∨ a ∈ own.map (·.1)) as { s with heap := h', toks := t' } ∧ IA X (own.map (·.1)) :=
  I.addO (s' := { s with heap := h', toks := t' }) (fun b o _ e => k b o e) ⟨I.gs.1, rfl, rfl, GK.refl _⟩ (I.tabOk k) hf
theorem up_ok : ∀ m : Nat, m < 100 → Builtin.Range.small 0 m 1 = true ∧ Builtin.Range.rangeSize 0 m 1 = m := by decide +kernel
theorem down_ok : ∀ m : Nat, m < 101 → Builtin.Range.small (m - 1) (-1) (-1) = true ∧ Builtin.Range.rangeSize (m - 1) (-1) (-1) = m ∧ Builtin.divisionGoesByPylong (-1 - ((m : Int) - 1)) (-1) = false := by decide +kernel
theorem h1v {h' : Heap} {n : Addr} {o : Obj} {N : Nat} (h1 : N ≤ n) (h2 : h'.get? n = some o) : ∀ p ∈ [(n, o)], N ≤ p.1 ∧ h'.get? p.1 = some p.2 := fun p hp => by
  rcases List.mem_cons.mp hp with rfl | hp
  · exact ⟨h1, h2⟩
  · cases hp
theorem evI_gen (S : SndE K prog w p loose mg mb E) (F : Fok K prog w p loose mg mb X cx) (a : AOk A cx) {t e : Expr} {k : List Dat → St → Prop} {Q : Value → Shared → Prop} (h : evI.gen E cx st k e) (I : Inv X cx O as st s) (P : PostI prog w X cx t k O as s Q) :
    wpAny (model prog w) A (eval e X.env) (fun x s₁ => wpAny (model prog w) A (pyIter x) Q NoE s₁) NoE s := by
  refine evD_snd S F a h I fun d st' u s' O' as' h1 h2 h3 h4 => ?_
  revert h4
  refine oT_e h1 ?_ ?_ <;> clear h1 h
  · intro l h1 h4
    obtain ⟨b, n, vs, rfl, g1, g2⟩ := h4
    refine wpAny_pyIter_tuple (items := vs.toArray) ⟨_, g1.1, rfl, n, rfl⟩ ?_
    refine oAA (h2.iter (own := [(s'.heap.objs.size, itT b 0)]) (h' := s'.heap.push (itT b 0)) (t' := s'.toks) (fun _ _ => Heap.get?_push_of_some _) (h1v (Nat.le_refl _) (Heap.get?_push_size _ rfl))) ?_; intro J e' A'
    exact P l st' _ _ _ _ _ _ _ h1 J A' (runs_tup (e'.dt _ _ g1) 0 (g2.ex e') (by simp)) self_tup (fun _ _ q => q) (h3.trans e')
  · intro h1
    refine dS_e h1 ?_
    clear h1
    intro l h1 h4
    obtain ⟨b, n, vs, rfl, g1, g2⟩ := h4
    refine wpAny_pyIter_list (items := vs.toArray) ⟨_, g1.1, rfl, n, rfl⟩ ?_
    refine oAA (h2.iter (own := [(s'.heap.objs.size, itL b 0)]) (h' := s'.heap.push (itL b 0)) (t' := s'.toks) (fun _ _ => Heap.get?_push_of_some _) (h1v (Nat.le_refl _) (Heap.get?_push_size _ rfl))) ?_; intro J e' A'
    exact P l st' _ _ _ _ _ _ _ h1 J A' (runs_lst (e'.dt _ _ g1) 0 (g2.ex e') (by simp)) self_lst (fun _ _ q => q) (h3.trans e')
theorem rg1 (I : Inv X cx O as st s) {Q : Value → Shared → Prop} {t : Expr} {k : List Dat → St → Prop} {m : Nat} (hm : m < 100) {tk : Tok} (h : k (upto 0 m) st) (P : PostI prog w X cx t k O as s Q) : wpAny (model prog w) A (call (.type "range") [.int m tk]) (fun x s₁ => wpAny (model prog w) A (pyIter x) Q NoE s₁) NoE s := by
  refine oA (up_ok m hm) ?_; intro s1 s2
  refine call_range_1 (wpAny_pyIter_range (Heap.get?_push_size _ rfl) s1 ?_)
  rw [s2]
  obtain ⟨J, e', A'⟩ := I.iter (own := [(s.heap.objs.size + 1, itR 0 m 1)]) (h' := (s.heap.push (rgO 0 m 1 s.toks tk (s.toks + 1))).push (itR 0 m 1)) (t' := s.toks + 1 + 1)
    (fun _ _ e => Heap.get?_push_of_some _ (Heap.get?_push_of_some _ e)) (h1v (Nat.le_succ _) (by rw [← Heap.size_push]; exact Heap.get?_push_size _ rfl))
  refine P _ st _ [(s.heap.objs.size + 1, itR 0 m 1)] _ (fun _ _ => False) _ _ _ h J A' ?_ ?_ (fun _ _ q => q.elim) e'
  · rw [upto_rgD, Heap.size_push]
    exact runs_rng m 0 m rfl
  · rw [Heap.size_push]; exact self_rng
theorem rg3 (I : Inv X cx O as st s) {Q : Value → Shared → Prop} {t : Expr} {k : List Dat → St → Prop} {m : Nat} (hm : m < 101) {t1 t2 t3 : Tok} (h : k (downto m) st) (P : PostI prog w X cx t k O as s Q) : wpAny (model prog w) A (call (.type "range") [.int ((m : Int) - 1) t1, .int (-1) t2, .int (-1) t3]) (fun x s₁ => wpAny (model prog w) A (pyIter x) Q NoE s₁) NoE s := by
  refine oAA (down_ok m hm) ?_; intro s1 s2 s3
  refine call_range_3 (by decide) (wpAny_pyIter_range (Heap.get?_push_size _ rfl) s1 ?_) (.inl s3)
  rw [s2]
  obtain ⟨J, e', A'⟩ := I.iter (own := [(s.heap.objs.size + 1, itR ((m : Int) - 1) m (-1))]) (h' := (s.heap.push (rgO ((m : Int) - 1) (-1) (-1) t1 t2 t3)).push (itR ((m : Int) - 1) m (-1))) (t' := s.toks)
    (fun _ _ e => Heap.get?_push_of_some _ (Heap.get?_push_of_some _ e)) (h1v (Nat.le_succ _) (by rw [← Heap.size_push]; exact Heap.get?_push_size _ rfl))
  refine P _ st _ [(s.heap.objs.size + 1, itR ((m : Int) - 1) m (-1))] _ (fun _ _ => False) _ _ _ h J A' ?_ ?_ (fun _ _ q => q.elim) e'
  · rw [downto_rgD, Heap.size_push]
    exact runs_rng m _ m rfl
  · rw [Heap.size_push]; exact self_rng
theorem rg_snd (I : Inv X cx O as st s) {ds : List Dat} {us : List Value} {Q : Value → Shared → Prop} {t : Expr} {k : List Dat → St → Prop} (h : evRg ds st k) (rl : RL (Dt s.heap O) ds us) (P : PostI prog w X cx t k O as s Q) : wpAny (model prog w) A (call (.type "range") us) (fun x s₁ => wpAny (model prog w) A (pyIter x) Q NoE s₁) NoE s := by
  revert rl
  refine n1_e h ?_ ?_ <;> clear h
  · intro d h rl
    refine oEEAA rl ?_; clear rl; rintro v r rfl r1 r2
    obtain rfl := r2.get0
    clear r2
    revert r1
    refine oL_e h ?_ ?_ <;> clear h
    · intro n h r1
      refine gd_k h ?_; clear h; rintro hc h
      refine oE r1 ?_; clear r1; rintro tk rfl
      refine oA (Bool.and_eq_true_iff.mp hc) ?_; intro c1 c2
      have c1 := of_decide_eq_true c1
      refine oE (Int.eq_ofNat_of_zero_le c1) ?_; rintro m rfl
      exact rg1 I (Int.ofNat_lt.mp (of_decide_eq_true c2)) h P
    · intro h
      refine dI_e h ?_
      clear h
      intro n B h r1
      refine oAAAA h ?_; clear h; rintro ⟨c1, c2⟩ k0 k1 k2 k3
      refine oAE r1 ?_; clear r1; rintro _ tk rfl
      refine oE (Int.eq_ofNat_of_zero_le c1) ?_; rintro m rfl
      have c2 : m < 4 := Int.ofNat_lt.mp c2
      refine rg1 I (Nat.lt_trans c2 (by decide)) ?_ P
      match m, c2, k0, k1, k2, k3 with
      | 0, _, k0, _, _, _ => exact k0 rfl
      | 1, _, _, k1, _, _ => exact k1 rfl
      | 2, _, _, _, k2, _ => exact k2 rfl
      | 3, _, _, _, _, k3 => exact k3 rfl
  · intro h
    refine l3_e h ?_
    clear h
    intro a b c h rl
    refine oEEAA rl ?_; clear rl; rintro v1 r rfl r1 r2
    refine oEEAA r2 ?_; clear r2; rintro v2 r rfl r3 r4
    refine oEEAA r4 ?_; clear r4; rintro v3 r rfl r5 r6
    obtain rfl := r6.get0
    clear r6
    revert r1 r3 r5
    refine dL_e h ?_
    clear h
    intro x h
    refine dL_e h ?_
    clear h
    intro y h
    refine dL_e h ?_
    clear h
    intro z h r1 r3 r5
    refine gd_k h ?_; clear h; rintro hc h
    simp only [Bool.and_eq_true, decide_eq_true_eq] at hc
    refine oA hc ?_; clear hc; rintro ⟨⟨rfl, rfl⟩, h2⟩ h3
    refine oE r1 ?_; clear r1; rintro t1 rfl
    refine oE r3 ?_; clear r3; rintro t2 rfl
    refine oE r5 ?_; clear r5; rintro t3 rfl
    obtain ⟨m, rfl⟩ : ∃ m : Nat, x = (m : Int) - 1 := ⟨(x + 1).toNat, by omega⟩
    rw [show ((m : Int) - 1 + 1).toNat = m by omega] at h
    exact rg3 I (by omega) h P
theorem nmem2 {u N : Nat} (h : u < N) : u ∉ [N + 1, N] := fun q => by
  rcases List.mem_cons.mp q with q | q
  · exact absurd h (Nat.not_lt.mpr (q ▸ Nat.le_succ N))
  · exact absurd h (Nat.not_lt.mpr (List.mem_singleton.mp q ▸ Nat.le_refl N))
theorem nmem4 {u N : Nat} (h : u < N) : u ∉ [N + 4, N + 3, N, N + 1] := fun q => by
  have : N ≤ u := by
    rcases List.mem_cons.mp q with q | q
    · exact q ▸ Nat.le_add_right N 4
    rcases List.mem_cons.mp q with q | q
    · exact q ▸ Nat.le_add_right N 3
    rcases List.mem_cons.mp q with q | q
    · exact q ▸ Nat.le_refl N
    · exact List.mem_singleton.mp q ▸ Nat.le_succ N
  exact absurd h (Nat.not_lt.mpr this)
theorem za (N : Nat) : ZA (N + 4) (N + 3) N (N + 1) (N + 2) := by
  constructor <;> first
    | exact Nat.ne_of_gt (Nat.add_lt_add_left (show (_ : Nat) < _ by decide) N)
    | exact Nat.ne_of_lt (Nat.add_lt_add_left (show (_ : Nat) < _ by decide) N)
    | exact Nat.ne_of_gt (Nat.lt_add_of_pos_right (show (0 : Nat) < _ by decide))
    | exact Nat.ne_of_lt (Nat.lt_add_of_pos_right (show (0 : Nat) < _ by decide))
theorem PostI.trans {t : Expr} {k : List Dat → St → Prop} {O' as' s'} {Q : Value → Shared → Prop} (P : PostI prog w X cx t k O as s Q) (e : Ex O as s O' as' s') : PostI prog w X cx t k O' as' s' Q := fun items st it own L src s'' O'' as'' h1 h2 h3 h4 h5 h6 h7 => P items st it own L src s'' O'' as'' h1 h2 h3 h4 h5 h6 (e.trans h7)
theorem zip_snd {t : Expr} (ht : ∃ es x1 pos, t = .Tuple es x1 pos) (I : Inv X cx O as st s) {l r : List Dat} (hb : l.length = r.length) {u v : Value} {k : List Dat → St → Prop} {Q : Value → Shared → Prop} (h : k (zipD l r) st) (r1 : R (Dt s.heap O) (.tup l) u) (r3 : R (Dt s.heap O) (.tup r) v) (P : PostI prog w X cx t k O as s Q) :
    wpAny (model prog w) A (call (.type "zip") [u, v]) (fun x s₁ => wpAny (model prog w) A (pyIter x) Q NoE s₁) NoE s := by
  refine oEEE ht ?_; clear ht; rintro es x1 pos rfl
  obtain ⟨u1, n1, xs, rfl, a1, a2⟩ := r1
  obtain ⟨u2, n2, ys, rfl, b1, b2⟩ := r3
  refine call_zipT (xs := xs.toArray) (ys := ys.toArray) ⟨_, a1.1, rfl, n1, rfl⟩ ⟨_, b1.1, rfl, n2, rfl⟩ fun N h' hN z1 z2 z3 z4 z5 kk => ?_
  refine wpAny_pyIter_zip (s := { s with heap := h' }) z1 ?_
  obtain ⟨J, e', A'⟩ := I.iter (own := [(N + 4, zipO .none (N + 2) (N + 3)), (N + 3, tupN [.none, .none] 0), (N, itT u1 0), (N + 1, itT u2 0)]) (h' := h') (t' := s.toks) kk (fun p hp => by
    rcases List.mem_cons.mp hp with rfl | hp
    · exact ⟨by rw [hN]; exact Nat.le_add_right _ _, z1⟩
    rcases List.mem_cons.mp hp with rfl | hp
    · exact ⟨by rw [hN]; exact Nat.le_add_right _ _, z3⟩
    rcases List.mem_cons.mp hp with rfl | hp
    · exact ⟨by rw [hN]; exact Nat.le_refl _, z4⟩
    rcases List.mem_cons.mp hp with rfl | hp
    · exact ⟨by rw [hN]; exact Nat.le_add_right _ _, z5⟩
    · cases hp)
  have nc : ¬ (fun a => O a ∨ a ∈ [(N + 4, zipO .none (N + 2) (N + 3)), (N + 3, tupN [.none, .none] 0), (N, itT u1 0), (N + 1, itT u2 0)].map (·.1)) (N + 2) := fun q => by
    rcases q with q | q
    · refine oE (I.wd.alive _ q) ?_; intro o e
      exact absurd (Heap.lt_size e) (Nat.not_lt.mpr (by rw [← hN]; exact Nat.le_add_right N 2))
    · have q : N + 2 ∈ [N + 4, N + 3, N, N + 1] := q
      rcases List.mem_cons.mp q with q | q
      · exact absurd (Nat.add_left_cancel q) (by decide)
      rcases List.mem_cons.mp q with q | q
      · exact absurd (Nat.add_left_cancel q) (by decide)
      rcases List.mem_cons.mp q with q | q
      · exact absurd q (Nat.ne_of_gt (Nat.lt_add_of_pos_right (by decide)))
      · exact absurd (Nat.add_left_cancel (List.mem_singleton.mp q)) (by decide)
  refine P _ st _ [(N + 4, zipO .none (N + 2) (N + 3)), (N + 3, tupN [.none, .none] 0), (N, itT u1 0), (N + 1, itT u2 0)] _ _ _ _ _ h J A'
    (runs_zip (m := n1) (n := n2) (src := Dt h' fun a => O a ∨ a ∈ [(N + 4, zipO .none (N + 2) (N + 3)), (N + 3, tupN [.none, .none] 0), (N, itT u1 0), (N + 1, itT u2 0)].map (·.1)) (za N) ⟨z2, nc⟩ (e'.dt _ _ a1) (e'.dt _ _ b1)
      (nmem4 (by rw [hN]; exact Heap.lt_size a1.1)) (nmem4 (by rw [hN]; exact Heap.lt_size b1.1)) 0 0 (hb) (a2.ex e') (b2.ex e') (by simp) (by simp)) (fun A s' Q E h q => wpAny_pyIter_zip (h _ (.head _)) q) (fun _ _ q => q) e'
theorem enum_snd {t : Expr} (I : Inv X cx O as st s) {l : List Dat} {u : Value} {k : List Dat → St → Prop} {Q : Value → Shared → Prop} (h : k (enumD 0 l) st) (r1 : R (Dt s.heap O) (.tup l) u) (P : PostI prog w X cx t k O as s Q) :
    wpAny (model prog w) A (call (.type "enumerate") [u]) (fun x s₁ => wpAny (model prog w) A (pyIter x) Q NoE s₁) NoE s := by
  obtain ⟨u1, n1, xs, rfl, a1, a2⟩ := r1
  refine call_enumT a1.1 fun N h' hN z1 z2 kk => ?_
  refine self_enum (f := .none) (fl := .bool false) (it := N) (i := 0) (old := .none) (o1 := itT u1 0) A { s with heap := h' } _ _ (fun p hp => ?_) ?_
  · rcases List.mem_cons.mp hp with rfl | hp
    · exact z1
    rcases List.mem_cons.mp hp with rfl | hp
    · exact z2
    · cases hp
  obtain ⟨J, e', A'⟩ := I.iter (own := [(N + 1, enumO .none (.bool false) N 0 .none), (N, itT u1 0)]) (h' := h') (t' := s.toks) kk (fun p hp => by
      rcases List.mem_cons.mp hp with rfl | hp
      · exact ⟨by rw [hN]; exact Nat.le_add_right _ _, z1⟩
      rcases List.mem_cons.mp hp with rfl | hp
      · exact ⟨by rw [hN]; exact Nat.le_refl _, z2⟩
      · cases hp)
  have lt : u1 < N := by rw [hN]; exact Heap.lt_size a1.1
  refine P _ st _ [(N + 1, enumO .none (.bool false) N 0 .none), (N, itT u1 0)] _ _ _ _ _ h J A'
    (runs_enum (src := Dt h' fun a => O a ∨ a ∈ [(N + 1, enumO .none (.bool false) N 0 .none), (N, itT u1 0)].map (·.1)) (Nat.succ_ne_self N) (nmem2 lt) (e'.dt _ _ a1) 0 (.inl rfl) (a2.ex e') (by simp)) self_enum (fun _ _ q => q) e'
theorem evI_snd (S : SndE K prog w p loose mg mb E) (F : Fok K prog w p loose mg mb X cx) (a : AOk A cx) {t e : Expr} {k : List Dat → St → Prop} {Q : Value → Shared → Prop} (h : evI E cx t e st k) (I : Inv X cx O as st s) (P : PostI prog w X cx t k O as s Q) :
    wpAny (model prog w) A (eval e X.env) (fun x s₁ => wpAny (model prog w) A (pyIter x) Q NoE s₁) NoE s := by
  refine gn_k h ?_; clear h; rintro hs h
  refine vCn_k h ?_ ?_ <;> clear h
  · rintro f pf args q rfl h
    have gen := fun h => evI_gen (t := t) (e := .Call (.Name f pf) args [] q) S F a h I P
    refine oo_k h ?_ ?_ <;> clear h
    · intro n _ h
      refine nE_k h ?_ ?_ <;> clear h
      · intro _ h
        exact callB S F a (.inl ⟨_, rfl⟩) h I fun ds st₂ us s₂ O₂ as₂ q1 q2 q3 q4 => rg_snd q2 q1 q4 (P.trans q3)
      intro h
      refine nE_k h ?_ ?_ <;> clear h
      · intro _ h
        refine callB S F a (.inl ⟨_, rfl⟩) h I fun ds st₂ us s₂ O₂ as₂ q1 q2 q3 q4 => ?_
        clear gen h
        refine gd_k q1 ?_; clear q1; rintro ht q1
        revert q4
        refine l2_e q1 ?_
        clear q1
        intro a1 b1 q1
        refine dT_e q1 ?_
        clear q1
        intro l q1
        refine dT_e q1 ?_
        clear q1
        intro r q1 q4
        refine gd_k q1 ?_; clear q1; rintro hb q1
        refine oEEAA q4 ?_; clear q4; rintro v1 r' rfl r1 r2
        refine oEEAA r2 ?_; clear r2; rintro v2 r'' rfl r3 r4
        obtain rfl := r4.get0
        exact zip_snd (isTup_ex ht) q2 (Nat.eq_of_beq_eq_true hb) q1 r1 r3 (P.trans q3)
      intro h
      refine nE_k h ?_ gen <;> clear h
      intro _ h
      refine callB S F a (.inl ⟨_, rfl⟩) h I fun ds st₂ us s₂ O₂ as₂ q1 q2 q3 q4 => ?_
      clear gen h
      revert q4
      refine l1_e q1 ?_
      clear q1
      intro a1 q1
      refine dT_e q1 ?_
      clear q1
      intro l q1 q4
      refine oEEAA q4 ?_; clear q4; rintro v1 r' rfl r1 r2
      obtain rfl := r2.get0
      exact enum_snd q2 q1 r1 (P.trans q3)
    · exact fun _ h => gen h
  · exact fun h => evI_gen S F a h I P
theorem evI_ns {t e : Expr} {k : List Dat → St → Prop} (h : evI E cx t e st k) : ∀ x, foldedSetIterable e X.env x = pure x := fun x => by
  cases e <;> first | rfl | exact h.elim
end
end
section
theorem closureFor_go {env : Env} : ∀ (names : List (Str × NameKind)) (cs : List (Str × Addr)), (∀ y ∈ names, y.2 = .free → ∃ c, env.cells.lookup y.1 = some c) →
    ∃ cl, (forIn names cs (fun (x : Str × NameKind) (r : List (Str × Addr)) => (if (x.2 == .free) = true then (cellOf env x.1 >>= fun c => pure (ForInStep.yield ((x.1, c) :: r))) else pure (ForInStep.yield r) : Sem (ForInStep (List (Str × Addr))))) : Sem (List (Str × Addr))) = pure cl ∧
      (∀ x, (x, NameKind.free) ∈ names → cl.lookup x = env.cells.lookup x) ∧ ∀ x, cs.lookup x = env.cells.lookup x → cl.lookup x = env.cells.lookup x
  | [], cs, _ => ⟨cs, rfl, (fun _ h => nomatch h), fun _ h => h⟩
  | (n, k) :: r, cs, h => by
    rw [List.forIn_cons]
    by_cases q : (k == NameKind.free) = true
    · refine oE (h _ (.head _) (by cases k <;> first | rfl | cases q)) ?_; intro c hc
      refine oEAA (closureFor_go r ((n, c) :: cs) fun y hy => h y (.tail _ hy)) ?_; intro cl e a b
      have e1 : cellOf env n = pure c := by unfold cellOf; rw [hc]
      refine ⟨cl, ?_, fun x hx => ?_, fun x hx => b x ?_⟩
      · simp only [q, if_true, e1]
        exact e
      · rcases List.mem_cons.mp hx with hx | hx
        · cases hx
          exact b n (by rw [List.lookup_cons, beq_self_eq_true, hc])
        · exact a x hx
      · rw [List.lookup_cons]
        cases hxn : x == n with
        | true => rw [beq_iff_eq.mp hxn, hc]
        | false => exact hx
    · refine oEAA (closureFor_go r cs fun y hy => h y (.tail _ hy)) ?_; intro cl e a b
      refine ⟨cl, ?_, fun x hx => ?_, b⟩
      · simp only [q]
        exact e
      · rcases List.mem_cons.mp hx with hx | hx
        · cases hx; exact absurd rfl q
        · exact a x hx
theorem closureFor_ok {sc : Scope} {env : Env} (h : ∀ y ∈ sc.names, y.2 = .free → ∃ c, env.cells.lookup y.1 = some c) : ∃ cl, closureFor sc env = pure cl ∧ ∀ x, (x, NameKind.free) ∈ sc.names → cl.lookup x = env.cells.lookup x := by
  refine oEAA (closureFor_go sc.names [] h) ?_; intro cl e a _
  refine ⟨cl, ?_, a⟩
  unfold closureFor
  exact (congrArg (fun m : Sem (List (Str × Addr)) => m >>= fun cs => pure cs) e)
theorem kindC_eq {cx : Cx} {sc : Scope} {env : Env} {cl : List (Str × Addr)} {C : Addr} (hk : ∀ x, env.kindOf x = cx.kind x) (hf : env.scope.kind = .function) (x : Str) : (compEnvC sc cl C env).kindOf x = kindC cx sc x := by
  show List.lookup x (sc.names.map fun (n, k) => if (k == NameKind.free && env.scope.kind == .function && env.kindOf n == some .cell) then (n, NameKind.cell) else (n, k)) = _
  unfold kindC
  rw [look_eq]
  generalize sc.names = names
  induction names with
  | nil => rfl
  | cons y r ih =>
    obtain ⟨n, k⟩ := y
    rw [List.map_cons]
    have hn : (if (k == NameKind.free && env.scope.kind == .function && env.kindOf n == some .cell) then (n, NameKind.cell) else (n, k)) = (n, if (k == NameKind.free && env.kindOf n == some .cell) then NameKind.cell else k) := by
      rw [hf]
      cases k <;> first | rfl | (simp only [show (ScopeKind.function == ScopeKind.function) = true from rfl, Bool.and_true]; split <;> rfl)
    dsimp only
    rw [hn, List.lookup_cons, List.lookup_cons]
    cases hx : x == n with
    | false => exact ih
    | true =>
      have := beq_iff_eq.mp hx; subst this
      dsimp only
      cases k with
      | free =>
        dsimp only
        rw [hk x]
        cases cx.kind x with
        | none => rfl
        | some k' => cases k' <;> rfl
      | _ => rfl
set_option tactic.hygienic true in
theorem caps_free {cx : Cx} {vars : List (Str × Val)} : ∀ {names : List (Str × NameKind)} {cap : List (Str × Val)}, caps cx vars names = some cap →
    (∀ x v, look x cap = some v → ∃ d, v = .d d ∧ (x, NameKind.free) ∈ names ∧ look x vars = some (.d d)) ∧ ∀ x, (x, NameKind.free) ∈ names → ∃ d, look x vars = some (.d d) ∧ cx.kind x ≠ some .local
  | [], cap, h => by cases h; exact ⟨(fun _ _ h => nomatch h), (fun _ h => nomatch h)⟩
  | (n, k) :: r, cap, h => by
    have skip : k ≠ .free → caps cx vars r = some cap → (∀ x v, look x cap = some v → ∃ d, v = .d d ∧ (x, NameKind.free) ∈ (n, k) :: r ∧ look x vars = some (.d d)) ∧ ∀ x, (x, NameKind.free) ∈ (n, k) :: r → ∃ d, look x vars = some (.d d) ∧ cx.kind x ≠ some .local := fun nk h => by
      refine oA (caps_free h) ?_; intro a b
      refine ⟨fun x v hx => ?_, fun x hx => ?_⟩
      · refine oEAA (a x v hx) ?_; intro d e m l; exact ⟨d, e, .tail _ m, l⟩
      · rcases List.mem_cons.mp hx with q | q
        · cases q; exact absurd rfl nk
        · exact b x q
    cases k with
    | free =>
      unfold caps at h
      dsimp only at h
      split at h
      · cases h
      · rename_i hk
        split at h
        · rename_i d l e1 e2
          cases h
          refine oA (caps_free e2) ?_; intro a b
          refine ⟨fun x v hx => ?_, fun x hx => ?_⟩
          · unfold look at hx
            cases q : seq x n with
            | true => rw [q] at hx; cases hx; have := (seq_iff x n).mp q; subst this; exact ⟨d, rfl, .head _, e1⟩
            | false => rw [q] at hx; refine oEAA (a x v hx) ?_; intro d e m l; exact ⟨d, e, .tail _ m, l⟩
          · rcases List.mem_cons.mp hx with q | q
            · cases q; exact ⟨d, e1, hk⟩
            · exact b x q
        · cases h
    | cell => cases h
    | _ => exact skip (by decide) h
section
variable {K : Params → Frag} {prog : Program} {w : World} {p : Program} {loose : List Str} {mg mb : Str → Option Value} {X : Fc} {cx : Cx} {A : Around} {O : AP} {as : List Addr} {st : St} {s : Shared} {E : Ev}
theorem Inv.leave {s' : Shared} {own : Ow} {L : List Addr} {C D : Addr} {oC : Obj} {vs : List Value} {n : Nat} {l : List Dat} {o' : List Bool} (I : Inv (X.wI own) cx O as st s) (A' : IA X L) (hL : own.map (·.1) = L)
    (k : ∀ b o, ¬ isTb b → b ∉ L → s.heap.get? b = some o → s'.heap.get? b = some o) (gs : GS s s') (tb : TabOk s'.heap) (hD : s.heap.objs.size ≤ D) (hC : s.heap.objs.size ≤ C) (hCD : C ≠ D) (gD : s'.heap.get? D = some (lstN vs n)) (gC : s'.heap.get? C = some oC)
    (r : RL (Dt s'.heap fun b => (O b ∧ b ∉ L) ∨ b = D ∨ b = C) l vs) :
    Inv (X.wI [(C, oC)]) cx (fun b => (O b ∧ b ∉ L) ∨ b = D ∨ b = C) (as ++ [D]) { st with own := st.own ++ [(false, l)], orc := o' } s' ∧ Ex O as s (fun b => (O b ∧ b ∉ L) ∨ b = D ∨ b = C) (as ++ [D]) s' ∧ IA X [C] := by
  have sub : ∀ a ∈ L, O a := fun a ha => I.sub a (.inr (by rw [hL]; exact ha))
  have old : ∀ {b o}, s.heap.get? b = some o → b ≠ D ∧ b ≠ C := fun {b o} h => by
    have := Heap.lt_size h
    exact ⟨fun q => by rw [q] at this; exact absurd this (Nat.not_lt.mpr hD), fun q => by rw [q] at this; exact absurd this (Nat.not_lt.mpr hC)⟩
  have ed : ∀ b o, Dt s.heap O b o → Dt s'.heap (fun b => (O b ∧ b ∉ L) ∨ b = D ∨ b = C) b o := fun b o h =>
    ⟨k b o (fun t => h.2 (I.wd.tabO b t)) (fun q => h.2 (sub b q)) h.1, fun q => q.elim (fun q => h.2 q.1) fun q => q.elim (old h.1).1 (old h.1).2⟩
  have e : Ex O as s (fun b => (O b ∧ b ∉ L) ∨ b = D ∨ b = C) (as ++ [D]) s' := ⟨ed, fun i a h => by rw [List.getElem?_append_left (List.getElem?_eq_some_iff.mp h).1]; exact h⟩
  have nL : X.env.locals ∉ L := fun q => by
    rw [← hL] at q; refine oEA (List.mem_map.mp q) ?_; intro p hp e
    exact I.LR p.2 (.inr (by show (X.env.locals, p.2) ∈ own; rw [← e]; exact hp))
  have lL : X.env.locals ≠ D ∧ X.env.locals ≠ C := by refine oEA I.ns ?_; rintro m ⟨o, _, _, hm, _⟩ _; exact old hm
  have gn : ∀ {b : Addr}, s.heap.objs.size ≤ b → X.g.get? b = none := fun {b} hb => by
    cases c : X.g.get? b with
    | none => rfl
    | some o => exact absurd (Heap.lt_size (I.wd.keep _ _ c)) (Nat.not_lt.mpr hb)
  have tn : ∀ {b : Addr}, s.heap.objs.size ≤ b → ¬ isTb b := fun {b} hb q => by refine oEA (I.wd.tabs b q) ?_; intro ps e _; exact absurd (Heap.lt_size e) (Nat.not_lt.mpr hb)
  have bn : ∀ {b : Addr}, s.heap.objs.size ≤ b → ¬ X.B b := fun {b} hb q => by refine oE (I.wd.alive _ (I.sub b (.inl q))) ?_; intro o e; exact absurd (Heap.lt_size e) (Nat.not_lt.mpr hb)
  have rn : ∀ {b : Addr} {o}, s.heap.objs.size ≤ b → ¬ X.Ref b o := fun {b o} hb q => absurd (Heap.lt_size (I.ref b o (.inl q))) (Nat.not_lt.mpr hb)
  refine ⟨⟨⟨fun b o e => k b o (fun q => nomatch (I.wd.off b (I.wd.tabO b q)).symm.trans e) (fun q => nomatch (I.wd.off b (sub b q)).symm.trans e) (I.wd.keep b o e), fun b hb => hb.elim (fun hb => I.wd.off b hb.1) fun hb => hb.elim (fun q => by rw [q]; exact gn hD) fun q => by rw [q]; exact gn hC,
      fun b hb => ?_, tb, fun b hb => .inl ⟨I.wd.tabO b hb, fun q => A'.t b q hb⟩, gs.1⟩, fun b o q => q.elim (fun q => k b o (I.reft b o (.inl q)) (fun z => A'.r b z o q) (I.ref b o (.inl q))) fun q => ?_, fun b o q => q.elim (fun q => I.reft b o (.inl q)) fun q => ?_, I.gs.trans gs,
      fun b hb => hb.elim (fun q => .inl ⟨I.sub b (.inl q), fun z => A'.b b z q⟩) fun q => .inr (.inr (by simpa using q)), .inl ⟨I.LO, nL⟩, fun o q => q.elim (fun q => I.LR o (.inl q)) fun q => ?_, I.LT, I.above, ?_, fun x v h1 h2 => ?_, ?_, fun i j c h1 h2 => ?_, fun i fr l' h => ?_⟩, e, ?_⟩
  · by_cases q : isTb b
    · refine oEA (tb b q) ?_; intro ps e _; exact ⟨_, e⟩
    · rcases hb with hb | rfl | rfl
      · refine oE (I.wd.alive b hb.1) ?_; intro o e; exact ⟨o, k b o q hb.2 e⟩
      · exact ⟨_, gD⟩
      · exact ⟨_, gC⟩
  · have : b = C ∧ o = oC := by simpa using q
    rw [this.1, this.2]; exact gC
  · have : b = C ∧ o = oC := by simpa using q
    rw [this.1]; exact tn hC
  · have : X.env.locals = C ∧ o = oC := by simpa using q
    exact lL.2 this.1
  · refine oEA I.ns ?_; intro m hm hv
    refine ⟨m, hm.at' fun o e' => k _ _ I.LT nL e', fun x v h1 h2 => ?_⟩
    refine oEA (hv x v h1 h2) ?_; intro u h3 h4
    exact ⟨u, h3, h4.ex e⟩
  · refine oEEEAAAA (I.cells x v h1 h2) ?_; intro c o u h3 h4 h5 h6 h7
    exact ⟨c, o, u, h3, h4, ed _ _ h5, h6, h7.ex e⟩
  · simp [I.own.len]
  · have lt : ∀ i c, as[i]? = some c → c ≠ D := fun i c h => by
      obtain ⟨y, hy⟩ : ∃ y, st.own[i]? = some y := ⟨_, List.getElem?_eq_getElem (I.own.len ▸ (List.getElem?_eq_some_iff.mp h).1)⟩
      refine oEEEAA (I.own.at_ i y.1 y.2 hy) ?_; intro a' n' vs' h1 h2 _
      rw [h] at h1; cases h1; exact (old h2).1
    rcases Nat.lt_or_ge i as.length with hi | hi <;> rcases Nat.lt_or_ge j as.length with hj | hj
    · rw [List.getElem?_append_left hi] at h1; rw [List.getElem?_append_left hj] at h2; exact I.own.nodup i j c h1 h2
    · rw [List.getElem?_append_left hi] at h1; rw [List.getElem?_append_right hj] at h2
      have := lt i c h1
      refine oE (List.getElem?_eq_some_iff.mp h2) ?_; intro z hz
      simp only [List.getElem_singleton] at hz; exact absurd hz.symm this
    · rw [List.getElem?_append_left hj] at h2; rw [List.getElem?_append_right hi] at h1
      have := lt j c h2
      refine oE (List.getElem?_eq_some_iff.mp h1) ?_; intro z hz
      simp only [List.getElem_singleton] at hz; exact absurd hz.symm this
    · rw [List.getElem?_append_right hi] at h1; rw [List.getElem?_append_right hj] at h2
      have h1 := (List.getElem?_eq_some_iff.mp h1).1
      have h2 := (List.getElem?_eq_some_iff.mp h2).1
      simp at h1 h2; omega
  · rcases Nat.lt_or_ge i st.own.length with hi | hi
    · have h : (st.own ++ [(false, l)])[i]? = some (fr, l') := h
      rw [List.getElem?_append_left hi] at h
      refine oEEEAAAA (I.own.at_ i fr l' h) ?_; intro c n' vs' h1 h2 h3 h4 h5
      have ht : ¬ isTb c := fun q => by refine oEA (I.wd.tabs _ q) ?_; intro ps e1 _; rw [h2] at e1; cases e1
      have hc : c ∉ L := fun q => by
        cases fr with
        | false => exact (h4 rfl).2.2.2 (.inr (by rw [hL]; exact q))
        | true => exact h5 rfl (sub c q)
      refine ⟨c, n', vs', e.pre i c h1, k _ _ ht hc h2, RL.mono ed _ h3, fun q => ⟨.inl ⟨(h4 q).1, hc⟩, (h4 q).2.1, fun o z => z.elim (fun z => (h4 q).2.2.1 o (.inl z)) fun z => ?_, fun z => z.elim (fun z => (h4 q).2.2.2 (.inl z)) fun z => ?_⟩, fun q z => z.elim (fun z => h5 q z.1) fun z => z.elim (old h2).1 (old h2).2⟩
      · have : c = C ∧ o = oC := by simpa using z
        exact (old h2).2 this.1
      · exact (old h2).2 (by simpa using z)
    · have h : (st.own ++ [(false, l)])[i]? = some (fr, l') := h
      rw [List.getElem?_append_right hi] at h
      have hi2 := (List.getElem?_eq_some_iff.mp h).1
      have hi3 : i = st.own.length := by simp only [List.length_singleton] at hi2; omega
      subst hi3
      simp at h
      refine oA h ?_; clear h; rintro rfl rfl
      refine ⟨D, n, vs, ?_, gD, r, fun _ => ⟨.inr (.inl rfl), fun q => lL.1 q.symm, fun o z => z.elim (rn hD) fun z => ?_, fun z => z.elim (bn hD) fun z => ?_⟩, fun q => by cases q⟩
      · rw [← I.own.len, List.getElem?_append_right (Nat.le_refl _)]; simp
      · have : D = C ∧ o = oC := by simpa using z
        exact hCD this.1.symm
      · exact hCD (by simpa using z : D = C).symm
  · refine ⟨fun a ha => ?_, fun a ha o => ?_, fun a ha => ?_⟩ <;> obtain rfl : a = C := by simpa using ha
    · exact bn hC
    · exact rn hC
    · exact tn hC
end
end
section
noncomputable abbrev cFc (X : Fc) (env : Env) (s : Shared) (O : AP) (L : List Addr) : Fc := { g := X.g, Ref := fun a o => s.heap.get? a = some o ∧ O a ∧ ¬ isTb a ∧ a ∉ L, env := env, s₀ := s, B := fun a => O a ∧ a ∉ L }
noncomputable def CapOk (kind : Str → Option NameKind) (cap : List (Str × Val)) (cl : List (Str × Addr)) (φ : Fm) : Prop :=
  ∀ x v, look x cap = some v → ∃ d c o u, v = .d d ∧ kind x ≠ some .local ∧ (kind x = some .cell ∨ kind x = some .free) ∧ cl.lookup x = some c ∧ φ c o ∧ o.data = .cell (some u) ∧ R φ d u
theorem CapOk.mono {kind cap cl} {φ ψ : Fm} (h : ∀ a o, φ a o → ψ a o) (x : CapOk kind cap cl φ) : CapOk kind cap cl ψ := fun y v e => by
  obtain ⟨d, c, o, u, a1, a2, a3, a4, a5, a6, a7⟩ := x y v e
  exact ⟨d, c, o, u, a1, a2, a3, a4, h _ _ a5, a6, R.mono h d a7⟩
section
variable {K : Params → Frag} {prog : Program} {w : World} {p : Program} {loose : List Str} {mg mb : Str → Option Value} {X : Fc} {cx : Cx} {A : Around} {O : AP} {as : List Addr} {st : St} {s : Shared} {E : Ev}
theorem Inv.block {own : Ow} {L : List Addr} {s' : Shared} {C D : Addr} {env : Env} {cap : List (Str × Val)} {orc : List Bool} {cxc : Cx} {n : Nat} {vs : List Value} {m : Str → Option Value} (I : Inv (X.wI own) cx O as st s) (A' : IA X L) (hL : own.map (·.1) = L) (k : Kp s.heap s'.heap) (gs : GS s s')
    (hC : env.locals = C) (sD : s.heap.objs.size ≤ D) (sC : s.heap.objs.size ≤ C) (ne : C ≠ D) (gD : s'.heap.get? D = some (lstN vs n)) (gC : s'.heap.Ns C m) (hc : CapOk cxc.kind cap env.cells (Dt s.heap O)) :
    Inv ((cFc X env s O L).wI (own ++ [(D, lstN vs n)])) cxc (fun b => O b ∨ b = D ∨ b = C) [] ⟨cap, [], orc⟩ s' ∧ IA (cFc X env s O L) (L ++ [D]) ∧ ∀ a o, Dt s.heap O a o → Dt s'.heap (fun b => O b ∨ b = D ∨ b = C) a o := by
  have old : ∀ {b o}, s.heap.get? b = some o → b ≠ D ∧ b ≠ C := fun {b o} h => by
    have := Heap.lt_size h
    exact ⟨fun q => by rw [q] at this; exact absurd this (Nat.not_lt.mpr sD), fun q => by rw [q] at this; exact absurd this (Nat.not_lt.mpr sC)⟩
  have ed : ∀ a o, Dt s.heap O a o → Dt s'.heap (fun b => O b ∨ b = D ∨ b = C) a o := fun a o h => ⟨k _ _ h.1, fun q => q.elim h.2 fun q => q.elim (old h.1).1 (old h.1).2⟩
  have gn : ∀ {b : Addr}, s.heap.objs.size ≤ b → X.g.get? b = none := fun {b} hb => by
    cases c : X.g.get? b with
    | none => rfl
    | some o => exact absurd (Heap.lt_size (I.wd.keep _ _ c)) (Nat.not_lt.mpr hb)
  have tn : ∀ {b : Addr}, s.heap.objs.size ≤ b → ¬ isTb b := fun {b} hb q => by refine oEA (I.wd.tabs b q) ?_; intro ps e _; exact absurd (Heap.lt_size e) (Nat.not_lt.mpr hb)
  have nO : ∀ {b : Addr}, s.heap.objs.size ≤ b → ¬ O b := fun {b} hb q => by refine oE (I.wd.alive b q) ?_; intro o e; exact absurd (Heap.lt_size e) (Nat.not_lt.mpr hb)
  have sub : ∀ a ∈ L, O a := fun a ha => I.sub a (.inr (by rw [hL]; exact ha))
  have ow : ∀ p ∈ own, s.heap.get? p.1 = some p.2 := fun p hp => I.ref _ _ (.inr hp)
  subst hC
  refine oEEEAA gC ?_; clear gC; intro oC esC epC gC1 gC2 gC3
  refine ⟨⟨⟨fun b o e => k _ _ (I.wd.keep b o e), fun b hb => hb.elim (I.wd.off b) fun hb => hb.elim (fun q => by rw [q]; exact gn sD) fun q => by rw [q]; exact gn sC, fun b hb => ?_, I.wd.tabs.of fun a o _ => k a o, fun b hb => .inl (I.wd.tabO b hb), gs.1⟩,
    fun a o q => q.elim (fun q => k _ _ q.1) fun q => ?_, fun a o q => q.elim (fun q => q.2.2.1) fun q => ?_, gs, fun a q => q.elim (fun q => .inl q.1) fun q => ?_, .inr (.inr rfl), fun o q => q.elim (fun q => nO sC q.2.1) fun q => ?_, tn sC, Nat.le_trans I.above (Nat.le_of_lt (Nat.lt_of_lt_of_le ?_ sC)), ⟨m, ⟨oC, esC, epC, gC1, gC2, gC3⟩, fun x v h1 h2 => ?_⟩, fun x v h1 h2 => ?_, rfl, fun i j a h => ?_, fun i fr l h => ?_⟩, ⟨fun a ha q => ?_, fun a ha o q => ?_, fun a ha => ?_⟩, ed⟩
  · rcases hb with hb | rfl | rfl
    · refine oE (I.wd.alive b hb) ?_; intro o e; exact ⟨o, k _ _ e⟩
    · exact ⟨_, gD⟩
    · exact ⟨_, gC1⟩
  · rcases List.mem_append.mp q with q | q
    · exact k _ _ (ow _ q)
    · have : a = D ∧ o = lstN vs n := by simpa using q
      rw [this.1, this.2]; exact gD
  · rcases List.mem_append.mp q with q | q
    · exact A'.t a (by rw [← hL]; exact List.mem_map.mpr ⟨_, q, rfl⟩)
    · have : a = D ∧ o = lstN vs n := by simpa using q
      rw [this.1]; exact tn sD
  · rw [List.map_append, hL] at q
    rcases List.mem_append.mp q with q | q
    · exact .inl (sub a q)
    · exact .inr (.inl (by simpa using q))
  · rcases List.mem_append.mp q with q | q
    · exact (old (ow _ q)).2 rfl
    · have : env.locals = D ∧ o = lstN vs n := by simpa using q
      exact ne this.1
  · refine oEA I.ns ?_; rintro m' ⟨o, _, _, hm, _⟩ _; exact Heap.lt_size hm
  · refine oEEEEAA (hc x v h1) ?_; intro d c o u a1 a2 _; exact absurd h2 a2
  · obtain ⟨d, c, o, u, rfl, a2, a3, a4, a5, a6, a7⟩ := hc x v h1
    exact ⟨c, o, u, a3, a4, ed _ _ a5, a6, R.mono ed d a7⟩
  · simp at h
  · simp at h
  · rcases List.mem_append.mp ha with ha | ha
    · exact q.2 ha
    · have : a = D := by simpa using ha
      rw [this] at q; exact nO sD q.1
  · rcases List.mem_append.mp ha with ha | ha
    · exact q.2.2.2 ha
    · have : a = D := by simpa using ha
      rw [this] at q; exact nO sD q.2.1
  · rcases List.mem_append.mp ha with ha | ha
    · exact A'.t a ha
    · have : a = D := by simpa using ha
      rw [this]; exact tn sD
theorem Inv.reset {cap : List (Str × Val)} {orc : List Bool} (I : Inv X cx O as st s) (hc : CapOk cx.kind cap X.env.cells (Dt s.heap O)) : Inv X cx O [] ⟨cap, [], orc⟩ s :=
  ⟨I.wd, I.ref, I.reft, I.gs, I.sub, I.LO, I.LR, I.LT, I.above, by
    refine oEA I.ns ?_; intro m hm _
    exact ⟨m, hm, fun x v h1 h2 => by refine oEEEEAA (hc x v h1) ?_; intro d c o u a1 a2 _; exact absurd h2 a2⟩, fun x v h1 h2 => by
    obtain ⟨d, c, o, u, rfl, a2, a3, a4, a5, a6, a7⟩ := hc x v h1
    exact ⟨c, o, u, a3, a4, a5, a6, a7⟩, ⟨rfl, fun i j a h => by simp at h, fun i fr l h => by simp at h⟩⟩
theorem sl1000 {n : Nat} (h : n ≤ 1000) : n ≤ sizeLine := Nat.le_trans h (by decide +kernel)
set_option tactic.hygienic true in
theorem lc_loop (S : SndE K prog w p loose mg mb E) (T : SndT K prog w p loose mg mb E) {env : Env} {D : Addr} {cap : List (Str × Val)} {L : List Addr} {t elt iter : Expr} {ifs : List Expr} {sc : Scope} {pos : Pos} {it : Value} {src : Fm} {k : List Dat → List Bool → Prop} {R' : Result → Shared → Prop}
    {s₂ : Shared} {O₂ : AP} (F : Fok K prog w p loose mg mb (cFc X env s₂ O₂ L) cx) (a : AOk A cx) (A' : IA (cFc X env s₂ O₂ L) (L ++ [D])) (DL : D ∉ L)
    (P : ∀ ds o' (s' : Shared) av n m, k ds o' → (∀ b o, ¬ isTb b → b ∉ L → s₂.heap.get? b = some o → s'.heap.get? b = some o) → GS s₂ s' → TabOk s'.heap → s'.heap.get? D = some (lstN av n) → s'.heap.Ns env.locals m →
      RL (Dt s'.heap fun b => (O₂ b ∧ b ∉ L) ∨ b = D ∨ b = env.locals) ds av → R' (.ok .next) s') :
    ∀ {items : List Dat} {own : Ow} {acc : List Dat} {orc : List Bool} {av : List Value} {n : Nat} {O : AP} {s : Shared}, lcGoD E cx t ifs elt cap items acc orc k → Inv ((cFc X env s₂ O₂ L).wI (own ++ [(D, lstN av n)])) cx O [] ⟨cap, [], orc⟩ s → Runs prog w it t L src items own →
      (∀ a o, src a o → Dt s.heap O a o) → RL (Dt s.heap O) acc.reverse av → CapOk cx.kind cap env.cells (Dt s.heap O) → (∀ a o, Dt s₂.heap O₂ a o → Dt s.heap O a o) →
      codeAny (model prog w) A (.compLoop (.ListComp elt [⟨t, iter, ifs, 0⟩] sc pos) 0 it (.ref D) env) R' s
  | [], own, acc, orc, av, n, O, s, h, I, ru, hs, ra, hc, hd => by
    refine lcGo (noE (ru.2 A s _ _ a.h (fun p hp => I.ref _ _ (.inr (List.mem_append.mpr (.inl hp)))) (fun a o q => (hs a o q).1) fun h' t' kk => ?_))
    have hLD : (own ++ [(D, lstN av n)]).map (·.1) = L ++ [D] := by rw [List.map_append, ru.addr]; rfl
    have gD : s.heap.get? D = some (lstN av n) := I.ref _ _ (.inr (List.mem_append.mpr (.inr (.head _))))
    refine oA (I.endI (h' := h') (t := t') A' hLD fun a o ha e => kk a o (fun q => ha (List.mem_append.mpr (.inl q))) e) ?_; intro J e
    refine oEA J.ns ?_; intro m hm _
    have subL : ∀ b ∈ L ++ [D], O b := fun b hb => I.sub b (.inr (by rw [hLD]; exact hb))
    refine P _ _ _ av n m h (fun b o nt bL e' => ?_) J.gs J.wd.tabs (kk _ _ DL gD) hm (RL.mono (fun b o q => ⟨kk b o (fun z => q.2 (subL b (List.mem_append.mpr (.inl z)))) q.1, fun z => q.2 ?_⟩) _ ra)
    · by_cases q : O₂ b
      · exact J.ref b o ⟨e', q, nt, bL⟩
      · exact (e.dt b o (hd b o ⟨e', q⟩)).1
    · rcases z with z | z | z
      · exact I.sub b (.inl z)
      · rw [z]; exact subL D (by simp)
      · rw [z]; exact I.LO
  | d :: ds, own, acc, orc, av, n, O, s, h, I, ru, hs, ra, hc, hd => by
    unfold lcGoD at h
    split at h
    · rename_i hb
      have hb := Nat.le_of_ble_eq_true hb
      refine lcGo (noE (ru.2 A s _ _ a.h (fun p hp => I.ref _ _ (.inr (List.mem_append.mpr (.inl hp)))) (fun a o q => (hs a o q).1) fun v s₁ hk => ?_))
      refine hk _ _ fun own' h' t' kk hv rv ru' => ?_
      have hLD : (own ++ [(D, lstN av n)]).map (·.1) = L ++ [D] := by rw [List.map_append, ru.addr]; rfl
      have hLD' : ∀ av' n', (own' ++ [(D, lstN av' n')]).map (·.1) = L ++ [D] := fun _ _ => by rw [List.map_append, ru'.addr]; rfl
      have gD : s.heap.get? D = some (lstN av n) := I.ref _ _ (.inr (List.mem_append.mpr (.inr (.head _))))
      obtain ⟨J, e⟩ := I.turn (own' := own' ++ [(D, lstN av n)]) (t := t') A' hLD (hLD' _ _) (fun a o ha e => kk a o (fun q => ha (List.mem_append.mpr (.inl q))) e) fun p hp => by
        rcases List.mem_append.mp hp with hp | hp
        · exact hv p hp
        · have : p = (D, lstN av n) := by simpa using hp
          subst this; exact kk _ _ DL gD
      have rd : R (Dt h' O) d v := R.mono (fun a o q => q.elim (fun q => e.dt a o (hs a o q)) fun q => ⟨q.1, fun z => by refine oE (I.wd.alive a z) ?_; intro o' e'; exact absurd (Heap.lt_size e') (Nat.not_lt.mpr q.2)⟩) _ rv
      refine bindT_snd (X := (cFc X env s₂ O₂ L).wI (own' ++ [(D, lstN av n)])) F.wI a h J rd fun st₃ s₃ O₃ as₃ g1 g2 g3 => ?_
      have e3 := e.trans g3
      have elm : ∀ {st₄ s₄ O₄ as₄}, evD E cx elt st₄ (fun d st => lcGoD E cx t ifs elt cap ds (d :: acc) st.orc k) → Inv ((cFc X env s₂ O₂ L).wI (own' ++ [(D, lstN av n)])) cx O₄ as₄ st₄ s₄ → (∀ a o, Dt s.heap O a o → Dt s₄.heap O₄ a o) →
          wpAny (model prog w) A (eval elt env) (fun x s₄ => wpAny (model prog w) A (call (.builtin "list.append") [.ref D, x]) (fun _ s₅ => codeAny (model prog w) A (.compLoop (.ListComp elt [⟨t, iter, ifs, 0⟩] sc pos) 0 it (.ref D) env) R' s₅) NoE s₄) NoE s₄ := fun {st₄ s₄ O₄ as₄} q1 q2 q3 => by
        refine evD_snd S (X := (cFc X env s₂ O₂ L).wI (own' ++ [(D, lstN av n)])) F.wI a q1 q2 fun x st₅ u s₅ O₅ as₅ p1 p2 p3 p4 => ?_
        have gD₅ : s₅.heap.get? D = some (lstN av n) := p2.ref _ _ (.inr (List.mem_append.mpr (.inr (.head _))))
        have la := ra.length
        refine append_at (hsz := by rw [List.size_toArray, la, List.length_reverse]; exact sl1000 hb) gD₅ fun h'' hsb hD => ?_
        have up : ∀ a o, Dt s.heap O a o → Dt s₅.heap O₅ a o := fun a o q => p3.dt a o (q3 a o q)
        have hDO : O₅ D := p2.sub D (.inr (by rw [hLD']; simp))
        obtain ⟨J', e'⟩ := p2.turn (own' := own' ++ [(D, lstN (av ++ [u]) (n + 1))]) (t := s₅.toks) (h' := h'') A' (hLD' _ _) (hLD' _ _) (fun a o ha e => hsb.extBut a o (fun q => ha (by rw [q]; simp)) e) fun p hp => by
          rcases List.mem_append.mp hp with hp | hp
          · exact hsb.extBut _ _ (fun q => DL (by rw [← ru'.addr, ← q]; exact List.mem_map.mpr ⟨_, hp, rfl⟩)) (p2.ref _ _ (.inr (List.mem_append.mpr (.inl hp))))
          · have : p = (D, lstN (av ++ [u]) (n + 1)) := by simpa using hp
            subst this
            rw [hD, List.push_toArray]
        refine lc_loop S T F a A' DL P (own := own') (acc := x :: acc) (av := av ++ [u]) (n := n + 1) (s := { s₅ with heap := h'' }) p1 (J'.reset (hc.mono fun a o q => e'.dt a o (up a o q))) ru' (fun a o q => e'.dt a o (up a o (hs a o q))) ?_ (hc.mono fun a o q => e'.dt a o (up a o q)) fun a o q => e'.dt a o (up a o (hd a o q))
        rw [List.reverse_cons]
        exact (RL.mono (fun a o q => e'.dt a o (up a o q)) _ ra).append (.cn (p4.ex e') .nl)
      split at g1
      · refine wpAny_of_eq (a := true) rfl ?_
        exact elm g1 g2 fun a o q => e3.dt a o q
      · rename_i c
        rw [List.forIn_cons]
        simp only [if_true, List.forIn_nil]
        refine wpAny_bind (wpAny_bind (T cx _ A F.wI a c st₃ _ O₃ as₃ s₃ _ g1 g2 fun b st₄ s₄ O₄ as₄ q1 q2 q3 => ?_))
        refine wpAny_pure (wpAny_pure ?_)
        cases b with
        | true => exact elm q1 q2 fun a o q => q3.dt a o (e3.dt a o q)
        | false =>
          have up : ∀ a o, Dt s.heap O a o → Dt s₄.heap O₄ a o := fun a o q => q3.dt a o (e3.dt a o q)
          exact lc_loop S T F a A' DL P (own := own') (acc := acc) (av := av) (n := n) q1 (q2.reset (hc.mono up)) ru' (fun a o q => up a o (hs a o q)) (RL.mono up _ ra) (hc.mono up) fun a o q => up a o (hd a o q)
      · exact g1.elim
    · exact h.elim
end
end
section
open PyProof.Rows.LCg
structure ScOk (sc : Scope) : Prop where
  kind : sc.kind = .function
  cell : ∀ y ∈ sc.names, y.2 ≠ .cell
  loc : ∀ y ∈ sc.names, y.2 = .local → sc.names.lookup y.1 = some .local
  free : ∀ y ∈ sc.names, y.2 = .free → look y.1 sc.names = some .free
set_option tactic.hygienic true in
theorem scOk_ok {sc : Scope} (h : scOk sc = true) : ScOk sc := by
  unfold scOk at h
  refine oA (Bool.and_eq_true_iff.mp h) ?_; intro h1 h2
  rw [List.all_eq_true] at h2
  refine ⟨?_, fun y hy q => ?_, fun y hy q => ?_, fun y hy q => ?_⟩
  · split at h1
    · assumption
    · cases h1
  · have := h2 y hy; rw [q] at this; cases this
  · have := h2 y hy; rw [q] at this; dsimp only at this
    split at this
    · rename_i e; rw [← look_eq]; exact e
    · cases this
  · have := h2 y hy; rw [q] at this; dsimp only at this
    split at this
    · assumption
    · cases this
section
variable {K : Params → Frag} {prog : Program} {w : World} {p : Program} {loose : List Str} {mg mb : Str → Option Value} {X : Fc} {cx : Cx} {A : Around} {O : AP} {as : List Addr} {st : St} {s : Shared} {E : Ev}
theorem clos_ok {sc : Scope} {cap : List (Str × Val)} (hs : ScOk sc) (hc : caps cx st.vars sc.names = some cap) (I : Inv X cx O as st s) :
    ∃ cl, closureFor sc X.env = pure cl ∧ CapOk (kindC cx sc) cap cl (Dt s.heap O) := by
  refine oA (caps_free hc) ?_; intro a b
  obtain ⟨cl, e, hl⟩ := closureFor_ok (sc := sc) (env := X.env) fun y hy q => by
    obtain ⟨x, k⟩ := y
    cases q
    refine oEA (b x hy) ?_; intro d h1 h2
    refine oEEEAA (I.cells x _ h1 h2) ?_; intro c o u h3 h4 _
    exact ⟨c, h4⟩
  refine ⟨cl, e, fun x v hx => ?_⟩
  refine oEAA (a x v hx) ?_; rintro d rfl hm hv
  refine oEA (b x hm) ?_; intro d' h1 h2
  refine oEEEAAAA (I.cells x _ hv h2) ?_; intro c o u h3 h4 h5 h6 h7
  have hk : kindC cx sc x = some .cell ∨ kindC cx sc x = some .free := by
    unfold kindC
    rw [hs.free _ hm rfl]
    dsimp only
    rcases h3 with h3 | h3 <;> rw [h3] <;> simp
  have hn : kindC cx sc x ≠ some .local := fun q => by rcases hk with k | k <;> (rw [k] at q; cases q)
  exact ⟨d, c, o, u, rfl, hn, hk, (hl x hm).trans h4, h5, h6, h7⟩
theorem lc_core (S : SndE K prog w p loose mg mb E) (T : SndT K prog w p loose mg mb E) (F : Fok K prog w p loose mg mb X cx) (a : AOk A cx) {t elt iter : Expr} {ifs : List Expr} {sc : Scope} {pos : Pos} {cl : List (Str × Addr)} {cap : List (Str × Val)} {items : List Dat} {own : Ow} {L : List Addr} {src : Fm} {it : Value} {k : List Dat → List Bool → Prop} {RR : Value → Addr → Result → Shared → Prop} (hs : ScOk sc)
    (h : lcGoD E { cx with kind := kindC cx sc } t ifs elt cap items [] st.orc k) (I : Inv (X.wI own) cx O as st s) (A' : IA X L) (ru : Runs prog w it t L src items own) (self : SelfI prog w it own) (hsrc : ∀ a o, src a o → Dt s.heap O a o) (hc : CapOk (kindC cx sc) cap cl (Dt s.heap O))
    (P : ∀ ds o' s' D C oC O' m, k ds o' → Inv (X.wI [(C, oC)]) cx O' (as ++ [D]) { st with own := st.own ++ [(false, ds)], orc := o' } s' → Ex O as s O' (as ++ [D]) s' → IA X [C] → s'.heap.Ns C m → RR (.ref D) C (.ok .next) s') :
    wpAny (model prog w) A (newList []) (fun acc s₃ => wpAny (model prog w) A (newFunctionEnv sc X.env.globals cl [] X.env.qual none .none (some X.env)) (fun cenv s₄ =>
      codeAny (model prog w) A (.compStart (.ListComp elt [⟨t, iter, ifs, 0⟩] sc pos) 0 it acc { cenv with scope := relabel sc X.env }) (RR acc cenv.locals) s₄) NoE s₃) NoE s := by
  refine wpAny_newObj_type ?_
  refine wpAny_newFunctionEnv hs.cell (by intro y hy; simp at hy) (fun h₁ hns hsb => ?_) hs.kind
  have kp : Kp s.heap h₁ := fun b o e => hsb.extBut b o (fun q => by
    have := Heap.lt_size e
    rw [q, Heap.size_push] at this
    exact absurd this (Nat.not_lt.mpr (Nat.le_succ _))) (Heap.get?_push_of_some _ (Heap.get?_push_of_some _ e))
  have hz : (s.heap.push (lstN [] 0)).objs.size = s.heap.objs.size + 1 := Heap.size_push ..
  have gD : h₁.get? s.heap.objs.size = some (lstN [] 0) := hsb.extBut _ _ (fun q => by
    have q : s.heap.objs.size = (s.heap.push (lstN [] 0)).objs.size := q
    rw [hz] at q; exact absurd q (Nat.ne_of_lt (Nat.lt_succ_self _))) (Heap.get?_push_of_some _ (Heap.get?_push_size _ rfl))
  have loop : ∀ s', s' = ({ heap := h₁, gens := s.gens, drawn := s.drawn, toks := s.toks + ([] : List (Str × Value)).length, os := s.os } : Shared) → codeAny (model prog w) A (.compLoop (.ListComp elt [⟨t, iter, ifs, 0⟩] sc pos) 0 it (.ref s.heap.objs.size) (compEnvC sc cl (s.heap.push (lstN [] 0)).objs.size X.env)) (RR (.ref s.heap.objs.size) (s.heap.push (lstN [] 0)).objs.size) s' := by
    rintro s' rfl
    have ne : (s.heap.push (lstN [] 0)).objs.size ≠ s.heap.objs.size := by rw [hz]; exact Nat.ne_of_gt (Nat.lt_succ_self _)
    have gs : GS s ({ heap := h₁, gens := s.gens, drawn := s.drawn, toks := s.toks + ([] : List (Str × Value)).length, os := s.os } : Shared) := ⟨I.gs.1, rfl, rfl, GK.refl _⟩
    have sC : s.heap.objs.size ≤ (s.heap.push (lstN [] 0)).objs.size := by rw [hz]; exact Nat.le_succ _
    refine oAA (I.block (env := compEnvC sc cl (s.heap.push (lstN [] 0)).objs.size X.env) (cap := cap) (orc := st.orc) (cxc := { cx with kind := kindC cx sc }) (s' := { heap := h₁, gens := s.gens, drawn := s.drawn, toks := s.toks + ([] : List (Str × Value)).length, os := s.os }) A' ru.addr kp gs rfl (Nat.le_refl _) sC ne gD hns hc) ?_; intro J A₂ hd
    have F' : Fok K prog w p loose mg mb (cFc X (compEnvC sc cl (s.heap.push (lstN [] 0)).objs.size X.env) s O L) { cx with kind := kindC cx sc } :=
      ⟨F.base, F.last, F.kok, fun x => kindC_eq F.kinds F.fn x, hs.kind, F.glob, F.bltn, F.gam⟩
    refine lc_loop S T F' ⟨a.h, a.d, a.u, a.dl, a.ul⟩ A₂ (fun q => ?_) (fun ds o' s' av n m q1 q2 q3 q4 q5 q6 q7 => ?_) h J ru (fun a o q => hd a o (hsrc a o q)) .nl (hc.mono hd) hd
    · have : O s.heap.objs.size := I.sub _ (.inr (by rw [ru.addr]; exact q))
      exact I.wd.fresh this
    · refine oEEEA q6 ?_; clear q6; intro oC es ep c1 c2
      refine oAA (I.leave (o' := o') (l := ds) A' ru.addr q2 q3 q4 (Nat.le_refl _) sC ne q5 c1 q7) ?_; intro I' e' A₃
      exact P ds o' s' _ _ oC _ m q1 I' e' A₃ ⟨oC, es, ep, c1, c2⟩
  have hv : Hv own h₁ := fun p hp => kp _ _ (I.ref _ _ (.inr hp))
  exact codeAny_compStart_list (loop _ rfl) (self A _ _ _ hv (loop _ rfl))
theorem Inv.letC {C : Addr} {oC : Obj} {h' : Heap} (I : Inv (X.wI [(C, oC)]) cx O as st s) (A' : IA X [C]) (hs : Heap.SameBut C s.heap h') :
    Inv X cx (fun a => O a ∧ a ∉ [C]) as st { s with heap := h' } ∧ Ex O as s (fun a => O a ∧ a ∉ [C]) as { s with heap := h' } :=
  I.endI (t := s.toks) A' rfl fun a o ha e => hs.extBut a o (fun q => ha (by rw [q]; exact .head _)) e
theorem newL_own {l : List Dat} {k : KV} (h : newL l st k) : k (.loc st.own.length) { st with own := st.own ++ [(false, l)] } := gd_k h fun _ h => h
theorem lcE_snd (S : SndE K prog w p loose mg mb E) (T : SndT K prog w p loose mg mb E) (F : Fok K prog w p loose mg mb X cx) (a : AOk A cx) {e : Expr} {k : KV} {Q : Value → Shared → Prop} (h : evLC E cx e st fun ds st => newL ds st k) (I : Inv X cx O as st s) (P : PostE X cx k O as s Q) :
    wpAny (model prog w) A (eval e X.env) Q NoE s := by
  refine vLC_e h ?_
  clear h
  rintro elt ⟨t, iter, ifs, n⟩ sc pos h
  · refine gd_k h ?_; clear h; rintro hsc h
    refine oJ_k h ?_; clear h; rintro cap hcap h
    refine oA (Bool.and_eq_true_iff.mp hsc) ?_; intro hs1 hn
    clear hsc
    obtain rfl : n = 0 := of_decide_eq_true hn
    · have hs := scOk_ok hs1
      refine oEA (clos_ok hs hcap I) ?_; intro cl hcl hco
      rw [eval_ListComp]
      refine wpAny_comprehension_free (use := none) rfl (evI_ns h) hcl hs.kind hs.loc (evI_snd S F a h I fun items st' it own L src s' O' as' h1 h2 h3 h4 h5 h6 h7 => ?_)
      refine lc_core S T F a hs h1 h2 h3 h4 h5 h6 (hco.mono h7.dt) fun ds o' s'' D C oC O'' m q1 q2 q3 q4 q5 => ?_
      refine ⟨m, q5, fun h' hsb => ?_⟩
      refine oA (q2.letC q4 hsb) ?_; intro J e'
      refine P _ _ _ _ _ _ (newL_own q1) J ((h7.trans q3).trans e') ⟨D, ?_, rfl⟩
      show (as' ++ [D])[st'.own.length]? = some D
      rw [← h2.own.len, List.getElem?_append_right (Nat.le_refl _)]; simp
theorem lcA_snd (S : SndE K prog w p loose mg mb E) (T : SndT K prog w p loose mg mb E) (F : Fok K prog w p loose mg mb X cx) (a : AOk A cx) {e : Expr} {y : Str} {py spos : Pos} {k : St → Prop} {Q : Flow → Shared → Prop} (h : evLC E cx e st fun ds st => newL ds st fun v st => setV cx y v st k) (I : Inv X cx O as st s)
    (hsw : swapsWith e (some (.Name y py)) spos.line X.env = pure true) (P : PostS X cx k O as s (Q .next)) : wpAny (model prog w) A (exec (.Assign [.Name y py] e spos) X.env) Q NoE s := by
  revert hsw
  refine vLC_e h ?_
  clear h
  rintro elt ⟨t, iter, ifs, n⟩ sc pos h hsw
  · refine gd_k h ?_; clear h; rintro hsc h
    refine oJ_k h ?_; clear h; rintro cap hcap h
    refine oA (Bool.and_eq_true_iff.mp hsc) ?_; intro hs1 hn
    clear hsc
    obtain rfl : n = 0 := of_decide_eq_true hn
    · have hs := scOk_ok hs1
      refine oEA (clos_ok hs hcap I) ?_; intro cl hcl hco
      rw [exec_Assign_Name_used _ _ _ _ hsw]
      refine wpAny_bind (wpAny_standAt (wpAny_bind ?_))
      show wpAny _ A (do let _ ← comprehension (.ListComp elt [⟨t, iter, ifs, 0⟩] sc pos) sc X.env _ (newList []) false (eval iter X.env) (some (assign (.Name y py) X.env))) _ _ s
      refine wpAny_bind (wpAny_mono (wpAny_comprehension_free (use := some (assign (.Name y py) X.env)) (Q := fun _ s' => Q .next s') rfl (evI_ns h) hcl hs.kind hs.loc
        (evI_snd S F a h I fun items st' it own L src s' O' as' h1 h2 h3 h4 h5 h6 h7 => ?_)) (fun _ s' hq => wpAny_pure (wpAny_pure hq)) fun _ _ e => e)
      refine lc_core S T F a hs h1 h2 h3 h4 h5 h6 (hco.mono h7.dt) fun ds o' s'' D C oC O'' m q1 q2 q3 q4 q5 => ?_
      show wpAny _ A (assign (.Name y py) X.env (.ref D)) _ _ _
      refine nm_snd (X := X.wI [(C, oC)]) F.wI (newL_own q1) q2 (u := .ref D) ⟨D, ?_, rfl⟩ fun st₃ s₃ O₃ as₃ p1 p2 p3 => ?_
      · show (as' ++ [D])[st'.own.length]? = some D
        rw [← h2.own.len, List.getElem?_append_right (Nat.le_refl _)]; simp
      · refine oEEEAA q5 ?_; clear q5; intro oC' es ep c1 c2 c3
        have gC : s''.heap.get? C = some oC := q2.ref C oC (.inr (.head _))
        rw [gC] at c1; cases c1
        refine ⟨m, ⟨oC, es, ep, p2.ref C oC (.inr (.head _)), c2, c3⟩, fun h' hsb => ?_⟩
        refine oA (p2.letC q4 hsb) ?_; intro J e'
        exact P _ _ _ _ p1 J (((h7.trans q3).trans p3).trans e')
end
end
section
open PyProof.Rows.LCg
section
variable {prog : Program} {w : World} {A : Around} {s : Shared} {E : Value → Shared → Prop} {env : Env}
theorem attributeBase_ok {o : Expr} {x : Str} {whole : Sem Value} (h : okBase o = true) : attributeBase o x env whole = whole := by
  cases o <;> first | rfl | cases h
theorem Attr_ok {o : Expr} {x : Str} {pos : Pos} {Q : Value → Shared → Prop} (ho : okBase o = true) (h : wpAny (model prog w) A (eval o env) (fun v s₁ => wpAny (model prog w) A (getAttr v x true) Q E s₁) E s) : wpAny (model prog w) A (eval (.Attribute o x pos) env) Q E s := by
  refine Attribute_any_ h ?_
  show (do
    let v ← attributeBase o x env (eval o env)
    standAt pos.atName
    let r ← holding [v] (getAttr v x true)
    letTemporaryGo o v r
    pure r) = _
  rw [attributeBase_ok ho]
theorem Meth_ok {o : Expr} {x : Str} {ap pos : Pos} {args : List Expr} {Q : Value → Shared → Prop} (ho : okBase o = true) (he : ap.endLine = pos.line) (hn : noStar args = true) (hl : args.length < 30)
    (h : wpAny (model prog w) A (eval o env) (fun ov s₁ => wpAny (model prog w) A (getMethod ov x (do return (← importBound o env).getD true)) (fun fx s₂ => wpAny (model prog w) A (callWith pos fx.1 fx.2 (backTo pos (starEach args env)) []) Q E s₂) E s₁) E s) :
    wpAny (model prog w) A (eval (.Call (.Attribute o x ap) args [] pos) env) Q E s := by
  refine methodCall_KW (kws := []) (pl := (do return (← importBound o env).getD true)) h ?_
  show (do
    let ov ← attributeBase o x env (eval o env)
    standAt ap.atName
    methodCall o x ap pos env ov (args.length + ([] : List Keyword).length) (backTo pos (starEach args env)) (backToKw pos (keywordEach [] env))) = _
  have hf : methodCallForm (args.length + ([] : List Keyword).length) (backTo pos (starEach args env)) (backToKw pos (keywordEach [] env)) = true := by
    unfold methodCallForm
    have hp := plain_each (env := env) (pos := pos) hn
    have hp' : (backTo pos (starEach args env)).all (!·.1) = true := by
      rw [List.any_eq_false] at hp
      rw [List.all_eq_true]
      intro y hy
      simpa using hp y hy
    rw [hp']
    rw [show backToKw pos (keywordEach [] env) = [] from rfl]
    simp
    omega
  rw [attributeBase_ok ho]
  unfold methodCall calleeOf methodCallPos
  rw [hf]
  simp only [if_true, Bool.not_true, Bool.false_or, he, beq_self_eq_true]
  rfl
theorem isTrue_df {e : Expr} {whole : Sem Value} (h : isDf e = true) : isTrue e env whole = (do let v ← whole; standAt e.pos; holding [v] (truthy v)) := by
  cases e with
  | UnaryOp op x p => cases op <;> first | rfl | cases h
  | BoolOp => cases h
  | IfExp => cases h
  | Compare => cases h
  | _ => rfl
theorem neg_obj {K : Frag} {C f x : Addr} {ox : Obj} {od : Option Obj} {Q : Value → Shared → Prop} (X : K.In s.heap) (I : InstAt s.heap x ox C od) (hs : findIn K (.ref C) "__neg__" = some (some (.ref f))) (hf : isFn K (.ref f) = true)
    (h : wpAny (model prog w) A (call (.ref f) [.ref x]) Q E s) : wpAny (model prog w) A (unaryOp .USub (.ref x)) Q E s := by
  unfold unaryOp
  refine wpAny_holding ?_
  exact wpAny_bind (m := callSpecial? (.ref x) (Str.ofString "__neg__")) (special_fn X I hs (beq_iff_eq.mp hf) (wpAny_mono h (fun _ _ z => wpAny_pure z) fun _ _ z => z))
end
theorem mName_mem {x : Str} (h : mName x = true) : x ∈ ["made", "FQP_corresponding_FQ_class", "one", "zero", "inv", "optimized_poly_rounded_div"].map Str.ofString := by
  unfold mName at h
  refine oEA (List.any_eq_true.mp h) ?_; intro y hy e
  rw [(seq_iff _ _).mp e] at hy
  exact hy
section
variable {K : Params → Frag} {prog : Program} {w : World} {p : Program} {loose : List Str} {mg mb : Str → Option Value} {X : Fc} {cx : Cx} {A : Around} {O : AP} {as : List Addr} {st : St} {s : Shared} {E : Ev}
theorem evTs_snd (T : SndT K prog w p loose mg mb E) (F : Fok K prog w p loose mg mb X cx) (a : AOk A cx) {Q : Bool → Shared → Prop} (b : Bool) : ∀ {l : List Expr} {st : St} {k : KB} {O : AP} {as : List Addr} {s : Shared}, evTs E cx b l st k → Inv X cx O as st s → PostB X cx k O as s Q →
    wpAny (model prog w) A (allTrue (match b with | true => .And | false => .Or) l X.env) Q NoE s
  | [], st, k, O, as, s, h, I, P => by
    cases b with
    | true => exact wpAny_allTrue_And_nil (P _ _ _ _ _ h I Ex.refl)
    | false => exact wpAny_allTrue_Or_nil (P _ _ _ _ _ h I Ex.refl)
  | e :: r, st, k, O, as, s, h, I, P => by
    cases b with
    | true =>
      refine wpAny_allTrue_And_cons (T cx X A F a e st _ O as s _ h I fun c st' s' O' as' h1 h2 h3 => ?_)
      cases c with
      | true => exact evTs_snd T F a true h1 h2 (P.trans h3)
      | false => exact P _ _ _ _ _ h1 h2 h3
    | false =>
      refine wpAny_allTrue_Or_cons (T cx X A F a e st _ O as s _ h I fun c st' s' O' as' h1 h2 h3 => ?_)
      cases c with
      | true => exact P _ _ _ _ _ h1 h2 h3
      | false => exact evTs_snd T F a false h1 h2 (P.trans h3)
theorem evT_snd (S : SndE K prog w p loose mg mb E) (T : SndT K prog w p loose mg mb E) (F : Fok K prog w p loose mg mb X cx) (a : AOk A cx) {e : Expr} {k : KB} {Q : Bool → Shared → Prop} (h : evT E cx e st k) (I : Inv X cx O as st s) (P : PostB X cx k O as s Q) :
    wpAny (model prog w) A (isTrue e X.env (eval e X.env)) Q NoE s := by
  refine bb_k h ?_ ?_ <;> clear h
  · intro hd h
    refine wpAny_isTrue_value (S cx X A F a _ st _ O as s _ h I fun v st' u s' O' as' h1 h2 h3 h4 => ?_) (isTrue_df (env := X.env) hd)
    exact toD_snd h1 h2 h4 fun d st₃ u₃ s₃ O₃ as₃ q1 q2 q3 q4 => br_snd q1 q2 q4 fun b st₄ s₄ O₄ as₄ p1 p2 p3 => P _ _ _ _ _ p1 p2 ((h3.trans q3).trans p3)
  · intro hd h
    cases e with
    | UnaryOp op x pos =>
      cases op with
      | Not => exact wpAny_isTrue_Not (T cx X A F a _ st _ O as s _ h I fun b st' s' O' as' h1 h2 h3 => P _ _ _ _ _ h1 h2 h3)
      | _ => cases hd
    | BoolOp op xs pos =>
      cases op with
      | And => exact wpAny_isTrue_BoolOp (evTs_snd T F a true h I P)
      | Or => exact wpAny_isTrue_BoolOp (evTs_snd T F a false h I P)
    | Compare l ops rs pos =>
      clear hd
      refine n1_e h ?_ False.elim
      clear h
      intro op h
      refine n1_e h ?_ False.elim
      clear h
      intro r h
      refine gn_k h ?_; clear h; rintro hm h
      refine wpAny_isTrue_Compare1 (evD_snd S F a h I fun d st' u s' O' as' h1 h2 h3 h4 => evD_snd S F a h1 h2 fun d' st'' u' s'' O'' as'' g1 g2 g3 g4 => ?_) hm
      exact cmpD_snd F a g2 g1 (h4.ex g3) g4 fun d st₃ u₃ s₃ O₃ as₃ q1 q2 q3 q4 => br_snd q1 q2 q4 fun b st₄ s₄ O₄ as₄ p1 p2 p3 => P _ _ _ _ _ p1 p2 (((h3.trans g3).trans q3).trans p3)
    | _ => exact h.elim
end
end
section
open PyProof.Rows.LCg
theorem pick_range (vs : List Value) : ∀ m, m ≤ vs.length → (List.range m).filterMap (fun i => vs[i]?) = vs.take m
  | 0, _ => by simp
  | m + 1, h => by
    rw [List.range_succ, List.filterMap_append, pick_range vs m (by omega), List.take_succ_eq_append_getElem (by omega : m < vs.length)]
    simp [List.getElem?_eq_getElem (show m < vs.length by omega)]
theorem pick_take (vs : List Value) (n : Int) (h : 0 ≤ n) : slicePick vs.toArray none (some n) none = (vs.take n.toNat).toArray := by
  refine oE (Int.eq_ofNat_of_zero_le h) ?_; rintro m rfl
  unfold slicePick sliceBounds
  simp only [Option.getD_none, List.size_toArray, show ((1 : Int) > 0) = True from eq_true (by decide), if_true, if_neg (Int.not_lt.mpr h)]
  unfold sliceRange
  simp only [show ((1 : Int) > 0) = True from eq_true (by decide), if_true]
  have e1 : max 0 (min (m : Int) (vs.length : Int)) = ((min m vs.length : Nat) : Int) := by
    rcases Nat.le_total m vs.length with q | q
    · rw [Nat.min_eq_left q, Int.min_eq_left (Int.ofNat_le.mpr q)]; exact Int.max_eq_right (Int.natCast_nonneg _)
    · rw [Nat.min_eq_right q, Int.min_eq_right (Int.ofNat_le.mpr q)]; exact Int.max_eq_right (Int.natCast_nonneg _)
  have e : (if (0 : Int) < max 0 (min (m : Int) (vs.length : Int)) then (max 0 (min (m : Int) (vs.length : Int)) - 0 + 1 - 1) / 1 else 0).toNat = min m vs.length := by
    rw [e1]
    generalize min m vs.length = k
    cases k with
    | zero => rfl
    | succ k => rw [if_pos (Int.natCast_pos.mpr (Nat.succ_pos k)), Int.ediv_one, Int.add_sub_cancel, Int.sub_zero, Int.toNat_natCast]
  rw [e]
  have e2 : (List.range (min m vs.length)).map (fun (k : Nat) => (0 + 1 * (k : Int)).toNat) = List.range (min m vs.length) := by
    rw [List.map_congr_left (g := id) (fun a _ => by simp), List.map_id]
  rw [e2]
  have e3 : (fun x => vs.toArray[x]?) = fun i : Nat => vs[i]? := by funext i; simp
  rw [e3, pick_range vs _ (Nat.min_le_right _ _)]
  congr 1
  rw [List.take_eq_take_iff, Int.toNat_natCast, Nat.min_assoc, Nat.min_self]
theorem le16 {n m : Nat} (e : n = m) (h : Nat.ble m 1000 = true) : n ≤ 16777216 := e ▸ Nat.le_trans (Nat.le_of_ble_eq_true h) (by decide)
section
variable {K : Params → Frag} {prog : Program} {w : World} {p : Program} {loose : List Str} {mg mb : Str → Option Value} {X : Fc} {cx : Cx} {A : Around} {O : AP} {as : List Addr} {st : St} {s : Shared} {E : Ev}
theorem subs_dflt {i : Expr} {o v : Value} (h : isSl i = false) : subscripted i false o v = operate [o, v] (getItem o v) := by
  cases i <;> first | rfl | cases h
theorem list_item {e i : Expr} {l : Addr} {n : Int} {t : Tok} {vs : List Value} {m : Nat} {x : Value} {Q : Value → Shared → Prop} {E : Value → Shared → Prop} (hi : isSl i = false) (hl : s.heap.get? l = some (lstN vs m)) (h0 : 0 ≤ n) (hz : vs.length ≤ 16777216) (hx : vs[n.toNat]? = some x) (h : Q x s) :
    wpAny (model prog w) A (subscriptTail e i (.ref l) (.int n t)) Q E s := by
  have hs : s.heap.IsList l vs.toArray := ⟨_, hl, rfl, m, rfl⟩
  have := (List.getElem?_eq_some_iff.mp hx).1
  exact tail_any hs.typeIs list_getitem_lookup (wpAny_getItem_list hs h0 (by omega) (by simpa using hx) h) (subs_dflt hi)
theorem tup_getI {e i : Expr} {l : Addr} {n : Int} {t : Tok} {vs : List Value} {m j : Nat} {x : Value} {Q : Value → Shared → Prop} {E : Value → Shared → Prop} (hi : isSl i = false) (hl : s.heap.get? l = some (tupN vs m)) (h0 : -(2 ^ 63) ≤ n) (h1 : n < 2 ^ 63) (hj : seqIndex? n vs.length = some j) (hx : vs[j]? = some x) (h : Q x s) :
    wpAny (model prog w) A (subscriptTail e i (.ref l) (.int n t)) Q E s :=
  item_tupleT (l := vs) ⟨_, hl, rfl, m, rfl⟩ h0 h1 hj hx h (subs_dflt hi)
theorem getD_idx {l : List Dat} {n : Int} {d : Dat} (h : getD l n = some d) : ∃ j, seqIndex? n l.length = some j ∧ l[j]? = some d ∧ (n < l.length) ∧ (-(l.length : Int) ≤ n) := by
  have go : ∀ m : Int, 0 ≤ m → l[m.toNat]? = some d → m < l.length := fun m h0 h => by
    refine oE (Int.eq_ofNat_of_zero_le h0) ?_; rintro k rfl
    exact Int.ofNat_lt.mpr (List.getElem?_eq_some_iff.mp h).1
  have sq : ∀ m : Int, 0 ≤ m → m < l.length → (if 0 ≤ m ∧ m < (l.length : Int) then some m.toNat else none) = some m.toNat := fun m h0 h1 => if_pos ⟨h0, h1⟩
  unfold getD at h
  rcases bI_x h with ⟨q, h⟩ | ⟨q, h⟩
  · have q := of_decide_eq_true q
    have g := go n q h
    refine ⟨n.toNat, ?_, h, g, Int.le_trans (Int.neg_nonpos_of_nonneg (Int.natCast_nonneg _)) q⟩
    unfold seqIndex?
    rw [if_neg (Int.not_lt.mpr q)]
    exact if_pos (by simp [q, g])
  · have q := Int.not_le.mp (of_decide_eq_false q)
    refine oA (oB_x h) ?_; intro q2 h
    have q2 := of_decide_eq_true q2
    have g := go _ q2 h
    refine ⟨(n + l.length).toNat, ?_, h, Int.lt_of_lt_of_le q (Int.natCast_nonneg _), (by omega)⟩
    unfold seqIndex?
    rw [if_pos q]
    exact if_pos (by simp [q2, g])
theorem ix_snd {ee i : Expr} {v : Val} {n : Dat} {u u' : Value} {k : KV} {Q : Value → Shared → Prop} (hi : isSl i = false) (h : evIx st v n k) (I : Inv X cx O as st s) (hv : VR as (Dt s.heap O) v u) (hn : R (Dt s.heap O) n u') (P : PostE X cx k O as s Q) :
    wpAny (model prog w) A (subscriptTail ee i u u') Q NoE s := by
  revert hn
  refine oL_e h ?_ ?_ <;> clear h
  · intro n h hn
    refine oE hn ?_; clear hn; rintro t rfl
    revert hv
    refine vv_e h ?_ ?_ <;> clear h
    · intro d h
      refine oT_e h ?_ ?_ <;> clear h
      · intro l h hv
        refine gd_k h ?_; clear h; rintro hb h
        refine oJ_k h ?_; clear h; rintro d hd h
        obtain ⟨b, m, vs, rfl, q1, q2⟩ := hv
        refine oEAAA (getD_idx hd) ?_; intro j d1 d2 d3 d4
        refine oEA (q2.at _ _ d2) ?_; intro x q5 q6
        have hb := Nat.le_of_ble_eq_true hb
        clear hd
        exact tup_getI hi q1.1 (by omega) (by omega) (by rw [q2.length]; exact d1) q5 (P _ _ _ _ _ _ h I Ex.refl q6)
      · intro h
        refine dS_e h ?_
        clear h
        intro l h hv
        refine gd_k h ?_; clear h; rintro hb h
        refine oJ_k h ?_; clear h; rintro d hd h
        obtain ⟨b, m, vs, rfl, q1, q2⟩ := hv
        refine oA (Bool.and_eq_true_iff.mp hb) ?_; intro hn hb
        refine oEA (q2.at _ _ hd) ?_; intro x q5 q6
        exact list_item hi q1.1 (of_decide_eq_true hn) (le16 q2.length hb) q5 (P _ _ _ _ _ _ h I Ex.refl q6)
    · intro j h hv
      refine ow_k h ?_; clear h; rintro fr l ho h
      refine gd_k h ?_; clear h; rintro hn h
      refine gd_k h ?_; clear h; rintro hb h
      refine oJ_k h ?_; clear h; rintro d hd h
      refine oEEEAAA (I.own.at_ j fr l ho) ?_; intro b m vs q1 q2 q3 _
      refine oEA hv ?_; clear hv; rintro c q4 rfl
      obtain rfl := Option.some.inj (q1.symm.trans q4)
      refine oEA (q3.at _ _ hd) ?_; intro x q5 q6
      exact list_item hi q2 (of_decide_eq_true hn) (le16 q3.length hb) q5 (P _ _ _ _ _ _ h I Ex.refl q6)
  · intro h
    refine dI_e h ?_
    clear h
    intro n B h hn
    refine oAE hn ?_; clear hn; rintro _ t rfl
    revert hv
    refine vD_e h ?_
    clear h
    intro d h
    refine dS_e h ?_
    clear h
    intro l h hv
    obtain ⟨b, m, vs, rfl, q1, q2⟩ := hv
    refine oA h ?_; clear h; rintro ⟨c1, c2, c3, c4⟩ g1
    have hlt : n.toNat < l.length := (Int.toNat_lt c1).mpr c2
    have hd := List.getElem?_eq_getElem hlt
    refine oE (c4 _ (List.getElem_mem hlt)) ?_; intro q hq
    refine oEA (q2.at _ _ hd) ?_; intro x q5 q6
    rw [hq] at q6 hd
    exact list_item hi q1.1 c1 (le16 q2.length (Nat.ble_eq_true_of_le c3)) q5 (P _ _ _ _ _ _ (g1 q hd) I Ex.refl q6)
theorem evIdx_snd (S : SndE K prog w p loose mg mb E) (F : Fok K prog w p loose mg mb X cx) (a : AOk A cx) {o i : Expr} {pos : Pos} {k : KV} {Q : Value → Shared → Prop} (h : evIdx E cx o i st k) (I : Inv X cx O as st s) (P : PostE X cx k O as s Q) :
    wpAny (model prog w) A (eval (.Subscript o i pos) X.env) Q NoE s := by
  revert P
  refine vSl_e h ?_ ?_ <;> clear h
  · intro lo up stp ps h P
    refine gd_k h ?_; clear h; rintro hc h
    refine oJ_k h ?_; clear h; rintro up' e h
    refine oA (Bool.and_eq_true_iff.mp hc) ?_; intro hc hn
    refine oA (Bool.and_eq_true_iff.mp hc) ?_; intro h1 h2
    obtain rfl := isNo_ok h1
    obtain rfl := isNo_ok h2
    subst e
    refine wpAny_Subscript_list_slice (S cx X A F a o st _ O as s _ h I fun v st' u s' O' as' h1 h2 h3 h4 => ?_) (fun o' r => by refine oEE (isName_ex hn) ?_; rintro x p rfl; rfl)
    clear h hc hn
    refine wpAny_pure ?_
    show wpAny _ _ (eval up' X.env) _ _ _
    refine evD_snd S F a h1 h2 fun d st'' u' s'' O'' as'' g1 g2 g3 g4 => ?_
    clear h1
    replace h4 := h4.ex g3
    revert g4
    refine dL_e g1 ?_
    clear g1
    intro n g1 g4
    refine oE g4 ?_; clear g4; rintro t rfl
    revert h4
    refine vL_e g1 ?_
    clear g1
    intro j g1 h4
    refine ow_k g1 ?_; clear g1; rintro fr l ho g1
    refine gd_k g1 ?_; clear g1; rintro hn g1
    refine gd_k g1 ?_; clear g1; rintro hb g1
    have hn := of_decide_eq_true hn
    refine oEEEAAA (g2.own.at_ j fr l ho) ?_; intro b m vs q1 q2 q3 _
    refine oEA h4 ?_; clear h4; rintro c q4 rfl
    obtain rfl := Option.some.inj (q1.symm.trans q4)
    refine ⟨b, vs.toArray, none, some n, rfl, ⟨_, q2, rfl, m, rfl⟩, ?_, .none, .int n t, ?_⟩
    · rw [List.size_toArray, q3.length]; exact sl1000 (Nat.le_of_ble_eq_true hb)
    · rw [pick_take vs n hn]
      have kp : Kp s''.heap ((s''.heap.push { cls := .type "slice", data := .fields #[.none, .int n t, .none] }).push (lstN (vs.take n.toNat) 0)) := fun _ _ e => Heap.get?_push_of_some _ (Heap.get?_push_of_some _ e)
      obtain ⟨J, e⟩ := g2.newOwnK (s' := { s'' with heap := (s''.heap.push { cls := .type "slice", data := .fields #[.none, .int n t, .none] }).push (lstN (vs.take n.toNat) 0) }) (a := s''.heap.objs.size + 1) (q3.take n.toNat) (fun b o _ e => kp b o e) ⟨g2.gs.1, rfl, rfl, GK.refl _⟩ (g2.tabOk kp) (Nat.le_succ _)
        (by rw [← Heap.size_push]; exact Heap.get?_push_size _ rfl)
      refine P _ _ _ _ _ _ (newL_own g1) J ((h3.trans g3).trans e) ⟨s''.heap.objs.size + 1, ?_, rfl⟩
      rw [← g2.own.len, List.getElem?_append_right (Nat.le_refl _)]; simp
  · intro hi h P
    refine Subscript_ (S cx X A F a o st _ O as s _ h I fun v st' u s' O' as' h1 h2 h3 h4 => evD_snd S F a h1 h2 fun d st'' u' s'' O'' as'' g1 g2 g3 g4 => ?_)
    exact ix_snd hi g1 g2 (h4.ex g3) g4 (P.trans (h3.trans g3))
theorem isCrv_some {o : Expr} {x : Str} (h : isCrv o = some x) : ∃ px, o = .Name x px ∧ x = "_law_curves" := by
  refine oEEA (eN_x h) ?_; rintro y p rfl h
  refine oA (oB_x h) ?_; intro e h
  cases h
  exact ⟨_, rfl, (seq_iff _ _).mp e⟩
theorem evCrv_snd (S : SndE K prog w p loose mg mb E) (F : Fok K prog w p loose mg mb X cx) (a : AOk A cx) {o i : Expr} {x : Str} {pos : Pos} {k : KV} {Q : Value → Shared → Prop} (ho : isCrv o = some x) (h : evCrv E cx x i st k) (I : Inv X cx O as st s) (P : PostE X cx k O as s Q) :
    wpAny (model prog w) A (eval (.Subscript o i pos) X.env) Q NoE s := by
  refine oEA (isCrv_some ho) ?_; rintro px rfl hx
  refine gd_k h ?_; clear h; rintro hk h
  refine oA (Bool.and_eq_true_iff.mp hk) ?_; intro hs hk
  refine oA (Bool.and_eq_true_iff.mp hs) ?_; intro hi _
  have hi : isSl i = false := by cases e : isSl i <;> first | rfl | (rw [e] at hi; cases hi)
  have hk' := (F.kinds x).trans (isGI_ok hk)
  clear hs hk
  have G : s.heap.Ns X.env.globals mg := by rw [F.glob]; exact F.base.T.g.keeps I.wd.keep
  obtain ⟨hg, vs, m, hl, hv, hc⟩ := F.kok.crv
  have hd : (x == "__debug__") = false := by rw [hx]; decide +kernel
  refine Subscript_ (Name_function_global F.fn hk' (loadGlobal_global G (mg_of F.base.X F.base.T.g (hx ▸ hg)) ?_) hd)
  refine evD_snd S F a h I fun d st' u s' O' as' g1 g2 g3 g4 => ?_
  refine oJ_k g1 ?_; clear g1; rintro ⟨n, B⟩ e g1
  refine oA g1 ?_; clear g1; rintro ⟨c1, c2⟩ g1
  refine oAE (intOf_R e g4) ?_; rintro _ t rfl
  have hlt : n.toNat < vs.length := (Int.toNat_lt c1).mpr (hv ▸ c2)
  refine oEEEEA (hc _ (List.getElem_mem hlt)) ?_; intro p' b0 b1 pts cr r
  have up : ∀ a o, (K w.params).lookup a = some o → Dt s'.heap O' a o := fun a o e => ⟨g2.wd.keep _ _ (F.base.X _ _ e), fun q => nomatch (F.base.X _ _ e).symm.trans (g2.wd.off a q)⟩
  exact list_item hi (up _ _ hl).1 c1 (hv ▸ (by decide)) (List.getElem?_eq_getElem hlt) (P _ _ _ _ _ _ (g1 _ _ _ _ cr) g2 g3 (R.mono up _ r))
end
end
section
open PyProof.Rows.LCg
theorem globs_ok : ∀ y ∈ globs, look y.1 globs = some y.2 := by decide +kernel
theorem isGl_ok {f : Nat} (h : isGl f = true) : ∃ x, look x globs = some f := by
  unfold isGl at h
  refine oEA (List.any_eq_true.mp h) ?_; intro y hy e
  have := Nat.eq_of_beq_eq_true e
  exact ⟨y.1, by rw [globs_ok y hy, this]⟩
theorem biV_kind : ∀ c : Nat, (∃ T, biV c = .type T) ∨ ∃ i, biV c = .builtin i
  | 0 | 1 | _ + 8 => .inr ⟨_, rfl⟩
  | 2 | 3 | 4 | 5 | 6 | 7 => .inl ⟨_, rfl⟩
section
variable {K : Params → Frag} {prog : Program} {w : World} {p : Program} {loose : List Str} {mg mb : Str → Option Value} {X : Fc} {cx : Cx} {A : Around} {O : AP} {as : List Addr} {st : St} {s : Shared} {E : Ev}
theorem constE {c : Const} {j : Nat} {pos : Pos} {k : KV} {Q : Value → Shared → Prop} (h : evE E cx (.Constant c j pos) st k) (I : Inv X cx O as st s) (P : PostE X cx k O as s Q) : wpAny (model prog w) A (eval (.Constant c j pos) X.env) Q NoE s := by
  unfold evE at h
  cases c with
  | int i => exact wpAny_Constant_int (P _ _ _ _ _ _ h (I.toks _) (Ex.toks _) (R.lit (φ := Dt s.heap O)))
  | none => exact wpAny_Constant_none (P _ _ _ _ _ _ h I Ex.refl rfl)
  | bool b => exact wpAny_Constant_bool (P _ _ _ _ _ _ h I Ex.refl rfl)
  | _ => exact h.elim
theorem popE (F : Fok K prog w p loose mg mb X cx) {i : Nat} {l : List Dat} {d : Dat} {x : Str} {u : Value} {pos : Pos} {pl : Sem Bool} {k : KV} {Q : Value → Shared → Prop} (hx : x = "pop") (ho : st.own[i]? = some (false, l)) (hd : l.getLast? = some d) (hz : l.length ≤ 1000) (h : k (.d d) { st with own := st.own.set i (false, l.dropLast) })
    (I : Inv X cx O as st s) (h4 : VR as (Dt s.heap O) (.loc i) u) (P : PostE X cx k O as s Q) : wpAny (model prog w) A (getMethod u x pl) (fun fx s₂ => wpAny (model prog w) A (callWith pos fx.1 fx.2 (backTo pos (starEach [] X.env)) []) Q NoE s₂) NoE s := by
  subst hx
  refine oEEEAAAA (I.own.at_ i false l ho) ?_; intro b n vs q1 q2 q3 q4 _
  refine oEA h4 ?_; clear h4; rintro c e1 rfl
  obtain rfl := Option.some.inj (q1.symm.trans e1)
  have lst : s.heap.IsList b vs.toArray := ⟨_, q2, rfl, n, rfl⟩
  refine getMethod_list_of PySem.F.slot_list_pop PySem.F.type_list_pop lst ?_ ?_
  · exact ⟨_, q2, rfl⟩
  refine callWith_builtin rfl (evalArgs_nil3 ?_)
  have hlast : vs.toArray[vs.toArray.size - 1]? = some (vs.getLast?.getD .none) ∧ R (Dt s.heap O) d (vs.getLast?.getD .none) := by
    have hl' : l[l.length - 1]? = some d := by rw [← List.getLast?_eq_getElem?]; exact hd
    refine oEA (q3.at _ _ hl') ?_; intro x x1 x2
    rw [← q3.length] at x1
    rw [List.getLast?_eq_getElem?, x1]
    refine ⟨by simpa using x1, x2⟩
  refine call_meets PySem.F.slot_list_pop ⟨_, q2, rfl⟩ PySem.F.entry_list_pop (PySem.F.args_list_pop_1 _) (PySem.MeetsSeq.list_pop_last b vs.toArray n _ hlast.1 (by rw [List.size_toArray, q3.length]; exact sl1000 hz)) ⟨q2, ?_⟩
  have g := Heap.get?_update_self (Obj.mapSeq fun xs => xs.eraseIdxIfInBounds (vs.toArray.size - 1)) q2 rfl
  obtain ⟨J, e⟩ := I.setOwn (l' := l.dropLast) (vs' := vs.dropLast) (n' := n + 1) ho q1 (Heap.SameBut.update ..) (by
    rw [g]
    have hpos : vs.length - 1 < vs.length := by
      have := (List.getElem?_eq_some_iff.mp (by simpa using hlast.1 : vs[vs.length - 1]? = _)).1
      exact this
    simp [Obj.mapSeq, lstN, Array.eraseIdxIfInBounds, hpos]
    omega) q3.dropLast s.toks
  exact P _ _ _ _ _ _ h J e (R.ex e hlast.2)
theorem enumE (a : AOk A cx) {pos : Pos} {l : List Dat} {v : Value} {k : KV} {Q : Value → Shared → Prop} (h : newL (enumD 0 l) st k) (I : Inv X cx O as st s) (r1 : R (Dt s.heap O) (.tup l) v) (P : PostE X cx k O as s Q) :
    wpAny (model prog w) A (call (.type "enumerate") [v]) (fun x s₁ => wpAny (model prog w) A (spliced (backTo pos (starEach [] X.env))) (fun vs s₂ => wpAny (model prog w) A (call (.type "list") (x :: vs)) Q NoE s₂) NoE s₁) NoE s := by
  obtain ⟨u1, n1, xs, rfl, a1, a2⟩ := r1
  refine call_enumT a1.1 fun N h' hN z1 z2 kk => wpAny_items_nil ?_
  have lt : u1 < N := by rw [hN]; exact Heap.lt_size a1.1
  have lo : ∀ {a : Addr}, O a → a < N := fun {a} ha => by refine oE (I.wd.alive a ha) ?_; intro o e; rw [hN]; exact Heap.lt_size e
  have hz : N + 1 < h'.objs.size := Heap.lt_size z1
  refine call_listE (i := 0) (f := .none) (fl := .bool false) (ol := .none) (oi := itT u1 0) (src := Dt s.heap O) (O := O) a.h
    (runs_enum (e := N + 1) (it := N) (Nat.succ_ne_self N) (nmem2 lt) a1 0 (.inl rfl) a2 (by simp)) ?_ (fun b o hb => ⟨kk _ _ hb.1, ?_, hb.2⟩) (fun b hb => ?_) (newL_len h) fun h'' t' vs n ψ c1 c2 c3 c4 => ?_
  · intro p hp
    rcases List.mem_cons.mp hp with rfl | hp
    · exact z1
    rcases List.mem_cons.mp hp with rfl | hp
    · exact z2
    · cases hp
  · exact nmem2 (by rw [hN]; exact Heap.lt_size hb.1)
  · refine oE (I.wd.alive b hb) ?_; intro o e; exact ⟨o, kk _ _ e⟩
  · have kp : Kp s.heap h'' := fun b o e => c1 b o (nmem2 (by rw [hN]; exact Heap.lt_size e)) (kk b o e)
    have sz : s.heap.objs.size ≤ h'.objs.size := by rw [← hN]; exact Nat.le_of_lt (Nat.lt_of_succ_lt hz)
    refine oA (I.newOwnN (s' := { s with heap := h'', toks := t' }) (a := h'.objs.size) (n := n) (RL.mono (fun b o q => ⟨(c4 b o q).1, fun z => z.elim (c4 b o q).2.2.2 (c4 b o q).2.1⟩) _ c3) (fun b o _ e => kp b o e) ⟨I.gs.1, rfl, rfl, GK.refl _⟩ (I.tabOk kp) sz c2) ?_; intro J e
    refine P _ _ _ _ _ _ (newL_own h) J e ⟨h'.objs.size, ?_, rfl⟩
    rw [← I.own.len, List.getElem?_append_right (Nat.le_refl _)]; simp
theorem biE (S : SndE K prog w p loose mg mb E) (F : Fok K prog w p loose mg mb X cx) (a : AOk A cx) {c : Nat} {args : List Expr} {pos : Pos} {k : KV} {Q : Value → Shared → Prop} (h : evBi E cx c args st k) (I : Inv X cx O as st s) (P : PostE X cx k O as s Q) :
    wpAny (model prog w) A (callWith pos (biV c) [] (backTo pos (starEach args X.env)) []) Q NoE s := by
  have gen : evBi.plain E cx c args st k → wpAny (model prog w) A (callWith pos (biV c) [] (backTo pos (starEach args X.env)) []) Q NoE s := fun h =>
    callT S F a (biV_kind c) h I fun ds st'' us s'' O'' as'' g1 g2 g3 g4 => blt_snd F a g2 g1 g4 (P.trans g3)
  refine nE_k h ?_ ?_ <;> clear h
  · rintro rfl h
    revert gen
    refine n1_e h ?_ fun h g => g h
    clear h
    intro e h _
    refine gd_k h ?_; clear h; rintro hs h
    have he : starEach [e] X.env = (false, eval e X.env) :: starEach [] X.env := starEach_cons (noStar_ns hs e (.head _))
    refine callWith_builtin1 (wpAny_items_cons (he := he) (S cx X A F a e _ _ O as s _ h I fun v st'' u s'' O'' as'' g1 g2 g3 g4 => wpAny_items_nil ?_)) he rfl
    clear h hs he
    revert g4
    refine vv_e g1 ?_ ?_ <;> clear g1
    · intro d g1 g4
      exact blt_snd F a g2 g1 (.cn g4 .nl) (P.trans g3)
    · intro i g1 g4
      refine ow_k g1 ?_; clear g1; rintro fr l ho g1
      refine gd_k g1 ?_; clear g1; rintro hb g1
      refine oEEEAAA (g2.own.at_ i fr l ho) ?_; intro b n vs q1 q2 q3 _
      refine oEA g4 ?_; clear g4; rintro c e1 rfl
      obtain rfl := Option.some.inj (q1.symm.trans e1)
      refine len_list q2 (by rw [q3.length]; exact Nat.le_of_ble_eq_true hb) (P _ _ _ _ _ _ g1 (g2.toks _) (g3.trans (Ex.toks _)) ?_)
      rw [q3.length]; exact R.lit (φ := Dt s''.heap O'')
  intro h
  refine nE_k h ?_ gen <;> clear h
  rintro rfl h
  refine n1_k h ?_ gen
  clear h
  rintro e rfl h
  refine vCn_k h ?_ gen
  clear h
  rintro y py as' q rfl h
  refine n1_k h ?_ gen
  clear h
  rintro e rfl h
  refine bb_k h ?_ fun _ h => gen h
  clear h gen
  intro _ h
  refine PyProof.Rows.callWith_type1 ?_
  refine wpAny_items_cons (callB S F a (.inl ⟨_, rfl⟩) h I fun ds st₂ us s₂ O₂ as₂ q1 q2 q3 q4 => ?_)
  clear h
  revert q4
  refine l1_e q1 ?_
  clear q1
  intro d q1
  refine dT_e q1 ?_
  clear q1
  intro l q1 q4
  refine oEEAA q4 ?_; clear q4; rintro v1 r' rfl r1 r2
  obtain rfl := r2.get0
  exact enumE a q1 q2 r1 (P.trans q3)
theorem callE (S : SndE K prog w p loose mg mb E) (F : Fok K prog w p loose mg mb X cx) (a : AOk A cx) {f : Expr} {args : List Expr} {kw : List Keyword} {pos : Pos} {k : KV} {Q : Value → Shared → Prop} (h : evE E cx (.Call f args kw pos) st k) (I : Inv X cx O as st s) (P : PostE X cx k O as s Q) :
    wpAny (model prog w) A (eval (.Call f args kw pos) X.env) Q NoE s := by
  revert P
  refine n0_e h ?_
  clear h
  intro h P
  cases f with
  | Attribute o x ap =>
    refine gd_k h ?_; clear h; rintro hb h
    simp only [Bool.and_eq_true] at hb
    refine oA hb ?_; clear hb; rintro ⟨⟨ho, hl⟩, hn⟩ hs
    refine Meth_ok ho (Nat.eq_of_beq_eq_true hl) hs (Nat.le_of_ble_eq_true hn) (S cx X A F a o st _ O as s _ h I fun v st' u s' O' as' h1 h2 h3 h4 => ?_)
    clear h hn hl ho
    revert h4
    refine vv_e h1 ?_ ?_ <;> clear h1
    · intro d h1 h4
      refine oJ_k h1 ?_; clear h1; rintro C hk h1
      refine oJ_k h1 ?_; clear h1; rintro f hm h1
      refine oA (oB_x hm) ?_; intro m1 m2
      have h4' := h4
      refine oEEEEAAA (R.inst h4 hk) ?_; rintro y dy es n rfl J hC hg
      refine oE h2.fr ?_; intro m Fm
      refine oAAA (F.kok.mt _ _ _ m2) ?_; intro f1 f2 f3 f4
      refine method_inst Fm F.base.X J f4 f1 f2 (hg x (mName_mem m1)) ?_
      refine callK S F a f3 h1 h2 fun ds st'' us s'' O'' as'' g1 g2 g3 g4 => ?_
      exact back_off (callF_snd F a g2 g1 (.cn (R.ex g3 h4) g4) fun d' st₃ u₃ s₃ O₃ as₃ q1 q2 q3 q4 => P _ _ _ _ _ _ q1 q2 ((h3.trans g3).trans q3) q4)
    · intro i h1 h4
      refine gd_k h1 ?_; clear h1; rintro hx h1
      clear hs
      revert P
      refine n0_e h1 ?_
      clear h1
      intro h1 P
      refine owF_k h1 ?_; clear h1; rintro l ho h1
      refine oJ_k h1 ?_; clear h1; rintro d hd h1
      refine gd_k h1 ?_; clear h1; rintro hz h1
      exact popE F ((seq_iff _ _).mp hx) ho hd (Nat.le_of_ble_eq_true hz) h1 h2 h4 (P.trans h3)
  | Name x px =>
    refine wpAny_Call_NameR (S cx X A F a _ st _ O as s _ h I fun v st' u s' O' as' h1 h2 h3 h4 => ?_)
    clear h
    revert h4
    refine vD_e h1 ?_
    clear h1
    intro d h1
    refine oR_e h1 ?_ ?_ <;> clear h1
    · intro f h1 h4
      refine gd_k h1 ?_; clear h1; rintro hg h1
      refine oE (isGl_ok hg) ?_; intro y hy
      obtain rfl : u = .ref f := h4
      refine callK S F a (first := []) (F.kok.gl y f hy).2 h1 h2 fun ds st'' us s'' O'' as'' g1 g2 g3 g4 => ?_
      exact back_off (callF_snd F a g2 g1 g4 fun d' st₃ u₃ s₃ O₃ as₃ q1 q2 q3 q4 => P _ _ _ _ _ _ q1 q2 ((h3.trans g3).trans q3) q4)
    · intro h1
      refine dBi_e h1 ?_
      clear h1
      intro c h1 h4
      obtain rfl : u = biV c := h4
      exact biE S F a h1 h2 (P.trans h3)
  | _ => exact h.elim
end
end
section
open PyProof.Rows.LCg
section
variable {K : Params → Frag} {prog : Program} {w : World} {p : Program} {loose : List Str} {mg mb : Str → Option Value} {X : Fc} {cx : Cx} {A : Around} {O : AP} {as : List Addr} {st : St} {s : Shared} {E : Ev}
theorem unE (S : SndE K prog w p loose mg mb E) (F : Fok K prog w p loose mg mb X cx) (a : AOk A cx) {op : UnaryOp} {x : Expr} {pos : Pos} {k : KV} {Q : Value → Shared → Prop} (h : evE E cx (.UnaryOp op x pos) st k) (I : Inv X cx O as st s) (P : PostE X cx k O as s Q) :
    wpAny (model prog w) A (eval (.UnaryOp op x pos) X.env) Q NoE s := by
  cases op with
  | USub =>
    refine UnaryOp_ (evD_snd S F a h I fun d st' u s' O' as' h1 h2 h3 h4 => ?_)
    clear h
    revert h4
    refine oL_e h1 ?_ ?_ <;> clear h1
    · intro n h1 h4
      refine oE h4 ?_; clear h4; rintro t rfl
      exact PyProof.Rows.neg_int (P _ _ _ _ _ _ h1 (h2.toks _) (h3.trans (Ex.toks _)) (R.lit (φ := Dt s'.heap O')))
    intro h1
    refine oI_e h1 ?_ ?_ <;> clear h1
    · intro n B h1 h4
      refine oAE h4 ?_; clear h4; rintro hb t rfl
      exact PyProof.Rows.neg_int (P _ _ _ _ _ _ h1 (h2.toks _) (h3.trans (Ex.toks _)) (R.int (φ := Dt s'.heap O') ((Int.natAbs_neg n).symm ▸ hb)))
    · intro h1 h4
      refine oJ_k h1 ?_; clear h1; rintro C hk h1
      refine oJ_k h1 ?_; clear h1; rintro f hm h1
      have h5 := h4
      refine oEEEEAAA (R.inst h4 hk) ?_; rintro y dy es n rfl J hC hg
      refine oAAA (F.kok.mt _ _ _ hm) ?_; intro f1 f2 f3 f4
      refine neg_obj (F.base.X.keeps h2.wd.keep) J f1 f2 ?_
      exact back_off (callF_snd F a h2 h1 (.cn h5 .nl) fun d' st₃ u₃ s₃ O₃ as₃ q1 q2 q3 q4 => P _ _ _ _ _ _ q1 q2 (h3.trans q3) q4)
  | Not =>
    refine UnaryOp_ (evD_snd S F a h I fun d st' u s' O' as' h1 h2 h3 h4 => not_of (br_snd h1 h2 h4 fun b st₂ s₂ O₂ as₂ g1 g2 g3 => P _ _ _ _ _ _ g1 g2 (h3.trans g3) rfl))
  | _ => exact h.elim
theorem cmpE (S : SndE K prog w p loose mg mb E) (F : Fok K prog w p loose mg mb X cx) (a : AOk A cx) {l : Expr} {ops : List CmpOp} {rs : List Expr} {pos : Pos} {k : KV} {Q : Value → Shared → Prop} (h : evCmp E cx l ops rs st fun d => k (.d d)) (I : Inv X cx O as st s) (P : PostE X cx k O as s Q) :
    wpAny (model prog w) A (eval (.Compare l ops rs pos) X.env) Q NoE s := by
  refine n1_e h ?_ False.elim
  clear h
  intro op h
  refine n1_e h ?_ False.elim
  clear h
  intro r h
  refine gn_k h ?_; clear h; rintro hm h
  refine wpAny_Compare1 (evD_snd S F a h I fun d st' u s' O' as' h1 h2 h3 h4 => evD_snd S F a h1 h2 fun d' st'' u' s'' O'' as'' g1 g2 g3 g4 => ?_) hm
  exact cmpD_snd F a g2 g1 (h4.ex g3) g4 fun d st₃ u₃ s₃ O₃ as₃ q1 q2 q3 q4 => P _ _ _ _ _ _ q1 q2 ((h3.trans g3).trans q3) q4
theorem boolE (S : SndE K prog w p loose mg mb E) (F : Fok K prog w p loose mg mb X cx) (a : AOk A cx) {op : BoolOp} {xs : List Expr} {pos : Pos} {k : KV} {Q : Value → Shared → Prop} (h : evE E cx (.BoolOp op xs pos) st k) (I : Inv X cx O as st s) (P : PostE X cx k O as s Q) :
    wpAny (model prog w) A (eval (.BoolOp op xs pos) X.env) Q NoE s := by
  refine n2_e h ?_
  clear h
  intro x y h
  cases op with
  | And =>
    refine wpAny_And2 (evD_snd S F a h I fun d st' u s' O' as' h1 h2 h3 h4 => br_snd h1 h2 h4 fun b st₂ s₂ O₂ as₂ g1 g2 g3 => ?_)
    cases b with
    | true => exact S cx X A F a y st₂ k O₂ as₂ s₂ Q g1 g2 (P.trans (h3.trans g3))
    | false => exact P _ _ _ _ _ _ g1 g2 (h3.trans g3) (R.ex g3 h4)
  | Or =>
    refine wpAny_Or2 (evD_snd S F a h I fun d st' u s' O' as' h1 h2 h3 h4 => br_snd h1 h2 h4 fun b st₂ s₂ O₂ as₂ g1 g2 g3 => ?_)
    cases b with
    | true => exact P _ _ _ _ _ _ g1 g2 (h3.trans g3) (R.ex g3 h4)
    | false => exact S cx X A F a y st₂ k O₂ as₂ s₂ Q g1 g2 (P.trans (h3.trans g3))
theorem evE_snd (S : SndE K prog w p loose mg mb E) (T : SndT K prog w p loose mg mb E) (F : Fok K prog w p loose mg mb X cx) (a : AOk A cx) {e : Expr} {k : KV} {Q : Value → Shared → Prop} (h : evE E cx e st k) (I : Inv X cx O as st s) (P : PostE X cx k O as s Q) :
    wpAny (model prog w) A (eval e X.env) Q NoE s := by
  cases e with
  | Constant c j pos => exact constE h I P
  | Name x pos =>
    refine gn_k h ?_; clear h; rintro hn h
    rw [Bool.or_eq_false_iff] at hn
    exact name_snd F hn.1 hn.2 h I P
  | BinOp l op r pos =>
    refine wpAny_BinOp (evD_snd S F a h I fun d st' u s' O' as' h1 h2 h3 h4 => evD_snd S F a h1 h2 fun d' st'' u' s'' O'' as'' g1 g2 g3 g4 => ?_)
    exact binD_snd F a g2 g1 (h4.ex g3) g4 (P.trans (h3.trans g3))
  | UnaryOp op x pos => exact unE S F a h I P
  | BoolOp op xs pos => exact boolE S F a h I P
  | Compare l ops rs pos => exact cmpE S F a h I P
  | IfExp c x y pos =>
    refine wpAny_IfExp (T cx X A F a c st _ O as s _ h I fun b st₂ s₂ O₂ as₂ g1 g2 g3 => ?_)
    cases b with
    | true => exact S cx X A F a x st₂ k O₂ as₂ s₂ Q g1 g2 (P.trans g3)
    | false => exact S cx X A F a y st₂ k O₂ as₂ s₂ Q g1 g2 (P.trans g3)
  | Tuple es j pos =>
    refine wpAny_Tuple (evL_snd S F a pos es h I fun ds st' us s' O' as' h1 h2 h3 h4 => ?_)
    refine gd_k h1 ?_; clear h1; rintro hb h1
    exact ⟨by rw [h4.length]; exact sl1000 (Nat.le_of_ble_eq_true hb), tup_snd h1 h2 h4 (P.trans h3) s'.toks⟩
  | List es pos =>
    refine wpAny_List (evL_snd S F a pos es h I fun ds st' us s' O' as' h1 h2 h3 h4 => ?_)
    exact ⟨by rw [h4.length]; exact sl1000 (newL_len h1), newL_snd h1 h2 h4 (P.trans h3) s'.toks⟩
  | ListComp elt gens sc pos => exact lcE_snd S T F a h I P
  | Attribute o x pos =>
    refine gd_k h ?_; clear h; rintro ho h
    refine Attr_ok ho (evD_snd S F a h I fun d st' u s' O' as' h1 h2 h3 h4 => ?_)
    refine oJ_k h1 ?_; clear h1; rintro r hr h1
    exact attr_snd F h2 hr h4 fun v hv => P _ _ _ _ _ _ h1 (h2.toks _) (h3.trans (Ex.toks _)) hv
  | Subscript o i pos => exact oo_k h (fun x hx h => evCrv_snd S F a hx h I P) fun _ h => evIdx_snd S F a h I P
  | Call f args kw pos => exact callE S F a h I P
  | _ => exact h.elim
end
end
section
open PyProof.Rows.LCg
section
variable {prog : Program} {w : World} {A : Around} {s : Shared} {E : Value → Shared → Prop} {env : Env}
theorem AugName {x : Str} {p pos : Pos} {op : Operator} {value : Expr} {Q : Flow → Shared → Prop} (hd : (x == ("__debug__" : Str)) = false)
    (h : wpAny (model prog w) A (eval (.Name x p) env) (fun old s₁ => wpAny (model prog w) A (eval value env) (fun v s₂ => wpAny (model prog w) A (inplaceOp op old v) (fun r s₃ => wpAny (model prog w) A (storeName env x r) (fun _ => Q .next) E s₃) E s₂) E s₁) E s) :
    wpAny (model prog w) A (exec (.AugAssign (.Name x p) op value pos) env) Q E s := by
  have e : exec (.AugAssign (.Name x p) op value pos) env = (do
      let old ← eval (.Name x p) env
      let v ← holding [old] (eval value env)
      standAt pos
      let new ← operate [old, v] (inplaceOp op old v)
      standAt p
      bindName env x new
      pure .next) := by rw [eval_Name env x p hd]; rfl
  rw [e]
  refine wpAny_bind (wpAny_mono h (fun old s₁ h₁ => ?_) fun _ _ z => z)
  refine wpAny_bind (wpAny_holding (wpAny_mono h₁ (fun v s₂ h₂ => ?_) fun _ _ z => z))
  refine wpAny_bind (wpAny_standAt ?_)
  refine wpAny_bind (wpAny_operating (wpAny_mono h₂ (fun r s₃ h₃ => ?_) fun _ _ z => z))
  refine wpAny_bind (wpAny_standAt ?_)
  exact wpAny_bind (wpAny_mono (wpAny_bindName h₃) (fun _ _ z => wpAny_pure z) fun _ _ z => z)
theorem setItem_at {l : Addr} {items : List Value} {n : Nat} {k : Int} {t : Tok} {v : Value} {Q : Unit → Shared → Prop} (ho : s.heap.get? l = some (lstN items n)) (h0 : 0 ≤ k) (hfit : k < 2 ^ 63) (hn : k.toNat < items.length)
    (hQ : ∀ h' n', h'.get? l = some (lstN (items.set k.toNat v) n') → Heap.SameBut l s.heap h' → Q () { s with heap := h' }) : wpAny (model prog w) A (setItem (.ref l) (.int k t) v) Q E s := by
  have hl : s.heap.IsList l items.toArray := ⟨_, ho, rfl, n, rfl⟩
  unfold setItem
  try with_reducible refine wpAny_holding ?_
  first | refine wpAny_bind (wpAny_pure ?_) | skip
  refine wpAny_bind (wpAny_sequenceKey hl.typeIs (by decide) ?_)
  refine wpAny_bind (wpAny_callSpecial?_slot (name := Str.ofString "__setitem__") hl.typeIs slot_list_setitem
    (wpAny_call_entry slot_list_setitem hl.typeIs entry_list_setitem ?_ (args_list_setitem _ _ _)))
  show wpAny _ _ (Builtin.List.listSubscript? (.int k t) >>= _) _ _ s
  refine wpAny_bind (wpAny_listSubscript_int (fitsIndex_of h0 hfit) ?_)
  clear hfit
  refine oE (Int.eq_ofNat_of_zero_le h0) ?_; rintro j rfl
  have hj : j < items.toArray.size := by simpa using hn
  have hx' : items.toArray[j]? = some items.toArray[j] := Array.getElem?_eq_getElem hj
  show wpAny _ _ ((seqItemAt l j >>= fun r => pure (r.map (j, ·))) >>= _) _ _ s
  refine wpAny_bind (wpAny_bind (wpAny_seqItemAt ho rfl (wpAny_pure ?_)))
  rw [hx']
  show wpAny _ _ (setSeqItemAt l j v >>= _) _ _ s
  have g := Heap.get?_update_self (Obj.mapSeq (·.setIfInBounds j v)) ho rfl
  have fin : Q () { s with heap := s.heap.update l (Obj.mapSeq (·.setIfInBounds j v)) } := hQ _ _ (by rw [g]; simp [Obj.mapSeq, lstN]; exact rfl) (Heap.SameBut.update ..)
  refine wpAny_bind (wpAny_setSeqItemAt ho rfl ?_)
  first
    | exact wpAny_bind (wpAny_pure (wpAny_pure ⟨.none, rfl, wpAny_pure fin⟩))
    | exact wpAny_pure ⟨.none, rfl, wpAny_pure fin⟩
theorem seq_iadd : seqSlot? (.type "list") (dunderI "add") = pure (some (.builtin "list.__iadd__")) := PySem.seqSlot_of PySem.F.slot_list_iadd.lookup (by decide +kernel)
theorem list_iadd {l b : Addr} {xs ys : List Value} {n m : Nat} {Q : Value → Shared → Prop} (hl : s.heap.get? l = some (lstN xs n)) (hb : s.heap.get? b = some (lstN ys m)) (hz : xs.length + ys.length ≤ 1000)
    (h : ∀ n', (s.heap.update l (Obj.mapSeq fun x => x ++ ys.toArray)).get? l = some (lstN (xs ++ ys) n') → Q (.ref l) { s with heap := s.heap.update l (Obj.mapSeq fun x => x ++ ys.toArray), toks := s.toks }) : wpAny (model prog w) A (inplaceOp .Add (.ref l) (.ref b)) Q E s := by
  have ha : s.TypeIs (.ref l) "list" := ⟨_, hl, rfl⟩
  have hb' : s.TypeIs (.ref b) "list" := ⟨_, hb, rfl⟩
  unfold inplaceOp
  refine wpAny_holding ?_
  have hfi : fillsInplaceSlot (.type "list") "add" (Operator.Add == .Add) = pure false := by
    unfold fillsInplaceSlot
    show (typeLookup (.type "list") (dunderI "add") >>= fun fi => pure (fi.isSome && !isSeqSlot fi)) = pure false
    rw [PySem.F.slot_list_iadd.lookup]
    show (pure (true && !isSeqSlot (some (.builtin "list.__iadd__"))) : Sem Bool) = _
    rw [show isSeqSlot (some (.builtin "list.__iadd__")) = true from by decide +kernel]
    rfl
  refine wpAny_bind (wpAny_typeOf ha (wpAny_bind (wpAny_of_eq hfi ?_)))
  show wpAny _ A (if false = true then _ else _) Q E s
  rw [if_neg Bool.false_ne_true]
  refine wpAny_bind (wpAny_binaryOp1_none (nm := "add") ha hb' noFill_list_add ?_)
  refine wpAny_bind (wpAny_of_eq seq_iadd ?_)
  refine wpAny_bind (wpAny_rule ?_)
  refine call_meets PySem.F.slot_list_iadd ha PySem.F.entry_list_iadd (PySem.F.args_list_iadd_2 _ _) (PySem.AutoSeq1.list___iadd___list_list_0 l xs.toArray n b ys.toArray m (fun q => ?_) (by rw [List.size_toArray]; exact sl1000 (by omega)) (by rw [List.size_toArray, List.size_toArray]; exact Nat.le_succ_of_le (sl1000 hz))) ⟨hl, hb, ?_⟩
  · refine oA (Bool.and_eq_true_iff.mp q) ?_; intro _ q
    unfold Builtin.List.listTooLong at q
    have q := of_decide_eq_true q
    rw [List.size_toArray, List.size_toArray] at q
    exact absurd (sl1000 hz) (Nat.not_le.mpr q)
  · exact h _ (by rw [Heap.get?_update_self _ hl rfl]; simp [Obj.mapSeq]; exact rfl)
end
end
section
open PyProof.Rows.LCg
noncomputable def VL (as : List Addr) (φ : Fm) : List Val → List Value → Prop
  | [], us => us = []
  | v :: vs, us => ∃ u r, us = u :: r ∧ VR as φ v u ∧ VL as φ vs r
theorem VL.ex {O as s O' as' s'} (x : Ex O as s O' as' s') : ∀ {vs : List Val} {us : List Value}, VL as (Dt s.heap O) vs us → VL as' (Dt s'.heap O') vs us
  | [], _, h => h
  | _ :: _, _, ⟨u, r, e, h1, h2⟩ => ⟨u, r, e, h1.ex x, h2.ex x⟩
theorem VL.length {as φ} : ∀ {vs : List Val} {us : List Value}, VL as φ vs us → us.length = vs.length
  | [], _, h => by rw [show _ = [] from h]; rfl
  | _ :: _, _, ⟨u, r, e, h1, h2⟩ => by rw [e]; simp [h2.length]
theorem VL.append {as φ} : ∀ {vs ws : List Val} {us rs : List Value}, VL as φ vs us → VL as φ ws rs → VL as φ (vs ++ ws) (us ++ rs)
  | [], _, _, _, h, h' => by rw [show _ = [] from h]; exact h'
  | _ :: _, _, _, _, ⟨u, r, e, h1, h2⟩, h' => by rw [e]; exact ⟨u, _, rfl, h1, h2.append h'⟩
theorem VL.reverse {as φ} : ∀ {vs : List Val} {us : List Value}, VL as φ vs us → VL as φ vs.reverse us.reverse
  | [], _, h => by rw [show _ = [] from h]; exact rfl
  | _ :: _, _, ⟨u, r, e, h1, h2⟩ => by rw [e, List.reverse_cons, List.reverse_cons]; exact h2.reverse.append ⟨u, [], rfl, h1, rfl⟩
section
variable {K : Params → Frag} {prog : Program} {w : World} {p : Program} {loose : List Str} {mg mb : Str → Option Value} {X : Fc} {cx : Cx} {A : Around} {O : AP} {as : List Addr} {st : St} {s : Shared} {E : Ev}
noncomputable def PostVs (X : Fc) (cx : Cx) (n : Nat) (k : List Val → St → Prop) (O : AP) (as : List Addr) (s : Shared) (Q : List Value → Shared → Prop) : Prop :=
  ∀ vs st' us s' O' as', k vs st' → Inv X cx O' as' st' s' → Ex O as s O' as' s' → VL as' (Dt s'.heap O') vs us → vs.length = n → Q us s'
theorem evVs_ns {e : Expr} {r : List Expr} {k : List Val → St → Prop} (h : evVs E cx (e :: r) st k) : (∀ x q, e ≠ .Starred x q) ∧ E.e cx e st fun d st => evVs E cx r st fun ds st => k (d :: ds) st := gd_k h fun a b => ⟨ns_of a, b⟩
theorem evVs_snd (S : SndE K prog w p loose mg mb E) (F : Fok K prog w p loose mg mb X cx) (a : AOk A cx) (pos : Pos) : ∀ (l : List Expr) {st : St} {k : List Val → St → Prop} {O : AP} {as : List Addr} {s : Shared} {Q : List Value → Shared → Prop}, evVs E cx l st k → Inv X cx O as st s → PostVs X cx l.length k O as s Q →
    wpAny (model prog w) A (spliced (backTo pos (starEach l X.env))) Q NoE s
  | [], st, k, O, as, s, Q, h, I, P => wpAny_items_nil (P [] st [] s O as h I Ex.refl rfl rfl)
  | e :: r, st, k, O, as, s, Q, h, I, P => by
    refine oA (evVs_ns h) ?_; intro hn h
    refine wpAny_items_cons (he := starEach_cons hn) (S cx X A F a e st _ O as s _ h I fun d st' u s' O' as' h1 h2 h3 h4 => ?_)
    exact evVs_snd S F a pos r h1 h2 fun ds st'' us s'' O'' as'' g1 g2 g3 g4 g5 => P _ _ _ _ _ _ g1 g2 (h3.trans g3) ⟨u, us, rfl, h4.ex g3, g4⟩ (by simp [g5])
theorem bindVs_snd (F : Fok K prog w p loose mg mb X cx) {k : St → Prop} {Q : Unit → Shared → Prop} {E : Value → Shared → Prop} : ∀ {ts : List Expr} {vs : List Val} {us : List Value} {st : St} {O : AP} {as : List Addr} {s : Shared}, bindVs cx ts vs st k → Inv X cx O as st s → VL as (Dt s.heap O) vs us → PostS X cx k O as s (Q ()) →
    wpAny (model prog w) A (assignInOrder ((assignEach ts X.env).map (·.2)) us) Q E s
  | [], vs, us, st, O, as, s, h, I, r, P => by
    revert r
    refine n0_e h ?_
    clear h
    intro h r
    obtain rfl : us = [] := r
    exact assignInOrder_nil (P _ _ _ _ h I Ex.refl)
  | t :: ts, [], us, st, O, as, s, h, I, r, P => h.elim
  | t :: ts, d :: ds, us, st, O, as, s, h, I, ⟨u, us', e, r1, r2⟩, P => by
    subst e
    refine nm_e h ?_
    clear h
    intro x pos h
    rw [assignEach_cons (ns_of rfl)]
    refine assignInOrder_cons (nm_snd F h I r1 fun st' s' O' as' h1 h2 h3 => ?_)
    exact bindVs_snd F h1 h2 (r2.ex h3) (P.trans h3)
theorem bindVs_nm {k : St → Prop} : ∀ {ts : List Expr} {vs : List Val} {st : St}, bindVs cx ts vs st k → (∀ env : Env, (assignEach ts env).length = vs.length) ∧ ∀ env : Env, (assignEach ts env).findIdx? (·.1) = none
  | [], vs, _, h => n0_e (m := fun vs => (∀ env : Env, (assignEach [] env).length = vs.length) ∧ ∀ env : Env, (assignEach [] env).findIdx? (·.1) = none) h fun _ => ⟨fun _ => rfl, fun _ => rfl⟩
  | t :: ts, [], st, h => h.elim
  | t :: ts, d :: ds, st, h => by
    refine nm_e h ?_
    clear h
    intro x p h
    refine gd_k h ?_; clear h; rintro _ h
    refine oA (bindVs_nm h) ?_; intro b c
    refine ⟨fun env => ?_, fun env => ?_⟩
    · rw [assignEach_cons (ns_of rfl)]; exact congrArg (· + 1) (b env)
    · rw [assignEach_cons (ns_of rfl)]; simp [List.findIdx?_cons, c env]
theorem bindN_snd (F : Fok K prog w p loose mg mb X cx) {k : St → Prop} {Q : Unit → Shared → Prop} {E : Value → Shared → Prop} : ∀ {nms : List (Str × Pos)} {vs : List Val} {us : List Value} {st : St} {O : AP} {as : List Addr} {s : Shared}, bindVs cx (nms.map fun y => .Name y.1 y.2) vs st k → Inv X cx O as st s → VL as (Dt s.heap O) vs us → PostS X cx k O as s (Q ()) →
    wpAny (model prog w) A (assignInOrder ((nms.map (·.1)).map fun n => bindName X.env n) us) Q E s
  | [], vs, us, st, O, as, s, h, I, r, P => by
    revert r
    refine n0_e h ?_
    clear h
    intro h r
    obtain rfl : us = [] := r
    exact assignInOrder_nil (P _ _ _ _ h I Ex.refl)
  | t :: ts, [], us, st, O, as, s, h, I, r, P => h.elim
  | t :: ts, d :: ds, us, st, O, as, s, h, I, ⟨u, us', e, r1, r2⟩, P => by
    subst e
    have h : setV cx t.1 d st fun st => bindVs cx (ts.map fun y => .Name y.1 y.2) ds st k := h
    refine assignInOrder_cons (bindName_ (store_snd F h I r1 fun st' s' O' as' h1 h2 h3 => ?_))
    exact bindN_snd F h1 h2 (r2.ex h3) (P.trans h3)
theorem blockKind_fn {env : Env} (h : env.scope.kind = .function) : env.blockKind = .function := by unfold Env.blockKind; rw [h]; rfl
theorem star_neg {l : List Expr} (h : noStar l = true) {f : Expr → Bool} (hf : ∀ e, (∀ x q, e ≠ .Starred x q) → f e = false) : ¬ (l.any f = true) := fun q => by
  refine oEA (List.any_eq_true.mp q) ?_; intro e he hm
  rw [hf e (noStar_ns h e he)] at hm
  cases hm
theorem lcl_ok {x : Str} {env : Env} (hk : ∀ x, env.kindOf x = cx.kind x) (h : lcl cx x = true) : env.kindOf x = some .local := (hk x).trans (lclx h)
theorem goS_ok {vs : List Expr} {b : Bool} (h : goS vs = some b) : (b = false ∧ vs.all (foldedForSure 8) = true) ∨ (b = true ∧ vs.all (foldedForSure 8) = false ∧ vs.all (constantsAlone 8) = false) := by
  rcases bI_x h with ⟨e, q⟩ | ⟨e, q⟩
  · exact .inl ⟨(Option.some.inj q).symm, e⟩
  · rcases bI_x q with ⟨e2, q⟩ | ⟨e2, q⟩
    · exact no_some q
    · exact .inr ⟨(Option.some.inj q).symm, e, e2⟩
theorem fm_all {f : Expr → Option Str} : ∀ {l : List (Str × Pos)}, (∀ y ∈ l, f (.Name y.1 y.2) = some y.1) → (l.map fun y => Expr.Name y.1 y.2).filterMap f = l.map (·.1)
  | [], _ => rfl
  | y :: l, h => by
    rw [List.map_cons, List.filterMap_cons_some (h y (.head _)), fm_all fun z hz => h z (.tail _ hz)]; rfl
theorem sw_gen {y : Str × Pos} {r : List (Str × Pos)} {vs : List Expr} {env : Env} {b : Bool} {k1 k2 : Nat} {p1 p2 : Pos} (h2 : (r.length == 1 || r.length == 2) = true) (hl : vs.length = (y :: r).length) (bk : env.blockKind = .function) (hs : noStar vs = true)
    (hn : ∀ z ∈ y :: r, env.kindOf z.1 = some .local ∧ z.2.line = y.2.line) (hd : ((y :: r).map (·.1)).eraseDups.length = ((y :: r).map (·.1)).length) (g : goS vs = some b) :
    swappedStores [.Tuple ((y :: r).map fun y => .Name y.1 y.2) k1 p1] (.Tuple vs k2 p2) env = pure (bI b (some ((y :: r).map (·.1))) none) := by
  have c1 : ¬ ((!(((y :: r).map fun y => Expr.Name y.1 y.2).length == 2 || ((y :: r).map fun y => Expr.Name y.1 y.2).length == 3) || vs.length != ((y :: r).map fun y => Expr.Name y.1 y.2).length || env.blockKind != .function) = true) := by
    simp only [List.length_map, hl, bk, List.length_cons]
    rcases Bool.or_eq_true_iff.mp h2 with e | e <;> rw [eq_of_beq e] <;> decide
  unfold swappedStores
  dsimp only
  rw [if_neg c1, if_neg (star_neg hs (fun e he => by cases e <;> first | exact absurd rfl (he _ _) | rfl))]
  rw [show List.filterMap _ ((y :: r).map fun y => Expr.Name y.1 y.2) = (y :: r).map (·.1) from fm_all fun z hz => if_pos (by refine oA (hn z hz) ?_; intro a b; rw [a, b]; simp; rfl)]
  rw [if_neg (by rw [hd]; simp)]
  rcases goS_ok g with ⟨e, g1⟩ | ⟨e, g1, g2⟩ <;> subst e
  · exact if_pos g1
  · exact (if_neg (by rw [g1]; exact Bool.false_ne_true)).trans (if_neg (by rw [g2]; exact Bool.false_ne_true))
theorem sw_fin {y : Str × Pos} {r : List (Str × Pos)} {ts vs : List Expr} {env : Env} {b : Bool} {k1 k2 : Nat} {p1 p2 : Pos} (e : ts = (y :: r).map (fun y => .Name y.1 y.2)) (c1 : (r.length == 1 || r.length == 2) = true) (hl : vs.length = ts.length) (bk : env.blockKind = .function) (hs : noStar vs = true)
    (c2 : ∀ z ∈ y :: r, env.kindOf z.1 = some .local ∧ z.2.line = y.2.line) (c3 : ((y :: r).map (·.1)).eraseDups.length = ((y :: r).map (·.1)).length) (g : goS vs = some b) :
    vs.length = ts.length ∧ vs.length ≤ 4 ∧ ((b = false ∧ swappedStores [.Tuple ts k1 p1] (.Tuple vs k2 p2) env = pure none) ∨
      (b = true ∧ ∃ nms : List (Str × Pos), ts = nms.map (fun y => .Name y.1 y.2) ∧ swappedStores [.Tuple ts k1 p1] (.Tuple vs k2 p2) env = pure (some (nms.map (·.1))))) := by
  subst e
  have q := sw_gen (k1 := k1) (k2 := k2) (p1 := p1) (p2 := p2) c1 (hl.trans (List.length_map ..)) bk hs c2 c3 g
  refine ⟨hl, ?_, ?_⟩
  · rw [hl, List.length_map, List.length_cons]
    rcases Bool.or_eq_true_iff.mp c1 with e | e <;> rw [eq_of_beq e] <;> decide
  · cases b with
    | true => exact .inr ⟨rfl, _, rfl, q⟩
    | false => exact .inl ⟨rfl, q⟩
theorem sw_ok {ts vs : List Expr} {env : Env} {b : Bool} {k1 k2 : Nat} {p1 p2 : Pos} (hk : ∀ x, env.kindOf x = cx.kind x) (hf : env.scope.kind = .function) (h : swp cx ts vs = some b) :
    vs.length = ts.length ∧ vs.length ≤ 4 ∧ ((b = false ∧ swappedStores [.Tuple ts k1 p1] (.Tuple vs k2 p2) env = pure none) ∨
      (b = true ∧ ∃ nms : List (Str × Pos), ts = nms.map (fun y => .Name y.1 y.2) ∧ swappedStores [.Tuple ts k1 p1] (.Tuple vs k2 p2) env = pure (some (nms.map (·.1))))) := by
  have bk := blockKind_fn hf
  refine oB_k h ?_; clear h; rintro hb h
  refine oA (Bool.and_eq_true_iff.mp hb) ?_; intro hl hs
  have hl := Nat.eq_of_beq_eq_true hl
  clear hb
  match ts, h, hl with
  | [], h, _ | [_], h, _ | _ :: _ :: _ :: _ :: _ :: _, h, _ => cases h
  | [a1, a2], h, hl =>
    refine eN_k h ?_; clear h; rintro x p rfl h
    refine eN_k h ?_; clear h; rintro y q rfl h
    refine oB_k h ?_; clear h; rintro c1 h
    refine oB_k h ?_; clear h; rintro c2 h
    refine oB_k h ?_; clear h; rintro c3 h
    refine oB_k h ?_; clear h; rintro c4 h
    rw [Bool.not_eq_true', seq_eq] at c4
    refine sw_fin (y := (x, p)) (r := [(y, q)]) rfl rfl hl bk hs (fun z hz => ?_) (by simp [List.eraseDups, List.eraseDupsBy, List.eraseDupsBy.loop, c4]) h
    rcases List.mem_cons.mp hz with rfl | hz
    · exact ⟨lcl_ok hk c1, rfl⟩
    · cases List.mem_singleton.mp hz
      exact ⟨lcl_ok hk c2, Nat.eq_of_beq_eq_true c3⟩
  | [a1, a2, a3], h, hl =>
    refine eN_k h ?_; clear h; rintro x p rfl h
    refine eN_k h ?_; clear h; rintro y q rfl h
    refine eN_k h ?_; clear h; rintro z r rfl h
    refine oB_k h ?_; clear h; rintro c1 h
    refine oB_k h ?_; clear h; rintro c2 h
    refine oB_k h ?_; clear h; rintro c3 h
    refine oB_k h ?_; clear h; rintro c4 h
    refine oB_k h ?_; clear h; rintro c5 h
    refine oB_k h ?_; clear h; rintro c6 h
    refine oB_k h ?_; clear h; rintro c7 h
    refine oB_k h ?_; clear h; rintro c8 h
    rw [Bool.not_eq_true', seq_eq] at c6 c7 c8
    refine sw_fin (y := (x, p)) (r := [(y, q), (z, r)]) rfl rfl hl bk hs (fun z hz => ?_) (by simp [List.eraseDups, List.eraseDupsBy, List.eraseDupsBy.loop, c6, c7, c8]) h
    rcases List.mem_cons.mp hz with rfl | hz
    · exact ⟨lcl_ok hk c1, rfl⟩
    rcases List.mem_cons.mp hz with rfl | hz
    · exact ⟨lcl_ok hk c2, Nat.eq_of_beq_eq_true c4⟩
    · cases List.mem_singleton.mp hz
      exact ⟨lcl_ok hk c3, Nat.eq_of_beq_eq_true c5⟩
  | [_, _, _, _], h, hl =>
    refine ⟨hl, by rw [hl]; exact Nat.le_refl _, .inl ⟨(Option.some.inj h).symm, ?_⟩⟩
    rfl
end
end
section
open PyProof.Rows.LCg
section
variable {K : Params → Frag} {prog : Program} {w : World} {p : Program} {loose : List Str} {mg mb : Str → Option Value} {X : Fc} {cx : Cx} {A : Around} {O : AP} {as : List Addr} {st : St} {s : Shared} {E : Ev}
noncomputable def isLc (e : Expr) : Bool := match e with | .ListComp .. => true | .SetComp .. => true | .DictComp .. => true | _ => false
theorem swapsWith_no {e : Expr} {t : Option Expr} {n : Nat} {env : Env} (h : isLc e = false) : swapsWith e t n env = pure false := by
  cases e <;> first | rfl | cases h
theorem asgN (S : SndE K prog w p loose mg mb E) (T : SndT K prog w p loose mg mb E) (F : Fok K prog w p loose mg mb X cx) (a : AOk A cx) (hE : ∃ E', E.e = evE E' ∧ SndE K prog w p loose mg mb E' ∧ SndT K prog w p loose mg mb E') {x : Str} {px pos : Pos} {v : Expr} {k : St → Prop} {Q : Flow → Shared → Prop}
    (h : E.e cx v st fun v st => setV cx x v st k) (I : Inv X cx O as st s) (P : PostS X cx k O as s (Q .next)) : wpAny (model prog w) A (exec (.Assign [.Name x px] v pos) X.env) Q NoE s := by
  have plain : swapsWith v (some (.Name x px)) pos.line X.env = pure false → wpAny (model prog w) A (exec (.Assign [.Name x px] v pos) X.env) Q NoE s := fun hs =>
    wpAny_Assign_Name (S cx X A F a v st _ O as s _ h I fun v st' u s' O' as' h1 h2 h3 h4 => store_snd F h1 h2 h4 (P.trans h3)) hs
  refine oEAA hE ?_; clear hE; intro E' hE S' T'
  rw [hE] at h
  cases v with
  | ListComp elt gens sc lp =>
    have hb : ∃ b, swapsWith (.ListComp elt gens sc lp) (some (.Name x px)) pos.line X.env = pure b := ⟨_, rfl⟩
    refine oE hb ?_; clear hb; intro b hb
    cases b with
    | false => exact plain hb
    | true => exact lcA_snd S' T' F a h I hb P
  | SetComp => exact h.elim
  | DictComp => exact h.elim
  | _ => exact plain (swapsWith_no rfl)
theorem tupE (S : SndE K prog w p loose mg mb E) (F : Fok K prog w p loose mg mb X cx) (a : AOk A cx) {vs : List Expr} {j2 : Nat} {vp : Pos} {kk : List Val → St → Prop} {Q : Value → Shared → Prop} (hl : vs.length ≤ 4) (h : evVs E cx vs st kk) (I : Inv X cx O as st s)
    (P : ∀ ds st' us s' O' as' t, kk ds st' → Inv X cx O' as' st' s' → Ex O as s O' as' s' → VL as' (Dt s'.heap O') ds us → Dt s'.heap O' t (tupN us 0) → us.length = vs.length → Q (.ref t) s') : wpAny (model prog w) A (eval (.Tuple vs j2 vp) X.env) Q NoE s := by
  refine wpAny_Tuple (evVs_snd S F a vp vs h I fun ds st' us s' O' as' h1 h2 h3 h4 h5 => ?_)
  have e := h4.length.trans h5
  exact ⟨sl1000 (Nat.le_trans (e ▸ hl) (by decide)), P ds st' us _ O' as' _ h1 (h2.push (tupN us 0) s'.toks) (h3.trans (h2.exPush _ _)) (h4.ex (h2.exPush _ _)) (h2.wd.pushDt _ rfl) e⟩
theorem asgT (S : SndE K prog w p loose mg mb E) (F : Fok K prog w p loose mg mb X cx) (a : AOk A cx) {ts : List Expr} {j : Nat} {tp pos : Pos} {v : Expr} {k : St → Prop} {Q : Flow → Shared → Prop}
    (h : evAt E cx (.Tuple ts j tp) ts v st k) (I : Inv X cx O as st s) (P : PostS X cx k O as s (Q .next)) : wpAny (model prog w) A (exec (.Assign [.Tuple ts j tp] v pos) X.env) Q NoE s := by
  refine vT_e h ?_ ?_ <;> clear h
  · intro vs j2 vp h
    refine oJ_k h ?_; clear h; rintro b hsw h
    refine oAA (sw_ok (k1 := j) (k2 := j2) (p1 := tp) (p2 := vp) F.kinds F.fn hsw) ?_; intro l1 l2 l3
    clear hsw
    rcases l3 with ⟨rfl, hw⟩ | ⟨rfl, nms, hn, hw⟩
    · refine Assign_Tuple (tupE S F a l2 h I fun ds st' us s' O' as' t h1 h2 h3 h4 h5 h6 => ?_) rfl hw
      have h1 : bindVs cx ts ds st' k := h1
      refine oA (bindVs_nm h1) ?_; intro n1 n2
      refine wpAny_assign_Tuple (items := us.toArray) a.h ⟨_, h5.1, rfl, 0, rfl⟩ ((n1 _).trans (h4.length.symm.trans List.size_toArray.symm)) (n2 _) fun h' hx => ?_
      refine oA (h2.extBut hx) ?_; intro J e
      exact bindVs_snd F h1 J (h4.ex e) (P.trans (h3.trans e))
    · subst hn
      refine Assign_Tuple_swapped (names := nms.map (·.1)) (tupE S F a l2 h I fun ds st' us s' O' as' t h1 h2 h3 h4 h5 h6 => ?_) rfl hw
      have h1 : bindVs cx (nms.map fun y => Expr.Name y.1 y.2).reverse ds.reverse st' k := h1
      have hsz : (nms.map (·.1)).length = us.toArray.size := by rw [List.size_toArray, h6, l1, List.length_map, List.length_map]
      rw [hsz]
      refine wpAny_unpackItems_tuple (items := us.toArray) a.h ⟨_, h5.1, rfl, 0, rfl⟩ fun h' hx => ?_
      refine oA (h2.extBut hx) ?_; intro J e
      rw [← List.map_reverse] at h1
      rw [← List.map_reverse]
      exact bindN_snd F h1 J (h4.ex e).reverse (P.trans (h3.trans e))
  · intro ht h
    refine Assign_Tuple (evD_snd S F a h I fun d st' u s' O' as' h1 h2 h3 h4 => bindT_snd F a h1 h2 h4 (P.trans h3)) ?_ ?_
    · cases v <;> rfl
    · cases v <;> first | rfl | cases ht
theorem set_snd (I : Inv X cx O as st s) {j : Nat} {b : Value} {n : Int} {t : Tok} {d : Dat} {u : Value} {k : St → Prop} {Q : Unit → Shared → Prop} {E : Value → Shared → Prop} (hb : VR as (Dt s.heap O) (.loc j) b) (h0 : decide (0 ≤ n) = true) (rd : R (Dt s.heap O) d u)
    (h : evPut st j n d k) (P : PostS X cx k O as s (Q ())) : wpAny (model prog w) A (setItem b (.int n t) u) Q E s := by
  refine owF_k h ?_; clear h; rintro l ho h
  refine gd_k h ?_; clear h; rintro hz h
  refine oEA hb ?_; clear hb; rintro c hb rfl
  refine oEEEAAAA (I.own.at_ j false l ho) ?_; intro b' m vs q1 q2 q3 q4 _
  obtain rfl := Option.some.inj (q1.symm.trans hb)
  refine oA (Bool.and_eq_true_iff.mp hz) ?_; intro z1 z2
  have h0 := of_decide_eq_true h0
  have h1 : n.toNat < l.length := Nat.le_of_ble_eq_true z1
  refine setItem_at q2 h0 ((Int.toNat_lt h0).mp (Nat.lt_trans (Nat.lt_of_lt_of_le h1 (Nat.le_of_ble_eq_true z2)) (by decide))) (by rw [q3.length]; exact h1) fun h' n' g hs => ?_
  refine oA (I.setOwn (l' := l.set n.toNat d) (t := s.toks) ho hb hs g (q3.set _ rd)) ?_; intro J e
  exact P _ _ _ _ h J e
theorem asgS (S : SndE K prog w p loose mg mb E) (F : Fok K prog w p loose mg mb X cx) (a : AOk A cx) {o i : Expr} {tp pos : Pos} {v : Expr} {k : St → Prop} {Q : Flow → Shared → Prop}
    (h : evAs E cx (.Subscript o i tp) v st k) (I : Inv X cx O as st s) (P : PostS X cx k O as s (Q .next)) : wpAny (model prog w) A (exec (.Assign [.Subscript o i tp] v pos) X.env) Q NoE s := by
  refine wpAny_Assign_Subscript (evD_snd S F a h I fun d st₁ u s₁ O₁ as₁ h1 h2 h3 h4 => S cx X A F a o st₁ _ O₁ as₁ s₁ _ h1 h2 fun ov st₂ u₂ s₂ O₂ as₂ g1 g2 g3 g4 => evD_snd S F a g1 g2 fun iv st₃ u₃ s₃ O₃ as₃ q1 q2 q3 q4 => ?_) (by cases v <;> rfl)
  clear h h1 g1
  have g4 := g4.ex q3
  revert g4
  refine vL_e q1 ?_
  clear q1
  intro j q1 g4
  revert q4
  refine dL_e q1 ?_
  clear q1
  intro n q1 q4
  refine gd_k q1 ?_; clear q1; rintro hn q1
  refine oE q4 ?_; clear q4; rintro t rfl
  exact set_snd q2 g4 hn (R.ex (g3.trans q3) h4) q1 (P.trans ((h3.trans g3).trans q3))
theorem augStore_no {i : Expr} (h : isSl i = false) (ov iv new : Value) : augStore i ov iv new = (do holding [new, ov, iv] (setItem ov iv new); release [new, ov, iv] []; pure .next) := by cases i <;> first | rfl | cases h
theorem augN (S : SndE K prog w p loose mg mb E) (F : Fok K prog w p loose mg mb X cx) (a : AOk A cx) {x : Str} {px : Pos} {op : Operator} {pos : Pos} {v : Expr} {k : St → Prop} {Q : Flow → Shared → Prop}
    (h : evAug E cx (.Name x px) op v st k) (I : Inv X cx O as st s) (P : PostS X cx k O as s (Q .next)) : wpAny (model prog w) A (exec (.AugAssign (.Name x px) op v pos) X.env) Q NoE s := by
  refine gn_k h ?_; clear h; rintro hd h
  rw [seq_eq] at hd
  refine AugName hd (S cx X A F a _ st _ O as s _ h I fun av st₁ u s₁ O₁ as₁ h1 h2 h3 h4 => ?_)
  clear h
  revert h4
  refine vv_e h1 ?_ ?_ <;> clear h1
  · intro d h1 h4
    refine evD_snd S F a h1 h2 fun b st₂ u₂ s₂ O₂ as₂ g1 g2 g3 g4 => ?_
    refine oJ_k g1 ?_; clear g1; rintro r hr g1
    exact iarith_snd (s := s₂) hr (R.ex g3 h4) g4 fun rv hrv => store_snd F g1 (g2.toks _) (v := .d r) hrv (P.trans ((h3.trans g3).trans (Ex.toks _)))
  · intro j h1 h4
    refine gd_k h1 ?_; clear h1; rintro hop h1
    obtain rfl : op = .Add := opN_inj (Nat.eq_of_beq_eq_true hop) (by decide)
    refine evD_snd S F a h1 h2 fun b st₂ u₂ s₂ O₂ as₂ g1 g2 g3 g4 => ?_
    clear h1
    revert g4
    refine dS_e g1 ?_
    clear g1
    intro r g1 g4
    refine owF_k g1 ?_; clear g1; rintro l ho g1
    refine gd_k g1 ?_; clear g1; rintro hb g1
    refine oEA (VR.ex g3 h4) ?_; rintro c e1 rfl
    refine oEEEAAAA (g2.own.at_ j false l ho) ?_; intro b' m vs q1 q2 q3 q4 _
    obtain rfl := Option.some.inj (q1.symm.trans e1)
    obtain ⟨b2, m2, ys, rfl, r1, r2⟩ := g4
    refine list_iadd q2 r1.1 (by rw [q3.length, r2.length]; exact Nat.le_of_ble_eq_true hb) fun n' gg => ?_
    refine oA (g2.setOwn (l' := l ++ r) (t := s₂.toks) ho e1 (Heap.SameBut.update ..) gg (q3.append r2)) ?_; intro J e
    exact store_snd F g1 J ⟨_, e1, rfl⟩ (P.trans ((h3.trans g3).trans e))
theorem augS (S : SndE K prog w p loose mg mb E) (F : Fok K prog w p loose mg mb X cx) (a : AOk A cx) {o i : Expr} {tp : Pos} {op : Operator} {pos : Pos} {v : Expr} {k : St → Prop} {Q : Flow → Shared → Prop}
    (h : evAug E cx (.Subscript o i tp) op v st k) (I : Inv X cx O as st s) (P : PostS X cx k O as s (Q .next)) : wpAny (model prog w) A (exec (.AugAssign (.Subscript o i tp) op v pos) X.env) Q NoE s := by
  refine gn_k h ?_; clear h; rintro hsl h
  refine wpAny_AugAssign_SubscriptAny (S cx X A F a o st _ O as s _ h I fun ov st₁ u s₁ O₁ as₁ h1 h2 h3 h4 => evD_snd S F a h1 h2 fun iv st₂ u₂ s₂ O₂ as₂ g1 g2 g3 g4 => ?_) (augStore_no hsl)
  clear h h1 hsl
  have h4 := h4.ex g3
  have h3 := h3.trans g3
  clear g3
  revert h4
  refine vL_e g1 ?_
  clear g1
  intro j g1 h4
  revert g4
  refine dL_e g1 ?_
  clear g1
  intro n g1 g4
  refine owF_k g1 ?_; clear g1; rintro l ho g1
  refine gd_k g1 ?_; clear g1; rintro hn g1
  refine oJ_k g1 ?_; clear g1; rintro old hd g1
  refine gd_k g1 ?_; clear g1; rintro hb g1
  have h4' := h4
  refine oEA h4 ?_; clear h4; rintro c e1 rfl
  refine oE g4 ?_; clear g4; rintro t rfl
  refine oEEEAAAA (g2.own.at_ j false l ho) ?_; intro b' m vs q1 q2 q3 q4 _
  obtain rfl := Option.some.inj (q1.symm.trans e1)
  refine oEA (q3.at _ _ hd) ?_; intro x x1 x2
  have h0 := of_decide_eq_true hn
  have lt := (List.getElem?_eq_some_iff.mp hd).1
  refine wpAny_getItem_list (items := vs.toArray) ⟨_, q2, rfl, m, rfl⟩ h0 ((Int.toNat_lt h0).mp (Nat.lt_trans (Nat.lt_of_lt_of_le lt (Nat.le_of_ble_eq_true hb)) (by decide))) (by simpa using x1) ?_
  refine evD_snd S F a g1 g2 fun d st₃ u₃ s₃ O₃ as₃ p1 p2 p3 p4 => ?_
  refine binI_snd F a p2 p1 (R.ex p3 x2) p4 fun wd st₄ u₄ s₄ O₄ as₄ r1 r2 r3 r4 => ?_
  exact set_snd r2 ((h4'.ex p3).ex r3) hn r4 r1 (P.trans ((h3.trans p3).trans r3))
theorem aug (S : SndE K prog w p loose mg mb E) (F : Fok K prog w p loose mg mb X cx) (a : AOk A cx) {t : Expr} {op : Operator} {pos : Pos} {v : Expr} {k : St → Prop} {Q : Flow → Shared → Prop}
    (h : evAug E cx t op v st k) (I : Inv X cx O as st s) (P : PostS X cx k O as s (Q .next)) : wpAny (model prog w) A (exec (.AugAssign t op v pos) X.env) Q NoE s := by
  cases t with
  | Name x px => exact augN S F a h I P
  | Subscript o i tp => exact augS S F a h I P
  | _ => exact h.elim
end
end
section
open PyProof.Rows.LCg
section
variable {K : Params → Frag} {prog : Program} {w : World} {p : Program} {loose : List Str} {mg mb : Str → Option Value}
noncomputable abbrev SndAll (K : Params → Frag) (prog : Program) (w : World) (p : Program) (loose : List Str) (mg mb : Str → Option Value) (E : Ev) : Prop := SndE K prog w p loose mg mb E ∧ SndT K prog w p loose mg mb E ∧ SndS K prog w p loose mg mb E
variable {X : Fc} {cx : Cx} {A : Around} {O : AP} {as : List Addr} {st : St} {s : Shared}
theorem post_nil {m : Nat} {k : Fl → St → Prop} {Q : Flow → Shared → Prop} (P : PostF X cx k O as s Q) : PostF X cx (fun fl st => match fl with | .next => (ev m).s cx [] st k | fl => k fl st) O as s Q := fun fl st' f s' O' as' h1 h2 h3 h4 => by
  cases fl with
  | next => cases m with
    | zero => exact h1.elim
    | succ m => exact P _ _ _ _ _ _ h1 h2 h3 h4
  | _ => exact P _ _ _ _ _ _ h1 h2 h3 h4
theorem while_turn {n : Nat} (H : SndAll K prog w p loose mg mb (ev n)) (F : Fok K prog w p loose mg mb X cx) (a : AOk A cx) {c : Expr} {b : List Stmt} {pos : Pos} {k : Fl → St → Prop} {Q : Flow → Shared → Prop}
    (next : ∀ {st O as s Q}, (ev n).s cx [.While c b [] pos] st k → Inv X cx O as st s → PostF X cx k O as s Q → codeAny (model prog w) A (.whileLoop c b [] X.env) (fun r s' => match r with | .ok f => Q f s' | .error _ => False) s)
    (h : evS1 (ev n) cx (.While c b [] pos) st k) (I : Inv X cx O as st s) (P : PostF X cx k O as s Q) : codeAny (model prog w) A (.whileLoop c b [] X.env) (fun r s' => match r with | .ok f => Q f s' | .error _ => False) s := by
  refine oAA H ?_; clear H; intro S T SS
  refine whileGo (T cx X A F a c st _ O as s _ h I fun t st₁ s₁ O₁ as₁ h1 h2 h3 => ?_)
  cases t with
  | true =>
    refine SS cx X A F a b st₁ _ O₁ as₁ s₁ _ h1 h2 fun fl st₂ f s₂ O₂ as₂ g1 g2 g3 g4 => ?_
    cases fl with
    | next => cases g4; exact next g1 g2 (P.trans (h3.trans g3))
    | cont => cases g4; exact next g1 g2 (P.trans (h3.trans g3))
    | brk => cases g4; exact P _ _ _ _ _ _ g1 g2 (h3.trans g3) rfl
    | ret d => refine oEA g4 ?_; clear g4; rintro v rfl r; exact P _ _ _ _ _ _ g1 g2 (h3.trans g3) ⟨v, rfl, r⟩
  | false => exact wpAny_execs_nil (P _ _ _ _ _ _ h1 h2 h3 rfl)
theorem while_snd {n : Nat} (H : ∀ m, m ≤ n → SndAll K prog w p loose mg mb (ev m)) (F : Fok K prog w p loose mg mb X cx) (a : AOk A cx) {c : Expr} {b : List Stmt} {pos : Pos} : ∀ m, m ≤ n → ∀ {st : St} {O : AP} {as : List Addr} {s : Shared} {k : Fl → St → Prop} {Q : Flow → Shared → Prop},
    (ev m).s cx [.While c b [] pos] st k → Inv X cx O as st s → PostF X cx k O as s Q → codeAny (model prog w) A (.whileLoop c b [] X.env) (fun r s' => match r with | .ok f => Q f s' | .error _ => False) s
  | 0, _, st, O, as, s, k, Q, h, I, P => h.elim
  | m + 1, hm, st, O, as, s, k, Q, h, I, P => while_turn (n := m) (H m (Nat.le_of_succ_le hm)) F a (fun h' I' P' => while_snd H F a m (Nat.le_of_succ_le hm) h' I' P') h I (post_nil P)
theorem evS1_snd {n : Nat} (H : ∀ m, m ≤ n → SndAll K prog w p loose mg mb (ev m)) (F : Fok K prog w p loose mg mb X cx) (a : AOk A cx) {t : Stmt} {k : Fl → St → Prop} {Q : Flow → Shared → Prop} (h : evS1 (ev n) cx t st k) (I : Inv X cx O as st s) (P : PostF X cx k O as s Q) :
    wpAny (model prog w) A (exec t X.env) Q NoE s := by
  refine oAA (H n (Nat.le_refl _)) ?_; intro S T SS
  have PN : PostS X cx (k .next) O as s (Q .next) := fun st' s' O' as' h1 h2 h3 => P _ _ _ _ _ _ h1 h2 h3 rfl
  cases t with
  | Pass pos => exact wpAny_Pass (PN _ _ _ _ h I Ex.refl)
  | Return v pos =>
    cases v with
    | none => exact wpAny_Return_none (P _ _ _ _ _ _ h I Ex.refl ⟨_, rfl, rfl⟩)
    | some e => exact wpAny_Return_some (evD_snd S F a h I fun d st' u s' O' as' h1 h2 h3 h4 => P _ _ _ _ _ _ h1 h2 h3 ⟨_, rfl, h4⟩)
  | Assign ts v pos =>
    refine n1_e h ?_ False.elim
    clear h
    intro t h
    cases t with
    | Name x px =>
      cases n with
      | zero => exact h.elim
      | succ n =>
        refine oAA (H n (Nat.le_succ n)) ?_; intro S' T' _
        exact asgN S T F a ⟨ev n, rfl, S', T'⟩ h I PN
    | Tuple es j tp => exact asgT S F a h I PN
    | Subscript o i tp => exact asgS S F a h I PN
    | _ => exact h.elim
  | AugAssign t op v pos => exact aug S F a h I PN
  | If c x y pos =>
    refine wpAny_If (T cx X A F a c st _ O as s _ h I fun b st₂ s₂ O₂ as₂ g1 g2 g3 => ?_)
    cases b with
    | true => exact SS cx X A F a x st₂ k O₂ as₂ s₂ Q g1 g2 (P.trans g3)
    | false => exact SS cx X A F a y st₂ k O₂ as₂ s₂ Q g1 g2 (P.trans g3)
  | While c b e pos =>
    cases e with
    | cons _ _ => exact h.elim
    | nil => exact whileStart (while_turn (H n (Nat.le_refl _)) F a (fun h' I' P' => while_snd H F a n (Nat.le_refl _) h' I' P') h I P)
  | For t it b e pos =>
    cases e with
    | cons _ _ => exact h.elim
    | nil =>
      refine forStart (noE (evI_snd S F a h I fun items st' itv own L src s' O' as' h1 h2 h3 h4 h5 h6 h7 => ?_)) (evI_ns h)
      exact for_snd SS F a h3 h1 h2 h4 h6 (P.trans h7)
  | _ => exact h.elim
theorem ev_snd : ∀ n, SndAll K prog w p loose mg mb (ev n) := fun n => by
  induction n using Nat.strongRecOn with
  | ind n ih =>
    cases n with
    | zero => exact ⟨fun _ _ _ _ _ _ _ _ _ _ _ _ h => h.elim, fun _ _ _ _ _ _ _ _ _ _ _ _ h => h.elim, fun _ _ _ _ _ _ _ _ _ _ _ _ h => h.elim⟩
    | succ n =>
      refine oAA (ih n (Nat.lt_succ_self n)) ?_; intro S T SS
      refine ⟨fun cx X A F a e st k O as s Q h I P => evE_snd S T F a h I P, fun cx X A F a e st k O as s Q h I P => evT_snd S T F a h I P, fun cx X A F a l st k O as s Q h I P => ?_⟩
      cases l with
      | nil => exact wpAny_execs_nil (P _ _ _ _ _ _ h I Ex.refl rfl)
      | cons t r =>
        have h : evS1 (ev n) cx t st fun fl st => (match fl with | .next => (ev n).s cx r st k | fl => k fl st) := h
        refine wpAny_execs_cons (evS1_snd (n := n) (fun m hm => ih m (Nat.lt_succ_of_le hm)) F a h I fun fl st' f s' O' as' h1 h2 h3 h4 => ?_)
        cases fl with
        | next => cases h4; exact SS cx X A F a r st' k O' as' s' Q h1 h2 (P.trans h3)
        | brk => cases h4; exact P _ _ _ _ _ _ h1 h2 h3 rfl
        | cont => cases h4; exact P _ _ _ _ _ _ h1 h2 h3 rfl
        | ret d => refine oEA h4 ?_; clear h4; rintro v rfl r; exact P _ _ _ _ _ _ h1 h2 h3 ⟨v, rfl, r⟩
end
end
section
open PyProof.Rows.LCg
theorem zip_look : ∀ {names : List Str} {vs : List Value}, names.length = vs.length → ∀ n ∈ names, ((names.zip vs).lookup n).isSome = true
  | [], _, _, _, h => nomatch h
  | x :: r, [], hl, _, _ => nomatch hl
  | x :: r, v :: vs, hl, n, hn => by
    rw [List.zip_cons_cons, List.lookup_cons]
    cases q : n == x with
    | true => rfl
    | false =>
      rcases List.mem_cons.mp hn with rfl | hn
      · simp at q
      · exact zip_look (Nat.succ.inj hl) n hn
theorem zip_filt : ∀ {names : List Str} {vs : List Value}, names.length = vs.length → names.Nodup → names.filterMap (fun n => ((names.zip vs).lookup n).map (n, ·)) = names.zip vs
  | [], _, _, _ => rfl
  | x :: r, [], hl, _ => nomatch hl
  | x :: r, v :: vs, hl, hn => by
    rw [List.nodup_cons] at hn
    rw [List.filterMap_cons]
    simp only [List.zip_cons_cons, List.lookup_cons, beq_self_eq_true, Option.map_some]
    congr 1
    have : ∀ (l : List Str), (∀ y ∈ l, y ≠ x) → List.filterMap (fun n => Option.map (fun x => (n, x)) (match n == x with | true => some v | false => List.lookup n (r.zip vs))) l = List.filterMap (fun n => Option.map (fun x => (n, x)) (List.lookup n (r.zip vs))) l := by
      intro l
      induction l with
      | nil => intro _; rfl
      | cons y l ih =>
        intro h
        have hy : (y == x) = false := by simpa using h y (.head _)
        rw [List.filterMap_cons, List.filterMap_cons, ih fun z hz => h z (.tail _ hz)]
        simp only [hy]
    exact (this r fun y hy q => hn.1 (q ▸ hy)).trans (zip_filt (Nat.succ.inj hl) hn.2)
theorem bindArgs_plain {fd : FuncData} {vs : List Value} (h1 : fd.params.posonlyargs = []) (h3 : fd.params.kwonlyargs = []) (h4 : fd.params.vararg = none) (h5 : fd.params.kwarg = none) (h6 : fd.defaults = .none) (hl : (fd.params.args.map (·.arg)).length = vs.length) (hn : (fd.params.args.map (·.arg)).Nodup) :
    bindArgs fd ⟨vs, []⟩ = pure ((fd.params.args.map (·.arg)).zip vs) := by
  unfold bindArgs
  have e : seqItems? .none = pure none := rfl
  have hm : ((fd.params.args.map (·.arg)).take (fd.params.args.map (·.arg)).length).filter (fun n => (((fd.params.args.map (·.arg)).zip vs).lookup n).isNone) = [] := by
    rw [List.filter_eq_nil_iff]
    intro n hn'
    have := zip_look hl n (List.mem_of_mem_take hn')
    simpa using this
  have hf := zip_filt hl hn
  generalize hps : fd.params.args.map (·.arg) = ps at *
  simp only [h1, h3, h4, h5, h6, hps, List.map_nil, List.nil_append, List.forIn_nil, pure_bind, e, Option.getD_none, List.drop_nil, List.length_nil, Nat.sub_zero, hm, List.zip_nil_right, List.append_nil, hl, Nat.lt_irrefl, gt_iff_lt, decide_false, Bool.false_and, List.isEmpty_nil, Bool.not_true, Bool.false_eq_true, if_false, Array.toList_empty]
  rw [hl] at hm
  rw [hm, hf]
  rfl
noncomputable def zipA : List Arg → List Dat → Option (List (Str × Val))
  | [], l => (match l with | [] => some [] | _ :: _ => none)
  | a :: r, l => (match l with | [] => none | d :: ds => oM (zipA r ds) fun l => some ((a.arg, .d d) :: l))
noncomputable def ndB : List Arg → Bool
  | [] => true
  | a :: r => !(r.any fun b => seq b.arg a.arg) && ndB r
noncomputable def isNil {α : Type} : List α → Bool
  | [] => true
  | _ => false
noncomputable def lcK (k : NameKind) : Bool := match k with
  | .local => true
  | .cell => true
  | _ => false
noncomputable def lcOk (sc : Scope) (x : Str) : Bool := match look x sc.names with
  | some k => lcK k
  | none => false
noncomputable def isVN (v : Value) : Bool := match v with | .none => true | _ => false
noncomputable def isFun (k : ScopeKind) : Bool := match k with | .function => true | _ => false
noncomputable def fdOk (fd : FuncData) : Bool := isNil fd.params.posonlyargs && isNil fd.params.kwonlyargs && isNo fd.params.vararg && isNo fd.params.kwarg && isVN fd.defaults && isNil fd.closure &&
  Nat.beq fd.globals mainGlobals && Nat.beq fd.builtins builtinsNs && !fd.scope.isGenerator && !fd.scope.isCoroutine && isFun fd.scope.kind && ndB fd.params.args && fd.params.args.all fun a => lcOk fd.scope a.arg
noncomputable def vFn (d : Data) (f : FuncData → Prop) : Prop := match d with | .func fd => f fd | _ => False
theorem vFn_k {d : Data} {f : FuncData → Prop} {G : Prop} (h : vFn d f) (k : ∀ fd, d = .func fd → f fd → G) : G := by cases d <;> first | exact k _ rfl h | exact h.elim
noncomputable def vSt (d : FuncBody) (f : List Stmt → Prop) : Prop := match d with | .stmts b => f b | _ => False
theorem vSt_k {d : FuncBody} {f : List Stmt → Prop} {G : Prop} (h : vSt d f) (k : ∀ b, d = .stmts b → f b → G) : G := by cases d <;> first | exact k _ rfl h | exact h.elim
@[irreducible] noncomputable def runG (run : Cx → List Stmt → St → (Fl → St → Prop) → Prop) (K : Frag) (gam : List Ctr) (D U : Nat) (f : Nat) (args : List Dat) (orc : List Bool) (k : Dat → List Bool → Prop) : Prop :=
  oJ (K.lookup f) fun o => vFn o.data fun fd => vSt fd.body fun body => gd (fdOk fd && codeIn K fd.code fd.qualname && Nat.blt (D + 1) 1000 && Nat.blt (U + 103) cLine) <| oJ (zipA fd.params.args args) fun vs =>
    run ⟨fun x => look x fd.scope.names, gam, D + 1, U + 3⟩ body ⟨vs, [], orc⟩ fun fl st => (match fl with | .ret d => k d st.orc | .next => k .none st.orc | _ => False)
@[irreducible] noncomputable def runF (K : Frag) (gam : List Ctr) (D U : Nat) (f : Nat) (args : List Dat) (orc : List Bool) (k : Dat → List Bool → Prop) : Prop := runG (ev 60).s K gam D U f args orc k
theorem ndB_ok : ∀ {l : List Arg}, ndB l = true → (l.map (·.arg)).Nodup
  | [], _ => List.nodup_nil
  | a :: r, h => by
    unfold ndB at h
    refine oA (Bool.and_eq_true_iff.mp h) ?_; intro h1 h2
    rw [List.map_cons, List.nodup_cons]
    refine ⟨fun q => ?_, ndB_ok h2⟩
    refine oEA (List.mem_map.mp q) ?_; intro b hb e
    have h1 : (r.any fun b => seq b.arg a.arg) = false := by simpa using h1
    rw [List.any_eq_false] at h1
    exact h1 b hb ((seq_iff _ _).mpr e)
theorem isNil_ok {α : Type} {l : List α} (h : isNil l = true) : l = [] := by cases l <;> first | rfl | cases h
structure FdOk (fd : FuncData) : Prop where
  po : fd.params.posonlyargs = []
  ko : fd.params.kwonlyargs = []
  va : fd.params.vararg = none
  kw : fd.params.kwarg = none
  df : fd.defaults = .none
  cl : fd.closure = []
  gl : fd.globals = mainGlobals
  bu : fd.builtins = builtinsNs
  ge : fd.scope.isGenerator = false
  co : fd.scope.isCoroutine = false
  kd : fd.scope.kind = .function
  nd : (fd.params.args.map (·.arg)).Nodup
  lc : ∀ a ∈ fd.params.args, fd.scope.names.lookup a.arg = some .local ∨ fd.scope.names.lookup a.arg = some .cell
theorem fdOk_ok {fd : FuncData} (h : fdOk fd = true) : FdOk fd := by
  unfold fdOk at h
  simp only [Bool.and_eq_true] at h
  refine oA h ?_; clear h; rintro ⟨⟨⟨⟨⟨⟨⟨⟨⟨⟨⟨a1, a2⟩, a3⟩, a4⟩, a5⟩, a6⟩, a7⟩, a8⟩, a9⟩, a10⟩, a11⟩, a12⟩ a13
  refine ⟨isNil_ok a1, isNil_ok a2, isNo_ok a3, isNo_ok a4, ?_, isNil_ok a6, Nat.eq_of_beq_eq_true a7, Nat.eq_of_beq_eq_true a8, by simpa using a9, by simpa using a10, ?_, ndB_ok a12, fun a ha => ?_⟩
  · cases e : fd.defaults <;> first | rfl | (rw [e] at a5; cases a5)
  · cases e : fd.scope.kind <;> first | rfl | (rw [e] at a11; cases a11)
  · have q := List.all_eq_true.mp a13 a ha
    unfold lcOk at q
    rw [look_eq] at q
    cases e : fd.scope.names.lookup a.arg with
    | none => rw [e] at q; cases q
    | some k => rw [e] at q; cases k <;> first | exact .inl rfl | exact .inr rfl | cases q
theorem zipA_len : ∀ {ps : List Arg} {ds : List Dat} {vars : List (Str × Val)}, zipA ps ds = some vars → ps.length = ds.length
  | [], [], _, _ => rfl
  | a :: r, d :: ds, vars, h => oM_k (o := zipA r ds) h fun l e _ => congrArg (· + 1) (zipA_len e)
  | [], _ :: _, _, h => no_some h
  | _ :: _, [], _, h => no_some h
theorem bindL_not (kd : Str → Option NameKind) {x : Str} : ∀ (l : List (Str × Value)) (m : Str → Option Value), (∀ y ∈ l, y.1 ≠ x) → bindL kd l m x = m x
  | [], m, _ => rfl
  | (n, v) :: r, m, h => by
    unfold bindL
    rw [bindL_not kd r _ fun y hy => h y (.tail _ hy)]
    have hn : x ≠ n := fun q => h _ (.head _) q.symm
    split
    · exact if_neg hn
    · rfl
theorem bindC_not (kd : Str → Option NameKind) {x : Str} : ∀ (l : List (Str × Value)) (m : Str → Option Value), (∀ y ∈ l, y.1 ≠ x) → bindC kd l m x = m x
  | [], m, _ => rfl
  | (n, v) :: r, m, h => by
    unfold bindC
    rw [bindC_not kd r _ fun y hy => h y (.tail _ hy)]
    have hn : x ≠ n := fun q => h _ (.head _) q.symm
    split
    · rfl
    · exact if_neg hn
theorem mem_zip_fst {ns : List Str} {vs : List Value} {y : Str × Value} (h : y ∈ ns.zip vs) : y.1 ∈ ns := (List.of_mem_zip (a := y.1) (b := y.2) h).1
theorem vars_bind (kd : Str → Option NameKind) {φ : Fm} : ∀ {ps : List Arg} {ds : List Dat} {vars : List (Str × Val)} {vs : List Value} (m cm : Str → Option Value), zipA ps ds = some vars → RL φ ds vs → (ps.map (·.arg)).Nodup → ∀ x v, look x vars = some v →
    (∃ a ∈ ps, a.arg = x) ∧ ∃ d u, v = .d d ∧ R φ d u ∧ (kd x = some .local → bindL kd ((ps.map (·.arg)).zip vs) m x = some u) ∧ (kd x ≠ some .local → bindC kd ((ps.map (·.arg)).zip vs) cm x = some u)
  | [], [], vars, vs, m, cm, h, r, hn, x, v, hx => by cases h; cases hx
  | a :: ps, d :: ds, vars, vs, m, cm, h, r, hn, x, v, hx => by
    refine oM_k (o := zipA ps ds) h fun l e h => ?_
    · obtain rfl := Option.some.inj h
      refine oEEAA r ?_; clear r; rintro u us rfl r1 r2
      rw [List.map_cons, List.nodup_cons] at hn
      rw [List.map_cons, List.zip_cons_cons]
      unfold look at hx
      cases q : seq x a.arg with
      | true =>
        rw [q] at hx
        cases hx
        have := (seq_iff _ _).mp q; subst this
        have nn : ∀ y ∈ (ps.map (·.arg)).zip us, y.1 ≠ a.arg := fun y hy z => hn.1 (z ▸ mem_zip_fst hy)
        refine ⟨⟨a, .head _, rfl⟩, d, u, rfl, r1, fun hk => ?_, fun hk => ?_⟩
        · unfold bindL
          rw [bindL_not _ _ _ nn, if_pos hk]
          exact if_pos rfl
        · unfold bindC
          rw [bindC_not _ _ _ nn, if_neg hk]
          exact if_pos rfl
      | false =>
        rw [q] at hx
        obtain ⟨⟨b, hb, e1⟩, d', u', e2, e3, e4, e5⟩ := vars_bind kd (if kd a.arg = some .local then fun y => if y = a.arg then some u else m y else m) (if kd a.arg = some .local then cm else fun y => if y = a.arg then some u else cm y) e r2 hn.2 x v hx
        exact ⟨⟨b, .tail _ hb, e1⟩, d', u', e2, e3, fun hk => by unfold bindL; exact e4 hk, fun hk => by unfold bindC; exact e5 hk⟩
  | [], _ :: _, _, _, _, _, h, _, _, _, _, _ => no_some h
  | _ :: _, [], _, _, _, _, h, _, _, _, _, _ => no_some h
mutual
noncomputable def Fa : Dat → Prop
  | .prm p => Pr p
  | .int n B => n.natAbs ≤ B
  | .fq p n => Can p n
  | .fqp p a b => Can p a ∧ Can p b
  | .fq2 p a b => Can p a ∧ Can p b
  | .ob _ _ _ ds => FaL ds
  | .tup l => FaL l
  | .lst l => FaL l
  | _ => True
noncomputable def FaL : List Dat → Prop
  | [] => True
  | d :: r => Fa d ∧ FaL r
end
theorem RFq.can {φ : Fm} {v : Value} {p n : Int} (x : RFq φ v p n) : Can p n := by
  obtain ⟨_, _, _, _, _, _, _, _, _, _, _, c⟩ := x; exact c
mutual
theorem R.fa {φ : Fm} : ∀ (d : Dat) {v : Value}, R φ d v → Fa d
  | .prm _, _, r | .int _ _, _, r => And.left r
  | .fq _ _, _, r => RFq.can r
  | .fqp _ _ _, _, r => (match r with | .mk _ _ _ _ _ _ _ _ _ _ _ _ _ _ _ _ _ _ _ _ _ _ _ _ y4 y5 _ => And.intro y4.can y5.can : Can _ _ ∧ Can _ _)
  | .fq2 _ _ _, _, r => (match r with | .mk _ _ _ _ _ _ _ _ _ _ _ _ _ _ _ _ _ _ _ _ _ _ _ _ _ _ _ _ _ _ _ _ _ _ _ c1 c2 => And.intro c1 c2 : Can _ _ ∧ Can _ _)
  | .ob _ _ _ ds, _, .mk _ _ _ _ _ _ _ _ _ _ r => RL.fa ds r
  | .tup l, _, .mk _ _ _ _ _ r => RL.fa l r
  | .lst l, _, .mk _ _ _ _ _ r => RL.fa l r
  | .lit _, _, _ | .bool _, _, _ | .sb _, _, _ | .none, _, _ | .rf _, _, _ | .bi _, _, _ => True.intro
theorem RL.fa {φ : Fm} : ∀ (l : List Dat) {vs : List Value}, RL φ l vs → FaL l
  | [], _, _ => True.intro
  | d :: l, _, ⟨_, _, _, r1, r2⟩ => And.intro (R.fa d r1) (RL.fa l r2)
end
end
section
open PyProof.Rows.LCg
theorem look_memA {x : Str} {c : Addr} : ∀ {l : List (Str × Addr)}, l.lookup x = some c → (x, c) ∈ l
  | [], h => nomatch h
  | (y, d) :: r, h => by
    rw [List.lookup_cons] at h
    cases q : x == y with
    | true => rw [q] at h; cases h; rw [beq_iff_eq.mp q]; exact .head _
    | false => rw [q] at h; exact .tail _ (look_memA h)
noncomputable abbrev eFc (g : Heap) (env : Env) (s : Shared) (O : AP) : Fc := { g := g, Ref := fun a o => s.heap.get? a = some o ∧ O a ∧ ¬ isTb a, env := env, s₀ := s, B := O }
theorem Inv.enter {g : Heap} {O : AP} {s s' : Shared} {env : Env} {L : Addr} {cx : Cx} {vars : List (Str × Val)} {orc : List Bool} {m : Str → Option Value} (W : Wd g O s) (last : LastOk g) (k : Kp s.heap s'.heap) (gs : GS s s') (hL : env.locals = L) (sL : s.heap.objs.size ≤ L) (ns : s'.heap.Ns L m)
    (hv : ∀ x v, look x vars = some v → cx.kind x = some .local → ∃ d u, v = .d d ∧ m x = some u ∧ R (Dt s.heap O) d u)
    (hc : ∀ x v, look x vars = some v → cx.kind x ≠ some .local → ∃ d c o u, v = .d d ∧ (cx.kind x = some .cell ∨ cx.kind x = some .free) ∧ env.cells.lookup x = some c ∧ s'.heap.get? c = some o ∧ L < c ∧ o.data = .cell (some u) ∧ R (Dt s.heap O) d u) :
    Inv (eFc g env s O) cx (fun b => O b ∨ b = L) [] ⟨vars, [], orc⟩ s' ∧ ∀ a o, Dt s.heap O a o → Dt s'.heap (fun b => O b ∨ b = L) a o := by
  subst hL
  have old : ∀ {b o}, s.heap.get? b = some o → b ≠ env.locals := fun {b o} h q => by
    have := Heap.lt_size h
    rw [q] at this; exact absurd this (Nat.not_lt.mpr sL)
  have ed : ∀ a o, Dt s.heap O a o → Dt s'.heap (fun b => O b ∨ b = env.locals) a o := fun a o h => ⟨k _ _ h.1, fun q => q.elim h.2 (old h.1)⟩
  have nO : ∀ {b : Addr}, s.heap.objs.size ≤ b → ¬ O b := fun {b} hb q => by refine oE (W.alive b q) ?_; intro o e; exact absurd (Heap.lt_size e) (Nat.not_lt.mpr hb)
  have tn : ∀ {b : Addr}, s.heap.objs.size ≤ b → ¬ isTb b := fun {b} hb q => by refine oEA (W.tabs b q) ?_; intro ps e _; exact absurd (Heap.lt_size e) (Nat.not_lt.mpr hb)
  refine ⟨⟨⟨fun b o e => k _ _ (W.keep b o e), fun b hb => hb.elim (W.off b) fun q => ?_, fun b hb => ?_, W.tabs.of fun a o _ => k a o, fun b hb => .inl (W.tabO b hb), gs.1⟩, fun a o q => k _ _ q.1, fun a o q => q.2.2, gs, fun a q => .inl q, .inr rfl, fun o q => nO sL q.2.1, tn sL,
    Nat.le_trans (last _ W.keep) sL, ⟨m, ns, fun x v h1 h2 => ?_⟩, fun x v h1 h2 => ?_, rfl, fun i j a h => by simp at h, fun i fr l h => by simp at h⟩, ed⟩
  · rw [q]
    cases c : g.get? env.locals with
    | none => rfl
    | some o => exact absurd rfl (old (W.keep _ _ c))
  · rcases hb with hb | rfl
    · refine oE (W.alive b hb) ?_; intro o e; exact ⟨o, k _ _ e⟩
    · refine oEEEA ns ?_; clear ns; intro o _ _ e _; exact ⟨o, e⟩
  · refine oEEAA (hv x v h1 h2) ?_; rintro d u rfl e r
    exact ⟨u, e, R.mono ed d r⟩
  · obtain ⟨d, c, o, u, rfl, a1, a2, a3, a4, a5, a6⟩ := hc x v h1 h2
    exact ⟨c, o, u, a1, a2, ⟨a3, fun q => q.elim (nO (Nat.le_of_lt (Nat.lt_of_le_of_lt sL a4))) (Nat.ne_of_gt a4)⟩, a5, R.mono ed d a6⟩
theorem runG_ok {K : Params → Frag} (hK : ∀ P, KOk (K P)) {c : Ctr} {gam : List Ctr} (hg : ∀ c' ∈ gam, c'.Ok K) (h : ∀ P ds orc k, FaL ds → c.T ds orc k → ∃ run, runG run (K P) gam c.D c.U c.f ds orc k ∧ ∀ prog w p loose mg mb, SndS K prog w p loose mg mb ⟨fun _ _ _ _ => False, fun _ _ _ _ => False, run⟩) : c.Ok K := by
  intro prog w p loose mg mb g O s ds vs orc k Q E B last W rl ht P
  refine oEA (h w.params ds orc k (RL.fa ds rl) ht) ?_; intro run h hrun
  unfold runG at h
  refine oJ_k h ?_; clear h; rintro o hf h
  refine vFn_k h ?_; clear h; rintro fd hd h
  refine vSt_k h ?_; clear h; rintro body hbody h
  refine gd_k h ?_; clear h; rintro hb h
  refine oJ_k h ?_; clear h; rintro vars hz h
  simp only [Bool.and_eq_true] at hb
  refine oA hb ?_; clear hb; rintro ⟨⟨hfd, hcode⟩, hD⟩ hU
  have fo := fdOk_ok hfd
  have hD := Nat.le_of_ble_eq_true hD
  have hU := Nat.le_of_ble_eq_true hU
  have Bs' := B.X.keeps W.keep
  have hlen : (fd.params.args.map (·.arg)).length = vs.length := (List.length_map ..).trans ((zipA_len hz).trans rl.length.symm)
  refine noE (wpAny_call ?_)
  refine codeAny_call_function (fd := fd) (o := o) (Nat.lt_of_succ_lt hD) (Bs' _ _ hf) hd fo.co fo.ge hbody (codeRec_of Bs' hcode) ?_
  refine BindsTo.of_eq (bindArgs_plain fo.po fo.ko fo.va fo.kw fo.df hlen fo.nd) _ _ _ _ ?_
  rw [fo.cl]
  refine wpAny_newFunctionEnv_cells fo.kd (kindsX (List.all_eq_true.mpr fun y hy => ?_) _) fun env he s' x => ?_
  · refine oEA (List.mem_map.mp (mem_zip_fst hy)) ?_; intro a ha e
    rw [← e]
    rcases fo.lc a ha with q | q <;> rw [q] <;> rfl
  · have hkeep := x.toInCall.keep
    refine ⟨(B.T.nolimit.keeps W.keep).keeps hkeep, codeAny_func ?_⟩
    refine oEEA x.done ?_; rintro h₁ tk rfl _
    have hkind : ∀ y, env.kindOf y = look y fd.scope.names := fun y => by rw [he, look_eq]; rfl
    have hloc : env.locals = s.heap.objs.size := by rw [he]; rfl
    have hcel : env.cells = cellsFrom (s.heap.objs.size + 1) fd.scope.names [] := by rw [he]; rfl
    have hvb := vars_bind (ps := fd.params.args) env.kindOf (fun _ => none) (fun _ => none) hz rl fo.nd
    obtain ⟨I, ed⟩ := Inv.enter (g := g) (env := env) (s' := { s with heap := h₁, toks := tk }) (cx := ⟨fun x => look x fd.scope.names, gam, c.D + 1, c.U + 3⟩) (vars := vars) (orc := orc) W last hkeep ⟨W.bare, rfl, rfl, GK.refl _⟩ hloc (Nat.le_refl _) (hloc ▸ x.toInCall.ns)
      (fun y v h1 h2 => by
        obtain ⟨_, d, u, e1, e2, e3, _⟩ := hvb y v h1
        exact ⟨d, u, e1, e3 ((hkind y).trans h2), e2⟩)
      (fun y v h1 h2 => by
        obtain ⟨⟨a, ha, ea⟩, d, u, e1, e2, _, e4⟩ := hvb y v h1
        have hk : fd.scope.names.lookup y = some .cell := by
          rcases fo.lc a ha with q | q
          · rw [ea, ← look_eq] at q; exact absurd q h2
          · rw [ea] at q; exact q
        have hs := cellsFrom_some (x := y) fd.scope.names (s.heap.objs.size + 1) [] (.inl hk)
        refine oE (Option.isSome_iff_exists.mp hs) ?_; intro ca hca
        rw [← hcel] at hca
        refine oEA (x.cell y ca hca) ?_; intro o o1 o2
        refine ⟨d, ca, o, u, e1, .inl ((look_eq _ _).trans hk), hca, o1, ?_, o2.trans ?_, e2⟩
        · have := x.above y ca (look_memA hca); rw [hloc] at this; exact this
        · rw [e4 (fun q => h2 ((hkind y).symm.trans q))])
    have F : Fok K prog w p loose mg mb (eFc g env s O) ⟨fun x => look x fd.scope.names, gam, c.D + 1, c.U + 3⟩ :=
      ⟨B, last, hK w.params, hkind, by rw [he]; exact fo.kd, by rw [he]; exact fo.gl, by rw [he]; exact fo.bu, hg⟩
    have A' : AOk (Around.deeper (AA c.D c.U) env) ⟨fun x => look x fd.scope.names, gam, c.D + 1, c.U + 3⟩ := ⟨rfl, Nat.le_refl _, Nat.le_refl _, hD, hU⟩
    refine wpAny_mono (hrun prog w p loose mg mb _ _ _ F A' body _ _ _ _ _ (fun f s' => Q (match f with | .ret v => v | _ => .none) s') h I fun fl st' f s' O' as' q1 q2 q3 q4 => ?_) (fun fl s' hl => hl) fun _ _ y => y.elim
    have kt : Kt s.heap s'.heap := fun b o nt e => by
      by_cases q : O b
      · exact q2.ref b o ⟨e, q, nt⟩
      · exact (q3.dt b o (ed b o ⟨e, q⟩)).1
    have up : ∀ a o, Dt s'.heap O' a o → Dt s'.heap O a o := fun a o q => ⟨q.1, fun z => q.2 (q2.sub a z)⟩
    cases fl with
    | ret d =>
      refine oEA q4 ?_; clear q4; rintro v rfl r
      exact P d _ v s' q1 kt q2.gs q2.wd.tabs (R.mono up d r)
    | next => cases q4; exact P .none _ .none s' q1 kt q2.gs q2.wd.tabs rfl
    | _ => exact q1.elim
theorem runF_ok {K : Params → Frag} (hK : ∀ P, KOk (K P)) {c : Ctr} {gam : List Ctr} (hg : ∀ c' ∈ gam, c'.Ok K) (h : ∀ P ds orc k, FaL ds → c.T ds orc k → runF (K P) gam c.D c.U c.f ds orc k) : c.Ok K :=
  runG_ok hK hg fun P ds orc k fa t => ⟨(ev 60).s, by have q := h P ds orc k fa t; unfold runF at q; exact q, fun prog w p loose mg mb => (ev_snd 60).2.2⟩
end
section
open PyProof.Rows.LCg
structure Src (prog : Program) (w : World) (I T : Addr) (oT : Obj) (O : Nat → Obj) (vs : List Value) : Prop where
  item : ∀ (A : Around) (s : Shared) (Q : Option Value → Shared → Prop) (E : Value → Shared → Prop) (i : Nat) (v : Value), A.handled = none → vs[i]? = some v → s.heap.get? I = some (O i) → s.heap.get? T = some oT →
    (∀ h', h'.get? I = some (O (i + 1)) → Heap.SameBut I s.heap h' → Q (some v) { s with heap := h' }) → wpAny (model prog w) A (pyNext (.ref I)) Q E s
  done : ∀ (A : Around) (s : Shared) (Q : Option Value → Shared → Prop) (E : Value → Shared → Prop), A.handled = none → s.heap.get? I = some (O vs.length) → s.heap.get? T = some oT →
    (∀ h', Heap.ExtBut I s.heap h' → Q none { s with heap := h' }) → wpAny (model prog w) A (pyNext (.ref I)) Q E s
  self : ∀ (A : Around) (s' : Shared) (Q : Value → Shared → Prop) (E : Value → Shared → Prop), s'.heap.get? I = some (O 0) → Q (.ref I) s' → wpAny (model prog w) A (pyIter (.ref I)) Q E s'
theorem hv1 {h : Heap} {I : Addr} {o : Obj} (e : h.get? I = some o) : Hv [(I, o)] h := fun p hp => by
  rcases List.mem_cons.mp hp with rfl | hp
  · exact e
  · cases hp
theorem src_lst {prog : Program} {w : World} {I T : Addr} {vs : List Value} {n : Nat} : Src prog w I T (lstN vs n) (itL T) vs where
  item := fun A s Q E i v _ hv hI hT h => lst_item hI ⟨_, hT, rfl, n, rfl⟩ (by simpa using hv) fun h' a b => h h' a b
  done := fun A s Q E hh hI hT h => wpAny_pyNext_list_end (i := vs.length) (items := vs.toArray) hh ⟨_, hI, rfl, rfl⟩ ⟨_, hT, rfl, n, rfl⟩ (by simp) h
  self := fun A s' Q E e q => self_lst (i := 0) A s' Q E (hv1 e) q
theorem src_tup {prog : Program} {w : World} {I T : Addr} {vs : List Value} {n : Nat} : Src prog w I T (tupN vs n) (itT T) vs where
  item := fun A s Q E i v _ hv hI hT h => tup_item hI ⟨_, hT, rfl, n, rfl⟩ (by simpa using hv) fun h' a b => h h' a b
  done := fun A s Q E hh hI hT h => wpAny_pyNext_tuple_end (i := vs.length) (items := vs.toArray) hh ⟨_, hI, rfl, rfl⟩ ⟨_, hT, rfl, n, rfl⟩ (by simp) h
  self := fun A s' Q E e q => self_tup (i := 0) A s' Q E (hv1 e) q
noncomputable def Fh (href : Heap) (s₀ s : Heap) : Fm := fun a o => s.get? a = some o ∧ (href.get? a = some o ∨ s₀.get? a = none)
noncomputable def EltS (prog : Program) (w : World) (cenv : Env) (x : Str) (elt : Expr) (href : Heap) (dd : Nat → Dat) (vs : List Value) (D U : Nat) : Prop :=
  ∀ (A' : Around) (i : Nat) (v : Value) (s : Shared) (m₂ : Str → Option Value) (Q E : Value → Shared → Prop), A'.handled = none → A'.depth ≤ D → A'.units ≤ U → vs[i]? = some v → Kp href s.heap → AllBare s.gens → TabOk s.heap → s.heap.Ns cenv.locals m₂ → m₂ x = some v →
    (∀ y s', (∀ b o, b ≠ cenv.locals → ¬ isTb b → s.heap.get? b = some o → s'.heap.get? b = some o) → (∃ m', s'.heap.Ns cenv.locals m') → GS s s' → TabOk s'.heap → R (Fh href s.heap s'.heap) (dd i) y → Q y s') → wpAny (model prog w) A' (eval elt cenv) Q E s
noncomputable def Since (C I : Addr) (s₀ s : Shared) : Prop := (∀ b o, b ≠ C → b ≠ I → ¬ isTb b → s₀.heap.get? b = some o → s.heap.get? b = some o) ∧ GS s₀ s ∧ TabOk s.heap
theorem Since.step {C I : Addr} {s₀ s s' : Shared} (x : Since C I s₀ s) (h : ∀ b o, b ≠ C → b ≠ I → ¬ isTb b → s.heap.get? b = some o → s'.heap.get? b = some o) (g : GS s s') (t : TabOk s'.heap) : Since C I s₀ s' :=
  ⟨fun b o c i n e => h b o c i n (x.1 b o c i n e), ⟨g.1, x.2.1.2.trans g.2⟩, t⟩
noncomputable def Cont (C I : Addr) (href : Heap) (s s'' : Shared) : Prop := AllBare s''.gens ∧ TabOk s''.heap ∧ ∀ b o, (b = C ∨ b = I ∨ (href.get? b).isSome) → s.heap.get? b = some o → s''.heap.get? b = some o
noncomputable abbrev Rr (C I : Addr) : GenEnd := fun n s₀ r s₁ => r = .ok .next ∧ (n = 0 ∧ Since C I s₀ s₁)
noncomputable def Alv (C I : Addr) (s : Shared) : Prop := (∃ o, s.heap.get? C = some o) ∧ ∃ o, s.heap.get? I = some o
noncomputable def Yy (C I : Addr) (href : Heap) (dd : Nat → Dat) (N : Nat) : Protocol := fun m s₀ v s kap =>
  R (Fh href s₀.heap s.heap) (dd (N - 1 - m)) v ∧ Alv C I s ∧ Since C I s₀ s ∧ ∀ s'', Cont C I href s s'' → kap (.send .none) s''
section
variable {prog : Program} {w : World} {A : Around} {cenv : Env} {x : Str} {px pos : Pos} {elt iter : Expr} {scope : Scope} {href : Heap} {dd : Nat → Dat} {vs : List Value} {D U : Nat} {I T : Addr} {oT : Obj} {O : Nat → Obj}
theorem segLoop (hh : A.handled = none) (SR : Src prog w I T oT O vs) (EL : EltS prog w cenv x elt href dd vs D U)
    (hD : (A.over (.compLoop (.GeneratorExp elt [⟨.Name x px, iter, [], 0⟩] scope pos) 0 (.ref I) .none cenv) []).depth ≤ D) (hU : (A.over (.compLoop (.GeneratorExp elt [⟨.Name x px, iter, [], 0⟩] scope pos) 0 (.ref I) .none cenv) []).units ≤ U)
    (hx : cenv.kindOf x = some .local) (hp : (cenv.scope.kind == .class || (cenv.scope.kind == .module && cenv.locals != cenv.globals)) = false) (hco : cenv.scope.isCoroutine = false)
    (hCI : cenv.locals ≠ I) (hCt : ¬ isTb cenv.locals) (hIt : ¬ isTb I) (hrt : ∀ b, isTb b → href.get? b = none) (hC : href.get? cenv.locals = none) (hI : href.get? I = none) (hT : href.get? T = some oT) :
    ∀ (k i : Nat) (s₀ s : Shared) (m : Str → Option Value), vs.length - i = k → i ≤ vs.length → s.heap.get? I = some (O i) → s.heap.Ns cenv.locals m → Since cenv.locals I s₀ s → Kp href s.heap →
      Seg (model prog w) A (Rr cenv.locals I) (Yy cenv.locals I href dd vs.length) k s₀
        (.compLoop (.GeneratorExp elt [⟨.Name x px, iter, [], 0⟩] scope pos) 0 (.ref I) .none cenv)
        ((model prog w).den (.compLoop (.GeneratorExp elt [⟨.Name x px, iter, [], 0⟩] scope pos) 0 (.ref I) .none cenv)) [] s := by
  have hh' : (A.over (.compLoop (.GeneratorExp elt [⟨.Name x px, iter, [], 0⟩] scope pos) 0 (.ref I) .none cenv) []).handled = none := hh
  intro k
  induction k with
  | zero =>
    intro i s₀ s m hk hi hIO hn hs hkp
    have hin : i = vs.length := by omega
    subst hin
    show Seg _ A _ _ _ s₀ _ ((compTurn (.GeneratorExp elt [⟨.Name x px, iter, [], 0⟩] scope pos) 0 (.ref I) .none cenv).onRaise (leaving cenv)) [] s
    rw [compTurn_gen, Sem.onRaise_eq_wrap]
    refine seg_bind_wrap (wpAny_standAt ?_)
    refine seg_bind_wrap (SR.done _ s _ _ hh' hIO (hkp _ _ hT) fun h' hk' => ?_)
    exact seg_end (.ok .next) ⟨rfl, rfl, hs.step (fun b o _ hbI _ e => hk' b o hbI e) ⟨hs.2.1.1, rfl, rfl, GK.refl _⟩ (hs.2.2.of fun b o ht e => hk' b o (fun q => hIt (q ▸ ht)) e)⟩
  | succ k ih =>
    intro i s₀ s m hk hi hIO hn hs hkp
    have hlt : i < vs.length := by omega
    obtain ⟨v, hv⟩ : ∃ v, vs[i]? = some v := ⟨vs[i], List.getElem?_eq_getElem hlt⟩
    show Seg _ A _ _ _ s₀ _ ((compTurn (.GeneratorExp elt [⟨.Name x px, iter, [], 0⟩] scope pos) 0 (.ref I) .none cenv).onRaise (leaving cenv)) [] s
    rw [compTurn_gen, Sem.onRaise_eq_wrap]
    refine seg_bind_wrap (wpAny_standAt ?_)
    refine seg_bind_wrap (SR.item _ s _ _ i v hh' hv hIO (hkp _ _ hT) fun h₁ hI₁ hs₁ => ?_)
    refine seg_bind_wrap (wpAny_of_eq (rfl : letOwnedTupleGo (.Name x px) (.ref I) v = pure ()) ?_)
    refine seg_bind_wrap (wpAny_assign_Name (wpAny_storeName_local hx (hn.sameBut hs₁ hCI) (fun h₂ hn₂ hs₂ => ?_) hp))
    have up₂ : ∀ b o, b ≠ cenv.locals → b ≠ I → s.heap.get? b = some o → h₂.get? b = some o := fun b o hbC hbI e => hs₂.extBut b o hbC (hs₁.extBut b o hbI e)
    have hkp₂ : Kp href h₂ := fun b o e => up₂ b o (fun q => by rw [q, hC] at e; cases e) (fun q => by rw [q, hI] at e; cases e) (hkp b o e)
    have hI₂ : h₂.get? I = some (O (i + 1)) := hs₂.extBut _ _ (Ne.symm hCI) hI₁
    refine seg_bind_wrap (wpAny_tests_nil ?_)
    simp only [if_true]
    have hy : ∀ v, yieldOut cenv v = yieldValue v := fun v => by simp only [yieldOut, hco, Bool.false_eq_true, if_false]
    simp only [hy]
    rw [Sem.bind_eq_wrap', Sem.bind_eq_wrap', Sem.wrap_wrap, Sem.wrap_wrap]
    have ht₂ : TabOk h₂ := hs.2.2.of fun b o ht e => up₂ b o (fun q => hCt (q ▸ ht)) (fun q => hIt (q ▸ ht)) e
    refine seg_wrap (EL _ i v _ _ _ _ hh' hD hU hv hkp₂ hs.2.1.1 ht₂ hn₂ (by simp) fun y s₄ hk₄ hn₄ hg₄ ht₄ hr₄ => ?_)
    have hs₄ : Since cenv.locals I s₀ s₄ := hs.step (fun b o hbC hbI hbt e => hk₄ b o hbC hbt (up₂ b o hbC hbI e)) ⟨hg₄.1, hg₄.2⟩ ht₄
    have ei : vs.length - 1 - k = i := by omega
    have hR : Mine.R (Fh href s₀.heap s₄.heap) (dd (vs.length - 1 - k)) y := by
      rw [ei]
      refine R.mono (fun a o q => ⟨q.1, q.2.imp id fun q2 => ?_⟩) _ hr₄
      cases c : s₀.heap.get? a with
      | none => rfl
      | some o =>
        by_cases qC : a = cenv.locals
        · refine oEEEA hn₂ ?_; clear hn₂; intro oL _ _ hL _; rw [qC] at q2; rw [show _ = some oL from hL] at q2; cases q2
        · by_cases qI : a = I
          · rw [qI] at q2; rw [show _ = some (O (i + 1)) from hI₂] at q2; cases q2
          · by_cases qt : isTb a
            · refine oEA (ht₂ a qt) ?_; intro ps e _; rw [show _ = some _ from e] at q2; cases q2
            · have := up₂ _ _ qC qI (hs.1 _ _ qC qI qt c); rw [show _ = some o from this] at q2; cases q2
    refine seg_at (seg_yield rfl rfl rfl ⟨hR, ⟨let ⟨_, oL, _, _, hL, _⟩ := hn₄; ⟨oL, hL⟩, ⟨_, hk₄ _ _ (Ne.symm hCI) hIt hI₂⟩⟩, hs₄, fun s'' hal => ?_⟩)
    · refine oE hn₄ ?_; clear hn₄; intro m' hn4
      refine seg_again rfl (ih (i + 1) s'' s'' m' (by omega) hlt (hal.2.2 _ _ (.inr (.inl rfl)) (hk₄ _ _ (Ne.symm hCI) hIt hI₂)) (hn4.at' fun o e => hal.2.2 _ _ (.inl rfl) e) ⟨fun _ _ _ _ _ e => e, ⟨hal.1, Same.refl _⟩, hal.2.1⟩ fun b o e => hal.2.2 b o (.inr (.inr (by rw [e]; rfl))) (hk₄ b o (fun q => by rw [q, hC] at e; cases e) (fun q => nomatch (hrt b q).symm.trans e) (hkp₂ b o e)))
theorem segStart (hh : A.handled = none) (SR : Src prog w I T oT O vs) (EL : EltS prog w cenv x elt href dd vs D U)
    (hD : (A.over (.compLoop (.GeneratorExp elt [⟨.Name x px, iter, [], 0⟩] scope pos) 0 (.ref I) .none cenv) []).depth ≤ D) (hU : (A.over (.compLoop (.GeneratorExp elt [⟨.Name x px, iter, [], 0⟩] scope pos) 0 (.ref I) .none cenv) []).units ≤ U)
    (hx : cenv.kindOf x = some .local) (hp : (cenv.scope.kind == .class || (cenv.scope.kind == .module && cenv.locals != cenv.globals)) = false) (hco : cenv.scope.isCoroutine = false)
    (hCI : cenv.locals ≠ I) (hCt : ¬ isTb cenv.locals) (hIt : ¬ isTb I) (hrt : ∀ b, isTb b → href.get? b = none) (hC : href.get? cenv.locals = none) (hI : href.get? I = none) (hT : href.get? T = some oT) (s₀ s : Shared) (m : Str → Option Value) (hIO : s.heap.get? I = some (O 0)) (hn : s.heap.Ns cenv.locals m) (hs : Since cenv.locals I s₀ s) (hkp : Kp href s.heap) :
      Seg (model prog w) A (Rr cenv.locals I) (Yy cenv.locals I href dd vs.length) vs.length s₀
        (.compStart (.GeneratorExp elt [⟨.Name x px, iter, [], 0⟩] scope pos) 0 (.ref I) .none cenv)
        ((model prog w).den (.compStart (.GeneratorExp elt [⟨.Name x px, iter, [], 0⟩] scope pos) 0 (.ref I) .none cenv)) [] s := by
  have loop := segLoop hh SR EL hD hU hx hp hco hCI hCt hIt hrt hC hI hT vs.length 0 s₀ s m (Nat.sub_zero _) (Nat.zero_le _) hIO hn hs hkp
  show Seg _ A _ _ _ s₀ _ ((compStart (.GeneratorExp elt [⟨.Name x px, iter, [], 0⟩] scope pos) 0 (.ref I) .none cenv).onRaise (leaving cenv)) [] s
  unfold compStart
  rw [Sem.onRaise_eq_wrap]
  show Seg _ A _ _ _ s₀ _ ((ask >>= _).wrap _ _ _ _) [] s
  refine seg_bind_wrap (wpAny_askSetting ?_)
  split
  · exact seg_again rfl loop
  · first
      | exact seg_bind_wrap (wpAny_rule (seg_bind_wrap (wpAny_standAt (seg_bind_wrap (SR.self _ _ _ _ hIO (seg_again rfl loop))))))
      | (refine seg_bind_wrap (wpAny_rule ?_); show Seg _ A _ _ _ s₀ _ ((standAt iter.pos >>= _).wrap _ _ _ _) [] s; exact seg_bind_wrap (wpAny_standAt (seg_bind_wrap (SR.self _ _ _ _ hIO (seg_again rfl loop)))))
end
noncomputable def GA (prog : Program) (w : World) (A : Around) (a : Addr) (g : Nat) (C I : Addr) (href : Heap) (dd : Nat → Dat) (N j : Nat) (s : Shared) : Prop :=
  s.heap.IsGen a g ∧ Kp href s.heap ∧ Alv C I s ∧ ∃ gs, s.gens[g]? = some gs ∧ ∀ s'', Cont C I href s s'' → gs.Goes (model prog w) A.in1 (Rr C I) (Yy C I href dd N) (N - j) (.send .none) s''
structure Mv (wr : List Addr) (g : Nat) (s s' : Shared) : Prop where
  heap : ∀ b o, b ∉ wr → ¬ isTb b → s.heap.get? b = some o → s'.heap.get? b = some o
  tab : TabOk s'.heap
  bare : AllBare s'.gens
  drawn : s'.drawn = s.drawn
  os : s'.os = s.os
  size : s.gens.size ≤ s'.gens.size
  gens : ∀ i, i < s.gens.size → i ≠ g → s'.gens[i]? = s.gens[i]?
theorem bare_set {s : Shared} {g : Nat} {x : GenState} (h : AllBare s.gens) (hx : x.bare = true) : AllBare (s.setGen g x).gens := by
  intro y hy
  obtain ⟨i, hi, rfl⟩ := Array.mem_iff_getElem.mp hy
  by_cases e : i = g
  · subst e
    have hi' : i < s.gens.size := by simpa [Shared.setGen] using hi
    have : (s.setGen i x).gens[i]? = some x := by simp [Shared.setGen, hi']
    rw [Array.getElem?_eq_getElem hi] at this; rw [Option.some.inj this]; exact hx
  · have hi' : i < s.gens.size := by simpa [Shared.setGen] using hi
    have := (GenOnly.setGen s g x).2 i e
    rw [Array.getElem?_eq_getElem hi, Array.getElem?_eq_getElem hi'] at this
    rw [Option.some.inj this]; exact h _ (Array.getElem_mem hi')
theorem Mv.of {C I : Addr} {g : Nat} {s s₁ : Shared} {x : GenState} {h' : Heap} (hs : Since C I (s.setGen g .running) s₁) (hx : x.bare = true) (hk : ∀ b o, s₁.heap.get? b = some o → h'.get? b = some o) : Mv [C, I] g s { s₁.setGen g x with heap := h' } where
  heap := fun b o c n e => hk b o (hs.1 b o (fun q => c (q ▸ .head _)) (fun q => c (q ▸ .tail _ (.head _))) n e)
  tab := hs.2.2.of fun b o _ e => hk b o e
  bare := bare_set hs.2.1.1 hx
  drawn := hs.2.1.2.1
  os := hs.2.1.2.2.1
  size := by have := hs.2.1.2.2.2.1; simpa [Shared.setGen] using this
  gens := fun i hi hg => by
    have h1 := (GenOnly.setGen s₁ g x).2 i hg
    have h2 := hs.2.1.2.2.2.2 i (by simpa [Shared.setGen] using hi)
    have h3 := (GenOnly.setGen s g .running).2 i hg
    exact h1.trans (h2.trans h3)
theorem Mv.trans {wr : List Addr} {g : Nat} {a b c : Shared} (x : Mv wr g a b) (y : Mv wr g b c) : Mv wr g a c where
  heap := fun p o u n e => y.heap p o u n (x.heap p o u n e)
  tab := y.tab
  bare := y.bare
  drawn := y.drawn.trans x.drawn
  os := y.os.trans x.os
  size := Nat.le_trans x.size y.size
  gens := fun i hi hg => (y.gens i (Nat.lt_of_lt_of_le hi x.size) hg).trans (x.gens i hi hg)
section
variable {prog : Program} {w : World} {A : Around} {a : Addr} {g : Nat} {C I : Addr} {href : Heap} {dd : Nat → Dat} {N j : Nat} {s : Shared}
theorem GA.moved (x : GA prog w A a g C I href dd N j s) {h' : Heap} (hk : ∀ b o, (b = a ∨ b = C ∨ b = I ∨ (href.get? b).isSome) → s.heap.get? b = some o → h'.get? b = some o) : GA prog w A a g C I href dd N j { s with heap := h' } := by
  obtain ⟨⟨o, nm, qn, ho, r⟩, h2, ⟨⟨oc, hc⟩, oi, hi⟩, gs, h3, h4⟩ := x
  refine ⟨⟨o, nm, qn, hk _ _ (.inl rfl) ho, r⟩, fun b o e => hk b o (.inr (.inr (.inr (by rw [e]; rfl)))) (h2 b o e), ⟨⟨oc, hk _ _ (.inr (.inl rfl)) hc⟩, oi, hk _ _ (.inr (.inr (.inl rfl))) hi⟩, gs, h3, fun s'' hc => h4 s'' ⟨hc.1, hc.2.1, fun b o hb e => hc.2.2 b o hb (hk b o (.inr hb) e)⟩⟩
theorem GA.item {Q : Option Value → Shared → Prop} {E : Value → Shared → Prop} (x : GA prog w A a g C I href dd N j s) (hh : A.handled = none) (hroom : A.depth < recursionLimit) (hl : s.heap.NoLimit) (haC : a ≠ C) (haI : a ≠ I) (hat : ¬ isTb a) (hrt : ∀ b, isTb b → href.get? b = none) (hC : href.get? C = none) (hI : href.get? I = none) (hb : AllBare s.gens) (ht : TabOk s.heap) (hj : j < N)
    (hQ : ∀ v s', GA prog w A a g C I href dd N (j + 1) s' → Mv [C, I] g s s' → R (Fh href s.heap s'.heap) (dd j) v → Q (some v) s') : wpAny (model prog w) A (pyNext (.ref a)) Q E s := by
  obtain ⟨hg, hkp, hex, gs, hgs, hgo⟩ := x
  obtain ⟨m, hm⟩ : ∃ m, N - j = m + 1 := ⟨N - j - 1, by omega⟩
  rw [hm] at hgo
  refine wpAny_pyNext_genexpQ (P := fun n s₀ s₁ => n = 0 ∧ Since C I s₀ s₁) hh hl hroom hg hgs (hgo _ ⟨bare_set hb rfl, ht, fun _ _ _ e => e⟩) (fun v s₁ gs' hb' hv => ?_) (fun s₁ hp h' hk => ?_)
  · refine oAAA hv ?_; clear hv; intro hr hex' hs hkap
    have ej : N - 1 - (m + 1 - 1) = j := by omega
    rw [ej] at hr
    refine hQ v _ ⟨let ⟨o, nm, qn, ho, r⟩ := hg; ⟨o, nm, qn, hs.1 a o haC haI hat ho, r⟩, fun b o e => hs.1 b o (fun q => by rw [q, hC] at e; cases e) (fun q => by rw [q, hI] at e; cases e) (fun q => nomatch (hrt b q).symm.trans e) (hkp b o e), hex', gs', ?_, fun s'' hc => ?_⟩ (Mv.of hs hb' fun _ _ e => e) hr
    · have h1 : (s.setGen g .running).gens[g]? = some .running := setGen_self hgs
      have hlt : g < (s.setGen g .running).gens.size := by
        rcases Nat.lt_or_ge g (s.setGen g .running).gens.size with h' | h'
        · exact h'
        · rw [Array.getElem?_eq_none h'] at h1; cases h1
      have h2 := hs.2.1.2.2.2.2 g hlt
      exact setGen_self (gs := .running) (h2.trans h1)
    · have e : N - (j + 1) = m := by omega
      rw [e]
      exact hkap s'' hc
  · exact absurd hp.1 (Nat.succ_ne_zero m)
theorem GA.done {Q : Option Value → Shared → Prop} {E : Value → Shared → Prop} (x : GA prog w A a g C I href dd N N s) (hh : A.handled = none) (hroom : A.depth < recursionLimit) (hl : s.heap.NoLimit) (hb : AllBare s.gens) (ht : TabOk s.heap)
    (hQ : ∀ s', Mv [C, I] g s s' → Q none s') : wpAny (model prog w) A (pyNext (.ref a)) Q E s := by
  obtain ⟨hg, hkp, hex, gs, hgs, hgo⟩ := x
  rw [Nat.sub_self] at hgo
  refine wpAny_pyNext_genexpQ (P := fun n s₀ s₁ => n = 0 ∧ Since C I s₀ s₁) hh hl hroom hg hgs (hgo _ ⟨bare_set hb rfl, ht, fun _ _ _ e => e⟩) (fun v s₁ gs' hb' hv => ?_) (fun s₁ hp h' hk => ?_)
  · refine oAAA hv ?_; clear hv; intro _ _ hs hkap
    exact False.elim (hkap s₁ ⟨hs.2.1.1, hs.2.2, fun _ _ _ e => e⟩)
  · exact hQ _ (Mv.of hp.2 rfl hk)
end

section
variable {prog : Program} {w : World} {D U : Nat} {a : Addr} {g : Nat} {C I : Addr} {href : Heap} {dd : Nat → Dat} {R : Result → Shared → Prop}
structure GC (a : Addr) (C I : Addr) (href : Heap) : Prop where
  aC : a ≠ C
  aI : a ≠ I
  hC : href.get? C = none
  hI : href.get? I = none
  ha : href.get? a = none
  hat : ¬ isTb a
  hrt : ∀ b, isTb b → href.get? b = none
  lim : href.NoLimit
theorem get_upd {h : Heap} {S b : Addr} {f : Obj → Obj} {o : Obj} (hb : b ≠ S) (e : h.get? b = some o) : (h.update S f).get? b = some o := (Heap.get?_update_other _ _ (Ne.symm hb)).trans e
theorem Mv.mono {wr wr' : List Addr} {g : Nat} {s s' : Shared} (x : Mv wr g s s') (h : ∀ b ∈ wr, b ∈ wr') : Mv wr' g s s' := ⟨fun b o hb n e => x.heap b o (fun q => hb (h b q)) n e, x.tab, x.bare, x.drawn, x.os, x.size, x.gens⟩
theorem Mv.to {wr : List Addr} {g : Nat} {s s' : Shared} (x : Mv wr g s s') {h' : Heap} (hk : ∀ b o, b ∉ wr → s'.heap.get? b = some o → h'.get? b = some o) (ht : TabOk h') : Mv wr g s { s' with heap := h' } := ⟨fun b o hb n e => hk b o hb (x.heap b o hb n e), ht, x.bare, x.drawn, x.os, x.size, x.gens⟩
theorem not3 {b C I S : Addr} (h1 : b ≠ C) (h2 : b ≠ I) (h3 : b ≠ S) : b ∉ [C, I, S] := by simp [h1, h2, h3]
theorem extend2 {A : Around} {s : Shared} (hA : A.in1.handled = none) (hAd : A.in1.depth ≤ D) (hAu : A.in1.units ≤ U) (hroom : D < recursionLimit) (Z : GC a C I href) (x : GA prog w (AA D U) a g C I href dd 2 0 s) (hb : AllBare s.gens) (ht : TabOk s.heap)
    {S : Addr} {c : Nat} {res : Value} (hS : s.heap.get? S = some { cls := .type "list", dict := none, data := .seq #[] c, slots := #[] }) (hSC : S ≠ C) (hSI : S ≠ I) (hSa : S ≠ a) (hSt : ¬ isTb S) (hSh : href.get? S = none)
    (hR : ∀ s' v0 v1 c', Mv [C, I, S] g s s' → s'.heap.get? S = some { cls := .type "list", dict := none, data := .seq #[v0, v1] c', slots := #[] } →
      Mine.R (Fh href s.heap s'.heap) (dd 0) v0 → Mine.R (Fh href s.heap s'.heap) (dd 1) v1 → R (.ok (.ret res)) s') :
    codeAny (model prog w) A (.builtin "list.extend.loop" ⟨[.ref S, .ref a, res], []⟩) R s := by
  have sub : ∀ b ∈ [C, I], b ∈ [C, I, S] := fun b hb => by rcases List.mem_cons.mp hb with rfl | hb; exact .head _; rcases List.mem_cons.mp hb with rfl | hb; exact .tail _ (.head _); cases hb
  have nS : S ∉ [C, I] := by simp [hSC, hSI]
  have mvd : ∀ {s₁ : Shared} {f : Obj → Obj} {j : Nat}, GA prog w (AA D U) a g C I href dd 2 j s₁ → GA prog w (AA D U) a g C I href dd 2 j { s₁ with heap := s₁.heap.update S f } := fun x => x.moved fun b o hb e => get_upd (fun q => by
    subst q
    rcases hb with hb | hb | hb | hb
    · exact hSa hb
    · exact hSC hb
    · exact hSI hb
    · rw [hSh] at hb; cases hb) e
  refine codeAny_builtin F.entry_extend_loop ?_
  rw [Around.under_plainId F.plain_extend_loop _]
  show wpAny _ A.in1 (pyNext (.ref a) >>= _) _ _ s
  refine wpAny_bind (weaken hA hAd hAu (x.item rfl hroom (Z.lim.keeps x.2.1) Z.aC Z.aI Z.hat Z.hrt Z.hC Z.hI hb ht (by decide) fun v0 s₁ x₁ m₁ f₁ => ?_))
  have hS₁ := m₁.heap S _ nS hSt hS
  have tu : ∀ {h : Heap} {f : Obj → Obj}, TabOk h → TabOk (h.update S f) := fun t => t.of fun b o hb e => get_upd (fun q => hSt (q ▸ hb)) e
  show wpAny _ A.in1 (updateSeq S (·.push v0) >>= _) _ _ _
  refine wpAny_bind (wpAny_updateSeq hS₁ rfl (wpAny_pure ⟨plainId_quiet F.plain_extend_loop _, ?_⟩))
  have hS₁' := Heap.get?_update_self (Obj.mapSeq (·.push v0)) hS₁ rfl
  have x₁' := mvd (f := Obj.mapSeq (·.push v0)) x₁
  refine codeAny_builtin F.entry_extend_loop ?_
  rw [Around.under_plainId F.plain_extend_loop _]
  show wpAny _ A.in1 (pyNext (.ref a) >>= _) _ _ _
  refine wpAny_bind (weaken hA hAd hAu (x₁'.item rfl hroom (Z.lim.keeps x₁'.2.1) Z.aC Z.aI Z.hat Z.hrt Z.hC Z.hI m₁.bare (tu m₁.tab) (by decide) fun v1 s₂ x₂ m₂ f₂ => ?_))
  have hS₂ := m₂.heap S _ nS hSt hS₁'
  show wpAny _ A.in1 (updateSeq S (·.push v1) >>= _) _ _ _
  refine wpAny_bind (wpAny_updateSeq hS₂ rfl (wpAny_pure ⟨plainId_quiet F.plain_extend_loop _, ?_⟩))
  have hS₂' := Heap.get?_update_self (Obj.mapSeq (·.push v1)) hS₂ rfl
  have x₂' := mvd (f := Obj.mapSeq (·.push v1)) x₂
  refine codeAny_builtin F.entry_extend_loop ?_
  rw [Around.under_plainId F.plain_extend_loop _]
  show wpAny _ A.in1 (pyNext (.ref a) >>= _) _ _ _
  refine wpAny_bind (weaken hA hAd hAu (x₂'.done rfl hroom (Z.lim.keeps x₂'.2.1) m₂.bare (tu m₂.tab) fun s₃ m₃ => ?_))
  have hS₃ := m₃.heap S _ nS hSt hS₂'
  have M₁ : Mv [C, I, S] g s { s₁ with heap := s₁.heap.update S (Obj.mapSeq (·.push v0)) } := (m₁.mono sub).to (fun b o hb e => get_upd (fun q => hb (by rw [q]; simp)) e) (tu m₁.tab)
  have M₂ : Mv [C, I, S] g { s₁ with heap := s₁.heap.update S (Obj.mapSeq (·.push v0)) } { s₂ with heap := s₂.heap.update S (Obj.mapSeq (·.push v1)) } := (m₂.mono sub).to (fun b o hb e => get_upd (fun q => hb (by rw [q]; simp)) e) (tu m₂.tab)
  refine oAE x.2.2.1 ?_; rintro ⟨oc0, hc0⟩ oi0 hi0
  refine oAE x₁'.2.2.1 ?_; rintro ⟨oc1, hc1⟩ oi1 hi1
  have out : ∀ {s₀ : Shared} {q : Addr}, (∃ o, s₀.heap.get? C = some o) → (∃ o, s₀.heap.get? I = some o) → (∃ o, s₀.heap.get? S = some o) → TabOk s₀.heap → ((∃ o, href.get? q = some o) ∨ s₀.heap.get? q = none) → q ∉ [C, I, S] ∧ ¬ isTb q := fun {s₀ q} ⟨_, a1⟩ ⟨_, a2⟩ ⟨_, a3⟩ t hq => by
    rcases hq with ⟨o, hq⟩ | hn
    · exact ⟨not3 (fun e => by rw [e, Z.hC] at hq; cases hq) (fun e => by rw [e, Z.hI] at hq; cases hq) (fun e => by rw [e, hSh] at hq; cases hq), fun e => nomatch (Z.hrt q e).symm.trans hq⟩
    · exact ⟨not3 (fun e => by subst e; rw [a1] at hn; cases hn) (fun e => by subst e; rw [a2] at hn; cases hn) (fun e => by subst e; rw [a3] at hn; cases hn), fun e => by refine oEA (t q e) ?_; intro ps e' _; rw [e'] at hn; cases hn⟩
  refine wpAny_pure (hR s₃ v0 v1 _ ((M₁.trans M₂).trans (m₃.mono sub)) hS₃ (Mine.R.mono (fun b o q => ?_) _ f₁) (Mine.R.mono (fun b o q => ?_) _ f₂))
  · refine oA (out (q := b) ⟨_, hc0⟩ ⟨_, hi0⟩ ⟨_, hS⟩ ht (q.2.imp (fun z => ⟨_, z⟩) id)) ?_; intro n1 n2
    have n3 : b ∉ [C, I] := fun z => n1 (sub _ z)
    have nS' : b ≠ S := fun z => n1 (by rw [z]; simp)
    exact ⟨m₃.heap _ _ n3 n2 (get_upd nS' (m₂.heap _ _ n3 n2 (get_upd nS' q.1))), q.2⟩
  · refine oA (out (q := b) ⟨_, hc1⟩ ⟨_, hi1⟩ ⟨_, hS₁'⟩ (tu m₁.tab) (q.2.imp (fun z => ⟨_, z⟩) id)) ?_; intro n1 n2
    have n3 : b ∉ [C, I] := fun z => n1 (sub _ z)
    have nS' : b ≠ S := fun z => n1 (by rw [z]; simp)
    refine ⟨m₃.heap _ _ n3 n2 (get_upd nS' q.1), q.2.imp id fun z => ?_⟩
    cases c : s.heap.get? b with
    | none => rfl
    | some o => rw [M₁.heap _ _ n1 n2 c] at z; cases z
theorem collect2 {A : Around} {s : Shared} {Q : List Value → Shared → Prop} {E : Value → Shared → Prop} (hA : A.handled = none) (hAd : A.depth ≤ D) (hAu : A.units + 5 ≤ U) (hroom : D < recursionLimit) (Z : GC a C I href) (x : GA prog w (AA D U) a g C I href dd 2 0 s) (hb : AllBare s.gens) (ht : TabOk s.heap)
    (hQ : ∀ s' v0 v1, Mv [C, I] g s s' → Mine.R (Fh href s.heap s'.heap) (dd 0) v0 → Mine.R (Fh href s.heap s'.heap) (dd 1) v1 → Q [v0, v1] s') : wpAny (model prog w) A (collect (.ref a)) Q E s := by
  refine oEEEA x.1 ?_; intro oa nma qna ha ra
  refine oAE x.2.2.1 ?_; rintro ⟨oc, hc⟩ oi hi
  have hSa : s.heap.objs.size ≠ a := Ne.symm (Nat.ne_of_lt (Heap.lt_size ha))
  have hSC : s.heap.objs.size ≠ C := Ne.symm (Nat.ne_of_lt (Heap.lt_size hc))
  have hSI : s.heap.objs.size ≠ I := Ne.symm (Nat.ne_of_lt (Heap.lt_size hi))
  have hSt : ¬ isTb s.heap.objs.size := fun q => by refine oEA (ht _ q) ?_; intro ps e _; exact absurd (Heap.lt_size e) (Nat.lt_irrefl _)
  have hSh : href.get? s.heap.objs.size = none := by
    cases q : href.get? s.heap.objs.size with
    | none => rfl
    | some o => exact absurd (Heap.lt_size (x.2.1 _ _ q)) (Nat.lt_irrefl _)
  unfold collect
  refine wpAny_bind (wpAny_runValue (codeAny_builtin F.entry_proto_collect ?_))
  rw [Around.under_plainId F.plain_proto_collect _]
  show wpAny _ A.in1 (newList [] >>= fun l => again (.builtin "list.__iadd__" ⟨[l, .ref a], []⟩)) _ _ s
  refine wpAny_bind (wpAny_newObj_type ?_)
  refine wpAny_pure ⟨plainId_quiet F.plain_list_iadd _, codeAny_builtin F.entry_list_iadd ?_⟩
  rw [Around.under_plainId F.plain_list_iadd _]
  have x₁ := x.moved (h' := s.heap.push { cls := .type "list", data := .seq ([] : List Value).toArray }) fun b o _ e => Heap.get?_push_of_some _ e
  have hT : ({ s with heap := s.heap.push { cls := .type "list", data := .seq ([] : List Value).toArray } } : Shared).TypeIs (.ref a) "generator" := x₁.1.typeIs
  show wpAny _ A.in1 (Builtin.List.listExtendWith (.ref s.heap.objs.size) (.ref a) (.ref s.heap.objs.size)) _ _ _
  unfold Builtin.List.listExtendWith
  refine wpAny_bind (wpAny_typeOf hT ?_)
  have h1 : Builtin.List.listSameRef (.ref s.heap.objs.size) (.ref a) = false := by simp [Builtin.List.listSameRef, hSa]
  have h2 : (Value.type "generator" == Value.type "list") = false := by decide
  have h3 : (Value.type "generator" == Value.type "tuple") = false := by decide
  simp only [h1, h2, h3, Bool.or_false, Bool.false_eq_true, if_false]
  refine wpAny_bind (wpAny_pyIter_gen x₁.1 ?_)
  refine wpAny_bind (wpAny_holding ?_)
  unfold Builtin.List.listLengthHint
  refine wpAny_bind (wpAny_specialOf hT F.gen_no_len ?_)
  show wpAny _ A.in1 (specialOf (Value.ref a) (Str.ofString "__length_hint__") >>= _) _ _ _
  refine wpAny_bind (wpAny_specialOf hT F.gen_no_hint ?_)
  refine wpAny_pure ?_
  show wpAny _ A.in1 (rule "list.extend.makes-room" >>= fun _ => Builtin.List.listTouch (.ref s.heap.objs.size) >>= fun _ =>
    again (.builtin "list.extend.loop" ⟨[.ref s.heap.objs.size, .ref a, .ref s.heap.objs.size], []⟩)) _ _ _
  refine wpAny_bind (wpAny_rule ?_)
  have hS₁ : (s.heap.push { cls := .type "list", data := .seq ([] : List Value).toArray }).get? s.heap.objs.size = some { cls := .type "list", data := .seq ([] : List Value).toArray } := Heap.get?_push_size _ rfl
  refine wpAny_bind ?_
  show wpAny _ A.in1 (updateSeq s.heap.objs.size (·.push .none) >>= fun _ => updateSeq s.heap.objs.size (·.pop)) _ _ _
  refine wpAny_bind (wpAny_updateSeq hS₁ rfl ?_)
  have hS₂ := Heap.get?_update_self (Obj.mapSeq (·.push Value.none)) hS₁ rfl
  refine wpAny_updateSeq hS₂ rfl ?_
  have hS₃ := Heap.get?_update_self (Obj.mapSeq (·.pop)) hS₂ rfl
  have oth : ∀ b o, b ≠ s.heap.objs.size → (s.heap.push { cls := .type "list", data := .seq ([] : List Value).toArray }).get? b = some o →
      (((s.heap.push { cls := .type "list", data := .seq ([] : List Value).toArray }).update s.heap.objs.size (Obj.mapSeq (·.push Value.none))).update s.heap.objs.size (Obj.mapSeq (·.pop))).get? b = some o :=
    fun b o hb e => get_upd hb (get_upd hb e)
  have lt : ∀ b o, s.heap.get? b = some o → b ≠ s.heap.objs.size := fun b o e => Nat.ne_of_lt (Heap.lt_size e)
  have x₂ := x.moved (h' := ((s.heap.push { cls := .type "list", data := .seq ([] : List Value).toArray }).update s.heap.objs.size (Obj.mapSeq (·.push Value.none))).update s.heap.objs.size (Obj.mapSeq (·.pop))) fun b o _ e => oth b o (lt b o e) (Heap.get?_push_of_some _ e)
  refine wpAny_pure ⟨plainId_quiet F.plain_extend_loop _, extend2 (s := { s with heap := _ }) hA hAd (by show A.units + 1 ≤ U; omega) hroom Z x₂ hb (ht.of fun b o _ e => oth b o (lt b o e) (Heap.get?_push_of_some _ e)) hS₃ hSC hSI hSa hSt hSh fun s' v0 v1 c' hm hS' h0 h1 => ?_⟩
  show wpAny _ A (load s.heap.objs.size >>= _) _ _ s'
  refine wpAny_bind (wpAny_load hS' ?_)
  have fh : ∀ b o, Fh href _ s'.heap b o → Fh href s.heap s'.heap b o := fun b o q => ⟨q.1, q.2.imp id fun n => by
    cases c : s.heap.get? b with
    | none => rfl
    | some o => rw [show _ = some o from oth _ _ (lt _ _ c) (Heap.get?_push_of_some _ c)] at n; cases n⟩
  refine wpAny_pure (hQ s' v0 v1 ⟨fun b o hb n e => hm.heap b o (fun q => ?_) n (oth b o (lt b o e) (Heap.get?_push_of_some _ e)), hm.tab, hm.bare, hm.drawn, hm.os, hm.size, hm.gens⟩ (Mine.R.mono fh _ h0) (Mine.R.mono fh _ h1))
  rcases List.mem_cons.mp q with rfl | q
  · exact hb (.head _)
  rcases List.mem_cons.mp q with rfl | q
  · exact hb (.tail _ (.head _))
  rcases List.mem_cons.mp q with rfl | q
  · exact lt _ _ e rfl
  · cases q
theorem tupleNew2 {A : Around} {s : Shared} {Q₁ : Value → Shared → Prop} {E : Value → Shared → Prop} (hA : A.handled = none) (hAd : A.depth ≤ D) (hAu : A.units + 8 ≤ U) (hroom : D < recursionLimit) (Z : GC a C I href) (x : GA prog w (AA D U) a g C I href dd 2 0 s) (hb : AllBare s.gens) (ht : TabOk s.heap)
    (h : ∀ s' v0 v1, Mv [C, I] g s s' → Mine.R (Fh href s.heap s'.heap) (dd 0) v0 → Mine.R (Fh href s.heap s'.heap) (dd 1) v1 → Q₁ (.ref s'.heap.objs.size) { s' with heap := s'.heap.push (tupN [v0, v1] 0) }) :
    codeAny (model prog w) A (.call (.builtin "tuple.__new__") ⟨[.type "tuple", .ref a], []⟩) (wants Q₁ E) s := by
  refine codeAny_of_tree ?_
  show wpAny _ A.in1 (do checkBuiltinCall "tuple.__new__" ⟨[.type "tuple", .ref a], []⟩; again (.builtin "tuple.__new__" ⟨[.type "tuple", .ref a], []⟩)) _ _ s
  refine wpAny_bind (wpAny_of_eq (F.newCall_tuple_1 _) (wpAny_pure ⟨plainId_quiet F.plain_tuple_new _, codeAny_builtin F.entry_tuple_new ?_⟩))
  rw [Around.under_plainId F.plain_tuple_new _]
  have hsub := sub_tuple_self
  have hinit := init_tuple_lookup
  have hmh := madeHere_tuple
  have hTI := x.1.typeIs
  wp_walk using wpAny_typeOf hTI, collect2 (A := A.in1) hA hAd (by show A.units + 1 + 5 ≤ U; omega) hroom Z x hb ht
  intro s' v0 v1 hm h0 h1
  show wpAny _ _ (Builtin.Tuple.tupleExact [v0, v1].toArray >>= fun v => ret v) _ _ _
  unfold Builtin.Tuple.tupleExact
  refine wpAny_bind (wpAny_newObj_type ?_ (by show 2 ≤ sizeLine; size_fits))
  exact wpAny_pure (h s' v0 v1 hm h0 h1)
theorem callTuple2 {A : Around} {s : Shared} {Q : Value → Shared → Prop} {E : Value → Shared → Prop} (hA : A.handled = none) (hAd : A.depth ≤ D) (hAu : A.units + 10 ≤ U) (hroom : D < recursionLimit) (Z : GC a C I href) (x : GA prog w (AA D U) a g C I href dd 2 0 s) (hb : AllBare s.gens) (ht : TabOk s.heap)
    (h : ∀ s' v0 v1, Mv [C, I] g s s' → Mine.R (Fh href s.heap s'.heap) (dd 0) v0 → Mine.R (Fh href s.heap s'.heap) (dd 1) v1 → Q (.ref s'.heap.objs.size) { s' with heap := s'.heap.push (tupN [v0, v1] 0) }) :
    wpAny (model prog w) A (call (.type "tuple") [.ref a]) Q E s := by
  refine callType_codes (Q₁ := fun obj s₁ => s₁.TypeIs obj "tuple" ∧ Q obj s₁) F.called_tuple (F.typeCall_tuple_1 _) F.entry_object_init
    (tupleNew2 (A := A.in1) hA hAd (by show A.units + 1 + 8 ≤ U; omega) hroom Z x hb ht fun s' v0 v1 hm h0 h1 => ⟨⟨_, Heap.get?_push_size _ rfl, rfl⟩, h s' v0 v1 hm h0 h1⟩) fun obj s₁ h₁ => ?_
  exact ⟨h₁.1, F.args_object_init_2 obj _, object_init_meets F.called_tuple.init.lookup F.called_tuple.made (by decide) prog w A.in1 _ s₁ ⟨h₁.1, rfl, h₁.2⟩⟩
end
end
section
open PyProof.Rows.LCg
theorem trim_ex : ∀ (n : Nat) (h : Heap), h.objs.size = n → ∃ g : Heap, (∀ b o, g.get? b = some o ↔ h.get? b = some o) ∧ LastOk g
  | 0, h, e => ⟨h, fun _ _ => Iff.rfl, fun h' _ => by rw [e]; exact Nat.zero_le _⟩
  | n + 1, h, e => by
    cases c : h.get? n with
    | some o => exact ⟨h, fun _ _ => Iff.rfl, fun h' k => by rw [e]; exact Heap.lt_size (k _ _ c)⟩
    | none =>
      obtain ⟨objs, life⟩ := h
      have e : objs.size = n + 1 := e
      refine oEA (trim_ex n ⟨objs.pop, life⟩ (by show objs.pop.size = n; rw [Array.size_pop, e]; rfl)) ?_; intro g g1 g2
      refine ⟨g, fun b o => (g1 b o).trans ?_, g2⟩
      rw [Heap.get?_eq_some, Heap.get?_eq_some]
      show (objs.pop[b]? = some o ∧ _) ↔ (objs[b]? = some o ∧ _)
      rw [Array.getElem?_pop]
      by_cases q : b < objs.size - 1
      · rw [if_pos q]
      · rw [if_neg q]
        constructor
        · intro z; cases z.1
        · intro z
          have hb := (Array.getElem?_eq_some_iff.mp z.1).1
          have hb' : @LT.lt Nat _ b (n + 1) := e ▸ hb
          have q' : ¬ @LT.lt Nat _ b n := by rw [e] at q; exact q
          have : b = n := Nat.le_antisymm (Nat.le_of_lt_succ hb') (Nat.le_of_not_lt q')
          subst this
          have := (Heap.get?_eq_some ⟨objs, life⟩ b o).mpr z
          rw [c] at this; cases this
theorem part_ex (h : Heap) (P : AP) : ∃ g : Heap, (∀ b o, g.get? b = some o ↔ (h.get? b = some o ∧ ¬ P b)) ∧ LastOk g := by
  classical
  refine oEA (trim_ex _ (hideAll h ((List.range h.objs.size).filter fun b => decide (P b))) rfl) ?_; intro g g1 g2
  refine ⟨g, fun b o => (g1 b o).trans ⟨fun e => ?_, fun e => ?_⟩, g2⟩
  · have e1 := of_hideAll _ e
    refine ⟨e1, fun p => ?_⟩
    rw [hideAll_none _ (List.mem_filter.mpr ⟨List.mem_range.mpr (Heap.lt_size e1), by simpa using p⟩)] at e; cases e
  · exact hideAll_get _ e.1 fun q => e.2 (by simpa using (List.mem_filter.mp q).2)
theorem genCode {M : Model} {A : Around} {E : Value → Shared → Prop} {s : Shared} {env : Env} {c P : Addr} {ps : Array Value} {pos : Pos} {qualname : Str} {scope : Scope} {Q : Value → Shared → Prop} (hc : env.code = .ref c) (H : CodeHd s.heap c P) (hP : s.heap.get? P = some (tabObj ps)) (ht : TriplesOk ps.toList)
    (hQ : ∀ code h' tk ps' cv, Heap.ExtBut P s.heap h' → h'.get? P = some (tabObj ps') → TriplesOk ps'.toList → codeAmong pos ps'.toList = some cv → ((codeAmong pos ps.toList).isSome = true → h' = s.heap) → Q code { s with heap := h', toks := tk }) :
    wpAny M A (genexprCode env pos qualname scope) Q E s := by
  obtain ⟨o, vs, file, tf, flags, tg, inF, text, tt, ho, _, hdat, _, h11, h2, h7, h9, h10, hne⟩ := H
  unfold genexprCode codeAt
  rw [hc, if_neg (show ¬ ((Value.ref c == Value.none) = true) from Bool.false_ne_true)]
  refine wpAny_bind (wpAny_fieldsOf ho hdat ?_)
  rw [h11]
  refine wpAny_bind (wpAny_fieldsOf hP rfl ?_)
  cases hnf : codeAmong pos ps.toList with
  | some cv => exact wpAny_pure (hQ cv s.heap s.toks ps cv (Heap.ExtBut.refl _ _) hP ht hnf fun _ => rfl)
  | none =>
    rw [h2, h7, h9, h10]
    refine wpAny_bind (wpAny_newCode fun c' P' h' tk hk _ _ _ _ => ?_)
    have hop' := hk _ _ hP
    refine wpAny_bind (wpAny_updateFieldsOfTheText hop' rfl ?_)
    have hnew : (Obj.mapFields (fun vs => if (codeAmong pos vs.toList).isSome = true then vs else vs ++ #[rawInt pos.line, rawInt pos.col, .ref c']) (tabObj ps)) = tabObj (ps ++ #[rawInt pos.line, rawInt pos.col, .ref c']) := by
      show (tabObj (if (codeAmong pos ps.toList).isSome = true then ps else ps ++ #[rawInt pos.line, rawInt pos.col, .ref c'])) = _
      rw [hnf]; rfl
    have hget := Heap.get?_update_self (h := h') (fun o => Obj.mapFields (fun vs => if (codeAmong pos vs.toList).isSome = true then vs else
      vs ++ #[rawInt pos.line, rawInt pos.col, .ref c']) o) hop' (by rw [hnew]; rfl)
    rw [hnew] at hget
    refine wpAny_bind (wpAny_fieldsOf hget rfl ?_)
    have hl : (ps ++ #[rawInt pos.line, rawInt pos.col, Value.ref c']).toList = ps.toList ++ [rawInt pos.line, rawInt pos.col, .ref c'] := by simp
    have hfound : codeAmong pos (ps ++ #[rawInt pos.line, rawInt pos.col, Value.ref c']).toList = some (.ref c') := by rw [hl, codeAmong_snoc _ ht hnf]
    rw [hfound]
    exact wpAny_pure (hQ _ _ _ (ps ++ #[rawInt pos.line, rawInt pos.col, .ref c']) _ (fun b o' hb e => ((Heap.SameBut.update ..).extBut b o' hb (hk b o' e))) hget (by rw [hl]; exact TriplesOk_snoc _ _ _ _ ht) hfound (fun e => absurd e (by rw [hnf]; simp)))
section
variable {K : Params → Frag} {prog : Program} {w : World} {p : Program} {loose : List Str} {mg mb : Str → Option Value} {A : Around} {s : Shared} {env : Env}
inductive GeK (K : Params → Frag) (prog : Program) (w : World) (p : Program) (loose : List Str) (mg mb : Str → Option Value) (env : Env) (elt : Expr) (x : Str) (scope : Scope) (cl : List (Str × Addr)) (Q : Value → Shared → Prop) (it : Value) (s₂ : Shared) : Prop
  | mk (I T c P : Addr) (oT : Obj) (N : Nat → Obj) (v0 v1 : Value) (dd : Nat → Dat) (D U : Nat) (g : Heap) (O : AP) (h0 : it = .ref I) (h1 : Bs (K w.params) p loose mg mb g) (h2 : Wd g O s₂) (h3 : s₂.heap.get? I = some (N 0)) (h4 : O I) (h5 : ¬ isTb I) (h6 : Src prog w I T oT N [v0, v1]) (h7 : Dt s₂.heap O T oT) (h8 : env.code = .ref c) (h9 : codeHdIn (K w.params) c P = true) (h10 : isTb P) (h11 : env.globals = mainGlobals) (h12 : D < recursionLimit) (h13 : (∀ C code href, LastOk href → Kp g href → (∀ b o, Dt s₂.heap O b o → href.get? b = some o) → (∀ b, isTb b → href.get? b = none) → href.objs.size ≤ C → EltS prog w (genEnv scope cl C code builtinsNs env) x elt href dd [v0, v1] (D + 20) (U + 50))) (h14 : ∀ a gi C href s', Kt s₂.heap s'.heap → GS s₂ s' → TabOk s'.heap → s₂.gens.size ≤ gi → s₂.heap.get? C = none → s₂.heap.get? a = none → (∀ b o, href.get? b = some o → ¬ O b ∧ b ≠ C ∧ s'.heap.get? b = some o) → GC a C I href → GA prog w (AA D U) a gi C I href dd 2 0 s' → Q (.ref a) s')
theorem genMk {elt iter : Expr} {x : Str} {px pos : Pos} {scope : Scope} {cl : List (Str × Addr)} {Q : Value → Shared → Prop}
    (hco : scope.isCoroutine = false) (hclos : closureFor scope env = pure cl) (hcell : ∀ y ∈ scope.names, y.2 ≠ .cell) (h0 : scope.names.lookup (".0" : Str) = some NameKind.local) (hx : scope.names.lookup x = some .local) (hkind : scope.kind = .function)
    (hroom : A.depth < recursionLimit) (hs : ∀ x, genFold iter env x = pure x)
    (h : wpAny (model prog w) A (eval iter env) (fun xv s₁ => wpAny (model prog w) A (pyIter xv) (GeK K prog w p loose mg mb env elt x scope cl Q) NoE s₁) NoE s) :
    wpAny (model prog w) A (eval (.GeneratorExp elt [⟨.Name x px, iter, [], 0⟩] scope pos) env) Q NoE s := by
  refine wpAny_GeneratorExp_make hco hclos hcell h0 hkind hroom (wpAny_mono h (fun xv s₁ h₁ => wpAny_mono h₁ (fun it s₂ h₂ => ?_) fun _ _ f => f.elim) fun _ _ f => f.elim) hs
  obtain ⟨I, T, c, P, oT, N, v0, v1, dd, D, U, g, O, rfl, B, W, hI, OI, tI, SR, hT, hcode, hcd, tP, hglob, hD, EL, k⟩ := h₂
  refine oEA (W.tabs P tP) ?_; intro ps hP htr
  refine ⟨B.T.nolimit.keeps W.keep, genCode hcode ((codeHd_of_K B.X hcd).keeps W.keep) hP htr fun code h₃ tk ps' cv hx₃ hP₃ htr₃ hcv hfd => ?_⟩
  obtain ⟨bm, ob, hb1, hb2, hb3, hb4, hb5, hb6⟩ := B.M
  have nO : ∀ {b o}, g.get? b = some o → ¬ O b := fun e q => nomatch (W.off _ q).symm.trans e
  have k3 : Kp g h₃ := fun b o e => hx₃ b o (fun q => nO e (W.tabO b (q ▸ tP))) (W.keep b o e)
  have t3 : TabOk h₃ := fun b hb => by
    by_cases q : b = P
    · rw [q]; exact ⟨ps', hP₃, htr₃⟩
    · refine oEA (W.tabs b hb) ?_; intro qs e1 e2; exact ⟨qs, hx₃ b _ q e1, e2⟩
  rw [hglob]
  refine wpAny_builtinsFor (s := { s₂ with heap := h₃, toks := tk }) (B.T.g.keeps k3) hb1 hb2 (k3 _ _ hb3) hb4 hb5 hb6 fun h' hn' hs' => ?_
  have up3 : ∀ b o, ¬ isTb b → s₂.heap.get? b = some o → h₃.get? b = some o := fun b o n e => hx₃ b o (fun q => n (q ▸ tP)) e
  have I3 : h₃.get? I = some (N 0) := up3 _ _ tI hI
  have keep' : ∀ b o, h₃.get? b = some o → h'.get? b = some o := fun b o e => hs'.extBut b o (Nat.ne_of_lt (Heap.lt_size e)) (Heap.get?_push_of_some _ e)
  have hsz : h'.objs.size = h₃.objs.size + 1 := by rw [hs'.1, Heap.size_push]
  have keep5 : ∀ {og : Obj} b o, h₃.get? b = some o → (h'.push og).get? b = some o := fun b o e => Heap.get?_push_of_some _ (keep' b o e)
  refine oEA (part_ex h₃ O) ?_; intro href r1 r2
  have rk : Kp g href := fun b o e => (r1 b o).mpr ⟨k3 b o e, nO e⟩
  have rt : ∀ b, O b → href.get? b = none := fun b hb => by
    cases q : href.get? b with
    | none => rfl
    | some o => exact absurd hb ((r1 b o).mp q).2
  have rb : ∀ {b : Addr}, h₃.objs.size ≤ b → href.get? b = none := fun {b} hb => by
    cases q : href.get? b with
    | none => rfl
    | some o => exact absurd (Heap.lt_size ((r1 b o).mp q).1) (Nat.not_lt.mpr hb)
  have tn : ∀ {b : Addr}, h₃.objs.size ≤ b → ¬ isTb b := fun {b} hb q => by refine oEA (t3 b q) ?_; intro qs e _; exact absurd (Heap.lt_size e) (Nat.not_lt.mpr hb)
  have Ilt : I < h₃.objs.size := Heap.lt_size I3
  have dead : ∀ {b : Addr}, h₃.objs.size ≤ b → s₂.heap.get? b = none := fun {b} hb => by
    cases q : s₂.heap.get? b with
    | none => rfl
    | some o =>
      by_cases t : isTb b
      · exact absurd t (tn hb)
      · exact absurd (Heap.lt_size (up3 b o t q)) (Nat.not_lt.mpr hb)
  have T3 : h₃.get? T = some oT := up3 _ _ (fun q => hT.2 (W.tabO _ q)) hT.1
  refine k h'.objs.size s₂.gens.size h₃.objs.size href _ (fun b o n e => keep5 b o (up3 b o n e)) ⟨W.bare.push rfl, rfl, rfl, by simp, fun i hi => Array.getElem?_push_lt hi ▸ (Array.getElem?_eq_getElem hi).symm ▸ rfl⟩ (t3.of fun b o _ e => keep5 b o e) (Nat.le_refl _) (dead (Nat.le_refl _)) (dead (by rw [hsz]; exact Nat.le_succ _)) (fun b o e => ⟨((r1 b o).mp e).2, Nat.ne_of_lt (Heap.lt_size ((r1 b o).mp e).1), keep5 b o ((r1 b o).mp e).1⟩)
    ⟨?_, ?_, rb (Nat.le_refl _), rt _ OI, rb (by rw [hsz]; exact Nat.le_succ _), tn (by rw [hsz]; exact Nat.le_succ _), fun b hb => rt b (W.tabO b hb), B.T.nolimit.keeps rk⟩
    ⟨⟨_, _, _, Heap.get?_push_size _ rfl, rfl, rfl, rfl⟩, fun b o e => keep5 b o ((r1 b o).mp e).1, ⟨?_, ⟨_, keep5 _ _ I3⟩⟩, _, Array.getElem?_push_size .., fun s'' hc => ⟨rfl, ?_⟩⟩
  · rw [hsz]; exact Nat.succ_ne_self _
  · rw [hsz]; exact Ne.symm (Nat.ne_of_lt (Nat.lt_succ_of_lt Ilt))
  · refine oEEEA hn' ?_; clear hn'; intro oC _ _ hC _; exact ⟨_, Heap.get?_push_of_some _ hC⟩
  · refine segStart (A := (AA D U).in1) (O := N) rfl SR (EL h₃.objs.size code href r2 rk (fun b o e => (r1 b o).mpr ⟨up3 _ _ (fun q => e.2 (W.tabO _ q)) e.1, e.2⟩) (fun b hb => rt b (W.tabO b hb)) (r2 h₃ fun b o e => ((r1 b o).mp e).1)) ?_ ?_ hx (by simp [genEnv, hkind]) hco ?_ (tn (Nat.le_refl _)) tI (fun b hb => rt b (W.tabO b hb)) (rb (Nat.le_refl _)) (rt _ OI) ((r1 _ _).mpr ⟨T3, hT.2⟩) s'' s'' _ (hc.2.2 _ _ (.inr (.inl rfl)) (keep5 _ _ I3)) ((hn'.push _).at' fun o e => hc.2.2 _ _ (.inl rfl) e) ⟨fun _ _ _ _ _ e => e, ⟨hc.1, Same.refl _⟩, hc.2.1⟩ fun b o e => hc.2.2 b o (.inr (.inr (by rw [e]; rfl))) (keep5 b o ((r1 b o).mp e).1)
    · show D + 0 + _ ≤ D + 20; exact Nat.add_le_add_left (Nat.le_of_ble_eq_true rfl) D
    · show U + 1 + 0 + _ ≤ U + 50; rw [Nat.add_assoc, Nat.add_assoc]; exact Nat.add_le_add_left (Nat.le_of_ble_eq_true rfl) U
    · exact Ne.symm (Nat.ne_of_lt Ilt)
end
end
section
open PyProof.Rows.LCg
section
variable {prog : Program} {w : World} {A : Around} {s : Shared} {K : Frag} {C x dx : Addr} {R' : Result → Shared → Prop}
set_option tactic.hygienic true in
theorem osa_at {ox od od' : Obj} {name : Str} {tk : Tok} {v : Value} {es : List DictEntry} {n : Nat} (X : K.In s.heap) (D : s.heap.get? dx = some od)
    (I : InstAt s.heap x ox C (some od)) (hd : ox.dict = some dx) (hp : plainOver K C = true) (ht : takerIn K C name = some none) (hh : (clsIn K C).any (·.hasDict) = true)
    (hl : (lookIn name od).isSome = true) (e : Obj.putName name (PyData.keyHash w.params name) (.str name s.toks) v od = od') (e' : od'.data = .dict es.toArray n) (hz : es.length ≤ 1000)
    (h : ∀ h', h'.get? dx = some od' → Heap.SameBut dx s.heap h' → R' (.ok (.ret .none)) { s with heap := h', toks := s.toks + 1 }) :
    codeAny (model prog w) A (.call (.builtin "object.__setattr__") ⟨[.ref x, .str name tk, v], []⟩) R' s := by
  refine osa_open X I hp ht fun b => ?_
  refine oEA (any_some hh) ?_; intro cd hc hd'
  have D' := Heap.get?_update_self (Obj.putName name (PyData.keyHash w.params name) (.str name s.toks) v) D (by rw [e]; obtain ⟨_, _, dd, _⟩ := od'; cases e'; rfl)
  rw [e] at D'
  have sb := Heap.SameBut.update s.heap dx (Obj.putName name (PyData.keyHash w.params name) (.str name s.toks) v)
  obtain ⟨hx, hcl, hn, -⟩ := I
  obtain ⟨oc, odi, oda, osl⟩ := ox
  dsimp only at hcl hd
  subst hcl hd
  refine wpAny_bind (wpAny_pure (wpAny_bind (wpAny_bind (wpAny_loadPart hx (wpAny_bind ((looks_clsIn X hc).here ?_))))))
  rw [hd']
  refine wpAny_pure (a := some dx) (wpAny_bind (wpAny_pure (wpAny_bind ?_)))
  unfold nsSet
  refine wpAny_bind (wpAny_bind (wpAny_askSetting (wpAny_pure (wpAny_bind (wpAny_mkText (wpAny_bind (wpAny_loadPart D ?_)))))))
  unfold lookIn at hl
  split at hl
  · rename_i es₀ n₀ q
    rw [q]
    dsimp only
    have c : (!es₀.any (·.key.isStr name) && es₀.any (·.refKey)) = false := by
      rw [← Array.any_toList, ← Array.any_toList]
      split at hl
      · rename_i en he
        rw [List.any_eq_true.mpr ⟨en, List.mem_of_find?_eq_some he, List.find?_some he⟩]; rfl
      · split at hl
        · cases hl
        · rename_i z; rw [Bool.not_eq_true] at z; rw [z, Bool.and_false]
    rw [aRefKeyMayBeTheName_at, c]
    refine wpAny_updatePart D ?_
    refine wpAny_bind (wpAny_lookBehind D' (by rw [e']; exact pastItsLine_dict (by rw [List.size_toArray, sizeLine_eq]; omega)) ?_)
    exact wpAny_pure (h _ D' sb)
  · cases hl
theorem set_at {ox : Obj} {name : Str} {v : Value} {es : List DictEntry} {n : Nat} {E : Value → Shared → Prop} {Q : Unit → Shared → Prop} (X : K.In s.heap) (D : s.heap.get? dx = some (dictOf es n)) (I : InstAt s.heap x ox C (some (dictOf es n))) (hd : ox.dict = some dx)
    (hs : findIn K (.ref C) "__setattr__" = some (some (.builtin "object.__setattr__"))) (hp : plainOver K C = true) (ht : takerIn K C name = some none) (hh : hasDictIn K C = true) (hl : (getL name es).isSome = true)
    (hz : (putL name (PyData.keyHash w.params name) (.str name (s.toks + 1)) v es).length ≤ 1000)
    (h : ∀ h', h'.get? dx = some (dictOf (putL name (PyData.keyHash w.params name) (.str name (s.toks + 1)) v es) (putN name es n)) → Heap.SameBut dx s.heap h' → Q () { s with heap := h', toks := s.toks + 2 }) :
    wpAny (model prog w) A (setAttr (.ref x) name v) Q E s :=
  set_plain X I hs (osa_at (s := { s with toks := s.toks + 1 }) X D I hd hp ht hh hl (by rw [putName_dict]) rfl hz fun h' a b => h h' a b)
end
theorem putL_new {name : Str} {hsh : Int} {key v : Value} : ∀ {es : List DictEntry}, es.any (·.key.isStr name) = false → putL name hsh key v es = es ++ [⟨hsh, key, v⟩]
  | [], _ => rfl
  | e :: r, h => by
    rw [List.any_cons, Bool.or_eq_false_iff] at h
    unfold putL
    rw [h.1, putL_new h.2]; rfl
theorem EntOk.snoc {y : Str} {t : Tok} {hsh : Int} {v : Value} : ∀ {ns : List Str} {vs : List Value} {es : List DictEntry}, EntOk ns vs es → EntOk (ns ++ [y]) (vs ++ [v]) (es ++ [⟨hsh, .str y t, v⟩])
  | [], [], [], _ => ⟨⟨t, rfl⟩, rfl, trivial⟩
  | n :: ns, u :: vs, e :: es, ⟨a, b, c⟩ => ⟨a, b, c.snoc⟩
  | [], [], _ :: _, h => h.elim
  | [], _ :: _, _, h => h.elim
  | _ :: _, [], _, h => h.elim
  | _ :: _, _ :: _, [], h => h.elim
theorem EntOk.len : ∀ {ns : List Str} {vs : List Value} {es : List DictEntry}, EntOk ns vs es → es.length = ns.length ∧ vs.length = ns.length
  | [], [], [], _ => ⟨rfl, rfl⟩
  | n :: ns, u :: vs, e :: es, ⟨a, b, c⟩ => by have := c.len; simp [this.1, this.2]
  | [], [], _ :: _, h => h.elim
  | [], _ :: _, _, h => h.elim
  | _ :: _, [], _, h => h.elim
  | _ :: _, _ :: _, [], h => h.elim
noncomputable def fulls : List (List Str) := [["field_modulus", "n"], ["field_modulus", "coeffs", "modulus_coeffs", "degree"], ["field_modulus", "mc_tuples", "coeffs", "modulus_coeffs", "degree"]]
noncomputable def PartD (o : Obj) : Prop := ∃ es n ns vs, o = dictOf es n ∧ EntOk ns vs es ∧ ns ∉ fulls
mutual
noncomputable def noOb : Dat → Bool
  | .ob _ _ _ _ => false
  | .tup l => noObL l
  | .lst l => noObL l
  | _ => true
noncomputable def noObL : List Dat → Bool
  | [] => true
  | d :: r => noOb d && noObL r
end
theorem PartD.inst {C dx : Addr} : ¬ PartD (instObj C dx) := fun ⟨_, _, _, _, e, _⟩ => by cases e
theorem PartD.tup {l : List Value} {n : Nat} : ¬ PartD (tupN l n) := fun ⟨_, _, _, _, e, _⟩ => by have := congrArg Obj.cls e; simp at this
theorem PartD.lst {l : List Value} {n : Nat} : ¬ PartD (lstN l n) := fun ⟨_, _, _, _, e, _⟩ => by have := congrArg Obj.cls e; simp at this
theorem PartD.dict {es : List DictEntry} {n : Nat} (h : PartD (dictOf es n)) : ∃ ns vs, EntOk ns vs es ∧ ns ∉ fulls := by
  refine oEEEEAA h ?_; clear h; intro es' n' ns vs e a b
  injection e with _ _ e
  injection e with e _
  have : es = es' := by simpa using e
  subst this
  exact ⟨ns, vs, a, b⟩
theorem ent2 {ns : List Str} {vs : List Value} {h1 : Int} {y : Str} {t : Tok} {v : Value} {r : List DictEntry} (h : EntOk ns vs (⟨h1, .str y t, v⟩ :: r)) : ∃ ns' vs', ns = y :: ns' ∧ EntOk ns' vs' r := by
  match ns, vs, h with
  | n :: ns, u :: vs, ⟨⟨t', a⟩, b, c⟩ => cases a; exact ⟨ns, vs, rfl, c⟩
  | [], [], h => exact h.elim
  | [], _ :: _, h => exact h.elim
  | _ :: _, [], h => exact h.elim
theorem ent0 {ns : List Str} {vs : List Value} (h : EntOk ns vs []) : ns = [] := by
  match ns, vs, h with
  | [], [], _ => rfl
  | [], _ :: _, h => exact h.elim
  | _ :: _, [], h => exact h.elim
  | _ :: _, _ :: _, h => exact h.elim
theorem PartD.fq {h1 h2 : Int} {t1 t2 t3 t4 : Tok} {p v : Int} : ¬ PartD (fqDict h1 h2 t1 t2 t3 t4 p v) := fun h => by
  refine oEEA h.dict ?_; intro ns vs a b
  refine oEEA (ent2 a) ?_; rintro n1 v1 rfl a1
  refine oEEA (ent2 a1) ?_; rintro n2 v2 rfl a2
  rw [ent0 a2] at b
  exact b (.head _)
theorem PartD.fqp {h1 h2 h3 h4 : Int} {t1 t2 t3 t4 t5 t6 : Tok} {p : Int} {tc tm : Addr} : ¬ PartD (fqpDict h1 h2 h3 h4 t1 t2 t3 t4 t5 t6 p tc tm) := fun h => by
  refine oEEA h.dict ?_; intro ns vs a b
  refine oEEA (ent2 a) ?_; rintro n1 v1 rfl a1
  refine oEEA (ent2 a1) ?_; rintro n2 v2 rfl a2
  refine oEEA (ent2 a2) ?_; rintro n3 v3 rfl a3
  refine oEEA (ent2 a3) ?_; rintro n4 v4 rfl a4
  rw [ent0 a4] at b
  exact b (.tail _ (.head _))
theorem PartD.fq2 {h1 h2 h3 h4 h5 : Int} {t1 t2 t3 t4 t5 t6 t7 : Tok} {p : Int} {lm tc tm : Addr} : ¬ PartD (fq2Dict h1 h2 h3 h4 h5 t1 t2 t3 t4 t5 t6 t7 p lm tc tm) := fun h => by
  refine oEEA h.dict ?_; intro ns vs a b
  refine oEEA (ent2 a) ?_; rintro n1 v1 rfl a1
  refine oEEA (ent2 a1) ?_; rintro n2 v2 rfl a2
  refine oEEA (ent2 a2) ?_; rintro n3 v3 rfl a3
  refine oEEA (ent2 a3) ?_; rintro n4 v4 rfl a4
  refine oEEA (ent2 a4) ?_; rintro n5 v5 rfl a5
  rw [ent0 a5] at b
  exact b (.tail _ (.tail _ (.head _)))
section
variable {φ ψ : Fm} {dx : Addr}
theorem RFq.avoid (hp : ∀ o, φ dx o → PartD o) (h : ∀ a o, a ≠ dx → φ a o → ψ a o) {v : Value} {p n : Int} (x : RFq φ v p n) : RFq ψ v p n := by
  have up : ∀ {a o}, ¬ PartD o → φ a o → ψ a o := fun n e => h _ _ (fun q => n (hp _ (q ▸ e))) e
  obtain ⟨x, dx', h1, h2, t1, t2, t3, t4, e, a, b, c⟩ := x
  exact ⟨x, dx', h1, h2, t1, t2, t3, t4, e, up PartD.inst a, up PartD.fq b, c⟩
mutual
theorem R.avoid1 (hp : ∀ o, φ dx o → PartD o) (h : ∀ a o, a ≠ dx → φ a o → ψ a o) (up : ∀ {a o}, ¬ PartD o → φ a o → ψ a o) : ∀ (d : Dat) {v : Value}, noOb d = true → R φ d v → R ψ d v
  | .lit _, _, _, x | .int _ _, _, _, x | .prm _, _, _, x | .bool _, _, _, x | .sb _, _, _, x | .none, _, _, x | .rf _, _, _, x | .bi _, _, _, x => x
  | .fq p n, v, _, x => RFq.avoid hp h x
  | .fqp p a b, v, _, .mk x dx tc tm q0 q1 n1 n2 u1 u2 h1 h2 h3 h4 t1 t2 t3 t4 t5 t6 e y1 y2 y3 y4 y5 y6 =>
    .mk x dx tc tm q0 q1 n1 n2 u1 u2 h1 h2 h3 h4 t1 t2 t3 t4 t5 t6 e (up PartD.inst y1) (up PartD.fqp y2) (up PartD.tup y3) (y4.avoid hp h) (y5.avoid hp h) (up PartD.tup y6)
  | .fq2 p a b, v, _, .mk x dx lm mt tc tm n1 n2 n3 n4 u1 u2 u3 u4 u5 u6 h1 h2 h3 h4 h5 t1 t2 t3 t4 t5 t6 t7 e y1 y2 y3 y4 y5 y6 y7 y8 =>
    .mk x dx lm mt tc tm n1 n2 n3 n4 u1 u2 u3 u4 u5 u6 h1 h2 h3 h4 h5 t1 t2 t3 t4 t5 t6 t7 e (up PartD.inst y1) (up PartD.fq2 y2) (up PartD.tup y3) (up PartD.tup y4) (up PartD.lst y5) (up PartD.tup y6) y7 y8
  | .ob _ _ _ _, _, q, _ => nomatch q
  | .tup l, _, q, .mk a n vs e y z => .mk a n vs e (up PartD.tup y) (RL.avoid1 hp h up l q z)
  | .lst l, _, q, .mk a n vs e y z => .mk a n vs e (up PartD.lst y) (RL.avoid1 hp h up l q z)
theorem RL.avoid1 (hp : ∀ o, φ dx o → PartD o) (h : ∀ a o, a ≠ dx → φ a o → ψ a o) (up : ∀ {a o}, ¬ PartD o → φ a o → ψ a o) : ∀ (l : List Dat) {vs : List Value}, noObL l = true → RL φ l vs → RL ψ l vs
  | [], _, _, x => x
  | d :: ds, vs, q, ⟨v, r, e, y, z⟩ =>
    have q := Bool.and_eq_true_iff.mp q
    ⟨v, r, e, R.avoid1 hp h up d q.1 y, RL.avoid1 hp h up ds q.2 z⟩
end
theorem R.avoid (hp : ∀ o, φ dx o → PartD o) (h : ∀ a o, a ≠ dx → φ a o → ψ a o) (d : Dat) {v : Value} : noOb d = true → R φ d v → R ψ d v := R.avoid1 hp h (fun n e => h _ _ (fun q => n (hp _ (q ▸ e))) e) d
theorem RL.avoid (hp : ∀ o, φ dx o → PartD o) (h : ∀ a o, a ≠ dx → φ a o → ψ a o) (l : List Dat) {vs : List Value} : noObL l = true → RL φ l vs → RL ψ l vs := RL.avoid1 hp h (fun n e => h _ _ (fun q => n (hp _ (q ▸ e))) e) l
end
end
section
open PyProof.Rows.LCg
noncomputable def okV : Val → Bool
  | .d d => noOb d
  | .loc _ => true
noncomputable def stOk (slf : Str) (st : St) : Bool := st.vars.all (fun y => seq y.1 slf || okV y.2) && st.own.all fun p => noObL p.2
section
variable {K : Params → Frag} {prog : Program} {w : World} {p : Program} {loose : List Str} {mg mb : Str → Option Value} {X : Fc} {cx : Cx} {A : Around} {O : AP} {as : List Addr} {st : St} {s : Shared}
structure ObAt (X : Fc) (dx : Addr) : Prop where
  t : ¬ isTb dx
  g : X.g.get? dx = none
  r : ∀ o, ¬ X.Ref dx o
  l : dx ≠ X.env.locals
theorem Inv.reobj {slf : Str} {x C : Nat} {dx : Addr} {ns ns' : List Str} {ds ds' : List Dat} {h' : Heap} {es' : List DictEntry} {n' : Nat} {vs' : List Value} {t : Tok} (I : Inv X cx O as st s) (Z : ObAt X dx) (hself : look slf st.vars = some (.d (.ob x C ns ds)))
    (hx : Dt s.heap O x (instObj C dx)) (hdO : ¬ O dx) (hp : ∀ o, s.heap.get? dx = some o → PartD o) (sb : Heap.SameBut dx s.heap h') (hn : h'.get? dx = some (dictOf es' n')) (hok : stOk slf st = true) (hns : ∀ y ∈ ns', y ∈ attrs) (ent : EntOk ns' vs' es') (hnn : n' = ns'.length) (rl : RL (Dt h' O) ds' vs') :
    Inv X cx O as { st with vars := upV st.vars slf (.d (.ob x C ns' ds')) } { s with heap := h', toks := t } ∧ (∀ a o, a ≠ dx → Dt s.heap O a o → Dt h' O a o) ∧ Dt h' O x (instObj C dx) := by
  unfold stOk at hok
  refine oA (Bool.and_eq_true_iff.mp hok) ?_; intro ok1 ok2
  have up : ∀ a o, a ≠ dx → Dt s.heap O a o → Dt h' O a o := fun a o ne h => ⟨(sb.2 a ne).trans h.1, h.2⟩
  have hp' : ∀ o, Dt s.heap O dx o → PartD o := fun o h => hp o h.1
  have nx : x ≠ dx := fun q => PartD.inst (hp _ (q ▸ hx.1))
  have hx' : Dt h' O x (instObj C dx) := up _ _ nx hx
  have okv : ∀ y v, look y st.vars = some v → y ≠ slf → okV v = true := fun y v h ne => by
    have := List.all_eq_true.mp ok1 _ (look_mem h)
    rcases Bool.or_eq_true_iff.mp this with q | q
    · exact absurd ((seq_iff _ _).mp q) ne
    · exact q
  have vr : ∀ v u, okV v = true → VR as (Dt s.heap O) v u → VR as (Dt h' O) v u := fun v u ho r => by
    cases v with
    | d d => exact R.avoid hp' up d ho r
    | loc i => exact r
  have rob : ∀ u, R (Dt s.heap O) (.ob x C ns ds) u → R (Dt h' O) (.ob x C ns' ds') u := fun u r => by
    obtain ⟨z1, _, dx', es, n, vs, rfl, r1, _⟩ := r
    exact ⟨z1, hns, dx, es', n', vs', rfl, hx', ⟨hn, hdO⟩, ⟨ent, hnn⟩, rl⟩
  refine ⟨⟨⟨fun b o e => (sb.2 b fun q => by rw [q] at e; exact absurd (Z.g.symm.trans e) (by simp)).trans (I.wd.keep b o e), I.wd.off, fun b hb => ?_, I.wd.tabs.of fun b o tb e => (sb.2 b fun q => Z.t (q ▸ tb)).trans e, I.wd.tabO, I.wd.bare⟩, fun b o q => (sb.2 b fun z => Z.r o (z ▸ q)).trans (I.ref b o q), I.reft, ⟨I.gs.1, I.gs.2⟩, I.sub, I.LO, I.LR, I.LT, I.above, ?_, fun y v h1 h2 => ?_, I.own.len, I.own.nodup, fun i fr l h => ?_⟩, up, hx'⟩
  · refine oE (I.wd.alive b hb) ?_; intro o e
    exact ⟨o, (sb.2 b fun q => hdO (q ▸ hb)).trans e⟩
  · refine oEA I.ns ?_; intro m hm hv
    refine ⟨m, hm.sameBut sb (Ne.symm Z.l), fun y v h1 h2 => ?_⟩
    rw [look_upV] at h1
    by_cases hy : y = slf
    · rw [if_pos hy] at h1; cases h1
      subst hy
      refine oEA (hv y _ hself h2) ?_; intro u h3 h4
      exact ⟨u, h3, rob u h4⟩
    · rw [if_neg hy] at h1
      refine oEA (hv y v h1 h2) ?_; intro u h3 h4
      exact ⟨u, h3, vr v u (okv y v h1 hy) h4⟩
  · rw [look_upV] at h1
    have cel : ∀ {c o u}, Dt s.heap O c o → o.data = .cell (some u) → Dt h' O c o := fun {c o u} h hd => up _ _ (fun q => by
      refine oEEEEA (hp _ (q ▸ h.1)) ?_; intro es n _ _ e _
      rw [e] at hd; cases hd) h
    by_cases hy : y = slf
    · rw [if_pos hy] at h1; cases h1
      subst hy
      refine oEEEAAAA (I.cells y _ hself h2) ?_; intro c o u h3 h4 h5 h6 h7
      exact ⟨c, o, u, h3, h4, cel h5 h6, h6, rob u h7⟩
    · rw [if_neg hy] at h1
      refine oEEEAAAA (I.cells y v h1 h2) ?_; intro c o u h3 h4 h5 h6 h7
      exact ⟨c, o, u, h3, h4, cel h5 h6, h6, vr v u (okv y v h1 hy) h7⟩
  · refine oEEEAAAA (I.own.at_ i fr l h) ?_; intro a n vs h1 h2 h3 h4 h5
    refine ⟨a, n, vs, h1, (sb.2 a fun q => PartD.lst (hp _ (q ▸ h2))).trans h2, RL.avoid hp' up _ ?_ h3, h4, h5⟩
    exact List.all_eq_true.mp ok2 _ (List.mem_of_getElem? h)
end
end
section
open PyProof.Rows.LCg
section
variable {K : Params → Frag} {prog : Program} {w : World} {p : Program} {loose : List Str} {mg mb : Str → Option Value} {X : Fc} {cx : Cx} {A : Around} {O : AP} {as : List Addr} {st : St} {s : Shared}
theorem Inv.away {own : Ow} {L : List Addr} {s' : Shared} (I : Inv (X.wI own) cx O as st s) (A' : IA X L) (hL : own.map (·.1) = L) (k : ∀ b o, ¬ isTb b → b ∉ L → s.heap.get? b = some o → s'.heap.get? b = some o) (gs : GS s s') (tb : TabOk s'.heap) :
    Inv X cx (fun a => O a ∧ a ∉ L) as st s' ∧ Ex O as s (fun a => O a ∧ a ∉ L) as s' := by
  have sub : ∀ a ∈ L, O a := fun a ha => I.sub a (.inr (by rw [hL]; exact ha))
  have ed : ∀ b o, Dt s.heap O b o → Dt s'.heap (fun a => O a ∧ a ∉ L) b o := fun b o h => ⟨k b o (fun q => h.2 (I.wd.tabO b q)) (fun q => h.2 (sub b q)) h.1, fun q => h.2 q.1⟩
  have e : Ex O as s (fun a => O a ∧ a ∉ L) as s' := ⟨ed, fun _ _ h => h⟩
  have nL : X.env.locals ∉ L := fun q => by
    rw [← hL] at q; refine oEA (List.mem_map.mp q) ?_; intro p hp e
    exact I.LR p.2 (.inr (by show (X.env.locals, p.2) ∈ own; rw [← e]; exact hp))
  refine ⟨⟨⟨fun b o e => k b o (fun q => nomatch (I.wd.off b (I.wd.tabO b q)).symm.trans e) (fun q => nomatch (I.wd.off b (sub b q)).symm.trans e) (I.wd.keep b o e), fun b hb => I.wd.off b hb.1, fun b hb => ?_, tb, fun b hb => ⟨I.wd.tabO b hb, fun q => A'.t b q hb⟩, gs.1⟩, fun b o q => k b o (I.reft b o (.inl q)) (fun z => A'.r b z o q) (I.ref b o (.inl q)),
    fun b o q => I.reft b o (.inl q), I.gs.trans gs, fun a h => ⟨I.sub a (.inl h), fun q => A'.b a q h⟩, ⟨I.LO, nL⟩, fun o h => I.LR o (.inl h), I.LT, I.above, ?_, fun x v h1 h2 => ?_, I.own.len, I.own.nodup, fun i fr l h => ?_⟩, e⟩
  · by_cases q : isTb b
    · refine oEA (tb b q) ?_; intro ps e _; exact ⟨_, e⟩
    · refine oE (I.wd.alive b hb.1) ?_; intro o e; exact ⟨o, k b o q hb.2 e⟩
  · refine oEA I.ns ?_; intro m hm hv
    refine ⟨m, hm.at' fun o e' => k _ _ I.LT nL e', fun x v h1 h2 => ?_⟩
    refine oEA (hv x v h1 h2) ?_; intro u h3 h4
    exact ⟨u, h3, h4.ex e⟩
  · refine oEEEAAAA (I.cells x v h1 h2) ?_; intro c o u h3 h4 h5 h6 h7
    exact ⟨c, o, u, h3, h4, ed _ _ h5, h6, h7.ex e⟩
  · refine oEEEAAAA (I.own.at_ i fr l h) ?_; intro c n' vs' h1 h2 h3 h4 h5
    have hc : c ∉ L := fun q => by
      cases fr with
      | false => exact (h4 rfl).2.2.2 (.inr (by rw [hL]; exact q))
      | true => exact h5 rfl (sub c q)
    have ht : ¬ isTb c := fun q => by refine oEA (I.wd.tabs _ q) ?_; intro ps e1 _; rw [h2] at e1; cases e1
    exact ⟨c, n', vs', h1, k _ _ ht hc h2, RL.mono ed _ h3, fun q => ⟨⟨(h4 q).1, hc⟩, (h4 q).2.1, fun o z => (h4 q).2.2.1 o (.inl z), fun z => (h4 q).2.2.2 (.inl z)⟩, fun q z => h5 q z.1⟩
noncomputable def isLo (k : Option NameKind) : Bool := match k with | some .local => true | _ => false
theorem isLo_ok {k : Option NameKind} (h : isLo k = true) : k = some .local := by
  cases k with
  | none => cases h
  | some k => cases k <;> first | rfl | cases h
noncomputable def isFr (k : Option NameKind) : Bool := match k with | some .free => true | _ => false
theorem isFr_ok {k : Option NameKind} (h : isFr k = true) : k = some .free := by
  cases k with
  | none => cases h
  | some k => cases k <;> first | rfl | cases h
theorem isFun_ok {k : ScopeKind} (h : isFun k = true) : k = .function := by cases k <;> first | rfl | cases h
noncomputable def genOk (sc : Scope) (x : Str) : Bool := isFun sc.kind && !sc.isCoroutine && isLo (look ".0" sc.names) && isLo (look x sc.names) &&
  sc.names.all fun y => (match y.2 with
    | .cell => false
    | .free => isFr (look y.1 sc.names)
    | _ => true)
structure GenOk (sc : Scope) (x : Str) : Prop where
  kind : sc.kind = .function
  co : sc.isCoroutine = false
  h0 : sc.names.lookup (".0" : Str) = some .local
  hx : sc.names.lookup x = some .local
  cell : ∀ y ∈ sc.names, y.2 ≠ .cell
  free : ∀ y ∈ sc.names, y.2 = .free → look y.1 sc.names = some .free
theorem genOk_ok {sc : Scope} {x : Str} (h : genOk sc x = true) : GenOk sc x := by
  unfold genOk at h
  simp only [Bool.and_eq_true] at h
  refine oA h ?_; clear h; rintro ⟨⟨⟨a1, a2⟩, a3⟩, a4⟩ a5
  rw [List.all_eq_true] at a5
  refine ⟨isFun_ok a1, by simpa using a2, (look_eq _ _).symm.trans (isLo_ok a3), (look_eq _ _).symm.trans (isLo_ok a4), fun y hy q => ?_, fun y hy q => ?_⟩
  · have := a5 y hy; rw [q] at this; cases this
  · have := a5 y hy; rw [q] at this; exact isFr_ok this
theorem clos_okG {sc : Scope} {x : Str} {cap : List (Str × Val)} (hs : GenOk sc x) (hc : caps cx st.vars sc.names = some cap) (I : Inv X cx O as st s) :
    ∃ cl, closureFor sc X.env = pure cl ∧ CapOk (fun x => look x sc.names) cap cl (Dt s.heap O) := by
  refine oA (caps_free hc) ?_; intro a b
  obtain ⟨cl, e, hl⟩ := closureFor_ok (sc := sc) (env := X.env) fun y hy q => by
    obtain ⟨x, k⟩ := y
    cases q
    refine oEA (b x hy) ?_; intro d h1 h2
    refine oEEEAA (I.cells x _ h1 h2) ?_; intro c o u h3 h4 _
    exact ⟨c, h4⟩
  refine ⟨cl, e, fun x v hx => ?_⟩
  refine oEAA (a x v hx) ?_; rintro d rfl hm hv
  refine oEA (b x hm) ?_; intro d' h1 h2
  refine oEEEAAAA (I.cells x _ hv h2) ?_; intro c o u h3 h4 h5 h6 h7
  have hk : look x sc.names = some .free := hs.free _ hm rfl
  exact ⟨d, c, o, u, rfl, (fun q => by have q : look x sc.names = some .local := q; rw [hk] at q; cases q), .inr hk, (hl x hm).trans h4, h5, h6, h7⟩
noncomputable def two (d0 d1 : Dat) (i : Nat) : Dat := if i = 0 then d0 else d1
theorem elt_snd {n : Nat} {D U : Nat} {gam : List Ctr} (kok : KOk (K w.params)) (hg : ∀ c ∈ gam, c.Ok K) {sc : Scope} {x : Str} (hs : GenOk sc x) {env : Env} (hglob : env.globals = mainGlobals) {elt : Expr} {cl : List (Str × Addr)} {cap : List (Str × Val)} {a b d0 d1 : Dat} {v0 v1 : Value} {C : Addr} {code : Value} {href : Heap}
    (hD : D + 20 < recursionLimit) (hU : U + 50 + 100 < cLine) (B : Bs (K w.params) p loose mg mb href) (last : LastOk href) (hrt : ∀ b, isTb b → href.get? b = none) (hC : href.objs.size ≤ C)
    (hco : CapOk (fun x => look x sc.names) cap cl fun a o => href.get? a = some o) (ra : R (fun a o => href.get? a = some o) a v0) (rb : R (fun a o => href.get? a = some o) b v1)
    (h0 : evD (ev n) ⟨fun x => look x sc.names, gam, D + 20, U + 50⟩ elt ⟨(x, .d a) :: cap, [], []⟩ fun d _ => d = d0)
    (h1 : evD (ev n) ⟨fun x => look x sc.names, gam, D + 20, U + 50⟩ elt ⟨(x, .d b) :: cap, [], []⟩ fun d _ => d = d1) :
    EltS prog w (genEnv sc cl C code builtinsNs env) x elt href (two d0 d1) [v0, v1] (D + 20) (U + 50) := by
  intro A' i v s m₂ Q E hh hd hu hv kp hb ht hn hx k
  refine noE ?_
  let O : AP := fun a => (∃ o, s.heap.get? a = some o) ∧ href.get? a = none
  have toD : ∀ a o, href.get? a = some o → Dt s.heap O a o := fun a o e => ⟨kp a o e, fun q => nomatch q.2.symm.trans e⟩
  have hCn : href.get? C = none := by
    cases q : href.get? C with
    | none => rfl
    | some o => exact absurd (Heap.lt_size q) (Nat.not_lt.mpr hC)
  have W : Wd href O s := ⟨kp, fun b q => q.2, fun b q => q.1, ht, fun b hb => ⟨by refine oEA (ht b hb) ?_; intro ps e _; exact ⟨_, e⟩, hrt b hb⟩, hb⟩
  have LO : O C := ⟨by refine oEEEA hn ?_; clear hn; intro o _ _ e _; exact ⟨o, e⟩, hCn⟩
  have LT : ¬ isTb C := fun q => by
    refine oEA (ht C q) ?_; intro ps e _
    refine oEEEAA hn ?_; clear hn; intro o _ _ e1 e2 _
    have e1 : s.heap.get? C = some o := e1
    rw [e] at e1; cases e1; cases e2
  have F : Fok K prog w p loose mg mb ({ g := href, Ref := fun a o => s.heap.get? a = some o ∧ O a ∧ ¬ isTb a ∧ a ≠ C, env := genEnv sc cl C code builtinsNs env, s₀ := s, B := O } : Fc) ⟨fun x => look x sc.names, gam, D + 20, U + 50⟩ :=
    ⟨B, last, kok, fun y => (look_eq y sc.names).symm, hs.kind, hglob, rfl, hg⟩
  have key : ∀ (c dd : Dat), R (fun a o => href.get? a = some o) c v → evD (ev n) ⟨fun x => look x sc.names, gam, D + 20, U + 50⟩ elt ⟨(x, .d c) :: cap, [], []⟩ (fun d _ => d = dd) → (∀ y s', (∀ b o, b ≠ C → ¬ isTb b → s.heap.get? b = some o → s'.heap.get? b = some o) → (∃ m', s'.heap.Ns C m') → GS s s' → TabOk s'.heap → R (Fh href s.heap s'.heap) dd y → Q y s') → wpAny (model prog w) A' (eval elt (genEnv sc cl C code builtinsNs env)) Q NoE s := fun c dd rc h k => by
    have I : Inv ({ g := href, Ref := fun a o => s.heap.get? a = some o ∧ O a ∧ ¬ isTb a ∧ a ≠ C, env := genEnv sc cl C code builtinsNs env, s₀ := s, B := O } : Fc) ⟨fun x => look x sc.names, gam, D + 20, U + 50⟩ O [] ⟨(x, .d c) :: cap, [], []⟩ s := by
      refine ⟨W, fun _ _ q => q.1, fun _ _ q => q.2.2.1, GS.of hb, fun _ q => q, LO, fun _ q => q.2.2.2 rfl, LT, hC, ⟨m₂, hn, fun y u h1 h2 => ?_⟩, fun y u h1 h2 => ?_, rfl, fun i j a h => by simp at h, fun i fr l h => by simp at h⟩
      · unfold look at h1
        cases q : seq y x with
        | true => rw [q] at h1; cases h1; rw [(seq_iff _ _).mp q]; exact ⟨v, hx, R.mono toD c rc⟩
        | false =>
          rw [q] at h1
          refine oEEEEAA (hco y u h1) ?_; intro d c' o u' _ a2 _
          exact absurd h2 a2
      · unfold look at h1
        cases q : seq y x with
        | true =>
          rw [(seq_iff _ _).mp q] at h2
          exact absurd ((look_eq x sc.names).trans hs.hx) h2
        | false =>
          rw [q] at h1
          obtain ⟨d, c', o, u', rfl, a2, a3, a4, a5, a6, a7⟩ := hco y u h1
          exact ⟨c', o, u', a3, a4, toD _ _ a5, a6, R.mono toD d a7⟩
    refine evD_snd (ev_snd n).1 F ⟨hh, hd, hu, hD, hU⟩ h I fun d st' u s' O' as' h1 h2 h3 h4 => ?_
    subst h1
    have kt : ∀ b o, b ≠ C → ¬ isTb b → s.heap.get? b = some o → s'.heap.get? b = some o := fun b o nc nt e => by
      by_cases q : O b
      · exact h2.ref b o ⟨e, q, nt, nc⟩
      · exact (h3.dt b o ⟨e, q⟩).1
    refine oEA h2.ns ?_; intro m' hm' _
    refine k u s' kt ⟨m', hm'⟩ h2.gs h2.wd.tabs (R.mono (fun a o q => ⟨q.1, ?_⟩) _ h4)
    cases e : href.get? a with
    | some o2 =>
      have := (h3.dt a o2 (toD a o2 e)).1
      rw [q.1] at this; cases this
      exact .inl rfl
    | none =>
      cases e2 : s.heap.get? a with
      | none => exact .inr rfl
      | some o2 => exact absurd (h2.sub a ⟨⟨o2, e2⟩, e⟩) q.2
  match i, hv with
  | 0, hv => cases hv; exact key a d0 ra h0 k
  | 1, hv => cases hv; exact key b d1 rb h1 k
  | _ + 2, hv => simp at hv
end
end
section
open PyProof.Rows.LCg
theorem gf_name {e : Expr} {env : Env} (h : isName e = true) (y : Value) : genFold e env y = pure y := by
  refine oEE (isName_ex h) ?_; rintro x p rfl; rfl
noncomputable def i2D (d : Dat) (f : Dat → Dat → Prop) : Prop := oT d (fun l => n2 l f) (dS d fun l => n2 l f)
noncomputable def vGe (e : Expr) (f : Expr → Expr → Expr → List Expr → Int → Scope → Prop) : Prop := match e with
  | .GeneratorExp elt gs sc _ => n1 gs (fun g => f elt g.target g.iter g.ifs g.is_async sc) False
  | _ => False
@[elab_as_elim] theorem vGe_e {e : Expr} {f : Expr → Expr → Expr → List Expr → Int → Scope → Prop} {m : Expr → Prop} (h : vGe e f) (k : ∀ elt t iter ifs asy sc p, f elt t iter ifs asy sc → m (.GeneratorExp elt [⟨t, iter, ifs, asy⟩] sc p)) : m e := by
  cases e with
  | GeneratorExp elt gs sc p => exact n1_e (m := fun gs => m (.GeneratorExp elt gs sc p)) h (fun g h => by cases g; exact k elt _ _ _ _ sc p h) False.elim
  | _ => exact h.elim
noncomputable def pred1 (C : Nat) (p : Int) (a : Dat) : Dat := match a with
  | .int n _ => bI (Nat.beq C 297) (.fq p (n % p)) (bI (Nat.beq C 486) (.int (n % p) 127) .none)
  | .lit n => bI (Nat.beq C 297) (.fq p (n % p)) (bI (Nat.beq C 486) (.int (n % p) 127) .none)
  | .fq _ n => bI (Nat.beq C 297) (.fq p n) .none
  | _ => .none
noncomputable def pred (cap : List (Str × Val)) (a : Dat) : Dat := match look "self" cap with
  | some v => (match v with
    | .d d => (match d with
      | .ob _ C _ ds => (match ds with
        | q :: _ => (match q with | .prm p => pred1 C p a | _ => .none)
        | [] => .none)
      | _ => .none)
    | .loc _ => .none)
  | none => .none
noncomputable def evG (n : Nat) (cx : Cx) (e : Expr) (st : St) (k : KD) : Prop :=
  vCn e (fun tn tp args _ => n1 args (fun ge => vGe ge fun elt t iter ifs asy sc => nm t fun x =>
    gd (isNil ifs && decide (asy = 0) && isName iter && genOk sc x && Nat.blt (cx.D + 20) 1000 && Nat.blt (cx.U + 160) cLine) <| oJ (caps cx st.vars sc.names) fun cap =>
      (ev n).e cx (.Name tn tp) st fun v st => vB 3 v <| evD (ev n) cx iter st fun d st => i2D d fun a b =>
        evD (ev n) ⟨fun x => look x sc.names, cx.gam, cx.D + 20, cx.U + 10 + 50⟩ elt ⟨(x, .d a) :: cap, [], []⟩ (fun d _ => d = pred cap a) ∧ evD (ev n) ⟨fun x => look x sc.names, cx.gam, cx.D + 20, cx.U + 10 + 50⟩ elt ⟨(x, .d b) :: cap, [], []⟩ (fun d _ => d = pred cap b) ∧ k (.tup [pred cap a, pred cap b]) st) False) False
section
variable {K : Params → Frag} {prog : Program} {w : World} {p : Program} {loose : List Str} {mg mb : Str → Option Value} {X : Fc} {cx : Cx} {A : Around} {O : AP} {as : List Addr} {st : St} {s : Shared}
theorem gen_go {n : Nat} (F : Fok K prog w p loose mg mb X cx) (a : AOk A cx) {c P : Addr} (hcode : X.env.code = .ref c) (hcd : codeHdIn (K w.params) c P = true) (tP : isTb P) {elt : Expr} {sc : Scope} {x : Str} {cl : List (Str × Addr)} {cap : List (Str × Val)} (hs : GenOk sc x) (hco : CapOk (fun x => look x sc.names) cap cl (Dt s.heap O))
    (hD : cx.D + 20 < 1000) (hU : cx.U + 160 < cLine) {k : KD} {q : Pos} {Q : Value → Shared → Prop} {da db d0 d1 : Dat} {st₂ : St} {s₂ : Shared} {O₂ : AP} {as₂ : List Addr}
    (e0 : evD (ev n) ⟨fun x => look x sc.names, cx.gam, cx.D + 20, cx.U + 10 + 50⟩ elt ⟨(x, .d da) :: cap, [], []⟩ (fun d _ => d = d0)) (e1 : evD (ev n) ⟨fun x => look x sc.names, cx.gam, cx.D + 20, cx.U + 10 + 50⟩ elt ⟨(x, .d db) :: cap, [], []⟩ (fun d _ => d = d1)) (kk : k (.tup [d0, d1]) st₂)
    (e2 : Ex O as s O₂ as₂ s₂) (Pq : PostD X cx k O as s Q) (Iv T : Addr) (oT : Obj) (N : Nat → Obj) (v0 v1 : Value) (s₃ : Shared) (J : Inv (X.wI [(Iv, N 0)]) cx (fun b => O₂ b ∨ b ∈ [(Iv, N 0)].map (·.1)) as₂ st₂ s₃) (eJ : Ex O₂ as₂ s₂ (fun b => O₂ b ∨ b ∈ [(Iv, N 0)].map (·.1)) as₂ s₃) (AJ : IA X ([(Iv, N 0)].map (·.1))) (SR : Src prog w Iv T oT N [v0, v1]) (hT : Dt s₂.heap O₂ T oT)
    (ra : R (Dt s₂.heap O₂) da v0) (rb : R (Dt s₂.heap O₂) db v1) : GeK K prog w p loose mg mb X.env elt x sc cl (fun v s₁ => wpAny (model prog w) A (spliced (backTo q (starEach [] X.env))) (fun vs s₂ => wpAny (model prog w) A (call (.type "tuple") (v :: vs)) Q NoE s₂) NoE s₁) (.ref Iv) s₃ := by
  refine ⟨Iv, T, c, P, oT, N, v0, v1, two d0 d1, cx.D, cx.U + 10, X.g, _, rfl, F.base, J.wd, J.ref Iv _ (.inr (.head _)), .inr (.head _), AJ.t Iv (.head _), SR, eJ.dt _ _ hT, hcode, hcd, tP, F.glob, a.dl, fun C code href lastr rk rD rt rC => ?_, fun ga gi C href s' kt gs tb hgi dC dga hr GCc GAc => ?_⟩
  · have up : ∀ b o, Dt s.heap O b o → href.get? b = some o := fun b o z => rD b o (eJ.dt b o (e2.dt b o z))
    exact elt_snd F.kok F.gam hs F.glob hD hU (F.base.keeps rk) lastr rt rC (hco.mono up) (R.mono (fun b o z => rD b o (eJ.dt b o z)) _ ra) (R.mono (fun b o z => rD b o (eJ.dt b o z)) _ rb) e0 e1
  · refine wpAny_items_nil (callTuple2 (D := cx.D) (U := cx.U + 10) a.h a.d (Nat.add_le_add_right a.u 10) a.dl GCc GAc gs.1 tb fun s'' w0 w1 mv r0 r1 => ?_)
    have nC : ∀ b o, s₃.heap.get? b = some o → b ≠ C := fun b o e z => by rw [z, dC] at e; cases e
    have kept : ∀ b o, ¬ isTb b → b ∉ [(Iv, N 0)].map (·.1) → s₃.heap.get? b = some o → s''.heap.get? b = some o := fun b o nt nI e => mv.heap b o (fun z => by
      rcases List.mem_cons.mp z with z | z
      · exact nC b o e z
      · exact nI z) nt (kt b o nt e)
    obtain ⟨J', eJ'⟩ := J.away (s' := { s'' with heap := s''.heap.push (tupN [w0, w1] 0) }) AJ rfl (fun b o nt nI e => Heap.get?_push_of_some _ (kept b o nt nI e))
      ⟨mv.bare, mv.drawn.trans gs.2.1, mv.os.trans gs.2.2.1, Nat.le_trans gs.2.2.2.1 mv.size, fun i hi => (mv.gens i (Nat.lt_of_lt_of_le hi gs.2.2.2.1) (Nat.ne_of_lt (Nat.lt_of_lt_of_le hi hgi))).trans (gs.2.2.2.2 i hi)⟩ (mv.tab.push _)
    have nO : ∀ {b : Addr}, s'.heap.get? b = none → ¬ (O₂ b ∨ b ∈ [(Iv, N 0)].map (·.1)) := fun {b} hn z => by
      refine oE (J.wd.alive b z) ?_; intro o e
      by_cases t : isTb b
      · refine oEA (tb b t) ?_; intro ps e' _; rw [e'] at hn; cases hn
      · rw [kt b o t e] at hn; cases hn
    have fh : ∀ b o, Fh href s'.heap s''.heap b o → Dt (s''.heap.push (tupN [w0, w1] 0)) (fun b => (O₂ b ∨ b ∈ [(Iv, N 0)].map (·.1)) ∧ b ∉ [(Iv, N 0)].map (·.1)) b o := fun b o z => ⟨Heap.get?_push_of_some _ z.1, fun y => z.2.elim (fun q => (hr b o q).1 y.1) fun q => nO q y.1⟩
    refine Pq _ st₂ _ _ _ _ kk J' ((e2.trans eJ).trans eJ') ?_
    refine R.tup (n := 0) ⟨Heap.get?_push_size _ rfl, fun y => ?_⟩ (.cn (R.mono fh _ r0) (.cn (R.mono fh _ r1) .nl))
    refine oE (J.wd.alive _ y.1) ?_; intro o e
    by_cases t : isTb s''.heap.objs.size
    · refine oEA (mv.tab _ t) ?_; intro ps e' _; exact absurd (Heap.lt_size e') (Nat.lt_irrefl _)
    · exact absurd (Heap.lt_size (kept _ o t y.2 e)) (Nat.lt_irrefl _)
theorem evG_snd {n : Nat} (F : Fok K prog w p loose mg mb X cx) (a : AOk A cx) {c P : Addr} (hcode : X.env.code = .ref c) (hcd : codeHdIn (K w.params) c P = true) (tP : isTb P) {e : Expr} {k : KD} {Q : Value → Shared → Prop} (h : evG n cx e st k) (I : Inv X cx O as st s) (Pq : PostD X cx k O as s Q) :
    wpAny (model prog w) A (eval e X.env) Q NoE s := by
  revert Pq
  refine vCn_e h ?_ False.elim
  clear h
  intro tn tp args q h Pq
  refine n1_e h ?_ False.elim
  clear h
  intro ge h
  refine vGe_e h ?_
  clear h
  intro elt t iter ifs asy sc gp h
  refine nm_e h ?_
  clear h
  intro x px h
  refine gd_k h ?_; clear h; rintro hb h
  refine oJ_k h ?_; clear h; rintro cap hcap h
  simp only [Bool.and_eq_true] at hb
  refine oA hb ?_; clear hb; rintro ⟨⟨⟨⟨hif, has⟩, hit⟩, hgen⟩, hD⟩ hU
  obtain rfl := isNil_ok hif
  obtain rfl : asy = 0 := of_decide_eq_true has
  have hs := genOk_ok hgen
  have hD := Nat.le_of_ble_eq_true hD
  have hU := Nat.le_of_ble_eq_true hU
  refine oEA (clos_okG hs hcap I) ?_; intro cl hcl hco
  refine wpAny_Call_NameR ((ev_snd n).1 cx X A F a _ st _ O as s _ h I fun v st₁ u s₁ O₁ as₁ g1 g2 g3 g4 => ?_)
  clear h hgen hcap has hif
  revert g4
  refine vB_e g1 ?_
  clear g1
  intro g1 g4
  obtain rfl : u = biV 3 := g4
  refine PyProof.Rows.callWith_type1 ?_
  refine wpAny_items_cons (genMk (K := K) (p := p) (loose := loose) (mg := mg) (mb := mb) hs.co hcl hs.cell hs.h0 hs.hx hs.kind (Nat.lt_of_le_of_lt a.d a.dl) (gf_name hit)
    (evD_snd (ev_snd n).1 F a g1 g2 fun d st₂ u s₂ O₂ as₂ q1 q2 q3 q4 => ?_))
  clear g1 hit
  revert q4
  refine oT_e q1 ?_ ?_ <;> clear q1
  · intro l q1
    refine n2_e q1 ?_
    clear q1
    intro da db q1 q4
    obtain ⟨tl, m, vs, rfl, t1, t2⟩ := q4
    refine oEEAA t2 ?_; clear t2; rintro v0 r rfl r0 t2
    refine oEEAA t2 ?_; clear t2; rintro v1 r' rfl r1 t2
    obtain rfl := t2.get0
    refine wpAny_pyIter_tuple (items := [v0, v1].toArray) ⟨_, t1.1, rfl, m, rfl⟩ ?_
    refine oAA (q2.iter (own := [(s₂.heap.objs.size, itT tl 0)]) (h' := s₂.heap.push (itT tl 0)) (t' := s₂.toks) (fun _ _ => Heap.get?_push_of_some _) (h1v (Nat.le_refl _) (Heap.get?_push_size _ rfl))) ?_; intro J eJ AJ
    exact gen_go F a hcode hcd tP hs hco hD hU q1.1 q1.2.1 q1.2.2 (g3.trans q3) Pq _ tl _ (itT tl) v0 v1 _ J eJ AJ src_tup t1 r0 r1
  · intro q1
    refine dS_e q1 ?_
    clear q1
    intro l q1
    refine n2_e q1 ?_
    clear q1
    intro da db q1 q4
    obtain ⟨tl, m, vs, rfl, t1, t2⟩ := q4
    refine oEEAA t2 ?_; clear t2; rintro v0 r rfl r0 t2
    refine oEEAA t2 ?_; clear t2; rintro v1 r' rfl r1 t2
    obtain rfl := t2.get0
    refine wpAny_pyIter_list (items := [v0, v1].toArray) ⟨_, t1.1, rfl, m, rfl⟩ ?_
    refine oAA (q2.iter (own := [(s₂.heap.objs.size, itL tl 0)]) (h' := s₂.heap.push (itL tl 0)) (t' := s₂.toks) (fun _ _ => Heap.get?_push_of_some _) (h1v (Nat.le_refl _) (Heap.get?_push_size _ rfl))) ?_; intro J eJ AJ
    exact gen_go F a hcode hcd tP hs hco hD hU q1.1 q1.2.1 q1.2.2 (g3.trans q3) Pq _ tl _ (itL tl) v0 v1 _ J eJ AJ src_lst t1 r0 r1
end
end
section
open PyProof.Rows.LCg
structure KSet (K : Frag) : Prop where
  sa : ∀ C : Nat, C = 183 ∨ C = 297 ∨ C = 486 → findIn K (.ref C) "__setattr__" = some (some (.builtin "object.__setattr__")) ∧ plainOver K C = true
  tk : ∀ (C : Nat) (a : Str), C = 183 ∨ C = 297 ∨ C = 486 → a ∈ attrs → takerIn K C a = some none
noncomputable def seqL : List Str → List Str → Bool
  | [], [] => true
  | a :: r, b :: t => seq a b && seqL r t
  | _, _ => false
theorem seqL_iff : ∀ {a b : List Str}, seqL a b = true ↔ a = b
  | [], [] => ⟨fun _ => rfl, fun _ => rfl⟩
  | [], _ :: _ => ⟨fun h => (nomatch h), fun h => (nomatch h)⟩
  | _ :: _, [] => ⟨fun h => (nomatch h), fun h => (nomatch h)⟩
  | a :: r, b :: t => (Bool.and_eq_true_iff (x := seq a b) (y := seqL r t)).trans ((and_congr (seq_iff a b) seqL_iff).trans List.cons_eq_cons.symm)
noncomputable def okA (a : Str) (ns : List Str) (ds : List Dat) : Bool := attrs.any (fun y => seq y a) && !(ns.any fun y => seq y a) && !(fulls.any fun l => seqL l ns) && Nat.ble ns.length 10 && noObL ds
noncomputable def isG (e : Expr) : Bool := match e with
  | .Call (.Name _ _) [.GeneratorExp _ _ _ _] [] _ => true
  | _ => false
noncomputable def evV (n : Nat) (gf : Bool) (cx : Cx) (e : Expr) (st : St) (k : KD) : Prop := bb (isG e) (gd gf (evG n cx e st k)) (evD (ev n) cx e st k)
noncomputable def vAt (t : Expr) (f : Str → Str → Prop) : Prop := match t with | .Attribute o a _ => nm o fun y => f y a | _ => False
@[elab_as_elim] theorem vAt_e {t : Expr} {f : Str → Str → Prop} {m : Expr → Prop} (h : vAt t f) (k : ∀ y yp a ap, f y a → m (.Attribute (.Name y yp) a ap)) : m t := by
  cases t with
  | Attribute o a ap => exact nm_e (m := fun o => m (.Attribute o a ap)) h fun y yp h => k y yp a ap h
  | _ => exact h.elim
noncomputable def vOb (o : Option Val) (f : Nat → Nat → List Str → List Dat → Prop) : Prop := match o with
  | some v => (match v with | .d d => (match d with | .ob x C ns ds => f x C ns ds | _ => False) | .loc _ => False)
  | none => False
theorem vOb_k {o : Option Val} {f : Nat → Nat → List Str → List Dat → Prop} {G : Prop} (h : vOb o f) (k : ∀ x C ns ds, o = some (.d (.ob x C ns ds)) → f x C ns ds → G) : G := by
  cases o with
  | none => exact h.elim
  | some v => cases v with
    | d d => cases d <;> first | exact k _ _ _ _ rfl h | exact h.elim
    | loc _ => exact h.elim
theorem oo_of {α : Type} {o : Option α} {x : α} {f : α → Prop} {g : Prop} (h : o = some x) (q : f x) : oo o f g := by subst h; exact q
noncomputable def evIn (n : Nat) (gf : Bool) (cx : Cx) (slf : Str) (x C : Nat) : Nat → List Stmt → St → (St → Prop) → Prop
  | 0, _, _, _ => False
  | m + 1, l, st, k => match l with
    | [] => k st
    | s :: r => (match s with
      | .Assign ts v _ => n1 ts (fun t => vAt t fun y a => gd (seq y slf && !(seq y "__debug__" || seq y "__classdict__")) <| evV n gf cx v st fun d st => vOb (look slf st.vars) fun x' C' ns ds => x' = x ∧ C' = C ∧ gd (stOk slf st && noOb d && okA a ns ds)
          (evIn n gf cx slf x C m r { st with vars := upV st.vars slf (.d (.ob x C (ns ++ [a]) (ds ++ [d]))) } k)) False
      | .If c t f _ => (ev n).t cx c st fun b st => bb b (evIn n gf cx slf x C m t st fun st => evIn n gf cx slf x C m r st k) (evIn n gf cx slf x C m f st fun st => evIn n gf cx slf x C m r st k)
      | _ => False)
section
variable {K : Params → Frag} {prog : Program} {w : World} {p : Program} {loose : List Str} {mg mb : Str → Option Value} {X : Fc} {cx : Cx} {A : Around}
noncomputable def PostI2 (X : Fc) (cx : Cx) (x C : Nat) (dx : Addr) (k : St → Prop) (O : AP) (s : Shared) (Q : Shared → Prop) : Prop :=
  ∀ st' s' O' as', k st' → Inv X cx O' as' st' s' → (∀ b o, b ≠ dx → Dt s.heap O b o → Dt s'.heap O' b o) → Dt s'.heap O' x (instObj C dx) → Q s'
theorem evIn_snd {n : Nat} (F : Fok K prog w p loose mg mb X cx) (ks : KSet (K w.params)) (a : AOk A cx) {gf : Bool} (hG : gf = true → ∃ c P, X.env.code = .ref c ∧ codeHdIn (K w.params) c P = true ∧ isTb P) {slf : Str} {x C : Nat} {dx : Addr} (Z : ObAt X dx) (nx : x ≠ dx) :
    ∀ (m : Nat) {l : List Stmt} {st : St} {k : St → Prop} {O : AP} {as : List Addr} {s : Shared} {Q : Shared → Prop}, evIn n gf cx slf x C m l st k → Inv X cx O as st s → Dt s.heap O x (instObj C dx) → PostI2 X cx x C dx k O s Q →
      wpAny (model prog w) A (execs l X.env) (fun fl s' => fl = .next ∧ Q s') NoE s
  | 0, l, st, k, O, as, s, Q, h, I, hx, Pq => h.elim
  | m + 1, l, st, k, O, as, s, Q, h, I, hx, Pq => by
    cases l with
    | nil => exact wpAny_execs_nil ⟨rfl, Pq _ _ _ _ h I (fun _ _ _ q => q) hx⟩
    | cons sx r =>
     cases sx with
     | Assign ts v pos =>
      refine n1_e h ?_ False.elim
      clear h
      intro t h
      refine vAt_e h ?_
      clear h
      intro y yp at_ ap h
      refine gd_k h ?_; clear h; rintro hy h
      refine oA (Bool.and_eq_true_iff.mp hy) ?_; intro hy1 hy2
      clear hy
      obtain rfl := (seq_iff _ _).mp hy1
      clear hy1
      rw [Bool.not_eq_true', Bool.or_eq_false_iff] at hy2
      refine wpAny_execs_cons ?_
      have val : ∀ {k' : KD} {Q' : Value → Shared → Prop}, evV n gf cx v st k' → PostD X cx k' O as s Q' → wpAny (model prog w) A (eval v X.env) Q' NoE s := fun {k' Q'} hv Pv => by
        clear h Pq
        refine bb_k hv (fun _ hv => gd_k hv fun g hv => ?_) fun _ hv => evD_snd (ev_snd n).1 F a hv I Pv
        refine oEEAA (hG g) ?_; intro c P hcode hcd tP
        exact evG_snd F a hcode hcd tP hv I Pv
      refine plainObj_wpAny_Assign_Attribute (val h fun d st₁ ud s₁ O₁ as₁ h1 h2 h3 h4 => ?_) (by cases v <;> rfl)
      clear h val
      refine vOb_k h1 ?_; clear h1; rintro x' C' ns ds hl h1
      refine oAA h1 ?_; clear h1; intro hx' hC' h1
      subst hx' hC'
      refine gd_k h1 ?_; clear h1; rintro hc h1
      · simp only [Bool.and_eq_true] at hc
        refine oA hc ?_; clear hc; rintro ⟨ok, nd⟩ oa
        unfold okA at oa
        simp only [Bool.and_eq_true, Bool.not_eq_true'] at oa
        refine oA oa ?_; clear oa; rintro ⟨⟨⟨o1, o2⟩, o3⟩, o4⟩ o5
        have o4 := Nat.le_of_ble_eq_true o4
        refine name_snd (k := fun v st => v = .d (.ob x' C' ns ds) ∧ st = st₁) F hy2.1 hy2.2 (oo_of hl ⟨rfl, rfl⟩) h2 fun v' st₂ u s₂ O₂ as₂ g1 g2 g3 g4 => ?_
        refine oA g1 ?_; clear g1; rintro rfl rfl
        have r0 : R (Dt s₂.heap O₂) (.ob x' C' ns ds) u := g4
        obtain ⟨z1, z2, dx', es, nn, vs, rfl, r1, r2, ⟨r3, rn⟩, r4⟩ := r0
        have e2 : Ex O as s O₂ as₂ s₂ := h3.trans g3
        have hx₂ := e2.dt _ _ hx
        have hdx : dx' = dx := by
          have := r1.1.symm.trans hx₂.1
          simpa using this
        subst hdx
        have hna : at_ ∉ ns := fun q => by
          rw [List.any_eq_false] at o2
          exact o2 _ q ((seq_iff _ _).mpr rfl)
        have hA : at_ ∈ attrs := by
          refine oEA (List.any_eq_true.mp o1) ?_; intro y' hy' e
          rw [← (seq_iff _ _).mp e]; exact hy'
        have hnf : ns ∉ fulls := fun q => by
          rw [List.any_eq_false] at o3
          exact o3 _ q (seqL_iff.mpr rfl)
        have hg := ent_none r3 hna
        have hany : es.any (·.key.isStr at_) = false := by
          have := (ent_find r3 hna).1
          rw [List.any_eq_false]
          intro e he hk
          rw [List.find?_eq_none] at this
          exact this e he hk
        have hlen := r3.len
        refine oA (ks.sa C' z1) ?_; intro k1 k2
        refine set_at (F.base.X.keeps g2.wd.keep) r2.1 ⟨r1.1, rfl, rfl, r2.1⟩ rfl k1 k2 (ks.tk C' at_ z1 hA) (F.kok.cl C' z1).2.1 (by rw [hg]; rfl) (by rw [putL_new hany]; simp; omega) fun h' hn hsb => ?_
        rw [putL_new hany] at hn
        have hp : ∀ o, s₂.heap.get? dx' = some o → PartD o := fun o e => by
          rw [r2.1] at e; cases e
          exact ⟨es, nn, ns, vs, rfl, r3, hnf⟩
        have up : ∀ b o, b ≠ dx' → Dt s₂.heap O₂ b o → Dt h' O₂ b o := fun b o ne q => ⟨(hsb.2 b ne).trans q.1, q.2⟩
        have hp' : ∀ o, Dt s₂.heap O₂ dx' o → PartD o := fun o q => hp o q.1
        obtain ⟨J, q1, q2⟩ := g2.reobj (ns' := ns ++ [at_]) (ds' := ds ++ [d]) (vs' := vs ++ [ud]) (t := s₂.toks + 2) Z hl hx₂ r2.2 hp hsb hn ok (fun y' hy' => by
          rcases List.mem_append.mp hy' with hy' | hy'
          · exact z2 _ hy'
          · rw [List.mem_singleton.mp hy']; exact hA) r3.snoc (by unfold putN; rw [hany, rn]; simp) ((RL.avoid hp' up ds o5 r4).append (.cn (R.avoid hp' up d nd (h4.ex g3)) .nl))
        show wpAny _ A (execs r X.env) _ NoE _
        exact evIn_snd F ks a hG Z nx m h1 J q2 fun st' s' O' as' p1 p2 p3 p4 => Pq _ _ _ _ p1 p2 (fun b o ne q => p3 b o ne (q1 b o ne (e2.dt b o q))) p4
     | If c' t f pos =>
      refine wpAny_execs_cons (wpAny_If ((ev_snd n).2.1 cx X A F a c' st _ O as s _ h I fun b st₁ s₁ O₁ as₁ h1 h2 h3 => ?_))
      have hx₁ := h3.dt _ _ hx
      have fin : ∀ {body : List Stmt}, evIn n gf cx slf x C m body st₁ (fun st => evIn n gf cx slf x C m r st k) → wpAny (model prog w) A (execs body X.env) (fun f s' => match f with | .next => wpAny (model prog w) A (execs r X.env) (fun fl s' => fl = .next ∧ Q s') NoE s' | f => f = .next ∧ Q s') NoE s₁ := fun {body} hb => by
        refine wpAny_mono (evIn_snd F ks a hG Z nx m hb h2 hx₁ (Q := fun s' => wpAny (model prog w) A (execs r X.env) (fun fl s' => fl = .next ∧ Q s') NoE s') fun st₂ s₂ O₂ as₂ g1 g2 g3 g4 => ?_) (fun fl s' q => by refine oA q ?_; clear q; rintro rfl q; exact q) fun _ _ q => q
        exact evIn_snd F ks a hG Z nx m g1 g2 g4 fun st' s' O' as' p1 p2 p3 p4 => Pq _ _ _ _ p1 p2 (fun b o ne q => p3 b o ne (g3 b o ne (h3.dt b o q))) p4
      cases b with
      | true => exact fin h1
      | false => exact fin h1
     | _ => exact h.elim
end
end
section
open PyProof.Rows.LCg
noncomputable def finD (C : Nat) (ns : List Str) (ds : List Dat) (k : Dat → Prop) : Prop :=
  nE C 183 (gd (seqL ns ["field_modulus", "n"]) <| l2 ds fun a d => dP a fun p => oJ (intOf d) fun x => (0 ≤ x.1 ∧ x.1 < p) ∧ k (.fq p x.1)) <|
  nE C 297 (gd (seqL ns ["field_modulus", "coeffs", "modulus_coeffs", "degree"]) <| l4 ds fun u v w z => dP u fun p => t2 v fun v1 v2 => dF v1 fun p1 a => dF v2 fun p2 b => j2 w fun m1 m0 => dL z fun dg =>
    (p1 = p ∧ p2 = p ∧ m1 = 1 ∧ m0 = 0 ∧ dg = 2) ∧ k (.fqp p a b)) <|
  nE C 486 (gd (seqL ns ["field_modulus", "mc_tuples", "coeffs", "modulus_coeffs", "degree"]) <| l5 ds fun u s v w z => dP u fun p => dS s fun l => l1 l fun l => j2 l fun i c => t2 v fun d1 d2 => j2 w fun m1 m0 => dL z fun dg =>
    oJ (intOf d1) fun x => oJ (intOf d2) fun y => (i = 0 ∧ c = 1 ∧ m1 = 1 ∧ m0 = 0 ∧ dg = 2) ∧ (0 ≤ x.1 ∧ x.1 < p) ∧ (0 ≤ y.1 ∧ y.1 < p) ∧ k (.fq2 p x.1 y.1)) False
theorem ent_step {φ : Fm} {y : Str} {ns : List Str} {d : Dat} {ds : List Dat} {vs : List Value} {es : List DictEntry} (h : EntOk (y :: ns) vs es) (r : RL φ (d :: ds) vs) : ∃ v g t es' vs', es = ⟨g, .str y t, v⟩ :: es' ∧ R φ d v ∧ EntOk ns vs' es' ∧ RL φ ds vs' := by
  match vs, es, h with
  | v :: vs, ⟨hsh, key, val⟩ :: es, ⟨⟨t, a⟩, b, c⟩ =>
    subst a; subst b
    refine oEEAA r.get2 ?_; intro u w e ra rb
    cases e
    exact ⟨_, hsh, t, es, vs, rfl, ra, c, rb⟩
  | [], _, h => exact h.elim
  | _ :: _, [], h => exact h.elim
theorem ent_nil {vs : List Value} {es : List DictEntry} (h : EntOk [] vs es) : es = [] := by
  match vs, es, h with
  | [], [], _ => rfl
  | [], _ :: _, h => exact h.elim
  | _ :: _, _, h => exact h.elim
section
variable {φ : Fm} {v : Value}
theorem R.lit_ {n : Int} (r : R φ (.lit n) v) : ∃ t, v = .int n t := by exact r
theorem R.prm_ {n : Int} (r : R φ (.prm n) v) : Pr n ∧ ∃ t, v = .int n t := by exact r
theorem RL.two_ {a b : Dat} {vs : List Value} (r : RL φ [a, b] vs) : ∃ u w, vs = [u, w] ∧ R φ a u ∧ R φ b w := by
  refine oEEAA r.get2 ?_; rintro u l rfl ra r
  refine oEEAA r.get2 ?_; rintro w l rfl rb r
  exact ⟨u, w, by rw [r.get0], ra, rb⟩
theorem R.tup2_ {a b : Dat} (r : R φ (.tup [a, b]) v) : ∃ x n u w, v = .ref x ∧ φ x (tupN [u, w] n) ∧ R φ a u ∧ R φ b w := by
  obtain ⟨x, n, l, e, h, r⟩ := r
  refine oEEAA r.two_ ?_; rintro u w rfl ra rb
  exact ⟨x, n, u, w, e, h, ra, rb⟩
theorem R.lits_ {a b : Int} (r : R φ (.tup [.lit a, .lit b]) v) : ∃ x n t u, v = .ref x ∧ φ x (tupN [.int a t, .int b u] n) := by
  refine oEEEEAAA r.tup2_ ?_; intro x n u w e h ra rb
  refine oE ra.lit_ ?_; rintro t rfl
  refine oE rb.lit_ ?_; rintro t' rfl
  exact ⟨x, n, t, t', e, h⟩
end
theorem finD_R {φ : Fm} {C : Nat} {x dx : Addr} {ns : List Str} {ds : List Dat} {vs : List Value} {es : List DictEntry} {n : Nat} {k : Dat → Prop} (h : finD C ns ds k) (h1 : φ x (instObj C dx)) (h2 : φ dx (dictOf es n)) (he : EntOk ns vs es) (hn : n = ns.length) (hr : RL φ ds vs) : ∃ d, k d ∧ R φ d (.ref x) := by
  refine nE_k h ?_ ?_ <;> clear h
  · rintro rfl h
    refine gd_k h ?_; clear h; rintro hs h
    obtain rfl := seqL_iff.mp hs
    refine l2_k h ?_; clear h; rintro a d rfl h
    refine dP_k h ?_; clear h; rintro p rfl h
    refine oJ_k h ?_; clear h; rintro ⟨nn, B⟩ hi ⟨hr0, hk⟩
    refine ⟨_, hk, ?_⟩
    subst hn
    clear hk hs
    obtain ⟨v1, g1, t1, es, vs, rfl, ra, he, hr⟩ := ent_step he hr
    obtain ⟨v2, g2, t2, es, vs, rfl, rb, he, hr⟩ := ent_step he hr
    obtain rfl := ent_nil he
    refine oAE ra.prm_ ?_; rintro hP t3 rfl
    refine oAE (intOf_R hi rb) ?_; rintro _ t4 rfl
    exact ⟨x, dx, g1, g2, t1, t3, t2, t4, rfl, h1, h2, hP, hr0.1, hr0.2⟩
  intro h
  refine nE_k h ?_ ?_ <;> clear h
  · rintro rfl h
    refine gd_k h ?_; clear h; rintro hs h
    obtain rfl := seqL_iff.mp hs
    refine l4_k h ?_; clear h; rintro u v w z rfl h
    refine dP_k h ?_; clear h; rintro p rfl h
    refine t2_k h ?_; clear h; rintro v1 v2 rfl h
    refine dF_k h ?_; clear h; rintro p1 a rfl h
    refine dF_k h ?_; clear h; rintro p2 b rfl h
    refine j2_k h ?_; clear h; rintro m1 m0 rfl h
    refine dL_k h ?_; clear h; rintro dg rfl h
    refine oA h ?_; clear h; rintro ⟨rfl, rfl, rfl, rfl, rfl⟩ hk
    refine ⟨_, hk, ?_⟩
    subst hn
    clear hk hs
    obtain ⟨v1, g1, t1, es, vs, rfl, ra, he, hr⟩ := ent_step he hr
    obtain ⟨v2, g2, t2, es, vs, rfl, rb, he, hr⟩ := ent_step he hr
    obtain ⟨v3, g3, t3, es, vs, rfl, rc, he, hr⟩ := ent_step he hr
    obtain ⟨v4, g4, t4, es, vs, rfl, rd, he, hr⟩ := ent_step he hr
    obtain rfl := ent_nil he
    clear he hr
    refine oAE ra.prm_ ?_; rintro hP w1 rfl
    refine oEEEEAAA rb.tup2_ ?_; rintro tc n2 q0 q1 rfl b1 b4 b6
    refine oEEEEA rc.lits_ ?_; rintro tm n3 w2 w3 rfl c1
    refine oE rd.lit_ ?_; rintro w4 rfl
    exact ⟨x, dx, tc, tm, q0, q1, n2, n3, w2, w3, g1, g2, g3, g4, t1, w1, t2, t3, t4, w4, rfl, h1, h2, b1, b4, b6, c1⟩
  intro h
  refine nE_k h ?_ ?_ <;> clear h
  · rintro rfl h
    refine gd_k h ?_; clear h; rintro hs h
    obtain rfl := seqL_iff.mp hs
    refine l5_k h ?_; clear h; rintro u s v w z rfl h
    refine dP_k h ?_; clear h; rintro p rfl h
    refine dS_k h ?_; clear h; rintro l rfl h
    refine l1_k h ?_; clear h; rintro l rfl h
    refine j2_k h ?_; clear h; rintro i c rfl h
    refine t2_k h ?_; clear h; rintro d1 d2 rfl h
    refine j2_k h ?_; clear h; rintro m1 m0 rfl h
    refine dL_k h ?_; clear h; rintro dg rfl h
    refine oJ_k h ?_; clear h; rintro ⟨a, Ba⟩ ha h
    refine oJ_k h ?_; clear h; rintro ⟨b, Bb⟩ hb h
    refine oAAA h ?_; clear h; rintro ⟨rfl, rfl, rfl, rfl, rfl⟩ hA hB hk
    refine ⟨_, hk, ?_⟩
    subst hn
    clear hk hs
    obtain ⟨v1, g1, t1, es, vs, rfl, ra, he, hr⟩ := ent_step he hr
    obtain ⟨v2, g2, t2, es, vs, rfl, rb, he, hr⟩ := ent_step he hr
    obtain ⟨v3, g3, t3, es, vs, rfl, rc, he, hr⟩ := ent_step he hr
    obtain ⟨v4, g4, t4, es, vs, rfl, rd, he, hr⟩ := ent_step he hr
    obtain ⟨v5, g5, t5, es, vs, rfl, re, he, hr⟩ := ent_step he hr
    obtain rfl := ent_nil he
    clear he hr
    refine oAE ra.prm_ ?_; rintro hP w1 rfl
    obtain ⟨lm, n2, l2, rfl, b1, b2⟩ := rb
    refine oEEAA b2.get2 ?_; rintro mt b3 rfl b4 b2
    obtain rfl := b2.get0
    refine oEEEEA b4.lits_ ?_; rintro mta n3 w2 w3 rfl b5
    refine oEEEEAAA rc.tup2_ ?_; rintro tc n4 q0 q1 rfl c1 c4 c6
    refine oEEEEA rd.lits_ ?_; rintro tm n5 w4 w5 rfl f1
    refine oE re.lit_ ?_; rintro w6 rfl
    refine oAE (intOf_R ha c4) ?_; rintro _ w7 rfl
    refine oAE (intOf_R hb c6) ?_; rintro _ w8 rfl
    exact ⟨x, dx, lm, mta, tc, tm, n4, n5, n2, n3, w4, w5, w2, w3, w7, w8, g1, g3, g4, g5, g2, t1, w1, t3, t4, t5, w6, t2, rfl, h1, h2, c1, f1, b1, b5, ⟨hP, hA.1, hA.2⟩, ⟨hP, hB.1, hB.2⟩⟩
  · intro h
    exact h.elim
end
section
open PyProof.Rows.LCg
noncomputable def tabOf (K : Frag) (cd : Value) : Bool := match cd with
  | .ref c => codeHdIn K c 196 || codeHdIn K c 345
  | _ => false
noncomputable def vRf (v : Value) (f : Addr → Prop) : Prop := match v with | .ref a => f a | _ => False
theorem vRf_k {v : Value} {f : Addr → Prop} {G : Prop} (h : vRf v f) (k : ∀ a, v = .ref a → f a → G) : G := by cases v <;> first | exact k _ rfl h | exact h.elim
noncomputable def vHd {α : Type} (l : List α) (f : α → List α → Prop) : Prop := match l with | [] => False | a :: r => f a r
theorem vHd_k {α : Type} {l : List α} {f : α → List α → Prop} {G : Prop} (h : vHd l f) (k : ∀ a r, l = a :: r → f a r → G) : G := by cases l <;> first | exact k _ _ rfl h | exact h.elim
@[irreducible] noncomputable def runC (K : Frag) (gam : List Ctr) (D U : Nat) (C : Nat) (args : List Dat) (orc : List Bool) (k : Dat → List Bool → Prop) : Prop :=
  oJ (findIn K (.ref C) "__init__") fun v => oJ v fun v => vRf v fun f => oJ (K.lookup f) fun o => vFn o.data fun fd => vSt fd.body fun body => vHd fd.params.args fun a0 ps =>
    gd (fdOk fd && codeIn K fd.code fd.qualname && makesIn K C && isFn K (.ref f) && (Nat.beq C 183 || Nat.beq C 297 || Nat.beq C 486) && Nat.blt (D + 60) 1000 && Nat.blt (U + 400) cLine) <|
      ∀ x : Nat, oJ (zipA (a0 :: ps) (.ob x C [] [] :: args)) fun vs => evIn 60 (tabOf K fd.code) ⟨fun x => look x fd.scope.names, gam, D + 20, U + 100⟩ a0.arg x C 40 body ⟨vs, [], orc⟩ fun st => vOb (look a0.arg st.vars) fun x' C' ns ds => x' = x ∧ C' = C ∧ finD C ns ds fun d => k d st.orc
theorem Inv.var {X : Fc} {cx : Cx} {O : AP} {as : List Addr} {st : St} {s : Shared} (I : Inv X cx O as st s) {y : Str} {d : Dat} (h : look y st.vars = some (.d d)) : ∃ u, R (Dt s.heap O) d u := by
  by_cases hk : cx.kind y = some .local
  · refine oEA I.ns ?_; intro m _ hv
    refine oEA (hv y _ h hk) ?_; intro u _ r
    exact ⟨u, r⟩
  · refine oEEEAAAA (I.cells y _ h hk) ?_; intro c o u _ _ _ _ r
    exact ⟨u, r⟩
theorem runC_ok {K : Params → Frag} (hK : ∀ P, KOk (K P)) (hS : ∀ P, KSet (K P)) {c : Ctr} {gam : List Ctr} (hg : ∀ c' ∈ gam, c'.Ok K) (h : ∀ P ds orc k, FaL ds → c.T ds orc k → runC (K P) gam c.D c.U c.f ds orc k) : c.Ok K := by
  intro prog w p loose mg mb g O s ds vs orc k Q E B last W rl ht P
  have h := h w.params ds orc k (RL.fa ds rl) ht
  unfold runC at h
  refine oJ_k h ?_; clear h; rintro v hfind h
  refine oJ_k h ?_; clear h; rintro v0 hv h
  subst hv
  refine vRf_k h ?_; clear h; rintro f hv h
  subst hv
  refine oJ_k h ?_; clear h; rintro o hl h
  refine vFn_k h ?_; clear h; rintro fd hd h
  refine vSt_k h ?_; clear h; rintro body hbody h
  refine vHd_k h ?_; clear h; rintro a0 ps hargs h
  refine gd_k h ?_; clear h; rintro hb h
  simp only [Bool.and_eq_true] at hb
  refine oA hb ?_; clear hb; rintro ⟨⟨⟨⟨⟨hfd, hcode⟩, hm⟩, hfn⟩, hC⟩, hD⟩ hU
  have fo := fdOk_ok hfd
  have hD := Nat.le_of_ble_eq_true hD
  have hU := Nat.le_of_ble_eq_true hU
  have hCc : c.f = 183 ∨ c.f = 297 ∨ c.f = 486 := by
    rw [Bool.or_eq_true, Bool.or_eq_true] at hC
    rcases hC with (q | q) | q
    · exact .inl (Nat.eq_of_beq_eq_true q)
    · exact .inr (.inl (Nat.eq_of_beq_eq_true q))
    · exact .inr (.inr (Nat.eq_of_beq_eq_true q))
  have h := h (s.heap.objs.size + 1)
  refine oJ_k h ?_; clear h; rintro vars hz h
  · have Xs := B.X.keeps W.keep
    refine noE (wpAny_call ?_)
    obtain ⟨hh, gs, dr, tk, os⟩ := s
    dsimp only at h hz W Xs rl
    refine make_core (makes_of Xs hm) (looks_findIn Xs hfind) (fun self => bind_fn Xs self (beq_iff_eq.mp hfn)) (.inl rfl) ?_
    have k2 : Kp hh ((hh.push emptyDict).push (instObj c.f hh.objs.size)) := fun b o e => Heap.get?_push_of_some _ (Heap.get?_push_of_some _ e)
    have hx : ((hh.push emptyDict).push (instObj c.f hh.objs.size)).get? (hh.objs.size + 1) = some (instObj c.f hh.objs.size) := by heap_get
    have hdx : ((hh.push emptyDict).push (instObj c.f hh.objs.size)).get? hh.objs.size = some emptyDict := by heap_get
    have sz : ((hh.push emptyDict).push (instObj c.f hh.objs.size)).objs.size = hh.objs.size + 2 := by rw [Heap.size_push, Heap.size_push]
    generalize (hh.push emptyDict).push (instObj c.f hh.objs.size) = h2 at k2 hx hdx sz
    have W2 : Wd g O ⟨h2, gs, dr, tk, os⟩ := W.kt (s' := ⟨h2, gs, dr, tk, os⟩) (fun b o _ e => k2 b o e) W.bare (W.tabs.of fun a o _ => k2 a o)
    have nO : ∀ {b : Addr}, hh.objs.size ≤ b → ¬ O b := fun {b} hb q => by refine oE (W.alive b q) ?_; intro o e; exact absurd (Heap.lt_size e) (Nat.not_lt.mpr hb)
    have X2 := Xs.keeps k2
    have up2 : ∀ a o, Dt hh O a o → Dt h2 O a o := fun a o q => ⟨k2 a o q.1, q.2⟩
    have rl2 : RL (Dt h2 O) (.ob (hh.objs.size + 1) c.f [] [] :: ds) (.ref (hh.objs.size + 1) :: vs) := .cn (by
      exact ⟨hCc, (fun _ q => nomatch q), hh.objs.size, [], 0, [], rfl, ⟨hx, nO (Nat.le_succ _)⟩, ⟨hdx, nO (Nat.le_refl _)⟩, ⟨trivial, rfl⟩, .nl⟩) (RL.mono up2 _ rl)
    rw [← hargs] at hz
    have hlen : (fd.params.args.map (·.arg)).length = (Value.ref (hh.objs.size + 1) :: vs).length := (List.length_map ..).trans ((zipA_len hz).trans rl2.length.symm)
    have hw1 : (Around.under (AA c.D c.U) (.builtin "type.__call__" ⟨.ref c.f :: vs, []⟩)).depth ≤ c.D + 19 := Nat.add_le_add_left (Nat.le_of_ble_eq_true rfl) c.D
    have hw2 : (Around.under (AA c.D c.U) (.builtin "type.__call__" ⟨.ref c.f :: vs, []⟩)).units ≤ c.U + 97 := Nat.add_le_add_left (Nat.le_of_ble_eq_true rfl) c.U
    refine codeAny_call_function (fd := fd) (o := o) (Nat.lt_of_le_of_lt hw1 (Nat.lt_of_le_of_lt (Nat.add_le_add_left (by decide) _) hD)) (X2 _ _ hl) hd fo.co fo.ge hbody (codeRec_of X2 hcode) ?_
    refine BindsTo.of_eq (bindArgs_plain fo.po fo.ko fo.va fo.kw fo.df hlen fo.nd) _ _ _ _ ?_
    rw [fo.cl]
    refine wpAny_newFunctionEnv_cells fo.kd (kindsX (List.all_eq_true.mpr fun y hy => ?_) _) fun env he s' x => ?_
    · refine oEA (List.mem_map.mp (mem_zip_fst hy)) ?_; intro a ha e
      rw [← e]
      rcases fo.lc a ha with q | q <;> rw [q] <;> rfl
    · have hkeep := x.toInCall.keep
      refine ⟨(B.T.nolimit.keeps fun b o e => k2 _ _ (W.keep b o e)).keeps hkeep, codeAny_func ?_⟩
      refine oEEA x.done ?_; rintro h₁ tk' rfl _
      have hkind : ∀ y, env.kindOf y = look y fd.scope.names := fun y => by rw [he, look_eq]; rfl
      have hloc : env.locals = h2.objs.size := by rw [he]; rfl
      have hcel : env.cells = cellsFrom (h2.objs.size + 1) fd.scope.names [] := by rw [he]; rfl
      have hvb := vars_bind (ps := fd.params.args) env.kindOf (fun _ => none) (fun _ => none) hz rl2 fo.nd
      obtain ⟨I, ed⟩ := Inv.enter (g := g) (env := env) (s := ⟨h2, gs, dr, tk, os⟩) (s' := ⟨h₁, gs, dr, tk', os⟩) (cx := ⟨fun x => look x fd.scope.names, gam, c.D + 20, c.U + 100⟩) (vars := vars) (orc := orc) W2 last hkeep ⟨W.bare, rfl, rfl, GK.refl _⟩ hloc (Nat.le_refl _) (hloc ▸ x.toInCall.ns)
        (fun y v h1 h2 => by
          obtain ⟨_, d, u, e1, e2, e3, _⟩ := hvb y v h1
          exact ⟨d, u, e1, e3 ((hkind y).trans h2), e2⟩)
        (fun y v h1 hnl => by
          obtain ⟨⟨a, ha, ea⟩, d, u, e1, e2, _, e4⟩ := hvb y v h1
          have hk : fd.scope.names.lookup y = some .cell := by
            rcases fo.lc a ha with q | q
            · rw [ea, ← look_eq] at q; exact absurd q hnl
            · rw [ea] at q; exact q
          have hs := cellsFrom_some (x := y) fd.scope.names (h2.objs.size + 1) [] (.inl hk)
          refine oE (Option.isSome_iff_exists.mp hs) ?_; intro ca hca
          rw [← hcel] at hca
          refine oEA (x.cell y ca hca) ?_; intro o o1 o2
          refine ⟨d, ca, o, u, e1, .inl ((look_eq _ _).trans hk), hca, o1, ?_, o2.trans ?_, e2⟩
          · have := x.above y ca (look_memA hca); rw [hloc] at this; exact this
          · rw [e4 (fun q => hnl ((hkind y).symm.trans q))])
      have F : Fok K prog w p loose mg mb (eFc g env ⟨h2, gs, dr, tk, os⟩ O) ⟨fun x => look x fd.scope.names, gam, c.D + 20, c.U + 100⟩ :=
        ⟨B, last, hK w.params, hkind, by rw [he]; exact fo.kd, by rw [he]; exact fo.gl, by rw [he]; exact fo.bu, hg⟩
      have A' : AOk (Around.deeper (Around.under (AA c.D c.U) (.builtin "type.__call__" ⟨.ref c.f :: vs, []⟩)) env) ⟨fun x => look x fd.scope.names, gam, c.D + 20, c.U + 100⟩ := ⟨rfl, Nat.succ_le_succ hw1, Nat.add_le_add_right hw2 3, Nat.lt_of_le_of_lt (Nat.add_le_add_left (by decide) _) hD, Nat.lt_of_le_of_lt (Nat.add_le_add_left (by decide : 200 ≤ 400) _) hU⟩
      have Z : ObAt (eFc g env ⟨h2, gs, dr, tk, os⟩ O) hh.objs.size := ⟨fun q => by refine oEA (W.tabs _ q) ?_; intro ps e _; exact absurd (Heap.lt_size e) (Nat.lt_irrefl _), by
        cases q : g.get? hh.objs.size with
        | none => rfl
        | some o => exact absurd (Heap.lt_size (W.keep _ _ q)) (Nat.lt_irrefl _), fun o q => nO (Nat.le_refl _) q.2.1, by rw [hloc, sz]; exact Nat.ne_of_lt (Nat.lt_add_of_pos_right (by decide))⟩
      have hG : tabOf (K w.params) fd.code = true → ∃ c P, env.code = .ref c ∧ codeHdIn (K w.params) c P = true ∧ isTb P := fun q => by
        have ec : env.code = fd.code := by rw [he]; rfl
        rw [ec]
        revert q
        generalize fd.code = cd
        intro q
        cases cd with
        | ref cc =>
          rcases Bool.or_eq_true_iff.mp q with q | q
          · exact ⟨_, 196, rfl, q, .inl rfl⟩
          · exact ⟨_, 345, rfl, q, .inr rfl⟩
        | _ => cases q
      refine wpAny_mono (evIn_snd F (hS w.params) A' hG Z (Nat.succ_ne_self _) 40 h I (ed _ _ ⟨hx, nO (Nat.le_succ _)⟩) (Q := fun s' => Q (.ref (hh.objs.size + 1)) s') fun st' s' O' as' q1 q2 q3 q4 => ?_) (fun fl s' q => ?_) fun _ _ y => y.elim
      · refine vOb_k q1 ?_; clear q1; rintro x' C' ns' ds' hlk q1
        · refine oAA q1 ?_; clear q1; rintro rfl rfl q1
          refine oE (q2.var hlk) ?_; intro u r
          obtain ⟨_, _, dx', es', n', vs', rfl, r1, r2, ⟨r3, r4⟩, r5⟩ := r
          refine oEA (finD_R q1 r1 r2 r3 r4 r5) ?_; intro d kd rd
          have kt : Kt hh s'.heap := fun b o nt e => by
            by_cases q : O b
            · exact q2.ref b o ⟨k2 _ _ e, q, nt⟩
            · exact (q3 b o (Nat.ne_of_lt (Heap.lt_size e)) (ed b o ⟨k2 _ _ e, q⟩)).1
          exact P d _ _ s' kd kt q2.gs q2.wd.tabs (R.mono (fun a o q => ⟨q.1, fun z => q.2 (q2.sub a z)⟩) _ rd)
      · refine oA q ?_; clear q; rintro rfl q
        exact ⟨rfl, q⟩
end
section
open PyProof.Rows.LCg
noncomputable def vVd (o : Option Val) (f : Dat → Prop) : Prop := oJ o fun v => vD v f
theorem vVd_k {o : Option Val} {f : Dat → Prop} {G : Prop} (h : vVd o f) (k : ∀ d, o = some (.d d) → f d → G) : G := oJ_k h fun v e h => vD_e (m := fun v => o = some v → G) h (fun d h e => k d e h) e
noncomputable def wI (o : Option Val) (f : Int → Prop) : Prop := vVd o fun d => oJ (intOf d) fun a => f a.1
theorem wI_k {o : Option Val} {f : Int → Prop} {G : Prop} (h : wI o f) (k : ∀ d n B, o = some (.d d) → intOf d = some (n, B) → f n → G) : G := vVd_k h fun d e h => oJ_k h fun a e2 h => k d a.1 a.2 e e2 h
theorem look_c {α : Type} {x y : Str} {v w : α} {r : List (Str × α)} (h : look x ((y, v) :: r) = some w) : x = y ∧ v = w ∨ look x r = some w := by
  unfold look at h
  cases e : seq x y with
  | true => rw [e] at h; exact .inl ⟨(seq_iff _ _).mp e, Option.some.inj h⟩
  | false => rw [e] at h; exact .inr h
noncomputable def vWh (s : Stmt) (f : Expr → List Stmt → Prop) (g : Prop) : Prop := match s with
  | .While c b els _ => (match els with | [] => f c b | _ :: _ => g)
  | _ => g
theorem vWh_k {s : Stmt} {f : Expr → List Stmt → Prop} {g G : Prop} (h : vWh s f g) (k1 : ∀ c b p, s = .While c b [] p → f c b → G) (k2 : g → G) : G := by
  cases s with
  | While c b els p => cases els <;> first | exact k1 _ _ _ rfl h | exact k2 h
  | _ => exact k2 h
noncomputable def W4 (k : Int → Int → Int → Int → Prop) (p : Int) (orc : List Bool) (st : St) : Prop :=
  vVd (look "n" st.vars) fun e => dP e fun q => wI (look "lm" st.vars) fun a => wI (look "hm" st.vars) fun b => wI (look "low" st.vars) fun c => wI (look "high" st.vars) fun d =>
    (q = p ∧ st.own = [] ∧ st.orc = orc) ∧ (a.natAbs ≤ 127 ∧ b.natAbs ≤ 127 ∧ c.natAbs ≤ 127 ∧ d.natAbs ≤ 127) ∧ k a b c d
noncomputable def S4 (p a b c d : Int) (orc : List Bool) : St := ⟨[("n", .d (.prm p)), ("lm", .d (.int a 127)), ("hm", .d (.int b 127)), ("low", .d (.int c 127)), ("high", .d (.int d 127))], [], orc⟩
noncomputable def evW (n : Nat) (cx : Cx) (p : Int) (orc : List Bool) (J : Nat → Int → Int → Int → Int → Prop) : List Stmt → St → (Fl → St → Prop) → Prop
  | [], st, k => k .next st
  | s :: r, st, k => vWh s (fun c b => W4 (fun a b c d => ∃ m, J m a b c d) p orc st ∧ ∀ m a b' c' d, J m a b' c' d → (ev n).t cx c (S4 p a b' c' d orc) fun t st => bb t ((ev n).s cx b st fun fl st => (match fl with | .next => W4 (fun a b c d => ∃ m', m' < m ∧ J m' a b c d) p orc st | _ => False)) ((ev n).s cx r st k)) <|
      (ev n).s cx [s] st fun fl st => (match fl with | .next => evW n cx p orc J r st k | fl => k fl st)
theorem exec_one {M : Model} {A : Around} {E : Value → Shared → Prop} {s : Shared} {env : Env} {t : Stmt} {Q : Flow → Shared → Prop} (h : wpAny M A (execs [t] env) Q E s) : wpAny M A (exec t env) Q E s := fun Γ p hΓ => by
  have q := h Γ p hΓ
  rw [execs_cons, Sem.wp_bind'] at q
  exact Sem.wp_mono M Γ _ (fun f p' s' h' => by cases f <;> exact h') (fun _ _ _ h' => h') _ _ q
section
variable {K : Params → Frag} {prog : Program} {w : World} {p : Program} {loose : List Str} {mg mb : Str → Option Value} {X : Fc} {cx : Cx} {A : Around} {O : AP} {as : List Addr} {st st' : St} {s : Shared}
theorem Inv.le (I : Inv X cx O as st s) (hv : ∀ x v', look x st'.vars = some v' → ∃ d d', look x st.vars = some (.d d) ∧ v' = .d d' ∧ (∀ φ u, R φ d u → R φ d' u)) (ho : st'.own = st.own) : Inv X cx O as st' s := by
  refine ⟨I.wd, I.ref, I.reft, I.gs, I.sub, I.LO, I.LR, I.LT, I.above, ?_, fun x v h1 h2 => ?_, ho ▸ I.own⟩
  · refine oEA I.ns ?_; intro m hm hx
    refine ⟨m, hm, fun x v h1 h2 => ?_⟩
    refine oEEAA (hv x v h1) ?_; rintro d d' e1 rfl e2
    refine oEA (hx x _ e1 h2) ?_; intro u e3 e4
    exact ⟨u, e3, e2 _ _ e4⟩
  · refine oEEAA (hv x v h1) ?_; rintro d d' e1 rfl e2
    refine oEEEAAAA (I.cells x _ e1 h2) ?_; intro c o u e3 e4 e5 e6 e7
    exact ⟨c, o, u, e3, e4, e5, e6, e2 _ _ e7⟩
theorem R.i_of {φ : Fm} {d : Dat} {n : Int} {B : Nat} {u : Value} (h : intOf d = some (n, B)) (hn : n.natAbs ≤ 127) (r : R φ d u) : R φ (.int n 127) u := by
  refine oAE (intOf_R h r) ?_; rintro _ t rfl
  exact R.int hn
theorem W4_inv {k : Int → Int → Int → Int → Prop} {p : Int} {orc : List Bool} (h : W4 k p orc st) (I : Inv X cx O as st s) : ∃ a b c d, k a b c d ∧ Inv X cx O as (S4 p a b c d orc) s := by
  refine vVd_k h ?_; clear h; rintro d0 h0 h
  refine dP_k h ?_; clear h; rintro q rfl h
  refine wI_k h ?_; clear h; rintro d1 a A0 h1 i1 h
  refine wI_k h ?_; clear h; rintro d2 b B0 h2 i2 h
  refine wI_k h ?_; clear h; rintro d3 c C0 h3 i3 h
  refine wI_k h ?_; clear h; rintro d4 d D0 h4 i4 h
  refine oAA h ?_; clear h; rintro ⟨rfl, ho, rfl⟩ ⟨n1, n2, n3, n4⟩ hk
  refine ⟨a, b, c, d, hk, I.le (fun x v' hx => ?_) ho.symm⟩
  clear hk I
  rcases look_c hx with ⟨rfl, rfl⟩ | hx
  · exact ⟨_, _, h0, rfl, fun _ _ r => r⟩
  rcases look_c hx with ⟨rfl, rfl⟩ | hx
  · exact ⟨_, _, h1, rfl, fun _ _ r => R.i_of i1 n1 r⟩
  rcases look_c hx with ⟨rfl, rfl⟩ | hx
  · exact ⟨_, _, h2, rfl, fun _ _ r => R.i_of i2 n2 r⟩
  rcases look_c hx with ⟨rfl, rfl⟩ | hx
  · exact ⟨_, _, h3, rfl, fun _ _ r => R.i_of i3 n3 r⟩
  rcases look_c hx with ⟨rfl, rfl⟩ | hx
  · exact ⟨_, _, h4, rfl, fun _ _ r => R.i_of i4 n4 r⟩
  · exact no_some hx
theorem W4_loop {n : Nat} {pp : Int} {orc : List Bool} {J : Nat → Int → Int → Int → Int → Prop} (F : Fok K prog w p loose mg mb X cx) (a : AOk A cx) {c : Expr} {b r : List Stmt} {pos : Pos} {k : Fl → St → Prop} {Q : Flow → Shared → Prop}
    (h : ∀ (m : Nat) (a b' c' d : Int), J m a b' c' d → (ev n).t cx c (S4 pp a b' c' d orc) fun t st => bb t ((ev n).s cx b st fun fl st => (match fl with | .next => W4 (fun a b c d => ∃ m', m' < m ∧ J m' a b c d) pp orc st | _ => False)) ((ev n).s cx r st k)) : ∀ (m : Nat) {x y z t : Int} {O : AP} {as : List Addr} {s : Shared}, J m x y z t → Inv X cx O as (S4 pp x y z t orc) s →
      PostF X cx (fun fl st => match fl with | .next => (ev n).s cx r st k | fl => k fl st) O as s Q → codeAny (model prog w) A (.whileLoop c b [] X.env) (fun r s' => match r with | .ok f => Q f s' | .error _ => False) s := fun m => by
  induction m using Nat.strongRecOn with
  | ind m ih =>
    intro x y z t O as s j I P
    refine oAA (ev_snd (K := K) (prog := prog) (w := w) (p := p) (loose := loose) (mg := mg) (mb := mb) n) ?_; intro S T SS
    refine whileGo (T cx X A F a c _ _ O as s _ (h m x y z t j) I fun b' st₁ s₁ O₁ as₁ h1 h2 h3 => ?_)
    cases b' with
    | true =>
      refine SS cx X A F a b st₁ _ O₁ as₁ s₁ _ h1 h2 fun fl st₂ f s₂ O₂ as₂ g1 g2 g3 g4 => ?_
      cases fl with
      | next =>
        cases g4
        refine oEEEEA (W4_inv g1 g2) ?_; rintro a' b' c' d' ⟨m', hm, hj⟩ I'
        exact ih m' hm hj I' (P.trans (h3.trans g3))
      | _ => exact g1.elim
    | false => exact wpAny_execs_nil (P .next _ _ _ _ _ h1 h2 h3 rfl)
theorem evW_snd {n : Nat} {pp : Int} {orc : List Bool} {J : Nat → Int → Int → Int → Int → Prop} (F : Fok K prog w p loose mg mb X cx) (a : AOk A cx) : ∀ {l : List Stmt} {st : St} {k : Fl → St → Prop} {O : AP} {as : List Addr} {s : Shared} {Q : Flow → Shared → Prop}, evW n cx pp orc J l st k → Inv X cx O as st s → PostF X cx k O as s Q →
    wpAny (model prog w) A (execs l X.env) Q NoE s
  | [], st, k, O, as, s, Q, h, I, P => wpAny_execs_nil (P _ _ _ _ _ _ h I Ex.refl rfl)
  | t :: r, st, k, O, as, s, Q, h, I, P => by
    refine oAA (ev_snd (K := K) (prog := prog) (w := w) (p := p) (loose := loose) (mg := mg) (mb := mb) n) ?_; intro S T SS
    refine vWh_k h ?_ ?_ <;> clear h
    · rintro c b pos rfl h
      refine oA h ?_; clear h; intro h1 h2
      refine oEEEEA (W4_inv h1 I) ?_; rintro a' b' c' d' ⟨m, hj⟩ I'
      refine wpAny_execs_cons (whileStart (W4_loop (pos := pos) F a h2 m hj I' fun fl st' f s' O' as' q1 q2 q3 q4 => ?_))
      cases fl with
      | next => cases q4; exact SS cx X A F a r st' k O' as' s' Q q1 q2 (P.trans q3)
      | brk => cases q4; exact P _ _ _ _ _ _ q1 q2 q3 rfl
      | cont => cases q4; exact P _ _ _ _ _ _ q1 q2 q3 rfl
      | ret d => refine oEA q4 ?_; clear q4; rintro v rfl r; exact P _ _ _ _ _ _ q1 q2 q3 ⟨v, rfl, r⟩
    · intro h
      refine wpAny_execs_cons (exec_one (SS cx X A F a [t] st _ O as s _ h I fun fl st' f s' O' as' h1 h2 h3 h4 => ?_))
      cases fl with
      | next => cases h4; exact evW_snd F a h1 h2 (P.trans h3)
      | brk => cases h4; exact P _ _ _ _ _ _ h1 h2 h3 rfl
      | cont => cases h4; exact P _ _ _ _ _ _ h1 h2 h3 rfl
      | ret d => refine oEA h4 ?_; clear h4; rintro v rfl r; exact P _ _ _ _ _ _ h1 h2 h3 ⟨v, rfl, r⟩
end
end
section
noncomputable abbrev pw : Program := PySem.Challenge.rw_lh0039_01.row.toRowW.prog
noncomputable def tp (i : Nat) : Stmt := (pw.main.body[i]?).getD default
noncomputable def cb (i j : Nat) : Stmt := match tp i with
  | .ClassDef _ _ _ b _ _ _ _ _ _ _ => (b[j]?).getD default
  | s => s
noncomputable abbrev sv (s : String) (t : Nat) : Value := .str (.ofString s) t
noncomputable abbrev rf (a : Nat) : Value := .ref a
noncomputable def en (P : Params) (k : String) (t : Nat) (v : Value) : DictEntry := ⟨PyData.keyHash P (.ofString k), .str (.ofString k) t, v⟩
noncomputable def fo (s : Stmt) (q : String) (d : Value) (m : String) (t c : Nat) : Obj := match s with
  | .FunctionDef n a b _ _ _ sc _ _ _ => { cls := .type "function", data := .func { name := n, qualname := .ofString q, params := { a with defaults := [], kw_defaults := [] }, body := .stmts b, scope := sc, globals := 3, closure := [], defaults := d, kwdefaults := .none, pyModule := .str (.ofString m) t, code := .ref c } }
  | _ => default
noncomputable def KH : Params → Frag := fun P => [
  (2, { cls := .none, data := .dict #[] 0 }),
  (3, { cls := .type "dict", data := .dict #[en P "__name__" 165 (sv "law_lh0039_01" 889), en P "__doc__" 166 .none, en P "__package__" 167 .none, en P "__loader__" 168 (.builtin "__main__.__loader__#opaque"), en P "__spec__" 169 .none, en P "__annotations__" 170 (rf 6), en P "__builtins__" 171 (rf 4), en P "__file__" 173 (sv "/claim/cut.py" 172), en P "__cached__" 174 .none, en P "_wall" 193 (rf 21), en P "prime_field_inv" 210 (rf 28), en P "deg" 218 (rf 35), en P "poly_rounded_div" 224 (rf 40), en P "FQ" 404 (rf 183), en P "FQP" 547 (rf 457), en P "FQP_field_elements" 548 (rf 297), en P "is_inf" 557 (rf 495), en P "is_inf_bn128_curve" 558 (rf 308), en P "is_on_curve" 568 (rf 315), en P "double" 580 (rf 502), en P "double_bn128_curve" 581 (rf 322), en P "add" 596 (rf 509), en P "add_bn128_curve" 597 (rf 329), en P "neg" 606 (rf 336), en P "FQP_optimized_field_elements" 764 (rf 457), en P "FQ2" 796 (rf 486), en P "is_inf_optimized_curve" 806 (rf 495), en P "double_optimized_curve" 825 (rf 502), en P "add_optimized_curve" 856 (rf 509), en P "multiply" 864 (rf 516), en P "eq" 878 (rf 523), en P "normalize" 888 (rf 530), en P "_law_curves" 1139 (rf 611), en P "_law_at" 1148 (rf 618), en P "_law_mul" 1157 (rf 625), en P "_law_plus" 1167 (rf 632), en P "_law_over" 1177 (rf 639), en P "_law_sum" 1188 (rf 646), en P "_law_opposite" 1196 (rf 653), en P "_law_point" 1209 (rf 660), en P "_law_plain" 1217 (rf 667), en P "_law_told" 1223 (rf 672), en P "_law_quick" 1229 (rf 677), en P "_law_is_quick" 1235 (rf 682), en P "_law_answers" 1248 (rf 689), en P "law" 1254 (rf 694)] 46 }),
  (20, { cls := (.type "code"), data := .fields #[(sv "_wall" 187), (sv "_wall" 188), (sv "/claim/cut.py" 189), (.int 1 0), (.int 1 0), (.int 0 0), (.int 0 0), (.int 3 0), (rf 15), (.bool true), (.int 181 0), (rf 16), .none, (rf 17), (rf 18), (rf 19), (.int 191 0), (.int 1 0), (sv "/claim/cut.py" 192)] }),
  (21, fo (tp 0) "_wall" .none "__main__" 164 20),
  (27, { cls := (.type "code"), data := .fields #[(sv "prime_field_inv" 196), (sv "prime_field_inv" 197), (sv "/claim/cut.py" 198), (.int 5 0), (.int 2 0), (.int 0 0), (.int 0 0), (.int 3 0), (rf 22), (.bool true), (.int 181 0), (rf 23), .none, (rf 24), (rf 25), (rf 26), (.int 208 0), (.int 5 0), (sv "/claim/cut.py" 209)] }),
  (28, fo (tp 2) "prime_field_inv" .none "py_ecc.utils" 194 27),
  (34, { cls := (.type "code"), data := .fields #[(sv "deg" 211), (sv "deg" 212), (sv "/claim/cut.py" 213), (.int 16 0), (.int 1 0), (.int 0 0), (.int 0 0), (.int 3 0), (rf 29), (.bool true), (.int 181 0), (rf 30), .none, (rf 31), (rf 32), (rf 33), (.int 216 0), (.int 16 0), (sv "/claim/cut.py" 217)] }),
  (35, fo (tp 3) "deg" .none "py_ecc.utils" 194 34),
  (39, { cls := (.type "code"), data := .fields #[(sv "poly_rounded_div" 219), (sv "poly_rounded_div" 220), (sv "/claim/cut.py" 221), (.int 21 0), (.int 2 0), (.int 0 0), (.int 0 0), (.int 3 0), (rf 36), (.bool true), (.int 181 0), (rf 37), .none, .none, .none, (rf 38), (.int 222 0), (.int 21 0), (sv "/claim/cut.py" 223)] }),
  (40, fo (tp 4) "poly_rounded_div" .none "py_ecc.utils" 194 39),
  (53, { cls := (.type "code"), data := .fields #[(sv "__init__" 239), (sv "FQ.__init__" 240), (sv "/claim/cut.py" 241), (.int 34 0), (.int 3 0), (.int 0 0), (.int 0 0), (.int 3 0), (rf 48), (.bool true), (.int 181 0), (rf 49), .none, (rf 50), (rf 51), (rf 52), (.int 245 0), (.int 34 0), (sv "/claim/cut.py" 246)] }),
  (54, fo (cb 6 0) "FQ.__init__" .none "py_ecc.fields.field_elements" 225 53),
  (60, { cls := (.type "code"), data := .fields #[(sv "__add__" 248), (sv "FQ.__add__" 249), (sv "/claim/cut.py" 250), (.int 43 0), (.int 2 0), (.int 0 0), (.int 0 0), (.int 3 0), (rf 55), (.bool true), (.int 181 0), (rf 56), .none, (rf 57), (rf 58), (rf 59), (.int 254 0), (.int 43 0), (sv "/claim/cut.py" 255)] }),
  (61, fo (cb 6 1) "FQ.__add__" .none "py_ecc.fields.field_elements" 225 60),
  (67, { cls := (.type "code"), data := .fields #[(sv "__mul__" 257), (sv "FQ.__mul__" 258), (sv "/claim/cut.py" 259), (.int 52 0), (.int 2 0), (.int 0 0), (.int 0 0), (.int 3 0), (rf 62), (.bool true), (.int 181 0), (rf 63), .none, (rf 64), (rf 65), (rf 66), (.int 263 0), (.int 52 0), (sv "/claim/cut.py" 264)] }),
  (68, fo (cb 6 2) "FQ.__mul__" .none "py_ecc.fields.field_elements" 225 67),
  (74, { cls := (.type "code"), data := .fields #[(sv "__rmul__" 266), (sv "FQ.__rmul__" 267), (sv "/claim/cut.py" 268), (.int 61 0), (.int 2 0), (.int 0 0), (.int 0 0), (.int 3 0), (rf 69), (.bool true), (.int 181 0), (rf 70), .none, (rf 71), (rf 72), (rf 73), (.int 271 0), (.int 61 0), (sv "/claim/cut.py" 272)] }),
  (75, fo (cb 6 3) "FQ.__rmul__" .none "py_ecc.fields.field_elements" 225 74),
  (81, { cls := (.type "code"), data := .fields #[(sv "__radd__" 274), (sv "FQ.__radd__" 275), (sv "/claim/cut.py" 276), (.int 64 0), (.int 2 0), (.int 0 0), (.int 0 0), (.int 3 0), (rf 76), (.bool true), (.int 181 0), (rf 77), .none, (rf 78), (rf 79), (rf 80), (.int 279 0), (.int 64 0), (sv "/claim/cut.py" 280)] }),
  (82, fo (cb 6 4) "FQ.__radd__" .none "py_ecc.fields.field_elements" 225 81),
  (88, { cls := (.type "code"), data := .fields #[(sv "__rsub__" 282), (sv "FQ.__rsub__" 283), (sv "/claim/cut.py" 284), (.int 67 0), (.int 2 0), (.int 0 0), (.int 0 0), (.int 3 0), (rf 83), (.bool true), (.int 181 0), (rf 84), .none, (rf 85), (rf 86), (rf 87), (.int 288 0), (.int 67 0), (sv "/claim/cut.py" 289)] }),
  (89, fo (cb 6 5) "FQ.__rsub__" .none "py_ecc.fields.field_elements" 225 88),
  (95, { cls := (.type "code"), data := .fields #[(sv "__sub__" 291), (sv "FQ.__sub__" 292), (sv "/claim/cut.py" 293), (.int 76 0), (.int 2 0), (.int 0 0), (.int 0 0), (.int 3 0), (rf 90), (.bool true), (.int 181 0), (rf 91), .none, (rf 92), (rf 93), (rf 94), (.int 297 0), (.int 76 0), (sv "/claim/cut.py" 298)] }),
  (96, fo (cb 6 6) "FQ.__sub__" .none "py_ecc.fields.field_elements" 225 95),
  (102, { cls := (.type "code"), data := .fields #[(sv "__truediv__" 300), (sv "FQ.__truediv__" 301), (sv "/claim/cut.py" 302), (.int 85 0), (.int 2 0), (.int 0 0), (.int 0 0), (.int 3 0), (rf 97), (.bool true), (.int 181 0), (rf 98), .none, (rf 99), (rf 100), (rf 101), (.int 306 0), (.int 85 0), (sv "/claim/cut.py" 307)] }),
  (103, fo (cb 6 7) "FQ.__truediv__" .none "py_ecc.fields.field_elements" 225 102),
  (109, { cls := (.type "code"), data := .fields #[(sv "__rtruediv__" 309), (sv "FQ.__rtruediv__" 310), (sv "/claim/cut.py" 311), (.int 94 0), (.int 2 0), (.int 0 0), (.int 0 0), (.int 3 0), (rf 104), (.bool true), (.int 181 0), (rf 105), .none, (rf 106), (rf 107), (rf 108), (.int 315 0), (.int 94 0), (sv "/claim/cut.py" 316)] }),
  (110, fo (cb 6 8) "FQ.__rtruediv__" .none "py_ecc.fields.field_elements" 225 109),
  (116, { cls := (.type "code"), data := .fields #[(sv "__pow__" 318), (sv "FQ.__pow__" 319), (sv "/claim/cut.py" 320), (.int 103 0), (.int 2 0), (.int 0 0), (.int 0 0), (.int 3 0), (rf 111), (.bool true), (.int 181 0), (rf 112), .none, (rf 113), (rf 114), (rf 115), (.int 323 0), (.int 103 0), (sv "/claim/cut.py" 324)] }),
  (117, fo (cb 6 9) "FQ.__pow__" .none "py_ecc.fields.field_elements" 225 116),
  (123, { cls := (.type "code"), data := .fields #[(sv "__eq__" 326), (sv "FQ.__eq__" 327), (sv "/claim/cut.py" 328), (.int 113 0), (.int 2 0), (.int 0 0), (.int 0 0), (.int 3 0), (rf 118), (.bool true), (.int 181 0), (rf 119), .none, (rf 120), (rf 121), (rf 122), (.int 331 0), (.int 113 0), (sv "/claim/cut.py" 332)] }),
  (124, fo (cb 6 10) "FQ.__eq__" .none "py_ecc.fields.field_elements" 225 123),
  (130, { cls := (.type "code"), data := .fields #[(sv "__ne__" 334), (sv "FQ.__ne__" 335), (sv "/claim/cut.py" 336), (.int 121 0), (.int 2 0), (.int 0 0), (.int 0 0), (.int 3 0), (rf 125), (.bool true), (.int 181 0), (rf 126), .none, (rf 127), (rf 128), (rf 129), (.int 339 0), (.int 121 0), (sv "/claim/cut.py" 340)] }),
  (131, fo (cb 6 11) "FQ.__ne__" .none "py_ecc.fields.field_elements" 225 130),
  (137, { cls := (.type "code"), data := .fields #[(sv "__neg__" 342), (sv "FQ.__neg__" 343), (sv "/claim/cut.py" 344), (.int 124 0), (.int 1 0), (.int 0 0), (.int 0 0), (.int 3 0), (rf 132), (.bool true), (.int 181 0), (rf 133), .none, (rf 134), (rf 135), (rf 136), (.int 346 0), (.int 124 0), (sv "/claim/cut.py" 347)] }),
  (138, fo (cb 6 12) "FQ.__neg__" .none "py_ecc.fields.field_elements" 225 137),
  (144, { cls := (.type "code"), data := .fields #[(sv "__repr__" 349), (sv "FQ.__repr__" 350), (sv "/claim/cut.py" 351), (.int 127 0), (.int 1 0), (.int 0 0), (.int 0 0), (.int 3 0), (rf 139), (.bool true), (.int 181 0), (rf 140), .none, (rf 141), (rf 142), (rf 143), (.int 353 0), (.int 127 0), (sv "/claim/cut.py" 354)] }),
  (145, fo (cb 6 13) "FQ.__repr__" .none "py_ecc.fields.field_elements" 225 144),
  (151, { cls := (.type "code"), data := .fields #[(sv "__int__" 356), (sv "FQ.__int__" 357), (sv "/claim/cut.py" 358), (.int 130 0), (.int 1 0), (.int 0 0), (.int 0 0), (.int 3 0), (rf 146), (.bool true), (.int 181 0), (rf 147), .none, (rf 148), (rf 149), (rf 150), (.int 360 0), (.int 130 0), (sv "/claim/cut.py" 361)] }),
  (152, fo (cb 6 14) "FQ.__int__" .none "py_ecc.fields.field_elements" 225 151),
  (158, { cls := (.type "code"), data := .fields #[(sv "__lt__" 363), (sv "FQ.__lt__" 364), (sv "/claim/cut.py" 365), (.int 133 0), (.int 2 0), (.int 0 0), (.int 0 0), (.int 3 0), (rf 153), (.bool true), (.int 181 0), (rf 154), .none, (rf 155), (rf 156), (rf 157), (.int 369 0), (.int 133 0), (sv "/claim/cut.py" 370)] }),
  (159, fo (cb 6 15) "FQ.__lt__" .none "py_ecc.fields.field_elements" 225 158),
  (165, { cls := (.type "code"), data := .fields #[(sv "made" 372), (sv "FQ.made" 373), (sv "/claim/cut.py" 374), (.int 142 0), (.int 2 0), (.int 0 0), (.int 0 0), (.int 3 0), (rf 160), (.bool true), (.int 181 0), (rf 161), .none, (rf 162), (rf 163), (rf 164), (.int 377 0), (.int 142 0), (sv "/claim/cut.py" 378)] }),
  (166, fo (cb 6 16) "FQ.made" .none "py_ecc.fields.field_elements" 225 165),
  (172, { cls := (.type "code"), data := .fields #[(sv "one" 380), (sv "FQ.one" 381), (sv "/claim/cut.py" 382), (.int 145 0), (.int 1 0), (.int 0 0), (.int 0 0), (.int 3 0), (rf 167), (.bool true), (.int 181 0), (rf 168), .none, (rf 169), (rf 170), (rf 171), (.int 384 0), (.int 145 0), (sv "/claim/cut.py" 385)] }),
  (173, fo (cb 6 17) "FQ.one" .none "py_ecc.fields.field_elements" 225 172),
  (179, { cls := (.type "code"), data := .fields #[(sv "zero" 387), (sv "FQ.zero" 388), (sv "/claim/cut.py" 389), (.int 148 0), (.int 1 0), (.int 0 0), (.int 0 0), (.int 3 0), (rf 174), (.bool true), (.int 181 0), (rf 175), .none, (rf 176), (rf 177), (rf 178), (.int 391 0), (.int 148 0), (sv "/claim/cut.py" 392)] }),
  (180, fo (cb 6 18) "FQ.zero" .none "py_ecc.fields.field_elements" 225 179),
  (182, { cls := .type "dict", data := .dict #[en P "__module__" 234 (sv "py_ecc.fields.field_elements" 225), en P "__firstlineno__" 238 (.int 32 237), en P "__init__" 247 (rf 54), en P "__add__" 256 (rf 61), en P "__mul__" 265 (rf 68), en P "__rmul__" 273 (rf 75), en P "__radd__" 281 (rf 82), en P "__rsub__" 290 (rf 89), en P "__sub__" 299 (rf 96), en P "__truediv__" 308 (rf 103), en P "__rtruediv__" 317 (rf 110), en P "__pow__" 325 (rf 117), en P "__eq__" 333 (rf 124), en P "__ne__" 341 (rf 131), en P "__neg__" 348 (rf 138), en P "__repr__" 355 (rf 145), en P "__int__" 362 (rf 152), en P "__lt__" 371 (rf 159), en P "made" 379 (rf 166), en P "one" 386 (rf 173), en P "zero" 393 (rf 180), en P "__static_attributes__" 396 (rf 181), en P "__dict__" 398 (rf 184), en P "__weakref__" 400 (rf 185), en P "__doc__" 401 .none, en P "__hash__" 402 .none] 5 }),
  (183, { cls := (.type "type"), data := .cls { name := .ofString "FQ", bases := [(.type "object")], mro := [(rf 183), (.type "object")], ns := 182, qualname := .ofString "FQ", subclasses := [] }, slots := #[none, none, some (sv "FQ" 227), some (sv "FQ" 235), some (.builtin "object.__new__"), some (.bool true)] }),
  (184, { cls := (.type "getset_descriptor"), data := .fields #[(sv "__dict__" 397), (rf 183), (.builtin "function.__dict__"), (.builtin "function.__dict__#set")] }),
  (185, { cls := (.type "getset_descriptor"), data := .fields #[(sv "__weakref__" 399), (rf 183), (.builtin "ExceptionGroup.__weakref__"), .none] }),
  (200, { cls := (.type "code"), data := .fields #[(sv "__init__" 417), (sv "FQP.__init__" 418), (sv "/claim/cut.py" 419), (.int 152 0), (.int 4 0), (.int 0 0), (.int 0 0), (.int 3 0), (rf 195), (.bool true), (.int 181 0), (rf 196), .none, (rf 197), (rf 198), (rf 199), (.int 425 0), (.int 152 0), (sv "/claim/cut.py" 426)] }),
  (201, fo (cb 7 0) "FQP.__init__" .none "py_ecc.fields.field_elements" 225 200),
  (207, { cls := (.type "code"), data := .fields #[(sv "made" 428), (sv "FQP.made" 429), (sv "/claim/cut.py" 430), (.int 160 0), (.int 2 0), (.int 0 0), (.int 0 0), (.int 3 0), (rf 202), (.bool true), (.int 181 0), (rf 203), .none, (rf 204), (rf 205), (rf 206), (.int 433 0), (.int 160 0), (sv "/claim/cut.py" 434)] }),
  (208, fo (cb 7 1) "FQP.made" .none "py_ecc.fields.field_elements" 225 207),
  (214, { cls := (.type "code"), data := .fields #[(sv "FQP_corresponding_FQ_class" 436), (sv "FQP.FQP_corresponding_FQ_class" 437), (sv "/claim/cut.py" 438), (.int 163 0), (.int 2 0), (.int 0 0), (.int 0 0), (.int 3 0), (rf 209), (.bool true), (.int 181 0), (rf 210), .none, (rf 211), (rf 212), (rf 213), (.int 441 0), (.int 163 0), (sv "/claim/cut.py" 442)] }),
  (215, fo (cb 7 2) "FQP.FQP_corresponding_FQ_class" .none "py_ecc.fields.field_elements" 225 214),
  (219, { cls := (.type "code"), data := .fields #[(sv "__add__" 444), (sv "FQP.__add__" 445), (sv "/claim/cut.py" 446), (.int 166 0), (.int 2 0), (.int 0 0), (.int 0 0), (.int 3 0), (rf 216), (.bool true), (.int 181 0), (rf 217), .none, .none, .none, (rf 218), (.int 447 0), (.int 166 0), (sv "/claim/cut.py" 448)] }),
  (220, fo (cb 7 3) "FQP.__add__" .none "py_ecc.fields.field_elements" 225 219),
  (224, { cls := (.type "code"), data := .fields #[(sv "__sub__" 450), (sv "FQP.__sub__" 451), (sv "/claim/cut.py" 452), (.int 171 0), (.int 2 0), (.int 0 0), (.int 0 0), (.int 3 0), (rf 221), (.bool true), (.int 181 0), (rf 222), .none, .none, .none, (rf 223), (.int 453 0), (.int 171 0), (sv "/claim/cut.py" 454)] }),
  (225, fo (cb 7 4) "FQP.__sub__" .none "py_ecc.fields.field_elements" 225 224),
  (229, { cls := (.type "code"), data := .fields #[(sv "__mul__" 456), (sv "FQP.__mul__" 457), (sv "/claim/cut.py" 458), (.int 176 0), (.int 2 0), (.int 0 0), (.int 0 0), (.int 3 0), (rf 226), (.bool true), (.int 181 0), (rf 227), .none, .none, .none, (rf 228), (.int 459 0), (.int 176 0), (sv "/claim/cut.py" 460)] }),
  (230, fo (cb 7 5) "FQP.__mul__" .none "py_ecc.fields.field_elements" 225 229),
  (236, { cls := (.type "code"), data := .fields #[(sv "__rmul__" 462), (sv "FQP.__rmul__" 463), (sv "/claim/cut.py" 464), (.int 192 0), (.int 2 0), (.int 0 0), (.int 0 0), (.int 3 0), (rf 231), (.bool true), (.int 181 0), (rf 232), .none, (rf 233), (rf 234), (rf 235), (.int 467 0), (.int 192 0), (sv "/claim/cut.py" 468)] }),
  (237, fo (cb 7 6) "FQP.__rmul__" .none "py_ecc.fields.field_elements" 225 236),
  (241, { cls := (.type "code"), data := .fields #[(sv "__truediv__" 470), (sv "FQP.__truediv__" 471), (sv "/claim/cut.py" 472), (.int 195 0), (.int 2 0), (.int 0 0), (.int 0 0), (.int 3 0), (rf 238), (.bool true), (.int 181 0), (rf 239), .none, .none, .none, (rf 240), (.int 473 0), (.int 195 0), (sv "/claim/cut.py" 474)] }),
  (242, fo (cb 7 7) "FQP.__truediv__" .none "py_ecc.fields.field_elements" 225 241),
  (248, { cls := (.type "code"), data := .fields #[(sv "__pow__" 476), (sv "FQP.__pow__" 477), (sv "/claim/cut.py" 478), (.int 203 0), (.int 2 0), (.int 0 0), (.int 0 0), (.int 3 0), (rf 243), (.bool true), (.int 181 0), (rf 244), .none, (rf 245), (rf 246), (rf 247), (.int 481 0), (.int 203 0), (sv "/claim/cut.py" 482)] }),
  (249, fo (cb 7 8) "FQP.__pow__" .none "py_ecc.fields.field_elements" 225 248),
  (253, { cls := (.type "code"), data := .fields #[(sv "inv" 484), (sv "FQP.inv" 485), (sv "/claim/cut.py" 486), (.int 213 0), (.int 1 0), (.int 0 0), (.int 0 0), (.int 3 0), (rf 250), (.bool true), (.int 181 0), (rf 251), .none, .none, .none, (rf 252), (.int 487 0), (.int 213 0), (sv "/claim/cut.py" 488)] }),
  (254, fo (cb 7 9) "FQP.inv" .none "py_ecc.fields.field_elements" 225 253),
  (260, { cls := (.type "code"), data := .fields #[(sv "__repr__" 490), (sv "FQP.__repr__" 491), (sv "/claim/cut.py" 492), (.int 240 0), (.int 1 0), (.int 0 0), (.int 0 0), (.int 3 0), (rf 255), (.bool true), (.int 181 0), (rf 256), .none, (rf 257), (rf 258), (rf 259), (.int 494 0), (.int 240 0), (sv "/claim/cut.py" 495)] }),
  (261, fo (cb 7 10) "FQP.__repr__" .none "py_ecc.fields.field_elements" 225 260),
  (267, { cls := (.type "code"), data := .fields #[(sv "__eq__" 497), (sv "FQP.__eq__" 498), (sv "/claim/cut.py" 499), (.int 243 0), (.int 2 0), (.int 0 0), (.int 0 0), (.int 3 0), (rf 262), (.bool true), (.int 181 0), (rf 263), .none, (rf 264), (rf 265), (rf 266), (.int 504 0), (.int 243 0), (sv "/claim/cut.py" 505)] }),
  (268, fo (cb 7 11) "FQP.__eq__" .none "py_ecc.fields.field_elements" 225 267),
  (274, { cls := (.type "code"), data := .fields #[(sv "__ne__" 507), (sv "FQP.__ne__" 508), (sv "/claim/cut.py" 509), (.int 251 0), (.int 2 0), (.int 0 0), (.int 0 0), (.int 3 0), (rf 269), (.bool true), (.int 181 0), (rf 270), .none, (rf 271), (rf 272), (rf 273), (.int 512 0), (.int 251 0), (sv "/claim/cut.py" 513)] }),
  (275, fo (cb 7 12) "FQP.__ne__" .none "py_ecc.fields.field_elements" 225 274),
  (279, { cls := (.type "code"), data := .fields #[(sv "__neg__" 515), (sv "FQP.__neg__" 516), (sv "/claim/cut.py" 517), (.int 254 0), (.int 1 0), (.int 0 0), (.int 0 0), (.int 3 0), (rf 276), (.bool true), (.int 181 0), (rf 277), .none, .none, .none, (rf 278), (.int 518 0), (.int 254 0), (sv "/claim/cut.py" 519)] }),
  (280, fo (cb 7 13) "FQP.__neg__" .none "py_ecc.fields.field_elements" 225 279),
  (286, { cls := (.type "code"), data := .fields #[(sv "one" 521), (sv "FQP.one" 522), (sv "/claim/cut.py" 523), (.int 257 0), (.int 1 0), (.int 0 0), (.int 0 0), (.int 3 0), (rf 281), (.bool true), (.int 181 0), (rf 282), .none, (rf 283), (rf 284), (rf 285), (.int 525 0), (.int 257 0), (sv "/claim/cut.py" 526)] }),
  (287, fo (cb 7 14) "FQP.one" .none "py_ecc.fields.field_elements" 225 286),
  (293, { cls := (.type "code"), data := .fields #[(sv "zero" 528), (sv "FQP.zero" 529), (sv "/claim/cut.py" 530), (.int 260 0), (.int 1 0), (.int 0 0), (.int 0 0), (.int 3 0), (rf 288), (.bool true), (.int 181 0), (rf 289), .none, (rf 290), (rf 291), (rf 292), (.int 532 0), (.int 260 0), (sv "/claim/cut.py" 533)] }),
  (294, fo (cb 7 15) "FQP.zero" .none "py_ecc.fields.field_elements" 225 293),
  (296, { cls := .type "dict", data := .dict #[en P "__module__" 412 (sv "py_ecc.fields.field_elements" 225), en P "__firstlineno__" 416 (.int 150 415), en P "__init__" 427 (rf 201), en P "made" 435 (rf 208), en P "FQP_corresponding_FQ_class" 443 (rf 215), en P "__add__" 449 (rf 220), en P "__sub__" 455 (rf 225), en P "__mul__" 461 (rf 230), en P "__rmul__" 469 (rf 237), en P "__truediv__" 475 (rf 242), en P "__pow__" 483 (rf 249), en P "inv" 489 (rf 254), en P "__repr__" 496 (rf 261), en P "__eq__" 506 (rf 268), en P "__ne__" 514 (rf 275), en P "__neg__" 520 (rf 280), en P "one" 527 (rf 287), en P "zero" 534 (rf 294), en P "__static_attributes__" 539 (rf 295), en P "__dict__" 541 (rf 298), en P "__weakref__" 543 (rf 299), en P "__doc__" 544 .none, en P "__hash__" 545 .none] 5 }),
  (297, { cls := (.type "type"), data := .cls { name := .ofString "FQP", bases := [(.type "object")], mro := [(rf 297), (.type "object")], ns := 296, qualname := .ofString "FQP", subclasses := [] }, slots := #[none, none, some (sv "FQP" 405), some (sv "FQP" 413), some (.builtin "object.__new__"), some (.bool true)] }),
  (298, { cls := (.type "getset_descriptor"), data := .fields #[(sv "__dict__" 540), (rf 297), (.builtin "function.__dict__"), (.builtin "function.__dict__#set")] }),
  (299, { cls := (.type "getset_descriptor"), data := .fields #[(sv "__weakref__" 542), (rf 297), (.builtin "ExceptionGroup.__weakref__"), .none] }),
  (307, { cls := (.type "code"), data := .fields #[(sv "is_inf" 551), (sv "is_inf" 552), (sv "/claim/cut.py" 553), (.int 264 0), (.int 1 0), (.int 0 0), (.int 0 0), (.int 3 0), (rf 302), (.bool true), (.int 181 0), (rf 303), .none, (rf 304), (rf 305), (rf 306), (.int 555 0), (.int 264 0), (sv "/claim/cut.py" 556)] }),
  (308, fo (tp 10) "is_inf" .none "py_ecc.bn128.bn128_curve" 549 307),
  (314, { cls := (.type "code"), data := .fields #[(sv "is_on_curve" 559), (sv "is_on_curve" 560), (sv "/claim/cut.py" 561), (.int 267 0), (.int 2 0), (.int 0 0), (.int 0 0), (.int 3 0), (rf 309), (.bool true), (.int 181 0), (rf 310), .none, (rf 311), (rf 312), (rf 313), (.int 566 0), (.int 267 0), (sv "/claim/cut.py" 567)] }),
  (315, fo (tp 12) "is_on_curve" .none "py_ecc.bn128.bn128_curve" 549 314),
  (321, { cls := (.type "code"), data := .fields #[(sv "double" 569), (sv "double" 570), (sv "/claim/cut.py" 571), (.int 272 0), (.int 1 0), (.int 0 0), (.int 0 0), (.int 3 0), (rf 316), (.bool true), (.int 181 0), (rf 317), .none, (rf 318), (rf 319), (rf 320), (.int 578 0), (.int 272 0), (sv "/claim/cut.py" 579)] }),
  (322, fo (tp 13) "double" .none "py_ecc.bn128.bn128_curve" 549 321),
  (328, { cls := (.type "code"), data := .fields #[(sv "add" 582), (sv "add" 583), (sv "/claim/cut.py" 584), (.int 281 0), (.int 2 0), (.int 0 0), (.int 0 0), (.int 3 0), (rf 323), (.bool true), (.int 181 0), (rf 324), .none, (rf 325), (rf 326), (rf 327), (.int 594 0), (.int 281 0), (sv "/claim/cut.py" 595)] }),
  (329, fo (tp 15) "add" .none "py_ecc.bn128.bn128_curve" 549 328),
  (335, { cls := (.type "code"), data := .fields #[(sv "neg" 598), (sv "neg" 599), (sv "/claim/cut.py" 600), (.int 298 0), (.int 1 0), (.int 0 0), (.int 0 0), (.int 3 0), (rf 330), (.bool true), (.int 181 0), (rf 331), .none, (rf 332), (rf 333), (rf 334), (.int 604 0), (.int 298 0), (sv "/claim/cut.py" 605)] }),
  (336, fo (tp 17) "neg" .none "py_ecc.bn128.bn128_curve" 549 335),
  (347, { cls := (.type "code"), data := .fields #[(sv "__init__" 621), (sv "FQP.__init__" 622), (sv "/claim/cut.py" 623), (.int 306 0), (.int 4 0), (.int 0 0), (.int 0 0), (.int 3 0), (rf 344), (.bool true), (.int 181 0), (rf 345), .none, .none, .none, (rf 346), (.int 624 0), (.int 306 0), (sv "/claim/cut.py" 625)] }),
  (348, fo (cb 19 0) "FQP.__init__" .none "py_ecc.fields.optimized_field_elements" 607 347),
  (354, { cls := (.type "code"), data := .fields #[(sv "made" 627), (sv "FQP.made" 628), (sv "/claim/cut.py" 629), (.int 318 0), (.int 2 0), (.int 0 0), (.int 0 0), (.int 3 0), (rf 349), (.bool true), (.int 181 0), (rf 350), .none, (rf 351), (rf 352), (rf 353), (.int 632 0), (.int 318 0), (sv "/claim/cut.py" 633)] }),
  (355, fo (cb 19 1) "FQP.made" .none "py_ecc.fields.optimized_field_elements" 607 354),
  (359, { cls := (.type "code"), data := .fields #[(sv "__add__" 635), (sv "FQP.__add__" 636), (sv "/claim/cut.py" 637), (.int 321 0), (.int 2 0), (.int 0 0), (.int 0 0), (.int 3 0), (rf 356), (.bool true), (.int 181 0), (rf 357), .none, .none, .none, (rf 358), (.int 638 0), (.int 321 0), (sv "/claim/cut.py" 639)] }),
  (360, fo (cb 19 2) "FQP.__add__" .none "py_ecc.fields.optimized_field_elements" 607 359),
  (364, { cls := (.type "code"), data := .fields #[(sv "__sub__" 641), (sv "FQP.__sub__" 642), (sv "/claim/cut.py" 643), (.int 326 0), (.int 2 0), (.int 0 0), (.int 0 0), (.int 3 0), (rf 361), (.bool true), (.int 181 0), (rf 362), .none, .none, .none, (rf 363), (.int 644 0), (.int 326 0), (sv "/claim/cut.py" 645)] }),
  (365, fo (cb 19 3) "FQP.__sub__" .none "py_ecc.fields.optimized_field_elements" 607 364),
  (371, { cls := (.type "code"), data := .fields #[(sv "__mod__" 647), (sv "FQP.__mod__" 648), (sv "/claim/cut.py" 649), (.int 331 0), (.int 2 0), (.int 0 0), (.int 0 0), (.int 3 0), (rf 366), (.bool true), (.int 181 0), (rf 367), .none, (rf 368), (rf 369), (rf 370), (.int 652 0), (.int 331 0), (sv "/claim/cut.py" 653)] }),
  (372, fo (cb 19 4) "FQP.__mod__" .none "py_ecc.fields.optimized_field_elements" 607 371),
  (376, { cls := (.type "code"), data := .fields #[(sv "__mul__" 655), (sv "FQP.__mul__" 656), (sv "/claim/cut.py" 657), (.int 334 0), (.int 2 0), (.int 0 0), (.int 0 0), (.int 3 0), (rf 373), (.bool true), (.int 181 0), (rf 374), .none, .none, .none, (rf 375), (.int 658 0), (.int 334 0), (sv "/claim/cut.py" 659)] }),
  (377, fo (cb 19 5) "FQP.__mul__" .none "py_ecc.fields.optimized_field_elements" 607 376),
  (383, { cls := (.type "code"), data := .fields #[(sv "__rmul__" 661), (sv "FQP.__rmul__" 662), (sv "/claim/cut.py" 663), (.int 351 0), (.int 2 0), (.int 0 0), (.int 0 0), (.int 3 0), (rf 378), (.bool true), (.int 181 0), (rf 379), .none, (rf 380), (rf 381), (rf 382), (.int 666 0), (.int 351 0), (sv "/claim/cut.py" 667)] }),
  (384, fo (cb 19 6) "FQP.__rmul__" .none "py_ecc.fields.optimized_field_elements" 607 383),
  (388, { cls := (.type "code"), data := .fields #[(sv "__truediv__" 669), (sv "FQP.__truediv__" 670), (sv "/claim/cut.py" 671), (.int 354 0), (.int 2 0), (.int 0 0), (.int 0 0), (.int 3 0), (rf 385), (.bool true), (.int 181 0), (rf 386), .none, .none, .none, (rf 387), (.int 672 0), (.int 354 0), (sv "/claim/cut.py" 673)] }),
  (389, fo (cb 19 7) "FQP.__truediv__" .none "py_ecc.fields.optimized_field_elements" 607 388),
  (395, { cls := (.type "code"), data := .fields #[(sv "__pow__" 675), (sv "FQP.__pow__" 676), (sv "/claim/cut.py" 677), (.int 362 0), (.int 2 0), (.int 0 0), (.int 0 0), (.int 3 0), (rf 390), (.bool true), (.int 181 0), (rf 391), .none, (rf 392), (rf 393), (rf 394), (.int 682 0), (.int 362 0), (sv "/claim/cut.py" 683)] }),
  (396, fo (cb 19 8) "FQP.__pow__" .none "py_ecc.fields.optimized_field_elements" 607 395),
  (400, { cls := (.type "code"), data := .fields #[(sv "optimized_poly_rounded_div" 685), (sv "FQP.optimized_poly_rounded_div" 686), (sv "/claim/cut.py" 687), (.int 372 0), (.int 3 0), (.int 0 0), (.int 0 0), (.int 3 0), (rf 397), (.bool true), (.int 181 0), (rf 398), .none, .none, .none, (rf 399), (.int 688 0), (.int 372 0), (sv "/claim/cut.py" 689)] }),
  (401, fo (cb 19 9) "FQP.optimized_poly_rounded_div" .none "py_ecc.fields.optimized_field_elements" 607 400),
  (405, { cls := (.type "code"), data := .fields #[(sv "inv" 691), (sv "FQP.inv" 692), (sv "/claim/cut.py" 693), (.int 383 0), (.int 1 0), (.int 0 0), (.int 0 0), (.int 3 0), (rf 402), (.bool true), (.int 181 0), (rf 403), .none, .none, .none, (rf 404), (.int 694 0), (.int 383 0), (sv "/claim/cut.py" 695)] }),
  (406, fo (cb 19 10) "FQP.inv" .none "py_ecc.fields.optimized_field_elements" 607 405),
  (412, { cls := (.type "code"), data := .fields #[(sv "__repr__" 697), (sv "FQP.__repr__" 698), (sv "/claim/cut.py" 699), (.int 400 0), (.int 1 0), (.int 0 0), (.int 0 0), (.int 3 0), (rf 407), (.bool true), (.int 181 0), (rf 408), .none, (rf 409), (rf 410), (rf 411), (.int 701 0), (.int 400 0), (sv "/claim/cut.py" 702)] }),
  (413, fo (cb 19 11) "FQP.__repr__" .none "py_ecc.fields.optimized_field_elements" 607 412),
  (419, { cls := (.type "code"), data := .fields #[(sv "__eq__" 704), (sv "FQP.__eq__" 705), (sv "/claim/cut.py" 706), (.int 403 0), (.int 2 0), (.int 0 0), (.int 0 0), (.int 3 0), (rf 414), (.bool true), (.int 181 0), (rf 415), .none, (rf 416), (rf 417), (rf 418), (.int 711 0), (.int 403 0), (sv "/claim/cut.py" 712)] }),
  (420, fo (cb 19 12) "FQP.__eq__" .none "py_ecc.fields.optimized_field_elements" 607 419),
  (426, { cls := (.type "code"), data := .fields #[(sv "__ne__" 714), (sv "FQP.__ne__" 715), (sv "/claim/cut.py" 716), (.int 411 0), (.int 2 0), (.int 0 0), (.int 0 0), (.int 3 0), (rf 421), (.bool true), (.int 181 0), (rf 422), .none, (rf 423), (rf 424), (rf 425), (.int 719 0), (.int 411 0), (sv "/claim/cut.py" 720)] }),
  (427, fo (cb 19 13) "FQP.__ne__" .none "py_ecc.fields.optimized_field_elements" 607 426),
  (431, { cls := (.type "code"), data := .fields #[(sv "__neg__" 722), (sv "FQP.__neg__" 723), (sv "/claim/cut.py" 724), (.int 414 0), (.int 1 0), (.int 0 0), (.int 0 0), (.int 3 0), (rf 428), (.bool true), (.int 181 0), (rf 429), .none, .none, .none, (rf 430), (.int 725 0), (.int 414 0), (sv "/claim/cut.py" 726)] }),
  (432, fo (cb 19 14) "FQP.__neg__" .none "py_ecc.fields.optimized_field_elements" 607 431),
  (438, { cls := (.type "code"), data := .fields #[(sv "sgn0" 728), (sv "FQP.sgn0" 729), (sv "/claim/cut.py" 730), (.int 417 0), (.int 1 0), (.int 0 0), (.int 0 0), (.int 3 0), (rf 433), (.bool true), (.int 181 0), (rf 434), .none, (rf 435), (rf 436), (rf 437), (.int 732 0), (.int 417 0), (sv "/claim/cut.py" 733)] }),
  (439, fo (cb 19 15) "FQP.sgn0" .none "py_ecc.fields.optimized_field_elements" 607 438),
  (440, { cls := (.type "property"), data := .fields #[(rf 439), .none, .none, .none, (sv "sgn0" 735), (.bool false)] }),
  (446, { cls := (.type "code"), data := .fields #[(sv "one" 736), (sv "FQP.one" 737), (sv "/claim/cut.py" 738), (.int 421 0), (.int 1 0), (.int 0 0), (.int 0 0), (.int 3 0), (rf 441), (.bool true), (.int 181 0), (rf 442), .none, (rf 443), (rf 444), (rf 445), (.int 740 0), (.int 421 0), (sv "/claim/cut.py" 741)] }),
  (447, fo (cb 19 16) "FQP.one" .none "py_ecc.fields.optimized_field_elements" 607 446),
  (453, { cls := (.type "code"), data := .fields #[(sv "zero" 743), (sv "FQP.zero" 744), (sv "/claim/cut.py" 745), (.int 424 0), (.int 1 0), (.int 0 0), (.int 0 0), (.int 3 0), (rf 448), (.bool true), (.int 181 0), (rf 449), .none, (rf 450), (rf 451), (rf 452), (.int 747 0), (.int 424 0), (sv "/claim/cut.py" 748)] }),
  (454, fo (cb 19 17) "FQP.zero" .none "py_ecc.fields.optimized_field_elements" 607 453),
  (456, { cls := .type "dict", data := .dict #[en P "__module__" 616 (sv "py_ecc.fields.optimized_field_elements" 607), en P "__firstlineno__" 620 (.int 304 619), en P "__init__" 626 (rf 348), en P "made" 634 (rf 355), en P "__add__" 640 (rf 360), en P "__sub__" 646 (rf 365), en P "__mod__" 654 (rf 372), en P "__mul__" 660 (rf 377), en P "__rmul__" 668 (rf 384), en P "__truediv__" 674 (rf 389), en P "__pow__" 684 (rf 396), en P "optimized_poly_rounded_div" 690 (rf 401), en P "inv" 696 (rf 406), en P "__repr__" 703 (rf 413), en P "__eq__" 713 (rf 420), en P "__ne__" 721 (rf 427), en P "__neg__" 727 (rf 432), en P "sgn0" 735 (rf 440), en P "one" 742 (rf 447), en P "zero" 749 (rf 454), en P "__static_attributes__" 755 (rf 455), en P "__dict__" 757 (rf 458), en P "__weakref__" 759 (rf 459), en P "__doc__" 760 .none, en P "__hash__" 761 .none] 5 }),
  (457, { cls := (.type "type"), data := .cls { name := .ofString "FQP", bases := [(.type "object")], mro := [(rf 457), (.type "object")], ns := 456, qualname := .ofString "FQP", subclasses := [(rf 486)] }, slots := #[none, none, some (sv "FQP" 609), some (sv "FQP" 617), some (.builtin "object.__new__"), some (.bool true)] }),
  (458, { cls := (.type "getset_descriptor"), data := .fields #[(sv "__dict__" 756), (rf 457), (.builtin "function.__dict__"), (.builtin "function.__dict__#set")] }),
  (459, { cls := (.type "getset_descriptor"), data := .fields #[(sv "__weakref__" 758), (rf 457), (.builtin "ExceptionGroup.__weakref__"), .none] }),
  (474, { cls := (.type "code"), data := .fields #[(sv "made" 777), (sv "FQ2.made" 778), (sv "/claim/cut.py" 779), (.int 429 0), (.int 2 0), (.int 0 0), (.int 0 0), (.int 3 0), (rf 469), (.bool true), (.int 181 0), (rf 470), .none, (rf 471), (rf 472), (rf 473), (.int 782 0), (.int 429 0), (sv "/claim/cut.py" 783)] }),
  (475, fo (cb 21 0) "FQ2.made" .none "py_ecc.fields.optimized_field_elements" 607 474),
  (481, { cls := (.type "code"), data := .fields #[(sv "sgn0" 785), (sv "FQ2.sgn0" 786), (sv "/claim/cut.py" 787), (.int 432 0), (.int 1 0), (.int 0 0), (.int 0 0), (.int 3 0), (rf 476), (.bool true), (.int 181 0), (rf 477), .none, (rf 478), (rf 479), (rf 480), (.int 789 0), (.int 432 0), (sv "/claim/cut.py" 790)] }),
  (482, fo (cb 21 1) "FQ2.sgn0" .none "py_ecc.fields.optimized_field_elements" 607 481),
  (483, { cls := (.type "property"), data := .fields #[(rf 482), .none, .none, .none, (sv "sgn0" 792), (.bool false)] }),
  (485, { cls := .type "dict", data := .dict #[en P "__module__" 772 (sv "py_ecc.fields.optimized_field_elements" 607), en P "__firstlineno__" 776 (.int 427 775), en P "made" 784 (rf 475), en P "sgn0" 792 (rf 483), en P "__static_attributes__" 793 (rf 484), en P "__doc__" 794 .none] 2 }),
  (486, { cls := (.type "type"), data := .cls { name := .ofString "FQ2", bases := [(rf 457)], mro := [(rf 486), (rf 457), (.type "object")], ns := 485, qualname := .ofString "FQ2", subclasses := [] }, slots := #[some (rf 462), none, some (sv "FQ2" 765), some (sv "FQ2" 773), some (.builtin "object.__new__"), some (.bool true)] }),
  (494, { cls := (.type "code"), data := .fields #[(sv "is_inf" 799), (sv "is_inf" 800), (sv "/claim/cut.py" 801), (.int 436 0), (.int 1 0), (.int 0 0), (.int 0 0), (.int 3 0), (rf 489), (.bool true), (.int 181 0), (rf 490), .none, (rf 491), (rf 492), (rf 493), (.int 803 0), (.int 436 0), (sv "/claim/cut.py" 804)] }),
  (495, fo (tp 23) "is_inf" .none "py_ecc.optimized_bn128.optimized_curve" 797 494),
  (501, { cls := (.type "code"), data := .fields #[(sv "double" 807), (sv "double" 808), (sv "/claim/cut.py" 809), (.int 439 0), (.int 1 0), (.int 0 0), (.int 0 0), (.int 3 0), (rf 496), (.bool true), (.int 181 0), (rf 497), .none, (rf 498), (rf 499), (rf 500), (.int 822 0), (.int 439 0), (sv "/claim/cut.py" 823)] }),
  (502, fo (tp 25) "double" .none "py_ecc.optimized_bn128.optimized_curve" 797 501),
  (508, { cls := (.type "code"), data := .fields #[(sv "add" 826), (sv "add" 827), (sv "/claim/cut.py" 828), (.int 451 0), (.int 2 0), (.int 0 0), (.int 0 0), (.int 3 0), (rf 503), (.bool true), (.int 181 0), (rf 504), .none, (rf 505), (rf 506), (rf 507), (.int 853 0), (.int 451 0), (sv "/claim/cut.py" 854)] }),
  (509, fo (tp 27) "add" .none "py_ecc.optimized_bn128.optimized_curve" 797 508),
  (515, { cls := (.type "code"), data := .fields #[(sv "multiply" 857), (sv "multiply" 858), (sv "/claim/cut.py" 859), (.int 477 0), (.int 2 0), (.int 0 0), (.int 0 0), (.int 3 0), (rf 510), (.bool true), (.int 181 0), (rf 511), .none, (rf 512), (rf 513), (rf 514), (.int 862 0), (.int 477 0), (sv "/claim/cut.py" 863)] }),
  (516, fo (tp 29) "multiply" .none "py_ecc.optimized_bn128.optimized_curve" 797 515),
  (522, { cls := (.type "code"), data := .fields #[(sv "eq" 865), (sv "eq" 866), (sv "/claim/cut.py" 867), (.int 486 0), (.int 2 0), (.int 0 0), (.int 0 0), (.int 3 0), (rf 517), (.bool true), (.int 181 0), (rf 518), .none, (rf 519), (rf 520), (rf 521), (.int 876 0), (.int 486 0), (sv "/claim/cut.py" 877)] }),
  (523, fo (tp 30) "eq" .none "py_ecc.optimized_bn128.optimized_curve" 797 522),
  (529, { cls := (.type "code"), data := .fields #[(sv "normalize" 879), (sv "normalize" 880), (sv "/claim/cut.py" 881), (.int 490 0), (.int 1 0), (.int 0 0), (.int 0 0), (.int 3 0), (rf 524), (.bool true), (.int 181 0), (rf 525), .none, (rf 526), (rf 527), (rf 528), (.int 886 0), (.int 490 0), (sv "/claim/cut.py" 887)] }),
  (530, fo (tp 31) "normalize" .none "py_ecc.optimized_bn128.optimized_curve" 797 529),
  (531, { cls := (.type "tuple"), data := .seq #[(.int 6 892), (.int 5 893)] 0 }),
  (532, { cls := (.type "tuple"), data := .seq #[(.int 0 894), (.int 6 895), (.int 1 896), (.int 3 897)] 0 }),
  (533, { cls := (.type "tuple"), data := .seq #[(.int 6 898), (.int 2 899), (.int 2 900), (.int 6 901)] 0 }),
  (534, { cls := (.type "tuple"), data := .seq #[(.int 2 902), (.int 2 903), (.int 2 904), (.int 0 905)] 0 }),
  (535, { cls := (.type "tuple"), data := .seq #[(.int 3 906), (.int 4 907), (.int 1 908), (.int 0 909)] 0 }),
  (536, { cls := (.type "tuple"), data := .seq #[(.int 5 910), (.int 2 911), (.int 6 912), (.int 0 913)] 0 }),
  (537, { cls := (.type "tuple"), data := .seq #[(.int 1 914), (.int 0 915), (.int 1 916), (.int 6 917)] 0 }),
  (538, { cls := (.type "tuple"), data := .seq #[(.int 2 918), (.int 3 919), (.int 3 920), (.int 0 921)] 0 }),
  (539, { cls := (.type "list"), data := .seq #[(rf 532), (rf 533), (rf 534), (rf 535), (rf 536), (rf 537), (rf 538)] 0 }),
  (540, { cls := (.type "tuple"), data := .seq #[(.int 7 891), (rf 531), (rf 539)] 0 }),
  (541, { cls := (.type "tuple"), data := .seq #[(.int 4 923), (.int 1 924)] 0 }),
  (542, { cls := (.type "tuple"), data := .seq #[(.int 11 925), (.int 2 926), (.int 11 927), (.int 18 928)] 0 }),
  (543, { cls := (.type "tuple"), data := .seq #[(.int 7 929), (.int 6 930), (.int 5 931), (.int 4 932)] 0 }),
  (544, { cls := (.type "tuple"), data := .seq #[(.int 3 933), (.int 11 934), (.int 7 935), (.int 9 936)] 0 }),
  (545, { cls := (.type "tuple"), data := .seq #[(.int 1 937), (.int 17 938), (.int 4 939), (.int 17 940)] 0 }),
  (546, { cls := (.type "tuple"), data := .seq #[(.int 4 941), (.int 5 942), (.int 8 943), (.int 12 944)] 0 }),
  (547, { cls := (.type "tuple"), data := .seq #[(.int 10 945), (.int 13 946), (.int 4 947), (.int 4 948)] 0 }),
  (548, { cls := (.type "tuple"), data := .seq #[(.int 1 949), (.int 4 950), (.int 14 951), (.int 7 952)] 0 }),
  (549, { cls := (.type "list"), data := .seq #[(rf 542), (rf 543), (rf 544), (rf 545), (rf 546), (rf 547), (rf 548)] 0 }),
  (550, { cls := (.type "tuple"), data := .seq #[(.int 19 922), (rf 541), (rf 549)] 0 }),
  (551, { cls := (.type "tuple"), data := .seq #[(.int 5 954), (.int 12 955)] 0 }),
  (552, { cls := (.type "tuple"), data := .seq #[(.int 17 956), (.int 1 957), (.int 25 958), (.int 25 959)] 0 }),
  (553, { cls := (.type "tuple"), data := .seq #[(.int 27 960), (.int 3 961), (.int 1 962), (.int 18 963)] 0 }),
  (554, { cls := (.type "tuple"), data := .seq #[(.int 25 964), (.int 6 965), (.int 9 966), (.int 4 967)] 0 }),
  (555, { cls := (.type "tuple"), data := .seq #[(.int 14 968), (.int 10 969), (.int 14 970), (.int 2 971)] 0 }),
  (556, { cls := (.type "tuple"), data := .seq #[(.int 28 972), (.int 14 973), (.int 19 974), (.int 18 975)] 0 }),
  (557, { cls := (.type "tuple"), data := .seq #[(.int 30 976), (.int 19 977), (.int 2 978), (.int 23 979)] 0 }),
  (558, { cls := (.type "tuple"), data := .seq #[(.int 25 980), (.int 25 981), (.int 20 982), (.int 5 983)] 0 }),
  (559, { cls := (.type "list"), data := .seq #[(rf 552), (rf 553), (rf 554), (rf 555), (rf 556), (rf 557), (rf 558)] 0 }),
  (560, { cls := (.type "tuple"), data := .seq #[(.int 31 953), (rf 551), (rf 559)] 0 }),
  (561, { cls := (.type "tuple"), data := .seq #[(.int 8 985), (.int 3 986)] 0 }),
  (562, { cls := (.type "tuple"), data := .seq #[(.int 8 987), (.int 1 988), (.int 13 989), (.int 24 990)] 0 }),
  (563, { cls := (.type "tuple"), data := .seq #[(.int 32 991), (.int 2 992), (.int 24 993), (.int 41 994)] 0 }),
  (564, { cls := (.type "tuple"), data := .seq #[(.int 38 995), (.int 4 996), (.int 21 997), (.int 19 998)] 0 }),
  (565, { cls := (.type "tuple"), data := .seq #[(.int 25 999), (.int 7 1000), (.int 24 1001), (.int 20 1002)] 0 }),
  (566, { cls := (.type "tuple"), data := .seq #[(.int 30 1003), (.int 10 1004), (.int 17 1005), (.int 30 1006)] 0 }),
  (567, { cls := (.type "tuple"), data := .seq #[(.int 17 1007), (.int 14 1008), (.int 4 1009), (.int 19 1010)] 0 }),
  (568, { cls := (.type "tuple"), data := .seq #[(.int 24 1011), (.int 18 1012), (.int 41 1013), (.int 13 1014)] 0 }),
  (569, { cls := (.type "list"), data := .seq #[(rf 562), (rf 563), (rf 564), (rf 565), (rf 566), (rf 567), (rf 568)] 0 }),
  (570, { cls := (.type "tuple"), data := .seq #[(.int 43 984), (rf 561), (rf 569)] 0 }),
  (571, { cls := (.type "tuple"), data := .seq #[(.int 2 1016), (.int 9 1017)] 0 }),
  (572, { cls := (.type "tuple"), data := .seq #[(.int 49 1018), (.int 0 1019), (.int 25 1020), (.int 31 1021)] 0 }),
  (573, { cls := (.type "tuple"), data := .seq #[(.int 53 1022), (.int 1 1023), (.int 65 1024), (.int 52 1025)] 0 }),
  (574, { cls := (.type "tuple"), data := .seq #[(.int 11 1026), (.int 3 1027), (.int 36 1028), (.int 40 1029)] 0 }),
  (575, { cls := (.type "tuple"), data := .seq #[(.int 57 1030), (.int 4 1031), (.int 24 1032), (.int 42 1033)] 0 }),
  (576, { cls := (.type "tuple"), data := .seq #[(.int 60 1034), (.int 6 1035), (.int 14 1036), (.int 60 1037)] 0 }),
  (577, { cls := (.type "tuple"), data := .seq #[(.int 15 1038), (.int 9 1039), (.int 61 1040), (.int 6 1041)] 0 }),
  (578, { cls := (.type "tuple"), data := .seq #[(.int 61 1042), (.int 11 1043), (.int 17 1044), (.int 0 1045)] 0 }),
  (579, { cls := (.type "list"), data := .seq #[(rf 572), (rf 573), (rf 574), (rf 575), (rf 576), (rf 577), (rf 578)] 0 }),
  (580, { cls := (.type "tuple"), data := .seq #[(.int 67 1015), (rf 571), (rf 579)] 0 }),
  (581, { cls := (.type "tuple"), data := .seq #[(.int 8 1047), (.int 30 1048)] 0 }),
  (582, { cls := (.type "tuple"), data := .seq #[(.int 48 1049), (.int 0 1050), (.int 8 1051), (.int 71 1052)] 0 }),
  (583, { cls := (.type "tuple"), data := .seq #[(.int 40 1053), (.int 1 1054), (.int 26 1055), (.int 64 1056)] 0 }),
  (584, { cls := (.type "tuple"), data := .seq #[(.int 52 1057), (.int 2 1058), (.int 31 1059), (.int 76 1060)] 0 }),
  (585, { cls := (.type "tuple"), data := .seq #[(.int 8 1061), (.int 4 1062), (.int 46 1063), (.int 20 1064)] 0 }),
  (586, { cls := (.type "tuple"), data := .seq #[(.int 65 1065), (.int 5 1066), (.int 52 1067), (.int 19 1068)] 0 }),
  (587, { cls := (.type "tuple"), data := .seq #[(.int 65 1069), (.int 7 1070), (.int 16 1071), (.int 67 1072)] 0 }),
  (588, { cls := (.type "tuple"), data := .seq #[(.int 8 1073), (.int 10 1074), (.int 40 1075), (.int 2 1076)] 0 }),
  (589, { cls := (.type "list"), data := .seq #[(rf 582), (rf 583), (rf 584), (rf 585), (rf 586), (rf 587), (rf 588)] 0 }),
  (590, { cls := (.type "tuple"), data := .seq #[(.int 79 1046), (rf 581), (rf 589)] 0 }),
  (591, { cls := (.type "tuple"), data := .seq #[(.int 7 1078), (.int 41 1079)] 0 }),
  (592, { cls := (.type "tuple"), data := .seq #[(.int 16 1080), (.int 1 1081), (.int 79 1082), (.int 69 1083)] 0 }),
  (593, { cls := (.type "tuple"), data := .seq #[(.int 4 1084), (.int 2 1085), (.int 19 1086), (.int 82 1087)] 0 }),
  (594, { cls := (.type "tuple"), data := .seq #[(.int 15 1088), (.int 3 1089), (.int 81 1090), (.int 59 1091)] 0 }),
  (595, { cls := (.type "tuple"), data := .seq #[(.int 49 1092), (.int 4 1093), (.int 8 1094), (.int 29 1095)] 0 }),
  (596, { cls := (.type "tuple"), data := .seq #[(.int 0 1096), (.int 6 1097), (.int 60 1098), (.int 20 1099)] 0 }),
  (597, { cls := (.type "tuple"), data := .seq #[(.int 77 1100), (.int 7 1101), (.int 46 1102), (.int 1 1103)] 0 }),
  (598, { cls := (.type "tuple"), data := .seq #[(.int 75 1104), (.int 9 1105), (.int 67 1106), (.int 36 1107)] 0 }),
  (599, { cls := (.type "list"), data := .seq #[(rf 592), (rf 593), (rf 594), (rf 595), (rf 596), (rf 597), (rf 598)] 0 }),
  (600, { cls := (.type "tuple"), data := .seq #[(.int 103 1077), (rf 591), (rf 599)] 0 }),
  (601, { cls := (.type "tuple"), data := .seq #[(.int 12 1109), (.int 2 1110)] 0 }),
  (602, { cls := (.type "tuple"), data := .seq #[(.int 50 1111), (.int 0 1112), (.int 100 1113), (.int 47 1114)] 0 }),
  (603, { cls := (.type "tuple"), data := .seq #[(.int 118 1115), (.int 0 1116), (.int 13 1117), (.int 88 1118)] 0 }),
  (604, { cls := (.type "tuple"), data := .seq #[(.int 84 1119), (.int 1 1120), (.int 122 1121), (.int 4 1122)] 0 }),
  (605, { cls := (.type "tuple"), data := .seq #[(.int 70 1123), (.int 2 1124), (.int 13 1125), (.int 95 1126)] 0 }),
  (606, { cls := (.type "tuple"), data := .seq #[(.int 81 1127), (.int 3 1128), (.int 35 1129), (.int 5 1130)] 0 }),
  (607, { cls := (.type "tuple"), data := .seq #[(.int 110 1131), (.int 4 1132), (.int 11 1133), (.int 74 1134)] 0 }),
  (608, { cls := (.type "tuple"), data := .seq #[(.int 36 1135), (.int 6 1136), (.int 0 1137), (.int 107 1138)] 0 }),
  (609, { cls := (.type "list"), data := .seq #[(rf 602), (rf 603), (rf 604), (rf 605), (rf 606), (rf 607), (rf 608)] 0 }),
  (610, { cls := (.type "tuple"), data := .seq #[(.int 127 1108), (rf 601), (rf 609)] 0 }),
  (611, { cls := (.type "list"), data := .seq #[(rf 540), (rf 550), (rf 560), (rf 570), (rf 580), (rf 590), (rf 600), (rf 610)] 0 }),
  (612, { cls := (.type "tuple"), data := .seq #[] 0 }),
  (614, { cls := (.type "tuple"), data := .seq #[(sv "script" 1143), (sv "k" 1144), (sv "number" 1145)] 0 }),
  (615, { cls := (.type "tuple"), data := .seq #[] 0 }),
  (617, { cls := (.type "code"), data := .fields #[(sv "_law_at" 1140), (sv "_law_at" 1141), (sv "/claim/cut.py" 1142), (.int 495 0), (.int 2 0), (.int 0 0), (.int 0 0), (.int 3 0), (rf 612), (.bool true), (.int 181 0), (rf 613), .none, (rf 614), (rf 615), (rf 616), (.int 1146 0), (.int 495 0), (sv "/claim/cut.py" 1147)] }),
  (618, fo (tp 34) "_law_at" .none "law_lh0039_01" 889 617),
  (619, { cls := (.type "tuple"), data := .seq #[] 0 }),
  (621, { cls := (.type "tuple"), data := .seq #[(sv "p" 1152), (sv "a" 1153), (sv "c" 1154)] 0 }),
  (622, { cls := (.type "tuple"), data := .seq #[] 0 }),
  (624, { cls := (.type "code"), data := .fields #[(sv "_law_mul" 1149), (sv "_law_mul" 1150), (sv "/claim/cut.py" 1151), (.int 498 0), (.int 3 0), (.int 0 0), (.int 0 0), (.int 3 0), (rf 619), (.bool true), (.int 181 0), (rf 620), .none, (rf 621), (rf 622), (rf 623), (.int 1155 0), (.int 498 0), (sv "/claim/cut.py" 1156)] }),
  (625, fo (tp 35) "_law_mul" .none "law_lh0039_01" 889 624),
  (626, { cls := (.type "tuple"), data := .seq #[] 0 }),
  (628, { cls := (.type "tuple"), data := .seq #[(sv "p" 1161), (sv "a" 1162), (sv "c" 1163), (sv "sign" 1164)] 0 }),
  (629, { cls := (.type "tuple"), data := .seq #[] 0 }),
  (631, { cls := (.type "code"), data := .fields #[(sv "_law_plus" 1158), (sv "_law_plus" 1159), (sv "/claim/cut.py" 1160), (.int 500 0), (.int 4 0), (.int 0 0), (.int 0 0), (.int 3 0), (rf 626), (.bool true), (.int 181 0), (rf 627), .none, (rf 628), (rf 629), (rf 630), (.int 1165 0), (.int 500 0), (sv "/claim/cut.py" 1166)] }),
  (632, fo (tp 36) "_law_plus" .none "law_lh0039_01" 889 631),
  (633, { cls := (.type "tuple"), data := .seq #[] 0 }),
  (635, { cls := (.type "tuple"), data := .seq #[(sv "p" 1171), (sv "a" 1172), (sv "c" 1173), (sv "n" 1174)] 0 }),
  (636, { cls := (.type "tuple"), data := .seq #[] 0 }),
  (638, { cls := (.type "code"), data := .fields #[(sv "_law_over" 1168), (sv "_law_over" 1169), (sv "/claim/cut.py" 1170), (.int 502 0), (.int 3 0), (.int 0 0), (.int 0 0), (.int 3 0), (rf 633), (.bool true), (.int 181 0), (rf 634), .none, (rf 635), (rf 636), (rf 637), (.int 1175 0), (.int 502 0), (sv "/claim/cut.py" 1176)] }),
  (639, fo (tp 37) "_law_over" .none "law_lh0039_01" 889 638),
  (640, { cls := (.type "tuple"), data := .seq #[] 0 }),
  (642, { cls := (.type "tuple"), data := .seq #[(sv "p" 1181), (sv "one" 1182), (sv "other" 1183), (sv "m" 1184), (sv "x" 1185)] 0 }),
  (643, { cls := (.type "tuple"), data := .seq #[] 0 }),
  (645, { cls := (.type "code"), data := .fields #[(sv "_law_sum" 1178), (sv "_law_sum" 1179), (sv "/claim/cut.py" 1180), (.int 505 0), (.int 3 0), (.int 0 0), (.int 0 0), (.int 3 0), (rf 640), (.bool true), (.int 181 0), (rf 641), .none, (rf 642), (rf 643), (rf 644), (.int 1186 0), (.int 505 0), (sv "/claim/cut.py" 1187)] }),
  (646, fo (tp 38) "_law_sum" .none "law_lh0039_01" 889 645),
  (647, { cls := (.type "tuple"), data := .seq #[] 0 }),
  (649, { cls := (.type "tuple"), data := .seq #[(sv "p" 1192), (sv "point" 1193)] 0 }),
  (650, { cls := (.type "tuple"), data := .seq #[] 0 }),
  (652, { cls := (.type "code"), data := .fields #[(sv "_law_opposite" 1189), (sv "_law_opposite" 1190), (sv "/claim/cut.py" 1191), (.int 516 0), (.int 2 0), (.int 0 0), (.int 0 0), (.int 3 0), (rf 647), (.bool true), (.int 181 0), (rf 648), .none, (rf 649), (rf 650), (rf 651), (.int 1194 0), (.int 516 0), (sv "/claim/cut.py" 1195)] }),
  (653, fo (tp 39) "_law_opposite" .none "law_lh0039_01" 889 652),
  (654, { cls := (.type "tuple"), data := .seq #[] 0 }),
  (656, { cls := (.type "tuple"), data := .seq #[(sv "p" 1200), (sv "points" 1201), (sv "number" 1202), (sv "x" 1203), (sv "i" 1204), (sv "y" 1205), (sv "j" 1206)] 0 }),
  (657, { cls := (.type "tuple"), data := .seq #[] 0 }),
  (659, { cls := (.type "code"), data := .fields #[(sv "_law_point" 1197), (sv "_law_point" 1198), (sv "/claim/cut.py" 1199), (.int 518 0), (.int 3 0), (.int 0 0), (.int 0 0), (.int 3 0), (rf 654), (.bool true), (.int 181 0), (rf 655), .none, (rf 656), (rf 657), (rf 658), (.int 1207 0), (.int 518 0), (sv "/claim/cut.py" 1208)] }),
  (660, fo (tp 40) "_law_point" .none "law_lh0039_01" 889 659),
  (661, { cls := (.type "tuple"), data := .seq #[] 0 }),
  (663, { cls := (.type "tuple"), data := .seq #[(sv "p" 1213), (sv "point" 1214)] 0 }),
  (664, { cls := (.type "tuple"), data := .seq #[] 0 }),
  (666, { cls := (.type "code"), data := .fields #[(sv "_law_plain" 1210), (sv "_law_plain" 1211), (sv "/claim/cut.py" 1212), (.int 523 0), (.int 2 0), (.int 0 0), (.int 0 0), (.int 3 0), (rf 661), (.bool true), (.int 181 0), (rf 662), .none, (rf 663), (rf 664), (rf 665), (.int 1215 0), (.int 523 0), (sv "/claim/cut.py" 1216)] }),
  (667, fo (tp 41) "_law_plain" .none "law_lh0039_01" 889 666),
  (668, { cls := (.type "tuple"), data := .seq #[] 0 }),
  (671, { cls := (.type "code"), data := .fields #[(sv "_law_told" 1218), (sv "_law_told" 1219), (sv "/claim/cut.py" 1220), (.int 525 0), (.int 1 0), (.int 0 0), (.int 0 0), (.int 3 0), (rf 668), (.bool true), (.int 181 0), (rf 669), .none, .none, .none, (rf 670), (.int 1221 0), (.int 525 0), (sv "/claim/cut.py" 1222)] }),
  (672, fo (tp 42) "_law_told" .none "law_lh0039_01" 889 671),
  (673, { cls := (.type "tuple"), data := .seq #[] 0 }),
  (676, { cls := (.type "code"), data := .fields #[(sv "_law_quick" 1224), (sv "_law_quick" 1225), (sv "/claim/cut.py" 1226), (.int 527 0), (.int 3 0), (.int 0 0), (.int 0 0), (.int 3 0), (rf 673), (.bool true), (.int 181 0), (rf 674), .none, .none, .none, (rf 675), (.int 1227 0), (.int 527 0), (sv "/claim/cut.py" 1228)] }),
  (677, fo (tp 43) "_law_quick" .none "law_lh0039_01" 889 676),
  (678, { cls := (.type "tuple"), data := .seq #[] 0 }),
  (681, { cls := (.type "code"), data := .fields #[(sv "_law_is_quick" 1230), (sv "_law_is_quick" 1231), (sv "/claim/cut.py" 1232), (.int 532 0), (.int 3 0), (.int 0 0), (.int 0 0), (.int 3 0), (rf 678), (.bool true), (.int 181 0), (rf 679), .none, .none, .none, (rf 680), (.int 1233 0), (.int 532 0), (sv "/claim/cut.py" 1234)] }),
  (682, fo (tp 44) "_law_is_quick" .none "law_lh0039_01" 889 681),
  (683, { cls := (.type "tuple"), data := .seq #[] 0 }),
  (685, { cls := (.type "tuple"), data := .seq #[(sv "way" 1239), (sv "p" 1240), (sv "b" 1241), (sv "one" 1242), (sv "other" 1243), (sv "first" 1244), (sv "bound" 1245)] 0 }),
  (686, { cls := (.type "tuple"), data := .seq #[] 0 }),
  (688, { cls := (.type "code"), data := .fields #[(sv "_law_answers" 1236), (sv "_law_answers" 1237), (sv "/claim/cut.py" 1238), (.int 537 0), (.int 5 0), (.int 0 0), (.int 0 0), (.int 3 0), (rf 683), (.bool true), (.int 181 0), (rf 684), .none, (rf 685), (rf 686), (rf 687), (.int 1246 0), (.int 537 0), (sv "/claim/cut.py" 1247)] }),
  (689, fo (tp 45) "_law_answers" .none "law_lh0039_01" 889 688),
  (690, { cls := (.type "tuple"), data := .seq #[] 0 }),
  (693, { cls := (.type "code"), data := .fields #[(sv "law" 1249), (sv "law" 1250), (sv "/claim/cut.py" 1251), (.int 547 0), (.int 1 0), (.int 0 0), (.int 0 0), (.int 3 0), (rf 690), (.bool true), (.int 181 0), (rf 691), .none, .none, .none, (rf 692), (.int 1252 0), (.int 547 0), (sv "/claim/cut.py" 1253)] }),
  (694, fo (tp 46) "law" .none "law_lh0039_01" 889 693)]
noncomputable def KA : List Addr := [2, 3, 20, 21, 27, 28, 34, 35, 39, 40, 53, 54, 60, 61, 67, 68, 74, 75, 81, 82, 88, 89, 95, 96, 102, 103, 109, 110, 116, 117, 123, 124, 130, 131, 137, 138, 144, 145, 151, 152, 158, 159, 165, 166, 172, 173, 179, 180, 182, 183, 184, 185, 200, 201, 207, 208, 214, 215, 219, 220, 224, 225, 229, 230, 236, 237, 241, 242, 248, 249, 253, 254, 260, 261, 267, 268, 274, 275, 279, 280, 286, 287, 293, 294, 296, 297, 298, 299, 307, 308, 314, 315, 321, 322, 328, 329, 335, 336, 347, 348, 354, 355, 359, 360, 364, 365, 371, 372, 376, 377, 383, 384, 388, 389, 395, 396, 400, 401, 405, 406, 412, 413, 419, 420, 426, 427, 431, 432, 438, 439, 440, 446, 447, 453, 454, 456, 457, 458, 459, 474, 475, 481, 482, 483, 485, 486, 494, 495, 501, 502, 508, 509, 515, 516, 522, 523, 529, 530, 531, 532, 533, 534, 535, 536, 537, 538, 539, 540, 541, 542, 543, 544, 545, 546, 547, 548, 549, 550, 551, 552, 553, 554, 555, 556, 557, 558, 559, 560, 561, 562, 563, 564, 565, 566, 567, 568, 569, 570, 571, 572, 573, 574, 575, 576, 577, 578, 579, 580, 581, 582, 583, 584, 585, 586, 587, 588, 589, 590, 591, 592, 593, 594, 595, 596, 597, 598, 599, 600, 601, 602, 603, 604, 605, 606, 607, 608, 609, 610, 611, 612, 614, 615, 617, 618, 619, 621, 622, 624, 625, 626, 628, 629, 631, 632, 633, 635, 636, 638, 639, 640, 642, 643, 645, 646, 647, 649, 650, 652, 653, 654, 656, 657, 659, 660, 661, 663, 664, 666, 667, 668, 671, 672, 673, 676, 677, 678, 681, 682, 683, 685, 686, 688, 689, 690, 693, 694]
noncomputable def vw : Program := view pw [0, 2, 3, 4, 6, 7, 8, 11, 12, 14, 16, 17, 19, 20, 21, 23, 24, 25, 26, 27, 28, 29, 30, 31, 33, 34, 35, 36, 37, 38, 39, 40, 41, 42, 43, 44, 45, 46]
noncomputable def lo : List Str := ["FQP", "FQP_field_elements", "is_inf_bn128_curve", "double_bn128_curve", "add_bn128_curve", "FQP_optimized_field_elements", "FQ2", "is_inf_optimized_curve", "double_optimized_curve", "add_optimized_curve", "_law_curves"].map .ofString
theorem KE (P : Params) : KA = (KH P).map (·.1) := by kernel_rfl
noncomputable def tree0 : Params → BT := fun P => BT.node (boot_o_0 P) (BT.node (boot_o_1 P) (BT.node (boot_o_3 P) (BT.node (boot_o_7 P) BT.nil BT.nil) (BT.node ({ cls := .type "tuple", data := .seq #[] } : Obj) BT.nil BT.nil)) (BT.node (boot_o_5 P) (BT.node (boot_o_9 P) BT.nil BT.nil) (BT.node { cls := Value.type "code", data := Data.fields #[Value.str (Str.ofString "<module>") 182, Value.str (Str.ofString "<module>") 183, Value.str (Str.ofString "/claim/cut.py") 184, Value.int 1 0, Value.int 0 0, Value.int 0 0, Value.int 0 0, Value.int 0 0, Value.ref 11, Value.bool false, Value.int 181 0, Value.ref 12, Value.none, Value.none, Value.none, Value.none, Value.int 185 0, Value.int 1 0, Value.str (Str.ofString "/claim/cut.py") 186] } BT.nil BT.nil))) (BT.node (boot_o_2 P) (BT.node (boot_o_4 P) (BT.node (boot_o_8 P) BT.nil BT.nil) (BT.node { cls := Value.none, data := Data.fields #[] } BT.nil BT.nil)) (BT.node (boot_o_6 P) (BT.node (boot_o_10 P) BT.nil BT.nil) (BT.node { cls := Value.type "frame", slots := #[some (Value.ref 13), some (Value.ref 3), some (Value.ref 3), none, some (Value.str (Str.ofString "__main__") 164), none, some (Value.ref 0)] } BT.nil BT.nil)))
noncomputable def env0 : Env := { scope := pw.main.scope, locals := mainNs, globals := mainNs, cells := [], code := Value.ref 13, frame := some 14 }
noncomputable abbrev pos0 : Pos := { line := 0, col := 0, endLine := 0, endCol := 0 }
noncomputable def cod : Code := Code.body (behindTheImports pw) env0
noncomputable def st0 (w : World) (os : OsState) : SharedT := { tree := tree0 w.params, n := 15, life := { }, gens := #[], drawn := { }, toks := 187, os := os }
noncomputable abbrev rr := PySem.Challenge.rw_lh0039_01.row
noncomputable abbrev hk : Hook := kmHook KH KA KE [196, 345]
noncomputable abbrev ann0 : Option Value := some (.ref 6)
noncomputable def thr0 : Thread := piecesOf (behindTheImports pw) env0 cod pos0 [topFrame pos0]
noncomputable def xt : Shared → Bool := fun s => xlAt vw [] s && recOk (RowW.records (OpenRow.toRowW rr)) s
noncomputable def stOf (d : SharedT) : Option (Flow × SharedT × Code × Pos) → SharedT
  | some (_, s, _, _) => s
  | none => d
noncomputable def poOf : Option (Flow × SharedT × Code × Pos) → Pos
  | some (_, _, _, p) => p
  | none => default
noncomputable def lk (w : World) (s : Shared) := ((staticsOk (importedModules pw.main.body) (boot_heap w.params) s.heap && namesBound pw s.heap && gensDone s && laidKept (boot_heap w.params) s.heap), openSeen vw lo (importedModules pw.main.body) xt true s, hk.obs s)
end
section
noncomputable def resQ (w : World) (os : OsState) := PySem.W.Fast.tw10110043849684766642 PySem.W.Fast.tw14364793385576792824 pw w 11 ann0 1 4094 (st0 w os) thr0
noncomputable def fiQ (w : World) (os : OsState) : Shared := (stOf (st0 w os) (resQ w os)).abs
noncomputable def lkQ (w : World) (s : Shared) := ((staticsOk (PySem.W.Fast.tw5923862056798008813 pw.main.body) (boot_heap w.params) s.heap && namesBound pw s.heap && gensDone s && laidKept (boot_heap w.params) s.heap), PySem.W.Fast.tw4187177175401517315 vw lo (PySem.W.Fast.tw5923862056798008813 pw.main.body) xt true s)
theorem shot1 (w : World) (os : OsState) : (resQ w os, lkQ w (fiQ w os)) = (some (.next, stOf (st0 w os) (resQ w os), cod, poOf (resQ w os)), (true, openGood vw lo)) := by kernel_rfl
theorem shot2 (w : World) (os : OsState) : hk.obs (fiQ w os) = hk.val w := by kernel_rfl
theorem run_q (w : World) (os : OsState) : segRunT treeTable pw w 11 ann0 1 4094 (st0 w os) thr0 = some (.next, stOf (st0 w os) (resQ w os), cod, poOf (resQ w os)) := by
  rw [PySem.W.Fast.te10110043849684766642, PySem.W.Fast.te14364793385576792824]
  exact congrArg Prod.fst (shot1 w os)
theorem pre_q (w : World) (os : OsState) : topGo treeTable pw w 11 ann0 12 ⟨boot_heap w.params, #[], boot_drawn, boot_toks, os⟩ (topStub pw) = some ((st0 w os).abs, ⟨denote treeTable cod, cod, pos0, [topFrame pos0]⟩) := by kernel_rfl
theorem blk_q (w : World) (os : OsState) : segRun treeTable pw w 11 ann0 1 1 (st0 w os).abs (blockOf (behindTheImports pw) env0 cod pos0 [topFrame pos0]) = some (.next, (st0 w os).abs, cod, pos0) := by kernel_rfl
theorem fin_q (w : World) (p : Pos) : ∀ s : Shared, topRun treeTable pw w 11 ann0 2 s ⟨doneF .next, cod, p, [topFrame pos0]⟩ = some s
  | ⟨_, _, _, _, _⟩ => by kernel_rfl
theorem run_top (w : World) (os : OsState) : topRun treeTable pw w 11 ann0 (12 + (1 + (4094 + 2))) ⟨boot_heap w.params, #[], boot_drawn, boot_toks, os⟩ (topStub pw) = some (fiQ w os) := by
  refine go_top (pre_q w os) (piece_block (blk_q w os) ?_)
  have h := piece_app (l := behindTheImports pw) (rest := []) (segRun_of (run_q w os)) (piece_nil (fin_q w _ _))
  rw [List.append_nil] at h
  exact h
theorem left_shot {p q : Program} {loose : List Str} {Xt : Shared → Bool} {α : Type} {Yf : Shared → α} {Ya : World → α} {N M m₀ : Nat} {H₀ : Params → Heap} {d₀ : Drawn} {k₀ : Nat} {ann : Option Value}
    (open_ : ∀ w : World, (fencedOpening treeTable p w N).map (fun s => (s.heap, s.gens, s.drawn, s.toks)) = some (H₀ w.params, #[], d₀, k₀))
    (size : ∀ w : World, ((H₀ w.params).isNs mainGlobals && (#[] : Array GenState).size == 0, (H₀ w.params).objs.size, (H₀ w.params).nsMap mainGlobals "__annotations__") = (true, m₀, ann)) (le : M ≤ N)
    (run : ∀ (w : World) (os : OsState), ∃ s, topRun treeTable p w m₀ ann M ⟨H₀ w.params, #[], d₀, k₀, os⟩ (topStub p) = some s ∧
      ((staticsOk (importedModules p.main.body) (H₀ w.params) s.heap && namesBound p s.heap && gensDone s && laidKept (H₀ w.params) s.heap), openSeen q loose (importedModules p.main.body) Xt true s) = (true, openGood q loose) ∧ Yf s = Ya w) :
    LeftO p q loose Xt Yf Ya N := fun w => by
  obtain ⟨⟨h, gs, d, k, os⟩, e, e'⟩ := Option.map_eq_some_iff.mp (open_ w)
  obtain ⟨rfl, rfl, rfl, rfl⟩ : h = H₀ w.params ∧ gs = #[] ∧ d = d₀ ∧ k = k₀ := by simpa using e'
  obtain ⟨z1, z2, z3⟩ : _ ∧ _ ∧ _ := by simpa only [Prod.mk.injEq] using size w
  obtain ⟨s, r, l, l3⟩ := run w os
  obtain ⟨l1, l2⟩ : _ ∧ _ := by simpa only [Prod.mk.injEq] using l
  have r := topRun_mono (N - M) _ _ _ _ r
  rw [show M + (N - M) = N by omega] at r
  have t : topFrom treeTable p w N ⟨H₀ w.params, #[], d, k, os⟩ = some s := by
    unfold topFrom
    dsimp only
    rw [z1, z2, z3, r]
    show (match staticsOk (importedModules p.main.body) (H₀ w.params) s.heap && namesBound p s.heap && gensDone s && laidKept (H₀ w.params) s.heap with | true => _ | false => _) = _
    rw [l1]
  unfold openEnds
  rw [e]
  show (topFrom treeTable p w N _).map _ = _
  rw [t]
  exact congrArg some (Prod.ext l2 l3)
theorem left_q : LeftO pw vw lo xt hk.obs hk.val 8288 :=
  left_shot (H₀ := boot_heap) (d₀ := boot_drawn) (k₀ := boot_toks) (m₀ := 11) (ann := ann0) (boot_open (by kernel_rfl) (by decide) fun s => by kernel_rfl) (fun w => by kernel_rfl) (by decide) fun w os =>
    ⟨fiQ w os, run_top w os, by rw [PySem.W.Fast.te5923862056798008813, PySem.W.Fast.te4187177175401517315]; exact congrArg Prod.snd (shot1 w os), shot2 w os⟩
end
section
theorem dk_some : (defOf vw (RowW.name (OpenRow.toRowW rr))).isSome = true := by kernel_rfl
noncomputable def dk : DefRec × List (Str × PySem.Expr) := (defOf vw (RowW.name (OpenRow.toRowW rr))).get dk_some
theorem saidQ : PySem.W.Fast.tw9446332074065402090 PySem.Challenge.rw_lh0039_01 = true := by kernel_rfl
theorem said : PySem.Challenge.rw_lh0039_01.wellSaid = true := by rw [PySem.W.Fast.te9446332074065402090]; exact saidQ
theorem chk : (chainsOk vw && opensWell (RowW.prog (OpenRow.toRowW rr)) && (frees (OpenRow.toRowW rr) && List.isEmpty (RowW.within (OpenRow.toRowW rr)))) = true := by kernel_rfl
theorem hd (H : WalkO vw lo (XL vw []) hk.says (OpenRow.toRowW rr) dk.1 dk.2 fun f vs => call f vs) : PySem.Challenge.rw_lh0039_01.Holds := by
  refine holds_law said fun _ => ?_
  refine holds_open (q := vw) (loose := lo) (Xt := xt) (XP := XL vw []) (Yf := hk.obs) (Ya := hk.val) (YP := hk.says) (d := dk.1) (kwd := dk.2) (N := 8288) left_q hk.of hk.keeps (fun s e => xl_of s (Bool.and_eq_true_iff.mp e).1) XL.keeps (by kernel_rfl) (by kernel_rfl) (by kernel_rfl) (fun s e => recFacts_of (Bool.and_eq_true_iff.mp e).2) rfl (row_said said) chk ⟨rfl, rfl, rfl, rfl, rfl, by decide +kernel⟩ ?hw H
  w_witness2
theorem dk_nm : dk.1.name = "law" := by kernel_rfl
end
section
noncomputable abbrev KK : Params → Frag := KH
theorem k_gl (P : Params) : ∀ y ∈ globs, nsIn (KK P) mainGlobals y.1 = some (some (.ref y.2)) ∧ keepIn (KK P) (.ref y.2) = true := by
  unfold globs
  repeat (first | exact List.forall_mem_nil _ | refine List.forall_mem_cons.mpr ⟨⟨by kernel_rfl, by kernel_rfl⟩, ?_⟩)
theorem k_bl (P : Params) : ∀ y ∈ bools, nsIn (KK P) mainGlobals y.1 = some none ∧ bootBuiltins y.1 = some (biV y.2) ∧ y.1 ≠ "__name__" := by
  unfold bools
  repeat (first | exact List.forall_mem_nil _ | refine List.forall_mem_cons.mpr ⟨⟨by kernel_rfl, by kernel_rfl, by decide +kernel⟩, ?_⟩)
theorem k_noi (P : Params) : noI (KK P) 183 (dunderI "add") = true ∧ noI (KK P) 183 (dunderI "sub") = true := ⟨by kernel_rfl, by kernel_rfl⟩
theorem k_cg (P : Params) : specialIn (KK P) (.builtin "object.__class__") "__get__" = some (some (.builtin "getset_descriptor.__get__")) ∧ takesIn (KK P) (.builtin "object.__class__") = some true := ⟨by kernel_rfl, by kernel_rfl⟩
theorem k_ci (P : Params) : ∀ C : Nat, C = 183 ∨ C = 297 ∨ C = 486 → plainGet (KK P) C "__class__" = true ∧ findIn (KK P) (.ref C) "__class__" = some (some (.builtin "object.__class__")) ∧ mroIn (KK P) C (.type "object") = some true := fun C h => by
  rcases h with rfl | rfl | rfl <;> exact ⟨by kernel_rfl, by kernel_rfl, by kernel_rfl⟩
theorem k_cl (P : Params) : ∀ C : Nat, C = 183 ∨ C = 297 ∨ C = 486 → selfFirst (KK P) C = true ∧ hasDictIn (KK P) C = true ∧ notFirst (KK P) C (.ref C) = true ∧ notFirst (KK P) C (.type "int") = true ∧ subIn (KK P) (.type "int") (.ref C) = some false ∧ subIn (KK P) (.ref C) (.type "int") = some false := fun C h => by
  rcases h with rfl | rfl | rfl <;> exact ⟨by kernel_rfl, by kernel_rfl, by kernel_rfl, by kernel_rfl, by kernel_rfl, by kernel_rfl⟩
theorem k_at (P : Params) : ∀ C : Nat, C = 183 ∨ C = 297 ∨ C = 486 → ∀ x ∈ attrs, plainGet (KK P) C x = true ∧ findIn (KK P) (.ref C) x = some none := fun C h => by
  unfold attrs
  rcases h with rfl | rfl | rfl <;> repeat (first | exact List.forall_mem_nil _ | refine List.forall_mem_cons.mpr ⟨⟨by kernel_rfl, by kernel_rfl⟩, ?_⟩)
theorem k_set (P : Params) : KSet (KK P) where
  sa := fun C h => by rcases h with rfl | rfl | rfl <;> exact ⟨by kernel_rfl, by kernel_rfl⟩
  tk := fun C a h ha => by
    revert a
    unfold attrs
    rcases h with rfl | rfl | rfl <;> repeat (first | exact List.forall_mem_nil _ | refine List.forall_mem_cons.mpr ⟨by kernel_rfl, ?_⟩)
noncomputable def okR : Option (Option Value) → Bool
  | some none => true
  | some (some (.ref _)) => true
  | _ => false
theorem okR_ok {o : Option (Option Value)} (h : okR o = true) : ∃ rc, o = some rc ∧ (rc = none ∨ ∃ g : Addr, rc = some (.ref g)) := by
  unfold okR at h
  split at h
  · exact ⟨_, rfl, .inl rfl⟩
  · exact ⟨_, rfl, .inr ⟨_, rfl⟩⟩
  · cases h
noncomputable def okS : Option (Option Value) → Bool
  | some (some (.ref _)) => true
  | _ => false
theorem okS_ok {o : Option (Option Value)} (h : okS o = true) : ∃ fr, o = some (some (.ref fr)) := by
  unfold okS at h
  split at h
  · exact ⟨_, rfl⟩
  · cases h
theorem k_op (P : Params) : ∀ C n : Nat, C = 183 ∨ C = 297 ∨ C = 486 → n = 0 ∨ n = 1 ∨ n = 2 ∨ n = 5 ∨ n = 6 → (∃ rc, findIn (KK P) (.ref C) (dunderR (nmOf n)) = some rc ∧ (rc = none ∨ ∃ g : Addr, rc = some (.ref g))) ∧ ∃ ro, findIn (KK P) (.type "int") (dunderR (nmOf n)) = some ro := fun C n hC hn => by
  rcases hC with rfl | rfl | rfl <;> rcases hn with rfl | rfl | rfl | rfl | rfl <;> exact ⟨okR_ok (by kernel_rfl), Option.isSome_iff_exists.mp (by kernel_rfl)⟩
theorem k_ro (P : Params) : ∀ C n f, mth C (dundR n) = some f → n = 1 ∨ n = 2 ∨ n = 5 → ∃ fr, findIn (KK P) (.ref C) (dund n) = some (some (.ref fr)) := fun C n f h hn => by
  unfold mth at h
  split at h
  · rcases hn with rfl | rfl | rfl <;> exact okS_ok (by kernel_rfl)
  · rcases hn with rfl | rfl | rfl <;> exact okS_ok (by kernel_rfl)
  · rcases hn with rfl | rfl | rfl <;> exact okS_ok (by kernel_rfl)
  · cases h
theorem k_isi (P : Params) : ∀ t c b, isT t c = some b → kitOne (KK P) (if t = 0 then .type "int" else .ref t) (if c = 0 then .type "int" else .ref c) = some b := fun t c b h => by
  have a : (isTs.all fun y => kitOne (KK P) (if y.1 = 0 then .type "int" else .ref y.1) (if y.2.1 = 0 then .type "int" else .ref y.2.1) == some y.2.2) = true := by kernel_rfl
  exact eq_of_beq (List.all_eq_true.mp a _ (isT_go h))
noncomputable def MtOk (P : Params) (C : Nat) (y : Str × Nat) : Prop := findIn (KK P) (.ref C) y.1 = some (some (.ref y.2)) ∧ isFn (KK P) (.ref y.2) = true ∧ keepIn (KK P) (.ref y.2) = true ∧ plainGet (KK P) C y.1 = true
theorem k_mt (P : Params) : ∀ C x f, mth C x = some f → findIn (KK P) (.ref C) x = some (some (.ref f)) ∧ isFn (KK P) (.ref f) = true ∧ keepIn (KK P) (.ref f) = true ∧ plainGet (KK P) C x = true := fun C x f h => by
  unfold mth at h
  split at h
  · refine (?_ : ∀ y ∈ _, MtOk P 183 y) _ (look_mem h)
    repeat (first | exact List.forall_mem_nil _ | refine List.forall_mem_cons.mpr ⟨⟨by kernel_rfl, by kernel_rfl, by kernel_rfl, by kernel_rfl⟩, ?_⟩)
  · refine (?_ : ∀ y ∈ _, MtOk P 297 y) _ (look_mem h)
    repeat (first | exact List.forall_mem_nil _ | refine List.forall_mem_cons.mpr ⟨⟨by kernel_rfl, by kernel_rfl, by kernel_rfl, by kernel_rfl⟩, ?_⟩)
  · refine (?_ : ∀ y ∈ _, MtOk P 486 y) _ (look_mem h)
    repeat (first | exact List.forall_mem_nil _ | refine List.forall_mem_cons.mpr ⟨⟨by kernel_rfl, by kernel_rfl, by kernel_rfl, by kernel_rfl⟩, ?_⟩)
  · cases h
noncomputable def objSeq (t : String) (o : Obj) : Option (List Value × Nat) := match o with
  | ⟨.type t', none, .seq xs n, x⟩ => (match decide (t' = t) && Nat.beq x.size 0 with | true => some (xs.toList, n) | false => none)
  | _ => none
set_option tactic.hygienic true in
theorem objSeq_ok {t : String} {o : Obj} {l : List Value} {n : Nat} (h : objSeq t o = some (l, n)) : o = { cls := .type t, data := .seq l.toArray n } := by
  unfold objSeq at h
  split at h
  · split at h
    · rename_i t' xs n' x hc
      refine oA (Bool.and_eq_true_iff.mp hc) ?_; intro h1 h2
      have h1 := of_decide_eq_true h1
      have h2 := Array.eq_empty_of_size_eq_zero (Nat.eq_of_beq_eq_true h2)
      cases h
      subst h1 h2
      rfl
    · cases h
  · cases h
noncomputable def seqIn (K : Frag) (t : String) (v : Value) : Option (List Value × Nat) := match v with
  | .ref a => (match K.lookup a with | some o => objSeq t o | none => none)
  | _ => none
set_option tactic.hygienic true in
theorem seqIn_ok {K : Frag} {t : String} {v : Value} {l : List Value} {n : Nat} (h : seqIn K t v = some (l, n)) : ∃ a, v = .ref a ∧ K.lookup a = some { cls := .type t, data := .seq l.toArray n } := by
  unfold seqIn at h
  split at h
  · rename_i a
    split at h
    · rename_i o e
      exact ⟨a, rfl, e.trans (congrArg some (objSeq_ok h))⟩
    · cases h
  · cases h
noncomputable def vI {α : Type} (v : Value) (f : Int → Option α) : Option α := match v with | .int x _ => f x | _ => none
theorem vI_x {α : Type} {v : Value} {f : Int → Option α} {r : α} (h : vI v f = some r) : ∃ x t, v = .int x t ∧ f x = some r := by cases v <;> first | exact ⟨_, _, rfl, h⟩ | cases h
theorem vI_k {α : Type} {v : Value} {f : Int → Option α} {r : α} (h : vI v f = some r) {G : Prop} (k : ∀ x t, v = .int x t → f x = some r → G) : G := oEEA (vI_x h) k
noncomputable def vC {α β : Type} (l : List β) (f : β → List β → Option α) : Option α := match l with | [] => none | a :: r => f a r
theorem vC_x {α β : Type} {l : List β} {f : β → List β → Option α} {r : α} (h : vC l f = some r) : ∃ a q, l = a :: q ∧ f a q = some r := by cases l <;> first | exact ⟨_, _, rfl, h⟩ | cases h
theorem vC_k {α β : Type} {l : List β} {f : β → List β → Option α} {r : α} (h : vC l f = some r) {G : Prop} (k : ∀ a q, l = a :: q → f a q = some r → G) : G := oEEA (vC_x h) k
noncomputable def vE {α β : Type} (l : List β) (o : Option α) : Option α := match l with | [] => o | _ :: _ => none
theorem vE_x {α β : Type} {l : List β} {o : Option α} {r : α} (h : vE l o = some r) : l = [] ∧ o = some r := by cases l <;> first | exact ⟨rfl, h⟩ | cases h
theorem vE_k {α β : Type} {l : List β} {o : Option α} {r : α} (h : vE l o = some r) {G : Prop} (k : l = [] → o = some r → G) : G := oA (vE_x h) k
noncomputable def vI2 {α : Type} (l : List Value) (f : Int → Int → Option α) : Option α := vC l fun a l => vC l fun b l => vE l <| vI a fun x => vI b fun i => f x i
theorem vI2_x {α : Type} {l : List Value} {f : Int → Int → Option α} {r : α} (h : vI2 l f = some r) : ∃ x t i u, l = [.int x t, .int i u] ∧ f x i = some r := by
  refine vC_k h ?_; clear h; rintro a l rfl h
  refine vC_k h ?_; clear h; rintro b l rfl h
  refine vE_k h ?_; clear h; rintro rfl h
  refine vI_k h ?_; clear h; rintro x t rfl h
  refine vI_k h ?_; clear h; rintro i u rfl h
  exact ⟨x, t, i, u, rfl, h⟩
theorem vI2_k {α : Type} {l : List Value} {f : Int → Int → Option α} {r : α} (h : vI2 l f = some r) {G : Prop} (k : ∀ x t i u, l = [.int x t, .int i u] → f x i = some r → G) : G := oEEEEA (vI2_x h) k
noncomputable def rdPt (K : Frag) (v : Value) : Option Pt4 := (seqIn K "tuple" v).bind fun l => vC l.1 fun a l => vC l fun b l => vI a fun x => vI b fun i => vI2 l fun y j => some (x, i, y, j)
noncomputable def rdPts (K : Frag) : List Value → Option (List Pt4)
  | [] => some []
  | v :: r => (match rdPt K v, rdPts K r with | some q, some l => some (q :: l) | _, _ => none)
noncomputable def rdCrv (K : Frag) (v : Value) : Option (Int × Int × Int × List Pt4) := (seqIn K "tuple" v).bind fun l => vC l.1 fun a l => vC l fun b l => vC l fun ps l => vE l <| vI a fun p =>
  (seqIn K "tuple" b).bind fun y => (seqIn K "list" ps).bind fun z => vI2 y.1 fun b0 b1 => (rdPts K z.1).bind fun l => some (p, b0, b1, l)
noncomputable abbrev KF (K : Frag) : Fm := fun a o => K.lookup a = some o
theorem R.i127 {φ : Fm} {n : Int} {t : Tok} (h : n.natAbs ≤ 127) : R φ (.int n 127) (.int n t) := .int h
theorem inP_abs {p n : Int} (hp : Pr p) (h : inP p n = true) : n.natAbs ≤ 127 := by
  unfold inP at h
  simp only [Bool.and_eq_true, decide_eq_true_eq] at h
  have := hp.le; omega
theorem rdPt_ok {K : Frag} {v : Value} {q : Pt4} (h : rdPt K v = some q) (h1 : q.1.natAbs ≤ 127) (h2 : q.2.1.natAbs ≤ 127) (h3 : q.2.2.1.natAbs ≤ 127) (h4 : q.2.2.2.natAbs ≤ 127) : R (KF K) (ptD q) v := by
  replace h := Option.bind_eq_some_iff.mp h
  refine oEA h ?_; clear h; rintro ⟨l, n⟩ e h
  refine vC_k h ?_; clear h; rintro a r q1 h
  refine vC_k h ?_; clear h; rintro b r rfl h
  refine vI_k h ?_; clear h; rintro x t1 rfl h
  refine vI_k h ?_; clear h; rintro i t2 rfl h
  refine vI2_k h ?_; clear h; rintro y t3 j t4 rfl h
  cases h
  cases q1
  refine oEA (seqIn_ok e) ?_; rintro a rfl e'
  rw [ptD]
  exact ⟨a, n, _, rfl, e', .cn (R.i127 h1) (.cn (R.i127 h2) (.cn (R.i127 h3) (.cn (R.i127 h4) .nl)))⟩
set_option tactic.hygienic true in
theorem rdPts_ok {K : Frag} : ∀ {vs : List Value} {l : List Pt4}, rdPts K vs = some l → (∀ q ∈ l, q.1.natAbs ≤ 127 ∧ q.2.1.natAbs ≤ 127 ∧ q.2.2.1.natAbs ≤ 127 ∧ q.2.2.2.natAbs ≤ 127) → RL (KF K) (l.map ptD) vs
  | [], l, h, _ => by cases h; exact .nl
  | v :: r, l, h, hl => by
    unfold rdPts at h
    split at h
    · rename_i q l' e1 e2
      cases h
      refine oAAA (hl q (.head _)) ?_; intro a b c d
      exact .cn (rdPt_ok e1 a b c d) (rdPts_ok e2 fun q hq => hl q (.tail _ hq))
    · cases h
noncomputable def crvIn (K : Frag) (v : Value) : Bool := match rdCrv K v with
  | some (p, b0, b1, l) => (decide (p = 7) || decide (p = 19) || decide (p = 31) || decide (p = 43) || decide (p = 67) || decide (p = 79) || decide (p = 103) || decide (p = 127)) && crvOk p b0 b1 l
  | none => false
set_option tactic.hygienic true in
theorem crvIn_ok {K : Frag} {v : Value} (h : crvIn K v = true) : ∃ p b0 b1 pts, Crv p b0 b1 pts ∧ R (KF K) (crvD p b0 b1 pts) v := by
  unfold crvIn at h
  split at h
  · rename_i p b0 b1 l e
    refine oA (Bool.and_eq_true_iff.mp h) ?_; intro hp hc
    have hp : Pr p := by
      unfold Pr
      simpa only [Bool.or_eq_true, decide_eq_true_eq, or_assoc] using hp
    refine ⟨p, b0, b1, l, ⟨hp, hc⟩, ?_⟩
    unfold crvOk at hc
    simp only [Bool.and_eq_true] at hc
    refine oA hc ?_; clear hc; rintro ⟨⟨⟨c1, c2⟩, c3⟩, c4⟩ _
    rw [List.all_eq_true] at c4
    have hl : ∀ q ∈ l, q.1.natAbs ≤ 127 ∧ q.2.1.natAbs ≤ 127 ∧ q.2.2.1.natAbs ≤ 127 ∧ q.2.2.2.natAbs ≤ 127 := fun q hq => by
      have := c4 q hq
      unfold ptOk at this
      simp only [Bool.and_eq_true] at this
      refine oA this ?_; clear this; rintro ⟨⟨⟨⟨⟨d1, d2⟩, d3⟩, d4⟩, _⟩, _⟩ _
      exact ⟨inP_abs hp d1, inP_abs hp d2, inP_abs hp d3, inP_abs hp d4⟩
    replace e := Option.bind_eq_some_iff.mp e
    refine oEA e ?_; clear e; rintro ⟨q, n⟩ e0 e
    refine vC_k e ?_; clear e; rintro a r qe e
    refine vC_k e ?_; clear e; rintro b r rfl e
    refine vC_k e ?_; clear e; rintro ps r rfl e
    refine vE_k e ?_; clear e; rintro rfl e
    refine vI_k e ?_; clear e; rintro p' t rfl e
    replace e := Option.bind_eq_some_iff.mp e
    refine oEA e ?_; clear e; rintro ⟨y, n1⟩ e1 e
    replace e := Option.bind_eq_some_iff.mp e
    refine oEA e ?_; clear e; rintro ⟨z, n2⟩ e2 e
    refine vI2_k e ?_; clear e; rintro b0' t1 b1' t2 ye e
    replace e := Option.bind_eq_some_iff.mp e
    refine oEA e ?_; clear e; intro l'' e3 e
    · · · cases e
          cases qe
          dsimp only at ye
          subst ye
          refine oEA (seqIn_ok e0) ?_; rintro a rfl e0'
          refine oEA (seqIn_ok e1) ?_; rintro a1 rfl e1'
          refine oEA (seqIn_ok e2) ?_; rintro a2 rfl e2'
          refine R.tup e0' (.cn (.prm hp) (.cn ?_ (.cn ?_ .nl)))
          · exact R.tup e1' (.cn (R.i127 (inP_abs hp c1)) (.cn (R.i127 (inP_abs hp c2)) .nl))
          · exact R.lst e2' (rdPts_ok e3 hl)
  · cases h
noncomputable def allIn (K : Frag) : Bool := match seqIn K "list" (.ref 611) with
  | some (vs, _) => Nat.beq vs.length 8 && vs.all (crvIn K)
  | none => false
set_option tactic.hygienic true in
theorem allIn_ok {K : Frag} (h : allIn K = true) : ∃ vs m, K.lookup 611 = some (lstN vs m) ∧ vs.length = 8 ∧ ∀ v ∈ vs, ∃ p b0 b1 pts, Crv p b0 b1 pts ∧ R (fun a o => K.lookup a = some o) (crvD p b0 b1 pts) v := by
  unfold allIn at h
  split at h
  · rename_i vs m e
    refine oA (Bool.and_eq_true_iff.mp h) ?_; intro h1 h2
    rw [List.all_eq_true] at h2
    refine oEA (seqIn_ok e) ?_; intro a e1 e2
    cases e1
    exact ⟨vs, m, e2, Nat.eq_of_beq_eq_true h1, fun v hv => crvIn_ok (h2 v hv)⟩
  · cases h
theorem k_crv (P : Params) : nsIn (KK P) mainGlobals "_law_curves" = some (some (.ref 611)) ∧ ∃ vs m, (KK P).lookup 611 = some (lstN vs m) ∧ vs.length = 8 ∧ ∀ v ∈ vs, ∃ p b0 b1 pts, Crv p b0 b1 pts ∧ R (fun a o => (KK P).lookup a = some o) (crvD p b0 b1 pts) v :=
  ⟨by kernel_rfl, allIn_ok (by kernel_rfl)⟩
theorem k_ok (P : Params) : KOk (KK P) where
  gl := fun x v h => k_gl P _ (look_mem h)
  bl := fun x v h => k_bl P _ (look_mem h)
  mt := k_mt P
  cl := k_cl P
  isi := k_isi P
  op := k_op P
  ro := k_ro P
  noi := k_noi P
  crv := k_crv P
  ci := k_ci P
  cg := k_cg P
  at_ := fun C x h hx => k_at P C h x hx
end
section
noncomputable def pinv (p a : Int) : Int := (a % p) ^ (p - 2).toNat % p
structure LI (P a lm hm low high : Int) : Prop where
  l : P ∣ lm * a - low
  h : P ∣ hm * a - high
  lo : 0 ≤ low
  lt : low < high
  hi : 1 < high
  g : ∀ d : Int, d ∣ low → d ∣ high → d ∣ 1
  b : (0 ≤ lm ∧ hm ≤ 0 ∧ lm * high - hm * low = P) ∨ (lm ≤ 0 ∧ 0 ≤ hm ∧ hm * low - lm * high = P)
  hp : high ≤ P
theorem LI.step {P a lm hm low high : Int} (I : LI P a lm hm low high) (hl : 1 < low) : LI P a (hm - lm * (high / low)) lm (high - low * (high / low)) low := by
  have e : high - low * (high / low) = high % low := by have := Int.emod_add_mul_ediv high low; omega
  have h0 : 0 ≤ high % low := Int.emod_nonneg _ (by omega)
  have h1 : high % low < low := Int.emod_lt_of_pos _ (by omega)
  have hr : 0 ≤ high / low := Int.ediv_nonneg (by have := I.hi; omega) (by omega)
  have hlh := I.lt
  have hhp := I.hp
  refine ⟨?_, I.l, by omega, by omega, hl, fun d d1 d2 => I.g d d2 ?_, ?_, by omega⟩
  · refine oE I.l ?_; intro x hx
    refine oE I.h ?_; intro y hy
    refine ⟨y - x * (high / low), ?_⟩
    have : hm * a = P * y + high := by omega
    have h2 : lm * a = P * x + low := by omega
    generalize high / low = r
    have e1 : (hm - lm * r) * a = hm * a - (lm * a) * r := by grind
    rw [e1, this, h2]; grind
  · have : high = (high - low * (high / low)) + low * (high / low) := by omega
    rw [this]; exact Int.dvd_add d1 (Int.dvd_trans d2 (Int.dvd_mul_right _ _))
  · generalize high / low = r at hr
    rcases I.b with ⟨b1, b2, b3⟩ | ⟨b1, b2, b3⟩
    · refine .inr ⟨?_, b1, by grind⟩
      have := Int.mul_nonneg b1 hr; omega
    · refine .inl ⟨?_, b1, by grind⟩
      have := Int.mul_nonneg (show 0 ≤ -lm by omega) hr
      have e : -lm * r = -(lm * r) := by grind
      omega
theorem LI.bd {P a lm hm low high : Int} (I : LI P a lm hm low high) (hl : 0 < low) : lm.natAbs ≤ P.natAbs ∧ hm.natAbs ≤ P.natAbs := by
  have h1 := I.hi
  have h2 := I.hp
  have key : ∀ x y : Int, 0 ≤ x → 1 ≤ y → x ≤ x * y := fun x y hx hy => by
    have := Int.mul_le_mul_of_nonneg_left hy hx; omega
  rcases I.b with ⟨b1, b2, b3⟩ | ⟨b1, b2, b3⟩
  · have k1 := key lm high b1 (by omega)
    have k2 := key (-hm) low (by omega) (by omega)
    have e2 : -hm * low = -(hm * low) := by grind
    have := Int.mul_nonneg b1 (show 0 ≤ high by omega)
    have := Int.mul_nonneg (show 0 ≤ -hm by omega) (show 0 ≤ low by omega)
    omega
  · have k1 := key (-lm) high (by omega) (by omega)
    have k2 := key hm low (by omega) (by omega)
    have e2 : -lm * high = -(lm * high) := by grind
    have := Int.mul_nonneg b2 (show 0 ≤ low by omega)
    have := Int.mul_nonneg (show 0 ≤ -lm by omega) (show 0 ≤ high by omega)
    omega
theorem LI.pos {P a lm hm low high : Int} (I : LI P a lm hm low high) : 0 < low := by
  have := I.lo
  by_cases h : low = 0
  · have := I.g high (h ▸ Int.dvd_zero _) (Int.dvd_refl _)
    have := Int.le_of_dvd (by omega) this
    have := I.hi
    omega
  · omega
noncomputable def allP (f : Int → Int → Bool) : Bool := [7, 19, 31, 43, 67, 79, 103, 127].all fun p => (List.range p.toNat).all fun (a : Nat) => f p a
theorem allP_get {f : Int → Int → Bool} (h : allP f = true) {p a : Int} (hp : Pr p) (h0 : 0 ≤ a) (h1 : a < p) : f p a = true := by
  unfold allP at h
  rw [List.all_eq_true] at h
  have hp' : p ∈ ([7, 19, 31, 43, 67, 79, 103, 127] : List Int) := by
    unfold Pr at hp; simp only [List.mem_cons, List.not_mem_nil, or_false]; exact hp
  have := h p hp'
  rw [List.all_eq_true] at this
  have h2 := this a.toNat (List.mem_range.mpr (by omega))
  have e : ((a.toNat : Nat) : Int) = a := by omega
  rwa [e] at h2
theorem pinv_all : allP (fun p a => a == 0 || (pinv p a * a) % p == 1) = true := by decide +kernel
theorem gcd_all : allP (fun p a => a == 0 || Int.gcd a p == 1) = true := by decide +kernel
theorem pinv_mul {p a : Int} (hp : Pr p) (h0 : 0 < a) (h1 : a < p) : (pinv p a * a) % p = 1 := by
  have := allP_get pinv_all hp (by omega) h1
  simp only [Bool.or_eq_true, beq_iff_eq] at this
  omega
theorem LI.start {p a : Int} (hp : Pr p) (h0 : 0 < a) (h1 : a < p) : LI p a 1 0 (a % p) p := by
  have hg := allP_get gcd_all hp (by omega) h1
  simp only [Bool.or_eq_true, beq_iff_eq] at hg
  have hg : Int.gcd a p = 1 := by omega
  have e : a % p = a := Int.emod_eq_of_lt (by omega) h1
  have := hp.ge
  refine ⟨by rw [e]; simp, by simp, by omega, by omega, by omega, fun d d1 d2 => ?_, .inl ⟨by decide, by decide, by simp⟩, Int.le_refl _⟩
  rw [e] at d1
  have := Int.dvd_coe_gcd d1 d2
  rwa [hg] at this
theorem pinv_uniq {p a r : Int} (hp : Pr p) (h0 : 0 < a) (h1 : a < p) (h : p ∣ r * a - 1) : r % p = pinv p a := by
  have hm := pinv_mul hp h0 h1
  have hpos := hp.pos
  have : p ∣ r - pinv p a := by
    refine oE h ?_; clear h; intro x hx
    have hd : pinv p a * a = p * (pinv p a * a / p) + 1 := by have := Int.emod_add_mul_ediv (pinv p a * a) p; omega
    generalize pinv p a * a / p = y at hd
    refine ⟨pinv p a * x - r * y, ?_⟩
    generalize pinv p a = q at hd
    have hr : r * a = p * x + 1 := by omega
    have e1 : r * (q * a) = q * (r * a) := by grind
    rw [hd, hr] at e1
    grind
  have h2 : pinv p a % p = pinv p a := by unfold pinv; exact Int.emod_emod _ _
  rw [← h2]
  exact Int.emod_eq_emod_iff_emod_sub_eq_zero.mpr (Int.emod_eq_zero_of_dvd this)
end
section
theorem by_rfl {a b : Prop} (e : a = b) (h : b) : a := e ▸ h
noncomputable def Le (d d' : Dat) : Prop := ∀ (φ : Fm) (v : Value), R φ d v → R φ d' v
theorem Le.refl (d : Dat) : Le d d := fun _ _ h => h
noncomputable def LeL (l l' : List Dat) : Prop := ∀ (φ : Fm) (v : List Value), RL φ l v → RL φ l' v
theorem LeL.refl (d : List Dat) : LeL d d := fun _ _ h => h
theorem LeL.cons {d d' : Dat} {l l' : List Dat} (h : Le d d') (h' : LeL l l') : LeL (d :: l) (d' :: l') := fun φ v x => by
  refine oEEAA x.get2 ?_; rintro u r rfl a b
  exact .cn (h _ _ a) (h' _ _ b)
theorem Le.lit {n : Int} {B : Nat} : Le (.int n B) (.lit n) := fun φ v h => And.right h
theorem Le.int {n : Int} {B : Nat} (h : n.natAbs ≤ B) : Le (.lit n) (.int n B) := fun φ v x => And.intro h x
theorem Le.wid {n : Int} {A B : Nat} (h : n.natAbs ≤ B) : Le (.int n A) (.int n B) := fun φ v x => And.intro h (And.right x)
theorem Le.sb {b : Bool} : Le (.bool b) (.sb b) := fun φ v x => x
theorem Le.bs {b : Bool} : Le (.sb b) (.bool b) := fun φ v x => x
theorem Le.sb' {b c : Bool} (h : b = c) : Le (.bool b) (.sb c) := h ▸ Le.sb
theorem Le.tup {l l' : List Dat} (h : LeL l l') : Le (.tup l) (.tup l') := fun φ v x => by
  obtain ⟨a, n, vs, e, y, z⟩ := x
  exact ⟨a, n, vs, e, y, h _ _ z⟩
theorem Ctr.Ok.sub {K : Params → Frag} {c : Ctr} (h : c.Ok K) {D U : Nat} (hD : D ≤ c.D) (hU : U ≤ c.U) {T : List Dat → List Bool → (Dat → List Bool → Prop) → Prop}
    (hT : ∀ ds orc k, FaL ds → T ds orc k → ∃ ds' orc', LeL ds ds' ∧ c.T ds' orc' fun d _ => ∃ d', Le d d' ∧ k d' orc) : Ctr.Ok K ⟨c.f, D, U, T⟩ :=
  fun prog w p loose mg mb g O s ds vs orc k Q E B L W r t P => by
    refine oEEA (hT ds orc k (RL.fa _ r) t) ?_; intro ds' orc' hl ht
    exact weaken rfl hD hU (h prog w p loose mg mb g O s ds' vs orc' _ Q E B L W (hl _ _ r) ht fun d o' r s' kd kt gs tb rr => by
      refine oEA kd ?_; clear kd; intro d' a b
      exact P d' orc r s' b kt gs tb (a _ _ rr))
theorem runF_w {K : Params → Frag} (hK : ∀ P, KOk (K P)) {c : Ctr} {gam : List Ctr} (hg : ∀ c' ∈ gam, c'.Ok K) (h : ∀ ds orc k, FaL ds → c.T ds orc k → ∃ ds' orc', LeL ds ds' ∧ ∀ P, runF (K P) gam c.D c.U c.f ds' orc' fun d _ => ∃ d', Le d d' ∧ k d' orc) : c.Ok K :=
  Ctr.Ok.sub (c := ⟨c.f, c.D, c.U, fun ds orc k => ∀ P, runF (K P) gam c.D c.U c.f ds orc k⟩) (runF_ok hK hg fun P ds orc k _ t => t P) (Nat.le_refl _) (Nat.le_refl _) h
theorem g0 : ∀ c' ∈ ([] : List Ctr), c'.Ok KK := fun _ h => nomatch h
theorem gc {c : Ctr} {l : List Ctr} (h : c.Ok KK) (hl : ∀ c' ∈ l, c'.Ok KK) : ∀ c' ∈ c :: l, c'.Ok KK := fun c' q => by
  rcases List.mem_cons.mp q with rfl | q
  · exact h
  · exact hl _ q
end
section
theorem md {p : Int} (h : Pr p) (n : Int) : 0 ≤ n % p ∧ n % p < p := ⟨(Can.of h n).lo, (Can.of h n).hi⟩
noncomputable def cFQ : Ctr := ⟨183, 900, 9000, fun ds orc k => l2 ds fun a b => dP b fun p => oI a (fun n _ => k (.fq p (n % p)) orc) <| oL a (fun n => k (.fq p (n % p)) orc) <| dF a fun q n => q = p ∧ k (.fq p n) orc⟩
theorem ok_FQ : cFQ.Ok KK := runC_ok k_ok k_set (gam := []) g0 fun P ds orc k fa h => by
  refine l2_k h ?_; clear h; rintro a b rfl h
  refine dP_k h ?_; clear h; rintro p rfl h
  refine oI_k h ?_ ?_ <;> clear h
  · rintro n B rfl h
    have hp : Pr p := fa.2.1
    exact by_rfl (b := ∀ x : Nat, x = x ∧ 183 = 183 ∧ x = x ∧ 183 = 183 ∧ x = x ∧ 183 = 183 ∧ (0 ≤ n % p ∧ n % p < p) ∧ k (.fq p (n % p)) orc) (by kernel_rfl) fun x => ⟨rfl, rfl, rfl, rfl, rfl, rfl, md hp n, h⟩
  intro h
  refine oL_k h ?_ ?_ <;> clear h
  · rintro n rfl h
    have hp : Pr p := fa.2.1
    exact by_rfl (b := ∀ x : Nat, x = x ∧ 183 = 183 ∧ x = x ∧ 183 = 183 ∧ x = x ∧ 183 = 183 ∧ (0 ≤ n % p ∧ n % p < p) ∧ k (.fq p (n % p)) orc) (by kernel_rfl) fun x => ⟨rfl, rfl, rfl, rfl, rfl, rfl, md hp n, h⟩
  · intro h
    refine dF_k h ?_; clear h; rintro q n rfl ⟨rfl, h⟩
    have hc : Can q n := fa.1
    exact by_rfl (b := ∀ x : Nat, x = x ∧ 183 = 183 ∧ x = x ∧ 183 = 183 ∧ x = x ∧ 183 = 183 ∧ (0 ≤ n ∧ n < q) ∧ k (.fq q n) orc) (by kernel_rfl) fun x => ⟨rfl, rfl, rfl, rfl, rfl, rfl, ⟨hc.lo, hc.hi⟩, h⟩
noncomputable def cMade : Ctr := ⟨166, 890, 8900, fun ds orc k => l2 ds fun a b => dF a fun p _ => oI b (fun n _ => k (.fq p (n % p)) orc) <| dL b fun n => k (.fq p (n % p)) orc⟩
theorem ok_Made : cMade.Ok KK := runF_ok k_ok (gam := [cFQ]) (gc ok_FQ g0) fun P ds orc k fa h => by
  refine l2_k h ?_; clear h; rintro a b rfl h
  refine dF_k h ?_; clear h; rintro p m rfl h
  refine oI_k h ?_ ?_ <;> clear h
  · rintro n B rfl h
    exact by_rfl (by kernel_rfl) h
  · intro h
    refine dL_k h ?_; clear h; rintro n rfl h
    exact by_rfl (by kernel_rfl) h
noncomputable def big : Nat := 1000000
noncomputable def mT (m : Nat) (f : Int → Int → Int → Int) (ds : List Dat) (orc : List Bool) (k : Dat → List Bool → Prop) : Prop := l2 ds fun x y => dF x fun p a => oF y (fun q b => q = p ∧ ∀ z, z = f p a b % p → k (.fq p z) orc) <|
  oI y (fun b B => gd (Nat.ble B m) (∀ z, z = f p a b % p → k (.fq p z) orc)) <| dL y fun b => gd (Nat.ble b.natAbs m) (∀ z, z = f p a b % p → k (.fq p z) orc)
theorem mT_ok {F m : Nat} {gam : List Ctr} {f : Int → Int → Int → Int} (hg : ∀ c' ∈ gam, c'.Ok KK) (h1 : ∀ P p a b orc (k : Dat → List Bool → Prop), runF (KK P) gam 880 8800 F [.fq p a, .fq p b] orc k = k (.fq p (f p a b % p % p)) orc)
    (h2 : ∀ P p a b orc (k : Dat → List Bool → Prop), runF (KK P) gam 880 8800 F [.fq p a, .int b m] orc k = k (.fq p (f p a b % p % p)) orc) : Ctr.Ok KK ⟨F, 880, 8800, mT m f⟩ :=
  runF_w k_ok (gam := gam) hg fun ds orc k fa h => by
    refine l2_k h ?_; clear h; rintro x y rfl h
    refine dF_k h ?_; clear h; rintro p a rfl h
    refine oF_k h ?_ ?_ <;> clear h
    · rintro q b rfl ⟨rfl, h⟩
      exact ⟨_, orc, LeL.refl _, fun P => by rw [h1, Int.emod_emod]; exact ⟨_, Le.refl _, h _ rfl⟩⟩
    intro h
    refine oI_k h ?_ ?_ <;> clear h
    · rintro b B rfl h
      refine gd_k h ?_; clear h; rintro hb h
      exact ⟨_, orc, LeL.cons (Le.refl _) (LeL.cons (Le.wid (Nat.le_trans fa.2.1 (Nat.le_of_ble_eq_true hb))) (LeL.refl _)), fun P => by rw [h2, Int.emod_emod]; exact ⟨_, Le.refl _, h _ rfl⟩⟩
    · intro h
      refine dL_k h ?_; clear h; rintro b rfl h
      refine gd_k h ?_; clear h; rintro hb h
      exact ⟨_, orc, LeL.cons (Le.refl _) (LeL.cons (Le.int (Nat.le_of_ble_eq_true hb)) (LeL.refl _)), fun P => by rw [h2, Int.emod_emod]; exact ⟨_, Le.refl _, h _ rfl⟩⟩
noncomputable def cAdd : Ctr := ⟨61, 880, 8800, mT big fun _ a b => a + b⟩
theorem ok_Add : cAdd.Ok KK := mT_ok (gc ok_Made g0) (fun _ _ _ _ _ _ => by kernel_rfl) fun _ _ _ _ _ _ => by kernel_rfl
noncomputable def cMul : Ctr := ⟨68, 880, 8800, mT big fun _ a b => a * b⟩
theorem ok_Mul : cMul.Ok KK := mT_ok (gc ok_Made g0) (fun _ _ _ _ _ _ => by kernel_rfl) fun _ _ _ _ _ _ => by kernel_rfl
noncomputable def cSub : Ctr := ⟨96, 880, 8800, mT big fun _ a b => a - b⟩
theorem ok_Sub : cSub.Ok KK := mT_ok (gc ok_Made g0) (fun _ _ _ _ _ _ => by kernel_rfl) fun _ _ _ _ _ _ => by kernel_rfl
noncomputable def cRsub : Ctr := ⟨89, 880, 8800, mT big fun _ a b => b - a⟩
theorem ok_Rsub : cRsub.Ok KK := mT_ok (gc ok_Made g0) (fun _ _ _ _ _ _ => by kernel_rfl) fun _ _ _ _ _ _ => by kernel_rfl
noncomputable def cNeg : Ctr := ⟨138, 880, 8800, fun ds orc k => l1 ds fun x => dF x fun p a => k (.fq p (-a % p)) orc⟩
theorem ok_Neg : cNeg.Ok KK := runF_ok k_ok (gam := [cMade]) (gc ok_Made g0) fun P ds orc k fa h => by
  refine l1_k h ?_; clear h; rintro x rfl h
  refine dF_k h ?_; clear h; rintro p a rfl h
  exact by_rfl (by kernel_rfl) h
noncomputable def cInt : Ctr := ⟨152, 880, 8800, fun ds orc k => l1 ds fun x => dF x fun p a => k (.int a 127) orc⟩
theorem ok_Int : cInt.Ok KK := runF_ok k_ok (gam := []) g0 fun P ds orc k fa h => by
  refine l1_k h ?_; clear h; rintro x rfl h
  refine dF_k h ?_; clear h; rintro p a rfl h
  exact by_rfl (by kernel_rfl) h
noncomputable def cEq : Ctr := ⟨124, 880, 8800, fun ds orc k => l2 ds fun x y => dF x fun p a => oF y (fun q b => q = p ∧ k (.sb (decide (a = b))) orc) <| dL y fun b => k (.sb (decide (a = b))) orc⟩
theorem ok_Eq : cEq.Ok KK := runF_ok k_ok (gam := []) g0 fun P ds orc k fa h => by
  refine l2_k h ?_; clear h; rintro x y rfl h
  refine dF_k h ?_; clear h; rintro p a rfl h
  refine oF_k h ?_ ?_ <;> clear h
  · rintro q b rfl h
    exact by_rfl (by kernel_rfl) h.2
  · intro h
    refine dL_k h ?_; clear h; rintro b rfl h
    exact by_rfl (by kernel_rfl) h
noncomputable def cNe : Ctr := ⟨131, 870, 8700, fun ds orc k => l2 ds fun x y => dF x fun p a => dF y fun q b => q = p ∧ k (.sb (!decide (a = b))) orc⟩
theorem ok_Ne : cNe.Ok KK := runF_w k_ok (gam := [cEq]) (gc ok_Eq g0) fun ds orc k fa h => by
  refine l2_k h ?_; clear h; rintro x y rfl h
  refine dF_k h ?_; clear h; rintro p a rfl h
  refine dF_k h ?_; clear h; rintro q b rfl ⟨rfl, h⟩
  · refine ⟨_, [decide (a = b)], LeL.refl _, fun P => ?_⟩
    exact by_rfl (b := q = q ∧ decide (a = b) = decide (a = b) ∧ ∃ d', Le (.bool (!decide (a = b))) d' ∧ k d' orc) (by kernel_rfl) ⟨rfl, rfl, _, Le.sb, h⟩
end
section
theorem runW_ok {c : Ctr} {gam : List Ctr} (hg : ∀ c' ∈ gam, c'.Ok KK) (h : ∀ P ds orc k, FaL ds → c.T ds orc k → ∃ p o J, runG (fun cx l st k => evW 50 cx p o J l st k) (KK P) gam c.D c.U c.f ds orc k) : c.Ok KK :=
  runG_ok k_ok hg fun P ds orc k fa t => by
    refine oEEE (h P ds orc k fa t) ?_; intro p o J q
    exact ⟨_, q, fun prog w p loose mg mb cx X A F a l st k O as s Q h I P => evW_snd F a h I P⟩
noncomputable def cPfi0 : Ctr := ⟨28, 890, 8900, fun ds orc k => l2 ds fun x y => dI x fun a B => dP y fun p => B = 127 ∧ ((a % p = 0 ∧ orc = [true] ∧ k (.lit 0) []) ∨ (a % p ≠ 0 ∧ orc = [false] ∧ k (.int (pinv p a) 127) []))⟩
theorem LI.val {p a lm hm high : Int} (I : LI p (a % p) lm hm 1 high) (hp : Pr p) (h0 : 0 < a % p) (h1 : a % p < p) : lm % p = pinv p a := by
  have := pinv_uniq hp h0 h1 I.l
  rw [this]; unfold pinv; rw [Int.emod_emod]
theorem ok_Pfi0 : cPfi0.Ok KK := runW_ok (gam := []) g0 fun P ds orc k fa h => by
  refine l2_k h ?_; clear h; rintro x y rfl h
  refine dI_k h ?_; clear h; rintro a B rfl h
  refine dP_k h ?_; clear h; rintro p rfl h
  refine oA h ?_; clear h; rintro rfl h
  · have hp := fa.2.1
    have p0 := hp.pos
    have p1 := hp.le
    have a0 := (Can.of hp a).lo
    have a1 := (Can.of hp a).hi
    refine ⟨p, [], fun m lm hm low high => LI p (a % p) lm hm low high ∧ m = low.toNat, ?_⟩
    rcases h with ⟨h1, rfl, h⟩ | ⟨h1, rfl, h⟩
    · exact by_rfl (b := decide (a % p = 0) = true ∧ k (.lit 0) []) (by kernel_rfl) ⟨by simpa using h1, h⟩
    · refine by_rfl (b := decide (a % p = 0) = false ∧ ((p = p ∧ ([] : List (Bool × List Dat)) = [] ∧ ([] : List Bool) = []) ∧ ((1 : Int).natAbs ≤ 127 ∧ (0 : Int).natAbs ≤ 127 ∧ (a % p % p).natAbs ≤ 127 ∧ p.natAbs ≤ 127) ∧ ∃ m : Nat, LI p (a % p) 1 0 (a % p % p) p ∧ m = (a % p % p).toNat) ∧
        ∀ (m : Nat) (x y c d : Int), LI p (a % p) x y c d ∧ m = c.toNat →
          (decide (1 < c) = true → (0 < c ∧ c ≤ 1000) ∧ (p = p ∧ ([] : List (Bool × List Dat)) = [] ∧ ([] : List Bool) = []) ∧ ((y - x * (d / c)).natAbs ≤ 127 ∧ x.natAbs ≤ 127 ∧ (d - c * (d / c)).natAbs ≤ 127 ∧ c.natAbs ≤ 127) ∧ ∃ m', m' < m ∧ LI p (a % p) (y - x * (d / c)) x (d - c * (d / c)) c ∧ m' = (d - c * (d / c)).toNat) ∧
          (decide (1 < c) = false → k (.int (x % p) 127) [])) (by kernel_rfl) ?_
      have e : a % p % p = a % p := Int.emod_emod _ _
      refine ⟨by simpa using h1, ⟨⟨rfl, rfl, rfl⟩, ⟨by decide, by decide, by omega, by omega⟩, _, LI.start hp (by omega) a1, rfl⟩, fun m x y c d ⟨I, hm⟩ => ⟨fun hc => ?_, fun hc => ?_⟩⟩
      · have hc : 1 < c := by simpa using hc
        have I' := I.step hc
        have b1 := I'.bd I'.pos
        have b2 := I.hp
        have b3 := I.lt
        have b4 := I'.lo
        have b5 := I'.lt
        exact ⟨⟨by omega, by omega⟩, ⟨rfl, rfl, rfl⟩, ⟨by omega, by omega, by omega, by omega⟩, _, by omega, I', rfl⟩
      · have hc : ¬ 1 < c := by simpa using hc
        have := I.pos
        obtain rfl : c = 1 := by omega
        rw [I.val hp (by omega) a1]; exact h
theorem pinv_zero_all : allP (fun p a => a != 0 || pinv p a == 0) = true := by decide +kernel
theorem pinv_zero {p a : Int} (hp : Pr p) (h : a % p = 0) : pinv p a = 0 := by
  have := allP_get pinv_zero_all hp (Int.le_refl 0) hp.pos
  have e : pinv p 0 = 0 := by simpa using this
  unfold pinv at e ⊢
  rw [h]; rw [Int.zero_emod] at e; exact e
theorem Le.zero : Le (.lit 0) (.int 0 127) := Le.int (by decide)
noncomputable def cPfi : Ctr := ⟨28, 890, 8900, fun ds orc k => l2 ds fun x y => dI x fun a B => dP y fun p => gd (Nat.ble B 127) (k (.int (pinv p a) 127) orc)⟩
theorem ok_Pfi : cPfi.Ok KK := ok_Pfi0.sub (Nat.le_refl _) (Nat.le_refl _) fun ds orc k fa h => by
  refine l2_k h ?_; clear h; rintro x y rfl h
  refine dI_k h ?_; clear h; rintro a B rfl h
  refine dP_k h ?_; clear h; rintro p rfl h
  refine gd_k h ?_; clear h; rintro hB h
  · · refine ⟨[.int a 127, .prm p], [decide (a % p = 0)], LeL.cons (Le.wid (Nat.le_trans fa.1 (Nat.le_of_ble_eq_true hB))) (LeL.refl _), ?_⟩
      refine ⟨rfl, ?_⟩
      by_cases h0 : a % p = 0
      · refine .inl ⟨h0, by simp [h0], _, Le.zero, ?_⟩
        rw [pinv_zero fa.2.1 h0] at h; exact h
      · exact .inr ⟨h0, by simp [h0], _, Le.refl _, h⟩
end
section
noncomputable def cDiv : Ctr := ⟨103, 880, 8800, mT 127 fun p a b => a * pinv p b⟩
noncomputable def cRdiv : Ctr := ⟨110, 880, 8800, mT 127 fun p a b => pinv p a * b⟩
theorem ok_Div : cDiv.Ok KK := mT_ok (gam := [cPfi, cMade]) (gc ok_Pfi (gc ok_Made g0)) (fun _ _ _ _ _ _ => by kernel_rfl) fun _ _ _ _ _ _ => by kernel_rfl
theorem ok_Rdiv : cRdiv.Ok KK := mT_ok (gam := [cPfi, cMade]) (gc ok_Pfi (gc ok_Made g0)) (fun _ _ _ _ _ _ => by kernel_rfl) fun _ _ _ _ _ _ => by kernel_rfl
noncomputable def cf (p : Int) (d : Dat) (k : Int → Prop) : Prop := oI d (fun n _ => k (n % p)) <| oL d (fun n => k (n % p)) <| dF d fun q n => q = p ∧ k n
noncomputable def dB (d : Dat) (f : Nat → List Str → List Dat → Prop) : Prop := Dat.casesOn (motive_1 := fun _ => Prop) d (fun _ => False) (fun _ _ => False) (fun _ => False) (fun _ => False) (fun _ => False) False (fun _ => False) (fun _ => False) (fun _ _ => False) (fun _ _ _ => False) (fun _ _ _ => False) (fun _ C ns l => f C ns l) (fun _ => False) (fun _ => False)
theorem dB_x {d : Dat} {f : Nat → List Str → List Dat → Prop} (h : dB d f) : ∃ x C ns l, d = .ob x C ns l ∧ f C ns l := by cases d <;> first | exact h.elim | exact ⟨_, _, _, _, rfl, h⟩
theorem dB_k {d : Dat} {f : Nat → List Str → List Dat → Prop} (h : dB d f) {G : Prop} (k : ∀ x C ns l, d = .ob x C ns l → f C ns l → G) : G := oEEEEA (dB_x h) k
noncomputable def cCorr : Ctr := ⟨215, 890, 8900, fun ds orc k => l2 ds fun x d => oG x (fun p _ _ => cf p d fun n => k (.fq p n) orc) <|
  dB x fun C ns l => l1 l fun y => dP y fun p => gd (Nat.beq C 297 && seqL ns ["field_modulus"]) (cf p d fun n => k (.fq p n) orc)⟩
theorem cf_x {p : Int} {d : Dat} {k : Int → Prop} (h : cf p d k) : (∃ n B, d = .int n B ∧ k (n % p)) ∨ (∃ n, d = .lit n ∧ k (n % p)) ∨ ∃ n, d = .fq p n ∧ k n := by
  refine oI_k h ?_ ?_ <;> clear h
  · exact fun n B e h => .inl ⟨n, B, e, h⟩
  · intro h
    refine oL_k h ?_ ?_ <;> clear h
    · exact fun n e h => .inr (.inl ⟨n, e, h⟩)
    · intro h
      refine dF_k h ?_; clear h; rintro q n rfl ⟨rfl, h⟩
      exact .inr (.inr ⟨n, rfl, h⟩)
theorem cf_k {p : Int} {d : Dat} {k : Int → Prop} (h : cf p d k) {G : Prop} (k1 : ∀ n B, d = .int n B → k (n % p) → G) (k2 : ∀ n, d = .lit n → k (n % p) → G) (k3 : ∀ n, d = .fq p n → k n → G) : G := Or.elim (cf_x h) (fun h => oEEA h k1) fun h => Or.elim h (fun h => oEA h k2) fun h => oEA h k3
theorem ok_Corr : cCorr.Ok KK := runF_ok k_ok (gam := [cFQ]) (gc ok_FQ g0) fun P ds orc k fa h => by
  refine l2_k h ?_; clear h; rintro x d rfl h
  refine oG_k h ?_ ?_ <;> clear h
  · rintro p a b rfl h
    refine cf_k h ?_ ?_ ?_ <;> clear h
    · rintro n B rfl h; exact by_rfl (by kernel_rfl) h
    · rintro n rfl h; exact by_rfl (by kernel_rfl) h
    · rintro n rfl h; exact by_rfl (b := p = p ∧ k (.fq p n) orc) (by kernel_rfl) ⟨rfl, h⟩
  · intro h
    refine dB_k h ?_; clear h; rintro x C ns l rfl h
    refine l1_k h ?_; clear h; rintro y rfl h
    refine dP_k h ?_; clear h; rintro p rfl h
    refine gd_k h ?_; clear h; rintro hc h
    refine oA (Bool.and_eq_true_iff.mp hc) ?_; intro h1 h2
    have h1 := Nat.eq_of_beq_eq_true h1
    have h2 := seqL_iff.mp h2
    subst h1 h2
    refine cf_k h ?_ ?_ ?_ <;> clear h
    · rintro n B rfl h; exact by_rfl (by kernel_rfl) h
    · rintro n rfl h; exact by_rfl (by kernel_rfl) h
    · rintro n rfl h; exact by_rfl (b := p = p ∧ k (.fq p n) orc) (by kernel_rfl) ⟨rfl, h⟩
noncomputable def cf2 (p : Int) (d : Dat) (k : Int → Int → Prop) : Prop := oT d (fun l => l2 l fun x y => dF x fun q a => dF y fun r b => (q = p ∧ r = p) ∧ k a b) <| dS d fun l => l2 l fun x y =>
  oI x (fun a _ => dI y fun b _ => k (a % p) (b % p)) <| oL x (fun a => dL y fun b => k (a % p) (b % p)) <| dF x fun q a => dF y fun r b => (q = p ∧ r = p) ∧ k a b
theorem cf2_x {p : Int} {d : Dat} {k : Int → Int → Prop} (h : cf2 p d k) : (∃ a A b B, d = .lst [.int a A, .int b B] ∧ k (a % p) (b % p)) ∨ (∃ a b, d = .lst [.lit a, .lit b] ∧ k (a % p) (b % p)) ∨ (∃ a b, d = .lst [.fq p a, .fq p b] ∧ k a b) ∨ ∃ a b, d = .tup [.fq p a, .fq p b] ∧ k a b := by
  refine oT_k h ?_ ?_ <;> clear h
  · rintro l rfl h
    refine l2_k h ?_; clear h; rintro x y rfl h
    refine dF_k h ?_; clear h; rintro q a rfl h
    refine dF_k h ?_; clear h; rintro r b rfl h
    refine oA h ?_; clear h; rintro ⟨rfl, rfl⟩ h
    exact .inr (.inr (.inr ⟨a, b, rfl, h⟩))
  · intro h
    refine dS_k h ?_; clear h; rintro l rfl h
    refine l2_k h ?_; clear h; rintro x y rfl h
    refine oI_k h ?_ ?_ <;> clear h
    · rintro a A rfl h
      refine dI_k h ?_; clear h; rintro b B rfl h
      exact .inl ⟨a, A, b, B, rfl, h⟩
    · intro h
      refine oL_k h ?_ ?_ <;> clear h
      · rintro a rfl h
        refine dL_k h ?_; clear h; rintro b rfl h
        exact .inr (.inl ⟨a, b, rfl, h⟩)
      · intro h
        refine dF_k h ?_; clear h; rintro q a rfl h
        refine dF_k h ?_; clear h; rintro r b rfl h
        refine oA h ?_; clear h; rintro ⟨rfl, rfl⟩ h
        exact .inr (.inr (.inl ⟨a, b, rfl, h⟩))
theorem cf2_k {p : Int} {d : Dat} {k : Int → Int → Prop} (h : cf2 p d k) {G : Prop} (k1 : ∀ a A b B, d = .lst [.int a A, .int b B] → k (a % p) (b % p) → G) (k2 : ∀ a b, d = .lst [.lit a, .lit b] → k (a % p) (b % p) → G) (k3 : ∀ a b, d = .lst [.fq p a, .fq p b] → k a b → G) (k4 : ∀ a b, d = .tup [.fq p a, .fq p b] → k a b → G) : G := Or.elim (cf2_x h) (fun h => oEEEEA h k1) fun h => Or.elim h (fun h => oEEA h k2) fun h => Or.elim h (fun h => oEEA h k3) fun h => oEEA h k4
noncomputable def cCls : Ctr := ⟨297, 800, 8000, fun ds orc k => l3 ds fun d e f => t2 e fun u v => dL u fun m1 => dL v fun m0 => dP f fun p => gd (decide (m1 = 1)) <| gd (decide (m0 = 0)) <| cf2 p d fun a b => k (.fqp p a b) orc⟩
theorem ok_Cls : cCls.Ok KK := runC_ok k_ok k_set (gam := [cCorr]) (gc ok_Corr g0) fun P ds orc k fa h => by
  refine l3_k h ?_; clear h; rintro d e f rfl h
  refine t2_k h ?_; clear h; rintro u v rfl h
  refine dL_k h ?_; clear h; rintro m1 rfl h
  refine dL_k h ?_; clear h; rintro m0 rfl h
  refine dP_k h ?_; clear h; rintro p rfl h
  refine gd_k h ?_; clear h; rintro c1 h
  refine gd_k h ?_; clear h; rintro c2 h
  obtain rfl := of_decide_eq_true c1
  obtain rfl := of_decide_eq_true c2
  · refine cf2_k h ?_ ?_ ?_ ?_ <;> clear h
    · rintro a A b B rfl h
      exact by_rfl (b := ∀ x : Nat, x = x ∧ 297 = 297 ∧ Dat.fq p (a % p) = .fq p (a % p) ∧ Dat.fq p (b % p) = .fq p (b % p) ∧ x = x ∧ 297 = 297 ∧ x = x ∧ 297 = 297 ∧ x = x ∧ 297 = 297 ∧ x = x ∧ 297 = 297 ∧ (p = p ∧ p = p ∧ (1 : Int) = 1 ∧ (0 : Int) = 0 ∧ (2 : Int) = 2) ∧ k (.fqp p (a % p) (b % p)) orc) (by kernel_rfl)
          fun x => ⟨rfl, rfl, rfl, rfl, rfl, rfl, rfl, rfl, rfl, rfl, rfl, rfl, ⟨rfl, rfl, rfl, rfl, rfl⟩, h⟩
    · rintro a b rfl h
      exact by_rfl (b := ∀ x : Nat, x = x ∧ 297 = 297 ∧ Dat.fq p (a % p) = .fq p (a % p) ∧ Dat.fq p (b % p) = .fq p (b % p) ∧ x = x ∧ 297 = 297 ∧ x = x ∧ 297 = 297 ∧ x = x ∧ 297 = 297 ∧ x = x ∧ 297 = 297 ∧ (p = p ∧ p = p ∧ (1 : Int) = 1 ∧ (0 : Int) = 0 ∧ (2 : Int) = 2) ∧ k (.fqp p (a % p) (b % p)) orc) (by kernel_rfl)
          fun x => ⟨rfl, rfl, rfl, rfl, rfl, rfl, rfl, rfl, rfl, rfl, rfl, rfl, ⟨rfl, rfl, rfl, rfl, rfl⟩, h⟩
    · rintro a b rfl h
      exact by_rfl (b := ∀ x : Nat, x = x ∧ 297 = 297 ∧ (p = p ∧ Dat.fq p a = .fq p a) ∧ (p = p ∧ Dat.fq p b = .fq p b) ∧ x = x ∧ 297 = 297 ∧ x = x ∧ 297 = 297 ∧ x = x ∧ 297 = 297 ∧ x = x ∧ 297 = 297 ∧ (p = p ∧ p = p ∧ (1 : Int) = 1 ∧ (0 : Int) = 0 ∧ (2 : Int) = 2) ∧ k (.fqp p a b) orc) (by kernel_rfl)
          fun x => ⟨rfl, rfl, ⟨rfl, rfl⟩, ⟨rfl, rfl⟩, rfl, rfl, rfl, rfl, rfl, rfl, rfl, rfl, ⟨rfl, rfl, rfl, rfl, rfl⟩, h⟩
    · rintro a b rfl h
      exact by_rfl (b := ∀ x : Nat, x = x ∧ 297 = 297 ∧ (p = p ∧ Dat.fq p a = .fq p a) ∧ (p = p ∧ Dat.fq p b = .fq p b) ∧ x = x ∧ 297 = 297 ∧ x = x ∧ 297 = 297 ∧ x = x ∧ 297 = 297 ∧ x = x ∧ 297 = 297 ∧ (p = p ∧ p = p ∧ (1 : Int) = 1 ∧ (0 : Int) = 0 ∧ (2 : Int) = 2) ∧ k (.fqp p a b) orc) (by kernel_rfl)
          fun x => ⟨rfl, rfl, ⟨rfl, rfl⟩, ⟨rfl, rfl⟩, rfl, rfl, rfl, rfl, rfl, rfl, rfl, rfl, ⟨rfl, rfl, rfl, rfl, rfl⟩, h⟩
noncomputable def cMadeP : Ctr := ⟨208, 790, 7900, fun ds orc k => l2 ds fun x d => dG x fun p _ _ => cf2 p d fun a b => k (.fqp p a b) orc⟩
theorem ok_MadeP : cMadeP.Ok KK := runF_ok k_ok (gam := [cCls]) (gc ok_Cls g0) fun P ds orc k fa h => by
  refine l2_k h ?_; clear h; rintro x d rfl h
  refine dG_k h ?_; clear h; rintro p a b rfl h
  exact by_rfl (by kernel_rfl) h
end
section
theorem em_ml (a b n : Int) : a % n * b % n = a * b % n := by rw [Int.mul_emod, Int.emod_emod, ← Int.mul_emod]
theorem em_mr (a b n : Int) : a * (b % n) % n = a * b % n := by rw [Int.mul_emod, Int.emod_emod, ← Int.mul_emod]
theorem em_ng (a n : Int) : -(a % n) % n = -a % n := by
  have h := Int.emod_add_mul_ediv a n
  have e : -(a % n) = -a + n * (a / n) := by omega
  rw [e, Int.add_mul_emod_self_left]
noncomputable def gFQ : List Ctr := [cFQ, cMade, cAdd, cMul, cSub, cRsub, cNeg, cInt, cEq, cNe, cDiv, cRdiv, cPfi, cCorr]
theorem ok_gFQ : ∀ c' ∈ gFQ, c'.Ok KK := gc ok_FQ (gc ok_Made (gc ok_Add (gc ok_Mul (gc ok_Sub (gc ok_Rsub (gc ok_Neg (gc ok_Int (gc ok_Eq (gc ok_Ne (gc ok_Div (gc ok_Rdiv (gc ok_Pfi (gc ok_Corr g0)))))))))))))
noncomputable def gP : List Ctr := cMadeP :: cCls :: gFQ
theorem ok_gP : ∀ c' ∈ gP, c'.Ok KK := gc ok_MadeP (gc ok_Cls ok_gFQ)
noncomputable def cAddP : Ctr := ⟨220, 780, 7800, fun ds orc k => l2 ds fun x y => dG x fun p a b => dG y fun q c d => q = p ∧ ∀ e f, e = (a + c) % p → f = (b + d) % p → k (.fqp p e f) orc⟩
theorem ok_AddP : cAddP.Ok KK := runF_ok k_ok (gam := gP) ok_gP fun P ds orc k fa h => by
  refine l2_k h ?_; clear h; rintro x y rfl h
  refine dG_k h ?_; clear h; rintro p a b rfl h
  refine dG_k h ?_; clear h; rintro q c d rfl h
  · refine oA h ?_; clear h; rintro rfl h
    exact by_rfl (b := q = q ∧ ∀ z1, z1 = (a + c) % q → q = q ∧ ∀ z2, z2 = (b + d) % q → (q = q ∧ q = q) ∧ k (.fqp q z1 z2) orc) (by kernel_rfl) ⟨rfl, fun z1 h1 => ⟨rfl, fun z2 h2 => ⟨⟨rfl, rfl⟩, h _ _ h1 h2⟩⟩⟩
noncomputable def cSubP : Ctr := ⟨225, 780, 7800, fun ds orc k => l2 ds fun x y => dG x fun p a b => dG y fun q c d => q = p ∧ ∀ e f, e = (a - c) % p → f = (b - d) % p → k (.fqp p e f) orc⟩
theorem ok_SubP : cSubP.Ok KK := runF_ok k_ok (gam := gP) ok_gP fun P ds orc k fa h => by
  refine l2_k h ?_; clear h; rintro x y rfl h
  refine dG_k h ?_; clear h; rintro p a b rfl h
  refine dG_k h ?_; clear h; rintro q c d rfl h
  · refine oA h ?_; clear h; rintro rfl h
    exact by_rfl (b := q = q ∧ ∀ z1, z1 = (a - c) % q → q = q ∧ ∀ z2, z2 = (b - d) % q → (q = q ∧ q = q) ∧ k (.fqp q z1 z2) orc) (by kernel_rfl) ⟨rfl, fun z1 h1 => ⟨rfl, fun z2 h2 => ⟨⟨rfl, rfl⟩, h _ _ h1 h2⟩⟩⟩
noncomputable def cMulP : Ctr := ⟨230, 780, 7800, fun ds orc k => l2 ds fun x y => dG x fun p a b => oG y (fun q c d => q = p ∧ ∀ e f, e = (a * c - b * d) % p → f = (a * d + b * c) % p → k (.fqp p e f) orc) <|
  dL y fun n => gd (Nat.ble n.natAbs big) (∀ e f, e = a * n % p → f = b * n % p → k (.fqp p e f) orc)⟩
theorem mul_re {a b c d p : Int} : (((0 % p + a * c % p) % p) - ((0 % p + b * d % p) % p) * (1 % p) % p) % p = (a * c - b * d) % p := by
  simp only [Int.emod_emod, Int.emod_add_emod, Int.add_emod_emod, Int.sub_emod_emod, Int.emod_sub_emod, em_ml, em_mr, em_ng]
  congr 1; grind
theorem mul_im {a b c d p : Int} : ((((0 % p + a * d % p) % p) + b * c % p) % p - ((0 % p + b * d % p) % p) * (0 % p) % p) % p = (a * d + b * c) % p := by
  simp only [Int.emod_emod, Int.emod_add_emod, Int.add_emod_emod, Int.sub_emod_emod, Int.emod_sub_emod, em_ml, em_mr, em_ng]
  congr 1; grind
theorem ok_MulP : cMulP.Ok KK := runF_w k_ok (gam := gP) ok_gP fun ds orc k fa h => by
  refine l2_k h ?_; clear h; rintro x y rfl h
  refine dG_k h ?_; clear h; rintro p a b rfl h
  refine oG_k h ?_ ?_ <;> clear h
  · rintro q c d rfl ⟨rfl, h⟩
    refine ⟨_, orc, LeL.refl _, fun P => ?_⟩
    refine by_rfl (b := q = q ∧ ∀ (z1 : Int), z1 = a * c % q → q = q ∧ ∀ (z2 : Int), z2 = (0 % q + z1) % q → q = q ∧ ∀ (z3 : Int), z3 = a * d % q → q = q ∧ ∀ (z4 : Int), z4 = (0 % q + z3) % q → q = q ∧ ∀ (z5 : Int), z5 = b * c % q → q = q ∧ ∀ (z6 : Int), z6 = (z4 + z5) % q → q = q ∧ ∀ (z7 : Int), z7 = b * d % q → q = q ∧ ∀ (z8 : Int), z8 = (0 % q + z7) % q → q = q ∧ ∀ (z9 : Int), z9 = z8 * (1 % q) % q → q = q ∧ ∀ (z10 : Int), z10 = (z2 - z9) % q → q = q ∧ ∀ (z11 : Int), z11 = z8 * (0 % q) % q → q = q ∧ ∀ (z12 : Int), z12 = (z6 - z11) % q → (q = q ∧ q = q) ∧ ∃ d', Le (.fqp q z10 z12) d' ∧ k d' orc) (by kernel_rfl) ?_
    refine ⟨rfl, fun z1 h1 => ⟨rfl, fun z2 h2 => ⟨rfl, fun z3 h3 => ⟨rfl, fun z4 h4 => ⟨rfl, fun z5 h5 => ⟨rfl, fun z6 h6 => ⟨rfl, fun z7 h7 => ⟨rfl, fun z8 h8 => ⟨rfl, fun z9 h9 => ⟨rfl, fun z10 h10 => ⟨rfl, fun z11 h11 => ⟨rfl, fun z12 h12 => ⟨⟨rfl, rfl⟩, _, Le.refl _, h _ _ ?_ ?_⟩⟩⟩⟩⟩⟩⟩⟩⟩⟩⟩⟩⟩
    · subst h1 h2 h3 h4 h5 h6 h7 h8 h9 h10; exact mul_re
    · subst h1 h2 h3 h4 h5 h6 h7 h8 h9 h11 h12; exact mul_im
  · intro h
    refine dL_k h ?_; clear h; rintro n rfl h
    refine gd_k h ?_; clear h; rintro hn h
    · refine ⟨[.fqp p a b, .int n big], orc, LeL.cons (Le.refl _) (LeL.cons (Le.int (Nat.le_of_ble_eq_true hn)) (LeL.refl _)), fun P => ?_⟩
      refine by_rfl (b := ∀ (z1 : Int), z1 = a * n % p → ∀ (z2 : Int), z2 = b * n % p → (p = p ∧ p = p) ∧ ∃ d', Le (.fqp p z1 z2) d' ∧ k d' orc) (by kernel_rfl) fun z1 h1 z2 h2 => ⟨⟨rfl, rfl⟩, _, Le.refl _, h _ _ h1 h2⟩
noncomputable def cRmulP : Ctr := ⟨237, 775, 7700, fun ds orc k => l2 ds fun x y => dG x fun p a b => dL y fun n => gd (Nat.ble n.natAbs big) (∀ e f, e = a * n % p → f = b * n % p → k (.fqp p e f) orc)⟩
theorem ok_RmulP : cRmulP.Ok KK := runF_ok k_ok (gam := [cMulP]) (gc ok_MulP g0) fun P ds orc k fa h => by
  refine l2_k h ?_; clear h; rintro x y rfl h
  refine dG_k h ?_; clear h; rintro p a b rfl h
  refine dL_k h ?_; clear h; rintro n rfl h
  · exact by_rfl (by kernel_rfl) h
noncomputable def cNegP : Ctr := ⟨280, 780, 7800, fun ds orc k => l1 ds fun x => dG x fun p a b => ∀ e f, e = -a % p → f = -b % p → k (.fqp p e f) orc⟩
theorem ok_NegP : cNegP.Ok KK := runF_ok k_ok (gam := gP) ok_gP fun P ds orc k fa h => by
  refine l1_k h ?_; clear h; rintro x rfl h
  refine dG_k h ?_; clear h; rintro p a b rfl h
  · exact by_rfl (b := (p = p ∧ p = p) ∧ k (.fqp p (-a % p) (-b % p)) orc) (by kernel_rfl) ⟨⟨rfl, rfl⟩, h _ _ rfl rfl⟩
noncomputable def cEqP : Ctr := ⟨268, 780, 7800, fun ds orc k => l2 ds fun x y => dG x fun p a b => dG y fun q c d => q = p ∧ k (.sb (decide (a = c) && decide (b = d))) orc⟩
theorem ok_EqP : cEqP.Ok KK := runF_w k_ok (gam := gP) ok_gP fun ds orc k fa h => by
  refine l2_k h ?_; clear h; rintro x y rfl h
  refine dG_k h ?_; clear h; rintro p a b rfl h
  refine dG_k h ?_; clear h; rintro q c d rfl h
  · refine oA h ?_; clear h; rintro rfl h
    refine ⟨_, [], LeL.refl _, fun P => ?_⟩
    refine by_rfl (b := q = q ∧ ((!decide (a = c)) = true → ∃ d', Le (.bool false) d' ∧ k d' orc) ∧ ((!decide (a = c)) = false → q = q ∧ ((!decide (b = d)) = true → ∃ d', Le (.bool false) d' ∧ k d' orc) ∧ ((!decide (b = d)) = false → ∃ d', Le (.bool true) d' ∧ k d' orc))) (by kernel_rfl) ?_
    refine ⟨rfl, fun h1 => ⟨_, Le.sb' ?_, h⟩, fun h1 => ⟨rfl, fun h2 => ⟨_, Le.sb' ?_, h⟩, fun h2 => ⟨_, Le.sb' ?_, h⟩⟩⟩ <;> simp_all
noncomputable def cOneP : Ctr := ⟨287, 780, 7800, fun ds orc k => l1 ds fun x => dG x fun p a b => ∀ e f, e = 1 % p → f = 0 % p → k (.fqp p e f) orc⟩
theorem ok_OneP : cOneP.Ok KK := runF_ok k_ok (gam := gP) ok_gP fun P ds orc k fa h => by
  refine l1_k h ?_; clear h; rintro x rfl h
  refine dG_k h ?_; clear h; rintro p a b rfl h
  · exact by_rfl (b := k (.fqp p (1 % p) (0 % p)) orc) (by kernel_rfl) (h _ _ rfl rfl)
noncomputable def cDivI : Ctr := ⟨242, 780, 7800, fun ds orc k => l2 ds fun x y => dG x fun p a b => dI y fun c B => gd (Nat.ble B 127) (∀ e f, e = a * pinv p c % p → f = b * pinv p c % p → k (.fqp p e f) orc)⟩
theorem ok_DivI : cDivI.Ok KK := runF_w k_ok (gam := gP) ok_gP fun ds orc k fa h => by
  refine l2_k h ?_; clear h; rintro x y rfl h
  refine dG_k h ?_; clear h; rintro p a b rfl h
  refine dI_k h ?_; clear h; rintro c B rfl h
  refine gd_k h ?_; clear h; rintro hB h
  · · refine ⟨[.fqp p a b, .int c 127], orc, LeL.cons (Le.refl _) (LeL.cons (Le.wid (Nat.le_trans fa.2.1 (Nat.le_of_ble_eq_true hB))) (LeL.refl _)), fun P => ?_⟩
      exact by_rfl (b := ∀ (z1 : Int), z1 = a * pinv p c % p → ∀ (z2 : Int), z2 = b * pinv p c % p → (p = p ∧ p = p) ∧ ∃ d', Le (.fqp p z1 z2) d' ∧ k d' orc) (by kernel_rfl) fun z1 h1 z2 h2 => ⟨⟨rfl, rfl⟩, _, Le.refl _, h _ _ h1 h2⟩
noncomputable def cDeg : Ctr := ⟨35, 860, 8600, fun ds orc k => ∀ P, runF (KK P) [cEq] 860 8600 35 ds orc k⟩
theorem ok_Deg : cDeg.Ok KK := runF_ok k_ok (gam := [cEq]) (gc ok_Eq g0) fun P ds orc k fa h => h P
noncomputable def cPrd : Ctr := ⟨40, 850, 8500, fun ds orc k => ∀ P, runF (KK P) (cDeg :: gFQ) 850 8500 40 ds orc k⟩
theorem ok_Prd : cPrd.Ok KK := runF_ok k_ok (gam := cDeg :: gFQ) (gc ok_Deg ok_gFQ) fun P ds orc k fa h => h P
noncomputable def gI : List Ctr := cDivI :: cDeg :: cPrd :: gP
theorem ok_gI : ∀ c' ∈ gI, c'.Ok KK := gc ok_DivI (gc ok_Deg (gc ok_Prd ok_gP))
end
section
open Lean.Grind
noncomputable def gset (p : Int) : Setoid (Int × Int) where
  r a b := p ∣ a.1 - b.1 ∧ p ∣ a.2 - b.2
  iseqv := ⟨fun a => by simp, fun {a b} h => by
    refine oA h ?_; clear h; rintro ⟨x, hx⟩ ⟨y, hy⟩
    exact ⟨⟨-x, by grind⟩, ⟨-y, by grind⟩⟩, fun {a b c} h k => by
    refine oA h ?_; clear h; rintro ⟨x, hx⟩ ⟨y, hy⟩
    refine oA k ?_; clear k; rintro ⟨z, hz⟩ ⟨t, ht⟩
    exact ⟨⟨x + z, by grind⟩, ⟨y + t, by grind⟩⟩⟩
noncomputable def G (p : Int) : Type := Quotient (gset p)
noncomputable def gcl (p : Int) (a b : Int) : G p := Quotient.mk (gset p) (a, b)
theorem gcl_eq {p a b c d : Int} : gcl p a b = gcl p c d ↔ p ∣ a - c ∧ p ∣ b - d := ⟨fun h => Quotient.exact h, fun h => Quotient.sound h⟩
noncomputable def gadd {p : Int} (x y : G p) : G p := Quotient.lift₂ (fun a b => gcl p (a.1 + b.1) (a.2 + b.2)) (fun a b c d h k => gcl_eq.mpr (by
  refine oA h ?_; clear h; rintro ⟨x, hx⟩ ⟨y, hy⟩
  refine oA k ?_; clear k; rintro ⟨z, hz⟩ ⟨t, ht⟩
  exact ⟨⟨x + z, by grind⟩, ⟨y + t, by grind⟩⟩)) x y
noncomputable def gmul {p : Int} (x y : G p) : G p := Quotient.lift₂ (fun a b => gcl p (a.1 * b.1 - a.2 * b.2) (a.1 * b.2 + a.2 * b.1)) (fun a b c d h k => gcl_eq.mpr (by
  refine oA h ?_; clear h; rintro ⟨x, hx⟩ ⟨y, hy⟩
  refine oA k ?_; clear k; rintro ⟨z, hz⟩ ⟨t, ht⟩
  exact ⟨⟨x * b.1 + c.1 * z - y * b.2 - c.2 * t, by grind⟩, ⟨x * b.2 + c.1 * t + y * b.1 + c.2 * z, by grind⟩⟩)) x y
noncomputable def gneg {p : Int} (x : G p) : G p := Quotient.lift (fun a => gcl p (-a.1) (-a.2)) (fun a b h => gcl_eq.mpr (by
  refine oA h ?_; clear h; rintro ⟨x, hx⟩ ⟨y, hy⟩
  exact ⟨⟨-x, by grind⟩, ⟨-y, by grind⟩⟩)) x
noncomputable def gpow {p : Int} (x : G p) : Nat → G p
  | 0 => gcl p 1 0
  | n + 1 => gmul (gpow x n) x
theorem gext {p : Int} {a b c d : Int} (h : a = c) (k : b = d) : gcl p a b = gcl p c d := by rw [h, k]
set_option tactic.hygienic true in
@[reducible] noncomputable def gRing (p : Int) : CommRing (G p) where
  add := gadd
  mul := gmul
  neg := gneg
  sub x y := gadd x (gneg y)
  natCast := ⟨fun n => gcl p n 0⟩
  ofNat n := ⟨gcl p n 0⟩
  nsmul := ⟨fun n x => gmul (gcl p n 0) x⟩
  npow := ⟨gpow⟩
  intCast := ⟨fun n => gcl p n 0⟩
  zsmul := ⟨fun n x => gmul (gcl p n 0) x⟩
  add_zero x := by
    induction x using Quotient.ind
    rename_i a
    show gcl p ((a.1) + (0)) ((a.2) + (0)) = gcl p (a.1) (a.2)
    exact gext (by grind) (by grind)
  add_comm x y := by
    induction x using Quotient.ind
    rename_i a
    induction y using Quotient.ind
    rename_i b
    show gcl p ((a.1) + (b.1)) ((a.2) + (b.2)) = gcl p ((b.1) + (a.1)) ((b.2) + (a.2))
    exact gext (by grind) (by grind)
  add_assoc x y z := by
    induction x using Quotient.ind
    rename_i a
    induction y using Quotient.ind
    rename_i b
    induction z using Quotient.ind
    rename_i c
    show gcl p (((a.1) + (b.1)) + (c.1)) (((a.2) + (b.2)) + (c.2)) = gcl p ((a.1) + ((b.1) + (c.1))) ((a.2) + ((b.2) + (c.2)))
    exact gext (by grind) (by grind)
  mul_assoc x y z := by
    induction x using Quotient.ind
    rename_i a
    induction y using Quotient.ind
    rename_i b
    induction z using Quotient.ind
    rename_i c
    show gcl p (((a.1) * (b.1) - (a.2) * (b.2)) * (c.1) - ((a.1) * (b.2) + (a.2) * (b.1)) * (c.2)) (((a.1) * (b.1) - (a.2) * (b.2)) * (c.2) + ((a.1) * (b.2) + (a.2) * (b.1)) * (c.1)) = gcl p ((a.1) * ((b.1) * (c.1) - (b.2) * (c.2)) - (a.2) * ((b.1) * (c.2) + (b.2) * (c.1))) ((a.1) * ((b.1) * (c.2) + (b.2) * (c.1)) + (a.2) * ((b.1) * (c.1) - (b.2) * (c.2)))
    exact gext (by grind) (by grind)
  mul_comm x y := by
    induction x using Quotient.ind
    rename_i a
    induction y using Quotient.ind
    rename_i b
    show gcl p ((a.1) * (b.1) - (a.2) * (b.2)) ((a.1) * (b.2) + (a.2) * (b.1)) = gcl p ((b.1) * (a.1) - (b.2) * (a.2)) ((b.1) * (a.2) + (b.2) * (a.1))
    exact gext (by grind) (by grind)
  mul_one x := by
    induction x using Quotient.ind
    rename_i a
    show gcl p ((a.1) * (1) - (a.2) * (0)) ((a.1) * (0) + (a.2) * (1)) = gcl p (a.1) (a.2)
    exact gext (by grind) (by grind)
  one_mul x := by
    induction x using Quotient.ind
    rename_i a
    show gcl p ((1) * (a.1) - (0) * (a.2)) ((1) * (a.2) + (0) * (a.1)) = gcl p (a.1) (a.2)
    exact gext (by grind) (by grind)
  left_distrib x y z := by
    induction x using Quotient.ind
    rename_i a
    induction y using Quotient.ind
    rename_i b
    induction z using Quotient.ind
    rename_i c
    show gcl p ((a.1) * ((b.1) + (c.1)) - (a.2) * ((b.2) + (c.2))) ((a.1) * ((b.2) + (c.2)) + (a.2) * ((b.1) + (c.1))) = gcl p (((a.1) * (b.1) - (a.2) * (b.2)) + ((a.1) * (c.1) - (a.2) * (c.2))) (((a.1) * (b.2) + (a.2) * (b.1)) + ((a.1) * (c.2) + (a.2) * (c.1)))
    exact gext (by grind) (by grind)
  right_distrib x y z := by
    induction x using Quotient.ind
    rename_i a
    induction y using Quotient.ind
    rename_i b
    induction z using Quotient.ind
    rename_i c
    show gcl p (((a.1) + (b.1)) * (c.1) - ((a.2) + (b.2)) * (c.2)) (((a.1) + (b.1)) * (c.2) + ((a.2) + (b.2)) * (c.1)) = gcl p (((a.1) * (c.1) - (a.2) * (c.2)) + ((b.1) * (c.1) - (b.2) * (c.2))) (((a.1) * (c.2) + (a.2) * (c.1)) + ((b.1) * (c.2) + (b.2) * (c.1)))
    exact gext (by grind) (by grind)
  zero_mul x := by
    induction x using Quotient.ind
    rename_i a
    show gcl p ((0) * (a.1) - (0) * (a.2)) ((0) * (a.2) + (0) * (a.1)) = gcl p (0) (0)
    exact gext (by grind) (by grind)
  mul_zero x := by
    induction x using Quotient.ind
    rename_i a
    show gcl p ((a.1) * (0) - (a.2) * (0)) ((a.1) * (0) + (a.2) * (0)) = gcl p (0) (0)
    exact gext (by grind) (by grind)
  pow_zero x := rfl
  pow_succ x n := rfl
  ofNat_succ n := by
    show gcl p ((n + 1 : Nat) : Int) 0 = gcl p ((n : Int) + 1) (0 + 0)
    exact gext (by simp) (by simp)
  ofNat_eq_natCast n := rfl
  nsmul_eq_natCast_mul n x := rfl
  neg_add_cancel x := by
    induction x using Quotient.ind
    rename_i a
    show gcl p ((-(a.1)) + (a.1)) ((-(a.2)) + (a.2)) = gcl p (0) (0)
    exact gext (by grind) (by grind)
  sub_eq_add_neg x y := rfl
  neg_zsmul n x := by
    induction x using Quotient.ind
    rename_i a
    show gcl p ((-n) * (a.1) - (0) * (a.2)) ((-n) * (a.2) + (0) * (a.1)) = gcl p (-((n) * (a.1) - (0) * (a.2))) (-((n) * (a.2) + (0) * (a.1)))
    exact gext (by grind) (by grind)
  zsmul_natCast_eq_nsmul n x := rfl
  intCast_ofNat n := rfl
  intCast_neg n := by
    show gcl p (-n) 0 = gcl p (-n) (-0)
    exact gext rfl (by simp)
structure Fld (p : Int) {R : Type} [CommRing R] (c : Int → Int → R) : Prop where
  mul : ∀ a b d e, c (a * d - b * e) (a * e + b * d) = c a b * c d e
  add : ∀ a b d e, c (a + d) (b + e) = c a b + c d e
  sub : ∀ a b d e, c (a - d) (b - e) = c a b - c d e
  neg : ∀ a b, c (-a) (-b) = - c a b
  one : c 1 0 = 1
  zero : c 0 0 = 0
  eq : ∀ a b d e, c a b = c d e ↔ p ∣ a - d ∧ p ∣ b - e
theorem fld (p : Int) : @Fld p (G p) (gRing p) (gcl p) :=
  @Fld.mk p (G p) (gRing p) (gcl p) (fun _ _ _ _ => rfl) (fun _ _ _ _ => rfl) (fun a b d e => (gext (Int.sub_eq_add_neg) (Int.sub_eq_add_neg) : gcl p (a - d) (b - e) = gcl p (a + -d) (b + -e))) (fun _ _ => rfl) rfl rfl fun _ _ _ _ => gcl_eq
end
section
open Lean.Grind
theorem dvd_mod (p a : Int) : p ∣ a % p - a := ⟨-(a / p), by have := Int.emod_add_mul_ediv a p; grind⟩
theorem sq_all : allP (fun p x => (x * x + 1) % p != 0) = true := by decide +kernel
theorem unit_mod {p b : Int} (hp : Pr p) (h : ¬ p ∣ b) : ∃ t, p ∣ b * t - 1 := by
  have c := Can.of hp b
  have h0 : 0 < b % p := by
    rcases Int.lt_or_eq_of_le c.lo with q | q
    · exact q
    · exact absurd (Int.dvd_of_emod_eq_zero q.symm) h
  have e := pinv_mul hp h0 c.hi
  refine ⟨pinv p (b % p), ?_⟩
  have h1 := Int.emod_add_mul_ediv (pinv p (b % p) * (b % p)) p
  have h2 := Int.emod_add_mul_ediv b p
  rw [e] at h1
  generalize pinv p (b % p) * (b % p) / p = u at h1
  generalize hx : pinv p (b % p) = x at h1 ⊢
  refine ⟨u + x * (b / p), ?_⟩
  generalize b / p = v at h2 ⊢
  generalize b % p = r at h1 h2
  grind
theorem norm_ne {p a b : Int} (hp : Pr p) (h : p ∣ a * a + b * b) : p ∣ a ∧ p ∣ b := by
  have key : ∀ a b : Int, p ∣ a * a + b * b → p ∣ b := fun a b h => by
    refine Classical.byContradiction fun hb => ?_
    refine oEE (unit_mod hp hb) ?_; intro t q ht
    have c := Can.of hp (a * t)
    have := allP_get sq_all hp c.lo c.hi
    have : ((a * t % p) * (a * t % p) + 1) % p ≠ 0 := by simpa using this
    refine this (Int.emod_eq_zero_of_dvd ?_)
    refine oE h ?_; clear h; intro u hu
    refine oE (dvd_mod p (a * t)) ?_; intro v hv
    generalize a * t % p = x at *
    refine ⟨v * (x + a * t) + t * t * u - q * (b * t + 1), ?_⟩
    grind
  exact ⟨key b a (by rw [Int.add_comm]; exact h), key a b h⟩
section
variable {p : Int} {R : Type} [CommRing R] {c : Int → Int → R}
theorem Fld.mod (F : Fld p c) (a b : Int) : c (a % p) (b % p) = c a b := (F.eq _ _ _ _).mpr ⟨dvd_mod p a, dvd_mod p b⟩
theorem Fld.zero_iff (F : Fld p c) {a b : Int} : c a b = 0 ↔ p ∣ a ∧ p ∣ b := by
  rw [← F.zero, F.eq, Int.sub_zero, Int.sub_zero]
theorem Can.dvd {p a : Int} (h : Can p a) (q : p ∣ a) : a = 0 := by
  rw [← Int.emod_eq_of_lt h.lo h.hi]; exact Int.emod_eq_zero_of_dvd q
theorem Fld.can0 (F : Fld p c) {a b : Int} (ha : Can p a) (hb : Can p b) : c a b = 0 ↔ a = 0 ∧ b = 0 := by
  rw [F.zero_iff]
  exact ⟨fun ⟨x, y⟩ => ⟨ha.dvd x, hb.dvd y⟩, fun ⟨x, y⟩ => by subst x y; exact ⟨Int.dvd_zero _, Int.dvd_zero _⟩⟩
theorem dvd_can {p a b : Int} (ha : Can p a) (hb : Can p b) (h : p ∣ a - b) : a = b := by
  have h1 := Int.emod_eq_of_lt ha.lo ha.hi
  have h2 := Int.emod_eq_of_lt hb.lo hb.hi
  rw [← h1, ← h2]
  exact Int.emod_eq_emod_iff_emod_sub_eq_zero.mpr (Int.emod_eq_zero_of_dvd h)
theorem Fld.can (F : Fld p c) {a b d e : Int} (ha : Can p a) (hb : Can p b) (hd : Can p d) (he : Can p e) : c a b = c d e ↔ a = d ∧ b = e := by
  rw [F.eq]
  exact ⟨fun ⟨x, y⟩ => ⟨dvd_can ha hd x, dvd_can hb he y⟩, fun ⟨x, y⟩ => by subst x y; simp⟩
theorem Fld.inv (F : Fld p c) (hp : Pr p) {a b : Int} (h : c a b ≠ 0) : ∃ x y, c a b * c x y = 1 := by
  have hn : ¬ p ∣ a * a + b * b := fun q => h (F.zero_iff.mpr (norm_ne hp q))
  refine oEE (unit_mod hp hn) ?_; intro t q ht
  refine ⟨a * t, -b * t, ?_⟩
  rw [← F.mul, ← F.one, F.eq]
  exact ⟨⟨q, by grind⟩, ⟨0, by grind⟩⟩
theorem Fld.cancel (F : Fld p c) (hp : Pr p) {a b : Int} (h : c a b ≠ 0) {x y : R} (e : c a b * x = c a b * y) : x = y := by
  refine oEE (F.inv hp h) ?_; intro u v q
  have h1 : c u v * (c a b * x) = c u v * (c a b * y) := by rw [e]
  have h2 : c u v * (c a b * x) = x := by
    have : c u v * (c a b * x) = (c a b * c u v) * x := by grind
    rw [this, q]; grind
  have h3 : c u v * (c a b * y) = y := by
    have : c u v * (c a b * y) = (c a b * c u v) * y := by grind
    rw [this, q]; grind
  rw [← h2, ← h3, h1]
theorem Fld.mul_ne (F : Fld p c) (hp : Pr p) {a b d e : Int} (h : c a b ≠ 0) (k : c d e ≠ 0) : c a b * c d e ≠ 0 := fun q => by
  refine k (F.cancel hp h ?_)
  rw [q]; grind
theorem Fld.num (F : Fld p c) (n : Nat) : c n 0 = (OfNat.ofNat n : R) := by
  induction n with
  | zero => exact F.zero
  | succ n ih =>
    have : c ((n + 1 : Nat) : Int) 0 = c n 0 + c 1 0 := by rw [← F.add]; congr 1
    rw [this, ih, F.one, ← Semiring.ofNat_succ]
end
end
section
open Lean.Grind
section
variable {p : Int} {R : Type} [CommRing R] {c : Int → Int → R}
theorem Fld.im (F : Fld p c) (x y : Int) : c (x * y) 0 = c x 0 * c y 0 := by
  rw [← F.mul]; congr 1 <;> simp
theorem Fld.ia (F : Fld p c) (x y : Int) : c (x + y) 0 = c x 0 + c y 0 := by
  rw [← F.add]; congr 1
theorem Fld.is (F : Fld p c) (x y : Int) : c (x - y) 0 = c x 0 - c y 0 := by
  rw [← F.sub]; congr 1
theorem Fld.tr (F : Fld p c) {x y : Int} (h : x = y % p) : c x 0 = c y 0 := by
  rw [h, ← F.mod y 0, Int.zero_emod]
theorem Fld.z0 (F : Fld p c) {x y : Int} (h : x = y % p) : x = 0 ↔ c y 0 = 0 := by
  rw [F.zero_iff, h]
  exact ⟨fun q => ⟨Int.dvd_of_emod_eq_zero q, Int.dvd_zero _⟩, fun q => Int.emod_eq_zero_of_dvd q.1⟩
theorem Fld.pin (F : Fld p c) (hp : Pr p) {x : Int} (hx : Can p x) (h : x ≠ 0) : c (pinv p x) 0 * c x 0 = 1 := by
  have h0 : 0 < x := by have := hx.lo; omega
  have e := pinv_mul hp h0 hx.hi
  rw [← F.im, ← F.one]
  have := F.mod (pinv p x * x) 0
  rw [e, Int.zero_emod] at this
  exact this.symm
theorem Fld.ne01 (F : Fld p c) (hp : Pr p) : (0 : R) ≠ 1 := fun q => by
  rw [← F.zero, ← F.one, F.eq] at q
  have := q.1
  have h1 := hp.ge
  have : p ∣ 1 := by rw [show (1 : Int) = -(0 - 1) by decide]; exact Int.dvd_neg.mpr q.1
  have := Int.le_of_dvd (by decide) this
  omega
theorem Fld.iz (F : Fld p c) {x : Int} (hx : Can p x) : c x 0 = 0 ↔ x = 0 := by
  rw [F.zero_iff]
  exact ⟨fun q => hx.dvd q.1, fun q => by subst q; exact ⟨Int.dvd_zero _, Int.dvd_zero _⟩⟩
end
noncomputable def InvR (p a b e f : Int) : Prop := p ∣ a * e - b * f - 1 ∧ p ∣ a * f + b * e
theorem InvR.of {p a b e f : Int} {R : Type} [Lean.Grind.CommRing R] {c : Int → Int → R} (F : Fld p c) (h1 : c a 0 * c e 0 - c b 0 * c f 0 = 1) (h2 : c a 0 * c f 0 + c b 0 * c e 0 = 0) : InvR p a b e f := by
  rw [← F.im, ← F.im, ← F.is, ← F.one, F.eq] at h1
  rw [← F.im, ← F.im, ← F.ia, ← F.zero, F.eq, Int.sub_zero] at h2
  exact ⟨h1.1, h2.1⟩
noncomputable def cInvP : Ctr := ⟨254, 770, 7700, fun ds orc k => l1 ds fun x => dG x fun p a b => ¬ (a = 0 ∧ b = 0) ∧ ∀ e f, Can p e → Can p f → InvR p a b e f → k (.fqp p e f) orc⟩
theorem ok_InvP : cInvP.Ok KK := runF_w k_ok (gam := gI) ok_gI fun ds orc k fa h => by
  refine l1_k h ?_; clear h; rintro x rfl h
  refine dG_k h ?_; clear h; rintro p a b rfl ⟨hab, h⟩
  · refine oA fa ?_; clear fa; rintro ⟨ca, cb⟩ _
    have hp := ca.pr
    have p1 := hp.ge
    have F := fld p
    letI := gRing p
    generalize gcl p = c at F
    have cm : ∀ {x y : Int}, x = y % p → Can p x := fun h => h ▸ Can.of hp _
    have o1 : (1 : Int) % p = 1 := Int.emod_eq_of_lt (by decide) (by omega)
    have c1 : Can p 1 := ⟨hp, by decide, by omega⟩
    by_cases hb : b = 0
    · have ha : a ≠ 0 := fun q => hab ⟨q, hb⟩
      refine ⟨_, [true, false], LeL.refl _, fun P => ?_⟩
      refine by_rfl (b := ∀ (P1 : Params), decide (b = 0) = true ∧ decide (a = 0) = false ∧ ∀ (e f : Int), e = 1 % p * pinv p a % p → f = 0 % p * pinv p a % p → ∃ d', Le (.fqp p e f) d' ∧ k d' orc) (by kernel_rfl) ?_
      refine fun _ => ⟨by simp [hb], by simp [ha], fun e f he hf => ⟨_, Le.refl _, h e f (cm he) (cm hf) (InvR.of F ?_ ?_)⟩⟩
      · have r1 := F.tr he
        have r2 := F.tr hf
        have r3 := F.pin hp ca ha
        rw [o1, F.im, F.one] at r1
        rw [Int.zero_emod, Int.zero_mul, F.zero] at r2
        rw [r1, r2]
        grind
      · have r2 := F.tr hf
        rw [Int.zero_emod, Int.zero_mul, F.zero] at r2
        rw [r2, hb, F.zero]
        grind
    · have hB := F.pin hp cb hb
      by_cases ha : a = 0
      · refine ⟨_, [false, false, false, true, true, false], LeL.refl _, fun P => ?_⟩
        refine by_rfl (b := ∀ (P1 : Params), decide (b = 0) = false ∧ ∀ (P2 P3 P4 : Params), decide (b = 0) = false ∧ ∀ (z5 : Int), z5 = pinv p b * 1 % p → ∀ (z6 : Int), z6 = pinv p b * (0 - 0) % p → ∀ (P7 : Params), decide (0 + z5 = 0) = false ∧ ∀ (z8 : Int), z8 = a * (0 + z6) % p → ∀ (z9 : Int), z9 = (1 - z8) % p → ∀ (z10 : Int), z10 = a * (0 + z5) % p → ∀ (z11 : Int), z11 = (0 - z10) % p → ∀ (z12 : Int), z12 = a * 0 % p → ∀ (z13 : Int), z13 = (1 - z12) % p → ∀ (z14 : Int), z14 = b * (0 + z6) % p → p = p ∧ ∀ (z15 : Int), z15 = (z11 - z14) % p → ∀ (z16 : Int), z16 = b * (0 + z5) % p → p = p ∧ ∀ (z17 : Int), z17 = (z13 - z16) % p → ∀ (z18 : Int), z18 = (z17 - 0 * (0 + z6)) % p → ∀ (P19 : Params), decide (z18 = 0) = true ∧ decide (z15 = 0) = true ∧ decide (z9 = 0) = false ∧ ∀ (e20 f21 : Int), e20 = (0 - 1 * (0 + z6)) % p * pinv p z9 % p → f21 = (0 - 1 * (0 + z5) - 0 * (0 + z6)) % p * pinv p z9 % p → ∃ d', Le (.fqp p e20 f21) d' ∧ k d' orc) (by kernel_rfl) ?_
        refine fun _ => ⟨by simp [hb], fun _ _ _ => ⟨by simp [hb], fun z5 h5 z6 h6 _ => ?_⟩⟩
        have e6 : z6 = 0 := by simp [h6]
        subst e6
        have r5 := F.tr h5
        rw [Int.mul_one] at r5
        have n5 : z5 ≠ 0 := fun q => by
          rw [q, F.zero] at r5
          exact F.ne01 hp (by rw [← hB, ← r5]; grind)
        refine ⟨by simpa using n5, fun z8 h8 z9 h9 z10 h10 z11 h11 z12 h12 z13 h13 z14 h14 => ⟨rfl, fun z15 h15 z16 h16 => ⟨rfl, fun z17 h17 z18 h18 _ => ?_⟩⟩⟩
        have e8 : z8 = 0 := by simp [h8]
        have e9 : z9 = 1 := by rw [h9, e8, Int.sub_zero, o1]
        have e14 : z14 = 0 := by simp [h14]
        have e12 : z12 = 0 := by simp [h12]
        subst e8 e9 e14 e12
        have r10 := F.tr h10; have r11 := F.tr h11; have r13 := F.tr h13; have r15 := F.tr h15; have r16 := F.tr h16; have r17 := F.tr h17; have r18 := F.tr h18
        simp only [F.im, F.ia, F.is, F.zero, F.one] at r10 r11 r13 r15 r16 r17 r18
        have hA : c a 0 = 0 := by rw [ha, F.zero]
        have q18 : z18 = 0 := (F.iz (cm h18)).mp (by grind)
        have q15 : z15 = 0 := (F.iz (cm h15)).mp (by grind)
        refine ⟨by simpa using q18, by simpa using q15, by decide, fun e f he hf => ⟨_, Le.refl _, h e f (cm he) (cm hf) (InvR.of F ?_ ?_)⟩⟩
        · have re := F.tr he; have rf := F.tr hf
          have r1 := F.pin hp c1 (by decide)
          rw [F.im, F.tr rfl] at re rf
          simp only [F.im, F.ia, F.is, F.zero, F.one] at re rf r1
          grind
        · have re := F.tr he; have rf := F.tr hf
          have r1 := F.pin hp c1 (by decide)
          rw [F.im, F.tr rfl] at re rf
          simp only [F.im, F.ia, F.is, F.zero, F.one] at re rf r1
          grind
      · refine ⟨_, [false, false, false, true, false, false, true, false, false, true, true, false], LeL.refl _, fun P => ?_⟩
        refine by_rfl (b := ∀ (P1 : Params), decide (b = 0) = false ∧ ∀ (P2 P3 P4 : Params), decide (b = 0) = false ∧ ∀ (z5 : Int), z5 = pinv p b * 1 % p → ∀ (z6 : Int), z6 = pinv p b * (0 - 0) % p → ∀ (P7 : Params), decide (0 + z5 = 0) = false ∧ ∀ (z8 : Int), z8 = a * (0 + z6) % p → ∀ (z9 : Int), z9 = (1 - z8) % p → ∀ (z10 : Int), z10 = a * (0 + z5) % p → ∀ (z11 : Int), z11 = (0 - z10) % p → ∀ (z12 : Int), z12 = a * 0 % p → ∀ (z13 : Int), z13 = (1 - z12) % p → ∀ (z14 : Int), z14 = b * (0 + z6) % p → p = p ∧ ∀ (z15 : Int), z15 = (z11 - z14) % p → ∀ (z16 : Int), z16 = b * (0 + z5) % p → p = p ∧ ∀ (z17 : Int), z17 = (z13 - z16) % p → ∀ (z18 : Int), z18 = (z17 - 0 * (0 + z6)) % p → ∀ (P19 : Params), decide (z18 = 0) = true ∧ decide (z15 = 0) = false ∧ ∀ (P20 P21 : Params), decide (b = 0) = false ∧ ∀ (P22 : Params), decide (z18 = 0) = true ∧ decide (z15 = 0) = false ∧ p = p ∧ ∀ (z23 : Int), z23 = b * pinv p z15 % p → ∀ (z24 : Int), z24 = (a - (0 + z23)) % p → ∀ (z25 : Int), z25 = (b - 0) % p → ∀ (P26 : Params), decide (0 + z23 = 0) = false ∧ ∀ (z27 : Int), z27 = z9 * (0 + z23) % p → p = p ∧ ∀ (z28 : Int), z28 = (a - z27) % p → ∀ (z29 : Int), z29 = z9 * 0 % p → p = p ∧ ∀ (z30 : Int), z30 = (b - z29) % p → ∀ (z31 : Int), z31 = z9 * 0 % p → ∀ (z32 : Int), z32 = (0 - z31) % p → ∀ (z33 : Int), z33 = z15 * (0 + z23) % p → p = p ∧ ∀ (z34 : Int), z34 = (z30 - z33) % p → ∀ (z35 : Int), z35 = z15 * 0 % p → p = p ∧ ∀ (z36 : Int), z36 = (z32 - z35) % p → ∀ (z37 : Int), z37 = z18 * (0 + z23) % p → p = p ∧ ∀ (z38 : Int), z38 = (z36 - z37) % p → ∀ (P39 : Params), decide (z38 = 0) = true ∧ decide (z34 = 0) = true ∧ decide (z28 = 0) = false ∧ ∀ (e40 f41 : Int), e40 = (1 - (0 - 1 * (0 + z6)) * (0 + z23)) % p * pinv p z28 % p → f41 = (0 - (0 - 1 * (0 + z6)) * 0 - (0 - 1 * (0 + z5) - 0 * (0 + z6)) * (0 + z23)) % p * pinv p z28 % p → ∃ d', Le (.fqp p e40 f41) d' ∧ k d' orc) (by kernel_rfl) ?_
        refine fun _ => ⟨by simp [hb], fun _ _ _ => ⟨by simp [hb], fun z5 h5 z6 h6 _ => ?_⟩⟩
        have e6 : z6 = 0 := by simp [h6]
        subst e6
        have r5 := F.tr h5
        rw [Int.mul_one] at r5
        have n5 : z5 ≠ 0 := fun q => by
          rw [q, F.zero] at r5
          exact F.ne01 hp (by rw [← hB, ← r5]; grind)
        refine ⟨by simpa using n5, fun z8 h8 z9 h9 z10 h10 z11 h11 z12 h12 z13 h13 z14 h14 => ⟨rfl, fun z15 h15 z16 h16 => ⟨rfl, fun z17 h17 z18 h18 _ => ?_⟩⟩⟩
        have e8 : z8 = 0 := by simp [h8]
        have e9 : z9 = 1 := by rw [h9, e8, Int.sub_zero, o1]
        have e14 : z14 = 0 := by simp [h14]
        have e12 : z12 = 0 := by simp [h12]
        subst e8 e9 e14 e12
        have r10 := F.tr h10; have r11 := F.tr h11; have r13 := F.tr h13; have r15 := F.tr h15; have r16 := F.tr h16; have r17 := F.tr h17; have r18 := F.tr h18
        simp only [F.im, F.ia, F.is, F.zero, F.one] at r10 r11 r13 r15 r16 r17 r18
        have hA : c a 0 ≠ 0 := fun q => ha ((F.iz ca).mp q)
        have s15 : c z15 0 = - (c a 0 * c (pinv p b) 0) := by grind
        have q18 : z18 = 0 := (F.iz (cm h18)).mp (by grind)
        have q15 : z15 ≠ 0 := fun q => hA (by
          have := (F.iz (cm h15)).mpr q
          rw [s15] at this
          have e : c a 0 = -(-(c a 0 * c (pinv p b) 0)) * c b 0 := by grind
          rw [e, this]; grind)
        have hC := F.pin hp (cm h15) q15
        refine ⟨by simpa using q18, by simpa using q15, fun _ _ => ⟨by simp [hb], fun _ => ⟨by simpa using q18, by simpa using q15, rfl, fun z23 h23 z24 h24 z25 h25 _ => ?_⟩⟩⟩
        have r23 := F.tr h23
        simp only [F.im, F.ia, F.is, F.zero, F.one] at r23
        have n23 : z23 ≠ 0 := fun q => hb ((F.iz cb).mp (by
          rw [q, F.zero] at r23
          have e : c b 0 = (c b 0 * c (pinv p z15) 0) * c z15 0 := by grind
          rw [e, ← r23]; grind))
        refine ⟨by simpa using n23, fun z27 h27 => ⟨rfl, fun z28 h28 z29 h29 => ⟨rfl, fun z30 h30 z31 h31 z32 h32 z33 h33 => ⟨rfl, fun z34 h34 z35 h35 => ⟨rfl, fun z36 h36 z37 h37 => ⟨rfl, fun z38 h38 _ => ?_⟩⟩⟩⟩⟩⟩
        have e29 : z29 = 0 := by simp [h29]
        have e31 : z31 = 0 := by simp [h31]
        have e32 : z32 = 0 := by simp [h32, e31]
        have e35 : z35 = 0 := by simp [h35]
        have e36 : z36 = 0 := by simp [h36, e32, e35]
        have e37 : z37 = 0 := by simp [h37, q18]
        have e38 : z38 = 0 := by simp [h38, e36, e37]
        subst e29
        have r27 := F.tr h27; have r28 := F.tr h28; have r30 := F.tr h30; have r33 := F.tr h33; have r34 := F.tr h34
        simp only [F.im, F.ia, F.is, F.zero, F.one] at r27 r28 r30 r33 r34
        have s33 : c z33 0 = c b 0 := by grind
        have q34 : z34 = 0 := (F.iz (cm h34)).mp (by grind)
        have q28 : z28 ≠ 0 := fun q => by
          have e0 := (F.iz (cm h28)).mpr q
          have e1 : c a 0 = c b 0 * c (pinv p z15) 0 := by grind
          have e2 : c a 0 * c z15 0 = c b 0 := by rw [e1]; grind
          have e3 : c a 0 * c a 0 + c b 0 * c b 0 = 0 := by
            have : c b 0 * c b 0 = (c a 0 * c z15 0) * c b 0 := by rw [e2]
            rw [this, s15]; grind
          rw [← F.im, ← F.im, ← F.ia, F.zero_iff] at e3
          exact ha (ca.dvd (norm_ne hp e3.1).1)
        have hD := F.pin hp (cm h28) q28
        refine ⟨by simpa using e38, by simpa using q34, by simpa using q28, fun e f he hf => ⟨_, Le.refl _, h e f (cm he) (cm hf) ?_⟩⟩
        have re := F.tr he; have rf := F.tr hf
        rw [F.im, F.tr rfl] at re rf
        simp only [F.im, F.ia, F.is, F.zero, F.one] at re rf
        have re' : c e 0 = c (pinv p z28) 0 := by rw [re]; grind
        have rf' : c f 0 = c (pinv p b) 0 * c z23 0 * c (pinv p z28) 0 := by rw [rf, ← r5]; grind
        have r28' : c z28 0 = c a 0 - c z23 0 := by grind
        refine InvR.of F ?_ ?_
        · rw [re', rf']
          have : c a 0 * c (pinv p z28) 0 - c b 0 * (c (pinv p b) 0 * c z23 0 * c (pinv p z28) 0) = (c a 0 - (c (pinv p b) 0 * c b 0) * c z23 0) * c (pinv p z28) 0 := by grind
          rw [this, hB, r28'] at *
          grind
        · rw [re', rf']
          have : c a 0 * (c (pinv p b) 0 * c z23 0 * c (pinv p z28) 0) + c b 0 * c (pinv p z28) 0 = (- (c z15 0 * c z23 0) + c b 0) * c (pinv p z28) 0 := by rw [s15]; grind
          rw [this, r23]
          have : -(c z15 0 * (c b 0 * c (pinv p z15) 0)) = - (c b 0 * (c (pinv p z15) 0 * c z15 0)) := by grind
          rw [this, hC]; grind
end
section
open Lean.Grind Lean.Grind
section
variable {p : Int} {R : Type} [CommRing R] {c : Int → Int → R}
theorem Fld.t_mul (F : Fld p c) {a b d e x y : Int} (h1 : x = (a * d - b * e) % p) (h2 : y = (a * e + b * d) % p) : c x y = c a b * c d e := by rw [h1, h2, F.mod, F.mul]
theorem Fld.t_add (F : Fld p c) {a b d e x y : Int} (h1 : x = (a + d) % p) (h2 : y = (b + e) % p) : c x y = c a b + c d e := by rw [h1, h2, F.mod, F.add]
theorem Fld.t_sub (F : Fld p c) {a b d e x y : Int} (h1 : x = (a - d) % p) (h2 : y = (b - e) % p) : c x y = c a b - c d e := by rw [h1, h2, F.mod, F.sub]
theorem Fld.t_neg (F : Fld p c) {a b x y : Int} (h1 : x = -a % p) (h2 : y = -b % p) : c x y = - c a b := by rw [h1, h2, F.mod, F.neg]
theorem Fld.t_lit (F : Fld p c) {a b x y : Int} (n : Nat) (h1 : x = a * (n : Int) % p) (h2 : y = b * (n : Int) % p) : c x y = c a b * (OfNat.ofNat n : R) := by
  rw [h1, h2, F.mod, ← F.num, ← F.mul]; congr 1 <;> simp
end
noncomputable def DivR (p a b c d e f : Int) : Prop := p ∣ e * c - f * d - a ∧ p ∣ e * d + f * c - b
theorem DivR.ring {p a b u v e f : Int} (h : DivR p a b u v e f) {R : Type} [Lean.Grind.CommRing R] {c : Int → Int → R} (F : Fld p c) : c e f * c u v = c a b := by
  rw [← F.mul, F.eq]; exact h
theorem InvR.ring {p a b e f : Int} (h : InvR p a b e f) {R : Type} [Lean.Grind.CommRing R] {c : Int → Int → R} (F : Fld p c) : c a b * c e f = 1 := by
  rw [← F.mul, ← F.one, F.eq, Int.sub_zero]; exact h
theorem cmd {p x y : Int} (hp : Pr p) (h : x = y % p) : Can p x := h ▸ Can.of hp _
noncomputable def cDivP : Ctr := ⟨242, 760, 7600, fun ds orc k => l2 ds fun x y => dG x fun p a b => dG y fun q c d => q = p ∧ ¬ (c = 0 ∧ d = 0) ∧ ∀ e f, Can p e → Can p f → DivR p a b c d e f → k (.fqp p e f) orc⟩
theorem ok_DivP : cDivP.Ok KK := runF_ok k_ok (gam := [cInvP, cMulP]) (gc ok_InvP (gc ok_MulP g0)) fun P ds orc k fa h => by
  refine l2_k h ?_; clear h; rintro x y rfl h
  refine dG_k h ?_; clear h; rintro p a b rfl h
  refine dG_k h ?_; clear h; rintro q u v rfl ⟨rfl, hn, h⟩
  · have hp := fa.1.1.pr
    refine by_rfl (b := ¬ (u = 0 ∧ v = 0) ∧ ∀ (e1 f2 : Int), Can q e1 → Can q f2 → InvR q u v e1 f2 → q = q ∧ ∀ (e5 f6 : Int), e5 = (a * e1 - b * f2) % q → f6 = (a * f2 + b * e1) % q → k (.fqp q e5 f6) orc) (by kernel_rfl) ?_
    refine ⟨hn, fun e f _ _ hi => ⟨rfl, fun x y hx hy => h x y (cmd hp hx) (cmd hp hy) ?_⟩⟩
    have F := fld q
    letI := gRing q
    have r1 := hi.ring F
    have r2 := F.t_mul hx hy
    have : gcl q x y * gcl q u v = gcl q a b := by
      rw [r2]
      have : gcl q a b * gcl q e f * gcl q u v = gcl q a b * (gcl q u v * gcl q e f) := by grind
      rw [this, r1]; grind
    rw [← F.mul, F.eq] at this
    exact this
noncomputable def cPow1 : Ctr := ⟨249, 775, 7750, fun ds orc k => l2 ds fun x y => dG x fun p a b => dL y fun n => gd (decide (n = 1)) (k (.fqp p a b) orc)⟩
theorem ok_Pow1 : cPow1.Ok KK := runF_ok k_ok (gam := [cMulP, cMadeP]) (gc ok_MulP (gc ok_MadeP g0)) fun P ds orc k fa h => by
  refine l2_k h ?_; clear h; rintro x y rfl h
  refine dG_k h ?_; clear h; rintro p a b rfl h
  refine dL_k h ?_; clear h; rintro n rfl h
  refine gd_k h ?_; clear h; rintro hn h
  · · obtain rfl := _root_.of_decide_eq_true hn
      exact by_rfl (b := (p = p ∧ p = p) ∧ k (.fqp p a b) orc) (by kernel_rfl) ⟨⟨rfl, rfl⟩, h⟩
noncomputable def cPow : Ctr := ⟨249, 770, 7700, fun ds orc k => l2 ds fun x y => dG x fun p a b => dL y fun n => (match decide (n = 2) with
    | true => ∀ e f, e = (a * a - b * b) % p → f = (a * b + b * a) % p → k (.fqp p e f) orc
    | false => gd (decide (n = 3)) (∀ e f, e = (a * a - b * b) % p → f = (a * b + b * a) % p → ∀ g h, g = (e * a - f * b) % p → h = (e * b + f * a) % p → k (.fqp p g h) orc))⟩
set_option tactic.hygienic true in
theorem ok_Pow : cPow.Ok KK := runF_ok k_ok (gam := [cPow1, cMulP, cMadeP]) (gc ok_Pow1 (gc ok_MulP (gc ok_MadeP g0))) fun P ds orc k fa h => by
  refine l2_k h ?_; clear h; rintro x y rfl h
  refine dG_k h ?_; clear h; rintro p a b rfl h
  refine dL_k h ?_; clear h; rintro n rfl h
  · split at h
    · rename_i hn
      obtain rfl := _root_.of_decide_eq_true hn
      exact by_rfl (b := p = p ∧ ∀ (e1 f2 : Int), e1 = (a * a - b * b) % p → f2 = (a * b + b * a) % p → k (.fqp p e1 f2) orc) (by kernel_rfl) ⟨rfl, h⟩
    · refine gd_k h ?_; clear h; rintro hn h
      obtain rfl := _root_.of_decide_eq_true hn
      exact by_rfl (b := p = p ∧ ∀ (e1 f2 : Int), e1 = (a * a - b * b) % p → f2 = (a * b + b * a) % p → p = p ∧ ∀ (e3 f4 : Int), e3 = (e1 * a - f2 * b) % p → f4 = (e1 * b + f2 * a) % p → k (.fqp p e3 f4) orc) (by kernel_rfl)
        ⟨rfl, fun e f h1 h2 => ⟨rfl, fun x y h3 h4 => h e f h1 h2 x y h3 h4⟩⟩
noncomputable def Cn (p : Int) (q : Pt4) : Prop := Can p q.1 ∧ Can p q.2.1 ∧ Can p q.2.2.1 ∧ Can p q.2.2.2
noncomputable def NY (q : Pt4) : Prop := ¬ (q.2.2.1 = 0 ∧ q.2.2.2 = 0)
section
noncomputable abbrev cx {R : Type} (c : Int → Int → R) (q : Pt4) : R := c q.1 q.2.1
noncomputable abbrev cy {R : Type} (c : Int → Int → R) (q : Pt4) : R := c q.2.2.1 q.2.2.2
noncomputable def On (p b0 b1 : Int) (q : Pt4) : Prop := ∀ {R : Type} [CommRing R] (c : Int → Int → R), Fld p c → cy c q * cy c q = cx c q * cx c q * cx c q + c b0 b1
noncomputable def SumR (p : Int) (a b r : Pt4) : Prop := ∀ {R : Type} [CommRing R] (c : Int → Int → R), Fld p c → ∃ m : R,
  (a = b → m * (2 * cy c a) = 3 * (cx c a * cx c a)) ∧ (a ≠ b → m * (cx c b - cx c a) = cy c b - cy c a) ∧ cx c r = m * m - cx c a - cx c b ∧ cy c r = m * (cx c a - cx c r) - cy c a
end
noncomputable def NoneC (a b : Pt4) : Prop := a.1 = b.1 ∧ a.2.1 = b.2.1 ∧ ¬ (a.2.2.1 = b.2.2.1 ∧ a.2.2.2 = b.2.2.2)
noncomputable def ptP (p : Int) (q : Pt4) : Dat := .tup [.fqp p q.1 q.2.1, .fqp p q.2.2.1 q.2.2.2]
theorem two_dvd {p x : Int} (hp : Pr p) (h : p ∣ 2 * x) : p ∣ x := by
  have hp2 : p % 2 = 1 := hp.dec (C := fun p => p % 2 = 1) (by decide)
  refine oE h ?_; clear h; intro t ht
  have e : p = 2 * (p / 2) + 1 := by omega
  refine ⟨x - (p / 2) * t, ?_⟩
  generalize p / 2 = m at e
  have : p * (x - m * t) = p * x - m * (p * t) := by grind
  rw [this, ← ht, e]
  grind
theorem two_ne {p : Int} (hp : Pr p) {x y : Int} (hx : Can p x) (hy : Can p y) (h : ¬ (x = 0 ∧ y = 0)) {e f : Int} (he : e = x * 2 % p) (hf : f = y * 2 % p) : ¬ (e = 0 ∧ f = 0) := fun ⟨q1, q2⟩ => by
  have key : ∀ {x : Int}, Can p x → x * 2 % p = 0 → x = 0 := fun {x} hx q => hx.dvd (two_dvd hp (by rw [Int.mul_comm]; exact Int.dvd_of_emod_eq_zero q))
  exact h ⟨key hx (he ▸ q1), key hy (hf ▸ q2)⟩
noncomputable def gQ : List Ctr := [cAddP, cSubP, cMulP, cRmulP, cNegP, cEqP, cOneP, cDivP, cPow, cMadeP, cCls]
theorem ok_gQ : ∀ c' ∈ gQ, c'.Ok KK := gc ok_AddP (gc ok_SubP (gc ok_MulP (gc ok_RmulP (gc ok_NegP (gc ok_EqP (gc ok_OneP (gc ok_DivP (gc ok_Pow (gc ok_MadeP (gc ok_Cls g0))))))))))
noncomputable def cInf : Ctr := ⟨308, 740, 7400, fun ds orc k => l1 ds fun x => oN x (k (.bool true) orc) <| dT x fun _ => k (.bool false) orc⟩
theorem ok_Inf : cInf.Ok KK := runF_ok k_ok (gam := []) g0 fun P ds orc k fa h => by
  refine l1_k h ?_; clear h; rintro x rfl h
  refine oN_k h ?_ ?_ <;> clear h
  · rintro rfl h
    exact by_rfl (by kernel_rfl) h
  · intro h
    refine dT_k h ?_; clear h; rintro l rfl h
    exact by_rfl (by kernel_rfl) h
noncomputable def cOn : Ctr := ⟨315, 730, 7300, fun ds orc k => l2 ds fun a b => oN a (k (.bool true) orc) <| pG a fun p x i q y j => dG b fun r b0 b1 => (q = p ∧ r = p) ∧ ∀ t : Bool, (t = true ↔ On p b0 b1 (x, i, y, j)) → k (.sb t) orc⟩
noncomputable def cNegC : Ctr := ⟨336, 730, 7300, fun ds orc k => l1 ds fun a => oN a (k .none orc) <| pG a fun p x i q y j => q = p ∧ ∀ e f, e = -y % p → f = -j % p → k (.tup [.fqp p x i, .fqp p e f]) orc⟩
theorem ok_NegC : cNegC.Ok KK := runF_ok k_ok (gam := gQ) ok_gQ fun P ds orc k fa h => by
  refine l1_k h ?_; clear h; rintro a rfl h
  refine oN_k h ?_ ?_ <;> clear h
  · rintro rfl h
    exact by_rfl (by kernel_rfl) h
  · intro h
    refine pG_k h ?_; clear h; rintro p x i q y j rfl ⟨rfl, h⟩
    exact by_rfl (by kernel_rfl) h
noncomputable def cDbl : Ctr := ⟨322, 730, 7300, fun ds orc k => l1 ds fun a => oN a (k .none orc) <| pG a fun p x i q y j => q = p ∧ NY (x, i, y, j) ∧ ∀ r, Cn p r → SumR p (x, i, y, j) (x, i, y, j) r → k (ptP p r) orc⟩
theorem ok_Dbl : cDbl.Ok KK := runF_ok k_ok (gam := cInf :: gQ) (gc ok_Inf ok_gQ) fun P ds orc k fa h => by
  refine l1_k h ?_; clear h; rintro a rfl h
  refine oN_k h ?_ ?_ <;> clear h
  · rintro rfl h
    exact by_rfl (by kernel_rfl) h
  · intro h
    refine pG_k h ?_; clear h; rintro p a b q u v rfl ⟨rfl, hy, h⟩
    have hp := fa.1.1.1.pr
    refine by_rfl (b := ∀ (e1 f2 : Int), e1 = (a * a - b * b) % q → f2 = (a * b + b * a) % q → ∀ (e3 f4 : Int), e3 = e1 * 3 % q → f4 = f2 * 3 % q → ∀ (e5 f6 : Int), e5 = u * 2 % q → f6 = v * 2 % q → q = q ∧ ¬ (e5 = 0 ∧ f6 = 0) ∧ ∀ (e7 f8 : Int), Can q e7 → Can q f8 → DivR q e3 f4 e5 f6 e7 f8 → ∀ (e11 f12 : Int), e11 = (e7 * e7 - f8 * f8) % q → f12 = (e7 * f8 + f8 * e7) % q → ∀ (e13 f14 : Int), e13 = a * 2 % q → f14 = b * 2 % q → q = q ∧ ∀ (e15 f16 : Int), e15 = (e11 - e13) % q → f16 = (f12 - f14) % q → ∀ (e17 f18 : Int), e17 = -e7 % q → f18 = -f8 % q → q = q ∧ ∀ (e19 f20 : Int), e19 = (e17 * e15 - f18 * f16) % q → f20 = (e17 * f16 + f18 * e15) % q → q = q ∧ ∀ (e21 f22 : Int), e21 = (e7 * a - f8 * b) % q → f22 = (e7 * b + f8 * a) % q → q = q ∧ ∀ (e23 f24 : Int), e23 = (e19 + e21) % q → f24 = (f20 + f22) % q → q = q ∧ ∀ (e25 f26 : Int), e25 = (e23 - u) % q → f26 = (f24 - v) % q → k (.tup [.fqp q e15 f16, .fqp q e25 f26]) orc) (by kernel_rfl) ?_
    refine fun e1 f2 h1 h2 e3 f4 h3 h4 e5 f6 h5 h6 => ⟨rfl, two_ne hp fa.1.2.1.1 fa.1.2.1.2 hy h5 h6, fun e7 f8 _ _ hd e11 f12 h11 h12 e13 f14 h13 h14 => ⟨rfl, fun e15 f16 h15 h16 e17 f18 h17 h18 => ⟨rfl, fun e19 f20 h19 h20 => ⟨rfl, fun e21 f22 h21 h22 => ⟨rfl, fun e23 f24 h23 h24 => ⟨rfl, fun e25 f26 h25 h26 => ?_⟩⟩⟩⟩⟩⟩
    refine h (e15, f16, e25, f26) ⟨cmd hp h15, cmd hp h16, cmd hp h25, cmd hp h26⟩ fun {R} _ c F => ⟨c e7 f8, fun _ => ?_, fun q => absurd rfl q, ?_, ?_⟩
    · have r1 := F.t_mul h1 h2
      have r3 := F.t_lit 3 h3 h4
      have r5 := F.t_lit 2 h5 h6
      have rd := hd.ring F
      rw [r3, r5, r1] at rd
      show c e7 f8 * (2 * c u v) = 3 * (c a b * c a b)
      grind
    · have r11 := F.t_mul h11 h12
      have r13 := F.t_lit 2 h13 h14
      have r15 := F.t_sub h15 h16
      show c e15 f16 = c e7 f8 * c e7 f8 - c a b - c a b
      grind
    · have r17 := F.t_neg h17 h18
      have r19 := F.t_mul h19 h20
      have r21 := F.t_mul h21 h22
      have r23 := F.t_add h23 h24
      have r25 := F.t_sub h25 h26
      show c e25 f26 = c e7 f8 * (c a b - c e15 f16) - c u v
      grind
end
section
theorem ok_On : cOn.Ok KK := runF_w k_ok (gam := cInf :: gQ) (gc ok_Inf ok_gQ) fun ds orc k fa h => by
  refine l2_k h ?_; clear h; rintro a d rfl h
  refine oN_k h ?_ ?_ <;> clear h
  · rintro rfl h
    exact ⟨_, orc, LeL.refl _, fun P => by_rfl (b := ∃ d', Le (.bool true) d' ∧ k d' orc) (by kernel_rfl) ⟨_, Le.refl _, h⟩⟩
  · intro h
    refine pG_k h ?_; clear h; rintro p x i q y j rfl h
    refine dG_k h ?_; clear h; rintro r b0 b1 rfl h
    refine oA h ?_; clear h; rintro ⟨rfl, rfl⟩ h
    have hp := fa.1.1.1.pr
    refine ⟨_, orc, LeL.refl _, fun P => ?_⟩
    refine by_rfl (b := ∀ (e1 f2 : Int), e1 = (y * y - j * j) % r → f2 = (y * j + j * y) % r → ∀ (e3 f4 : Int), e3 = (x * x - i * i) % r → f4 = (x * i + i * x) % r → ∀ (g5 h6 : Int), g5 = (e3 * x - f4 * i) % r → h6 = (e3 * i + f4 * x) % r → r = r ∧ ∀ (e7 f8 : Int), e7 = (e1 - g5) % r → f8 = (f2 - h6) % r → r = r ∧ ∃ d', Le (.sb (decide (e7 = b0) && decide (f8 = b1))) d' ∧ k d' orc) (by kernel_rfl) ?_
    refine fun e1 f2 h1 h2 e3 f4 h3 h4 g5 h6 h5 h6' => ⟨rfl, fun e7 f8 h7 h8 => ⟨rfl, _, Le.refl _, h _ ?_⟩⟩
    have key : ∀ {R : Type} [Lean.Grind.CommRing R] (c : Int → Int → R), Fld r c → c e7 f8 = c y j * c y j - c x i * c x i * c x i := fun {R} _ c F => by
      rw [F.t_sub h7 h8, F.t_mul h1 h2, F.t_mul h5 h6', F.t_mul h3 h4]
    constructor
    · intro hb
      simp only [Bool.and_eq_true, decide_eq_true_eq] at hb
      intro R _ c F
      have := key c F
      show c y j * c y j = c x i * c x i * c x i + c b0 b1
      rw [hb.1, hb.2] at this
      grind
    · intro ho
      have F := fld r
      letI := gRing r
      have := key _ F
      have o := ho _ F
      have o : gcl r y j * gcl r y j = gcl r x i * gcl r x i * gcl r x i + gcl r b0 b1 := o
      have e : gcl r e7 f8 = gcl r b0 b1 := by rw [this]; grind
      have := (F.can (cmd hp h7) (cmd hp h8) fa.2.1.1 fa.2.1.2).mp e
      simp [this.1, this.2]
noncomputable def cAddC : Ctr := ⟨329, 720, 7200, fun ds orc k => l2 ds fun a b => oN a (oN b (k .none orc) <| dT b fun l => k (.tup l) orc) <| oN b (dT a fun l => k (.tup l) orc) <| pG a fun p x i q y j => pG b fun r z s u w t => (q = p ∧ r = p ∧ u = p) ∧ ((x, i, y, j) = (z, s, w, t) → NY (x, i, y, j)) ∧ (NoneC (x, i, y, j) (z, s, w, t) → k .none orc) ∧
    (¬ NoneC (x, i, y, j) (z, s, w, t) → ∀ r, Cn p r → SumR p (x, i, y, j) (z, s, w, t) r → k (ptP p r) orc)⟩
theorem ne_sub {p a b x y z w : Int} (hp : Pr p) (hx : Can p x) (hy : Can p y) (hz : Can p z) (hw : Can p w) (h : ¬ (z = x ∧ w = y)) (ha : a = (z - x) % p) (hb : b = (w - y) % p) : ¬ (a = 0 ∧ b = 0) := fun ⟨q1, q2⟩ =>
  h ⟨dvd_can hz hx (Int.dvd_of_emod_eq_zero (ha ▸ q1)), dvd_can hw hy (Int.dvd_of_emod_eq_zero (hb ▸ q2))⟩
theorem ok_AddC : cAddC.Ok KK := runF_w k_ok (gam := cDbl :: gQ) (gc ok_Dbl ok_gQ) fun ds orc k fa h => by
  refine l2_k h ?_; clear h; rintro a b rfl h
  refine oN_k h ?_ ?_ <;> clear h
  · rintro rfl h
    refine oN_k h ?_ ?_ <;> clear h
    · rintro rfl h
      exact ⟨_, orc, LeL.refl _, fun P => by_rfl (b := ∃ d', Le .none d' ∧ k d' orc) (by kernel_rfl) ⟨_, Le.refl _, h⟩⟩
    · intro h
      refine dT_k h ?_; clear h; rintro l rfl h
      exact ⟨_, orc, LeL.refl _, fun P => by_rfl (b := ∃ d', Le (.tup l) d' ∧ k d' orc) (by kernel_rfl) ⟨_, Le.refl _, h⟩⟩
  intro h
  refine oN_k h ?_ ?_ <;> clear h
  · rintro rfl h
    refine dT_k h ?_; clear h; rintro l rfl h
    exact ⟨_, orc, LeL.refl _, fun P => by_rfl (b := ∃ d', Le (.tup l) d' ∧ k d' orc) (by kernel_rfl) ⟨_, Le.refl _, h⟩⟩
  · intro h
    refine pG_k h ?_; clear h; rintro p0 x i q y j rfl h
    refine pG_k h ?_; clear h; rintro r z s p w t rfl h
    refine oAAA h ?_; clear h; rintro ⟨rfl, rfl, rfl⟩ h0 h1 h2
    have hp := fa.1.1.1.pr
    by_cases hx : z = x ∧ s = i
    · by_cases hy : w = y ∧ t = j
      · refine ⟨_, [true, true], LeL.refl _, fun P => ?_⟩
        refine by_rfl (b := p = p ∧ (decide (z = x) && decide (s = i)) = true ∧ p = p ∧ (decide (w = y) && decide (t = j)) = true ∧ p = p ∧ NY (x, i, y, j) ∧ ∀ (r1 : Pt4), Cn p r1 → SumR p (x, i, y, j) (x, i, y, j) r1 → ∃ d', Le (ptP p r1) d' ∧ k d' orc) (by kernel_rfl) ?_
        refine oA hx ?_; clear hx; rintro rfl rfl
        refine oA hy ?_; clear hy; rintro rfl rfl
        exact ⟨rfl, by simp, rfl, by simp, rfl, h0 rfl, fun r c1 c2 => ⟨_, Le.refl _, h2 (fun q => q.2.2 ⟨rfl, rfl⟩) r c1 c2⟩⟩
      · refine ⟨_, [true, false, true], LeL.refl _, fun P => ?_⟩
        refine by_rfl (b := p = p ∧ (decide (z = x) && decide (s = i)) = true ∧ p = p ∧ (decide (w = y) && decide (t = j)) = false ∧ p = p ∧ (decide (z = x) && decide (s = i)) = true ∧ ∃ d', Le .none d' ∧ k d' orc) (by kernel_rfl) ?_
        have e1 : (decide (w = y) && decide (t = j)) = false := by
          cases q : (decide (w = y) && decide (t = j)) with
          | false => rfl
          | true => exact absurd (by simpa using q) hy
        exact ⟨rfl, by simp [hx], rfl, e1, rfl, by simp [hx], _, Le.refl _, h1 ⟨hx.1.symm, hx.2.symm, fun q => hy ⟨q.1.symm, q.2.symm⟩⟩⟩
    · refine ⟨_, [false, false, true], LeL.refl _, fun P => ?_⟩
      refine by_rfl (b := p = p ∧ (decide (z = x) && decide (s = i)) = false ∧ p = p ∧ (decide (z = x) && decide (s = i)) = false ∧ p = p ∧ ∀ (e1 f2 : Int), e1 = (w - y) % p → f2 = (t - j) % p → p = p ∧ ∀ (e3 f4 : Int), e3 = (z - x) % p → f4 = (s - i) % p → p = p ∧ ¬(e3 = 0 ∧ f4 = 0) ∧ ∀ (e5 f6 : Int), Can p e5 → Can p f6 → DivR p e1 f2 e3 f4 e5 f6 → ∀ (e7 f8 : Int), e7 = (e5 * e5 - f6 * f6) % p → f8 = (e5 * f6 + f6 * e5) % p → p = p ∧ ∀ (e9 f10 : Int), e9 = (e7 - x) % p → f10 = (f8 - i) % p → p = p ∧ ∀ (e11 f12 : Int), e11 = (e9 - z) % p → f12 = (f10 - s) % p → ∀ (e13 f14 : Int), e13 = -e5 % p → f14 = -f6 % p → p = p ∧ ∀ (e15 f16 : Int), e15 = (e13 * e11 - f14 * f12) % p → f16 = (e13 * f12 + f14 * e11) % p → p = p ∧ ∀ (e17 f18 : Int), e17 = (e5 * x - f6 * i) % p → f18 = (e5 * i + f6 * x) % p → p = p ∧ ∀ (e19 f20 : Int), e19 = (e15 + e17) % p → f20 = (f16 + f18) % p → p = p ∧ ∀ (e21 f22 : Int), e21 = (e19 - y) % p → f22 = (f20 - j) % p → ∀ (e23 f24 : Int), e23 = -e5 % p → f24 = -f6 % p → p = p ∧ ∀ (e25 f26 : Int), e25 = (e23 * e11 - f24 * f12) % p → f26 = (e23 * f12 + f24 * e11) % p → p = p ∧ ∀ (e27 f28 : Int), e27 = (e5 * z - f6 * s) % p → f28 = (e5 * s + f6 * z) % p → p = p ∧ ∀ (e29 f30 : Int), e29 = (e25 + e27) % p → f30 = (f26 + f28) % p → p = p ∧ ∀ (e31 f32 : Int), e31 = (e29 - w) % p → f32 = (f30 - t) % p → p = p ∧ (decide (e21 = e31) && decide (f22 = f32)) = true ∧ ∃ d', Le (.tup [.fqp p e11 f12, .fqp p e21 f22]) d' ∧ k d' orc) (by kernel_rfl) ?_
      have ex : (decide (z = x) && decide (s = i)) = false := by
        cases q : (decide (z = x) && decide (s = i)) with
        | false => rfl
        | true => exact absurd (by simpa using q) hx
      refine ⟨rfl, ex, rfl, ex, rfl, fun e1 f2 h1' h2' => ⟨rfl, fun e3 f4 h3 h4 => ⟨rfl, ne_sub hp fa.1.1.1 fa.1.1.2 fa.2.1.1.1 fa.2.1.1.2 hx h3 h4, fun e5 f6 _ _ hd e7 f8 h7 h8 => ⟨rfl, fun e9 f10 h9 h10 => ⟨rfl, fun e11 f12 h11 h12 e13 f14 h13 h14 => ⟨rfl, fun e15 f16 h15 h16 => ⟨rfl, fun e17 f18 h17 h18 => ⟨rfl, fun e19 f20 h19 h20 => ⟨rfl, fun e21 f22 h21 h22 e23 f24 h23 h24 => ⟨rfl, fun e25 f26 h25 h26 => ⟨rfl, fun e27 f28 h27 h28 => ⟨rfl, fun e29 f30 h29 h30 => ⟨rfl, fun e31 f32 h31 h32 => ⟨rfl, ?_⟩⟩⟩⟩⟩⟩⟩⟩⟩⟩⟩⟩⟩⟩
      have key : ∀ {R : Type} [Lean.Grind.CommRing R] (c : Int → Int → R), Fld p c → c e5 f6 * (c z s - c x i) = c w t - c y j ∧ c e11 f12 = c e5 f6 * c e5 f6 - c x i - c z s ∧ c e21 f22 = c e5 f6 * (c x i - c e11 f12) - c y j ∧ c e31 f32 = c e5 f6 * (c z s - c e11 f12) - c w t := fun {R} _ c F => by
        have r1 := F.t_sub h1' h2'
        have r3 := F.t_sub h3 h4
        have rd := hd.ring F
        have r7 := F.t_mul h7 h8
        have r9 := F.t_sub h9 h10
        have r11 := F.t_sub h11 h12
        have r13 := F.t_neg h13 h14
        have r15 := F.t_mul h15 h16
        have r17 := F.t_mul h17 h18
        have r19 := F.t_add h19 h20
        have r21 := F.t_sub h21 h22
        have r23 := F.t_neg h23 h24
        have r25 := F.t_mul h25 h26
        have r27 := F.t_mul h27 h28
        have r29 := F.t_add h29 h30
        have r31 := F.t_sub h31 h32
        refine ⟨by rw [← r1, ← r3, rd], by rw [r11, r9, r7], by rw [r21, r19, r15, r13, r17]; grind, by rw [r31, r29, r25, r23, r27]; grind⟩
      have ec : e21 = e31 ∧ f22 = f32 := by
        have F := fld p
        letI := gRing p
        refine oAAA (key _ F) ?_; intro k1 k2 k3 k4
        refine (F.can (cmd hp h21) (cmd hp h22) (cmd hp h31) (cmd hp h32)).mp ?_
        rw [k3, k4]; grind
      refine ⟨by simp [ec.1, ec.2], _, Le.refl _, h2 (fun q => hx ⟨q.1.symm, q.2.1.symm⟩) (e11, f12, e21, f22) ⟨cmd hp h11, cmd hp h12, cmd hp h21, cmd hp h22⟩ fun {R} _ c F => ?_⟩
      refine oAAA (key c F) ?_; intro k1 k2 k3 k4
      refine ⟨c e5 f6, fun q => absurd ?_ hx, fun _ => k1, k2, k3⟩
      cases q; exact ⟨rfl, rfl⟩
end
section
noncomputable def c2 (p : Int) (d : Dat) (k : Int → Int → Prop) : Prop := dS d fun l => l2 l fun x y => oI x (fun a _ => dI y fun b _ => k (a % p) (b % p)) <| dL x fun a => dL y fun b => k (a % p) (b % p)
theorem c2_x {p : Int} {d : Dat} {k : Int → Int → Prop} (h : c2 p d k) : (∃ a A b B, d = .lst [.int a A, .int b B] ∧ k (a % p) (b % p)) ∨ ∃ a b, d = .lst [.lit a, .lit b] ∧ k (a % p) (b % p) := by
  refine dS_k h ?_; clear h; rintro l rfl h
  refine l2_k h ?_; clear h; rintro x y rfl h
  refine oI_k h ?_ ?_ <;> clear h
  · rintro a A rfl h
    refine dI_k h ?_; clear h; rintro b B rfl h
    exact .inl ⟨a, A, b, B, rfl, h⟩
  · intro h
    refine dL_k h ?_; clear h; rintro a rfl h
    refine dL_k h ?_; clear h; rintro b rfl h
    exact .inr ⟨a, b, rfl, h⟩
theorem c2_k {p : Int} {d : Dat} {k : Int → Int → Prop} (h : c2 p d k) {G : Prop} (k1 : ∀ a A b B, d = .lst [.int a A, .int b B] → k (a % p) (b % p) → G) (k2 : ∀ a b, d = .lst [.lit a, .lit b] → k (a % p) (b % p) → G) : G := Or.elim (c2_x h) (fun h => oEEEEA h k1) fun h => oEEA h k2
noncomputable def cCls2 : Ctr := ⟨486, 800, 8000, fun ds orc k => l3 ds fun d e f => t2 e fun u v => dL u fun m1 => dL v fun m0 => dP f fun p => gd (decide (m1 = 1)) <| gd (decide (m0 = 0)) <| c2 p d fun a b => k (.fq2 p a b) orc⟩
theorem ok_Cls2 : cCls2.Ok KK := runC_ok k_ok k_set (gam := []) g0 fun P ds orc k fa h => by
  refine l3_k h ?_; clear h; rintro d e f rfl h
  refine t2_k h ?_; clear h; rintro u v rfl h
  refine dL_k h ?_; clear h; rintro m1 rfl h
  refine dL_k h ?_; clear h; rintro m0 rfl h
  refine dP_k h ?_; clear h; rintro p rfl h
  refine gd_k h ?_; clear h; rintro hc h
  refine gd_k h ?_; clear h; rintro hd h
  obtain rfl := of_decide_eq_true hc
  obtain rfl := of_decide_eq_true hd
  · · have hp := fa.2.2.1
      refine c2_k h ?_ ?_ <;> clear h
      · rintro a A b B rfl h
        exact by_rfl (b := ∀ x : Nat, x = x ∧ 486 = 486 ∧ x = x ∧ 486 = 486 ∧ Dat.int (a % p) 127 = .int (a % p) 127 ∧ Dat.int (b % p) 127 = .int (b % p) 127 ∧ x = x ∧ 486 = 486 ∧ x = x ∧ 486 = 486 ∧ x = x ∧ 486 = 486 ∧ x = x ∧ 486 = 486 ∧ ((0 : Int) = 0 ∧ (1 : Int) = 1 ∧ (1 : Int) = 1 ∧ (0 : Int) = 0 ∧ (2 : Int) = 2) ∧ (0 ≤ a % p ∧ a % p < p) ∧ (0 ≤ b % p ∧ b % p < p) ∧ k (.fq2 p (a % p) (b % p)) orc) (by kernel_rfl)
          fun x => ⟨rfl, rfl, rfl, rfl, rfl, rfl, rfl, rfl, rfl, rfl, rfl, rfl, rfl, rfl, ⟨rfl, rfl, rfl, rfl, rfl⟩, md hp a, md hp b, h⟩
      · rintro a b rfl h
        exact by_rfl (b := ∀ x : Nat, x = x ∧ 486 = 486 ∧ x = x ∧ 486 = 486 ∧ Dat.int (a % p) 127 = .int (a % p) 127 ∧ Dat.int (b % p) 127 = .int (b % p) 127 ∧ x = x ∧ 486 = 486 ∧ x = x ∧ 486 = 486 ∧ x = x ∧ 486 = 486 ∧ x = x ∧ 486 = 486 ∧ ((0 : Int) = 0 ∧ (1 : Int) = 1 ∧ (1 : Int) = 1 ∧ (0 : Int) = 0 ∧ (2 : Int) = 2) ∧ (0 ≤ a % p ∧ a % p < p) ∧ (0 ≤ b % p ∧ b % p < p) ∧ k (.fq2 p (a % p) (b % p)) orc) (by kernel_rfl)
          fun x => ⟨rfl, rfl, rfl, rfl, rfl, rfl, rfl, rfl, rfl, rfl, rfl, rfl, rfl, rfl, ⟨rfl, rfl, rfl, rfl, rfl⟩, md hp a, md hp b, h⟩
noncomputable def cMade2 : Ctr := ⟨475, 790, 7900, fun ds orc k => l2 ds fun x d => dO x fun p _ _ => c2 p d fun a b => k (.fq2 p a b) orc⟩
theorem ok_Made2 : cMade2.Ok KK := runF_ok k_ok (gam := [cCls2]) (gc ok_Cls2 g0) fun P ds orc k fa h => by
  refine l2_k h ?_; clear h; rintro x d rfl h
  refine dO_k h ?_; clear h; rintro p a b rfl h
  exact by_rfl (by kernel_rfl) h
noncomputable def g2 : List Ctr := [cMade2, cPfi]
theorem ok_g2 : ∀ c' ∈ g2, c'.Ok KK := gc ok_Made2 (gc ok_Pfi g0)
noncomputable def cAdd2 : Ctr := ⟨360, 780, 7800, fun ds orc k => l2 ds fun u0 u1 => dO u0 fun p a b => dO u1 fun q c d => q = p ∧ ∀ e f, e = (a + c) % p → f = (b + d) % p → k (.fq2 p e f) orc⟩
theorem ok_Add2 : cAdd2.Ok KK := runF_w k_ok (gam := g2) ok_g2 fun ds orc k fa h => by
  refine l2_k h ?_; clear h; rintro u0 u1 rfl h
  refine dO_k h ?_; clear h; rintro p a b rfl h
  refine dO_k h ?_; clear h; rintro q c d rfl h
  · refine oA h ?_; clear h; rintro rfl h
    refine ⟨_, orc, LeL.refl _, fun P => by_rfl (b := ∃ d', Le (.fq2 q ((a + c) % q % q) ((b + d) % q % q)) d' ∧ k d' orc) (by kernel_rfl) ⟨_, Le.refl _, ?_⟩⟩
    rw [Int.emod_emod, Int.emod_emod]
    exact h _ _ rfl rfl
noncomputable def cSub2 : Ctr := ⟨365, 780, 7800, fun ds orc k => l2 ds fun u0 u1 => dO u0 fun p a b => dO u1 fun q c d => q = p ∧ ∀ e f, e = (a - c) % p → f = (b - d) % p → k (.fq2 p e f) orc⟩
theorem ok_Sub2 : cSub2.Ok KK := runF_w k_ok (gam := g2) ok_g2 fun ds orc k fa h => by
  refine l2_k h ?_; clear h; rintro u0 u1 rfl h
  refine dO_k h ?_; clear h; rintro p a b rfl h
  refine dO_k h ?_; clear h; rintro q c d rfl h
  · refine oA h ?_; clear h; rintro rfl h
    refine ⟨_, orc, LeL.refl _, fun P => by_rfl (b := ∃ d', Le (.fq2 q ((a - c) % q % q) ((b - d) % q % q)) d' ∧ k d' orc) (by kernel_rfl) ⟨_, Le.refl _, ?_⟩⟩
    rw [Int.emod_emod, Int.emod_emod]
    exact h _ _ rfl rfl
noncomputable def cMul2 : Ctr := ⟨377, 780, 7800, fun ds orc k => l2 ds fun x y => dO x fun p a b => oO y (fun q c d => q = p ∧ ∀ e f, e = (a * c - b * d) % p → f = (a * d + b * c) % p → k (.fq2 p e f) orc) <| dL y fun n => gd (Nat.ble n.natAbs big) (∀ e f, e = a * n % p → f = b * n % p → k (.fq2 p e f) orc)⟩
theorem ok_Mul2 : cMul2.Ok KK := runF_w k_ok (gam := g2) ok_g2 fun ds orc k fa h => by
  refine l2_k h ?_; clear h; rintro x y rfl h
  refine dO_k h ?_; clear h; rintro p a b rfl h
  refine oO_k h ?_ ?_ <;> clear h
  · rintro q c d rfl ⟨rfl, h⟩
    refine ⟨_, orc, LeL.refl _, fun P => ?_⟩
    refine by_rfl (b := ∃ d', Le (.fq2 q ((0 + a * c - (0 + b * d) * 1) % q % q) ((0 + a * d + b * c) % q % q)) d' ∧ k d' orc) (by kernel_rfl) ?_
    have e1 : (0 + a * c - (0 + b * d) * 1) % q % q = (a * c - b * d) % q := by rw [Int.emod_emod, Int.zero_add, Int.zero_add, Int.mul_one]
    have e2 : (0 + a * d + b * c) % q % q = (a * d + b * c) % q := by rw [Int.emod_emod, Int.zero_add]
    rw [e1, e2]
    exact ⟨_, Le.refl _, h _ _ rfl rfl⟩
  · intro h
    refine dL_k h ?_; clear h; rintro n rfl h
    refine gd_k h ?_; clear h; rintro hn h
    · refine ⟨[.fq2 p a b, .int n big], orc, LeL.cons (Le.refl _) (LeL.cons (Le.int (Nat.le_of_ble_eq_true hn)) (LeL.refl _)), fun P => by_rfl (b := ∃ d', Le (.fq2 p (a * n % p % p) (b * n % p % p)) d' ∧ k d' orc) (by kernel_rfl) ⟨_, Le.refl _, ?_⟩⟩
      rw [Int.emod_emod, Int.emod_emod]
      exact h _ _ rfl rfl
noncomputable def cRmul2 : Ctr := ⟨384, 775, 7700, fun ds orc k => l2 ds fun x y => dO x fun p a b => dL y fun n => gd (Nat.ble n.natAbs big) (∀ e f, e = a * n % p → f = b * n % p → k (.fq2 p e f) orc)⟩
theorem ok_Rmul2 : cRmul2.Ok KK := runF_ok k_ok (gam := [cMul2]) (gc ok_Mul2 g0) fun P ds orc k fa h => by
  refine l2_k h ?_; clear h; rintro x y rfl h
  refine dO_k h ?_; clear h; rintro p a b rfl h
  refine dL_k h ?_; clear h; rintro n rfl h
  exact by_rfl (by kernel_rfl) h
noncomputable def cEq2 : Ctr := ⟨420, 780, 7800, fun ds orc k => l2 ds fun u0 u1 => dO u0 fun p a b => dO u1 fun q c d => q = p ∧ k (.sb (decide (a = c) && decide (b = d))) orc⟩
theorem ok_Eq2 : cEq2.Ok KK := runF_w k_ok (gam := g2) ok_g2 fun ds orc k fa h => by
  refine l2_k h ?_; clear h; rintro u0 u1 rfl h
  refine dO_k h ?_; clear h; rintro p a b rfl h
  refine dO_k h ?_; clear h; rintro q c d rfl h
  · refine oA h ?_; clear h; rintro rfl h
    refine ⟨_, [], LeL.refl _, fun P => ?_⟩
    refine by_rfl (b := ((!decide (a = c)) = true → ∃ d', Le (.bool false) d' ∧ k d' orc) ∧ ((!decide (a = c)) = false → ((!decide (b = d)) = true → ∃ d', Le (.bool false) d' ∧ k d' orc) ∧ ((!decide (b = d)) = false → ∃ d', Le (.bool true) d' ∧ k d' orc))) (by kernel_rfl) ?_
    refine ⟨fun h1 => ⟨_, Le.sb' ?_, h⟩, fun h1 => ⟨fun h2 => ⟨_, Le.sb' ?_, h⟩, fun h2 => ⟨_, Le.sb' ?_, h⟩⟩⟩ <;> simp_all
noncomputable def cOne2 : Ctr := ⟨447, 780, 7800, fun ds orc k => l1 ds fun u0 => dO u0 fun p a b => ∀ e f, e = 1 % p → f = 0 % p → k (.fq2 p e f) orc⟩
theorem ok_One2 : cOne2.Ok KK := runF_ok k_ok (gam := g2) ok_g2 fun P ds orc k fa h => by
  refine l1_k h ?_; clear h; rintro u0 rfl h
  refine dO_k h ?_; clear h; rintro p a b rfl h
  · exact by_rfl (b := k (.fq2 p (1 % p) (0 % p)) orc) (by kernel_rfl) (h _ _ rfl rfl)
noncomputable def cZero2 : Ctr := ⟨454, 780, 7800, fun ds orc k => l1 ds fun u0 => dO u0 fun p a b => ∀ e f, e = 0 % p → f = 0 % p → k (.fq2 p e f) orc⟩
theorem ok_Zero2 : cZero2.Ok KK := runF_ok k_ok (gam := g2) ok_g2 fun P ds orc k fa h => by
  refine l1_k h ?_; clear h; rintro u0 rfl h
  refine dO_k h ?_; clear h; rintro p a b rfl h
  · exact by_rfl (b := k (.fq2 p (0 % p) (0 % p)) orc) (by kernel_rfl) (h _ _ rfl rfl)
noncomputable def cDivI2 : Ctr := ⟨389, 780, 7800, fun ds orc k => l2 ds fun u0 u1 => dO u0 fun p a b => dI u1 fun c B => gd (Nat.ble B 127) <| ∀ e f, e = a * pinv p c % p → f = b * pinv p c % p → k (.fq2 p e f) orc⟩
theorem ok_DivI2 : cDivI2.Ok KK := runF_w k_ok (gam := g2) ok_g2 fun ds orc k fa h => by
  refine l2_k h ?_; clear h; rintro u0 u1 rfl h
  refine dO_k h ?_; clear h; rintro p a b rfl h
  refine dI_k h ?_; clear h; rintro c B rfl h
  refine gd_k h ?_; clear h; rintro hB h
  · · refine ⟨[.fq2 p a b, .int c 127], orc, LeL.cons (Le.refl _) (LeL.cons (Le.wid (Nat.le_trans fa.2.1 (Nat.le_of_ble_eq_true hB))) (LeL.refl _)), fun P => by_rfl (b := ∃ d', Le (.fq2 p (a * pinv p c % p % p) (b * pinv p c % p % p)) d' ∧ k d' orc) (by kernel_rfl) ⟨_, Le.refl _, ?_⟩⟩
      rw [Int.emod_emod, Int.emod_emod]
      exact h _ _ rfl rfl
noncomputable def cDeg2 : Ctr := ⟨35, 860, 8600, fun ds orc k => ∀ P, runF (KK P) [] 860 8600 35 ds orc k⟩
theorem ok_Deg2 : cDeg2.Ok KK := runF_ok k_ok (gam := []) g0 fun P ds orc k fa h => h P
noncomputable def cOpd : Ctr := ⟨401, 780, 7800, fun ds orc k => ∀ P, runF (KK P) [cDeg2, cPfi] 780 7800 401 ds orc k⟩
theorem ok_Opd : cOpd.Ok KK := runF_ok k_ok (gam := [cDeg2, cPfi]) (gc ok_Deg2 (gc ok_Pfi g0)) fun P ds orc k fa h => h P
noncomputable def gI2 : List Ctr := [cDivI2, cDeg2, cOpd, cMade2]
theorem ok_gI2 : ∀ c' ∈ gI2, c'.Ok KK := gc ok_DivI2 (gc ok_Deg2 (gc ok_Opd (gc ok_Made2 g0)))
noncomputable def cInv2 : Ctr := ⟨406, 770, 7700, fun ds orc k => l1 ds fun u0 => dO u0 fun p a b => ¬ (a = 0 ∧ b = 0) ∧ ∀ e f, Can p e → Can p f → InvR p a b e f → k (.fq2 p e f) orc⟩
theorem ok_Inv2 : cInv2.Ok KK := runF_w k_ok (gam := gI2) ok_gI2 fun ds orc k fa h => by
  refine l1_k h ?_; clear h; rintro u0 rfl h
  refine dO_k h ?_; clear h; rintro p a b rfl h
  · refine oA h ?_; clear h; intro hab h
    refine oA fa ?_; clear fa; rintro ⟨ca, cb⟩ _
    have hp := ca.pr
    have p1 := hp.ge
    have F := fld p
    letI := gRing p
    generalize gcl p = c at F
    have cm : ∀ {x y : Int}, x = y % p → Can p x := fun h => h ▸ Can.of hp _
    have o1 : (1 : Int) % p = 1 := Int.emod_eq_of_lt (by decide) (by omega)
    have c1 : Can p 1 := ⟨hp, by decide, by omega⟩
    by_cases hb : b = 0
    · have ha : a ≠ 0 := fun q => hab ⟨q, hb⟩
      refine ⟨_, [true, false], LeL.refl _, fun P => ?_⟩
      refine by_rfl (b := ∀ (P1 : Params), decide (b = 0) = true ∧ decide (a = 0) = false ∧ ∀ (e f : Int), e = 1 % p * pinv p a % p → f = 0 % p * pinv p a % p → ∃ d', Le (.fq2 p e f) d' ∧ k d' orc) (by kernel_rfl) ?_
      refine fun _ => ⟨by simp [hb], by simp [ha], fun e f he hf => ⟨_, Le.refl _, h e f (cm he) (cm hf) (InvR.of F ?_ ?_)⟩⟩
      · have r1 := F.tr he
        have r2 := F.tr hf
        have r3 := F.pin hp ca ha
        rw [o1, F.im, F.one] at r1
        rw [Int.zero_emod, Int.zero_mul, F.zero] at r2
        rw [r1, r2]
        grind
      · have r2 := F.tr hf
        rw [Int.zero_emod, Int.zero_mul, F.zero] at r2
        rw [r2, hb, F.zero]
        grind
    · have hB := F.pin hp cb hb
      have nb : pinv p b ≠ 0 := fun q => by
        rw [q, F.zero] at hB
        exact F.ne01 hp (by rw [← hB]; grind)
      by_cases ha : a = 0
      · refine ⟨_, [false, false, false, true, true, false], LeL.refl _, fun P => ?_⟩
        refine by_rfl (b := ∀ (P1 : Params), decide (b = 0) = false ∧ ∀ (P2 P3 P4 : Params), decide (b = 0) = false ∧ ∀ (P5 : Params), decide (0 + 1 * pinv p b = 0) = false ∧ ∀ (P6 : Params), decide ((1 - a * 0 - b * ((0 + 1 * pinv p b) % p) - 0 * ((0 + (0 - 0) * pinv p b) % p)) % p = 0) = true ∧ decide ((0 - a * ((0 + 1 * pinv p b) % p) - b * ((0 + (0 - 0) * pinv p b) % p)) % p = 0) = true ∧ decide ((1 - a * ((0 + (0 - 0) * pinv p b) % p)) % p = 0) = false ∧ ∀ (e7 f8 : Int), e7 = (0 - 1 * ((0 + (0 - 0) * pinv p b) % p)) % p % p * pinv p ((1 - a * ((0 + (0 - 0) * pinv p b) % p)) % p) % p → f8 = (0 - 1 * ((0 + 1 * pinv p b) % p) - 0 * ((0 + (0 - 0) * pinv p b) % p)) % p % p * pinv p ((1 - a * ((0 + (0 - 0) * pinv p b) % p)) % p) % p → ∃ d', Le (.fq2 p e7 f8) d' ∧ k d' orc) (by kernel_rfl) ?_
        have e0 : (0 + (0 - 0) * pinv p b) % p = 0 := by simp
        rw [e0]
        generalize hr : (0 + 1 * pinv p b) % p = r
        have r5 := F.tr hr.symm
        simp only [F.im, F.ia, F.is, F.zero, F.one] at r5
        have hA : c a 0 = 0 := by rw [ha, F.zero]
        generalize h18 : (1 - a * 0 - b * r - 0 * 0) % p = z18
        generalize h15 : (0 - a * r - b * 0) % p = z15
        have r18 := F.tr h18.symm; have r15 := F.tr h15.symm
        simp only [F.im, F.ia, F.is, F.zero, F.one] at r18 r15
        have q18 : z18 = 0 := (F.iz (cm h18.symm)).mp (by grind)
        have q15 : z15 = 0 := (F.iz (cm h15.symm)).mp (by grind)
        have e9 : (1 - a * 0) % p = 1 := by rw [Int.mul_zero, Int.sub_zero, o1]
        rw [e9]
        refine fun _ => ⟨by simp [hb], fun _ _ _ => ⟨by simp [hb], fun _ => ⟨by simp [nb], fun _ => ⟨by simpa using q18, by simpa using q15, by decide, fun e f he hf => ⟨_, Le.refl _, h e f (cm he) (cm hf) (InvR.of F ?_ ?_)⟩⟩⟩⟩⟩
        all_goals
          have re := F.tr he; have rf := F.tr hf
          have r1 := F.pin hp c1 (by decide)
          rw [Int.emod_emod, F.im, F.tr rfl] at re rf
          simp only [F.im, F.ia, F.is, F.zero, F.one] at re rf r1
          grind
      · refine ⟨_, [false, false, false, true, false, false, true, false, false, true, true, false], LeL.refl _, fun P => ?_⟩
        refine by_rfl (b := ∀ (P1 : Params), decide (b = 0) = false ∧ ∀ (P2 P3 P4 : Params), decide (b = 0) = false ∧ ∀ (P5 : Params), decide (0 + 1 * pinv p b = 0) = false ∧ ∀ (P6 : Params), decide ((1 - a * 0 - b * ((0 + 1 * pinv p b) % p) - 0 * ((0 + (0 - 0) * pinv p b) % p)) % p = 0) = true ∧ decide ((0 - a * ((0 + 1 * pinv p b) % p) - b * ((0 + (0 - 0) * pinv p b) % p)) % p = 0) = false ∧ ∀ (P7 P8 : Params), decide (b = 0) = false ∧ ∀ (P9 : Params), decide ((1 - a * 0 - b * ((0 + 1 * pinv p b) % p) - 0 * ((0 + (0 - 0) * pinv p b) % p)) % p = 0) = true ∧ decide ((0 - a * ((0 + 1 * pinv p b) % p) - b * ((0 + (0 - 0) * pinv p b) % p)) % p = 0) = false ∧ ∀ (P10 : Params), decide (0 + b * pinv p ((0 - a * ((0 + 1 * pinv p b) % p) - b * ((0 + (0 - 0) * pinv p b) % p)) % p) = 0) = false ∧ ∀ (P11 : Params), decide ((0 - (1 - a * ((0 + (0 - 0) * pinv p b) % p)) % p * 0 - (0 - a * ((0 + 1 * pinv p b) % p) - b * ((0 + (0 - 0) * pinv p b) % p)) % p * 0 - (1 - a * 0 - b * ((0 + 1 * pinv p b) % p) - 0 * ((0 + (0 - 0) * pinv p b) % p)) % p * ((0 + b * pinv p ((0 - a * ((0 + 1 * pinv p b) % p) - b * ((0 + (0 - 0) * pinv p b) % p)) % p)) % p)) % p = 0) = true ∧ decide ((b - (1 - a * ((0 + (0 - 0) * pinv p b) % p)) % p * 0 - (0 - a * ((0 + 1 * pinv p b) % p) - b * ((0 + (0 - 0) * pinv p b) % p)) % p * ((0 + b * pinv p ((0 - a * ((0 + 1 * pinv p b) % p) - b * ((0 + (0 - 0) * pinv p b) % p)) % p)) % p)) % p = 0) = true ∧ decide ((a - (1 - a * ((0 + (0 - 0) * pinv p b) % p)) % p * ((0 + b * pinv p ((0 - a * ((0 + 1 * pinv p b) % p) - b * ((0 + (0 - 0) * pinv p b) % p)) % p)) % p)) % p = 0) = false ∧ ∀ (e12 f13 : Int), e12 = (1 - (0 - 1 * ((0 + (0 - 0) * pinv p b) % p)) % p * ((0 + b * pinv p ((0 - a * ((0 + 1 * pinv p b) % p) - b * ((0 + (0 - 0) * pinv p b) % p)) % p)) % p)) % p % p * pinv p ((a - (1 - a * ((0 + (0 - 0) * pinv p b) % p)) % p * ((0 + b * pinv p ((0 - a * ((0 + 1 * pinv p b) % p) - b * ((0 + (0 - 0) * pinv p b) % p)) % p)) % p)) % p) % p → f13 = (0 - (0 - 1 * ((0 + (0 - 0) * pinv p b) % p)) % p * 0 - (0 - 1 * ((0 + 1 * pinv p b) % p) - 0 * ((0 + (0 - 0) * pinv p b) % p)) % p * ((0 + b * pinv p ((0 - a * ((0 + 1 * pinv p b) % p) - b * ((0 + (0 - 0) * pinv p b) % p)) % p)) % p)) % p % p * pinv p ((a - (1 - a * ((0 + (0 - 0) * pinv p b) % p)) % p * ((0 + b * pinv p ((0 - a * ((0 + 1 * pinv p b) % p) - b * ((0 + (0 - 0) * pinv p b) % p)) % p)) % p)) % p) % p → ∃ d', Le (.fq2 p e12 f13) d' ∧ k d' orc) (by kernel_rfl) ?_
        have e0 : (0 + (0 - 0) * pinv p b) % p = 0 := by simp
        rw [e0]
        have e9 : (1 - a * 0) % p = 1 := by rw [Int.mul_zero, Int.sub_zero, o1]
        rw [e9]
        generalize hr : (0 + 1 * pinv p b) % p = r
        have r5 := F.tr hr.symm
        simp only [F.im, F.ia, F.is, F.zero, F.one] at r5
        generalize h18 : (1 - a * 0 - b * r - 0 * 0) % p = z18
        generalize h15 : (0 - a * r - b * 0) % p = z15
        have r18 := F.tr h18.symm; have r15 := F.tr h15.symm
        simp only [F.im, F.ia, F.is, F.zero, F.one] at r18 r15
        have hA : c a 0 ≠ 0 := fun q => ha ((F.iz ca).mp q)
        have s15 : c z15 0 = - (c a 0 * c (pinv p b) 0) := by grind
        have q18 : z18 = 0 := (F.iz (cm h18.symm)).mp (by grind)
        have q15 : z15 ≠ 0 := fun q => hA (by
          have := (F.iz (cm h15.symm)).mpr q
          rw [s15] at this
          have e : c a 0 = -(-(c a 0 * c (pinv p b) 0)) * c b 0 := by grind
          rw [e, this]; grind)
        have hC := F.pin hp (cm h15.symm) q15
        have nc : pinv p z15 ≠ 0 := fun q => by
          rw [q, F.zero] at hC
          exact F.ne01 hp (by rw [← hC]; grind)
        have n23 : b * pinv p z15 ≠ 0 := Int.mul_ne_zero hb nc
        generalize h23 : (0 + b * pinv p z15) % p = z23
        have r23 := F.tr h23.symm
        simp only [F.im, F.ia, F.is, F.zero, F.one] at r23
        generalize h28 : (a - 1 * z23) % p = z28
        generalize h34 : (b - 1 * 0 - z15 * z23) % p = z34
        have r28 := F.tr h28.symm; have r34 := F.tr h34.symm
        simp only [F.im, F.ia, F.is, F.zero, F.one] at r28 r34
        have s33 : c z15 0 * c z23 0 = c b 0 := by rw [r23]; grind
        have q34 : z34 = 0 := (F.iz (cm h34.symm)).mp (by grind)
        have q28 : z28 ≠ 0 := fun q => by
          have e0 := (F.iz (cm h28.symm)).mpr q
          have e1 : c a 0 = c b 0 * c (pinv p z15) 0 := by grind
          have e2 : c a 0 * c z15 0 = c b 0 := by rw [e1]; grind
          have e3 : c a 0 * c a 0 + c b 0 * c b 0 = 0 := by
            have : c b 0 * c b 0 = (c a 0 * c z15 0) * c b 0 := by rw [e2]
            rw [this, s15]; grind
          rw [← F.im, ← F.im, ← F.ia, F.zero_iff] at e3
          exact ha (ca.dvd (norm_ne hp e3.1).1)
        have hD := F.pin hp (cm h28.symm) q28
        refine fun _ => ⟨by simp [hb], fun _ _ _ => ⟨by simp [hb], fun _ => ⟨by simp [nb], fun _ => ⟨by simpa using q18, by simpa using q15, fun _ _ => ⟨by simp [hb], fun _ => ⟨by simpa using q18, by simpa using q15, fun _ => ⟨by simpa using n23, fun _ => ⟨by simp [q18], by simpa using q34, by simpa using q28, fun e f he hf => ⟨_, Le.refl _, h e f (cm he) (cm hf) ?_⟩⟩⟩⟩⟩⟩⟩⟩⟩
        have re := F.tr he; have rf := F.tr hf
        rw [Int.emod_emod, F.im, F.tr rfl] at re rf
        have t0 : (0 - 1 * 0 : Int) % p = 0 := by simp
        rw [t0] at re rf
        have t1 := F.tr (x := (0 - 1 * r - 0 * 0) % p) rfl
        generalize (0 - 1 * r - 0 * 0) % p = t at rf t1
        simp only [F.im, F.ia, F.is, F.zero, F.one] at re rf t1
        have re' : c e 0 = c (pinv p z28) 0 := by rw [re]; grind
        have rf' : c f 0 = c (pinv p b) 0 * c z23 0 * c (pinv p z28) 0 := by rw [rf, t1, r5]; grind
        have r28' : c z28 0 = c a 0 - c z23 0 := by grind
        refine InvR.of F ?_ ?_
        · rw [re', rf']
          have : c a 0 * c (pinv p z28) 0 - c b 0 * (c (pinv p b) 0 * c z23 0 * c (pinv p z28) 0) = (c a 0 - (c (pinv p b) 0 * c b 0) * c z23 0) * c (pinv p z28) 0 := by grind
          rw [this, hB, r28'] at *
          grind
        · rw [re', rf']
          have : c a 0 * (c (pinv p b) 0 * c z23 0 * c (pinv p z28) 0) + c b 0 * c (pinv p z28) 0 = (- (c z15 0 * c z23 0) + c b 0) * c (pinv p z28) 0 := by rw [s15]; grind
          rw [this, s33]; grind
end
section
open Lean.Grind
section
noncomputable def RepA (p : Int) (A : Option Pt4) (x0 x1 y0 y1 z0 z1 : Int) : Prop := match A with
  | none => z0 = 0 ∧ z1 = 0
  | some q => ¬ (z0 = 0 ∧ z1 = 0) ∧ ∀ {R : Type} [CommRing R] (c : Int → Int → R), Fld p c → c x0 x1 = cx c q * c z0 z1 ∧ c y0 y1 = cy c q * c z0 z1
noncomputable def SumO (p : Int) (A B r : Option Pt4) : Prop := match A, B with
  | none, _ => r = B
  | some a, none => r = some a
  | some a, some b => (NoneC a b → r = none) ∧ (¬ NoneC a b → ∃ q, r = some q ∧ Cn p q ∧ SumR p a b q)
noncomputable def CnO (p : Int) (A : Option Pt4) : Prop := ∀ q, A = some q → Cn p q
noncomputable def NYO (A : Option Pt4) : Prop := ∀ q, A = some q → NY q
noncomputable def PreO (A B : Option Pt4) : Prop := ∀ a, A = some a → B = some a → NY a
theorem ex_div {p : Int} (hp : Pr p) {a b d e : Int} (h : ¬ (p ∣ d ∧ p ∣ e)) : ∃ x y, DivR p a b d e x y := by
  have F := fld p
  letI := gRing p
  refine oEE (F.inv hp (a := d) (b := e) fun q => h (F.zero_iff.mp q)) ?_; intro x y q
  refine ⟨a * x - b * y, a * y + b * x, ?_⟩
  have : gcl p (a * x - b * y) (a * y + b * x) * gcl p d e = gcl p a b := by
    rw [F.mul]
    have : gcl p a b * gcl p x y * gcl p d e = gcl p a b * (gcl p d e * gcl p x y) := by grind
    rw [this, q]; grind
  rw [← F.mul, F.eq] at this
  exact this
section
variable {p : Int} {R : Type} [CommRing R] {c : Int → Int → R}
theorem Fld.two (F : Fld p c) (a b : Int) : c (2 * a) (2 * b) = 2 * c a b := by
  have : c (2 * a) (2 * b) = c (a + a) (b + b) := by congr 1 <;> omega
  rw [this, F.add]; grind
theorem Fld.sq3 (F : Fld p c) (a b : Int) : c (3 * (a * a - b * b)) (3 * (a * b + b * a)) = 3 * (c a b * c a b) := by
  rw [← F.mul]
  have : c (3 * (a * a - b * b)) (3 * (a * b + b * a)) = c ((a * a - b * b) + (a * a - b * b) + (a * a - b * b)) ((a * b + b * a) + (a * b + b * a) + (a * b + b * a)) := by congr 1 <;> omega
  rw [this, F.add, F.add]; grind
end
theorem ex_sum {p : Int} (hp : Pr p) {a b : Pt4} (ha : Cn p a) (hb : Cn p b) (hn : ¬ NoneC a b) (hy : a = b → NY a) : ∃ q, Cn p q ∧ SumR p a b q := by
  have mk : ∀ m0 m1 : Int, (∀ {R : Type} [CommRing R] (c : Int → Int → R), Fld p c → (a = b → c m0 m1 * (2 * cy c a) = 3 * (cx c a * cx c a)) ∧ (a ≠ b → c m0 m1 * (cx c b - cx c a) = cy c b - cy c a)) → ∃ q, Cn p q ∧ SumR p a b q := fun m0 m1 h => by
    refine ⟨(((m0 * m0 - m1 * m1) - a.1 - b.1) % p, ((m0 * m1 + m1 * m0) - a.2.1 - b.2.1) % p, ((m0 * (a.1 - (((m0 * m0 - m1 * m1) - a.1 - b.1))) - m1 * (a.2.1 - ((m0 * m1 + m1 * m0) - a.2.1 - b.2.1))) - a.2.2.1) % p, ((m0 * (a.2.1 - ((m0 * m1 + m1 * m0) - a.2.1 - b.2.1)) + m1 * (a.1 - (((m0 * m0 - m1 * m1) - a.1 - b.1)))) - a.2.2.2) % p), ⟨Can.of hp _, Can.of hp _, Can.of hp _, Can.of hp _⟩, fun {R} _ c F => ⟨c m0 m1, (h c F).1, (h c F).2, ?_, ?_⟩⟩
    · show c _ _ = _
      rw [F.mod, F.sub, F.sub, F.mul]
    · show c _ _ = c m0 m1 * (cx c a - c _ _) - cy c a
      rw [F.mod, F.mod, F.sub, F.mul, F.sub]
  by_cases e : a = b
  · subst e
    have hy := hy rfl
    refine oEE (ex_div hp (a := 3 * (a.1 * a.1 - a.2.1 * a.2.1)) (b := 3 * (a.1 * a.2.1 + a.2.1 * a.1)) (d := 2 * a.2.2.1) (e := 2 * a.2.2.2) fun q => hy ⟨ha.2.2.1.dvd (two_dvd hp q.1), ha.2.2.2.dvd (two_dvd hp q.2)⟩) ?_; intro m0 m1 hd
    exact mk m0 m1 fun {R} _ c F => ⟨fun _ => by rw [← F.sq3, ← F.two]; exact hd.ring F, fun q => absurd rfl q⟩
  · obtain ⟨m0, m1, hd⟩ := ex_div hp (a := b.2.2.1 - a.2.2.1) (b := b.2.2.2 - a.2.2.2) (d := b.1 - a.1) (e := b.2.1 - a.2.1) fun q => by
      have e1 := dvd_can hb.1 ha.1 q.1
      have e2 := dvd_can hb.2.1 ha.2.1 q.2
      refine hn ⟨e1.symm, e2.symm, fun q => e ?_⟩
      obtain ⟨a1, a2, a3, a4⟩ := a
      obtain ⟨b1, b2, b3, b4⟩ := b
      simp only at e1 e2 q
      rw [e1, e2, q.1, q.2]
    exact mk m0 m1 fun {R} _ c F => ⟨fun q => absurd q e, fun _ => by rw [← F.sub, ← F.sub]; exact hd.ring F⟩
theorem pt_eq {p : Int} {R : Type} [CommRing R] {c : Int → Int → R} (F : Fld p c) {a b : Pt4} (ha : Cn p a) (hb : Cn p b) (hx : cx c a = cx c b) (hy : cy c a = cy c b) : a = b := by
  have h1 := (F.can ha.1 ha.2.1 hb.1 hb.2.1).mp hx
  have h2 := (F.can ha.2.2.1 ha.2.2.2 hb.2.2.1 hb.2.2.2).mp hy
  obtain ⟨a1, a2, a3, a4⟩ := a
  obtain ⟨b1, b2, b3, b4⟩ := b
  simp only at h1 h2
  rw [h1.1, h1.2, h2.1, h2.2]
theorem sum_uniq {p : Int} (hp : Pr p) {a b q r : Pt4} (ha : Cn p a) (hb : Cn p b) (hn : ¬ NoneC a b) (hy : a = b → NY a) (hq : Cn p q) (hr : Cn p r) (h1 : SumR p a b q) (h2 : SumR p a b r) : q = r := by
  have F := fld p
  letI := gRing p
  refine oEAAA (h1 _ F) ?_; intro m a1 a2 a3 a4
  refine oEAAA (h2 _ F) ?_; intro n b1 b2 b3 b4
  have e : m = n := by
    by_cases q : a = b
    · have hy := hy q
      have c1 := a1 q
      have c2 := b1 q
      have k : gcl p (2 * a.2.2.1) (2 * a.2.2.2) ≠ 0 := fun z => by
        have z := F.zero_iff.mp z
        exact hy ⟨ha.2.2.1.dvd (two_dvd hp z.1), ha.2.2.2.dvd (two_dvd hp z.2)⟩
      refine F.cancel hp k ?_
      rw [F.two]
      have d1 : 2 * gcl p a.2.2.1 a.2.2.2 * m = m * (2 * cy (gcl p) a) := by grind
      have d2 : 2 * gcl p a.2.2.1 a.2.2.2 * n = n * (2 * cy (gcl p) a) := by grind
      rw [d1, d2, c1, c2]
    · have c1 := a2 q
      have c2 := b2 q
      have k : gcl p (b.1 - a.1) (b.2.1 - a.2.1) ≠ 0 := fun z => by
        have z := F.zero_iff.mp z
        have e1 := dvd_can hb.1 ha.1 z.1
        have e2 := dvd_can hb.2.1 ha.2.1 z.2
        refine hn ⟨e1.symm, e2.symm, fun w => q ?_⟩
        obtain ⟨a1, a2, a3, a4⟩ := a
        obtain ⟨b1, b2, b3, b4⟩ := b
        simp only at e1 e2 w
        rw [e1, e2, w.1, w.2]
      refine F.cancel hp k ?_
      rw [F.sub]
      have d1 : (gcl p b.1 b.2.1 - gcl p a.1 a.2.1) * m = m * (cx (gcl p) b - cx (gcl p) a) := by grind
      have d2 : (gcl p b.1 b.2.1 - gcl p a.1 a.2.1) * n = n * (cx (gcl p) b - cx (gcl p) a) := by grind
      rw [d1, d2, c1, c2]
  subst e
  refine pt_eq F hq hr ?_ ?_
  · rw [a3, b3]
  · rw [a4, b4, a3, b3]
set_option tactic.hygienic true in
theorem sumO_uniq {p : Int} (hp : Pr p) {A B r s : Option Pt4} (hA : CnO p A) (hB : CnO p B) (hP : PreO A B) (h1 : SumO p A B r) (h2 : SumO p A B s) : r = s := by
  unfold SumO at h1 h2
  split at h1
  · rw [h1, h2]
  · rw [h1, h2]
  · rename_i a b
    by_cases n : NoneC a b
    · rw [h1.1 n, h2.1 n]
    · refine oEAA (h1.2 n) ?_; rintro q rfl c1 s1
      refine oEAA (h2.2 n) ?_; rintro t rfl c2 s2
      rw [sum_uniq hp (hA a rfl) (hB b rfl) n (fun e => hP a rfl (by rw [e])) c1 c2 s1 s2]
set_option tactic.hygienic true in
theorem sumO_cn {p : Int} {A B r : Option Pt4} (hA : CnO p A) (hB : CnO p B) (h1 : SumO p A B r) : CnO p r := by
  unfold SumO at h1
  split at h1
  · rw [h1]; exact hB
  · rw [h1]; exact hA
  · rename_i a b
    by_cases n : NoneC a b
    · rw [h1.1 n]; exact fun _ q => nomatch q
    · refine oEAA (h1.2 n) ?_; rintro q rfl c1 s1
      exact fun t e => by cases e; exact c1
end
end
section
open Lean.Grind
noncomputable def cDiv2 : Ctr := ⟨389, 760, 7600, fun ds orc k => l2 ds fun u0 u1 => dO u0 fun p a b => dO u1 fun q c d => q = p ∧ ¬ (c = 0 ∧ d = 0) ∧ ∀ e f, Can p e → Can p f → DivR p a b c d e f → k (.fq2 p e f) orc⟩
theorem ok_Div2 : cDiv2.Ok KK := runF_ok k_ok (gam := [cInv2, cMul2]) (gc ok_Inv2 (gc ok_Mul2 g0)) fun P ds orc k fa h => by
  refine l2_k h ?_; clear h; rintro u0 u1 rfl h
  refine dO_k h ?_; clear h; rintro p a b rfl h
  refine dO_k h ?_; clear h; rintro q u v rfl h
  · refine oAA h ?_; clear h; rintro rfl hn h
    have hp := fa.1.1.pr
    refine by_rfl (b := ¬ (u = 0 ∧ v = 0) ∧ ∀ (e1 f2 : Int), Can q e1 → Can q f2 → InvR q u v e1 f2 → q = q ∧ ∀ (e5 f6 : Int), e5 = (a * e1 - b * f2) % q → f6 = (a * f2 + b * e1) % q → k (.fq2 q e5 f6) orc) (by kernel_rfl) ?_
    refine ⟨hn, fun e f _ _ hi => ⟨rfl, fun x y hx hy => h x y (cmd hp hx) (cmd hp hy) ?_⟩⟩
    have F := fld q
    letI := gRing q
    have r1 := hi.ring F
    have r2 := F.t_mul hx hy
    have : gcl q x y * gcl q u v = gcl q a b := by
      rw [r2]
      have : gcl q a b * gcl q e f * gcl q u v = gcl q a b * (gcl q u v * gcl q e f) := by grind
      rw [this, r1]; grind
    rw [← F.mul, F.eq] at this
    exact this
noncomputable def gO : List Ctr := [cAdd2, cSub2, cMul2, cRmul2, cEq2, cOne2, cZero2, cDiv2, cMade2]
theorem ok_gO : ∀ c' ∈ gO, c'.Ok KK := gc ok_Add2 (gc ok_Sub2 (gc ok_Mul2 (gc ok_Rmul2 (gc ok_Eq2 (gc ok_One2 (gc ok_Zero2 (gc ok_Div2 (gc ok_Made2 g0))))))))
noncomputable def cInfO : Ctr := ⟨495, 740, 7400, fun ds orc k => l1 ds fun u0 => o3 u0 fun p x0 x1 q y0 y1 r z0 z1 => k (.sb (decide (z0 = 0) && decide (z1 = 0))) orc⟩
theorem ok_InfO : cInfO.Ok KK := runF_ok k_ok (gam := gO) ok_gO fun P ds orc k fa h => by
  refine l1_k h ?_; clear h; rintro u0 rfl h
  refine o3_k h ?_; clear h; rintro p x0 x1 q y0 y1 r z0 z1 rfl h
  · refine by_rfl (b := ∀ (e1 f2 : Int), e1 = 0 % r → f2 = 0 % r → r = r ∧ k (.sb (decide (z0 = e1) && decide (z1 = f2))) orc) (by kernel_rfl) fun e1 f2 h1 h2 => ⟨rfl, ?_⟩
    rw [h1, h2, Int.zero_emod]; exact h
theorem dec_t {p e f g h : Int} (ce : Can p e) (cf : Can p f) (cg : Can p g) (ch : Can p h) (q : gcl p e f = gcl p g h) : (decide (e = g) && decide (f = h)) = true := by
  have F := fld p
  have := (@Fld.can p (G p) (gRing p) (gcl p) F e f g h ce cf cg ch).mp q
  simp [this.1, this.2]
theorem dec_f {p e f g h : Int} (ce : Can p e) (cf : Can p f) (cg : Can p g) (ch : Can p h) (q : gcl p e f ≠ gcl p g h) : (decide (e = g) && decide (f = h)) = false := by
  cases w : (decide (e = g) && decide (f = h)) with
  | false => rfl
  | true =>
    simp only [Bool.and_eq_true, decide_eq_true_eq] at w
    exact absurd (by rw [w.1, w.2]) q
theorem dec_z {p z0 z1 e f : Int} (he : e = 0 % p) (hf : f = 0 % p) (h : z0 = 0 ∧ z1 = 0) : (decide (z0 = e) && decide (z1 = f)) = true := by
  rw [he, hf, Int.zero_emod]; simp [h.1, h.2]
theorem dec_nz {p z0 z1 e f : Int} (he : e = 0 % p) (hf : f = 0 % p) (h : ¬ (z0 = 0 ∧ z1 = 0)) : (decide (z0 = e) && decide (z1 = f)) = false := by
  rw [he, hf, Int.zero_emod]
  cases w : (decide (z0 = 0) && decide (z1 = 0)) with
  | false => rfl
  | true => exact absurd (by simpa using w) h
section
theorem dbl_id {R : Type} [CommRing R] (x y z m X : R) (hm : m * (2 * y) = 3 * (x * x)) (hX : X = m * m - x - x) {S W B H : R} (hS : S = y * z * z) (hW : W = x * z * 3 * (x * z)) (hB : B = x * z * (y * z) * S) (hH : H = W * W - B * 8) :
    W = 2 * m * S ∧ B = x * S * S ∧ H = 4 * S * S * X := by
  have h1 : W = 2 * m * S := by
    have : W = 3 * (x * x) * (z * z) := by rw [hW]; grind
    rw [this, ← hm, hS]; grind
  have h2 : B = x * S * S := by rw [hB, hS]; grind
  refine ⟨h1, h2, ?_⟩
  rw [hH, h1, h2, hX]; grind
theorem chord_id {R : Type} [CommRing R] (xa ya xb yb W m X : R) (hm : m * (xb - xa) = yb - ya) (hX : X = m * m - xa - xb) {U V A : R} (hV : V = xb * W - xa * W) (hU : U = yb * W - ya * W) (hA : A = U * U * W - V * (V * V) - V * V * (xa * W) * 2) :
    U = m * V ∧ A = V * V * W * X := by
  have h1 : U = m * V := by
    have : U = (yb - ya) * W := by rw [hU]; grind
    rw [this, ← hm, hV]; grind
  refine ⟨h1, ?_⟩
  have h2 : V * (V * V) = V * V * (xb * W - xa * W) := by rw [← hV]; grind
  rw [hA, h1, h2, hX]; grind
end
noncomputable def cDblO : Ctr := ⟨502, 740, 7400, fun ds orc k => l1 ds fun u0 => o3 u0 fun p x0 x1 q y0 y1 r z0 z1 => (q = p ∧ r = p) ∧ ∃ A, CnO p A ∧ NYO A ∧ RepA p A x0 x1 y0 y1 z0 z1 ∧ ∀ s u0 u1 v0 v1 w0 w1, SumO p A A s → RepA p s u0 u1 v0 v1 w0 w1 → k (.tup [.fq2 p u0 u1, .fq2 p v0 v1, .fq2 p w0 w1]) orc⟩
theorem lit_ne {p : Int} (hp : Pr p) (n : Int) (hn : n = 2 ∨ n = 4 ∨ n = 8) : ¬ p ∣ n := by
  rcases hn with rfl | rfl | rfl
  · exact hp.dec (C := fun p => ¬ p ∣ 2) (by decide)
  · exact hp.dec (C := fun p => ¬ p ∣ 4) (by decide)
  · exact hp.dec (C := fun p => ¬ p ∣ 8) (by decide)
theorem ok_DblO : cDblO.Ok KK := runF_w k_ok (gam := gO) ok_gO fun ds orc k fa h => by
  refine l1_k h ?_; clear h; rintro u0 rfl h
  refine o3_k h ?_; clear h; rintro p0 x0 x1 q y0 y1 p z0 z1 rfl h
  · obtain ⟨⟨rfl, rfl⟩, A, hA, hy, hr, h⟩ := h
    have hp := fa.1.1.1.pr
    refine ⟨_, orc, LeL.refl _, fun P => ?_⟩
    refine by_rfl (b := ∀ (e1 f2 : Int), e1 = x0 * 3 % p → f2 = x1 * 3 % p → p = p ∧ ∀ (e3 f4 : Int), e3 = (e1 * x0 - f2 * x1) % p → f4 = (e1 * x1 + f2 * x0) % p → p = p ∧ ∀ (e5 f6 : Int), e5 = (y0 * z0 - y1 * z1) % p → f6 = (y0 * z1 + y1 * z0) % p → p = p ∧ ∀ (e7 f8 : Int), e7 = (x0 * y0 - x1 * y1) % p → f8 = (x0 * y1 + x1 * y0) % p → p = p ∧ ∀ (e9 f10 : Int), e9 = (e7 * e5 - f8 * f6) % p → f10 = (e7 * f6 + f8 * e5) % p → p = p ∧ ∀ (e11 f12 : Int), e11 = (e3 * e3 - f4 * f4) % p → f12 = (e3 * f4 + f4 * e3) % p → ∀ (e13 f14 : Int), e13 = e9 * 8 % p → f14 = f10 * 8 % p → p = p ∧ ∀ (e15 f16 : Int), e15 = (e11 - e13) % p → f16 = (f12 - f14) % p → p = p ∧ ∀ (e17 f18 : Int), e17 = (e5 * e5 - f6 * f6) % p → f18 = (e5 * f6 + f6 * e5) % p → ∀ (e19 f20 : Int), e19 = e15 * 2 % p → f20 = f16 * 2 % p → p = p ∧ ∀ (e21 f22 : Int), e21 = (e19 * e5 - f20 * f6) % p → f22 = (e19 * f6 + f20 * e5) % p → ∀ (e23 f24 : Int), e23 = e9 * 4 % p → f24 = f10 * 4 % p → p = p ∧ ∀ (e25 f26 : Int), e25 = (e23 - e15) % p → f26 = (f24 - f16) % p → p = p ∧ ∀ (e27 f28 : Int), e27 = (e3 * e25 - f4 * f26) % p → f28 = (e3 * f26 + f4 * e25) % p → ∀ (e29 f30 : Int), e29 = y0 * 8 % p → f30 = y1 * 8 % p → p = p ∧ ∀ (e31 f32 : Int), e31 = (e29 * y0 - f30 * y1) % p → f32 = (e29 * y1 + f30 * y0) % p → p = p ∧ ∀ (e33 f34 : Int), e33 = (e31 * e17 - f32 * f18) % p → f34 = (e31 * f18 + f32 * e17) % p → p = p ∧ ∀ (e35 f36 : Int), e35 = (e27 - e33) % p → f36 = (f28 - f34) % p → ∀ (e37 f38 : Int), e37 = e5 * 8 % p → f38 = f6 * 8 % p → p = p ∧ ∀ (e39 f40 : Int), e39 = (e37 * e17 - f38 * f18) % p → f40 = (e37 * f18 + f38 * e17) % p → (∃ d', Le (Dat.tup [Dat.fq2 p e21 f22, Dat.fq2 p e35 f36, Dat.fq2 p e39 f40]) d' ∧ k d' orc)) (by kernel_rfl) ?_
    refine fun e1 f2 h_e1 h_f2 => ⟨rfl, fun e3 f4 h_e3 h_f4 => ⟨rfl, fun e5 f6 h_e5 h_f6 => ⟨rfl, fun e7 f8 h_e7 h_f8 => ⟨rfl, fun e9 f10 h_e9 h_f10 => ⟨rfl, fun e11 f12 h_e11 h_f12 => fun e13 f14 h_e13 h_f14 => ⟨rfl, fun e15 f16 h_e15 h_f16 => ⟨rfl, fun e17 f18 h_e17 h_f18 => fun e19 f20 h_e19 h_f20 => ⟨rfl, fun e21 f22 h_e21 h_f22 => fun e23 f24 h_e23 h_f24 => ⟨rfl, fun e25 f26 h_e25 h_f26 => ⟨rfl, fun e27 f28 h_e27 h_f28 => fun e29 f30 h_e29 h_f30 => ⟨rfl, fun e31 f32 h_e31 h_f32 => ⟨rfl, fun e33 f34 h_e33 h_f34 => ⟨rfl, fun e35 f36 h_e35 h_f36 => fun e37 f38 h_e37 h_f38 => ⟨rfl, fun e39 f40 h_e39 h_f40 => ?_⟩⟩⟩⟩⟩⟩⟩⟩⟩⟩⟩⟩⟩⟩
    refine ⟨_, Le.refl _, ?_⟩
    cases A with
    | none =>
      refine h none e21 f22 e35 f36 e39 f40 rfl ?_
      refine oA hr ?_; clear hr; rintro rfl rfl
      have F := fld p
      letI := gRing p
      have r_e1 := F.t_lit 3 h_e1 h_f2
      have r_e3 := F.t_mul h_e3 h_f4
      have r_e5 := F.t_mul h_e5 h_f6
      have r_e7 := F.t_mul h_e7 h_f8
      have r_e9 := F.t_mul h_e9 h_f10
      have r_e11 := F.t_mul h_e11 h_f12
      have r_e13 := F.t_lit 8 h_e13 h_f14
      have r_e15 := F.t_sub h_e15 h_f16
      have r_e17 := F.t_mul h_e17 h_f18
      have r_e19 := F.t_lit 2 h_e19 h_f20
      have r_e21 := F.t_mul h_e21 h_f22
      have r_e23 := F.t_lit 4 h_e23 h_f24
      have r_e25 := F.t_sub h_e25 h_f26
      have r_e27 := F.t_mul h_e27 h_f28
      have r_e29 := F.t_lit 8 h_e29 h_f30
      have r_e31 := F.t_mul h_e31 h_f32
      have r_e33 := F.t_mul h_e33 h_f34
      have r_e35 := F.t_sub h_e35 h_f36
      have r_e37 := F.t_lit 8 h_e37 h_f38
      have r_e39 := F.t_mul h_e39 h_f40
      rw [F.zero] at r_e5
      have : gcl p e39 f40 = 0 := by rw [r_e39, r_e37, r_e5]; grind
      exact (F.can0 (cmd hp h_e39) (cmd hp h_f40)).mp this
    | some a =>
      have hya := hy a rfl
      have ca := hA a rfl
      refine oEA (ex_sum hp ca ca (fun n => n.2.2 ⟨rfl, rfl⟩) fun _ => hya) ?_; intro q cq sq
      refine oA hr ?_; clear hr; intro nz hr
      refine h (some q) e21 f22 e35 f36 e39 f40 ⟨fun n => absurd ⟨rfl, rfl⟩ n.2.2, fun _ => ⟨q, rfl, cq, sq⟩⟩ ⟨fun zz => ?_, fun {R} _ c F => ?_⟩
      · have F := fld p
        letI := gRing p
        refine oA (hr _ F) ?_; intro hx hyy
        have r_e1 := F.t_lit 3 h_e1 h_f2
        have r_e3 := F.t_mul h_e3 h_f4
        have r_e5 := F.t_mul h_e5 h_f6
        have r_e7 := F.t_mul h_e7 h_f8
        have r_e9 := F.t_mul h_e9 h_f10
        have r_e11 := F.t_mul h_e11 h_f12
        have r_e13 := F.t_lit 8 h_e13 h_f14
        have r_e15 := F.t_sub h_e15 h_f16
        have r_e17 := F.t_mul h_e17 h_f18
        have r_e19 := F.t_lit 2 h_e19 h_f20
        have r_e21 := F.t_mul h_e21 h_f22
        have r_e23 := F.t_lit 4 h_e23 h_f24
        have r_e25 := F.t_sub h_e25 h_f26
        have r_e27 := F.t_mul h_e27 h_f28
        have r_e29 := F.t_lit 8 h_e29 h_f30
        have r_e31 := F.t_mul h_e31 h_f32
        have r_e33 := F.t_mul h_e33 h_f34
        have r_e35 := F.t_sub h_e35 h_f36
        have r_e37 := F.t_lit 8 h_e37 h_f38
        have r_e39 := F.t_mul h_e39 h_f40
        have z1 : gcl p z0 z1 ≠ 0 := fun q => nz ((F.can0 fa.1.2.2.1.1 fa.1.2.2.1.2).mp q)
        have y1' : gcl p a.2.2.1 a.2.2.2 ≠ 0 := fun q => hya ((F.can0 ca.2.2.1 ca.2.2.2).mp q)
        have y2 : gcl p y0 y1 ≠ 0 := by rw [hyy]; exact F.mul_ne hp y1' z1
        have s1 : gcl p e5 f6 ≠ 0 := by rw [r_e5]; exact F.mul_ne hp y2 z1
        have s2 : gcl p e17 f18 ≠ 0 := by rw [r_e17]; exact F.mul_ne hp s1 s1
        have n8 : gcl p 8 0 ≠ 0 := fun q => lit_ne hp 8 (.inr (.inr rfl)) (F.zero_iff.mp q).1
        have s3 : gcl p e37 f38 ≠ 0 := by
          have : gcl p e37 f38 = gcl p e5 f6 * gcl p 8 0 := by rw [r_e37]; congr 1
          rw [this]; exact F.mul_ne hp s1 n8
        have : gcl p e39 f40 ≠ 0 := by rw [r_e39]; exact F.mul_ne hp s3 s2
        exact this ((F.can0 (cmd hp h_e39) (cmd hp h_f40)).mpr zz)
      · refine oA (hr c F) ?_; intro hx hyy
        refine oEAAA (sq c F) ?_; intro m m1 _ m3 m4
        have m1 := m1 rfl
        have r_e1 := F.t_lit 3 h_e1 h_f2
        have r_e3 := F.t_mul h_e3 h_f4
        have r_e5 := F.t_mul h_e5 h_f6
        have r_e7 := F.t_mul h_e7 h_f8
        have r_e9 := F.t_mul h_e9 h_f10
        have r_e11 := F.t_mul h_e11 h_f12
        have r_e13 := F.t_lit 8 h_e13 h_f14
        have r_e15 := F.t_sub h_e15 h_f16
        have r_e17 := F.t_mul h_e17 h_f18
        have r_e19 := F.t_lit 2 h_e19 h_f20
        have r_e21 := F.t_mul h_e21 h_f22
        have r_e23 := F.t_lit 4 h_e23 h_f24
        have r_e25 := F.t_sub h_e25 h_f26
        have r_e27 := F.t_mul h_e27 h_f28
        have r_e29 := F.t_lit 8 h_e29 h_f30
        have r_e31 := F.t_mul h_e31 h_f32
        have r_e33 := F.t_mul h_e33 h_f34
        have r_e35 := F.t_sub h_e35 h_f36
        have r_e37 := F.t_lit 8 h_e37 h_f38
        have r_e39 := F.t_mul h_e39 h_f40
        rw [hx] at r_e1 r_e3 r_e7
        rw [hyy] at r_e5 r_e7 r_e29 r_e31
        rw [r_e1] at r_e3
        rw [r_e7] at r_e9
        rw [r_e11, r_e13] at r_e15
        refine oAA (dbl_id _ _ _ m _ m1 m3 r_e5 r_e3 r_e9 r_e15) ?_; intro k1 k2 k3
        have e39' : c e39 f40 = 8 * (c e5 f6 * (c e5 f6 * c e5 f6)) := by rw [r_e39, r_e37, r_e17]; grind
        constructor
        · rw [r_e21, r_e19, k3, e39']; grind
        · rw [r_e35, r_e27, r_e25, r_e23, r_e33, r_e31, r_e29, r_e17, e39', k1, k2, k3, m4]
          have : cy c a * c z0 z1 * 8 * (cy c a * c z0 z1) = 8 * cy c a * c e5 f6 := by rw [r_e5]; grind
          rw [this]; grind
noncomputable def cAddO : Ctr := ⟨509, 730, 7300, fun ds orc k => l2 ds fun u0 u1 => o3 u0 fun p x0 x1 q y0 y1 r z0 z1 => o3 u1 fun p1 u0 u1 p2 v0 v1 p3 w0 w1 => (q = p ∧ r = p ∧ p1 = p ∧ p2 = p ∧ p3 = p) ∧ ∃ A B, CnO p A ∧ CnO p B ∧ PreO A B ∧ RepA p A x0 x1 y0 y1 z0 z1 ∧ RepA p B u0 u1 v0 v1 w0 w1 ∧ ∀ s a0 a1 b0 b1 c0 c1, SumO p A B s → RepA p s a0 a1 b0 b1 c0 c1 → k (.tup [.fq2 p a0 a1, .fq2 p b0 b1, .fq2 p c0 c1]) orc⟩
theorem ok_AddO : cAddO.Ok KK := runF_w k_ok (gam := cDblO :: gO) (gc ok_DblO ok_gO) fun ds orc k fa h => by
  refine l2_k h ?_; clear h; rintro u0 u1 rfl h
  refine o3_k h ?_; clear h; rintro p0 x0 x1 q y0 y1 r z0 z1 rfl h
  refine o3_k h ?_; clear h; rintro p1 u0 u1 p2 v0 v1 p w0 w1 rfl h
  · obtain ⟨⟨rfl, rfl, rfl, rfl, rfl⟩, A, B, hA, hB, hP, hra, hrb, h⟩ := h
    have hp := fa.1.1.1.pr
    refine oAA fa ?_; clear fa; rintro ⟨⟨cx0, cx1⟩, ⟨cy0, cy1⟩, ⟨cz0, cz1⟩, _⟩ ⟨⟨cu0, cu1⟩, ⟨cv0, cv1⟩, ⟨cw0, cw1⟩, _⟩ _
    cases A with
    | none =>
      refine ⟨_, [true], LeL.refl _, fun P => ?_⟩
      refine by_rfl (b := ∀ (e1 f2 : Int), e1 = 1 % p → f2 = 0 % p → ∀ (e3 f4 : Int), e3 = 0 % p → f4 = 0 % p → p = p ∧ (decide (z0 = e3) && decide (z1 = f4)) = true ∧ p = p ∧ ((decide (w0 = e3) && decide (w1 = f4)) = true → (∃ d', Le (Dat.tup [Dat.fq2 p x0 x1, Dat.fq2 p y0 y1, Dat.fq2 p z0 z1]) d' ∧ k d' orc)) ∧ ((decide (w0 = e3) && decide (w1 = f4)) = false → (∃ d', Le (Dat.tup [Dat.fq2 p u0 u1, Dat.fq2 p v0 v1, Dat.fq2 p w0 w1]) d' ∧ k d' orc))) (by kernel_rfl) ?_
      refine fun e1 f2 h_e1 h_f2 => fun e3 f4 h_e3 h_f4 => ⟨rfl, ⟨?_, ⟨rfl, ?_⟩⟩⟩
      · exact dec_z h_e3 h_f4 hra
      · refine ⟨fun hw => ⟨_, Le.refl _, h none _ _ _ _ _ _ ?_ hra⟩, fun hw => ⟨_, Le.refl _, h B _ _ _ _ _ _ rfl hrb⟩⟩
        cases B with
        | none => rfl
        | some b =>
          rw [dec_nz h_e3 h_f4 hrb.1] at hw; cases hw
    | some a => cases B with
      | none =>
        refine ⟨_, [false, true, true], LeL.refl _, fun P => ?_⟩
        refine by_rfl (b := ∀ (e1 f2 : Int), e1 = 1 % p → f2 = 0 % p → ∀ (e3 f4 : Int), e3 = 0 % p → f4 = 0 % p → p = p ∧ (decide (z0 = e3) && decide (z1 = f4)) = false ∧ p = p ∧ (decide (w0 = e3) && decide (w1 = f4)) = true ∧ p = p ∧ (decide (w0 = e3) && decide (w1 = f4)) = true ∧ (∃ d', Le (Dat.tup [Dat.fq2 p x0 x1, Dat.fq2 p y0 y1, Dat.fq2 p z0 z1]) d' ∧ k d' orc)) (by kernel_rfl) ?_
        refine fun e1 f2 h_e1 h_f2 => fun e3 f4 h_e3 h_f4 => ⟨rfl, ⟨?_, ⟨rfl, ⟨?_, ⟨rfl, ⟨?_, ?_⟩⟩⟩⟩⟩⟩
        · exact dec_nz h_e3 h_f4 hra.1
        · exact dec_z h_e3 h_f4 hrb
        · exact dec_z h_e3 h_f4 hrb
        · exact ⟨_, Le.refl _, h (some a) _ _ _ _ _ _ rfl hra⟩
      | some b =>
        have ca := hA a rfl
        have cb := hB b rfl
        refine oA hra ?_; clear hra; intro na hra
        refine oA hrb ?_; clear hrb; intro nb hrb
        have nz : gcl p z0 z1 ≠ @OfNat.ofNat (G p) 0 ((gRing p).ofNat 0) := fun q => na ((@Fld.can0 p (G p) (gRing p) (gcl p) (fld p) z0 z1 cz0 cz1).mp q)
        have nw : gcl p w0 w1 ≠ @OfNat.ofNat (G p) 0 ((gRing p).ofNat 0) := fun q => nb ((@Fld.can0 p (G p) (gRing p) (gcl p) (fld p) w0 w1 cw0 cw1).mp q)
        have can : ∀ {s t : Int}, gcl p s t = gcl p s t := rfl
        by_cases hx : a.1 = b.1 ∧ a.2.1 = b.2.1
        · by_cases hy : a.2.2.1 = b.2.2.1 ∧ a.2.2.2 = b.2.2.2
          · have hab : a = b := by
              obtain ⟨a1, a2, a3, a4⟩ := a
              obtain ⟨b1, b2, b3, b4⟩ := b
              simp only at hx hy
              rw [hx.1, hx.2, hy.1, hy.2]
            subst hab
            refine ⟨_, [false, false, true, true], LeL.refl _, fun P => ?_⟩
            refine by_rfl (b := ∀ (e1 f2 : Int), e1 = 1 % p → f2 = 0 % p → ∀ (e3 f4 : Int), e3 = 0 % p → f4 = 0 % p → p = p ∧ (decide (z0 = e3) && decide (z1 = f4)) = false ∧ p = p ∧ (decide (w0 = e3) && decide (w1 = f4)) = false ∧ p = p ∧ ∀ (e5 f6 : Int), e5 = (v0 * z0 - v1 * z1) % p → f6 = (v0 * z1 + v1 * z0) % p → p = p ∧ ∀ (e7 f8 : Int), e7 = (y0 * w0 - y1 * w1) % p → f8 = (y0 * w1 + y1 * w0) % p → p = p ∧ ∀ (e9 f10 : Int), e9 = (u0 * z0 - u1 * z1) % p → f10 = (u0 * z1 + u1 * z0) % p → p = p ∧ ∀ (e11 f12 : Int), e11 = (x0 * w0 - x1 * w1) % p → f12 = (x0 * w1 + x1 * w0) % p → p = p ∧ (decide (e9 = e11) && decide (f10 = f12)) = true ∧ p = p ∧ (decide (e5 = e7) && decide (f6 = f8)) = true ∧ (p = p ∧ p = p) ∧ ∃ A13, CnO p A13 ∧ NYO A13 ∧ RepA p A13 x0 x1 y0 y1 z0 z1 ∧ ∀ (s14 : Option Pt4) (u015 u116 v017 v118 w019 w120 : Int), SumO p A13 A13 s14 → RepA p s14 u015 u116 v017 v118 w019 w120 → (∃ d', Le (Dat.tup [Dat.fq2 p u015 u116, Dat.fq2 p v017 v118, Dat.fq2 p w019 w120]) d' ∧ k d' orc)) (by kernel_rfl) ?_
            refine fun e1 f2 h_e1 h_f2 => fun e3 f4 h_e3 h_f4 => ⟨rfl, ⟨?_, ⟨rfl, ⟨?_, ⟨rfl, fun e5 f6 h_e5 h_f6 => ⟨rfl, fun e7 f8 h_e7 h_f8 => ⟨rfl, fun e9 f10 h_e9 h_f10 => ⟨rfl, fun e11 f12 h_e11 h_f12 => ⟨rfl, ⟨?_, ⟨rfl, ⟨?_, ?_⟩⟩⟩⟩⟩⟩⟩⟩⟩⟩⟩⟩
            · exact dec_nz h_e3 h_f4 na
            · exact dec_nz h_e3 h_f4 nb
            · have F := fld p
              letI := gRing p
              refine oA (hra _ F) ?_; intro hxa hya
              refine oA (hrb _ F) ?_; intro hxb hyb
              have r9 := F.t_mul h_e9 h_f10
              have r11 := F.t_mul h_e11 h_f12
              refine dec_t (cmd hp h_e9) (cmd hp h_f10) (cmd hp h_e11) (cmd hp h_f12) ?_
              rw [r9, r11, hxa, hxb]; grind
            · have F := fld p
              letI := gRing p
              refine oA (hra _ F) ?_; intro hxa hya
              refine oA (hrb _ F) ?_; intro hxb hyb
              have r5 := F.t_mul h_e5 h_f6
              have r7 := F.t_mul h_e7 h_f8
              refine dec_t (cmd hp h_e5) (cmd hp h_f6) (cmd hp h_e7) (cmd hp h_f8) ?_
              rw [r5, r7, hya, hyb]; grind
            · refine ⟨⟨rfl, rfl⟩, some a, hA, fun q e => by cases e; exact hP a rfl rfl, ⟨na, hra⟩, fun s _ _ _ _ _ _ hs hr => ⟨_, Le.refl _, h s _ _ _ _ _ _ hs hr⟩⟩
          · refine ⟨_, [false, false, true, false, true], LeL.refl _, fun P => ?_⟩
            refine by_rfl (b := ∀ (e1 f2 : Int), e1 = 1 % p → f2 = 0 % p → ∀ (e3 f4 : Int), e3 = 0 % p → f4 = 0 % p → p = p ∧ (decide (z0 = e3) && decide (z1 = f4)) = false ∧ p = p ∧ (decide (w0 = e3) && decide (w1 = f4)) = false ∧ p = p ∧ ∀ (e5 f6 : Int), e5 = (v0 * z0 - v1 * z1) % p → f6 = (v0 * z1 + v1 * z0) % p → p = p ∧ ∀ (e7 f8 : Int), e7 = (y0 * w0 - y1 * w1) % p → f8 = (y0 * w1 + y1 * w0) % p → p = p ∧ ∀ (e9 f10 : Int), e9 = (u0 * z0 - u1 * z1) % p → f10 = (u0 * z1 + u1 * z0) % p → p = p ∧ ∀ (e11 f12 : Int), e11 = (x0 * w0 - x1 * w1) % p → f12 = (x0 * w1 + x1 * w0) % p → p = p ∧ (decide (e9 = e11) && decide (f10 = f12)) = true ∧ p = p ∧ (decide (e5 = e7) && decide (f6 = f8)) = false ∧ p = p ∧ (decide (e9 = e11) && decide (f10 = f12)) = true ∧ (∃ d', Le (Dat.tup [Dat.fq2 p e1 f2, Dat.fq2 p e1 f2, Dat.fq2 p e3 f4]) d' ∧ k d' orc)) (by kernel_rfl) ?_
            have nc : NoneC a b := ⟨hx.1, hx.2, hy⟩
            refine fun e1 f2 h_e1 h_f2 => fun e3 f4 h_e3 h_f4 => ⟨rfl, ⟨?_, ⟨rfl, ⟨?_, ⟨rfl, fun e5 f6 h_e5 h_f6 => ⟨rfl, fun e7 f8 h_e7 h_f8 => ⟨rfl, fun e9 f10 h_e9 h_f10 => ⟨rfl, fun e11 f12 h_e11 h_f12 => ⟨rfl, ⟨?_, ⟨rfl, ⟨?_, ⟨rfl, ⟨?_, ?_⟩⟩⟩⟩⟩⟩⟩⟩⟩⟩⟩⟩⟩⟩
            · exact dec_nz h_e3 h_f4 na
            · exact dec_nz h_e3 h_f4 nb
            · have F := fld p
              letI := gRing p
              refine oA (hra _ F) ?_; intro hxa hya
              refine oA (hrb _ F) ?_; intro hxb hyb
              have r9 := F.t_mul h_e9 h_f10
              have r11 := F.t_mul h_e11 h_f12
              refine dec_t (cmd hp h_e9) (cmd hp h_f10) (cmd hp h_e11) (cmd hp h_f12) ?_
              rw [r9, r11, hxa, hxb]
              show gcl p b.1 b.2.1 * _ * _ = gcl p a.1 a.2.1 * _ * _
              rw [hx.1, hx.2]; grind
            · have F := fld p
              letI := gRing p
              refine oA (hra _ F) ?_; intro hxa hya
              refine oA (hrb _ F) ?_; intro hxb hyb
              have r5 := F.t_mul h_e5 h_f6
              have r7 := F.t_mul h_e7 h_f8
              refine dec_f (cmd hp h_e5) (cmd hp h_f6) (cmd hp h_e7) (cmd hp h_f8) fun q => hy ?_
              rw [r5, r7, hya, hyb] at q
              have zw := F.mul_ne hp nz nw
              rw [← F.mul] at zw
              have := F.cancel hp zw (x := cy (gcl p) a) (y := cy (gcl p) b) (by
                rw [F.mul]
                have e1 : gcl p z0 z1 * gcl p w0 w1 * cy (gcl p) a = cy (gcl p) a * gcl p z0 z1 * gcl p w0 w1 := by grind
                have e2 : gcl p z0 z1 * gcl p w0 w1 * cy (gcl p) b = cy (gcl p) b * gcl p w0 w1 * gcl p z0 z1 := by grind
                rw [e1, e2, q])
              exact (F.can ca.2.2.1 ca.2.2.2 cb.2.2.1 cb.2.2.2).mp this
            · have F := fld p
              letI := gRing p
              refine oA (hra _ F) ?_; intro hxa hya
              refine oA (hrb _ F) ?_; intro hxb hyb
              have r9 := F.t_mul h_e9 h_f10
              have r11 := F.t_mul h_e11 h_f12
              refine dec_t (cmd hp h_e9) (cmd hp h_f10) (cmd hp h_e11) (cmd hp h_f12) ?_
              rw [r9, r11, hxa, hxb]
              show gcl p b.1 b.2.1 * _ * _ = gcl p a.1 a.2.1 * _ * _
              rw [hx.1, hx.2]; grind
            · exact ⟨_, Le.refl _, h none _ _ _ _ _ _ ⟨fun _ => rfl, fun n => absurd nc n⟩ ⟨by rw [h_e3, Int.zero_emod], by rw [h_f4, Int.zero_emod]⟩⟩
        · have nc : ¬ NoneC a b := fun n => hx ⟨n.1, n.2.1⟩
          refine oEA (ex_sum hp ca cb nc fun e => absurd (by rw [e]; exact ⟨rfl, rfl⟩) hx) ?_; intro q cq sq
          refine ⟨_, [false, false, false, false], LeL.refl _, fun P => ?_⟩
          refine by_rfl (b := ∀ (e1 f2 : Int), e1 = 1 % p → f2 = 0 % p → ∀ (e3 f4 : Int), e3 = 0 % p → f4 = 0 % p → p = p ∧ (decide (z0 = e3) && decide (z1 = f4)) = false ∧ p = p ∧ (decide (w0 = e3) && decide (w1 = f4)) = false ∧ p = p ∧ ∀ (e5 f6 : Int), e5 = (v0 * z0 - v1 * z1) % p → f6 = (v0 * z1 + v1 * z0) % p → p = p ∧ ∀ (e7 f8 : Int), e7 = (y0 * w0 - y1 * w1) % p → f8 = (y0 * w1 + y1 * w0) % p → p = p ∧ ∀ (e9 f10 : Int), e9 = (u0 * z0 - u1 * z1) % p → f10 = (u0 * z1 + u1 * z0) % p → p = p ∧ ∀ (e11 f12 : Int), e11 = (x0 * w0 - x1 * w1) % p → f12 = (x0 * w1 + x1 * w0) % p → p = p ∧ (decide (e9 = e11) && decide (f10 = f12)) = false ∧ p = p ∧ (decide (e9 = e11) && decide (f10 = f12)) = false ∧ p = p ∧ ∀ (e13 f14 : Int), e13 = (e5 - e7) % p → f14 = (f6 - f8) % p → p = p ∧ ∀ (e15 f16 : Int), e15 = (e9 - e11) % p → f16 = (f10 - f12) % p → p = p ∧ ∀ (e17 f18 : Int), e17 = (e15 * e15 - f16 * f16) % p → f18 = (e15 * f16 + f16 * e15) % p → p = p ∧ ∀ (e19 f20 : Int), e19 = (e17 * e11 - f18 * f12) % p → f20 = (e17 * f12 + f18 * e11) % p → p = p ∧ ∀ (e21 f22 : Int), e21 = (e15 * e17 - f16 * f18) % p → f22 = (e15 * f18 + f16 * e17) % p → p = p ∧ ∀ (e23 f24 : Int), e23 = (z0 * w0 - z1 * w1) % p → f24 = (z0 * w1 + z1 * w0) % p → p = p ∧ ∀ (e25 f26 : Int), e25 = (e13 * e13 - f14 * f14) % p → f26 = (e13 * f14 + f14 * e13) % p → p = p ∧ ∀ (e27 f28 : Int), e27 = (e25 * e23 - f26 * f24) % p → f28 = (e25 * f24 + f26 * e23) % p → p = p ∧ ∀ (e29 f30 : Int), e29 = (e27 - e21) % p → f30 = (f28 - f22) % p → ∀ (e31 f32 : Int), e31 = e19 * 2 % p → f32 = f20 * 2 % p → p = p ∧ ∀ (e33 f34 : Int), e33 = (e29 - e31) % p → f34 = (f30 - f32) % p → p = p ∧ ∀ (e35 f36 : Int), e35 = (e15 * e33 - f16 * f34) % p → f36 = (e15 * f34 + f16 * e33) % p → p = p ∧ ∀ (e37 f38 : Int), e37 = (e19 - e33) % p → f38 = (f20 - f34) % p → p = p ∧ ∀ (e39 f40 : Int), e39 = (e13 * e37 - f14 * f38) % p → f40 = (e13 * f38 + f14 * e37) % p → p = p ∧ ∀ (e41 f42 : Int), e41 = (e21 * e7 - f22 * f8) % p → f42 = (e21 * f8 + f22 * e7) % p → p = p ∧ ∀ (e43 f44 : Int), e43 = (e39 - e41) % p → f44 = (f40 - f42) % p → p = p ∧ ∀ (e45 f46 : Int), e45 = (e21 * e23 - f22 * f24) % p → f46 = (e21 * f24 + f22 * e23) % p → (∃ d', Le (Dat.tup [Dat.fq2 p e35 f36, Dat.fq2 p e43 f44, Dat.fq2 p e45 f46]) d' ∧ k d' orc)) (by kernel_rfl) ?_
          refine fun e1 f2 h_e1 h_f2 => fun e3 f4 h_e3 h_f4 => ⟨rfl, ⟨?_, ⟨rfl, ⟨?_, ⟨rfl, fun e5 f6 h_e5 h_f6 => ⟨rfl, fun e7 f8 h_e7 h_f8 => ⟨rfl, fun e9 f10 h_e9 h_f10 => ⟨rfl, fun e11 f12 h_e11 h_f12 => ⟨rfl, ⟨?_, ⟨rfl, ⟨?_, ⟨rfl, fun e13 f14 h_e13 h_f14 => ⟨rfl, fun e15 f16 h_e15 h_f16 => ⟨rfl, fun e17 f18 h_e17 h_f18 => ⟨rfl, fun e19 f20 h_e19 h_f20 => ⟨rfl, fun e21 f22 h_e21 h_f22 => ⟨rfl, fun e23 f24 h_e23 h_f24 => ⟨rfl, fun e25 f26 h_e25 h_f26 => ⟨rfl, fun e27 f28 h_e27 h_f28 => ⟨rfl, fun e29 f30 h_e29 h_f30 => fun e31 f32 h_e31 h_f32 => ⟨rfl, fun e33 f34 h_e33 h_f34 => ⟨rfl, fun e35 f36 h_e35 h_f36 => ⟨rfl, fun e37 f38 h_e37 h_f38 => ⟨rfl, fun e39 f40 h_e39 h_f40 => ⟨rfl, fun e41 f42 h_e41 h_f42 => ⟨rfl, fun e43 f44 h_e43 h_f44 => ⟨rfl, fun e45 f46 h_e45 h_f46 => ?_⟩⟩⟩⟩⟩⟩⟩⟩⟩⟩⟩⟩⟩⟩⟩⟩⟩⟩⟩⟩⟩⟩⟩⟩⟩⟩⟩⟩
          · exact dec_nz h_e3 h_f4 na
          · exact dec_nz h_e3 h_f4 nb
          all_goals
            have nV : gcl p e9 f10 ≠ gcl p e11 f12 := fun q => hx (by
              have F := fld p
              letI := gRing p
              refine oA (hra _ F) ?_; intro hxa hya
              refine oA (hrb _ F) ?_; intro hxb hyb
              have r9 := F.t_mul h_e9 h_f10
              have r11 := F.t_mul h_e11 h_f12
              rw [r9, r11, hxa, hxb] at q
              have zw := F.mul_ne hp nz nw
              rw [← F.mul] at zw
              have := F.cancel hp zw (x := cx (gcl p) a) (y := cx (gcl p) b) (by
                rw [F.mul]
                have e1 : gcl p z0 z1 * gcl p w0 w1 * cx (gcl p) a = cx (gcl p) a * gcl p z0 z1 * gcl p w0 w1 := by grind
                have e2 : gcl p z0 z1 * gcl p w0 w1 * cx (gcl p) b = cx (gcl p) b * gcl p w0 w1 * gcl p z0 z1 := by grind
                rw [e1, e2, q])
              exact (F.can ca.1 ca.2.1 cb.1 cb.2.1).mp this)
          · exact dec_f (cmd hp h_e9) (cmd hp h_f10) (cmd hp h_e11) (cmd hp h_f12) nV
          · exact dec_f (cmd hp h_e9) (cmd hp h_f10) (cmd hp h_e11) (cmd hp h_f12) nV
          · refine ⟨_, Le.refl _, h (some q) _ _ _ _ _ _ ⟨fun n => absurd n nc, fun _ => ⟨q, rfl, cq, sq⟩⟩ ⟨fun zz => ?_, fun {R} _ c F => ?_⟩⟩
            · have F := fld p
              letI := gRing p
              have r_e15 := F.t_sub h_e15 h_f16
              have r_e17 := F.t_mul h_e17 h_f18
              have r_e21 := F.t_mul h_e21 h_f22
              have r_e23 := F.t_mul h_e23 h_f24
              have r_e45 := F.t_mul h_e45 h_f46
              have v1 : gcl p e15 f16 ≠ 0 := fun q => nV (by rw [r_e15] at q; have : gcl p e9 f10 = (gcl p e9 f10 - gcl p e11 f12) + gcl p e11 f12 := by grind
                                                             rw [this, q]; grind)
              have v2 : gcl p e17 f18 ≠ 0 := by rw [r_e17]; exact F.mul_ne hp v1 v1
              have v3 : gcl p e21 f22 ≠ 0 := by rw [r_e21]; exact F.mul_ne hp v1 v2
              have v4 : gcl p e23 f24 ≠ 0 := by rw [r_e23]; exact F.mul_ne hp nz nw
              have : gcl p e45 f46 ≠ 0 := by rw [r_e45]; exact F.mul_ne hp v3 v4
              exact this ((F.can0 (cmd hp h_e45) (cmd hp h_f46)).mpr zz)
            · refine oA (hra c F) ?_; intro hxa hya
              refine oA (hrb c F) ?_; intro hxb hyb
              refine oEAAA (sq c F) ?_; intro m _ m2 m3 m4
              have m2 := m2 fun e => hx (by rw [e]; exact ⟨rfl, rfl⟩)
              have r_e5 := F.t_mul h_e5 h_f6
              have r_e7 := F.t_mul h_e7 h_f8
              have r_e9 := F.t_mul h_e9 h_f10
              have r_e11 := F.t_mul h_e11 h_f12
              have r_e13 := F.t_sub h_e13 h_f14
              have r_e15 := F.t_sub h_e15 h_f16
              have r_e17 := F.t_mul h_e17 h_f18
              have r_e19 := F.t_mul h_e19 h_f20
              have r_e21 := F.t_mul h_e21 h_f22
              have r_e23 := F.t_mul h_e23 h_f24
              have r_e25 := F.t_mul h_e25 h_f26
              have r_e27 := F.t_mul h_e27 h_f28
              have r_e29 := F.t_sub h_e29 h_f30
              have r_e31 := F.t_lit 2 h_e31 h_f32
              have r_e33 := F.t_sub h_e33 h_f34
              have r_e35 := F.t_mul h_e35 h_f36
              have r_e37 := F.t_sub h_e37 h_f38
              have r_e39 := F.t_mul h_e39 h_f40
              have r_e41 := F.t_mul h_e41 h_f42
              have r_e43 := F.t_sub h_e43 h_f44
              have r_e45 := F.t_mul h_e45 h_f46
              have a5 : c e5 f6 = cy c b * c e23 f24 := by rw [r_e5, hyb, r_e23]; grind
              have a7 : c e7 f8 = cy c a * c e23 f24 := by rw [r_e7, hya, r_e23]; grind
              have a9 : c e9 f10 = cx c b * c e23 f24 := by rw [r_e9, hxb, r_e23]; grind
              have a11 : c e11 f12 = cx c a * c e23 f24 := by rw [r_e11, hxa, r_e23]; grind
              have a13 : c e13 f14 = cy c b * c e23 f24 - cy c a * c e23 f24 := by rw [r_e13, a5, a7]
              have a15 : c e15 f16 = cx c b * c e23 f24 - cx c a * c e23 f24 := by rw [r_e15, a9, a11]
              have a33 : c e33 f34 = c e13 f14 * c e13 f14 * c e23 f24 - c e15 f16 * (c e15 f16 * c e15 f16) - c e15 f16 * c e15 f16 * (cx c a * c e23 f24) * 2 := by
                rw [r_e33, r_e29, r_e27, r_e25, r_e21, r_e31, r_e19, a11, r_e17]
              refine oA (chord_id _ _ _ _ _ m _ m2 m3 a15 a13 a33) ?_; intro k1 k2
              constructor
              · rw [r_e35, k2, r_e45, r_e21, r_e17]; grind
              · rw [r_e43, r_e39, r_e37, r_e41, r_e19, a11, a7, r_e45, r_e21, r_e17, k1, k2, m4]; grind
end
section
noncomputable def cM1 : Ctr := ⟨516, 720, 7200, fun ds orc k => l2 ds fun u0 u1 => dT u0 fun l => dL u1 fun n => gd (decide (n = 1)) <| k (.tup l) orc⟩
theorem ok_M1 : cM1.Ok KK := runF_ok k_ok (gam := gO) ok_gO fun P ds orc k fa h => by
  refine l2_k h ?_; clear h; rintro u0 u1 rfl h
  refine dT_k h ?_; clear h; rintro l rfl h
  refine dL_k h ?_; clear h; rintro n rfl h
  refine gd_k h ?_; clear h; rintro hn h
  · · obtain rfl := of_decide_eq_true hn
      exact by_rfl (by kernel_rfl) h
noncomputable def MulO (p n : Int) (A s : Option Pt4) : Prop := (n = 0 → s = none) ∧ (n = 1 → s = A) ∧ (n = 2 → SumO p A A s) ∧ (n = 3 → ∃ t, SumO p A A t ∧ SumO p t A s)
noncomputable def cM : Ctr := ⟨516, 710, 7100, fun ds orc k => l2 ds fun u0 u1 => o3 u0 fun p x0 x1 q y0 y1 r z0 z1 => dI u1 fun n _ => (q = p ∧ r = p) ∧ (0 ≤ n ∧ n ≤ 3) ∧ ∃ A, CnO p A ∧ NYO A ∧ RepA p A x0 x1 y0 y1 z0 z1 ∧
    ∀ s u0 u1 v0 v1 w0 w1, MulO p n A s → RepA p s u0 u1 v0 v1 w0 w1 → k (.tup [.fq2 p u0 u1, .fq2 p v0 v1, .fq2 p w0 w1]) orc⟩
theorem ok_M : cM.Ok KK := runF_w k_ok (gam := cM1 :: cDblO :: cAddO :: gO) (gc ok_M1 (gc ok_DblO (gc ok_AddO ok_gO))) fun ds orc k fa h => by
  refine l2_k h ?_; clear h; rintro u0 u1 rfl h
  refine o3_k h ?_; clear h; rintro p0 x0 x1 q y0 y1 p z0 z1 rfl h
  refine dI_k h ?_; clear h; rintro n B rfl h
  · obtain ⟨⟨rfl, rfl⟩, hn, A, hA, hy, hr, h⟩ := h
    refine ⟨[.tup [.fq2 p x0 x1, .fq2 p y0 y1, .fq2 p z0 z1], .lit n], orc, LeL.cons (Le.refl _) (LeL.cons Le.lit (LeL.refl _)), fun P => ?_⟩
    have : n = 0 ∨ n = 1 ∨ n = 2 ∨ n = 3 := by omega
    rcases this with rfl | rfl | rfl | rfl
    · refine by_rfl (b := ∀ (e1 f2 : Int), e1 = 1 % p → f2 = 0 % p → ∀ (e3 f4 : Int), e3 = 1 % p → f4 = 0 % p → ∀ (e5 f6 : Int), e5 = 0 % p → f6 = 0 % p → ∃ d', Le (.tup [.fq2 p e1 f2, .fq2 p e3 f4, .fq2 p e5 f6]) d' ∧ k d' orc) (by kernel_rfl) ?_
      exact fun e1 f2 _ _ e3 f4 _ _ e5 f6 h5 h6 => ⟨_, Le.refl _, h none _ _ _ _ _ _ ⟨fun _ => rfl, fun q => absurd q (by decide), fun q => absurd q (by decide), fun q => absurd q (by decide)⟩ ⟨by rw [h5, Int.zero_emod], by rw [h6, Int.zero_emod]⟩⟩
    · refine by_rfl (b := ∃ d', Le (.tup [.fq2 p x0 x1, .fq2 p y0 y1, .fq2 p z0 z1]) d' ∧ k d' orc) (by kernel_rfl) ?_
      exact ⟨_, Le.refl _, h A _ _ _ _ _ _ ⟨fun q => absurd q (by decide), fun _ => rfl, fun q => absurd q (by decide), fun q => absurd q (by decide)⟩ hr⟩
    · refine by_rfl (b := (p = p ∧ p = p) ∧ ∃ A1, CnO p A1 ∧ NYO A1 ∧ RepA p A1 x0 x1 y0 y1 z0 z1 ∧ ∀ (s2 : Option Pt4) (u03 u14 v05 v16 w07 w18 : Int), SumO p A1 A1 s2 → RepA p s2 u03 u14 v05 v16 w07 w18 → ∃ d', Le (.tup [.fq2 p u03 u14, .fq2 p v05 v16, .fq2 p w07 w18]) d' ∧ k d' orc) (by kernel_rfl) ?_
      exact ⟨⟨rfl, rfl⟩, A, hA, hy, hr, fun s _ _ _ _ _ _ hs hr => ⟨_, Le.refl _, h s _ _ _ _ _ _ ⟨fun q => absurd q (by decide), fun q => absurd q (by decide), fun _ => hs, fun q => absurd q (by decide)⟩ hr⟩⟩
    · refine by_rfl (b := (p = p ∧ p = p) ∧ ∃ A1, CnO p A1 ∧ NYO A1 ∧ RepA p A1 x0 x1 y0 y1 z0 z1 ∧ ∀ (s2 : Option Pt4) (u03 u14 v05 v16 w07 w18 : Int), SumO p A1 A1 s2 → RepA p s2 u03 u14 v05 v16 w07 w18 → (p = p ∧ p = p ∧ p = p ∧ p = p ∧ p = p) ∧ ∃ A9 B10, CnO p A9 ∧ CnO p B10 ∧ PreO A9 B10 ∧ RepA p A9 u03 u14 v05 v16 w07 w18 ∧ RepA p B10 x0 x1 y0 y1 z0 z1 ∧ ∀ (s11 : Option Pt4) (a012 a113 b014 b115 c016 c117 : Int), SumO p A9 B10 s11 → RepA p s11 a012 a113 b014 b115 c016 c117 → ∃ d', Le (.tup [.fq2 p a012 a113, .fq2 p b014 b115, .fq2 p c016 c117]) d' ∧ k d' orc) (by kernel_rfl) ?_
      exact ⟨⟨rfl, rfl⟩, A, hA, hy, hr, fun s _ _ _ _ _ _ hs hr' => ⟨⟨rfl, rfl, rfl, rfl, rfl⟩, s, A, sumO_cn hA hA hs, hA, fun a _ e => hy a e, hr', hr, fun t _ _ _ _ _ _ ht hr => ⟨_, Le.refl _, h t _ _ _ _ _ _ ⟨fun q => absurd q (by decide), fun q => absurd q (by decide), fun q => absurd q (by decide), fun _ => ⟨s, hs, ht⟩⟩ hr⟩⟩⟩
noncomputable def cEqO : Ctr := ⟨523, 740, 7400, fun ds orc k => l2 ds fun u0 u1 => o3 u0 fun p x0 x1 q y0 y1 r z0 z1 => o3 u1 fun p1 u0 u1 p2 v0 v1 p3 w0 w1 => (q = p ∧ r = p ∧ p1 = p ∧ p2 = p ∧ p3 = p) ∧ ∃ A B, CnO p A ∧ CnO p B ∧ RepA p A x0 x1 y0 y1 z0 z1 ∧ RepA p B u0 u1 v0 v1 w0 w1 ∧
    (A = none → ¬ (x0 = 0 ∧ x1 = 0)) ∧ (B = none → ¬ (u0 = 0 ∧ u1 = 0)) ∧ ∀ t : Bool, (t = true ↔ A = B) → k (.sb t) orc⟩
theorem dec_iff {p e f g h : Int} (ce : Can p e) (cf : Can p f) (cg : Can p g) (ch : Can p h) : (decide (e = g) && decide (f = h)) = true ↔ gcl p e f = gcl p g h :=
  ⟨fun q => Classical.byContradiction fun n => (by rw [dec_f ce cf cg ch n] at q; cases q), dec_t ce cf cg ch⟩
theorem rep_eq {p : Int} (hp : Pr p) {A B : Option Pt4} {x0 x1 y0 y1 z0 z1 u0 u1 v0 v1 w0 w1 : Int} (hA : CnO p A) (hB : CnO p B) (hra : RepA p A x0 x1 y0 y1 z0 z1) (hrb : RepA p B u0 u1 v0 v1 w0 w1)
    (cx0 : Can p x0) (cx1 : Can p x1) (cz0 : Can p z0) (cz1 : Can p z1) (cu0 : Can p u0) (cu1 : Can p u1) (cw0 : Can p w0) (cw1 : Can p w1) (na : A = none → ¬ (x0 = 0 ∧ x1 = 0)) (nb : B = none → ¬ (u0 = 0 ∧ u1 = 0)) :
    (gmul (gcl p x0 x1) (gcl p w0 w1) = gmul (gcl p u0 u1) (gcl p z0 z1) ∧ gmul (gcl p y0 y1) (gcl p w0 w1) = gmul (gcl p v0 v1) (gcl p z0 z1)) ↔ A = B := by
  have F := fld p
  letI := gRing p
  show (gcl p x0 x1 * gcl p w0 w1 = gcl p u0 u1 * gcl p z0 z1 ∧ gcl p y0 y1 * gcl p w0 w1 = gcl p v0 v1 * gcl p z0 z1) ↔ A = B
  cases A with
  | none =>
    have nx : gcl p x0 x1 ≠ 0 := fun q => na rfl ((F.can0 cx0 cx1).mp q)
    refine oA hra ?_; clear hra; rintro rfl rfl
    cases B with
    | none =>
      refine oA hrb ?_; clear hrb; rintro rfl rfl
      rw [F.zero]
      exact ⟨fun _ => rfl, fun _ => ⟨by grind, by grind⟩⟩
    | some b =>
      have nw : gcl p w0 w1 ≠ 0 := fun q => hrb.1 ((F.can0 cw0 cw1).mp q)
      refine ⟨fun q => ?_, fun q => nomatch q⟩
      have := q.1
      rw [F.zero] at this
      exact absurd (by rw [this]; grind) (F.mul_ne hp nx nw)
  | some a =>
    have nz : gcl p z0 z1 ≠ 0 := fun q => hra.1 ((F.can0 cz0 cz1).mp q)
    cases B with
    | none =>
      have nu : gcl p u0 u1 ≠ 0 := fun q => nb rfl ((F.can0 cu0 cu1).mp q)
      refine oA hrb ?_; clear hrb; rintro rfl rfl
      refine ⟨fun q => ?_, fun q => nomatch q⟩
      have := q.1
      rw [F.zero] at this
      exact absurd (by rw [← this]; grind) (F.mul_ne hp nu nz)
    | some b =>
      have nw : gcl p w0 w1 ≠ 0 := fun q => hrb.1 ((F.can0 cw0 cw1).mp q)
      refine oA (hra.2 _ F) ?_; intro hxa hya
      refine oA (hrb.2 _ F) ?_; intro hxb hyb
      rw [hxa, hya, hxb, hyb]
      have zw := F.mul_ne hp nz nw
      rw [← F.mul] at zw
      constructor
      · intro ⟨q1, q2⟩
        have e1 := F.cancel hp zw (x := cx (gcl p) a) (y := cx (gcl p) b) (by
          rw [F.mul]
          have e1 : gcl p z0 z1 * gcl p w0 w1 * cx (gcl p) a = cx (gcl p) a * gcl p z0 z1 * gcl p w0 w1 := by grind
          have e2 : gcl p z0 z1 * gcl p w0 w1 * cx (gcl p) b = cx (gcl p) b * gcl p w0 w1 * gcl p z0 z1 := by grind
          rw [e1, e2, q1])
        have e2 := F.cancel hp zw (x := cy (gcl p) a) (y := cy (gcl p) b) (by
          rw [F.mul]
          have e1 : gcl p z0 z1 * gcl p w0 w1 * cy (gcl p) a = cy (gcl p) a * gcl p z0 z1 * gcl p w0 w1 := by grind
          have e2 : gcl p z0 z1 * gcl p w0 w1 * cy (gcl p) b = cy (gcl p) b * gcl p w0 w1 * gcl p z0 z1 := by grind
          rw [e1, e2, q2])
        rw [pt_eq F (hA a rfl) (hB b rfl) e1 e2]
      · intro q
        cases q
        exact ⟨by grind, by grind⟩
theorem ok_EqO : cEqO.Ok KK := runF_w k_ok (gam := gO) ok_gO fun ds orc k fa h => by
  refine l2_k h ?_; clear h; rintro u0 u1 rfl h
  refine o3_k h ?_; clear h; rintro p0 x0 x1 q y0 y1 r z0 z1 rfl h
  refine o3_k h ?_; clear h; rintro p1 u0 u1 p2 v0 v1 p w0 w1 rfl h
  · obtain ⟨⟨rfl, rfl, rfl, rfl, rfl⟩, A, B, hA, hB, hra, hrb, na, nb, h⟩ := h
    have hp := fa.1.1.1.pr
    refine oAA fa ?_; clear fa; rintro ⟨⟨cx0, cx1⟩, ⟨cy0, cy1⟩, ⟨cz0, cz1⟩, _⟩ ⟨⟨cu0, cu1⟩, ⟨cv0, cv1⟩, ⟨cw0, cw1⟩, _⟩ _
    have key := rep_eq hp hA hB hra hrb cx0 cx1 cz0 cz1 cu0 cu1 cw0 cw1 na nb
    refine ⟨_, [], LeL.refl _, fun P => ?_⟩
    refine by_rfl (b := p = p ∧ ∀ (e1 f2 : Int), e1 = (x0 * w0 - x1 * w1) % p → f2 = (x0 * w1 + x1 * w0) % p → p = p ∧ ∀ (e3 f4 : Int), e3 = (u0 * z0 - u1 * z1) % p → f4 = (u0 * z1 + u1 * z0) % p → p = p ∧ ((decide (e1 = e3) && decide (f2 = f4)) = true → p = p ∧ ∀ (e5 f6 : Int), e5 = (y0 * w0 - y1 * w1) % p → f6 = (y0 * w1 + y1 * w0) % p → p = p ∧ ∀ (e7 f8 : Int), e7 = (v0 * z0 - v1 * z1) % p → f8 = (v0 * z1 + v1 * z0) % p → p = p ∧ ∃ d', Le (.sb (decide (e5 = e7) && decide (f6 = f8))) d' ∧ k d' orc) ∧ ((decide (e1 = e3) && decide (f2 = f4)) = false → ∃ d', Le (.sb (decide (e1 = e3) && decide (f2 = f4))) d' ∧ k d' orc)) (by kernel_rfl) ?_
    refine ⟨rfl, fun e1 f2 h1 h2 => ⟨rfl, fun e3 f4 h3 h4 => ⟨rfl, fun ht => ⟨rfl, fun e5 f6 h5 h6 => ⟨rfl, fun e7 f8 h7 h8 => ⟨rfl, _, Le.refl _, h _ ?_⟩⟩⟩, fun hf => ⟨_, Le.refl _, h _ ?_⟩⟩⟩⟩
    · rw [dec_iff (cmd hp h1) (cmd hp h2) (cmd hp h3) (cmd hp h4)] at ht
      rw [dec_iff (cmd hp h5) (cmd hp h6) (cmd hp h7) (cmd hp h8)]
      rw [@Fld.t_mul p (G p) (gRing p) (gcl p) (fld p) _ _ _ _ _ _ h1 h2, @Fld.t_mul p (G p) (gRing p) (gcl p) (fld p) _ _ _ _ _ _ h3 h4] at ht
      rw [@Fld.t_mul p (G p) (gRing p) (gcl p) (fld p) _ _ _ _ _ _ h5 h6, @Fld.t_mul p (G p) (gRing p) (gcl p) (fld p) _ _ _ _ _ _ h7 h8]
      rw [← key]
      exact ⟨fun q => ⟨ht, q⟩, fun q => q.2⟩
    · rw [hf]
      refine ⟨fun q => (by cases q), fun q => ?_⟩
      have := (key.mpr q).1
      rw [← hf, dec_iff (cmd hp h1) (cmd hp h2) (cmd hp h3) (cmd hp h4)]
      rw [@Fld.t_mul p (G p) (gRing p) (gcl p) (fld p) _ _ _ _ _ _ h1 h2, @Fld.t_mul p (G p) (gRing p) (gcl p) (fld p) _ _ _ _ _ _ h3 h4]
      exact this
noncomputable def cNorm : Ctr := ⟨530, 740, 7400, fun ds orc k => l1 ds fun u0 => o3 u0 fun p x0 x1 q y0 y1 r z0 z1 => (q = p ∧ r = p) ∧ ∃ t, Cn p t ∧ RepA p (some t) x0 x1 y0 y1 z0 z1 ∧ k (.tup [.fq2 p t.1 t.2.1, .fq2 p t.2.2.1 t.2.2.2]) orc⟩
theorem ok_Norm : cNorm.Ok KK := runF_ok k_ok (gam := gO) ok_gO fun P ds orc k fa h => by
  refine l1_k h ?_; clear h; rintro u0 rfl h
  refine o3_k h ?_; clear h; rintro p0 x0 x1 q y0 y1 p z0 z1 rfl h
  · refine oAEAA h ?_; clear h; rintro ⟨rfl, rfl⟩ t ct hr h
    have hp := fa.1.1.1.pr
    refine by_rfl (b := p = p ∧ ¬(z0 = 0 ∧ z1 = 0) ∧ ∀ (e1 f2 : Int), Can p e1 → Can p f2 → DivR p x0 x1 z0 z1 e1 f2 → p = p ∧ ¬(z0 = 0 ∧ z1 = 0) ∧ ∀ (e3 f4 : Int), Can p e3 → Can p f4 → DivR p y0 y1 z0 z1 e3 f4 → k (.tup [.fq2 p e1 f2, .fq2 p e3 f4]) orc) (by kernel_rfl) ?_
    refine oA hr ?_; clear hr; intro nz hr
    refine ⟨rfl, nz, fun e1 f2 c1 c2 d1 => ⟨rfl, nz, fun e3 f4 c3 c4 d2 => ?_⟩⟩
    have F := fld p
    letI := gRing p
    refine oA (hr _ F) ?_; intro hx hy
    have n : gcl p z0 z1 ≠ 0 := fun q => nz ((F.can0 fa.1.2.2.1.1 fa.1.2.2.1.2).mp q)
    have q1 := d1.ring F
    have q2 := d2.ring F
    have e1' := (F.can c1 c2 ct.1 ct.2.1).mp (F.cancel hp n (by
      have a1 : gcl p z0 z1 * gcl p e1 f2 = gcl p e1 f2 * gcl p z0 z1 := by grind
      have a2 : gcl p z0 z1 * gcl p t.1 t.2.1 = cx (gcl p) t * gcl p z0 z1 := by grind
      rw [a1, a2, q1, hx]))
    have e2' := (F.can c3 c4 ct.2.2.1 ct.2.2.2).mp (F.cancel hp n (by
      have a1 : gcl p z0 z1 * gcl p e3 f4 = gcl p e3 f4 * gcl p z0 z1 := by grind
      have a2 : gcl p z0 z1 * gcl p t.2.2.1 t.2.2.2 = cy (gcl p) t * gcl p z0 z1 := by grind
      rw [a1, a2, q2, hy]))
    rw [e1'.1, e1'.2, e2'.1, e2'.2]
    exact h
end
section
noncomputable def liD (sc : List Int) : List Dat := sc.map fun n => .int n n.natAbs
noncomputable def mil : Nat := 1000000000
noncomputable def fin1 (x : Int) (b : Nat) (k : Dat → List Bool → Prop) : Prop :=
  (decide (-1000000000 < x) = true → (decide (x < 1000000000) = true → k (.int x b) []) ∧ (decide (x < 1000000000) = false → k (.int (x % 1000003) 1000003) [])) ∧ (decide (-1000000000 < x) = false → k (.int (x % 1000003) 1000003) [])
noncomputable def atP (l : List Dat) (n x : Int) (b : Nat) (k : Dat → List Bool → Prop) : Prop := match Nat.ble l.length 1000 with
  | true => (match decide (n < (l.length : Int)) with
    | true => (match Nat.ble l.length 1000 with | true => fin1 x b k | false => False)
    | false => k (.lit (5 * n + 2)) [])
  | false => False
noncomputable def norF (x : Int) : Int := if -1000000000 < x ∧ x < 1000000000 then x else x % 1000003
noncomputable def atF (sc : List Int) (n : Nat) : Int := norF (match sc[n]? with | some x => x | none => 5 * n + 2)
theorem norF_abs (x : Int) : (norF x).natAbs ≤ mil := by
  unfold norF mil
  split <;> omega
theorem atF_abs (sc : List Int) (n : Nat) : (atF sc n).natAbs ≤ mil := norF_abs _
noncomputable def kAt (z : Int) (k : Dat → List Bool → Prop) : Prop := ∀ d, (d = .lit z ∨ ∃ B, d = .int z B) → k d []
theorem fin_of {x : Int} {b : Nat} {k : Dat → List Bool → Prop} (h : kAt (norF x) k) : fin1 x b k := by
  unfold fin1
  unfold norF at h
  refine ⟨fun h1 => ⟨fun h2 => h _ (.inr ⟨b, ?_⟩), fun h2 => h _ (.inr ⟨1000003, ?_⟩)⟩, fun h1 => h _ (.inr ⟨1000003, ?_⟩)⟩ <;> simp only [decide_eq_true_eq, decide_eq_false_iff_not] at *
  · rw [if_pos ⟨h1, h2⟩]
  · rw [if_neg (fun q => h2 q.2)]
  · rw [if_neg (fun q => h1 q.1)]
theorem at_of {l : List Dat} {n x : Int} {b : Nat} {k : Dat → List Bool → Prop} (hl : l.length ≤ 1000) (hn : n < l.length) (h : kAt (norF x) k) : atP l n x b k := by
  unfold atP
  rw [Nat.ble_eq_true_of_le hl, decide_eq_true hn]
  exact fin_of h
theorem at_0 (P : Params) {k : Dat → List Bool → Prop} : ∀ sc : List Int, sc.length ≤ 100 → kAt (atF sc 0) k → runF (KK P) [] 700 7000 618 [.lst (liD sc), .lit 0] [] k
  | [], _, h => by_rfl (b := k (.lit (5 * 0 + 2)) []) (by kernel_rfl) (h _ (.inl rfl))
  | x0 :: r, hl, h => by_rfl (b := atP (liD (x0 :: r)) 0 x0 x0.natAbs k) (by kernel_rfl) (at_of (by simp only [liD, List.length_map]; omega) (by simp only [liD, List.length_map, List.length_cons]; omega) h)
theorem at_3 (P : Params) {k : Dat → List Bool → Prop} : ∀ sc : List Int, sc.length ≤ 100 → kAt (atF sc 3) k → runF (KK P) [] 700 7000 618 [.lst (liD sc), .lit 3] [] k
  | [], _, h => by_rfl (b := k (.lit (5 * 3 + 2)) []) (by kernel_rfl) (h _ (.inl rfl))
  | [x0], _, h => by_rfl (b := k (.lit (5 * 3 + 2)) []) (by kernel_rfl) (h _ (.inl rfl))
  | [x0, x1], _, h => by_rfl (b := k (.lit (5 * 3 + 2)) []) (by kernel_rfl) (h _ (.inl rfl))
  | [x0, x1, x2], _, h => by_rfl (b := k (.lit (5 * 3 + 2)) []) (by kernel_rfl) (h _ (.inl rfl))
  | x0 :: x1 :: x2 :: x3 :: r, hl, h => by_rfl (b := atP (liD (x0 :: x1 :: x2 :: x3 :: r)) 3 x3 x3.natAbs k) (by kernel_rfl) (at_of (by simp only [liD, List.length_map]; omega) (by simp only [liD, List.length_map, List.length_cons]; omega) h)
theorem at_4 (P : Params) {k : Dat → List Bool → Prop} : ∀ sc : List Int, sc.length ≤ 100 → kAt (atF sc 4) k → runF (KK P) [] 700 7000 618 [.lst (liD sc), .lit 4] [] k
  | [], _, h => by_rfl (b := k (.lit (5 * 4 + 2)) []) (by kernel_rfl) (h _ (.inl rfl))
  | [x0], _, h => by_rfl (b := k (.lit (5 * 4 + 2)) []) (by kernel_rfl) (h _ (.inl rfl))
  | [x0, x1], _, h => by_rfl (b := k (.lit (5 * 4 + 2)) []) (by kernel_rfl) (h _ (.inl rfl))
  | [x0, x1, x2], _, h => by_rfl (b := k (.lit (5 * 4 + 2)) []) (by kernel_rfl) (h _ (.inl rfl))
  | [x0, x1, x2, x3], _, h => by_rfl (b := k (.lit (5 * 4 + 2)) []) (by kernel_rfl) (h _ (.inl rfl))
  | x0 :: x1 :: x2 :: x3 :: x4 :: r, hl, h => by_rfl (b := atP (liD (x0 :: x1 :: x2 :: x3 :: x4 :: r)) 4 x4 x4.natAbs k) (by kernel_rfl) (at_of (by simp only [liD, List.length_map]; omega) (by simp only [liD, List.length_map, List.length_cons]; omega) h)
theorem at_5 (P : Params) {k : Dat → List Bool → Prop} : ∀ sc : List Int, sc.length ≤ 100 → kAt (atF sc 5) k → runF (KK P) [] 700 7000 618 [.lst (liD sc), .lit 5] [] k
  | [], _, h => by_rfl (b := k (.lit (5 * 5 + 2)) []) (by kernel_rfl) (h _ (.inl rfl))
  | [x0], _, h => by_rfl (b := k (.lit (5 * 5 + 2)) []) (by kernel_rfl) (h _ (.inl rfl))
  | [x0, x1], _, h => by_rfl (b := k (.lit (5 * 5 + 2)) []) (by kernel_rfl) (h _ (.inl rfl))
  | [x0, x1, x2], _, h => by_rfl (b := k (.lit (5 * 5 + 2)) []) (by kernel_rfl) (h _ (.inl rfl))
  | [x0, x1, x2, x3], _, h => by_rfl (b := k (.lit (5 * 5 + 2)) []) (by kernel_rfl) (h _ (.inl rfl))
  | [x0, x1, x2, x3, x4], _, h => by_rfl (b := k (.lit (5 * 5 + 2)) []) (by kernel_rfl) (h _ (.inl rfl))
  | x0 :: x1 :: x2 :: x3 :: x4 :: x5 :: r, hl, h => by_rfl (b := atP (liD (x0 :: x1 :: x2 :: x3 :: x4 :: x5 :: r)) 5 x5 x5.natAbs k) (by kernel_rfl) (at_of (by simp only [liD, List.length_map]; omega) (by simp only [liD, List.length_map, List.length_cons]; omega) h)
theorem at_6 (P : Params) {k : Dat → List Bool → Prop} : ∀ sc : List Int, sc.length ≤ 100 → kAt (atF sc 6) k → runF (KK P) [] 700 7000 618 [.lst (liD sc), .lit 6] [] k
  | [], _, h => by_rfl (b := k (.lit (5 * 6 + 2)) []) (by kernel_rfl) (h _ (.inl rfl))
  | [x0], _, h => by_rfl (b := k (.lit (5 * 6 + 2)) []) (by kernel_rfl) (h _ (.inl rfl))
  | [x0, x1], _, h => by_rfl (b := k (.lit (5 * 6 + 2)) []) (by kernel_rfl) (h _ (.inl rfl))
  | [x0, x1, x2], _, h => by_rfl (b := k (.lit (5 * 6 + 2)) []) (by kernel_rfl) (h _ (.inl rfl))
  | [x0, x1, x2, x3], _, h => by_rfl (b := k (.lit (5 * 6 + 2)) []) (by kernel_rfl) (h _ (.inl rfl))
  | [x0, x1, x2, x3, x4], _, h => by_rfl (b := k (.lit (5 * 6 + 2)) []) (by kernel_rfl) (h _ (.inl rfl))
  | [x0, x1, x2, x3, x4, x5], _, h => by_rfl (b := k (.lit (5 * 6 + 2)) []) (by kernel_rfl) (h _ (.inl rfl))
  | x0 :: x1 :: x2 :: x3 :: x4 :: x5 :: x6 :: r, hl, h => by_rfl (b := atP (liD (x0 :: x1 :: x2 :: x3 :: x4 :: x5 :: x6 :: r)) 6 x6 x6.natAbs k) (by kernel_rfl) (at_of (by simp only [liD, List.length_map]; omega) (by simp only [liD, List.length_map, List.length_cons]; omega) h)
theorem at_7 (P : Params) {k : Dat → List Bool → Prop} : ∀ sc : List Int, sc.length ≤ 100 → kAt (atF sc 7) k → runF (KK P) [] 700 7000 618 [.lst (liD sc), .lit 7] [] k
  | [], _, h => by_rfl (b := k (.lit (5 * 7 + 2)) []) (by kernel_rfl) (h _ (.inl rfl))
  | [x0], _, h => by_rfl (b := k (.lit (5 * 7 + 2)) []) (by kernel_rfl) (h _ (.inl rfl))
  | [x0, x1], _, h => by_rfl (b := k (.lit (5 * 7 + 2)) []) (by kernel_rfl) (h _ (.inl rfl))
  | [x0, x1, x2], _, h => by_rfl (b := k (.lit (5 * 7 + 2)) []) (by kernel_rfl) (h _ (.inl rfl))
  | [x0, x1, x2, x3], _, h => by_rfl (b := k (.lit (5 * 7 + 2)) []) (by kernel_rfl) (h _ (.inl rfl))
  | [x0, x1, x2, x3, x4], _, h => by_rfl (b := k (.lit (5 * 7 + 2)) []) (by kernel_rfl) (h _ (.inl rfl))
  | [x0, x1, x2, x3, x4, x5], _, h => by_rfl (b := k (.lit (5 * 7 + 2)) []) (by kernel_rfl) (h _ (.inl rfl))
  | [x0, x1, x2, x3, x4, x5, x6], _, h => by_rfl (b := k (.lit (5 * 7 + 2)) []) (by kernel_rfl) (h _ (.inl rfl))
  | x0 :: x1 :: x2 :: x3 :: x4 :: x5 :: x6 :: x7 :: r, hl, h => by_rfl (b := atP (liD (x0 :: x1 :: x2 :: x3 :: x4 :: x5 :: x6 :: x7 :: r)) 7 x7 x7.natAbs k) (by kernel_rfl) (at_of (by simp only [liD, List.length_map]; omega) (by simp only [liD, List.length_map, List.length_cons]; omega) h)
theorem at_8 (P : Params) {k : Dat → List Bool → Prop} : ∀ sc : List Int, sc.length ≤ 100 → kAt (atF sc 8) k → runF (KK P) [] 700 7000 618 [.lst (liD sc), .lit 8] [] k
  | [], _, h => by_rfl (b := k (.lit (5 * 8 + 2)) []) (by kernel_rfl) (h _ (.inl rfl))
  | [x0], _, h => by_rfl (b := k (.lit (5 * 8 + 2)) []) (by kernel_rfl) (h _ (.inl rfl))
  | [x0, x1], _, h => by_rfl (b := k (.lit (5 * 8 + 2)) []) (by kernel_rfl) (h _ (.inl rfl))
  | [x0, x1, x2], _, h => by_rfl (b := k (.lit (5 * 8 + 2)) []) (by kernel_rfl) (h _ (.inl rfl))
  | [x0, x1, x2, x3], _, h => by_rfl (b := k (.lit (5 * 8 + 2)) []) (by kernel_rfl) (h _ (.inl rfl))
  | [x0, x1, x2, x3, x4], _, h => by_rfl (b := k (.lit (5 * 8 + 2)) []) (by kernel_rfl) (h _ (.inl rfl))
  | [x0, x1, x2, x3, x4, x5], _, h => by_rfl (b := k (.lit (5 * 8 + 2)) []) (by kernel_rfl) (h _ (.inl rfl))
  | [x0, x1, x2, x3, x4, x5, x6], _, h => by_rfl (b := k (.lit (5 * 8 + 2)) []) (by kernel_rfl) (h _ (.inl rfl))
  | [x0, x1, x2, x3, x4, x5, x6, x7], _, h => by_rfl (b := k (.lit (5 * 8 + 2)) []) (by kernel_rfl) (h _ (.inl rfl))
  | x0 :: x1 :: x2 :: x3 :: x4 :: x5 :: x6 :: x7 :: x8 :: r, hl, h => by_rfl (b := atP (liD (x0 :: x1 :: x2 :: x3 :: x4 :: x5 :: x6 :: x7 :: x8 :: r)) 8 x8 x8.natAbs k) (by kernel_rfl) (at_of (by simp only [liD, List.length_map]; omega) (by simp only [liD, List.length_map, List.length_cons]; omega) h)
theorem at_9 (P : Params) {k : Dat → List Bool → Prop} : ∀ sc : List Int, sc.length ≤ 100 → kAt (atF sc 9) k → runF (KK P) [] 700 7000 618 [.lst (liD sc), .lit 9] [] k
  | [], _, h => by_rfl (b := k (.lit (5 * 9 + 2)) []) (by kernel_rfl) (h _ (.inl rfl))
  | [x0], _, h => by_rfl (b := k (.lit (5 * 9 + 2)) []) (by kernel_rfl) (h _ (.inl rfl))
  | [x0, x1], _, h => by_rfl (b := k (.lit (5 * 9 + 2)) []) (by kernel_rfl) (h _ (.inl rfl))
  | [x0, x1, x2], _, h => by_rfl (b := k (.lit (5 * 9 + 2)) []) (by kernel_rfl) (h _ (.inl rfl))
  | [x0, x1, x2, x3], _, h => by_rfl (b := k (.lit (5 * 9 + 2)) []) (by kernel_rfl) (h _ (.inl rfl))
  | [x0, x1, x2, x3, x4], _, h => by_rfl (b := k (.lit (5 * 9 + 2)) []) (by kernel_rfl) (h _ (.inl rfl))
  | [x0, x1, x2, x3, x4, x5], _, h => by_rfl (b := k (.lit (5 * 9 + 2)) []) (by kernel_rfl) (h _ (.inl rfl))
  | [x0, x1, x2, x3, x4, x5, x6], _, h => by_rfl (b := k (.lit (5 * 9 + 2)) []) (by kernel_rfl) (h _ (.inl rfl))
  | [x0, x1, x2, x3, x4, x5, x6, x7], _, h => by_rfl (b := k (.lit (5 * 9 + 2)) []) (by kernel_rfl) (h _ (.inl rfl))
  | [x0, x1, x2, x3, x4, x5, x6, x7, x8], _, h => by_rfl (b := k (.lit (5 * 9 + 2)) []) (by kernel_rfl) (h _ (.inl rfl))
  | x0 :: x1 :: x2 :: x3 :: x4 :: x5 :: x6 :: x7 :: x8 :: x9 :: r, hl, h => by_rfl (b := atP (liD (x0 :: x1 :: x2 :: x3 :: x4 :: x5 :: x6 :: x7 :: x8 :: x9 :: r)) 9 x9 x9.natAbs k) (by kernel_rfl) (at_of (by simp only [liD, List.length_map]; omega) (by simp only [liD, List.length_map, List.length_cons]; omega) h)
theorem at_10 (P : Params) {k : Dat → List Bool → Prop} : ∀ sc : List Int, sc.length ≤ 100 → kAt (atF sc 10) k → runF (KK P) [] 700 7000 618 [.lst (liD sc), .lit 10] [] k
  | [], _, h => by_rfl (b := k (.lit (5 * 10 + 2)) []) (by kernel_rfl) (h _ (.inl rfl))
  | [x0], _, h => by_rfl (b := k (.lit (5 * 10 + 2)) []) (by kernel_rfl) (h _ (.inl rfl))
  | [x0, x1], _, h => by_rfl (b := k (.lit (5 * 10 + 2)) []) (by kernel_rfl) (h _ (.inl rfl))
  | [x0, x1, x2], _, h => by_rfl (b := k (.lit (5 * 10 + 2)) []) (by kernel_rfl) (h _ (.inl rfl))
  | [x0, x1, x2, x3], _, h => by_rfl (b := k (.lit (5 * 10 + 2)) []) (by kernel_rfl) (h _ (.inl rfl))
  | [x0, x1, x2, x3, x4], _, h => by_rfl (b := k (.lit (5 * 10 + 2)) []) (by kernel_rfl) (h _ (.inl rfl))
  | [x0, x1, x2, x3, x4, x5], _, h => by_rfl (b := k (.lit (5 * 10 + 2)) []) (by kernel_rfl) (h _ (.inl rfl))
  | [x0, x1, x2, x3, x4, x5, x6], _, h => by_rfl (b := k (.lit (5 * 10 + 2)) []) (by kernel_rfl) (h _ (.inl rfl))
  | [x0, x1, x2, x3, x4, x5, x6, x7], _, h => by_rfl (b := k (.lit (5 * 10 + 2)) []) (by kernel_rfl) (h _ (.inl rfl))
  | [x0, x1, x2, x3, x4, x5, x6, x7, x8], _, h => by_rfl (b := k (.lit (5 * 10 + 2)) []) (by kernel_rfl) (h _ (.inl rfl))
  | [x0, x1, x2, x3, x4, x5, x6, x7, x8, x9], _, h => by_rfl (b := k (.lit (5 * 10 + 2)) []) (by kernel_rfl) (h _ (.inl rfl))
  | x0 :: x1 :: x2 :: x3 :: x4 :: x5 :: x6 :: x7 :: x8 :: x9 :: x10 :: r, hl, h => by_rfl (b := atP (liD (x0 :: x1 :: x2 :: x3 :: x4 :: x5 :: x6 :: x7 :: x8 :: x9 :: x10 :: r)) 10 x10 x10.natAbs k) (by kernel_rfl) (at_of (by simp only [liD, List.length_map]; omega) (by simp only [liD, List.length_map, List.length_cons]; omega) h)
theorem at_11 (P : Params) {k : Dat → List Bool → Prop} : ∀ sc : List Int, sc.length ≤ 100 → kAt (atF sc 11) k → runF (KK P) [] 700 7000 618 [.lst (liD sc), .lit 11] [] k
  | [], _, h => by_rfl (b := k (.lit (5 * 11 + 2)) []) (by kernel_rfl) (h _ (.inl rfl))
  | [x0], _, h => by_rfl (b := k (.lit (5 * 11 + 2)) []) (by kernel_rfl) (h _ (.inl rfl))
  | [x0, x1], _, h => by_rfl (b := k (.lit (5 * 11 + 2)) []) (by kernel_rfl) (h _ (.inl rfl))
  | [x0, x1, x2], _, h => by_rfl (b := k (.lit (5 * 11 + 2)) []) (by kernel_rfl) (h _ (.inl rfl))
  | [x0, x1, x2, x3], _, h => by_rfl (b := k (.lit (5 * 11 + 2)) []) (by kernel_rfl) (h _ (.inl rfl))
  | [x0, x1, x2, x3, x4], _, h => by_rfl (b := k (.lit (5 * 11 + 2)) []) (by kernel_rfl) (h _ (.inl rfl))
  | [x0, x1, x2, x3, x4, x5], _, h => by_rfl (b := k (.lit (5 * 11 + 2)) []) (by kernel_rfl) (h _ (.inl rfl))
  | [x0, x1, x2, x3, x4, x5, x6], _, h => by_rfl (b := k (.lit (5 * 11 + 2)) []) (by kernel_rfl) (h _ (.inl rfl))
  | [x0, x1, x2, x3, x4, x5, x6, x7], _, h => by_rfl (b := k (.lit (5 * 11 + 2)) []) (by kernel_rfl) (h _ (.inl rfl))
  | [x0, x1, x2, x3, x4, x5, x6, x7, x8], _, h => by_rfl (b := k (.lit (5 * 11 + 2)) []) (by kernel_rfl) (h _ (.inl rfl))
  | [x0, x1, x2, x3, x4, x5, x6, x7, x8, x9], _, h => by_rfl (b := k (.lit (5 * 11 + 2)) []) (by kernel_rfl) (h _ (.inl rfl))
  | [x0, x1, x2, x3, x4, x5, x6, x7, x8, x9, x10], _, h => by_rfl (b := k (.lit (5 * 11 + 2)) []) (by kernel_rfl) (h _ (.inl rfl))
  | x0 :: x1 :: x2 :: x3 :: x4 :: x5 :: x6 :: x7 :: x8 :: x9 :: x10 :: x11 :: r, hl, h => by_rfl (b := atP (liD (x0 :: x1 :: x2 :: x3 :: x4 :: x5 :: x6 :: x7 :: x8 :: x9 :: x10 :: x11 :: r)) 11 x11 x11.natAbs k) (by kernel_rfl) (at_of (by simp only [liD, List.length_map]; omega) (by simp only [liD, List.length_map, List.length_cons]; omega) h)
noncomputable def cLat : Ctr := ⟨618, 700, 7000, fun ds orc k => l2 ds fun l x => dL x fun n => ∃ sc : List Int, l = .lst (liD sc) ∧ sc.length ≤ 63 ∧ gd (decide (n = 0) || (decide (3 ≤ n) && decide (n ≤ 11))) (k (.int (atF sc n.toNat) mil) orc)⟩
theorem ok_Lat : cLat.Ok KK := runF_w k_ok (gam := []) g0 fun ds orc k fa h => by
  refine l2_k h ?_; clear h; rintro l x rfl h
  refine dL_k h ?_; clear h; rintro n rfl h
  · refine oEAA h ?_; clear h; rintro sc rfl hl h
    refine gd_k h ?_; clear h; rintro hn h
    · simp only [Bool.or_eq_true, Bool.and_eq_true, decide_eq_true_eq] at hn
      refine ⟨_, [], LeL.refl _, fun P => ?_⟩
      have hk : kAt (atF sc n.toNat) fun d _ => ∃ d', Le d d' ∧ k d' orc := fun d e => by
        rcases e with rfl | ⟨B, rfl⟩
        · exact ⟨_, Le.int (atF_abs _ _), h⟩
        · exact ⟨_, Le.wid (atF_abs _ _), h⟩
      have : n = 0 ∨ n = 3 ∨ n = 4 ∨ n = 5 ∨ n = 6 ∨ n = 7 ∨ n = 8 ∨ n = 9 ∨ n = 10 ∨ n = 11 := by omega
      rcases this with rfl | rfl | rfl | rfl | rfl | rfl | rfl | rfl | rfl | rfl
      · exact at_0 P sc (by omega) hk
      · exact at_3 P sc (by omega) hk
      · exact at_4 P sc (by omega) hk
      · exact at_5 P sc (by omega) hk
      · exact at_6 P sc (by omega) hk
      · exact at_7 P sc (by omega) hk
      · exact at_8 P sc (by omega) hk
      · exact at_9 P sc (by omega) hk
      · exact at_10 P sc (by omega) hk
      · exact at_11 P sc (by omega) hk
end
section
theorem Le.io {d : Dat} {n : Int} {B m : Nat} (h : intOf d = some (n, B)) (hb : Nat.ble B m = true) : Le d (.int n m) := fun φ v r => by
  refine oAE (intOf_R h r) ?_; rintro q t rfl
  exact R.int (Nat.le_trans q (Nat.le_of_ble_eq_true hb))
theorem LeL.two {a b c d : Dat} (h : Le a c) (k : Le b d) : LeL [a, b] [c, d] := LeL.cons h (LeL.cons k (LeL.refl _))
section
variable {p : Int} {R : Type} [Lean.Grind.CommRing R] {c : Int → Int → R}
theorem Fld.t_add1 (F : Fld p c) {a b d e x y : Int} (h1 : x = (a + 1 * d) % p) (h2 : y = (b + 1 * e) % p) : c x y = c a b + c d e := by rw [h1, h2, F.mod, Int.one_mul, Int.one_mul, F.add]
theorem Fld.t_sub1 (F : Fld p c) {a b d e x y : Int} (h1 : x = (a + -1 * d) % p) (h2 : y = (b + -1 * e) % p) : c x y = c a b - c d e := by
  rw [h1, h2, F.mod, ← F.sub]; congr 1 <;> omega
end
noncomputable def qI (d : Dat) (m : Nat) (f : Int → Prop) : Prop := match intOf d with | some (n, B) => gd (Nat.ble B m) (f n) | none => False
theorem qI_x {d : Dat} {m : Nat} {f : Int → Prop} (h : qI d m f) : ∃ n, Le d (.int n m) ∧ f n := by
  unfold qI at h
  cases e : intOf d with
  | none => rw [e] at h; exact h.elim
  | some x =>
    obtain ⟨n, B⟩ := x
    rw [e] at h
    replace h := gd_x h
    exact ⟨n, Le.io e h.1, h.2⟩
theorem qI_k {d : Dat} {m : Nat} {f : Int → Prop} (h : qI d m f) {G : Prop} (k : ∀ n, Le d (.int n m) → f n → G) : G := oEA (qI_x h) k
noncomputable def q2 (d : Dat) (m : Nat) (f : Int → Int → Prop) : Prop := t2 d fun a b => qI a m fun x => qI b m fun y => f x y
theorem q2_x {d : Dat} {m : Nat} {f : Int → Int → Prop} (h : q2 d m f) : ∃ x y, Le d (.tup [.int x m, .int y m]) ∧ f x y := by
  refine t2_k h ?_; clear h; rintro a b rfl h
  refine qI_k h ?_; clear h; rintro x hx h
  refine qI_k h ?_; clear h; rintro y hy h
  exact ⟨x, y, Le.tup (LeL.two hx hy), h⟩
theorem q2_k {d : Dat} {m : Nat} {f : Int → Int → Prop} (h : q2 d m f) {G : Prop} (k : ∀ x y, Le d (.tup [.int x m, .int y m]) → f x y → G) : G := oEEA (q2_x h) k
noncomputable def q4 (d : Dat) (m : Nat) (f : Int → Int → Int → Int → Prop) : Prop := t2 d fun a b => q2 a m fun x i => q2 b m fun y j => f x i y j
theorem q4_x {d : Dat} {m : Nat} {f : Int → Int → Int → Int → Prop} (h : q4 d m f) : ∃ x i y j, Le d (.tup [.tup [.int x m, .int i m], .tup [.int y m, .int j m]]) ∧ f x i y j := by
  refine t2_k h ?_; clear h; rintro a b rfl h
  refine q2_k h ?_; clear h; rintro x i hx h
  refine q2_k h ?_; clear h; rintro y j hy h
  exact ⟨x, i, y, j, Le.tup (LeL.two hx hy), h⟩
theorem q4_k {d : Dat} {m : Nat} {f : Int → Int → Int → Int → Prop} (h : q4 d m f) {G : Prop} (k : ∀ x i y j, Le d (.tup [.tup [.int x m, .int i m], .tup [.int y m, .int j m]]) → f x i y j → G) : G := oEEEEA (q4_x h) k
noncomputable def cLm : Ctr := ⟨625, 700, 7000, fun ds orc k => l3 ds fun x y z => dP x fun p => q2 y 1000 fun a b => q2 z 1000 fun c d => ∀ e f, e = (a * c - b * d) % p → f = (a * d + b * c) % p → k (.tup [.int e 127, .int f 127]) orc⟩
theorem ok_Lm : cLm.Ok KK := runF_w k_ok (gam := []) g0 fun ds orc k fa h => by
  refine l3_k h ?_; clear h; rintro x y z rfl h
  refine dP_k h ?_; clear h; rintro p rfl h
  refine q2_k h ?_; clear h; rintro a b hy h
  refine q2_k h ?_; clear h; rintro c d hz h
  refine ⟨[.prm p, .tup [.int a 1000, .int b 1000], .tup [.int c 1000, .int d 1000]], orc, LeL.cons (Le.refl _) (LeL.two hy hz), fun P => ?_⟩
  exact by_rfl (b := ∃ d', Le (.tup [.int ((a * c - b * d) % p) 127, .int ((a * d + b * c) % p) 127]) d' ∧ k d' orc) (by kernel_rfl) ⟨_, Le.refl _, h _ _ rfl rfl⟩
noncomputable def cLp : Ctr := ⟨632, 700, 7000, fun ds orc k => l4 ds fun x y z w => dP x fun p => q2 y 1000 fun a b => q2 z 1000 fun c d => dL w fun s => gd (Nat.ble s.natAbs 1) (∀ e f, e = (a + s * c) % p → f = (b + s * d) % p → k (.tup [.int e 127, .int f 127]) orc)⟩
theorem ok_Lp : cLp.Ok KK := runF_w k_ok (gam := []) g0 fun ds orc k fa h => by
  refine l4_k h ?_; clear h; rintro x y z w rfl h
  refine dP_k h ?_; clear h; rintro p rfl h
  refine q2_k h ?_; clear h; rintro a b hy h
  refine q2_k h ?_; clear h; rintro c d hz h
  refine dL_k h ?_; clear h; rintro s rfl h
  refine gd_k h ?_; clear h; rintro b5 h
  refine ⟨[.prm p, .tup [.int a 1000, .int b 1000], .tup [.int c 1000, .int d 1000], .int s 1], orc, LeL.cons (Le.refl _) (LeL.cons hy (LeL.two hz (Le.int (Nat.le_of_ble_eq_true b5)))), fun P => ?_⟩
  exact by_rfl (b := ∃ d', Le (.tup [.int ((a + s * c) % p) 127, .int ((b + s * d) % p) 127]) d' ∧ k d' orc) (by kernel_rfl) ⟨_, Le.refl _, h _ _ rfl rfl⟩
theorem pw_all : allP (fun p a => a == 0 || (((Builtin.powMod a.toNat (p - 2).toNat p.toNat : Nat) : Int) % p * a) % p == 1) = true := by decide +kernel
noncomputable def cLo : Ctr := ⟨639, 690, 6900, fun ds orc k => l3 ds fun x y z => dP x fun p => q2 y 127 fun a b => q2 z 127 fun c d => (Can p c ∧ Can p d) ∧ ¬ (c = 0 ∧ d = 0) ∧ ∀ e f, Can p e → Can p f → DivR p a b c d e f → k (.tup [.int e 127, .int f 127]) orc⟩
theorem ok_Lo : cLo.Ok KK := runF_w k_ok (gam := [cLm]) (gc ok_Lm g0) fun ds orc k fa h => by
  refine l3_k h ?_; clear h; rintro x y z rfl h
  refine dP_k h ?_; clear h; rintro p rfl h
  refine q2_k h ?_; clear h; rintro a b hy h
  refine q2_k h ?_; clear h; rintro c d hz h
  · · refine oAA h ?_; clear h; rintro ⟨cc, cd⟩ hn h
      have hp := cc.pr
      have p1 := hp.ge
      refine ⟨[.prm p, .tup [.int a 127, .int b 127], .tup [.int c 127, .int d 127]], orc, LeL.cons (Le.refl _) (LeL.two hy hz), fun P => ?_⟩
      refine by_rfl (b := 0 ≤ p - 2 ∧ ∀ (e1 f2 : Int), e1 = (a * (c * (↑(Builtin.powMod (Int.toNat ((c * c + d * d) % p % p)) (Int.toNat (p - 2)) (Int.toNat p)) % p) % p) - b * ((p - d) * (↑(Builtin.powMod (Int.toNat ((c * c + d * d) % p % p)) (Int.toNat (p - 2)) (Int.toNat p)) % p) % p)) % p → f2 = (a * ((p - d) * (↑(Builtin.powMod (Int.toNat ((c * c + d * d) % p % p)) (Int.toNat (p - 2)) (Int.toNat p)) % p) % p) + b * (c * (↑(Builtin.powMod (Int.toNat ((c * c + d * d) % p % p)) (Int.toNat (p - 2)) (Int.toNat p)) % p) % p)) % p → ∃ d', Le (Dat.tup [Dat.int e1 127, Dat.int f2 127]) d' ∧ k d' orc) (by kernel_rfl) ?_
      have nn : ¬ p ∣ c * c + d * d := fun q => hn ⟨cc.dvd (norm_ne hp q).1, cd.dvd (norm_ne hp q).2⟩
      rw [Int.emod_emod]
      have cn := Can.of hp (c * c + d * d)
      have n0 : (c * c + d * d) % p ≠ 0 := fun q => nn (Int.dvd_of_emod_eq_zero q)
      have key := allP_get pw_all hp cn.lo cn.hi
      simp only [Bool.or_eq_true, beq_iff_eq] at key
      have key := key.resolve_left n0
      have nd := dvd_mod p (c * c + d * d)
      generalize (c * c + d * d) % p = N at key nd
      generalize ((Builtin.powMod N.toNat (p - 2).toNat p.toNat : Nat) : Int) % p = w at key
      have F := fld p
      letI := gRing p
      refine ⟨by omega, fun e f he hf => ⟨_, Le.refl _, h e f (cmd hp he) (cmd hp hf) ?_⟩⟩
      have r := F.t_mul he hf
      have q1 : gcl p (c * w % p) ((p - d) * w % p) = gcl p c (-d) * gcl p w 0 := by
        rw [F.mod, ← F.mul, F.eq]
        exact ⟨⟨0, by grind⟩, ⟨w, by grind⟩⟩
      have q2 : gcl p c (-d) * gcl p c d = gcl p (c * c + d * d) 0 := by
        rw [← F.mul]; congr 1 <;> grind
      have q3 : gcl p w 0 * gcl p (c * c + d * d) 0 = 1 := by
        have e1 : gcl p (c * c + d * d) 0 = gcl p N 0 := ((F.eq _ _ _ _).mpr ⟨nd, by simp⟩).symm
        rw [e1, ← F.im, ← F.one]
        have := F.mod (w * N) 0
        rw [key, Int.zero_emod] at this
        exact this.symm
      have : gcl p e f * gcl p c d = gcl p a b := by
        rw [r, q1]
        have : gcl p a b * (gcl p c (-d) * gcl p w 0) * gcl p c d = gcl p a b * (gcl p w 0 * (gcl p c (-d) * gcl p c d)) := by grind
        rw [this, q2, q3]; grind
      rw [← F.mul, F.eq] at this
      exact this
noncomputable def ptI (q : Pt4) : Dat := .tup [.tup [.int q.1 127, .int q.2.1 127], .tup [.int q.2.2.1 127, .int q.2.2.2 127]]
noncomputable def PreS (p : Int) (a b : Pt4) : Prop := a.1 = b.1 ∧ a.2.1 = b.2.1 → (a = b ∧ NY a) ∨ (a ≠ b ∧ (a.2.2.1 + b.2.2.1) % p = 0 ∧ (a.2.2.2 + b.2.2.2) % p = 0)
noncomputable def cLs : Ctr := ⟨646, 680, 6800, fun ds orc k => l3 ds fun d a b => dP d fun p => oN a (oN b (k .none orc) <| dT b fun l => k (.tup l) orc) <| oN b (dT a fun l => k (.tup l) orc) <|
  q4 a 127 fun x i y j => q4 b 127 fun z s w t => Cn p (x, i, y, j) ∧ Cn p (z, s, w, t) ∧ PreS p (x, i, y, j) (z, s, w, t) ∧ (NoneC (x, i, y, j) (z, s, w, t) → k .none orc) ∧ (¬ NoneC (x, i, y, j) (z, s, w, t) → ∀ r, Cn p r → SumR p (x, i, y, j) (z, s, w, t) r → k (ptI r) orc)⟩
theorem eqv2 (a b c d : Int) : xor false (PyData.eqv (.tuple [.int a, .int b]) (.tuple [.int c, .int d])) = (decide (a = c) && decide (b = d)) := by
  simp only [Bool.false_xor, PyData.eqv, PyData.eqvAll, Bool.and_true]
  rfl
theorem eqv4 (a b c d x y z w : Int) : xor false (PyData.eqv (.tuple [.tuple [.int a, .int b], .tuple [.int c, .int d]]) (.tuple [.tuple [.int x, .int y], .tuple [.int z, .int w]])) = decide ((a, b, c, d) = (x, y, z, w)) := by
  simp only [Bool.false_xor, PyData.eqv, PyData.eqvAll, Bool.and_true]
  rw [Bool.eq_iff_iff]
  simp only [Bool.and_eq_true, beq_iff_eq, decide_eq_true_eq, Prod.mk.injEq]
  exact ⟨fun ⟨⟨a, b⟩, c, d⟩ => ⟨a, b, c, d⟩, fun ⟨a, b, c, d⟩ => ⟨⟨a, b⟩, c, d⟩⟩
theorem and_f {a b c d : Int} (h : ¬ (a = c ∧ b = d)) : (decide (a = c) && decide (b = d)) = false := by
  cases q : (decide (a = c) && decide (b = d)) with
  | false => rfl
  | true => exact absurd (by simpa using q) h
theorem ok_Ls : cLs.Ok KK := runF_w k_ok (gam := [cLo, cLp, cLm]) (gc ok_Lo (gc ok_Lp (gc ok_Lm g0))) fun ds orc k fa h => by
  refine l3_k h ?_; clear h; rintro d a b rfl h
  refine dP_k h ?_; clear h; rintro p rfl h
  refine oN_k h ?_ ?_ <;> clear h
  · rintro rfl h
    refine oN_k h ?_ ?_ <;> clear h
    · rintro rfl h
      exact ⟨_, orc, LeL.refl _, fun P => by_rfl (b := ∃ d', Le .none d' ∧ k d' orc) (by kernel_rfl) ⟨_, Le.refl _, h⟩⟩
    · intro h
      refine dT_k h ?_; clear h; rintro l rfl h
      exact ⟨_, orc, LeL.refl _, fun P => by_rfl (b := ∃ d', Le (.tup l) d' ∧ k d' orc) (by kernel_rfl) ⟨_, Le.refl _, h⟩⟩
  intro h
  refine oN_k h ?_ ?_ <;> clear h
  · rintro rfl h
    refine dT_k h ?_; clear h; rintro l rfl h
    exact ⟨_, orc, LeL.refl _, fun P => by_rfl (b := ∃ d', Le (.tup l) d' ∧ k d' orc) (by kernel_rfl) ⟨_, Le.refl _, h⟩⟩
  · intro h
    refine q4_k h ?_; clear h; rintro x i y j ha h
    refine q4_k h ?_; clear h; rintro z s w t hb h
    · refine oAAAA h ?_; clear h; intro ca cb hP h1 h2
      have hp := ca.1.pr
      have p1 := hp.ge
      have hl : LeL [.prm p, a, b] [.prm p, .tup [.tup [.int x 127, .int i 127], .tup [.int y 127, .int j 127]], .tup [.tup [.int z 127, .int s 127], .tup [.int w 127, .int t 127]]] :=
        LeL.cons (Le.refl _) (LeL.two ha hb)
      by_cases hx : x = z ∧ i = s
      · rcases hP hx with ⟨e, hy⟩ | ⟨ne, o1, o2⟩
        · refine ⟨_, [true, false, true], hl, fun P => ?_⟩
          refine by_rfl (b := (xor false (PyData.eqv (.tuple [.int x, .int i]) (.tuple [.int z, .int s]))) = true ∧ ∀ (e1 f2 : Int), e1 = (y + 1 * w) % p → f2 = (j + 1 * t) % p → (xor false (PyData.eqv (.tuple [.int e1, .int f2]) (.tuple [.int 0, .int 0]))) = false ∧ (xor false (PyData.eqv (.tuple [.tuple [.int x, .int i], .tuple [.int y, .int j]]) (.tuple [.tuple [.int z, .int s], .tuple [.int w, .int t]]))) = true ∧ ∀ (e3 f4 : Int), e3 = (x * x - i * i) % p → f4 = (x * i + i * x) % p → ∀ (e5 f6 : Int), e5 = (3 * e3 - 0 * f4) % p → f6 = (3 * f4 + 0 * e3) % p → ∀ (e7 f8 : Int), e7 = (y + 1 * y) % p → f8 = (j + 1 * j) % p → (Can p e7 ∧ Can p f8) ∧ ¬(e7 = 0 ∧ f8 = 0) ∧ ∀ (e9 f10 : Int), Can p e9 → Can p f10 → DivR p e5 f6 e7 f8 e9 f10 → ∀ (e11 f12 : Int), e11 = (e9 * e9 - f10 * f10) % p → f12 = (e9 * f10 + f10 * e9) % p → ∀ (e13 f14 : Int), e13 = (e11 + -1 * x) % p → f14 = (f12 + -1 * i) % p → ∀ (e15 f16 : Int), e15 = (e13 + -1 * z) % p → f16 = (f14 + -1 * s) % p → ∀ (e17 f18 : Int), e17 = (x + -1 * e15) % p → f18 = (i + -1 * f16) % p → ∀ (e19 f20 : Int), e19 = (e9 * e17 - f10 * f18) % p → f20 = (e9 * f18 + f10 * e17) % p → ∀ (e21 f22 : Int), e21 = (e19 + -1 * y) % p → f22 = (f20 + -1 * j) % p → ∃ d', Le (Dat.tup [Dat.tup [Dat.int e15 127, Dat.int f16 127], Dat.tup [Dat.int e21 127, Dat.int f22 127]]) d' ∧ k d' orc) (by kernel_rfl) ?_
          simp only [eqv2, eqv4]
          cases e
          have yz : ∀ {e f : Int}, e = (y + 1 * y) % p → f = (j + 1 * j) % p → ¬ (e = 0 ∧ f = 0) := fun {e f} he hf => two_ne hp (x := y) (y := j) ca.2.2.1 ca.2.2.2 hy (by rw [he]; congr 1; omega) (by rw [hf]; congr 1; omega)
          refine ⟨?_, fun e1 f2 h_e1 h_f2 => ⟨?_, ⟨?_, fun e3 f4 h_e3 h_f4 => fun e5 f6 h_e5 h_f6 => fun e7 f8 h_e7 h_f8 => ⟨?_, ?_, fun e9 f10 _ _ hd => fun e11 f12 h_e11 h_f12 => fun e13 f14 h_e13 h_f14 => fun e15 f16 h_e15 h_f16 => fun e17 f18 h_e17 h_f18 => fun e19 f20 h_e19 h_f20 => fun e21 f22 h_e21 h_f22 => ?_⟩⟩⟩⟩
          · simp
          · exact and_f (yz h_e1 h_f2)
          · simp
          · exact ⟨cmd hp h_e7, cmd hp h_f8⟩
          · exact yz h_e7 h_f8
          · refine ⟨_, Le.refl _, h2 (fun n => n.2.2 ⟨rfl, rfl⟩) (e15, f16, e21, f22) ⟨cmd hp h_e15, cmd hp h_f16, cmd hp h_e21, cmd hp h_f22⟩ fun {R} _ c F => ⟨c e9 f10, fun _ => ?_, fun q => absurd rfl q, ?_, ?_⟩⟩
            · have r3 := F.t_mul h_e3 h_f4
              have r5 : c e5 f6 = 3 * c e3 f4 := by
                have n3 := F.num 3
                rw [F.t_mul h_e5 h_f6]
                have : c 3 0 = (3 : R) := n3
                rw [this]
              have r7 := F.t_add1 h_e7 h_f8
              have rd := hd.ring F
              rw [r7, r5, r3] at rd
              show c e9 f10 * (2 * c y j) = 3 * (c x i * c x i)
              rw [← rd]; grind
            · have r11 := F.t_mul h_e11 h_f12
              have r13 := F.t_sub1 h_e13 h_f14
              have r15 := F.t_sub1 h_e15 h_f16
              show c e15 f16 = c e9 f10 * c e9 f10 - c x i - c x i
              rw [r15, r13, r11]
            · have r17 := F.t_sub1 h_e17 h_f18
              have r19 := F.t_mul h_e19 h_f20
              have r21 := F.t_sub1 h_e21 h_f22
              show c e21 f22 = c e9 f10 * (c x i - c e15 f16) - c y j
              rw [r21, r19, r17]
        · refine ⟨_, [true, true], hl, fun P => ?_⟩
          refine by_rfl (b := (xor false (PyData.eqv (.tuple [.int x, .int i]) (.tuple [.int z, .int s]))) = true ∧ ∀ (e1 f2 : Int), e1 = (y + 1 * w) % p → f2 = (j + 1 * t) % p → (xor false (PyData.eqv (.tuple [.int e1, .int f2]) (.tuple [.int 0, .int 0]))) = true ∧ ∃ d', Le Dat.none d' ∧ k d' orc) (by kernel_rfl) ?_
          simp only [eqv2]
          have nc : NoneC (x, i, y, j) (z, s, w, t) := ⟨hx.1, hx.2, fun q => ne (by rw [hx.1, hx.2]; simp only at q; rw [q.1, q.2])⟩
          refine ⟨?_, fun e1 f2 h_e1 h_f2 => ⟨?_, ?_⟩⟩
          · simp [hx.1, hx.2]
          · have a1 : e1 = 0 := by rw [h_e1, Int.one_mul]; exact o1
            have a2 : f2 = 0 := by rw [h_f2, Int.one_mul]; exact o2
            simp [a1, a2]
          · exact ⟨_, Le.refl _, h1 nc⟩
      · have nc : ¬ NoneC (x, i, y, j) (z, s, w, t) := fun n => hx ⟨n.1, n.2.1⟩
        refine ⟨_, [false, false], hl, fun P => ?_⟩
        refine by_rfl (b := (xor false (PyData.eqv (.tuple [.int x, .int i]) (.tuple [.int z, .int s]))) = false ∧ (xor false (PyData.eqv (.tuple [.tuple [.int x, .int i], .tuple [.int y, .int j]]) (.tuple [.tuple [.int z, .int s], .tuple [.int w, .int t]]))) = false ∧ ∀ (e1 f2 : Int), e1 = (w + -1 * y) % p → f2 = (t + -1 * j) % p → ∀ (e3 f4 : Int), e3 = (z + -1 * x) % p → f4 = (s + -1 * i) % p → (Can p e3 ∧ Can p f4) ∧ ¬(e3 = 0 ∧ f4 = 0) ∧ ∀ (e5 f6 : Int), Can p e5 → Can p f6 → DivR p e1 f2 e3 f4 e5 f6 → ∀ (e7 f8 : Int), e7 = (e5 * e5 - f6 * f6) % p → f8 = (e5 * f6 + f6 * e5) % p → ∀ (e9 f10 : Int), e9 = (e7 + -1 * x) % p → f10 = (f8 + -1 * i) % p → ∀ (e11 f12 : Int), e11 = (e9 + -1 * z) % p → f12 = (f10 + -1 * s) % p → ∀ (e13 f14 : Int), e13 = (x + -1 * e11) % p → f14 = (i + -1 * f12) % p → ∀ (e15 f16 : Int), e15 = (e5 * e13 - f6 * f14) % p → f16 = (e5 * f14 + f6 * e13) % p → ∀ (e17 f18 : Int), e17 = (e15 + -1 * y) % p → f18 = (f16 + -1 * j) % p → ∃ d', Le (Dat.tup [Dat.tup [Dat.int e11 127, Dat.int f12 127], Dat.tup [Dat.int e17 127, Dat.int f18 127]]) d' ∧ k d' orc) (by kernel_rfl) ?_
        simp only [eqv2, eqv4]
        refine ⟨?_, ⟨?_, fun e1 f2 h_e1 h_f2 => fun e3 f4 h_e3 h_f4 => ⟨?_, ?_, fun e5 f6 _ _ hd => fun e7 f8 h_e7 h_f8 => fun e9 f10 h_e9 h_f10 => fun e11 f12 h_e11 h_f12 => fun e13 f14 h_e13 h_f14 => fun e15 f16 h_e15 h_f16 => fun e17 f18 h_e17 h_f18 => ?_⟩⟩⟩
        · exact and_f hx
        · exact decide_eq_false fun q => hx (by cases q; exact ⟨rfl, rfl⟩)
        · exact ⟨cmd hp h_e3, cmd hp h_f4⟩
        · exact ne_sub hp (x := x) (y := i) (z := z) (w := s) ca.1 ca.2.1 cb.1 cb.2.1 (fun q => hx ⟨q.1.symm, q.2.symm⟩) (by rw [h_e3]; congr 1; omega) (by rw [h_f4]; congr 1; omega)
        · refine ⟨_, Le.refl _, h2 nc (e11, f12, e17, f18) ⟨cmd hp h_e11, cmd hp h_f12, cmd hp h_e17, cmd hp h_f18⟩ fun {R} _ c F => ⟨c e5 f6, fun q => absurd ?_ hx, fun _ => ?_, ?_, ?_⟩⟩
          · cases q; exact ⟨rfl, rfl⟩
          · have rd := hd.ring F
            rw [F.t_sub1 h_e1 h_f2, F.t_sub1 h_e3 h_f4] at rd
            exact rd
          · have r7 := F.t_mul h_e7 h_f8
            have r9 := F.t_sub1 h_e9 h_f10
            have r11 := F.t_sub1 h_e11 h_f12
            show c e11 f12 = c e5 f6 * c e5 f6 - c x i - c z s
            rw [r11, r9, r7]
          · have r13 := F.t_sub1 h_e13 h_f14
            have r15 := F.t_mul h_e15 h_f16
            have r17 := F.t_sub1 h_e17 h_f18
            show c e17 f18 = c e5 f6 * (c x i - c e11 f12) - c y j
            rw [r17, r15, r13]
noncomputable def cLopp : Ctr := ⟨653, 700, 7000, fun ds orc k => l2 ds fun d a => dP d fun p => oN a (k .none orc) <| i4 a fun x X i I y Y j J => ∀ e f, e = (p - y) % p → f = (p - j) % p → k (.tup [.tup [.int x X, .int i I], .tup [.int e 127, .int f 127]]) orc⟩
theorem ok_Lopp : cLopp.Ok KK := runF_ok k_ok (gam := []) g0 fun P ds orc k fa h => by
  refine l2_k h ?_; clear h; rintro d a rfl h
  refine dP_k h ?_; clear h; rintro p rfl h
  refine oN_k h ?_ ?_ <;> clear h
  · rintro rfl h
    exact by_rfl (by kernel_rfl) h
  · intro h
    refine i4_k h ?_; clear h; rintro x X i I y Y j J rfl h
    exact by_rfl (b := k (.tup [.tup [.int x X, .int i I], .tup [.int ((p - y) % p) 127, .int ((p - j) % p) 127]]) orc) (by kernel_rfl) (h _ _ rfl rfl)
noncomputable def cLpl : Ctr := ⟨667, 690, 6900, fun ds orc k => l2 ds fun d a => dP d fun p => oN a (k .none orc) <| i4 a fun x X i I y Y j J => Cn p (x, i, y, j) ∧ k (.tup [.fqp p x i, .fqp p y j]) orc⟩
theorem ok_Lpl : cLpl.Ok KK := runF_ok k_ok (gam := [cCls]) (gc ok_Cls g0) fun P ds orc k fa h => by
  refine l2_k h ?_; clear h; rintro d a rfl h
  refine dP_k h ?_; clear h; rintro p rfl h
  refine oN_k h ?_ ?_ <;> clear h
  · rintro rfl h
    exact by_rfl (by kernel_rfl) h
  · intro h
    refine i4_k h ?_; clear h; rintro x X i I y Y j J rfl h
    refine oA h ?_; clear h; rintro ⟨c1, c2, c3, c4⟩ h
    refine by_rfl (b := k (.tup [.fqp p (x % p) (i % p), .fqp p (y % p) (j % p)]) orc) (by kernel_rfl) ?_
    rw [Int.emod_eq_of_lt c1.lo c1.hi, Int.emod_eq_of_lt c2.lo c2.hi, Int.emod_eq_of_lt c3.lo c3.hi, Int.emod_eq_of_lt c4.lo c4.hi]
    exact h
noncomputable def cLt : Ctr := ⟨672, 690, 6900, fun ds orc k => l1 ds fun a => oN a (k .none orc) <| pG a fun p x i q y j => k (.tup [.tup [.int x 127, .int i 127], .tup [.int y 127, .int j 127]]) orc⟩
theorem ok_Lt : cLt.Ok KK := runF_ok k_ok (gam := []) g0 fun P ds orc k fa h => by
  refine l1_k h ?_; clear h; rintro a rfl h
  refine oN_k h ?_ ?_ <;> clear h
  · rintro rfl h
    exact by_rfl (by kernel_rfl) h
  · intro h
    refine pG_k h ?_; clear h; rintro p x i q y j rfl h
    exact by_rfl (by kernel_rfl) h
noncomputable def cLq : Ctr := ⟨677, 690, 6900, fun ds orc k => l3 ds fun d a b => dP d fun p => oN a (i2 b fun z Z s S => (Can p z ∧ Can p s) ∧ k (.tup [.fq2 p z s, .fq2 p z s, .fq2 p 0 0]) orc) <|
  q4 a 1000 fun x i y j => q2 b 1000 fun z s => (Can p z ∧ Can p s) ∧ ¬ (z = 0 ∧ s = 0) ∧ ∀ a b c d, RepA p (some (x, i, y, j)) a b c d z s → k (.tup [.fq2 p a b, .fq2 p c d, .fq2 p z s]) orc⟩
theorem ok_Lq : cLq.Ok KK := runF_w k_ok (gam := [cCls2, cLm]) (gc ok_Cls2 (gc ok_Lm g0)) fun ds orc k fa h => by
  refine l3_k h ?_; clear h; rintro d a b rfl h
  refine dP_k h ?_; clear h; rintro p rfl h
  refine oN_k h ?_ ?_ <;> clear h
  · rintro rfl h
    refine i2_k h ?_; clear h; rintro z Z s S rfl h
    refine oA h ?_; clear h; rintro ⟨c1, c2⟩ h
    refine ⟨_, orc, LeL.refl _, fun P => ?_⟩
    refine by_rfl (b := ∃ d', Le (.tup [.fq2 p (z % p) (s % p), .fq2 p (z % p) (s % p), .fq2 p (0 % p) (0 % p)]) d' ∧ k d' orc) (by kernel_rfl) ?_
    rw [Int.emod_eq_of_lt c1.lo c1.hi, Int.emod_eq_of_lt c2.lo c2.hi, Int.zero_emod]
    exact ⟨_, Le.refl _, h⟩
  · intro h
    refine q4_k h ?_; clear h; rintro x i y j ha h
    refine q2_k h ?_; clear h; rintro z s hb h
    · refine oAA h ?_; clear h; rintro ⟨c1, c2⟩ n h
      have hp := c1.pr
      refine ⟨[.prm p, .tup [.tup [.int x 1000, .int i 1000], .tup [.int y 1000, .int j 1000]], .tup [.int z 1000, .int s 1000]], orc, LeL.cons (Le.refl _) (LeL.two ha hb), fun P => ?_⟩
      refine by_rfl (b := ∀ (e1 f2 : Int), e1 = (x * z - i * s) % p → f2 = (x * s + i * z) % p → ∀ (e3 f4 : Int), e3 = (y * z - j * s) % p → f4 = (y * s + j * z) % p → ∃ d', Le (Dat.tup [Dat.fq2 p (e1 % p) (f2 % p), Dat.fq2 p (e3 % p) (f4 % p), Dat.fq2 p (z % p) (s % p)]) d' ∧ k d' orc) (by kernel_rfl) ?_
      refine fun e1 f2 h1 h2 e3 f4 h3 h4 => ?_
      rw [Int.emod_eq_of_lt c1.lo c1.hi, Int.emod_eq_of_lt c2.lo c2.hi, h1, h2, h3, h4, Int.emod_emod, Int.emod_emod, Int.emod_emod, Int.emod_emod]
      refine ⟨_, Le.refl _, h _ _ _ _ ⟨n, fun {R} _ c F => ⟨?_, ?_⟩⟩⟩
      · rw [F.mod, F.mul]
      · rw [F.mod, F.mul]
noncomputable def cLis : Ctr := ⟨682, 690, 6900, fun ds orc k => l3 ds fun d a b => dP d fun p => o3 a fun q x0 x1 r y0 y1 t z0 z1 => oN b ((z0 = 0 ∧ z1 = 0) ∧ k (.bool true) orc) <| q4 b 127 fun x i y j => (q = p ∧ r = p ∧ t = p) ∧ RepA p (some (x, i, y, j)) x0 x1 y0 y1 z0 z1 ∧ k (.bool true) orc⟩
theorem ok_Lis : cLis.Ok KK := runF_w k_ok (gam := [cInfO, cLm]) (gc ok_InfO (gc ok_Lm g0)) fun ds orc k fa h => by
  refine l3_k h ?_; clear h; rintro d a b rfl h
  refine dP_k h ?_; clear h; rintro p0 rfl h
  refine o3_k h ?_; clear h; rintro q x0 x1 r y0 y1 p z0 z1 rfl h
  refine oN_k h ?_ ?_ <;> clear h
  · rintro rfl h
    refine ⟨_, orc, LeL.refl _, fun P => ?_⟩
    refine by_rfl (b := ∃ d', Le (.sb (decide (z0 = 0) && decide (z1 = 0))) d' ∧ k d' orc) (by kernel_rfl) ?_
    refine oA h ?_; clear h; rintro ⟨rfl, rfl⟩ h
    exact ⟨_, Le.bs, h⟩
  · intro h
    refine q4_k h ?_; clear h; rintro x i y j hb h
    · refine oAA h ?_; clear h; rintro ⟨rfl, rfl, rfl⟩ hr h
      refine oAA fa ?_; clear fa; rintro _ ⟨⟨cx0, cx1⟩, ⟨cy0, cy1⟩, ⟨cz0, cz1⟩, _⟩ _
      have hp := cx0.pr
      refine ⟨[.prm p, .tup [.fq2 p x0 x1, .fq2 p y0 y1, .fq2 p z0 z1], .tup [.tup [.int x 127, .int i 127], .tup [.int y 127, .int j 127]]], [false, true], LeL.cons (Le.refl _) (LeL.two (Le.refl _) hb), fun P => ?_⟩
      refine by_rfl (b := (decide (z0 = 0) && decide (z1 = 0)) = false ∧ ∀ (e1 f2 : Int), e1 = (x * z0 - i * z1) % p → f2 = (x * z1 + i * z0) % p → (xor false (PyData.eqv (.tuple [.int x0, .int x1]) (.tuple [.int e1, .int f2]))) = true ∧ ∀ (e3 f4 : Int), e3 = (y * z0 - j * z1) % p → f4 = (y * z1 + j * z0) % p → ∃ d', Le (.sb (xor false (PyData.eqv (.tuple [.int y0, .int y1]) (.tuple [.int e3, .int f4])))) d' ∧ k d' orc) (by kernel_rfl) ?_
      simp only [eqv2]
      refine oA hr ?_; clear hr; intro n hr
      have F := fld p
      letI := gRing p
      refine oA (hr _ F) ?_; intro hx hy
      refine ⟨and_f n, fun e1 f2 h1 h2 => ⟨dec_t cx0 cx1 (cmd hp h1) (cmd hp h2) ?_, fun e3 f4 h3 h4 => ⟨_, Le.bs, ?_⟩⟩⟩
      · rw [F.t_mul h1 h2, hx]
      · rw [dec_t cy0 cy1 (cmd hp h3) (cmd hp h4) (by rw [F.t_mul h3 h4, hy])]
        exact h
end
section
noncomputable def datO : Option Pt4 → Dat
  | none => .none
  | some q => ptI q
structure Good (p b0 b1 : Int) (A : Option Pt4) : Prop where
  cn : CnO p A
  ny : NYO A
  on : ∀ a, A = some a → On p b0 b1 a
theorem Good.none {p b0 b1 : Int} : Good p b0 b1 none := ⟨fun _ q => (nomatch q), fun _ q => (nomatch q), fun _ q => (nomatch q)⟩
theorem Good.of {p b0 b1 : Int} {a : Pt4} (h1 : Cn p a) (h2 : NY a) (h3 : On p b0 b1 a) : Good p b0 b1 (some a) := ⟨fun _ q => (by cases q; exact h1), fun _ q => (by cases q; exact h2), fun _ q => (by cases q; exact h3)⟩
theorem emod_opp (p y : Int) : (p - y) % p = -y % p := by
  rw [show p - y = -y + p * 1 by omega, Int.add_mul_emod_self_left]
theorem Good.opp {p b0 b1 : Int} (hp : Pr p) {a : Pt4} (h : Good p b0 b1 (some a)) : Good p b0 b1 (some (a.1, a.2.1, (p - a.2.2.1) % p, (p - a.2.2.2) % p)) := by
  have ca := h.cn a rfl
  refine .of ⟨ca.1, ca.2.1, Can.of hp _, Can.of hp _⟩ (fun q => h.ny a rfl ?_) fun {R} _ c F => ?_
  · have key : ∀ {y : Int}, Can p y → (p - y) % p = 0 → y = 0 := fun {y} cy q => by
      rw [emod_opp] at q
      exact cy.dvd (Int.dvd_neg.mp (Int.dvd_of_emod_eq_zero q))
    exact ⟨key ca.2.2.1 q.1, key ca.2.2.2 q.2⟩
  · have := h.on a rfl c F
    show c ((p - a.2.2.1) % p) ((p - a.2.2.2) % p) * c ((p - a.2.2.1) % p) ((p - a.2.2.2) % p) = _
    rw [F.t_neg (emod_opp p a.2.2.1) (emod_opp p a.2.2.2)]
    have e : -c a.2.2.1 a.2.2.2 * -c a.2.2.1 a.2.2.2 = cy c a * cy c a := by grind
    rw [e, this]
theorem inP_can {p n : Int} (hp : Pr p) (h : inP p n = true) : Can p n := by
  unfold inP at h
  simp only [Bool.and_eq_true, decide_eq_true_eq] at h
  exact ⟨hp, h.1, h.2⟩
theorem Crv.b {p b0 b1 : Int} {pts : List Pt4} (h : Crv p b0 b1 pts) : Can p b0 ∧ Can p b1 ∧ pts.length = 7 := by
  have := h.ok
  unfold crvOk at this
  simp only [Bool.and_eq_true] at this
  exact ⟨inP_can h.pr this.1.1.1.1, inP_can h.pr this.1.1.1.2, Nat.eq_of_beq_eq_true this.1.1.2⟩
theorem Crv.good {p b0 b1 : Int} {pts : List Pt4} (h : Crv p b0 b1 pts) {q : Pt4} (hq : q ∈ pts) : Good p b0 b1 (some q) := by
  have := h.ok
  unfold crvOk at this
  simp only [Bool.and_eq_true] at this
  have := List.all_eq_true.mp this.1.2 q hq
  unfold ptOk at this
  simp only [Bool.and_eq_true, Bool.not_eq_true', decide_eq_true_eq] at this
  refine oA this ?_; clear this; rintro ⟨⟨⟨⟨⟨d1, d2⟩, d3⟩, d4⟩, d5⟩, d6⟩ d7
  refine .of ⟨inP_can h.pr d1, inP_can h.pr d2, inP_can h.pr d3, inP_can h.pr d4⟩ (fun w => ?_) fun {R} _ c F => ?_
  · simp [w.1, w.2] at d5
  · show c q.2.2.1 q.2.2.2 * c q.2.2.1 q.2.2.2 = c q.1 q.2.1 * c q.1 q.2.1 * c q.1 q.2.1 + c b0 b1
    rw [← F.mul, ← F.mul, ← F.mul, ← F.add, F.eq]
    have e6 := Int.dvd_of_emod_eq_zero d6
    have e7 := Int.dvd_of_emod_eq_zero d7
    refine ⟨?_, ?_⟩
    · refine oE e6 ?_; clear e6; intro t ht
      exact ⟨t, by grind⟩
    · refine oE e7 ?_; clear e7; intro t ht
      exact ⟨t, by grind⟩
theorem preS_of {p b0 b1 : Int} (hp : Pr p) {a b : Pt4} (ca : Cn p a) (cb : Cn p b) (oa : On p b0 b1 a) (ob : On p b0 b1 b) (ny : NY a) : PreS p a b := fun hx => by
  by_cases e : a = b
  · exact .inl ⟨e, ny⟩
  · refine .inr ⟨e, ?_⟩
    have F := fld p
    letI := gRing p
    have h1 := oa _ F
    have h2 := ob _ F
    have ex : cx (gcl p) a = cx (gcl p) b := by show gcl p a.1 a.2.1 = gcl p b.1 b.2.1; rw [hx.1, hx.2]
    have ne : cy (gcl p) a - cy (gcl p) b ≠ 0 := fun q => e (by
      have : cy (gcl p) a = cy (gcl p) b := by
        have e1 : cy (gcl p) a = (cy (gcl p) a - cy (gcl p) b) + cy (gcl p) b := by grind
        rw [e1, q]; grind
      exact pt_eq F ca cb ex this)
    have pr : (cy (gcl p) a - cy (gcl p) b) * (cy (gcl p) a + cy (gcl p) b) = 0 := by
      have : (cy (gcl p) a - cy (gcl p) b) * (cy (gcl p) a + cy (gcl p) b) = cy (gcl p) a * cy (gcl p) a - cy (gcl p) b * cy (gcl p) b := by grind
      rw [this, h1, h2, ex]; grind
    rw [← F.sub] at ne pr
    have z := F.cancel hp ne (x := cy (gcl p) a + cy (gcl p) b) (y := 0) (by rw [pr]; grind)
    rw [← F.add, F.zero_iff] at z
    exact ⟨Int.emod_eq_zero_of_dvd z.1, Int.emod_eq_zero_of_dvd z.2⟩
noncomputable def toPt (q : Pt4) : PyData := .tuple [.tuple [.int q.1, .int q.2.1], .tuple [.int q.2.2.1, .int q.2.2.2]]
theorem eqvP (a b : Pt4) : xor false (PyData.eqv (toPt a) (toPt b)) = decide (a = b) := eqv4 _ _ _ _ _ _ _ _
theorem eqvN : xor false (PyData.eqv .none .none) = true := by simp [PyData.eqv]
noncomputable def gA : List Ctr := [cLs, cLopp, cLpl, cLt, cAddC, cDbl, cNegC, cOn, cAddP, cOneP, cCls]
theorem ok_gA : ∀ c' ∈ gA, c'.Ok KK := gc ok_Ls (gc ok_Lopp (gc ok_Lpl (gc ok_Lt (gc ok_AddC (gc ok_Dbl (gc ok_NegC (gc ok_On (gc ok_AddP (gc ok_OneP (gc ok_Cls g0))))))))))
noncomputable def cLan : Ctr := ⟨689, 670, 6700, fun ds orc k => ∃ way W p b0 B0 b1 B1 A B, ds = [.int way W, .prm p, .tup [.int b0 B0, .int b1 B1], datO A, datO B] ∧ (0 ≤ way ∧ way < 3) ∧ (Can p b0 ∧ Can p b1) ∧ Good p b0 b1 A ∧ Good p b0 b1 B ∧ k (.bool true) orc⟩
theorem ok_Lan : cLan.Ok KK := runF_w k_ok (gam := gA) ok_gA fun ds orc k fa h => by
  obtain ⟨way, W, p, b0, B0, b1, B1, A, B, rfl, hw, ⟨c0, c1⟩, gA, gB, h⟩ := h
  have hp := c0.pr
  have hl : ∀ n : Int, way = n → LeL [.int way W, .prm p, .tup [.int b0 B0, .int b1 B1], datO A, datO B] [.lit n, .prm p, .tup [.int b0 B0, .int b1 B1], datO A, datO B] := fun n e => by
    subst e; exact LeL.cons Le.lit (LeL.refl _)
  have : way = 0 ∨ way = 1 ∨ way = 2 := by omega
  rcases this with e | e | e
  · refine ⟨_, orc, hl _ e, fun P => ?_⟩
    cases A with
    | none => cases B with
      | none => exact by_rfl (b := ∃ d', Le (.bool (xor false (PyData.eqv .none .none))) d' ∧ k d' orc) (by kernel_rfl) (by rw [eqvN]; exact ⟨_, Le.refl _, h⟩)
      | some b => exact by_rfl (b := Cn p b ∧ ∃ d', Le (.sb (xor false (PyData.eqv (toPt b) (toPt b)))) d' ∧ k d' orc) (by kernel_rfl) ⟨gB.cn b rfl, by rw [eqvP, decide_eq_true rfl]; exact ⟨_, Le.bs, h⟩⟩
    | some a => cases B with
      | none => exact by_rfl (b := Cn p a ∧ ∃ d', Le (.sb (xor false (PyData.eqv (toPt a) (toPt a)))) d' ∧ k d' orc) (by kernel_rfl) ⟨gA.cn a rfl, by rw [eqvP, decide_eq_true rfl]; exact ⟨_, Le.bs, h⟩⟩
      | some b =>
        have ca := gA.cn a rfl
        have cb := gB.cn b rfl
        have pre := preS_of hp ca cb (gA.on a rfl) (gB.on b rfl) (gA.ny a rfl)
        refine by_rfl (b := Cn p a ∧ Cn p b ∧ (p = p ∧ p = p ∧ p = p) ∧ (a = b → NY a) ∧ (NoneC a b → Cn p a ∧ Cn p b ∧ PreS p a b ∧ (NoneC a b → ∃ d', Le (.bool (xor false (PyData.eqv .none .none))) d' ∧ k d' orc) ∧ (¬ NoneC a b → ∀ r1 : Pt4, Cn p r1 → SumR p a b r1 → ∃ d', Le (.bool (xor false (PyData.eqv .none (toPt r1)))) d' ∧ k d' orc)) ∧
          (¬ NoneC a b → ∀ r2 : Pt4, Cn p r2 → SumR p a b r2 → Cn p a ∧ Cn p b ∧ PreS p a b ∧ (NoneC a b → ∃ d', Le (.bool (xor false (PyData.eqv (toPt r2) .none))) d' ∧ k d' orc) ∧ (¬ NoneC a b → ∀ r3 : Pt4, Cn p r3 → SumR p a b r3 → ∃ d', Le (.sb (xor false (PyData.eqv (toPt r2) (toPt r3)))) d' ∧ k d' orc))) (by kernel_rfl) ?_
        refine ⟨ca, cb, ⟨rfl, rfl, rfl⟩, fun _ => gA.ny a rfl, fun n => ⟨ca, cb, pre, fun _ => by rw [eqvN]; exact ⟨_, Le.refl _, h⟩, fun nn => absurd n nn⟩, fun nn r2 c2 s2 => ⟨ca, cb, pre, fun n => absurd n nn, fun _ r3 c3 s3 => ?_⟩⟩
        rw [sum_uniq hp ca cb nn (fun _ => gA.ny a rfl) c2 c3 s2 s3, eqvP, decide_eq_true rfl]
        exact ⟨_, Le.bs, h⟩
  · refine ⟨_, orc, hl _ e, fun P => ?_⟩
    generalize datO B = dB
    cases A with
    | none => exact by_rfl (b := ∃ d', Le (.bool (xor false (PyData.eqv .none .none))) d' ∧ k d' orc) (by kernel_rfl) (by rw [eqvN]; exact ⟨_, Le.refl _, h⟩)
    | some a =>
      have ca := gA.cn a rfl
      have ny := gA.ny a rfl
      have nn : ¬ NoneC a a := fun n => n.2.2 ⟨rfl, rfl⟩
      refine by_rfl (b := Cn p a ∧ p = p ∧ NY a ∧ ∀ r1 : Pt4, Cn p r1 → SumR p a a r1 → Cn p a ∧ Cn p a ∧ PreS p a a ∧ (NoneC a a → ∃ d', Le (.bool (xor false (PyData.eqv (toPt r1) .none))) d' ∧ k d' orc) ∧ (¬ NoneC a a → ∀ r2 : Pt4, Cn p r2 → SumR p a a r2 → ∃ d', Le (.sb (xor false (PyData.eqv (toPt r1) (toPt r2)))) d' ∧ k d' orc)) (by kernel_rfl) ?_
      refine ⟨ca, rfl, ny, fun r1 c1 s1 => ⟨ca, ca, fun _ => .inl ⟨rfl, ny⟩, fun n => absurd n nn, fun _ r2 c2 s2 => ?_⟩⟩
      rw [sum_uniq hp ca ca nn (fun _ => ny) c1 c2 s1 s2, eqvP, decide_eq_true rfl]
      exact ⟨_, Le.bs, h⟩
  · generalize hd : datO B = dB at hl
    cases A with
    | none => exact ⟨_, orc, hl _ e, fun P => by_rfl (b := ∃ d', Le (.bool true) d' ∧ k d' orc) (by kernel_rfl) ⟨_, Le.refl _, h⟩⟩
    | some a =>
      have ca := gA.cn a rfl
      have oa : On p b0 b1 a := gA.on a rfl
      refine ⟨_, [false, false], hl _ e, fun P => ?_⟩
      refine by_rfl (b := Cn p a ∧ p = p ∧ ∀ (e1 f2 : Int), e1 = -a.2.2.1 % p → f2 = -a.2.2.2 % p → ∀ (e3 f4 : Int), e3 = (p - a.2.2.1) % p → f4 = (p - a.2.2.2) % p → xor true (PyData.eqv (toPt (a.1, a.2.1, e1, f2)) (toPt (a.1, a.2.1, e3, f4))) = false ∧ (p = p ∧ p = p) ∧ ∀ (t5 : Bool), (t5 = true ↔ On p (b0 % p) (b1 % p) a) → (!(t5 == true)) = false ∧ ∀ (e6 f7 : Int), e6 = 1 % p → f7 = 0 % p → p = p ∧ ∀ (e8 f9 : Int), e8 = (b0 % p + e6) % p → f9 = (b1 % p + f7) % p → (p = p ∧ p = p) ∧ ∀ (t10 : Bool), (t10 = true ↔ On p e8 f9 a) → ∃ d', Le (.sb (t10 == false)) d' ∧ k d' orc) (by kernel_rfl) ?_
      refine ⟨ca, rfl, fun e1 f2 h1 h2 e3 f4 h3 h4 => ⟨?_, ⟨rfl, rfl⟩, fun t5 h5 => ⟨?_, fun e6 f7 h6 h7 => ⟨rfl, fun e8 f9 h8 h9 => ⟨⟨rfl, rfl⟩, fun t10 h10 => ?_⟩⟩⟩⟩⟩
      · rw [emod_opp] at h3 h4
        rw [h1, h2, h3, h4]
        have := eqvP (a.1, a.2.1, -a.2.2.1 % p, -a.2.2.2 % p) (a.1, a.2.1, -a.2.2.1 % p, -a.2.2.2 % p)
        rw [decide_eq_true rfl, Bool.false_xor] at this
        rw [this]; rfl
      · rw [Int.emod_eq_of_lt c0.lo c0.hi, Int.emod_eq_of_lt c1.lo c1.hi] at h5
        rw [h5.mpr oa]; rfl
      · rw [Int.emod_eq_of_lt c0.lo c0.hi] at h8
        rw [Int.emod_eq_of_lt c1.lo c1.hi] at h9
        have : t10 = false := by
          cases t10 with
          | false => rfl
          | true =>
            exfalso
            have o2 : On p e8 f9 a := h10.mp rfl
            have F := fld p
            letI := gRing p
            have q1 := oa _ F
            have q2 := o2 _ F
            have r8 := F.t_add h8 h9
            have r6 : gcl p e6 f7 = 1 := by rw [h6, h7, F.mod, F.one]
            rw [r8, r6] at q2
            refine F.ne01 hp ?_
            rw [q1] at q2
            have : (1 : G p) = (cx (gcl p) a * cx (gcl p) a * cx (gcl p) a + (gcl p b0 b1 + 1)) - (cx (gcl p) a * cx (gcl p) a * cx (gcl p) a + gcl p b0 b1) := by grind
            rw [this, ← q2]; grind
        rw [this]
        exact ⟨_, Le.bs, h⟩
end
section
theorem Ctr.Ok.sub2 {K : Params → Frag} {c : Ctr} (h : c.Ok K) {T : List Dat → List Bool → (Dat → List Bool → Prop) → Prop}
    (hT : ∀ ds orc k, FaL ds → T ds orc k → ∃ ds' orc' o, LeL ds ds' ∧ c.T ds' orc' fun d _ => ∃ d', Le d d' ∧ k d' o) : Ctr.Ok K ⟨c.f, c.D, c.U, T⟩ :=
  fun prog w p loose mg mb g O s ds vs orc k Q E B L W r t P => by
    refine oEEEA (hT ds orc k (RL.fa _ r) t) ?_; intro ds' orc' o hl ht
    exact h prog w p loose mg mb g O s ds' vs orc' _ Q E B L W (hl _ _ r) ht fun d o' r s' kd kt gs tb rr => by
      refine oEA kd ?_; clear kd; intro d' a b
      exact P d' o r s' b kt gs tb (a _ _ rr)
noncomputable def PreSO (p : Int) (A B : Option Pt4) : Prop := ∀ a b, A = some a → B = some b → PreS p a b
theorem PreSO.pre {p : Int} {A B : Option Pt4} (h : PreSO p A B) (hA : NYO A) : PreO A B := fun a e _ => hA a e
noncomputable def cRs : Ctr := ⟨646, 680, 6800, fun ds orc k => ∃ p A B, ds = [.prm p, datO A, datO B] ∧ (CnO p A ∧ CnO p B ∧ PreSO p A B) ∧ ∀ r, CnO p r → SumO p A B r → k (datO r) orc⟩
theorem ok_Rs : cRs.Ok KK := ok_Ls.sub (Nat.le_refl _) (Nat.le_refl _) fun ds orc k fa h => by
  refine oEEEAA h ?_; clear h; rintro p A B rfl ⟨cA, cB, pS⟩ h
  refine ⟨_, orc, LeL.refl _, ?_⟩
  cases A with
  | none => cases B with
    | none => exact ⟨_, Le.refl _, h none cA rfl⟩
    | some b => exact ⟨_, Le.refl _, h (some b) cB rfl⟩
  | some a => cases B with
    | none => exact ⟨_, Le.refl _, h (some a) cA rfl⟩
    | some b =>
      show Cn p a ∧ Cn p b ∧ PreS p a b ∧ (NoneC a b → _) ∧ (¬ NoneC a b → _)
      exact ⟨cA a rfl, cB b rfl, pS a b rfl rfl, fun n => ⟨_, Le.refl _, h none (fun _ q => nomatch q) ⟨fun _ => rfl, fun nn => absurd n nn⟩⟩, fun nn r c s => ⟨_, Le.refl _, h (some r) (fun _ q => by cases q; exact c) ⟨fun n => absurd n nn, fun _ => ⟨r, rfl, c, s⟩⟩⟩⟩
noncomputable def OppO (p : Int) (A B : Option Pt4) : Prop := match A with
  | none => B = none
  | some a => B = some (a.1, a.2.1, (p - a.2.2.1) % p, (p - a.2.2.2) % p)
noncomputable def cRo : Ctr := ⟨653, 700, 7000, fun ds orc k => ∃ p A, ds = [.prm p, datO A] ∧ ∀ B, OppO p A B → k (datO B) orc⟩
theorem ok_Ro : cRo.Ok KK := ok_Lopp.sub (Nat.le_refl _) (Nat.le_refl _) fun ds orc k fa h => by
  refine oEEA h ?_; clear h; rintro p A rfl h
  refine ⟨_, orc, LeL.refl _, ?_⟩
  cases A with
  | none => exact ⟨_, Le.refl _, h none rfl⟩
  | some a =>
    show ∀ e f, e = (p - a.2.2.1) % p → f = (p - a.2.2.2) % p → _
    exact fun e f he hf => ⟨_, Le.refl _, he ▸ hf ▸ h _ rfl⟩
theorem Good.oppO {p b0 b1 : Int} (hp : Pr p) {A B : Option Pt4} (h : Good p b0 b1 A) (o : OppO p A B) : Good p b0 b1 B := by
  cases A with
  | none => cases o; exact .none
  | some a => cases o; exact h.opp hp
theorem Good.preSO {p b0 b1 : Int} (hp : Pr p) {A B : Option Pt4} (h : Good p b0 b1 A) (h' : Good p b0 b1 B) : PreSO p A B := fun a b e1 e2 => preS_of hp (h.cn a e1) (h'.cn b e2) (h.on a e1) (h'.on b e2) (h.ny a e1)
noncomputable def cRq : Ctr := ⟨677, 690, 6900, fun ds orc k => ∃ p A z Z s S, ds = [.prm p, datO A, .tup [.int z Z, .int s S]] ∧ (Nat.ble Z 1000 = true ∧ Nat.ble S 1000 = true) ∧ CnO p A ∧ (Can p z ∧ Can p s ∧ ¬ (z = 0 ∧ s = 0)) ∧
  ∀ x0 x1 y0 y1 z0 z1, RepA p A x0 x1 y0 y1 z0 z1 → (A = none → ¬ (x0 = 0 ∧ x1 = 0)) → k (.tup [.fq2 p x0 x1, .fq2 p y0 y1, .fq2 p z0 z1]) orc⟩
theorem ok_Rq : cRq.Ok KK := ok_Lq.sub (Nat.le_refl _) (Nat.le_refl _) fun ds orc k fa h => by
  obtain ⟨p, A, z, Z, s, S, rfl, ⟨bZ, bS⟩, cA, ⟨cz, cs, n⟩, h⟩ := h
  refine ⟨_, orc, LeL.refl _, ?_⟩
  cases A with
  | none => exact ⟨⟨cz, cs⟩, _, Le.refl _, h z s z s 0 0 ⟨rfl, rfl⟩ fun _ => n⟩
  | some a =>
    show gd (Nat.ble Z 1000) (gd (Nat.ble S 1000) _)
    rw [bZ, bS]
    exact ⟨⟨cz, cs⟩, n, fun a' b' c' d' hr => ⟨_, Le.refl _, h a' b' c' d' z s hr (fun q => nomatch q)⟩⟩
noncomputable def cRis : Ctr := ⟨682, 690, 6900, fun ds orc k => ∃ p A x0 x1 y0 y1 z0 z1, ds = [.prm p, .tup [.fq2 p x0 x1, .fq2 p y0 y1, .fq2 p z0 z1], datO A] ∧ RepA p A x0 x1 y0 y1 z0 z1 ∧ k (.bool true) orc⟩
theorem ok_Ris : cRis.Ok KK := ok_Lis.sub (Nat.le_refl _) (Nat.le_refl _) fun ds orc k fa h => by
  obtain ⟨p, A, x0, x1, y0, y1, z0, z1, rfl, hr, h⟩ := h
  refine ⟨_, orc, LeL.refl _, ?_⟩
  cases A with
  | none => exact ⟨hr, _, Le.refl _, h⟩
  | some a => exact ⟨⟨rfl, rfl, rfl⟩, hr, _, Le.refl _, h⟩
noncomputable def cLp0 : Ctr := ⟨660, 690, 6900, fun ds orc k => ∃ p b0 b1 pts n B, ds = [.prm p, .lst (pts.map ptD), .int n B] ∧ Crv p b0 b1 pts ∧ (n % 15 = 14 → k .none orc) ∧ (n % 15 ≠ 14 → ∀ q, Good p b0 b1 (some q) → k (ptI q) orc)⟩
theorem ok_Lp0 : cLp0.Ok KK := runF_w k_ok (gam := [cLopp]) (gc ok_Lopp g0) fun ds orc k fa h => by
  obtain ⟨p, b0, b1, pts, n, B, rfl, hc, h14, h⟩ := h
  have hp := hc.pr
  refine ⟨_, [], LeL.refl _, fun P => ?_⟩
  generalize hl : pts.map ptD = l
  refine by_rfl (b := (decide (n % 15 = 14) = true → ∃ d', Le .none d' ∧ k d' orc) ∧ (decide (n % 15 = 14) = false → (0 ≤ n % 15 / 2 ∧ n % 15 / 2 < (l.length : Int) ∧ l.length ≤ 1000 ∧ Four l) ∧ ∀ (q1 : Pt4), l[(n % 15 / 2).toNat]? = some (ptD q1) → (decide (n % 15 % 2 = 0) = true → ∃ d', Le (ptI q1) d' ∧ k d' orc) ∧ (decide (n % 15 % 2 = 0) = false → ∀ (e2 f3 : Int), e2 = (p - q1.2.2.1) % p → f3 = (p - q1.2.2.2) % p → ∃ d', Le (ptI (q1.1, q1.2.1, e2, f3)) d' ∧ k d' orc))) (by kernel_rfl) ?_
  subst hl
  refine ⟨fun q => ⟨_, Le.refl _, h14 (by simpa using q)⟩, fun hn => ⟨⟨by omega, ?_, ?_, fun d hd => ?_⟩, fun q hq => ?_⟩⟩
  · rw [List.length_map, hc.b.2.2]
    have : n % 15 ≠ 14 := by simpa using hn
    omega
  · rw [List.length_map, hc.b.2.2]; decide
  · refine oEA (List.mem_map.mp hd) ?_; rintro q _ rfl; exact ⟨q, rfl⟩
  · have hm : q ∈ pts := by
      have := List.mem_of_getElem? hq
      refine oEA (List.mem_map.mp this) ?_; intro q' h1 h2
      unfold ptD at h2
      simp only [Dat.tup.injEq, List.cons.injEq, Dat.int.injEq, and_true] at h2
      have : q' = q := by
        obtain ⟨a1, a2, a3, a4⟩ := q'
        obtain ⟨b1, b2, b3, b4⟩ := q
        simp only at h2
        rw [h2.1, h2.2.1, h2.2.2.1, h2.2.2.2]
      exact this ▸ h1
    have g := hc.good hm
    have h := h (by simpa using hn)
    refine ⟨fun _ => ⟨_, Le.refl _, h q g⟩, fun _ e f he hf => ⟨_, Le.refl _, ?_⟩⟩
    subst he hf
    exact h _ (g.opp hp)
noncomputable def cRpt : Ctr := ⟨660, 690, 6900, fun ds orc k => ∃ p b0 b1 pts n B, ds = [.prm p, .lst (pts.map ptD), .int n B] ∧ Crv p b0 b1 pts ∧ ∀ A, Good p b0 b1 A → k (datO A) orc⟩
theorem ok_Rpt : cRpt.Ok KK := ok_Lp0.sub (Nat.le_refl _) (Nat.le_refl _) fun ds orc k fa h => by
  obtain ⟨p, b0, b1, pts, n, B, rfl, hc, h⟩ := h
  exact ⟨_, orc, LeL.refl _, p, b0, b1, pts, n, B, rfl, hc, fun _ => ⟨_, Le.refl _, h none .none⟩, fun _ q g => ⟨_, Le.refl _, h (some q) g⟩⟩
noncomputable def cSpt : Ctr := ⟨660, 690, 6900, fun ds orc k => match orc with
  | true :: r => ∃ p b0 b1 pts n B, ds = [.prm p, .lst (pts.map ptD), .int n B] ∧ Crv p b0 b1 pts ∧ n % 15 = 14 ∧ k .none r
  | false :: r => ∃ p b0 b1 pts n B, ds = [.prm p, .lst (pts.map ptD), .int n B] ∧ Crv p b0 b1 pts ∧ n % 15 ≠ 14 ∧ ∀ q, Good p b0 b1 (some q) → k (ptI q) r
  | [] => False⟩
set_option tactic.hygienic true in
theorem ok_Spt : cSpt.Ok KK := ok_Lp0.sub2 fun ds orc k fa h => by
  split at h
  · rename_i r
    obtain ⟨p, b0, b1, pts, n, B, rfl, hc, hn, h⟩ := h
    exact ⟨_, [], r, LeL.refl _, p, b0, b1, pts, n, B, rfl, hc, fun _ => ⟨_, Le.refl _, h⟩, fun nn => absurd hn nn⟩
  · rename_i r
    obtain ⟨p, b0, b1, pts, n, B, rfl, hc, hn, h⟩ := h
    exact ⟨_, [], r, LeL.refl _, p, b0, b1, pts, n, B, rfl, hc, fun nn => absurd nn hn, fun _ q g => ⟨_, Le.refl _, h q g⟩⟩
  · exact h.elim
noncomputable def gL : List Ctr := [cLat, cRpt, cRo, cLan, cRq, cRs, cRis, cAddO, cDblO, cM]
theorem ok_gL : ∀ c' ∈ gL, c'.Ok KK := gc ok_Lat (gc ok_Rpt (gc ok_Ro (gc ok_Lan (gc ok_Rq (gc ok_Rs (gc ok_Ris (gc ok_AddO (gc ok_DblO (gc ok_M g0)))))))))
noncomputable def gL5 : List Ctr := [cLat, cSpt, cLopp, cRq, cEqO, cNorm]
theorem ok_gL5 : ∀ c' ∈ gL5, c'.Ok KK := gc ok_Lat (gc ok_Spt (gc ok_Lopp (gc ok_Rq (gc ok_EqO (gc ok_Norm g0)))))
end
section
noncomputable def LatP (l : List Dat) (K : List Int → Prop) : Prop := ∃ sc, Dat.lst l = Dat.lst (liD sc) ∧ sc.length ≤ 63 ∧ K sc
noncomputable def PtP (p : Int) (pts : List Pt4) (n : Int) (K : Option Pt4 → Prop) : Prop :=
  ∃ p' b0 b1 pts' n' B, [Dat.prm p, .lst (pts.map ptD), .int n mil] = [Dat.prm p', .lst (List.map ptD pts'), .int n' B] ∧ Crv p' b0 b1 pts' ∧ ∀ A, Good p' b0 b1 A → K A
noncomputable def SptP (c : Bool) (p : Int) (pts : List Pt4) (n : Int) (K : Option Pt4 → Prop) : Prop := match c with
  | true => ∃ p' b0 b1 pts' n' B, [Dat.prm p, .lst (pts.map ptD), .int n mil] = [Dat.prm p', .lst (List.map ptD pts'), .int n' B] ∧ Crv p' b0 b1 pts' ∧ n' % 15 = 14 ∧ K none
  | false => ∃ p' b0 b1 pts' n' B, [Dat.prm p, .lst (pts.map ptD), .int n mil] = [Dat.prm p', .lst (List.map ptD pts'), .int n' B] ∧ Crv p' b0 b1 pts' ∧ n' % 15 ≠ 14 ∧ ∀ q, Good p' b0 b1 (some q) → K (some q)
noncomputable abbrev K6 := Int → Int → Int → Int → Int → Int → Int → Prop
noncomputable def QkP (p : Int) (A : Option Pt4) (z : Int) (Z : Nat) (s : Int) (S : Nat) (K : K6) : Prop :=
  ∃ p' A' z' Z' s' S', [Dat.prm p, datO A, .tup [.int z Z, .int s S]] = [Dat.prm p', datO A', .tup [.int z' Z', .int s' S']] ∧ (Nat.ble Z' 1000 = true ∧ Nat.ble S' 1000 = true) ∧ CnO p' A' ∧ (Can p' z' ∧ Can p' s' ∧ ¬ (z' = 0 ∧ s' = 0)) ∧
    ∀ x0 x1 y0 y1 z0 z1, RepA p' A' x0 x1 y0 y1 z0 z1 → (A' = none → ¬ (x0 = 0 ∧ x1 = 0)) → K p' x0 x1 y0 y1 z0 z1
noncomputable def Q1 (l : List Dat) (p : Int) (A : Option Pt4) (K : K6) : Prop := LatP l fun s6 => 0 < p - 1 ∧ LatP l fun s7 => QkP p A (1 + atF s6 6 % (p - 1)) 129 (atF s7 7 % p) 127 K
noncomputable def Q2 (l : List Dat) (p : Int) (A : Option Pt4) (K : K6) : Prop := LatP l fun s8 => LatP l fun s9 => 0 < p - 1 ∧ QkP p A (atF s8 8 % p) 127 (1 + atF s9 9 % (p - 1)) 129 K
noncomputable def SmP (p : Int) (A B : Option Pt4) (K : Option Pt4 → Prop) : Prop :=
  ∃ p' A' B', [Dat.prm p, datO A, datO B] = [Dat.prm p', datO A', datO B'] ∧ (CnO p' A' ∧ CnO p' B' ∧ PreSO p' A' B') ∧ ∀ r, CnO p' r → SumO p' A' B' r → K r
noncomputable def IsP (p q a0 a1 b0 b1 c0 c1 : Int) (r : Option Pt4) (K : Prop) : Prop :=
  ∃ p' A' x0 x1 y0 y1 z0 z1, [Dat.prm p, .tup [.fq2 q a0 a1, .fq2 q b0 b1, .fq2 q c0 c1], datO r] = [Dat.prm p', .tup [.fq2 p' x0 x1, .fq2 p' y0 y1, .fq2 p' z0 z1], datO A'] ∧ RepA p' A' x0 x1 y0 y1 z0 z1 ∧ K
noncomputable abbrev TT := Int → Int → Int → Option Pt4 → Option Pt4 → Int → Int → Prop
noncomputable def HeadP (l : List Dat) (T : TT) : Prop := LatP l fun s0 => (0 ≤ atF s0 0 % 8 ∧ atF s0 0 % 8 < 8) ∧ ∀ p b0 b1 pts, Crv p b0 b1 pts → LatP l fun s3 => PtP p pts (atF s3 3) fun A => LatP l fun s4 => PtP p pts (atF s4 4) fun B =>
  LatP l fun s5 => LatP l fun s11 => T p b0 b1 A B (atF s5 5 % 6) (atF s11 11 % 7)
noncomputable def HeadS (cA cB : Bool) (l : List Dat) (T : TT) : Prop := LatP l fun s0 => (0 ≤ atF s0 0 % 8 ∧ atF s0 0 % 8 < 8) ∧ ∀ p b0 b1 pts, Crv p b0 b1 pts → LatP l fun s3 => SptP cA p pts (atF s3 3) fun A => LatP l fun s4 => SptP cB p pts (atF s4 4) fun B =>
  LatP l fun s5 => LatP l fun s11 => T p b0 b1 A B (atF s5 5 % 6) (atF s11 11 % 7)
noncomputable def KindP (kd : Nat) (p : Int) (A B : Option Pt4) (kv : Int) (K : Option Pt4 → Prop) : Prop := match kd with
  | 0 => decide (kv = 0) = true ∧ decide (kv = 1) = false ∧ K A
  | 1 => decide (kv = 0) = false ∧ decide (kv = 1) = true ∧ ∃ p' A', [Dat.prm p, datO A] = [Dat.prm p', datO A'] ∧ ∀ B', OppO p' A' B' → K B'
  | _ => decide (kv = 0) = false ∧ decide (kv = 1) = false ∧ K B
noncomputable def KindS (kd : Nat) (p : Int) (A B : Option Pt4) (kv : Int) (K : Option Pt4 → Prop) : Prop := match kd with
  | 0 => decide (kv = 0) = true ∧ decide (kv = 1) = false ∧ K A
  | 1 => decide (kv = 0) = false ∧ decide (kv = 1) = true ∧ (match A with
    | none => K none
    | some a => ∀ e f, e = (p - a.2.2.1) % p → f = (p - a.2.2.2) % p → K (some (a.1, a.2.1, e, f)))
  | _ => decide (kv = 0) = false ∧ decide (kv = 1) = false ∧ K B
noncomputable def T0 (k : Prop) (p b0 b1 : Int) (A B : Option Pt4) (wv : Int) : Prop := decide (wv < 3) = true ∧ ∃ way W p' b0' B0 b1' B1 A' B', [Dat.int wv 7, .prm p, .tup [.int b0 127, .int b1 127], datO A, datO B] = [Dat.int way W, .prm p', .tup [.int b0' B0, .int b1' B1], datO A', datO B'] ∧
  (0 ≤ way ∧ way < 3) ∧ (Can p' b0' ∧ Can p' b1') ∧ Good p' b0' b1' A' ∧ Good p' b0' b1' B' ∧ k
noncomputable def T3 (k : Prop) (l : List Dat) (p : Int) (A B : Option Pt4) (wv : Int) : Prop := decide (wv < 3) = false ∧ Q1 l p A fun q x0 x1 y0 y1 z0 z1 => decide (wv = 3) = true ∧ Q2 l p B fun q2 u0 u1 v0 v1 w0 w1 => decide (wv = 3) = true ∧ (q = q ∧ q = q ∧ q2 = q ∧ q2 = q ∧ q2 = q) ∧
  ∃ A' B', CnO q A' ∧ CnO q B' ∧ PreO A' B' ∧ RepA q A' x0 x1 y0 y1 z0 z1 ∧ RepA q B' u0 u1 v0 v1 w0 w1 ∧ ∀ s a0 a1 b0 b1 c0 c1, SumO q A' B' s → RepA q s a0 a1 b0 b1 c0 c1 → SmP p A B fun r => IsP p q a0 a1 b0 b1 c0 c1 r k
noncomputable def T4 (k : Prop) (l : List Dat) (p : Int) (A : Option Pt4) (wv : Int) : Prop := decide (wv < 3) = false ∧ Q1 l p A fun q x0 x1 y0 y1 z0 z1 => decide (wv = 3) = false ∧ decide (wv = 5) = false ∧ decide (wv = 4) = true ∧ (q = q ∧ q = q) ∧
  ∃ A', CnO q A' ∧ NYO A' ∧ RepA q A' x0 x1 y0 y1 z0 z1 ∧ ∀ s a0 a1 b0 b1 c0 c1, SumO q A' A' s → RepA q s a0 a1 b0 b1 c0 c1 → SmP p A A fun r => IsP p q a0 a1 b0 b1 c0 c1 r k
noncomputable def M6 (k : Prop) (p q n x0 x1 y0 y1 z0 z1 : Int) (due : Option Pt4) : Prop := (q = q ∧ q = q) ∧ (0 ≤ n ∧ n ≤ 3) ∧ ∃ A', CnO q A' ∧ NYO A' ∧ RepA q A' x0 x1 y0 y1 z0 z1 ∧ ∀ s u0 u1 v0 v1 w0 w1, MulO q n A' s → RepA q s u0 u1 v0 v1 w0 w1 → IsP p q u0 u1 v0 v1 w0 w1 due k
noncomputable def T6 (k : Prop) (l : List Dat) (p : Int) (A : Option Pt4) (wv : Int) : Prop := decide (wv < 3) = false ∧ Q1 l p A fun q x0 x1 y0 y1 z0 z1 => decide (wv = 3) = false ∧ decide (wv = 5) = false ∧ decide (wv = 4) = false ∧ LatP l fun s => (0 ≤ atF s 10 % 4 ∧ atF s 10 % 4 < 4) ∧
  (atF s 10 % 4 = 0 → M6 k p q (atF s 10 % 4) x0 x1 y0 y1 z0 z1 none) ∧
  (atF s 10 % 4 = 1 → SmP p none A fun r1 => M6 k p q (atF s 10 % 4) x0 x1 y0 y1 z0 z1 r1) ∧
  (atF s 10 % 4 = 2 → SmP p none A fun r1 => SmP p r1 A fun r2 => M6 k p q (atF s 10 % 4) x0 x1 y0 y1 z0 z1 r2) ∧
  (atF s 10 % 4 = 3 → SmP p none A fun r1 => SmP p r1 A fun r2 => SmP p r2 A fun r3 => M6 k p q (atF s 10 % 4) x0 x1 y0 y1 z0 z1 r3)
noncomputable def pyO : Option Pt4 → PyData
  | none => .none
  | some a => toPt a
noncomputable def T5 (kk : Dat → Prop) (l : List Dat) (p : Int) (A B : Option Pt4) (wv : Int) : Prop := decide (wv < 3) = false ∧ Q1 l p A fun q x0 x1 y0 y1 z0 z1 => decide (wv = 3) = false ∧ decide (wv = 5) = true ∧ Q2 l p B fun q2 u0 u1 v0 v1 w0 w1 => decide (wv = 3) = false ∧ (q = q ∧ q = q ∧ q2 = q ∧ q2 = q ∧ q2 = q) ∧
  ∃ A' B', CnO q A' ∧ CnO q B' ∧ RepA q A' x0 x1 y0 y1 z0 z1 ∧ RepA q B' u0 u1 v0 v1 w0 w1 ∧ (A' = none → ¬ (x0 = 0 ∧ x1 = 0)) ∧ (B' = none → ¬ (u0 = 0 ∧ u1 = 0)) ∧ ∀ t : Bool, (t = true ↔ A' = B') →
    xor true (PyData.eqv (.bool t) (.bool (xor false (PyData.eqv (pyO A) (pyO B))))) = false ∧ (match A with
      | none => kk (.bool true)
      | some a => (q = q ∧ q = q) ∧ ∃ t', Cn q t' ∧ RepA q (some t') x0 x1 y0 y1 z0 z1 ∧ kk (.sb (xor false (PyData.eqv (toPt t') (toPt a)))))
section
variable (P : Params) (l : List Dat) (k : Dat → List Bool → Prop)
theorem path_0_0 : runF (KK P) gL 600 6000 694 [.lst l] [true, false, true] k = HeadP l fun p b0 b1 A B kv wv => KindP 0 p A B kv fun B' => T0 (k (.bool true) []) p b0 b1 A B' wv := by kernel_rfl
theorem path_0_3 : runF (KK P) gL 600 6000 694 [.lst l] [true, false, false, true, true] k = HeadP l fun p b0 b1 A B kv wv => KindP 0 p A B kv fun B' => T3 (k (.bool true) []) l p A B' wv := by kernel_rfl
theorem path_0_4 : runF (KK P) gL 600 6000 694 [.lst l] [true, false, false, false, false, true] k = HeadP l fun p b0 b1 A B kv wv => KindP 0 p A B kv fun B' => T4 (k (.bool true) []) l p A wv := by kernel_rfl
theorem path_0_6 : runF (KK P) gL 600 6000 694 [.lst l] [true, false, false, false, false, false] k = HeadP l fun p b0 b1 A B kv wv => KindP 0 p A B kv fun B' => T6 (k (.bool true) []) l p A wv := by kernel_rfl
theorem path_1_0 : runF (KK P) gL 600 6000 694 [.lst l] [false, true, true] k = HeadP l fun p b0 b1 A B kv wv => KindP 1 p A B kv fun B' => T0 (k (.bool true) []) p b0 b1 A B' wv := by kernel_rfl
theorem path_1_3 : runF (KK P) gL 600 6000 694 [.lst l] [false, true, false, true, true] k = HeadP l fun p b0 b1 A B kv wv => KindP 1 p A B kv fun B' => T3 (k (.bool true) []) l p A B' wv := by kernel_rfl
theorem path_1_4 : runF (KK P) gL 600 6000 694 [.lst l] [false, true, false, false, false, true] k = HeadP l fun p b0 b1 A B kv wv => KindP 1 p A B kv fun B' => T4 (k (.bool true) []) l p A wv := by kernel_rfl
theorem path_1_6 : runF (KK P) gL 600 6000 694 [.lst l] [false, true, false, false, false, false] k = HeadP l fun p b0 b1 A B kv wv => KindP 1 p A B kv fun B' => T6 (k (.bool true) []) l p A wv := by kernel_rfl
theorem path_2_0 : runF (KK P) gL 600 6000 694 [.lst l] [false, false, true] k = HeadP l fun p b0 b1 A B kv wv => KindP 2 p A B kv fun B' => T0 (k (.bool true) []) p b0 b1 A B' wv := by kernel_rfl
theorem path_2_3 : runF (KK P) gL 600 6000 694 [.lst l] [false, false, false, true, true] k = HeadP l fun p b0 b1 A B kv wv => KindP 2 p A B kv fun B' => T3 (k (.bool true) []) l p A B' wv := by kernel_rfl
theorem path_2_4 : runF (KK P) gL 600 6000 694 [.lst l] [false, false, false, false, false, true] k = HeadP l fun p b0 b1 A B kv wv => KindP 2 p A B kv fun B' => T4 (k (.bool true) []) l p A wv := by kernel_rfl
theorem path_2_6 : runF (KK P) gL 600 6000 694 [.lst l] [false, false, false, false, false, false] k = HeadP l fun p b0 b1 A B kv wv => KindP 2 p A B kv fun B' => T6 (k (.bool true) []) l p A wv := by kernel_rfl
theorem pathS_0_true_true : runF (KK P) gL5 600 6000 694 [.lst l] [true, true, true, false, false, false, true, false, false] k = HeadS true true l fun p b0 b1 A B kv wv => KindS 0 p A B kv fun B' => T5 (fun d => k d []) l p A B' wv := by kernel_rfl
theorem pathS_0_true_false : runF (KK P) gL5 600 6000 694 [.lst l] [true, false, true, false, false, false, true, false, false] k = HeadS true false l fun p b0 b1 A B kv wv => KindS 0 p A B kv fun B' => T5 (fun d => k d []) l p A B' wv := by kernel_rfl
theorem pathS_0_false_true : runF (KK P) gL5 600 6000 694 [.lst l] [false, true, true, false, false, false, true, false, false] k = HeadS false true l fun p b0 b1 A B kv wv => KindS 0 p A B kv fun B' => T5 (fun d => k d []) l p A B' wv := by kernel_rfl
theorem pathS_0_false_false : runF (KK P) gL5 600 6000 694 [.lst l] [false, false, true, false, false, false, true, false, false] k = HeadS false false l fun p b0 b1 A B kv wv => KindS 0 p A B kv fun B' => T5 (fun d => k d []) l p A B' wv := by kernel_rfl
theorem pathS_1_true_true : runF (KK P) gL5 600 6000 694 [.lst l] [true, true, false, true, false, false, true, false, false] k = HeadS true true l fun p b0 b1 A B kv wv => KindS 1 p A B kv fun B' => T5 (fun d => k d []) l p A B' wv := by kernel_rfl
theorem pathS_1_true_false : runF (KK P) gL5 600 6000 694 [.lst l] [true, false, false, true, false, false, true, false, false] k = HeadS true false l fun p b0 b1 A B kv wv => KindS 1 p A B kv fun B' => T5 (fun d => k d []) l p A B' wv := by kernel_rfl
theorem pathS_1_false_true : runF (KK P) gL5 600 6000 694 [.lst l] [false, true, false, true, false, false, true, false, false] k = HeadS false true l fun p b0 b1 A B kv wv => KindS 1 p A B kv fun B' => T5 (fun d => k d []) l p A B' wv := by kernel_rfl
theorem pathS_1_false_false : runF (KK P) gL5 600 6000 694 [.lst l] [false, false, false, true, false, false, true, false, false] k = HeadS false false l fun p b0 b1 A B kv wv => KindS 1 p A B kv fun B' => T5 (fun d => k d []) l p A B' wv := by kernel_rfl
theorem pathS_2_true_true : runF (KK P) gL5 600 6000 694 [.lst l] [true, true, false, false, false, false, true, false, false] k = HeadS true true l fun p b0 b1 A B kv wv => KindS 2 p A B kv fun B' => T5 (fun d => k d []) l p A B' wv := by kernel_rfl
theorem pathS_2_true_false : runF (KK P) gL5 600 6000 694 [.lst l] [true, false, false, false, false, false, true, false, false] k = HeadS true false l fun p b0 b1 A B kv wv => KindS 2 p A B kv fun B' => T5 (fun d => k d []) l p A B' wv := by kernel_rfl
theorem pathS_2_false_true : runF (KK P) gL5 600 6000 694 [.lst l] [false, true, false, false, false, false, true, false, false] k = HeadS false true l fun p b0 b1 A B kv wv => KindS 2 p A B kv fun B' => T5 (fun d => k d []) l p A B' wv := by kernel_rfl
theorem pathS_2_false_false : runF (KK P) gL5 600 6000 694 [.lst l] [false, false, false, false, false, false, true, false, false] k = HeadS false false l fun p b0 b1 A B kv wv => KindS 2 p A B kv fun B' => T5 (fun d => k d []) l p A B' wv := by kernel_rfl
end
end
section
theorem on_dbl {p b0 b1 : Int} {a r : Pt4} (h : On p b0 b1 a) (s : SumR p a a r) : On p b0 b1 r := fun {R} _ c F => by
  have ho := h c F
  refine oEAAA (s c F) ?_; intro m m1 _ m3 m4
  have m1 := m1 rfl
  have h2 : m * m = cx c r + 2 * cx c a := by rw [m3]; grind
  have h3 : cy c r * cy c r = (m * m) * ((cx c a - cx c r) * (cx c a - cx c r)) - (m * (2 * cy c a)) * (cx c a - cx c r) + cy c a * cy c a := by rw [m4]; grind
  rw [h3, h2, m1, ho]; grind
theorem preS_of' {p b0 b1 : Int} (hp : Pr p) {a b : Pt4} (ca : Cn p a) (cb : Cn p b) (oa : On p b0 b1 a) (ob : On p b0 b1 b) (ny : a = b → NY a) : PreS p a b := by
  by_cases e : a = b
  · exact fun _ => .inl ⟨e, ny e⟩
  · intro hx
    refine .inr ⟨e, ?_⟩
    have F := fld p
    letI := gRing p
    have h1 := oa _ F
    have h2 := ob _ F
    have ex : cx (gcl p) a = cx (gcl p) b := by show gcl p a.1 a.2.1 = gcl p b.1 b.2.1; rw [hx.1, hx.2]
    have ne : cy (gcl p) a - cy (gcl p) b ≠ 0 := fun q => e (by
      have : cy (gcl p) a = cy (gcl p) b := by
        have e1 : cy (gcl p) a = (cy (gcl p) a - cy (gcl p) b) + cy (gcl p) b := by grind
        rw [e1, q]; grind
      exact pt_eq F ca cb ex this)
    have pr : (cy (gcl p) a - cy (gcl p) b) * (cy (gcl p) a + cy (gcl p) b) = 0 := by
      have : (cy (gcl p) a - cy (gcl p) b) * (cy (gcl p) a + cy (gcl p) b) = cy (gcl p) a * cy (gcl p) a - cy (gcl p) b * cy (gcl p) b := by grind
      rw [this, h1, h2, ex]; grind
    rw [← F.sub] at ne pr
    have z := F.cancel hp ne (x := cy (gcl p) a + cy (gcl p) b) (y := 0) (by rw [pr]; grind)
    rw [← F.add, F.zero_iff] at z
    exact ⟨Int.emod_eq_zero_of_dvd z.1, Int.emod_eq_zero_of_dvd z.2⟩
section
variable {sc : List Int} (hl : sc.length ≤ 63)
include hl
theorem LatP.of {K : List Int → Prop} (h : K sc) : LatP (liD sc) K := ⟨sc, rfl, hl, h⟩
theorem PtP.of {p b0 b1 : Int} {pts : List Pt4} {n : Int} {K : Option Pt4 → Prop} (hc : Crv p b0 b1 pts) (h : ∀ A, Good p b0 b1 A → K A) : PtP p pts n K := ⟨p, b0, b1, pts, n, mil, rfl, hc, h⟩
theorem SptP.of {c : Bool} {p b0 b1 : Int} {pts : List Pt4} {n : Int} {K : Option Pt4 → Prop} (hc : Crv p b0 b1 pts) (hn : c = decide (n % 15 = 14)) (h : ∀ A, Good p b0 b1 A → K A) : SptP c p pts n K := by
  cases c with
  | true => exact ⟨p, b0, b1, pts, n, mil, rfl, hc, of_decide_eq_true hn.symm, h none .none⟩
  | false => exact ⟨p, b0, b1, pts, n, mil, rfl, hc, of_decide_eq_false hn.symm, fun q g => h _ g⟩
theorem HeadP.of {T : TT} (h : ∀ p b0 b1 pts, Crv p b0 b1 pts → ∀ A B, Good p b0 b1 A → Good p b0 b1 B → T p b0 b1 A B (atF sc 5 % 6) (atF sc 11 % 7)) : HeadP (liD sc) T :=
  LatP.of hl ⟨⟨by omega, by omega⟩, fun p b0 b1 pts hc => LatP.of hl (PtP.of hl hc fun A gA => LatP.of hl (PtP.of hl hc fun B gB => LatP.of hl (LatP.of hl (h p b0 b1 pts hc A B gA gB))))⟩
theorem HeadS.of {T : TT} {cA cB : Bool} (hA : cA = decide (atF sc 3 % 15 = 14)) (hB : cB = decide (atF sc 4 % 15 = 14)) (h : ∀ p b0 b1 pts, Crv p b0 b1 pts → ∀ A B, Good p b0 b1 A → Good p b0 b1 B → T p b0 b1 A B (atF sc 5 % 6) (atF sc 11 % 7)) : HeadS cA cB (liD sc) T :=
  LatP.of hl ⟨⟨by omega, by omega⟩, fun p b0 b1 pts hc => LatP.of hl (SptP.of hl hc hA fun A gA => LatP.of hl (SptP.of hl hc hB fun B gB => LatP.of hl (LatP.of hl (h p b0 b1 pts hc A B gA gB))))⟩
theorem QkP.of {p : Int} {A : Option Pt4} {z : Int} {Z : Nat} {s : Int} {S : Nat} {K : K6} (bz : Nat.ble Z 1000 = true) (bs : Nat.ble S 1000 = true) (cA : CnO p A) (cz : Can p z) (cs : Can p s) (n : ¬ (z = 0 ∧ s = 0))
    (h : ∀ x0 x1 y0 y1 z0 z1, RepA p A x0 x1 y0 y1 z0 z1 → (A = none → ¬ (x0 = 0 ∧ x1 = 0)) → K p x0 x1 y0 y1 z0 z1) : QkP p A z Z s S K := ⟨p, A, z, Z, s, S, rfl, ⟨bz, bs⟩, cA, ⟨cz, cs, n⟩, h⟩
theorem sc1 {p : Int} (hp : Pr p) (x : Int) : Can p (1 + x % (p - 1)) ∧ 1 + x % (p - 1) ≠ 0 := by
  have := hp.ge
  have h0 := Int.emod_nonneg x (show p - 1 ≠ 0 by omega)
  have h1 := Int.emod_lt_of_pos x (show 0 < p - 1 by omega)
  exact ⟨⟨hp, by omega, by omega⟩, by omega⟩
theorem Q1.of {p : Int} (hp : Pr p) {A : Option Pt4} {K : K6} (cA : CnO p A) (h : ∀ x0 x1 y0 y1 z0 z1, RepA p A x0 x1 y0 y1 z0 z1 → (A = none → ¬ (x0 = 0 ∧ x1 = 0)) → K p x0 x1 y0 y1 z0 z1) : Q1 (liD sc) p A K := by
  have p1 := hp.ge
  refine oA (sc1 hl hp (atF sc 6)) ?_; intro c n
  exact LatP.of hl ⟨by omega, LatP.of hl (QkP.of hl rfl rfl cA c (Can.of hp _) (fun q => n q.1) h)⟩
theorem Q2.of {p : Int} (hp : Pr p) {A : Option Pt4} {K : K6} (cA : CnO p A) (h : ∀ x0 x1 y0 y1 z0 z1, RepA p A x0 x1 y0 y1 z0 z1 → (A = none → ¬ (x0 = 0 ∧ x1 = 0)) → K p x0 x1 y0 y1 z0 z1) : Q2 (liD sc) p A K := by
  have p1 := hp.ge
  refine oA (sc1 hl hp (atF sc 9)) ?_; intro c n
  exact LatP.of hl (LatP.of hl ⟨by omega, QkP.of hl rfl rfl cA (Can.of hp _) c (fun q => n q.2) h⟩)
end
theorem SmP.of {p : Int} {A B : Option Pt4} {K : Option Pt4 → Prop} (cA : CnO p A) (cB : CnO p B) (hP : PreSO p A B) (h : ∀ r, CnO p r → SumO p A B r → K r) : SmP p A B K := ⟨p, A, B, rfl, ⟨cA, cB, hP⟩, h⟩
theorem IsP.of {p a0 a1 b0 b1 c0 c1 : Int} {r : Option Pt4} {K : Prop} (h : RepA p r a0 a1 b0 b1 c0 c1) (k : K) : IsP p p a0 a1 b0 b1 c0 c1 r K := ⟨p, r, a0, a1, b0, b1, c0, c1, rfl, h, k⟩
theorem KindP.of {kd : Nat} {p b0 b1 : Int} (hp : Pr p) {A B : Option Pt4} {kv : Int} {K : Option Pt4 → Prop} (h0 : (kd = 0 ∧ kv = 0) ∨ (kd = 1 ∧ kv = 1) ∨ (kd = 2 ∧ kv ≠ 0 ∧ kv ≠ 1)) (gA : Good p b0 b1 A) (gB : Good p b0 b1 B) (h : ∀ B', Good p b0 b1 B' → K B') : KindP kd p A B kv K := by
  rcases h0 with ⟨rfl, rfl⟩ | ⟨rfl, rfl⟩ | ⟨rfl, h1, h2⟩
  · exact ⟨rfl, rfl, h A gA⟩
  · exact ⟨rfl, rfl, p, A, rfl, fun B' o => h B' (gA.oppO hp o)⟩
  · exact ⟨decide_eq_false h1, decide_eq_false h2, h B gB⟩
theorem KindS.of {kd : Nat} {p b0 b1 : Int} (hp : Pr p) {A B : Option Pt4} {kv : Int} {K : Option Pt4 → Prop} (h0 : (kd = 0 ∧ kv = 0) ∨ (kd = 1 ∧ kv = 1) ∨ (kd = 2 ∧ kv ≠ 0 ∧ kv ≠ 1)) (gA : Good p b0 b1 A) (gB : Good p b0 b1 B) (h : ∀ B', Good p b0 b1 B' → K B') : KindS kd p A B kv K := by
  rcases h0 with ⟨rfl, rfl⟩ | ⟨rfl, rfl⟩ | ⟨rfl, h1, h2⟩
  · exact ⟨rfl, rfl, h A gA⟩
  · refine ⟨rfl, rfl, ?_⟩
    cases A with
    | none => exact h none gA
    | some a => exact fun e f he hf => by subst he hf; exact h _ (gA.opp hp)
  · exact ⟨decide_eq_false h1, decide_eq_false h2, h B gB⟩
theorem T0.of {k : Prop} {p b0 b1 : Int} {A B : Option Pt4} {wv : Int} (hw : 0 ≤ wv ∧ wv < 3) (c0 : Can p b0) (c1 : Can p b1) (gA : Good p b0 b1 A) (gB : Good p b0 b1 B) (h : k) : T0 k p b0 b1 A B wv :=
  ⟨decide_eq_true hw.2, wv, 7, p, b0, 127, b1, 127, A, B, rfl, hw, ⟨c0, c1⟩, gA, gB, h⟩
section
variable {sc : List Int} (hl : sc.length ≤ 63)
include hl
theorem T3.of {k : Prop} {p b0 b1 : Int} (hp : Pr p) {A B : Option Pt4} {wv : Int} (hw : wv = 3) (gA : Good p b0 b1 A) (gB : Good p b0 b1 B) (h : k) : T3 k (liD sc) p A B wv := by
  subst hw
  have pS := gA.preSO hp gB
  refine ⟨rfl, Q1.of hl hp gA.cn fun x0 x1 y0 y1 z0 z1 rA _ => ⟨rfl, Q2.of hl hp gB.cn fun u0 u1 v0 v1 w0 w1 rB _ => ⟨rfl, ⟨rfl, rfl, rfl, rfl, rfl⟩, A, B, gA.cn, gB.cn, pS.pre gA.ny, rA, rB, fun s a0 a1 b0 b1 c0 c1 hs rs => SmP.of gA.cn gB.cn pS fun r cr hr => ?_⟩⟩⟩
  have := sumO_uniq hp gA.cn gB.cn (pS.pre gA.ny) hs hr
  subst this
  exact IsP.of rs h
theorem T4.of {k : Prop} {p b0 b1 : Int} (hp : Pr p) {A : Option Pt4} {wv : Int} (hw : wv = 4) (gA : Good p b0 b1 A) (h : k) : T4 k (liD sc) p A wv := by
  subst hw
  have pS := gA.preSO hp gA
  refine ⟨rfl, Q1.of hl hp gA.cn fun x0 x1 y0 y1 z0 z1 rA _ => ⟨rfl, rfl, rfl, ⟨rfl, rfl⟩, A, gA.cn, gA.ny, rA, fun s a0 a1 b0 b1 c0 c1 hs rs => SmP.of gA.cn gA.cn pS fun r cr hr => ?_⟩⟩
  have := sumO_uniq hp gA.cn gA.cn (pS.pre gA.ny) hs hr
  subst this
  exact IsP.of rs h
theorem T5.of {kk : Dat → Prop} {p b0 b1 : Int} (hp : Pr p) {A B : Option Pt4} {wv : Int} (hw : wv = 5) (gA : Good p b0 b1 A) (gB : Good p b0 b1 B) (h1 : kk (.bool true)) (h2 : kk (.sb true)) : T5 kk (liD sc) p A B wv := by
  subst hw
  refine ⟨rfl, Q1.of hl hp gA.cn fun x0 x1 y0 y1 z0 z1 rA nA => ⟨rfl, rfl, Q2.of hl hp gB.cn fun u0 u1 v0 v1 w0 w1 rB nB => ⟨rfl, ⟨rfl, rfl, rfl, rfl, rfl⟩, A, B, gA.cn, gB.cn, rA, rB, nA, nB, fun t ht => ⟨?_, ?_⟩⟩⟩⟩
  · have e : xor false (PyData.eqv (pyO A) (pyO B)) = t := by
      cases A with
      | none => cases B with
        | none => rw [ht.mpr rfl]; exact eqvN
        | some b =>
          have : t = false := by
            cases t with
            | false => rfl
            | true => exact absurd (ht.mp rfl) (fun q => nomatch q)
          rw [this]; rfl
      | some a => cases B with
        | none =>
          have : t = false := by
            cases t with
            | false => rfl
            | true => exact absurd (ht.mp rfl) (fun q => nomatch q)
          rw [this]; rfl
        | some b =>
          show xor false (PyData.eqv (toPt a) (toPt b)) = t
          rw [eqvP, Bool.eq_iff_iff, ht]
          simp
    rw [e]
    cases t <;> rfl
  · cases A with
    | none => exact h1
    | some a =>
      refine ⟨⟨rfl, rfl⟩, a, gA.cn a rfl, rA, ?_⟩
      rw [eqvP, decide_eq_true rfl]; exact h2
theorem mulO_uniq {p n : Int} (hp : Pr p) {A s : Option Pt4} (cA : CnO p A) (ny : NYO A) (hm : MulO p n A s) :
    (n = 0 → s = none) ∧ (n = 1 → ∀ r1, SumO p none A r1 → s = r1) ∧ (n = 2 → ∀ r1 r2, SumO p none A r1 → SumO p r1 A r2 → s = r2) ∧ (n = 3 → ∀ r1 r2 r3, SumO p none A r1 → SumO p r1 A r2 → SumO p r2 A r3 → s = r3) := by
  have e1 : ∀ {r}, SumO p none A r → r = A := fun h => h
  have pA : PreO A A := fun a e _ => ny a e
  refine ⟨hm.1, fun hn r1 h1 => ?_, fun hn r1 r2 h1 h2 => ?_, fun hn r1 r2 r3 h1 h2 h3 => ?_⟩
  · rw [hm.2.1 hn, e1 h1]
  · rw [e1 h1] at h2
    exact sumO_uniq hp cA cA pA (hm.2.2.1 hn) h2
  · rw [e1 h1] at h2
    refine oEA (hm.2.2.2 hn) ?_; intro t q1 q2
    have := sumO_uniq hp cA cA pA q1 h2
    subst this
    exact sumO_uniq hp (sumO_cn cA cA q1) cA (fun a _ e => ny a e) q2 h3
theorem T6.of {k : Prop} {p b0 b1 : Int} (hp : Pr p) {A : Option Pt4} {wv : Int} (hw : ¬ wv < 3 ∧ wv ≠ 3 ∧ wv ≠ 5 ∧ wv ≠ 4) (gA : Good p b0 b1 A) (h : k) : T6 k (liD sc) p A wv := by
  have pS := gA.preSO hp gA
  have cA := gA.cn
  have cN : CnO p none := fun _ q => nomatch q
  refine ⟨decide_eq_false hw.1, Q1.of hl hp cA fun x0 x1 y0 y1 z0 z1 rA _ => ⟨decide_eq_false hw.2.1, decide_eq_false hw.2.2.1, decide_eq_false hw.2.2.2, LatP.of hl ⟨⟨by omega, by omega⟩, ?_⟩⟩⟩
  generalize hn : atF sc 10 % 4 = n
  have n0 : 0 ≤ n ∧ n ≤ 3 := by omega
  have fin : ∀ due, (∀ s, MulO p n A s → s = due) → M6 k p p n x0 x1 y0 y1 z0 z1 due := fun due hd => ⟨⟨rfl, rfl⟩, n0, A, cA, gA.ny, rA, fun s u0 u1 v0 v1 w0 w1 hm rs => by
    have := hd s hm
    subst this
    exact IsP.of rs h⟩
  have e1 : ∀ {r}, SumO p none A r → r = A := fun h => h
  have pN : PreSO p none A := fun _ _ q => nomatch q
  have pT : ∀ r1 r2, SumO p none A r1 → SumO p r1 A r2 → PreSO p r2 A := fun r1 r2 h1 h2 => by
    have q := e1 h1
    subst q
    intro a b ea eb
    subst ea eb
    have nn : ¬ NoneC b b := fun n => n.2.2 ⟨rfl, rfl⟩
    refine oEAA (h2.2 nn) ?_; intro q eq cq sq
    cases eq
    have ob : On p b0 b1 b := gA.on b rfl
    exact preS_of' hp cq (cA b rfl) (on_dbl ob sq) ob fun e => e ▸ gA.ny b rfl
  refine ⟨fun q => fin none fun s hm => (mulO_uniq hl hp cA gA.ny hm).1 q, fun q => SmP.of cN cA pN fun r1 c1 h1 => fin r1 fun s hm => (mulO_uniq hl hp cA gA.ny hm).2.1 q r1 h1, fun q => SmP.of cN cA pN fun r1 c1 h1 => SmP.of c1 cA (e1 h1 ▸ pS) fun r2 c2 h2 => fin r2 fun s hm => (mulO_uniq hl hp cA gA.ny hm).2.2.1 q r1 r2 h1 h2,
    fun q => SmP.of cN cA pN fun r1 c1 h1 => SmP.of c1 cA (e1 h1 ▸ pS) fun r2 c2 h2 => SmP.of c2 cA (pT r1 r2 h1 h2) fun r3 c3 h3 => fin r3 fun s hm => (mulO_uniq hl hp cA gA.ny hm).2.2.2 q r1 r2 r3 h1 h2 h3⟩
end
noncomputable def cLaw : Ctr := ⟨694, 600, 6000, fun ds orc k => ∃ sc : List Int, ds = [.lst (liD sc)] ∧ sc.length ≤ 63 ∧ k (.bool true) orc⟩
theorem ok_Law : cLaw.Ok KK := by
  have h1 : Ctr.Ok KK ⟨694, 600, 6000, fun ds orc k => ∀ P, runF (KK P) gL 600 6000 694 ds orc k⟩ := runF_ok k_ok ok_gL fun P ds orc k _ t => t P
  have h2 : Ctr.Ok KK ⟨694, 600, 6000, fun ds orc k => ∀ P, runF (KK P) gL5 600 6000 694 ds orc k⟩ := runF_ok k_ok ok_gL5 fun P ds orc k _ t => t P
  intro prog w p loose mg mb g O s ds vs orc k Q E B L W r t Pk
  refine oEAA t ?_; clear t; rintro sc rfl hl hk
  have hkd : ∃ kd : Nat, (kd = 0 ∧ atF sc 5 % 6 = 0) ∨ (kd = 1 ∧ atF sc 5 % 6 = 1) ∨ (kd = 2 ∧ atF sc 5 % 6 ≠ 0 ∧ atF sc 5 % 6 ≠ 1) := by
    by_cases q0 : atF sc 5 % 6 = 0
    · exact ⟨0, .inl ⟨rfl, q0⟩⟩
    · by_cases q1 : atF sc 5 % 6 = 1
      · exact ⟨1, .inr (.inl ⟨rfl, q1⟩)⟩
      · exact ⟨2, .inr (.inr ⟨rfl, q0, q1⟩)⟩
  refine oE hkd ?_; clear hkd; intro kd hkd
  let kf : Dat → List Bool → Prop := fun d _ => ∃ d', Le d d' ∧ k d' orc
  have fin : ∀ (o : List Bool) (gam : List Ctr), Ctr.Ok KK ⟨694, 600, 6000, fun ds orc k => ∀ P, runF (KK P) gam 600 6000 694 ds orc k⟩ → (∀ P, runF (KK P) gam 600 6000 694 [.lst (liD sc)] o kf) → wpAny (model prog w) (AA 600 6000) (call (.ref 694) vs) Q E s :=
    fun o gam hg hr => hg prog w p loose mg mb g O s _ vs o kf Q E B L W r hr fun d o' r s' kd kt gs tb rr => by
      refine oEA kd ?_; clear kd; intro d' a b
      exact Pk d' orc r s' b kt gs tb (a _ _ rr)
  have kT : kf (.bool true) [] := ⟨_, Le.refl _, hk⟩
  have kS : kf (.sb true) [] := ⟨_, Le.bs, hk⟩
  by_cases w0 : atF sc 11 % 7 < 3
  · have hw : 0 ≤ atF sc 11 % 7 ∧ atF sc 11 % 7 < 3 := ⟨by omega, w0⟩
    have tl : ∀ p b0 b1 pts, Crv p b0 b1 pts → ∀ A B, Good p b0 b1 A → Good p b0 b1 B → KindP kd p A B (atF sc 5 % 6) fun B' => T0 (kf (.bool true) []) p b0 b1 A B' (atF sc 11 % 7) :=
      fun p b0 b1 pts hc A B gA gB => KindP.of hc.pr hkd gA gB fun B' gB' => T0.of hw hc.b.1 hc.b.2.1 gA gB' kT
    rcases hkd with ⟨rfl, _⟩ | ⟨rfl, _⟩ | ⟨rfl, _⟩
    · exact fin _ gL h1 fun P => by rw [path_0_0]; exact HeadP.of hl tl
    · exact fin _ gL h1 fun P => by rw [path_1_0]; exact HeadP.of hl tl
    · exact fin _ gL h1 fun P => by rw [path_2_0]; exact HeadP.of hl tl
  · by_cases w3 : atF sc 11 % 7 = 3
    · have tl : ∀ p b0 b1 pts, Crv p b0 b1 pts → ∀ A B, Good p b0 b1 A → Good p b0 b1 B → KindP kd p A B (atF sc 5 % 6) fun B' => T3 (kf (.bool true) []) (liD sc) p A B' (atF sc 11 % 7) :=
        fun p b0 b1 pts hc A B gA gB => KindP.of hc.pr hkd gA gB fun B' gB' => T3.of hl hc.pr w3 gA gB' kT
      rcases hkd with ⟨rfl, _⟩ | ⟨rfl, _⟩ | ⟨rfl, _⟩
      · exact fin _ gL h1 fun P => by rw [path_0_3]; exact HeadP.of hl tl
      · exact fin _ gL h1 fun P => by rw [path_1_3]; exact HeadP.of hl tl
      · exact fin _ gL h1 fun P => by rw [path_2_3]; exact HeadP.of hl tl
    · by_cases w5 : atF sc 11 % 7 = 5
      · have tl : ∀ p b0 b1 pts, Crv p b0 b1 pts → ∀ A B, Good p b0 b1 A → Good p b0 b1 B → KindS kd p A B (atF sc 5 % 6) fun B' => T5 (fun d => kf d []) (liD sc) p A B' (atF sc 11 % 7) :=
          fun p b0 b1 pts hc A B gA gB => KindS.of hc.pr hkd gA gB fun B' gB' => T5.of hl hc.pr w5 gA gB' kT kS
        generalize ha : decide (atF sc 3 % 15 = 14) = ca
        generalize hb : decide (atF sc 4 % 15 = 14) = cb
        have hd := HeadS.of (T := fun p b0 b1 A B kv wv => KindS kd p A B kv fun B' => T5 (fun d => kf d []) (liD sc) p A B' wv) hl ha.symm hb.symm tl
        rcases hkd with ⟨rfl, _⟩ | ⟨rfl, _⟩ | ⟨rfl, _⟩ <;> cases ca <;> cases cb
        · exact fin _ gL5 h2 fun P => by rw [pathS_0_false_false]; exact hd
        · exact fin _ gL5 h2 fun P => by rw [pathS_0_false_true]; exact hd
        · exact fin _ gL5 h2 fun P => by rw [pathS_0_true_false]; exact hd
        · exact fin _ gL5 h2 fun P => by rw [pathS_0_true_true]; exact hd
        · exact fin _ gL5 h2 fun P => by rw [pathS_1_false_false]; exact hd
        · exact fin _ gL5 h2 fun P => by rw [pathS_1_false_true]; exact hd
        · exact fin _ gL5 h2 fun P => by rw [pathS_1_true_false]; exact hd
        · exact fin _ gL5 h2 fun P => by rw [pathS_1_true_true]; exact hd
        · exact fin _ gL5 h2 fun P => by rw [pathS_2_false_false]; exact hd
        · exact fin _ gL5 h2 fun P => by rw [pathS_2_false_true]; exact hd
        · exact fin _ gL5 h2 fun P => by rw [pathS_2_true_false]; exact hd
        · exact fin _ gL5 h2 fun P => by rw [pathS_2_true_true]; exact hd
      · by_cases w4 : atF sc 11 % 7 = 4
        · have tl : ∀ p b0 b1 pts, Crv p b0 b1 pts → ∀ A B, Good p b0 b1 A → Good p b0 b1 B → KindP kd p A B (atF sc 5 % 6) fun B' => T4 (kf (.bool true) []) (liD sc) p A (atF sc 11 % 7) :=
            fun p b0 b1 pts hc A B gA gB => KindP.of hc.pr hkd gA gB fun B' gB' => T4.of hl hc.pr w4 gA kT
          rcases hkd with ⟨rfl, _⟩ | ⟨rfl, _⟩ | ⟨rfl, _⟩
          · exact fin _ gL h1 fun P => by rw [path_0_4]; exact HeadP.of hl tl
          · exact fin _ gL h1 fun P => by rw [path_1_4]; exact HeadP.of hl tl
          · exact fin _ gL h1 fun P => by rw [path_2_4]; exact HeadP.of hl tl
        · have tl : ∀ p b0 b1 pts, Crv p b0 b1 pts → ∀ A B, Good p b0 b1 A → Good p b0 b1 B → KindP kd p A B (atF sc 5 % 6) fun B' => T6 (kf (.bool true) []) (liD sc) p A (atF sc 11 % 7) :=
            fun p b0 b1 pts hc A B gA gB => KindP.of hc.pr hkd gA gB fun B' gB' => T6.of hl hc.pr ⟨w0, w3, w5, w4⟩ gA kT
          rcases hkd with ⟨rfl, _⟩ | ⟨rfl, _⟩ | ⟨rfl, _⟩
          · exact fin _ gL h1 fun P => by rw [path_0_6]; exact HeadP.of hl tl
          · exact fin _ gL h1 fun P => by rw [path_1_6]; exact HeadP.of hl tl
          · exact fin _ gL h1 fun P => by rw [path_2_6]; exact HeadP.of hl tl
end
section
theorem ns_down {h g : Heap} (g1 : ∀ b o, g.get? b = some o ↔ (h.get? b = some o ∧ ¬ isTb b)) {a : Addr} {m : Str → Option Value} (x : h.Ns a m) (n : ¬ isTb a) : g.Ns a m := by
  refine oEEEA x ?_; clear x; intro o es ep e r
  exact ⟨o, es, ep, (g1 _ _).mpr ⟨e, n⟩, r⟩
theorem well_ints {P : Params} {h : Heap} {φ : Fm} : ∀ {xs : List WData} {vs : List Value}, WShape.hasItems [] xs .int = true → WellAll P h vs xs → ∃ sc : List Int, sc.length = xs.length ∧ RL φ (liD sc) vs
  | [], vs, _, w => by cases w; exact ⟨[], rfl, .nl⟩
  | x :: xs, vs, hh, w => by
    cases w with
    | cons w1 w2 =>
      simp only [WShape.hasItems, Bool.and_eq_true] at hh
      refine oEA (well_ints (φ := φ) hh.2 w2) ?_; intro sc e r
      cases x with
      | int i =>
        cases w1 with
        | int _ t => exact ⟨i :: sc, by simp [e], .cn (R.int (Nat.le_refl _)) r⟩
      | _ => exact nomatch (show false = true from hh.1)
theorem law_walk {q : Program} {loose : List Str} {XP : (Str → Option Value) → Heap → Prop} {as : List Addr} {e : ∀ P, as = (KK P).map (·.1)} {d : DefRec} {kwd : List (Str × Expr)} (hn : d.name = "law") :
    WalkO q loose XP (kmHook KK as e [196, 345]).says PySem.Challenge.rw_lh0039_01.row.toRowW d kwd fun f vs => call f vs := by
  intro w s₀ s₁ mg mb G Y fa o pm cd doc dV kV ho hd hcd hD hmg hg args vals as' hpre hlay hrd hwl hlo
  have X := km_in_of Y
  have Tb := km_tabs_of Y
  have t1 : s₁.heap.get? 196 = some (tabObj #[]) := Tb 196 (.head _)
  have t2 : s₁.heap.get? 345 = some (tabObj #[]) := Tb 345 (.tail _ (.head _))
  have tt : ∀ b, isTb b → s₁.heap.get? b = some (tabObj #[]) := fun b hb => by
    rcases hb with rfl | rfl
    · exact t1
    · exact t2
  refine oEA (part_ex s₁.heap isTb) ?_; intro g g1 last
  have T := topRead_of G.T
  have nl : ∀ {b : Addr}, (KK w.params).lookup b = none → ∀ {o}, (KK w.params).lookup b ≠ some o := fun h o q => by rw [h] at q; cases q
  have k1 : (KK w.params).lookup 196 = none := by kernel_rfl
  have k2 : (KK w.params).lookup 345 = none := by kernel_rfl
  have nt : ∀ {b : Addr} {o : Obj}, (KK w.params).lookup b = some o → ¬ isTb b := fun {b o} h q => by
    rcases q with rfl | rfl
    · exact nl k1 h
    · exact nl k2 h
  have B : Bs (KK w.params) q (looseW q loose) mg mb g := by
    refine ⟨fun a o h => (g1 _ _).mpr ⟨X a o h, nt h⟩, ⟨ns_down g1 T.g (by unfold isTb; decide), ns_down g1 T.b (by unfold isTb; decide), ?_, T.builtins, T.free⟩, ?_⟩
    · refine oEA T.nolimit ?_; intro mc a b
      exact ⟨mc, ns_down g1 a (by unfold isTb; decide), b⟩
    · obtain ⟨bm, ob, a, b, c, c1, c2, c3⟩ := G.T.bmain
      refine ⟨bm, ob, a, b, (g1 _ _).mpr ⟨c, fun q => ?_⟩, c1, c2, c3⟩
      have := (tt bm q).symm.trans c
      cases this
      cases c1
  have W : Wd g isTb s₁ := ⟨fun b o h => ((g1 b o).mp h).1, fun b hb => by
    cases q : g.get? b with
    | none => rfl
    | some o => exact absurd hb ((g1 b o).mp q).2, fun b hb => ⟨_, tt b hb⟩, fun P hP => ⟨#[], tt P hP, trivial⟩, fun b hb => hb, .of_eq hg⟩
  have hfa : fa = 694 := by
    have h1 : mg "law" = some (.ref 694) := mg_of B.X B.T.g (by kernel_rfl)
    rw [hn, h1] at hmg
    cases hmg; rfl
  subst hfa
  refine oA (pre_splitW hpre) ?_; intro p1 p2
  have p1 : WShape.hasAll [] args [.list .int] = true := p1
  refine oEEAA (hasAllW_cons p1) ?_; rintro x r rfl hx hr
  have := hasAllW_nil hr
  subst this
  cases x with
  | list xs =>
    have hi : WShape.hasItems [] xs .int = true := (Bool.or_false _).symm.trans hx
    have hlen : xs.length ≤ 63 := by
      have p2 : WTm.holds [] (.and (.not (.lt (.lit (.int 63)) (.len (.arg 0)))) (.lit (.bool true))) { args := [.list xs] } = true := p2
      refine Classical.byContradiction fun nn => ?_
      have q : (63 : Int) < (xs.length : Int) := by omega
      simp [WTm.holds, WTm.value, PySem.W.less?, Num.less?, q] at p2
    cases hwl with
    | cons w1 w2 =>
      cases w2
      cases w1 with
      | @list a vs _ ha wv =>
        refine oEA (well_ints (φ := Dt s₁.heap isTb) hi wv) ?_; intro sc e1 rl
        have na : ¬ isTb a := fun q => by
          have := (tt a q).symm.trans ha
          cases this
        have RLv : RL (Dt s₁.heap isTb) [.lst (liD sc)] [.ref a] := .cn (R.lst (n := 0) ⟨ha, na⟩ rl) .nl
        refine weaken (D := 600) (U := 6000) rfl (by decide) (by decide) (ok_Law _ w q (looseW q loose) mg mb g isTb s₁ _ _ [] (fun d _ => d = .bool true) _ _ B last W RLv ⟨sc, rfl, by omega, rfl⟩ fun d o r s' kd kt gs tb rr => ?_)
        subst kd
        subst rr
        refine ⟨.inl ⟨.bool true, .bool true, [], rfl, fun _ => rfl, .bool true, ?_, fun _ => ⟨List.nodup_nil, fun _ h => nomatch h⟩⟩, ⟨fun b o h => ?_, fun b o h => ?_⟩, gs.2.2.1, gs.1⟩
        · show (WShape.has [] (.bool true) .bool && WTm.holds [] (.eq .res (.lit (.bool true))) { args := [.list xs], res := some (.bool true), after := [.list xs] }) = true
          kernel_rfl
        · by_cases hb : isTb b
          · refine .inr (.inl ?_)
            have ho := (tt b hb).symm.trans h
            cases ho
            refine oEA (tb b hb) ?_; intro ps q1 q2
            have ct : ∃ c, codeHdIn (KK w.params) c b = true := by
              rcases hb with rfl | rfl
              · exact ⟨200, by kernel_rfl⟩
              · exact ⟨347, by kernel_rfl⟩
            refine oE ct ?_; clear ct; intro c hc
            obtain ⟨oc, vs', _, _, _, _, _, _, _, c1, c2, c3, c4, _⟩ := codeHd_of_K X hc
            refine ⟨⟨c, oc, vs', c1, c2, c3, c4⟩, rfl, #[], ps, rfl, ?_⟩
            rw [q1]; simp [tabObj]
          · exact .inl (kt b o hb h)
        · by_cases hb : isTb b
          · refine oEA (tb b hb) ?_; intro ps q1 q2; exact ⟨_, q1⟩
          · exact ⟨o, kt b o hb h⟩
  | _ => exact nomatch (show false = true from hx)
end
end Mine
theorem PySem.Challenge.cw_lh0039_01_holds : PySem.Challenge.rw_lh0039_01.Holds := by
  exact Mine.hd (Mine.law_walk Mine.dk_nm)
