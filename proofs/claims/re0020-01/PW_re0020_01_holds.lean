import PyProof.Rows.All
import Wide.All
import OpenK.AllK
import Wide.FinOn
import Lean
import PySem.Challenge.RW_re0020_01
open PySem PySem.W PyProof.Rows
set_option Elab.async false
section
namespace Mine
theorem el_eeeeaaaaaa {X1 : Sort _} {X2 : Sort _} {X3 : Sort _} {X4 : Sort _} {P1 : X1 → X2 → X3 → X4 → Prop} {P2 : X1 → X2 → X3 → X4 → Prop} {P3 : X1 → X2 → X3 → X4 → Prop} {P4 : X1 → X2 → X3 → X4 → Prop} {P5 : X1 → X2 → X3 → X4 → Prop} {P6 : X1 → X2 → X3 → X4 → Prop} {P7 : X1 → X2 → X3 → X4 → Prop} {p : Prop} (h : ∃ x1 : X1, ∃ x2 : X2, ∃ x3 : X3, ∃ x4 : X4, P1 x1 x2 x3 x4 ∧ P2 x1 x2 x3 x4 ∧ P3 x1 x2 x3 x4 ∧ P4 x1 x2 x3 x4 ∧ P5 x1 x2 x3 x4 ∧ P6 x1 x2 x3 x4 ∧ P7 x1 x2 x3 x4) (k : ∀ x1 : X1, ∀ x2 : X2, ∀ x3 : X3, ∀ x4 : X4, P1 x1 x2 x3 x4 → P2 x1 x2 x3 x4 → P3 x1 x2 x3 x4 → P4 x1 x2 x3 x4 → P5 x1 x2 x3 x4 → P6 x1 x2 x3 x4 → P7 x1 x2 x3 x4 → p) : p := h.elim fun x1 h1 => h1.elim fun x2 h2 => h2.elim fun x3 h3 => h3.elim fun x4 h4 => k x1 x2 x3 x4 h4.1 h4.2.1 h4.2.2.1 h4.2.2.2.1 h4.2.2.2.2.1 h4.2.2.2.2.2.1 h4.2.2.2.2.2.2
theorem el_eeeeeeeaaaaaaaaa {X1 : Sort _} {X2 : Sort _} {X3 : Sort _} {X4 : Sort _} {X5 : Sort _} {X6 : Sort _} {X7 : Sort _} {P1 : X1 → X2 → X3 → X4 → X5 → X6 → X7 → Prop} {P2 : X1 → X2 → X3 → X4 → X5 → X6 → X7 → Prop} {P3 : X1 → X2 → X3 → X4 → X5 → X6 → X7 → Prop} {P4 : X1 → X2 → X3 → X4 → X5 → X6 → X7 → Prop} {P5 : X1 → X2 → X3 → X4 → X5 → X6 → X7 → Prop} {P6 : X1 → X2 → X3 → X4 → X5 → X6 → X7 → Prop} {P7 : X1 → X2 → X3 → X4 → X5 → X6 → X7 → Prop} {P8 : X1 → X2 → X3 → X4 → X5 → X6 → X7 → Prop} {P9 : X1 → X2 → X3 → X4 → X5 → X6 → X7 → Prop} {P10 : X1 → X2 → X3 → X4 → X5 → X6 → X7 → Prop} {p : Prop} (h : ∃ x1 : X1, ∃ x2 : X2, ∃ x3 : X3, ∃ x4 : X4, ∃ x5 : X5, ∃ x6 : X6, ∃ x7 : X7, P1 x1 x2 x3 x4 x5 x6 x7 ∧ P2 x1 x2 x3 x4 x5 x6 x7 ∧ P3 x1 x2 x3 x4 x5 x6 x7 ∧ P4 x1 x2 x3 x4 x5 x6 x7 ∧ P5 x1 x2 x3 x4 x5 x6 x7 ∧ P6 x1 x2 x3 x4 x5 x6 x7 ∧ P7 x1 x2 x3 x4 x5 x6 x7 ∧ P8 x1 x2 x3 x4 x5 x6 x7 ∧ P9 x1 x2 x3 x4 x5 x6 x7 ∧ P10 x1 x2 x3 x4 x5 x6 x7) (k : ∀ x1 : X1, ∀ x2 : X2, ∀ x3 : X3, ∀ x4 : X4, ∀ x5 : X5, ∀ x6 : X6, ∀ x7 : X7, P1 x1 x2 x3 x4 x5 x6 x7 → P2 x1 x2 x3 x4 x5 x6 x7 → P3 x1 x2 x3 x4 x5 x6 x7 → P4 x1 x2 x3 x4 x5 x6 x7 → P5 x1 x2 x3 x4 x5 x6 x7 → P6 x1 x2 x3 x4 x5 x6 x7 → P7 x1 x2 x3 x4 x5 x6 x7 → P8 x1 x2 x3 x4 x5 x6 x7 → P9 x1 x2 x3 x4 x5 x6 x7 → P10 x1 x2 x3 x4 x5 x6 x7 → p) : p := h.elim fun x1 h1 => h1.elim fun x2 h2 => h2.elim fun x3 h3 => h3.elim fun x4 h4 => h4.elim fun x5 h5 => h5.elim fun x6 h6 => h6.elim fun x7 h7 => k x1 x2 x3 x4 x5 x6 x7 h7.1 h7.2.1 h7.2.2.1 h7.2.2.2.1 h7.2.2.2.2.1 h7.2.2.2.2.2.1 h7.2.2.2.2.2.2.1 h7.2.2.2.2.2.2.2.1 h7.2.2.2.2.2.2.2.2.1 h7.2.2.2.2.2.2.2.2.2
theorem in_eaae {X1 : Sort _} {P1 : X1 → Prop} {P2 : X1 → Prop} {X2 : Sort _} {P3 : X1 → X2 → Prop} (x1 : X1) (h1 : P1 x1) (h2 : P2 x1) (x2 : X2) (h3 : P3 x1 x2) : ∃ x1 : X1, P1 x1 ∧ P2 x1 ∧ ∃ x2 : X2, P3 x1 x2 := ⟨x1, h1, h2, x2, h3⟩
theorem in_eaaea {X1 : Sort _} {P1 : X1 → Prop} {P2 : X1 → Prop} {X2 : Sort _} {P3 : X1 → X2 → Prop} {P4 : X1 → X2 → Prop} (x1 : X1) (h1 : P1 x1) (h2 : P2 x1) (x2 : X2) (h3 : P3 x1 x2) (h4 : P4 x1 x2) : ∃ x1 : X1, P1 x1 ∧ P2 x1 ∧ ∃ x2 : X2, P3 x1 x2 ∧ P4 x1 x2 := ⟨x1, h1, h2, x2, h3, h4⟩
theorem in_eaaeaaa {X1 : Sort _} {P1 : X1 → Prop} {P2 : X1 → Prop} {X2 : Sort _} {P3 : X1 → X2 → Prop} {P4 : X1 → X2 → Prop} {P5 : X1 → X2 → Prop} {P6 : X1 → X2 → Prop} (x1 : X1) (h1 : P1 x1) (h2 : P2 x1) (x2 : X2) (h3 : P3 x1 x2) (h4 : P4 x1 x2) (h5 : P5 x1 x2) (h6 : P6 x1 x2) : ∃ x1 : X1, P1 x1 ∧ P2 x1 ∧ ∃ x2 : X2, P3 x1 x2 ∧ P4 x1 x2 ∧ P5 x1 x2 ∧ P6 x1 x2 := ⟨x1, h1, h2, x2, h3, h4, h5, h6⟩
theorem in_eaea {X1 : Sort _} {P1 : X1 → Prop} {X2 : Sort _} {P2 : X1 → X2 → Prop} {P3 : X1 → X2 → Prop} (x1 : X1) (h1 : P1 x1) (x2 : X2) (h2 : P2 x1 x2) (h3 : P3 x1 x2) : ∃ x1 : X1, P1 x1 ∧ ∃ x2 : X2, P2 x1 x2 ∧ P3 x1 x2 := ⟨x1, h1, x2, h2, h3⟩
theorem in_eaeaaaa {X1 : Sort _} {P1 : X1 → Prop} {X2 : Sort _} {P2 : X1 → X2 → Prop} {P3 : X1 → X2 → Prop} {P4 : X1 → X2 → Prop} {P5 : X1 → X2 → Prop} {P6 : X1 → X2 → Prop} (x1 : X1) (h1 : P1 x1) (x2 : X2) (h2 : P2 x1 x2) (h3 : P3 x1 x2) (h4 : P4 x1 x2) (h5 : P5 x1 x2) (h6 : P6 x1 x2) : ∃ x1 : X1, P1 x1 ∧ ∃ x2 : X2, P2 x1 x2 ∧ P3 x1 x2 ∧ P4 x1 x2 ∧ P5 x1 x2 ∧ P6 x1 x2 := ⟨x1, h1, x2, h2, h3, h4, h5, h6⟩
theorem in_ee {X1 : Sort _} {X2 : Sort _} {P1 : X1 → X2 → Prop} (x1 : X1) (x2 : X2) (h1 : P1 x1 x2) : ∃ x1 : X1, ∃ x2 : X2, P1 x1 x2 := ⟨x1, x2, h1⟩
theorem in_eea {X1 : Sort _} {X2 : Sort _} {P1 : X1 → X2 → Prop} {P2 : X1 → X2 → Prop} (x1 : X1) (x2 : X2) (h1 : P1 x1 x2) (h2 : P2 x1 x2) : ∃ x1 : X1, ∃ x2 : X2, P1 x1 x2 ∧ P2 x1 x2 := ⟨x1, x2, h1, h2⟩
theorem in_eeaa {X1 : Sort _} {X2 : Sort _} {P1 : X1 → X2 → Prop} {P2 : X1 → X2 → Prop} {P3 : X1 → X2 → Prop} (x1 : X1) (x2 : X2) (h1 : P1 x1 x2) (h2 : P2 x1 x2) (h3 : P3 x1 x2) : ∃ x1 : X1, ∃ x2 : X2, P1 x1 x2 ∧ P2 x1 x2 ∧ P3 x1 x2 := ⟨x1, x2, h1, h2, h3⟩
theorem in_eeaaa {X1 : Sort _} {X2 : Sort _} {P1 : X1 → X2 → Prop} {P2 : X1 → X2 → Prop} {P3 : X1 → X2 → Prop} {P4 : X1 → X2 → Prop} (x1 : X1) (x2 : X2) (h1 : P1 x1 x2) (h2 : P2 x1 x2) (h3 : P3 x1 x2) (h4 : P4 x1 x2) : ∃ x1 : X1, ∃ x2 : X2, P1 x1 x2 ∧ P2 x1 x2 ∧ P3 x1 x2 ∧ P4 x1 x2 := ⟨x1, x2, h1, h2, h3, h4⟩
theorem in_eeaaaa {X1 : Sort _} {X2 : Sort _} {P1 : X1 → X2 → Prop} {P2 : X1 → X2 → Prop} {P3 : X1 → X2 → Prop} {P4 : X1 → X2 → Prop} {P5 : X1 → X2 → Prop} (x1 : X1) (x2 : X2) (h1 : P1 x1 x2) (h2 : P2 x1 x2) (h3 : P3 x1 x2) (h4 : P4 x1 x2) (h5 : P5 x1 x2) : ∃ x1 : X1, ∃ x2 : X2, P1 x1 x2 ∧ P2 x1 x2 ∧ P3 x1 x2 ∧ P4 x1 x2 ∧ P5 x1 x2 := ⟨x1, x2, h1, h2, h3, h4, h5⟩
theorem in_eeeaa {X1 : Sort _} {X2 : Sort _} {X3 : Sort _} {P1 : X1 → X2 → X3 → Prop} {P2 : X1 → X2 → X3 → Prop} {P3 : X1 → X2 → X3 → Prop} (x1 : X1) (x2 : X2) (x3 : X3) (h1 : P1 x1 x2 x3) (h2 : P2 x1 x2 x3) (h3 : P3 x1 x2 x3) : ∃ x1 : X1, ∃ x2 : X2, ∃ x3 : X3, P1 x1 x2 x3 ∧ P2 x1 x2 x3 ∧ P3 x1 x2 x3 := ⟨x1, x2, x3, h1, h2, h3⟩
theorem in_eeeaaa {X1 : Sort _} {X2 : Sort _} {X3 : Sort _} {P1 : X1 → X2 → X3 → Prop} {P2 : X1 → X2 → X3 → Prop} {P3 : X1 → X2 → X3 → Prop} {P4 : X1 → X2 → X3 → Prop} (x1 : X1) (x2 : X2) (x3 : X3) (h1 : P1 x1 x2 x3) (h2 : P2 x1 x2 x3) (h3 : P3 x1 x2 x3) (h4 : P4 x1 x2 x3) : ∃ x1 : X1, ∃ x2 : X2, ∃ x3 : X3, P1 x1 x2 x3 ∧ P2 x1 x2 x3 ∧ P3 x1 x2 x3 ∧ P4 x1 x2 x3 := ⟨x1, x2, x3, h1, h2, h3, h4⟩
theorem in_eeeaaaaa {X1 : Sort _} {X2 : Sort _} {X3 : Sort _} {P1 : X1 → X2 → X3 → Prop} {P2 : X1 → X2 → X3 → Prop} {P3 : X1 → X2 → X3 → Prop} {P4 : X1 → X2 → X3 → Prop} {P5 : X1 → X2 → X3 → Prop} {P6 : X1 → X2 → X3 → Prop} (x1 : X1) (x2 : X2) (x3 : X3) (h1 : P1 x1 x2 x3) (h2 : P2 x1 x2 x3) (h3 : P3 x1 x2 x3) (h4 : P4 x1 x2 x3) (h5 : P5 x1 x2 x3) (h6 : P6 x1 x2 x3) : ∃ x1 : X1, ∃ x2 : X2, ∃ x3 : X3, P1 x1 x2 x3 ∧ P2 x1 x2 x3 ∧ P3 x1 x2 x3 ∧ P4 x1 x2 x3 ∧ P5 x1 x2 x3 ∧ P6 x1 x2 x3 := ⟨x1, x2, x3, h1, h2, h3, h4, h5, h6⟩
theorem in_eeeeaaa {X1 : Sort _} {X2 : Sort _} {X3 : Sort _} {X4 : Sort _} {P1 : X1 → X2 → X3 → X4 → Prop} {P2 : X1 → X2 → X3 → X4 → Prop} {P3 : X1 → X2 → X3 → X4 → Prop} {P4 : X1 → X2 → X3 → X4 → Prop} (x1 : X1) (x2 : X2) (x3 : X3) (x4 : X4) (h1 : P1 x1 x2 x3 x4) (h2 : P2 x1 x2 x3 x4) (h3 : P3 x1 x2 x3 x4) (h4 : P4 x1 x2 x3 x4) : ∃ x1 : X1, ∃ x2 : X2, ∃ x3 : X3, ∃ x4 : X4, P1 x1 x2 x3 x4 ∧ P2 x1 x2 x3 x4 ∧ P3 x1 x2 x3 x4 ∧ P4 x1 x2 x3 x4 := ⟨x1, x2, x3, x4, h1, h2, h3, h4⟩
theorem in_eeeeaaaa {X1 : Sort _} {X2 : Sort _} {X3 : Sort _} {X4 : Sort _} {P1 : X1 → X2 → X3 → X4 → Prop} {P2 : X1 → X2 → X3 → X4 → Prop} {P3 : X1 → X2 → X3 → X4 → Prop} {P4 : X1 → X2 → X3 → X4 → Prop} {P5 : X1 → X2 → X3 → X4 → Prop} (x1 : X1) (x2 : X2) (x3 : X3) (x4 : X4) (h1 : P1 x1 x2 x3 x4) (h2 : P2 x1 x2 x3 x4) (h3 : P3 x1 x2 x3 x4) (h4 : P4 x1 x2 x3 x4) (h5 : P5 x1 x2 x3 x4) : ∃ x1 : X1, ∃ x2 : X2, ∃ x3 : X3, ∃ x4 : X4, P1 x1 x2 x3 x4 ∧ P2 x1 x2 x3 x4 ∧ P3 x1 x2 x3 x4 ∧ P4 x1 x2 x3 x4 ∧ P5 x1 x2 x3 x4 := ⟨x1, x2, x3, x4, h1, h2, h3, h4, h5⟩
theorem in_eeeeaaaaa {X1 : Sort _} {X2 : Sort _} {X3 : Sort _} {X4 : Sort _} {P1 : X1 → X2 → X3 → X4 → Prop} {P2 : X1 → X2 → X3 → X4 → Prop} {P3 : X1 → X2 → X3 → X4 → Prop} {P4 : X1 → X2 → X3 → X4 → Prop} {P5 : X1 → X2 → X3 → X4 → Prop} {P6 : X1 → X2 → X3 → X4 → Prop} (x1 : X1) (x2 : X2) (x3 : X3) (x4 : X4) (h1 : P1 x1 x2 x3 x4) (h2 : P2 x1 x2 x3 x4) (h3 : P3 x1 x2 x3 x4) (h4 : P4 x1 x2 x3 x4) (h5 : P5 x1 x2 x3 x4) (h6 : P6 x1 x2 x3 x4) : ∃ x1 : X1, ∃ x2 : X2, ∃ x3 : X3, ∃ x4 : X4, P1 x1 x2 x3 x4 ∧ P2 x1 x2 x3 x4 ∧ P3 x1 x2 x3 x4 ∧ P4 x1 x2 x3 x4 ∧ P5 x1 x2 x3 x4 ∧ P6 x1 x2 x3 x4 := ⟨x1, x2, x3, x4, h1, h2, h3, h4, h5, h6⟩
theorem in_eeeeaaaaaa {X1 : Sort _} {X2 : Sort _} {X3 : Sort _} {X4 : Sort _} {P1 : X1 → X2 → X3 → X4 → Prop} {P2 : X1 → X2 → X3 → X4 → Prop} {P3 : X1 → X2 → X3 → X4 → Prop} {P4 : X1 → X2 → X3 → X4 → Prop} {P5 : X1 → X2 → X3 → X4 → Prop} {P6 : X1 → X2 → X3 → X4 → Prop} {P7 : X1 → X2 → X3 → X4 → Prop} (x1 : X1) (x2 : X2) (x3 : X3) (x4 : X4) (h1 : P1 x1 x2 x3 x4) (h2 : P2 x1 x2 x3 x4) (h3 : P3 x1 x2 x3 x4) (h4 : P4 x1 x2 x3 x4) (h5 : P5 x1 x2 x3 x4) (h6 : P6 x1 x2 x3 x4) (h7 : P7 x1 x2 x3 x4) : ∃ x1 : X1, ∃ x2 : X2, ∃ x3 : X3, ∃ x4 : X4, P1 x1 x2 x3 x4 ∧ P2 x1 x2 x3 x4 ∧ P3 x1 x2 x3 x4 ∧ P4 x1 x2 x3 x4 ∧ P5 x1 x2 x3 x4 ∧ P6 x1 x2 x3 x4 ∧ P7 x1 x2 x3 x4 := ⟨x1, x2, x3, x4, h1, h2, h3, h4, h5, h6, h7⟩
theorem in_eeeeea {X1 : Sort _} {X2 : Sort _} {X3 : Sort _} {X4 : Sort _} {X5 : Sort _} {P1 : X1 → X2 → X3 → X4 → X5 → Prop} {P2 : X1 → X2 → X3 → X4 → X5 → Prop} (x1 : X1) (x2 : X2) (x3 : X3) (x4 : X4) (x5 : X5) (h1 : P1 x1 x2 x3 x4 x5) (h2 : P2 x1 x2 x3 x4 x5) : ∃ x1 : X1, ∃ x2 : X2, ∃ x3 : X3, ∃ x4 : X4, ∃ x5 : X5, P1 x1 x2 x3 x4 x5 ∧ P2 x1 x2 x3 x4 x5 := ⟨x1, x2, x3, x4, x5, h1, h2⟩
theorem in_eeeeeaaa {X1 : Sort _} {X2 : Sort _} {X3 : Sort _} {X4 : Sort _} {X5 : Sort _} {P1 : X1 → X2 → X3 → X4 → X5 → Prop} {P2 : X1 → X2 → X3 → X4 → X5 → Prop} {P3 : X1 → X2 → X3 → X4 → X5 → Prop} {P4 : X1 → X2 → X3 → X4 → X5 → Prop} (x1 : X1) (x2 : X2) (x3 : X3) (x4 : X4) (x5 : X5) (h1 : P1 x1 x2 x3 x4 x5) (h2 : P2 x1 x2 x3 x4 x5) (h3 : P3 x1 x2 x3 x4 x5) (h4 : P4 x1 x2 x3 x4 x5) : ∃ x1 : X1, ∃ x2 : X2, ∃ x3 : X3, ∃ x4 : X4, ∃ x5 : X5, P1 x1 x2 x3 x4 x5 ∧ P2 x1 x2 x3 x4 x5 ∧ P3 x1 x2 x3 x4 x5 ∧ P4 x1 x2 x3 x4 x5 := ⟨x1, x2, x3, x4, x5, h1, h2, h3, h4⟩
theorem in_eeeeeaaaaa {X1 : Sort _} {X2 : Sort _} {X3 : Sort _} {X4 : Sort _} {X5 : Sort _} {P1 : X1 → X2 → X3 → X4 → X5 → Prop} {P2 : X1 → X2 → X3 → X4 → X5 → Prop} {P3 : X1 → X2 → X3 → X4 → X5 → Prop} {P4 : X1 → X2 → X3 → X4 → X5 → Prop} {P5 : X1 → X2 → X3 → X4 → X5 → Prop} {P6 : X1 → X2 → X3 → X4 → X5 → Prop} (x1 : X1) (x2 : X2) (x3 : X3) (x4 : X4) (x5 : X5) (h1 : P1 x1 x2 x3 x4 x5) (h2 : P2 x1 x2 x3 x4 x5) (h3 : P3 x1 x2 x3 x4 x5) (h4 : P4 x1 x2 x3 x4 x5) (h5 : P5 x1 x2 x3 x4 x5) (h6 : P6 x1 x2 x3 x4 x5) : ∃ x1 : X1, ∃ x2 : X2, ∃ x3 : X3, ∃ x4 : X4, ∃ x5 : X5, P1 x1 x2 x3 x4 x5 ∧ P2 x1 x2 x3 x4 x5 ∧ P3 x1 x2 x3 x4 x5 ∧ P4 x1 x2 x3 x4 x5 ∧ P5 x1 x2 x3 x4 x5 ∧ P6 x1 x2 x3 x4 x5 := ⟨x1, x2, x3, x4, x5, h1, h2, h3, h4, h5, h6⟩
theorem in_eeeeeeaaaa {X1 : Sort _} {X2 : Sort _} {X3 : Sort _} {X4 : Sort _} {X5 : Sort _} {X6 : Sort _} {P1 : X1 → X2 → X3 → X4 → X5 → X6 → Prop} {P2 : X1 → X2 → X3 → X4 → X5 → X6 → Prop} {P3 : X1 → X2 → X3 → X4 → X5 → X6 → Prop} {P4 : X1 → X2 → X3 → X4 → X5 → X6 → Prop} {P5 : X1 → X2 → X3 → X4 → X5 → X6 → Prop} (x1 : X1) (x2 : X2) (x3 : X3) (x4 : X4) (x5 : X5) (x6 : X6) (h1 : P1 x1 x2 x3 x4 x5 x6) (h2 : P2 x1 x2 x3 x4 x5 x6) (h3 : P3 x1 x2 x3 x4 x5 x6) (h4 : P4 x1 x2 x3 x4 x5 x6) (h5 : P5 x1 x2 x3 x4 x5 x6) : ∃ x1 : X1, ∃ x2 : X2, ∃ x3 : X3, ∃ x4 : X4, ∃ x5 : X5, ∃ x6 : X6, P1 x1 x2 x3 x4 x5 x6 ∧ P2 x1 x2 x3 x4 x5 x6 ∧ P3 x1 x2 x3 x4 x5 x6 ∧ P4 x1 x2 x3 x4 x5 x6 ∧ P5 x1 x2 x3 x4 x5 x6 := ⟨x1, x2, x3, x4, x5, x6, h1, h2, h3, h4, h5⟩
theorem in_eeeeeeaaaaaaaa {X1 : Sort _} {X2 : Sort _} {X3 : Sort _} {X4 : Sort _} {X5 : Sort _} {X6 : Sort _} {P1 : X1 → X2 → X3 → X4 → X5 → X6 → Prop} {P2 : X1 → X2 → X3 → X4 → X5 → X6 → Prop} {P3 : X1 → X2 → X3 → X4 → X5 → X6 → Prop} {P4 : X1 → X2 → X3 → X4 → X5 → X6 → Prop} {P5 : X1 → X2 → X3 → X4 → X5 → X6 → Prop} {P6 : X1 → X2 → X3 → X4 → X5 → X6 → Prop} {P7 : X1 → X2 → X3 → X4 → X5 → X6 → Prop} {P8 : X1 → X2 → X3 → X4 → X5 → X6 → Prop} {P9 : X1 → X2 → X3 → X4 → X5 → X6 → Prop} (x1 : X1) (x2 : X2) (x3 : X3) (x4 : X4) (x5 : X5) (x6 : X6) (h1 : P1 x1 x2 x3 x4 x5 x6) (h2 : P2 x1 x2 x3 x4 x5 x6) (h3 : P3 x1 x2 x3 x4 x5 x6) (h4 : P4 x1 x2 x3 x4 x5 x6) (h5 : P5 x1 x2 x3 x4 x5 x6) (h6 : P6 x1 x2 x3 x4 x5 x6) (h7 : P7 x1 x2 x3 x4 x5 x6) (h8 : P8 x1 x2 x3 x4 x5 x6) (h9 : P9 x1 x2 x3 x4 x5 x6) : ∃ x1 : X1, ∃ x2 : X2, ∃ x3 : X3, ∃ x4 : X4, ∃ x5 : X5, ∃ x6 : X6, P1 x1 x2 x3 x4 x5 x6 ∧ P2 x1 x2 x3 x4 x5 x6 ∧ P3 x1 x2 x3 x4 x5 x6 ∧ P4 x1 x2 x3 x4 x5 x6 ∧ P5 x1 x2 x3 x4 x5 x6 ∧ P6 x1 x2 x3 x4 x5 x6 ∧ P7 x1 x2 x3 x4 x5 x6 ∧ P8 x1 x2 x3 x4 x5 x6 ∧ P9 x1 x2 x3 x4 x5 x6 := ⟨x1, x2, x3, x4, x5, x6, h1, h2, h3, h4, h5, h6, h7, h8, h9⟩
theorem in_eeeeeeeaaaaaaaaa {X1 : Sort _} {X2 : Sort _} {X3 : Sort _} {X4 : Sort _} {X5 : Sort _} {X6 : Sort _} {X7 : Sort _} {P1 : X1 → X2 → X3 → X4 → X5 → X6 → X7 → Prop} {P2 : X1 → X2 → X3 → X4 → X5 → X6 → X7 → Prop} {P3 : X1 → X2 → X3 → X4 → X5 → X6 → X7 → Prop} {P4 : X1 → X2 → X3 → X4 → X5 → X6 → X7 → Prop} {P5 : X1 → X2 → X3 → X4 → X5 → X6 → X7 → Prop} {P6 : X1 → X2 → X3 → X4 → X5 → X6 → X7 → Prop} {P7 : X1 → X2 → X3 → X4 → X5 → X6 → X7 → Prop} {P8 : X1 → X2 → X3 → X4 → X5 → X6 → X7 → Prop} {P9 : X1 → X2 → X3 → X4 → X5 → X6 → X7 → Prop} {P10 : X1 → X2 → X3 → X4 → X5 → X6 → X7 → Prop} (x1 : X1) (x2 : X2) (x3 : X3) (x4 : X4) (x5 : X5) (x6 : X6) (x7 : X7) (h1 : P1 x1 x2 x3 x4 x5 x6 x7) (h2 : P2 x1 x2 x3 x4 x5 x6 x7) (h3 : P3 x1 x2 x3 x4 x5 x6 x7) (h4 : P4 x1 x2 x3 x4 x5 x6 x7) (h5 : P5 x1 x2 x3 x4 x5 x6 x7) (h6 : P6 x1 x2 x3 x4 x5 x6 x7) (h7 : P7 x1 x2 x3 x4 x5 x6 x7) (h8 : P8 x1 x2 x3 x4 x5 x6 x7) (h9 : P9 x1 x2 x3 x4 x5 x6 x7) (h10 : P10 x1 x2 x3 x4 x5 x6 x7) : ∃ x1 : X1, ∃ x2 : X2, ∃ x3 : X3, ∃ x4 : X4, ∃ x5 : X5, ∃ x6 : X6, ∃ x7 : X7, P1 x1 x2 x3 x4 x5 x6 x7 ∧ P2 x1 x2 x3 x4 x5 x6 x7 ∧ P3 x1 x2 x3 x4 x5 x6 x7 ∧ P4 x1 x2 x3 x4 x5 x6 x7 ∧ P5 x1 x2 x3 x4 x5 x6 x7 ∧ P6 x1 x2 x3 x4 x5 x6 x7 ∧ P7 x1 x2 x3 x4 x5 x6 x7 ∧ P8 x1 x2 x3 x4 x5 x6 x7 ∧ P9 x1 x2 x3 x4 x5 x6 x7 ∧ P10 x1 x2 x3 x4 x5 x6 x7 := ⟨x1, x2, x3, x4, x5, x6, x7, h1, h2, h3, h4, h5, h6, h7, h8, h9, h10⟩
theorem el_a {P1 : Prop} {P2 : Prop} {p : Prop} (h : P1 ∧ P2) (k : P1 → P2 → p) : p := k h.1 h.2
theorem el_aeeeaaaeaa {P1 : Prop} {X1 : Sort _} {X2 : Sort _} {X3 : Sort _} {P2 : X1 → X2 → X3 → Prop} {P3 : X1 → X2 → X3 → Prop} {P4 : X1 → X2 → X3 → Prop} {X4 : Sort _} {P5 : X1 → X2 → X3 → X4 → Prop} {P6 : X1 → X2 → X3 → X4 → Prop} {P7 : X1 → X2 → X3 → X4 → Prop} {p : Prop} (h : P1 ∧ ∃ x1 : X1, ∃ x2 : X2, ∃ x3 : X3, P2 x1 x2 x3 ∧ P3 x1 x2 x3 ∧ P4 x1 x2 x3 ∧ ∃ x4 : X4, P5 x1 x2 x3 x4 ∧ P6 x1 x2 x3 x4 ∧ P7 x1 x2 x3 x4) (k : P1 → ∀ x1 : X1, ∀ x2 : X2, ∀ x3 : X3, P2 x1 x2 x3 → P3 x1 x2 x3 → P4 x1 x2 x3 → ∀ x4 : X4, P5 x1 x2 x3 x4 → P6 x1 x2 x3 x4 → P7 x1 x2 x3 x4 → p) : p := h.2.elim fun x1 h1 => h1.elim fun x2 h2 => h2.elim fun x3 h3 => h3.2.2.2.elim fun x4 h4 => k h.1 x1 x2 x3 h3.1 h3.2.1 h3.2.2.1 x4 h4.1 h4.2.1 h4.2.2
theorem el_aeeeeaa {P1 : Prop} {X1 : Sort _} {X2 : Sort _} {X3 : Sort _} {X4 : Sort _} {P2 : X1 → X2 → X3 → X4 → Prop} {P3 : X1 → X2 → X3 → X4 → Prop} {P4 : X1 → X2 → X3 → X4 → Prop} {p : Prop} (h : P1 ∧ ∃ x1 : X1, ∃ x2 : X2, ∃ x3 : X3, ∃ x4 : X4, P2 x1 x2 x3 x4 ∧ P3 x1 x2 x3 x4 ∧ P4 x1 x2 x3 x4) (k : P1 → ∀ x1 : X1, ∀ x2 : X2, ∀ x3 : X3, ∀ x4 : X4, P2 x1 x2 x3 x4 → P3 x1 x2 x3 x4 → P4 x1 x2 x3 x4 → p) : p := h.2.elim fun x1 h1 => h1.elim fun x2 h2 => h2.elim fun x3 h3 => h3.elim fun x4 h4 => k h.1 x1 x2 x3 x4 h4.1 h4.2.1 h4.2.2
theorem el_eeaaaa {X1 : Sort _} {X2 : Sort _} {P1 : X1 → X2 → Prop} {P2 : X1 → X2 → Prop} {P3 : X1 → X2 → Prop} {P4 : X1 → X2 → Prop} {P5 : X1 → X2 → Prop} {p : Prop} (h : ∃ x1 : X1, ∃ x2 : X2, P1 x1 x2 ∧ P2 x1 x2 ∧ P3 x1 x2 ∧ P4 x1 x2 ∧ P5 x1 x2) (k : ∀ x1 : X1, ∀ x2 : X2, P1 x1 x2 → P2 x1 x2 → P3 x1 x2 → P4 x1 x2 → P5 x1 x2 → p) : p := h.elim fun x1 h1 => h1.elim fun x2 h2 => k x1 x2 h2.1 h2.2.1 h2.2.2.1 h2.2.2.2.1 h2.2.2.2.2
theorem el_eeeaaaa {X1 : Sort _} {X2 : Sort _} {X3 : Sort _} {P1 : X1 → X2 → X3 → Prop} {P2 : X1 → X2 → X3 → Prop} {P3 : X1 → X2 → X3 → Prop} {P4 : X1 → X2 → X3 → Prop} {P5 : X1 → X2 → X3 → Prop} {p : Prop} (h : ∃ x1 : X1, ∃ x2 : X2, ∃ x3 : X3, P1 x1 x2 x3 ∧ P2 x1 x2 x3 ∧ P3 x1 x2 x3 ∧ P4 x1 x2 x3 ∧ P5 x1 x2 x3) (k : ∀ x1 : X1, ∀ x2 : X2, ∀ x3 : X3, P1 x1 x2 x3 → P2 x1 x2 x3 → P3 x1 x2 x3 → P4 x1 x2 x3 → P5 x1 x2 x3 → p) : p := h.elim fun x1 h1 => h1.elim fun x2 h2 => h2.elim fun x3 h3 => k x1 x2 x3 h3.1 h3.2.1 h3.2.2.1 h3.2.2.2.1 h3.2.2.2.2
theorem el_eeeeaaaa {X1 : Sort _} {X2 : Sort _} {X3 : Sort _} {X4 : Sort _} {P1 : X1 → X2 → X3 → X4 → Prop} {P2 : X1 → X2 → X3 → X4 → Prop} {P3 : X1 → X2 → X3 → X4 → Prop} {P4 : X1 → X2 → X3 → X4 → Prop} {P5 : X1 → X2 → X3 → X4 → Prop} {p : Prop} (h : ∃ x1 : X1, ∃ x2 : X2, ∃ x3 : X3, ∃ x4 : X4, P1 x1 x2 x3 x4 ∧ P2 x1 x2 x3 x4 ∧ P3 x1 x2 x3 x4 ∧ P4 x1 x2 x3 x4 ∧ P5 x1 x2 x3 x4) (k : ∀ x1 : X1, ∀ x2 : X2, ∀ x3 : X3, ∀ x4 : X4, P1 x1 x2 x3 x4 → P2 x1 x2 x3 x4 → P3 x1 x2 x3 x4 → P4 x1 x2 x3 x4 → P5 x1 x2 x3 x4 → p) : p := h.elim fun x1 h1 => h1.elim fun x2 h2 => h2.elim fun x3 h3 => h3.elim fun x4 h4 => k x1 x2 x3 x4 h4.1 h4.2.1 h4.2.2.1 h4.2.2.2.1 h4.2.2.2.2
theorem el_eeeeea {X1 : Sort _} {X2 : Sort _} {X3 : Sort _} {X4 : Sort _} {X5 : Sort _} {P1 : X1 → X2 → X3 → X4 → X5 → Prop} {P2 : X1 → X2 → X3 → X4 → X5 → Prop} {p : Prop} (h : ∃ x1 : X1, ∃ x2 : X2, ∃ x3 : X3, ∃ x4 : X4, ∃ x5 : X5, P1 x1 x2 x3 x4 x5 ∧ P2 x1 x2 x3 x4 x5) (k : ∀ x1 : X1, ∀ x2 : X2, ∀ x3 : X3, ∀ x4 : X4, ∀ x5 : X5, P1 x1 x2 x3 x4 x5 → P2 x1 x2 x3 x4 x5 → p) : p := h.elim fun x1 h1 => h1.elim fun x2 h2 => h2.elim fun x3 h3 => h3.elim fun x4 h4 => h4.elim fun x5 h5 => k x1 x2 x3 x4 x5 h5.1 h5.2
theorem el_eeeeeaaa {X1 : Sort _} {X2 : Sort _} {X3 : Sort _} {X4 : Sort _} {X5 : Sort _} {P1 : X1 → X2 → X3 → X4 → X5 → Prop} {P2 : X1 → X2 → X3 → X4 → X5 → Prop} {P3 : X1 → X2 → X3 → X4 → X5 → Prop} {P4 : X1 → X2 → X3 → X4 → X5 → Prop} {p : Prop} (h : ∃ x1 : X1, ∃ x2 : X2, ∃ x3 : X3, ∃ x4 : X4, ∃ x5 : X5, P1 x1 x2 x3 x4 x5 ∧ P2 x1 x2 x3 x4 x5 ∧ P3 x1 x2 x3 x4 x5 ∧ P4 x1 x2 x3 x4 x5) (k : ∀ x1 : X1, ∀ x2 : X2, ∀ x3 : X3, ∀ x4 : X4, ∀ x5 : X5, P1 x1 x2 x3 x4 x5 → P2 x1 x2 x3 x4 x5 → P3 x1 x2 x3 x4 x5 → P4 x1 x2 x3 x4 x5 → p) : p := h.elim fun x1 h1 => h1.elim fun x2 h2 => h2.elim fun x3 h3 => h3.elim fun x4 h4 => h4.elim fun x5 h5 => k x1 x2 x3 x4 x5 h5.1 h5.2.1 h5.2.2.1 h5.2.2.2
theorem el_aa {P1 : Prop} {P2 : Prop} {P3 : Prop} {p : Prop} (h : P1 ∧ P2 ∧ P3) (k : P1 → P2 → P3 → p) : p := k h.1 h.2.1 h.2.2
theorem el_aaa {P1 : Prop} {P2 : Prop} {P3 : Prop} {P4 : Prop} {p : Prop} (h : P1 ∧ P2 ∧ P3 ∧ P4) (k : P1 → P2 → P3 → P4 → p) : p := k h.1 h.2.1 h.2.2.1 h.2.2.2
theorem el_aaaaa {P1 : Prop} {P2 : Prop} {P3 : Prop} {P4 : Prop} {P5 : Prop} {P6 : Prop} {p : Prop} (h : P1 ∧ P2 ∧ P3 ∧ P4 ∧ P5 ∧ P6) (k : P1 → P2 → P3 → P4 → P5 → P6 → p) : p := k h.1 h.2.1 h.2.2.1 h.2.2.2.1 h.2.2.2.2.1 h.2.2.2.2.2
theorem el_aae {P1 : Prop} {P2 : Prop} {X1 : Sort _} {P3 : X1 → Prop} {p : Prop} (h : P1 ∧ P2 ∧ ∃ x1 : X1, P3 x1) (k : P1 → P2 → ∀ x1 : X1, P3 x1 → p) : p := h.2.2.elim fun x1 h1 => k h.1 h.2.1 x1 h1
theorem el_ae {P1 : Prop} {X1 : Sort _} {P2 : X1 → Prop} {p : Prop} (h : P1 ∧ ∃ x1 : X1, P2 x1) (k : P1 → ∀ x1 : X1, P2 x1 → p) : p := h.2.elim fun x1 h1 => k h.1 x1 h1
theorem el_aea {P1 : Prop} {X1 : Sort _} {P2 : X1 → Prop} {P3 : X1 → Prop} {p : Prop} (h : P1 ∧ ∃ x1 : X1, P2 x1 ∧ P3 x1) (k : P1 → ∀ x1 : X1, P2 x1 → P3 x1 → p) : p := h.2.elim fun x1 h1 => k h.1 x1 h1.1 h1.2
theorem el_aeaa {P1 : Prop} {X1 : Sort _} {P2 : X1 → Prop} {P3 : X1 → Prop} {P4 : X1 → Prop} {p : Prop} (h : P1 ∧ ∃ x1 : X1, P2 x1 ∧ P3 x1 ∧ P4 x1) (k : P1 → ∀ x1 : X1, P2 x1 → P3 x1 → P4 x1 → p) : p := h.2.elim fun x1 h1 => k h.1 x1 h1.1 h1.2.1 h1.2.2
theorem el_aeea {P1 : Prop} {X1 : Sort _} {X2 : Sort _} {P2 : X1 → X2 → Prop} {P3 : X1 → X2 → Prop} {p : Prop} (h : P1 ∧ ∃ x1 : X1, ∃ x2 : X2, P2 x1 x2 ∧ P3 x1 x2) (k : P1 → ∀ x1 : X1, ∀ x2 : X2, P2 x1 x2 → P3 x1 x2 → p) : p := h.2.elim fun x1 h1 => h1.elim fun x2 h2 => k h.1 x1 x2 h2.1 h2.2
theorem el_ea {X1 : Sort _} {P1 : X1 → Prop} {P2 : X1 → Prop} {p : Prop} (h : ∃ x1 : X1, P1 x1 ∧ P2 x1) (k : ∀ x1 : X1, P1 x1 → P2 x1 → p) : p := h.elim fun x1 h1 => k x1 h1.1 h1.2
theorem el_eaa {X1 : Sort _} {P1 : X1 → Prop} {P2 : X1 → Prop} {P3 : X1 → Prop} {p : Prop} (h : ∃ x1 : X1, P1 x1 ∧ P2 x1 ∧ P3 x1) (k : ∀ x1 : X1, P1 x1 → P2 x1 → P3 x1 → p) : p := h.elim fun x1 h1 => k x1 h1.1 h1.2.1 h1.2.2
theorem el_eaaa {X1 : Sort _} {P1 : X1 → Prop} {P2 : X1 → Prop} {P3 : X1 → Prop} {P4 : X1 → Prop} {p : Prop} (h : ∃ x1 : X1, P1 x1 ∧ P2 x1 ∧ P3 x1 ∧ P4 x1) (k : ∀ x1 : X1, P1 x1 → P2 x1 → P3 x1 → P4 x1 → p) : p := h.elim fun x1 h1 => k x1 h1.1 h1.2.1 h1.2.2.1 h1.2.2.2
theorem el_eaaaa {X1 : Sort _} {P1 : X1 → Prop} {P2 : X1 → Prop} {P3 : X1 → Prop} {P4 : X1 → Prop} {P5 : X1 → Prop} {p : Prop} (h : ∃ x1 : X1, P1 x1 ∧ P2 x1 ∧ P3 x1 ∧ P4 x1 ∧ P5 x1) (k : ∀ x1 : X1, P1 x1 → P2 x1 → P3 x1 → P4 x1 → P5 x1 → p) : p := h.elim fun x1 h1 => k x1 h1.1 h1.2.1 h1.2.2.1 h1.2.2.2.1 h1.2.2.2.2
theorem el_eaae {X1 : Sort _} {P1 : X1 → Prop} {P2 : X1 → Prop} {X2 : Sort _} {P3 : X1 → X2 → Prop} {p : Prop} (h : ∃ x1 : X1, P1 x1 ∧ P2 x1 ∧ ∃ x2 : X2, P3 x1 x2) (k : ∀ x1 : X1, P1 x1 → P2 x1 → ∀ x2 : X2, P3 x1 x2 → p) : p := h.elim fun x1 h1 => h1.2.2.elim fun x2 h2 => k x1 h1.1 h1.2.1 x2 h2
theorem el_eaaea {X1 : Sort _} {P1 : X1 → Prop} {P2 : X1 → Prop} {X2 : Sort _} {P3 : X1 → X2 → Prop} {P4 : X1 → X2 → Prop} {p : Prop} (h : ∃ x1 : X1, P1 x1 ∧ P2 x1 ∧ ∃ x2 : X2, P3 x1 x2 ∧ P4 x1 x2) (k : ∀ x1 : X1, P1 x1 → P2 x1 → ∀ x2 : X2, P3 x1 x2 → P4 x1 x2 → p) : p := h.elim fun x1 h1 => h1.2.2.elim fun x2 h2 => k x1 h1.1 h1.2.1 x2 h2.1 h2.2
theorem el_eaaee {X1 : Sort _} {P1 : X1 → Prop} {P2 : X1 → Prop} {X2 : Sort _} {X3 : Sort _} {P3 : X1 → X2 → X3 → Prop} {p : Prop} (h : ∃ x1 : X1, P1 x1 ∧ P2 x1 ∧ ∃ x2 : X2, ∃ x3 : X3, P3 x1 x2 x3) (k : ∀ x1 : X1, P1 x1 → P2 x1 → ∀ x2 : X2, ∀ x3 : X3, P3 x1 x2 x3 → p) : p := h.elim fun x1 h1 => h1.2.2.elim fun x2 h2 => h2.elim fun x3 h3 => k x1 h1.1 h1.2.1 x2 x3 h3
theorem el_eae {X1 : Sort _} {P1 : X1 → Prop} {X2 : Sort _} {P2 : X1 → X2 → Prop} {p : Prop} (h : ∃ x1 : X1, P1 x1 ∧ ∃ x2 : X2, P2 x1 x2) (k : ∀ x1 : X1, P1 x1 → ∀ x2 : X2, P2 x1 x2 → p) : p := h.elim fun x1 h1 => h1.2.elim fun x2 h2 => k x1 h1.1 x2 h2
theorem el_eaea {X1 : Sort _} {P1 : X1 → Prop} {X2 : Sort _} {P2 : X1 → X2 → Prop} {P3 : X1 → X2 → Prop} {p : Prop} (h : ∃ x1 : X1, P1 x1 ∧ ∃ x2 : X2, P2 x1 x2 ∧ P3 x1 x2) (k : ∀ x1 : X1, P1 x1 → ∀ x2 : X2, P2 x1 x2 → P3 x1 x2 → p) : p := h.elim fun x1 h1 => h1.2.elim fun x2 h2 => k x1 h1.1 x2 h2.1 h2.2
theorem el_eaeaaa {X1 : Sort _} {P1 : X1 → Prop} {X2 : Sort _} {P2 : X1 → X2 → Prop} {P3 : X1 → X2 → Prop} {P4 : X1 → X2 → Prop} {P5 : X1 → X2 → Prop} {p : Prop} (h : ∃ x1 : X1, P1 x1 ∧ ∃ x2 : X2, P2 x1 x2 ∧ P3 x1 x2 ∧ P4 x1 x2 ∧ P5 x1 x2) (k : ∀ x1 : X1, P1 x1 → ∀ x2 : X2, P2 x1 x2 → P3 x1 x2 → P4 x1 x2 → P5 x1 x2 → p) : p := h.elim fun x1 h1 => h1.2.elim fun x2 h2 => k x1 h1.1 x2 h2.1 h2.2.1 h2.2.2.1 h2.2.2.2
theorem el_eaeaea {X1 : Sort _} {P1 : X1 → Prop} {X2 : Sort _} {P2 : X1 → X2 → Prop} {X3 : Sort _} {P3 : X1 → X2 → X3 → Prop} {P4 : X1 → X2 → X3 → Prop} {p : Prop} (h : ∃ x1 : X1, P1 x1 ∧ ∃ x2 : X2, P2 x1 x2 ∧ ∃ x3 : X3, P3 x1 x2 x3 ∧ P4 x1 x2 x3) (k : ∀ x1 : X1, P1 x1 → ∀ x2 : X2, P2 x1 x2 → ∀ x3 : X3, P3 x1 x2 x3 → P4 x1 x2 x3 → p) : p := h.elim fun x1 h1 => h1.2.elim fun x2 h2 => h2.2.elim fun x3 h3 => k x1 h1.1 x2 h2.1 x3 h3.1 h3.2
theorem el_eaeea {X1 : Sort _} {P1 : X1 → Prop} {X2 : Sort _} {X3 : Sort _} {P2 : X1 → X2 → X3 → Prop} {P3 : X1 → X2 → X3 → Prop} {p : Prop} (h : ∃ x1 : X1, P1 x1 ∧ ∃ x2 : X2, ∃ x3 : X3, P2 x1 x2 x3 ∧ P3 x1 x2 x3) (k : ∀ x1 : X1, P1 x1 → ∀ x2 : X2, ∀ x3 : X3, P2 x1 x2 x3 → P3 x1 x2 x3 → p) : p := h.elim fun x1 h1 => h1.2.elim fun x2 h2 => h2.elim fun x3 h3 => k x1 h1.1 x2 x3 h3.1 h3.2
theorem el_ee {X1 : Sort _} {X2 : Sort _} {P1 : X1 → X2 → Prop} {p : Prop} (h : ∃ x1 : X1, ∃ x2 : X2, P1 x1 x2) (k : ∀ x1 : X1, ∀ x2 : X2, P1 x1 x2 → p) : p := h.elim fun x1 h1 => h1.elim fun x2 h2 => k x1 x2 h2
theorem el_eea {X1 : Sort _} {X2 : Sort _} {P1 : X1 → X2 → Prop} {P2 : X1 → X2 → Prop} {p : Prop} (h : ∃ x1 : X1, ∃ x2 : X2, P1 x1 x2 ∧ P2 x1 x2) (k : ∀ x1 : X1, ∀ x2 : X2, P1 x1 x2 → P2 x1 x2 → p) : p := h.elim fun x1 h1 => h1.elim fun x2 h2 => k x1 x2 h2.1 h2.2
theorem el_eeaa {X1 : Sort _} {X2 : Sort _} {P1 : X1 → X2 → Prop} {P2 : X1 → X2 → Prop} {P3 : X1 → X2 → Prop} {p : Prop} (h : ∃ x1 : X1, ∃ x2 : X2, P1 x1 x2 ∧ P2 x1 x2 ∧ P3 x1 x2) (k : ∀ x1 : X1, ∀ x2 : X2, P1 x1 x2 → P2 x1 x2 → P3 x1 x2 → p) : p := h.elim fun x1 h1 => h1.elim fun x2 h2 => k x1 x2 h2.1 h2.2.1 h2.2.2
theorem el_eeaaa {X1 : Sort _} {X2 : Sort _} {P1 : X1 → X2 → Prop} {P2 : X1 → X2 → Prop} {P3 : X1 → X2 → Prop} {P4 : X1 → X2 → Prop} {p : Prop} (h : ∃ x1 : X1, ∃ x2 : X2, P1 x1 x2 ∧ P2 x1 x2 ∧ P3 x1 x2 ∧ P4 x1 x2) (k : ∀ x1 : X1, ∀ x2 : X2, P1 x1 x2 → P2 x1 x2 → P3 x1 x2 → P4 x1 x2 → p) : p := h.elim fun x1 h1 => h1.elim fun x2 h2 => k x1 x2 h2.1 h2.2.1 h2.2.2.1 h2.2.2.2
theorem el_eeaaaaa {X1 : Sort _} {X2 : Sort _} {P1 : X1 → X2 → Prop} {P2 : X1 → X2 → Prop} {P3 : X1 → X2 → Prop} {P4 : X1 → X2 → Prop} {P5 : X1 → X2 → Prop} {P6 : X1 → X2 → Prop} {p : Prop} (h : ∃ x1 : X1, ∃ x2 : X2, P1 x1 x2 ∧ P2 x1 x2 ∧ P3 x1 x2 ∧ P4 x1 x2 ∧ P5 x1 x2 ∧ P6 x1 x2) (k : ∀ x1 : X1, ∀ x2 : X2, P1 x1 x2 → P2 x1 x2 → P3 x1 x2 → P4 x1 x2 → P5 x1 x2 → P6 x1 x2 → p) : p := h.elim fun x1 h1 => h1.elim fun x2 h2 => k x1 x2 h2.1 h2.2.1 h2.2.2.1 h2.2.2.2.1 h2.2.2.2.2.1 h2.2.2.2.2.2
theorem el_eeaaaaaaaaaa {X1 : Sort _} {X2 : Sort _} {P1 : X1 → X2 → Prop} {P2 : X1 → X2 → Prop} {P3 : X1 → X2 → Prop} {P4 : X1 → X2 → Prop} {P5 : X1 → X2 → Prop} {P6 : X1 → X2 → Prop} {P7 : X1 → X2 → Prop} {P8 : X1 → X2 → Prop} {P9 : X1 → X2 → Prop} {P10 : X1 → X2 → Prop} {P11 : X1 → X2 → Prop} {p : Prop} (h : ∃ x1 : X1, ∃ x2 : X2, P1 x1 x2 ∧ P2 x1 x2 ∧ P3 x1 x2 ∧ P4 x1 x2 ∧ P5 x1 x2 ∧ P6 x1 x2 ∧ P7 x1 x2 ∧ P8 x1 x2 ∧ P9 x1 x2 ∧ P10 x1 x2 ∧ P11 x1 x2) (k : ∀ x1 : X1, ∀ x2 : X2, P1 x1 x2 → P2 x1 x2 → P3 x1 x2 → P4 x1 x2 → P5 x1 x2 → P6 x1 x2 → P7 x1 x2 → P8 x1 x2 → P9 x1 x2 → P10 x1 x2 → P11 x1 x2 → p) : p := h.elim fun x1 h1 => h1.elim fun x2 h2 => k x1 x2 h2.1 h2.2.1 h2.2.2.1 h2.2.2.2.1 h2.2.2.2.2.1 h2.2.2.2.2.2.1 h2.2.2.2.2.2.2.1 h2.2.2.2.2.2.2.2.1 h2.2.2.2.2.2.2.2.2.1 h2.2.2.2.2.2.2.2.2.2.1 h2.2.2.2.2.2.2.2.2.2.2
theorem el_eeaae {X1 : Sort _} {X2 : Sort _} {P1 : X1 → X2 → Prop} {P2 : X1 → X2 → Prop} {X3 : Sort _} {P3 : X1 → X2 → X3 → Prop} {p : Prop} (h : ∃ x1 : X1, ∃ x2 : X2, P1 x1 x2 ∧ P2 x1 x2 ∧ ∃ x3 : X3, P3 x1 x2 x3) (k : ∀ x1 : X1, ∀ x2 : X2, P1 x1 x2 → P2 x1 x2 → ∀ x3 : X3, P3 x1 x2 x3 → p) : p := h.elim fun x1 h1 => h1.elim fun x2 h2 => h2.2.2.elim fun x3 h3 => k x1 x2 h2.1 h2.2.1 x3 h3
theorem el_eee {X1 : Sort _} {X2 : Sort _} {X3 : Sort _} {P1 : X1 → X2 → X3 → Prop} {p : Prop} (h : ∃ x1 : X1, ∃ x2 : X2, ∃ x3 : X3, P1 x1 x2 x3) (k : ∀ x1 : X1, ∀ x2 : X2, ∀ x3 : X3, P1 x1 x2 x3 → p) : p := h.elim fun x1 h1 => h1.elim fun x2 h2 => h2.elim fun x3 h3 => k x1 x2 x3 h3
theorem el_eeea {X1 : Sort _} {X2 : Sort _} {X3 : Sort _} {P1 : X1 → X2 → X3 → Prop} {P2 : X1 → X2 → X3 → Prop} {p : Prop} (h : ∃ x1 : X1, ∃ x2 : X2, ∃ x3 : X3, P1 x1 x2 x3 ∧ P2 x1 x2 x3) (k : ∀ x1 : X1, ∀ x2 : X2, ∀ x3 : X3, P1 x1 x2 x3 → P2 x1 x2 x3 → p) : p := h.elim fun x1 h1 => h1.elim fun x2 h2 => h2.elim fun x3 h3 => k x1 x2 x3 h3.1 h3.2
theorem el_eeeaa {X1 : Sort _} {X2 : Sort _} {X3 : Sort _} {P1 : X1 → X2 → X3 → Prop} {P2 : X1 → X2 → X3 → Prop} {P3 : X1 → X2 → X3 → Prop} {p : Prop} (h : ∃ x1 : X1, ∃ x2 : X2, ∃ x3 : X3, P1 x1 x2 x3 ∧ P2 x1 x2 x3 ∧ P3 x1 x2 x3) (k : ∀ x1 : X1, ∀ x2 : X2, ∀ x3 : X3, P1 x1 x2 x3 → P2 x1 x2 x3 → P3 x1 x2 x3 → p) : p := h.elim fun x1 h1 => h1.elim fun x2 h2 => h2.elim fun x3 h3 => k x1 x2 x3 h3.1 h3.2.1 h3.2.2
theorem el_eeeaaa {X1 : Sort _} {X2 : Sort _} {X3 : Sort _} {P1 : X1 → X2 → X3 → Prop} {P2 : X1 → X2 → X3 → Prop} {P3 : X1 → X2 → X3 → Prop} {P4 : X1 → X2 → X3 → Prop} {p : Prop} (h : ∃ x1 : X1, ∃ x2 : X2, ∃ x3 : X3, P1 x1 x2 x3 ∧ P2 x1 x2 x3 ∧ P3 x1 x2 x3 ∧ P4 x1 x2 x3) (k : ∀ x1 : X1, ∀ x2 : X2, ∀ x3 : X3, P1 x1 x2 x3 → P2 x1 x2 x3 → P3 x1 x2 x3 → P4 x1 x2 x3 → p) : p := h.elim fun x1 h1 => h1.elim fun x2 h2 => h2.elim fun x3 h3 => k x1 x2 x3 h3.1 h3.2.1 h3.2.2.1 h3.2.2.2
theorem el_eeeaaaaa {X1 : Sort _} {X2 : Sort _} {X3 : Sort _} {P1 : X1 → X2 → X3 → Prop} {P2 : X1 → X2 → X3 → Prop} {P3 : X1 → X2 → X3 → Prop} {P4 : X1 → X2 → X3 → Prop} {P5 : X1 → X2 → X3 → Prop} {P6 : X1 → X2 → X3 → Prop} {p : Prop} (h : ∃ x1 : X1, ∃ x2 : X2, ∃ x3 : X3, P1 x1 x2 x3 ∧ P2 x1 x2 x3 ∧ P3 x1 x2 x3 ∧ P4 x1 x2 x3 ∧ P5 x1 x2 x3 ∧ P6 x1 x2 x3) (k : ∀ x1 : X1, ∀ x2 : X2, ∀ x3 : X3, P1 x1 x2 x3 → P2 x1 x2 x3 → P3 x1 x2 x3 → P4 x1 x2 x3 → P5 x1 x2 x3 → P6 x1 x2 x3 → p) : p := h.elim fun x1 h1 => h1.elim fun x2 h2 => h2.elim fun x3 h3 => k x1 x2 x3 h3.1 h3.2.1 h3.2.2.1 h3.2.2.2.1 h3.2.2.2.2.1 h3.2.2.2.2.2
theorem el_eeeaaaaaa {X1 : Sort _} {X2 : Sort _} {X3 : Sort _} {P1 : X1 → X2 → X3 → Prop} {P2 : X1 → X2 → X3 → Prop} {P3 : X1 → X2 → X3 → Prop} {P4 : X1 → X2 → X3 → Prop} {P5 : X1 → X2 → X3 → Prop} {P6 : X1 → X2 → X3 → Prop} {P7 : X1 → X2 → X3 → Prop} {p : Prop} (h : ∃ x1 : X1, ∃ x2 : X2, ∃ x3 : X3, P1 x1 x2 x3 ∧ P2 x1 x2 x3 ∧ P3 x1 x2 x3 ∧ P4 x1 x2 x3 ∧ P5 x1 x2 x3 ∧ P6 x1 x2 x3 ∧ P7 x1 x2 x3) (k : ∀ x1 : X1, ∀ x2 : X2, ∀ x3 : X3, P1 x1 x2 x3 → P2 x1 x2 x3 → P3 x1 x2 x3 → P4 x1 x2 x3 → P5 x1 x2 x3 → P6 x1 x2 x3 → P7 x1 x2 x3 → p) : p := h.elim fun x1 h1 => h1.elim fun x2 h2 => h2.elim fun x3 h3 => k x1 x2 x3 h3.1 h3.2.1 h3.2.2.1 h3.2.2.2.1 h3.2.2.2.2.1 h3.2.2.2.2.2.1 h3.2.2.2.2.2.2
theorem el_eeeaaaaaaaaaa {X1 : Sort _} {X2 : Sort _} {X3 : Sort _} {P1 : X1 → X2 → X3 → Prop} {P2 : X1 → X2 → X3 → Prop} {P3 : X1 → X2 → X3 → Prop} {P4 : X1 → X2 → X3 → Prop} {P5 : X1 → X2 → X3 → Prop} {P6 : X1 → X2 → X3 → Prop} {P7 : X1 → X2 → X3 → Prop} {P8 : X1 → X2 → X3 → Prop} {P9 : X1 → X2 → X3 → Prop} {P10 : X1 → X2 → X3 → Prop} {P11 : X1 → X2 → X3 → Prop} {p : Prop} (h : ∃ x1 : X1, ∃ x2 : X2, ∃ x3 : X3, P1 x1 x2 x3 ∧ P2 x1 x2 x3 ∧ P3 x1 x2 x3 ∧ P4 x1 x2 x3 ∧ P5 x1 x2 x3 ∧ P6 x1 x2 x3 ∧ P7 x1 x2 x3 ∧ P8 x1 x2 x3 ∧ P9 x1 x2 x3 ∧ P10 x1 x2 x3 ∧ P11 x1 x2 x3) (k : ∀ x1 : X1, ∀ x2 : X2, ∀ x3 : X3, P1 x1 x2 x3 → P2 x1 x2 x3 → P3 x1 x2 x3 → P4 x1 x2 x3 → P5 x1 x2 x3 → P6 x1 x2 x3 → P7 x1 x2 x3 → P8 x1 x2 x3 → P9 x1 x2 x3 → P10 x1 x2 x3 → P11 x1 x2 x3 → p) : p := h.elim fun x1 h1 => h1.elim fun x2 h2 => h2.elim fun x3 h3 => k x1 x2 x3 h3.1 h3.2.1 h3.2.2.1 h3.2.2.2.1 h3.2.2.2.2.1 h3.2.2.2.2.2.1 h3.2.2.2.2.2.2.1 h3.2.2.2.2.2.2.2.1 h3.2.2.2.2.2.2.2.2.1 h3.2.2.2.2.2.2.2.2.2.1 h3.2.2.2.2.2.2.2.2.2.2
theorem el_eeeaaaaeeeee {X1 : Sort _} {X2 : Sort _} {X3 : Sort _} {P1 : X1 → X2 → X3 → Prop} {P2 : X1 → X2 → X3 → Prop} {P3 : X1 → X2 → X3 → Prop} {P4 : X1 → X2 → X3 → Prop} {X4 : Sort _} {X5 : Sort _} {X6 : Sort _} {X7 : Sort _} {X8 : Sort _} {P5 : X1 → X2 → X3 → X4 → X5 → X6 → X7 → X8 → Prop} {p : Prop} (h : ∃ x1 : X1, ∃ x2 : X2, ∃ x3 : X3, P1 x1 x2 x3 ∧ P2 x1 x2 x3 ∧ P3 x1 x2 x3 ∧ P4 x1 x2 x3 ∧ ∃ x4 : X4, ∃ x5 : X5, ∃ x6 : X6, ∃ x7 : X7, ∃ x8 : X8, P5 x1 x2 x3 x4 x5 x6 x7 x8) (k : ∀ x1 : X1, ∀ x2 : X2, ∀ x3 : X3, P1 x1 x2 x3 → P2 x1 x2 x3 → P3 x1 x2 x3 → P4 x1 x2 x3 → ∀ x4 : X4, ∀ x5 : X5, ∀ x6 : X6, ∀ x7 : X7, ∀ x8 : X8, P5 x1 x2 x3 x4 x5 x6 x7 x8 → p) : p := h.elim fun x1 h1 => h1.elim fun x2 h2 => h2.elim fun x3 h3 => h3.2.2.2.2.elim fun x4 h4 => h4.elim fun x5 h5 => h5.elim fun x6 h6 => h6.elim fun x7 h7 => h7.elim fun x8 h8 => k x1 x2 x3 h3.1 h3.2.1 h3.2.2.1 h3.2.2.2.1 x4 x5 x6 x7 x8 h8
theorem el_eeeeaaa {X1 : Sort _} {X2 : Sort _} {X3 : Sort _} {X4 : Sort _} {P1 : X1 → X2 → X3 → X4 → Prop} {P2 : X1 → X2 → X3 → X4 → Prop} {P3 : X1 → X2 → X3 → X4 → Prop} {P4 : X1 → X2 → X3 → X4 → Prop} {p : Prop} (h : ∃ x1 : X1, ∃ x2 : X2, ∃ x3 : X3, ∃ x4 : X4, P1 x1 x2 x3 x4 ∧ P2 x1 x2 x3 x4 ∧ P3 x1 x2 x3 x4 ∧ P4 x1 x2 x3 x4) (k : ∀ x1 : X1, ∀ x2 : X2, ∀ x3 : X3, ∀ x4 : X4, P1 x1 x2 x3 x4 → P2 x1 x2 x3 x4 → P3 x1 x2 x3 x4 → P4 x1 x2 x3 x4 → p) : p := h.elim fun x1 h1 => h1.elim fun x2 h2 => h2.elim fun x3 h3 => h3.elim fun x4 h4 => k x1 x2 x3 x4 h4.1 h4.2.1 h4.2.2.1 h4.2.2.2
theorem el_eeeeaaaaa {X1 : Sort _} {X2 : Sort _} {X3 : Sort _} {X4 : Sort _} {P1 : X1 → X2 → X3 → X4 → Prop} {P2 : X1 → X2 → X3 → X4 → Prop} {P3 : X1 → X2 → X3 → X4 → Prop} {P4 : X1 → X2 → X3 → X4 → Prop} {P5 : X1 → X2 → X3 → X4 → Prop} {P6 : X1 → X2 → X3 → X4 → Prop} {p : Prop} (h : ∃ x1 : X1, ∃ x2 : X2, ∃ x3 : X3, ∃ x4 : X4, P1 x1 x2 x3 x4 ∧ P2 x1 x2 x3 x4 ∧ P3 x1 x2 x3 x4 ∧ P4 x1 x2 x3 x4 ∧ P5 x1 x2 x3 x4 ∧ P6 x1 x2 x3 x4) (k : ∀ x1 : X1, ∀ x2 : X2, ∀ x3 : X3, ∀ x4 : X4, P1 x1 x2 x3 x4 → P2 x1 x2 x3 x4 → P3 x1 x2 x3 x4 → P4 x1 x2 x3 x4 → P5 x1 x2 x3 x4 → P6 x1 x2 x3 x4 → p) : p := h.elim fun x1 h1 => h1.elim fun x2 h2 => h2.elim fun x3 h3 => h3.elim fun x4 h4 => k x1 x2 x3 x4 h4.1 h4.2.1 h4.2.2.1 h4.2.2.2.1 h4.2.2.2.2.1 h4.2.2.2.2.2
theorem el_eeeeaaaaaaa {X1 : Sort _} {X2 : Sort _} {X3 : Sort _} {X4 : Sort _} {P1 : X1 → X2 → X3 → X4 → Prop} {P2 : X1 → X2 → X3 → X4 → Prop} {P3 : X1 → X2 → X3 → X4 → Prop} {P4 : X1 → X2 → X3 → X4 → Prop} {P5 : X1 → X2 → X3 → X4 → Prop} {P6 : X1 → X2 → X3 → X4 → Prop} {P7 : X1 → X2 → X3 → X4 → Prop} {P8 : X1 → X2 → X3 → X4 → Prop} {p : Prop} (h : ∃ x1 : X1, ∃ x2 : X2, ∃ x3 : X3, ∃ x4 : X4, P1 x1 x2 x3 x4 ∧ P2 x1 x2 x3 x4 ∧ P3 x1 x2 x3 x4 ∧ P4 x1 x2 x3 x4 ∧ P5 x1 x2 x3 x4 ∧ P6 x1 x2 x3 x4 ∧ P7 x1 x2 x3 x4 ∧ P8 x1 x2 x3 x4) (k : ∀ x1 : X1, ∀ x2 : X2, ∀ x3 : X3, ∀ x4 : X4, P1 x1 x2 x3 x4 → P2 x1 x2 x3 x4 → P3 x1 x2 x3 x4 → P4 x1 x2 x3 x4 → P5 x1 x2 x3 x4 → P6 x1 x2 x3 x4 → P7 x1 x2 x3 x4 → P8 x1 x2 x3 x4 → p) : p := h.elim fun x1 h1 => h1.elim fun x2 h2 => h2.elim fun x3 h3 => h3.elim fun x4 h4 => k x1 x2 x3 x4 h4.1 h4.2.1 h4.2.2.1 h4.2.2.2.1 h4.2.2.2.2.1 h4.2.2.2.2.2.1 h4.2.2.2.2.2.2.1 h4.2.2.2.2.2.2.2
theorem el_eeeeeaa {X1 : Sort _} {X2 : Sort _} {X3 : Sort _} {X4 : Sort _} {X5 : Sort _} {P1 : X1 → X2 → X3 → X4 → X5 → Prop} {P2 : X1 → X2 → X3 → X4 → X5 → Prop} {P3 : X1 → X2 → X3 → X4 → X5 → Prop} {p : Prop} (h : ∃ x1 : X1, ∃ x2 : X2, ∃ x3 : X3, ∃ x4 : X4, ∃ x5 : X5, P1 x1 x2 x3 x4 x5 ∧ P2 x1 x2 x3 x4 x5 ∧ P3 x1 x2 x3 x4 x5) (k : ∀ x1 : X1, ∀ x2 : X2, ∀ x3 : X3, ∀ x4 : X4, ∀ x5 : X5, P1 x1 x2 x3 x4 x5 → P2 x1 x2 x3 x4 x5 → P3 x1 x2 x3 x4 x5 → p) : p := h.elim fun x1 h1 => h1.elim fun x2 h2 => h2.elim fun x3 h3 => h3.elim fun x4 h4 => h4.elim fun x5 h5 => k x1 x2 x3 x4 x5 h5.1 h5.2.1 h5.2.2
theorem el_eeeeeaaaaa {X1 : Sort _} {X2 : Sort _} {X3 : Sort _} {X4 : Sort _} {X5 : Sort _} {P1 : X1 → X2 → X3 → X4 → X5 → Prop} {P2 : X1 → X2 → X3 → X4 → X5 → Prop} {P3 : X1 → X2 → X3 → X4 → X5 → Prop} {P4 : X1 → X2 → X3 → X4 → X5 → Prop} {P5 : X1 → X2 → X3 → X4 → X5 → Prop} {P6 : X1 → X2 → X3 → X4 → X5 → Prop} {p : Prop} (h : ∃ x1 : X1, ∃ x2 : X2, ∃ x3 : X3, ∃ x4 : X4, ∃ x5 : X5, P1 x1 x2 x3 x4 x5 ∧ P2 x1 x2 x3 x4 x5 ∧ P3 x1 x2 x3 x4 x5 ∧ P4 x1 x2 x3 x4 x5 ∧ P5 x1 x2 x3 x4 x5 ∧ P6 x1 x2 x3 x4 x5) (k : ∀ x1 : X1, ∀ x2 : X2, ∀ x3 : X3, ∀ x4 : X4, ∀ x5 : X5, P1 x1 x2 x3 x4 x5 → P2 x1 x2 x3 x4 x5 → P3 x1 x2 x3 x4 x5 → P4 x1 x2 x3 x4 x5 → P5 x1 x2 x3 x4 x5 → P6 x1 x2 x3 x4 x5 → p) : p := h.elim fun x1 h1 => h1.elim fun x2 h2 => h2.elim fun x3 h3 => h3.elim fun x4 h4 => h4.elim fun x5 h5 => k x1 x2 x3 x4 x5 h5.1 h5.2.1 h5.2.2.1 h5.2.2.2.1 h5.2.2.2.2.1 h5.2.2.2.2.2
theorem el_eeeeeeaaa {X1 : Sort _} {X2 : Sort _} {X3 : Sort _} {X4 : Sort _} {X5 : Sort _} {X6 : Sort _} {P1 : X1 → X2 → X3 → X4 → X5 → X6 → Prop} {P2 : X1 → X2 → X3 → X4 → X5 → X6 → Prop} {P3 : X1 → X2 → X3 → X4 → X5 → X6 → Prop} {P4 : X1 → X2 → X3 → X4 → X5 → X6 → Prop} {p : Prop} (h : ∃ x1 : X1, ∃ x2 : X2, ∃ x3 : X3, ∃ x4 : X4, ∃ x5 : X5, ∃ x6 : X6, P1 x1 x2 x3 x4 x5 x6 ∧ P2 x1 x2 x3 x4 x5 x6 ∧ P3 x1 x2 x3 x4 x5 x6 ∧ P4 x1 x2 x3 x4 x5 x6) (k : ∀ x1 : X1, ∀ x2 : X2, ∀ x3 : X3, ∀ x4 : X4, ∀ x5 : X5, ∀ x6 : X6, P1 x1 x2 x3 x4 x5 x6 → P2 x1 x2 x3 x4 x5 x6 → P3 x1 x2 x3 x4 x5 x6 → P4 x1 x2 x3 x4 x5 x6 → p) : p := h.elim fun x1 h1 => h1.elim fun x2 h2 => h2.elim fun x3 h3 => h3.elim fun x4 h4 => h4.elim fun x5 h5 => h5.elim fun x6 h6 => k x1 x2 x3 x4 x5 x6 h6.1 h6.2.1 h6.2.2.1 h6.2.2.2
theorem el_eeeeeeaaaa {X1 : Sort _} {X2 : Sort _} {X3 : Sort _} {X4 : Sort _} {X5 : Sort _} {X6 : Sort _} {P1 : X1 → X2 → X3 → X4 → X5 → X6 → Prop} {P2 : X1 → X2 → X3 → X4 → X5 → X6 → Prop} {P3 : X1 → X2 → X3 → X4 → X5 → X6 → Prop} {P4 : X1 → X2 → X3 → X4 → X5 → X6 → Prop} {P5 : X1 → X2 → X3 → X4 → X5 → X6 → Prop} {p : Prop} (h : ∃ x1 : X1, ∃ x2 : X2, ∃ x3 : X3, ∃ x4 : X4, ∃ x5 : X5, ∃ x6 : X6, P1 x1 x2 x3 x4 x5 x6 ∧ P2 x1 x2 x3 x4 x5 x6 ∧ P3 x1 x2 x3 x4 x5 x6 ∧ P4 x1 x2 x3 x4 x5 x6 ∧ P5 x1 x2 x3 x4 x5 x6) (k : ∀ x1 : X1, ∀ x2 : X2, ∀ x3 : X3, ∀ x4 : X4, ∀ x5 : X5, ∀ x6 : X6, P1 x1 x2 x3 x4 x5 x6 → P2 x1 x2 x3 x4 x5 x6 → P3 x1 x2 x3 x4 x5 x6 → P4 x1 x2 x3 x4 x5 x6 → P5 x1 x2 x3 x4 x5 x6 → p) : p := h.elim fun x1 h1 => h1.elim fun x2 h2 => h2.elim fun x3 h3 => h3.elim fun x4 h4 => h4.elim fun x5 h5 => h5.elim fun x6 h6 => k x1 x2 x3 x4 x5 x6 h6.1 h6.2.1 h6.2.2.1 h6.2.2.2.1 h6.2.2.2.2
theorem el_eeeeeeaaaaaaaa {X1 : Sort _} {X2 : Sort _} {X3 : Sort _} {X4 : Sort _} {X5 : Sort _} {X6 : Sort _} {P1 : X1 → X2 → X3 → X4 → X5 → X6 → Prop} {P2 : X1 → X2 → X3 → X4 → X5 → X6 → Prop} {P3 : X1 → X2 → X3 → X4 → X5 → X6 → Prop} {P4 : X1 → X2 → X3 → X4 → X5 → X6 → Prop} {P5 : X1 → X2 → X3 → X4 → X5 → X6 → Prop} {P6 : X1 → X2 → X3 → X4 → X5 → X6 → Prop} {P7 : X1 → X2 → X3 → X4 → X5 → X6 → Prop} {P8 : X1 → X2 → X3 → X4 → X5 → X6 → Prop} {P9 : X1 → X2 → X3 → X4 → X5 → X6 → Prop} {p : Prop} (h : ∃ x1 : X1, ∃ x2 : X2, ∃ x3 : X3, ∃ x4 : X4, ∃ x5 : X5, ∃ x6 : X6, P1 x1 x2 x3 x4 x5 x6 ∧ P2 x1 x2 x3 x4 x5 x6 ∧ P3 x1 x2 x3 x4 x5 x6 ∧ P4 x1 x2 x3 x4 x5 x6 ∧ P5 x1 x2 x3 x4 x5 x6 ∧ P6 x1 x2 x3 x4 x5 x6 ∧ P7 x1 x2 x3 x4 x5 x6 ∧ P8 x1 x2 x3 x4 x5 x6 ∧ P9 x1 x2 x3 x4 x5 x6) (k : ∀ x1 : X1, ∀ x2 : X2, ∀ x3 : X3, ∀ x4 : X4, ∀ x5 : X5, ∀ x6 : X6, P1 x1 x2 x3 x4 x5 x6 → P2 x1 x2 x3 x4 x5 x6 → P3 x1 x2 x3 x4 x5 x6 → P4 x1 x2 x3 x4 x5 x6 → P5 x1 x2 x3 x4 x5 x6 → P6 x1 x2 x3 x4 x5 x6 → P7 x1 x2 x3 x4 x5 x6 → P8 x1 x2 x3 x4 x5 x6 → P9 x1 x2 x3 x4 x5 x6 → p) : p := h.elim fun x1 h1 => h1.elim fun x2 h2 => h2.elim fun x3 h3 => h3.elim fun x4 h4 => h4.elim fun x5 h5 => h5.elim fun x6 h6 => k x1 x2 x3 x4 x5 x6 h6.1 h6.2.1 h6.2.2.1 h6.2.2.2.1 h6.2.2.2.2.1 h6.2.2.2.2.2.1 h6.2.2.2.2.2.2.1 h6.2.2.2.2.2.2.2.1 h6.2.2.2.2.2.2.2.2
theorem el_eeeeeeaaaaaaaaa {X1 : Sort _} {X2 : Sort _} {X3 : Sort _} {X4 : Sort _} {X5 : Sort _} {X6 : Sort _} {P1 : X1 → X2 → X3 → X4 → X5 → X6 → Prop} {P2 : X1 → X2 → X3 → X4 → X5 → X6 → Prop} {P3 : X1 → X2 → X3 → X4 → X5 → X6 → Prop} {P4 : X1 → X2 → X3 → X4 → X5 → X6 → Prop} {P5 : X1 → X2 → X3 → X4 → X5 → X6 → Prop} {P6 : X1 → X2 → X3 → X4 → X5 → X6 → Prop} {P7 : X1 → X2 → X3 → X4 → X5 → X6 → Prop} {P8 : X1 → X2 → X3 → X4 → X5 → X6 → Prop} {P9 : X1 → X2 → X3 → X4 → X5 → X6 → Prop} {P10 : X1 → X2 → X3 → X4 → X5 → X6 → Prop} {p : Prop} (h : ∃ x1 : X1, ∃ x2 : X2, ∃ x3 : X3, ∃ x4 : X4, ∃ x5 : X5, ∃ x6 : X6, P1 x1 x2 x3 x4 x5 x6 ∧ P2 x1 x2 x3 x4 x5 x6 ∧ P3 x1 x2 x3 x4 x5 x6 ∧ P4 x1 x2 x3 x4 x5 x6 ∧ P5 x1 x2 x3 x4 x5 x6 ∧ P6 x1 x2 x3 x4 x5 x6 ∧ P7 x1 x2 x3 x4 x5 x6 ∧ P8 x1 x2 x3 x4 x5 x6 ∧ P9 x1 x2 x3 x4 x5 x6 ∧ P10 x1 x2 x3 x4 x5 x6) (k : ∀ x1 : X1, ∀ x2 : X2, ∀ x3 : X3, ∀ x4 : X4, ∀ x5 : X5, ∀ x6 : X6, P1 x1 x2 x3 x4 x5 x6 → P2 x1 x2 x3 x4 x5 x6 → P3 x1 x2 x3 x4 x5 x6 → P4 x1 x2 x3 x4 x5 x6 → P5 x1 x2 x3 x4 x5 x6 → P6 x1 x2 x3 x4 x5 x6 → P7 x1 x2 x3 x4 x5 x6 → P8 x1 x2 x3 x4 x5 x6 → P9 x1 x2 x3 x4 x5 x6 → P10 x1 x2 x3 x4 x5 x6 → p) : p := h.elim fun x1 h1 => h1.elim fun x2 h2 => h2.elim fun x3 h3 => h3.elim fun x4 h4 => h4.elim fun x5 h5 => h5.elim fun x6 h6 => k x1 x2 x3 x4 x5 x6 h6.1 h6.2.1 h6.2.2.1 h6.2.2.2.1 h6.2.2.2.2.1 h6.2.2.2.2.2.1 h6.2.2.2.2.2.2.1 h6.2.2.2.2.2.2.2.1 h6.2.2.2.2.2.2.2.2.1 h6.2.2.2.2.2.2.2.2.2
theorem el_eeeeeeeeeeaaaaaaaaaa {X1 : Sort _} {X2 : Sort _} {X3 : Sort _} {X4 : Sort _} {X5 : Sort _} {X6 : Sort _} {X7 : Sort _} {X8 : Sort _} {X9 : Sort _} {X10 : Sort _} {P1 : X1 → X2 → X3 → X4 → X5 → X6 → X7 → X8 → X9 → X10 → Prop} {P2 : X1 → X2 → X3 → X4 → X5 → X6 → X7 → X8 → X9 → X10 → Prop} {P3 : X1 → X2 → X3 → X4 → X5 → X6 → X7 → X8 → X9 → X10 → Prop} {P4 : X1 → X2 → X3 → X4 → X5 → X6 → X7 → X8 → X9 → X10 → Prop} {P5 : X1 → X2 → X3 → X4 → X5 → X6 → X7 → X8 → X9 → X10 → Prop} {P6 : X1 → X2 → X3 → X4 → X5 → X6 → X7 → X8 → X9 → X10 → Prop} {P7 : X1 → X2 → X3 → X4 → X5 → X6 → X7 → X8 → X9 → X10 → Prop} {P8 : X1 → X2 → X3 → X4 → X5 → X6 → X7 → X8 → X9 → X10 → Prop} {P9 : X1 → X2 → X3 → X4 → X5 → X6 → X7 → X8 → X9 → X10 → Prop} {P10 : X1 → X2 → X3 → X4 → X5 → X6 → X7 → X8 → X9 → X10 → Prop} {P11 : X1 → X2 → X3 → X4 → X5 → X6 → X7 → X8 → X9 → X10 → Prop} {p : Prop} (h : ∃ x1 : X1, ∃ x2 : X2, ∃ x3 : X3, ∃ x4 : X4, ∃ x5 : X5, ∃ x6 : X6, ∃ x7 : X7, ∃ x8 : X8, ∃ x9 : X9, ∃ x10 : X10, P1 x1 x2 x3 x4 x5 x6 x7 x8 x9 x10 ∧ P2 x1 x2 x3 x4 x5 x6 x7 x8 x9 x10 ∧ P3 x1 x2 x3 x4 x5 x6 x7 x8 x9 x10 ∧ P4 x1 x2 x3 x4 x5 x6 x7 x8 x9 x10 ∧ P5 x1 x2 x3 x4 x5 x6 x7 x8 x9 x10 ∧ P6 x1 x2 x3 x4 x5 x6 x7 x8 x9 x10 ∧ P7 x1 x2 x3 x4 x5 x6 x7 x8 x9 x10 ∧ P8 x1 x2 x3 x4 x5 x6 x7 x8 x9 x10 ∧ P9 x1 x2 x3 x4 x5 x6 x7 x8 x9 x10 ∧ P10 x1 x2 x3 x4 x5 x6 x7 x8 x9 x10 ∧ P11 x1 x2 x3 x4 x5 x6 x7 x8 x9 x10) (k : ∀ x1 : X1, ∀ x2 : X2, ∀ x3 : X3, ∀ x4 : X4, ∀ x5 : X5, ∀ x6 : X6, ∀ x7 : X7, ∀ x8 : X8, ∀ x9 : X9, ∀ x10 : X10, P1 x1 x2 x3 x4 x5 x6 x7 x8 x9 x10 → P2 x1 x2 x3 x4 x5 x6 x7 x8 x9 x10 → P3 x1 x2 x3 x4 x5 x6 x7 x8 x9 x10 → P4 x1 x2 x3 x4 x5 x6 x7 x8 x9 x10 → P5 x1 x2 x3 x4 x5 x6 x7 x8 x9 x10 → P6 x1 x2 x3 x4 x5 x6 x7 x8 x9 x10 → P7 x1 x2 x3 x4 x5 x6 x7 x8 x9 x10 → P8 x1 x2 x3 x4 x5 x6 x7 x8 x9 x10 → P9 x1 x2 x3 x4 x5 x6 x7 x8 x9 x10 → P10 x1 x2 x3 x4 x5 x6 x7 x8 x9 x10 → P11 x1 x2 x3 x4 x5 x6 x7 x8 x9 x10 → p) : p := h.elim fun x1 h1 => h1.elim fun x2 h2 => h2.elim fun x3 h3 => h3.elim fun x4 h4 => h4.elim fun x5 h5 => h5.elim fun x6 h6 => h6.elim fun x7 h7 => h7.elim fun x8 h8 => h8.elim fun x9 h9 => h9.elim fun x10 h10 => k x1 x2 x3 x4 x5 x6 x7 x8 x9 x10 h10.1 h10.2.1 h10.2.2.1 h10.2.2.2.1 h10.2.2.2.2.1 h10.2.2.2.2.2.1 h10.2.2.2.2.2.2.1 h10.2.2.2.2.2.2.2.1 h10.2.2.2.2.2.2.2.2.1 h10.2.2.2.2.2.2.2.2.2.1 h10.2.2.2.2.2.2.2.2.2.2
theorem el_eeeeeeeeeeee {X1 : Sort _} {X2 : Sort _} {X3 : Sort _} {X4 : Sort _} {X5 : Sort _} {X6 : Sort _} {X7 : Sort _} {X8 : Sort _} {X9 : Sort _} {X10 : Sort _} {X11 : Sort _} {X12 : Sort _} {P1 : X1 → X2 → X3 → X4 → X5 → X6 → X7 → X8 → X9 → X10 → X11 → X12 → Prop} {p : Prop} (h : ∃ x1 : X1, ∃ x2 : X2, ∃ x3 : X3, ∃ x4 : X4, ∃ x5 : X5, ∃ x6 : X6, ∃ x7 : X7, ∃ x8 : X8, ∃ x9 : X9, ∃ x10 : X10, ∃ x11 : X11, ∃ x12 : X12, P1 x1 x2 x3 x4 x5 x6 x7 x8 x9 x10 x11 x12) (k : ∀ x1 : X1, ∀ x2 : X2, ∀ x3 : X3, ∀ x4 : X4, ∀ x5 : X5, ∀ x6 : X6, ∀ x7 : X7, ∀ x8 : X8, ∀ x9 : X9, ∀ x10 : X10, ∀ x11 : X11, ∀ x12 : X12, P1 x1 x2 x3 x4 x5 x6 x7 x8 x9 x10 x11 x12 → p) : p := h.elim fun x1 h1 => h1.elim fun x2 h2 => h2.elim fun x3 h3 => h3.elim fun x4 h4 => h4.elim fun x5 h5 => h5.elim fun x6 h6 => h6.elim fun x7 h7 => h7.elim fun x8 h8 => h8.elim fun x9 h9 => h9.elim fun x10 h10 => h10.elim fun x11 h11 => h11.elim fun x12 h12 => k x1 x2 x3 x4 x5 x6 x7 x8 x9 x10 x11 x12 h12

/-- plain data, as a tree -/
inductive D where
  | none
  | bool (b : Bool)
  | int (i : Int)
  | str (s : Str)
  | tup (xs : List D)
  | lst (xs : List D)
  | dct (kvs : List (Str × D))

section
variable (prog : Program) (w : World)
mutual
/-- the value bears the tree in this heap, and no object of the tree lies in ex -/
inductive Rd (ex : List Addr) (h : Heap) : Value → D → Prop
  | none : Rd ex h .none .none
  | bool (b) : Rd ex h (.bool b) (.bool b)
  | int (i t) : Rd ex h (.int i t) (.int i)
  | str (x t) : Rd ex h (.str x t) (.str x)
  | tup {a vs xs} : a ∉ ex → IsTup h a (List.toArray vs) → RdAll ex h vs xs → Rd ex h (.ref a) (.tup xs)
  | lst {a vs xs} : a ∉ ex → h.IsList a (List.toArray vs) → RdAll ex h vs xs → Rd ex h (.ref a) (.lst xs)
  | dct {a kv xs} : a ∉ ex → a ≠ sysModules → h.DictOf (strKind prog w) a kv → RdKv ex h kv xs → Rd ex h (.ref a) (.dct xs)
inductive RdAll (ex : List Addr) (h : Heap) : List Value → List D → Prop
  | nil : RdAll ex h [] []
  | cons {v vs d ds} : Rd ex h v d → RdAll ex h vs ds → RdAll ex h (v :: vs) (d :: ds)
inductive RdKv (ex : List Addr) (h : Heap) : List (Str × Value) → List (Str × D) → Prop
  | nil : RdKv ex h [] []
  | cons {k v r d rs} : Rd ex h v d → RdKv ex h r rs → RdKv ex h ((k, v) :: r) ((k, d) :: rs)
end
end

section
variable {prog : Program} {w : World} {ex ex' : List Addr} {h h' : Heap}

theorem dictOf_at {a : Addr} {kv : List (Str × Value)} (x : h.DictOf (strKind prog w) a kv) (k : ∀ o, h.get? a = some o → h'.get? a = some o) : h'.DictOf (strKind prog w) a kv := by
  refine el_eeea (x) fun o es ep ho r => ?_; try clear x
  exact ⟨o, es, ep, k o ho, r⟩
theorem isTup_at {a : Addr} {vs : Array Value} (x : IsTup h a vs) (k : ∀ o, h.get? a = some o → h'.get? a = some o) : IsTup h' a vs := by
  refine el_ea (x) fun o ho r => ?_; try clear x
  exact ⟨o, k o ho, r⟩
theorem isList_at {a : Addr} {vs : Array Value} (x : h.IsList a vs) (k : ∀ o, h.get? a = some o → h'.get? a = some o) : h'.IsList a vs := by
  refine el_ea (x) fun o ho r => ?_; try clear x
  exact ⟨o, k o ho, r⟩
theorem dictOf_there {a : Addr} {kv : List (Str × Value)} (x : h.DictOf (strKind prog w) a kv) : ∃ o, h.get? a = some o := by
  refine el_eeea (x) fun o es ep ho r => ?_; try clear x
  exact ⟨o, ho⟩

mutual
theorem Rd.move {v : Value} {d : D} (k : ∀ b o, b ∉ ex → h.get? b = some o → h'.get? b = some o ∧ b ∉ ex') : Rd prog w ex h v d → Rd prog w ex' h' v d
  | .none => .none
  | .bool b => .bool b
  | .int i t => .int i t
  | .str x t => .str x t
  | .tup na ht r => by
    refine el_ea (id ht) fun o ho _ => ?_
    exact .tup (k _ _ na ho).2 (isTup_at ht fun o e => (k _ o na e).1) (r.move k)
  | .lst na ht r => by
    refine el_ea (id ht) fun o ho _ => ?_
    exact .lst (k _ _ na ho).2 (isList_at ht fun o e => (k _ o na e).1) (r.move k)
  | .dct na ns ht r => by
    obtain ⟨o, ho⟩ := dictOf_there ht
    exact .dct (k _ _ na ho).2 ns (dictOf_at ht fun o e => (k _ o na e).1) (r.move k)
theorem RdAll.move {vs : List Value} {ds : List D} (k : ∀ b o, b ∉ ex → h.get? b = some o → h'.get? b = some o ∧ b ∉ ex') : RdAll prog w ex h vs ds → RdAll prog w ex' h' vs ds
  | .nil => .nil
  | .cons a r => .cons (a.move k) (r.move k)
theorem RdKv.move {vs : List (Str × Value)} {ds : List (Str × D)} (k : ∀ b o, b ∉ ex → h.get? b = some o → h'.get? b = some o ∧ b ∉ ex') : RdKv prog w ex h vs ds → RdKv prog w ex' h' vs ds
  | .nil => .nil
  | .cons a r => .cons (a.move k) (r.move k)
end
end
end Mine
end
section
namespace Mine

inductive Vl where
  | d (x : D)
  | m (i : Nat)
  | g (v : Value)

/-- a word on one object that stands while what it names stands -/
structure OP where
  bd : Nat
  P : (Nat → Option Addr) → List Addr → Heap → Obj → Prop
  mono : ∀ {l l' : Nat → Option Addr} {ex ex' : List Addr} {h h' : Heap} {o : Obj}, (∀ i a, i < bd → l i = some a → l' i = some a) →
    (∀ b o, b ∉ ex → h.get? b = some o → h'.get? b = some o ∧ b ∉ ex') → P l ex h o → P l' ex' h' o

/-- what is written down of an object that may change -/
inductive MO where
  | list (xs : List D)
  | dict (kvs : List (Str × D))
  | obj (P : OP)
noncomputable def MO.bd : MO → Nat
  | .obj P => P.bd
  | _ => 0

section
variable (prog : Program) (w : World)

noncomputable def VR (fs as : List Addr) (h : Heap) : Vl → Value → Prop
  | .d x, u => Rd prog w (as ++ fs) h u x
  | .m i, u => ∃ a, as[i]? = some a ∧ u = .ref a
  | .g v, u => u = v

inductive VRs (fs as : List Addr) (h : Heap) : List Vl → List Value → Prop
  | nil : VRs fs as h [] []
  | cons {v u vs us} : VR prog w fs as h v u → VRs fs as h vs us → VRs fs as h (v :: vs) (u :: us)

noncomputable def MOk (fs as : List Addr) (h : Heap) (a : Addr) : MO → Prop
  | .list xs => ∃ vs, h.PlainList a (List.toArray vs) ∧ RdAll prog w (as ++ fs) h vs xs
  | .dict kvs => ∃ kv, h.DictOf (strKind prog w) a kv ∧ RdKv prog w (as ++ fs) h kv kvs
  | .obj P => ∃ o, h.get? a = some o ∧ P.P (fun i => as[i]?) (as ++ fs) h o

structure Rel (h₀ : Heap) (fs as : List Addr) (σ : List MO) (s : Shared) : Prop where
  base : ∀ b o, h₀.get? b = some o → s.heap.get? b = some o ∧ b ∉ as ++ fs
  len : as.length = σ.length
  nd : (as ++ fs).Nodup
  there : ∀ a, a ∈ as ++ fs → ∃ o, s.heap.get? a = some o
  mo : ∀ (i : Nat) a x, as[i]? = some a → σ[i]? = some x → MOk prog w fs as s.heap a x
  bare : AllBare s.gens

structure FrameOk (env : Env) (m : List (Str × Vl)) (fs as : List Addr) (h : Heap) : Prop where
  ns : ∃ mm, h.Ns env.locals mm ∧ ∀ x v, m.lookup x = some v → env.kindOf x = some .local → ∃ u, VR prog w fs as h v u ∧ mm x = some u
  cl : ∀ x v, m.lookup x = some v → (env.kindOf x = some .cell ∨ env.kindOf x = some .free) → ∃ c u, env.cells.lookup x = some c ∧ h.IsCell c (some u) ∧ VR prog w fs as h v u
  cells : ∀ x c, env.cells.lookup x = some c → c ∈ fs ∧ ∃ v, h.IsCell c v
  inj : ∀ x y c, env.cells.lookup x = some c → env.cells.lookup y = some c → x = y
  loc : env.locals ∈ fs
  ne : ∀ x c, env.cells.lookup x = some c → c ≠ env.locals
  all : ∀ p ∈ env.cells, p.2 ∈ fs
end

noncomputable def own (env : Env) : List Addr := env.locals :: env.cells.map (·.2)

/-- from s to s': what is not among 'ow' and not among as is kept; the first k of as stay -/
structure Stp (ow : List Addr) (k : Nat) (as : List Addr) (s : Shared) (as' : List Addr) (s' : Shared) : Prop where
  pre : ∀ (i : Nat) a, i < k → as[i]? = some a → as'[i]? = some a
  fresh : ∀ a, a ∈ as' → a ∉ as → s.heap.get? a = none
  kept : ∀ b o, b ∉ as → b ∉ ow → s.heap.get? b = some o → s'.heap.get? b = some o
  thr : ∀ b o, s.heap.get? b = some o → ∃ o', s'.heap.get? b = some o'
  os : s'.os = s.os

structure Room (n : Nat) (A : Around) : Prop where
  handled : A.handled = none
  depth : A.depth + n < recursionLimit
  units : A.units + 8 * n + 100 < cLine

/-- the code object of a def that makes inner code -/
noncomputable def codeOf (sc : Scope) : Option Addr := if (sc.names.lookup ("new_callers" : Str)).isSome then some 44 else if (sc.names.lookup ("stream" : Str)).isSome then some 117 else none
structure EnvIs (sc : Scope) (env : Env) : Prop where
  scope : env.scope = sc
  kind : sc.kind = .function
  globals : env.globals = mainGlobals
  builtins : env.builtins = builtinsNs
  cell : ∀ x, sc.names.lookup x = some .cell → ∃ c, env.cells.lookup x = some c
  code : ∀ c, codeOf sc = some c → env.code = .ref c

section
variable {prog : Program} {w : World} {h₀ : Heap} {fs as as' as'' ow : List Addr} {σ σ' : List MO} {s s' s'' : Shared} {k : Nat}

theorem Stp.refl (ow : List Addr) (k : Nat) (as : List Addr) (s : Shared) : Stp ow k as s as s :=
  ⟨fun _ _ _ e => e, fun _ h n => absurd h n, fun _ _ _ _ e => e, fun _ o e => ⟨o, e⟩, rfl⟩
theorem Stp.trans (x : Stp ow k as s as' s') (y : Stp ow k as' s' as'' s'') : Stp ow k as s as'' s'' := by
  refine ⟨fun i a hi e => y.pre i a hi (x.pre i a hi e), fun a h n => ?_, fun b o h1 h2 e => ?_, fun b o e => ?_, y.os.trans x.os⟩
  · by_cases h' : a ∈ as'
    · exact x.fresh a h' n
    · cases q : s.heap.get? a with
      | none => rfl
      | some o =>
        obtain ⟨o', e'⟩ := x.thr a o q
        rw [y.fresh a h h'] at e'; cases e'
  · have e1 := x.kept b o h1 h2 e
    refine y.kept b o (fun hb => ?_) h2 e1
    have := x.fresh b hb h1
    rw [e] at this; cases this
  · obtain ⟨o', e'⟩ := x.thr b o e
    exact y.thr b o' e'
theorem Stp.weaken {ow' : List Addr} {k' : Nat} (x : Stp ow k as s as' s') (ho : ∀ b ∈ ow, b ∈ ow') (hk : k' ≤ k) : Stp ow' k' as s as' s' :=
  ⟨fun i a hi e => x.pre i a (Nat.lt_of_lt_of_le hi hk) e, x.fresh, fun b o h1 h2 e => x.kept b o h1 (fun q => h2 (ho b q)) e, x.thr, x.os⟩
theorem Stp.toks (x : Stp ow k as s as' s') (t : Nat) : Stp ow k as s as' { s' with toks := t } := ⟨x.pre, x.fresh, x.kept, x.thr, x.os⟩
theorem Stp.toks₀ (x : Stp ow k as s as' s') (t : Nat) : Stp ow k as { s with toks := t } as' s' := ⟨x.pre, x.fresh, x.kept, x.thr, x.os⟩

/-- what moves trees over -/
theorem Stp.mv (x : Stp ow k as s as' s') (hw : ∀ b ∈ ow, b ∈ fs) (b : Addr) (o : Obj) (hb : b ∉ as ++ fs) (e : s.heap.get? b = some o) : s'.heap.get? b = some o ∧ b ∉ as' ++ fs := by
  have h1 : b ∉ as := fun q => hb (List.mem_append_left _ q)
  have h2 : b ∉ fs := fun q => hb (List.mem_append_right _ q)
  refine ⟨x.kept b o h1 (fun q => h2 (hw b q)) e, fun q => ?_⟩
  rcases List.mem_append.mp q with q | q
  · have := x.fresh b q h1
    rw [e] at this; cases this
  · exact h2 q
theorem VR.step {v : Vl} {u : Value} (y : VR prog w fs as s.heap v u) (x : Stp ow k as s as' s') (hw : ∀ b ∈ ow, b ∈ fs) (hv : ∀ i, v = .m i → i < k) : VR prog w fs as' s'.heap v u := by
  cases v with
  | d t => exact Rd.move (x.mv hw) y
  | m i =>
    refine el_ea (y) fun a h1 h2 => ?_; try clear y
    exact ⟨a, x.pre i a (hv i rfl) h1, h2⟩
  | g v => exact y

theorem Rel.toks (R : Rel prog w h₀ fs as σ s) (t : Nat) : Rel prog w h₀ fs as σ { s with toks := t } := ⟨R.base, R.len, R.nd, R.there, R.mo, R.bare⟩
end
section
variable {prog : Program} {w : World} {fs as ex : List Addr} {h : Heap} {u : Value} {us : List Value} {C : Value → Prop} {Cs : List Value → Prop}
theorem Rd.tupE {xs : List D} (x : Rd prog w ex h u (.tup xs)) (k : ∀ a vs, a ∉ ex → IsTup h a (List.toArray vs) → RdAll prog w ex h vs xs → C (.ref a)) : C u := by cases x with | tup na ht hr => exact k _ _ na ht hr
theorem Rd.lstE {xs : List D} (x : Rd prog w ex h u (.lst xs)) (k : ∀ a vs, a ∉ ex → h.IsList a (List.toArray vs) → RdAll prog w ex h vs xs → C (.ref a)) : C u := by cases x with | lst na ht hr => exact k _ _ na ht hr
theorem Rd.dctE {xs : List (Str × D)} (x : Rd prog w ex h u (.dct xs)) (k : ∀ a kv, a ∉ ex → a ≠ sysModules → h.DictOf (strKind prog w) a kv → RdKv prog w ex h kv xs → C (.ref a)) : C u := by cases x with | dct na ns hd hr => exact k _ _ na ns hd hr
theorem VRs.one {v : Vl} (x : VRs prog w fs as h [v] us) (k : ∀ u, VR prog w fs as h v u → Cs [u]) : Cs us := by cases x with | cons V r => cases r with | nil => exact k _ V
theorem VRs.two {v₁ v₂ : Vl} (x : VRs prog w fs as h [v₁, v₂] us) (k : ∀ u₁ u₂, VR prog w fs as h v₁ u₁ → VR prog w fs as h v₂ u₂ → Cs [u₁, u₂]) : Cs us := by cases x with | cons V r => cases r with | cons V₂ r => cases r with | nil => exact k _ _ V V₂
theorem VRs.three {v₁ v₂ v₃ : Vl} (x : VRs prog w fs as h [v₁, v₂, v₃] us) (k : ∀ u₁ u₂ u₃, VR prog w fs as h v₁ u₁ → VR prog w fs as h v₂ u₂ → VR prog w fs as h v₃ u₃ → Cs [u₁, u₂, u₃]) : Cs us := by cases x with | @cons _ u _ _ V r => exact VRs.two (Cs := fun l => Cs (u :: l)) r fun u₂ u₃ V₂ V₃ => k u u₂ u₃ V V₂ V₃
end
end Mine
end
section
namespace Mine

/-- what the module's names stand for -/
structure Glb (h₀ : Heap) (gl : Str → Option Value) : Prop where
  glob : ∀ x v, gl x = some v → ∃ mg mb, h₀.Ns mainGlobals mg ∧ h₀.Ns builtinsNs mb ∧ (mg x = some v ∨ (mg x = none ∧ mb x = some v))
  lim : h₀.NoLimit
  sysm : ∃ o, h₀.get? sysModules = some o

section
variable (prog : Program) (w : World) (h₀ : Heap)

noncomputable def PostE (fs as : List Addr) (s : Shared) (K : Vl → List MO → Prop) (u : Value) (s' : Shared) : Prop :=
  ∃ v as' σ', Stp [] as.length as s as' s' ∧ Rel prog w h₀ fs as' σ' s' ∧ VR prog w fs as' s'.heap v u ∧ K v σ'
noncomputable def PostEs (fs as : List Addr) (s : Shared) (K : List Vl → List MO → Prop) (us : List Value) (s' : Shared) : Prop :=
  ∃ vs as' σ', Stp [] as.length as s as' s' ∧ Rel prog w h₀ fs as' σ' s' ∧ VRs prog w fs as' s'.heap vs us ∧ K vs σ'
section
variable {prog : Program} {w : World} {h₀ : Heap} {fs as : List Addr} {s s' : Shared} {u : Value} {us : List Value} {p : Prop}
theorem PostE.el {K : Vl → List MO → Prop} (h : PostE prog w h₀ fs as s K u s') (k : ∀ v as' σ', Stp [] as.length as s as' s' → Rel prog w h₀ fs as' σ' s' → VR prog w fs as' s'.heap v u → K v σ' → p) : p := h.elim fun v h => h.elim fun a h => h.elim fun q h => k v a q h.1 h.2.1 h.2.2.1 h.2.2.2
theorem PostEs.el {K : List Vl → List MO → Prop} (h : PostEs prog w h₀ fs as s K us s') (k : ∀ vs as' σ', Stp [] as.length as s as' s' → Rel prog w h₀ fs as' σ' s' → VRs prog w fs as' s'.heap vs us → K vs σ' → p) : p := h.elim fun v h => h.elim fun a h => h.elim fun q h => k v a q h.1 h.2.1 h.2.2.1 h.2.2.2
theorem PostE.mk {K : Vl → List MO → Prop} {v : Vl} {as' : List Addr} {σ' : List MO} (h1 : Stp [] as.length as s as' s') (h2 : Rel prog w h₀ fs as' σ' s') (h3 : VR prog w fs as' s'.heap v u) (h4 : K v σ') : PostE prog w h₀ fs as s K u s' := ⟨v, as', σ', h1, h2, h3, h4⟩
theorem PostEs.mk {K : List Vl → List MO → Prop} {vs : List Vl} {as' : List Addr} {σ' : List MO} (h1 : Stp [] as.length as s as' s') (h2 : Rel prog w h₀ fs as' σ' s') (h3 : VRs prog w fs as' s'.heap vs us) (h4 : K vs σ') : PostEs prog w h₀ fs as s K us s' := ⟨vs, as', σ', h1, h2, h3, h4⟩
theorem PostE.elq {X : Vl} {K : Vl → List MO → Prop} (h : PostE prog w h₀ fs as s (fun v σ' => v = X ∧ K v σ') u s') (k : ∀ as' σ', Stp [] as.length as s as' s' → Rel prog w h₀ fs as' σ' s' → VR prog w fs as' s'.heap X u → K X σ' → p) : p := h.el fun _ a q h1 h2 h3 h4 => k a q h1 h2 (h4.1 ▸ h3) (h4.1 ▸ h4.2)
theorem PostE.elqq {X : Vl} {Y : List MO} (h : PostE prog w h₀ fs as s (fun v σ' => v = X ∧ σ' = Y) u s') (k : ∀ as', Stp [] as.length as s as' s' → Rel prog w h₀ fs as' Y s' → VR prog w fs as' s'.heap X u → p) : p := h.el fun _ a _ h1 h2 h3 h4 => k a h1 (h4.2 ▸ h2) (h4.1 ▸ h3)
theorem PostE.elq1 {ι : Sort _} {X : ι → Vl} {K : ι → Vl → List MO → Prop} (h : PostE prog w h₀ fs as s (fun v σ' => ∃ x, v = X x ∧ K x v σ') u s') (k : ∀ x as' σ', Stp [] as.length as s as' s' → Rel prog w h₀ fs as' σ' s' → VR prog w fs as' s'.heap (X x) u → K x (X x) σ' → p) : p := h.el fun _ a q h1 h2 h3 h4 => h4.elim fun x h4 => k x a q h1 h2 (h4.1 ▸ h3) (h4.1 ▸ h4.2)
theorem PostE.elg {g : Value} {K : Vl → List MO → Prop} {C : Value → Prop} (h : PostE prog w h₀ fs as s (fun v σ' => v = .g g ∧ K v σ') u s') (k : ∀ as' σ', Stp [] as.length as s as' s' → Rel prog w h₀ fs as' σ' s' → K (.g g) σ' → C g) : C u := h.elq fun a q h1 h2 h3 h4 => (show u = g from h3) ▸ k a q h1 h2 h4
theorem PostE.elgg {g : Value} {Y : List MO} {C : Value → Prop} (h : PostE prog w h₀ fs as s (fun v σ' => v = .g g ∧ σ' = Y) u s') (k : ∀ as', Stp [] as.length as s as' s' → Rel prog w h₀ fs as' Y s' → C g) : C u := h.elqq fun a h1 h2 h3 => (show u = g from h3) ▸ k a h1 h2
theorem el_B {K : List MO → Prop} (h : ∃ as' σ', Stp [] as.length as s as' s' ∧ Rel prog w h₀ fs as' σ' s' ∧ K σ') (k : ∀ as' σ', Stp [] as.length as s as' s' → Rel prog w h₀ fs as' σ' s' → K σ' → p) : p := h.elim fun a h => h.elim fun q h => k a q h.1 h.2.1 h.2.2
theorem in_B {K : List MO → Prop} {as' : List Addr} {σ' : List MO} (h1 : Stp [] as.length as s as' s') (h2 : Rel prog w h₀ fs as' σ' s') (h3 : K σ') : ∃ as' σ', Stp [] as.length as s as' s' ∧ Rel prog w h₀ fs as' σ' s' ∧ K σ' := (in_eeaa as' σ' h1 h2 h3)
end
noncomputable abbrev NoE : Value → Shared → Prop := fun _ _ => False

/-- an expression in a frame -/
noncomputable def WE (n : Nat) (sc : Scope) (m : List (Str × Vl)) (e : Expr) (σ : List MO) (K : Vl → List MO → Prop) : Prop :=
  ∀ A env fs as s, Room n A → EnvIs sc env → Rel prog w h₀ fs as σ s → FrameOk prog w env m fs as s.heap → wpAny (model prog w) A (eval e env) (PostE prog w h₀ fs as s K) NoE s
noncomputable def WEs (n : Nat) (sc : Scope) (m : List (Str × Vl)) (es : List Expr) (σ : List MO) (K : List Vl → List MO → Prop) : Prop :=
  ∀ A env fs as s pos, Room n A → EnvIs sc env → Rel prog w h₀ fs as σ s → FrameOk prog w env m fs as s.heap → wpAny (model prog w) A (spliced (backTo pos (starEach es env))) (PostEs prog w h₀ fs as s K) NoE s
/-- a step on values -/
noncomputable def WO (n : Nat) (vs : List Vl) (t : List Value → Sem Value) (σ : List MO) (K : Vl → List MO → Prop) : Prop :=
  ∀ A fs as s us, Room n A → Rel prog w h₀ fs as σ s → VRs prog w fs as s.heap vs us → wpAny (model prog w) A (t us) (PostE prog w h₀ fs as s K) NoE s
end

section
variable {prog : Program} {w : World} {h₀ : Heap} {fs as as' as'' ow : List Addr} {σ σ' σ'' : List MO} {s s' s'' : Shared} {k n : Nat} {sc : Scope} {m : List (Str × Vl)} {K : Vl → List MO → Prop}

theorem Stp.grows (x : Stp ow as.length as s as' s') : as.length ≤ as'.length := by
  rcases Nat.lt_or_ge as'.length as.length with h | h
  · have e : as[as'.length]? = some as[as'.length] := List.getElem?_eq_getElem h
    have := x.pre as'.length _ h e
    rw [List.getElem?_eq_none (Nat.le_refl _)] at this; cases this
  · exact h
theorem Stp.transE (x : Stp [] as.length as s as' s') (y : Stp [] as'.length as' s' as'' s'') : Stp [] as.length as s as'' s'' :=
  x.trans (y.weaken (fun _ h => h) x.grows)
theorem VR.stepE {v : Vl} {u : Value} (y : VR prog w fs as s.heap v u) (x : Stp [] as.length as s as' s') : VR prog w fs as' s'.heap v u := by
  cases v with
  | d t => exact Rd.move (x.mv (fun _ h => nomatch h)) y
  | m i =>
    refine el_ea (y) fun a h1 h2 => ?_; try clear y
    exact ⟨a, x.pre i a (List.getElem?_eq_some_iff.mp h1).1 h1, h2⟩
  | g v => exact y
theorem VRs.stepE {vs : List Vl} {us : List Value} (y : VRs prog w fs as s.heap vs us) (x : Stp [] as.length as s as' s') : VRs prog w fs as' s'.heap vs us := by
  induction y with
  | nil => exact .nil
  | cons a _ ih => exact .cons (a.stepE x) ih
theorem isCell_at {h h' : Heap} {c : Addr} {v : Option Value} (x : h.IsCell c v) (e : ∀ o, h.get? c = some o → h'.get? c = some o) : h'.IsCell c v := by
  refine el_ea (x) fun o ho r => ?_; try clear x
  exact ⟨o, e o ho, r⟩
theorem nd_out {a : Addr} (nd : (as ++ fs).Nodup) (h : a ∈ fs) : a ∉ as := fun q => (List.nodup_append.mp nd).2.2 a q a h rfl
theorem FrameOk.stepE {env : Env} (F : FrameOk prog w env m fs as s.heap) (nd : (as ++ fs).Nodup) (x : Stp [] as.length as s as' s') : FrameOk prog w env m fs as' s'.heap := by
  have kp : ∀ b ∈ fs, ∀ o, s.heap.get? b = some o → s'.heap.get? b = some o := fun b hb o e => x.kept b o (nd_out nd hb) (fun q => nomatch q) e
  refine ⟨?_, fun y v hm hk => ?_, fun y c e => ?_, F.inj, F.loc, F.ne, F.all⟩
  · refine el_ea (F.ns) fun mm hn hv => ?_
    refine ⟨mm, hn.at' fun o e => kp _ F.loc o e, fun y v hm hk => ?_⟩
    refine el_ea (hv y v hm hk) fun u hu e => ?_
    exact ⟨u, hu.stepE x, e⟩
  · refine el_eeaa (F.cl y v hm hk) fun c u h1 h2 h3 => ?_
    exact (in_eeaa c u h1 (isCell_at h2 fun o e => kp _ (F.cells y c h1).1 o e) (h3.stepE x))
  · refine el_ae (F.cells y c e) fun h1 v h2 => ?_
    exact ⟨h1, v, isCell_at h2 fun o e => kp _ h1 o e⟩
theorem PostE.step {u : Value} (x : Stp [] as.length as s as' s') (p : PostE prog w h₀ fs as' s' K u s'') : PostE prog w h₀ fs as s K u s'' := by
  refine el_eeeaaa (p) fun v a2 σ2 h1 h2 h3 h4 => ?_; try clear p
  exact (PostE.mk (v := v) (as' := a2) (σ' := σ2) (x.transE h1) h2 h3 h4)
/-- the same state with another count of marks -/
theorem PostE.now {u : Value} {v : Vl} {t : Nat} (R : Rel prog w h₀ fs as σ s) (V : VR prog w fs as s.heap v u) (k : K v σ) : PostE prog w h₀ fs as s K u { s with toks := t } :=
  (PostE.mk (v := v) (as' := as) (σ' := σ) ((Stp.refl _ _ _ _).toks t) (R.toks t) V k)
theorem PostE.at {u : Value} {v : Vl} (R : Rel prog w h₀ fs as σ s) (V : VR prog w fs as s.heap v u) (k : K v σ) : PostE prog w h₀ fs as s K u s :=
  (PostE.mk (v := v) (as' := as) (σ' := σ) (Stp.refl _ _ _ _) R V k)

theorem WE.mono {K' : Vl → List MO → Prop} {e : Expr} (h : WE prog w h₀ n sc m e σ K) (hk : ∀ v σ', K v σ' → K' v σ') : WE prog w h₀ n sc m e σ K' :=
  fun A env fs as s hA hE R F => wpAny_mono (h A env fs as s hA hE R F) (fun _ _ zf83 => PostE.el zf83 fun v a q h1 h2 h3 h4 => (PostE.mk (v := v) (as' := a) (σ' := q) h1 h2 h3 (hk _ _ h4))) fun _ _ x => x

theorem VR.int {h : Heap} (i : Int) (t : Tok) : VR prog w fs as h (.d (.int i)) (.int i t) := Rd.int i t
theorem VR.str {h : Heap} (i : Str) (t : Tok) : VR prog w fs as h (.d (.str i)) (.str i t) := Rd.str i t
theorem VR.bool {h : Heap} (i : Bool) : VR prog w fs as h (.d (.bool i)) (.bool i) := Rd.bool i
theorem VR.glob {h : Heap} (v : Value) : VR prog w fs as h (.g v) v := Eq.refl v
theorem WE.int {i : Int} {x : Nat} {p : Pos} (h : K (.d (.int i)) σ) : WE prog w h₀ n sc m (.Constant (.int i) x p) σ K :=
  fun _ _ _ _ _ _ _ R _ => wpAny_Constant_int (.now R (.int _ _) h)
theorem WE.str {i : Str} {x : Nat} {p : Pos} (h : K (.d (.str i)) σ) : WE prog w h₀ n sc m (.Constant (.str i) x p) σ K :=
  fun _ _ _ _ _ _ _ R _ => wpAny_Constant_str (.now R (.str _ _) h)
theorem WE.loc {x : Str} {p : Pos} {v : Vl} (hv : m.lookup x = some v) (hk : sc.names.lookup x = some .local) (h : K v σ) (hd : (x == ("__debug__" : Str)) = false := by decide) :
    WE prog w h₀ n sc m (.Name x p) σ K := by
  intro A env fs as s hA hE R F
  refine el_ea (F.ns) fun mm hn hm => ?_
  have hk' : env.kindOf x = some .local := by unfold Env.kindOf; rw [hE.scope]; exact hk
  refine el_ea (hm x v hv hk') fun u hu e => ?_
  exact wpAny_Name (wpAny_loadName_local (by rw [hE.scope]; exact hE.kind) hk' hn e (.at R hu h)) hd
theorem WE.cell {x : Str} {p : Pos} {v : Vl} (hv : m.lookup x = some v) (hk : sc.names.lookup x = some .cell) (h : K v σ) (hd : (x == ("__debug__" : Str)) = false := by decide) :
    WE prog w h₀ n sc m (.Name x p) σ K := by
  intro A env fs as s hA hE R F
  have hk' : env.kindOf x = some .cell := by unfold Env.kindOf; rw [hE.scope]; exact hk
  refine el_eeaa (F.cl x v hv (.inl hk')) fun c u h1 h2 h3 => ?_
  exact wpAny_Name (wpAny_loadName_cell (by rw [hE.scope]; exact hE.kind) hk' h1 h2 (.at R h3 h)) hd
theorem WE.glob {gl : Str → Option Value} (G : Glb h₀ gl) {x : Str} {p : Pos} {v : Value} (hv : gl x = some v) (hk : sc.names.lookup x = some .globalImplicit) (h : K (.g v) σ) (hd : (x == ("__debug__" : Str)) = false := by decide) :
    WE prog w h₀ n sc m (.Name x p) σ K := by
  intro A env fs as s hA hE R F
  have hk' : env.kindOf x = some .globalImplicit := by unfold Env.kindOf; rw [hE.scope]; exact hk
  refine el_eeaa (G.glob x v hv) fun mg mb h1 h2 h3 => ?_
  have kp : ∀ b o, h₀.get? b = some o → s.heap.get? b = some o := fun b o e => (R.base b o e).1
  have g1 := h1.keeps kp
  have g2 := h2.keeps kp
  refine wpAny_Name ?_ hd
  have he : loadName env x = loadGlobal env x := by
    unfold loadName
    simp only [Env.blockKind, hE.scope, hE.kind, hk', ScopeKind.isAnnotationScope, Bool.false_and, Bool.false_eq_true, if_false]
  rw [he]
  unfold loadGlobal
  rw [hE.globals, hE.builtins]
  refine wpAny_bind (wpAny_nsGet g1 ?_)
  rcases h3 with h3 | ⟨h3, h4⟩
  · rw [h3]; exact wpAny_pure (.at R (.glob _) h)
  · rw [h3]
    refine wpAny_bind (wpAny_nsGet g2 ?_)
    rw [h4]; exact wpAny_pure (.at R (.glob _) h)
end
end Mine
end
section
namespace Mine

section
variable {prog : Program} {w : World} {h₀ : Heap} {fs as as' as'' ow : List Addr} {σ σ' σ'' : List MO} {s s' s'' : Shared} {k n : Nat} {sc : Scope} {m : List (Str × Vl)} {K : Vl → List MO → Prop}

theorem VRs.length {h : Heap} {vs : List Vl} {us : List Value} (x : VRs prog w fs as h vs us) : us.length = vs.length := by
  induction x with
  | nil => rfl
  | cons _ _ ih => simp [ih]

/-- the trees and words move when the objects off the list are kept -/
theorem MOk.move {fs' : List Addr} {h h' : Heap} {a : Addr} {x : MO} (hl : ∀ (i : Nat) a, i < x.bd → as[i]? = some a → as'[i]? = some a)
    (hm : ∀ b o, b ∉ as ++ fs → h.get? b = some o → h'.get? b = some o ∧ b ∉ as' ++ fs') (ha : ∀ o, h.get? a = some o → h'.get? a = some o)
    (y : MOk prog w fs as h a x) : MOk prog w fs' as' h' a x := by
  cases x with
  | list xs => refine el_ea (y) fun vs h1 h2 => ?_; try clear y; exact ⟨vs, h1.at ha, h2.move hm⟩
  | dict xs => refine el_ea (y) fun vs h1 h2 => ?_; try clear y; exact ⟨vs, dictOf_at h1 ha, h2.move hm⟩
  | obj P => refine el_ea (y) fun o h1 h2 => ?_; try clear y; exact ⟨o, ha o h1, P.mono hl hm h2⟩

/-- nothing that stood has changed -/
theorem Rel.kept (R : Rel prog w h₀ fs as σ s) (hk : ∀ b o, s.heap.get? b = some o → s'.heap.get? b = some o) (hg : AllBare s'.gens) : Rel prog w h₀ fs as σ s' :=
  ⟨fun b o e => ⟨hk b o (R.base b o e).1, (R.base b o e).2⟩, R.len, R.nd, fun a h => let ⟨o, e⟩ := R.there a h; ⟨o, hk a o e⟩,
   fun i a x ha hx => (R.mo i a x ha hx).move (fun _ _ _ e => e) (fun b o n e => ⟨hk b o e, n⟩) (fun o e => hk a o e), hg⟩
theorem Stp.keptAll (hk : ∀ b o, s.heap.get? b = some o → s'.heap.get? b = some o) (ho : s'.os = s.os) : Stp ow k as s as s' :=
  ⟨fun _ _ _ e => e, fun _ h q => absurd h q, fun b o _ _ e => hk b o e, fun b o e => ⟨o, hk b o e⟩, ho⟩
theorem PostE.kept {u : Value} {v : Vl} (R : Rel prog w h₀ fs as σ s) (hk : ∀ b o, s.heap.get? b = some o → s'.heap.get? b = some o) (hg : AllBare s'.gens) (ho : s'.os = s.os)
    (V : VR prog w fs as s'.heap v u) (k : K v σ) : PostE prog w h₀ fs as s K u s' := (PostE.mk (v := v) (as' := as) (σ' := σ) (Stp.keptAll hk ho) (R.kept hk hg) V k)

/-- a new object that is a tree -/
theorem next_out (R : Rel prog w h₀ fs as σ s) : s.heap.objs.size ∉ as ++ fs := fun q => by
  obtain ⟨o, e⟩ := R.there _ q
  exact absurd (Heap.lt_size e) (Nat.lt_irrefl _)
theorem PostE.push {v : Vl} {o : Obj} {t : Nat} (R : Rel prog w h₀ fs as σ s) (V : VR prog w fs as (s.heap.push o) v (.ref s.heap.objs.size)) (k : K v σ) :
    PostE prog w h₀ fs as s K (.ref s.heap.objs.size) { s with heap := s.heap.push o, toks := t } :=
  .kept R (fun _ _ e => Heap.get?_push_of_some o e) R.bare rfl V k
theorem VRs.data {h : Heap} : ∀ {xs : List D} {us : List Value}, VRs prog w fs as h (xs.map .d) us → RdAll prog w (as ++ fs) h us xs
  | [], _, .nil => .nil
  | _ :: _, _, .cons a r => .cons a r.data
theorem RdAll.pushed {us : List Value} {xs : List D} {ex : List Addr} {h : Heap} (o : Obj) (x : RdAll prog w ex h us xs) : RdAll prog w ex (h.push o) us xs := x.move fun _ _ n e => ⟨Heap.get?_push_of_some o e, n⟩
theorem RdAll.length {us : List Value} {xs : List D} {ex : List Addr} {h : Heap} : RdAll prog w ex h us xs → us.length = xs.length
  | .nil => rfl
  | .cons _ r => by simp [r.length]

theorem WEs.nil {Ks : List Vl → List MO → Prop} (h : Ks [] σ) : WEs prog w h₀ n sc m [] σ Ks :=
  fun _ _ _ _ _ _ _ _ R _ => Calls.spliced_nil (PostEs.mk (vs := []) (σ' := σ) (Stp.refl ..) R .nil h)
theorem WEs.cons {e : Expr} {es : List Expr} {Ks : List Vl → List MO → Prop} (h : WE prog w h₀ n sc m e σ fun v σ₁ => WEs prog w h₀ n sc m es σ₁ fun vs σ₂ => Ks (v :: vs) σ₂)
    (he : ∀ env, starEach (e :: es) env = (false, eval e env) :: starEach es env := by intro _; rfl) : WEs prog w h₀ n sc m (e :: es) σ Ks := by
  intro A env fs as s pos hA hE R F
  rw [he]
  refine Calls.spliced_cons (wpAny_mono (h A env fs as s hA hE R F) (fun u s₁ zf53 => PostE.el zf53 fun v a₁ σ₁ st R₁ V k => ?_) fun _ _ x => x)
  refine wpAny_mono (k A env fs a₁ s₁ pos hA hE R₁ (F.stepE R.nd st)) (fun us s₂ zf54 => PostEs.el zf54 fun vs a₂ σ₂ st₂ R₂ V₂ k₂ => ?_) fun _ _ x => x
  exact (PostEs.mk (vs := v :: vs) (as' := a₂) (σ' := σ₂) (st.transE st₂) R₂ (.cons (V.stepE st₂) V₂) k₂)

noncomputable def unD : List Vl → Option (List D)
  | [] => some []
  | .d x :: r => match unD r with
    | some ys => some (x :: ys)
    | none => none
  | _ :: _ => none
theorem unD_eq : ∀ {vs : List Vl} {xs : List D}, unD vs = some xs → vs = xs.map .d
  | [], _, h => by cases h; rfl
  | .d x :: r, xs, h => by
    unfold unD at h
    cases q : unD r with
    | none => rw [q] at h; cases h
    | some ys => rw [q] at h; cases h; rw [unD_eq q]; rfl
  | .m _ :: _, _, h => by cases h
  | .g _ :: _, _, h => by cases h
theorem VRs.data' {h : Heap} {vs : List Vl} {xs : List D} {us : List Value} (V : VRs prog w fs as h vs us) (e : unD vs = some xs) : RdAll prog w (as ++ fs) h us xs := by
  rw [unD_eq e] at V; exact V.data
theorem small {us : List Value} {xs : List D} {ex : List Addr} {h : Heap} (V : RdAll prog w ex h us xs) (hl : xs.length ≤ 1000) : us.length ≤ sizeLine := by
  rw [V.length]
  exact Nat.le_trans hl (by decide)

theorem WE.tup {es : List Expr} {x : Nat} {p : Pos} (h : WEs prog w h₀ n sc m es σ fun vs σ₁ => ∃ xs : List D, unD vs = some xs ∧ xs.length ≤ 1000 ∧ K (.d (.tup xs)) σ₁) :
    WE prog w h₀ n sc m (.Tuple es x p) σ K := by
  intro A env fs as s hA hE R F
  refine wpAny_Tuple_spliced (wpAny_mono (h A env fs as s p hA hE R F) (fun us s₁ zf81 => PostEs.el zf81 fun vs a₁ σ₁ st R₁ V zk => el_eaa zk fun xs e hl k => ⟨small (V.data' e) hl, ?_⟩) fun _ _ x => x)
  have V' := (V.data' e).pushed { cls := .type "tuple", data := .seq us.toArray }
  exact (PostE.push (t := s₁.toks) R₁ (v := .d (.tup xs)) (.tup (next_out R₁) (in_eaae _ (Heap.get?_push_size _ rfl) rfl 0 rfl) V') k).step st
theorem WE.lst {es : List Expr} {p : Pos} (h : WEs prog w h₀ n sc m es σ fun vs σ₁ => ∃ xs : List D, unD vs = some xs ∧ xs.length ≤ 1000 ∧ K (.d (.lst xs)) σ₁) :
    WE prog w h₀ n sc m (.List es p) σ K := by
  intro A env fs as s hA hE R F
  refine wpAny_List_spliced (wpAny_mono (h A env fs as s p hA hE R F) (fun us s₁ zf87 => PostEs.el zf87 fun vs a₁ σ₁ st R₁ V zk => el_eaa zk fun xs e hl k => ⟨small (V.data' e) hl, ?_⟩) fun _ _ x => x)
  have V' := (V.data' e).pushed { cls := .type "list", data := .seq us.toArray }
  exact (PostE.push (t := s₁.toks) R₁ (v := .d (.lst xs)) (.lst (next_out R₁) (in_eaae _ (Heap.get?_push_size _ rfl) rfl 0 rfl) V') k).step st

/-- two values -/
noncomputable def bin2 (f : Value → Value → Sem Value) : List Value → Sem Value
  | [a, b] => f a b
  | _ => .unsupported ""
noncomputable def un1 (f : Value → Sem Value) : List Value → Sem Value
  | [a] => f a
  | _ => .unsupported ""
noncomputable def tri3 (f : Value → Value → Value → Sem Value) : List Value → Sem Value
  | [a, b, c] => f a b c
  | _ => .unsupported ""
theorem WE.bin {l r : Expr} {op : Operator} {p : Pos} (h : WE prog w h₀ n sc m l σ fun a σ₁ => WE prog w h₀ n sc m r σ₁ fun b σ₂ => WO prog w h₀ n [a, b] (bin2 (binaryOp op)) σ₂ K) :
    WE prog w h₀ n sc m (.BinOp l op r p) σ K := by
  intro A env fs as s hA hE R F
  refine wpAny_BinOp (wpAny_mono (h A env fs as s hA hE R F) (fun u s₁ zf104 => PostE.el zf104 fun v a₁ σ₁ st R₁ V k => ?_) fun _ _ x => x)
  refine wpAny_mono (k A env fs a₁ s₁ hA hE R₁ (F.stepE R.nd st)) (fun u₂ s₂ zf105 => PostE.el zf105 fun v₂ a₂ σ₂ st₂ R₂ V₂ k₂ => ?_) fun _ _ x => x
  exact wpAny_mono (k₂ A fs a₂ s₂ [u, u₂] hA R₂ (.cons (V.stepE st₂) (.cons V₂ .nil))) (fun _ _ p => (p.step st₂).step st) fun _ _ x => x
theorem WE.cmp {l r : Expr} {op : CmpOp} {p : Pos} (h : WE prog w h₀ n sc m l σ fun a σ₁ => WE prog w h₀ n sc m r σ₁ fun b σ₂ => WO prog w h₀ n [a, b] (bin2 (compareOp op)) σ₂ K)
    (hm : behindInMarks op r = false := by with_unfolding_all rfl) : WE prog w h₀ n sc m (.Compare l [op] [r] p) σ K := by
  intro A env fs as s hA hE R F
  refine wpAny_Compare1 (wpAny_mono (h A env fs as s hA hE R F) (fun u s₁ zf110 => PostE.el zf110 fun v a₁ σ₁ st R₁ V k => ?_) fun _ _ x => x) hm
  refine wpAny_mono (k A env fs a₁ s₁ hA hE R₁ (F.stepE R.nd st)) (fun u₂ s₂ zf111 => PostE.el zf111 fun v₂ a₂ σ₂ st₂ R₂ V₂ k₂ => ?_) fun _ _ x => x
  exact wpAny_mono (k₂ A fs a₂ s₂ [u, u₂] hA R₂ (.cons (V.stepE st₂) (.cons V₂ .nil))) (fun _ _ p => (p.step st₂).step st) fun _ _ x => x

section
variable {a b : Int}
theorem VR.int_inv {h : Heap} {i : Int} {u : Value} (V : VR prog w fs as h (.d (.int i)) u) : ∃ t, u = .int i t := by cases V with | int => exact ⟨_, rfl⟩
theorem VR.str_inv {h : Heap} {i : Str} {u : Value} (V : VR prog w fs as h (.d (.str i)) u) : ∃ t, u = .str i t := by cases V with | str => exact ⟨_, rfl⟩
theorem VR.bool_inv {h : Heap} {i : Bool} {u : Value} (V : VR prog w fs as h (.d (.bool i)) u) : u = .bool i := by cases V with | bool => rfl
theorem two_ints {t : Value → Value → Sem Value} (h : ∀ A fs as s t₁ t₂, Room n A → Rel prog w h₀ fs as σ s → wpAny (model prog w) A (t (.int a t₁) (.int b t₂)) (PostE prog w h₀ fs as s K) NoE s) :
    WO prog w h₀ n [.d (.int a), .d (.int b)] (bin2 t) σ K := by
  intro A fs as s us hA R V
  apply VRs.two V; intro _ _ V₁ V₂
  · skip
    obtain ⟨t₁, rfl⟩ := V₁.int_inv
    obtain ⟨t₂, rfl⟩ := V₂.int_inv
    exact h A fs as s t₁ t₂ hA R
theorem WO.addI (h : K (.d (.int (a + b))) σ) : WO prog w h₀ n [.d (.int a), .d (.int b)] (bin2 (binaryOp .Add)) σ K :=
  two_ints fun _ _ _ _ _ _ _ R => add_int (.now R (.int _ _) h)
theorem WO.subI (h : K (.d (.int (a - b))) σ) : WO prog w h₀ n [.d (.int a), .d (.int b)] (bin2 (binaryOp .Sub)) σ K :=
  two_ints fun _ _ _ _ _ _ _ R => sub_int (.now R (.int _ _) h)
theorem WO.mulI (hm : IntMulOk a b) (h : K (.d (.int (a * b))) σ) : WO prog w h₀ n [.d (.int a), .d (.int b)] (bin2 (binaryOp .Mult)) σ K :=
  two_ints fun _ _ _ _ _ _ _ R => mul_int (.now R (.int _ _) h) hm
theorem WO.modI (hb : b ≠ 0) (h : K (.d (.int (a.fmod b))) σ) : WO prog w h₀ n [.d (.int a), .d (.int b)] (bin2 (binaryOp .Mod)) σ K :=
  two_ints fun _ _ _ _ _ _ _ R => mod_int' hb (.now R (.int _ _) h)
theorem WO.divI (hb : b ≠ 0) (hp : Builtin.divisionGoesByPylong a b = false) (h : K (.d (.int (a.fdiv b))) σ) : WO prog w h₀ n [.d (.int a), .d (.int b)] (bin2 (binaryOp .FloorDiv)) σ K :=
  two_ints fun _ _ _ _ _ _ _ R => floordiv_int hb (.now R (.int _ _) h) (.inl hp)
theorem WO.eqI (h : K (.d (.bool (a == b))) σ) : WO prog w h₀ n [.d (.int a), .d (.int b)] (bin2 (compareOp .Eq)) σ K :=
  two_ints fun _ _ _ _ _ _ _ R => eq_int (.at R (.bool _) h)
theorem WO.neI (h : K (.d (.bool (a != b))) σ) : WO prog w h₀ n [.d (.int a), .d (.int b)] (bin2 (compareOp .NotEq)) σ K :=
  two_ints fun _ _ _ _ _ _ _ R => ne_int (.at R (.bool _) h)
theorem WO.gtI (h : K (.d (.bool (decide (b < a)))) σ) : WO prog w h₀ n [.d (.int a), .d (.int b)] (bin2 (compareOp .Gt)) σ K :=
  two_ints fun _ _ _ _ _ _ _ R => gt_int (.at R (.bool _) h)
theorem WO.ltI (h : K (.d (.bool (decide (a < b)))) σ) : WO prog w h₀ n [.d (.int a), .d (.int b)] (bin2 (compareOp .Lt)) σ K :=
  two_ints fun _ _ _ _ _ _ _ R => lt_int (.at R (.bool _) h)
end
section
variable {a b : Str}
theorem WO.addS (hz : a.length + b.length ≤ sizeLine) (h : K (.d (.str (a ++ b))) σ) : WO prog w h₀ n [.d (.str a), .d (.str b)] (bin2 (binaryOp .Add)) σ K := by
  intro A fs as s us hA R V
  apply VRs.two V; intro _ _ V₁ V₂
  · skip
    obtain ⟨t₁, rfl⟩ := V₁.str_inv
    obtain ⟨t₂, rfl⟩ := V₂.str_inv
    exact add_str (fun t' tk => .now R (.str _ _) h) hz
end
end
end Mine
end
section
namespace Mine

inductive Fl where
  | next | brk | cont
  | ret (v : Vl)

section
variable (prog : Program) (w : World) (h₀ : Heap)
noncomputable def FlR (fs as : List Addr) (h : Heap) : Fl → Flow → Prop
  | .next, f => f = .next
  | .brk, f => f = .brk
  | .cont, f => f = .cont
  | .ret v, f => ∃ u, f = .ret u ∧ VR prog w fs as h v u

noncomputable def PostS (env : Env) (k : Nat) (fs as : List Addr) (s : Shared) (K : Fl → List (Str × Vl) → List MO → Prop) (f : Flow) (s' : Shared) : Prop :=
  ∃ fl m' as' σ', FlR prog w fs as' s'.heap fl f ∧ Stp (own env) k as s as' s' ∧ Rel prog w h₀ fs as' σ' s' ∧ FrameOk prog w env m' fs as' s'.heap ∧ k ≤ as'.length ∧ K fl m' σ'
section
variable {prog : Program} {w : World} {h₀ : Heap} {env : Env} {k₀ : Nat} {fs as : List Addr} {s s' : Shared} {K : Fl → List (Str × Vl) → List MO → Prop} {f : Flow} {p : Prop}
theorem PostS.el (h : PostS prog w h₀ env k₀ fs as s K f s') (k : ∀ fl m' as' σ', FlR prog w fs as' s'.heap fl f → Stp (own env) k₀ as s as' s' → Rel prog w h₀ fs as' σ' s' → FrameOk prog w env m' fs as' s'.heap → k₀ ≤ as'.length → K fl m' σ' → p) : p := h.elim fun v h => h.elim fun m h => h.elim fun a h => h.elim fun q h => k v m a q h.1 h.2.1 h.2.2.1 h.2.2.2.1 h.2.2.2.2.1 h.2.2.2.2.2
theorem PostS.mk {fl : Fl} {m' : List (Str × Vl)} {as' : List Addr} {σ' : List MO} (h1 : FlR prog w fs as' s'.heap fl f) (h2 : Stp (own env) k₀ as s as' s') (h3 : Rel prog w h₀ fs as' σ' s') (h4 : FrameOk prog w env m' fs as' s'.heap) (h5 : k₀ ≤ as'.length) (h6 : K fl m' σ') : PostS prog w h₀ env k₀ fs as s K f s' := ⟨fl, m', as', σ', h1, h2, h3, h4, h5, h6⟩
end
/-- statements in a frame -/
noncomputable def WS (n : Nat) (sc : Scope) (k : Nat) (m : List (Str × Vl)) (ss : List Stmt) (σ : List MO) (K : Fl → List (Str × Vl) → List MO → Prop) : Prop :=
  ∀ A env fs as s, Room n A → EnvIs sc env → Rel prog w h₀ fs as σ s → FrameOk prog w env m fs as s.heap → k ≤ as.length →
    wpAny (model prog w) A (execs ss env) (PostS prog w h₀ env k fs as s K) NoE s
noncomputable def W1 (n : Nat) (sc : Scope) (k : Nat) (m : List (Str × Vl)) (st : Stmt) (σ : List MO) (K : Fl → List (Str × Vl) → List MO → Prop) : Prop :=
  ∀ A env fs as s, Room n A → EnvIs sc env → Rel prog w h₀ fs as σ s → FrameOk prog w env m fs as s.heap → k ≤ as.length →
    wpAny (model prog w) A (exec st env) (PostS prog w h₀ env k fs as s K) NoE s
/-- a test in a frame -/
noncomputable def WB (n : Nat) (sc : Scope) (m : List (Str × Vl)) (e : Expr) (σ : List MO) (K : Bool → List MO → Prop) : Prop :=
  ∀ A env fs as s, Room n A → EnvIs sc env → Rel prog w h₀ fs as σ s → FrameOk prog w env m fs as s.heap →
    wpAny (model prog w) A (isTrue e env (eval e env)) (fun b s' => ∃ as' σ', Stp [] as.length as s as' s' ∧ Rel prog w h₀ fs as' σ' s' ∧ K b σ') NoE s
/-- a name is bound -/
noncomputable def WN (sc : Scope) (k : Nat) (m : List (Str × Vl)) (x : Str) (v : Vl) (σ : List MO) (K : Fl → List (Str × Vl) → List MO → Prop) : Prop :=
  ∀ A env fs as s u, EnvIs sc env → Rel prog w h₀ fs as σ s → FrameOk prog w env m fs as s.heap → k ≤ as.length → VR prog w fs as s.heap v u →
    wpAny (model prog w) A (storeName env x u) (fun _ s' => PostS prog w h₀ env k fs as s K .next s') NoE s
end

section
variable {prog : Program} {w : World} {h₀ : Heap} {fs as as' as'' ow : List Addr} {σ σ' σ'' : List MO} {s s' s'' : Shared} {k n : Nat} {sc : Scope} {m : List (Str × Vl)} {K : Fl → List (Str × Vl) → List MO → Prop}
  {env : Env}

theorem own_sub (F : FrameOk prog w env m fs as s.heap) : ∀ b ∈ own env, b ∈ fs := by
  intro b hb
  rcases List.mem_cons.mp hb with rfl | hb
  · exact F.loc
  · refine el_ea (List.mem_map.mp hb) fun p hp zq2 => ?_; subst zq2
    exact F.all p hp

/-- one object of a frame has changed -/
theorem Rel.framed {a : Addr} {h' : Heap} {t : Nat} (R : Rel prog w h₀ fs as σ s) (ha : a ∈ fs) (hs : Heap.SameBut a s.heap h') (ht : ∃ o, h'.get? a = some o) : Rel prog w h₀ fs as σ { s with heap := h', toks := t } := by
  have ne : ∀ b, b ∉ as ++ fs → b ≠ a := fun b hb e => hb (e ▸ List.mem_append_right _ ha)
  have nea : ∀ b, b ∈ as → b ≠ a := fun b hb e => nd_out R.nd ha (e ▸ hb)
  refine ⟨fun b o e => ⟨(hs.2 b (ne b (R.base b o e).2)).trans (R.base b o e).1, (R.base b o e).2⟩, R.len, R.nd, fun b hb => ?_, fun i b x hb hx => ?_, R.bare⟩
  · by_cases e : b = a
    · subst e; exact ht
    · obtain ⟨o, ho⟩ := R.there b hb
      exact ⟨o, (hs.2 b e).trans ho⟩
  · have hb' : b ∈ as := List.mem_of_getElem? hb
    exact (R.mo i b x hb hx).move (fun _ _ _ e => e) (fun c o hc e => ⟨(hs.2 c (ne c hc)).trans e, hc⟩) fun o e => (hs.2 b (nea b hb')).trans e
theorem VR.framed {a : Addr} {h h' : Heap} {v : Vl} {u : Value} (V : VR prog w fs as h v u) (ha : a ∈ fs) (hs : Heap.SameBut a h h') : VR prog w fs as h' v u := by
  cases v with
  | d t => exact Rd.move (fun b o hb e => ⟨(hs.2 b fun q => hb (q ▸ List.mem_append_right _ ha)).trans e, hb⟩) V
  | m i => exact V
  | g v => exact V
theorem Stp.framed {a : Addr} {h' : Heap} {t : Nat} (ha : a ∈ ow) (hs : Heap.SameBut a s.heap h') (ht : ∃ o, h'.get? a = some o) : Stp ow k as s as { s with heap := h', toks := t } :=
  ⟨fun _ _ _ e => e, fun _ h q => absurd h q, fun b o _ h2 e => (hs.2 b fun q => h2 (q ▸ ha)).trans e, fun b o e => by
    by_cases q : b = a
    · subst q; exact ht
    · exact ⟨o, (hs.2 b q).trans e⟩, rfl⟩

theorem lookup_cons_eq {x y : Str} {v : Vl} {r : List (Str × Vl)} : ((x, v) :: r).lookup y = if y = x then some v else r.lookup y := by
  rw [List.lookup_cons]
  by_cases h : y = x
  · subst h; simp
  · have : (y == x) = false := by simpa using h
    rw [this, if_neg h]

theorem WN.loc {x : Str} {v : Vl} (hk : sc.names.lookup x = some .local) (h : K .next ((x, v) :: m) σ) : WN prog w h₀ sc k m x v σ K := by
  intro A env fs as s u hE R F hl V
  have hk' : env.kindOf x = some .local := by unfold Env.kindOf; rw [hE.scope]; exact hk
  refine el_ea (F.ns) fun mm hn hv => ?_
  refine wpAny_storeName_local hk' hn (fun h' hn' hs => ?_) (by rw [hE.scope, hE.kind]; rfl)
  have ht : ∃ o, h'.get? env.locals = some o := by refine el_eeea (hn') fun o _ _ e _ => ?_; try clear hn'; exact ⟨o, e⟩
  refine (in_eeeeaaaaa .next _ as σ rfl (Stp.framed (List.mem_cons_self ..) hs ht) (R.framed F.loc hs ht) ⟨⟨_, hn', fun y v' hy hky => ?_⟩, fun y v' hy hky => ?_, fun y c e => ?_, F.inj, F.loc, F.ne, F.all⟩ hl h)
  · rw [lookup_cons_eq] at hy
    by_cases hxy : y = x
    · rw [if_pos hxy] at hy; cases hy
      exact ⟨u, V.framed F.loc hs, by simp [hxy]⟩
    · rw [if_neg hxy] at hy
      refine el_ea (hv y v' hy hky) fun u' h1 h2 => ?_
      exact ⟨u', h1.framed F.loc hs, by simp [hxy, h2]⟩
  · rw [lookup_cons_eq] at hy
    by_cases hxy : y = x
    · subst hxy; rcases hky with q | q <;> (rw [hk'] at q; cases q)
    · rw [if_neg hxy] at hy
      refine el_eeaa (F.cl y v' hy hky) fun c u' h1 h2 h3 => ?_
      exact (in_eeaa c u' h1 (h2.sameBut hs (F.ne y c h1)) (h3.framed F.loc hs))
  · refine el_ae (F.cells y c e) fun h1 v' h2 => ?_
    exact ⟨h1, v', h2.sameBut hs (F.ne y c e)⟩
theorem WN.cell {x : Str} {v : Vl} (hk : sc.names.lookup x = some .cell) (h : K .next ((x, v) :: m) σ) : WN prog w h₀ sc k m x v σ K := by
  intro A env fs as s u hE R F hl V
  have hk' : env.kindOf x = some .cell := by unfold Env.kindOf; rw [hE.scope]; exact hk
  obtain ⟨c, hcx⟩ := hE.cell x hk
  refine el_ae (F.cells x c hcx) fun hcf v₀ hc₀ => ?_
  refine wpAny_storeName_cell (by rw [hE.scope]; exact hE.kind) hk' hcx hc₀ fun h' hv' hs => ?_
  have ht : ∃ o, h'.get? c = some o := by refine el_ea (hv') fun o e _ => ?_; try clear hv'; exact ⟨o, e⟩
  have hco : c ∈ own env := List.mem_cons_of_mem _ (List.mem_map.mpr ⟨(x, c), mem_of_lookup hcx, rfl⟩)
  have e1 : ({ s with heap := h' } : Shared) = { s with heap := h', toks := s.toks } := rfl
  rw [e1]
  refine (in_eeeeaaaaa .next _ as σ rfl (Stp.framed hco hs ht) (R.framed hcf hs ht) ⟨?_, fun y v' hy hky => ?_, fun y c' e => ?_, F.inj, F.loc, F.ne, F.all⟩ hl h)
  · refine el_ea (F.ns) fun mm hn hv => ?_
    refine ⟨mm, hn.sameBut hs (F.ne x c hcx).symm, fun y v' hy hky => ?_⟩
    rw [lookup_cons_eq] at hy
    by_cases hxy : y = x
    · subst hxy; rw [hk'] at hky; cases hky
    · rw [if_neg hxy] at hy
      refine el_ea (hv y v' hy hky) fun u' h1 h2 => ?_
      exact ⟨u', h1.framed hcf hs, h2⟩
  · rw [lookup_cons_eq] at hy
    by_cases hxy : y = x
    · rw [if_pos hxy] at hy; cases hy
      subst hxy
      exact (in_eeaa c u hcx hv' (V.framed hcf hs))
    · rw [if_neg hxy] at hy
      refine el_eeaa (F.cl y v' hy hky) fun c' u' h1 h2 h3 => ?_
      exact (in_eeaa c' u' h1 (h2.sameBut hs (fun q => hxy (F.inj y x c (q ▸ h1) hcx))) (h3.framed hcf hs))
  · refine el_ae (F.cells y c' e) fun h1 v' h2 => ?_
    by_cases hcc : c' = c
    · subst hcc; exact ⟨h1, _, hv'⟩
    · exact ⟨h1, v', h2.sameBut hs hcc⟩

theorem FrameOk.weak {m' : List (Str × Vl)} (F : FrameOk prog w env m fs as s.heap) (h : ∀ x v, m'.lookup x = some v → m.lookup x = some v) : FrameOk prog w env m' fs as s.heap := by
  refine el_ea (F.ns) fun mm hn hv => ?_
  exact ⟨⟨mm, hn, fun x v e => hv x v (h x v e)⟩, fun x v e => F.cl x v (h x v e), F.cells, F.inj, F.loc, F.ne, F.all⟩
theorem WS.norm {m' : List (Str × Vl)} {ss : List Stmt} (h : ∀ x v, m'.lookup x = some v → m.lookup x = some v) (hw : WS prog w h₀ n sc k m' ss σ K) : WS prog w h₀ n sc k m ss σ K :=
  fun A env fs as s hA hE R F hl => hw A env fs as s hA hE R (F.weak h) hl

/-- a step that leaves the frame alone, then the rest -/
theorem PostS.after {f : Flow} (hk : k ≤ as.length) (x : Stp [] as.length as s as' s') (p : PostS prog w h₀ env k fs as' s' K f s'') : PostS prog w h₀ env k fs as s K f s'' := by
  refine el_eeeeaaaaa (p) fun fl m' a2 σ2 h1 h2 h3 h4 h5 h6 => ?_; try clear p
  exact (PostS.mk (fl := fl) (m' := m') (as' := a2) (σ' := σ2) h1 ((x.weaken (fun _ h => nomatch h) hk).trans h2) h3 h4 h5 h6)
theorem PostS.then {f : Flow} (x : Stp (own env) k as s as' s') (p : PostS prog w h₀ env k fs as' s' K f s'') : PostS prog w h₀ env k fs as s K f s'' := by
  refine el_eeeeaaaaa (p) fun fl m' a2 σ2 h1 h2 h3 h4 h5 h6 => ?_; try clear p
  exact (PostS.mk (fl := fl) (m' := m') (as' := a2) (σ' := σ2) h1 (x.trans h2) h3 h4 h5 h6)

theorem WS.nil (h : K .next m σ) : WS prog w h₀ n sc k m [] σ K :=
  fun _ _ _ _ _ _ _ R F hl => wpAny_execs_nil (PostS.mk (fl := .next) (m' := m) (σ' := σ) rfl (Stp.refl ..) R F hl h)
theorem WS.cons {st : Stmt} {ss : List Stmt} (h : W1 prog w h₀ n sc k m st σ fun fl m₁ σ₁ => match fl with | .next => WS prog w h₀ n sc k m₁ ss σ₁ K | fl => K fl m₁ σ₁) : WS prog w h₀ n sc k m (st :: ss) σ K := by
  intro A env fs as s hA hE R F hl
  refine wpAny_execs_cons (wpAny_mono (h A env fs as s hA hE R F hl) (fun f s₁ zf149 => PostS.el zf149 fun fl m₁ a₁ σ₁ hf st R₁ F₁ hl₁ k₁ => ?_) fun _ _ x => x)
  cases fl with
  | next =>
    cases hf
    exact wpAny_mono (k₁ A env fs a₁ s₁ hA hE R₁ F₁ hl₁) (fun _ _ p => p.then st) fun _ _ x => x
  | brk => cases hf; exact (in_eeeeaaaaa .brk m₁ a₁ σ₁ rfl st R₁ F₁ hl₁ k₁)
  | cont => cases hf; exact (in_eeeeaaaaa .cont m₁ a₁ σ₁ rfl st R₁ F₁ hl₁ k₁)
  | ret v => refine el_ea (hf) fun u zq1 V => ?_; subst zq1; try clear hf; exact (in_eeeeaaaaa (.ret v) m₁ a₁ σ₁ ⟨u, rfl, V⟩ st R₁ F₁ hl₁ k₁)
theorem W1.assign {x : Str} {p p' : Pos} {e : Expr} (h : WE prog w h₀ n sc m e σ fun v σ₁ => WN prog w h₀ sc k m x v σ₁ K) (hs : ∀ env, swapsWith e (some (.Name x p')) p.line env = pure false := by intro _; rfl) :
    W1 prog w h₀ n sc k m (.Assign [.Name x p'] e p) σ K := by
  intro A env fs as s hA hE R F hl
  refine wpAny_Assign_Name (wpAny_mono (h A env fs as s hA hE R F) (fun u s₁ zf160 => PostE.el zf160 fun v a₁ σ₁ st R₁ V k₁ => ?_) fun _ _ x => x) (hs env)
  exact wpAny_mono (k₁ A env fs a₁ s₁ u hE R₁ (F.stepE R.nd st) (Nat.le_trans hl st.grows) V) (fun _ _ p => p.after hl st) fun _ _ x => x
theorem W1.ret {e : Expr} {p : Pos} (h : WE prog w h₀ n sc m e σ fun v σ₁ => K (.ret v) m σ₁) : W1 prog w h₀ n sc k m (.Return (some e) p) σ K := by
  intro A env fs as s hA hE R F hl
  refine wpAny_Return_some (wpAny_mono (h A env fs as s hA hE R F) (fun u s₁ zf164 => PostE.el zf164 fun v a₁ σ₁ st R₁ V k₁ => ?_) fun _ _ x => x)
  exact (PostS.mk (fl := .ret v) (m' := m) (as' := a₁) (σ' := σ₁) ⟨u, rfl, V⟩ (st.weaken (fun _ h => nomatch h) hl) R₁ (F.stepE R.nd st) (Nat.le_trans hl st.grows) k₁)
theorem W1.ite {e : Expr} {b c : List Stmt} {p : Pos} (h : WB prog w h₀ n sc m e σ fun t σ₁ => if t = true then WS prog w h₀ n sc k m b σ₁ K else WS prog w h₀ n sc k m c σ₁ K) : W1 prog w h₀ n sc k m (.If e b c p) σ K := by
  intro A env fs as s hA hE R F hl
  refine wpAny_If (wpAny_mono (h A env fs as s hA hE R F) (fun t s₁ zf168 => el_B zf168 fun a₁ σ₁ st R₁ k₁ => ?_) fun _ _ x => x)
  cases t with
  | true => exact wpAny_mono (k₁ A env fs a₁ s₁ hA hE R₁ (F.stepE R.nd st) (Nat.le_trans hl st.grows)) (fun _ _ p => p.after hl st) fun _ _ x => x
  | false => exact wpAny_mono (k₁ A env fs a₁ s₁ hA hE R₁ (F.stepE R.nd st) (Nat.le_trans hl st.grows)) (fun _ _ p => p.after hl st) fun _ _ x => x
theorem WE.ite {e b c : Expr} {p : Pos} {Kv : Vl → List MO → Prop} (h : WB prog w h₀ n sc m e σ fun t σ₁ => if t = true then WE prog w h₀ n sc m b σ₁ Kv else WE prog w h₀ n sc m c σ₁ Kv) : WE prog w h₀ n sc m (.IfExp e b c p) σ Kv := by
  intro A env fs as s hA hE R F
  refine wpAny_IfExp (wpAny_mono (h A env fs as s hA hE R F) (fun t s₁ zf174 => el_B zf174 fun a₁ σ₁ st R₁ k₁ => ?_) fun _ _ x => x)
  cases t with
  | true => exact wpAny_mono (k₁ A env fs a₁ s₁ hA hE R₁ (F.stepE R.nd st)) (fun _ _ p => p.step st) fun _ _ x => x
  | false => exact wpAny_mono (k₁ A env fs a₁ s₁ hA hE R₁ (F.stepE R.nd st)) (fun _ _ p => p.step st) fun _ _ x => x
end
end Mine
end
section
namespace Mine

section
variable (prog : Program) (w : World) (h₀ : Heap)
/-- the truth of a value -/
noncomputable def WT (n : Nat) (v : Vl) (σ : List MO) (K : Bool → List MO → Prop) : Prop :=
  ∀ A fs as s u, Room n A → Rel prog w h₀ fs as σ s → VR prog w fs as s.heap v u →
    wpAny (model prog w) A (truthy u) (fun b s' => ∃ as' σ', Stp [] as.length as s as' s' ∧ Rel prog w h₀ fs as' σ' s' ∧ K b σ') NoE s
end

section
variable {prog : Program} {w : World} {h₀ : Heap} {fs as as' as'' ow : List Addr} {σ σ' σ'' : List MO} {s s' s'' : Shared} {k n : Nat} {sc : Scope} {m : List (Str × Vl)} {Kb : Bool → List MO → Prop} {Kv : Vl → List MO → Prop}
  {env : Env}

theorem WB.cmp {l r : Expr} {op : CmpOp} {p : Pos} (h : WE prog w h₀ n sc m l σ fun a σ₁ => WE prog w h₀ n sc m r σ₁ fun b σ₂ => WO prog w h₀ n [a, b] (bin2 (compareOp op)) σ₂ fun v σ₃ => ∃ t, v = .d (.bool t) ∧ Kb t σ₃)
    (hm : behindInMarks op r = false := by with_unfolding_all rfl) : WB prog w h₀ n sc m (.Compare l [op] [r] p) σ Kb := by
  intro A env fs as s hA hE R F
  refine wpAny_isTrue_Compare1 (wpAny_mono (h A env fs as s hA hE R F) (fun u s₁ zf21 => PostE.el zf21 fun v a₁ σ₁ st R₁ V k => ?_) fun _ _ x => x) hm
  refine wpAny_mono (k A env fs a₁ s₁ hA hE R₁ (F.stepE R.nd st)) (fun u₂ s₂ zf22 => PostE.el zf22 fun v₂ a₂ σ₂ st₂ R₂ V₂ k₂ => ?_) fun _ _ x => x
  refine wpAny_mono (k₂ A fs a₂ s₂ [u, u₂] hA R₂ (.cons (V.stepE st₂) (.cons V₂ .nil))) (fun u₃ s₃ zf23 => PostE.elq1 zf23 fun t a₃ σ₃ st₃ R₃ V₃ k₃ => ?_) fun _ _ x => x

  rw [V₃.bool_inv]
  exact wpAny_truthy_bool (in_eeaa a₃ σ₃ ((st.transE st₂).transE st₃) R₃ k₃)
theorem WB.val {e : Expr} (h : WE prog w h₀ n sc m e σ fun v σ₁ => WT prog w h₀ n v σ₁ Kb) (he : ∀ env whole, isTrue e env whole = (do let v ← whole; standAt e.pos; holding [v] (truthy v)) := by intro _ _; rfl) : WB prog w h₀ n sc m e σ Kb := by
  intro A env fs as s hA hE R F
  refine wpAny_isTrue_value (wpAny_mono (h A env fs as s hA hE R F) (fun u s₁ zf29 => PostE.el zf29 fun v a₁ σ₁ st R₁ V k => ?_) fun _ _ x => x) (he env _)
  exact wpAny_mono (k A fs a₁ s₁ u hA R₁ V) (fun b s₂ zf30 => el_B zf30 fun a₂ σ₂ st₂ R₂ k₂ => (in_eeaa a₂ σ₂ (st.transE st₂) R₂ k₂)) fun _ _ x => x
theorem WB.not {e : Expr} {p : Pos} (h : WB prog w h₀ n sc m e σ fun b σ₁ => Kb (!b) σ₁) : WB prog w h₀ n sc m (.UnaryOp .Not e p) σ Kb :=
  fun A env fs as s hA hE R F => isTrue_not (h A env fs as s hA hE R F)
theorem WT.bool {b : Bool} (h : Kb b σ) : WT prog w h₀ n (.d (.bool b)) σ Kb := by
  intro A fs as s u hA R V
  rw [V.bool_inv]
  exact wpAny_truthy_bool (in_eeaa as σ (Stp.refl ..) R h)
/-- a call of a def of the text's -/
theorem WE.callFn {f : Addr} {ob : Obj} {fd : FuncData} (hb : h₀.get? f = some ob) (hd : ob.data = .func fd) {x : Str} {p pos : Pos} {e : Expr} {es : List Expr}
    (h : WE prog w h₀ n sc m (.Name x p) σ fun v σ₁ => v = .g (.ref f) ∧ WEs prog w h₀ n sc m (e :: es) σ₁ fun vs σ₂ => WO prog w h₀ n vs (fun us => call (.ref f) us) σ₂ Kv)
    (he : ∀ env, starEach (e :: es) env = (false, eval e env) :: starEach es env := by intro _; rfl) : WE prog w h₀ n sc m (.Call (.Name x p) (e :: es) [] pos) σ Kv := by
  intro A env fs as s hA hE R F
  refine Call_Name rfl (wpAny_mono (h A env fs as s hA hE R F) (fun u s₁ zf48 => ?_) fun _ _ x => x)
  apply PostE.elg zf48; intro a₁ σ₁ st R₁ k
  refine callWith_def hd (wpAny_mono (k A env fs a₁ s₁ pos hA hE R₁ (F.stepE R.nd st)) (fun us s₂ zf52 => PostEs.el zf52 fun vs a₂ σ₂ st₂ R₂ V₂ k₂ => ⟨(R₂.base f ob hb).1, ?_⟩) fun _ _ x => x) (he env)
  exact wpAny_mono (k₂ A fs a₂ s₂ us hA R₂ V₂) (fun _ _ p => (p.step st₂).step st) fun _ _ x => x
theorem WE.callBi {id : String} {x : Str} {p pos : Pos} {e : Expr} {es : List Expr}
    (h : WE prog w h₀ n sc m (.Name x p) σ fun v σ₁ => v = .g (.builtin id) ∧ WEs prog w h₀ n sc m (e :: es) σ₁ fun vs σ₂ => WO prog w h₀ n vs (fun us => call (.builtin id) us) σ₂ Kv)
    (he : ∀ env, starEach (e :: es) env = (false, eval e env) :: starEach es env := by intro _; rfl) (hp : ∀ env, (backTo pos (starEach es env)).any (·.1) = false := by intro _; rfl) :
    WE prog w h₀ n sc m (.Call (.Name x p) (e :: es) [] pos) σ Kv := by
  intro A env fs as s hA hE R F
  refine Call_Name rfl (wpAny_mono (h A env fs as s hA hE R F) (fun u s₁ zf70 => ?_) fun _ _ x => x)
  apply PostE.elg zf70; intro a₁ σ₁ st R₁ k
  refine PyProof.Rows.callWith_builtin1 (wpAny_mono (k A env fs a₁ s₁ pos hA hE R₁ (F.stepE R.nd st)) (fun us s₂ zf74 => PostEs.el zf74 fun vs a₂ σ₂ st₂ R₂ V₂ k₂ => ?_) fun _ _ x => x) (he env) (hp env)
  exact wpAny_mono (k₂ A fs a₂ s₂ us hA R₂ V₂) (fun _ _ p => (p.step st₂).step st) fun _ _ x => x

/-! ### entering a def -/
theorem lookup_rev {α : Type} : ∀ {l : List (Str × α)}, (l.map (·.1)).Nodup → ∀ x, l.reverse.lookup x = l.lookup x
  | [], _, _ => rfl
  | (y, v) :: r, hn, x => by
    rw [List.map_cons, List.nodup_cons] at hn
    have ih := lookup_rev hn.2 x
    rw [List.reverse_cons, List.lookup_append, ih, List.lookup_cons, List.lookup_cons]
    by_cases h : x = y
    · subst h
      have : r.lookup x = none := by
        cases q : r.lookup x with
        | none => rfl
        | some v' => exact absurd (List.mem_map.mpr ⟨(x, v'), mem_of_lookup q, rfl⟩) hn.1
      simp [this]
    · have : (x == y) = false := by simpa using h
      rw [this]
      cases r.lookup x <;> rfl
theorem zip_lookup {h : Heap} : ∀ {ps : List Str} {vs : List Vl} {us : List Value}, VRs prog w fs as h vs us → ∀ x v, (ps.zip vs).lookup x = some v → ∃ u, (ps.zip us).lookup x = some u ∧ VR prog w fs as h v u
  | [], _, _, _, _, _, e => by simp at e
  | _ :: _, _, _, .nil, _, _, e => by simp at e
  | y :: ps, _, _, .cons (v := v₀) (u := u₀) V r, x, v, e => by
    rw [List.zip_cons_cons, List.lookup_cons] at e
    rw [List.zip_cons_cons, List.lookup_cons]
    cases hx : x == y with
    | true => rw [hx] at e; cases e; exact ⟨u₀, rfl, V⟩
    | false => rw [hx] at e; exact zip_lookup r x v e
theorem zip_keys {α : Type} : ∀ (ps : List Str) (us : List α), us.length = ps.length → (ps.zip us).map (·.1) = ps
  | [], _, _ => by simp
  | p :: ps, [], h => by simp at h
  | p :: ps, u :: us, h => by simp at h; simp [zip_keys ps us h]
/-- trees and words with one more fresh address off limits -/
theorem VR.fresh {h h' : Heap} {L : Addr} {v : Vl} {u : Value} (V : VR prog w fs as h v u) (hL : h.get? L = none) (hk : ∀ b o, h.get? b = some o → h'.get? b = some o) : VR prog w (L :: fs) as h' v u := by
  cases v with
  | d t =>
    refine Rd.move (fun b o hb e => ⟨hk b o e, fun q => ?_⟩) V
    rcases List.mem_append.mp q with q | q
    · exact hb (List.mem_append_left _ q)
    · rcases List.mem_cons.mp q with q | q
      · subst q; rw [hL] at e; cases e
      · exact hb (List.mem_append_right _ q)
  | m i => exact V
  | g v => exact V
theorem VRs.fresh {h h' : Heap} {L : Addr} {vs : List Vl} {us : List Value} (V : VRs prog w fs as h vs us) (hL : h.get? L = none) (hk : ∀ b o, h.get? b = some o → h'.get? b = some o) : VRs prog w (L :: fs) as h' vs us := by
  induction V with
  | nil => exact .nil
  | cons a _ ih => exact .cons (a.fresh hL hk) ih
theorem Rel.enter {L : Addr} {h' : Heap} {t : Nat} (R : Rel prog w h₀ fs as σ s) (hL : s.heap.get? L = none) (hk : ∀ b o, s.heap.get? b = some o → h'.get? b = some o) (ht : ∃ o, h'.get? L = some o) :
    Rel prog w h₀ (L :: fs) as σ { s with heap := h', toks := t } := by
  have mv : ∀ b o, b ∉ as ++ fs → s.heap.get? b = some o → h'.get? b = some o ∧ b ∉ as ++ L :: fs := fun b o hb e => ⟨hk b o e, fun q => by
    rcases List.mem_append.mp q with q | q
    · exact hb (List.mem_append_left _ q)
    · rcases List.mem_cons.mp q with q | q
      · subst q; rw [hL] at e; cases e
      · exact hb (List.mem_append_right _ q)⟩
  refine ⟨fun b o e => mv b o (R.base b o e).2 (R.base b o e).1, R.len, ?_, fun a ha => ?_, fun i a x ha hx => (R.mo i a x ha hx).move (fun _ _ _ e => e) mv fun o e => hk a o e, R.bare⟩
  · have hn := R.nd
    have hLo : L ∉ as ++ fs := fun q => by obtain ⟨o, e⟩ := R.there L q; rw [hL] at e; cases e
    rw [List.nodup_append] at hn ⊢
    refine ⟨hn.1, List.nodup_cons.mpr ⟨fun q => hLo (List.mem_append_right _ q), hn.2.1⟩, fun a ha b hb e => ?_⟩
    rcases List.mem_cons.mp hb with q | q
    · subst e; subst q; exact hLo (List.mem_append_left _ ha)
    · exact hn.2.2 a ha b q e
  · rcases List.mem_append.mp ha with q | q
    · obtain ⟨o, e⟩ := R.there a (List.mem_append_left _ q); exact ⟨o, hk a o e⟩
    · rcases List.mem_cons.mp q with q | q
      · subst q; exact ht
      · obtain ⟨o, e⟩ := R.there a (List.mem_append_right _ q); exact ⟨o, hk a o e⟩
/-- leaving: fewer addresses off limits -/
theorem Rel.leave {fs' : List Addr} (R : Rel prog w h₀ fs' as σ s) (hs : fs.Sublist fs') : Rel prog w h₀ fs as σ s := by
  have hsub : ∀ b, b ∈ as ++ fs → b ∈ as ++ fs' := fun b q => by
    rcases List.mem_append.mp q with q | q
    · exact List.mem_append_left _ q
    · exact List.mem_append_right _ (hs.subset q)
  have mv : ∀ b o, b ∉ as ++ fs' → s.heap.get? b = some o → s.heap.get? b = some o ∧ b ∉ as ++ fs := fun b o hb e => ⟨e, fun q => hb (hsub b q)⟩
  exact ⟨fun b o e => mv b o (R.base b o e).2 (R.base b o e).1, R.len, List.Sublist.nodup (List.Sublist.append (List.Sublist.refl _) hs) R.nd, fun a ha => R.there a (hsub a ha),
    fun i a x ha hx => (R.mo i a x ha hx).move (fun _ _ _ e => e) mv fun o e => e, R.bare⟩
theorem VR.leave {fs' : List Addr} {h : Heap} {v : Vl} {u : Value} (V : VR prog w fs' as h v u) (hs : fs.Sublist fs') : VR prog w fs as h v u := by
  cases v with
  | d t => exact Rd.move (fun b o hb e => ⟨e, fun q => hb (by
      rcases List.mem_append.mp q with q | q
      · exact List.mem_append_left _ q
      · exact List.mem_append_right _ (hs.subset q))⟩) V
  | m i => exact V
  | g v => exact V

noncomputable def retOf : Fl → Vl
  | .ret v => v
  | _ => .d .none
theorem Room.deeper {A : Around} {env : Env} (r : Room (n + 1) A) : Room n (A.deeper env) := ⟨r.handled, by have := r.depth; show A.depth + 1 + n < _; lia -abstractProof, by have := r.units; show A.units + 3 + 8 * n + 100 < _; lia -abstractProof⟩

/-- a call, as code -/
noncomputable def WOc (prog : Program) (w : World) (h₀ : Heap) (n : Nat) (vs : List Vl) (f : Addr) (σ : List MO) (K : Vl → List MO → Prop) : Prop :=
  ∀ A fs as s us, Room n A → Rel prog w h₀ fs as σ s → VRs prog w fs as s.heap vs us → codeAny (model prog w) A (.call (.ref f) ⟨us, []⟩) (fun r s' => match r with | .ok (.ret v) => PostE prog w h₀ fs as s K v s' | .ok _ => False | .error e => NoE e s') s
theorem WOc.wo {vs : List Vl} {f : Addr} (h : WOc prog w h₀ n vs f σ Kv) : WO prog w h₀ n vs (fun us => call (.ref f) us) σ Kv :=
  fun A fs as s us hA R V => wpAny_call (h A fs as s us hA R V)
theorem WOc.fn {f : Addr} {ob : Obj} {fd : FuncData} {body : List Stmt} {vs : List Vl} {gl : Str → Option Value} (G : Glb h₀ gl) (ps : List Str)
    (hb : h₀.get? f = some ob) (hd : ob.data = .func fd) (hcd : h₀.CodeRec fd.code fd.qualname) (hbody : fd.body = .stmts body) (hlen : vs.length = ps.length)
    (hbind : ∀ us : List Value, us.length = ps.length → bindArgs fd ⟨us, []⟩ = pure (ps.zip us)) (hnd : ps.Nodup)
    (hcell : ∀ x ∈ fd.scope.names, x.2 ≠ .cell) (hloc : ∀ x ∈ ps, fd.scope.names.lookup x = some .local) (hglob : fd.globals = mainGlobals) (hblt : fd.builtins = builtinsNs) (hclo : fd.closure = [])
    (hco : fd.scope.isCoroutine = false) (hgen : fd.scope.isGenerator = false) (hk : fd.scope.kind = .function) (hcode : ∀ c, codeOf fd.scope = some c → fd.code = .ref c)
    (h : ∀ k, k = σ.length → WS prog w h₀ n fd.scope k (ps.zip vs) body σ fun fl _ σ' => Kv (retOf fl) σ') :
    WOc prog w h₀ (n + 1) vs f σ Kv := by
  intro A fs as s us hA R V
  have kp : ∀ b o, h₀.get? b = some o → s.heap.get? b = some o := fun b o e => (R.base b o e).1
  have hul : us.length = ps.length := V.length.trans hlen
  refine codeAny_call_def (binds := ps.zip us) (by have := hA.depth; lia -abstractProof) (kp _ _ hb) hd (G.lim.keeps kp) (hcd.keeps kp) hbody (BindsTo.of_eq (hbind us hul)) hcell (fun x hx => hloc _ ?_) (fun h₁ hns hk₁ => ?_) hco hgen hk
  · have := List.mem_map_of_mem (f := (·.1)) hx
    rw [zip_keys ps us hul] at this; exact this
  · have hL : s.heap.get? s.heap.objs.size = none := by
      cases q : s.heap.get? s.heap.objs.size with
      | none => rfl
      | some o => exact absurd (Heap.lt_size q) (Nat.lt_irrefl _)
    have ht : ∃ o, h₁.get? s.heap.objs.size = some o := by refine el_eeea (hns) fun o _ _ e _ => ?_; try clear hns; exact ⟨o, e⟩
    have R₁ := R.enter (t := s.toks + (ps.zip us).length) hL hk₁ ht
    have hE : EnvIs fd.scope (callEnv fd s.heap.objs.size f) := ⟨rfl, hk, hglob, hblt, fun x hx => absurd rfl (hcell (x, .cell) (mem_of_lookup hx)), hcode⟩
    have hcl : (callEnv fd s.heap.objs.size f).cells = [] := hclo
    have F₁ : FrameOk prog w (callEnv fd s.heap.objs.size f) (ps.zip vs) (s.heap.objs.size :: fs) as h₁ := by
      refine ⟨⟨_, hns, fun x v hx _ => ?_⟩, fun x v hx hkx => ?_, fun x c e => ?_, fun x y c e => ?_, List.mem_cons_self .., fun x c e => ?_, fun p hp => ?_⟩
      · refine el_ea (zip_lookup (V.fresh hL hk₁) x v hx) fun u h1 h2 => ?_
        exact ⟨u, h2, by rw [lookup_rev (by rw [zip_keys ps us hul]; exact hnd)]; exact h1⟩
      · exfalso
        have hm := List.mem_map_of_mem (f := (·.1)) (mem_of_lookup hx)
        rw [zip_keys ps vs hlen] at hm
        have : (callEnv fd s.heap.objs.size f).kindOf x = some .local := hloc x hm
        rw [this] at hkx
        rcases hkx with q | q <;> cases q
      · rw [hcl] at e; cases e
      · rw [hcl] at e; cases e
      · rw [hcl] at e; cases e
      · rw [hcl] at hp; cases hp
    refine wpAny_mono (h _ rfl (A.deeper _) (callEnv fd s.heap.objs.size f) (s.heap.objs.size :: fs) as _ hA.deeper hE R₁ F₁ (Nat.le_of_eq R.len.symm)) (fun f' s' zf207 => PostS.el zf207 fun fl m' a' σ' hf st R' F' _ kk => ?_) fun _ _ x => x.elim
    have hsub : fs.Sublist (s.heap.objs.size :: fs) := List.sublist_cons_self ..
    have hstp : Stp [] as.length as s a' s' := by
      refine ⟨fun i a hi e => st.pre i a (R.len ▸ hi) e, fun a ha hn => ?_, fun b o h1 _ e => ?_, fun b o e => st.thr b o (hk₁ b o e), st.os⟩
      · cases q : s.heap.get? a with
        | none => rfl
        | some o => have := st.fresh a ha hn; rw [hk₁ a o q] at this; cases this
      · refine st.kept b o h1 (fun q => ?_) (hk₁ b o e)
        rcases List.mem_cons.mp q with q | q
        · have : b = s.heap.objs.size := q
          rw [this, hL] at e; cases e
        · rw [hcl] at q; cases q
    cases fl with
    | next => cases hf; exact (in_eeeaaa (.d .none) a' σ' hstp (R'.leave hsub) Rd.none kk)
    | brk => cases hf; exact (in_eeeaaa (.d .none) a' σ' hstp (R'.leave hsub) Rd.none kk)
    | cont => cases hf; exact (in_eeeaaa (.d .none) a' σ' hstp (R'.leave hsub) Rd.none kk)
    | ret v => refine el_ea (hf) fun u zq1 V' => ?_; subst zq1; try clear hf; exact (in_eeeaaa v a' σ' hstp (R'.leave hsub) (V'.leave hsub) kk)
theorem WO.fn {f : Addr} {ob : Obj} {fd : FuncData} {body : List Stmt} {vs : List Vl} {gl : Str → Option Value} (G : Glb h₀ gl) (ps : List Str)
    (hb : h₀.get? f = some ob) (hd : ob.data = .func fd) (hcd : h₀.CodeRec fd.code fd.qualname) (hbody : fd.body = .stmts body) (hlen : vs.length = ps.length)
    (hbind : ∀ us : List Value, us.length = ps.length → bindArgs fd ⟨us, []⟩ = pure (ps.zip us)) (hnd : ps.Nodup)
    (hcell : ∀ x ∈ fd.scope.names, x.2 ≠ .cell) (hloc : ∀ x ∈ ps, fd.scope.names.lookup x = some .local) (hglob : fd.globals = mainGlobals) (hblt : fd.builtins = builtinsNs) (hclo : fd.closure = [])
    (hco : fd.scope.isCoroutine = false) (hgen : fd.scope.isGenerator = false) (hk : fd.scope.kind = .function) (hcode : ∀ c, codeOf fd.scope = some c → fd.code = .ref c)
    (h : ∀ k, k = σ.length → WS prog w h₀ n fd.scope k (ps.zip vs) body σ fun fl _ σ' => Kv (retOf fl) σ') :
    WO prog w h₀ (n + 1) vs (fun us => call (.ref f) us) σ Kv := (WOc.fn G ps hb hd hcd hbody hlen hbind hnd hcell hloc hglob hblt hclo hco hgen hk hcode h).wo
end
end Mine
end
section
namespace Mine
section
variable {prog : Program} {w : World} {h₀ : Heap} {fs as as' as'' ow : List Addr} {σ σ' σ'' : List MO} {s s' s'' : Shared} {k n : Nat} {sc : Scope} {m : List (Str × Vl)} {Kb : Bool → List MO → Prop} {Kv : Vl → List MO → Prop}
  {env : Env}

theorem RdAll.get {us : List Value} {xs : List D} {ex : List Addr} {h : Heap} : RdAll prog w ex h us xs → ∀ {j : Nat} {d : D}, xs[j]? = some d → ∃ u, us[j]? = some u ∧ Rd prog w ex h u d
  | .nil, _, _, e => by simp at e
  | .cons a r, 0, d, e => by simp at e; subst e; exact ⟨_, by simp, a⟩
  | .cons a r, j + 1, d, e => by
    refine el_ea (r.get (by simpa using e)) fun u h1 h2 => ?_
    exact ⟨u, by simpa using h1, h2⟩
theorem seqIndex_nat {j len : Nat} (h : j < len) : seqIndex? (j : Int) len = some j := by
  unfold seqIndex?
  have h1 : ¬ ((j : Int) < 0) := by lia -abstractProof
  simp only [h1, if_false]
  rw [if_pos (by simp; lia -abstractProof)]
  simp

theorem WE.sub {value slice : Expr} {p : Pos} (h : WE prog w h₀ n sc m value σ fun a σ₁ => WE prog w h₀ n sc m slice σ₁ fun b σ₂ => WO prog w h₀ n [a, b] (bin2 (subscriptTail value slice)) σ₂ Kv) :
    WE prog w h₀ n sc m (.Subscript value slice p) σ Kv := by
  intro A env fs as s hA hE R F
  refine Subscript_ (wpAny_mono (h A env fs as s hA hE R F) (fun u s₁ zf25 => PostE.el zf25 fun v a₁ σ₁ st R₁ V k => ?_) fun _ _ x => x)
  refine wpAny_mono (k A env fs a₁ s₁ hA hE R₁ (F.stepE R.nd st)) (fun u₂ s₂ zf26 => PostE.el zf26 fun v₂ a₂ σ₂ st₂ R₂ V₂ k₂ => ?_) fun _ _ x => x
  exact wpAny_mono (k₂ A fs a₂ s₂ [u, u₂] hA R₂ (.cons (V.stepE st₂) (.cons V₂ .nil))) (fun _ _ p => (p.step st₂).step st) fun _ _ x => x
/-- an item of a tuple, of a list -/
theorem WO.itemT {value slice : Expr} {xs : List D} {i : Int} {d : D} (h0 : 0 ≤ i) (hi : xs[i.toNat]? = some d) (h : Kv (.d d) σ) (hl : xs.length ≤ 1000 := by exact Nat.le_of_ble_eq_true rfl)
    (hs : ∀ t u, subscripted slice false (.ref t) (.int i u) = operate [.ref t, .int i u] (getItem (.ref t) (.int i u)) := by intro _ _; with_unfolding_all rfl) :
    WO prog w h₀ n [.d (.tup xs), .d (.int i)] (bin2 (subscriptTail value slice)) σ Kv := by
  intro A fs as s us hA R V
  apply VRs.two V; intro _ _ V₁ V₂
  · skip
    obtain ⟨t₂, rfl⟩ := V₂.int_inv
    apply Rd.tupE V₁; intro _ _ na ht hr
    · skip
      refine el_ea (hr.get hi) fun u h1 h2 => ?_
      obtain ⟨j, rfl⟩ := Int.eq_ofNat_of_zero_le h0
      have hj : j < xs.length := by have := (List.getElem?_eq_some_iff.mp hi).1; simpa using this
      exact item_tupleT ht (by lia -abstractProof) (by lia -abstractProof) (j := j) (by rw [hr.length]; exact seqIndex_nat hj) (by simpa using h1) (.at R (v := .d d) h2 h) (hs _ _)
theorem WO.itemL {value slice : Expr} {xs : List D} {i : Int} {d : D} (h0 : 0 ≤ i) (hi : xs[i.toNat]? = some d) (h : Kv (.d d) σ) (hl : xs.length ≤ 1000 := by exact Nat.le_of_ble_eq_true rfl)
    (hs : ∀ t u, subscripted slice false (.ref t) (.int i u) = operate [.ref t, .int i u] (getItem (.ref t) (.int i u)) := by intro _ _; with_unfolding_all rfl) :
    WO prog w h₀ n [.d (.lst xs), .d (.int i)] (bin2 (subscriptTail value slice)) σ Kv := by
  intro A fs as s us hA R V
  apply VRs.two V; intro _ _ V₁ V₂
  · skip
    obtain ⟨t₂, rfl⟩ := V₂.int_inv
    apply Rd.lstE V₁; intro _ _ na ht hr
    · skip
      refine el_ea (hr.get hi) fun u h1 h2 => ?_
      have hj : i.toNat < xs.length := (List.getElem?_eq_some_iff.mp hi).1
      exact tail_any ht.typeIs slot_list_getitem.lookup (wpAny_getItem_list ht h0 (by lia -abstractProof) (by simpa using h1) (.at R (v := .d d) h2 h)) (hs _ _)
end
end Mine
end
section
namespace Mine

/-- an iterator: what it hands out, one after the other -/
structure Wk (prog : Program) (w : World) (A : Around) (I : Addr) (fp : List Addr) (n : Nat) (P : Nat → Value → Prop) (St : Nat → Heap → Prop) : Prop where
  there : ∀ i h, St i h → ∀ b ∈ I :: fp, ∃ o, h.get? b = some o
  frame : ∀ i h h', St i h → (∀ b ∈ I :: fp, ∀ o, h.get? b = some o → h'.get? b = some o) → St i h'
  item : ∀ i (s : Shared) (Q : Option Value → Shared → Prop) (E : Value → Shared → Prop), i < n → St i s.heap →
    (∀ v h' tk, P i v → St (i + 1) h' → Heap.SameBut I s.heap h' → Q (some v) { s with heap := h', toks := tk }) → wpAny (model prog w) A (pyNext (.ref I)) Q E s
  done : ∀ (s : Shared) (Q : Option Value → Shared → Prop) (E : Value → Shared → Prop), St n s.heap →
    (∀ h', Heap.ExtBut I s.heap h' → Q none { s with heap := h' }) → wpAny (model prog w) A (pyNext (.ref I)) Q E s
  self : ∀ i (s : Shared) (Q : Value → Shared → Prop) (E : Value → Shared → Prop), St i s.heap → Q (.ref I) s → wpAny (model prog w) A (pyIter (.ref I)) Q E s

section
variable {prog : Program} {w : World} {A : Around}
theorem Wk.list (hh : A.handled = none) (I ax : Addr) (hne : ax ≠ I) (items : Array Value) :
    Wk prog w A I [ax] items.size (fun i v => items[i]? = some v) (fun i h => h.IsListIter I ax i ∧ h.IsList ax items) where
  there := fun _ _ st b hb => by
    refine el_aea (st) fun zq0 o' e' _ => ?_; obtain ⟨o, e, _⟩ := zq0; try clear st
    rcases List.mem_cons.mp hb with rfl | hb
    · exact ⟨o, e⟩
    · rw [List.mem_singleton.mp hb]; exact ⟨o', e'⟩
  frame := fun _ _ _ st hk => ⟨st.1.at fun o e => hk I (by simp) o e, st.2.at fun o e => hk ax (by simp) o e⟩
  item := fun i s Q E hi st hQ => by
    refine wpAny_pyNext_list_item st.1 st.2 (x := items[i]) (by simp [hi]) fun h' hit' hs' => ?_
    exact hQ _ h' s.toks (by simp [hi]) ⟨hit', st.2.extBut hs'.extBut hne⟩ hs'
  done := fun s Q E st hQ => wpAny_pyNext_list_end hh st.1 st.2 (by simp) hQ
  self := fun _ _ _ _ st hQ => wpAny_pyIter_listiter st.1 hQ
theorem Wk.tuple (hh : A.handled = none) (I ax : Addr) (hne : ax ≠ I) (items : Array Value) :
    Wk prog w A I [ax] items.size (fun i v => items[i]? = some v) (fun i h => h.IsTupleIter I ax i ∧ h.IsTuple ax items) where
  there := fun _ _ st b hb => by
    refine el_aea (st) fun zq0 o' e' _ => ?_; obtain ⟨o, e, _⟩ := zq0; try clear st
    rcases List.mem_cons.mp hb with rfl | hb
    · exact ⟨o, e⟩
    · rw [List.mem_singleton.mp hb]; exact ⟨o', e'⟩
  frame := fun _ _ _ st hk => ⟨st.1.at fun o e => hk I (by simp) o e, st.2.at fun o e => hk ax (by simp) o e⟩
  item := fun i s Q E hi st hQ => by
    refine wpAny_pyNext_tuple_item st.1 st.2 (x := items[i]) (by simp [hi]) fun h' hit' hs' => ?_
    exact hQ _ h' s.toks (by simp [hi]) ⟨hit', st.2.extBut hs'.extBut hne⟩ hs'
  done := fun s Q E st hQ => wpAny_pyNext_tuple_end hh st.1 st.2 (by simp) hQ
  self := fun _ _ _ _ st hQ => wpAny_pyIter_tupleiter st.1 hQ
theorem Wk.range (hh : A.handled = none) (I : Addr) (a c : Int) (n : Nat) :
    Wk prog w A I [] n (fun i v => ∃ t, v = .int (a + i * c) t) (fun i h => IsRangeIter h I (a + (i : Nat) * c) ((n : Int) - (i : Nat)) c) where
  there := fun _ _ st b hb => by rw [List.mem_singleton.mp hb]; exact ⟨_, st⟩
  frame := fun _ _ _ st hk => hk I (by simp) _ st
  item := fun i s Q E hi st hQ => by
    refine wpAny_pyNext_range_item st (by lia -abstractProof) fun h' hit' hs' => ?_
    refine hQ _ h' _ ⟨_, rfl⟩ ?_ hs'
    have e1 : a + ((i + 1 : Nat) : Int) * c = a + (i : Int) * c + c := by push_cast; rw [Int.add_mul, Int.one_mul, Int.add_assoc]
    have e2 : (n : Int) - ((i + 1 : Nat) : Int) = (n : Int) - (i : Int) - 1 := by push_cast; lia -abstractProof
    rw [e1, e2]; exact hit'
  done := fun s Q E st hQ => wpAny_pyNext_range_end hh st (by lia -abstractProof) hQ
  self := fun _ _ _ _ st hQ => wpAny_pyIter_rangeiter st hQ
theorem Wk.values {K : Type} [DecidableEq K] {knd : KeyKind prog w K} (hh : A.handled = none) (I d : Addr) (hne : d ≠ I) (kvs : List (K × Value)) (ep : Nat) :
    Wk prog w A I [d] kvs.length (fun i v => ∃ k, kvs[i]? = some (k, v)) (fun i h => h.IsValIter I d i kvs.length ep ∧ h.DictAt knd d kvs ep) where
  there := fun _ _ st b hb => by
    refine el_aeea (st) fun zq0 o' _ e' _ => ?_; obtain ⟨o, e, _⟩ := zq0; try clear st
    rcases List.mem_cons.mp hb with rfl | hb
    · exact ⟨o, e⟩
    · rw [List.mem_singleton.mp hb]; exact ⟨o', e'⟩
  frame := fun _ _ _ st hk => ⟨st.1.at fun o e => hk I (by simp) o e, st.2.at' fun o e => hk d (by simp) o e⟩
  item := fun i s Q E hi st hQ => by
    obtain ⟨⟨k, x⟩, hx⟩ : ∃ p, kvs[i]? = some p := ⟨kvs[i], by simp [hi]⟩
    refine wpAny_pyNext_values_item st.1 st.2 hx fun h' hit' hs' => ?_
    exact hQ x h' s.toks ⟨k, hx⟩ ⟨hit', st.2.extBut hs'.extBut hne⟩ hs'
  done := fun s Q E st hQ => wpAny_pyNext_values_end hh st.1 st.2 (by simp) hQ
  self := fun _ _ _ _ st hQ => wpAny_pyIter_valiter st.1 hQ
end

section
variable (prog : Program) (w : World) (h₀ : Heap)
/-- the iterator at I has these left -/
noncomputable def Itr (A : Around) (I : Addr) (xs : List Vl) (fs as : List Addr) (h : Heap) : Prop :=
  ∃ fp n P St i, Wk prog w A I fp n P St ∧ St i h ∧ i + xs.length = n ∧ (∀ (j : Nat) v u, xs[j]? = some v → P (i + j) u → VR prog w fs as h v u) ∧ (∀ b ∈ fp, b ∉ as ++ fs) ∧ ∀ (j : Nat) v, xs[j]? = some v → ∃ x, v = Vl.d x
/-- what an expression in a for's head hands out -/
noncomputable def WI (n : Nat) (sc : Scope) (m : List (Str × Vl)) (e : Expr) (σ : List MO) (K : List Vl → List MO → Prop) : Prop :=
  ∀ A env fs as s, Room n A → EnvIs sc env → Rel prog w h₀ fs as σ s → FrameOk prog w env m fs as s.heap →
    wpAny (model prog w) A (eval e env) (fun x s₁ => wpAny (model prog w) A (pyIter x) (fun it s₂ => ∃ I xs as' σ', it = .ref I ∧ s.heap.get? I = none ∧ Stp [] as.length as s as' s₂ ∧ Rel prog w h₀ (I :: fs) as' σ' s₂ ∧
      Itr prog w A I xs (I :: fs) as' s₂.heap ∧ K xs σ') NoE s₁) NoE s
/-- a loop, turn by turn -/
noncomputable def WL (n : Nat) (sc : Scope) (k : Nat) (x : Str) (body : List Stmt) : List Vl → List (Str × Vl) → List MO → (Fl → List (Str × Vl) → List MO → Prop) → Prop
  | [], m, σ, K => K .next m σ
  | v :: vs, m, σ, K => WN prog w h₀ sc k m x v σ fun _ m₁ σ₁ => WS prog w h₀ n sc k m₁ body σ₁ fun fl m₂ σ₂ => match fl with
    | .next => WL n sc k x body vs m₂ σ₂ K
    | .cont => WL n sc k x body vs m₂ σ₂ K
    | .brk => K .next m₂ σ₂
    | .ret v => K (.ret v) m₂ σ₂
end

section
variable {prog : Program} {w : World} {h₀ : Heap} {fs as as' as'' ow : List Addr} {σ σ' σ'' : List MO} {s s' s'' : Shared} {k n : Nat} {sc : Scope} {m : List (Str × Vl)} {K : Fl → List (Str × Vl) → List MO → Prop}
  {env : Env} {A : Around} {I : Addr} {xs : List Vl}

theorem Itr.step (x : Itr prog w A I xs fs as s.heap) (st : Stp ow k as s as' s') (hI : I ∉ as) (hIo : I ∉ ow) (hw : ∀ b ∈ ow, b ∈ fs) : Itr prog w A I xs fs as' s'.heap := by
  refine el_eeeeeaaaaa (x) fun fp N P St i W hs hl hv hf hd => ?_; try clear x
  have hk : ∀ b ∈ I :: fp, ∀ o, s.heap.get? b = some o → s'.heap.get? b = some o := fun b hb o e => by
    rcases List.mem_cons.mp hb with rfl | hb
    · exact st.kept _ o hI hIo e
    · exact (st.mv hw b o (hf b hb) e).1
  refine (in_eeeeeaaaaa fp N P St i W (W.frame _ _ _ hs hk) hl (fun j v u e p => ?_) (fun b hb => ?_) hd)
  · obtain ⟨t, rfl⟩ := hd j v e
    exact (hv j _ u e p).step st hw (fun _ q => nomatch q)
  · obtain ⟨o, e⟩ := W.there _ _ hs b (List.mem_cons_of_mem _ hb)
    exact (st.mv hw b o (hf b hb) e).2
theorem Itr.next {x : Vl} {Q : Option Value → Shared → Prop} (t : Itr prog w A I (x :: xs) fs as s.heap) (R : Rel prog w h₀ fs as σ s) (hI : I ∈ fs)
    (hQ : ∀ u s', VR prog w fs as s'.heap x u → Stp [I] k as s as s' → Rel prog w h₀ fs as σ s' → Itr prog w A I xs fs as s'.heap → s'.os = s.os → Q (some u) s') : wpAny (model prog w) A (pyNext (.ref I)) Q NoE s := by
  refine el_eeeeeaaaaa (t) fun fp N P St i W hs hl hv hf hd => ?_; try clear t
  refine W.item i s Q NoE (by simp at hl; lia -abstractProof) hs fun v h' tk hP hst hsb => ?_
  have ht : ∃ o, h'.get? I = some o := W.there _ _ hst I (List.mem_cons_self ..)
  refine hQ v _ ?_ (Stp.framed (List.mem_singleton.mpr rfl) hsb ht) (R.framed hI hsb ht) (in_eeeeeaaaaa fp N P St (i + 1) W hst (by simp at hl; lia -abstractProof) (fun j v' u e p => ?_) hf (fun j v' e => hd (j + 1) v' (by simpa using e))) rfl
  · exact (hv 0 x v (by simp) (by simpa using hP)).framed hI hsb
  · have := hv (j + 1) v' u (by simpa using e) (by rw [show i + (j + 1) = i + 1 + j from by lia -abstractProof]; exact p)
    exact this.framed hI hsb
theorem Itr.end {Q : Option Value → Shared → Prop} (t : Itr prog w A I [] fs as s.heap) (hQ : ∀ h', Heap.ExtBut I s.heap h' → Q none { s with heap := h' }) : wpAny (model prog w) A (pyNext (.ref I)) Q NoE s := by
  refine el_eeeeeaaaaa (t) fun fp N P St i W hs hl hv hf hd => ?_; try clear t
  simp at hl
  subst hl
  exact W.done s Q NoE hs hQ
theorem FrameOk.leave {fs' : List Addr} (F : FrameOk prog w env m fs' as s.heap) (hs : fs.Sublist fs') (ho : ∀ b ∈ own env, b ∈ fs) : FrameOk prog w env m fs as s.heap := by
  refine el_ea (F.ns) fun mm hn hv => ?_
  refine ⟨⟨mm, hn, fun x v e hk => ?_⟩, fun x v e hk => ?_, fun x c e => ?_, F.inj, ho _ (List.mem_cons_self ..), F.ne, fun p hp => ho _ (List.mem_cons_of_mem _ (List.mem_map.mpr ⟨p, hp, rfl⟩))⟩
  · refine el_ea (hv x v e hk) fun u h1 h2 => ?_; exact ⟨u, h1.leave hs, h2⟩
  · refine el_eeaa (F.cl x v e hk) fun c u h1 h2 h3 => ?_; exact (in_eeaa c u h1 h2 (h3.leave hs))
  · obtain ⟨h1, h2⟩ := F.cells x c e
    exact ⟨ho _ (List.mem_cons_of_mem _ (List.mem_map.mpr ⟨(x, c), mem_of_lookup e, rfl⟩)), h2⟩
/-- the frame's own addresses with one more off limits -/
theorem FrameOk.widen {L : Addr} (F : FrameOk prog w env m fs as s.heap) (hL : s.heap.get? L = none) (st : Stp [] as.length as s as' s') (nd : (as ++ fs).Nodup) : FrameOk prog w env m (L :: fs) as' s'.heap := by
  have hm : ∀ v u, VR prog w fs as s.heap v u → VR prog w (L :: fs) as' s'.heap v u := fun v u V => by
    cases v with
    | d t =>
      refine Rd.move (fun b o hb e => ?_) V
      have h1 := st.mv (fs := fs) (fun _ h => nomatch h) b o hb e
      refine ⟨h1.1, fun q => ?_⟩
      rcases List.mem_append.mp q with q | q
      · exact h1.2 (List.mem_append_left _ q)
      · rcases List.mem_cons.mp q with q | q
        · subst q; rw [hL] at e; cases e
        · exact h1.2 (List.mem_append_right _ q)
    | m i =>
      refine el_ea (V) fun a h1 h2 => ?_; try clear V
      exact ⟨a, st.pre i a (List.getElem?_eq_some_iff.mp h1).1 h1, h2⟩
    | g v => exact V
  have G := F.stepE nd st
  refine el_ea (F.ns) fun mm hn hv => ?_
  have kp : ∀ b ∈ fs, ∀ o, s.heap.get? b = some o → s'.heap.get? b = some o := fun b hb o e => st.kept b o (nd_out nd hb) (fun q => nomatch q) e
  refine ⟨⟨mm, hn.at' fun o e => kp _ F.loc o e, fun x v e hk => ?_⟩, fun x v e hk => ?_, fun x c e => ?_, F.inj, List.mem_cons_of_mem _ F.loc, F.ne, fun p hp => List.mem_cons_of_mem _ (F.all p hp)⟩
  · refine el_ea (hv x v e hk) fun u h1 h2 => ?_; exact ⟨u, hm v u h1, h2⟩
  · refine el_eeaa (F.cl x v e hk) fun c u h1 h2 h3 => ?_; exact (in_eeaa c u h1 (isCell_at h2 fun o e => kp _ (F.cells x c h1).1 o e) (hm v u h3))
  · obtain ⟨h1, h2⟩ := G.cells x c e; exact ⟨List.mem_cons_of_mem _ h1, h2⟩
theorem Stp.mono1 (hI : s.heap.get? I = none) (x : Stp [] as.length as s as' s') (y : Stp (I :: ow) k as' s' as'' s'') (hk : k ≤ as.length) : Stp ow k as s as'' s'' := by
  refine ⟨fun i a hi e => y.pre i a hi (x.pre i a (Nat.lt_of_lt_of_le hi hk) e), fun a ha hn => ?_, fun b o h1 h2 e => ?_, fun b o e => ?_, y.os.trans x.os⟩
  · cases q : s.heap.get? a with
    | none => rfl
    | some o =>
      by_cases h' : a ∈ as'
      · have := x.fresh a h' hn; rw [q] at this; cases this
      · obtain ⟨o', e'⟩ := x.thr a o q
        rw [y.fresh a ha h'] at e'; cases e'
  · have e1 := x.kept b o h1 (fun q => nomatch q) e
    refine y.kept b o (fun hb => ?_) (fun hb => ?_) e1
    · have := x.fresh b hb h1; rw [e] at this; cases this
    · rcases List.mem_cons.mp hb with q | q
      · subst q; rw [hI] at e; cases e
      · exact h2 q
  · obtain ⟨o', e'⟩ := x.thr b o e
    exact y.thr b o' e'

/-- the iterator is spent -/
theorem Rel.spent {h' : Heap} (R : Rel prog w h₀ (I :: fs) as σ s) (he : Heap.ExtBut I s.heap h') : Rel prog w h₀ fs as σ { s with heap := h' } := by
  have hI : I ∉ as ∧ I ∉ fs := by
    have := R.nd
    rw [List.nodup_append] at this
    exact ⟨fun q => this.2.2 I q I (List.mem_cons_self ..) rfl, (List.nodup_cons.mp this.2.1).1⟩
  have mv : ∀ b o, b ∉ as ++ I :: fs → s.heap.get? b = some o → h'.get? b = some o ∧ b ∉ as ++ fs := fun b o hb e =>
    ⟨he b o (fun q => hb (q ▸ List.mem_append_right _ (List.mem_cons_self ..))) e, fun q => hb (by
      rcases List.mem_append.mp q with q | q
      · exact List.mem_append_left _ q
      · exact List.mem_append_right _ (List.mem_cons_of_mem _ q))⟩
  have ne : ∀ a ∈ as ++ fs, a ≠ I := fun a ha q => by
    rcases List.mem_append.mp ha with h | h
    · exact hI.1 (q ▸ h)
    · exact hI.2 (q ▸ h)
  refine ⟨fun b o e => mv b o (R.base b o e).2 (R.base b o e).1, R.len, (R.leave (List.sublist_cons_self ..)).nd, fun a ha => ?_, fun i a x ha hx => (R.mo i a x ha hx).move (fun _ _ _ e => e) mv fun o e => he a o (ne a (List.mem_append_left _ (List.mem_of_getElem? ha))) e, R.bare⟩
  obtain ⟨o, e⟩ := (R.leave (fs := fs) (List.sublist_cons_self ..)).there a ha
  exact ⟨o, he a o (ne a ha) e⟩
theorem VR.spent {h h' : Heap} {v : Vl} {u : Value} (V : VR prog w (I :: fs) as h v u) (he : Heap.ExtBut I h h') : VR prog w fs as h' v u := by
  cases v with
  | d t =>
    refine Rd.move (fun b o hb e => ⟨he b o (fun q => hb (q ▸ List.mem_append_right _ (List.mem_cons_self ..))) e, fun q => hb ?_⟩) V
    rcases List.mem_append.mp q with q | q
    · exact List.mem_append_left _ q
    · exact List.mem_append_right _ (List.mem_cons_of_mem _ q)
  | m i => exact V
  | g v => exact V
theorem FrameOk.spent {h' : Heap} (F : FrameOk prog w env m (I :: fs) as s.heap) (he : Heap.ExtBut I s.heap h') (ho : ∀ b ∈ own env, b ∈ fs) (hI : I ∉ fs) : FrameOk prog w env m fs as h' := by
  have ne : ∀ b ∈ fs, b ≠ I := fun b hb q => hI (q ▸ hb)
  have hc : ∀ x c, env.cells.lookup x = some c → c ∈ fs := fun x c e => ho _ (List.mem_cons_of_mem _ (List.mem_map.mpr ⟨(x, c), mem_of_lookup e, rfl⟩))
  refine el_ea (F.ns) fun mm hn hv => ?_
  refine ⟨⟨mm, hn.at' fun o e => he _ o (ne _ (ho _ (List.mem_cons_self ..))) e, fun x v e hk => ?_⟩, fun x v e hk => ?_, fun x c e => ?_, F.inj, ho _ (List.mem_cons_self ..), F.ne, fun p hp => ho _ (List.mem_cons_of_mem _ (List.mem_map.mpr ⟨p, hp, rfl⟩))⟩
  · refine el_ea (hv x v e hk) fun u h1 h2 => ?_; exact ⟨u, h1.spent he, h2⟩
  · refine el_eeaa (F.cl x v e hk) fun c u h1 h2 h3 => ?_; exact (in_eeaa c u h1 (isCell_at h2 fun o e => he _ o (ne _ (hc x c h1)) e) (h3.spent he))
  · refine el_ae (F.cells x c e) fun h1 v h2 => ?_
    exact ⟨hc x c e, v, isCell_at h2 fun o e' => he _ o (ne _ (hc x c e)) e'⟩
theorem Stp.spent {h' : Heap} (hI : s.heap.get? I = none) (x : Stp [] as.length as s as' s') (y : Stp (I :: ow) k as' s' as'' s'') (hk : k ≤ as.length) (he : Heap.ExtBut I s''.heap h') : Stp ow k as s as'' { s'' with heap := h' } := by
  have z := Stp.mono1 hI x y hk
  refine ⟨z.pre, z.fresh, fun b o h1 h2 e => he b o (fun q => ?_) (z.kept b o h1 h2 e), fun b o e => ?_, z.os⟩
  · subst q; rw [hI] at e; cases e
  · obtain ⟨o', e'⟩ := z.thr b o e
    exact ⟨o', he b o' (fun q => by subst q; rw [hI] at e; cases e) e'⟩

theorem FrameOk.but1 {a : Addr} (F : FrameOk prog w env m fs as s.heap) (ha : a ∈ fs) (hao : a ∉ own env) (hs : Stp [a] k as s as s') (nd : (as ++ fs).Nodup) : FrameOk prog w env m fs as s'.heap := by
  have kp : ∀ b ∈ own env, ∀ o, s.heap.get? b = some o → s'.heap.get? b = some o := fun b hb o e => hs.kept b o (nd_out nd (own_sub F b hb)) (fun q => hao (List.mem_singleton.mp q ▸ hb)) e
  have vm : ∀ v u, VR prog w fs as s.heap v u → VR prog w fs as s'.heap v u := fun v u V => by
    cases v with
    | d t => exact Rd.move (hs.mv fun b hb => List.mem_singleton.mp hb ▸ ha) V
    | m i => exact V
    | g v => exact V
  have hc : ∀ x c, env.cells.lookup x = some c → c ∈ own env := fun x c e => List.mem_cons_of_mem _ (List.mem_map.mpr ⟨(x, c), mem_of_lookup e, rfl⟩)
  refine el_ea (F.ns) fun mm hn hv => ?_
  refine ⟨⟨mm, hn.at' fun o e => kp _ (List.mem_cons_self ..) o e, fun x v e hk => ?_⟩, fun x v e hk => ?_, fun x c e => ?_, F.inj, F.loc, F.ne, F.all⟩
  · refine el_ea (hv x v e hk) fun u h1 h2 => ?_; exact ⟨u, vm v u h1, h2⟩
  · refine el_eeaa (F.cl x v e hk) fun c u h1 h2 h3 => ?_; exact (in_eeaa c u h1 (isCell_at h2 fun o e => kp _ (hc x c h1) o e) (vm v u h3))
  · refine el_ae (F.cells x c e) fun h1 v h2 => ?_; exact ⟨h1, v, isCell_at h2 fun o e' => kp _ (hc x c e) o e'⟩

theorem W1.for_ {x : Str} {px pos : Pos} {iter : Expr} {body : List Stmt} (h : WI prog w h₀ n sc m iter σ fun xs σ₁ => WL prog w h₀ n sc k x body xs m σ₁ K)
    (hs : ∀ env v, foldedSetIterable iter env v = pure v := by intro _ _; rfl) : W1 prog w h₀ n sc k m (.For (.Name x px) iter body [] pos) σ K := by
  intro A env fs as s hA hE R F hl
  refine wpAny_For (wpAny_mono (h A env fs as s hA hE R F) (fun v s₁ h₁ => wpAny_mono h₁ (fun it s₂ zf216 => el_eeeeaaaaa zf216 fun I xs a₂ σ₂ hit hI st R₂ T₂ k₂ => ?_) fun _ _ x => x) fun _ _ x => x) (hs env)
  subst hit
  have F₂ := F.widen hI st R.nd
  have ho : ∀ b ∈ own env, b ∈ fs := own_sub F
  have hIfs : I ∉ fs := fun q => by
    obtain ⟨o, e⟩ := R.there I (List.mem_append_right _ q)
    rw [hI] at e; cases e
  have hIo : I ∉ own env := fun q => hIfs (ho I q)
  have hIf : I ∈ I :: fs := List.mem_cons_self ..
  have hwo : ∀ b ∈ own env, b ∈ I :: fs := fun b hb => List.mem_cons_of_mem _ (ho b hb)
  refine codeAny_forLoop (fun j s' => ∃ xs' m' a' σ', j = xs'.length ∧ Stp (I :: own env) k a₂ s₂ a' s' ∧ Rel prog w h₀ (I :: fs) a' σ' s' ∧ FrameOk prog w env m' (I :: fs) a' s'.heap ∧ Itr prog w A I xs' (I :: fs) a' s'.heap ∧ k ≤ a'.length ∧
    WL prog w h₀ n sc k x body xs' m' σ' K) ?_ xs.length (in_eeeeaaaaaa xs m a₂ σ₂ rfl (Stp.refl ..) R₂ F₂ T₂ (Nat.le_trans hl st.grows) k₂)
  intro j s' zr
  refine el_eeeeaaaaaa zr fun xs' m' a' σ' ej st' R' F' T' hl' k' => ?_
  clear zr
  cases xs' with
  | nil =>
    refine wpAny_mono (T'.end fun h' he => ?_) (fun _ _ x => x) fun _ _ x => False.elim x
    exact wpAny_execs_nil (in_eeeeaaaaa .next m' a' σ' rfl (Stp.spent hI st st' hl he) (R'.spent he) (F'.spent he ho hIfs) hl' k')
  | cons v vs =>
    refine wpAny_mono (T'.next (k := k) R' hIf fun u s₃ V₃ st₃ R₃ T₃ _ => ?_) (fun _ _ x => x) fun _ _ x => False.elim x
    have hIa : I ∉ a' := nd_out R'.nd hIf
    have F₃ : FrameOk prog w env m' (I :: fs) a' s₃.heap := F'.but1 hIf hIo st₃ R'.nd
    have k'' : WN prog w h₀ sc k m' x v σ' _ := k'
    refine wpAny_assign_Name (wpAny_mono (k'' A env (I :: fs) a' s₃ u hE R₃ F₃ hl' V₃) (fun _ s₄ zf250 => PostS.el zf250 fun fl m₄ a₄ σ₄ hf st₄ R₄ F₄ hl₄ k₄ => ?_) fun _ _ x => False.elim x)
    refine wpAny_mono (k₄ A env (I :: fs) a₄ s₄ hA hE R₄ F₄ hl₄) (fun f s₅ zf251 => PostS.el zf251 fun fl₅ m₅ a₅ σ₅ hf₅ st₅ R₅ F₅ hl₅ k₅ => ?_) fun _ _ x => False.elim x
    have sub1 : ∀ b ∈ own env, b ∈ I :: own env := fun b hb => List.mem_cons_of_mem _ hb
    have s14 : Stp (I :: own env) k a₂ s₂ a₅ s₅ := (st'.trans (st₃.weaken (fun b hb => List.mem_singleton.mp hb ▸ List.mem_cons_self ..) (Nat.le_refl _))).trans ((st₄.trans st₅).weaken sub1 (Nat.le_refl _))
    have T₅ : Itr prog w A I vs (I :: fs) a₅ s₅.heap := T₃.step (st₄.trans st₅) hIa hIo hwo
    have fin : ∀ {fl : Fl} {f : Flow}, FlR prog w (I :: fs) a₅ s₅.heap fl f → K fl m₅ σ₅ → PostS prog w h₀ env k fs as s K f s₅ := fun {fl} {f} hfl kk => by
      have hsub : fs.Sublist (I :: fs) := List.sublist_cons_self ..
      refine (in_eeeeaaaaa fl m₅ a₅ σ₅ ?_ (Stp.mono1 hI st s14 hl) (R₅.leave hsub) (F₅.leave hsub ho) hl₅ kk)
      cases fl with
      | ret v => refine el_ea (hfl) fun u e V => ?_; try clear hfl; exact ⟨u, e, V.leave hsub⟩
      | next => exact hfl
      | brk => exact hfl
      | cont => exact hfl
    cases fl₅ with
    | next => cases hf₅; exact (⟨vs.length, (by rw [ej]; exact Nat.lt_succ_self _), in_eeeeaaaaaa vs m₅ a₅ σ₅ rfl s14 R₅ F₅ T₅ hl₅ k₅⟩)
    | cont => cases hf₅; exact (⟨vs.length, (by rw [ej]; exact Nat.lt_succ_self _), in_eeeeaaaaaa vs m₅ a₅ σ₅ rfl s14 R₅ F₅ T₅ hl₅ k₅⟩)
    | brk => cases hf₅; exact fin (fl := .next) rfl k₅
    | ret v => refine el_ea (hf₅) fun u zq1 V => ?_; subst zq1; try clear hf₅; exact fin (fl := .ret v) ⟨u, rfl, V⟩ k₅
end
end Mine
end
section
namespace Mine
section
variable {prog : Program} {w : World} {h₀ : Heap} {fs as as' as'' ow : List Addr} {σ σ' σ'' : List MO} {s s' s'' : Shared} {k n : Nat} {sc : Scope} {m : List (Str × Vl)} {K : List Vl → List MO → Prop}
  {env : Env} {A : Around} {I : Addr} {xs : List Vl}

theorem noObj (h : Heap) : h.get? h.objs.size = none := by
  cases q : h.get? h.objs.size with
  | none => rfl
  | some o => exact absurd (Heap.lt_size q) (Nat.lt_irrefl _)
/-- a new iterator -/
theorem Rel.newIt {o : Obj} (hf : o.isFreed = false) (R : Rel prog w h₀ fs as σ s) : Rel prog w h₀ (s.heap.objs.size :: fs) as σ { s with heap := s.heap.push o } :=
  R.enter (t := s.toks) (noObj _) (fun _ _ e => Heap.get?_push_of_some o e) ⟨o, Heap.get?_push_size _ hf⟩
theorem WI.list {e : Expr} (h : WE prog w h₀ n sc m e σ fun v σ₁ => ∃ ds, v = .d (.lst ds) ∧ K (ds.map .d) σ₁) : WI prog w h₀ n sc m e σ K := by
  intro A env fs as s hA hE R F
  refine wpAny_mono (h A env fs as s hA hE R F) (fun u s₁ zf20 => PostE.elq1 zf20 fun ds a₁ σ₁ st R₁ V kk => ?_) fun _ _ x => x

  apply Rd.lstE V; intro ax vs na hl hr
  · skip
    refine wpAny_pyIter_list hl ?_
    have hne : ax ≠ s₁.heap.objs.size := by refine el_ea (hl) fun o e _ => ?_; try clear hl; exact Nat.ne_of_lt (Heap.lt_size e)
    have hk : ∀ b o, s₁.heap.get? b = some o → (s₁.heap.push { cls := .type "list_iterator", data := .fields #[.ref ax, .int 0 0] }).get? b = some o := fun _ _ e => Heap.get?_push_of_some _ e
    refine (in_eeeeaaaaa _ (ds.map .d) a₁ σ₁ rfl ?_ (st.transE (Stp.keptAll hk rfl)) (R₁.newIt rfl) (in_eeeeeaaaaa ([ax]) _ _ _ 0 (Wk.list hA.handled _ ax hne (List.toArray vs)) ⟨⟨_, Heap.get?_push_size _ rfl, rfl, rfl⟩, hl.push _⟩ ?_ (fun j v u e p => ?_) (fun b hb => ?_) (fun j v e => ?_)) kk)
    · cases q : s.heap.get? s₁.heap.objs.size with
      | none => rfl
      | some o => obtain ⟨o', e'⟩ := st.thr _ o q; rw [noObj] at e'; cases e'
    · simp [hr.length]
    · rw [List.getElem?_map] at e
      cases q : ds[j]? with
      | none => rw [q] at e; cases e
      | some d =>
        rw [q] at e; cases e
        refine el_ea (hr.get q) fun u' h1 h2 => ?_
        have : u = u' := by
          have p' : vs[j]? = some u := by simpa using p
          rw [h1] at p'; exact (Option.some.inj p').symm
        subst this
        exact VR.fresh (v := .d d) h2 (noObj _) hk
    · rw [List.mem_singleton.mp hb]
      intro q
      rcases List.mem_append.mp q with q | q
      · exact na (List.mem_append_left _ q)
      · rcases List.mem_cons.mp q with q | q
        · exact hne q
        · exact na (List.mem_append_right _ q)
    · rw [List.getElem?_map] at e
      cases q : ds[j]? with
      | none => rw [q] at e; cases e
      | some d => rw [q] at e; cases e; exact ⟨d, rfl⟩
theorem WI.tuple {e : Expr} (h : WE prog w h₀ n sc m e σ fun v σ₁ => ∃ ds, v = .d (.tup ds) ∧ K (ds.map .d) σ₁) : WI prog w h₀ n sc m e σ K := by
  intro A env fs as s hA hE R F
  refine wpAny_mono (h A env fs as s hA hE R F) (fun u s₁ zf55 => PostE.elq1 zf55 fun ds a₁ σ₁ st R₁ V kk => ?_) fun _ _ x => x

  apply Rd.tupE V; intro ax vs na hl hr
  · skip
    refine wpAny_pyIter_tuple hl ?_
    have hne : ax ≠ s₁.heap.objs.size := by refine el_ea (hl) fun o e _ => ?_; try clear hl; exact Nat.ne_of_lt (Heap.lt_size e)
    have hk : ∀ b o, s₁.heap.get? b = some o → (s₁.heap.push { cls := .type "tuple_iterator", data := .fields #[.ref ax, .int 0 0] }).get? b = some o := fun _ _ e => Heap.get?_push_of_some _ e
    refine (in_eeeeaaaaa _ (ds.map .d) a₁ σ₁ rfl ?_ (st.transE (Stp.keptAll hk rfl)) (R₁.newIt rfl) (in_eeeeeaaaaa ([ax]) _ _ _ 0 (Wk.tuple hA.handled _ ax hne (List.toArray vs)) ⟨⟨_, Heap.get?_push_size _ rfl, rfl, rfl⟩, isTup_at hl fun o e => hk ax o e⟩ ?_ (fun j v u e p => ?_) (fun b hb => ?_) (fun j v e => ?_)) kk)
    · cases q : s.heap.get? s₁.heap.objs.size with
      | none => rfl
      | some o => obtain ⟨o', e'⟩ := st.thr _ o q; rw [noObj] at e'; cases e'
    · simp [hr.length]
    · rw [List.getElem?_map] at e
      cases q : ds[j]? with
      | none => rw [q] at e; cases e
      | some d =>
        rw [q] at e; cases e
        refine el_ea (hr.get q) fun u' h1 h2 => ?_
        have : u = u' := by
          have p' : vs[j]? = some u := by simpa using p
          rw [h1] at p'; exact (Option.some.inj p').symm
        subst this
        exact VR.fresh (v := .d d) h2 (noObj _) hk
    · rw [List.mem_singleton.mp hb]
      intro q
      rcases List.mem_append.mp q with q | q
      · exact na (List.mem_append_left _ q)
      · rcases List.mem_cons.mp q with q | q
        · exact hne q
        · exact na (List.mem_append_right _ q)
    · rw [List.getElem?_map] at e
      cases q : ds[j]? with
      | none => rw [q] at e; cases e
      | some d => rw [q] at e; cases e; exact ⟨d, rfl⟩

/-- the numbers of a range -/
noncomputable def nums (a c : Int) : Nat → List Vl
  | 0 => []
  | n + 1 => .d (.int a) :: nums (a + c) c n
theorem nums_length (a c : Int) : ∀ n, (nums a c n).length = n
  | 0 => rfl
  | n + 1 => by rw [nums, List.length_cons, nums_length (a + c) c n]
theorem nums_get (c : Int) : ∀ (n : Nat) (a : Int) (j : Nat) (v : Vl), (nums a c n)[j]? = some v → v = .d (.int (a + j * c))
  | 0, a, j, v, e => by simp [nums] at e
  | n + 1, a, 0, v, e => by simp [nums] at e; rw [← e]; simp
  | n + 1, a, j + 1, v, e => by
    simp [nums] at e
    rw [nums_get c n (a + c) j v e]
    congr 2
    push_cast
    rw [Int.add_mul, Int.one_mul]; lia -abstractProof
theorem size_up {a b : Int} {N : Nat} (h : b = a + N) (h' : 0 ≤ a) : Builtin.Range.rangeSize a b 1 = N := by
  subst h
  unfold Builtin.Range.rangeSize
  rw [if_pos (by decide)]
  split
  · rw [Int.ediv_one]; lia -abstractProof
  · lia -abstractProof
theorem size_down {a : Nat} (h : a ≤ 100) : Builtin.Range.rangeSize a (-1) (-1) = ((a + 1 : Nat) : Int) := by
  unfold Builtin.Range.rangeSize
  rw [if_neg (by decide), if_pos (by lia -abstractProof)]
  have : (-(-1 : Int)) = 1 := by decide
  rw [this, Int.ediv_one]; push_cast; lia -abstractProof
theorem small_range {a b : Int} (h1 : 0 ≤ a) (h2 : a ≤ 100) (h3 : a ≤ b) (h4 : b ≤ 100) : Builtin.Range.small a b 1 = true := by
  obtain ⟨N, hN⟩ : ∃ N : Nat, b = a + N := ⟨(b - a).toNat, by lia -abstractProof⟩
  unfold Builtin.Range.small
  rw [size_up hN h1]
  unfold Builtin.Range.rangeFitsLong
  simp only [Bool.and_eq_true, decide_eq_true_eq, Bool.or_eq_true]
  refine ⟨⟨⟨⟨?_, ?_⟩, ?_⟩, ?_⟩, .inr ?_⟩ <;> (try rw [if_pos (by decide)]) <;> (try simp only [Bool.and_eq_true, decide_eq_true_eq]) <;> lia -abstractProof
theorem small_range3 {a : Int} (h1 : 0 ≤ a) (h2 : a ≤ 100) : Builtin.Range.small a (-1) (-1) = true := by
  obtain ⟨N, hN⟩ : ∃ N : Nat, a = N := ⟨a.toNat, by lia -abstractProof⟩
  subst hN
  unfold Builtin.Range.small
  rw [size_down (by lia -abstractProof)]
  unfold Builtin.Range.rangeFitsLong
  simp only [Bool.and_eq_true, decide_eq_true_eq, Bool.or_eq_true]
  refine ⟨⟨⟨⟨?_, ?_⟩, ?_⟩, ?_⟩, .inr ?_⟩ <;> (try rw [if_neg (by decide)]) <;> (try simp only [Bool.and_eq_true, decide_eq_true_eq]) <;> lia -abstractProof
/-- a range object is iterated over -/
theorem range_it {a b c : Int} {t u v : Tok} {r : Addr} {N : Nat} (hh : A.handled = none) (hsm : Builtin.Range.small a b c = true) (hN : Builtin.Range.rangeSize a b c = (N : Int))
    (hr : IsRange s'.heap r a b c t u v) (st : Stp [] as.length as s as' s') (R : Rel prog w h₀ fs as' σ s') (kk : K (nums a c N) σ) :
    wpAny (model prog w) A (pyIter (.ref r)) (fun it s₂ => ∃ I xs as' σ', it = .ref I ∧ s.heap.get? I = none ∧ Stp [] as.length as s as' s₂ ∧ Rel prog w h₀ (I :: fs) as' σ' s₂ ∧ Itr prog w A I xs (I :: fs) as' s₂.heap ∧ K xs σ') NoE s' := by
  refine wpAny_pyIter_range hr hsm ?_
  have hk : ∀ b' o, s'.heap.get? b' = some o → (s'.heap.push { cls := .type "range_iterator", data := .fields #[rawInt a, rawInt (Builtin.Range.rangeSize a b c), rawInt c] }).get? b' = some o := fun _ _ e => Heap.get?_push_of_some _ e
  refine (in_eeeeaaaaa _ (nums a c N) as' σ rfl ?_ (st.transE (Stp.keptAll hk rfl)) (R.newIt rfl) (in_eeeeeaaaaa ([]) N _ _ 0 (Wk.range hh _ a c N) ?_ ?_ (fun j v u e p => ?_) (fun b hb => (nomatch hb)) (fun j v e => ⟨_, nums_get c N a j v e⟩)) kk)
  · cases q : s.heap.get? s'.heap.objs.size with
    | none => rfl
    | some o => obtain ⟨o', e'⟩ := st.thr _ o q; rw [noObj] at e'; cases e'
  · have e0 := Heap.get?_push_size s'.heap (o := { cls := .type "range_iterator", data := .fields #[rawInt a, rawInt (Builtin.Range.rangeSize a b c), rawInt c] }) rfl
    rw [hN] at e0 ⊢
    simpa using e0
  · rw [nums_length]; lia -abstractProof
  · rw [nums_get c N a j v e]
    obtain ⟨tk, rfl⟩ := p
    simp only [Nat.zero_add]
    exact VR.int _ _
theorem WI.range1 {x : Str} {p pos : Pos} {e : Expr} (h : WE prog w h₀ n sc m (.Name x p) σ fun v σ₁ => v = .g (.type "range") ∧ WE prog w h₀ n sc m e σ₁ fun v σ₂ => ∃ N : Nat, v = .d (.int N) ∧ N ≤ 100 ∧ K (nums 0 1 N) σ₂)
    (hs : ∀ env, starEach [e] env = [(false, eval e env)] := by intro _; rfl) : WI prog w h₀ n sc m (.Call (.Name x p) [e] [] pos) σ K := by
  intro A env fs as s hA hE R F
  refine Call_Name1 (wpAny_mono (h A env fs as s hA hE R F) (fun u s₁ zf153 => ?_) fun _ _ x => x) (hs env)
  apply PostE.elg zf153; intro a₁ σ₁ st R₁ kk
  refine PyProof.Rows.callWith_type rfl (Calls.evalArgs_plain (Calls.spliced_cons (wpAny_mono (kk A env fs a₁ s₁ hA hE R₁ (F.stepE R.nd st)) (fun u₂ s₂ zf157 => PostE.elq1 zf157 fun N a₂ σ₂ st₂ R₂ V₂ zk => el_a zk fun hN k₂ => Calls.spliced_nil ?_) fun _ _ x => x)))

  obtain ⟨t, rfl⟩ := V₂.int_inv
  refine call_range_1 ?_
  have hk : ∀ b' o, s₂.heap.get? b' = some o → (s₂.heap.push { cls := .type "range", data := .fields #[.int 0 s₂.toks, .int N t, .int 1 (s₂.toks + 1)] }).get? b' = some o := fun _ _ e => Heap.get?_push_of_some _ e
  exact range_it (N := N) hA.handled (small_range (by lia -abstractProof) (by lia -abstractProof) (by lia -abstractProof) (by lia -abstractProof)) (size_up (by lia -abstractProof) (by lia -abstractProof)) (Heap.get?_push_size _ rfl) ((st.transE st₂).transE (Stp.keptAll hk rfl)) (R₂.kept hk R₂.bare) k₂
/-- range(a, -1, -1) -/
theorem WI.range3 {x : Str} {p pos : Pos} {e₁ e₂ e₃ : Expr} (h : WE prog w h₀ n sc m (.Name x p) σ fun v σ₁ => v = .g (.type "range") ∧ WE prog w h₀ n sc m e₁ σ₁ fun v₁ σ₂ => WE prog w h₀ n sc m e₂ σ₂ fun v₂ σ₃ => WE prog w h₀ n sc m e₃ σ₃ fun v₃ σ₄ =>
      ∃ (a : Nat), v₁ = .d (.int a) ∧ v₂ = .d (.int (-1)) ∧ v₃ = .d (.int (-1)) ∧ a ≤ 100 ∧ K (nums a (-1) (a + 1)) σ₄)
    (hs : ∀ env, starEach [e₁, e₂, e₃] env = [(false, eval e₁ env), (false, eval e₂ env), (false, eval e₃ env)] := by intro _; rfl) : WI prog w h₀ n sc m (.Call (.Name x p) [e₁, e₂, e₃] [] pos) σ K := by
  intro A env fs as s hA hE R F
  refine Call_Name (trees := [(false, eval e₁ env), (false, eval e₂ env), (false, eval e₃ env)]) (by rw [hs env]; rfl) (wpAny_mono (h A env fs as s hA hE R F) (fun u s₁ zf185 => ?_) fun _ _ x => x)
  apply PostE.elg zf185; intro a₁ σ₁ st R₁ kk
  have F₁ := F.stepE R.nd st
  refine PyProof.Rows.callWith_type rfl (Calls.evalArgs_plain (Calls.spliced_cons (wpAny_mono (kk A env fs a₁ s₁ hA hE R₁ F₁) (fun u₂ s₂ zf190 => PostE.el zf190 fun v₂ a₂ σ₂ st₂ R₂ V₂ k₂ => Calls.spliced_cons ?_) fun _ _ x => x)))
  have F₂ := F₁.stepE R₁.nd st₂
  refine wpAny_mono (k₂ A env fs a₂ s₂ hA hE R₂ F₂) (fun u₃ s₃ zf192 => PostE.el zf192 fun v₃ a₃ σ₃ st₃ R₃ V₃ k₃ => Calls.spliced_cons ?_) fun _ _ x => x
  refine wpAny_mono (k₃ A env fs a₃ s₃ hA hE R₃ (F₂.stepE R₂.nd st₃)) (fun u₄ s₄ zf193 => PostE.el zf193 fun v₄ a₄ σ₄ st₄ R₄ V₄ zk => el_eaaaa zk fun a q1 q2 q3 h2 k₄ => Calls.spliced_nil ?_) fun _ _ x => x
  subst q1; subst q2; subst q3
  obtain ⟨t, rfl⟩ := V₂.int_inv
  obtain ⟨t', rfl⟩ := V₃.int_inv
  obtain ⟨t'', rfl⟩ := V₄.int_inv
  refine call_range_3 (by decide) ?_ (.inl (PyProof.noPylong_small (by decide)))
  have hk : ∀ b' o, s₄.heap.get? b' = some o → (s₄.heap.push { cls := .type "range", data := .fields #[.int a t, .int (-1) t', .int (-1) t''] }).get? b' = some o := fun _ _ e => Heap.get?_push_of_some _ e
  exact range_it (N := a + 1) hA.handled (small_range3 (by lia -abstractProof) (by lia -abstractProof)) (size_down (by lia -abstractProof)) (Heap.get?_push_size _ rfl) ((((st.transE st₂).transE st₃).transE st₄).transE (Stp.keptAll hk rfl)) (R₄.kept hk R₄.bare) k₄
end
end Mine
end
section
namespace Mine

noncomputable def dget (kvs : List (Str × D)) (k : Str) : Option D := (kvs.find? fun kv => kv.1 = k).map (·.2)
noncomputable def dset (kvs : List (Str × D)) (k : Str) (d : D) : List (Str × D) :=
  if kvs.any (fun kv => kv.1 = k) then kvs.map (fun kv => if kv.1 = k then (kv.1, d) else kv) else kvs ++ [(k, d)]

section
variable (prog : Program) (w : World) (h₀ : Heap)
noncomputable def WU (n : Nat) (vs : List Vl) (t : List Value → Sem Unit) (σ : List MO) (K : List MO → Prop) : Prop :=
  ∀ A fs as s us, Room n A → Rel prog w h₀ fs as σ s → VRs prog w fs as s.heap vs us →
    wpAny (model prog w) A (t us) (fun _ s' => ∃ as' σ', Stp [] as.length as s as' s' ∧ Rel prog w h₀ fs as' σ' s' ∧ K σ') NoE s
end
noncomputable def tri3u (f : Value → Value → Value → Sem Unit) : List Value → Sem Unit
  | [a, b, c] => f a b c
  | _ => .unsupported ""

section
variable {prog : Program} {w : World} {h₀ : Heap} {fs as as' as'' ow : List Addr} {σ σ' σ'' : List MO} {s s' s'' : Shared} {k n : Nat} {sc : Scope} {m : List (Str × Vl)} {K : Vl → List MO → Prop} {gl : Str → Option Value}
  {env : Env} {A : Around} {I : Addr}

theorem RdKv.length {ex : List Addr} {h : Heap} {kv : List (Str × Value)} {xs : List (Str × D)} : RdKv prog w ex h kv xs → kv.length = xs.length
  | .nil => rfl
  | .cons _ r => by simp [r.length]
theorem RdKv.get {ex : List Addr} {h : Heap} {k : Str} {kv : List (Str × Value)} {xs : List (Str × D)} : RdKv prog w ex h kv xs → (dget xs k = none ∧ valueAt kv k = none) ∨ ∃ d u, dget xs k = some d ∧ valueAt kv k = some u ∧ Rd prog w ex h u d
  | .nil => .inl ⟨rfl, rfl⟩
  | .cons (k := y) (v := v) (d := d) a r => by
    unfold dget valueAt
    rw [List.find?_cons, List.find?_cons]
    by_cases q : y = k
    · simp only [q, decide_true]
      exact .inr (in_eeaa d v rfl rfl a)
    · simp only [q, decide_false]
      exact r.get
theorem RdKv.any {ex : List Addr} {h : Heap} {k : Str} {kv : List (Str × Value)} {xs : List (Str × D)} : RdKv prog w ex h kv xs → kv.any (fun p => decide (p.1 = k)) = xs.any fun p => decide (p.1 = k)
  | .nil => rfl
  | .cons _ r => by simp [r.any]
theorem RdKv.map {ex : List Addr} {h : Heap} {k : Str} {u : Value} {d : D} (hu : Rd prog w ex h u d) {kv : List (Str × Value)} {xs : List (Str × D)} : RdKv prog w ex h kv xs →
    RdKv prog w ex h (kv.map fun p => if p.1 = k then (p.1, u) else p) (xs.map fun p => if p.1 = k then (p.1, d) else p)
  | .nil => .nil
  | .cons (k := y) a r => by
    rw [List.map_cons, List.map_cons]
    by_cases q : y = k
    · simp only [q, if_true]; exact .cons hu (r.map hu)
    · simp only [q, if_false]; exact .cons a (r.map hu)
theorem RdKv.append {ex : List Addr} {h : Heap} {k : Str} {u : Value} {d : D} (hu : Rd prog w ex h u d) {kv : List (Str × Value)} {xs : List (Str × D)} : RdKv prog w ex h kv xs → RdKv prog w ex h (kv ++ [(k, u)]) (xs ++ [(k, d)])
  | .nil => .cons hu .nil
  | .cons a r => .cons a (r.append hu)
theorem RdKv.stored {ex : List Addr} {h : Heap} {k : Str} {u : Value} {d : D} {kv : List (Str × Value)} {xs : List (Str × D)} (r : RdKv prog w ex h kv xs) (hu : Rd prog w ex h u d) : RdKv prog w ex h (stored kv k u) (dset xs k d) := by
  unfold PySem.stored dset
  rw [← r.any (k := k)]
  split
  · exact r.map hu
  · exact r.append hu

/-- one of the written objects has changed -/
theorem Rel.set {i : Nat} {a : Addr} {x : MO} {h' : Heap} {t : Nat} (R : Rel prog w h₀ fs as σ s) (ha : as[i]? = some a) (hs : Heap.SameBut a s.heap h') (ht : ∃ o, h'.get? a = some o) (hx : MOk prog w fs as h' a x) :
    Rel prog w h₀ fs as (σ.set i x) { s with heap := h', toks := t } := by
  have haa : a ∈ as := List.mem_of_getElem? ha
  have ne : ∀ b, b ∉ as ++ fs → b ≠ a := fun b hb e => hb (e ▸ List.mem_append_left _ haa)
  refine ⟨fun b o e => ⟨(hs.2 b (ne b (R.base b o e).2)).trans (R.base b o e).1, (R.base b o e).2⟩, by rw [List.length_set]; exact R.len, R.nd, fun b hb => ?_, fun j b y hb hy => ?_, R.bare⟩
  · by_cases e : b = a
    · subst e; exact ht
    · obtain ⟨o, ho⟩ := R.there b hb
      exact ⟨o, (hs.2 b e).trans ho⟩
  · by_cases hij : i = j
    · subst hij
      rw [ha] at hb; cases hb
      have : y = x := by
        have hl : i < σ.length := by rw [← R.len]; exact (List.getElem?_eq_some_iff.mp ha).1
        rw [List.getElem?_set_self hl] at hy
        exact (Option.some.inj hy).symm
      subst this; exact hx
    · rw [List.getElem?_set_ne hij] at hy
      have hba : b ≠ a := fun e => by
        subst e
        have hn := (List.nodup_append.mp R.nd).1
        obtain ⟨h1, e1⟩ := List.getElem?_eq_some_iff.mp ha
        obtain ⟨h2, e2⟩ := List.getElem?_eq_some_iff.mp hb
        exact hij ((List.getElem_inj hn).mp (e1.trans e2.symm))
      exact (R.mo j b y hb hy).move (fun _ _ _ e => e) (fun c o hc e => ⟨(hs.2 c (ne c hc)).trans e, hc⟩) fun o e => (hs.2 b hba).trans e
theorem Stp.set {i : Nat} {a : Addr} {h' : Heap} {t : Nat} (ha : as[i]? = some a) (hs : Heap.SameBut a s.heap h') (ht : ∃ o, h'.get? a = some o) : Stp ow k as s as { s with heap := h', toks := t } :=
  ⟨fun _ _ _ e => e, fun _ h q => absurd h q, fun b o h1 _ e => (hs.2 b fun q => h1 (q ▸ List.mem_of_getElem? ha)).trans e, fun b o e => by
    by_cases q : b = a
    · subst q; exact ht
    · exact ⟨o, (hs.2 b q).trans e⟩, rfl⟩
theorem Rd.set {i : Nat} {a : Addr} {h h' : Heap} {u : Value} {d : D} (V : Rd prog w (as ++ fs) h u d) (ha : as[i]? = some a) (hs : Heap.SameBut a h h') : Rd prog w (as ++ fs) h' u d :=
  V.move fun b _ hb e => ⟨(hs.2 b fun q => hb (q ▸ List.mem_append_left _ (List.mem_of_getElem? ha))).trans e, hb⟩
theorem RdKv.set {i : Nat} {a : Addr} {h h' : Heap} {u : List (Str × Value)} {d : List (Str × D)} (V : RdKv prog w (as ++ fs) h u d) (ha : as[i]? = some a) (hs : Heap.SameBut a h h') : RdKv prog w (as ++ fs) h' u d :=
  V.move fun b _ hb e => ⟨(hs.2 b fun q => hb (q ▸ List.mem_append_left _ (List.mem_of_getElem? ha))).trans e, hb⟩
theorem RdAll.set {i : Nat} {a : Addr} {h h' : Heap} {u : List Value} {d : List D} (V : RdAll prog w (as ++ fs) h u d) (ha : as[i]? = some a) (hs : Heap.SameBut a h h') : RdAll prog w (as ++ fs) h' u d :=
  V.move fun b _ hb e => ⟨(hs.2 b fun q => hb (q ▸ List.mem_append_left _ (List.mem_of_getElem? ha))).trans e, hb⟩

/-- a new written object -/
theorem Rel.alloc {o : Obj} {x : MO} {t : Nat} (R : Rel prog w h₀ fs as σ s) (hf : o.isFreed = false) (hx : MOk prog w fs (as ++ [s.heap.objs.size]) (s.heap.push o) s.heap.objs.size x) (hbd : ∀ y ∈ σ, y.bd ≤ σ.length) :
    Rel prog w h₀ fs (as ++ [s.heap.objs.size]) (σ ++ [x]) { s with heap := s.heap.push o, toks := t } := by
  have hk : ∀ b o', s.heap.get? b = some o' → (s.heap.push o).get? b = some o' := fun _ _ e => Heap.get?_push_of_some o e
  have mv : ∀ b o', b ∉ as ++ fs → s.heap.get? b = some o' → (s.heap.push o).get? b = some o' ∧ b ∉ (as ++ [s.heap.objs.size]) ++ fs := fun b o' hb e => ⟨hk b o' e, fun q => by
    rw [List.append_assoc] at q
    rcases List.mem_append.mp q with q | q
    · exact hb (List.mem_append_left _ q)
    · rcases List.mem_append.mp q with q | q
      · rw [List.mem_singleton.mp q, noObj] at e; cases e
      · exact hb (List.mem_append_right _ q)⟩
  have hout := next_out R
  refine ⟨fun b o' e => mv b o' (R.base b o' e).2 (R.base b o' e).1, by simp [R.len], ?_, fun a ha => ?_, fun i a y ha hy => ?_, R.bare⟩
  · have hn := R.nd
    rw [List.nodup_append] at hn ⊢
    refine ⟨List.nodup_append.mpr ⟨hn.1, by simp, fun a ha b hb e => ?_⟩, hn.2.1, fun a ha b hb e => ?_⟩
    · subst e
      exact hout (List.mem_append_left _ (List.mem_singleton.mp hb ▸ ha))
    · rcases List.mem_append.mp ha with q | q
      · exact hn.2.2 a q b hb e
      · subst e
        exact hout (List.mem_append_right _ (List.mem_singleton.mp q ▸ hb))
  · by_cases q : a = s.heap.objs.size
    · subst q; exact ⟨o, Heap.get?_push_size _ hf⟩
    · have : a ∈ as ++ fs := by
        rw [List.append_assoc] at ha
        rcases List.mem_append.mp ha with h | h
        · exact List.mem_append_left _ h
        · rcases List.mem_append.mp h with h | h
          · exact absurd (List.mem_singleton.mp h) q
          · exact List.mem_append_right _ h
      obtain ⟨o', e⟩ := R.there a this
      exact ⟨o', hk a o' e⟩
  · by_cases hi : i < as.length
    · rw [List.getElem?_append_left hi] at ha
      rw [List.getElem?_append_left (by rw [← R.len]; exact hi)] at hy
      exact (R.mo i a y ha hy).move (fun j b hj e => by
        have : j < as.length := (List.getElem?_eq_some_iff.mp e).1
        rw [List.getElem?_append_left this]; exact e) mv fun o' e => hk a o' e
    · have hi' : i = as.length := by
        have := (List.getElem?_eq_some_iff.mp ha).1
        simp at this; lia -abstractProof
      subst hi'
      rw [List.getElem?_append_right (Nat.le_refl _)] at ha
      rw [R.len, List.getElem?_append_right (Nat.le_refl _)] at hy
      simp at ha hy
      subst ha; subst hy; exact hx
theorem Stp.alloc {o : Obj} {t : Nat} : Stp ow as.length as s (as ++ [s.heap.objs.size]) { s with heap := s.heap.push o, toks := t } :=
  ⟨fun i a hi e => by rw [List.getElem?_append_left hi]; exact e, fun a ha hn => by
    rcases List.mem_append.mp ha with q | q
    · exact absurd q hn
    · rw [List.mem_singleton.mp q]; exact noObj _, fun b o' _ _ e => Heap.get?_push_of_some o e, fun b o' e => ⟨o', Heap.get?_push_of_some o e⟩, rfl⟩

theorem WE.dict0 {p : Pos} (h : K (.m σ.length) (σ ++ [.dict []])) (hbd : ∀ y ∈ σ, y.bd ≤ σ.length) : WE prog w h₀ n sc m (.Dict [] [] p) σ K := by
  intro A env fs as s hA hE R F
  refine wpAny_Dict_empty (PostE.mk (v := .m σ.length) (as' := as ++ [s.heap.objs.size]) (σ' := σ ++ [.dict []]) Stp.alloc (R.alloc (x := .dict []) rfl ⟨[], Heap.DictOf.new _, .nil⟩ hbd) ⟨s.heap.objs.size, ?_, rfl⟩ h)
  rw [← R.len, List.getElem?_append_right (Nat.le_refl _)]; simp
theorem WE.dict0d (G : Glb h₀ gl) {p : Pos} (h : K (.d (.dct [])) σ) : WE prog w h₀ n sc m (.Dict [] [] p) σ K := by
  intro A env fs as s hA hE R F
  refine wpAny_Dict_empty (PostE.push (t := s.toks) R (v := .d (.dct [])) (.dct (next_out R) ?_ (Heap.DictOf.new _) .nil) h)
  obtain ⟨o, e⟩ := G.sysm
  have := Heap.lt_size (R.base _ _ e).1
  exact Nat.ne_of_gt this
theorem WE.list0 {p : Pos} (h : K (.m σ.length) (σ ++ [.list []])) (hbd : ∀ y ∈ σ, y.bd ≤ σ.length) : WE prog w h₀ n sc m (.List [] p) σ K := by
  intro A env fs as s hA hE R F
  refine wpAny_List_spliced (Calls.spliced_nil (⟨by decide, in_eeeaaa (.m σ.length) (as ++ [s.heap.objs.size]) (σ ++ [.list []]) Stp.alloc (R.alloc (x := .list []) rfl ⟨[], ⟨0, Heap.get?_push_size _ rfl⟩, .nil⟩ hbd) ⟨s.heap.objs.size, ?_, rfl⟩ h⟩))
  rw [← R.len, List.getElem?_append_right (Nat.le_refl _)]; simp

/-- d[k] = v -/
theorem W1.setItem {Ks : Fl → List (Str × Vl) → List MO → Prop} {o i e : Expr} {p p' : Pos} (h : WE prog w h₀ n sc m e σ fun v σ₁ => WE prog w h₀ n sc m o σ₁ fun ov σ₂ => WE prog w h₀ n sc m i σ₂ fun iv σ₃ => WU prog w h₀ n [ov, iv, v] (tri3u setItem) σ₃ fun σ₄ => Ks .next m σ₄)
    (hs : ∀ env, swapsWith e (some (.Subscript o i p')) p.line env = pure false := by intro _; rfl) : W1 prog w h₀ n sc k m (.Assign [.Subscript o i p'] e p) σ Ks := by
  intro A env fs as s hA hE R F hl
  refine wpAny_Assign_Subscript (wpAny_mono (h A env fs as s hA hE R F) (fun u s₁ zf168 => PostE.el zf168 fun v a₁ σ₁ st R₁ V k₁ => ?_) fun _ _ x => x) (hs env)
  have F₁ := F.stepE R.nd st
  refine wpAny_mono (k₁ A env fs a₁ s₁ hA hE R₁ F₁) (fun u₂ s₂ zf170 => PostE.el zf170 fun v₂ a₂ σ₂ st₂ R₂ V₂ k₂ => ?_) fun _ _ x => x
  have F₂ := F₁.stepE R₁.nd st₂
  refine wpAny_mono (k₂ A env fs a₂ s₂ hA hE R₂ F₂) (fun u₃ s₃ zf172 => PostE.el zf172 fun v₃ a₃ σ₃ st₃ R₃ V₃ k₃ => ?_) fun _ _ x => x
  have F₃ := F₂.stepE R₂.nd st₃
  refine wpAny_mono (k₃ A fs a₃ s₃ [u₂, u₃, u] hA R₃ (.cons (V₂.stepE st₃) (.cons V₃ (.cons ((V.stepE st₂).stepE st₃) .nil)))) (fun _ s₄ zf174 => el_B zf174 fun a₄ σ₄ st₄ R₄ k₄ => ?_) fun _ _ x => x
  have s14 := ((st.transE st₂).transE st₃).transE st₄
  exact (in_eeeeaaaaa .next m a₄ σ₄ rfl (s14.weaken (fun _ h => nomatch h) hl) R₄ (F₃.stepE R₃.nd st₄) (Nat.le_trans hl s14.grows) k₄)
theorem WU.setD {i : Nat} {kvs : List (Str × D)} {x : Str} {d : D} {Ku : List MO → Prop} (hi : σ[i]? = some (.dict kvs)) (hl : kvs.length ≤ 1000) (h : Ku (σ.set i (.dict (dset kvs x d)))) :
    WU prog w h₀ n [.m i, .d (.str x), .d d] (tri3u setItem) σ Ku := by
  intro A fs as s us hA R V
  apply VRs.three V; intro _ _ _ V₁ V₂ V₃
  · skip
    refine el_ea (V₁) fun a ha zq2 => ?_; subst zq2; try clear V₁
    obtain ⟨t₂, rfl⟩ := V₂.str_inv
    refine el_ea (R.mo i a _ ha hi) fun kv hd hr => ?_
    refine wpAny_setItem_pairs (strKind_is prog w x t₂) hd (fun h' hd' hs => ?_) (by rw [hr.length, sizeLine_eq]; lia -abstractProof)
    have ht := dictOf_there hd'
    exact (in_eeaa as _ (Stp.set ha hs ht) (R.set (x := .dict (dset kvs x d)) ha hs ht ⟨_, hd', (hr.set ha hs).stored (V₃.set ha hs)⟩) h)
end
end Mine
end
section
namespace Mine
section
variable {prog : Program} {w : World} {h₀ : Heap} {fs as as' as'' ow : List Addr} {σ σ' σ'' : List MO} {s s' s'' : Shared} {k n : Nat} {sc : Scope} {m : List (Str × Vl)} {K : Vl → List MO → Prop} {gl : Str → Option Value}
  {env : Env} {A : Around} {I : Addr} {Ks : Fl → List (Str × Vl) → List MO → Prop}

/-- a dict, as a tree or as a written object -/
inductive IsD (σ : List MO) : Vl → List (Str × D) → Prop
  | d (kvs) : IsD σ (.d (.dct kvs)) kvs
  | m {i kvs} : σ[i]? = some (.dict kvs) → IsD σ (.m i) kvs
theorem IsD.at {v : Vl} {kvs : List (Str × D)} {u : Value} (G : Glb h₀ gl) (x : IsD σ v kvs) (R : Rel prog w h₀ fs as σ s) (V : VR prog w fs as s.heap v u) :
    ∃ a kv, u = .ref a ∧ (a == sysModules) = false ∧ s.heap.DictOf (strKind prog w) a kv ∧ RdKv prog w (as ++ fs) s.heap kv kvs := by
  cases x with
  | d =>
    apply Rd.dctE V; intro a kv na ns hd hr; exact (in_eeaaa a kv rfl (by simpa using ns) hd hr)
  | @m i _ hi =>
    refine el_ea (V) fun a ha zq2 => ?_; subst zq2; try clear V
    refine el_ea (R.mo i a _ ha hi) fun kv hd hr => ?_
    refine (in_eeaaa a kv rfl ?_ hd hr)
    obtain ⟨o, e⟩ := G.sysm
    rw [beq_eq_false_iff_ne]
    intro q
    exact (R.base _ _ e).2 (q ▸ List.mem_append_left _ (List.mem_of_getElem? ha))
theorem two_of {v₁ v₂ : Vl} {t : Value → Value → Sem Value} (h : ∀ A fs as s u₁ u₂, Room n A → Rel prog w h₀ fs as σ s → VR prog w fs as s.heap v₁ u₁ → VR prog w fs as s.heap v₂ u₂ → wpAny (model prog w) A (t u₁ u₂) (PostE prog w h₀ fs as s K) NoE s) :
    WO prog w h₀ n [v₁, v₂] (bin2 t) σ K := by
  intro A fs as s us hA R V
  apply VRs.two V; intro _ _ V₁ V₂; exact h A fs as s _ _ hA R V₁ V₂
theorem WO.inD (G : Glb h₀ gl) {v : Vl} {kvs : List (Str × D)} {x : Str} (hd : IsD σ v kvs) (h : K (.d (.bool (dget kvs x).isSome)) σ) : WO prog w h₀ n [.d (.str x), v] (bin2 (compareOp .In)) σ K := by
  refine two_of fun A fs as s u₁ u₂ hA R V₁ V₂ => ?_
  obtain ⟨t, rfl⟩ := V₁.str_inv
  refine el_eeaaa (hd.at G R V₂) fun a kv zq2 hs hdd hr => ?_; subst zq2
  refine wpAny_in_of (strKind_is prog w x t) hs hdd.mapOf ?_
  have : (valueAt kv x).isSome = (dget kvs x).isSome := by
    rcases hr.get (k := x) with ⟨h1, h2⟩ | ⟨d, u, h1, h2, _⟩ <;> rw [h1, h2] <;> rfl
  rw [this]
  exact .now R (.bool _) h
theorem WO.itemD (G : Glb h₀ gl) {value slice : Expr} {v : Vl} {kvs : List (Str × D)} {x : Str} {d : D} (hd : IsD σ v kvs) (hx : dget kvs x = some d) (h : K (.d d) σ)
    (hs : ∀ t u, subscripted slice false (.ref t) (.str x u) = operate [.ref t, .str x u] (getItem (.ref t) (.str x u)) := by intro _ _; with_unfolding_all rfl) :
    WO prog w h₀ n [v, .d (.str x)] (bin2 (subscriptTail value slice)) σ K := by
  refine two_of fun A fs as s u₁ u₂ hA R V₁ V₂ => ?_
  obtain ⟨t, rfl⟩ := V₂.str_inv
  refine el_eeaaa (hd.at G R V₁) fun a kv zq2 _ hdd hr => ?_; subst zq2
  rcases hr.get (k := x) with ⟨h1, _⟩ | ⟨d', u, h1, h2, h3⟩
  · rw [hx] at h1; cases h1
  · rw [hx] at h1; cases h1
    exact tail_any hdd.typeIs slot_dict_getitem.lookup (wpAny_getItem_of (strKind_is prog w x t) hdd.mapOf h2 (.now R (v := .d d) h3 h)) (hs _ _)
theorem WO.getD (G : Glb h₀ gl) {v : Vl} {kvs : List (Str × D)} {x : Str} {d : D} (hd : IsD σ v kvs) (hx : dget kvs x = some d) (h : K (.d d) σ) : WO prog w h₀ n [v, .d (.str x)] (bin2 getItem) σ K := by
  refine two_of fun A fs as s u₁ u₂ hA R V₁ V₂ => ?_
  obtain ⟨t, rfl⟩ := V₂.str_inv
  refine el_eeaaa (hd.at G R V₁) fun a kv zq2 _ hdd hr => ?_; subst zq2
  rcases hr.get (k := x) with ⟨h1, _⟩ | ⟨d', u, h1, h2, h3⟩
  · rw [hx] at h1; cases h1
  · rw [hx] at h1; cases h1
    exact wpAny_getItem_of (strKind_is prog w x t) hdd.mapOf h2 (.now R (v := .d d) h3 h)
theorem WT.dct (G : Glb h₀ gl) {v : Vl} {kvs : List (Str × D)} {Kb : Bool → List MO → Prop} (hd : IsD σ v kvs) (hl : kvs.length ≤ 1000) (h : Kb (!kvs.isEmpty) σ) : WT prog w h₀ n v σ Kb := by
  intro A fs as s u hA R V
  refine el_eeaaa (hd.at G R V) fun a kv zq2 hs hdd hr => ?_; subst zq2
  have he : kv.isEmpty = kvs.isEmpty := by cases hr <;> rfl
  refine wpAny_truthy_dict hs hdd (by rw [hr.length]; lia -abstractProof) ?_
  rw [he]
  exact (in_eeaa as σ ((Stp.refl _ _ _ _).toks _) (R.toks _) h)

/-- a method of a built-in type -/
theorem WE.meth {T id : String} {o : Expr} {name : Str} {apos pos : Pos} {e : Expr} {es : List Expr} (pa : PlainAttrs T) (slot : Slot T name id) (hty : typeOf (.builtin id) = pure (.type "method_descriptor"))
    (h : WE prog w h₀ n sc m o σ fun ov σ₁ => (∀ fs as s u, Rel prog w h₀ fs as σ₁ s → VR prog w fs as s.heap ov u → s.TypeIs u T ∧ ∀ a, u = .ref a → ∃ ob, s.heap.get? a = some ob ∧ ob.dict = none) ∧
      WEs prog w h₀ n sc m (e :: es) σ₁ fun vs σ₂ => WO prog w h₀ n (ov :: vs) (fun us => call (.builtin id) us) σ₂ K)
    (hbase : ∀ env, attributeBase o name env (eval o env) = eval o env := by intro _; rfl) (hline : (apos.endLine == pos.line) = true := by rfl)
    (he : ∀ env, starEach (e :: es) env = (false, eval e env) :: starEach es env := by intro _; rfl) (hp : ∀ env, (backTo pos (starEach es env)).any (·.1) = false := by intro _; rfl)
    (hfew : ∀ env, ((backTo pos (starEach (e :: es) env)).all (fun x => !x.1) && (backToKw pos (keywordEach [] env)).all (fun x => x.1.isSome)
      && decide ((e :: es).length + ([] : List Keyword).length + (if ([] : List Keyword).isEmpty then 0 else 1) < 30)) = true := by intro _; rfl) :
    WE prog w h₀ n sc m (.Call (.Attribute o name apos) (e :: es) [] pos) σ K := by
  intro A env fs as s hA hE R F
  refine wpAny_Call_method (hbase env) (hfew env) hline pa slot hty (wpAny_mono (h A env fs as s hA hE R F) (fun u s₁ zf77 => PostE.el zf77 fun v a₁ σ₁ st R₁ V zk => el_a zk fun hT kk => ?_) fun _ _ x => x)
  obtain ⟨h1, h2⟩ := hT fs a₁ s₁ u R₁ V
  refine ⟨h1, h2, callWith_method1 (wpAny_mono (kk A env fs a₁ s₁ pos hA hE R₁ (F.stepE R.nd st)) (fun us s₂ zf79 => PostEs.el zf79 fun vs a₂ σ₂ st₂ R₂ V₂ k₂ => ?_) fun _ _ x => x) (he env) (hp env)⟩
  exact wpAny_mono (k₂ A fs a₂ s₂ (u :: us) hA R₂ (.cons (V.stepE st₂) V₂)) (fun _ _ p => (p.step st₂).step st) fun _ _ x => x
theorem ty_str {x : Str} : ∀ fs as s u, Rel prog w h₀ fs as σ s → VR prog w fs as s.heap (.d (.str x)) u → s.TypeIs u "str" ∧ ∀ a, u = .ref a → ∃ ob, s.heap.get? a = some ob ∧ ob.dict = none := by
  intro fs as s u _ V
  obtain ⟨t, rfl⟩ := V.str_inv
  exact ⟨typeIs_str _ _ _, fun _ e => nomatch e⟩
theorem ty_dict (G : Glb h₀ gl) {v : Vl} {kvs : List (Str × D)} (hd : IsD σ v kvs) : ∀ fs as s u, Rel prog w h₀ fs as σ s → VR prog w fs as s.heap v u → s.TypeIs u "dict" ∧ ∀ a, u = .ref a → ∃ ob, s.heap.get? a = some ob ∧ ob.dict = none := by
  intro fs as s u R V
  refine el_eeaaa (hd.at G R V) fun a kv zq2 _ hdd _ => ?_; subst zq2
  refine ⟨hdd.typeIs, fun b e => ?_⟩
  cases e
  refine el_eeeaa (hdd) fun o _ _ ho hx _ => ?_; try clear hdd
  exact ⟨o, ho, hx.2.1⟩
theorem ty_list {i : Nat} {xs : List D} (hi : σ[i]? = some (.list xs)) : ∀ fs as s u, Rel prog w h₀ fs as σ s → VR prog w fs as s.heap (.m i) u → s.TypeIs u "list" ∧ ∀ a, u = .ref a → ∃ ob, s.heap.get? a = some ob ∧ ob.dict = none := by
  intro fs as s u R V
  refine el_ea (V) fun a ha zq2 => ?_; subst zq2; try clear V
  refine el_ea (R.mo i a _ ha hi) fun vs zq1 _ => ?_; obtain ⟨ep, e⟩ := zq1
  refine ⟨⟨_, e, rfl⟩, fun b q => ?_⟩
  cases q
  exact ⟨_, e, rfl⟩
theorem RdAll.snoc {ex : List Addr} {h : Heap} {us : List Value} {xs : List D} {u : Value} {d : D} (hu : Rd prog w ex h u d) : RdAll prog w ex h us xs → RdAll prog w ex h (us ++ [u]) (xs ++ [d])
  | .nil => .cons hu .nil
  | .cons a r => .cons a (r.snoc hu)
theorem WO.append {i : Nat} {xs : List D} {d : D} (hi : σ[i]? = some (.list xs)) (hl : xs.length ≤ 1000) (h : K (.d .none) (σ.set i (.list (xs ++ [d])))) : WO prog w h₀ n [.m i, .d d] (fun us => call (.builtin "list.append") us) σ K := by
  intro A fs as s us hA R V
  apply VRs.two V; intro _ _ V₁ V₂
  · skip
    refine el_ea (V₁) fun a ha zq2 => ?_; subst zq2; try clear V₁
    refine el_ea (R.mo i a _ ha hi) fun vs hp hr => ?_
    refine wpAny_list_append_plain hp (fun h' hp' hs => ?_) (by rw [List.size_toArray, hr.length, sizeLine_eq]; lia -abstractProof)
    have ht : ∃ o, h'.get? a = some o := by obtain ⟨_, e⟩ := hp'; exact ⟨_, e⟩
    have e1 : ({ s with heap := h' } : Shared) = { s with heap := h', toks := s.toks } := rfl
    rw [e1]
    refine (in_eeeaaa (.d .none) as _ (Stp.set ha hs ht) (R.set (x := .list (xs ++ [d])) ha hs ht ⟨vs ++ [_], by simpa using hp', (hr.set ha hs).snoc (Rd.set V₂ ha hs)⟩) Rd.none h)
end
end Mine
end
section
namespace Mine
section
variable (prog : Program) (w : World) (h₀ : Heap)
/-- a loop over pairs -/
noncomputable def WLp (n : Nat) (sc : Scope) (k : Nat) (x y : Str) (body : List Stmt) : List (Str × D) → List (Str × Vl) → List MO → (Fl → List (Str × Vl) → List MO → Prop) → Prop
  | [], m, σ, K => K .next m σ
  | (a, d) :: r, m, σ, K => WN prog w h₀ sc k m x (.d (.str a)) σ fun _ m₁ σ₁ => WN prog w h₀ sc k m₁ y (.d d) σ₁ fun _ m₂ σ₂ => WS prog w h₀ n sc k m₂ body σ₂ fun fl m₃ σ₃ => match fl with
    | .next => WLp n sc k x y body r m₃ σ₃ K
    | .cont => WLp n sc k x y body r m₃ σ₃ K
    | .brk => K .next m₃ σ₃
    | .ret v => K (.ret v) m₃ σ₃
/-- names bound in order -/
noncomputable def WNs (sc : Scope) (k : Nat) : List Str → List Vl → List (Str × Vl) → List MO → (Fl → List (Str × Vl) → List MO → Prop) → Prop
  | [], [], m, σ, K => K .next m σ
  | x :: xs, v :: vs, m, σ, K => WN prog w h₀ sc k m x v σ fun _ m₁ σ₁ => WNs sc k xs vs m₁ σ₁ K
  | _, _, _, _, _ => False
end
section
variable {prog : Program} {w : World} {h₀ : Heap} {fs as as' as'' ow : List Addr} {σ σ' σ'' : List MO} {s s' s'' : Shared} {k n : Nat} {sc : Scope} {m : List (Str × Vl)} {K : Vl → List MO → Prop} {gl : Str → Option Value}
  {env : Env} {A : Around} {I : Addr} {Ks : Fl → List (Str × Vl) → List MO → Prop}

/-- all but one object of the frames' is kept -/
theorem Rel.but {a : Addr} (R : Rel prog w h₀ fs as σ s) (ha : a ∈ fs) (hk : ∀ b o, b ≠ a → s.heap.get? b = some o → s'.heap.get? b = some o) (ht : ∃ o, s'.heap.get? a = some o) (hg : AllBare s'.gens) : Rel prog w h₀ fs as σ s' := by
  have ne : ∀ b, b ∉ as ++ fs → b ≠ a := fun b hb e => hb (e ▸ List.mem_append_right _ ha)
  have nea : ∀ b, b ∈ as → b ≠ a := fun b hb e => nd_out R.nd ha (e ▸ hb)
  refine ⟨fun b o e => ⟨hk b o (ne b (R.base b o e).2) (R.base b o e).1, (R.base b o e).2⟩, R.len, R.nd, fun b hb => ?_, fun i b x hb hx => ?_, hg⟩
  · by_cases e : b = a
    · subst e; exact ht
    · obtain ⟨o, ho⟩ := R.there b hb
      exact ⟨o, hk b o e ho⟩
  · have hb' : b ∈ as := List.mem_of_getElem? hb
    exact (R.mo i b x hb hx).move (fun _ _ _ e => e) (fun c o hc e => ⟨hk c o (ne c hc) e, hc⟩) fun o e => hk b o (nea b hb') e
theorem Stp.but {a : Addr} (ha : a ∈ ow) (hk : ∀ b o, b ≠ a → s.heap.get? b = some o → s'.heap.get? b = some o) (ht : ∃ o, s'.heap.get? a = some o) (ho : s'.os = s.os) : Stp ow k as s as s' :=
  ⟨fun _ _ _ e => e, fun _ h q => absurd h q, fun b o _ h2 e => hk b o (fun q => h2 (q ▸ ha)) e, fun b o e => by
    by_cases q : b = a
    · subst q; exact ht
    · exact ⟨o, hk b o q e⟩, ho⟩
theorem FrameOk.but {a : Addr} (F : FrameOk prog w env m fs as s.heap) (ha : a ∈ fs) (hao : a ∉ own env) (hk : ∀ b o, b ≠ a → s.heap.get? b = some o → s'.heap.get? b = some o) : FrameOk prog w env m fs as s'.heap := by
  have kp : ∀ b ∈ own env, ∀ o, s.heap.get? b = some o → s'.heap.get? b = some o := fun b hb o e => hk b o (fun q => hao (q ▸ hb)) e
  have vm : ∀ v u, VR prog w fs as s.heap v u → VR prog w fs as s'.heap v u := fun v u V => by
    cases v with
    | d t => exact Rd.move (fun b o hb e => ⟨hk b o (fun q => hb (q ▸ List.mem_append_right _ ha)) e, hb⟩) V
    | m i => exact V
    | g v => exact V
  have hc : ∀ x c, env.cells.lookup x = some c → c ∈ own env := fun x c e => List.mem_cons_of_mem _ (List.mem_map.mpr ⟨(x, c), mem_of_lookup e, rfl⟩)
  refine el_ea (F.ns) fun mm hn hv => ?_
  refine ⟨⟨mm, hn.at' fun o e => kp _ (List.mem_cons_self ..) o e, fun x v e hk => ?_⟩, fun x v e hk => ?_, fun x c e => ?_, F.inj, F.loc, F.ne, F.all⟩
  · refine el_ea (hv x v e hk) fun u h1 h2 => ?_; exact ⟨u, vm v u h1, h2⟩
  · refine el_eeaa (F.cl x v e hk) fun c u h1 h2 h3 => ?_; exact (in_eeaa c u h1 (isCell_at h2 fun o e => kp _ (hc x c h1) o e) (vm v u h3))
  · refine el_ae (F.cells x c e) fun h1 v h2 => ?_; exact ⟨h1, v, isCell_at h2 fun o e' => kp _ (hc x c e) o e'⟩
theorem FrameOk.keptAll (F : FrameOk prog w env m fs as s.heap) (hk : ∀ b o, s.heap.get? b = some o → s'.heap.get? b = some o) : FrameOk prog w env m fs as s'.heap := by
  have vm : ∀ v u, VR prog w fs as s.heap v u → VR prog w fs as s'.heap v u := fun v u V => by
    cases v with
    | d t => exact Rd.move (fun b o hb e => ⟨hk b o e, hb⟩) V
    | m i => exact V
    | g v => exact V
  refine el_ea (F.ns) fun mm hn hv => ?_
  refine ⟨⟨mm, hn.at' fun o e => hk _ o e, fun x v e hk => ?_⟩, fun x v e hk' => ?_, fun x c e => ?_, F.inj, F.loc, F.ne, F.all⟩
  · refine el_ea (hv x v e hk) fun u h1 h2 => ?_; exact ⟨u, vm v u h1, h2⟩
  · refine el_eeaa (F.cl x v e hk') fun c u h1 h2 h3 => ?_; exact (in_eeaa c u h1 (isCell_at h2 fun o e => hk _ o e) (vm v u h3))
  · refine el_ae (F.cells x c e) fun h1 v h2 => ?_; exact ⟨h1, v, isCell_at h2 fun o e' => hk _ o e'⟩
theorem VR.keptAll {h h' : Heap} {v : Vl} {u : Value} (V : VR prog w fs as h v u) (hk : ∀ b o, h.get? b = some o → h'.get? b = some o) : VR prog w fs as h' v u := by
  cases v with
  | d t => exact Rd.move (fun b o hb e => ⟨hk b o e, hb⟩) V
  | m i => exact V
  | g v => exact V
theorem RdAll.keptAll {h h' : Heap} {v : List Value} {u : List D} (V : RdAll prog w (as ++ fs) h v u) (hk : ∀ b o, h.get? b = some o → h'.get? b = some o) : RdAll prog w (as ++ fs) h' v u := V.move fun b o hb e => ⟨hk b o e, hb⟩

theorem VRs.step {vs : List Vl} {us : List Value} (y : VRs prog w fs as s.heap vs us) (st : Stp ow k as s as' s') (hw : ∀ b ∈ ow, b ∈ fs) (hm : ∀ i, .m i ∈ vs → i < k) : VRs prog w fs as' s'.heap vs us := by
  induction y with
  | nil => exact .nil
  | cons V r ih => exact .cons (V.step st hw fun i e => hm i (by rw [← e]; exact List.mem_cons_self ..)) (ih fun i hi => hm i (List.mem_cons_of_mem _ hi))
theorem WNs.go {xs : List (Str × Pos)} {vs : List Vl} {us : List Value} (h : WNs prog w h₀ sc k (xs.map (·.1)) vs m σ Ks) (hE : EnvIs sc env) (R : Rel prog w h₀ fs as σ s) (F : FrameOk prog w env m fs as s.heap) (hl : k ≤ as.length)
    (hm : ∀ i, .m i ∈ vs → i < k) (V : VRs prog w fs as s.heap vs us) : wpAny (model prog w) A (assignInOrder ((assignEach (xs.map fun x => Expr.Name x.1 x.2) env).map (·.2)) us) (fun _ s' => PostS prog w h₀ env k fs as s Ks .next s') NoE s := by
  induction xs generalizing vs us m σ as s with
  | nil =>
    cases V with
    | nil => exact assignInOrder_nil (PostS.mk (fl := .next) (m' := m) (as' := as) (σ' := σ) rfl (Stp.refl ..) R F hl h)
    | cons => exact h.elim
  | cons x xs ih =>
    cases V with
    | nil => exact h.elim
    | @cons v u vs us V₁ r =>
      have h' : WN prog w h₀ sc k m x.1 v σ fun _ m₁ σ₁ => WNs prog w h₀ sc k (xs.map (·.1)) vs m₁ σ₁ Ks := h
      refine assignInOrder_cons (wpAny_assign_Name (wpAny_mono (h' A env fs as s u hE R F hl V₁) (fun _ s₁ zf88 => PostS.el zf88 fun fl m₁ a₁ σ₁ _ st R₁ F₁ hl₁ k₁ => ?_) fun _ _ x => x))
      have r' : VRs prog w fs a₁ s₁.heap vs us := r.step st (own_sub F) fun i hi => hm i (List.mem_cons_of_mem _ hi)
      refine wpAny_mono (ih k₁ R₁ F₁ hl₁ (fun i hi => hm i (List.mem_cons_of_mem _ hi)) r') (fun _ _ p => p.then st) fun _ _ x => x
theorem W1.unpack {e : Expr} {xs : List (Str × Pos)} {x1 : Nat} {p p' : Pos} (h : WE prog w h₀ n sc m e σ fun v σ₁ => ∃ ds, v = .d (.tup ds) ∧ ds.length = xs.length ∧ WNs prog w h₀ sc k (xs.map (·.1)) (ds.map .d) m σ₁ Ks)
    (hs : ∀ env, swapsWithSole [.Tuple (xs.map fun x => Expr.Name x.1 x.2) x1 p'] e p.line env = pure false := by intro _; rfl)
    (hw : ∀ env, swappedStores [.Tuple (xs.map fun x => Expr.Name x.1 x.2) x1 p'] e env = pure none := by intro _; rfl)
    (hn : ∀ env, (assignEach (xs.map fun x => Expr.Name x.1 x.2) env).length = xs.length := by intro _; rfl)
    (hst : ∀ env, (assignEach (xs.map fun x => Expr.Name x.1 x.2) env).findIdx? (·.1) = none := by intro _; rfl) :
    W1 prog w h₀ n sc k m (.Assign [.Tuple (xs.map fun x => Expr.Name x.1 x.2) x1 p'] e p) σ Ks := by
  intro A env fs as s hA hE R F hl
  refine Assign_Tuple (wpAny_mono (h A env fs as s hA hE R F) (fun u s₁ zf98 => PostE.elq1 zf98 fun ds a₁ σ₁ st R₁ V zk => el_a zk fun hlen k₁ => ?_) fun _ _ x => x) (hs env) (hw env)

  apply Rd.tupE V; intro t vs na ht hr
  · skip
    refine assign_Tuple_tuple hA.handled ht (by rw [hn env, List.size_toArray, hr.length, hlen]) (hst env) fun h' hx => ?_
    have hk : ∀ b o, s₁.heap.get? b = some o → h'.get? b = some o := fun b o e => hx b o (fun q => by subst q; rw [noObj] at e; cases e) e
    have F₁ : FrameOk prog w env m fs a₁ h' := FrameOk.keptAll (s := s₁) (s' := { s₁ with heap := h' }) (F.stepE R.nd st) hk
    have vs' : ∀ {vs : List Value} {ds : List D}, RdAll prog w (a₁ ++ fs) h' vs ds → VRs prog w fs a₁ h' (ds.map .d) vs := fun {vs} {ds} r => by
      induction ds generalizing vs with
      | nil => cases r; exact .nil
      | cons d ds ih => cases r with | cons a r => exact .cons a (ih r)
    have R₂ : Rel prog w h₀ fs a₁ σ₁ { s₁ with heap := h' } := R₁.kept hk R₁.bare
    refine wpAny_mono (WNs.go (s := { s₁ with heap := h' }) k₁ hE R₂ F₁ (Nat.le_trans hl st.grows) (fun i hi => ?_) (vs' (hr.keptAll hk))) (fun _ _ p => ?_) fun _ _ x => x
    · refine el_ea (List.mem_map.mp hi) fun d _ e => ?_; cases e
    · exact (p.then (Stp.keptAll (s := s₁) (s' := { s₁ with heap := h' }) hk rfl)).after hl st
theorem WI.values (G : Glb h₀ gl) {Kx : List Vl → List MO → Prop} {o : Expr} {apos pos : Pos} (h : WE prog w h₀ n sc m o σ fun v σ₁ => ∃ kvs, v = .d (.dct kvs) ∧ Kx (kvs.map fun p => .d p.2) σ₁)
    (hbase : ∀ env, attributeBase o "values" env (eval o env) = eval o env := by intro _; rfl) (hline : (apos.endLine == pos.line) = true := by rfl) :
    WI prog w h₀ n sc m (.Call (.Attribute o "values" apos) [] [] pos) σ Kx := by
  intro A env fs as s hA hE R F
  refine wpAny_Call_method (T := "dict") (id := "dict.values") (hbase env) rfl hline PySem.F.plainAttrs_dict PySem.F.slot_dict_values PySem.F.type_dict_values (wpAny_mono (h A env fs as s hA hE R F) (fun u s₁ zf116 => PostE.elq1 zf116 fun kvs a₁ σ₁ st R₁ V kk => ?_) fun _ _ x => x)

  have hT := ty_dict G (IsD.d (σ := σ₁) kvs) fs a₁ s₁ u R₁ V
  refine ⟨hT.1, hT.2, callWith_method0 ?_⟩
  revert hT; apply Rd.dctE V; intro d kv na ns hd hr hT
  · skip
    refine call_meetsIn PySem.F.slot_dict_values hT.1 PySem.F.entry_dict_values (PySem.F.args_dict_values_1 _) (meets_dict_values (strKind prog w) d (by simpa using ns)) ⟨⟨kv, hd⟩, ?_⟩
    obtain ⟨ep, hda⟩ := hd.dictAt
    have hk₁ : ∀ b o, s₁.heap.get? b = some o → (s₁.heap.push { cls := .type "dict_values", data := .fields #[.ref d] }).get? b = some o := fun _ _ e => Heap.get?_push_of_some _ e
    have hne : d < s₁.heap.objs.size := hda.lt_size
    refine wpAny_pyIter_values (s := { s₁ with heap := s₁.heap.push { cls := .type "dict_values", data := .fields #[.ref d] } }) ⟨_, Heap.get?_push_size _ rfl, rfl, rfl⟩ (hda.keep hk₁) ?_
    have hk₂ : ∀ b o, (s₁.heap.push { cls := .type "dict_values", data := .fields #[.ref d] }).get? b = some o → ((s₁.heap.push { cls := .type "dict_values", data := .fields #[.ref d] }).push { cls := .type "dict_valueiterator", data := .fields #[.ref d, .int 0 0, .int kv.length 0, .int ep 0] }).get? b = some o := fun _ _ e => Heap.get?_push_of_some _ e
    have R₂ : Rel prog w h₀ fs a₁ σ₁ { s₁ with heap := s₁.heap.push { cls := .type "dict_values", data := .fields #[.ref d] } } := R₁.kept hk₁ R₁.bare
    have hsz : d ≠ (s₁.heap.push { cls := .type "dict_values", data := .fields #[.ref d] }).objs.size := by rw [Heap.size_push]; exact Nat.ne_of_lt (Nat.lt_succ_of_lt hne)
    refine ⟨_, kvs.map fun p => .d p.2, a₁, σ₁, rfl, ?_, st.transE ((Stp.keptAll (s := s₁) (s' := { s₁ with heap := s₁.heap.push { cls := .type "dict_values", data := .fields #[.ref d] } }) hk₁ rfl).trans (Stp.keptAll hk₂ rfl)), R₂.newIt rfl,
      (in_eeeeeaaaaa ([d]) _ _ _ 0 (Wk.values (knd := strKind prog w) hA.handled _ d hsz kv ep) ⟨⟨_, Heap.get?_push_size _ rfl, rfl, rfl⟩, (hda.keep hk₁).keep hk₂⟩ ?_ (fun j v u e p => ?_) (fun b hb => ?_) (fun j v e => ?_)), kk⟩
    · cases q : s.heap.get? (s₁.heap.push { cls := .type "dict_values", data := .fields #[.ref d] }).objs.size with
      | none => rfl
      | some o => obtain ⟨o', e'⟩ := st.thr _ o q; exact absurd (Heap.lt_size e') (by rw [Heap.size_push]; exact Nat.not_lt_of_le (Nat.le_succ _))
    · simp [hr.length]
    · rw [List.getElem?_map] at e
      obtain ⟨ky, hy⟩ := p
      have : ∀ {kv : List (Str × Value)} {kvs : List (Str × D)}, RdKv prog w (a₁ ++ fs) s₁.heap kv kvs → ∀ {j : Nat} {q : Str × D}, kvs[j]? = some q → ∃ u, kv[j]? = some (q.1, u) ∧ Rd prog w (a₁ ++ fs) s₁.heap u q.2 := fun {kv} {kvs} r => by
        intro j q hq
        induction kvs generalizing kv j with
        | nil => simp at hq
        | cons x xs ih =>
          cases r with | cons a r =>
            cases j with
            | zero => simp at hq; subst hq; exact ⟨_, by simp, a⟩
            | succ j =>
              refine el_ea (ih r (by simpa using hq)) fun u h1 h2 => ?_
              exact ⟨u, by simpa using h1, h2⟩
      cases q : kvs[j]? with
      | none => rw [q] at e; cases e
      | some x =>
        rw [q] at e; cases e
        refine el_ea (this hr q) fun u' h1 h2 => ?_
        rw [Nat.zero_add, h1] at hy
        cases hy
        exact VR.fresh (v := .d x.2) (VR.keptAll (v := .d x.2) h2 hk₁) (noObj _) hk₂
    · rw [List.mem_singleton.mp hb]
      intro q
      rcases List.mem_append.mp q with q | q
      · exact na (List.mem_append_left _ q)
      · rcases List.mem_cons.mp q with q | q
        · exact hsz q
        · exact na (List.mem_append_right _ q)
    · rw [List.getElem?_map] at e
      cases q : kvs[j]? with
      | none => rw [q] at e; cases e
      | some d => rw [q] at e; cases e; exact ⟨_, rfl⟩
end
end Mine
end
section
namespace Mine
section
variable {prog : Program} {w : World} {h₀ : Heap} {fs as as' as'' ow : List Addr} {σ σ' σ'' : List MO} {s s' s'' : Shared} {k n : Nat} {sc : Scope} {m : List (Str × Vl)} {K : Vl → List MO → Prop} {gl : Str → Option Value}
  {env : Env} {A : Around} {I : Addr} {Ks : Fl → List (Str × Vl) → List MO → Prop}

theorem RdKv.nilE {ex : List Addr} {h : Heap} {r : List (Str × D)} (x : RdKv prog w ex h [] r) : r = [] := by cases x; rfl
theorem RdKv.consE {ex : List Addr} {h : Heap} {r : List (Str × D)} {y : Str} {v : Value} {kv : List (Str × Value)} {p : Prop} (x : RdKv prog w ex h ((y, v) :: kv) r) (k : ∀ d rs, r = (y, d) :: rs → Rd prog w ex h v d → RdKv prog w ex h kv rs → p) : p := by cases x with | cons a b => exact k _ _ rfl a b
theorem itemsLoop {x y : Str} {px py pt : Pos} {x1 : Nat} {body : List Stmt} {d : Addr} {kv : List (Str × Value)} {kvs : List (Str × D)} {ep : Nat} {a₂ : List Addr} {σ₂ : List MO} {s₂ : Shared} {E : Value → Shared → Prop}
    (hA : Room n A) (hE : EnvIs sc env) (R : Rel prog w h₀ fs as σ s) (F : FrameOk prog w env m fs as s.heap) (hl : k ≤ as.length) (hI : s.heap.get? I = none) (st : Stp [] as.length as s a₂ s₂) (R₂ : Rel prog w h₀ (I :: fs) a₂ σ₂ s₂)
    (hit : IsItemIter s₂.heap I d 0 kv.length ep .none .none) (hda : s₂.heap.DictAt (strKind prog w) d kv ep) (hdn : d ∉ a₂ ++ I :: fs) (hr : RdKv prog w (a₂ ++ I :: fs) s₂.heap kv kvs) (kk : WLp prog w h₀ n sc k x y body kvs m σ₂ Ks) :
    codeAny (model prog w) A (.forLoop (.Tuple [.Name x px, .Name y py] x1 pt) (.ref I) body [] env) (fun r s' => match r with | .ok f => PostS prog w h₀ env k fs as s Ks f s' | .error e => cameBackBy (model prog w) A env E e s') s₂ := by
  have F₂ := F.widen hI st R.nd
  have ho : ∀ b ∈ own env, b ∈ fs := own_sub F
  have hIfs : I ∉ fs := fun q => by
    obtain ⟨o, e⟩ := R.there I (List.mem_append_right _ q)
    rw [hI] at e; cases e
  have hIo : I ∉ own env := fun q => hIfs (ho I q)
  have hIf : I ∈ I :: fs := List.mem_cons_self ..
  have hwo : ∀ b ∈ own env, b ∈ I :: fs := fun b hb => List.mem_cons_of_mem _ (ho b hb)
  refine codeAny_forLoop_any (fun j s' => ∃ i rest m' a' σ' ok ov, j = rest.length ∧ Stp (I :: own env) k a₂ s₂ a' s' ∧ Rel prog w h₀ (I :: fs) a' σ' s' ∧ FrameOk prog w env m' (I :: fs) a' s'.heap ∧ IsItemIter s'.heap I d i kv.length ep ok ov ∧
    s'.heap.DictAt (strKind prog w) d kv ep ∧ d ∉ a' ++ I :: fs ∧ RdKv prog w (a' ++ I :: fs) s'.heap (kv.drop i) rest ∧ k ≤ a'.length ∧
    WLp prog w h₀ n sc k x y body rest m' σ' Ks) ?_ kvs.length (in_eeeeeeeaaaaaaaaa 0 kvs m a₂ σ₂ .none .none rfl (Stp.refl ..) R₂ F₂ hit hda hdn hr (Nat.le_trans hl st.grows) kk)
  intro j s' zr
  refine el_eeeeeeeaaaaaaaaa zr fun i rest m' a' σ' ok ov ej st' R' F' hit' hda' hdn' hr' hl' k' => ?_
  clear zr
  have hdI : d ≠ I := fun q => hdn' (List.mem_append_right _ (by rw [q]; exact hIf))
  cases hkv : kv[i]? with
  | none =>
    have hd0 : kv.drop i = [] := List.drop_eq_nil_iff.mpr (by simpa using hkv)
    rw [hd0] at hr'
    rw [hr'.nilE] at k'
    refine wpAny_pyNext_items_end hA.handled hit' hda' hkv fun h' he => wpAny_execs_nil ?_
    exact (in_eeeeaaaaa .next m' a' σ' rfl (Stp.spent hI st st' hl he) (R'.spent he) (F'.spent he ho hIfs) hl' k')
  | some p =>
    obtain ⟨ky, v⟩ := p
    have hlt : i < kv.length := (List.getElem?_eq_some_iff.mp hkv).1
    have hd1 : kv.drop i = (ky, v) :: kv.drop (i + 1) := by
      rw [List.drop_eq_getElem_cons hlt]
      have := (List.getElem?_eq_some_iff.mp hkv).2
      rw [this]
    rw [hd1] at hr'
    refine hr'.consE fun dd rs er Vd hr'' => ?_
    clear hr'
    rw [er] at k'
    refine wpAny_pyNext_items_item hit' hda' hkv fun key h₁ hkey heo ht₁ hz₁ hk₁ => ?_
    obtain ⟨tk, rfl⟩ : ∃ t, key = .str ky t := Value.isStrOf_shape hkey
    have hIs : I < s'.heap.objs.size := Heap.lt_size hit'
    refine wpAny_letOwnedTupleGo_items heo fun h₂ he₂ hs₂ => ?_
    replace hs₂ : Heap.SameBut I h₁ h₂ := hs₂
    have ht₂ : IsTup h₂ s'.heap.objs.size #[.str ky tk, v] := (in_eaae _ ((hs₂.2 _ (Nat.ne_of_gt hIs)).trans ht₁) rfl _ rfl)
    refine assign_Tuple_tuple hA.handled ht₂ rfl rfl fun h₃ hx₃ => ?_
    replace hx₃ : Heap.ExtBut h₂.objs.size h₂ h₃ := hx₃
    have hk₃ : ∀ b o, b ≠ I → s'.heap.get? b = some o → h₃.get? b = some o := fun b o hb e => by
      have e1 := (hs₂.2 b hb).trans (hk₁ b o hb e)
      exact hx₃ b o (fun q => by rw [q, noObj] at e1; cases e1) e1
    have he₃ : IsItemIter h₃ I d (i + 1) kv.length ep (.str ky tk) v := hx₃ I _ (fun q => by subst q; have := Heap.lt_size he₂; exact absurd this (Nat.lt_irrefl _)) he₂
    have R₃ : Rel prog w h₀ (I :: fs) a' σ' { s' with heap := h₃ } := R'.but (s' := { s' with heap := h₃ }) hIf hk₃ ⟨_, he₃⟩ R'.bare
    have st₃ : Stp [I] k a' s' a' { s' with heap := h₃ } := Stp.but (s' := { s' with heap := h₃ }) (List.mem_singleton.mpr rfl) hk₃ ⟨_, he₃⟩ rfl
    have F₃ : FrameOk prog w env m' (I :: fs) a' h₃ := FrameOk.but (s' := { s' with heap := h₃ }) F' hIf hIo hk₃
    have mv : ∀ b o, b ∉ a' ++ I :: fs → s'.heap.get? b = some o → h₃.get? b = some o ∧ b ∉ a' ++ I :: fs := fun b o hb e => ⟨hk₃ b o (fun q => hb (List.mem_append_right _ (by rw [q]; exact hIf))) e, hb⟩
    have kx : WNs prog w h₀ sc k [x, y] [.d (.str ky), .d dd] m' σ' fun _ m₂ σ₂ => WS prog w h₀ n sc k m₂ body σ₂ fun fl m₃ σ₃ => match fl with
      | .next => WLp prog w h₀ n sc k x y body rs m₃ σ₃ Ks
      | .cont => WLp prog w h₀ n sc k x y body rs m₃ σ₃ Ks
      | .brk => Ks .next m₃ σ₃
      | .ret v => Ks (.ret v) m₃ σ₃ := k'
    refine wpAny_mono (WNs.go (xs := [(x, px), (y, py)]) (s := { s' with heap := h₃ }) kx hE R₃ F₃ hl' (fun i hi => by simp at hi) (.cons (VR.str _ _) (.cons (Vd.move mv) .nil))) (fun _ s₄ zf63 => PostS.el zf63 fun fl m₄ a₄ σ₄ hf st₄ R₄ F₄ hl₄ k₄ => ?_) fun _ _ x => False.elim x
    refine wpAny_mono (k₄ A env (I :: fs) a₄ s₄ hA hE R₄ F₄ hl₄) (fun f s₅ zf64 => PostS.el zf64 fun fl₅ m₅ a₅ σ₅ hf₅ st₅ R₅ F₅ hl₅ k₅ => ?_) fun _ _ x => False.elim x
    have sub1 : ∀ b ∈ own env, b ∈ I :: own env := fun b hb => List.mem_cons_of_mem _ hb
    have s45 := st₄.trans st₅
    have s14 : Stp (I :: own env) k a₂ s₂ a₅ s₅ := (st'.trans (st₃.weaken (fun b hb => List.mem_singleton.mp hb ▸ List.mem_cons_self ..) (Nat.le_refl _))).trans (s45.weaken sub1 (Nat.le_refl _))
    have hIa : I ∉ a' := nd_out R'.nd hIf
    have hit₅ : IsItemIter s₅.heap I d (i + 1) kv.length ep (.str ky tk) v := s45.kept I _ hIa hIo he₃
    obtain ⟨od, hod⟩ : ∃ o, h₃.get? d = some o := by refine el_eea (hda') fun o _ e _ => ?_; try clear hda'; exact ⟨o, hk₃ d o hdI e⟩
    have hd₅ := s45.mv (fs := I :: fs) hwo d od hdn' hod
    have hda₅ : s₅.heap.DictAt (strKind prog w) d kv ep := hda'.at' fun o e => (s45.mv (fs := I :: fs) hwo d o hdn' (hk₃ d o hdI e)).1
    have hr₅ : RdKv prog w (a₅ ++ I :: fs) s₅.heap (kv.drop (i + 1)) rs := hr''.move fun b o hb e => s45.mv (fs := I :: fs) hwo b o hb (mv b o hb e).1
    have fin : ∀ {fl : Fl} {f : Flow}, FlR prog w (I :: fs) a₅ s₅.heap fl f → Ks fl m₅ σ₅ → PostS prog w h₀ env k fs as s Ks f s₅ := fun {fl} {f} hfl kk => by
      have hsub : fs.Sublist (I :: fs) := List.sublist_cons_self ..
      refine (in_eeeeaaaaa fl m₅ a₅ σ₅ ?_ (Stp.mono1 hI st s14 hl) (R₅.leave hsub) (F₅.leave hsub ho) hl₅ kk)
      cases fl with
      | ret v => refine el_ea (hfl) fun u e V => ?_; try clear hfl; exact ⟨u, e, V.leave hsub⟩
      | next => exact hfl
      | brk => exact hfl
      | cont => exact hfl
    cases fl₅ with
    | next => cases hf₅; exact (⟨rs.length, (by rw [ej, er]; exact Nat.lt_succ_self _), in_eeeeeeeaaaaaaaaa (i + 1) rs m₅ a₅ σ₅ _ _ rfl s14 R₅ F₅ hit₅ hda₅ hd₅.2 hr₅ hl₅ k₅⟩)
    | cont => cases hf₅; exact (⟨rs.length, (by rw [ej, er]; exact Nat.lt_succ_self _), in_eeeeeeeaaaaaaaaa (i + 1) rs m₅ a₅ σ₅ _ _ rfl s14 R₅ F₅ hit₅ hda₅ hd₅.2 hr₅ hl₅ k₅⟩)
    | brk => cases hf₅; exact fin (fl := .next) rfl k₅
    | ret v => refine el_ea (hf₅) fun u zq1 V => ?_; subst zq1; try clear hf₅; exact fin (fl := .ret v) ⟨u, rfl, V⟩ k₅

/-- for x, y in d.items() -/
theorem W1.forItems (G : Glb h₀ gl) {x y : Str} {px py pt pos apos ipos : Pos} {x1 : Nat} {o : Expr} {body : List Stmt} (h : WE prog w h₀ n sc m o σ fun v σ₁ => ∃ kvs, v = .d (.dct kvs) ∧ WLp prog w h₀ n sc k x y body kvs m σ₁ Ks)
    (hbase : ∀ env, attributeBase o "items" env (eval o env) = eval o env := by intro _; rfl) (hline : (apos.endLine == ipos.line) = true := by rfl)
    (hs : ∀ env v, foldedSetIterable (.Call (.Attribute o "items" apos) [] [] ipos) env v = pure v := by intro _ _; rfl) :
    W1 prog w h₀ n sc k m (.For (.Tuple [.Name x px, .Name y py] x1 pt) (.Call (.Attribute o "items" apos) [] [] ipos) body [] pos) σ Ks := by
  intro A env fs as s hA hE R F hl
  refine wpAny_For (wpAny_Call_method (T := "dict") (id := "dict.items") (hbase env) rfl hline PySem.F.plainAttrs_dict PySem.F.slot_dict_items PySem.F.type_dict_items (wpAny_mono (h A env fs as s hA hE R F) (fun u s₁ zf94 => PostE.elq1 zf94 fun kvs a₁ σ₁ st₁ R₁ V kk => ?_) fun _ _ x => x)) (hs env)

  have hT := ty_dict G (IsD.d (σ := σ₁) kvs) fs a₁ s₁ u R₁ V
  refine ⟨hT.1, hT.2, callWith_method0 ?_⟩
  revert hT; apply Rd.dctE V; intro d kv na ns hd hr hT
  · skip
    refine call_meetsIn PySem.F.slot_dict_items hT.1 PySem.F.entry_dict_items (PySem.F.args_dict_items_1 _) (meets_dict_items (strKind prog w) d (by simpa using ns)) ⟨⟨kv, hd⟩, ?_⟩
    obtain ⟨ep, hda⟩ := hd.dictAt
    have hk₁ : ∀ b o, s₁.heap.get? b = some o → (s₁.heap.push { cls := .type "dict_items", data := .fields #[.ref d] }).get? b = some o := fun _ _ e => Heap.get?_push_of_some _ e
    have hne : d < s₁.heap.objs.size := hda.lt_size
    refine wpAny_pyIter_items (s := { s₁ with heap := s₁.heap.push { cls := .type "dict_items", data := .fields #[.ref d] } }) ⟨_, Heap.get?_push_size _ rfl, rfl, rfl⟩ (hda.keep hk₁) ?_
    -- the iterator
    generalize hIdef : (s₁.heap.push { cls := .type "dict_items", data := .fields #[.ref d] }).objs.size = I
    have hk₂ : ∀ b o, (s₁.heap.push { cls := .type "dict_items", data := .fields #[.ref d] }).get? b = some o → ((s₁.heap.push { cls := .type "dict_items", data := .fields #[.ref d] }).push { cls := .type "dict_itemiterator", data := .fields #[.none, .bool false, .ref d, .int 0 0, .int kv.length 0, .int ep 0, .none, .none] }).get? b = some o := fun _ _ e => Heap.get?_push_of_some _ e
    have R₂ : Rel prog w h₀ (I :: fs) a₁ σ₁ { s₁ with heap := (s₁.heap.push { cls := .type "dict_items", data := .fields #[.ref d] }).push { cls := .type "dict_itemiterator", data := .fields #[.none, .bool false, .ref d, .int 0 0, .int kv.length 0, .int ep 0, .none, .none] } } := by
      have := (R₁.kept (s' := { s₁ with heap := s₁.heap.push { cls := .type "dict_items", data := .fields #[.ref d] } }) hk₁ R₁.bare).newIt (o := { cls := .type "dict_itemiterator", data := .fields #[.none, .bool false, .ref d, .int 0 0, .int kv.length 0, .int ep 0, .none, .none] }) rfl
      rw [← hIdef]; exact this
    have hsz : d ≠ I := by rw [← hIdef, Heap.size_push]; exact Nat.ne_of_lt (Nat.lt_succ_of_lt hne)
    have hI : s.heap.get? I = none := by
      cases q : s.heap.get? I with
      | none => rfl
      | some o => obtain ⟨o', e'⟩ := st₁.thr _ o q; exact absurd (Heap.lt_size e') (by rw [← hIdef, Heap.size_push]; exact Nat.not_lt_of_le (Nat.le_succ _))
    have hit₂ : IsItemIter ((s₁.heap.push { cls := .type "dict_items", data := .fields #[.ref d] }).push { cls := .type "dict_itemiterator", data := .fields #[.none, .bool false, .ref d, .int 0 0, .int kv.length 0, .int ep 0, .none, .none] }) I d 0 kv.length ep .none .none := by
      rw [← hIdef]; exact Heap.get?_push_size _ rfl
    have st : Stp [] as.length as s a₁ { s₁ with heap := (s₁.heap.push { cls := .type "dict_items", data := .fields #[.ref d] }).push { cls := .type "dict_itemiterator", data := .fields #[.none, .bool false, .ref d, .int 0 0, .int kv.length 0, .int ep 0, .none, .none] } } :=
      st₁.transE ((Stp.keptAll (s := s₁) (s' := { s₁ with heap := s₁.heap.push { cls := .type "dict_items", data := .fields #[.ref d] } }) hk₁ rfl).trans (Stp.keptAll hk₂ rfl))
    have hr₂ : RdKv prog w (a₁ ++ I :: fs) ((s₁.heap.push { cls := .type "dict_items", data := .fields #[.ref d] }).push { cls := .type "dict_itemiterator", data := .fields #[.none, .bool false, .ref d, .int 0 0, .int kv.length 0, .int ep 0, .none, .none] }) kv kvs :=
      hr.move fun b o hb e => ⟨hk₂ b o (hk₁ b o e), fun q => by
        rcases List.mem_append.mp q with q | q
        · exact hb (List.mem_append_left _ q)
        · rcases List.mem_cons.mp q with q | q
          · subst q; have := Heap.lt_size e; rw [← hIdef, Heap.size_push] at this; exact absurd this (Nat.not_lt_of_le (Nat.le_succ _))
          · exact hb (List.mem_append_right _ q)⟩
    have hdn₂ : d ∉ a₁ ++ I :: fs := fun q => by
      rcases List.mem_append.mp q with q | q
      · exact na (List.mem_append_left _ q)
      · rcases List.mem_cons.mp q with q | q
        · exact hsz q
        · exact na (List.mem_append_right _ q)
    exact itemsLoop hA hE R F hl hI st R₂ hit₂ ((hda.keep hk₁).keep hk₂) hdn₂ hr₂ kk
end
end Mine
end
section
namespace Mine
section
variable {prog : Program} {w : World} {h₀ : Heap} {fs as as' as'' ow : List Addr} {σ σ' σ'' : List MO} {s s' s'' : Shared} {k n : Nat} {sc : Scope} {m : List (Str × Vl)} {K : Vl → List MO → Prop} {gl : Str → Option Value}
  {env : Env} {A : Around} {I : Addr} {Ks : Fl → List (Str × Vl) → List MO → Prop} {Kb : Bool → List MO → Prop}

theorem loc_of (hE : EnvIs sc env) {x : Str} (hk : sc.names.lookup x = some .local) : env.kindOf x = some .local := by unfold Env.kindOf; rw [hE.scope]; exact hk
/-- x op= e -/
theorem W1.aug {x : Str} {p p' : Pos} {e : Expr} {op : Operator} {v : Vl} (hv : m.lookup x = some v) (hk : sc.names.lookup x = some .local)
    (h : WE prog w h₀ n sc m e σ fun b σ₁ => WO prog w h₀ n [v, b] (bin2 (inplaceOp op)) σ₁ fun r σ₂ => WN prog w h₀ sc k m x r σ₂ Ks) : W1 prog w h₀ n sc k m (.AugAssign (.Name x p') op e p) σ Ks := by
  intro A env fs as s hA hE R F hl
  refine el_ea (F.ns) fun mm hn hm => ?_
  refine el_ea (hm x v hv (loc_of hE hk)) fun u hu e => ?_
  refine wpAny_AugAssign_Name (wpAny_loadName_local (by rw [hE.scope]; exact hE.kind) (loc_of hE hk) hn e ?_)
  refine wpAny_mono (h A env fs as s hA hE R F) (fun u₁ s₁ zf17 => PostE.el zf17 fun v₁ a₁ σ₁ st R₁ V k₁ => ?_) fun _ _ x => x
  refine wpAny_mono (k₁ A fs a₁ s₁ [u, u₁] hA R₁ (.cons (hu.stepE st) (.cons V .nil))) (fun u₂ s₂ zf18 => PostE.el zf18 fun v₂ a₂ σ₂ st₂ R₂ V₂ k₂ => ?_) fun _ _ x => x
  have s12 := st.transE st₂
  exact wpAny_mono (k₂ A env fs a₂ s₂ u₂ hE R₂ (F.stepE R.nd s12) (Nat.le_trans hl s12.grows) V₂) (fun _ _ p => p.after hl s12) fun _ _ x => x
theorem W1.expr {e : Expr} {p : Pos} (h : WE prog w h₀ n sc m e σ fun _ σ₁ => Ks .next m σ₁) (hs : ∀ env, swapsWith e none p.line env = pure false := by intro _; rfl) : W1 prog w h₀ n sc k m (.Expr e p) σ Ks := by
  intro A env fs as s hA hE R F hl
  refine wpAny_Expr_any (wpAny_mono (h A env fs as s hA hE R F) (fun u s₁ zf23 => PostE.el zf23 fun v a₁ σ₁ st R₁ V k₁ => ?_) fun _ _ x => x) (by unfold interactive; rw [hE.scope, hE.kind]; rfl) (hs env)
  exact (PostS.mk (fl := .next) (m' := m) (as' := a₁) (σ' := σ₁) rfl (st.weaken (fun _ h => nomatch h) hl) R₁ (F.stepE R.nd st) (Nat.le_trans hl st.grows) k₁)
theorem W1.continue_ {p : Pos} (h : Ks .cont m σ) : W1 prog w h₀ n sc k m (.Continue p) σ Ks :=
  fun _ _ _ _ _ _ _ R F hl => wpAny_Continue (PostS.mk (fl := .cont) (m' := m) (σ' := σ) rfl (Stp.refl ..) R F hl h)
/-- d[k] op= e -/
theorem W1.augItem {o i e : Expr} {op : Operator} {p p' : Pos} (h : WE prog w h₀ n sc m o σ fun ov σ₁ => WE prog w h₀ n sc m i σ₁ fun iv σ₂ => WO prog w h₀ n [ov, iv] (bin2 getItem) σ₂ fun old σ₃ => WE prog w h₀ n sc m e σ₃ fun v σ₄ =>
      WO prog w h₀ n [old, v] (bin2 (inplaceOp op)) σ₄ fun r σ₅ => WU prog w h₀ n [ov, iv, r] (tri3u PySem.setItem) σ₅ fun σ₆ => Ks .next m σ₆)
    (ha : ∀ ov iv new, augStore i ov iv new = (do holding [new, ov, iv] (PySem.setItem ov iv new); release [new, ov, iv] []; pure .next) := by intro _ _ _; rfl) : W1 prog w h₀ n sc k m (.AugAssign (.Subscript o i p') op e p) σ Ks := by
  intro A env fs as s hA hE R F hl
  refine wpAny_AugAssign_SubscriptAny (wpAny_mono (h A env fs as s hA hE R F) (fun u s₁ zf32 => PostE.el zf32 fun v a₁ σ₁ st R₁ V k₁ => ?_) fun _ _ x => x) ha
  have F₁ := F.stepE R.nd st
  refine wpAny_mono (k₁ A env fs a₁ s₁ hA hE R₁ F₁) (fun u₂ s₂ zf34 => PostE.el zf34 fun v₂ a₂ σ₂ st₂ R₂ V₂ k₂ => ?_) fun _ _ x => x
  have F₂ := F₁.stepE R₁.nd st₂
  refine wpAny_mono (k₂ A fs a₂ s₂ [u, u₂] hA R₂ (.cons (V.stepE st₂) (.cons V₂ .nil))) (fun u₃ s₃ zf36 => PostE.el zf36 fun v₃ a₃ σ₃ st₃ R₃ V₃ k₃ => ?_) fun _ _ x => x
  have F₃ := F₂.stepE R₂.nd st₃
  refine wpAny_mono (k₃ A env fs a₃ s₃ hA hE R₃ F₃) (fun u₄ s₄ zf38 => PostE.el zf38 fun v₄ a₄ σ₄ st₄ R₄ V₄ k₄ => ?_) fun _ _ x => x
  have F₄ := F₃.stepE R₃.nd st₄
  refine wpAny_mono (k₄ A fs a₄ s₄ [u₃, u₄] hA R₄ (.cons (V₃.stepE st₄) (.cons V₄ .nil))) (fun u₅ s₅ zf40 => PostE.el zf40 fun v₅ a₅ σ₅ st₅ R₅ V₅ k₅ => ?_) fun _ _ x => x
  have F₅ := F₄.stepE R₄.nd st₅
  have s25 := (st₃.transE st₄).transE st₅
  refine wpAny_mono (k₅ A fs a₅ s₅ [u, u₂, u₅] hA R₅ (.cons ((V.stepE st₂).stepE s25) (.cons (V₂.stepE s25) (.cons V₅ .nil)))) (fun _ s₆ zf43 => el_B zf43 fun a₆ σ₆ st₆ R₆ k₆ => ?_) fun _ _ x => x
  have s16 := ((st.transE st₂).transE s25).transE st₆
  exact (in_eeeeaaaaa .next m a₆ σ₆ rfl (s16.weaken (fun _ h => nomatch h) hl) R₆ (F₅.stepE R₅.nd st₆) (Nat.le_trans hl s16.grows) k₆)
theorem WO.iaddI {a b : Int} (h : K (.d (.int (a + b))) σ) : WO prog w h₀ n [.d (.int a), .d (.int b)] (bin2 (inplaceOp .Add)) σ K :=
  two_ints fun _ _ _ _ _ _ _ R => PyProof.Rows.iadd_int (.now R (.int _ _) h)
theorem WO.imulI {a b : Int} (hm : IntMulOk a b) (h : K (.d (.int (a * b))) σ) : WO prog w h₀ n [.d (.int a), .d (.int b)] (bin2 (inplaceOp .Mult)) σ K :=
  two_ints fun _ _ _ _ _ _ _ R => PyProof.Rows.imul_int (.now R (.int _ _) h) hm
theorem WO.iaddS {a b : Str} (hz : a.length + b.length ≤ sizeLine) (h : K (.d (.str (a ++ b))) σ) : WO prog w h₀ n [.d (.str a), .d (.str b)] (bin2 (inplaceOp .Add)) σ K := by
  refine two_of fun A fs as s u₁ u₂ hA R V₁ V₂ => ?_
  obtain ⟨t₁, rfl⟩ := V₁.str_inv
  obtain ⟨t₂, rfl⟩ := V₂.str_inv
  exact iadd_str (fun t' tk => .now R (.str _ _) h) hz
theorem WE.neg {e : Expr} {p : Pos} (h : WE prog w h₀ n sc m e σ fun v σ₁ => ∃ i, v = .d (.int i) ∧ K (.d (.int (-i))) σ₁) : WE prog w h₀ n sc m (.UnaryOp .USub e p) σ K := by
  intro A env fs as s hA hE R F
  refine wpAny_UnaryOp (wpAny_mono (h A env fs as s hA hE R F) (fun u s₁ zf57 => PostE.elq1 zf57 fun i a₁ σ₁ st R₁ V k₁ => ?_) fun _ _ x => x)

  obtain ⟨t, rfl⟩ := V.int_inv
  exact PyProof.Rows.neg_int ((PostE.now R₁ (.int _ _) k₁).step st)
theorem WO.notInD (G : Glb h₀ gl) {v : Vl} {kvs : List (Str × D)} {x : Str} (hd : IsD σ v kvs) (h : K (.d (.bool !(dget kvs x).isSome)) σ) : WO prog w h₀ n [.d (.str x), v] (bin2 (compareOp .NotIn)) σ K := by
  refine two_of fun A fs as s u₁ u₂ hA R V₁ V₂ => ?_
  obtain ⟨t, rfl⟩ := V₁.str_inv
  refine el_eeaaa (hd.at G R V₂) fun a kv zq2 hs hdd hr => ?_; subst zq2
  refine wpAny_notIn_of (strKind_is prog w x t) hs hdd.mapOf ?_
  have : (valueAt kv x).isSome = (dget kvs x).isSome := by
    rcases hr.get (k := x) with ⟨h1, h2⟩ | ⟨d, u, h1, h2, _⟩ <;> rw [h1, h2] <;> rfl
  rw [this]
  exact .now R (.bool _) h
theorem WB.or {a b : Expr} {p : Pos} (h : WB prog w h₀ n sc m a σ fun t σ₁ => if t = true then Kb true σ₁ else WB prog w h₀ n sc m b σ₁ Kb) : WB prog w h₀ n sc m (.BoolOp .Or [a, b] p) σ Kb := by
  intro A env fs as s hA hE R F
  refine isTrue_or (wpAny_mono (h A env fs as s hA hE R F) (fun t s₁ zf72 => el_B zf72 fun a₁ σ₁ st R₁ k₁ => ?_) fun _ _ x => x)
  cases t with
  | true => exact (in_eeaa a₁ σ₁ st R₁ k₁)
  | false =>
    refine isTrue_or (wpAny_mono (k₁ A env fs a₁ s₁ hA hE R₁ (F.stepE R.nd st)) (fun t s₂ zf76 => el_B zf76 fun a₂ σ₂ st₂ R₂ k₂ => ?_) fun _ _ x => x)
    cases t with
    | true => exact (in_eeaa a₂ σ₂ (st.transE st₂) R₂ k₂)
    | false => exact isTrue_or_nil (in_eeaa a₂ σ₂ (st.transE st₂) R₂ k₂)
/-- d.get(k, v) -/
theorem WO.get3 (G : Glb h₀ gl) {v : Vl} {kvs : List (Str × D)} {x : Str} {d : D} (hd : IsD σ v kvs) (h : K (.d ((dget kvs x).getD d)) σ) : WO prog w h₀ n [v, .d (.str x), .d d] (fun us => call (.builtin "dict.get") us) σ K := by
  intro A fs as s us hA R V
  apply VRs.three V; intro _ _ _ V₁ V₂ V₃
  · skip
    obtain ⟨t, rfl⟩ := V₂.str_inv
    refine el_eeaaa (hd.at G R V₁) fun a kv zq2 hs hdd hr => ?_; subst zq2
    refine call_meetsIn PySem.F.slot_dict_get hdd.typeIs PySem.F.entry_dict_get (PySem.F.args_dict_get_3 _ _ _) (meets_dict_get_default (strKind prog w) a (strKind_is prog w x t) hs _) ⟨_, hdd.mapOf, ?_⟩
    rcases hr.get (k := x) with ⟨h1, h2⟩ | ⟨d', u, h1, h2, h3⟩
    · rw [h1] at h; rw [h2]; exact .now R V₃ h
    · rw [h1] at h; rw [h2]; exact .now R (v := .d d') h3 h
/-- the truth of a list that may change -/
theorem WT.lst {i : Nat} {xs : List D} (hi : σ[i]? = some (.list xs)) (hl : xs.length ≤ 1000) (h : Kb (!xs.isEmpty) σ) : WT prog w h₀ n (.m i) σ Kb := by
  intro A fs as s u hA R V
  refine el_ea (V) fun a ha zq2 => ?_; subst zq2; try clear V
  refine el_ea (R.mo i a _ ha hi) fun vs hp hr => ?_
  have he : vs.toArray.isEmpty = xs.isEmpty := by cases hr <;> simp
  refine wpAny_truthy_list hp.isList (by rw [List.size_toArray, hr.length]; lia) ?_
  rw [he]
  exact (in_eeaa as σ ((Stp.refl _ _ _ _).toks _) (R.toks _) h)
/-- ''.join -/
theorem strs_of {ex : List Addr} {h : Heap} : ∀ {ys : List Str} {us : List Value}, RdAll prog w ex h us (ys.map .str) → StrsAre us ys
  | [], _, .nil => .nil
  | y :: ys, _, .cons a r => by cases a with | str _ t => exact .cons y t (strs_of r)
theorem WO.join {x : Str} {ys : List Str} (hz : (ys.map (·.length)).sum + ys.length * x.length ≤ 16777216) (h : K (.d (.str (Txt.join x ys))) σ) : WO prog w h₀ n [.d (.str x), .d (.lst (ys.map .str))] (fun us => call (.builtin "str.join") us) σ K := by
  intro A fs as s us hA R V
  apply VRs.two V; intro _ _ V₁ V₂
  · skip
    obtain ⟨t, rfl⟩ := V₁.str_inv
    apply Rd.lstE V₂; intro _ _ na ht hr
    · skip
      exact join_list ht (by simpa using strs_of hr) hz fun t' kk => .now R (.str _ _) h
theorem WO.maxI {a b : Int} (h : K (.d (.int (if b > a then b else a))) σ) : WO prog w h₀ n [.d (.int a), .d (.int b)] (fun us => call (.builtin "max") us) σ K := by
  intro A fs as s us hA R V
  apply VRs.two V; intro _ _ V₁ V₂
  · skip
    obtain ⟨t₁, rfl⟩ := V₁.int_inv
    obtain ⟨t₂, rfl⟩ := V₂.int_inv
    refine max_two_ints hA.handled fun h' tk hk => ?_
    refine .kept (v := .d (.int (if b > a then b else a))) R hk R.bare rfl ?_ h
    split
    · exact Rd.int _ _
    · exact Rd.int _ _
theorem WO.lenL {xs : List D} (hl : xs.length ≤ 1000) (h : K (.d (.int xs.length)) σ) : WO prog w h₀ n [.d (.lst xs)] (fun us => call (.builtin "len") us) σ K := by
  intro A fs as s us hA R V
  apply VRs.one V; intro _ V₁
  · skip
    apply Rd.lstE V₁; intro _ _ na ht hr
    · skip
      refine PySem.Calls.call_len_list ht (by rw [List.size_toArray, hr.length]; lia) ?_
      rw [List.size_toArray, hr.length]
      exact .now R (.int _ _) h
end
end Mine
end
section
namespace Mine

noncomputable def relabelS (scope sc : Scope) : Scope :=
  { scope with names := scope.names.map fun (n, k) => if (k == .free && sc.kind == .function && sc.names.lookup n == some .cell) then (n, .cell) else (n, k) }
noncomputable def mC (scope : Scope) (m : List (Str × Vl)) : List (Str × Vl) := m.filter fun p => match scope.names.lookup p.1 with
  | some .free => true
  | _ => false
noncomputable def closL (env : Env) : List (Str × NameKind) → List (Str × Addr) → List (Str × Addr)
  | [], acc => acc
  | (y, kd) :: r, acc => if kd == .free then (match env.cells.lookup y with
    | some c => closL env r ((y, c) :: acc)
    | none => closL env r acc) else closL env r acc

theorem relabel_eq {sc scope : Scope} {env : Env} (hE : EnvIs sc env) : relabel scope env = relabelS scope sc := by
  unfold relabel relabelS Env.kindOf
  rw [hE.scope]
theorem closure_ok {scope : Scope} {env : Env} (hf : ∀ y, (y, .free) ∈ scope.names → ∃ c, env.cells.lookup y = some c) : closureFor scope env = pure (closL env scope.names []) := by
  have key : ∀ (l : List (Str × NameKind)) (acc : List (Str × Addr)), (∀ y, (y, .free) ∈ l → ∃ c, env.cells.lookup y = some c) →
      (forIn l acc fun (x : Str × NameKind) (r : List (Str × Addr)) => if (x.2 == NameKind.free) = true then do let a ← cellOf env x.1; pure (ForInStep.yield ((x.1, a) :: r)) else pure (ForInStep.yield r) : Sem (List (Str × Addr))) = pure (closL env l acc) := by
    intro l
    induction l with
    | nil => intro acc _; simp [closL]
    | cons p r ih =>
      intro acc hp
      obtain ⟨y, kd⟩ := p
      rw [List.forIn_cons]
      unfold closL
      by_cases hk : (kd == NameKind.free) = true
      · simp only [hk, if_true]
        have : kd = .free := by simpa using hk
        subst this
        obtain ⟨c, hc⟩ := hp y (List.mem_cons_self ..)
        simp only [cellOf, hc, pure_bind]
        exact ih _ fun z hz => hp z (List.mem_cons_of_mem _ hz)
      · simp only [hk, if_false, pure_bind, Bool.false_eq_true]
        exact ih _ fun z hz => hp z (List.mem_cons_of_mem _ hz)
  unfold closureFor
  have := key scope.names [] hf
  simpa using this
theorem closL_mem {env : Env} : ∀ {l : List (Str × NameKind)} {acc : List (Str × Addr)} {p : Str × Addr}, (∀ q ∈ acc, env.cells.lookup q.1 = some q.2) → p ∈ closL env l acc → env.cells.lookup p.1 = some p.2
  | [], _, _, ha, hp => ha _ hp
  | (y, kd) :: r, acc, p, ha, hp => by
    unfold closL at hp
    split at hp
    · split at hp
      · rename_i c hc
        refine closL_mem (fun q hq => ?_) hp
        rcases List.mem_cons.mp hq with rfl | hq
        · exact hc
        · exact ha q hq
      · exact closL_mem ha hp
    · exact closL_mem ha hp
theorem closL_old {env : Env} : ∀ {l : List (Str × NameKind)} {acc : List (Str × Addr)} {p : Str × Addr}, p ∈ acc → p ∈ closL env l acc
  | [], _, _, h => h
  | (y, kd) :: r, acc, p, h => by
    unfold closL
    split
    · split
      · exact closL_old (List.mem_cons_of_mem _ h)
      · exact closL_old h
    · exact closL_old h
theorem closL_has {env : Env} : ∀ {l : List (Str × NameKind)} {acc : List (Str × Addr)} {y : Str} {c : Addr}, (y, .free) ∈ l → env.cells.lookup y = some c → (y, c) ∈ closL env l acc
  | (z, kd) :: r, acc, y, c, h, hc => by
    unfold closL
    rcases List.mem_cons.mp h with e | h
    · cases e
      rw [if_pos (by rfl), hc]
      exact closL_old (List.mem_cons_self ..)
    · split
      · split
        · exact closL_has h hc
        · exact closL_has h hc
      · exact closL_has h hc
theorem lookup_of_mem {c : Addr} {y : Str} : ∀ {l : List (Str × Addr)}, (y, c) ∈ l → (∀ p ∈ l, p.1 = y → p.2 = c) → l.lookup y = some c
  | (z, d) :: r, h, hu => by
    rw [List.lookup_cons]
    by_cases e : y = z
    · subst e
      have := hu (y, d) (List.mem_cons_self ..) rfl
      simp only at this
      subst this; simp
    · have : (y == z) = false := by simpa using e
      rw [this]
      rcases List.mem_cons.mp h with q | q
      · cases q; exact absurd rfl e
      · exact lookup_of_mem q fun p hp => hu p (List.mem_cons_of_mem _ hp)
theorem closL_lookup {env : Env} {l : List (Str × NameKind)} {y : Str} {c : Addr} (h : (y, .free) ∈ l) (hc : env.cells.lookup y = some c) : (closL env l []).lookup y = some c :=
  lookup_of_mem (closL_has h hc) fun p hp e => by
    have := closL_mem (acc := []) (fun _ q => nomatch q) hp
    rw [e, hc] at this
    exact (Option.some.inj this).symm
theorem mC_lookup {scope : Scope} : ∀ {m : List (Str × Vl)} {y : Str} {v : Vl}, (mC scope m).lookup y = some v → m.lookup y = some v ∧ scope.names.lookup y = some .free
  | [], _, _, h => by simp [mC] at h
  | (z, d) :: r, y, v, h => by
    have hc : mC scope ((z, d) :: r) = if (match scope.names.lookup z with | some NameKind.free => true | _ => false) = true then (z, d) :: mC scope r else mC scope r := by unfold mC; rw [List.filter_cons]
    rw [hc] at h
    rw [List.lookup_cons]
    by_cases hq : scope.names.lookup z = some .free
    · rw [hq] at h
      rw [if_pos rfl, List.lookup_cons] at h
      by_cases e : y = z
      · subst e
        simp at h
        subst h
        exact ⟨by simp, hq⟩
      · have e' : (y == z) = false := by simpa using e
        rw [e'] at h ⊢
        exact mC_lookup (scope := scope) (m := r) h
    · have hn : (match scope.names.lookup z with | some NameKind.free => true | _ => false) = false := by
        split
        · rename_i q; exact absurd q hq
        · rfl
      rw [hn, if_neg Bool.false_ne_true] at h
      have ih := mC_lookup (scope := scope) (m := r) h
      by_cases e : y = z
      · subst e; exact absurd ih.2 hq
      · have e' : (y == z) = false := by simpa using e
        rw [e']; exact ih

theorem relab_free {env : Env} {y : Str} : ∀ {l : List (Str × NameKind)}, l.lookup y = some .free → (l.map fun (n, k) => if (k == NameKind.free && env.scope.kind == .function && env.kindOf n == some .cell) then (n, NameKind.cell) else (n, k)).lookup y ≠ some .local
  | [], h => by simp at h
  | (z, kd) :: r, h => by
    show List.lookup y ((if (kd == NameKind.free && env.scope.kind == .function && env.kindOf z == some .cell) = true then (z, NameKind.cell) else (z, kd)) :: _) ≠ _
    have ih := @relab_free env y r
    generalize (r.map fun ((n, k) : Str × NameKind) => if (k == NameKind.free && env.scope.kind == ScopeKind.function && env.kindOf n == some NameKind.cell) then (n, NameKind.cell) else (n, k)) = r' at ih ⊢
    by_cases e : y = z
    · subst e
      rw [List.lookup_cons] at h
      simp at h
      subst h
      split <;> simp [List.lookup_cons]
    · have e' : (y == z) = false := by simpa using e
      rw [List.lookup_cons, e'] at h
      split <;> (rw [List.lookup_cons]; simp only [e']; exact ih h)

theorem relab_cell {env : Env} {y : Str} : ∀ {l : List (Str × NameKind)}, (l.map fun (n, k) => if (k == NameKind.free && env.scope.kind == .function && env.kindOf n == some .cell) then (n, NameKind.cell) else (n, k)).lookup y = some .cell → l.lookup y = some .free ∨ l.lookup y = some .cell
  | [], h => by simp at h
  | (z, kd) :: r, h => by
    replace h : List.lookup y ((if (kd == NameKind.free && env.scope.kind == .function && env.kindOf z == some .cell) = true then (z, NameKind.cell) else (z, kd)) :: (r.map fun ((n, k) : Str × NameKind) => if (k == NameKind.free && env.scope.kind == ScopeKind.function && env.kindOf n == some NameKind.cell) then (n, NameKind.cell) else (n, k))) = some .cell := h
    have ih := @relab_cell env y r
    generalize (r.map fun ((n, k) : Str × NameKind) => if (k == NameKind.free && env.scope.kind == ScopeKind.function && env.kindOf n == some NameKind.cell) then (n, NameKind.cell) else (n, k)) = r' at ih h
    by_cases e : y = z
    · subst e
      rw [List.lookup_cons]
      split at h
      · rename_i q
        simp at q
        simp [q.1.1]
      · simp at h
        simp [h]
    · have e' : (y == z) = false := by simpa using e
      rw [List.lookup_cons, e']
      split at h <;> (rw [List.lookup_cons] at h; simp only [e'] at h; exact ih h)

section
variable (prog : Program) (w : World) (h₀ : Heap)
/-- a comprehension's turns -/
noncomputable def WC (n : Nat) (sc : Scope) (x : Str) (elt : Expr) (m : List (Str × Vl)) : List Vl → List MO → List D → (List D → List MO → Prop) → Prop
  | [], σ, acc, K => K acc σ
  | v :: vs, σ, acc, K => WE prog w h₀ n sc ((x, v) :: m) elt σ fun r σ₁ => ∃ y, r = .d y ∧ acc.length ≤ 1000 ∧ WC n sc x elt m vs σ₁ (acc ++ [y]) K
end

section
variable {prog : Program} {w : World} {h₀ : Heap} {fs as as' as'' ow : List Addr} {σ σ' σ'' : List MO} {s s' s'' : Shared} {k n : Nat} {sc : Scope} {m : List (Str × Vl)} {K : Vl → List MO → Prop} {gl : Str → Option Value}
  {env : Env} {A : Around} {I : Addr} {Ks : Fl → List (Str × Vl) → List MO → Prop}

/-- the frame of a comprehension -/
theorem FrameOk.comp {scope : Scope} {C : Addr} {F₀ : List Addr} {h : Heap} (F : FrameOk prog w env m fs as s.heap) (R : Rel prog w h₀ fs as σ s) (hE : EnvIs sc env) (hk : ∀ b o, s.heap.get? b = some o → h.get? b = some o) (hC : s.heap.get? C = none)
    (hn : h.Ns C fun _ => none) (hfs : ∀ b ∈ fs, b ∈ F₀) (hCf : C ∈ F₀) (hF₀ : ∀ b o, s.heap.get? b = some o → b ∈ F₀ → b ∈ fs)
    (hfree : ∀ y, (y, .free) ∈ scope.names → (∃ v, m.lookup y = some v) ∧ (sc.names.lookup y = some .cell ∨ sc.names.lookup y = some .free)) :
    closureFor scope env = pure (closL env scope.names []) ∧ FrameOk prog w (compEnvC scope (closL env scope.names []) C env) (mC scope m) F₀ as h := by
  have hkd : ∀ y, sc.names.lookup y = env.kindOf y := fun y => by unfold Env.kindOf; rw [hE.scope]
  have hc : ∀ y, (y, .free) ∈ scope.names → ∃ v c u, m.lookup y = some v ∧ env.cells.lookup y = some c ∧ s.heap.IsCell c (some u) ∧ VR prog w fs as s.heap v u := fun y hy => by
    obtain ⟨⟨v, hv⟩, hq⟩ := hfree y hy
    rw [hkd] at hq
    refine el_eeaa (F.cl y v hv hq) fun c u h1 h2 h3 => ?_
    exact (in_eeeaaa v c u hv h1 h2 h3)
  have vm : ∀ v u, VR prog w fs as s.heap v u → VR prog w F₀ as h v u := fun v u V => by
    cases v with
    | d t =>
      refine Rd.move (fun b o hb e => ⟨hk b o e, fun q => ?_⟩) V
      rcases List.mem_append.mp q with q | q
      · exact hb (List.mem_append_left _ q)
      · exact hb (List.mem_append_right _ (hF₀ b o e q))
    | m i => exact V
    | g v => exact V
  have hmem : ∀ y c, (closL env scope.names []).lookup y = some c → env.cells.lookup y = some c := fun y c e => closL_mem (acc := []) (fun _ q => nomatch q) (mem_of_lookup e)
  refine ⟨closure_ok fun y hy => let ⟨_, c, _, _, h1, _⟩ := hc y hy; ⟨c, h1⟩, ⟨_, hn, fun y v e hk => ?_⟩, fun y v e hk' => ?_, fun y c e => ?_, fun x y c e e' => F.inj x y c (hmem x c e) (hmem y c e'), hCf, fun y c e q => ?_, fun p hp => ?_⟩
  · exfalso
    have hfr := (mC_lookup e).2
    have : (relabel scope env).names.lookup y = some .local := hk
    exact relab_free hfr this
  · have hfr := mC_lookup e
    refine el_eeeaaa (hc y (mem_of_lookup hfr.2)) fun v' c u h1 h2 h3 h4 => ?_
    rw [hfr.1] at h1; cases h1
    exact (in_eeaa c u (closL_lookup (mem_of_lookup hfr.2) h2) (isCell_at h3 fun o e => hk c o e) (vm v u h4))
  · refine el_ae (F.cells y c (hmem y c e)) fun h1 v h2 => ?_
    exact ⟨hfs c h1, v, isCell_at h2 fun o e => hk c o e⟩
  · have q' : c = C := q
    refine el_aeea (F.cells y c (hmem y c e)) fun _ v o h2 _ => ?_
    rw [q', hC] at h2; cases h2
  · have := closL_mem (acc := []) (fun _ q => nomatch q) hp
    exact hfs _ (F.cells _ _ this).1

theorem Rel.perm {fs' : List Addr} (R : Rel prog w h₀ fs as σ s) (hp : fs.Perm fs') : Rel prog w h₀ fs' as σ s := by
  have hmem : ∀ b, b ∈ as ++ fs' ↔ b ∈ as ++ fs := fun b => by simp only [List.mem_append, hp.mem_iff]
  have mv : ∀ b o, b ∉ as ++ fs → s.heap.get? b = some o → s.heap.get? b = some o ∧ b ∉ as ++ fs' := fun b o hb e => ⟨e, fun q => hb ((hmem b).mp q)⟩
  exact ⟨fun b o e => mv b o (R.base b o e).2 (R.base b o e).1, R.len, (List.Perm.nodup_iff (List.Perm.append_left _ hp.symm)).mpr R.nd, fun a ha => R.there a ((hmem a).mp ha), fun i a y ha hy => (R.mo i a y ha hy).move (fun _ _ _ e => e) mv fun o e => e, R.bare⟩
/-- a local is bound -/
theorem store_loc {x : Str} {v : Vl} {u : Value} {Q : Unit → Shared → Prop} {E : Value → Shared → Prop} (hE : EnvIs sc env) (hk : sc.names.lookup x = some .local) (R : Rel prog w h₀ fs as σ s) (F : FrameOk prog w env m fs as s.heap) (V : VR prog w fs as s.heap v u)
    (hQ : ∀ s', Stp [env.locals] k as s as s' → Rel prog w h₀ fs as σ s' → FrameOk prog w env ((x, v) :: m) fs as s'.heap → Heap.SameBut env.locals s.heap s'.heap → Q () s') : wpAny (model prog w) A (storeName env x u) Q E s := by
  have hk' : env.kindOf x = some .local := loc_of hE hk
  refine el_ea (F.ns) fun mm hn hv => ?_
  refine wpAny_storeName_local hk' hn (fun h' hn' hs => ?_) (by rw [hE.scope, hE.kind]; rfl)
  have ht : ∃ o, h'.get? env.locals = some o := by refine el_eeea (hn') fun o _ _ e _ => ?_; try clear hn'; exact ⟨o, e⟩
  refine hQ _ (Stp.framed (List.mem_cons_self ..) hs ht) (R.framed F.loc hs ht) ⟨⟨_, hn', fun y v' hy hky => ?_⟩, fun y v' hy hky => ?_, fun y c e => ?_, F.inj, F.loc, F.ne, F.all⟩ hs
  · rw [lookup_cons_eq] at hy
    by_cases hxy : y = x
    · rw [if_pos hxy] at hy; cases hy
      exact ⟨u, V.framed F.loc hs, by simp [hxy]⟩
    · rw [if_neg hxy] at hy
      refine el_ea (hv y v' hy hky) fun u' h1 h2 => ?_
      exact ⟨u', h1.framed F.loc hs, by simp [hxy, h2]⟩
  · rw [lookup_cons_eq] at hy
    by_cases hxy : y = x
    · subst hxy; rcases hky with q | q <;> (rw [hk'] at q; cases q)
    · rw [if_neg hxy] at hy
      refine el_eeaa (F.cl y v' hy hky) fun c u' h1 h2 h3 => ?_
      exact (in_eeaa c u' h1 (h2.sameBut hs (F.ne y c h1)) (h3.framed F.loc hs))
  · refine el_ae (F.cells y c e) fun h1 v' h2 => ?_
    exact ⟨h1, v', h2.sameBut hs (F.ne y c e)⟩
/-- what was written since did not stand before -/
theorem Stp.since {s₀ : Shared} {a₀ : List Addr} (x : Stp [] a₀.length a₀ s₀ as s) (y : Stp ow as.length as s as' s') (ho : ∀ b ∈ ow, s₀.heap.get? b = none) : Stp [] a₀.length a₀ s₀ as' s' := by
  have z : Stp ow a₀.length a₀ s₀ as' s' := (x.weaken (fun _ h => nomatch h) (Nat.le_refl _)).trans (y.weaken (fun _ h => h) x.grows)
  exact ⟨z.pre, z.fresh, fun b o h1 _ e => z.kept b o h1 (fun q => by rw [ho b q] at e; cases e) e, z.thr, z.os⟩
theorem Stp.ext {s₀ : Shared} {a₀ : List Addr} {h' : Heap} (x : Stp [] a₀.length a₀ s₀ as s) (hI : s₀.heap.get? I = none) (he : Heap.ExtBut I s.heap h') : Stp [] a₀.length a₀ s₀ as { s with heap := h' } :=
  ⟨x.pre, x.fresh, fun b o h1 h2 e => he b o (fun q => by subst q; rw [hI] at e; cases e) (x.kept b o h1 h2 e), fun b o e => by
    obtain ⟨o', e'⟩ := x.thr b o e
    exact ⟨o', he b o' (fun q => by subst q; rw [hI] at e; cases e) e'⟩, x.os⟩
theorem loop3 {cenv : Env} {DD : Addr} (ndF : (cenv.locals :: DD :: I :: fs).Nodup) (hcf : ∀ p ∈ cenv.cells, p.2 ∈ fs) : cenv.locals ≠ DD ∧ cenv.locals ≠ I ∧ DD ≠ I ∧ I ∉ own cenv ∧ DD ∉ own cenv ∧ (∀ b ∈ [I, DD, cenv.locals], b ∈ cenv.locals :: DD :: I :: fs) := by
  have nd1 := List.nodup_cons.mp ndF
  have nd2 := List.nodup_cons.mp nd1.2
  have nd3 := List.nodup_cons.mp nd2.2
  have hCD : cenv.locals ≠ DD := fun q => nd1.1 (by rw [q]; simp)
  have hCI : cenv.locals ≠ I := fun q => nd1.1 (by rw [q]; simp)
  have hDI : DD ≠ I := fun q => nd2.1 (by rw [q]; simp)
  refine ⟨hCD, hCI, hDI, fun q => ?_, fun q => ?_, fun b hb => ?_⟩
  · rcases List.mem_cons.mp q with q | q
    · exact hCI q.symm
    · refine el_ea (List.mem_map.mp q) fun p hp e => ?_
      exact nd3.1 (e ▸ hcf p hp)
  · rcases List.mem_cons.mp q with q | q
    · exact hCD q.symm
    · refine el_ea (List.mem_map.mp q) fun p hp e => ?_
      exact nd2.1 (e ▸ List.mem_cons_of_mem _ (hcf p hp))
  · simp at hb ⊢; rcases hb with rfl | rfl | rfl <;> simp
theorem perm3 {C DD : Addr} : (C :: DD :: I :: fs).Perm (I :: C :: DD :: fs) := by
  have := List.perm_middle (a := I) (l₁ := [C, DD]) (l₂ := fs)
  simpa using this
theorem out3 {C DD b : Addr} (hb : b ∉ as ++ C :: DD :: I :: fs) : b ∉ as ++ C :: DD :: fs := fun q => hb (by
  rcases List.mem_append.mp q with q | q
  · exact List.mem_append_left _ q
  · exact List.mem_append_right _ (perm3.mem_iff.mpr (List.mem_cons_of_mem _ q)))
theorem Stp.since3 {C DD : Addr} {s₀ : Shared} {a₀ : List Addr} {h' : Heap} (x : Stp [] a₀.length a₀ s₀ as s) (y : Stp [I, DD, C] as.length as s as' s') (hI₀ : s₀.heap.get? I = none) (hD₀ : s₀.heap.get? DD = none) (hC₀ : s₀.heap.get? C = none) (he : Heap.ExtBut I s'.heap h') : Stp [] a₀.length a₀ s₀ as' { s' with heap := h' } :=
  (x.since y fun b hb => by
    simp at hb; rcases hb with rfl | rfl | rfl
    · exact hI₀
    · exact hD₀
    · exact hC₀).ext hI₀ he
theorem FrameOk.weak1 {x : Str} {v : Vl} {mo mm : List (Str × Vl)} (F : FrameOk prog w env ((x, v) :: mo) fs as s.heap) (hmo : ∀ y v, mm.lookup y = some v → mo.lookup y = some v ∨ y = x) : FrameOk prog w env ((x, v) :: mm) fs as s.heap := F.weak fun y v' hy => by
  rw [lookup_cons_eq] at hy ⊢
  by_cases q : y = x
  · rw [if_pos q] at hy ⊢; exact hy
  · rw [if_neg q] at hy ⊢
    rcases hmo y v' hy with h | h
    · exact h
    · exact absurd h q
theorem look1 {x : Str} {v : Vl} {mm : List (Str × Vl)} : ∀ y v', mm.lookup y = some v' → ((x, v) :: mm).lookup y = some v' ∨ y = x := fun y v' h => by
  by_cases q : y = x
  · exact .inr q
  · left; rw [lookup_cons_eq, if_neg q]; exact h
theorem Stp.three {C DD : Addr} {a₅ : List Addr} {s₃ s₄ s₅ : Shared} (st₃ : Stp [I] k as s as s₃) (st₄ : Stp [C] k as s₃ as s₄) (st₅ : Stp [] as.length as s₄ a₅ s₅) : Stp [I, DD, C] as.length as s a₅ s₅ := by
  have a1 := st₃.weaken (ow' := [I, DD, C]) (fun b hb => by simp at hb ⊢; exact .inl hb) (Nat.le_refl _)
  have a2 := st₄.weaken (ow' := [I, DD, C]) (fun b hb => by simp at hb ⊢; exact .inr (.inr hb)) (Nat.le_refl _)
  have a3 := st₅.weaken (ow' := [I, DD, C]) (k' := as.length) (fun b hb => nomatch hb) (Nat.le_refl _)
  have a12 := a1.trans a2
  have a12' : Stp [I, DD, C] as.length as s as s₄ := ⟨fun _ _ _ e => e, a12.fresh, a12.kept, a12.thr, a12.os⟩
  exact a12'.trans a3
theorem Stp.turn3 {C DD : Addr} {a₅ : List Addr} {s₁ s₅ s₆ : Shared} (x : Stp [I, DD, C] as.length as s₁ as' s') (y : Stp [I, DD, C] as'.length as' s' a₅ s₅) (z : Stp [DD] a₅.length a₅ s₅ a₅ s₆) (hg : as'.length ≤ a₅.length) : Stp [I, DD, C] as.length as s₁ a₅ s₆ :=
  x.trans ((y.weaken (fun _ h => h) x.grows).trans (z.weaken (k' := as.length) (fun b hb => by simp at hb ⊢; exact .inr (.inl hb)) (Nat.le_trans x.grows hg)))
theorem Itr.turn3 {C DD : Addr} {xs : List Vl} {a₅ F : List Addr} {s₃ s₄ s₅ s₆ : Shared} (T : Itr prog w A I xs F as s₃.heap) (st₄ : Stp [C] k as s₃ as s₄) (st₅ : Stp [] as.length as s₄ a₅ s₅) (z : Stp [DD] a₅.length a₅ s₅ a₅ s₆) (hIa : I ∉ as) (hIa₅ : I ∉ a₅) (hCI : C ≠ I) (hDI : DD ≠ I) (hC : C ∈ F) (hD : DD ∈ F) : Itr prog w A I xs F a₅ s₆.heap := by
  have T₄ := T.step (as' := as) (s' := s₄) st₄ hIa (fun q => hCI (List.mem_singleton.mp q).symm) fun b hb => by rw [List.mem_singleton.mp hb]; exact hC
  have T₅ := T₄.step st₅ hIa (fun q => nomatch q) fun b hb => nomatch hb
  exact T₅.step z hIa₅ (fun q => hDI (List.mem_singleton.mp q).symm) fun b hb => by rw [List.mem_singleton.mp hb]; exact hD
/-- the loop of a list comprehension -/
theorem compLoop_list {elt iter : Expr} {x : Str} {px pos : Pos} {scope : Scope} {cenv : Env} {DD : Addr} {R' : Result → Shared → Prop} {xs : List Vl} {mm : List (Str × Vl)} {Kl : List D → List MO → Prop} {s₀ : Shared} {a₀ : List Addr}
    (hA : Room n A) (hE : EnvIs sc cenv) (st₀ : Stp [] a₀.length a₀ s₀ as s) (R : Rel prog w h₀ (cenv.locals :: DD :: I :: fs) as σ s) (F : FrameOk prog w cenv mm (cenv.locals :: DD :: I :: fs) as s.heap) (T : Itr prog w A I xs (cenv.locals :: DD :: I :: fs) as s.heap)
    (hI₀ : s₀.heap.get? I = none) (hD₀ : s₀.heap.get? DD = none) (hC₀ : s₀.heap.get? cenv.locals = none) (hcf : ∀ p ∈ cenv.cells, p.2 ∈ fs)
    (hx : sc.names.lookup x = some .local) (hpl : s.heap.PlainList DD #[])
    (kk : WC prog w h₀ n sc x elt mm xs σ [] Kl)
    (hR : ∀ us ds a' σ' s', Stp [] a₀.length a₀ s₀ a' s' → Rel prog w h₀ (cenv.locals :: DD :: fs) a' σ' s' → s'.heap.PlainList DD (List.toArray us) → RdAll prog w (a' ++ cenv.locals :: DD :: fs) s'.heap us ds → (∃ mN, s'.heap.Ns cenv.locals mN) → Kl ds σ' → R' (.ok .next) s') :
    codeAny (model prog w) A (.compLoop (.ListComp elt [⟨.Name x px, iter, [], 0⟩] scope pos) 0 (.ref I) (.ref DD) cenv) R' s := by
  have ndF : (cenv.locals :: DD :: I :: fs).Nodup := (List.nodup_append.mp R.nd).2.1
  refine el_aaaaa (loop3 ndF hcf) fun hCD hCI hDI hIo hDo how => ?_
  have hI : I ∈ cenv.locals :: DD :: I :: fs := by simp
  have hD : DD ∈ cenv.locals :: DD :: I :: fs := by simp
  have hC : cenv.locals ∈ cenv.locals :: DD :: I :: fs := by simp
  refine codeAny_compLoop_tests (fun j s' => ∃ xs' acc us a' σ' mo, j = xs'.length ∧ Stp [I, DD, cenv.locals] as.length as s a' s' ∧ Rel prog w h₀ (cenv.locals :: DD :: I :: fs) a' σ' s' ∧ FrameOk prog w cenv mo (cenv.locals :: DD :: I :: fs) a' s'.heap ∧ (∀ y v, mm.lookup y = some v → mo.lookup y = some v ∨ y = x) ∧ Itr prog w A I xs' (cenv.locals :: DD :: I :: fs) a' s'.heap ∧
    s'.heap.PlainList DD (List.toArray us) ∧ RdAll prog w (a' ++ cenv.locals :: DD :: I :: fs) s'.heap us acc ∧ WC prog w h₀ n sc x elt mm xs' σ' acc Kl) ?_ xs.length (in_eeeeeeaaaaaaaa xs ([]) ([]) as σ mm rfl (Stp.refl ..) R F (fun _ _ h => .inl h) T hpl .nil kk)
  intro j s' zr
  refine el_eeeeeeaaaaaaaa zr fun xs' acc us a' σ' mo ej st' R₁ F₁ hmo T₁ hp₁ hr₁ k₁ => ?_
  clear zr
  have hDa : DD ∉ a' := nd_out R₁.nd hD
  have hIa : I ∉ a' := nd_out R₁.nd hI
  cases xs' with
  | nil =>
    refine wpAny_mono (T₁.end fun h' he => ?_) (fun _ _ x => x) fun _ _ x => False.elim x
    refine hR us acc a' σ' _ (st₀.since3 st' hI₀ hD₀ hC₀ he) ((R₁.perm perm3).spent he) ?_ ?_ ?_ k₁
    · obtain ⟨ep, e⟩ := hp₁; exact ⟨ep, he _ _ hDI e⟩
    · exact hr₁.move fun b o hb e => ⟨he b o (fun q => hb (List.mem_append_right _ (q ▸ hI))) e, out3 hb⟩
    · refine el_ea (F₁.ns) fun mN hn _ => ?_
      exact ⟨mN, hn.at' fun o e => he _ o hCI e⟩
  | cons v vs =>
    refine wpAny_mono (T₁.next (k := as.length) R₁ hI fun u s₃ V₃ st₃ R₃ T₃ _ => ?_) (fun _ _ x => x) fun _ _ x => False.elim x
    have F₃ := F₁.but1 hI hIo st₃ R₁.nd
    refine wpAny_assign_Name (store_loc (k := as.length) hE hx R₃ F₃ V₃ fun s₄ st₄ R₄ F₄ sb₄ => ?_)
    show wpAny _ _ (pure true) _ _ s₄
    refine wpAny_pure ?_
    rw [if_pos rfl]
    have F₄' : FrameOk prog w cenv ((x, v) :: mm) (cenv.locals :: DD :: I :: fs) a' s₄.heap := F₄.weak1 hmo
    have k₄ : WE prog w h₀ n sc ((x, v) :: mm) elt σ' fun r σ₁ => ∃ y, r = .d y ∧ acc.length ≤ 1000 ∧ WC prog w h₀ n sc x elt mm vs σ₁ (acc ++ [y]) Kl := k₁
    refine wpAny_mono (k₄ A cenv _ a' s₄ hA hE R₄ F₄') (fun u₅ s₅ zf339 => PostE.elq1 zf339 fun y a₅ σ₅ st₅ R₅ V₅ zk => el_a zk fun hlen k₅ => ?_) fun _ _ x => False.elim x

    have hDl : DD ∉ [cenv.locals] := fun q => hCD (List.mem_singleton.mp q).symm
    have hDi : DD ∉ [I] := fun q => hDI (List.mem_singleton.mp q)
    have hp₅ : s₅.heap.PlainList DD (List.toArray us) := by
      obtain ⟨ep, e⟩ := hp₁
      exact ⟨ep, st₅.kept _ _ hDa (fun q => nomatch q) (st₄.kept _ _ hDa hDl (st₃.kept _ _ hDa hDi e))⟩
    have s35 : Stp [I, DD, cenv.locals] a'.length a' s' a₅ s₅ := st₃.three st₄ st₅
    have hr₅ : RdAll prog w (a₅ ++ cenv.locals :: DD :: I :: fs) s₅.heap us acc := hr₁.move fun b o hb e => s35.mv how b o hb e
    refine wpAny_list_append_plain hp₅ (fun h₆ hp₆ hs₆ => ?_) (by rw [List.size_toArray, hr₅.length, sizeLine_eq]; lia -abstractProof)
    have ht₆ : ∃ o, h₆.get? DD = some o := by obtain ⟨_, e⟩ := hp₆; exact ⟨_, e⟩
    have e1 : ({ s₅ with heap := h₆ } : Shared) = { s₅ with heap := h₆, toks := s₅.toks } := rfl
    rw [e1]
    have s56 : Stp [DD] a₅.length a₅ s₅ a₅ { s₅ with heap := h₆, toks := s₅.toks } := Stp.framed (List.mem_singleton.mpr rfl) hs₆ ht₆
    refine (⟨vs.length, (by rw [ej]; exact Nat.lt_succ_self _), in_eeeeeeaaaaaaaa vs (acc ++ [y]) (us ++ [u₅]) a₅ σ₅ ((x, v) :: mm) rfl ?_ (R₅.framed hD hs₆ ht₆) ?_ look1 ?_ (by simpa using hp₆) ?_ k₅⟩)
    · exact st'.turn3 s35 s56 st₅.grows
    · exact (F₄'.stepE R₄.nd st₅).but1 hD hDo s56 R₅.nd
    · exact T₃.turn3 st₄ st₅ s56 hIa (nd_out R₅.nd hI) hCI hDI hC hD
    · have mv : ∀ b o, b ∉ a₅ ++ cenv.locals :: DD :: I :: fs → s₅.heap.get? b = some o → h₆.get? b = some o ∧ b ∉ a₅ ++ cenv.locals :: DD :: I :: fs := fun b o hb e => s56.mv (fun b hb => by rw [List.mem_singleton.mp hb]; exact hD) b o hb e
      exact (hr₅.move mv).snoc (Rd.move mv V₅)
end
end Mine
end
section
namespace Mine
noncomputable def compOk (scope sc : Scope) (m : List (Str × Vl)) (x : Str) : Bool :=
  scope.names.all (fun p => match p.2 with
    | .cell => false
    | .free => (m.lookup p.1).isSome && (sc.names.lookup p.1 == some .cell || sc.names.lookup p.1 == some .free)
    | .local => scope.names.lookup p.1 == some .local
    | _ => true) && scope.kind == .function && scope.names.lookup x == some .local && (codeOf (relabelS scope sc)).isNone
section
variable {prog : Program} {w : World} {h₀ : Heap} {fs as as' as'' ow : List Addr} {σ σ' σ'' : List MO} {s s' s'' : Shared} {k n : Nat} {sc : Scope} {m : List (Str × Vl)} {K : Vl → List MO → Prop} {gl : Str → Option Value}
  {env : Env} {A : Around} {I : Addr} {Ks : Fl → List (Str × Vl) → List MO → Prop}

theorem compOk_free {scope : Scope} {x : Str} (h : compOk scope sc m x = true) : ∀ y, (y, .free) ∈ scope.names → (∃ v, m.lookup y = some v) ∧ (sc.names.lookup y = some .cell ∨ sc.names.lookup y = some .free) := fun y hy => by
  unfold compOk at h
  simp only [Bool.and_eq_true, List.all_eq_true] at h
  have := h.1.1.1 _ hy
  simp only [Bool.and_eq_true, Bool.or_eq_true, beq_iff_eq] at this
  exact ⟨Option.isSome_iff_exists.mp this.1, this.2⟩
theorem compOk_cell {scope : Scope} {x : Str} (h : compOk scope sc m x = true) : ∀ y ∈ scope.names, y.2 ≠ .cell := fun y hy q => by
  unfold compOk at h
  simp only [Bool.and_eq_true, List.all_eq_true] at h
  have := h.1.1.1 _ hy
  rw [q] at this; simp at this
theorem compOk_names {scope : Scope} {x : Str} (h : compOk scope sc m x = true) : ∀ y ∈ scope.names, y.2 = .local → scope.names.lookup y.1 = some .local := fun y hy q => by
  unfold compOk at h
  simp only [Bool.and_eq_true, List.all_eq_true] at h
  have := h.1.1.1 _ hy
  rw [q] at this; simpa using this
theorem compOk_kind {scope : Scope} {x : Str} (h : compOk scope sc m x = true) : scope.kind = .function := by
  unfold compOk at h
  simp only [Bool.and_eq_true] at h
  simpa using h.1.1.2
theorem compOk_x {scope : Scope} {x : Str} (h : compOk scope sc m x = true) : scope.names.lookup x = some .local := by
  unfold compOk at h
  simp only [Bool.and_eq_true] at h
  simpa using h.1.2
theorem compOk_code {scope : Scope} {x : Str} (h : compOk scope sc m x = true) : codeOf (relabelS scope sc) = none := by
  unfold compOk at h
  simp only [Bool.and_eq_true] at h
  exact Option.isNone_iff_eq_none.mp h.2
theorem relabS_local {scope : Scope} {x : Str} (h : scope.names.lookup x = some .local) (hE : EnvIs sc env) : (relabelS scope sc).names.lookup x = some .local := by
  rw [← relabel_eq hE]; exact lookup_relabel_local h

theorem comp_core {elt iter : Expr} {x : Str} {px pos ps : Pos} {scope : Scope} {use : Option (Value → Sem Unit)} {Q : Value → Shared → Prop} {Kl : List D → List MO → Prop}
    (hA : Room n A) (hE : EnvIs sc env) (R : Rel prog w h₀ fs as σ s) (F : FrameOk prog w env m fs as s.heap) (hok : compOk scope sc m x = true) (hs : ∀ v, foldedSetIterable iter env v = pure v)
    (h : WI prog w h₀ n sc m iter σ fun xs σ₁ => WC prog w h₀ n (relabelS scope sc) x elt (mC scope m) xs σ₁ [] Kl)
    (hQ : ∀ DD C us ds a' σ' s', s.heap.get? C = none → s.heap.get? DD = none → Stp [] as.length as s a' s' → Rel prog w h₀ (C :: DD :: fs) a' σ' s' → s'.heap.PlainList DD (List.toArray us) → RdAll prog w (a' ++ C :: DD :: fs) s'.heap us ds → (∃ mN, s'.heap.Ns C mN) → Kl ds σ' →
      compPost (model prog w) A NoE use Q (.ref DD) C (.ok .next) s') :
    wpAny (model prog w) A (comprehension (.ListComp elt [⟨.Name x px, iter, [], 0⟩] scope pos) scope env ps (newList []) false (eval iter env) use) Q NoE s := by
  have hfree := (compOk_free hok)
  have hclos : closureFor scope env = pure (closL env scope.names []) := closure_ok fun y hy => by
    obtain ⟨⟨v, hv⟩, hq⟩ := hfree y hy
    have hkd : sc.names.lookup y = env.kindOf y := by unfold Env.kindOf; rw [hE.scope]
    rw [hkd] at hq
    refine el_eea (F.cl y v hv hq) fun c u h1 _ => ?_
    exact ⟨c, h1⟩
  refine wpAny_comprehension_free (cl := closL env scope.names []) rfl hs hclos (compOk_kind hok) (compOk_names hok) (wpAny_mono (h A env fs as s hA hE R F) (fun v s₁ h₁ => wpAny_mono h₁ (fun it s₂ zf59 => el_eeeeaaaaa zf59 fun I xs a₂ σ₂ hit hI st R₂ T₂ k₂ => ?_) fun _ _ x => x) fun _ _ x => x)
  subst hit
  have F₂ := F.widen hI st R.nd
  refine wpAny_newObj_type (wpAny_newFunctionEnv (compOk_cell hok) (by intro y hy; simp at hy) (fun h₁ hns₁ hsb₁ => ?_) (compOk_kind hok))
  generalize hDd : s₂.heap.objs.size = DD at *
  have R₃ : Rel prog w h₀ (DD :: I :: fs) a₂ σ₂ { s₂ with heap := s₂.heap.push { cls := .type "list", dict := none, data := .seq ([] : List Value).toArray } } := by
    rw [← hDd]; exact R₂.newIt (o := { cls := .type "list", dict := none, data := .seq ([] : List Value).toArray }) rfl
  generalize hH2 : s₂.heap.push { cls := .type "list", dict := none, data := .seq ([] : List Value).toArray } = H2 at hns₁ hsb₁ R₃ ⊢
  have hk2 : ∀ b o, s₂.heap.get? b = some o → H2.get? b = some o := fun b o e => by rw [← hH2]; exact Heap.get?_push_of_some _ e
  generalize hCd : H2.objs.size = C at *
  have hCn : H2.get? C = none := by rw [← hCd]; exact noObj _
  have hk3 : ∀ b o, H2.get? b = some o → h₁.get? b = some o := fun b o e => hsb₁.extBut b o (fun q => by rw [q, hCn] at e; cases e) (Heap.get?_push_of_some _ e)
  have ht : ∃ o, h₁.get? C = some o := by refine el_eeea (hns₁) fun o _ _ e _ => ?_; try clear hns₁; exact ⟨o, e⟩
  have R₄ : Rel prog w h₀ (C :: DD :: I :: fs) a₂ σ₂ { s₂ with heap := h₁, toks := s₂.toks + ([] : List (Str × Value)).length } := R₃.enter (t := s₂.toks + ([] : List (Str × Value)).length) hCn hk3 ht
  have hk : ∀ b o, s₂.heap.get? b = some o → h₁.get? b = some o := fun b o e => hk3 b o (hk2 b o e)
  have st₂ : Stp [] as.length as s a₂ { s₂ with heap := h₁, toks := s₂.toks + ([] : List (Str × Value)).length } := st.transE (Stp.keptAll hk rfl)
  have gone : ∀ b, s₂.heap.get? b = none → s.heap.get? b = none := fun b e => by
    cases q : s.heap.get? b with
    | none => rfl
    | some o => obtain ⟨o', e'⟩ := st.thr b o q; rw [e] at e'; cases e'
  have hDn₂ : s₂.heap.get? DD = none := by rw [← hDd]; exact noObj _
  have hCn₂ : s₂.heap.get? C = none := by
    cases q : s₂.heap.get? C with
    | none => rfl
    | some o => have := hk2 _ _ q; rw [hCn] at this; cases this
  have hCs := gone C hCn₂
  have hDs := gone DD hDn₂
  have hE' : EnvIs (relabelS scope sc) (compEnvC scope (closL env scope.names []) C env) := ⟨relabel_eq hE, (show scope.kind = .function from compOk_kind hok), hE.globals, hE.builtins, fun y hy => by
    rw [← relabel_eq hE] at hy
    rcases relab_cell hy with q | q
    · obtain ⟨⟨v, hv⟩, hq⟩ := hfree y (mem_of_lookup q)
      have hkd : sc.names.lookup y = env.kindOf y := by unfold Env.kindOf; rw [hE.scope]
      rw [hkd] at hq
      refine el_eea (F.cl y v hv hq) fun c u h1 _ => ?_
      exact ⟨c, closL_lookup (mem_of_lookup q) h1⟩
    · exact absurd rfl (compOk_cell hok (y, .cell) (mem_of_lookup q)), fun c hc => by rw [compOk_code hok] at hc; cases hc⟩
  have F₄ := (FrameOk.comp (scope := scope) (C := C) (F₀ := C :: DD :: I :: fs) (h := h₁) F₂ R₂ hE hk hCn₂ (by simpa using hns₁) (fun b hb => by simp at hb ⊢; exact .inr (.inr hb)) (List.mem_cons_self ..) (fun b o e hb => by
      rcases List.mem_cons.mp hb with q | hb
      · rw [q, hCn₂] at e; cases e
      · rcases List.mem_cons.mp hb with q | hb
        · rw [q, hDn₂] at e; cases e
        · exact hb) hfree).2
  have hIa : I ∉ a₂ := nd_out R₂.nd (List.mem_cons_self ..)
  have T₄ : Itr prog w A I xs (C :: DD :: I :: fs) a₂ h₁ := by
    have T₃ := T₂.step (as' := a₂) (s' := { s₂ with heap := h₁ }) (ow := []) (k := a₂.length) (Stp.keptAll hk rfl) hIa (fun q => nomatch q) fun b hb => nomatch hb
    refine el_eeeeeaaaaa (id T₂) fun fp N P St i W hs' hl' hv' hf' hd' => ?_
    have hsub : ∀ b o, s₂.heap.get? b = some o → b ∉ a₂ ++ I :: fs → b ∉ a₂ ++ C :: DD :: I :: fs := fun b o e hb q => by
      rcases List.mem_append.mp q with q | q
      · exact hb (List.mem_append_left _ q)
      · rcases List.mem_cons.mp q with q | q
        · rw [q, hCn₂] at e; cases e
        · rcases List.mem_cons.mp q with q | q
          · rw [q, hDn₂] at e; cases e
          · exact hb (List.mem_append_right _ q)
    refine (in_eeeeeaaaaa fp N P St i W (W.frame _ _ _ hs' fun b _ o e => hk b o e) hl' (fun j v u e p => ?_) (fun b hb => ?_) hd')
    · obtain ⟨t, rfl⟩ := hd' j v e
      exact Rd.move (fun b o hb e => ⟨hk b o e, hsub b o e hb⟩) (hv' j _ u e p)
    · obtain ⟨o, e⟩ := W.there _ _ hs' b (List.mem_cons_of_mem _ hb)
      exact hsub b o e (hf' b hb)
  have hpl : h₁.PlainList DD #[] := ⟨0, hk3 _ _ (by rw [← hH2, ← hDd]; exact Heap.get?_push_size _ rfl)⟩
  have hcf : ∀ p ∈ closL env scope.names [], p.2 ∈ fs := fun p hp => (F.cells _ _ (closL_mem (acc := []) (fun _ q => nomatch q) hp)).1
  have loop : codeAny (model prog w) A (.compLoop (.ListComp elt [⟨.Name x px, iter, [], 0⟩] scope pos) 0 (.ref I) (.ref DD) (compEnvC scope (closL env scope.names []) C env)) (compPost (model prog w) A NoE use Q (.ref DD) C) { s₂ with heap := h₁, toks := s₂.toks + ([] : List (Str × Value)).length } :=
    compLoop_list (cenv := compEnvC scope (closL env scope.names []) C env) hA hE' st₂ R₄ F₄ T₄ hI hDs hCs hcf (relabS_local (compOk_x hok) hE) hpl k₂ fun us ds a' σ' s' st' R' hp' hr' hN kl => hQ DD C us ds a' σ' s' hCs hDs st' R' hp' hr' hN kl
  refine codeAny_compStart_list loop ?_
  refine el_eeeeeaa (T₄) fun fp N P St i W hs' _ => ?_; try clear T₄
  exact W.self i _ _ _ hs' loop

theorem WE.comp {elt iter : Expr} {x : Str} {px pos : Pos} {scope : Scope} (hok : compOk scope sc m x = true)
    (h : WI prog w h₀ n sc m iter σ fun xs σ₁ => WC prog w h₀ n (relabelS scope sc) x elt (mC scope m) xs σ₁ [] fun ds σ₂ => K (.d (.lst ds)) σ₂)
    (hs : ∀ env v, foldedSetIterable iter env v = pure v := by intro _ _; rfl) : WE prog w h₀ n sc m (.ListComp elt [⟨.Name x px, iter, [], 0⟩] scope pos) σ K := by
  intro A env fs as s hA hE R F
  rw [eval_ListComp]
  refine comp_core hA hE R F hok (hs env) h fun DD C us ds a' σ' s' hC hD st R' hp hr hN kl => ?_
  obtain ⟨mN, hn⟩ := hN
  refine ⟨mN, hn, fun h' hsb => ?_⟩
  have he := hsb.extBut
  have R₂ := R'.spent he
  have nd := (List.nodup_cons.mp (List.nodup_append.mp R'.nd).2.1)
  have hCD : DD ≠ C := fun q => nd.1 (by rw [q]; simp)
  have R₃ := R₂.leave (List.sublist_cons_self DD fs)
  have hDout : DD ∉ a' ++ fs := fun q => by
    have n2 := R₂.nd
    rcases List.mem_append.mp q with q | q
    · exact (List.nodup_append.mp n2).2.2 DD q DD (List.mem_cons_self ..) rfl
    · exact (List.nodup_cons.mp (List.nodup_append.mp n2).2.1).1 q
  refine (in_eeeaaa (.d (.lst ds)) a' σ' (st.ext hC he) R₃ (.lst hDout (isList_at hp.isList fun o e => he _ o hCD e) (hr.move fun b o hb e => ⟨he b o (fun q => hb (by rw [q]; simp)) e, fun q => hb ?_⟩)) kl)
  rcases List.mem_append.mp q with q | q
  · exact List.mem_append_left _ q
  · simp [q]
theorem W1.comp {elt iter : Expr} {x y : Str} {px pos py spos : Pos} {scope : Scope} (hok : compOk scope sc m x = true)
    (h : WI prog w h₀ n sc m iter σ fun xs σ₁ => WC prog w h₀ n (relabelS scope sc) x elt (mC scope m) xs σ₁ [] fun ds σ₂ => WN prog w h₀ sc k m y (.d (.lst ds)) σ₂ Ks)
    (hsw : ∀ env, EnvIs sc env → swapsWith (.ListComp elt [⟨.Name x px, iter, [], 0⟩] scope pos) (some (.Name y py)) spos.line env = pure true)
    (hs : ∀ env v, foldedSetIterable iter env v = pure v := by intro _ _; rfl) : W1 prog w h₀ n sc k m (.Assign [.Name y py] (.ListComp elt [⟨.Name x px, iter, [], 0⟩] scope pos) spos) σ Ks := by
  intro A env fs as s hA hE R F hl
  rw [exec_Assign_Name_used _ _ _ _ (hsw env hE)]
  refine wpAny_bind (wpAny_standAt (wpAny_bind ?_))
  show wpAny _ A (do let _ ← comprehension (.ListComp elt [⟨.Name x px, iter, [], 0⟩] scope pos) scope env _ (newList []) false (eval iter env) (some (PySem.assign (.Name y py) env))) _ _ s
  refine wpAny_bind (wpAny_mono (comp_core (use := some (PySem.assign (.Name y py) env)) (Q := fun _ s' => PostS prog w h₀ env k fs as s Ks .next s') hA hE R F hok (hs env) h fun DD C us ds a' σ' s' hC hD st R' hp hr hN kl => ?_) (fun _ s' hq => wpAny_pure (wpAny_pure hq)) fun _ _ e => e)
  have R₂ : Rel prog w h₀ (C :: fs) a' σ' s' := R'.leave (List.Sublist.cons₂ C (List.sublist_cons_self DD fs))
  have n2 := List.nodup_append.mp R'.nd
  have nd := List.nodup_cons.mp n2.2.1
  have hCD : DD ≠ C := fun q => nd.1 (by rw [q]; simp)
  have hDout : DD ∉ a' ++ C :: fs := fun q => by
    rcases List.mem_append.mp q with q | q
    · exact n2.2.2 DD q DD (by simp) rfl
    · rcases List.mem_cons.mp q with q | q
      · exact hCD q
      · exact (List.nodup_cons.mp nd.2).1 q
  have V : VR prog w (C :: fs) a' s'.heap (.d (.lst ds)) (.ref DD) := Rd.lst hDout hp.isList (hr.move fun b o hb e => ⟨e, fun q => hb (by
    rcases List.mem_append.mp q with q | q
    · exact List.mem_append_left _ q
    · rcases List.mem_cons.mp q with q | q
      · rw [q]; simp
      · simp [q])⟩)
  have F₂ := F.widen hC st R.nd
  have hg := st.grows
  have hCfs : C ∉ fs := fun q => nd.1 (by simp [q])
  have ho : ∀ b ∈ own env, b ∈ fs := own_sub F
  show wpAny _ A (PySem.assign (.Name y py) env (.ref DD)) _ _ _
  refine wpAny_assign_Name (wpAny_mono (kl A env (C :: fs) a' s' (.ref DD) hE R₂ F₂ (Nat.le_trans hl hg) V) (fun _ s₄ zf178 => PostS.el zf178 fun fl m₄ a₄ σ₄ hf st₄ R₄ F₄ hl₄ k₄ => ?_) fun _ _ x => x)
  cases fl with
  | brk => cases hf
  | cont => cases hf
  | ret v => refine el_ea (hf) fun _ q _ => ?_; try clear hf; cases q
  | next =>
    obtain ⟨mN, hn⟩ := hN
    have hCo : C ∉ own env := fun q => hCfs (ho C q)
    have hCa : C ∉ a' := nd_out R₂.nd (List.mem_cons_self ..)
    refine ⟨mN, hn.at' fun o e => st₄.kept C o hCa hCo e, fun h' hsb => ?_⟩
    have he := hsb.extBut
    exact (in_eeeeaaaaa .next m₄ a₄ σ₄ rfl (Stp.spent hC st (st₄.weaken (fun b hb => List.mem_cons_of_mem _ hb) (Nat.le_refl _)) hl he) (R₄.spent he) (F₄.spent he ho hCfs) hl₄ k₄)
end
end Mine
end
section
namespace Mine
section
variable (prog : Program) (w : World) (h₀ : Heap)
/-- a dict comprehension's turns -/
noncomputable def WCd (n : Nat) (sc : Scope) (x : Str) (kx vx : Expr) (m : List (Str × Vl)) : List Vl → List MO → List (Str × D) → (List (Str × D) → List MO → Prop) → Prop
  | [], σ, acc, K => K acc σ
  | v :: vs, σ, acc, K => WE prog w h₀ n sc ((x, v) :: m) kx σ fun r σ₁ => ∃ ky, r = .d (.str ky) ∧ acc.length ≤ 1000 ∧ WE prog w h₀ n sc ((x, v) :: m) vx σ₁ fun r₂ σ₂ => ∃ y, r₂ = .d y ∧ WCd n sc x kx vx m vs σ₂ (dset acc ky y) K
end
section
variable {prog : Program} {w : World} {h₀ : Heap} {fs as as' as'' ow : List Addr} {σ σ' σ'' : List MO} {s s' s'' : Shared} {k n : Nat} {sc : Scope} {m : List (Str × Vl)} {K : Vl → List MO → Prop} {gl : Str → Option Value}
  {env : Env} {A : Around} {I : Addr} {Ks : Fl → List (Str × Vl) → List MO → Prop}

/-- the loop of a dict comprehension -/
theorem compLoop_dict {kx vx iter : Expr} {x : Str} {px pos : Pos} {scope : Scope} {cenv : Env} {DD : Addr} {R' : Result → Shared → Prop} {xs : List Vl} {mm : List (Str × Vl)} {Kl : List (Str × D) → List MO → Prop} {s₀ : Shared} {a₀ : List Addr}
    (hA : Room n A) (hE : EnvIs sc cenv) (st₀ : Stp [] a₀.length a₀ s₀ as s) (R : Rel prog w h₀ (cenv.locals :: DD :: I :: fs) as σ s) (F : FrameOk prog w cenv mm (cenv.locals :: DD :: I :: fs) as s.heap) (T : Itr prog w A I xs (cenv.locals :: DD :: I :: fs) as s.heap)
    (hI₀ : s₀.heap.get? I = none) (hD₀ : s₀.heap.get? DD = none) (hC₀ : s₀.heap.get? cenv.locals = none) (hcf : ∀ p ∈ cenv.cells, p.2 ∈ fs)
    (hx : sc.names.lookup x = some .local) (hpl : s.heap.DictOf (strKind prog w) DD [])
    (kk : WCd prog w h₀ n sc x kx vx mm xs σ [] Kl)
    (hR : ∀ us ds a' σ' s', Stp [] a₀.length a₀ s₀ a' s' → Rel prog w h₀ (cenv.locals :: DD :: fs) a' σ' s' → s'.heap.DictOf (strKind prog w) DD us → RdKv prog w (a' ++ cenv.locals :: DD :: fs) s'.heap us ds → (∃ mN, s'.heap.Ns cenv.locals mN) → Kl ds σ' → R' (.ok .next) s') :
    codeAny (model prog w) A (.compLoop (.DictComp kx vx [⟨.Name x px, iter, [], 0⟩] scope pos) 0 (.ref I) (.ref DD) cenv) R' s := by
  have ndF : (cenv.locals :: DD :: I :: fs).Nodup := (List.nodup_append.mp R.nd).2.1
  refine el_aaaaa (loop3 ndF hcf) fun hCD hCI hDI hIo hDo how => ?_
  have hI : I ∈ cenv.locals :: DD :: I :: fs := by simp
  have hD : DD ∈ cenv.locals :: DD :: I :: fs := by simp
  have hC : cenv.locals ∈ cenv.locals :: DD :: I :: fs := by simp
  refine codeAny_compLoop_testsD (fun j s' => ∃ xs' acc us a' σ' mo, j = xs'.length ∧ Stp [I, DD, cenv.locals] as.length as s a' s' ∧ Rel prog w h₀ (cenv.locals :: DD :: I :: fs) a' σ' s' ∧ FrameOk prog w cenv mo (cenv.locals :: DD :: I :: fs) a' s'.heap ∧ (∀ y v, mm.lookup y = some v → mo.lookup y = some v ∨ y = x) ∧ Itr prog w A I xs' (cenv.locals :: DD :: I :: fs) a' s'.heap ∧
    s'.heap.DictOf (strKind prog w) DD us ∧ RdKv prog w (a' ++ cenv.locals :: DD :: I :: fs) s'.heap us acc ∧ WCd prog w h₀ n sc x kx vx mm xs' σ' acc Kl) ?_ xs.length (in_eeeeeeaaaaaaaa xs ([]) ([]) as σ mm rfl (Stp.refl ..) R F (fun _ _ h => .inl h) T hpl .nil kk)
  intro j s' zr
  refine el_eeeeeeaaaaaaaa zr fun xs' acc us a' σ' mo ej st' R₁ F₁ hmo T₁ hp₁ hr₁ k₁ => ?_
  clear zr
  have hDa : DD ∉ a' := nd_out R₁.nd hD
  have hIa : I ∉ a' := nd_out R₁.nd hI
  cases xs' with
  | nil =>
    refine wpAny_mono (T₁.end fun h' he => ?_) (fun _ _ x => x) fun _ _ x => False.elim x
    refine hR us acc a' σ' _ (st₀.since3 st' hI₀ hD₀ hC₀ he) ((R₁.perm perm3).spent he) ?_ ?_ ?_ k₁
    · exact dictOf_at hp₁ fun o e => he _ o hDI e
    · exact hr₁.move fun b o hb e => ⟨he b o (fun q => hb (List.mem_append_right _ (q ▸ hI))) e, out3 hb⟩
    · refine el_ea (F₁.ns) fun mN hn _ => ?_
      exact ⟨mN, hn.at' fun o e => he _ o hCI e⟩
  | cons v vs =>
    refine wpAny_mono (T₁.next (k := as.length) R₁ hI fun u s₃ V₃ st₃ R₃ T₃ _ => ?_) (fun _ _ x => x) fun _ _ x => False.elim x
    have F₃ := F₁.but1 hI hIo st₃ R₁.nd
    refine wpAny_assign_Name (store_loc (k := as.length) hE hx R₃ F₃ V₃ fun s₄ st₄ R₄ F₄ sb₄ => ?_)
    show wpAny _ _ (pure true) _ _ s₄
    refine wpAny_pure ?_
    rw [if_pos rfl]
    have F₄' : FrameOk prog w cenv ((x, v) :: mm) (cenv.locals :: DD :: I :: fs) a' s₄.heap := F₄.weak1 hmo
    have k₄ : WE prog w h₀ n sc ((x, v) :: mm) kx σ' fun r σ₁ => ∃ ky, r = .d (.str ky) ∧ acc.length ≤ 1000 ∧ WE prog w h₀ n sc ((x, v) :: mm) vx σ₁ fun r₂ σ₂ => ∃ y, r₂ = .d y ∧ WCd prog w h₀ n sc x kx vx mm vs σ₂ (dset acc ky y) Kl := k₁
    refine wpAny_mono (k₄ A cenv _ a' s₄ hA hE R₄ F₄') (fun uk sk zf90 => PostE.elq1 zf90 fun ky ak σk stk Rk Vk zk => el_a zk fun hlen kk₅ => ?_) fun _ _ x => False.elim x

    obtain ⟨tk, rfl⟩ := Vk.str_inv
    have Fk := F₄'.stepE R₄.nd stk
    refine wpAny_mono (kk₅ A cenv _ ak sk hA hE Rk Fk) (fun u₅ s₅ zf94 => PostE.elq1 zf94 fun y a₅ σ₅ stv R₅ V₅ k₅ => ?_) fun _ _ x => False.elim x

    have st₅ := stk.transE stv
    have hDl : DD ∉ [cenv.locals] := fun q => hCD (List.mem_singleton.mp q).symm
    have hDi : DD ∉ [I] := fun q => hDI (List.mem_singleton.mp q)
    have hp₅ : s₅.heap.DictOf (strKind prog w) DD us := dictOf_at hp₁ fun o e => st₅.kept _ _ hDa (fun q => nomatch q) (st₄.kept _ _ hDa hDl (st₃.kept _ _ hDa hDi e))
    have s35 : Stp [I, DD, cenv.locals] a'.length a' s' a₅ s₅ := st₃.three st₄ st₅
    have hr₅ : RdKv prog w (a₅ ++ cenv.locals :: DD :: I :: fs) s₅.heap us acc := hr₁.move fun b o hb e => s35.mv how b o hb e
    refine wpAny_dictSet_pairs (strKind_is prog w ky tk) hp₅ (fun h₆ hp₆ hs₆ => ?_) (by rw [hr₅.length, sizeLine_eq]; lia -abstractProof)
    have ht₆ : ∃ o, h₆.get? DD = some o := dictOf_there hp₆
    have s56 : Stp [DD] a₅.length a₅ s₅ a₅ { s₅ with heap := h₆, toks := s₅.toks + 1 } := Stp.framed (List.mem_singleton.mpr rfl) hs₆ ht₆
    refine (⟨vs.length, (by rw [ej]; exact Nat.lt_succ_self _), in_eeeeeeaaaaaaaa vs (dset acc ky y) (stored us ky u₅) a₅ σ₅ ((x, v) :: mm) rfl ?_ (R₅.framed hD hs₆ ht₆) ?_ look1 ?_ hp₆ ?_ k₅⟩)
    · exact st'.turn3 s35 s56 st₅.grows
    · exact (Fk.stepE Rk.nd stv).but1 hD hDo s56 R₅.nd
    · exact T₃.turn3 st₄ st₅ s56 hIa (nd_out R₅.nd hI) hCI hDI hC hD
    · have mv : ∀ b o, b ∉ a₅ ++ cenv.locals :: DD :: I :: fs → s₅.heap.get? b = some o → h₆.get? b = some o ∧ b ∉ a₅ ++ cenv.locals :: DD :: I :: fs := fun b o hb e => s56.mv (fun b hb => by rw [List.mem_singleton.mp hb]; exact hD) b o hb e
      exact (hr₅.move mv).stored (Rd.move mv V₅)

theorem dcomp_core {kx vx iter : Expr} {x : Str} {px pos ps : Pos} {scope : Scope} {use : Option (Value → Sem Unit)} {Q : Value → Shared → Prop} {Kl : List (Str × D) → List MO → Prop}
    (hA : Room n A) (hE : EnvIs sc env) (R : Rel prog w h₀ fs as σ s) (F : FrameOk prog w env m fs as s.heap) (hok : compOk scope sc m x = true) (hs : ∀ v, foldedSetIterable iter env v = pure v)
    (h : WI prog w h₀ n sc m iter σ fun xs σ₁ => WCd prog w h₀ n (relabelS scope sc) x kx vx (mC scope m) xs σ₁ [] Kl)
    (hQ : ∀ DD C us ds a' σ' s', s.heap.get? C = none → s.heap.get? DD = none → Stp [] as.length as s a' s' → Rel prog w h₀ (C :: DD :: fs) a' σ' s' → s'.heap.DictOf (strKind prog w) DD us → RdKv prog w (a' ++ C :: DD :: fs) s'.heap us ds → (∃ mN, s'.heap.Ns C mN) → Kl ds σ' →
      compPost (model prog w) A NoE use Q (.ref DD) C (.ok .next) s') :
    wpAny (model prog w) A (comprehension (.DictComp kx vx [⟨.Name x px, iter, [], 0⟩] scope pos) scope env ps newDict false (eval iter env) use) Q NoE s := by
  have hfree := (compOk_free hok)
  have hclos : closureFor scope env = pure (closL env scope.names []) := closure_ok fun y hy => by
    obtain ⟨⟨v, hv⟩, hq⟩ := hfree y hy
    have hkd : sc.names.lookup y = env.kindOf y := by unfold Env.kindOf; rw [hE.scope]
    rw [hkd] at hq
    refine el_eea (F.cl y v hv hq) fun c u h1 _ => ?_
    exact ⟨c, h1⟩
  refine wpAny_comprehension_free (cl := closL env scope.names []) rfl hs hclos (compOk_kind hok) (compOk_names hok) (wpAny_mono (h A env fs as s hA hE R F) (fun v s₁ h₁ => wpAny_mono h₁ (fun it s₂ zf143 => el_eeeeaaaaa zf143 fun I xs a₂ σ₂ hit hI st R₂ T₂ k₂ => ?_) fun _ _ x => x) fun _ _ x => x)
  subst hit
  have F₂ := F.widen hI st R.nd
  refine wpAny_newObj_type (wpAny_newFunctionEnv (compOk_cell hok) (by intro y hy; simp at hy) (fun h₁ hns₁ hsb₁ => ?_) (compOk_kind hok))
  generalize hDd : s₂.heap.objs.size = DD at *
  have R₃ : Rel prog w h₀ (DD :: I :: fs) a₂ σ₂ { s₂ with heap := s₂.heap.push { cls := .type "dict", dict := none, data := .dict #[] } } := by
    rw [← hDd]; exact R₂.newIt (o := { cls := .type "dict", dict := none, data := .dict #[] }) rfl
  generalize hH2 : s₂.heap.push { cls := .type "dict", dict := none, data := .dict #[] } = H2 at hns₁ hsb₁ R₃ ⊢
  have hk2 : ∀ b o, s₂.heap.get? b = some o → H2.get? b = some o := fun b o e => by rw [← hH2]; exact Heap.get?_push_of_some _ e
  generalize hCd : H2.objs.size = C at *
  have hCn : H2.get? C = none := by rw [← hCd]; exact noObj _
  have hk3 : ∀ b o, H2.get? b = some o → h₁.get? b = some o := fun b o e => hsb₁.extBut b o (fun q => by rw [q, hCn] at e; cases e) (Heap.get?_push_of_some _ e)
  have ht : ∃ o, h₁.get? C = some o := by refine el_eeea (hns₁) fun o _ _ e _ => ?_; try clear hns₁; exact ⟨o, e⟩
  have R₄ : Rel prog w h₀ (C :: DD :: I :: fs) a₂ σ₂ { s₂ with heap := h₁, toks := s₂.toks + ([] : List (Str × Value)).length } := R₃.enter (t := s₂.toks + ([] : List (Str × Value)).length) hCn hk3 ht
  have hk : ∀ b o, s₂.heap.get? b = some o → h₁.get? b = some o := fun b o e => hk3 b o (hk2 b o e)
  have st₂ : Stp [] as.length as s a₂ { s₂ with heap := h₁, toks := s₂.toks + ([] : List (Str × Value)).length } := st.transE (Stp.keptAll hk rfl)
  have gone : ∀ b, s₂.heap.get? b = none → s.heap.get? b = none := fun b e => by
    cases q : s.heap.get? b with
    | none => rfl
    | some o => obtain ⟨o', e'⟩ := st.thr b o q; rw [e] at e'; cases e'
  have hDn₂ : s₂.heap.get? DD = none := by rw [← hDd]; exact noObj _
  have hCn₂ : s₂.heap.get? C = none := by
    cases q : s₂.heap.get? C with
    | none => rfl
    | some o => have := hk2 _ _ q; rw [hCn] at this; cases this
  have hCs := gone C hCn₂
  have hDs := gone DD hDn₂
  have hE' : EnvIs (relabelS scope sc) (compEnvC scope (closL env scope.names []) C env) := ⟨relabel_eq hE, (show scope.kind = .function from compOk_kind hok), hE.globals, hE.builtins, fun y hy => by
    rw [← relabel_eq hE] at hy
    rcases relab_cell hy with q | q
    · obtain ⟨⟨v, hv⟩, hq⟩ := hfree y (mem_of_lookup q)
      have hkd : sc.names.lookup y = env.kindOf y := by unfold Env.kindOf; rw [hE.scope]
      rw [hkd] at hq
      refine el_eea (F.cl y v hv hq) fun c u h1 _ => ?_
      exact ⟨c, closL_lookup (mem_of_lookup q) h1⟩
    · exact absurd rfl (compOk_cell hok (y, .cell) (mem_of_lookup q)), fun c hc => by rw [compOk_code hok] at hc; cases hc⟩
  have F₄ := (FrameOk.comp (scope := scope) (C := C) (F₀ := C :: DD :: I :: fs) (h := h₁) F₂ R₂ hE hk hCn₂ (by simpa using hns₁) (fun b hb => by simp at hb ⊢; exact .inr (.inr hb)) (List.mem_cons_self ..) (fun b o e hb => by
      rcases List.mem_cons.mp hb with q | hb
      · rw [q, hCn₂] at e; cases e
      · rcases List.mem_cons.mp hb with q | hb
        · rw [q, hDn₂] at e; cases e
        · exact hb) hfree).2
  have hIa : I ∉ a₂ := nd_out R₂.nd (List.mem_cons_self ..)
  have T₄ : Itr prog w A I xs (C :: DD :: I :: fs) a₂ h₁ := by
    have T₃ := T₂.step (as' := a₂) (s' := { s₂ with heap := h₁ }) (ow := []) (k := a₂.length) (Stp.keptAll hk rfl) hIa (fun q => nomatch q) fun b hb => nomatch hb
    refine el_eeeeeaaaaa (id T₂) fun fp N P St i W hs' hl' hv' hf' hd' => ?_
    have hsub : ∀ b o, s₂.heap.get? b = some o → b ∉ a₂ ++ I :: fs → b ∉ a₂ ++ C :: DD :: I :: fs := fun b o e hb q => by
      rcases List.mem_append.mp q with q | q
      · exact hb (List.mem_append_left _ q)
      · rcases List.mem_cons.mp q with q | q
        · rw [q, hCn₂] at e; cases e
        · rcases List.mem_cons.mp q with q | q
          · rw [q, hDn₂] at e; cases e
          · exact hb (List.mem_append_right _ q)
    refine (in_eeeeeaaaaa fp N P St i W (W.frame _ _ _ hs' fun b _ o e => hk b o e) hl' (fun j v u e p => ?_) (fun b hb => ?_) hd')
    · obtain ⟨t, rfl⟩ := hd' j v e
      exact Rd.move (fun b o hb e => ⟨hk b o e, hsub b o e hb⟩) (hv' j _ u e p)
    · obtain ⟨o, e⟩ := W.there _ _ hs' b (List.mem_cons_of_mem _ hb)
      exact hsub b o e (hf' b hb)
  have hpl : h₁.DictOf (strKind prog w) DD [] := dictOf_at (h := H2) (by rw [← hH2, ← hDd]; exact Heap.DictOf.new _) fun o e => hk3 _ _ e
  have hcf : ∀ p ∈ closL env scope.names [], p.2 ∈ fs := fun p hp => (F.cells _ _ (closL_mem (acc := []) (fun _ q => nomatch q) hp)).1
  have loop : codeAny (model prog w) A (.compLoop (.DictComp kx vx [⟨.Name x px, iter, [], 0⟩] scope pos) 0 (.ref I) (.ref DD) (compEnvC scope (closL env scope.names []) C env)) (compPost (model prog w) A NoE use Q (.ref DD) C) { s₂ with heap := h₁, toks := s₂.toks + ([] : List (Str × Value)).length } :=
    compLoop_dict (cenv := compEnvC scope (closL env scope.names []) C env) hA hE' st₂ R₄ F₄ T₄ hI hDs hCs hcf (relabS_local (compOk_x hok) hE) hpl k₂ fun us ds a' σ' s' st' R' hp' hr' hN kl => hQ DD C us ds a' σ' s' hCs hDs st' R' hp' hr' hN kl
  refine codeAny_compStart_dict loop ?_
  refine el_eeeeeaa (T₄) fun fp N P St i W hs' _ => ?_; try clear T₄
  exact W.self i _ _ _ hs' loop

/-- what lay among the frames' is written down -/
theorem Rel.adopt {a : Addr} {x : MO} (R : Rel prog w h₀ (a :: fs) as σ s) (hx : MOk prog w fs (as ++ [a]) s.heap a x) (hbd : ∀ y ∈ σ, y.bd ≤ σ.length) : Rel prog w h₀ fs (as ++ [a]) (σ ++ [x]) s := by
  have hmem : ∀ b, b ∈ (as ++ [a]) ++ fs ↔ b ∈ as ++ a :: fs := fun b => by simp
  have mv : ∀ b o, b ∉ as ++ a :: fs → s.heap.get? b = some o → s.heap.get? b = some o ∧ b ∉ (as ++ [a]) ++ fs := fun b o hb e => ⟨e, fun q => hb ((hmem b).mp q)⟩
  refine ⟨fun b o e => mv b o (R.base b o e).2 (R.base b o e).1, by simp [R.len], by have := R.nd; simpa using this, fun b hb => R.there b ((hmem b).mp hb), fun i b y hb hy => ?_, R.bare⟩
  by_cases hi : i < as.length
  · rw [List.getElem?_append_left hi] at hb
    rw [List.getElem?_append_left (by rw [← R.len]; exact hi)] at hy
    exact (R.mo i b y hb hy).move (fun j c hj e => by
      have : j < as.length := (List.getElem?_eq_some_iff.mp e).1
      rw [List.getElem?_append_left this]; exact e) mv fun o e => e
  · have hi' : i = as.length := by
      have := (List.getElem?_eq_some_iff.mp hb).1
      simp at this; lia -abstractProof
    subst hi'
    rw [List.getElem?_append_right (Nat.le_refl _)] at hb
    rw [R.len, List.getElem?_append_right (Nat.le_refl _)] at hy
    simp at hb hy
    subst hb; subst hy; exact hx
theorem Stp.adopt {a : Addr} (x : Stp [] as.length as s as' s') (ha : s.heap.get? a = none) : Stp [] as.length as s (as' ++ [a]) s' :=
  ⟨fun i b hi e => by
    have := x.pre i b hi e
    rw [List.getElem?_append_left (List.getElem?_eq_some_iff.mp this).1]; exact this, fun b hb hn => by
    rcases List.mem_append.mp hb with q | q
    · exact x.fresh b q hn
    · rw [List.mem_singleton.mp q]; exact ha, x.kept, x.thr, x.os⟩
theorem W1.dcomp {kx vx iter : Expr} {x y : Str} {px pos py spos : Pos} {scope : Scope} (hok : compOk scope sc m x = true)
    (h : WI prog w h₀ n sc m iter σ fun xs σ₁ => WCd prog w h₀ n (relabelS scope sc) x kx vx (mC scope m) xs σ₁ [] fun ds σ₂ => (∀ y ∈ σ₂, y.bd ≤ σ₂.length) ∧ WN prog w h₀ sc k m y (.m σ₂.length) (σ₂ ++ [.dict ds]) Ks)
    (hsw : ∀ env, EnvIs sc env → swapsWith (.DictComp kx vx [⟨.Name x px, iter, [], 0⟩] scope pos) (some (.Name y py)) spos.line env = pure true)
    (hs : ∀ env v, foldedSetIterable iter env v = pure v := by intro _ _; rfl) : W1 prog w h₀ n sc k m (.Assign [.Name y py] (.DictComp kx vx [⟨.Name x px, iter, [], 0⟩] scope pos) spos) σ Ks := by
  intro A env fs as s hA hE R F hl
  rw [exec_Assign_Name_used _ _ _ _ (hsw env hE)]
  refine wpAny_bind (wpAny_standAt (wpAny_bind ?_))
  show wpAny _ A (do let _ ← comprehension (.DictComp kx vx [⟨.Name x px, iter, [], 0⟩] scope pos) scope env _ newDict false (eval iter env) (some (PySem.assign (.Name y py) env))) _ _ s
  refine wpAny_bind (wpAny_mono (dcomp_core (use := some (PySem.assign (.Name y py) env)) (Q := fun _ s' => PostS prog w h₀ env k fs as s Ks .next s') hA hE R F hok (hs env) h fun DD C us ds a' σ' s' hC hD st R' hp hr hN kl => ?_) (fun _ s' hq => wpAny_pure (wpAny_pure hq)) fun _ _ e => e)
  obtain ⟨hbd, kl⟩ := kl
  have R₁ : Rel prog w h₀ (DD :: C :: fs) a' σ' s' := R'.perm (List.Perm.swap DD C fs)
  have R₂ : Rel prog w h₀ (C :: fs) (a' ++ [DD]) (σ' ++ [.dict ds]) s' := R₁.adopt (x := .dict ds) ⟨us, hp, hr.move fun b o hb e => ⟨e, fun q => hb (by
    simp at q ⊢
    rcases q with q | q | q | q
    · exact .inl q
    · exact .inr (.inr (.inl q))
    · exact .inr (.inl q)
    · exact .inr (.inr (.inr q)))⟩⟩ hbd
  have n2 := List.nodup_append.mp R'.nd
  have nd := List.nodup_cons.mp n2.2.1
  have V : VR prog w (C :: fs) (a' ++ [DD]) s'.heap (.m σ'.length) (.ref DD) := ⟨DD, by rw [← R'.len, List.getElem?_append_right (Nat.le_refl _)]; simp, rfl⟩
  have stD : Stp [] as.length as s (a' ++ [DD]) s' := st.adopt hD
  have F₂ := F.widen hC stD R.nd
  have hg := stD.grows
  have hCfs : C ∉ fs := fun q => nd.1 (by simp [q])
  have ho : ∀ b ∈ own env, b ∈ fs := own_sub F
  show wpAny _ A (PySem.assign (.Name y py) env (.ref DD)) _ _ _
  refine wpAny_assign_Name (wpAny_mono (kl A env (C :: fs) (a' ++ [DD]) s' (.ref DD) hE R₂ F₂ (Nat.le_trans hl hg) V) (fun _ s₄ zf277 => PostS.el zf277 fun fl m₄ a₄ σ₄ hf st₄ R₄ F₄ hl₄ k₄ => ?_) fun _ _ x => x)
  cases fl with
  | brk => cases hf
  | cont => cases hf
  | ret v => refine el_ea (hf) fun _ q _ => ?_; try clear hf; cases q
  | next =>
    obtain ⟨mN, hn⟩ := hN
    have hCo : C ∉ own env := fun q => hCfs (ho C q)
    have hCa : C ∉ a' ++ [DD] := nd_out R₂.nd (List.mem_cons_self ..)
    refine ⟨mN, hn.at' fun o e => st₄.kept C o hCa hCo e, fun h' hsb => ?_⟩
    have he := hsb.extBut
    exact (in_eeeeaaaaa .next m₄ a₄ σ₄ rfl (Stp.spent hC stD (st₄.weaken (fun b hb => List.mem_cons_of_mem _ hb) (Nat.le_refl _)) hl he) (R₄.spent he) (F₄.spent he ho hCfs) hl₄ k₄)

/-- an assignment whose value is a comprehension, to a cell -/
theorem W1.assignC {x : Str} {p p' : Pos} {e : Expr} (h : WE prog w h₀ n sc m e σ fun v σ₁ => WN prog w h₀ sc k m x v σ₁ Ks) (hs : ∀ env, EnvIs sc env → swapsWith e (some (.Name x p')) p.line env = pure false) :
    W1 prog w h₀ n sc k m (.Assign [.Name x p'] e p) σ Ks := by
  intro A env fs as s hA hE R F hl
  refine wpAny_Assign_Name (wpAny_mono (h A env fs as s hA hE R F) (fun u s₁ zf294 => PostE.el zf294 fun v a₁ σ₁ st R₁ V k₁ => ?_) fun _ _ x => x) (hs env hE)
  exact wpAny_mono (k₁ A env fs a₁ s₁ u hE R₁ (F.stepE R.nd st) (Nat.le_trans hl st.grows) V) (fun _ _ p => p.after hl st) fun _ _ x => x

/-! ### a written object becomes a tree -/
inductive Frz : MO → D → Prop
  | list (xs) : Frz (.list xs) (.lst xs)
  | dict (kvs) : Frz (.dict kvs) (.dct kvs)
noncomputable def fz (i : Nat) (d : D) : Vl → Vl
  | .m j => if j = i then .d d else .m j
  | v => v
noncomputable def fzm (i : Nat) (d : D) (m : List (Str × Vl)) : List (Str × Vl) := m.map fun p => (p.1, fz i d p.2)
theorem fzm_lookup {i : Nat} {d : D} {x : Str} {v : Vl} : ∀ {m : List (Str × Vl)}, (fzm i d m).lookup x = some v → ∃ v₀, m.lookup x = some v₀ ∧ v = fz i d v₀
  | [], h => by simp [fzm] at h
  | (y, v₀) :: r, h => by
    have hc : fzm i d ((y, v₀) :: r) = (y, fz i d v₀) :: fzm i d r := rfl
    rw [hc, lookup_cons_eq] at h
    rw [lookup_cons_eq]
    split at h
    · rename_i q; cases h; exact ⟨v₀, by rw [if_pos q], rfl⟩
    · rename_i q; rw [if_neg q]; exact fzm_lookup h
theorem Rel.freeze {x : MO} {d : D} (G : Glb h₀ gl) (R : Rel prog w h₀ fs as (σ ++ [x]) s) (hx : Frz x d) (hbd : ∀ y ∈ σ, y.bd ≤ σ.length) :
    ∃ a₀ a, as = a₀ ++ [a] ∧ Rel prog w h₀ fs a₀ σ s ∧ ∀ v u, VR prog w fs as s.heap v u → VR prog w fs a₀ s.heap (fz σ.length d v) u := by
  have hl : as.length = σ.length + 1 := by rw [R.len]; simp
  obtain ⟨a₀, a, rfl⟩ : ∃ a₀ a, as = a₀ ++ [a] := by
    rcases List.eq_nil_or_concat as with h | ⟨a₀, a, h⟩
    · rw [h] at hl; cases hl
    · exact (in_ee a₀ a (by simpa using h))
  have hl₀ : a₀.length = σ.length := by simpa using hl
  have hsub : ∀ b, b ∈ a₀ ++ fs → b ∈ (a₀ ++ [a]) ++ fs := fun b q => by
    rcases List.mem_append.mp q with q | q <;> simp [q]
  have mv : ∀ b o, b ∉ (a₀ ++ [a]) ++ fs → s.heap.get? b = some o → s.heap.get? b = some o ∧ b ∉ a₀ ++ fs := fun b o hb e => ⟨e, fun q => hb (hsub b q)⟩
  have hsl : (a₀ ++ fs).Sublist ((a₀ ++ [a]) ++ fs) := List.Sublist.append (List.sublist_append_left _ _) (List.Sublist.refl _)
  have nda : a ∉ a₀ ++ fs := fun q => by
    have hn := R.nd
    rw [List.append_assoc] at hn
    rcases List.mem_append.mp q with q | q
    · exact (List.nodup_append.mp hn).2.2 a q a (by simp) rfl
    · exact (List.nodup_cons.mp (List.nodup_append.mp hn).2.1).1 q
  have hmo := R.mo σ.length a x (by rw [← hl₀, List.getElem?_append_right (Nat.le_refl _)]; simp) (by rw [List.getElem?_append_right (Nat.le_refl _)]; simp)
  have hd : Rd prog w (a₀ ++ fs) s.heap (.ref a) d := by
    cases hx with
    | list xs => refine el_ea (hmo) fun vs h1 h2 => ?_; try clear hmo; exact .lst nda h1.isList (h2.move mv)
    | dict kvs =>
      refine el_ea (hmo) fun kv h1 h2 => ?_; try clear hmo
      obtain ⟨o, e⟩ := G.sysm
      exact .dct nda (fun q => (R.base _ _ e).2 (by rw [← q]; simp)) h1 (h2.move mv)
  refine (in_eeaa a₀ a rfl ⟨fun b o e => mv b o (R.base b o e).2 (R.base b o e).1, hl₀, hsl.nodup R.nd, fun b hb => R.there b (hsub b hb), fun i b y hb hy => ?_, R.bare⟩ (fun v u V => ?_))
  · have hi : i < a₀.length := (List.getElem?_eq_some_iff.mp hb).1
    have hy' : y ∈ σ := List.mem_of_getElem? hy
    refine (R.mo i b y (by rw [List.getElem?_append_left hi]; exact hb) (by rw [List.getElem?_append_left (by rw [← hl₀]; exact hi)]; exact hy)).move (fun j c hj e => ?_) mv fun o e => e
    have : j < a₀.length := by have := hbd y hy'; lia -abstractProof
    rw [List.getElem?_append_left this] at e; exact e
  · cases v with
    | d t => exact Rd.move mv V
    | g v => exact V
    | m j =>
      refine el_ea (V) fun c h1 h2 => ?_; try clear V
      by_cases q : j = σ.length
      · have e : fz σ.length d (.m j) = .d d := if_pos q
        rw [e]
        rw [q, ← hl₀, List.getElem?_append_right (Nat.le_refl _)] at h1
        simp at h1
        subst h1; subst h2; exact hd
      · have e : fz σ.length d (.m j) = .m j := if_neg q
        rw [e]
        have hj := (List.getElem?_eq_some_iff.mp h1).1
        have hj' : j < a₀.length := by simp at hj; lia -abstractProof
        rw [List.getElem?_append_left hj'] at h1
        exact ⟨c, h1, h2⟩
theorem WS.freeze {x : MO} {d : D} {ss : List Stmt} (G : Glb h₀ gl) (hx : Frz x d) (hbd : ∀ y ∈ σ, y.bd ≤ σ.length) (hk : k ≤ σ.length) (h : WS prog w h₀ n sc k (fzm σ.length d m) ss σ Ks) : WS prog w h₀ n sc k m ss (σ ++ [x]) Ks := by
  intro A env fs as s hA hE R F hl
  refine el_eeaa (R.freeze G hx hbd) fun a₀ a zq2 R₀ hv => ?_; subst zq2
  have F₀ : FrameOk prog w env (fzm σ.length d m) fs a₀ s.heap := by
    refine el_ea (F.ns) fun mm hn hvv => ?_
    refine ⟨⟨mm, hn, fun y v e hk => ?_⟩, fun y v e hk => ?_, F.cells, F.inj, F.loc, F.ne, F.all⟩
    · refine el_ea (fzm_lookup e) fun v₀ e₀ zq2 => ?_; subst zq2
      refine el_ea (hvv y v₀ e₀ hk) fun u h1 h2 => ?_
      exact ⟨u, hv _ _ h1, h2⟩
    · refine el_ea (fzm_lookup e) fun v₀ e₀ zq2 => ?_; subst zq2
      refine el_eeaa (F.cl y v₀ e₀ hk) fun c u h1 h2 h3 => ?_
      exact (in_eeaa c u h1 h2 (hv _ _ h3))
  have hl₀ : k ≤ a₀.length := by rw [R₀.len]; exact hk
  refine wpAny_mono (h A env fs a₀ s hA hE R₀ F₀ hl₀) (fun f s' p => p.then ?_) fun _ _ x => x
  refine ⟨fun i b hi e => ?_, fun b hb hn => absurd (List.mem_append_left _ hb) hn, fun b o _ _ e => e, fun b o e => ⟨o, e⟩, rfl⟩
  rw [List.getElem?_append_left (Nat.lt_of_lt_of_le hi hl₀)] at e; exact e

/-! ### more heads -/
theorem Wk.str {A : Around} (hh : A.handled = none) (I : Addr) (x : Str) (t : Tok) : ∃ o St, (∀ (h : Heap), h.objs.size = I → St 0 (h.push o)) ∧ o.isFreed = false ∧ Wk prog w A I [] x.cps.size (SignAt x) St ∧
    (∀ (s : Shared) (Q : Value → Shared → Prop) (E : Value → Shared → Prop), s.heap.objs.size = I → Q (.ref I) { s with heap := s.heap.push o } → wpAny (model prog w) A (pyIter (.str x t)) Q E s) := by
  cases ha : x.cps.all (· < 128)
  · refine (in_eeaaa ({ cls := .type "str_iterator", data := .fields #[.str x t, .int 0 0] }) (fun i h => h.IsStrIter I "str_iterator" x t i) (fun h e => by subst e; exact ⟨_, Heap.get?_push_size _ rfl, rfl, rfl⟩) rfl ⟨?_, ?_, ?_, ?_, ?_⟩ (fun s Q E e hQ => by subst e; exact wpAny_pyIter_wide ha hQ))
    · intro i h st b hb; rw [List.mem_singleton.mp hb]; refine el_ea (st) fun o e _ => ?_; try clear st; exact ⟨o, e⟩
    · intro i h h' st hk; refine el_ea (st) fun o e r => ?_; try clear st; exact ⟨o, hk I (by simp) o e, r⟩
    · intro i s Q E hi st hQ
      refine wpAny_pyNext_wide_item st (c := x.cps[i]) (by simp [hi]) fun h' hit' hs' => ?_
      exact hQ _ h' (s.toks + 1) (in_eea _ _ (by simp [hi]) rfl) hit' hs'
    · intro s Q E st hQ; exact wpAny_pyNext_wide_end hh st (by simp) fun h' he' => hQ h' he'
    · intro i s Q E st hQ; exact wpAny_pyIter_striter_wide st hQ
  · refine (in_eeaaa ({ cls := .type "str_ascii_iterator", data := .fields #[.str x t, .int 0 0] }) (fun i h => h.IsStrIter I "str_ascii_iterator" x t i) (fun h e => by subst e; exact ⟨_, Heap.get?_push_size _ rfl, rfl, rfl⟩) rfl ⟨?_, ?_, ?_, ?_, ?_⟩ (fun s Q E e hQ => by subst e; exact wpAny_pyIter_ascii ha hQ))
    · intro i h st b hb; rw [List.mem_singleton.mp hb]; refine el_ea (st) fun o e _ => ?_; try clear st; exact ⟨o, e⟩
    · intro i h h' st hk; refine el_ea (st) fun o e r => ?_; try clear st; exact ⟨o, hk I (by simp) o e, r⟩
    · intro i s Q E hi st hQ
      refine wpAny_pyNext_ascii_item st (c := x.cps[i]) (by simp [hi]) fun h' hit' hs' => ?_
      exact hQ _ h' (s.toks + 1) (in_eea _ _ (by simp [hi]) rfl) hit' hs'
    · intro s Q E st hQ; exact wpAny_pyNext_ascii_end hh st (by simp) fun h' he' => hQ h' he'
    · intro i s Q E st hQ; exact wpAny_pyIter_striter_ascii st hQ
noncomputable def signs (x : Str) : List Vl := x.cps.toList.map fun c => .d (.str ⟨#[c]⟩)
theorem WI.str {Kx : List Vl → List MO → Prop} {e : Expr} (h : WE prog w h₀ n sc m e σ fun v σ₁ => ∃ x, v = .d (.str x) ∧ Kx (signs x) σ₁) : WI prog w h₀ n sc m e σ Kx := by
  intro A env fs as s hA hE R F
  refine wpAny_mono (h A env fs as s hA hE R F) (fun u s₁ zf403 => PostE.elq1 zf403 fun x a₁ σ₁ st R₁ V kk => ?_) fun _ _ x => x

  obtain ⟨t, rfl⟩ := V.str_inv
  refine el_eeaaa (Wk.str (prog := prog) (w := w) hA.handled s₁.heap.objs.size x t) fun o St h1 h2 W h3 => ?_
  refine h3 s₁ _ _ rfl ?_
  have hk : ∀ b o', s₁.heap.get? b = some o' → (s₁.heap.push o).get? b = some o' := fun _ _ e => Heap.get?_push_of_some _ e
  refine (in_eeeeaaaaa _ (signs x) a₁ σ₁ rfl ?_ (st.transE (Stp.keptAll hk rfl)) (R₁.newIt h2) (in_eeeeeaaaaa ([]) _ _ _ 0 W (h1 _ rfl) ?_ (fun j v u e p => ?_) (fun b hb => absurd hb List.not_mem_nil) (fun j v e => ?_)) kk)
  · cases q : s.heap.get? s₁.heap.objs.size with
    | none => rfl
    | some o => obtain ⟨o', e'⟩ := st.thr _ o q; rw [noObj] at e'; cases e'
  · simp [signs]
  · refine el_eea (p) fun c u' h4 zq3 => ?_; subst zq3; try clear p
    unfold signs at e
    rw [List.getElem?_map] at e
    have : x.cps.toList[j]? = some c := by simpa using h4
    rw [this] at e
    cases e
    exact Rd.str _ _
  · unfold signs at e
    rw [List.getElem?_map] at e
    cases q : x.cps.toList[j]? with
    | none => rw [q] at e; cases e
    | some d => rw [q] at e; cases e; exact ⟨_, rfl⟩
theorem Wk.keys {K : Type} [DecidableEq K] {knd : KeyKind prog w K} {A : Around} (hh : A.handled = none) (I d : Addr) (hne : d ≠ I) (kvs : List (K × Value)) (ep : Nat) :
    Wk prog w A I [d] kvs.length (fun i v => ∃ k x, kvs[i]? = some (k, x) ∧ knd.is k v = true) (fun i h => h.IsKeyIter I d i kvs.length ep ∧ h.DictAt knd d kvs ep) where
  there := fun _ _ st b hb => by
    refine el_aeea (st) fun zq0 o' _ e' _ => ?_; obtain ⟨o, e, _⟩ := zq0; try clear st
    rcases List.mem_cons.mp hb with rfl | hb
    · exact ⟨o, e⟩
    · rw [List.mem_singleton.mp hb]; exact ⟨o', e'⟩
  frame := fun _ _ _ st hk => ⟨let ⟨o, e, r⟩ := st.1; ⟨o, hk I (by simp) o e, r⟩, st.2.at' fun o e => hk d (by simp) o e⟩
  item := fun i s Q E hi st hQ => by
    obtain ⟨⟨k, x⟩, hx⟩ : ∃ p, kvs[i]? = some p := ⟨kvs[i], by simp [hi]⟩
    refine wpAny_pyNext_dict_item st.1 st.2 hx fun key h' hkey hit' hs' => ?_
    exact hQ key h' s.toks (in_eea k x hx hkey) ⟨hit', st.2.extBut hs'.extBut hne⟩ hs'
  done := fun s Q E st hQ => wpAny_pyNext_dict_end hh st.1 st.2 (by simp) hQ
  self := fun _ _ _ _ st hQ => wpAny_pyIter_keyiter st.1 hQ
theorem RdKv.key {ex : List Addr} {h : Heap} : ∀ {kv : List (Str × Value)} {xs : List (Str × D)}, RdKv prog w ex h kv xs → kv.map (·.1) = xs.map (·.1)
  | _, _, .nil => rfl
  | _, _, .cons _ r => by simp [r.key]
theorem WI.keys (G : Glb h₀ gl) {Kx : List Vl → List MO → Prop} {e : Expr} (h : WE prog w h₀ n sc m e σ fun v σ₁ => ∃ kvs, v = .d (.dct kvs) ∧ Kx (kvs.map fun p => .d (.str p.1)) σ₁) : WI prog w h₀ n sc m e σ Kx := by
  intro A env fs as s hA hE R F
  refine wpAny_mono (h A env fs as s hA hE R F) (fun u s₁ zf445 => PostE.elq1 zf445 fun kvs a₁ σ₁ st R₁ V kk => ?_) fun _ _ x => x

  apply Rd.dctE V; intro d kv na ns hd hr
  · skip
    obtain ⟨ep, hda⟩ := hd.dictAt
    refine wpAny_pyIter_dict (by simpa using ns) hda ?_
    have hk : ∀ b o, s₁.heap.get? b = some o → (s₁.heap.push { cls := .type "dict_keyiterator", data := .fields #[.ref d, .int 0 0, .int kv.length 0, .int ep 0] }).get? b = some o := fun _ _ e => Heap.get?_push_of_some _ e
    have hne : d ≠ s₁.heap.objs.size := Nat.ne_of_lt hda.lt_size
    refine (in_eeeeaaaaa _ (kvs.map fun p => .d (.str p.1)) a₁ σ₁ rfl ?_ (st.transE (Stp.keptAll hk rfl)) (R₁.newIt rfl) (in_eeeeeaaaaa ([d]) _ _ _ 0 (Wk.keys (knd := strKind prog w) hA.handled _ d hne kv ep) ⟨⟨_, Heap.get?_push_size _ rfl, rfl, rfl⟩, hda.keep hk⟩ ?_ (fun j v u e p => ?_) (fun b hb => ?_) (fun j v e => ?_)) kk)
    · cases q : s.heap.get? s₁.heap.objs.size with
      | none => rfl
      | some o => obtain ⟨o', e'⟩ := st.thr _ o q; rw [noObj] at e'; cases e'
    · simp [hr.length]
    · refine el_eea (p) fun ky x h4 h5 => ?_; try clear p
      have hkk := hr.key
      have e1 : (kv.map (·.1))[j]? = some ky := by rw [List.getElem?_map]; simp at h4; rw [h4]; rfl
      rw [hkk, List.getElem?_map] at e1
      rw [List.getElem?_map] at e
      cases q : kvs[j]? with
      | none => rw [q] at e; cases e
      | some p =>
        rw [q] at e e1; cases e; cases e1
        obtain ⟨t, rfl⟩ : ∃ t, u = .str p.1 t := Value.isStrOf_shape h5
        exact Rd.str _ _
    · rw [List.mem_singleton.mp hb]
      intro q
      rcases List.mem_append.mp q with q | q
      · exact na (List.mem_append_left _ q)
      · rcases List.mem_cons.mp q with q | q
        · exact hne q
        · exact na (List.mem_append_right _ q)
    · rw [List.getElem?_map] at e
      cases q : kvs[j]? with
      | none => rw [q] at e; cases e
      | some d => rw [q] at e; cases e; exact ⟨_, rfl⟩
end
end Mine
end
section
namespace Mine
theorem bindL_out {kf : Str → Option NameKind} {y : Str} : ∀ {b : List (Str × Value)} {m : Str → Option Value}, y ∉ b.map (·.1) → bindL kf b m y = m y
  | [], _, _ => rfl
  | (n, v) :: r, m, h => by
    have h1 : y ≠ n := fun q => h (by simp [q])
    have h2 : y ∉ r.map (·.1) := fun q => h (by simp only [List.map_cons, List.mem_cons]; exact .inr q)
    show bindL kf r _ y = _
    rw [bindL_out h2]
    split
    · simp [h1]
    · rfl
theorem bindC_out {kf : Str → Option NameKind} {y : Str} : ∀ {b : List (Str × Value)} {m : Str → Option Value}, y ∉ b.map (·.1) → bindC kf b m y = m y
  | [], _, _ => rfl
  | (n, v) :: r, m, h => by
    have h1 : y ≠ n := fun q => h (by simp [q])
    have h2 : y ∉ r.map (·.1) := fun q => h (by simp only [List.map_cons, List.mem_cons]; exact .inr q)
    show bindC kf r _ y = _
    rw [bindC_out h2]
    split
    · rfl
    · simp [h1]
theorem bindL_in {kf : Str → Option NameKind} {y : Str} {v : Value} (hk : kf y = some .local) : ∀ {b : List (Str × Value)} {m : Str → Option Value}, (b.map (·.1)).Nodup → b.lookup y = some v → bindL kf b m y = some v
  | (n, u) :: r, m, hn, h => by
    rw [List.map_cons, List.nodup_cons] at hn
    show bindL kf r _ y = _
    rw [List.lookup_cons] at h
    by_cases e : y = n
    · subst e
      simp at h
      subst h
      rw [bindL_out hn.1, if_pos hk]; simp
    · have e' : (y == n) = false := by simpa using e
      rw [e'] at h
      exact bindL_in hk hn.2 h
theorem bindC_in {kf : Str → Option NameKind} {y : Str} {v : Value} (hk : kf y ≠ some .local) : ∀ {b : List (Str × Value)} {m : Str → Option Value}, (b.map (·.1)).Nodup → b.lookup y = some v → bindC kf b m y = some v
  | (n, u) :: r, m, hn, h => by
    rw [List.map_cons, List.nodup_cons] at hn
    show bindC kf r _ y = _
    rw [List.lookup_cons] at h
    by_cases e : y = n
    · subst e
      simp at h
      subst h
      rw [bindC_out hn.1, if_neg hk]; simp
    · have e' : (y == n) = false := by simpa using e
      rw [e'] at h
      exact bindC_in hk hn.2 h
theorem apart_all {a b : Str × Addr} : ∀ {l : List (Str × Addr)}, l.Pairwise (fun x y => x.2 ≠ y.2) → a ∈ l → b ∈ l → a ≠ b → a.2 ≠ b.2
  | c :: r, hp, ha, hb, hne => by
    rw [List.pairwise_cons] at hp
    rcases List.mem_cons.mp ha with qa | qa
    · rcases List.mem_cons.mp hb with qb | qb
      · exact absurd (qa.trans qb.symm) hne
      · rw [qa]; exact hp.1 b qb
    · rcases List.mem_cons.mp hb with qb | qb
      · rw [qb]; exact fun q => hp.1 a qa q.symm
      · exact apart_all hp.2 qa qb hne
/-- has the name a cell of its own -/
theorem cellsFrom_has {y : Str} : ∀ {l : List (Str × NameKind)} {n : Nat} {acc : List (Str × Addr)}, ((∃ c, acc.lookup y = some c) ∨ (y, NameKind.cell) ∈ l) → ∃ c, (cellsFrom n l acc).lookup y = some c
  | [], _, _, h => by
    rcases h with h | h
    · exact h
    · cases h
  | (z, kd) :: r, n, acc, h => by
    unfold cellsFrom
    by_cases q : (kd == NameKind.cell) = true
    · rw [if_pos q]
      refine cellsFrom_has ?_
      rw [List.lookup_cons]
      by_cases e : y = z
      · left; exact ⟨n, by simp [e]⟩
      · have e' : (y == z) = false := by simpa using e
        rw [e']
        rcases h with h | h
        · exact .inl h
        · rcases List.mem_cons.mp h with h | h
          · cases h; exact absurd rfl e
          · exact .inr h
    · rw [if_neg q]
      refine cellsFrom_has ?_
      rcases h with h | h
      · exact .inl h
      · rcases List.mem_cons.mp h with h | h
        · cases h; exact absurd rfl q
        · exact .inr h
section
variable {prog : Program} {w : World} {h₀ : Heap} {fs as as' as'' ow : List Addr} {σ σ' σ'' : List MO} {s s' s'' : Shared} {k n : Nat} {sc : Scope} {m : List (Str × Vl)} {Kv : Vl → List MO → Prop} {gl : Str → Option Value}
  {env : Env} {A : Around} {I : Addr} {Ks : Fl → List (Str × Vl) → List MO → Prop}

theorem Rel.enters {Ls : List Addr} {h' : Heap} {t : Nat} (R : Rel prog w h₀ fs as σ s) (hn : Ls.Nodup) (hL : ∀ L ∈ Ls, s.heap.get? L = none) (hk : ∀ b o, s.heap.get? b = some o → h'.get? b = some o) (ht : ∀ L ∈ Ls, ∃ o, h'.get? L = some o) :
    Rel prog w h₀ (Ls ++ fs) as σ { s with heap := h', toks := t } := by
  have mv : ∀ b o, b ∉ as ++ fs → s.heap.get? b = some o → h'.get? b = some o ∧ b ∉ as ++ (Ls ++ fs) := fun b o hb e => ⟨hk b o e, fun q => by
    rcases List.mem_append.mp q with q | q
    · exact hb (List.mem_append_left _ q)
    · rcases List.mem_append.mp q with q | q
      · rw [hL b q] at e; cases e
      · exact hb (List.mem_append_right _ q)⟩
  have out : ∀ L ∈ Ls, L ∉ as ++ fs := fun L hl q => by obtain ⟨o, e⟩ := R.there L q; rw [hL L hl] at e; cases e
  refine ⟨fun b o e => mv b o (R.base b o e).2 (R.base b o e).1, R.len, ?_, fun a ha => ?_, fun i a x ha hx => (R.mo i a x ha hx).move (fun _ _ _ e => e) mv fun o e => hk a o e, R.bare⟩
  · have nd := List.nodup_append.mp R.nd
    refine List.nodup_append.mpr ⟨nd.1, List.nodup_append.mpr ⟨hn, nd.2.1, fun a ha b hb e => ?_⟩, fun a ha b hb e => ?_⟩
    · subst e; exact out a ha (List.mem_append_right _ hb)
    · rcases List.mem_append.mp hb with q | q
      · subst e; exact out a q (List.mem_append_left _ ha)
      · exact nd.2.2 a ha b q e
  · rcases List.mem_append.mp ha with q | q
    · obtain ⟨o, e⟩ := R.there a (List.mem_append_left _ q); exact ⟨o, hk a o e⟩
    · rcases List.mem_append.mp q with q | q
      · exact ht a q
      · obtain ⟨o, e⟩ := R.there a (List.mem_append_right _ q); exact ⟨o, hk a o e⟩
theorem VR.enters {Ls : List Addr} {h h' : Heap} {v : Vl} {u : Value} (V : VR prog w fs as h v u) (hL : ∀ L ∈ Ls, h.get? L = none) (hk : ∀ b o, h.get? b = some o → h'.get? b = some o) : VR prog w (Ls ++ fs) as h' v u := by
  cases v with
  | d t =>
    refine Rd.move (fun b o hb e => ⟨hk b o e, fun q => ?_⟩) V
    rcases List.mem_append.mp q with q | q
    · exact hb (List.mem_append_left _ q)
    · rcases List.mem_append.mp q with q | q
      · rw [hL b q] at e; cases e
      · exact hb (List.mem_append_right _ q)
  | m i => exact V
  | g v => exact V
theorem VRs.enters {Ls : List Addr} {h h' : Heap} {vs : List Vl} {us : List Value} (V : VRs prog w fs as h vs us) (hL : ∀ L ∈ Ls, h.get? L = none) (hk : ∀ b o, h.get? b = some o → h'.get? b = some o) : VRs prog w (Ls ++ fs) as h' vs us := by
  induction V with
  | nil => exact .nil
  | cons a _ ih => exact .cons (a.enters hL hk) ih

/-- a call of a def with names that its comprehensions or inner defs read -/
theorem WO.fnC {f : Addr} {ob : Obj} {fd : FuncData} {body : List Stmt} {vs : List Vl} (G : Glb h₀ gl) (ps : List Str)
    (hb : h₀.get? f = some ob) (hd : ob.data = .func fd) (hcd : h₀.CodeRec fd.code fd.qualname) (hbody : fd.body = .stmts body) (hlen : vs.length = ps.length)
    (hbind : ∀ us : List Value, us.length = ps.length → bindArgs fd ⟨us, []⟩ = pure (ps.zip us)) (hnd : ps.Nodup)
    (hloc : ∀ x ∈ ps, fd.scope.names.lookup x = some .local ∨ fd.scope.names.lookup x = some .cell) (hglob : fd.globals = mainGlobals) (hblt : fd.builtins = builtinsNs) (hclo : fd.closure = [])
    (hnn : ((cellsFrom 0 fd.scope.names []).map (·.1)).Nodup)
    (hco : fd.scope.isCoroutine = false) (hgen : fd.scope.isGenerator = false) (hk : fd.scope.kind = .function) (hcode : ∀ c, codeOf fd.scope = some c → fd.code = .ref c)
    (h : ∀ k, k = σ.length → WS prog w h₀ n fd.scope k (ps.zip vs) body σ fun fl _ σ' => Kv (retOf fl) σ') :
    WO prog w h₀ (n + 1) vs (fun us => call (.ref f) us) σ Kv := by
  intro A fs as s us hA R V
  have kp : ∀ b o, h₀.get? b = some o → s.heap.get? b = some o := fun b o e => (R.base b o e).1
  have hul : us.length = ps.length := V.length.trans hlen
  have hkeys : (ps.zip us).map (·.1) = ps := zip_keys ps us hul
  refine wpAny_call (codeAny_call_cells (binds := ps.zip us) (by have := hA.depth; lia -abstractProof) (kp _ _ hb) hd (G.lim.keeps kp) (hcd.keeps kp) hbody (hbind us hul) hclo (fun x hx => ?_) (fun s₁ X => ?_) hco hgen hk)
  · have := List.mem_map_of_mem (f := (·.1)) hx
    rw [hkeys] at this
    rcases hloc _ this with q | q
    · exact .inl q
    · refine .inr ⟨q, ?_⟩
      obtain ⟨c, e⟩ := cellsFrom_has (n := s.heap.objs.size + 1) (acc := []) (.inr (mem_of_lookup q))
      rw [e]; rfl
  · refine el_eea (X.done) fun h₁ tk zq2 hk₁ => ?_; subst zq2
    have hge : ∀ b, s.heap.objs.size ≤ b → s.heap.get? b = none := fun b hb => by
      cases q : s.heap.get? b with
      | none => rfl
      | some o => exact absurd (Heap.lt_size q) (Nat.not_lt_of_le hb)
    generalize hcs : (callEnvC fd s.heap.objs.size f).cells = cs at X
    have hcs' : cellsFrom (s.heap.objs.size + 1) fd.scope.names [] = cs := hcs
    have hcn : (cs.map (·.1)).Nodup := by rw [← hcs', cellsFrom_names fd.scope.names (s.heap.objs.size + 1) 0 [] [] rfl]; exact hnn
    have hlk : ∀ p ∈ cs, cs.lookup p.1 = some p.2 := fun p hp => lookup_of_mem_nodup hcn hp
    have hL : ∀ L ∈ s.heap.objs.size :: cs.map (·.2), s.heap.get? L = none := fun L hl => by
      rcases List.mem_cons.mp hl with q | q
      · rw [q]; exact hge _ (Nat.le_refl _)
      · refine el_ea (List.mem_map.mp q) fun p hp zq2 => ?_; subst zq2
        exact hge _ (Nat.le_of_lt (X.above p.1 p.2 hp))
    have hns := X.toInCall.ns
    have ht : ∀ L ∈ s.heap.objs.size :: cs.map (·.2), ∃ o, h₁.get? L = some o := fun L hl => by
      rcases List.mem_cons.mp hl with q | q
      · subst q; refine el_eeea (hns) fun o _ _ e _ => ?_; try clear hns; exact ⟨o, e⟩
      · refine el_ea (List.mem_map.mp q) fun p hp zq2 => ?_; subst zq2
        refine el_ea (X.cell p.1 p.2 (hlk p hp)) fun o e _ => ?_
        exact ⟨o, e⟩
    have hnl : (s.heap.objs.size :: cs.map (·.2)).Nodup := by
      refine List.nodup_cons.mpr ⟨fun q => ?_, ?_⟩
      · refine el_ea (List.mem_map.mp q) fun p hp e => ?_
        have := X.above p.1 p.2 hp
        have e' : p.2 = s.heap.objs.size := e
        rw [e'] at this
        exact absurd this (Nat.lt_irrefl _)
      · exact List.pairwise_map.mpr X.apart
    have R₁ := R.enters (t := tk) hnl hL hk₁ ht
    have V₁ := V.enters (h' := h₁) hL hk₁
    have hE : EnvIs fd.scope (callEnvC fd s.heap.objs.size f) := ⟨rfl, hk, hglob, hblt, fun x hx => cellsFrom_has (.inr (mem_of_lookup hx)), hcode⟩
    have hcl : (callEnvC fd s.heap.objs.size f).cells = cs := hcs
    have hkf : ∀ x, (callEnvC fd s.heap.objs.size f).kindOf x = fd.scope.names.lookup x := fun _ => rfl
    have F₁ : FrameOk prog w (callEnvC fd s.heap.objs.size f) (ps.zip vs) ((s.heap.objs.size :: cs.map (·.2)) ++ fs) as h₁ := by
      refine ⟨⟨_, hns, fun x v hx hkx => ?_⟩, fun x v hx hkx => ?_, fun x c e => ?_, fun x y c e e' => ?_, by simp [callEnvC]; exact .inl rfl, fun x c e => ?_, fun p hp => ?_⟩
      · refine el_ea (zip_lookup V₁ x v hx) fun u h1 h2 => ?_
        exact ⟨u, h2, bindL_in hkx (by rw [hkeys]; exact hnd) h1⟩
      · refine el_ea (zip_lookup V₁ x v hx) fun u h1 h2 => ?_
        have hm := List.mem_map_of_mem (f := (·.1)) (mem_of_lookup hx)
        rw [zip_keys ps vs hlen] at hm
        have hkc : fd.scope.names.lookup x = some .cell := by
          rcases hloc x hm with q | q
          · rw [hkf, q] at hkx; rcases hkx with q' | q' <;> cases q'
          · exact q
        obtain ⟨c, e⟩ := hE.cell x hkc
        rw [hcl] at e ⊢
        refine (in_eeaa c u e ?_ h2)
        have := X.cell x c e
        rw [bindC_in (by rw [hkf, hkc]; simp) (by rw [hkeys]; exact hnd) h1] at this
        exact this
      · rw [hcl] at e
        exact ⟨by simp only [List.cons_append, List.mem_cons, List.mem_append, List.mem_map]; exact .inr (.inl ⟨(x, c), mem_of_lookup e, rfl⟩), _, X.cell x c e⟩
      · rw [hcl] at e e'
        have hp := X.apart
        rcases Classical.em (x = y) with q | q
        · exact q
        · exfalso
          have hne : (x, c) ≠ (y, c) := fun r => q (congrArg Prod.fst r)
          have := apart_all hp (mem_of_lookup e) (mem_of_lookup e') hne
          exact this rfl
      · rw [hcl] at e
        intro q
        have h1 := X.above x c (mem_of_lookup e)
        have q' : c = s.heap.objs.size := q
        rw [q'] at h1
        exact absurd h1 (Nat.lt_irrefl _)
      · rw [hcl] at hp
        simp only [List.cons_append, List.mem_cons, List.mem_append, List.mem_map]; exact .inr (.inl ⟨p, hp, rfl⟩)
    refine wpAny_mono (h _ rfl (A.deeper _) (callEnvC fd s.heap.objs.size f) ((s.heap.objs.size :: cs.map (·.2)) ++ fs) as _ hA.deeper hE R₁ F₁ (Nat.le_of_eq R.len.symm)) (fun f' s' zf220 => PostS.el zf220 fun fl m' a' σ' hf st R' F' _ kk => ?_) fun _ _ x => x.elim
    have hsub : fs.Sublist ((s.heap.objs.size :: cs.map (·.2)) ++ fs) := List.sublist_append_right ..
    have hstp : Stp [] as.length as s a' s' := by
      refine ⟨fun i a hi e => st.pre i a (R.len ▸ hi) e, fun a ha hn => ?_, fun b o h1 _ e => ?_, fun b o e => st.thr b o (hk₁ b o e), st.os⟩
      · cases q : s.heap.get? a with
        | none => rfl
        | some o => have := st.fresh a ha hn; rw [hk₁ a o q] at this; cases this
      · refine st.kept b o h1 (fun q => ?_) (hk₁ b o e)
        have : b ∈ s.heap.objs.size :: cs.map (·.2) := by
          rcases List.mem_cons.mp q with q | q
          · exact List.mem_cons.mpr (.inl q)
          · rw [hcl] at q; exact List.mem_cons_of_mem _ q
        rw [hL b this] at e; cases e
    cases fl with
    | next => cases hf; exact (in_eeeaaa (.d .none) a' σ' hstp (R'.leave hsub) Rd.none kk)
    | brk => cases hf; exact (in_eeeaaa (.d .none) a' σ' hstp (R'.leave hsub) Rd.none kk)
    | cont => cases hf; exact (in_eeeaaa (.d .none) a' σ' hstp (R'.leave hsub) Rd.none kk)
    | ret v => refine el_ea (hf) fun u zq1 V' => ?_; subst zq1; try clear hf; exact (in_eeeaaa v a' σ' hstp (R'.leave hsub) (V'.leave hsub) kk)
end
end Mine
end
section
namespace Mine
noncomputable def dPick (xs : List D) (lo hi st : Option Int) : List D :=
  (sliceRange (sliceBounds lo hi st xs.length).1 (sliceBounds lo hi st xs.length).2.1 (sliceBounds lo hi st xs.length).2.2).filterMap (xs[·]?)
section
variable (prog : Program) (w : World) (h₀ : Heap)
noncomputable def WP (n : Nat) (sc : Scope) (m : List (Str × Vl)) (e : Option Expr) (σ : List MO) (K : Option Int → List MO → Prop) : Prop :=
  ∀ A env fs as s, Room n A → EnvIs sc env → Rel prog w h₀ fs as σ s → FrameOk prog w env m fs as s.heap →
    wpAny (model prog w) A (evalPart e env) (fun u s' => ∃ i as' σ', IsPart u i ∧ Stp [] as.length as s as' s' ∧ Rel prog w h₀ fs as' σ' s' ∧ K i σ') NoE s
end
section
variable {prog : Program} {w : World} {h₀ : Heap} {fs as as' as'' ow : List Addr} {σ σ' σ'' : List MO} {s s' s'' : Shared} {k n : Nat} {sc : Scope} {m : List (Str × Vl)} {K : Vl → List MO → Prop} {gl : Str → Option Value}
  {env : Env} {A : Around} {I : Addr} {Ks : Fl → List (Str × Vl) → List MO → Prop}

theorem WP.none {Kp : Option Int → List MO → Prop} (h : Kp none σ) : WP prog w h₀ n sc m none σ Kp :=
  fun _ _ _ _ _ _ _ R _ => wpAny_pure (in_eeeaaa Option.none _ σ .none (Stp.refl ..) R h)
theorem WP.some {e : Expr} {Kp : Option Int → List MO → Prop} (h : WE prog w h₀ n sc m e σ fun v σ₁ => ∃ i, v = .d (.int i) ∧ Kp (some i) σ₁) : WP prog w h₀ n sc m (some e) σ Kp := by
  intro A env fs as s hA hE R F
  rw [evalPart_some]
  refine wpAny_mono (h A env fs as s hA hE R F) (fun u s₁ zf22 => PostE.elq1 zf22 fun i a₁ σ₁ st R₁ V kk => ?_) fun _ _ x => x

  obtain ⟨t, rfl⟩ := V.int_inv
  exact (in_eeeaaa _ a₁ σ₁ (.int i t) st R₁ kk)
theorem RdAll.pick {ex : List Addr} {h : Heap} {us : List Value} {xs : List D} (r : RdAll prog w ex h us xs) : ∀ l : List Nat, RdAll prog w ex h (l.filterMap (us[·]?)) (l.filterMap (xs[·]?))
  | [] => .nil
  | i :: l => by
    have ih := r.pick l
    rw [List.filterMap_cons, List.filterMap_cons]
    cases q : xs[i]? with
    | none =>
      have : us[i]? = none := by
        rw [List.getElem?_eq_none_iff] at q ⊢
        rw [r.length]; exact q
      rw [this]; exact ih
    | some d =>
      refine el_ea (r.get q) fun u h1 h2 => ?_
      rw [h1]; exact .cons h2 ih
theorem RdAll.slice {ex : List Addr} {h : Heap} {us : List Value} {xs : List D} (r : RdAll prog w ex h us xs) (lo hi st : Option Int) : RdAll prog w ex h (slicePick us.toArray lo hi st).toList (dPick xs lo hi st) := by
  unfold slicePick dPick
  rw [List.size_toArray, r.length]
  simpa using r.pick _
/-- a slice of a list -/
theorem WE.slice {value : Expr} {lower upper step : Option Expr} {p pos : Pos} (h : WE prog w h₀ n sc m value σ fun v σ₁ => ∃ xs, v = .d (.lst xs) ∧ xs.length ≤ 1000 ∧ WP prog w h₀ n sc m lower σ₁ fun lo σ₂ => WP prog w h₀ n sc m upper σ₂ fun hi σ₃ => WP prog w h₀ n sc m step σ₃ fun st σ₄ =>
      st ≠ some 0 ∧ K (.d (.lst (dPick xs lo hi st))) σ₄)
    (hs : ∀ l i, ∃ ops, subscripted (.Slice lower upper step p) false (.ref l) (.ref i) = operate ops (getItem (.ref l) (.ref i)) := by intro _ _; exact ⟨_, by with_unfolding_all rfl⟩)
    (ht : ∀ l r, letTemporaryGo value (.ref l) r = pure () := by intro _ _; with_unfolding_all rfl) : WE prog w h₀ n sc m (.Subscript value (.Slice lower upper step p) pos) σ K := by
  intro A env fs as s hA hE R F
  refine Subscript_ (wpAny_mono (h A env fs as s hA hE R F) (fun u s₁ zf50 => PostE.elq1 zf50 fun xs a₁ σ₁ st₁ R₁ V zk => el_a zk fun hlen k₁ => ?_) fun _ _ x => x)

  have F₁ := F.stepE R.nd st₁
  refine wpAny_Slice (wpAny_mono (k₁ A env fs a₁ s₁ hA hE R₁ F₁) (fun vl s₂ zf53 => el_eeeaaa zf53 fun lo a₂ σ₂ pl st₂ R₂ k₂ => ?_) fun _ _ x => x)
  have F₂ := F₁.stepE R₁.nd st₂
  refine wpAny_mono (k₂ A env fs a₂ s₂ hA hE R₂ F₂) (fun vu s₃ zf55 => el_eeeaaa zf55 fun hi a₃ σ₃ pu st₃ R₃ k₃ => ?_) fun _ _ x => x
  have F₃ := F₂.stepE R₂.nd st₃
  refine wpAny_mono (k₃ A env fs a₃ s₃ hA hE R₃ F₃) (fun vk s₄ zf57 => el_eeeaaaa zf57 fun sk a₄ σ₄ pk st₄ R₄ hn0 k₄ => ?_) fun _ _ x => x
  have s14 := (st₂.transE st₃).transE st₄
  have V₄ := V.stepE s14
  apply Rd.lstE V₄; intro l us na hl hr
  · skip
    obtain ⟨ops, hs⟩ := hs l s₄.heap.objs.size
    refine subscriptTail_ops (Heap.IsList.typeIs (s := { s₄ with heap := s₄.heap.push { cls := .type "slice", data := .fields #[vl, vu, vk] } }) (hl.push _)) list_getitem_lookup
      (wpAny_getItem_list_slice (hl.push _) (Heap.IsSliceOf.new ..) pl pu pk hn0 ?_ (by rw [List.size_toArray, hr.length, sizeLine_eq]; lia -abstractProof)) hs (ht l)
    have hk₁ : ∀ b o, s₄.heap.get? b = some o → (s₄.heap.push { cls := .type "slice", data := .fields #[vl, vu, vk] }).get? b = some o := fun _ _ e => Heap.get?_push_of_some _ e
    have R₅ : Rel prog w h₀ fs a₄ σ₄ { s₄ with heap := s₄.heap.push { cls := .type "slice", data := .fields #[vl, vu, vk] } } := R₄.kept hk₁ R₄.bare
    have s15 : Stp [] as.length as s a₄ { s₄ with heap := s₄.heap.push { cls := .type "slice", data := .fields #[vl, vu, vk] } } := (st₁.transE s14).transE (Stp.keptAll hk₁ rfl)
    have hr₅ := ((hr.move fun b o hb e => ⟨hk₁ b o e, hb⟩ : RdAll prog w (a₄ ++ fs) (s₄.heap.push { cls := .type "slice", data := .fields #[vl, vu, vk] }) us xs).slice lo hi sk).pushed { cls := .type "list", data := .seq (slicePick us.toArray lo hi sk) }
    exact (PostE.push (t := s₄.toks) R₅ (v := .d (.lst (dPick xs lo hi sk))) (.lst (next_out R₅) (in_eaae _ (Heap.get?_push_size _ rfl) rfl 0 rfl) hr₅) k₄).step s15
/-- list + list -/
theorem RdAll.app {ex : List Addr} {h : Heap} {us vs : List Value} {xs ys : List D} (b : RdAll prog w ex h vs ys) : RdAll prog w ex h us xs → RdAll prog w ex h (us ++ vs) (xs ++ ys)
  | .nil => b
  | .cons a r => .cons a (b.app r)
theorem WO.addL {xs ys : List D} (hl : xs.length + ys.length ≤ 1000) (h : K (.d (.lst (xs ++ ys))) σ) : WO prog w h₀ n [.d (.lst xs), .d (.lst ys)] (bin2 (binaryOp .Add)) σ K := by
  refine two_of fun A fs as s u₁ u₂ hA R V₁ V₂ => ?_
  apply Rd.lstE V₁; intro l us na hx hr; apply Rd.lstE V₂; intro b vs nb hy hq
  · skip
    refine el_eaae (id hx) fun zq0 ho hc k1 hd => ?_; obtain ⟨cls, dd, data, sl⟩ := zq0
    refine el_eaae (id hy) fun zq0 ho2 hc2 k2 hd2 => ?_; obtain ⟨cls2, dd2, data2, sl2⟩ := zq0
    simp only at hc hd hc2 hd2
    subst hc hd hc2 hd2
    refine concat_meets ⟨_, ho, rfl⟩ ⟨_, ho2, rfl⟩ noFill_list_add seq_list_add PySem.F.slot_list_add PySem.F.entry_list_add (PySem.F.args_list_add_2 _ _)
      (list_addW l b us.toArray vs.toArray k1 k2 dd dd2 sl sl2 (by rw [List.size_toArray, List.size_toArray, hr.length, hq.length, sizeLine_eq]; lia -abstractProof)) ⟨ho, ho2, ?_⟩
    have e : us.toArray ++ vs.toArray = (us ++ vs).toArray := by simp
    rw [e]
    exact PostE.push (t := s.toks) R (v := .d (.lst (xs ++ ys))) (.lst (next_out R) (in_eaae _ (Heap.get?_push_size _ rfl) rfl 0 rfl) (RdAll.pushed _ (hq.app hr))) h
theorem WO.countS {x y : Str} (h : K (.d (.int (Txt.count x y))) σ) : WO prog w h₀ n [.d (.str x), .d (.str y)] (fun us => call (.builtin "str.count") us) σ K := by
  intro A fs as s us hA R V
  apply VRs.two V; intro _ _ V₁ V₂
  · skip
    obtain ⟨t₁, rfl⟩ := V₁.str_inv
    obtain ⟨t₂, rfl⟩ := V₂.str_inv
    exact SC.count (.now R (.int _ _) h)
noncomputable def strMul (x : Str) (n : Nat) : Str := ⟨(List.replicate n x.cps).foldl (· ++ ·) #[]⟩
theorem strMul_one (x : Str) : strMul x 1 = x := by simp [strMul]
theorem WO.mulS {x : Str} {i : Int} (h0 : 0 ≤ i) (hi : i ≤ 1000) (hx : x.length = 1) (h : K (.d (.str (strMul x i.toNat))) σ) : WO prog w h₀ n [.d (.str x), .d (.int i)] (bin2 (binaryOp .Mult)) σ K := by
  refine two_of fun A fs as s u₁ u₂ hA R V₁ V₂ => ?_
  obtain ⟨t₁, rfl⟩ := V₁.str_inv
  obtain ⟨t₂, rfl⟩ := V₂.int_inv
  refine P.mul_str ?_ (fun _ _ => ?_) (fun _ _ => ?_) ?_
  · simp; lia -abstractProof
  · rw [hx]
    have : (2 ^ 63 - 1) / i ≥ 1 := by
      rw [ge_iff_le, Int.le_ediv_iff_mul_le (by lia -abstractProof)]; lia -abstractProof
    lia -abstractProof
  · rw [hx]; unfold Builtin.Str.tooLong; rw [sizeLine_eq]; exact decide_eq_false (by lia -abstractProof)
  · split
    · have e : i = 0 := by lia -abstractProof
      subst e
      exact ⟨by decide, .now R (.str _ _) h⟩
    · split
      · rename_i q
        have e : i = 1 := by simpa [hx] using q
        subst e
        have e1 : strMul x (1 : Int).toNat = x := strMul_one x
        rw [e1] at h
        exact .at R (.str _ _) h
      · refine ⟨?_, .now R (.str _ _) h⟩
        have : (strMul x i.toNat).length ≤ sizeLine := by
          have key : ∀ (n : Nat) (acc : Array Nat), ((List.replicate n x.cps).foldl (· ++ ·) acc).size = acc.size + n * x.cps.size := by
            intro n
            induction n with
            | zero => intro acc; simp
            | succ n ih => intro acc; rw [List.replicate_succ, List.foldl_cons, ih]; simp; rw [Nat.add_mul]; lia -abstractProof
          have e1 : (strMul x i.toNat).length = i.toNat * x.cps.size := by
            have := key i.toNat #[]
            simpa [strMul, Str.length] using this
          have e2 : x.cps.size = 1 := hx
          rw [e1, e2, sizeLine_eq]; lia -abstractProof
        exact this
theorem ints_of {ex : List Addr} {h : Heap} : ∀ {ns : List Int} {us : List Value}, RdAll prog w ex h us (ns.map .int) → ∃ ps : List (Int × Tok), us = ps.map (fun p => .int p.1 p.2) ∧ ps.map (·.1) = ns
  | [], _, .nil => ⟨[], rfl, rfl⟩
  | y :: ys, _, .cons a r => by
    cases a with | int _ t =>
      refine el_ea (ints_of r) fun ps h1 h2 => ?_
      exact ⟨(y, t) :: ps, by simp [h1], by simp [h2]⟩
theorem WO.sumL {ns : List Int} (h : K (.d (.int ns.sum)) σ) : WO prog w h₀ n [.d (.lst (ns.map .int))] (fun us => call (.builtin "sum") us) σ K := by
  intro A fs as s us hA R V
  apply VRs.one V; intro _ V₁
  · skip
    apply Rd.lstE V₁; intro l us na hl hr
    · skip
      refine el_ea (ints_of hr) fun ps zq1 zq2 => ?_; subst zq1; subst zq2
      have hl' : s.heap.IsList l (intItems ps.toArray) := by
        have : intItems ps.toArray = (ps.map fun p => Value.int p.1 p.2).toArray := by simp [intItems]
        rw [this]; exact hl
      refine sum_intListG hA.handled hl' fun h' tk t' hk => ?_
      have e : preSum (numAt ps.toArray) ps.toArray.size = (ps.map (·.1)).sum := by
        rw [preSum_eq, List.take_of_length_le (by simp)]
      rw [e]
      exact .kept (v := .d (.int _)) R hk R.bare rfl (Rd.int _ _) h
theorem WO.isTupI {i : Int} (h : K (.d (.bool false)) σ) : WO prog w h₀ n [.d (.int i), .g (.type "tuple")] (fun us => call (.builtin "isinstance") us) σ K := by
  intro A fs as s us hA R V
  apply VRs.two V; intro _ _ V₁ V₂
  · skip
    obtain ⟨t₁, rfl⟩ := V₁.int_inv
    have V₂' : _ = Value.type "tuple" := V₂
    subst V₂'
    exact IsiPair.int_tuple (.now R (.bool _) h)
theorem WO.isTupT {xs : List D} (h : K (.d (.bool true)) σ) : WO prog w h₀ n [.d (.tup xs), .g (.type "tuple")] (fun us => call (.builtin "isinstance") us) σ K := by
  intro A fs as s us hA R V
  apply VRs.two V; intro _ _ V₁ V₂
  · skip
    have V₂' : _ = Value.type "tuple" := V₂
    subst V₂'
    apply Rd.tupE V₁; intro _ _ na ht hr
    · skip
      refine el_eaa (ht) fun o ho hc _ => ?_; try clear ht
      exact IsiPair.tuple_tuple ho hc (.at R (.bool _) h)
end
end Mine
end
section
namespace Mine
section
variable (prog : Program) (w : World) (h₀ : Heap)
/-- an expression where a mark was handed out before -/
noncomputable def WEt (n : Nat) (sc : Scope) (m : List (Str × Vl)) (e : Expr) (σ : List MO) (K : Vl → List MO → Prop) : Prop :=
  ∀ A env fs as s, 1 ≤ s.toks → Room n A → EnvIs sc env → Rel prog w h₀ fs as σ s → FrameOk prog w env m fs as s.heap → wpAny (model prog w) A (eval e env) (PostE prog w h₀ fs as s K) NoE s
end
section
variable {prog : Program} {w : World} {h₀ : Heap} {fs as as' as'' ow : List Addr} {σ σ' σ'' : List MO} {s s' s'' : Shared} {k n : Nat} {sc : Scope} {m : List (Str × Vl)} {K : Vl → List MO → Prop} {gl : Str → Option Value}
  {env : Env} {A : Around} {I : Addr} {Ks : Fl → List (Str × Vl) → List MO → Prop}

theorem WEt.of {e : Expr} (h : WE prog w h₀ n sc m e σ K) : WEt prog w h₀ n sc m e σ K := fun A env fs as s _ => h A env fs as s
theorem WE.binK {c : Str} {r : Expr} {op : Operator} {x : Nat} {p p' : Pos} (h : WEt prog w h₀ n sc m r σ fun b σ₂ => WO prog w h₀ n [.d (.str c), b] (bin2 (binaryOp op)) σ₂ K) :
    WE prog w h₀ n sc m (.BinOp (.Constant (.str c) x p') op r p) σ K := by
  intro A env fs as s hA hE R F
  refine wpAny_BinOp (wpAny_Constant_str ?_)
  refine wpAny_mono (h A env fs as { s with toks := s.toks + 1 } (Nat.succ_le_succ (Nat.zero_le _)) hA hE (R.toks _) F) (fun u₂ s₂ zf20 => PostE.el zf20 fun v₂ a₂ σ₂ st₂ R₂ V₂ k₂ => ?_) fun _ _ x => x
  have st₂' : Stp [] as.length as s a₂ s₂ := st₂.toks₀ s.toks
  exact wpAny_mono (k₂ A fs a₂ s₂ _ hA R₂ (.cons (VR.str _ _) (.cons V₂ .nil))) (fun _ _ p => p.step st₂') fun _ _ x => x
/-- e.replace('..', '..') -/
theorem WEt.replace {o : Expr} {a b : Str} {x₁ x₂ : Nat} {p₁ p₂ apos pos : Pos} (hab : (a == b) = false) (hb : b.length ≤ 14) (h : WEt prog w h₀ n sc m o σ fun v σ₁ => ∃ x, v = .d (.str x) ∧ x.length ≤ 1000 ∧ K (.d (.str (Txt.replace x a b))) σ₁)
    (hbase : ∀ env, attributeBase o "replace" env (eval o env) = eval o env := by intro _; rfl) (hline : (apos.endLine == pos.line) = true := by rfl) :
    WEt prog w h₀ n sc m (.Call (.Attribute o "replace" apos) [.Constant (.str a) x₁ p₁, .Constant (.str b) x₂ p₂] [] pos) σ K := by
  intro A env fs as s ht hA hE R F
  refine wpAny_Call_method (T := "str") (id := "str.replace") (hbase env) rfl hline PySem.F.plainAttrs_str PySem.F.slot_str_replace PySem.F.type_str_replace (wpAny_mono (wpAny_toks_of ht (h A env fs as s ht hA hE R F)) (fun u s₁ zf28 => el_aeeeaaaeaa zf28 fun ht₁ v a₁ σ₁ st R₁ V x e hx kk => ?_) fun _ _ x => x.2)
  subst e
  obtain ⟨t, rfl⟩ := V.str_inv
  refine ⟨typeIs_str _ _ _, (by intro _ e; cases e), ?_⟩
  refine callWith_method1 (e := .Constant (.str a) x₁ p₁) (rest := [.Constant (.str b) x₂ p₂]) ?_
  have e1 : starEach [.Constant (.str a) x₁ p₁, .Constant (.str b) x₂ p₂] env = [(false, eval (.Constant (.str a) x₁ p₁) env), (false, eval (.Constant (.str b) x₂ p₂) env)] := rfl
  rw [e1]
  refine Calls.spliced_cons (wpAny_Constant_str (pos := p₁) (k := x₁) (Calls.spliced_cons (wpAny_Constant_str (pos := p₂) (k := x₂) (Calls.spliced_nil ?_))))
  refine SC.replaceW (u := s₁.toks) (v := s₁.toks + 1) (s := { s₁ with toks := s₁.toks + 1 + 1 }) (Nat.ne_of_gt ht₁) (Nat.succ_ne_zero _) (Nat.ne_of_lt (Nat.lt_succ_self _)) hab (by lia -abstractProof) hb fun t' k' => ?_
  exact (PostE.now R₁ (.str _ _) kk).step st
/-- l.pop(0) -/
theorem WO.pop0 {i : Nat} {d : D} {xs : List D} (hi : σ[i]? = some (.list (d :: xs))) (hl : xs.length ≤ 1000) (h : K (.d d) (σ.set i (.list xs))) : WO prog w h₀ n [.m i, .d (.int 0)] (fun us => call (.builtin "list.pop") us) σ K := by
  intro A fs as s us hA R V
  apply VRs.two V; intro _ _ V₁ V₂
  · skip
    refine el_ea (V₁) fun a ha zq2 => ?_; subst zq2; try clear V₁
    obtain ⟨t, rfl⟩ := V₂.int_inv
    refine el_ea (R.mo i a _ ha hi) fun vs hp hr => ?_
    cases hr with | @cons v vs d xs hv hr =>
      obtain ⟨ep, e⟩ := hp
      have hs := Heap.SameBut.update (h := s.heap) (a := a) (f := Obj.mapSeq fun xs => xs.eraseIdxIfInBounds 0)
      refine call_meets PySem.F.slot_list_pop ⟨_, e, rfl⟩ PySem.F.entry_list_pop (PySem.F.args_list_pop_2 _ _) (PySem.MeetsSeq.list_pop_at a _ ep 0 t 0 v (by decide) ?_ (by simp) (by rw [List.size_toArray, List.length_cons, hr.length, sizeLine_eq]; lia -abstractProof)) ⟨e, ?_⟩
      · exact seqIndex_nat (j := 0) (by simp)
      · have ho : (s.heap.update a (Obj.mapSeq fun xs => xs.eraseIdxIfInBounds 0)).get? a = some { cls := .type "list", data := .seq vs.toArray (ep + 1) } := by
          rw [Heap.get?_update_self _ e rfl]
          simp [Obj.mapSeq]
        exact (in_eeeaaa (.d d) as _ (Stp.set (t := s.toks) ha hs ⟨_, ho⟩) (R.set (x := .list xs) (t := s.toks) ha hs ⟨_, ho⟩ ⟨vs, ⟨_, ho⟩, hr.set ha hs⟩) (Rd.set hv ha hs) h)
end
end Mine
end
section
open PySem.AutoSeq1 (wpAny_loadPart')
namespace Mine
/-- the two values are equal, and the test of it leaves all as it was -/
noncomputable def EqT (prog : Program) (w : World) (A : Around) (s : Shared) (u v : Value) : Prop :=
  ∀ (E : Value → Shared → Prop) (Q : Bool → Shared → Prop), Q true s → wpAny (model prog w) A (eqBool u v) Q E s
section
variable {prog : Program} {w : World} {A : Around} {s : Shared}
theorem EqT.of {u v : Value} (h : SeqAt.EqAt A s u v true) : EqT prog w A s u v := fun E Q hq => h prog w E Q hq
theorem EqT.int (i : Int) (t u : Tok) : EqT prog w A s (.int i t) (.int i u) := .of (by have := SeqAt.EqAt.int_int (A := A) (s := s) i t i u; simpa using this)
theorem EqT.str (i : Str) (t u : Tok) : EqT prog w A s (.str i t) (.str i u) := .of (by have := SeqAt.EqAt.str_str (A := A) (s := s) i t i u; simpa using this)
theorem EqT.refs {l b : Addr} (h : l ≠ b → ∀ (E : Value → Shared → Prop) (Q : Value → Shared → Prop), Q (.bool true) s → wpAny (model prog w) A (richCompare .Eq (.ref l) (.ref b)) Q E s) : EqT prog w A s (.ref l) (.ref b) := by
  by_cases q : l = b
  · subst q; exact .of (.same _)
  · intro E Q hq
    unfold eqBool
    refine wpAny_holding ?_
    refine wpAny_ite_split (fun hab => absurd (by have := eq_of_beq hab; injection this) q) (fun _ => ?_)
    exact wpAny_bind (h q E _ (wpAny_truthy_bool hq))
theorem tuple_eqT {l b : Addr} {us vs : List Value} {Q : Value → Shared → Prop} {E : Value → Shared → Prop} (hl : IsTup s.heap l us.toArray) (hb : IsTup s.heap b vs.toArray) (hn : us.length = vs.length) (hu : A.units < cLine)
    (he : ∀ p ∈ us.zip vs, EqT prog w A.in1 s p.1 p.2) (h : Q (.bool true) s) : wpAny (model prog w) A (richCompare .Eq (.ref l) (.ref b)) Q E s := by
  refine el_eaae (id hl) fun zq0 ho hc n hd => ?_; obtain ⟨cls, dd, data, sl⟩ := zq0
  refine el_eaae (id hb) fun zq0 ho2 hc2 n2 hd2 => ?_; obtain ⟨cls2, dd2, data2, sl2⟩ := zq0
  simp only at hc hd hc2 hd2
  subst hc hd hc2 hd2
  have hT : s.TypeIs (.ref l) "tuple" := ⟨_, ho, rfl⟩
  refine wpAny_richCompare_same_room (op := .Eq) hT ⟨_, ho2, rfl⟩ PySem.F.slot_tuple_eq (wpAny_call_entry PySem.F.slot_tuple_eq hT PySem.F.entry_tuple_eq ?_ (PySem.F.args_tuple_eq_2 _ _)) hu
  obtain ⟨hp, g, d, tk, os⟩ := s
  have f2 := AutoSeq1.sub_tuple_tuple
  wp_walk using wpAny_loadPart' ho, wpAny_loadPart' ho2, wpAny_forIn_list _ (fun rest b s' => b.1 = none ∧ s' = ⟨hp, g, d, tk, os⟩ ∧ ∀ p ∈ rest, EqT prog w A.in1 ⟨hp, g, d, tk, os⟩ p.1 p.2) _
  case turn =>
    rintro ⟨y, x⟩ rest b' s' ⟨hb', rfl, hR⟩
    refine wpAny_bind (hR (y, x) (List.mem_cons_self ..) _ _ ?_)
    wp_walk
    exact ⟨rfl, rfl, fun p hp => hR p (List.mem_cons_of_mem _ hp)⟩
  case fin =>
    rintro ⟨b1, b2⟩ s' ⟨hb', rfl, hR⟩
    simp only at hb'
    subst hb'
    wp_walk
    refine ⟨_, rfl, ?_, ?_⟩
    · intro x; cases x
    · simpa [Builtin.Tuple.tupleCompareSizes, hn] using h
  case h =>
    exact ⟨rfl, rfl, by simpa using he⟩
end
end Mine
end
section
namespace Mine
section
variable {prog : Program} {w : World} {A : Around} {s : Shared} {E : Value → Shared → Prop}
/-- two dicts with the same pairs -/
theorem samePairsT {nm : String} {a b : Addr} {ka kb : List (Str × Value)} {Q : Bool → Shared → Prop} (ha : (a == sysModules) = false) (hb : (b == sysModules) = false)
    (da : s.heap.DictOf (strKind prog w) a ka) (db : s.heap.DictOf (strKind prog w) b kb) (hn : ka.length = kb.length)
    (hits : ∀ (i : Nat) k v, ka[i]? = some (k, v) → ∃ y, valueAt kb k = some y ∧ EqT prog w A s v y) (h : Q true s) : wpAny (model prog w) A (Builtin.Dict.samePairs nm a b) Q E s := by
  refine el_eeeaaaaa (da) fun oa es ep hoa _ hda hka hpa _ => ?_; try clear da
  refine el_eeeaaaaa (db) fun ob fs ep' hob _ hdb hkb hpb _ => ?_; try clear db
  have la : ka.length = es.size := by rw [← hpa.length]; exact Array.length_toList
  have lb : kb.length = fs.size := by rw [← hpb.length]; exact Array.length_toList
  have same : es.size = fs.size := by rw [← la, ← lb]; exact hn
  have look : ∀ k, findBy (strKind prog w).is fs k = valueAt kb k := fun k => by
    rw [← hpb.find k]
    clear lb hpb hkb hdb hob same
    obtain ⟨l⟩ := fs
    simp [findBy]
  unfold Builtin.Dict.samePairs Builtin.Dict.showsAll
  rw [if_neg (by rw [ha]; exact Bool.false_ne_true), if_neg (by rw [hb]; exact Bool.false_ne_true)]
  refine wpAny_bind (wpAny_pure (wpAny_bind (wpAny_pure ?_)))
  refine wpAny_bind (wpAny_dictEntries hoa hda ?_)
  dsimp only
  refine wpAny_bind (wpAny_dictEntries hob hdb ?_)
  rw [if_neg (by rw [same]; simp)]
  refine wpAny_bind (wpAny_dictEpoch hoa hda ?_)
  refine wpAny_bind ?_
  rw [Std.Legacy.Range.forIn_eq_forIn_range']
  simp only [Std.Legacy.Range.size, Nat.sub_zero, Nat.add_sub_cancel, Nat.div_one]
  refine wpAny_forIn_list _ (fun rest q s' => s' = s ∧ q = (none, ()) ∧ ∀ i ∈ rest, i < es.size) _ ?_ ?_ _ _ ⟨rfl, rfl, fun i hi => by simp [List.mem_range'_1] at hi; lia⟩
  · rintro x rest q s' ⟨rfl, rfl, hr⟩
    have hlt : x < es.size := hr x (List.mem_cons_self ..)
    refine wpAny_bind (wpAny_dictEntries hoa hda ?_)
    rw [Array.getElem?_eq_getElem hlt]
    have hlt' : x < ka.length := by rw [la]; exact hlt
    obtain ⟨k, v, hkv⟩ : ∃ k v, ka[x]? = some (k, v) := (in_ee (ka[x].1) (ka[x].2) (by rw [List.getElem?_eq_getElem hlt']))
    obtain ⟨hkey, hval⟩ := hpa.get? (i := x) (e := es[x]) (k := k) (v := v) (by rw [Array.getElem?_toList]; exact Array.getElem?_eq_getElem hlt) hkv
    refine el_ea (hka es[x] (Array.getElem_mem hlt)) fun k' hk' hh => ?_
    have ekk : k' = k := (strKind prog w).inj _ _ _ hk' hkey
    rw [ekk] at hh
    refine el_ea (hits x k v hkv) fun y hy he => ?_
    show wpAny _ _ (holding [es[x].key, es[x].val] _ >>= _) _ _ _
    rw [hh]
    refine wpAny_bind (wpAny_holding (wpAny_bind (wpAny_dictFind_of hkey hob hdb hkb ?_)))
    rw [← look k, findBy_of_findIdx?] at hy
    cases hj : fs.findIdx? fun e => (strKind prog w).is k e.key with
    | none => rw [hj] at hy; cases hy
    | some j =>
      obtain ⟨hjlt, _, _⟩ := Array.findIdx?_eq_some_iff_getElem.mp hj
      rw [hj] at hy
      have hy' : fs[j].val = y := by simpa [Array.getElem?_eq_getElem hjlt] using hy
      refine wpAny_bind (wpAny_dictEntries hob hdb ?_)
      rw [Array.getElem?_eq_getElem hjlt]
      rw [← hval, ← hy'] at he
      refine wpAny_holding (he _ _ ?_)
      show wpAny _ _ (if (!true) = true then _ else _) _ _ _
      rw [if_neg (by decide)]
      refine wpAny_bind (wpAny_dictEpoch hoa hda ?_)
      rw [if_neg (by simp)]
      exact wpAny_pure ⟨rfl, rfl, fun i hi => hr i (List.mem_cons_of_mem _ hi)⟩
  · rintro q s' ⟨rfl, rfl, _⟩
    exact wpAny_pure h
theorem dict_eqT {a b : Addr} {ka kb : List (Str × Value)} {Q : Value → Shared → Prop} (ha : (a == sysModules) = false) (hb : (b == sysModules) = false)
    (da : s.heap.DictOf (strKind prog w) a ka) (db : s.heap.DictOf (strKind prog w) b kb) (hn : ka.length = kb.length) (hu : A.units < cLine)
    (hits : ∀ (i : Nat) k v, ka[i]? = some (k, v) → ∃ y, valueAt kb k = some y ∧ EqT prog w A.in1 s v y) (h : Q (.bool true) s) : wpAny (model prog w) A (richCompare .Eq (.ref a) (.ref b)) Q E s := by
  refine wpAny_richCompare_same_room (op := .Eq) da.typeIs db.typeIs PySem.F.slot_dict_eq (wpAny_call_entry PySem.F.slot_dict_eq da.typeIs PySem.F.entry_dict_eq ?_ (PySem.F.args_dict_eq_2 _ _)) hu
  show wpAny _ _ (Builtin.Dict.dictSlotArgs "__eq__" ⟨[.ref a, .ref b], []⟩ >>= _) _ _ s
  refine wpAny_bind ?_
  unfold Builtin.Dict.dictSlotArgs
  refine wpAny_bind (wpAny_notOrdered_dict da.typeIs ?_)
  show wpAny _ _ (pure (Value.ref a, Value.ref b)) _ _ s
  refine wpAny_pure ?_
  refine wpAny_bind (wpAny_isInstance (T := "dict") db.typeIs PySem.F.sub_dict_dict ?_)
  simp only [Bool.not_true, Bool.false_eq_true, if_false]
  refine wpAny_bind (wpAny_pure (wpAny_bind (wpAny_pure ?_)))
  refine wpAny_bind (samePairsT ha hb da db hn hits ?_)
  exact wpAny_pure ⟨_, rfl, (fun x => nomatch x), h⟩
theorem dict_neT {a b : Addr} {ka kb : List (Str × Value)} {Q : Value → Shared → Prop} (ha : (a == sysModules) = false) (hb : (b == sysModules) = false)
    (da : s.heap.DictOf (strKind prog w) a ka) (db : s.heap.DictOf (strKind prog w) b kb) (hn : ka.length = kb.length) (hu : A.units < cLine)
    (hits : ∀ (i : Nat) k v, ka[i]? = some (k, v) → ∃ y, valueAt kb k = some y ∧ EqT prog w A.in1 s v y) (h : Q (.bool false) s) : wpAny (model prog w) A (compareOp .NotEq (.ref a) (.ref b)) Q E s := by
  refine wpAny_richCompare_same_room (op := .NotEq) da.typeIs db.typeIs PySem.F.slot_dict_ne (wpAny_call_entry PySem.F.slot_dict_ne da.typeIs PySem.F.entry_dict_ne ?_ (PySem.F.args_dict_ne_2 _ _)) hu
  show wpAny _ _ (Builtin.Dict.dictSlotArgs "__ne__" ⟨[.ref a, .ref b], []⟩ >>= _) _ _ s
  refine wpAny_bind ?_
  unfold Builtin.Dict.dictSlotArgs
  refine wpAny_bind (wpAny_notOrdered_dict da.typeIs ?_)
  show wpAny _ _ (pure (Value.ref a, Value.ref b)) _ _ s
  refine wpAny_pure ?_
  refine wpAny_bind (wpAny_isInstance (T := "dict") db.typeIs PySem.F.sub_dict_dict ?_)
  simp only [Bool.not_true, Bool.false_eq_true, if_false]
  refine wpAny_bind (wpAny_pure (wpAny_bind (wpAny_pure ?_)))
  refine wpAny_bind (samePairsT ha hb da db hn hits ?_)
  exact wpAny_pure ⟨_, rfl, (fun x => nomatch x), h⟩
end

/-- trees that Python holds for equal (as far as needed here) -/
inductive DEq : Nat → D → D → Prop
  | int (n i) : DEq n (.int i) (.int i)
  | str (n x) : DEq n (.str x) (.str x)
  | tup2 {n a a' b b'} : DEq n a a' → DEq n b b' → DEq (n + 1) (.tup [a, b]) (.tup [a', b'])
  | tup5 {n a a' b b' c c' d d' e e'} : DEq n a a' → DEq n b b' → DEq n c c' → DEq n d d' → DEq n e e' → DEq (n + 1) (.tup [a, b, c, d, e]) (.tup [a', b', c', d', e'])
  | dct {n xs ys} (f : Str → D) : xs.length = ys.length → (∀ k x, (k, x) ∈ xs → dget ys k = some (f k)) → (∀ k x, (k, x) ∈ xs → DEq n x (f k)) → DEq (n + 1) (.dct xs) (.dct ys)
section
variable {prog : Program} {w : World} {ex : List Addr}
theorem RdAll.unc {h : Heap} {us : List Value} {a : D} {xs : List D} {p : Prop} (r : RdAll prog w ex h us (a :: xs)) (k : ∀ u us', RdAll prog w ex h us' xs → Rd prog w ex h u a → us = u :: us' → p) : p := by cases r with | cons x r => exact k _ _ r x rfl
theorem RdAll.two {h : Heap} {us : List Value} {a b : D} (r : RdAll prog w ex h us [a, b]) : ∃ u v, us = [u, v] ∧ Rd prog w ex h u a ∧ Rd prog w ex h v b := by
  refine r.unc fun u _ r' a₁ e₁ => r'.unc fun v _ r'' a₂ e₂ => ?_
  cases r''; subst e₂; exact (in_eeaa u v e₁ a₁ a₂)
theorem RdAll.five {h : Heap} {us : List Value} {a b c d e : D} (r : RdAll prog w ex h us [a, b, c, d, e]) :
    ∃ u₁ u₂ u₃ u₄ u₅, us = [u₁, u₂, u₃, u₄, u₅] ∧ Rd prog w ex h u₁ a ∧ Rd prog w ex h u₂ b ∧ Rd prog w ex h u₃ c ∧ Rd prog w ex h u₄ d ∧ Rd prog w ex h u₅ e := by
  refine r.unc fun u₁ _ r' a₁ e₁ => r'.unc fun u₂ _ r'' a₂ e₂ => r''.unc fun u₃ _ r₃ a₃ e₃ => ?_
  refine el_eeaa r₃.two fun u₄ u₅ e₄ a₄ a₅ => ?_
  exact (in_eeeeeaaaaa u₁ u₂ u₃ u₄ u₅ (by rw [e₁, e₂, e₃, e₄]) a₁ a₂ a₃ a₄ a₅)
theorem RdKv.mem {h : Heap} {kv : List (Str × Value)} {xs : List (Str × D)} (r : RdKv prog w ex h kv xs) {i : Nat} {k : Str} {v : Value} (e : kv[i]? = some (k, v)) : ∃ d, (k, d) ∈ xs ∧ Rd prog w ex h v d := by
  induction i generalizing kv xs with
  | zero =>
    cases r with
    | nil => simp at e
    | cons a r => simp at e; obtain ⟨rfl, rfl⟩ := e; exact ⟨_, List.mem_cons_self .., a⟩
  | succ i ih =>
    cases r with
    | nil => simp at e
    | cons a r =>
      refine el_ea (ih r (by simpa using e)) fun d h1 h2 => ?_
      exact ⟨d, List.mem_cons_of_mem _ h1, h2⟩
theorem eqT_of {n : Nat} {d d' : D} (q : DEq n d d') : ∀ {s : Shared} {u v : Value} {A : Around}, Rd prog w ex s.heap u d → Rd prog w ex s.heap v d' → A.units + n < cLine → EqT prog w A s u v := by
  induction q with
  | int n i => intro s u v A hu hv _; cases hu; cases hv; exact .int _ _ _
  | str n i => intro s u v A hu hv _; cases hu; cases hv; exact .str _ _ _
  | @tup2 n _ _ _ _ _ _ ih₁ ih₂ =>
    intro s u v A hu hv hA
    have hA' : A.in1.units + n < cLine := by show A.units + 1 + n < cLine; lia
    apply Rd.tupE hu; intro _ _ _ ht hr; apply Rd.tupE hv; intro _ _ _ ht' hr'
    · skip
      refine el_eeaa (hr.two) fun _ _ zq2 a₁ a₂ => ?_; subst zq2
      refine el_eeaa (hr'.two) fun _ _ zq2 b₁ b₂ => ?_; subst zq2
      refine .refs fun _ E Q hq => tuple_eqT ht ht' rfl (by lia) (fun p hp => ?_) hq
      simp at hp
      rcases hp with rfl | rfl
      · exact ih₁ a₁ b₁ hA'
      · exact ih₂ a₂ b₂ hA'
  | @tup5 n _ _ _ _ _ _ _ _ _ _ _ _ _ _ _ ih₁ ih₂ ih₃ ih₄ ih₅ =>
    intro s u v A hu hv hA
    have hA' : A.in1.units + n < cLine := by show A.units + 1 + n < cLine; lia
    apply Rd.tupE hu; intro _ _ _ ht hr; apply Rd.tupE hv; intro _ _ _ ht' hr'
    · skip
      refine el_eeeeeaaaaa (hr.five) fun _ _ _ _ _ zq5 a₁ a₂ a₃ a₄ a₅ => ?_; subst zq5
      refine el_eeeeeaaaaa (hr'.five) fun _ _ _ _ _ zq5 b₁ b₂ b₃ b₄ b₅ => ?_; subst zq5
      refine .refs fun _ E Q hq => tuple_eqT ht ht' rfl (by lia) (fun p hp => ?_) hq
      simp at hp
      rcases hp with rfl | rfl | rfl | rfl | rfl
      · exact ih₁ a₁ b₁ hA'
      · exact ih₂ a₂ b₂ hA'
      · exact ih₃ a₃ b₃ hA'
      · exact ih₄ a₄ b₄ hA'
      · exact ih₅ a₅ b₅ hA'
  | @dct n _ _ f hl hg _ ih =>
    intro s u v A hu hv hA
    have hA' : A.in1.units + n < cLine := by show A.units + 1 + n < cLine; lia
    apply Rd.dctE hu; intro _ _ _ ns hd hr; apply Rd.dctE hv; intro _ _ _ ns' hd' hr'
    · skip
      refine .refs fun _ E Q hq => dict_eqT (by simpa using ns) (by simpa using ns') hd hd' (by rw [hr.length, hr'.length]; exact hl) (by lia) (fun i k v e => ?_) hq
      refine el_ea (hr.mem e) fun d h1 h2 => ?_
      rcases hr'.get (k := k) with ⟨h3, _⟩ | ⟨d', y, h3, h4, h5⟩
      · rw [hg k d h1] at h3; cases h3
      · rw [hg k d h1] at h3; cases h3
        exact ⟨y, h4, ih k d h1 h2 h5 hA'⟩
end
section
variable {prog : Program} {w : World} {h₀ : Heap} {fs as : List Addr} {σ : List MO} {n : Nat} {K : Vl → List MO → Prop} {gl : Str → Option Value}
/-- d != e, where they are equal -/
theorem WO.neD (G : Glb h₀ gl) {a b : Vl} {xs ys : List (Str × D)} (ha : IsD σ a xs) (hb : IsD σ b ys) (q : DEq 8 (.dct xs) (.dct ys)) (h : K (.d (.bool false)) σ) : WO prog w h₀ n [a, b] (bin2 (compareOp .NotEq)) σ K := by
  refine two_of fun A fs as s u₁ u₂ hA R V₁ V₂ => ?_
  refine el_eeaaa (ha.at G R V₁) fun a kv zq2 hs hdd hr => ?_; subst zq2
  refine el_eeaaa (hb.at G R V₂) fun b kv' zq2 hs' hdd' hr' => ?_; subst zq2
  have hu := hA.units
  cases q with | dct f hl hg ih =>
    refine dict_neT hs hs' hdd hdd' (by rw [hr.length, hr'.length]; exact hl) (by lia) (fun i k v e => ?_) (.at R (.bool _) h)
    refine el_ea (hr.mem e) fun d h1 h2 => ?_
    rcases hr'.get (k := k) with ⟨h3, _⟩ | ⟨d', y, h3, h4, h5⟩
    · rw [hg k d h1] at h3; cases h3
    · rw [hg k d h1] at h3; cases h3
      exact ⟨y, h4, eqT_of (ih k d h1) h2 h5 (by show A.units + 1 + 7 < cLine; lia)⟩
/-- lists of texts: !=, where they are equal -/
theorem WO.neLs {ys : List Str} (h : K (.d (.bool false)) σ) : WO prog w h₀ n [.d (.lst (ys.map .str)), .d (.lst (ys.map .str))] (bin2 (compareOp .NotEq)) σ K := by
  refine two_of fun A fs as s u₁ u₂ hA R V₁ V₂ => ?_
  have hu := hA.units
  apply Rd.lstE V₁; intro l us na hx hr; apply Rd.lstE V₂; intro b vs nb hy hq
  · skip
    refine el_eaae (id hx) fun zq0 ho hc k1 hd => ?_; obtain ⟨cls, dd, data, sl⟩ := zq0
    refine el_eaae (id hy) fun zq0 ho2 hc2 k2 hd2 => ?_; obtain ⟨cls2, dd2, data2, sl2⟩ := zq0
    simp only at hc hd hc2 hd2
    subst hc hd hc2 hd2
    have hsz : us.toArray.size = vs.toArray.size := by rw [List.size_toArray, List.size_toArray, hr.length, hq.length]
    refine richCompare_meets_room (op := .NotEq) ⟨_, ho, rfl⟩ ⟨_, ho2, rfl⟩ PySem.F.slot_list_ne PySem.F.entry_list_ne (PySem.F.args_list_ne_2 _ _) (SeqAt.list_neAt l b us.toArray vs.toArray k1 k2 dd dd2 sl sl2 hsz fun _ => true)
      ⟨ho, ho2, fun j h1 h2 => ?_, ?_⟩ (by lia)
    · have h1' : j < (ys.map D.str).length := by rw [← hr.length]; simpa using h1
      have e := List.getElem?_eq_getElem h1'
      refine el_ea (hr.get e) fun u e1 r1 => ?_
      refine el_ea (hq.get e) fun v e2 r2 => ?_
      have e1' : us.toArray[j] = u := by
        rw [List.getElem?_eq_getElem (by simpa using h1)] at e1
        simpa using e1
      have e2' : vs.toArray[j] = v := by
        rw [List.getElem?_eq_getElem (by simpa using h2)] at e2
        simpa using e2
      rw [e1', e2']
      rw [List.getElem_map] at r1 r2
      cases r1 with | str _ t => cases r2 with | str _ t' =>
        have := SeqAt.EqAt.str_str (A := A.in1) (s := s) (ys[j]'(by simpa using h1')) t (ys[j]'(by simpa using h1')) t'
        simpa using this
    · have : (!(List.range us.toArray.size).all fun _ => true) = false := by simp
      show Value.bool _ ≠ Value.notImplemented ∧ _
      rw [this]
      exact ⟨(fun x => nomatch x), .at R (.bool _) h⟩
end
end Mine
end
section
namespace Mine
section
variable {prog : Program} {w : World} {h₀ : Heap} {fs as as' : List Addr} {σ σ' : List MO} {s s' : Shared} {k n : Nat} {sc : Scope} {m : List (Str × Vl)} {K K' : Fl → List (Str × Vl) → List MO → Prop} {env : Env}
theorem PostS.mono {f : Flow} (p : PostS prog w h₀ env k fs as s K f s') (h : ∀ fl m σ, K fl m σ → K' fl m σ) : PostS prog w h₀ env k fs as s K' f s' := by
  refine el_eeeeaaaaa (p) fun fl m' a' σ' h1 h2 h3 h4 h5 h6 => ?_; try clear p
  exact (PostS.mk (fl := fl) (m' := m') (as' := a') (σ' := σ') h1 h2 h3 h4 h5 (h _ _ _ h6))
theorem WS.mono {ss : List Stmt} (x : WS prog w h₀ n sc k m ss σ K) (h : ∀ fl m σ, K fl m σ → K' fl m σ) : WS prog w h₀ n sc k m ss σ K' :=
  fun A env fs as s hA hE R F hl => wpAny_mono (x A env fs as s hA hE R F hl) (fun _ _ p => p.mono h) fun _ _ x => x
theorem WN.mono {x : Str} {v : Vl} (y : WN prog w h₀ sc k m x v σ K) (h : ∀ fl m σ, K fl m σ → K' fl m σ) : WN prog w h₀ sc k m x v σ K' :=
  fun A env fs as s u hE R F hl V => wpAny_mono (y A env fs as s u hE R F hl V) (fun _ _ p => p.mono h) fun _ _ x => x
/-- a for loop with an invariant, whose body runs to its end -/
theorem WL.inv {x : Str} {body : List Stmt} (I : List Vl → List (Str × Vl) → List MO → Prop)
    (step : ∀ v vs m σ, I (v :: vs) m σ → WN prog w h₀ sc k m x v σ fun _ m₁ σ₁ => WS prog w h₀ n sc k m₁ body σ₁ fun fl m₂ σ₂ => fl = .next ∧ I vs m₂ σ₂)
    (fin : ∀ m σ, I [] m σ → K .next m σ) : ∀ (vs : List Vl) (m : List (Str × Vl)) (σ : List MO), I vs m σ → WL prog w h₀ n sc k x body vs m σ K
  | [], m, σ, h => fin m σ h
  | v :: vs, m, σ, h => WN.mono (step v vs m σ h) fun _ m₁ σ₁ h₁ => WS.mono h₁ fun fl m₂ σ₂ h₂ => by
    obtain ⟨rfl, h₂⟩ := h₂
    exact WL.inv I step fin vs m₂ σ₂ h₂
theorem WLp.inv {x y : Str} {body : List Stmt} (I : List (Str × D) → List (Str × Vl) → List MO → Prop)
    (step : ∀ a d vs m σ, I ((a, d) :: vs) m σ → WN prog w h₀ sc k m x (.d (.str a)) σ fun _ m₁ σ₁ => WN prog w h₀ sc k m₁ y (.d d) σ₁ fun _ m₁ σ₁ => WS prog w h₀ n sc k m₁ body σ₁ fun fl m₂ σ₂ => fl = .next ∧ I vs m₂ σ₂)
    (fin : ∀ m σ, I [] m σ → K .next m σ) : ∀ (vs : List (Str × D)) (m : List (Str × Vl)) (σ : List MO), I vs m σ → WLp prog w h₀ n sc k x y body vs m σ K
  | [], m, σ, h => fin m σ h
  | (a, d) :: vs, m, σ, h => WN.mono (step a d vs m σ h) fun _ m₁ σ₁ h₁ => WN.mono h₁ fun _ m₁ σ₁ h₁ => WS.mono h₁ fun fl m₂ σ₂ h₂ => by
    obtain ⟨rfl, h₂⟩ := h₂
    exact WLp.inv I step fin vs m₂ σ₂ h₂
theorem fzm_get {i : Nat} {d : D} {x : Str} {v : Vl} : ∀ {m : List (Str × Vl)}, m.lookup x = some v → (fzm i d m).lookup x = some (fz i d v)
  | [], h => by simp at h
  | (y, v₀) :: r, h => by
    have hc : fzm i d ((y, v₀) :: r) = (y, fz i d v₀) :: fzm i d r := rfl
    rw [lookup_cons_eq] at h
    rw [hc, lookup_cons_eq]
    split at h
    · rename_i q; cases h; rw [if_pos q]
    · rename_i q; rw [if_neg q]; exact fzm_get h
theorem fzm_m {i : Nat} {d : D} {x : Str} {m : List (Str × Vl)} (h : m.lookup x = some (.m i)) : (fzm i d m).lookup x = some (.d d) := by
  rw [fzm_get h]; simp [fz]
theorem fzm_d {i : Nat} {d y : D} {x : Str} {m : List (Str × Vl)} (h : m.lookup x = some (.d y)) : (fzm i d m).lookup x = some (.d y) := by
  rw [fzm_get h]; rfl
end
end Mine
end
section
namespace Mine
section
variable {prog : Program} {w : World} {h₀ : Heap} {fs as as' : List Addr} {σ σ' : List MO} {s s' : Shared} {k n : Nat} {sc : Scope} {m : List (Str × Vl)} {K : Vl → List MO → Prop} {env : Env}
theorem WO.sumT {ns : List Int} (h : K (.d (.int ns.sum)) σ) : WO prog w h₀ n [.d (.tup (ns.map .int))] (fun us => call (.builtin "sum") us) σ K := by
  intro A fs as s us hA R V
  apply VRs.one V; intro _ V₁
  · skip
    apply Rd.tupE V₁; intro l us na hl hr
    · skip
      refine el_ea (ints_of hr) fun ps zq1 zq2 => ?_; subst zq1; subst zq2
      have hl' : s.heap.IsTuple l (intItems ps.toArray) := by
        have : intItems ps.toArray = (ps.map fun p => Value.int p.1 p.2).toArray := by simp [intItems]
        rw [this]; exact hl
      refine ktm_sumG hA.handled hl' fun h' tk t' hk => ?_
      have e : preSum (numAt ps.toArray) ps.toArray.size = (ps.map (·.1)).sum := by
        rw [preSum_eq, List.take_of_length_le (by simp)]
      first
        | (rw [e]; exact .kept (v := .d (.int _)) R hk R.bare rfl (Rd.int _ _) h)
        | exact .kept (v := .d (.int _)) R hk R.bare rfl (Rd.int _ _) h
/-- a display of one pair -/
theorem WE.dict1 {ke ve : Expr} {p : Pos} (h : WE prog w h₀ n sc m ke σ fun kv σ₁ => ∃ x, kv = .d (.str x) ∧ WE prog w h₀ n sc m ve σ₁ fun vv σ₂ => ∃ d, vv = .d d ∧ (∀ y ∈ σ₂, y.bd ≤ σ₂.length) ∧ K (.m σ₂.length) (σ₂ ++ [.dict [(x, d)]])) :
    WE prog w h₀ n sc m (.Dict [some ke] [ve] p) σ K := by
  intro A env fs as s hA hE R F
  have R₀ : Rel prog w h₀ (s.heap.objs.size :: fs) as σ { s with heap := s.heap.push { cls := .type "dict", data := .dict #[] } } := R.newIt rfl
  have hk₀ : ∀ b o, s.heap.get? b = some o → (s.heap.push { cls := .type "dict", data := .dict #[] }).get? b = some o := fun _ _ e => Heap.get?_push_of_some _ e
  have st₀ : Stp [] as.length as s as { s with heap := s.heap.push { cls := .type "dict", data := .dict #[] } } := Stp.keptAll hk₀ rfl
  have F₀ : FrameOk prog w env m (s.heap.objs.size :: fs) as (s.heap.push { cls := .type "dict", data := .dict #[] }) := F.widen (s' := { s with heap := s.heap.push { cls := .type "dict", data := .dict #[] } }) (noObj _) st₀ R.nd
  refine wpAny_Dict_pairs (knd := strKind prog w) (pairs := [(eval ke env, do let x ← eval ve env; standAt p; pure x)]) rfl (by simp) (by simp) ?_
  unfold evalPairs
  generalize hDd : s.heap.objs.size = DD at *
  have hD : s.heap.get? DD = none := by rw [← hDd]; exact noObj _
  have ho : ∀ b ∈ own env, b ∈ fs := own_sub F
  refine wpAny_bind (wpAny_mono (h A env (DD :: fs) as _ hA hE R₀ F₀) (fun u s₁ zf34 => PostE.elq1 zf34 fun x a₁ σ₁ st R₁ V k₁ => ?_) fun _ _ x => x)

  obtain ⟨t, rfl⟩ := V.str_inv
  have F₁ := F₀.stepE R₀.nd st
  refine wpAny_bind (wpAny_holding (wpAny_bind (wpAny_mono (k₁ A env (DD :: fs) a₁ s₁ hA hE R₁ F₁) (fun u₂ s₂ zf38 => PostE.elq1 zf38 fun d a₂ σ₂ st₂ R₂ V₂ zk => el_a zk fun hbd k₂ => ?_) fun _ _ x => x)))

  refine wpAny_bind (wpAny_standAt (wpAny_pure ?_))
  refine wpAny_bind (wpAny_holding (wpAny_pure (wpAny_pure ?_)))
  have s02 := (st₀.transE st).transE st₂
  have hDa : DD ∉ as := fun q => by obtain ⟨o, e⟩ := R.there DD (List.mem_append_left _ q); rw [hD] at e; cases e
  have hDa₁ : DD ∉ a₁ := nd_out R₁.nd (List.mem_cons_self ..)
  have hd₀ : (s.heap.push { cls := .type "dict", data := .dict #[] }).DictOf (strKind prog w) DD [] := by rw [← hDd]; exact Heap.DictOf.new _
  have hd₂ : s₂.heap.DictOf (strKind prog w) DD [] := dictOf_at hd₀ fun o e => st₂.kept DD o hDa₁ (fun q => nomatch q) (st.kept DD o hDa (fun q => nomatch q) e)
  refine ⟨[(x, u₂)], ⟨strKind_is prog w x t, rfl, trivial⟩, hd₂, fun h' hd' hs' => ?_⟩
  have ht : ∃ o, h'.get? DD = some o := dictOf_there hd'
  have R₃ : Rel prog w h₀ (DD :: fs) a₂ σ₂ { s₂ with heap := h', toks := s₂.toks + [(Value.str x t, u₂)].length } := R₂.framed (List.mem_cons_self ..) hs' ht
  have hDn : DD ∉ a₂ ++ fs := fun q => by
    have n2 := R₂.nd
    rcases List.mem_append.mp q with q | q
    · exact (List.nodup_append.mp n2).2.2 DD q DD (List.mem_cons_self ..) rfl
    · exact (List.nodup_cons.mp (List.nodup_append.mp n2).2.1).1 q
  have R₄ := R₃.adopt (x := .dict [(x, d)]) ⟨[(x, u₂)], hd', .cons (Rd.move (fun b o hb e => ⟨(hs'.2 b fun q => hb (by rw [q]; simp)).trans e, fun q => hb (by simpa using q)⟩) V₂) .nil⟩ hbd
  have s03 : Stp [] as.length as s a₂ { s₂ with heap := h', toks := s₂.toks + [(Value.str x t, u₂)].length } :=
    ⟨s02.pre, s02.fresh, fun b o h1 h2 e => (hs'.2 b fun q => by subst q; rw [hD] at e; cases e).trans (s02.kept b o h1 h2 e), fun b o e => by
      obtain ⟨o', e'⟩ := s02.thr b o e
      exact ⟨o', (hs'.2 b fun q => by subst q; rw [hD] at e; cases e).trans e'⟩, s02.os⟩
  exact (in_eeeaaa (.m σ₂.length) (a₂ ++ [DD]) _ (s03.adopt hD) R₄ ⟨DD, by rw [← R₂.len, List.getElem?_append_right (Nat.le_refl _)]; simp, rfl⟩ k₂)
theorem WC.inv {x : Str} {elt : Expr} {Kl : List D → List MO → Prop} (I : List Vl → List MO → List D → Prop)
    (step : ∀ v vs σ acc, I (v :: vs) σ acc → WE prog w h₀ n sc ((x, v) :: m) elt σ fun r σ₁ => ∃ y, r = .d y ∧ acc.length ≤ 1000 ∧ I vs σ₁ (acc ++ [y]))
    (fin : ∀ σ acc, I [] σ acc → Kl acc σ) : ∀ (vs : List Vl) (σ : List MO) (acc : List D), I vs σ acc → WC prog w h₀ n sc x elt m vs σ acc Kl
  | [], σ, acc, h => fin σ acc h
  | v :: vs, σ, acc, h => WE.mono (step v vs σ acc h) fun r σ₁ zf65 => el_eaa zf65 fun y e hl h₁ => ⟨y, e, hl, WC.inv I step fin vs σ₁ _ h₁⟩
theorem WCd.inv {x : Str} {kx vx : Expr} {Kl : List (Str × D) → List MO → Prop} (I : List Vl → List MO → List (Str × D) → Prop)
    (step : ∀ v vs σ acc, I (v :: vs) σ acc → WE prog w h₀ n sc ((x, v) :: m) kx σ fun r σ₁ => ∃ ky, r = .d (.str ky) ∧ acc.length ≤ 1000 ∧ WE prog w h₀ n sc ((x, v) :: m) vx σ₁ fun r₂ σ₂ => ∃ y, r₂ = .d y ∧ I vs σ₂ (dset acc ky y))
    (fin : ∀ σ acc, I [] σ acc → Kl acc σ) : ∀ (vs : List Vl) (σ : List MO) (acc : List (Str × D)), I vs σ acc → WCd prog w h₀ n sc x kx vx m vs σ acc Kl
  | [], σ, acc, h => fin σ acc h
  | v :: vs, σ, acc, h => WE.mono (step v vs σ acc h) fun r σ₁ zf70 => el_eaa zf70 fun ky e hl h₁ => ⟨ky, e, hl, WE.mono h₁ fun r₂ σ₂ zf70 => el_ea zf70 fun y e₂ h₂ => ⟨y, e₂, WCd.inv I step fin vs σ₂ _ h₂⟩⟩
end
end Mine
end
section
namespace Mine
noncomputable def reGo : Nat → Sre.M → Option Sre.M
  | 0, _ => none
  | n + 1, m => if (m.runFor Builtin.Re.reTurnSteps).outcome.isSome then some (m.runFor Builtin.Re.reTurnSteps) else reGo n (m.runFor Builtin.Re.reTurnSteps)
/-- the next finding: its beginning and its end -/
noncomputable def reFind (code text : Array Nat) (start : Nat) (must : Bool) : Option (Option (Nat × Nat)) :=
  match reGo 200 (Sre.forSearch code text 0 start text.size must) with
  | some m => match m.outcome with
    | some .matched => some (some (m.start, m.handed))
    | some .failed => some none
    | _ => none
  | none => none
noncomputable def piece (text : Array Nat) (b e : Nat) : Str := ⟨text.extract b e⟩
/-- the pieces that sub joins -/
noncomputable def rePieces (code text : Array Nat) (repl : Str) : Nat → Nat → Bool → List Str → Option (List Str)
  | 0, _, _, _ => none
  | n + 1, at_, must, ps => match reFind code text at_ must with
    | none => none
    | some none => some (if at_ < text.size then ps ++ [piece text at_ text.size] else ps)
    | some (some (b, e)) => rePieces code text repl n e (e == b) ((if at_ < b then ps ++ [piece text at_ b] else ps) ++ [repl])
noncomputable def code1 : Array Nat := #[14, 4, 0, 1, 1, 6, 1, 16, 46, 1]
noncomputable def code2 : Array Nat := #[14, 9, 4, 1, 2, 16, 10, 16, 13, 0, 7, 7, 16, 13, 16, 10, 15, 18, 5, 16, 10, 15, 13, 11, 16, 13, 5, 5, 0, 16, 10, 1, 15, 2, 0, 1]

/-- a compiled pattern of texts, without groups -/
structure IsPat (h : Heap) (a : Addr) (code : Array Nat) : Prop where
  ex : ∃ o fs c oc items n, h.get? a = some o ∧ o.cls = .type "re.Pattern" ∧ o.dict = none ∧ o.data = .fields fs ∧ fs.getD 2 .none = .int 0 0 ∧ fs.getD 5 .none = .ref c ∧ fs.getD 6 .none = .int 0 0 ∧
    h.get? c = some oc ∧ oc.data = .seq items n ∧ (items.map Builtin.Re.reRawOf).map (·.toNat) = code
section
variable {prog : Program} {w : World} {M : Model} {A : Around} {E : Value → Shared → Prop} {s : Shared}
theorem IsPat.keeps {h h' : Heap} {a : Addr} {code : Array Nat} (x : IsPat h a code) (hk : ∀ b o, h.get? b = some o → h'.get? b = some o) : IsPat h' a code := by
  refine el_eeeeeeaaaaaaaa (x.ex) fun o fs c oc items n h1 h2 h3 h4 h5 h6 h7 h8 h9 => ?_
  exact ⟨o, fs, c, oc, items, n, hk _ _ h1, h2, h3, h4, h5, h6, h7, hk _ _ h8, h9⟩
theorem wpAny_reDrive {Q : Sre.M → Shared → Prop} : ∀ (fuel turns : Nat) (m m' : Sre.M), fuel ≤ turns → reGo fuel m = some m' → Q m' s → wpAny M A (Builtin.Re.reDrive turns m) Q E s
  | 0, _, _, _, _, e, _ => by cases e
  | fuel + 1, turns, m, m', hf, e, h => by
    obtain ⟨t, rfl⟩ : ∃ t, turns = t + 1 := ⟨turns - 1, by lia -abstractProof⟩
    unfold reGo at e
    unfold Builtin.Re.reDrive
    split at e
    · rename_i q
      cases e
      simp only [q, if_true]
      exact wpAny_pure h
    · rename_i q
      simp only [q, if_false, Bool.false_eq_true]
      exact wpAny_bind (wpAny_rule (wpAny_reDrive fuel t _ m' (by lia -abstractProof) e h))
theorem wpAny_reRun {Q : Option Sre.M → Shared → Prop} {m m' : Sre.M} {r : Option Sre.M} (e : reGo 200 m = some m') (hr : (m'.outcome = some .matched ∧ r = some m') ∨ (m'.outcome = some .failed ∧ r = none)) (h : Q r s) : wpAny M A (Builtin.Re.reRunToEnd m) Q E s := by
  unfold Builtin.Re.reRunToEnd
  refine wpAny_bind (wpAny_reDrive 200 (2 ^ 64) m m' (by decide) e ?_)
  refine wpAny_bind (wpAny_forIn_list _ (fun _ _ s' => s' = s) _ ?_ ?_ _ _ rfl)
  · rintro x rest b s' rfl
    split
    · exact wpAny_bind (wpAny_rule (wpAny_pure rfl))
    · exact wpAny_pure rfl
  · rintro b s' rfl
    rcases hr with ⟨h1, rfl⟩ | ⟨h1, rfl⟩
    · rw [h1]; exact wpAny_pure h
    · rw [h1]; exact wpAny_pure h
noncomputable def target (a : Addr) (string : Value) (code text : Array Nat) : Builtin.Re.ReTarget := { pattern := .ref a, string, code, text, kind := 0, groups := 0, pos := 0, lim := text.size }
theorem wpAny_reWhole {Q : Builtin.Re.ReTarget → Shared → Prop} {a : Addr} {x : Str} {t : Tok} {code : Array Nat} (P : IsPat s.heap a code) (h : Q (target a (.str x t) code x.cps) s) : wpAny (model prog w) A (Builtin.Re.reWholeTarget (.ref a) (.str x t)) Q E s := by
  refine el_eeeeeeaaaaaaaaa (P.ex) fun o fs c oc items n h1 h2 h3 h4 h5 h6 h7 h8 h9 h10 => ?_
  unfold Builtin.Re.reWholeTarget
  refine wpAny_bind (wpAny_fieldsOf h1 h4 ?_)
  refine wpAny_bind (m := Builtin.Re.reTextOf (.str x t)) ?_
  show wpAny _ _ (pure (x.cps, 0)) _ _ _
  refine wpAny_pure ?_
  simp only [h7, h5, h6, Builtin.Re.reRawNat]
  show wpAny _ _ (Builtin.Re.reNoCollectionInside (.str x t) 0 >>= _) _ _ _
  refine wpAny_bind (wpAny_pure ?_)
  refine wpAny_bind (m := Builtin.Re.reRawItems (.ref c)) ?_
  unfold Builtin.Re.reRawItems
  refine wpAny_bind (wpAny_seqItems h8 h9 (wpAny_pure (wpAny_pure ?_)))
  have e : (Array.map (fun x => x.toNat) (Array.map Builtin.Re.reRawOf ((some items).getD #[]))) = code := h10
  rw [e]
  exact h
end
end Mine
end
section
namespace Mine
set_option maxRecDepth 100000
theorem entry_sub : entryFor table "re.Pattern.sub" = some Builtin.«re.Pattern.sub» := entryFor_of_tree (by kernel_rfl)
theorem entry_sub_loop : entryFor table "re.Pattern.sub.loop" = some Builtin.«re.Pattern.sub.loop» := entryFor_of_tree (by kernel_rfl)
theorem plain_sub_loop : plainId "re.Pattern.sub.loop" = true := by decide +kernel
theorem slot_sub : Slot "re.Pattern" "sub" "re.Pattern.sub" :=
  .of (owner := "re.Pattern") (n := "sub") (by rw [typeLookup_type, builtinLookup_eq_fast]; kernel_rfl) (by decide +kernel) (by decide +kernel) (by decide +kernel)
    (by first | exact .inl (by decide +kernel) | exact .inr (by decide +kernel)) (by rw [isSubtype_type]; kernel_rfl)
theorem type_sub : typeOf (.builtin "re.Pattern.sub") = pure (.type "method_descriptor") := by show builtinType _ = _; rw [builtinType_eq_fast]; kernel_rfl
theorem args_sub (a b c : Value) : argsOk "re.Pattern.sub" ⟨[a, b, c], []⟩ := by unfold argsOk; kernel_rfl
theorem plainAttrs_pat : PlainAttrs "re.Pattern" :=
  ⟨⟨"object.__getattribute__", by rw [typeLookup_type, builtinLookup_eq_fast]; kernel_rfl, by decide +kernel⟩, by rw [typeLookup_type, builtinLookup_eq_fast]; kernel_rfl⟩
theorem str_no_call : typeLookup (.type "str") "__call__" = pure none := by rw [typeLookup_type, builtinLookup_eq_fast]; kernel_rfl
section
variable {prog : Program} {w : World} {A : Around} {E : Value → Shared → Prop} {s : Shared}
theorem strs_snoc {us : List Value} {ps : List Str} {y : Str} {t : Tok} (x : StrsAre us ps) : StrsAre (us ++ [.str y t]) (ps ++ [y]) := by
  induction x with
  | nil => exact .cons y t .nil
  | cons z u _ ih => exact .cons z u ih
theorem strs_len {us : List Value} {ps : List Str} (x : StrsAre us ps) : us.length = ps.length := by
  induction x with
  | nil => rfl
  | cons z u _ ih => simp [ih]
theorem wpAny_reSlice {text : Array Nat} {b e : Nat} {Q : Value → Shared → Prop} (h : Q (.str (piece text b e) s.toks) { s with toks := s.toks + 1 }) (hz : (piece text b e).length ≤ sizeLine) : wpAny (model prog w) A (Builtin.Re.reSlice text 0 b e) Q E s := by
  unfold Builtin.Re.reSlice
  rw [if_pos (by decide)]
  exact wpAny_mkStr h hz
theorem wpAny_push {L : Addr} {us : List Value} {u : Value} {Q : Unit → Shared → Prop} (hl : s.heap.PlainList L us.toArray) (hz : us.length ≤ 1000)
    (h : ∀ h', h'.PlainList L (us ++ [u]).toArray → Heap.SameBut L s.heap h' → Q () { s with heap := h' }) : wpAny (model prog w) A (updateSeq L (·.push u)) Q E s := by
  obtain ⟨ep, e⟩ := hl
  refine wpAny_updateSeq e rfl (h _ ⟨ep + 1, ?_⟩ (Heap.SameBut.update ..)) (by rw [List.size_toArray, sizeLine_eq]; lia -abstractProof) (by simp; rw [sizeLine_eq]; lia -abstractProof)
  rw [Heap.get?_update_self _ e rfl]
  simp [Obj.mapSeq]
noncomputable def subTail (x : Str) (L : Addr) : Sem Fin := do
  let joiner ← Builtin.Re.reSlice x.cps 0 0 0
  let l ← seqItems? (.ref L)
  if (l.getD #[]).isEmpty = true then do
    let text ← pure joiner
    ret text
  else do
    let text ← call (.builtin "str.join") [joiner, .ref L]
    ret text
theorem wpAny_subTail {x : Str} {L : Addr} {us : List Value} {out : List Str} {Q : Fin → Shared → Prop} (hs : StrsAre us out) (hne : out ≠ []) (hl : s.heap.PlainList L us.toArray) (hout : (out.map (·.length)).sum ≤ 10000)
    (h : ∀ tk t', Q (.done (.ret (.str (Txt.join "" out) t'))) { s with toks := tk }) : wpAny (model prog w) A (subTail x L) Q E s := by
  unfold subTail
  obtain ⟨ep, e⟩ := id hl
  refine wpAny_bind (wpAny_reSlice ?_ (by
    have : (piece x.cps 0 0).length = 0 := by show (x.cps.extract 0 0).size = 0; simp
    rw [this]; exact Nat.zero_le _))
  refine wpAny_bind (wpAny_seqItems (s := { s with toks := s.toks + 1 }) e rfl ?_)
  have hne' : us ≠ [] := fun q => by subst q; cases hs; exact hne rfl
  rw [if_neg (by simpa using hne')]
  have ej : piece x.cps 0 0 = "" := by
    show (⟨x.cps.extract 0 0⟩ : Str) = ⟨#[]⟩
    congr 1
    simp
  rw [ej]
  refine wpAny_bind (join_list (s := { s with toks := s.toks + 1 }) (items := us.toArray) hl.isList (by simpa using hs) ?_ fun t' k => wpAny_pure (h k t'))
  have : ("" : Str).length = 0 := rfl
  rw [this, Nat.mul_zero]; lia -abstractProof
/-- the loop of sub -/
theorem sub_loop {a L : Addr} {code : Array Nat} {x repl : Str} {t tr : Tok} {R : Result → Shared → Prop} {out : List Str} (hx : x.length ≤ 100) (hr : repl.length ≤ 100) (hout : (out.map (·.length)).sum ≤ 10000) {h₁ : Heap} (hp₁ : IsPat h₁ a code) (hL₁ : h₁.get? L = none) :
    ∀ (fuel at_ : Nat) (must : Bool) (n : Int) (ps : List Str) (us : List Value) (s : Shared), rePieces code x.cps repl fuel at_ must ps = some out → out ≠ [] → ps.length + 2 * fuel ≤ 500 → StrsAre us ps → s.heap.PlainList L us.toArray → (∀ b o, h₁.get? b = some o → s.heap.get? b = some o) →
      (∀ h' tk t', (∀ b o, b ≠ L → s.heap.get? b = some o → h'.get? b = some o) → R (.ok (.ret (.str (Txt.join "" out) t'))) { s with heap := h', toks := tk }) →
      wpAny (model prog w) A.in1 (Builtin.«re.Pattern.sub.loop» ⟨[.ref a, .str x t, .str repl tr, rawInt 0, rawInt 0, rawInt n, rawInt at_, rawInt at_, .bool must, .ref L, .bool false], []⟩)
        (fun fin s' => match fin with | .done f => R (.ok f) s' | .again c' => c'.quiet = true ∧ codeAny (model prog w) A c' R s') (fun e s' => R (.error e) s') s := by
  intro fuel
  induction fuel with
  | zero => intro _ _ _ _ _ _ e; cases e
  | succ fuel ih =>
    intro at_ must n ps us s e hne hn hs hl hp hR
    unfold rePieces at e
    unfold Builtin.«re.Pattern.sub.loop»
    dsimp only [rawInt]
    refine wpAny_bind (wpAny_reWhole (hp₁.keeps hp) ?_)
    rw [if_pos (by decide)]
    refine wpAny_bind (m := Builtin.Re.reLiteralCannotBeTurned (.str repl tr)) (wpAny_bind (wpAny_pure (wpAny_pure ?_)))
    rw [if_neg (by simp)]
    have hat : ((at_ : Nat) : Int).toNat = at_ := Int.toNat_natCast _
    rw [hat]
    have hxl : x.cps.size = x.length := rfl
    have hpz : ∀ b e, (piece x.cps b e).length ≤ sizeLine := fun b e => by
      have : (piece x.cps b e).length ≤ x.length := by
        show (x.cps.extract b e).size ≤ _
        rw [Array.size_extract, ← hxl]; lia -abstractProof
      rw [sizeLine_eq]; lia -abstractProof
    have huz := strs_len hs
    unfold reFind at e
    cases hg : reGo 200 (Sre.forSearch code x.cps 0 at_ x.cps.size must) with
    | none => rw [hg] at e; cases e
    | some m =>
      rw [hg] at e
      simp only at e
      cases ho : m.outcome with
      | none => rw [ho] at e; cases e
      | some oc =>
        rw [ho] at e
        cases oc with
        | stuck why => cases e
        | failed =>
          simp only at e
          refine wpAny_bind (wpAny_reRun hg (.inr ⟨ho, rfl⟩) ?_)
          dsimp only
          by_cases q : at_ < x.cps.size
          · rw [if_pos q] at e
            cases e
            rw [if_pos (show at_ < (target a (Value.str x t) code x.cps).lim from q)]
            refine wpAny_bind (wpAny_reSlice (b := at_) (e := x.cps.size) ?_ (hpz _ _))
            refine wpAny_bind (wpAny_push (s := { s with toks := s.toks + 1 }) hl (by lia -abstractProof) fun h' hl' hs' => ?_)
            show wpAny _ _ (subTail x L) _ _ _
            exact wpAny_subTail (s := { s with heap := h', toks := s.toks + 1 }) (strs_snoc hs) hne hl' hout fun tk t' => hR h' tk t' fun b o hb e => hs'.extBut b o hb e
          · rw [if_neg q] at e
            cases e
            rw [if_neg (show ¬ at_ < (target a (Value.str x t) code x.cps).lim from q)]
            show wpAny _ _ (subTail x L) _ _ _
            exact wpAny_subTail hs hne hl hout fun tk t' => hR s.heap tk t' fun b o _ e => e
        | matched =>
          simp only at e
          refine wpAny_bind (wpAny_reRun hg (.inl ⟨ho, rfl⟩) ?_)
          dsimp only
          have go : ∀ (us' : List Value) (s₁ : Shared) (tk : Nat), StrsAre us' ((if at_ < m.start then ps ++ [piece x.cps at_ m.start] else ps)) → s₁.heap.PlainList L us'.toArray → s₁ = { s with heap := s₁.heap, toks := tk } → (∀ b o, b ≠ L → s.heap.get? b = some o → s₁.heap.get? b = some o) →
              wpAny (model prog w) A.in1 (do
                updateSeq L (·.push (.str repl tr))
                again (.builtin "re.Pattern.sub.loop" ⟨[.ref a, .str x t, .str repl tr, .int 0 0, .int 0 0, .int (n + 1) 0, .int m.handed 0, .int m.handed 0, .bool (m.handed == m.start), .ref L, .bool false], []⟩))
                (fun fin s' => match fin with | .done f => R (.ok f) s' | .again c' => c'.quiet = true ∧ codeAny (model prog w) A c' R s') (fun e s' => R (.error e) s') s₁ := by
            intro us' s₁ tk hs₁ hl₁ es₁ hk₁
            have hz₁ := strs_len hs₁
            have hlen : (if at_ < m.start then ps ++ [piece x.cps at_ m.start] else ps).length ≤ ps.length + 1 := by split <;> simp
            refine wpAny_bind (wpAny_push hl₁ (by lia -abstractProof) fun h' hl' hs' => ?_)
            refine wpAny_pure ⟨plainId_quiet plain_sub_loop _, codeAny_builtin entry_sub_loop ?_⟩
            rw [Around.under_plainId plain_sub_loop _]
            have hk' : ∀ b o, b ≠ L → s.heap.get? b = some o → h'.get? b = some o := fun b o hb e => hs'.extBut b o hb (hk₁ b o hb e)
            have hp' : ∀ b o, h₁.get? b = some o → h'.get? b = some o := fun b o e => hk' b o (fun q => by subst q; rw [hL₁] at e; cases e) (hp b o e)
            have := ih m.handed (m.handed == m.start) (n + 1) _ _ { s₁ with heap := h' } e hne (by rw [List.length_append, List.length_singleton]; lia -abstractProof) (strs_snoc (y := repl) (t := tr) hs₁) hl' hp' (fun h'' tk' t' hk'' => ?_)
            · exact this
            · rw [es₁]
              exact hR h'' tk' t' fun b o hb e => hk'' b o hb (hk' b o hb e)
          by_cases q : at_ < m.start
          · rw [if_pos q]
            refine wpAny_bind (wpAny_reSlice (b := at_) (e := m.start) ?_ (hpz _ _))
            refine wpAny_bind (wpAny_push (s := { s with toks := s.toks + 1 }) hl (by lia -abstractProof) fun h' hl' hs' => ?_)
            refine go _ { s with heap := h', toks := s.toks + 1 } (s.toks + 1) ?_ hl' rfl fun b o hb e => hs'.extBut b o hb e
            rw [if_pos q]; exact strs_snoc hs
          · rw [if_neg q]
            refine go _ s s.toks ?_ hl rfl fun b o _ e => e
            rw [if_neg q]; exact hs
end
end Mine
end
section
namespace Mine
set_option maxRecDepth 100000
section
variable {prog : Program} {w : World} {A : Around} {E : Value → Shared → Prop} {s : Shared}
theorem reNamed_two (a b : Value) : Builtin.Re.reNamed "re.Pattern.sub" "sub" ["repl", "string", "count"] 2 [a, b] [] = pure [some a, some b, none] := by
  with_unfolding_all rfl
/-- pattern.sub(repl, text) -/
theorem meets_sub {a : Addr} {code : Array Nat} {x repl : Str} {t tr : Tok} {out : List Str} (hx : x.length ≤ 100) (hr : repl.length ≤ 100) (hbs : repl.cps.contains 92 = false) (hout : (out.map (·.length)).sum ≤ 10000) (hne : out ≠ [])
    (e : rePieces code x.cps repl 50 0 false [] = some out) :
    MeetsIn prog w (Builtin.«re.Pattern.sub» ⟨[.ref a, .str repl tr, .str x t], []⟩) (fun A R s => IsPat s.heap a code ∧
      ∀ h' tk t', (∀ b o, s.heap.get? b = some o → h'.get? b = some o) → R (.ok (.ret (.str (Txt.join "" out) t'))) { s with heap := h', toks := tk }) := by
  intro A R s ⟨hp, hR⟩
  unfold Builtin.«re.Pattern.sub» Builtin.Re.reSubstitute
  dsimp only
  rw [reNamed_two]
  refine wpAny_bind (wpAny_pure ?_)
  dsimp only
  refine wpAny_bind (wpAny_pure ?_)
  have hsp : specialOf (.str repl tr) "__call__" = pure none := by
    unfold specialOf
    show (do let t ← pure (Value.type "str"); typeLookup t "__call__") = _
    rw [pure_bind, str_no_call]
  rw [hsp]
  refine wpAny_bind (wpAny_pure ?_)
  rw [if_neg (by simp)]
  refine wpAny_bind (m := asStr? (.str repl tr)) (wpAny_pure ?_)
  dsimp only
  refine wpAny_bind (wpAny_pure ?_)
  rw [if_neg (by simp), if_pos (by rw [hbs]; rfl)]
  refine wpAny_bind (wpAny_pure ?_)
  dsimp only
  refine wpAny_bind (wpAny_holding (wpAny_reWhole hp ?_))
  rw [if_neg (by decide)]
  refine wpAny_bind (wpAny_newObj_type ?_)
  refine wpAny_pure ⟨plainId_quiet plain_sub_loop _, codeAny_builtin entry_sub_loop ?_⟩
  rw [Around.under_plainId plain_sub_loop _]
  have hk : ∀ b o, s.heap.get? b = some o → (s.heap.push { cls := .type "list", dict := none, data := .seq ([] : List Value).toArray }).get? b = some o := fun _ _ e => Heap.get?_push_of_some _ e
  refine sub_loop (L := s.heap.objs.size) (h₁ := s.heap) hx hr hout hp (noObj _) 50 0 false 0 [] [] { s with heap := s.heap.push { cls := .type "list", dict := none, data := .seq ([] : List Value).toArray } } e hne (by decide) .nil ⟨0, Heap.get?_push_size _ rfl⟩ hk fun h' tk t' hk' => ?_
  exact hR h' tk t' fun b o e => hk' b o (fun q => by subst q; rw [noObj] at e; cases e) (hk b o e)
end
end Mine
end
section
namespace Mine
set_option maxRecDepth 100000
/-- what sub gives -/
noncomputable def subOf (code : Array Nat) (repl x : Str) : Option Str :=
  match rePieces code x.cps repl 50 0 false [] with
  | some (p :: ps) => if ((p :: ps).map (·.length)).sum ≤ 100 then some (Txt.join "" (p :: ps)) else none
  | _ => none
section
variable {prog : Program} {w : World} {h₀ : Heap} {fs as as' : List Addr} {σ σ' : List MO} {s s' : Shared} {k n : Nat} {sc : Scope} {m : List (Str × Vl)} {K : Vl → List MO → Prop} {env : Env}
theorem ty_pat {a : Addr} {code : Array Nat} (hp : IsPat h₀ a code) : ∀ fs as s u, Rel prog w h₀ fs as σ s → VR prog w fs as s.heap (.g (.ref a)) u → s.TypeIs u "re.Pattern" ∧ ∀ b, u = .ref b → ∃ ob, s.heap.get? b = some ob ∧ ob.dict = none := by
  intro fs as s u R V
  have V' : u = .ref a := V
  subst V'
  refine el_eeeeeeaaa (hp.ex) fun o fs c oc items nn h1 h2 h3 _ => ?_
  have := (R.base _ _ h1).1
  exact ⟨⟨o, this, h2⟩, fun b e => by cases e; exact ⟨o, this, h3⟩⟩
theorem WO.sub {a : Addr} {code : Array Nat} {x repl z : Str} (hp : IsPat h₀ a code) (hx : x.length ≤ 100) (hr : repl.length ≤ 100) (hbs : repl.cps.contains 92 = false) (hz : subOf code repl x = some z) (h : K (.d (.str z)) σ) :
    WO prog w h₀ n [.g (.ref a), .d (.str repl), .d (.str x)] (fun us => call (.builtin "re.Pattern.sub") us) σ K := by
  intro A fs as s us hA R V
  apply VRs.three V; intro _ _ _ V₁ V₂ V₃
  · skip
    have V₁' : _ = Value.ref a := V₁
    subst V₁'
    obtain ⟨tr, rfl⟩ := V₂.str_inv
    obtain ⟨t, rfl⟩ := V₃.str_inv
    have kp : ∀ b o, h₀.get? b = some o → s.heap.get? b = some o := fun b o e => (R.base b o e).1
    have hp' := hp.keeps kp
    refine el_eeeeeeaaa (hp'.ex) fun o fs' c oc items nn h1 h2 h3 _ => ?_
    unfold subOf at hz
    cases q : rePieces code x.cps repl 50 0 false [] with
    | none => rw [q] at hz; cases hz
    | some out =>
      rw [q] at hz
      cases out with
      | nil => cases hz
      | cons p ps =>
        simp only at hz
        split at hz
        · rename_i hsum
          cases hz
          refine call_meetsIn slot_sub ⟨o, h1, h2⟩ entry_sub (args_sub _ _ _) (meets_sub hx hr hbs (by lia -abstractProof) (by simp) q) ⟨hp', fun h' tk t' hk => ?_⟩
          exact .kept (v := .d (.str _)) R hk R.bare rfl (Rd.str _ _) h
        · cases hz
end
noncomputable def dotsRow (d : Nat) (l e : Str) : Str := strMul "." d ++ l ++ e
noncomputable def quotOk (d : Nat) (l e : Str) : Bool := match subOf code2 "\r\n" (dotsRow d l e) with
  | some y => y.length ≤ 100 && (subOf code1 ".." y == some (dotsRow (d + 1) l "\r\n"))
  | none => false
theorem quotOk_1 : ∀ l ∈ [("a" : Str), ("\"" : Str), ("\\" : Str)], ∀ e ∈ [("\n" : Str), ("\r" : Str), ("\r\n" : Str)], quotOk 1 l e = true := by decide +kernel
theorem quotOk_2 : ∀ l ∈ [("a" : Str), ("\"" : Str), ("\\" : Str)], ∀ e ∈ [("\n" : Str), ("\r" : Str), ("\r\n" : Str)], quotOk 2 l e = true := by decide +kernel
theorem quotOk_3 : ∀ l ∈ [("a" : Str), ("\"" : Str), ("\\" : Str)], ∀ e ∈ [("\n" : Str), ("\r" : Str), ("\r\n" : Str)], quotOk 3 l e = true := by decide +kernel
theorem quotOk_4 : ∀ l ∈ [("a" : Str), ("\"" : Str), ("\\" : Str)], ∀ e ∈ [("\n" : Str), ("\r" : Str), ("\r\n" : Str)], quotOk 4 l e = true := by decide +kernel
theorem quotOk_5 : ∀ l ∈ [("a" : Str), ("\"" : Str), ("\\" : Str)], ∀ e ∈ [("\n" : Str), ("\r" : Str), ("\r\n" : Str)], quotOk 5 l e = true := by decide +kernel
theorem quotOk_all : ∀ d ∈ [1, 2, 3, 4, 5], ∀ l ∈ [("a" : Str), ("\"" : Str), ("\\" : Str)], ∀ e ∈ [("\n" : Str), ("\r" : Str), ("\r\n" : Str)], quotOk d l e = true := fun d hd => by
  simp only [List.mem_cons, List.not_mem_nil, or_false] at hd
  rcases hd with rfl | rfl | rfl | rfl | rfl
  · exact quotOk_1
  · exact quotOk_2
  · exact quotOk_3
  · exact quotOk_4
  · exact quotOk_5
end Mine
end
section
namespace Mine
set_option maxRecDepth 100000
section
variable {prog : Program} {w : World} {A : Around} {E : Value → Shared → Prop} {s : Shared}
/-- a tuple's iterator steps -/
theorem tupNext {it t : Addr} {i : Nat} {items : Array Value} {x : Value} {Q : Value → Shared → Prop} (hit : s.heap.IsTupleIter it t i) (ht : s.heap.IsTuple t items) (hx : items[i]? = some x)
    (hQ : ∀ h', h'.IsTupleIter it t (i + 1) → Heap.SameBut it s.heap h' → Q x { s with heap := h' }) : wpAny (model prog w) A (Builtin.SmallTypes.nextOf (.ref it)) Q E s := by
  refine el_eaa (id hit) fun o ho hc hd => ?_
  refine el_eaae (ht) fun ol hol _ nl hdl => ?_; try clear ht
  unfold Builtin.SmallTypes.nextOf
  refine wpAny_bind (wpAny_callSpecial?_slot (name := Str.ofString "__next__") hit.typeIs PySem.F.slot_tuple_iterator_next (wpAny_call_entry PySem.F.slot_tuple_iterator_next hit.typeIs PySem.F.entry_tuple_iterator_next ?_ (PySem.F.args_tuple_iterator_next_1 _)))
  refine wpAny_bind (m := field (.ref it) 0) (wpAny_field ho hd (x := .ref t) rfl ?_)
  rw [if_neg (show ¬ ((Value.ref t == Value.none) = true) from Bool.false_ne_true)]
  refine wpAny_bind (m := field (.ref it) 1) (wpAny_field ho hd (x := .int i 0) rfl ?_)
  refine wpAny_bind (m := seqItems? (.ref t)) (wpAny_seqItems hol hdl ?_)
  simp only [Int.toNat_natCast, hx]
  refine wpAny_bind (wpAny_setField ho hd (by simp) (wpAny_pure ⟨x, rfl, wpAny_pure (hQ _ ?_ (Heap.SameBut.update ..))⟩))
  exact ⟨_, Heap.get?_update_self _ ho (Obj.isFreed_of_fields (Obj.data_mapFields hd _)), (Obj.cls_mapFields ..).trans hc, by rw [Obj.data_mapFields hd]; simp [rawInt]⟩
/-- .. and ends -/
theorem tupEnd {it t : Addr} {i : Nat} {items : Array Value} {Q : Value → Shared → Prop} (hh : A.handled = none) (hit : s.heap.IsTupleIter it t i) (ht : s.heap.IsTuple t items) (hx : items[i]? = none)
    (hE : ∀ h' e, Heap.ExtBut it s.heap h' → (∃ o, h'.get? e = some o ∧ o.cls = .type "StopIteration") → E (.ref e) { s with heap := h' }) : wpAny (model prog w) A (Builtin.SmallTypes.nextOf (.ref it)) Q E s := by
  refine el_eaa (id hit) fun o ho hc hd => ?_
  refine el_eaae (ht) fun ol hol _ nl hdl => ?_; try clear ht
  unfold Builtin.SmallTypes.nextOf
  refine wpAny_bind (wpAny_callSpecial?_slot (name := Str.ofString "__next__") hit.typeIs PySem.F.slot_tuple_iterator_next (wpAny_call_entry PySem.F.slot_tuple_iterator_next hit.typeIs PySem.F.entry_tuple_iterator_next ?_ (PySem.F.args_tuple_iterator_next_1 _)))
  refine wpAny_bind (m := field (.ref it) 0) (wpAny_field ho hd (x := .ref t) rfl ?_)
  rw [if_neg (show ¬ ((Value.ref t == Value.none) = true) from Bool.false_ne_true)]
  refine wpAny_bind (m := field (.ref it) 1) (wpAny_field ho hd (x := .int i 0) rfl ?_)
  refine wpAny_bind (m := seqItems? (.ref t)) (wpAny_seqItems hol hdl ?_)
  simp only [Int.toNat_natCast, hx]
  refine wpAny_bind (wpAny_rule (wpAny_bind (wpAny_setField ho hd (by simp) ?_)))
  refine wpAny_bind (m := newExc (.type "StopIteration") []) ?_
  simp only [newExc, newTuple]
  refine wpAny_bind (wpAny_newObj_type ?_ (by size_fits))
  refine wpAny_bind (m := firstArgMember _ _) (wpAny_of_eq (a := Value.none) (by first | rfl | (simp only [firstArgMember]; rfl)) ?_)
  refine wpAny_newObj_type ?_ (by size_fits)
  simp only [raiseNew]
  refine wpAny_bind (wpAny_handled ?_)
  rw [show A.in1.handled = none from hh]
  exact wpAny_bind (wpAny_pure (wpAny_throw (hE _ _ (((Heap.SameBut.update ..).extBut.push _).push _) ⟨_, Heap.get?_push_size _ rfl, rfl⟩)))
/-- zip over two tuples: the state between two turns -/
structure ZipT (h : Heap) (z TI TO i1 i2 l1 l2 : Addr) (f0 : Value) (k : Nat) (xs ys : Array Value) : Prop where
  zip : IsZip h z TI TO f0
  ti : IsPair h TI (.ref i1) (.ref i2)
  to : ∃ a b, IsPair h TO a b
  one : h.IsTupleIter i1 l1 k
  two : h.IsTupleIter i2 l2 k
  xs : h.IsTuple l1 xs
  ys : h.IsTuple l2 ys
theorem zipT_next {z TI TO i1 i2 l1 l2 : Addr} {k : Nat} {xs ys : Array Value} {x y : Value} {Q : Value → Shared → Prop} (D : ZipApart z TI TO i1 i2 l1 l2) (Z : ZipT s.heap z TI TO i1 i2 l1 l2 .none k xs ys) (hx : xs[k]? = some x) (hy : ys[k]? = some y)
    (hQ : ∀ h', ZipT h' z TI TO i1 i2 l1 l2 (rawInt s.heap.objs.size) (k + 1) xs ys → IsPair h' s.heap.objs.size x y → (∀ c o, c ∉ [z, TO, i1, i2] → s.heap.get? c = some o → h'.get? c = some o) → Q (.ref s.heap.objs.size) { s with heap := h' }) :
    wpAny (model prog w) A (Builtin.«zip.__next__» ⟨[.ref z], []⟩) (fun fin s' => ∃ v, fin = .done (.ret v) ∧ Q v s') E s := by
  refine el_ee (Z.to) fun a b hTO => ?_
  refine wpAny_bind (m := field (.ref z) 2) (wpAny_field Z.zip rfl (x := .bool false) rfl ?_)
  refine wpAny_bind (m := field (.ref z) 3) (wpAny_field Z.zip rfl (x := .ref TI) rfl ?_)
  refine wpAny_bind (wpAny_seqItems Z.ti rfl ?_)
  refine wpAny_bind (m := Builtin.SmallTypes.ownedTupleIsFree (.ref z)) ?_
  unfold Builtin.SmallTypes.ownedTupleIsFree
  refine wpAny_bind (wpAny_field Z.zip rfl (x := .none) rfl (wpAny_pure ?_))
  simp only [if_true]
  refine wpAny_bind (wpAny_rule ?_)
  refine wpAny_bind (wpAny_field Z.zip rfl (x := .ref TO) rfl ?_)
  refine wpAny_bind (wpAny_setField_rec Z.zip (by simp) fun h₁ hz₁ hs₁ => ?_)
  replace hz₁ : IsZip h₁ z TI TO .ellipsis := hz₁
  refine wpAny_bind ?_
  simp only [List.zipIdx_cons, List.zipIdx_nil, List.forIn_cons, List.forIn_nil]
  refine wpAny_bind (wpAny_bind (wpAny_onRaise ?_))
  refine wpAny_bind (m := Builtin.SmallTypes.nextOf (.ref i1)) (tupNext (Z.one.extBut hs₁.extBut D.i1z) (Z.xs.extBut hs₁.extBut D.l1z) hx fun h₂ one₂ hs₂ => wpAny_pure ?_)
  have hTO₂ : IsPair h₂ TO a b := hs₂.extBut _ _ D.TOi1 (hs₁.extBut _ _ D.TOz hTO)
  refine wpAny_bind (wpAny_seqItems hTO₂ rfl (wpAny_bind (wpAny_updateSeq_pair hTO₂ fun h₃ hTO₃ hs₃ => ?_)))
  replace hTO₃ : IsPair h₃ TO x b := hTO₃
  refine wpAny_bind (wpAny_letGo (wpAny_pure ?_))
  refine wpAny_bind (wpAny_bind (wpAny_onRaise ?_))
  refine wpAny_bind (m := Builtin.SmallTypes.nextOf (.ref i2)) (tupNext (((Z.two.extBut hs₁.extBut D.i2z).extBut hs₂.extBut D.i12.symm).extBut hs₃.extBut D.TOi2.symm) (((Z.ys.extBut hs₁.extBut D.l2z).extBut hs₂.extBut D.l2i1).extBut hs₃.extBut D.l2TO) hy fun h₄ two₄ hs₄ => wpAny_pure ?_)
  have hTO₄ : IsPair h₄ TO x b := hs₄.extBut _ _ D.TOi2 hTO₃
  refine wpAny_bind (wpAny_seqItems hTO₄ rfl (wpAny_bind (wpAny_updateSeq_pair hTO₄ fun h₅ hTO₅ hs₅ => ?_)))
  replace hTO₅ : IsPair h₅ TO x y := hTO₅
  refine wpAny_bind (wpAny_letGo (wpAny_pure (wpAny_pure ?_)))
  refine wpAny_bind (wpAny_seqItems hTO₅ rfl (wpAny_bind (wpAny_newTuple ?_)))
  have hsz : h₅.objs.size = s.heap.objs.size := by rw [hs₅.1, hs₄.1, hs₃.1, hs₂.1, hs₁.1]
  have k₅ : ∀ c o, c ∉ [z, TO, i1, i2] → s.heap.get? c = some o → h₅.get? c = some o := fun c o hc e => by
    simp only [List.mem_cons, List.not_mem_nil, or_false, not_or] at hc
    exact hs₅.extBut _ _ hc.2.1 (hs₄.extBut _ _ hc.2.2.2 (hs₃.extBut _ _ hc.2.1 (hs₂.extBut _ _ hc.2.2.1 (hs₁.extBut _ _ hc.1 e))))
  have hz₅ : IsZip h₅ z TI TO .ellipsis := hs₅.extBut _ _ D.TOz.symm (hs₄.extBut _ _ D.i2z.symm (hs₃.extBut _ _ D.TOz.symm (hs₂.extBut _ _ D.i1z.symm hz₁)))
  have one₅ : h₅.IsTupleIter i1 l1 (k + 1) := ((one₂.extBut hs₃.extBut D.TOi1.symm).extBut hs₄.extBut D.i12).extBut hs₅.extBut D.TOi1.symm
  have two₅ : h₅.IsTupleIter i2 l2 (k + 1) := two₄.extBut hs₅.extBut D.TOi2.symm
  refine wpAny_bind (m := Builtin.SmallTypes.ownedTupleHandOut (.ref z) (.ref h₅.objs.size)) ?_
  unfold Builtin.SmallTypes.ownedTupleHandOut
  have hz₆ : IsZip (h₅.push { cls := .type "tuple", data := .seq #[x, y] }) z TI TO .ellipsis := Heap.get?_push_of_some _ hz₅
  refine wpAny_bind (wpAny_setField_rec hz₆ (by simp) fun h₇ hz₇ hs₇ => ?_)
  replace hz₇ : IsZip h₇ z TI TO (rawInt h₅.objs.size) := hz₇
  refine wpAny_setField_rec hz₇ (by simp) fun h₈ hz₈ hs₈ => ?_
  replace hz₈ : IsZip h₈ z TI TO (rawInt h₅.objs.size) := hz₈
  have up : ∀ c o, c ≠ z → h₅.get? c = some o → h₈.get? c = some o := fun c o hc e => hs₈.extBut _ _ hc (hs₇.extBut _ _ hc (Heap.get?_push_of_some _ e))
  have hzn : h₅.objs.size ≠ z := Nat.ne_of_gt (Heap.lt_size hz₅)
  have hT₈ : IsPair h₈ h₅.objs.size x y := hs₈.extBut _ _ hzn (hs₇.extBut _ _ hzn (Heap.get?_push_size _ rfl))
  have out : ∀ c, c ≠ z → c ≠ TO → c ≠ i1 → c ≠ i2 → c ∉ [z, TO, i1, i2] := fun c a1 a2 a3 a4 => by simp [a1, a2, a3, a4]
  refine wpAny_pure ⟨_, rfl, ?_⟩
  show Q (.ref h₅.objs.size) _
  rw [hsz] at hz₈ hT₈ ⊢
  refine hQ h₈ ⟨hz₈, up _ _ D.TIz (k₅ _ _ (out _ D.TIz D.TITO D.TIi1 D.TIi2) Z.ti), (in_ee _ _ (up _ _ D.TOz hTO₅)), one₅.at fun o e => up _ o D.i1z e, two₅.at fun o e => up _ o D.i2z e,
    Z.xs.at fun o e => up _ o D.l1z (k₅ _ o (out _ D.l1z D.l1TO D.l1i1 D.l1i2) e), Z.ys.at fun o e => up _ o D.l2z (k₅ _ o (out _ D.l2z D.l2TO D.l2i1 D.l2i2) e)⟩ hT₈ fun c o hc e => ?_
  exact up c o (fun q => hc (by simp [q])) (k₅ c o hc e)
end
end Mine
end
section
namespace Mine
set_option maxRecDepth 100000
section
variable {prog : Program} {w : World} {A : Around} {E : Value → Shared → Prop} {s : Shared}
theorem zipT_end {z TI TO i1 i2 l1 l2 : Addr} {k : Nat} {xs ys : Array Value} {Q : Fin → Shared → Prop} (hh : A.handled = none) (D : ZipApart z TI TO i1 i2 l1 l2) (Z : ZipT s.heap z TI TO i1 i2 l1 l2 .none k xs ys) (hx : xs[k]? = none)
    (hE : ∀ h' e, (∀ c o, c ∉ [z, TO, i1, i2] → s.heap.get? c = some o → h'.get? c = some o) → (∃ o, h'.get? e = some o ∧ o.cls = .type "StopIteration") → E (.ref e) { s with heap := h' }) :
    wpAny (model prog w) A (Builtin.«zip.__next__» ⟨[.ref z], []⟩) Q E s := by
  refine wpAny_bind (m := field (.ref z) 2) (wpAny_field Z.zip rfl (x := .bool false) rfl ?_)
  refine wpAny_bind (m := field (.ref z) 3) (wpAny_field Z.zip rfl (x := .ref TI) rfl ?_)
  refine wpAny_bind (wpAny_seqItems Z.ti rfl ?_)
  refine wpAny_bind (m := Builtin.SmallTypes.ownedTupleIsFree (.ref z)) ?_
  unfold Builtin.SmallTypes.ownedTupleIsFree
  refine wpAny_bind (wpAny_field Z.zip rfl (x := .none) rfl (wpAny_pure ?_))
  simp only [if_true]
  refine wpAny_bind (wpAny_rule ?_)
  refine wpAny_bind (wpAny_field Z.zip rfl (x := .ref TO) rfl ?_)
  refine wpAny_bind (wpAny_setField_rec Z.zip (by simp) fun h₁ hz₁ hs₁ => ?_)
  replace hz₁ : IsZip h₁ z TI TO .ellipsis := hz₁
  refine wpAny_bind ?_
  simp only [List.zipIdx_cons, List.zipIdx_nil, List.forIn_cons, List.forIn_nil]
  refine wpAny_bind (wpAny_bind (wpAny_onRaise ?_))
  refine wpAny_bind (m := Builtin.SmallTypes.nextOf (.ref i1)) (tupEnd hh (Z.one.extBut hs₁.extBut D.i1z) (Z.xs.extBut hs₁.extBut D.l1z) hx fun h₂ e hs₂ he => ?_)
  refine el_ea (he) fun oe hoe hce => ?_; try clear he
  have hz₂ : IsZip h₂ z TI TO .ellipsis := hs₂ _ _ D.i1z.symm hz₁
  have hez : e ≠ z := fun x => by subst x; rw [hz₂] at hoe; cases hoe; simp at hce
  refine wpAny_setField_rec hz₂ (by simp) fun h₃ _ hs₃ => hE h₃ e (fun c o hc x => ?_) ⟨oe, hs₃.extBut _ _ hez hoe, hce⟩
  simp only [List.mem_cons, List.not_mem_nil, or_false, not_or] at hc
  exact hs₃.extBut _ _ hc.1 (hs₂ _ _ hc.2.2.1 (hs₁.extBut _ _ hc.1 x))
/-- zip over two tuples as something that hands out pairs -/
theorem walks_zipT (hh : A.handled = none) (z TI TO i1 i2 l1 l2 : Addr) (D : ZipApart z TI TO i1 i2 l1 l2) (xs ys : Array Value) (hn : xs.size = ys.size) :
    WalksU prog w A z [z, TI, TO, i1, i2, l1, l2] [z, TO, i1, i2] xs.size (fun i vals => ∃ x y, xs[i]? = some x ∧ ys[i]? = some y ∧ vals = #[x, y])
      (fun i h => ZipT h z TI TO i1 i2 l1 l2 .none i xs ys) (fun i T h => ZipT h z TI TO i1 i2 l1 l2 (rawInt T) (i + 1) xs ys ∧ T ∉ [z, TO, i1, i2]) where
  sub := fun c hc => by simp at hc ⊢; rcases hc with rfl | rfl | rfl | rfl <;> simp
  frame := fun i h h' Z hk => ⟨hk z (by simp) _ Z.zip, hk TI (by simp) _ Z.ti, let ⟨a, b, e⟩ := Z.to; (in_ee a b (hk TO (by simp) _ e)), Z.one.at fun o e => hk i1 (by simp) o e, Z.two.at fun o e => hk i2 (by simp) o e,
    Z.xs.at fun o e => hk l1 (by simp) o e, Z.ys.at fun o e => hk l2 (by simp) o e⟩
  item := fun i s Q E hi Z hQ => by
    have hT : s.TypeIs (.ref z) "zip" := ⟨_, Z.zip, rfl⟩
    have hiy : i < ys.size := by rw [← hn]; exact hi
    unfold pyNext
    refine wpAny_bind (wpAny_attempt (wpAny_callSpecial?_slot (name := Str.ofString "__next__") hT PySem.F.slot_zip_next (wpAny_call_entry PySem.F.slot_zip_next hT PySem.F.entry_zip_next
      (zipT_next D Z (Array.getElem?_eq_getElem hi) (Array.getElem?_eq_getElem hiy) fun h' Z' hp hk => wpAny_pure ?_) (PySem.F.args_zip_next_1 _))))
    have lt : ∀ {c o}, s.heap.get? c = some o → s.heap.objs.size ≠ c := fun e => Nat.ne_of_gt (Heap.lt_size e)
    refine hQ s.heap.objs.size #[xs[i], ys[i]] h' s.toks (in_eeaa _ _ (Array.getElem?_eq_getElem hi) (Array.getElem?_eq_getElem hiy) rfl) (in_eaae _ hp rfl _ rfl) ⟨Z', fun q => ?_⟩ hk
    simp only [List.mem_cons, List.not_mem_nil, or_false] at q
    rcases q with q | q | q | q
    · exact lt Z.zip q
    · refine el_ee (Z.to) fun a b e => ?_; exact lt e q
    · refine el_ea (Z.one) fun o e _ => ?_; exact lt e q
    · refine el_ea (Z.two) fun o e _ => ?_; exact lt e q
  go := fun elts k pos i T s Q E Z hQ => by
    refine wpAny_letOwnedTupleGo_zip Z.1.zip fun h' hz' hs' => hQ h' ?_ fun c o hc e => hs'.extBut _ _ (fun x => hc (by simp [x])) e
    refine el_ee (Z.1.to) fun a b e => ?_
    exact ⟨hz', hs'.extBut _ _ D.TIz Z.1.ti, (in_ee a b (hs'.extBut _ _ D.TOz e)), Z.1.one.extBut hs'.extBut D.i1z, Z.1.two.extBut hs'.extBut D.i2z, Z.1.xs.extBut hs'.extBut D.l1z, Z.1.ys.extBut hs'.extBut D.l2z⟩
  apart := fun i T h hm => hm.2
  done := fun s Q E Z hQ => by
    have hT : s.TypeIs (.ref z) "zip" := ⟨_, Z.zip, rfl⟩
    unfold pyNext
    refine wpAny_bind (wpAny_attempt (wpAny_callSpecial?_slot (name := Str.ofString "__next__") hT PySem.F.slot_zip_next (wpAny_call_entry PySem.F.slot_zip_next hT PySem.F.entry_zip_next
      (zipT_end hh D Z (Array.getElem?_eq_none (Nat.le_refl _)) fun h' e hk he => ?_) (PySem.F.args_zip_next_1 _))))
    refine el_ea (he) fun o ho hc => ?_; try clear he
    refine wpAny_bind (wpAny_isInstance (T := "StopIteration") (b := true) ⟨o, ho, hc⟩ isSubtype_stop ?_)
    exact wpAny_pure (hQ h' s.toks hk)
  self := fun i s Q E Z hQ => wpAny_pyIter_zip Z.zip hQ
noncomputable abbrev zh1 (h : Heap) (l1 : Addr) : Heap := h.push { cls := .type "tuple_iterator", data := .fields #[.ref l1, .int 0 0] }
noncomputable abbrev zh2 (h : Heap) (l1 l2 : Addr) : Heap := (zh1 h l1).push { cls := .type "tuple_iterator", data := .fields #[.ref l2, .int 0 0] }
noncomputable abbrev zh3 (h : Heap) (l1 l2 : Addr) : Heap := (zh2 h l1 l2).push { cls := .type "tuple", data := .seq #[.ref h.objs.size, .ref (zh1 h l1).objs.size] }
noncomputable abbrev zh4 (h : Heap) (l1 l2 : Addr) : Heap := (zh3 h l1 l2).push { cls := .type "tuple", data := .seq #[.none, .none] }
noncomputable abbrev zh5 (h : Heap) (l1 l2 : Addr) : Heap := (zh4 h l1 l2).push { cls := .type "zip", data := .fields #[.none, .bool false, .bool false, .ref (zh2 h l1 l2).objs.size, .ref (zh3 h l1 l2).objs.size] }
theorem zipT_new (l1 l2 : Addr) (xs ys : Array Value) :
    Meets (Builtin.«zip.__new__» ⟨[.type "zip", .ref l1, .ref l2], []⟩) (fun _ R s => s.heap.IsTuple l1 xs ∧ s.heap.IsTuple l2 ys ∧ R (.ok (.ret (.ref (zh4 s.heap l1 l2).objs.size))) { s with heap := zh5 s.heap l1 l2 }) :=
  .of_wp fun prog w A R s h => by
    obtain ⟨hp, g, d, tk, os⟩ := s; refine el_aa (h) fun hl1 hl2 h => ?_
    have hsub := sub_zip
    have hL1 : Heap.IsTuple (Shared.heap ⟨hp, g, d, tk, os⟩) l1 xs := hl1
    have hL2 : Heap.IsTuple (Shared.heap ⟨hp.push { cls := .type "tuple_iterator", data := .fields #[.ref l1, .int 0 0] }, g, d, tk, os⟩) l2 ys := isTup_at hl2 fun o e => Heap.get?_push_of_some _ e
    wp_walk using wpAny_pyIter_tuple hL1, wpAny_pyIter_tuple hL2
    exact ⟨_, rfl, h⟩
theorem call_zipT {l1 l2 : Addr} {xs ys : Array Value} {Q : Value → Shared → Prop} (hl1 : s.heap.IsTuple l1 xs) (hl2 : s.heap.IsTuple l2 ys)
    (h : ∀ h', ZipT h' (s.heap.objs.size + 4) (s.heap.objs.size + 2) (s.heap.objs.size + 3) s.heap.objs.size (s.heap.objs.size + 1) l1 l2 .none 0 xs ys → ZipApart (s.heap.objs.size + 4) (s.heap.objs.size + 2) (s.heap.objs.size + 3) s.heap.objs.size (s.heap.objs.size + 1) l1 l2 →
      h'.objs.size = s.heap.objs.size + 5 → (∀ c o, s.heap.get? c = some o → h'.get? c = some o) → Q (.ref (s.heap.objs.size + 4)) { s with heap := h' }) :
    wpAny (model prog w) A (call (.type "zip") [.ref l1, .ref l2]) Q E s := by
  refine callType_new PySem.F.called_zip (by decide) (PySem.F.typeCall_zip_2 _ _) (PySem.F.newCall_zip_2 _ _) (fun obj => PySem.F.args_object_init_3 obj _ _) PySem.F.entry_zip_new (zipT_new l1 l2 xs ys) ⟨hl1, hl2, ?_⟩
  have a1 : l1 < s.heap.objs.size := by refine el_ea (hl1) fun _ e _ => ?_; try clear hl1; exact Heap.lt_size e
  have a2 : l2 < s.heap.objs.size := by refine el_ea (hl2) fun _ e _ => ?_; try clear hl2; exact Heap.lt_size e
  have z1 : (zh1 s.heap l1).objs.size = s.heap.objs.size + 1 := Heap.size_push ..
  have z2 : (zh2 s.heap l1 l2).objs.size = s.heap.objs.size + 2 := by rw [Heap.size_push, z1]
  have z3 : (zh3 s.heap l1 l2).objs.size = s.heap.objs.size + 3 := by rw [Heap.size_push, z2]
  have z4 : (zh4 s.heap l1 l2).objs.size = s.heap.objs.size + 4 := by rw [Heap.size_push, z3]
  have z5 : (zh5 s.heap l1 l2).objs.size = s.heap.objs.size + 5 := by rw [Heap.size_push, z4]
  have g5 : (zh5 s.heap l1 l2).get? (zh4 s.heap l1 l2).objs.size = some _ := Heap.get?_push_size _ rfl
  have g4 : (zh5 s.heap l1 l2).get? (zh3 s.heap l1 l2).objs.size = some _ := Heap.get?_push_of_some _ (Heap.get?_push_size _ rfl)
  have g3 : (zh5 s.heap l1 l2).get? (zh2 s.heap l1 l2).objs.size = some _ := Heap.get?_push_of_some _ (Heap.get?_push_of_some _ (Heap.get?_push_size _ rfl))
  have g2 : (zh5 s.heap l1 l2).get? (zh1 s.heap l1).objs.size = some _ := Heap.get?_push_of_some _ (Heap.get?_push_of_some _ (Heap.get?_push_of_some _ (Heap.get?_push_size _ rfl)))
  have g1 : (zh5 s.heap l1 l2).get? s.heap.objs.size = some _ := Heap.get?_push_of_some _ (Heap.get?_push_of_some _ (Heap.get?_push_of_some _ (Heap.get?_push_of_some _ (Heap.get?_push_size _ rfl))))
  have kp : ∀ c o, s.heap.get? c = some o → (zh5 s.heap l1 l2).get? c = some o := fun c o x => Heap.get?_push_of_some _ (Heap.get?_push_of_some _ (Heap.get?_push_of_some _ (Heap.get?_push_of_some _ (Heap.get?_push_of_some _ x))))
  show _ ∧ _
  rw [z2, z3, z4] at g5
  rw [z1, z2] at g3
  rw [z3] at g4
  rw [z1] at g2
  rw [z4]
  exact ⟨⟨_, g5, rfl⟩, h _ ⟨g5, g3, (in_ee _ _ g4), ⟨_, g1, rfl, rfl⟩, ⟨_, g2, rfl, rfl⟩, isTup_at hl1 fun o e => kp _ o e, isTup_at hl2 fun o e => kp _ o e⟩ (zipApart_new a1 a2) z5 kp⟩
end
end Mine
end
section
namespace Mine
set_option maxRecDepth 100000
/-- the table of inner codes at P, which is object i -/
noncomputable def tabOP (i : Nat) (P : Addr) : OP where
  bd := i + 1
  P := fun l _ _ o => l i = some P ∧ ∃ ps, o = tabObj ps ∧ TriplesOk ps.toList
  mono := fun hl _ zf10 => el_a zf10 fun h1 h2 => ⟨hl _ _ (Nat.lt_succ_self _) h1, h2⟩
structure IsTab (h₀ : Heap) (c P : Addr) : Prop where
  ex : CodeHd h₀ c P
section
variable {prog : Program} {w : World} {h₀ : Heap} {fs as as' as'' ow : List Addr} {σ σ' σ'' : List MO} {s s' s'' : Shared} {k n : Nat} {sc : Scope} {m : List (Str × Vl)} {K : Vl → List MO → Prop} {gl : Str → Option Value}
  {env : Env} {A : Around} {I : Addr}
theorem Rel.isCode {i : Nat} {c P : Addr} (R : Rel prog w h₀ fs as σ s) (hi : σ[i]? = some (.obj (tabOP i P))) (T : IsTab h₀ c P) : as[i]? = some P ∧ ∃ ps, s.heap.get? P = some (tabObj ps) ∧ TriplesOk ps.toList ∧ CodeHd s.heap c P := by
  have hl : i < as.length := by rw [R.len]; exact (List.getElem?_eq_some_iff.mp hi).1
  obtain ⟨a, ha⟩ : ∃ a, as[i]? = some a := ⟨as[i], List.getElem?_eq_getElem hl⟩
  refine el_eaaea (R.mo i a _ ha hi) fun o ho h1 ps h2 h3 => ?_
  have h1' : as[i]? = some P := h1
  rw [ha] at h1'
  cases h1'
  subst h2
  exact ⟨ha, ps, ho, h3, T.ex.keeps fun b o e => (R.base b o e).1⟩
/-- the code of a generator expression, found or made -/
theorem genexprCodeT {M : Model} {E : Value → Shared → Prop} {c P : Addr} {ps : Array Value} {pos : Pos} {qualname : Str} {scope : Scope} {Q : Value → Shared → Prop} (hc : env.code = .ref c) (C : CodeHd s.heap c P) (hP : s.heap.get? P = some (tabObj ps)) (ht : TriplesOk ps.toList)
    (hQ : ∀ code h' tk ps', Heap.ExtBut P s.heap h' → h'.get? P = some (tabObj ps') → TriplesOk ps'.toList → Q code { s with heap := h', toks := tk }) : wpAny M A (genexprCode env pos qualname scope) Q E s := by
  cases hf : codeAmong pos ps.toList with
  | some c' => exact wpAny_genexprCode_hit hc (C.code hP ht) hf (hQ c' s.heap s.toks ps (fun _ _ _ e => e) hP ht)
  | none =>
    refine wpAny_genexprCodeX hc (C.code hP ht) (C.tab hP) hf fun c' h' tk hx _ _ hcode => ?_
    intros
    rename_i htb _
    refine el_eeeeeeeeeeaaaaaaaaaa (hcode) fun o vs file tf flags tg inF text tt op _ _ _ _ _ _ _ hop hpd htr _ => ?_; try clear hcode
    exact hQ _ h' tk _ hx htb.2 htr
/-- all but one of the written objects is kept -/
theorem Rel.setE {i : Nat} {a : Addr} {x : MO} (R : Rel prog w h₀ fs as σ s) (ha : as[i]? = some a) (hk : ∀ b o, b ≠ a → s.heap.get? b = some o → s'.heap.get? b = some o) (ht : ∃ o, s'.heap.get? a = some o) (hx : MOk prog w fs as s'.heap a x) (hg : AllBare s'.gens) :
    Rel prog w h₀ fs as (σ.set i x) s' := by
  have haa : a ∈ as := List.mem_of_getElem? ha
  have ne : ∀ b, b ∉ as ++ fs → b ≠ a := fun b hb e => hb (by rw [e]; exact List.mem_append_left _ haa)
  refine ⟨fun b o e => ⟨hk b o (ne b (R.base b o e).2) (R.base b o e).1, (R.base b o e).2⟩, by rw [List.length_set]; exact R.len, R.nd, fun b hb => ?_, fun j b y hb hy => ?_, hg⟩
  · by_cases e : b = a
    · subst e; exact ht
    · obtain ⟨o, ho⟩ := R.there b hb
      exact ⟨o, hk b o e ho⟩
  · by_cases hij : i = j
    · subst hij
      rw [ha] at hb; cases hb
      have hl : i < σ.length := by rw [← R.len]; exact (List.getElem?_eq_some_iff.mp ha).1
      rw [List.getElem?_set_self hl] at hy
      cases hy; exact hx
    · rw [List.getElem?_set_ne hij] at hy
      have hba : b ≠ a := fun e => by
        subst e
        have hn := (List.nodup_append.mp R.nd).1
        obtain ⟨h1, e1⟩ := List.getElem?_eq_some_iff.mp ha
        obtain ⟨h2, e2⟩ := List.getElem?_eq_some_iff.mp hb
        exact hij ((List.getElem_inj hn).mp (e1.trans e2.symm))
      exact (R.mo j b y hb hy).move (fun _ _ _ e => e) (fun c o hc e => ⟨hk c o (ne c hc) e, hc⟩) fun o e => hk b o hba e
theorem Stp.setE {i : Nat} {a : Addr} (ha : as[i]? = some a) (hk : ∀ b o, b ≠ a → s.heap.get? b = some o → s'.heap.get? b = some o) (ht : ∃ o, s'.heap.get? a = some o) (ho : s'.os = s.os) : Stp ow k as s as s' :=
  ⟨fun _ _ _ e => e, fun _ h q => absurd h q, fun b o h1 _ e => hk b o (fun q => h1 (by rw [q]; exact List.mem_of_getElem? ha)) e, fun b o e => by
    by_cases q : b = a
    · subst q; exact ht
    · exact ⟨o, hk b o q e⟩, ho⟩
theorem set_same {l : List MO} {i : Nat} {x : MO} (h : l[i]? = some x) : l.set i x = l := by
  apply List.ext_getElem?
  intro j
  by_cases q : i = j
  · subst q; rw [List.getElem?_set_self (List.getElem?_eq_some_iff.mp h).1, h]
  · rw [List.getElem?_set_ne q]
theorem VR.asD {v : Vl} {u : Value} {t : D} {h : Heap} (V : VR prog w fs as h v u) (e : v = .d t) : Rd prog w (as ++ fs) h u t := by subst e; exact V
theorem Rd.ints2 {ex : List Addr} {h : Heap} {u : Value} {a b : Int} {C : Value → Prop} (V : Rd prog w ex h u (.tup [.int a, .int b])) (k : ∀ l ta tb, l ∉ ex → IsTup h l #[.int a ta, .int b tb] → C (.ref l)) : C u := by
  apply Rd.tupE V; intro l us n t r
  refine el_eeaa (r.two) fun x y e rx ry => ?_
  subst e
  cases rx; cases ry
  exact k _ _ _ n t
/-- tuple(x + y for x, y in zip(..)) over two pairs of numbers -/
theorem WE.tupZip (G : Glb h₀ gl) {i c P : Nat} {mg : Str → Option Value} {bm : Addr} {ob : Obj} (hi : σ[i]? = some (.obj (tabOP i P))) (T : IsTab h₀ c P) (B : BMod h₀ mainGlobals mg bm ob) (hc : codeOf sc = some c) {xt xz xa xb : Str} {pt pz' pa pb ppt p₁ p₂ pe pos gpos cpos : Pos} {x1 : Nat} {e₁ e₂ : Expr} {scope : Scope}
    (ht : gl xt = some (.type "tuple")) (hkt : sc.names.lookup xt = some .globalImplicit) (hz : gl xz = some (.type "zip")) (hkz : sc.names.lookup xz = some .globalImplicit)
    (hs : (scope.names.all (fun p => p.2 != .cell && p.2 != .free) && scope.names.lookup (".0" : Str) == some .local && scope.names.lookup xa == some .local && scope.names.lookup xb == some .local && decide (xa ≠ xb) && scope.kind == .function && !scope.isCoroutine) = true)
    (hda : (xa == ("__debug__" : Str)) = false) (hdb : (xb == ("__debug__" : Str)) = false) (hdt : (xt == ("__debug__" : Str)) = false) (hdz : (xz == ("__debug__" : Str)) = false)
    (h : WE prog w h₀ n sc m e₁ σ fun v₁ σ₁ => WE prog w h₀ n sc m e₂ σ₁ fun v₂ σ₂ => σ₂ = σ ∧ ∃ a b c d : Int, v₁ = .d (.tup [.int a, .int b]) ∧ v₂ = .d (.tup [.int c, .int d]) ∧ K (.d (.tup [.int (a + c), .int (b + d)])) σ)
    (hst : ∀ env, starEach [e₁, e₂] env = (false, eval e₁ env) :: starEach [e₂] env := by intro _; rfl) (hst₂ : ∀ env, starEach [e₂] env = (false, eval e₂ env) :: starEach [] env := by intro _; rfl) :
    WE prog w h₀ n sc m (.Call (.Name xt pt) [.GeneratorExp (.BinOp (.Name xa p₁) .Add (.Name xb p₂) pe) [⟨.Tuple [.Name xa pa, .Name xb pb] x1 ppt, .Call (.Name xz pz') [e₁, e₂] [] cpos, [], 0⟩] scope gpos] [] pos) σ K := by
  simp only [Bool.and_eq_true, List.all_eq_true, bne_iff_ne, beq_iff_eq, decide_eq_true_eq, Bool.not_eq_true'] at hs
  obtain ⟨⟨⟨⟨⟨⟨s1, s2⟩, s3⟩, s4⟩, s5⟩, s6⟩, s7⟩ := hs
  intro A env fs as s hA hE R F
  refine Call_Name rfl (wpAny_mono (WE.glob (K := fun v σ' => v = .g (.type "tuple") ∧ σ' = σ) G ht hkt ⟨rfl, rfl⟩ hdt A env fs as s hA hE R F) (fun u s₁ zf82 => ?_) fun _ _ x => x)
  apply PostE.elgg zf82; intro a₁ st R₁
  have F₁ := F.stepE R.nd st
  refine callWith_type1 ?_ rfl rfl
  refine Calls.spliced_cons (wpAny_GeneratorExp_walksQT (cl := []) hA.handled s7 (closureFor_none fun y hy => (s1 y hy).2) (fun y hy => (s1 y hy).1) s2 s3 s4 s5 s6 (by have := hA.depth; lia -abstractProof) ?_ (fun _ => rfl))
  refine Call_Name rfl (wpAny_mono (WE.glob (K := fun v σ' => v = .g (.type "zip") ∧ σ' = σ) G hz hkz ⟨rfl, rfl⟩ hdz A env fs a₁ s₁ hA hE R₁ F₁) (fun u s₂ zf89 => ?_) fun _ _ x => x)
  apply PostE.elgg zf89; intro a₂ st₂ R₂
  have F₂ := F₁.stepE R₁.nd st₂
  refine callWith_type1 ?_ (hst env) (by rw [hst₂]; rfl)
  rw [hst, hst₂]
  refine Calls.spliced_cons (wpAny_mono (h A env fs a₂ s₂ hA hE R₂ F₂) (fun u₁ s₃ zf96 => PostE.el zf96 fun v₁ a₃ σ₃ st₃ R₃ V₁ k₁ => Calls.spliced_cons ?_) fun _ _ x => x)
  have F₃ := F₂.stepE R₂.nd st₃
  refine wpAny_mono (k₁ A env fs a₃ s₃ hA hE R₃ F₃) (fun u₂ s₄ zf98 => PostE.el zf98 fun v₂ a₄ σ₄ st₄ R₄ V₂ zk => el_aeeeeaa zk fun eσ a b c' d e1 e2 kk => Calls.spliced_nil ?_) fun _ _ x => x
  have R₄ : Rel prog w h₀ fs a₄ σ s₄ := eσ ▸ R₄
  have s04 : Stp [] as.length as s a₄ s₄ := ((st.transE st₂).transE st₃).transE st₄
  have W₁ : Rd prog w (a₄ ++ fs) s₄.heap u₁ (.tup [.int a, .int b]) := (V₁.stepE st₄).asD e1
  have W₂ : Rd prog w (a₄ ++ fs) s₄.heap u₂ (.tup [.int c', .int d]) := V₂.asD e2
  apply W₁.ints2; intro l1 tx₁ ty₁ n1 t1
  apply W₂.ints2; intro l2 tx₂ ty₂ n2 t2
  refine call_zipT t1 t2 fun h₅ Z D hsz₅ hk₅ => wpAny_pyIter_zip Z.zip ?_
  have R₅ : Rel prog w h₀ fs a₄ σ { s₄ with heap := h₅ } := R₄.kept hk₅ R₄.bare
  have kp₅ : ∀ b o, h₀.get? b = some o → h₅.get? b = some o := fun b o e => (R₅.base b o e).1
  refine ⟨G.lim.keeps kp₅, ?_⟩
  refine el_aeaa (R₅.isCode hi T) fun haP ps hP₅ htr₅ hC₅ => ?_
  refine genexprCodeT (hE.code c hc) hC₅ hP₅ htr₅ fun code h₆ tk₆ ps' hx₆ hop htr => ?_
  have hPlt : P < s₄.heap.objs.size := by
    obtain ⟨o, e⟩ := R₄.there P (List.mem_append_left _ (List.mem_of_getElem? haP)); exact Heap.lt_size e
  have hl1P : l1 ≠ P := fun q => n1 (by rw [q]; exact List.mem_append_left _ (List.mem_of_getElem? haP))
  have hl2P : l2 ≠ P := fun q => n2 (by rw [q]; exact List.mem_append_left _ (List.mem_of_getElem? haP))
  have big : ∀ j, s₄.heap.objs.size + j ≠ P := fun j q => by lia -abstractProof
  have big0 : s₄.heap.objs.size ≠ P := fun q => by lia -abstractProof
  have R₆ : Rel prog w h₀ fs a₄ σ { s₄ with heap := h₆, toks := tk₆ } := by
    have := R₅.setE (s' := { s₄ with heap := h₆, toks := tk₆ }) (x := .obj (tabOP i P)) haP (fun b o hb e => hx₆ b o hb e) ⟨_, hop⟩ (in_eaaea _ hop haP ps' rfl htr) R₅.bare
    rw [set_same hi] at this
    exact this
  have kp₆ : ∀ b o, h₀.get? b = some o → h₆.get? b = some o := fun b o e => (R₆.base b o e).1
  have s06 : Stp [] as.length as s a₄ { s₄ with heap := h₆, toks := tk₆ } := s04.transE ((Stp.keptAll (s' := { s₄ with heap := h₅ }) hk₅ rfl).trans (Stp.setE haP (fun b o hb e => hx₆ b o hb e) ⟨_, hop⟩ rfl))
  rw [hE.globals]
  refine wpAny_builtinsFor (s := { s₄ with heap := h₆, toks := tk₆ }) (B.ns.keeps kp₆) B.name B.ne (kp₆ _ _ B.obj) B.cls B.dict B.data ?_
  refine el_ee (Z.to) fun zto1 zto2 zto => ?_
  have Z₆ : ZipT h₆ (s₄.heap.objs.size + 4) (s₄.heap.objs.size + 2) (s₄.heap.objs.size + 3) s₄.heap.objs.size (s₄.heap.objs.size + 1) l1 l2 .none 0 #[.int a tx₁, .int b ty₁] #[.int c' tx₂, .int d ty₂] :=
    ⟨hx₆ _ _ (big 4) Z.zip, hx₆ _ _ (big 2) Z.ti, (in_ee _ _ (hx₆ _ _ (big 3) zto)), Z.one.at fun o e => hx₆ _ o big0 e, Z.two.at fun o e => hx₆ _ o (big 1) e, Z.xs.at fun o e => hx₆ _ o hl1P e, Z.ys.at fun o e => hx₆ _ o hl2P e⟩
  have hcs : cStatics < s₄.heap.objs.size := by
    have hl := G.lim.keeps (h' := s₄.heap) fun b o e => (R₄.base b o e).1
    refine el_ea (hl) fun _ hn _ => ?_; try clear hl; exact hn.lt
  refine ⟨s₄.heap.objs.size + 4, _, _, 2, _, _, _, fun _ => true, fun j y => ∃ t, y = .int (if j = 0 then a + c' else b + d) t, rfl, fun A' hA' => walks_zipT hA' _ _ _ _ _ l1 l2 D #[.int a tx₁, .int b ty₁] #[.int c' tx₂, .int d ty₂] rfl, ?_, Z₆, ?_, G.lim.keeps kp₆, ?_, ?_, ?_⟩
  · rintro j vals ⟨x, y, _, _, rfl⟩; exact ⟨x, y, rfl⟩
  · intro q hq
    obtain ⟨z1, z2, ⟨z3, z4, z5⟩, ⟨o1, e1, _⟩, ⟨o2, e2, _⟩, ⟨o3, e3, _⟩, ⟨o4, e4, _⟩⟩ := Z₆
    simp only [List.mem_cons, List.not_mem_nil, or_false] at hq
    rcases hq with rfl | rfl | rfl | rfl | rfl | rfl | rfl
    · exact Heap.lt_size z1
    · exact Heap.lt_size z2
    · exact Heap.lt_size z5
    · exact Heap.lt_size e1
    · exact Heap.lt_size e2
    · exact Heap.lt_size e3
    · exact Heap.lt_size e4
  · intro q
    simp only [List.mem_cons, List.not_mem_nil, or_false] at q
    rcases q with q | q | q | q <;> (rw [q] at hcs; first | exact absurd hcs (Nat.not_lt.mpr (Nat.le_add_right _ _)) | exact absurd hcs (Nat.lt_irrefl _))
  · intro href _
    refine ⟨fun A' E' j va vb t m₂ hA' _ hn _ _ _ => ?_, fun A' E' j va vb t m₂ hA' hP _ hn ha hb _ => ?_⟩
    · exact wpAny_pure (⟨rfl, in_eea t.heap t.toks rfl (fun _ _ e => e)⟩)
    · refine el_eeaa (hP) fun x y h1 h2 e => ?_; try clear hP
      have ev : va = x ∧ vb = y := by simpa using congrArg Array.toList e
      obtain ⟨rfl, rfl⟩ := ev
      have kk₁ : (genEnv scope [] h₆.objs.size code builtinsNs env).kindOf xa = some .local := s3
      have kk₂ : (genEnv scope [] h₆.objs.size code builtinsNs env).kindOf xb = some .local := s4
      refine wpAny_BinOp (wpAny_Name (wpAny_loadName_local s6 kk₁ hn ha (wpAny_Name (wpAny_loadName_local s6 kk₂ hn hb ?_) hdb)) hda)
      match j, h1, h2 with
      | 0, h1, h2 => simp at h1 h2; subst h1; subst h2; exact add_int (⟨⟨_, rfl⟩, in_eea t.heap _ rfl (fun _ _ e => e)⟩)
      | 1, h1, h2 => simp at h1 h2; subst h1; subst h2; exact add_int (⟨⟨_, rfl⟩, in_eea t.heap _ rfl (fun _ _ e => e)⟩)
      | j + 2, h1, h2 => simp at h1
  · intro ga h₇ tk₇ gs hgs hlt hsz₇ hk₇ W hst₇
    refine Calls.spliced_nil ?_
    have hT : ∀ j s', GenAt prog w A.in4 ga s₄.gens.size h₆.objs.size (List.range h₆.objs.size) [s₄.heap.objs.size + 4, s₄.heap.objs.size + 3, s₄.heap.objs.size, s₄.heap.objs.size + 1] (fun _ => true) 2 (fun j y => ∃ t, y = .int (if j = 0 then a + c' else b + d) t) j s' → s'.TypeIs (.ref ga) "generator" := by
      rintro j s' ⟨⟨o, _, _, ho, hc, _⟩, _⟩
      exact ⟨o, ho, hc⟩
    refine call_tuple_gen W.in4_3 hT hst₇ (fun q hq => ?_) (List.mem_cons_self ..) (fun s₈ acc hm hacc => ?_) (by rw [sizeLine_eq]; decide)
    · show q < h₇.objs.size
      rw [hsz₇]
      rcases List.mem_cons.mp hq with rfl | hq
      · exact Nat.lt_succ_self _
      · rcases List.mem_cons.mp hq with rfl | hq
        · exact Nat.lt_succ_of_lt hlt
        · exact Nat.lt_succ_of_lt (Nat.lt_trans (List.mem_range.mp hq) hlt)
    · have hwr : ∀ q, q < s₄.heap.objs.size → q ∉ h₆.objs.size :: [s₄.heap.objs.size + 4, s₄.heap.objs.size + 3, s₄.heap.objs.size, s₄.heap.objs.size + 1] := fun q hq hm => by
        have h64 : s₄.heap.objs.size ≤ h₆.objs.size := by
          obtain ⟨z1, _⟩ := Z₆
          exact Nat.le_of_lt (Nat.lt_of_le_of_lt (Nat.le_add_right _ 4) (Heap.lt_size z1))
        simp only [List.mem_cons, List.not_mem_nil, or_false] at hm
        rcases hm with rfl | rfl | rfl | rfl | rfl
        · exact absurd hq (Nat.not_lt.mpr h64)
        · exact absurd hq (Nat.not_lt.mpr (Nat.le_add_right _ _))
        · exact absurd hq (Nat.not_lt.mpr (Nat.le_add_right _ _))
        · exact absurd hq (Nat.lt_irrefl _)
        · exact absurd hq (Nat.not_lt.mpr (Nat.le_add_right _ _))
      have k68 : ∀ q o, q < s₄.heap.objs.size → h₆.get? q = some o → s₈.heap.get? q = some o := fun q o hq e => hm.heap q o (hwr q hq) (hk₇ q o e)
      have k48 : ∀ q o, q ≠ P → s₄.heap.get? q = some o → s₈.heap.get? q = some o := fun q o hq e => k68 q o (Heap.lt_size e) (hx₆ q o hq (hk₅ q o e))
      have hop₈ := k68 P _ hPlt hop
      have R₈ : Rel prog w h₀ fs a₄ σ s₈ := by
        have := R₄.setE (s' := s₈) (x := .obj (tabOP i P)) haP k48 ⟨_, hop₈⟩ (in_eaaea _ hop₈ haP ps' rfl htr) (AllBare.movedS (s := { s₄ with gens := s₄.gens.push gs, toks := tk₇, heap := h₇ }) (R₄.bare.push hgs) hm)
        rw [set_same hi] at this
        exact this
      have s08 : Stp [] as.length as s a₄ s₈ := s04.transE (Stp.setE haP k48 ⟨_, hop₈⟩ hm.os)
      obtain ⟨hz2, hall⟩ := hacc
      have hlen : acc.size = 2 := hz2
      have g0 : acc[0]? = some acc[0] := Array.getElem?_eq_getElem (by lia -abstractProof)
      have g1 : acc[1]? = some acc[1] := Array.getElem?_eq_getElem (by lia -abstractProof)
      refine el_eae (hall 0 _ g0) fun j0 e0 t0 v0 => ?_
      refine el_eae (hall 1 _ g1) fun j1 e1 t1' v1 => ?_
      have e0' : (0 : Nat) = j0 := by have : ([0, 1] : List Nat)[0]? = some j0 := e0; simpa using this
      have e1' : (1 : Nat) = j1 := by have : ([0, 1] : List Nat)[1]? = some j1 := e1; simpa using this
      subst e0'; subst e1'
      have hacc2 : acc = #[.int (a + c') t0, .int (b + d) t1'] := by
        apply Array.ext
        · simpa using hlen
        · intro j h1 h2
          have hj : j < 2 := by simpa using h2
          match j, hj with
          | 0, _ => simpa using v0
          | 1, _ => simpa using v1
      rw [hacc2]
      have V₈ : VR prog w fs a₄ (s₈.heap.push { cls := .type "tuple", data := .seq #[.int (a + c') t0, .int (b + d) t1'] }) (.d (.tup [.int (a + c'), .int (b + d)])) (.ref s₈.heap.objs.size) :=
        Rd.tup (vs := [.int (a + c') t0, .int (b + d) t1']) (next_out R₈) (in_eaae _ (Heap.get?_push_size _ rfl) rfl 0 rfl) (.cons (.int _ _) (.cons (.int _ _) .nil))
      exact (PostE.push (t := s₈.toks) R₈ V₈ kk).step s08
end
end Mine
end
section
open PySem.AutoSeq1 (wpAny_loadPart')
namespace Mine
set_option maxRecDepth 100000
theorem fn_ga : typeLookup (.type "function") "__getattribute__" = pure (some (.builtin "object.__getattribute__")) := by rw [typeLookup_type, builtinLookup_eq_fast]; kernel_rfl
theorem fn_read : typeLookup (.type "function") "read" = pure none := by rw [typeLookup_type, builtinLookup_eq_fast]; kernel_rfl
theorem fn_getattr : typeLookup (.type "function") "__getattr__" = pure none := by rw [typeLookup_type, builtinLookup_eq_fast]; kernel_rfl
theorem slot_fn_ga : Slot "function" "__getattribute__" "object.__getattribute__" :=
  .of (owner := "object") (n := "__getattribute__") (by rw [typeLookup_type, builtinLookup_eq_fast]; kernel_rfl) (by decide +kernel) (by decide +kernel) (by decide +kernel)
    (by first | exact .inl (by decide +kernel) | exact .inr (by decide +kernel)) (by rw [isSubtype_type]; kernel_rfl)
section
variable {prog : Program} {w : World} {A : Around} {E : Value → Shared → Prop} {h : Heap} {g : Array GenState} {d : Drawn} {t : Nat} {os : OsState}
open PySem.Builtin PySem.Builtin.ObjectAttr in
theorem load_fn {x dx : Addr} {o : Obj} {mA : Str → Option Value} {name : Str} {v : Value} {expr : Bool} {Q : Value → Shared → Prop} (hx : h.get? x = some o) (hc : o.cls = .type "function") (hnc : ∀ c, o.data ≠ .cls c) (hd : o.dict = some dx) (hns : h.Ns dx mA) (hv : mA name = some v)
    (hB : typeLookup (.type "function") name = pure none) (hh : handedOut v = pure v) (hq : Q v ⟨h, g, d, t + 1, os⟩) :
    wpAny (model prog w) A (getAttr (.ref x) name expr) Q E ⟨h, g, d, t, os⟩ := by
  unfold getAttr getAttrBy
  repeat (first | (with_reducible refine wpAny_loadPart_at hx ?_; rw [hc]) | rw [fn_ga] | wp_step)
  rw [if_neg (by cases expr <;> simp [onTheHeap])]
  unfold boundAndCalled
  have hT : (⟨h, g, d, t + 1, os⟩ : Shared).TypeIs (.ref x) "function" := ⟨o, hx, hc⟩
  have f3 := slot_fn_ga.bind (.ref x)
  refine wpAny_bind (wpAny_of_eq f3 ?_)
  refine wpAny_call_entry slot_fn_ga hT PySem.F.entry_object_getattribute ?_ (PySem.F.args_object_getattribute_2 _ _)
  unfold Builtin.«object.__getattribute__»
  repeat (first | (with_reducible refine wpAny_loadPart_at hx ?_; rw [hc]) | rw [hB] | (with_reducible refine wpAny_nsGet hns ?_; rw [hv]) | wp_step)
  split
  · rename_i c hcd
    exact absurd hcd (hnc c)
  unfold instanceDict
  repeat (first | (with_reducible refine wpAny_loadPart_at hx ?_; rw [hc]) | wp_step)
  rw [hd]
  repeat (first | (with_reducible refine wpAny_nsGet hns ?_; rw [hv]) | wp_step)
  refine ⟨_, rfl, ?_⟩
  show wpAny _ _ (handedOut v) _ _ _
  rw [hh]
  exact wpAny_pure hq
theorem meth_fn {x dx : Addr} {o : Obj} {mA : Str → Option Value} {name : Str} {v : Value} {pl : Sem Bool} {Q : Value × List Value → Shared → Prop} (hx : h.get? x = some o) (hc : o.cls = .type "function") (hnc : ∀ c, o.data ≠ .cls c) (hd : o.dict = some dx) (hns : h.Ns dx mA) (hv : mA name = some v)
    (hB : typeLookup (.type "function") name = pure none) (hh : handedOut v = pure v) (hq : Q (v, []) ⟨h, g, d, t + 1, os⟩) :
    wpAny (model prog w) A (getMethod (.ref x) name pl) Q E ⟨h, g, d, t, os⟩ := by
  have hT : (⟨h, g, d, t, os⟩ : Shared).TypeIs (.ref x) "function" := ⟨o, hx, hc⟩
  unfold getMethod specialOf
  refine wpAny_bind (wpAny_bind (wpAny_typeOf hT (wpAny_of_eq fn_ga ?_)))
  dsimp only
  rw [if_neg (by rw [PySem.F.canon_object_ga]; exact Bool.false_ne_true)]
  refine wpAny_bind (wpAny_bind (wpAny_typeOf hT (wpAny_of_eq fn_getattr ?_)))
  rw [if_neg (by simp)]
  refine wpAny_bind (wpAny_bind (wpAny_typeOf hT (wpAny_of_eq hB ?_)))
  dsimp only
  exact wpAny_bind (load_fn hx hc hnc hd hns hv hB hh (wpAny_pure hq))
end
end Mine
end
section
namespace Mine

/-- values that the dict of an object holds -/
noncomputable def AVR (bd : Nat) (l : Nat → Option Addr) : Vl → Value → Prop
  | .d (.int i), u => ∃ t, u = .int i t
  | .d (.str x), u => ∃ t, u = .str x t
  | .m i, u => i < bd ∧ ∃ a, l i = some a ∧ u = .ref a
  | _, _ => False
noncomputable def DObj (o : Obj) (mA : Str → Option Value) : Prop := ∃ es ep, o.data = .dict es ep ∧ StrKeys es ∧ UniqKeys es ∧ ∀ name, nsFind es name = mA name
noncomputable def AtIs (bd : Nat) (l : Nat → Option Addr) (at_ : List (Str × Vl)) (mA : Str → Option Value) : Prop :=
  ∀ x, (at_.lookup x = none ∧ mA x = none) ∨ ∃ v u, at_.lookup x = some v ∧ mA x = some u ∧ AVR bd l v u
theorem AVR.mono {bd : Nat} {l l' : Nat → Option Addr} (k : ∀ i a, i < bd → l i = some a → l' i = some a) {v : Vl} {u : Value} (h : AVR bd l v u) : AVR bd l' v u := by
  cases v with
  | d x => cases x <;> exact h
  | m i => refine el_aea (h) fun h1 a h2 h3 => ?_; try clear h; exact ⟨h1, a, k i a h1 h2, h3⟩
  | g v => exact h
noncomputable def attrOP (bd : Nat) (at_ : List (Str × Vl)) : OP where
  bd := bd
  P l _ _ o := ∃ mA, DObj o mA ∧ AtIs bd l at_ mA
  mono := by
    intro l l' ex ex' h h' o k _ ⟨mA, h1, h2⟩
    refine ⟨mA, h1, fun x => ?_⟩
    rcases h2 x with q | ⟨v, u, h3, h4, h5⟩
    · exact .inl q
    · exact .inr (in_eeaa v u h3 h4 (h5.mono k))
noncomputable def instOP (C : Addr) (id : Nat) : OP where
  bd := id + 1
  P l _ _ o := ∃ d, l id = some d ∧ o.cls = .ref C ∧ (∀ c, o.data ≠ .cls c) ∧ o.dict = some d
  mono := by
    intro l l' ex ex' h h' o k _ ⟨d, h1, h2⟩
    exact ⟨d, k id d (Nat.lt_succ_self _) h1, h2⟩

/-- an object of class C: object ix, its dict object id -/
structure Ins (C : Addr) (σ : List MO) (ix id bd : Nat) (at_ : List (Str × Vl)) : Prop where
  ob : σ[ix]? = some (.obj (instOP C id))
  dt : σ[id]? = some (.obj (attrOP bd at_))
  ne : ix ≠ id

section
variable {prog : Program} {w : World} {h₀ : Heap} {fs as as' as'' ow : List Addr} {σ σ' σ'' : List MO} {s s' s'' : Shared} {k n : Nat} {sc : Scope} {m : List (Str × Vl)} {K : Vl → List MO → Prop} {gl : Str → Option Value}
  {env : Env} {A : Around} {I : Addr} {Ks : Fl → List (Str × Vl) → List MO → Prop} {C N : Addr} {mN : Str → Option Value}

theorem Rel.get (R : Rel prog w h₀ fs as σ s) {i : Nat} {x : MO} (h : σ[i]? = some x) : ∃ a, as[i]? = some a := by
  have : i < as.length := by rw [R.len]; exact (List.getElem?_eq_some_iff.mp h).1
  exact ⟨as[i], List.getElem?_eq_getElem this⟩
theorem Rel.inj (R : Rel prog w h₀ fs as σ s) {i j : Nat} {a : Addr} (h1 : as[i]? = some a) (h2 : as[j]? = some a) : i = j := by
  have hn := (List.nodup_append.mp R.nd).1
  obtain ⟨g1, e1⟩ := List.getElem?_eq_some_iff.mp h1
  obtain ⟨g2, e2⟩ := List.getElem?_eq_some_iff.mp h2
  exact (List.getElem_inj hn).mp (e1.trans e2.symm)
theorem DObj.ns1 {h : Heap} {a : Addr} {o : Obj} {mA : Str → Option Value} (x : DObj o mA) (e : h.get? a = some o) : h.Ns1 a mA :=
  let ⟨es, ep, r⟩ := x; ⟨o, es, ep, e, r⟩
theorem Ins.at {ix id bd : Nat} {at_ : List (Str × Vl)} {u : Value} (J : Ins C σ ix id bd at_) (R : Rel prog w h₀ fs as σ s) (V : VR prog w fs as s.heap (.m ix) u) :
    ∃ x d o mA, u = .ref x ∧ as[ix]? = some x ∧ as[id]? = some d ∧ s.heap.get? x = some o ∧ o.cls = .ref C ∧ o.dict = some d ∧ s.heap.Inst x C mA ∧ AtIs bd (fun i => as[i]?) at_ mA := by
  refine el_ea (V) fun x hx zq2 => ?_; subst zq2; try clear V
  refine el_eaeaaa (R.mo ix x _ hx J.ob) fun o ho d hd h1 h2 h3 => ?_
  refine el_eaea (R.mo id d _ hd J.dt) fun o' ho' mA h4 h5 => ?_
  have hne : d ≠ x := fun q => J.ne (R.inj hx (q ▸ hd))
  exact ⟨x, d, o, mA, rfl, hx, hd, ho, h1, h3, ⟨o, ho, h1, h2, .inr ⟨d, h3, hne, h4.ns1 ho'⟩⟩, h5⟩
theorem AVR.vr {bd : Nat} {v : Vl} {u : Value} {h : Heap} (x : AVR bd (fun i => as[i]?) v u) : VR prog w fs as h v u := by
  cases v with
  | d t =>
    cases t with
    | int i => obtain ⟨t, rfl⟩ := x; exact Rd.int _ _
    | str i => obtain ⟨t, rfl⟩ := x; exact Rd.str _ _
    | _ => exact x.elim
  | m i => refine el_aea (x) fun _ a h1 h2 => ?_; try clear x; exact ⟨a, h1, h2⟩
  | g v => exact x.elim
theorem AVR.handed {bd : Nat} {l : Nat → Option Addr} {v : Vl} {u : Value} (x : AVR bd l v u) : handedOut u = pure u := by
  cases v with
  | d t =>
    cases t with
    | int i => obtain ⟨t, rfl⟩ := x; rfl
    | str i => obtain ⟨t, rfl⟩ := x; rfl
    | _ => exact x.elim
  | m i => refine el_aea (x) fun _ a h1 zq3 => ?_; subst zq3; try clear x; rfl
  | g v => exact x.elim

/-- x.name -/
theorem getA (X : ClsAt h₀ C N mN) {ix id bd : Nat} {at_ : List (Str × Vl)} {u : Value} {v : Vl} {name : Str} {Q : Value → Shared → Prop} (J : Ins C σ ix id bd at_) (R : Rel prog w h₀ fs as σ s) (V : VR prog w fs as s.heap (.m ix) u) (hv : at_.lookup name = some v)
    (hng : mN "__getattribute__" = none) (hna : mN name = none) (hB : typeLookup (.type "object") name = pure none) {expr : Bool}
    (hQ : ∀ r, VR prog w fs as s.heap v r → Q r { s with toks := s.toks + 1 }) : wpAny (model prog w) A (getAttr u name expr) Q NoE s := by
  refine el_eeeeaaaaaaa (J.at R V) fun x d o mA zq4 hx hd ho hc hdx I hat => ?_; subst zq4
  have kp : ∀ b o, h₀.get? b = some o → s.heap.get? b = some o := fun b o e => (R.base b o e).1
  refine el_eeeeeeeeeeee ((X.keeps kp).obj) fun nm q bs sn sub col dd k0 k1 k2 k3 k5 hC => ?_
  rcases hat name with ⟨q, _⟩ | ⟨v', r, h1, h2, h3⟩
  · rw [hv] at q; cases q
  rw [hv] at h1; cases h1
  obtain ⟨hh, g, dr, t, os⟩ := s
  exact load_attr hC (X.keeps kp).ns hng hna hB I h2 h3.handed (hQ r h3.vr)
theorem WE.attr (X : ClsAt h₀ C N mN) {o : Expr} {name : Str} {pos : Pos} (hna : mN name = none) (hB : typeLookup (.type "object") name = pure none) (hng : mN "__getattribute__" = none)
    (h : WE prog w h₀ n sc m o σ fun ov σ₁ => ∃ ix id bd at_ v, ov = .m ix ∧ Ins C σ₁ ix id bd at_ ∧ at_.lookup name = some v ∧ K v σ₁)
    (he : ∀ env, eval (.Attribute o name pos) env = (do
      let o' ← eval o env
      standAt pos.atName
      let r ← holding [o'] (getAttr o' name true)
      letTemporaryGo o o' r
      pure r) := by intro _; with_unfolding_all rfl) : WE prog w h₀ n sc m (.Attribute o name pos) σ K := by
  intro A env fs as s hA hE R F
  refine Attribute_any_ (wpAny_mono (h A env fs as s hA hE R F) (fun u s₁ zf103 => PostE.el zf103 fun v a₁ σ₁ st R₁ V zk => el_eeeeeaaa zk fun ix id bd at_ v' e J hv kk => ?_) fun _ _ x => x) (he env)
  subst e
  exact getA X J R₁ V hv hng hna hB fun r V' => (PostE.mk (v := v') (as' := a₁) (σ' := σ₁) (st.toks _) (R₁.toks _) V' kk)

/-- what may be stored -/
inductive AOk (bd : Nat) : Vl → Prop
  | int (i) : AOk bd (.d (.int i))
  | str (x) : AOk bd (.d (.str x))
  | m {i} : i < bd → AOk bd (.m i)
theorem AOk.avr {bd : Nat} {v : Vl} {u : Value} {h : Heap} (x : AOk bd v) (V : VR prog w fs as h v u) : AVR bd (fun i => as[i]?) v u := by
  cases x with
  | int i => exact V.int_inv
  | str i => exact V.str_inv
  | m hi => refine el_ea (V) fun a h1 h2 => ?_; try clear V; exact ⟨hi, a, h1, h2⟩
noncomputable def two2u (f : Value → Value → Sem Unit) : List Value → Sem Unit
  | [a, b] => f a b
  | _ => .unsupported ""
theorem AVR.up {bd bd' : Nat} (hb : bd ≤ bd') {l : Nat → Option Addr} {v : Vl} {u : Value} (x : AVR bd l v u) : AVR bd' l v u := by
  cases v with
  | d t => cases t <;> exact x
  | m i => obtain ⟨h1, h2⟩ := x; exact ⟨Nat.lt_of_lt_of_le h1 hb, h2⟩
  | g v => exact x
theorem lookup_mem {at_ : List (Str × Vl)} {x : Str} {v : Vl} (h : at_.lookup x = some v) : x ∈ at_.map (·.1) := List.mem_map.mpr ⟨(x, v), mem_of_lookup h, rfl⟩
theorem WU.setA (X : ClsAt h₀ C N mN) {ix id bd bd' : Nat} {at_ at' : List (Str × Vl)} {v : Vl} {name : Str} {Ku : List MO → Prop} (J : Ins C σ ix id bd at_) (hv : AOk bd' v) (hb : bd ≤ bd') (hat : ∀ x, at'.lookup x = if x = name then some v else at_.lookup x)
    (hl : at_.length ≤ 1000) (hns : mN "__setattr__" = none) (hna : mN name = none) (hB : typeLookup (.type "object") name = pure none)
    (hq : Ku (σ.set id (.obj (attrOP bd' at')))) : WU prog w h₀ n [.m ix, v] (two2u fun a b => setAttr a name b) σ Ku := by
  intro A fs as s us hA R V
  cases V with | cons V₁ r => cases r with | @cons _ u _ _ V₂ r => cases r with | nil =>
    refine el_eeeeaaaaaaa (J.at R V₁) fun x d o mA zq4 hx hd ho hc hdx I hatt => ?_; subst zq4
    have kp : ∀ b o, h₀.get? b = some o → s.heap.get? b = some o := fun b o e => (R.base b o e).1
    refine el_eeeeeeeeeeee (X.obj) fun nm q bs sn sub col dd k0 k1 k2 k3 k5 hC₀ => ?_
    have hxC : x ≠ C := fun q => (R.base _ _ hC₀).2 (q ▸ List.mem_append_left _ (List.mem_of_getElem? hx))
    have hu := hv.avr V₂
    obtain ⟨hh, g, dr, t, os⟩ := s
    refine store_attr (ns := at_.map (·.1)) PySem.F.store_object (kp _ _ hC₀) (X.keeps kp).ns hns hna hB hxC I (fun h' tk' I' hk hsame => ?_) (fun y hy => ?_) (by rw [List.length_map, sizeLine_eq]; lia -abstractProof)
    · refine el_eaaaa (hsame o ho) fun o₁ e₁ c₁ d₁ sl₁ dk₁ => ?_
      have eo : o₁ = o := by
        obtain ⟨oc, od, odt, osl⟩ := o
        obtain ⟨pc, pd, pdt, psl⟩ := o₁
        cases c₁; cases d₁; cases sl₁
        have := dk₁ d hdx
        cases hdx; cases this; rfl
      subst eo
      have hk' : ∀ b ob, b ≠ d → hh.get? b = some ob → h'.get? b = some ob := fun b ob hb e => by
        by_cases q : b = x
        · subst q
          have := ho.symm.trans e
          cases this; exact e₁
        · exact hk b ob q (fun o₀ d' e₀ ed => by
            have := ho.symm.trans e₀
            cases this
            rw [hdx] at ed; cases ed; exact hb) e
      refine el_eaaa (I') fun o' e' _ _ hd' => ?_; try clear I'
      have hns' : h'.Ns1 d fun y => if y = name then some u else mA y := by
        rcases hd' with ⟨hn0, _⟩ | ⟨d', hd', _, hns'⟩
        · have := e₁.symm.trans e'; cases this
          rw [hdx] at hn0; cases hn0
        · have := e₁.symm.trans e'; cases this
          rw [hdx] at hd'; cases hd'; exact hns'
      refine el_eeea (hns') fun od es ep eo r => ?_; try clear hns'
      refine (in_eeaa as _ (Stp.setE hd hk' ⟨_, eo⟩ rfl) (R.setE (x := .obj (attrOP bd' at')) hd hk' ⟨_, eo⟩ (in_eaea od eo _ (in_ee es ep r) (fun y => ?_)) R.bare) hq)
      rw [hat y]
      by_cases q : y = name
      · rw [if_pos q, if_pos q]; exact .inr (in_eeaa v u rfl rfl hu)
      · rw [if_neg q, if_neg q]
        rcases hatt y with q | ⟨v', u', h3, h4, h5⟩
        · exact .inl q
        · exact .inr (in_eeaa v' u' h3 h4 (h5.up hb))
    · rcases hatt y with ⟨_, q⟩ | ⟨v', u', h3, h4, h5⟩
      · exact absurd q hy
      · exact lookup_mem h3
/-- x.name = e -/
theorem W1.setAttr {o e : Expr} {name : Str} {p p' : Pos} (h : WE prog w h₀ n sc m e σ fun v σ₁ => WE prog w h₀ n sc m o σ₁ fun ov σ₂ => WU prog w h₀ n [ov, v] (two2u fun a b => PySem.setAttr a name b) σ₂ fun σ₃ => Ks .next m σ₃)
    (hs : ∀ env, swapsWith e (some (.Attribute o name p')) p.line env = pure false := by intro _; rfl) : W1 prog w h₀ n sc k m (.Assign [.Attribute o name p'] e p) σ Ks := by
  intro A env fs as s hA hE R F hl
  refine plainObj_wpAny_Assign_Attribute (wpAny_mono (h A env fs as s hA hE R F) (fun u s₁ zf178 => PostE.el zf178 fun v a₁ σ₁ st R₁ V k₁ => ?_) fun _ _ x => x) (hs env)
  have F₁ := F.stepE R.nd st
  refine wpAny_mono (k₁ A env fs a₁ s₁ hA hE R₁ F₁) (fun u₂ s₂ zf180 => PostE.el zf180 fun v₂ a₂ σ₂ st₂ R₂ V₂ k₂ => ?_) fun _ _ x => x
  have F₂ := F₁.stepE R₁.nd st₂
  refine wpAny_mono (k₂ A fs a₂ s₂ [u₂, u] hA R₂ (.cons V₂ (.cons (V.stepE st₂) .nil))) (fun _ s₄ zf182 => el_B zf182 fun a₄ σ₄ st₄ R₄ k₄ => ?_) fun _ _ x => x
  have s14 := (st.transE st₂).transE st₄
  exact (in_eeeeaaaaa .next m a₄ σ₄ rfl (s14.weaken (fun _ h => nomatch h) hl) R₄ (F₂.stepE R₂.nd st₄) (Nat.le_trans hl s14.grows) k₄)
/-- x.name op= e -/
theorem W1.augAttr (X : ClsAt h₀ C N mN) {o e : Expr} {name : Str} {op : Operator} {p p' : Pos} (hna : mN name = none) (hB : typeLookup (.type "object") name = pure none) (hng : mN "__getattribute__" = none)
    (h : WE prog w h₀ n sc m o σ fun ov σ₁ => ∃ ix id bd at_ old, ov = .m ix ∧ Ins C σ₁ ix id bd at_ ∧ at_.lookup name = some old ∧ WE prog w h₀ n sc m e σ₁ fun v σ₂ => WO prog w h₀ n [old, v] (bin2 (inplaceOp op)) σ₂ fun r σ₃ =>
      WU prog w h₀ n [ov, r] (two2u fun a b => PySem.setAttr a name b) σ₃ fun σ₄ => Ks .next m σ₄) : W1 prog w h₀ n sc k m (.AugAssign (.Attribute o name p') op e p) σ Ks := by
  intro A env fs as s hA hE R F hl
  refine wpAny_AugAssign_AttributeAny (wpAny_mono (h A env fs as s hA hE R F) (fun u s₁ zf190 => PostE.el zf190 fun v a₁ σ₁ st R₁ V zk => el_eeeeeaaa zk fun ix id bd at_ old e J hv k₁ => ?_) fun _ _ x => x)
  subst e
  have F₁ := F.stepE R.nd st
  refine getA X J R₁ V hv hng hna hB fun r Vr => ?_
  have R₁' := R₁.toks (s₁.toks + 1)
  refine wpAny_mono (k₁ A env fs a₁ { s₁ with toks := s₁.toks + 1 } hA hE R₁' F₁) (fun u₂ s₂ zf195 => PostE.el zf195 fun v₂ a₂ σ₂ st₂ R₂ V₂ k₂ => ?_) fun _ _ x => x
  have F₂ := FrameOk.stepE (s := { s₁ with toks := s₁.toks + 1 }) F₁ R₁.nd st₂
  refine wpAny_mono (k₂ A fs a₂ s₂ [r, u₂] hA R₂ (.cons (VR.stepE (s := { s₁ with toks := s₁.toks + 1 }) Vr st₂) (.cons V₂ .nil))) (fun u₃ s₃ zf197 => PostE.el zf197 fun v₃ a₃ σ₃ st₃ R₃ V₃ k₃ => ?_) fun _ _ x => x
  have F₃ := F₂.stepE R₂.nd st₃
  refine wpAny_mono (k₃ A fs a₃ s₃ [u, u₃] hA R₃ (.cons ((VR.stepE (s := { s₁ with toks := s₁.toks + 1 }) V st₂).stepE st₃) (.cons V₃ .nil))) (fun _ s₄ zf199 => el_B zf199 fun a₄ σ₄ st₄ R₄ k₄ => ?_) fun _ _ x => x
  have s14 := (((st.toks (s₁.toks + 1)).transE st₂).transE st₃).transE st₄
  exact (in_eeeeaaaaa .next m a₄ σ₄ rfl (s14.weaken (fun _ h => nomatch h) hl) R₄ (F₃.stepE R₃.nd st₄) (Nat.le_trans hl s14.grows) k₄)
end
end Mine
end
section
namespace Mine
section
variable {prog : Program} {w : World} {h₀ : Heap} {fs as as' as'' ow : List Addr} {σ σ' σ'' : List MO} {s s' s'' : Shared} {k n : Nat} {sc : Scope} {m : List (Str × Vl)} {K : Vl → List MO → Prop} {gl : Str → Option Value}
  {env : Env} {A : Around} {I : Addr} {Ks : Fl → List (Str × Vl) → List MO → Prop} {C N : Addr} {mN : Str → Option Value}

theorem Call_meth {o : Expr} {name : Str} {apos pos : Pos} {args : List Expr} {E : Value → Shared → Prop} {Q : Value → Shared → Prop}
    (hbase : attributeBase o name env (eval o env) = eval o env)
    (hfew : ((backTo pos (starEach args env)).all (fun x => !x.1) && (backToKw pos (keywordEach [] env)).all (fun x => x.1.isSome)
      && decide (args.length + ([] : List Keyword).length + (if ([] : List Keyword).isEmpty then 0 else 1) < 30)) = true)
    (hline : (apos.endLine == pos.line) = true)
    (h : wpAny (model prog w) A (eval o env) (fun ov s₁ => ∀ pl, wpAny (model prog w) A (getMethod ov name pl) (fun r s₂ => wpAny (model prog w) A (callWith pos r.1 r.2 (backTo pos (starEach args env)) []) Q E s₂) E s₁) E s) :
    wpAny (model prog w) A (eval (.Call (.Attribute o name apos) args [] pos) env) Q E s := by
  rw [arm_eval_Call, hbase]
  refine wpAny_bind (wpAny_mono h (fun ov s₁ h₁ => ?_) fun _ _ e => e)
  refine wpAny_bind (wpAny_standAt ?_)
  have hform : methodCallForm (args.length + ([] : List Keyword).length) (backTo pos (starEach args env)) (backToKw pos (keywordEach [] env)) = true := hfew
  have hpos : methodCallPos true o env apos pos = pure pos := by unfold methodCallPos; simp [hline]
  unfold methodCall
  rw [hform]
  refine wpAny_bind (wpAny_holding (wpAny_mono (h₁ _) (fun r s₂ h₂ => ?_) fun _ _ e => e))
  exact wpAny_bind (wpAny_of_eq hpos h₂)

/-- the method of an object -/
theorem methA (X : ClsAt h₀ C N mN) {ix id bd : Nat} {at_ : List (Str × Vl)} {u : Value} {name : Str} {f : Addr} {of : Obj} {y : Option Value} {pl : Sem Bool} {Q : Value × List Value → Shared → Prop} (J : Ins C σ ix id bd at_) (R : Rel prog w h₀ fs as σ s)
    (V : VR prog w fs as s.heap (.m ix) u) (hv : at_.lookup name = none) (hng : mN "__getattribute__" = none) (hnh : mN "__getattr__" = none) (hf : mN name = some (.ref f)) (hfo : h₀.get? f = some of) (hfc : of.cls = .type "function")
    (hB : typeLookup (.type "object") name = pure y) (hQ : Q (.ref f, [u]) s) : wpAny (model prog w) A (getMethod u name pl) Q NoE s := by
  refine el_eeeeaaaaaaa (J.at R V) fun x d o mA zq4 hx hd ho hc hdx I hat => ?_; subst zq4
  have kp : ∀ b o, h₀.get? b = some o → s.heap.get? b = some o := fun b o e => (R.base b o e).1
  refine el_eeeeeeeeeeee ((X.keeps kp).obj) fun nm q bs sn sub col dd k0 k1 k2 k3 k5 hC => ?_
  rcases hat name with ⟨_, q⟩ | ⟨v', r, h1, h2, h3⟩
  · obtain ⟨hh, g, dr, t, os⟩ := s
    exact method_of hC (X.keeps kp).ns hng hnh hf (kp _ _ hfo) hfc hB I q hQ
  · rw [hv] at h1; cases h1
/-- what a class's method needs -/
structure MethIs (h₀ : Heap) (mN : Str → Option Value) (name : Str) (f : Addr) : Prop where
  at_ : mN name = some (.ref f)
  fn : ∃ of fd, h₀.get? f = some of ∧ of.cls = .type "function" ∧ of.data = .func fd
  obj : ∃ y, typeLookup (.type "object") name = pure y
structure Quiet (mN : Str → Option Value) : Prop where
  ga : mN "__getattribute__" = none
  gt : mN "__getattr__" = none
  sa : mN "__setattr__" = none

/-- x.name(args) -/
theorem WE.callM (X : ClsAt h₀ C N mN) (Qt : Quiet mN) {o : Expr} {name : Str} {f : Addr} {apos pos : Pos} {e : Expr} {es : List Expr} (M : MethIs h₀ mN name f)
    (h : WE prog w h₀ n sc m o σ fun ov σ₁ => ∃ ix id bd at_, ov = .m ix ∧ Ins C σ₁ ix id bd at_ ∧ at_.lookup name = none ∧ WEs prog w h₀ n sc m (e :: es) σ₁ fun vs σ₂ => WO prog w h₀ n (ov :: vs) (fun us => call (.ref f) us) σ₂ K)
    (hbase : ∀ env, attributeBase o name env (eval o env) = eval o env := by intro _; rfl) (hline : (apos.endLine == pos.line) = true := by rfl)
    (he : ∀ env, starEach (e :: es) env = (false, eval e env) :: starEach es env := by intro _; rfl)
    (hfew : ∀ env, ((backTo pos (starEach (e :: es) env)).all (fun x => !x.1) && (backToKw pos (keywordEach [] env)).all (fun x => x.1.isSome)
      && decide ((e :: es).length + ([] : List Keyword).length + (if ([] : List Keyword).isEmpty then 0 else 1) < 30)) = true := by intro _; rfl) :
    WE prog w h₀ n sc m (.Call (.Attribute o name apos) (e :: es) [] pos) σ K := by
  intro A env fs as s hA hE R F
  refine el_eeaa (M.fn) fun of fd hfo hfc hdat => ?_
  obtain ⟨y, hB⟩ := M.obj
  refine Call_meth (hbase env) (hfew env) hline (wpAny_mono (h A env fs as s hA hE R F) (fun u s₁ zf pl => PostE.el zf fun v a₁ σ₁ st R₁ V zk => el_eeeeaaa zk fun ix id bd at_ e' J hv kk => ?_) fun _ _ x => x)
  replace V : VR prog w fs a₁ s₁.heap (.m ix) u := e' ▸ V; replace kk := (show v = Vl.m ix from e') ▸ kk
  refine methA X J R₁ V hv Qt.ga Qt.gt M.at_ hfo hfc hB ?_
  refine callWith_meth (h₀ := h₀) hdat hfo (wpAny_mono (kk A env fs a₁ s₁ pos hA hE R₁ (F.stepE R.nd st)) (fun us s₂ zf61 => PostEs.el zf61 fun vs a₂ σ₂ st₂ R₂ V₂ k₂ => ⟨fun b o e => (R₂.base b o e).1, ?_⟩) fun _ _ x => x) (he env)
  exact wpAny_mono (k₂ A fs a₂ s₂ (u :: us) hA R₂ (.cons (V.stepE st₂) V₂)) (fun _ _ p => (p.step st₂).step st) fun _ _ x => x
theorem WE.callM0 (X : ClsAt h₀ C N mN) (Qt : Quiet mN) {o : Expr} {name : Str} {f : Addr} {apos pos : Pos} (M : MethIs h₀ mN name f)
    (h : WE prog w h₀ n sc m o σ fun ov σ₁ => ∃ ix id bd at_, ov = .m ix ∧ Ins C σ₁ ix id bd at_ ∧ at_.lookup name = none ∧ WO prog w h₀ n [ov] (fun us => call (.ref f) us) σ₁ K)
    (hbase : ∀ env, attributeBase o name env (eval o env) = eval o env := by intro _; rfl) (hline : (apos.endLine == pos.line) = true := by rfl) :
    WE prog w h₀ n sc m (.Call (.Attribute o name apos) [] [] pos) σ K := by
  intro A env fs as s hA hE R F
  refine el_eeaa (M.fn) fun of fd hfo hfc hdat => ?_
  obtain ⟨y, hB⟩ := M.obj
  refine Call_meth (hbase env) rfl hline (wpAny_mono (h A env fs as s hA hE R F) (fun u s₁ zf pl => PostE.el zf fun v a₁ σ₁ st R₁ V zk => el_eeeeaaa zk fun ix id bd at_ e' J hv kk => ?_) fun _ _ x => x)
  replace V : VR prog w fs a₁ s₁.heap (.m ix) u := e' ▸ V; replace kk := (show v = Vl.m ix from e') ▸ kk
  refine methA X J R₁ V hv Qt.ga Qt.gt M.at_ hfo hfc hB ?_
  refine callWith_meth0 hdat (R₁.base _ _ hfo).1 ?_
  exact wpAny_mono (kk A fs a₁ s₁ [u] hA R₁ (.cons V .nil)) (fun _ _ p => p.step st) fun _ _ x => x
end
end Mine
end
section
namespace Mine
section
variable {prog : Program} {w : World} {h₀ : Heap} {fs as as' as'' ow : List Addr} {σ σ' σ'' : List MO} {s s' s'' : Shared} {k n : Nat} {sc : Scope} {m : List (Str × Vl)} {K : Vl → List MO → Prop} {gl : Str → Option Value}
  {env : Env} {A : Around} {I : Addr} {Ks : Fl → List (Str × Vl) → List MO → Prop} {C N : Addr} {mN : Str → Option Value}

theorem Rel.news {ns : List Addr} {xs : List MO} (R : Rel prog w h₀ fs as σ s) (hl : ns.length = xs.length) (hnd : ns.Nodup) (hfr : ∀ a ∈ ns, s.heap.get? a = none) (hk : ∀ b o, s.heap.get? b = some o → s'.heap.get? b = some o)
    (hth : ∀ a ∈ ns, ∃ o, s'.heap.get? a = some o) (hmo : ∀ (j : Nat) a x, ns[j]? = some a → xs[j]? = some x → MOk prog w fs (as ++ ns) s'.heap a x) (hg : AllBare s'.gens) (hbd : ∀ y ∈ σ, y.bd ≤ σ.length) :
    Rel prog w h₀ fs (as ++ ns) (σ ++ xs) s' := by
  have mv : ∀ b o', b ∉ as ++ fs → s.heap.get? b = some o' → s'.heap.get? b = some o' ∧ b ∉ (as ++ ns) ++ fs := fun b o' hb e => ⟨hk b o' e, fun q => by
    rw [List.append_assoc] at q
    rcases List.mem_append.mp q with q | q
    · exact hb (List.mem_append_left _ q)
    · rcases List.mem_append.mp q with q | q
      · rw [hfr b q] at e; cases e
      · exact hb (List.mem_append_right _ q)⟩
  have hout : ∀ a ∈ ns, a ∉ as ++ fs := fun a ha q => by
    obtain ⟨o, e⟩ := R.there a q
    rw [hfr a ha] at e; cases e
  refine ⟨fun b o' e => mv b o' (R.base b o' e).2 (R.base b o' e).1, by simp [R.len, hl], ?_, fun a ha => ?_, fun i a y ha hy => ?_, hg⟩
  · have hn := R.nd
    rw [List.nodup_append] at hn ⊢
    refine ⟨List.nodup_append.mpr ⟨hn.1, hnd, fun a ha b hb e => ?_⟩, hn.2.1, fun a ha b hb e => ?_⟩
    · subst e; exact hout a hb (List.mem_append_left _ ha)
    · rcases List.mem_append.mp ha with q | q
      · exact hn.2.2 a q b hb e
      · subst e; exact hout a q (List.mem_append_right _ hb)
  · rw [List.append_assoc] at ha
    rcases List.mem_append.mp ha with h | h
    · obtain ⟨o, e⟩ := R.there a (List.mem_append_left _ h); exact ⟨o, hk a o e⟩
    · rcases List.mem_append.mp h with h | h
      · exact hth a h
      · obtain ⟨o, e⟩ := R.there a (List.mem_append_right _ h); exact ⟨o, hk a o e⟩
  · by_cases hi : i < as.length
    · rw [List.getElem?_append_left hi] at ha
      rw [List.getElem?_append_left (by rw [← R.len]; exact hi)] at hy
      exact (R.mo i a y ha hy).move (fun j b hj e => by
        have : j < as.length := (List.getElem?_eq_some_iff.mp e).1
        rw [List.getElem?_append_left this]; exact e) mv fun o' e => hk a o' e
    · have hi' : as.length ≤ i := Nat.le_of_not_lt hi
      rw [List.getElem?_append_right hi'] at ha
      rw [List.getElem?_append_right (by rw [← R.len]; exact hi'), ← R.len] at hy
      exact hmo _ a y ha hy
theorem Stp.news {ns : List Addr} (hfr : ∀ a ∈ ns, s.heap.get? a = none) (hk : ∀ b o, s.heap.get? b = some o → s'.heap.get? b = some o) (ho : s'.os = s.os) : Stp ow as.length as s (as ++ ns) s' :=
  ⟨fun i a hi e => by rw [List.getElem?_append_left hi]; exact e, fun a ha hn => by
    rcases List.mem_append.mp ha with q | q
    · exact absurd q hn
    · exact hfr a q, fun b o' _ _ e => hk b o' e, fun b o' e => ⟨o', hk b o' e⟩, ho⟩
theorem Room.under {c : Code} (hw : c.weight ≤ 1) (hu : c.cUnits ≤ 8) (r : Room (n + 1) A) : Room n (A.under c) :=
  ⟨r.handled, by have := r.depth; show A.depth + c.weight + n < _; lia -abstractProof, by have := r.units; show A.units + c.cUnits + 8 * n + 100 < _; lia -abstractProof⟩

/-- an object is made -/
theorem WO.make (X : ClsAt h₀ C N mN) {fI : Addr} {oI : Obj} {vs : List Vl} (hi : mN "__init__" = some (.ref fI)) (ho : h₀.get? fI = some oI) (hfc : oI.cls = .type "function") (hbd : ∀ y ∈ σ, y.bd ≤ σ.length) (hvs : ∀ v ∈ vs, ∀ i, v = .m i → i < σ.length)
    (h : WO prog w h₀ n (.m (σ.length + 1) :: vs) (fun us => call (.ref fI) us) (σ ++ [.obj (attrOP 0 []), .obj (instOP C σ.length)]) fun r σ' => r = .d .none ∧ K (.m (σ.length + 1)) σ') :
    WO prog w h₀ (n + 1) vs (fun us => call (.ref C) us) σ K := by
  intro A fs as s us hA R V
  have kp : ∀ b o, h₀.get? b = some o → s.heap.get? b = some o := fun b o e => (R.base b o e).1
  refine el_eeeeeeeeeeee ((X.keeps kp).obj) fun nm q bs sn sub col dd k0 k1 k2 k3 k5 hC => ?_
  obtain ⟨hh, g, dr, t, os⟩ := s
  refine wpAny_call_obj_init PySem.F.objNew hC (X.keeps kp).ns hi (kp _ _ ho) hfc fun h' x dx Mk => ?_
  refine el_eaaa (Mk.inst) fun ox hx hcx hncx hdx => ?_
  have hdd := Mk.dict ox hx
  obtain ⟨hne, hnsd⟩ : dx ≠ x ∧ h'.Ns1 dx fun _ => none := by
    rcases hdx with ⟨hn0, _⟩ | ⟨d', hd', hne', hns'⟩
    · rw [hn0] at hdd; cases hdd
    · rw [hdd] at hd'; cases hd'; exact ⟨hne', hns'⟩
  refine el_eeea (hnsd) fun od es ep eo r => ?_; try clear hnsd
  have hfr : ∀ a ∈ [dx, x], hh.get? a = none := fun a ha => by
    rcases List.mem_cons.mp ha with rfl | ha
    · exact Mk.newD
    · rw [List.mem_singleton.mp ha]; exact Mk.newX
  have R' : Rel prog w h₀ fs (as ++ [dx, x]) (σ ++ [.obj (attrOP 0 []), .obj (instOP C σ.length)]) ⟨h', g, dr, t, os⟩ := by
    refine R.news (s' := ⟨h', g, dr, t, os⟩) rfl (by simp [hne]) hfr Mk.keeps (fun a ha => ?_) (fun j a y ha hy => ?_) R.bare hbd
    · rcases List.mem_cons.mp ha with rfl | ha
      · exact ⟨_, eo⟩
      · rw [List.mem_singleton.mp ha]; exact ⟨_, hx⟩
    · match j, ha, hy with
      | 0, ha, hy =>
        simp at ha hy
        subst ha; subst hy
        exact (in_eaea od eo _ (in_ee es ep r) (fun y => .inl ⟨rfl, rfl⟩))
      | 1, ha, hy =>
        simp at ha hy
        subst ha; subst hy
        refine ⟨ox, hx, dx, ?_, hcx, hncx, hdd⟩
        show (as ++ [dx, x])[σ.length]? = some dx
        rw [← R.len, List.getElem?_append_right (Nat.le_refl _)]; simp
      | j + 2, ha, hy => simp at ha
  have st : Stp [] as.length as ⟨hh, g, dr, t, os⟩ (as ++ [dx, x]) ⟨h', g, dr, t, os⟩ := Stp.news hfr Mk.keeps rfl
  have V' : VRs prog w fs (as ++ [dx, x]) h' (.m (σ.length + 1) :: vs) (.ref x :: us) := by
    refine .cons ⟨x, ?_, rfl⟩ (VRs.stepE (s' := ⟨h', g, dr, t, os⟩) V st)
    rw [← R.len, List.getElem?_append_right (Nat.le_succ _)]; simp
  refine wpAny_mono (h _ fs (as ++ [dx, x]) ⟨h', g, dr, t, os⟩ (.ref x :: us) (hA.under (Nat.le_of_ble_eq_true rfl) (Nat.le_of_ble_eq_true rfl)) R' V') (fun u s₁ zf95 => PostE.elq zf95 fun a₁ σ₁ st₁ R₁ V₁ kk => ?_) fun _ _ x => x

  refine (⟨by cases V₁; rfl, in_eeeaaa (.m (σ.length + 1)) a₁ σ₁ (st.transE st₁) R₁ ?_ kk⟩)
  cases V' with | cons V0 _ => exact V0.stepE st₁

/-- objects at the end that nobody needs any more -/
theorem Rel.forget {a₀ ns : List Addr} {xs : List MO} (R : Rel prog w h₀ fs (a₀ ++ ns) (σ ++ xs) s) (hl : a₀.length = σ.length) (hbd : ∀ y ∈ σ, y.bd ≤ σ.length) : Rel prog w h₀ fs a₀ σ s := by
  have hsub : ∀ b, b ∈ a₀ ++ fs → b ∈ (a₀ ++ ns) ++ fs := fun b q => by
    rcases List.mem_append.mp q with q | q
    · exact List.mem_append_left _ (List.mem_append_left _ q)
    · exact List.mem_append_right _ q
  have mv : ∀ b o, b ∉ (a₀ ++ ns) ++ fs → s.heap.get? b = some o → s.heap.get? b = some o ∧ b ∉ a₀ ++ fs := fun b o hb e => ⟨e, fun q => hb (hsub b q)⟩
  refine ⟨fun b o e => mv b o (R.base b o e).2 (R.base b o e).1, hl, List.Sublist.nodup (List.Sublist.append (List.sublist_append_left _ _) (List.Sublist.refl _)) R.nd, fun a ha => R.there a (hsub a ha), fun i a x ha hx => ?_, R.bare⟩
  have hi : i < σ.length := (List.getElem?_eq_some_iff.mp hx).1
  refine (R.mo i a x (by rw [List.getElem?_append_left (by lia -abstractProof)]; exact ha) (by rw [List.getElem?_append_left hi]; exact hx)).move (fun j b hj e => ?_) mv fun o e => e
  have : j < a₀.length := by
    have := hbd x (List.mem_of_getElem? hx); lia -abstractProof
  rw [List.getElem?_append_left this] at e; exact e
theorem VR.forget {a₀ ns : List Addr} {h : Heap} {v : Vl} {u : Value} (V : VR prog w fs (a₀ ++ ns) h v u) (hv : ∀ i, v = .m i → i < a₀.length) : VR prog w fs a₀ h v u := by
  cases v with
  | d t => exact Rd.move (fun b o hb e => ⟨e, fun q => hb (by
      rcases List.mem_append.mp q with q | q
      · exact List.mem_append_left _ (List.mem_append_left _ q)
      · exact List.mem_append_right _ q)⟩) V
  | m i =>
    refine el_ea (V) fun a h1 h2 => ?_; try clear V
    exact ⟨a, by rw [List.getElem?_append_left (hv i rfl)] at h1; exact h1, h2⟩
  | g v => exact V
theorem WO.forget {vs : List Vl} {t : List Value → Sem Value} (h : WO prog w h₀ n vs t σ fun v σ' => ∃ σ₁ xs, σ' = σ₁ ++ xs ∧ σ.length ≤ σ₁.length ∧ (∀ y ∈ σ₁, y.bd ≤ σ₁.length) ∧ (∀ i, v = .m i → i < σ₁.length) ∧ K v σ₁) : WO prog w h₀ n vs t σ K := by
  intro A fs as s us hA R V
  refine wpAny_mono (h A fs as s us hA R V) (fun u s₁ zf125 => PostE.el zf125 fun v a₁ σ' st R₁ V₁ zk => el_eeaaaa zk fun σ₁ xs e hl hbd hv kk => ?_) fun _ _ x => x
  subst e
  have hal : a₁.length = σ₁.length + xs.length := by rw [R₁.len, List.length_append]
  obtain ⟨a₀, ns, rfl, ha₀⟩ : ∃ a₀ ns, a₁ = a₀ ++ ns ∧ a₀.length = σ₁.length := (in_eea (a₁.take σ₁.length) (a₁.drop σ₁.length) ((List.take_append_drop _ _).symm) (by rw [List.length_take]; lia -abstractProof))
  refine (in_eeeaaa v a₀ σ₁ ⟨fun i a hi e => ?_, fun a ha hn => st.fresh a (List.mem_append_left _ ha) hn, st.kept, st.thr, st.os⟩ (R₁.forget ha₀ hbd) (V₁.forget (fun i e => ha₀ ▸ hv i e)) kk)
  have := st.pre i a hi e
  rw [List.getElem?_append_left (by rw [R.len] at hi; lia -abstractProof)] at this; exact this
end
end Mine
end
section
namespace Mine
set_option maxRecDepth 100000
open PySem.Builtin PySem.Builtin.ObjectAttr
theorem fn_getlk : typeLookup (.type "function") "__get__" = pure (some (.builtin "function.__get__")) := by rw [typeLookup_type, builtinLookup_eq_fast]; kernel_rfl
theorem fn_set : typeLookup (.type "function") "__set__" = pure none := by rw [typeLookup_type, builtinLookup_eq_fast]; kernel_rfl
theorem fn_delete : typeLookup (.type "function") "__delete__" = pure none := by rw [typeLookup_type, builtinLookup_eq_fast]; kernel_rfl
section
variable {prog : Program} {w : World} {A : Around} {E : Value → Shared → Prop} {h : Heap} {g : Array GenState} {d : Drawn} {t : Nat} {os : OsState}
variable {nm q : Str} {C N x : Addr} {bs : List Value} {sn : List Str} {sub : List Value} {ab : Bool} {col : Option Bool} {dd : Option Addr} {k0 k1 k2 k3 k5 : Option Value} {newId : String}
  {mN mA : Str → Option Value} {name : Str} {f : Addr} {of : Obj}
theorem fn_get_code {A : Around} {R : Result → Shared → Prop} {s : Shared} {tp : Value} (hfo : s.heap.get? f = some of) (hfc : of.cls = .type "function") (hq : R (.ok (.ret (.ref s.heap.objs.size))) { s with heap := s.heap.push (methodObj (.ref f) (.ref x)) }) :
    codeAny (model prog w) A (.call (.builtin "function.__get__") ⟨[.ref f, .ref x, tp], []⟩) R s := by
  obtain ⟨hh, g, dr, t, os⟩ := s
  refine codeAny_call_builtin KF.slot_fn.plain KF.entry_fn (KF.slot_fn.check _ _ _ _ _ _ _ _ ⟨_, hfo, hfc⟩ (KF.args_fn _ _ _) ?_)
  repeat k_node
  exact hq
theorem load_bound {expr : Bool} {y : Option Value} {Q : Value → Shared → Prop}
    (hC : h.get? C = some (excClassObj nm q C N bs [.type "object"] true sn sub ab col dd k0 k1 k2 k3 k5 newId)) (hn : h.Ns N mN) (hng : mN "__getattribute__" = none) (hnh : mN "__getattr__" = none)
    (hf : mN name = some (.ref f)) (hfo : h.get? f = some of) (hfc : of.cls = .type "function") (hB : typeLookup (.type "object") name = pure y)
    (hcp : (["__module__", "__name__", "__qualname__", "__doc__", "__annotations__"] : List Str).contains name = false)
    (I : h.Inst x C mA) (hsh : mA name = none) (hq : Q (.ref h.objs.size) ⟨h.push (methodObj (.ref f) (.ref x)), g, d, t + 1, os⟩) :
    wpAny (model prog w) A (getAttr (.ref x) name expr) Q E ⟨h, g, d, t, os⟩ := by
  refine el_eaaa (I) fun o hx hc hnc hd => ?_; try clear I
  unfold getAttr getAttrBy
  repeat (first | (with_reducible refine wpAny_loadPart_at hx ?_; rw [hc]) | (with_reducible refine wpAny_typeLookup_exc hC hn F.mro_object F.lk_object_ga ?_; rw [hng]) | wp_step)
  show wpAny _ _ ((runValue (.builtin "proto.getattr_hooked" ⟨[.ref x, .str name t], []⟩)).onRaise (noteIf true (.ref x) (.str name t))) _ _ _
  refine wpAny_onRaise (wpAny_runValue (codeAny_builtin F.plainObj_entry_getattr_hooked ?_))
  unfold Builtin.«proto.getattr_hooked»
  repeat (first | (with_reducible refine wpAny_loadPart_at hx ?_; rw [hc]) | (with_reducible refine wpAny_loadPart_at hfo ?_; rw [hfc]) | (with_reducible refine wpAny_typeLookup_exc hC hn F.mro_object F.lk_object_getattr ?_; rw [hnh]) | (with_reducible refine wpAny_typeLookup_exc hC hn F.mro_object hB ?_; rw [hf]) | rw [fn_getlk] | rw [fn_set] | rw [fn_delete] | wp_step)
  split
  · rename_i c hcd
    exact absurd hcd (hnc c)
  unfold instanceDict
  repeat (first | (with_reducible refine wpAny_loadPart_at hx ?_; rw [hc]) | with_reducible refine wpAny_loadPart_at hC ?_ | wp_step)
  rcases hd with ⟨hdn, _⟩ | ⟨dx, hdx, hne, hns⟩
  · rw [hdn]
    repeat (first | (rw [hcp]) | (with_reducible refine wpAny_typeLookup_exc hC hn F.mro_object F.lk_object_getattr ?_; rw [hnh]) | wp_step)
    exact fn_get_code (s := ⟨h, g, d, t + 1, os⟩) hfo hfc (wpAny_pure (wpAny_pure hq))
  · rw [hdx]
    repeat (first | (with_reducible refine wpAny_nsGet hns.ns ?_; rw [hsh]) | (rw [hcp]) | (with_reducible refine wpAny_typeLookup_exc hC hn F.mro_object F.lk_object_getattr ?_; rw [hnh]) | wp_step)
    exact fn_get_code (s := ⟨h, g, d, t + 1, os⟩) hfo hfc (wpAny_pure (wpAny_pure hq))
end
end Mine
end
section
namespace Mine
set_option maxRecDepth 100000
theorem slot_ci_next : Slot "callable_iterator" "__next__" "callable_iterator.__next__" :=
  .of (owner := "callable_iterator") (n := "__next__") (by rw [typeLookup_type, builtinLookup_eq_fast]; kernel_rfl) (by decide +kernel) (by decide +kernel) (by decide +kernel)
    (by first | exact .inl (by decide +kernel) | exact .inr (by decide +kernel)) (by rw [isSubtype_type]; kernel_rfl)
theorem slot_ci_iter : Slot "callable_iterator" "__iter__" "callable_iterator.__iter__" :=
  .of (owner := "callable_iterator") (n := "__iter__") (by rw [typeLookup_type, builtinLookup_eq_fast]; kernel_rfl) (by decide +kernel) (by decide +kernel) (by decide +kernel)
    (by first | exact .inl (by decide +kernel) | exact .inr (by decide +kernel)) (by rw [isSubtype_type]; kernel_rfl)
theorem entry_ci_next : entryFor table "callable_iterator.__next__" = some Builtin.«callable_iterator.__next__» := entryFor_of_tree (by kernel_rfl)
theorem entry_ci_iter : entryFor table "callable_iterator.__iter__" = some Builtin.«dict_keyiterator.__iter__» :=
  entryFor_alias (id' := "dict_keyiterator.__iter__") (by kernel_rfl) (by first | rfl | decide +kernel | (unfold String.splitOn; simp +decide [String.splitOnAux])) (by decide +kernel) (by kernel_rfl)
theorem args_ci_next (a : Value) : argsOk "callable_iterator.__next__" ⟨[a], []⟩ := by unfold argsOk; kernel_rfl
theorem args_ci_iter (a : Value) : argsOk "callable_iterator.__iter__" ⟨[a], []⟩ := by unfold argsOk; kernel_rfl
theorem args_iter2 (a b : Value) : argsOk "iter" ⟨[a, b], []⟩ := by unfold argsOk; kernel_rfl
theorem meth_call_lk : ∃ v, typeLookup (.type "method") "__call__" = pure (some v) := ⟨.builtin "method.__call__", by rw [typeLookup_type, builtinLookup_eq_fast]; kernel_rfl⟩
section
variable {prog : Program} {w : World} {M : Model} {A : Around} {E : Value → Shared → Prop} {s : Shared}
theorem wpAny_callBorrowed {f : Value} {pos : List Value} {Q : Value → Shared → Prop}
    (hc : codeAny M A (.call f ⟨pos, []⟩) (fun r s' => match r with | .ok (.ret v) => Q v s' | .ok _ => False | .error e => E e s') s) :
    wpAny M A (callBorrowed f pos) Q E s := fun Γ p hΓ => by
  unfold callBorrowed
  rw [Sem.wp_call]
  refine wpCode_mono (fun r s' h => ?_) (hc _ p rfl (hΓ.enter _ none p (by intro x; cases x)))
  cases r with
  | error e => exact h
  | ok f => cases f <;> exact h
theorem wpAny_borrowsExactly {b f : Addr} {x : Value} {of : Obj} {fd : FuncData} {Q : Bool → Shared → Prop} (hb : s.heap.get? b = some (methodObj (.ref f) x)) (hf : s.heap.get? f = some of) (hd : of.data = .func fd) (hq : Q true s) :
    wpAny M A (borrowsExactly (.ref b)) Q E s := by
  unfold borrowsExactly
  refine wpAny_bind (wpAny_load hb ?_)
  refine wpAny_bind (m := load f) (wpAny_load hf ?_)
  rw [hd]
  exact wpAny_pure hq
/-- an iterator that calls a method -/
noncomputable abbrev ciObj (b : Addr) (t : Tok) : Obj := { cls := .type "callable_iterator", data := .fields #[.ref b, .str "" t, .bool false] }
theorem call_iter2 {b f : Addr} {x : Value} {t : Tok} {Q : Value → Shared → Prop} (hb : s.heap.get? b = some (methodObj (.ref f) x)) (hq : Q (.ref s.heap.objs.size) { s with heap := s.heap.push (ciObj b t) }) :
    wpAny (model prog w) A (call (.builtin "iter") [.ref b, .str "" t]) Q E s := by
  refine Calls.call_function_entry (by decide +kernel) (by decide +kernel) kdk_entry_iter (args_iter2 _ _) ?_
  unfold Builtin.«iter»
  refine wpAny_bind (m := someArgs "iter" 1 2 _) (wpAny_of_eq (a := [Value.ref b, .str "" t]) (by first | rfl | kernel_rfl!) ?_)
  obtain ⟨v, hv⟩ := meth_call_lk
  refine wpAny_bind (m := specialOf (.ref b) "__call__") (wpAny_specialOf (T := "method") ⟨_, hb, rfl⟩ hv ?_)
  rw [if_neg (by simp)]
  refine wpAny_bind (wpAny_rule ?_)
  refine wpAny_bind (wpAny_newObj_type ?_)
  exact wpAny_pure ⟨_, rfl, hq⟩
end
end Mine
end
section
namespace Mine
set_option maxRecDepth 100000
section
variable {prog : Program} {w : World} {A : Around} {E : Value → Shared → Prop} {s : Shared}
theorem ciObj_data (b : Addr) (t : Tok) : (ciObj b t).data = .fields #[.ref b, .str "" t, .bool false] := rfl
theorem ci_eq {A : Around} {c : Str} {t u : Tok} {Q : Bool → Shared → Prop} (h : Q (("" : Str) == c) s) : wpAny (model prog w) A (eqBool (.str "" t) (.str c u)) Q E s := SeqAt.EqAt.str_str "" t c u prog w E Q h
/-- the iterator steps -/
theorem ci_next {I b f : Addr} {x : Value} {t : Tok} {of : Obj} {fd : FuncData} {Q : Option Value → Shared → Prop} (hI : s.heap.get? I = some (ciObj b t)) (hb : s.heap.get? b = some (methodObj (.ref f) x)) (hf : s.heap.get? f = some of) (hd : of.data = .func fd)
    (hc : codeAny (model prog w) A.in1 (.call (.ref f) ⟨[x], []⟩) (fun r s₁ => match r with | .ok (.ret v) => (∃ c u, v = .str c u ∧ (("" : Str) == c) = false ∧ (∃ t', s₁.heap.get? I = some (ciObj b t')) ∧ Q (some v) s₁) | .ok _ => False | .error e => NoE e s₁) s) :
    wpAny (model prog w) A (pyNext (.ref I)) Q E s := by
  have hT : s.TypeIs (.ref I) "callable_iterator" := ⟨_, hI, rfl⟩
  unfold pyNext
  refine wpAny_bind (wpAny_attempt (wpAny_callSpecial?_slot (name := Str.ofString "__next__") hT slot_ci_next (wpAny_call_entry slot_ci_next hT entry_ci_next ?_ (args_ci_next _))))
  show wpAny _ _ (field (.ref I) 2 >>= _) _ _ s
  refine wpAny_bind (wpAny_field hI (ciObj_data b t) (x := .bool false) rfl ?_)
  rw [if_neg (show ¬ ((Value.bool false == Value.bool true) = true) from by decide)]
  refine wpAny_bind (m := field (.ref I) 0) (wpAny_field hI (ciObj_data b t) (x := .ref b) rfl ?_)
  refine wpAny_bind (wpAny_attempt (m := callOutOfASlot (.ref b)) ?_)
  unfold callOutOfASlot
  refine wpAny_bind (wpAny_borrowsExactly hb hf hd ?_)
  rw [if_pos rfl]
  refine wpAny_callBorrowed ?_
  refine method_call (pos := []) (kw := []) hb ?_
  refine codeAny_mono hc fun r s₁ h => ?_
  cases r with
  | error e => exact h.elim
  | ok fl =>
    cases fl with
    | ret v =>
      refine el_eeaaa (h) fun c u zq2 hne zq4 hq => ?_; subst zq2; obtain ⟨t, hI₁⟩ := zq4; try clear h
      show wpAny _ _ _ _ _ s₁
      refine wpAny_bind (m := field (.ref I) 2) (wpAny_field hI₁ (ciObj_data b t) (x := .bool false) rfl ?_)
      rw [if_neg (show ¬ ((Value.bool false == Value.bool true) = true) from by decide)]
      refine wpAny_bind (m := field (.ref I) 1) (wpAny_field hI₁ (ciObj_data b t) (x := .str "" t) rfl ?_)
      refine wpAny_bind (wpAny_holding (ci_eq ?_))
      rw [hne]
      rw [if_pos (by rfl)]
      exact wpAny_pure ⟨_, rfl, wpAny_pure hq⟩
    | next => exact h.elim
    | brk => exact h.elim
    | cont => exact h.elim
theorem set3 {I : Addr} {i : Nat} {v : Value} {Q : Unit → Shared → Prop} (hi : i < 3) (hI : ∃ o vs, s.heap.get? I = some o ∧ o.data = .fields vs ∧ vs.size = 3)
    (h : ∀ h', Heap.ExtBut I s.heap h' → (∃ o vs, h'.get? I = some o ∧ o.data = .fields vs ∧ vs.size = 3) → Q () { s with heap := h' }) : wpAny (model prog w) A (setField (.ref I) i v) Q E s := by
  refine el_eeaa (hI) fun o vs ho hd hz => ?_; try clear hI
  refine wpAny_setField ho hd (by omega) (h _ (Heap.SameBut.update ..).extBut (in_eeaa _ _ (Heap.get?_update_self _ ho (Obj.isFreed_of_fields (Obj.data_mapFields hd _))) (Obj.data_mapFields hd _) (by simpa using hz)))
/-- .. and ends -/
theorem ci_end {I b f : Addr} {x : Value} {t : Tok} {of : Obj} {fd : FuncData} {Q : Option Value → Shared → Prop} (hh : A.handled = none) (hI : s.heap.get? I = some (ciObj b t)) (hb : s.heap.get? b = some (methodObj (.ref f) x)) (hf : s.heap.get? f = some of) (hd : of.data = .func fd)
    (hc : codeAny (model prog w) A.in1 (.call (.ref f) ⟨[x], []⟩) (fun r s₁ => match r with | .ok (.ret v) => (∃ u, v = .str "" u ∧ (∃ t', s₁.heap.get? I = some (ciObj b t')) ∧ s₁.heap.get? b = some (methodObj (.ref f) x) ∧ s₁.heap.get? f = some of ∧
      ∀ h', Heap.ExtBut I s₁.heap h' → (∃ o, h'.get? I = some o) → Q none { s₁ with heap := h' }) | .ok _ => False | .error e => NoE e s₁) s) :
    wpAny (model prog w) A (pyNext (.ref I)) Q E s := by
  have hT : s.TypeIs (.ref I) "callable_iterator" := ⟨_, hI, rfl⟩
  unfold pyNext
  refine wpAny_bind (wpAny_attempt (wpAny_callSpecial?_slot (name := Str.ofString "__next__") hT slot_ci_next (wpAny_call_entry slot_ci_next hT entry_ci_next ?_ (args_ci_next _))))
  show wpAny _ _ (field (.ref I) 2 >>= _) _ _ s
  refine wpAny_bind (wpAny_field hI (ciObj_data b t) (x := .bool false) rfl ?_)
  rw [if_neg (show ¬ ((Value.bool false == Value.bool true) = true) from by decide)]
  refine wpAny_bind (m := field (.ref I) 0) (wpAny_field hI (ciObj_data b t) (x := .ref b) rfl ?_)
  refine wpAny_bind (wpAny_attempt (m := callOutOfASlot (.ref b)) ?_)
  unfold callOutOfASlot
  refine wpAny_bind (wpAny_borrowsExactly hb hf hd ?_)
  rw [if_pos rfl]
  refine wpAny_callBorrowed ?_
  refine method_call (pos := []) (kw := []) hb ?_
  refine codeAny_mono hc fun r s₁ h => ?_
  cases r with
  | error e => exact h.elim
  | ok fl =>
    cases fl with
    | ret v =>
      refine el_eaaaa (h) fun u zq1 zq2 hb₁ hf₁ hq => ?_; subst zq1; obtain ⟨t, hI₁⟩ := zq2; try clear h
      show wpAny _ _ _ _ _ s₁
      refine wpAny_bind (m := field (.ref I) 2) (wpAny_field hI₁ (ciObj_data b t) (x := .bool false) rfl ?_)
      rw [if_neg (show ¬ ((Value.bool false == Value.bool true) = true) from by decide)]
      refine wpAny_bind (m := field (.ref I) 1) (wpAny_field hI₁ (ciObj_data b t) (x := .str "" t) rfl ?_)
      refine wpAny_bind (wpAny_holding (ci_eq ?_))
      rw [show (("" : Str) == "") = true from by decide]
      rw [if_neg (by simp)]
      refine wpAny_bind (wpAny_rule ?_)
      refine wpAny_bind ?_
      refine wpAny_bind (m := field (.ref I) 0) (wpAny_field hI₁ (ciObj_data b t) (x := .ref b) rfl ?_)
      refine wpAny_bind (m := slotLetsGo _ _ _) ?_
      unfold slotLetsGo
      refine wpAny_bind (wpAny_borrowsExactly hb₁ hf₁ hd ?_)
      rw [if_pos rfl]
      refine wpAny_pure ?_
      refine wpAny_bind (m := setField (.ref I) 0 .none) (set3 (by decide) (in_eeaa _ _ hI₁ rfl rfl) fun h1 e1 j1 => ?_)
      refine wpAny_bind (m := setField (.ref I) 1 .none) (set3 (by decide) j1 fun h2 e2 j2 => ?_)
      refine set3 (by decide) j2 fun h3 e3 j3 => ?_
      have ee : Heap.ExtBut I s₁.heap h3 := fun b o hb e => e3 b o hb (e2 b o hb (e1 b o hb e))
      refine el_eeaa (j3) fun o3 vs3 ho3 hd3 _ => ?_; try clear j3
      refine wpAny_bind (m := newExc (.type "StopIteration") []) ?_
      simp only [newExc, newTuple]
      refine wpAny_bind (wpAny_newObj_type ?_ (by size_fits))
      refine wpAny_bind (m := firstArgMember _ _) (wpAny_of_eq (a := Value.none) (by first | rfl | (simp only [firstArgMember]; rfl)) ?_)
      refine wpAny_newObj_type ?_ (by size_fits)
      simp only [raiseNew]
      refine wpAny_bind (wpAny_handled ?_)
      rw [show A.in1.handled = none from hh]
      refine wpAny_bind (wpAny_pure (wpAny_throw ?_))
      refine wpAny_bind (wpAny_isInstance (T := "StopIteration") (b := true) ⟨_, Heap.get?_push_size _ rfl, rfl⟩ isSubtype_stop ?_)
      exact wpAny_pure (hq _ ((ee.push _).push _) ⟨_, Heap.get?_push_of_some _ (Heap.get?_push_of_some _ ho3)⟩)
    | next => exact h.elim
    | brk => exact h.elim
    | cont => exact h.elim
end
end Mine
end
section
namespace Mine
set_option maxRecDepth 100000
noncomputable def methOP (f : Addr) (ix : Nat) : OP where
  bd := ix + 1
  P l _ _ o := ∃ x, l ix = some x ∧ o = methodObj (.ref f) (.ref x)
  mono := fun hl _ zf9 => el_ea zf9 fun x h1 h2 => ⟨x, hl _ _ (Nat.lt_succ_self _) h1, h2⟩
noncomputable def ciOP (ib : Nat) : OP where
  bd := ib + 1
  P l _ _ o := ∃ b t, l ib = some b ∧ o = ciObj b t
  mono := fun hl _ zf13 => el_eea zf13 fun b t h1 h2 => (in_eea b t (hl _ _ (Nat.lt_succ_self _) h1) h2)
noncomputable def anyOP : OP where
  bd := 0
  P _ _ _ _ := True
  mono := fun _ _ h => h
section
variable (prog : Program) (w : World) (h₀ : Heap)
/-- a loop over the iterator ic -/
noncomputable def WLC (n : Nat) (sc : Scope) (x : Str) (body : List Stmt) (ic : Nat) : Nat → List (Str × Vl) → List MO → (Fl → List (Str × Vl) → List MO → Prop) → Prop
  | 0, _, _, _ => False
  | fuel + 1, m, σ, K => ∃ ib f ix c of fd, σ[ic]? = some (.obj (ciOP ib)) ∧ σ[ib]? = some (.obj (methOP f ix)) ∧ h₀.get? f = some of ∧ of.data = .func fd ∧
    WOc prog w h₀ n [.m ix] f σ fun v σ' => v = .d (.str c) ∧ σ'[ic]? = some (.obj (ciOP ib)) ∧ σ'[ib]? = some (.obj (methOP f ix)) ∧
      ((c = "" ∧ K .next m (σ'.set ic (.obj anyOP))) ∨ ((("" : Str) == c) = false ∧ WN prog w h₀ sc (ic + 1) m x (.d (.str c)) σ' fun _ m₁ σ₁ => WS prog w h₀ (n + 1) sc (ic + 1) m₁ body σ₁ fun fl m₂ σ₂ => match fl with
        | .next => WLC n sc x body ic fuel m₂ σ₂ K
        | .cont => WLC n sc x body ic fuel m₂ σ₂ K
        | .brk => K .next m₂ σ₂
        | .ret v => K (.ret v) m₂ σ₂))
end
section
variable {prog : Program} {w : World} {h₀ : Heap} {fs as as' as'' ow : List Addr} {σ σ' σ'' : List MO} {s s' s'' : Shared} {k n : Nat} {sc : Scope} {m : List (Str × Vl)} {K : Vl → List MO → Prop} {gl : Str → Option Value}
  {env : Env} {A : Around} {I : Addr} {Ks : Fl → List (Str × Vl) → List MO → Prop} {C N : Addr} {mN : Str → Option Value}
theorem PostE.alloc {o : Obj} {x : MO} {t : Nat} (R : Rel prog w h₀ fs as σ s) (hf : o.isFreed = false) (hbd : ∀ y ∈ σ, y.bd ≤ σ.length) (hx : MOk prog w fs (as ++ [s.heap.objs.size]) (s.heap.push o) s.heap.objs.size x) (k : K (.m σ.length) (σ ++ [x])) :
    PostE prog w h₀ fs as s K (.ref s.heap.objs.size) { s with heap := s.heap.push o, toks := t } :=
  (PostE.mk (v := .m σ.length) Stp.alloc (R.alloc hf hx hbd) ⟨s.heap.objs.size, by rw [← R.len]; simp, rfl⟩ k)
/-- x.name, a method -/
theorem WE.bound (X : ClsAt h₀ C N mN) (Qt : Quiet mN) {o : Expr} {name : Str} {f : Addr} {pos : Pos} (M : MethIs h₀ mN name f) (hcp : (["__module__", "__name__", "__qualname__", "__doc__", "__annotations__"] : List Str).contains name = false)
    (h : WE prog w h₀ n sc m o σ fun ov σ₁ => ∃ ix id bd at_, ov = .m ix ∧ Ins C σ₁ ix id bd at_ ∧ at_.lookup name = none ∧ (∀ y ∈ σ₁, y.bd ≤ σ₁.length) ∧ K (.m σ₁.length) (σ₁ ++ [.obj (methOP f ix)]))
    (he : ∀ env, eval (.Attribute o name pos) env = (do
      let o' ← eval o env
      standAt pos.atName
      let r ← holding [o'] (getAttr o' name true)
      letTemporaryGo o o' r
      pure r) := by intro _; with_unfolding_all rfl) : WE prog w h₀ n sc m (.Attribute o name pos) σ K := by
  intro A env fs as s hA hE R F
  refine Attribute_any_ (wpAny_mono (h A env fs as s hA hE R F) (fun u s₁ zf47 => PostE.el zf47 fun v a₁ σ₁ st R₁ V zk => el_eeeeaaaa zk fun ix id bd at_ e J hv hbd kk => ?_) fun _ _ x => x) (he env)
  subst e
  refine el_eeaa (M.fn) fun of fd hfo hfc hdat => ?_
  obtain ⟨y, hB⟩ := M.obj
  refine el_eeeeaaaaaaa (J.at R₁ V) fun x d ob mA zq4 hx hd ho hc hdx I hat => ?_; subst zq4
  have kp : ∀ b o, h₀.get? b = some o → s₁.heap.get? b = some o := fun b o e => (R₁.base b o e).1
  refine el_eeeeeeeeeeee ((X.keeps kp).obj) fun nm q bs sn sub col dd k0 k1 k2 k3 k5 hC => ?_
  rcases hat name with ⟨_, q⟩ | ⟨v', r, h1, h2, h3⟩
  · obtain ⟨hh, g, dr, t, os⟩ := s₁
    refine load_bound hC (X.keeps kp).ns Qt.ga Qt.gt M.at_ (kp _ _ hfo) hfc hB hcp I q ?_
    refine PostE.step st ?_
    refine PostE.alloc (s := ⟨hh, g, dr, t, os⟩) (x := .obj (methOP f ix)) (t := t + 1) R₁ rfl hbd (in_eaea _ (Heap.get?_push_size _ rfl) x ?_ rfl) kk
    show (a₁ ++ _)[ix]? = some x
    rw [List.getElem?_append_left (List.getElem?_eq_some_iff.mp hx).1]; exact hx
  · rw [hv] at h1; cases h1
/-- iter(f, '') -/
theorem WO.iter2 {ib ix : Nat} {f : Addr} (hb : σ[ib]? = some (.obj (methOP f ix))) (hbd : ∀ y ∈ σ, y.bd ≤ σ.length) (h : K (.m σ.length) (σ ++ [.obj (ciOP ib)])) : WO prog w h₀ n [.m ib, .d (.str "")] (fun us => call (.builtin "iter") us) σ K := by
  intro A fs as s us hA R V
  apply VRs.two V; intro _ _ V₁ V₂
  · skip
    obtain ⟨t, rfl⟩ := V₂.str_inv
    refine el_ea (V₁) fun b hab zq2 => ?_; subst zq2; try clear V₁
    refine el_eaea (R.mo ib b _ hab hb) fun o ho x hx zq4 => ?_; subst zq4
    refine call_iter2 ho ?_
    refine PostE.alloc (x := .obj (ciOP ib)) (t := s.toks) R rfl hbd (⟨_, Heap.get?_push_size _ rfl, in_eea b t ?_ rfl⟩) h
    show (as ++ _)[ib]? = some b
    rw [List.getElem?_append_left (List.getElem?_eq_some_iff.mp hab).1]; exact hab
theorem Rel.ciE {ic ib : Nat} {I : Addr} {p : Prop} (R : Rel prog w h₀ fs as σ s) (ha : as[ic]? = some I) (hi : σ[ic]? = some (.obj (ciOP ib))) (k : ∀ b t, as[ib]? = some b → s.heap.get? I = some (ciObj b t) → p) : p := by
  refine el_eaeea (R.mo ic I _ ha hi) fun o ho b t hb e => ?_
  subst e; exact k b t hb ho
theorem Rel.ciK {ic ib : Nat} {I b : Addr} (R : Rel prog w h₀ fs as σ s) (ha : as[ic]? = some I) (hi : σ[ic]? = some (.obj (ciOP ib))) (hb : as[ib]? = some b) : ∃ t, s.heap.get? I = some (ciObj b t) :=
  R.ciE ha hi fun b' t hb' ho => ⟨t, Option.some.inj (hb'.symm.trans hb) ▸ ho⟩
theorem Rel.methE {ib ix : Nat} {b f : Addr} {p : Prop} (R : Rel prog w h₀ fs as σ s) (ha : as[ib]? = some b) (hi : σ[ib]? = some (.obj (methOP f ix))) (k : ∀ x, as[ix]? = some x → s.heap.get? b = some (methodObj (.ref f) (.ref x)) → p) : p := by
  refine el_eaea (R.mo ib b _ ha hi) fun o ho x hx e => ?_
  subst e; exact k x hx ho
theorem Rel.methK {ib ix : Nat} {b f x : Addr} (R : Rel prog w h₀ fs as σ s) (ha : as[ib]? = some b) (hi : σ[ib]? = some (.obj (methOP f ix))) (hx : as[ix]? = some x) : s.heap.get? b = some (methodObj (.ref f) (.ref x)) :=
  R.methE ha hi fun x' hx' ho => Option.some.inj (hx'.symm.trans hx) ▸ ho
/-- for x in it -/
theorem W1.forC {x : Str} {px pos : Pos} {iter : Expr} {body : List Stmt} (h : WE prog w h₀ (n + 1) sc m iter σ fun v σ₁ => ∃ ic ib fuel, v = .m ic ∧ k ≤ ic + 1 ∧ σ₁[ic]? = some (.obj (ciOP ib)) ∧ WLC prog w h₀ n sc x body ic fuel m σ₁ Ks)
    (hs : ∀ env v, foldedSetIterable iter env v = pure v := by intro _ _; rfl) : W1 prog w h₀ (n + 1) sc k m (.For (.Name x px) iter body [] pos) σ Ks := by
  intro A env fs as s hA hE R F hl
  refine wpAny_For (wpAny_mono (h A env fs as s hA hE R F) (fun v s₂ zf77 => PostE.el zf77 fun vv a₂ σ₂ st R₂ V₂ zk => el_eeeaaa zk fun ic ib fuel e hkc hic k₂ => ?_) fun _ _ x => x) (hs env)
  subst e
  refine el_ea (V₂) fun I haI zq2 => ?_; subst zq2; try clear V₂
  refine R₂.ciE haI hic fun b₀ t₀ hb₀ hoI => ?_
  have hT : s₂.TypeIs (.ref I) "callable_iterator" := ⟨_, hoI, rfl⟩
  refine wpAny_pyIter_slot hT slot_ci_iter (wpAny_call_entry slot_ci_iter hT entry_ci_iter ?_ (args_ci_iter _))
  show wpAny _ _ (PySem.ret (.ref I)) _ _ s₂
  refine wpAny_pure (⟨_, rfl, in_eeaa "callable_iterator" _ hT slot_ci_next.lookup ?_⟩)
  have F₂ := F.stepE R.nd st
  refine codeAny_forLoop (fun j s' => ∃ m' a' σ', Stp (own env) k a₂ s₂ a' s' ∧ Rel prog w h₀ fs a' σ' s' ∧ FrameOk prog w env m' fs a' s'.heap ∧ k ≤ a'.length ∧ a'[ic]? = some I ∧ WLC prog w h₀ n sc x body ic j m' σ' Ks) ?_ fuel (in_eeeaaaaa m a₂ σ₂ (Stp.refl ..) R₂ F₂ (Nat.le_trans hl st.grows) haI k₂)
  intro j s' zr
  refine el_eeeaaaaa zr fun m' a' σ' st' R' F' hl' haI' k' => ?_
  clear zr
  cases j with
  | zero => exact k'.elim
  | succ j =>
    refine el_eeeeeeaaaa (k') fun ib' f ix c of fd hc1 hc2 hfo hfd hcall => ?_; try clear k'
    refine R'.ciE haI' hc1 fun b t hb ho => R'.methE hb hc2 fun xx hxx hob => ?_
    have hcc := hcall A.in1 fs a' s' [.ref xx] ⟨hA.handled, by have := hA.depth; show A.depth + n < _; lia -abstractProof, by have := hA.units; show A.units + 1 + 8 * n + 100 < _; lia -abstractProof⟩ R' (.cons ⟨xx, hxx, rfl⟩ .nil)
    by_cases hce : c = ""
    · refine wpAny_mono (ci_end hA.handled ho hob (R'.base f of hfo).1 hfd (codeAny_mono hcc fun r s₁ hr => ?_)) (fun _ _ x => x) fun _ _ x => x
      cases r with
      | error e => exact hr
      | ok fl =>
        cases fl with
        | ret v =>
          refine el_eeeaaaaaa (hr) fun vv a₁ σ₁ st₁ R₁ V₁ zq6 g1 g2 g3 => ?_; clear hr; subst zq6
          obtain ⟨u, rfl⟩ := V₁.str_inv
          have hI₁ := st₁.pre ic I (List.getElem?_eq_some_iff.mp haI').1 haI'
          have hb₁ := st₁.pre ib' b (List.getElem?_eq_some_iff.mp hb).1 hb
          have hx₁ := st₁.pre ix xx (List.getElem?_eq_some_iff.mp hxx).1 hxx
          have ho₁ := R₁.ciK hI₁ g1 hb₁
          have ho₂ := R₁.methK hb₁ g2 hx₁
          rcases g3 with ⟨_, kk⟩ | ⟨g, _⟩
          · refine ⟨u, by rw [hce], ho₁, ho₂, (R₁.base f of hfo).1, fun h' he ht => ?_⟩
            have hkk : ∀ b o, b ≠ I → s₁.heap.get? b = some o → h'.get? b = some o := fun b o hb e => he b o hb e
            have R₃ := R₁.setE (s' := { s₁ with heap := h' }) (x := .obj anyOP) hI₁ hkk ht (let ⟨o, e⟩ := ht; ⟨o, e, trivial⟩) R₁.bare
            have st₃ : Stp [] a₁.length a₁ s₁ a₁ { s₁ with heap := h' } := Stp.setE hI₁ hkk ht rfl
            have st13 := st₁.transE st₃
            exact wpAny_execs_nil (PostS.after hl st (PostS.mk (fl := .next) (m' := m') (as' := a₁) rfl (st'.trans (st13.weaken (fun _ h => nomatch h) hl')) R₃ (F'.stepE R'.nd st13) (Nat.le_trans hl' st13.grows) kk))
          · rw [hce] at g; cases g
        | next => exact hr
        | brk => exact hr
        | cont => exact hr
    · refine wpAny_mono (ci_next ho hob (R'.base f of hfo).1 hfd (codeAny_mono hcc fun r s₁ hr => ?_)) (fun _ _ x => x) fun _ _ x => x
      cases r with
      | error e => exact hr
      | ok fl =>
        cases fl with
        | ret v =>
          refine el_eeeaaaaaa (hr) fun vv a₁ σ₁ st₁ R₁ V₁ zq6 g1 g2 g3 => ?_; clear hr; subst zq6
          obtain ⟨u, rfl⟩ := V₁.str_inv
          have hI₁ := st₁.pre ic I (List.getElem?_eq_some_iff.mp haI').1 haI'
          have hb₁ := st₁.pre ib' b (List.getElem?_eq_some_iff.mp hb).1 hb
          have ho₁ := R₁.ciK hI₁ g1 hb₁
          rcases g3 with ⟨g, _⟩ | ⟨g, kk⟩
          · exact absurd g hce
          · refine (in_eeaaa c u rfl g ho₁ ?_)
            have st13 := st'.trans (st₁.weaken (fun _ h => nomatch h) hl')
            have hl₁ := Nat.le_trans hl' st₁.grows
            have hc₁ : ic + 1 ≤ a₁.length := (List.getElem?_eq_some_iff.mp hI₁).1
            refine wpAny_assign_Name (wpAny_mono (kk A env fs a₁ s₁ _ hE R₁ (F'.stepE R'.nd st₁) hc₁ V₁) (fun _ s₄ zf140 => PostS.el zf140 fun fl m₄ a₄ σ₄ hf st₄ R₄ F₄ hl₄ k₄ => ?_) fun _ _ x => False.elim x)
            refine wpAny_mono (k₄ A env fs a₄ s₄ hA hE R₄ F₄ hl₄) (fun f s₅ zf141 => PostS.el zf141 fun fl₅ m₅ a₅ σ₅ hf₅ st₅ R₅ F₅ hl₅ k₅ => ?_) fun _ _ x => False.elim x
            have s45 := st₄.trans st₅
            have s15 := st13.trans (s45.weaken (fun _ h => h) hkc)
            have hl5 : k ≤ a₅.length := Nat.le_trans hkc hl₅
            have hI5 := s45.pre ic I (Nat.lt_succ_self _) hI₁
            cases fl₅ with
            | next => cases hf₅; exact (⟨j, Nat.lt_succ_self _, in_eeeaaaaa m₅ a₅ σ₅ s15 R₅ F₅ hl5 hI5 k₅⟩)
            | cont => cases hf₅; exact (⟨j, Nat.lt_succ_self _, in_eeeaaaaa m₅ a₅ σ₅ s15 R₅ F₅ hl5 hI5 k₅⟩)
            | brk => cases hf₅; exact PostS.after hl st (PostS.mk (fl := .next) (m' := m₅) (as' := a₅) (σ' := σ₅) rfl s15 R₅ F₅ hl5 k₅)
            | ret v => refine el_ea (hf₅) fun u zq1 V => ?_; subst zq1; try clear hf₅; exact PostS.after hl st (PostS.mk (fl := .ret v) (m' := m₅) (as' := a₅) (σ' := σ₅) ⟨u, rfl, V⟩ s15 R₅ F₅ hl5 k₅)
        | next => exact hr
        | brk => exact hr
        | cont => exact hr
end
end Mine
end
section
namespace Mine
set_option maxRecDepth 100000
open PySem.Builtin PySem.Builtin.ObjectAttr
theorem slot_fn_sa : Slot "function" "__setattr__" "object.__setattr__" :=
  .of (owner := "object") (n := "__setattr__") (by rw [typeLookup_type, builtinLookup_eq_fast]; kernel_rfl) (by decide +kernel) (by decide +kernel) (by decide +kernel)
    (by first | exact .inl (by decide +kernel) | exact .inr (by decide +kernel)) (by rw [isSubtype_type]; kernel_rfl)
theorem fn_mro : mroOf (.type "function") = pure [.type "function", .type "object"] := by kernel_rfl
theorem fn_passes (self : Value) : refuseLoop self "__setattr__" [.type "function", .type "object"] = pure () := by kernel_rfl
section
variable {prog : Program} {w : World} {A : Around} {E : Value → Shared → Prop} {h : Heap} {g : Array GenState} {d : Drawn} {t : Nat} {os : OsState}
theorem set_fn {x : Addr} {o : Obj} {name : Str} {v : Value} {Q : Unit → Shared → Prop} (hx : h.get? x = some o) (hc : o.cls = .type "function") (hnc : ∀ c, o.data ≠ .cls c) (hdn : o.dict = none) (hB : typeLookup (.type "function") name = pure none)
    (hq : ∀ h' tk', h'.get? x = some { o with dict := some h.objs.size } → h'.Ns1 h.objs.size (fun y => if y = name then some v else none) → (∀ b o, b ≠ x → h.get? b = some o → h'.get? b = some o) → Q () ⟨h', g, d, tk', os⟩) :
    wpAny (model prog w) A (setAttr (.ref x) name v) Q E ⟨h, g, d, t, os⟩ := by
  have hT : ∀ tk, (⟨h, g, d, tk, os⟩ : Shared).TypeIs (.ref x) "function" := fun _ => ⟨o, hx, hc⟩
  unfold setAttr
  refine wpAny_bind (wpAny_mkText ?_)
  refine wpAny_bind (wpAny_callSpecial?_slot (name := Str.ofString "__setattr__") (hT _) slot_fn_sa (wpAny_call_entry slot_fn_sa (hT _) PySem.F.entry_object_setattr ?_ (PySem.F.args_object_setattr_3 _ _ _)))
  unfold Builtin.«object.__setattr__»
  have hpass := fn_passes (.ref x)
  repeat (first | rw [refuse_eq] | rw [fn_mro] | rw [hpass] | (with_reducible refine wpAny_loadPart_at hx ?_; rw [hc]) | rw [hB] | wp_step)
  rw [hdn, if_neg (by decide)]
  split
  · rename_i hcd
    cases hcd
  split
  · rename_i c hcd
    exact absurd hcd (hnc c)
  have hx₁ : (h.push { cls := .type "dict", data := .dict #[] }).get? x = some o := Heap.get?_push_of_some _ hx
  have hxs : x ≠ h.objs.size := Nat.ne_of_lt (Heap.lt_size hx)
  refine wpAny_bind (wpAny_alloc' ?_)
  refine wpAny_bind (wpAny_update' hx₁ ?_)
  have hdm : dictMade (.type "function") x h.objs.size = pure (some h.objs.size) := by
    unfold dictMade
    dsimp only
    rw [if_neg (by rw [show finalisedInACycleAlone "function" = false from by decide +kernel]; exact Bool.false_ne_true)]
  refine wpAny_of_eq hdm ?_
  have hgd : ((h.push { cls := .type "dict", data := .dict #[] }).update x fun o => { cls := o.cls, dict := some h.objs.size, data := o.data, slots := o.slots }).get? h.objs.size
      = some { cls := .type "dict", data := .dict #[] } :=
    (Heap.get?_update_ne _ _ _ _ hxs.symm).trans (Heap.get?_push_at rfl rfl)
  have hnd : ((h.push { cls := .type "dict", data := .dict #[] }).update x fun o => { cls := o.cls, dict := some h.objs.size, data := o.data, slots := o.slots }).Ns h.objs.size (fun _ => none) :=
    (in_eeeaaa _ (#[]) _ hgd rfl (fun e he => absurd he (by simp)) (fun _ => rfl))
  show wpAny _ _ (storeInDict h.objs.size (.str name _) name v) _ _ _
  unfold storeInDict newKeyGuard
  refine wpAny_bind (wpAny_pure (wpAny_bind (wpAny_nsSet1 (Heap.Ns1.of_empty hnd) fun h' hn' hs => ?_)))
  refine el_eeeaa (hn'.count (Within.cons name v Within.nil)) fun oD esD epD hoD hdD hcD => ?_
  refine wpAny_bind (wpAny_lookBehind hoD (by rw [hdD]; exact pastItsLine_dict (Nat.le_trans hcD (by rw [List.length_cons, List.length_nil, sizeLine_eq]; lia -abstractProof))) ?_)
  refine wpAny_pure ⟨_, rfl, wpAny_pure (hq _ _ ?_ hn' fun b ob hbx hb => ?_)⟩
  · refine (hs.2 x hxs).trans (Heap.get?_update_self _ hx₁ ?_)
    have hfr := (Heap.get?_some_iff.mp hx).2
    obtain ⟨oc, od, odt, osl⟩ := o
    cases odt <;> first | rfl | exact hfr
  · exact (hs.2 b (Nat.ne_of_lt (Heap.lt_size hb))).trans ((Heap.get?_update_ne _ _ _ _ hbx).trans (Heap.get?_push_of_some _ hb))
end
end Mine
end
section
namespace Mine
noncomputable abbrev pw := PySem.Challenge.pw_re0020_01
noncomputable def bodyOf : Option Stmt → List Stmt
  | some (.FunctionDef _ _ b _ _ _ _ _ _ _) => b
  | _ => []
noncomputable def scopeOf : Option Stmt → Scope
  | some (.FunctionDef _ _ _ _ _ _ s _ _ _) => s
  | _ => default
noncomputable def stAt (i : Nat) : Option Stmt := pw.main.body[i]?
section
variable {prog : Program} {w : World} {h₀ : Heap} {σ : List MO} {k n : Nat} {K : Fl → List (Str × Vl) → List MO → Prop}
set_option maxRecDepth 10000
theorem times_f {x d : Int} (hm : IntMulOk x d) (h : ∀ m, K (.ret (.d (.int (x * d)))) m σ) :
    WS prog w h₀ n (scopeOf (stAt 15)) k [("value", .d (.int x)), ("dots", .d (.int d)), ("twofold", .d (.bool false))] (bodyOf (stAt 15)) σ K := by
  refine WS.cons (W1.ite (WB.val (WE.loc rfl rfl (WT.bool ?_))))
  rw [if_neg Bool.false_ne_true]
  exact WS.nil (WS.cons (W1.ret (WE.bin (WE.loc rfl rfl (WE.loc rfl rfl (WO.mulI hm (h _)))))))
theorem times_t {y x d : Int} (hm : IntMulOk x d) (h : ∀ m, K (.ret (.d (.tup [.int y, .int (x * d)]))) m σ) :
    WS prog w h₀ n (scopeOf (stAt 15)) k [("value", .d (.tup [.int y, .int x])), ("dots", .d (.int d)), ("twofold", .d (.bool true))] (bodyOf (stAt 15)) σ K := by
  refine WS.cons (W1.ite (WB.val (WE.loc rfl rfl (WT.bool ?_))))
  rw [if_pos rfl]
  refine WS.cons (W1.ret (WE.tup (WEs.cons (WE.sub (WE.loc rfl rfl (WE.int (WO.itemT (by decide) rfl ?_)))))))
  refine WEs.cons (WE.bin (WE.sub (WE.loc rfl rfl (WE.int (WO.itemT (by decide) rfl (WE.loc rfl rfl (WO.mulI hm ?_)))))))
  exact WEs.nil ⟨_, rfl, Nat.le_of_ble_eq_true rfl, h _⟩
end
end Mine
end
section
namespace Mine
set_option maxRecDepth 10000
section
variable {prog : Program} {w : World} {h₀ : Heap} {σ : List MO} {k n : Nat} {K : Fl → List (Str × Vl) → List MO → Prop} {gl : Str → Option Value}
/-- the names of the module that are looked up -/
structure Gl (gl : Str → Option Value) : Prop where
  range : gl "range" = some (.type "range")
  sum : gl "sum" = some (.builtin "sum")
  max : gl "max" = some (.builtin "max")
  len : gl "len" = some (.builtin "len")
theorem count_calls {kvs : List (Str × D)} {vals : List Int} (G : Glb h₀ gl) (hv : kvs.map (·.2) = vals.map .int) (h : ∀ m, K (.ret (.d (.int vals.sum))) m σ) :
    WS prog w h₀ n (scopeOf (stAt 4)) k [("callers", .d (.dct kvs))] (bodyOf (stAt 4)) σ K := by
  refine WS.cons (W1.assign (WE.int (WN.loc rfl ?_)))
  refine WS.cons (W1.for_ (WI.values G (WE.loc rfl rfl ⟨kvs, rfl, ?_⟩)))
  refine WL.inv (fun vs m σ' => ∃ ns acc, vs = ns.map (fun i => .d (.int i)) ∧ m.lookup ("nc" : Str) = some (.d (.int acc)) ∧ acc + ns.sum = vals.sum ∧ σ' = σ) ?_ ?_ _ _ _ (in_eeaaa vals 0 ?_ rfl (by lia -abstractProof) rfl)
  · rintro v vs m σ' ⟨ns, acc, e, hm, hs, rfl⟩
    cases ns with
    | nil => cases e
    | cons i ns =>
      cases e
      refine WN.loc rfl (WS.cons (W1.aug (v := .d (.int acc)) hm rfl (WE.loc rfl rfl (WO.iaddI (WN.loc rfl (WS.nil (⟨rfl, in_eeaaa ns (acc + i) rfl rfl ?_ rfl⟩)))))))
      simp at hs; lia -abstractProof
  · rintro m σ' ⟨ns, acc, e, hm, hs, rfl⟩
    cases ns with
    | cons i ns => cases e
    | nil =>
      simp at hs
      subst hs
      exact WS.cons (W1.ret (WE.loc hm rfl (h _)))
  · rw [show (fun p : Str × D => Vl.d p.2) = Vl.d ∘ (·.2) from rfl, ← List.map_map, hv, List.map_map]; rfl
end
end Mine
end
section
namespace Mine
set_option maxRecDepth 10000
noncomputable def forBody : Option Stmt → List Stmt
  | some (.For _ _ b _ _) => b
  | _ => []
/-- a row, drawn so often -/
noncomputable def rowOf (r l : Str) (d a : Int) : Str := if 0 < a then strMul "." (d + a).toNat ++ l ++ "\r\n" else r
section
variable {prog : Program} {w : World} {h₀ : Heap} {σ : List MO} {k n : Nat} {K : Fl → List (Str × Vl) → List MO → Prop} {gl : Str → Option Value}
theorem strMul_len (n : Nat) : (strMul "." n).length = n := by
  have key : ∀ (n : Nat) (acc : Array Nat), ((List.replicate n ("." : Str).cps).foldl (· ++ ·) acc).size = acc.size + n := by
    intro n
    induction n with
    | zero => intro acc; simp
    | succ n ih => intro acc; rw [List.replicate_succ, List.foldl_cons, ih]; simp; have : ("." : Str).cps.size = 1 := by decide
                   lia -abstractProof
  have := key n #[]
  simpa [strMul, Str.length] using this
theorem app_len (a b : Str) : (a ++ b).length = a.length + b.length := by
  show (a.cps ++ b.cps).size = _
  simp [Str.length]
theorem rows_turn {i : Nat} {i' a d : Int} {r l : Str} {rs ds ls as : List D} {acc : List D} {m : List (Str × Vl)} (hi : i' = i)
    (h1 : m.lookup ("rows" : Str) = some (.d (.lst rs))) (h2 : m.lookup ("dots" : Str) = some (.d (.lst ds))) (h3 : m.lookup ("letters" : Str) = some (.d (.lst ls))) (h4 : m.lookup ("drawn" : Str) = some (.d (.tup as))) (h5 : m.lookup ("k" : Str) = some (.d (.int i')))
    (h6 : m.lookup ("made" : Str) = some (.m σ.length))
    (hr : rs[i]? = some (.str r)) (hd : ds[i]? = some (.int d)) (hl : ls[i]? = some (.str l)) (ha : as[i]? = some (.int a)) (l1 : rs.length ≤ 1000) (l2 : ds.length ≤ 1000) (l3 : ls.length ≤ 1000) (l4 : as.length ≤ 1000) (l5 : acc.length ≤ 1000)
    (b1 : 0 ≤ a) (b2 : a ≤ 10) (b3 : 0 ≤ d) (b4 : d ≤ 10) (b5 : l.length ≤ 10)
    (h : K .next m (σ ++ [.list (acc ++ [.str (rowOf r l d a)])])) :
    WS prog w h₀ n (scopeOf (stAt 17)) k m (forBody (bodyOf (stAt 17))[1]?) (σ ++ [.list acc]) K := by
  have h0 : 0 ≤ i' := by lia -abstractProof
  have hi' : i'.toNat = i := by lia -abstractProof
  have hσ : (σ ++ [MO.list acc])[σ.length]? = some (.list acc) := by simp
  have hset : (σ ++ [MO.list acc]).set σ.length (.list (acc ++ [.str (rowOf r l d a)])) = σ ++ [.list (acc ++ [.str (rowOf r l d a)])] := by simp
  refine WS.cons (W1.expr (WE.meth (T := "list") (id := "list.append") PySem.F.plainAttrs_list PySem.F.slot_list_append PySem.F.type_list_append (WE.loc h6 rfl ⟨ty_list hσ, ?_⟩)))
  refine WEs.cons (WE.ite (WB.cmp (WE.sub (WE.loc h4 rfl (WE.loc h5 rfl (WO.itemT h0 (by rw [hi']; exact ha) (WE.int (WO.gtI ⟨_, rfl, ?_⟩)) l4))))))
  by_cases q : 0 < a
  · rw [if_pos (by simpa using q)]
    have e : rowOf r l d a = strMul "." (d + a).toNat ++ l ++ "\r\n" := if_pos q
    have z1 := strMul_len (d + a).toNat
    refine WE.bin (WE.bin (WE.bin (WE.str (WE.bin (WE.sub (WE.loc h2 rfl (WE.loc h5 rfl (WO.itemL h0 (by rw [hi']; exact hd) ?_ l2))))))))
    refine WE.sub (WE.loc h4 rfl (WE.loc h5 rfl (WO.itemT h0 (by rw [hi']; exact ha) (WO.addI (WO.mulS (by lia -abstractProof) (by lia -abstractProof) (by decide) ?_)) l4)))
    refine WE.sub (WE.loc h3 rfl (WE.loc h5 rfl (WO.itemL h0 (by rw [hi']; exact hl) (WO.addS (by rw [z1, sizeLine_eq]; lia -abstractProof) (WE.str (WO.addS ?_ ?_))) l3)))
    · rw [app_len, z1, sizeLine_eq]
      have : ("\r\n" : Str).length = 2 := by decide
      lia -abstractProof
    · refine WEs.nil (WO.append hσ l5 (WS.nil ?_))
      rw [← e, hset]; exact h
  · rw [if_neg (by simpa using q)]
    have e : rowOf r l d a = r := if_neg q
    refine WE.sub (WE.loc h1 rfl (WE.loc h5 rfl (WO.itemL h0 (by rw [hi']; exact hr) (WEs.nil (WO.append hσ l5 (WS.nil ?_))) l1)))
    rw [← e, hset]; exact h
/-- _law_rows -/
theorem law_rows {r₀ r₁ r₂ l₀ l₁ l₂ : Str} {d₀ d₁ d₂ a₀ a₁ a₂ : Int} (G : Glb h₀ gl) (L : Gl gl) (hbd : ∀ y ∈ σ, y.bd ≤ σ.length) (hk : k ≤ σ.length)
    (ha : (0 ≤ a₀ ∧ a₀ ≤ 10) ∧ (0 ≤ a₁ ∧ a₁ ≤ 10) ∧ (0 ≤ a₂ ∧ a₂ ≤ 10)) (hd : (0 ≤ d₀ ∧ d₀ ≤ 10) ∧ (0 ≤ d₁ ∧ d₁ ≤ 10) ∧ (0 ≤ d₂ ∧ d₂ ≤ 10)) (hl : l₀.length ≤ 10 ∧ l₁.length ≤ 10 ∧ l₂.length ≤ 10)
    (h : ∀ m, K (.ret (.d (.lst [.str (rowOf r₀ l₀ d₀ a₀), .str (rowOf r₁ l₁ d₁ a₁), .str (rowOf r₂ l₂ d₂ a₂)]))) m σ) :
    WS prog w h₀ n (scopeOf (stAt 17)) k [("rows", .d (.lst [.str r₀, .str r₁, .str r₂])), ("dots", .d (.lst [.int d₀, .int d₁, .int d₂])), ("letters", .d (.lst [.str l₀, .str l₁, .str l₂])), ("drawn", .d (.tup [.int a₀, .int a₁, .int a₂]))] (bodyOf (stAt 17)) σ K := by
  refine WS.cons (W1.assign (WE.list0 (WN.loc rfl ?_) hbd))
  refine WS.cons (W1.for_ (WI.range1 (WE.glob G L.range rfl ⟨rfl, WE.int ⟨3, rfl, by decide, ?_⟩⟩)))
  refine WN.loc rfl (rows_turn (i := 0) rfl rfl rfl rfl rfl rfl rfl rfl rfl rfl rfl (Nat.le_of_ble_eq_true rfl) (Nat.le_of_ble_eq_true rfl) (Nat.le_of_ble_eq_true rfl) (Nat.le_of_ble_eq_true rfl) (Nat.zero_le _) ha.1.1 ha.1.2 hd.1.1 hd.1.2 hl.1 ?_)
  refine WN.loc rfl (rows_turn (i := 1) rfl rfl rfl rfl rfl rfl rfl rfl rfl rfl rfl (Nat.le_of_ble_eq_true rfl) (Nat.le_of_ble_eq_true rfl) (Nat.le_of_ble_eq_true rfl) (Nat.le_of_ble_eq_true rfl) (Nat.le_of_ble_eq_true rfl) ha.2.1.1 ha.2.1.2 hd.2.1.1 hd.2.1.2 hl.2.1 ?_)
  refine WN.loc rfl (rows_turn (i := 2) rfl rfl rfl rfl rfl rfl rfl rfl rfl rfl rfl (Nat.le_of_ble_eq_true rfl) (Nat.le_of_ble_eq_true rfl) (Nat.le_of_ble_eq_true rfl) (Nat.le_of_ble_eq_true rfl) (Nat.le_of_ble_eq_true rfl) ha.2.2.1 ha.2.2.2 hd.2.2.1 hd.2.2.2 hl.2.2 ?_)
  refine WS.freeze G (.list _) hbd hk (WS.cons (W1.ret (WE.loc (fzm_m rfl) rfl (h _))))
end
end Mine
end
section
namespace Mine
set_option maxRecDepth 10000
noncomputable def fact : Nat → Int
  | 0 => 1
  | 1 => 1
  | 2 => 2
  | _ => 6
/-- w, times d, times one more, .. -/
noncomputable def wR (w d : Int) : Nat → Int
  | 0 => w
  | n + 1 => wR w d n * (d + n)
theorem bits_small {b : Int} (h : b.natAbs < 4294967296) : Builtin.Int.intBits b ≤ 64 := by
  unfold Builtin.Int.intBits
  split
  · omega
  · rename_i q
    have h0 : b.natAbs ≠ 0 := by simpa using q
    have : b.natAbs.log2 < 32 := (Nat.log2_lt h0).mpr (by simpa using h)
    omega
theorem mulR {a b : Int} (h : b.natAbs < 4294967296) : IntMulOk a b := .of_right (bits_small h)
theorem fact_at : ∀ n : Nat, n ≤ 3 → ([.int 1, .int 1, .int 2, .int 6] : List D)[n]? = some (.int (fact n))
  | 0, _ => rfl
  | 1, _ => rfl
  | 2, _ => rfl
  | 3, _ => rfl
  | _ + 4, h => absurd h (by omega)
theorem fact_b (n : Nat) : 1 ≤ fact n ∧ fact n ≤ 6 := by
  unfold fact; split <;> omega
noncomputable def tWays (a b c : Nat) : Int := (fact (a + b + c)).fdiv (fact a * fact b * fact c)
noncomputable def tWeight (start d₀ d₁ d₂ : Int) (a b c : Nat) : Int := wR (wR (wR (start * tWays a b c) d₀ a) d₁ b) d₂ c
noncomputable def tSame (W : Int) (a b c : Nat) : Int :=
  if ((a + b + c : Nat) : Int) < 2 then W * (a + b + c : Nat) else (W * ([(a : Int) * (a - 1), (b : Int) * (b - 1), (c : Int) * (c - 1)] : List Int).sum).fdiv (((a + b + c : Nat) : Int) * (((a + b + c : Nat) : Int) - 1))
noncomputable def tVal (tw : Bool) (ways W n count : Int) : D := if tw = true then .tup [.int ((ways * n).fdiv count), .int ((W * n).fdiv count)] else .int ((W * n).fdiv count)
noncomputable def tFirst (tw : Bool) (ways W count : Int) (l : Str) (n : Int) (kvs : List (Str × D)) : List (Str × D) := if 0 < n then dset kvs l (tVal tw ways W n count) else kvs
section
variable {prog : Program} {w : World} {h₀ : Heap} {σ : List MO} {k n : Nat} {K : Fl → List (Str × Vl) → List MO → Prop} {gl : Str → Option Value}
noncomputable def Ag (xs : List Str) (m₀ m : List (Str × Vl)) : Prop := ∀ y : Str, y ∉ xs → m.lookup y = m₀.lookup y
theorem Ag.cons {xs : List Str} {m₀ m : List (Str × Vl)} {x : Str} {v : Vl} (h : Ag xs m₀ m) (hx : x ∈ xs) : Ag xs m₀ ((x, v) :: m) := fun y hy => by
  have hn : y ≠ x := fun q => hy (by rw [q]; exact hx)
  rw [lookup_cons_eq, if_neg hn]; exact h y hy
theorem Ag.refl (xs : List Str) (m₀ : List (Str × Vl)) : Ag xs m₀ m₀ := fun _ _ => rfl
theorem Ag.get {xs : List Str} {m₀ m : List (Str × Vl)} {x : Str} {v : Vl} (h : Ag xs m₀ m) (hv : m₀.lookup x = some v) (hx : x ∉ xs := by decide) : m.lookup x = some v := (h x hx).trans hv

/-- the inner loop -/
theorem rise_loop {i : Nat} {i' W d : Int} {N : Nat} {ds : List D} {m₀ : List (Str × Vl)} (hi : i' = i) (hN : N ≤ 10) (b3 : 0 ≤ d) (b4 : d ≤ 10) (hd : ds[i]? = some (.int d)) (l2 : ds.length ≤ 1000)
    (h1 : m₀.lookup ("dots" : Str) = some (.d (.lst ds))) (h2 : m₀.lookup ("k" : Str) = some (.d (.int i'))) (h3 : m₀.lookup ("weight" : Str) = some (.d (.int W)))
    (h : ∀ m, Ag ["weight", "more"] m₀ m → m.lookup ("weight" : Str) = some (.d (.int (wR W d N))) → K .next m σ) :
    WL prog w h₀ n (scopeOf (stAt 18)) k "more" (forBody (forBody (bodyOf (stAt 18))[4]?)[0]?) (nums 0 1 N) m₀ σ K := by
  have h0 : 0 ≤ i' := by omega
  have hi' : i'.toNat = i := by omega
  have ne : ∀ (j : Nat), j ≤ N → nums j 1 (N - j) = match N - j with | 0 => [] | r + 1 => .d (.int j) :: nums (j + 1 : Nat) 1 r := by
    intro j _
    cases N - j with
    | zero => rfl
    | succ r => rfl
  refine WL.inv (fun vs m σ' => ∃ j, j ≤ N ∧ vs = nums j 1 (N - j) ∧ Ag ["weight", "more"] m₀ m ∧ m.lookup ("weight" : Str) = some (.d (.int (wR W d j))) ∧ σ' = σ) ?_ ?_ _ _ _ ⟨0, Nat.zero_le _, rfl, Ag.refl _ _, h3, rfl⟩
  · rintro v vs m σ' ⟨j, hj, e, ag, hw, rfl⟩
    rw [ne j hj] at e
    cases q : N - j with
    | zero => rw [q] at e; cases e
    | succ r =>
      rw [q] at e; cases e
      have hr : N - (j + 1) = r := by omega
      have ag' : Ag ["weight", "more"] m₀ ((("more" : Str), Vl.d (.int j)) :: m) := ag.cons (by decide)
      have hw' : ((("more" : Str), Vl.d (.int j)) :: m).lookup ("weight" : Str) = some (.d (.int (wR W d j))) := by rw [lookup_cons_eq, if_neg (by decide)]; exact hw
      refine WN.loc rfl (WS.cons (W1.aug hw' rfl (WE.bin (WE.sub (WE.loc (ag'.get h1) rfl (WE.loc (ag'.get h2) rfl (WO.itemL h0 (by rw [hi']; exact hd) (WE.loc rfl rfl (WO.addI (WO.imulI (mulR (by omega)) (WN.loc rfl (WS.nil ⟨rfl, j + 1, by omega, ?_, ?_, rfl, rfl⟩))))) l2)))))))
      · rw [hr]
      · exact ag'.cons (by decide)
  · rintro m σ' ⟨j, hj, e, ag, hw, rfl⟩
    have : j = N := by
      rw [ne j hj] at e
      cases q : N - j with
      | zero => omega
      | succ r => rw [q] at e; cases e
    subst this
    exact h m ag hw
theorem Ag.trans {xs : List Str} {m₀ m₁ m : List (Str × Vl)} (a : Ag xs m₀ m₁) (b : Ag xs m₁ m) : Ag xs m₀ m := fun y hy => (b y hy).trans (a y hy)
theorem Ag.mono {xs ys : List Str} {m₀ m : List (Str × Vl)} (a : Ag xs m₀ m) (h : ∀ y, y ∈ xs → y ∈ ys) : Ag ys m₀ m := fun y hy => a y fun q => hy (h y q)
theorem Ag.norm {x : Str} {xs : List Str} {m₀ m : List (Str × Vl)} {v : Vl} (a : Ag (x :: xs) m₀ m) (hx : m.lookup x = some v) (hn : (xs.all fun y => (m₀.lookup y).isNone) = true) : ∀ y u, ((x, v) :: m₀).lookup y = some u → m.lookup y = some u := fun y u e => by
  rw [lookup_cons_eq] at e
  by_cases q : y = x
  · rw [if_pos q] at e; cases e; rw [q]; exact hx
  · rw [if_neg q] at e
    by_cases q' : y ∈ xs
    · have hz := List.all_eq_true.mp hn y q'
      rw [Option.isNone_iff_eq_none] at hz
      rw [hz] at e; cases e
    · rw [a y fun r => by rcases List.mem_cons.mp r with r | r; exact q r; exact q' r]; exact e
/-- one turn of the outer loop -/
theorem rise_turn {i : Nat} {W d : Int} {N : Nat} {ds as : List D} {m₀ : List (Str × Vl)} (G : Glb h₀ gl) (L : Gl gl) (hN : N ≤ 10) (b3 : 0 ≤ d) (b4 : d ≤ 10) (hd : ds[i]? = some (.int d)) (l2 : ds.length ≤ 1000) (ha : as[i]? = some (.int N)) (l4 : as.length ≤ 1000)
    (h1 : m₀.lookup ("dots" : Str) = some (.d (.lst ds))) (h4 : m₀.lookup ("drawn" : Str) = some (.d (.tup as))) (h3 : m₀.lookup ("weight" : Str) = some (.d (.int W)))
    (h : ∀ m, Ag ["weight", "more", "k"] m₀ m → m.lookup ("weight" : Str) = some (.d (.int (wR W d N))) → K .next m σ) :
    WS prog w h₀ n (scopeOf (stAt 18)) k ((("k" : Str), .d (.int i)) :: m₀) (forBody (bodyOf (stAt 18))[4]?) σ K := by
  have ag₀ : Ag ["weight", "more", "k"] m₀ ((("k" : Str), .d (.int i)) :: m₀) := (Ag.refl _ _).cons (by decide)
  refine WS.cons (W1.for_ (WI.range1 (WE.glob G L.range rfl ⟨rfl, WE.sub (WE.loc (ag₀.get h4) rfl (WE.loc rfl rfl (WO.itemT (Int.natCast_nonneg i) (by simpa using ha) ⟨N, rfl, by omega, ?_⟩ l4)))⟩)))
  refine rise_loop (i := i) (W := W) rfl hN b3 b4 hd l2 (ag₀.get h1) rfl (by rw [lookup_cons_eq, if_neg (by decide)]; exact h3) fun m ag hw => WS.nil (h m ?_ hw)
  exact ag₀.trans (ag.mono (by intro y hy; simp at hy ⊢; rcases hy with q | q <;> simp [q]))
/-- one turn of the last loop -/
theorem first_turn {i : Nat} {W ways count a : Int} {l : Str} {ls as : List D} {kvs : List (Str × D)} {tw : Bool} {m : List (Str × Vl)} (hl : ls[i]? = some (.str l)) (l2 : ls.length ≤ 1000) (ha : as[i]? = some (.int a)) (l4 : as.length ≤ 1000) (l5 : kvs.length ≤ 1000)
    (b1 : 0 ≤ a) (b2 : a ≤ 10) (b3 : 0 < a → 0 < count) (b4 : count ≤ 10)
    (h1 : m.lookup ("letters" : Str) = some (.d (.lst ls))) (h2 : m.lookup ("drawn" : Str) = some (.d (.tup as))) (h3 : m.lookup ("weight" : Str) = some (.d (.int W))) (h4 : m.lookup ("ways" : Str) = some (.d (.int ways))) (h5 : m.lookup ("count" : Str) = some (.d (.int count)))
    (h6 : m.lookup ("twofold" : Str) = some (.d (.bool tw))) (h7 : m.lookup ("firsts" : Str) = some (.m σ.length))
    (h : ∀ m', Ag ["share", "k"] m m' → K .next m' (σ ++ [.dict (tFirst tw ways W count l a kvs)])) :
    WS prog w h₀ n (scopeOf (stAt 18)) k ((("k" : Str), .d (.int i)) :: m) (forBody (bodyOf (stAt 18))[7]?) (σ ++ [.dict kvs]) K := by
  have ag : Ag ["share", "k"] m ((("k" : Str), .d (.int i)) :: m) := (Ag.refl _ _).cons (by decide)
  have hi0 : (0 : Int) ≤ (i : Int) := Int.natCast_nonneg i
  have hσ : (σ ++ [MO.dict kvs])[σ.length]? = some (.dict kvs) := by simp
  refine WS.cons (W1.ite (WB.cmp (WE.sub (WE.loc (ag.get h2) rfl (WE.loc rfl rfl (WO.itemT hi0 (by simpa using ha) (WE.int (WO.gtI ⟨_, rfl, ?_⟩)) l4))))))
  by_cases q : 0 < a
  · rw [if_pos (by simpa using q)]
    have hc := b3 q
    have hset : (σ ++ [MO.dict kvs]).set σ.length (.dict (dset kvs l (tVal tw ways W a count))) = σ ++ [.dict (tFirst tw ways W count l a kvs)] := by simp [tFirst, q]
    refine WS.cons (W1.assign (WE.bin (WE.bin (WE.loc (ag.get h3) rfl (WE.sub (WE.loc (ag.get h2) rfl (WE.loc rfl rfl (WO.itemT hi0 (by simpa using ha) (WO.mulI (mulR (by omega)) (WE.loc (ag.get h5) rfl (WO.divI (by omega) (PyProof.noPylong_small (by omega)) (WN.loc rfl ?_)))) l4))))))))
    have ag' : Ag ["share", "k"] m ((("share" : Str), .d (.int ((W * a).fdiv count))) :: (("k" : Str), .d (.int i)) :: m) := ag.cons (by decide)
    refine WS.cons (W1.setItem (WE.ite (WB.val (WE.loc (ag'.get h6) rfl (WT.bool ?_)))))
    cases tw with
    | true =>
      rw [if_pos rfl]
      refine WE.tup (WEs.cons (WE.bin (WE.bin (WE.loc (ag'.get h4) rfl (WE.sub (WE.loc (ag'.get h2) rfl (WE.loc rfl rfl (WO.itemT hi0 (by simpa using ha) (WO.mulI (mulR (by omega)) (WE.loc (ag'.get h5) rfl (WO.divI (by omega) (PyProof.noPylong_small (by omega)) ?_))) l4))))))))
      refine WEs.cons (WE.loc rfl rfl (WEs.nil ⟨_, rfl, Nat.le_of_ble_eq_true rfl, ?_⟩))
      refine WE.loc (ag'.get h7) rfl (WE.sub (WE.loc (ag'.get h1) rfl (WE.loc rfl rfl (WO.itemL hi0 (by simpa using hl) (WU.setD hσ l5 (WS.nil ?_)) l2))))
      have e : D.tup [.int ((ways * a).fdiv count), .int ((W * a).fdiv count)] = tVal true ways W a count := by simp [tVal]
      rw [e, hset]
      exact WS.nil (h _ ag')
    | false =>
      rw [if_neg Bool.false_ne_true]
      refine WE.loc rfl rfl (WE.loc (ag'.get h7) rfl (WE.sub (WE.loc (ag'.get h1) rfl (WE.loc rfl rfl (WO.itemL hi0 (by simpa using hl) (WU.setD hσ l5 (WS.nil ?_)) l2)))))
      have e : dset kvs l (D.int ((W * a).fdiv count)) = dset kvs l (tVal false ways W a count) := by simp [tVal]
      rw [e, hset]
      exact WS.nil (h _ ag')
  · rw [if_neg (by simpa using q)]
    have e : tFirst tw ways W count l a kvs = kvs := by simp [tFirst, q]
    rw [e] at h
    exact WS.nil (WS.nil (h _ ag))
end
end Mine
end
section
namespace Mine
set_option maxRecDepth 10000
noncomputable def tFirsts (tw : Bool) (ways W count : Int) (l₀ l₁ l₂ : Str) (a b c : Nat) : List (Str × D) := tFirst tw ways W count l₂ c (tFirst tw ways W count l₁ b (tFirst tw ways W count l₀ a []))
noncomputable def tEntry (start d₀ d₁ d₂ : Int) (l₀ l₁ l₂ : Str) (tw : Bool) (a b c : Nat) : D :=
  .tup [.int (tWays a b c), .int (tWeight start d₀ d₁ d₂ a b c), .int ((tWeight start d₀ d₁ d₂ a b c * (a : Int)).fdiv (if (1 : Int) > (a + b + c : Nat) then 1 else (a + b + c : Nat))), .int (tSame (tWeight start d₀ d₁ d₂ a b c) a b c),
    .dct (tFirsts tw (tWays a b c) (tWeight start d₀ d₁ d₂ a b c) (a + b + c : Nat) l₀ l₁ l₂ a b c)]
theorem dset_len (kvs : List (Str × D)) (x : Str) (d : D) : (dset kvs x d).length ≤ kvs.length + 1 := by
  unfold dset; split <;> simp
theorem tFirst_len (tw : Bool) (ways W count : Int) (l : Str) (n : Int) (kvs : List (Str × D)) : (tFirst tw ways W count l n kvs).length ≤ kvs.length + 1 := by
  unfold tFirst; split
  · exact dset_len _ _ _
  · lia
section
variable {prog : Program} {w : World} {h₀ : Heap} {σ : List MO} {k n : Nat} {K : Fl → List (Str × Vl) → List MO → Prop} {gl : Str → Option Value}
theorem law_entry {l₀ l₁ l₂ : Str} {start d₀ d₁ d₂ : Int} {tw : Bool} {a b c : Nat} (G : Glb h₀ gl) (L : Gl gl) (hbd : ∀ y ∈ σ, y.bd ≤ σ.length) (hk : k ≤ σ.length) (ha : a + b + c ≤ 3)
    (hd : (0 ≤ d₀ ∧ d₀ ≤ 10) ∧ (0 ≤ d₁ ∧ d₁ ≤ 10) ∧ (0 ≤ d₂ ∧ d₂ ≤ 10)) (h : ∀ m, K (.ret (.d (tEntry start d₀ d₁ d₂ l₀ l₁ l₂ tw a b c))) m σ) :
    WS prog w h₀ n (scopeOf (stAt 18)) k [("dots", .d (.lst [.int d₀, .int d₁, .int d₂])), ("letters", .d (.lst [.str l₀, .str l₁, .str l₂])), ("start", .d (.int start)), ("drawn", .d (.tup [.int a, .int b, .int c])), ("twofold", .d (.bool tw))] (bodyOf (stAt 18)) σ K := by
  have fa := fact_b a
  have fb := fact_b b
  have fc := fact_b c
  have fab : 1 ≤ fact a * fact b ∧ fact a * fact b ≤ 36 := ⟨by have := Int.mul_le_mul fa.1 fb.1 (by lia) (by lia); simpa using this, by have := Int.mul_le_mul fa.2 fb.2 (by lia) (by lia); simpa using this⟩
  have fabc : 1 ≤ fact a * fact b * fact c ∧ fact a * fact b * fact c ≤ 216 := ⟨by have := Int.mul_le_mul fab.1 fc.1 (by lia) (by lia); simpa using this, by have := Int.mul_le_mul fab.2 fc.2 (by lia) (by lia); simpa using this⟩
  have fs := fact_b (a + b + c)
  have hw : 0 ≤ tWays a b c ∧ tWays a b c ≤ 6 := by
    unfold tWays
    rw [Int.fdiv_eq_ediv_of_nonneg _ (by lia)]
    exact ⟨Int.ediv_nonneg (by lia) (by lia), Int.le_trans (Int.ediv_le_self _ (by lia)) fs.2⟩
  have hcount : ([(a : Int), (b : Int), (c : Int)] : List Int).sum = ((a + b + c : Nat) : Int) := by simp; lia
  refine WS.cons (W1.assign (WE.callBi (WE.glob G L.sum rfl ⟨rfl, WEs.cons (WE.loc rfl rfl (WEs.nil ?_))⟩)))
  refine WO.sumT (ns := [(a : Int), (b : Int), (c : Int)]) (WN.loc rfl ?_)
  rw [hcount]
  refine WS.cons (W1.assign (WE.tup (WEs.cons (WE.int (WEs.cons (WE.int (WEs.cons (WE.int (WEs.cons (WE.int (WEs.nil ⟨_, rfl, Nat.le_of_ble_eq_true rfl, WN.loc rfl ?_⟩)))))))))))
  refine WS.cons (W1.assign (WE.bin (WE.sub (WE.loc rfl rfl (WE.loc rfl rfl (WO.itemT (Int.natCast_nonneg _) (by rw [Int.toNat_natCast]; exact fact_at _ ha) ?_))))))
  refine WE.bin (WE.bin (WE.sub (WE.loc rfl rfl (WE.sub (WE.loc rfl rfl (WE.int (WO.itemT (by decide) rfl (WO.itemT (Int.natCast_nonneg _) (by rw [Int.toNat_natCast]; exact fact_at a (by lia)) ?_))))))))
  refine WE.sub (WE.loc rfl rfl (WE.sub (WE.loc rfl rfl (WE.int (WO.itemT (by decide) rfl (WO.itemT (Int.natCast_nonneg _) (by rw [Int.toNat_natCast]; exact fact_at b (by lia)) (WO.mulI (mulR (by lia)) ?_)))))))
  refine WE.sub (WE.loc rfl rfl (WE.sub (WE.loc rfl rfl (WE.int (WO.itemT (by decide) rfl (WO.itemT (Int.natCast_nonneg _) (by rw [Int.toNat_natCast]; exact fact_at c (by lia)) (WO.mulI (mulR (by lia)) (WO.divI (by lia) (PyProof.noPylong_small (by lia)) (WN.loc rfl ?_)))))))))
  rw [show (fact (a + b + c)).fdiv (fact a * fact b * fact c) = tWays a b c from rfl]
  refine WS.cons (W1.assign (WE.bin (WE.loc rfl rfl (WE.loc rfl rfl (WO.mulI (mulR (by lia)) (WN.loc rfl ?_))))))
  -- the rises
  refine WS.cons (W1.for_ (WI.range1 (WE.glob G L.range rfl ⟨rfl, WE.int ⟨3, rfl, by decide, ?_⟩⟩)))
  refine WN.loc rfl (rise_turn (i := 0) (N := a) G L (by lia) hd.1.1 hd.1.2 rfl (Nat.le_of_ble_eq_true rfl) rfl (Nat.le_of_ble_eq_true rfl) rfl rfl rfl fun m₁ ag₁ hw₁ => ?_)
  refine WN.loc rfl (rise_turn (i := 1) (N := b) G L (by lia) hd.2.1.1 hd.2.1.2 rfl (Nat.le_of_ble_eq_true rfl) rfl (Nat.le_of_ble_eq_true rfl) (ag₁.get rfl) (ag₁.get rfl) hw₁ fun m₂ ag₂ hw₂ => ?_)
  refine WN.loc rfl (rise_turn (i := 2) (N := c) G L (by lia) hd.2.2.1 hd.2.2.2 rfl (Nat.le_of_ble_eq_true rfl) rfl (Nat.le_of_ble_eq_true rfl) ((ag₁.trans ag₂).get rfl) ((ag₁.trans ag₂).get rfl) hw₂ fun m₃ ag₃ hw₃ => ?_)
  refine WS.norm (Ag.norm ((ag₁.trans ag₂).trans ag₃) hw₃ rfl) ?_
  rw [show wR (wR (wR (start * tWays a b c) d₀ a) d₁ b) d₂ c = tWeight start d₀ d₁ d₂ a b c from rfl]
  have hret : tEntry start d₀ d₁ d₂ l₀ l₁ l₂ tw a b c = .tup [.int (tWays a b c), .int (tWeight start d₀ d₁ d₂ a b c), .int ((tWeight start d₀ d₁ d₂ a b c * (a : Int)).fdiv (if (1 : Int) > (a + b + c : Nat) then 1 else (a + b + c : Nat))), .int (tSame (tWeight start d₀ d₁ d₂ a b c) a b c),
    .dct (tFirsts tw (tWays a b c) (tWeight start d₀ d₁ d₂ a b c) (a + b + c : Nat) l₀ l₁ l₂ a b c)] := rfl
  rw [hret] at h
  generalize tWeight start d₀ d₁ d₂ a b c = W at h ⊢
  generalize hM : (((("weight" : Str), Vl.d (.int W)) :: (("weight" : Str), Vl.d (.int (start * tWays a b c))) :: (("ways" : Str), Vl.d (.int (tWays a b c))) :: (("whole" : Str), Vl.d (.tup [.int 1, .int 1, .int 2, .int 6])) :: (("count" : Str), Vl.d (.int ((a + b + c : Nat) : Int))) ::
    [(("dots" : Str), .d (.lst [.int d₀, .int d₁, .int d₂])), ("letters", .d (.lst [.str l₀, .str l₁, .str l₂])), ("start", .d (.int start)), ("drawn", .d (.tup [.int a, .int b, .int c])), ("twofold", .d (.bool tw))]) : List (Str × Vl)) = M
  have g1 : M.lookup ("letters" : Str) = some (.d (.lst [.str l₀, .str l₁, .str l₂])) := by rw [← hM]; rfl
  have g2 : M.lookup ("drawn" : Str) = some (.d (.tup [.int a, .int b, .int c])) := by rw [← hM]; rfl
  have g3 : M.lookup ("weight" : Str) = some (.d (.int W)) := by rw [← hM]; rfl
  have g4 : M.lookup ("ways" : Str) = some (.d (.int (tWays a b c))) := by rw [← hM]; rfl
  have g5 : M.lookup ("count" : Str) = some (.d (.int ((a + b + c : Nat) : Int))) := by rw [← hM]; rfl
  have g6 : M.lookup ("twofold" : Str) = some (.d (.bool tw)) := by rw [← hM]; rfl
  have tail : WS prog w h₀ n (scopeOf (stAt 18)) k ((("same" : Str), .d (.int (tSame W a b c))) :: M) ((bodyOf (stAt 18)).drop 6) σ K := by
    refine WS.cons (W1.assign (WE.dict0 (WN.loc rfl ?_) hbd))
    refine WS.cons (W1.for_ (WI.range1 (WE.glob G L.range rfl ⟨rfl, WE.int ⟨3, rfl, by decide, ?_⟩⟩)))
    have ag₀ : Ag ["same", "firsts"] M ((("firsts" : Str), .m σ.length) :: (("same" : Str), .d (.int (tSame W a b c))) :: M) := ((Ag.refl _ _).cons (by decide)).cons (by decide)
    have z1 := tFirst_len tw (tWays a b c) W ((a + b + c : Nat) : Int) l₀ a []
    have z2 := tFirst_len tw (tWays a b c) W ((a + b + c : Nat) : Int) l₁ b (tFirst tw (tWays a b c) W ((a + b + c : Nat) : Int) l₀ a [])
    simp only [List.length_nil] at z1
    refine WN.loc rfl (first_turn (i := 0) (a := (a : Int)) rfl (Nat.le_of_ble_eq_true rfl) rfl (Nat.le_of_ble_eq_true rfl) (Nat.zero_le _) (by lia) (by lia) (by lia) (by lia) (ag₀.get g1) (ag₀.get g2) (ag₀.get g3) (ag₀.get g4) (ag₀.get g5) (ag₀.get g6) rfl fun m₁ ag₁ => ?_)
    have a₁ : Ag ["same", "firsts", "share", "k"] M m₁ := (ag₀.mono (by intro y hy; simp at hy ⊢; rcases hy with q | q <;> simp [q])).trans (ag₁.mono (by intro y hy; simp at hy ⊢; rcases hy with q | q <;> simp [q]))
    have f₁ : m₁.lookup ("firsts" : Str) = some (.m σ.length) := ag₁.get rfl
    refine WN.loc rfl (first_turn (i := 1) (a := (b : Int)) rfl (Nat.le_of_ble_eq_true rfl) rfl (Nat.le_of_ble_eq_true rfl) (by lia) (by lia) (by lia) (by lia) (by lia) (a₁.get g1) (a₁.get g2) (a₁.get g3) (a₁.get g4) (a₁.get g5) (a₁.get g6) f₁ fun m₂ ag₂ => ?_)
    have a₂ : Ag ["same", "firsts", "share", "k"] M m₂ := a₁.trans (ag₂.mono (by intro y hy; simp at hy ⊢; rcases hy with q | q <;> simp [q]))
    refine WN.loc rfl (first_turn (i := 2) (a := (c : Int)) rfl (Nat.le_of_ble_eq_true rfl) rfl (Nat.le_of_ble_eq_true rfl) (by lia) (by lia) (by lia) (by lia) (by lia) (a₂.get g1) (a₂.get g2) (a₂.get g3) (a₂.get g4) (a₂.get g5) (a₂.get g6) (ag₂.get f₁) fun m₃ ag₃ => ?_)
    have a₃ : Ag ["same", "firsts", "share", "k"] M m₃ := a₂.trans (ag₃.mono (by intro y hy; simp at hy ⊢; rcases hy with q | q <;> simp [q]))
    have f₃ : m₃.lookup ("firsts" : Str) = some (.m σ.length) := ag₃.get (ag₂.get f₁)
    have s₃ : m₃.lookup ("same" : Str) = some (.d (.int (tSame W a b c))) := ag₃.get (ag₂.get (ag₁.get rfl))
    refine WS.freeze G (.dict _) hbd hk (WS.cons (W1.ret (WE.tup (WEs.cons (WE.loc (fzm_d (a₃.get g4)) rfl (WEs.cons (WE.loc (fzm_d (a₃.get g3)) rfl ?_)))))))
    refine WEs.cons (WE.bin (WE.bin (WE.loc (fzm_d (a₃.get g3)) rfl (WE.sub (WE.loc (fzm_d (a₃.get g2)) rfl (WE.int (WO.itemT (by decide) rfl (WO.mulI (mulR (by lia)) ?_))))))))
    refine WE.callBi (WE.glob G L.max rfl ⟨rfl, WEs.cons (WE.loc (fzm_d (a₃.get g5)) rfl (WEs.cons (WE.int (WEs.nil (WO.maxI (WO.divI ?_ (PyProof.noPylong_small ?_) ?_))))))⟩)
    · split <;> lia
    · split <;> lia
    · exact WEs.cons (WE.loc (fzm_d s₃) rfl (WEs.cons (WE.loc (fzm_m f₃) rfl (WEs.nil ⟨_, rfl, Nat.le_of_ble_eq_true rfl, h _⟩))))
  refine WS.cons (W1.ite (WB.cmp (WE.loc g5 rfl (WE.int (WO.ltI ⟨_, rfl, ?_⟩)))))
  by_cases q : ((a + b + c : Nat) : Int) < 2
  · rw [if_pos (by simpa using q)]
    refine WS.cons (W1.assign (WE.bin (WE.loc g3 rfl (WE.loc g5 rfl (WO.mulI (mulR (by lia)) (WN.loc rfl (WS.nil ?_)))))))
    have e : W * ((a + b + c : Nat) : Int) = tSame W a b c := by unfold tSame; rw [if_pos q]
    rw [e]; exact tail
  · rw [if_neg (by simpa using q)]
    refine WS.cons (W1.assign (WE.bin (WE.bin (WE.loc g3 rfl (WE.callBi (WE.glob G L.sum rfl ⟨rfl, WEs.cons (WE.comp (by rw [← hM]; rfl) (WI.tuple (WE.loc g2 rfl ⟨_, rfl, ?_⟩)))⟩))))))
    refine WE.bin (WE.loc rfl rfl (WE.bin (WE.loc rfl rfl (WE.int (WO.subI (WO.mulI (mulR (by lia)) ⟨_, rfl, Nat.zero_le _, ?_⟩))))))
    refine WE.bin (WE.loc rfl rfl (WE.bin (WE.loc rfl rfl (WE.int (WO.subI (WO.mulI (mulR (by lia)) ⟨_, rfl, Nat.le_of_ble_eq_true rfl, ?_⟩))))))
    refine WE.bin (WE.loc rfl rfl (WE.bin (WE.loc rfl rfl (WE.int (WO.subI (WO.mulI (mulR (by lia)) ⟨_, rfl, Nat.le_of_ble_eq_true rfl, ?_⟩))))))
    have b1 : ∀ x : Nat, x ≤ 3 → 0 ≤ (x : Int) * ((x : Int) - 1) ∧ (x : Int) * ((x : Int) - 1) ≤ 6 := by decide
    have b2 : ∀ x : Nat, x ≤ 3 → 2 ≤ x → 2 ≤ (x : Int) * ((x : Int) - 1) := by decide
    have e1 := b1 a (by lia)
    have e2 := b1 b (by lia)
    have e3 := b1 c (by lia)
    have e4 := b1 (a + b + c) ha
    have e5 := b2 (a + b + c) ha (by lia)
    refine WEs.nil (WO.sumL (ns := [(a : Int) * (a - 1), (b : Int) * (b - 1), (c : Int) * (c - 1)]) (WO.mulI (mulR ?_) (WE.bin (WE.loc g5 rfl (WE.bin (WE.loc g5 rfl (WE.int (WO.subI (WO.mulI (mulR (by lia)) (WO.divI (by lia) (PyProof.noPylong_small (by lia)) (WN.loc rfl (WS.nil ?_))))))))))))
    · simp only [List.sum_cons, List.sum_nil]; lia
    · have e : (W * ([(a : Int) * (a - 1), (b : Int) * (b - 1), (c : Int) * (c - 1)] : List Int).sum).fdiv (((a + b + c : Nat) : Int) * (((a + b + c : Nat) : Int) - 1)) = tSame W a b c := by unfold tSame; rw [if_neg q]
      rw [e]; exact tail
end
end Mine
end
section
namespace Mine
set_option maxRecDepth 10000
noncomputable def bareOf (x : Str) : Str := Txt.join "" (x.cps.toList.map fun c => ("\\" : Str) ++ ⟨#[c]⟩) ++ " "
noncomputable def quotOf (x : Str) : Str := ("\"" : Str) ++ Txt.replace (Txt.replace x "\\" "\\\\") "\"" "\\\"" ++ "\" "
noncomputable def spelled (x : Str) (b : Bool) : Str := if b = true then bareOf x else quotOf x
section
variable {prog : Program} {w : World} {h₀ : Heap} {σ : List MO} {k n : Nat} {K : Fl → List (Str × Vl) → List MO → Prop} {gl : Str → Option Value}
theorem sum_two : ∀ l : List Nat, ((l.map fun c => ("\\" : Str) ++ (⟨#[c]⟩ : Str)).map (·.length)).sum = 2 * l.length
  | [] => rfl
  | c :: l => by
    have := sum_two l
    simp only [List.map_cons, List.sum_cons, List.length_cons] at this ⊢
    rw [this]
    have : (("\\" : Str) ++ (⟨#[c]⟩ : Str)).length = 2 := rfl
    lia -abstractProof
theorem law_spelled {x : Str} {b : Bool} (hx : x.length ≤ 100) (h1 : (Txt.replace x "\\" "\\\\").length ≤ 1000) (h2 : (Txt.replace (Txt.replace x "\\" "\\\\") "\"" "\\\"").length ≤ 1000) (h3 : (bareOf x).length ≤ 1000) (h : ∀ m, K (.ret (.d (.str (spelled x b)))) m σ) :
    WS prog w h₀ n (scopeOf (stAt 14)) k [("word", .d (.str x)), ("bare", .d (.bool b))] (bodyOf (stAt 14)) σ K := by
  refine WS.cons (W1.ite (WB.val (WE.loc rfl rfl (WT.bool ?_))))
  cases b with
  | true =>
    rw [if_pos rfl]
    refine WS.cons (W1.ret (WE.bin (WE.meth (T := "str") (id := "str.join") PySem.F.plainAttrs_str PySem.F.slot_str_join PySem.F.type_str_join (WE.str ⟨ty_str, WEs.cons (WE.comp rfl (WI.str (WE.loc rfl rfl ⟨x, rfl, ?_⟩)))⟩))))
    refine WC.inv (fun vs σ' acc => ∃ (l : List Nat) (ac : List Str), vs = l.map (fun c => .d (.str ⟨#[c]⟩)) ∧ acc = ac.map .str ∧ σ' = σ ∧ l.length + ac.length ≤ 100 ∧ ac ++ (l.map fun c => ("\\" : Str) ++ ⟨#[c]⟩) = (x.cps.toList.map fun c => ("\\" : Str) ++ ⟨#[c]⟩)) ?_ ?_ _ _ _
      (in_eeaaaa x.cps.toList ([]) rfl rfl rfl (by simpa [Str.length] using hx) rfl)
    · rintro v vs σ' acc ⟨l, ac, e1, rfl, rfl, hl, e⟩
      cases l with
      | nil => cases e1
      | cons c l =>
        cases e1
        refine WE.bin (WE.str (WE.loc rfl rfl (WO.addS (by rw [sizeLine_eq]; show 1 + 1 ≤ _; lia -abstractProof) (⟨_, rfl, by simp at hl ⊢; lia -abstractProof, in_eeaaaa l (ac ++ [("\\" : Str) ++ ⟨#[c]⟩]) rfl (by simp) rfl (by simp at hl ⊢; lia -abstractProof) (by simpa using e)⟩))))
    · rintro σ' acc ⟨l, ac, e1, rfl, rfl, hl, e⟩
      cases l with
      | cons c l => cases e1
      | nil =>
        simp only [List.map_nil, List.append_nil] at e
        subst e
        refine WEs.nil (WO.join ?_ (WE.str (WO.addS ?_ (h _))))
        · rw [sum_two]
          have : x.cps.toList.length = x.length := by simp [Str.length]
          simp only [List.length_map, this]
          have e0 : ("" : Str).length = 0 := rfl
          rw [e0, Nat.mul_zero]
          lia -abstractProof
        · have := h3
          unfold bareOf at this
          rw [app_len] at this
          rw [sizeLine_eq]; lia -abstractProof
  | false =>
    rw [if_neg Bool.false_ne_true]
    refine WS.nil (WS.cons (W1.ret (WE.bin (WE.binK (WEt.replace (by decide) (by decide) (WEt.replace (by decide) (by decide) (WEt.of (WE.loc rfl rfl ⟨x, rfl, by lia -abstractProof, ⟨_, rfl, h1, ?_⟩⟩))))))))
    refine WO.addS ?_ (WE.str (WO.addS ?_ (h _)))
    · rw [sizeLine_eq]; show 1 + _ ≤ _; lia -abstractProof
    · rw [app_len, sizeLine_eq]; show 1 + _ + 2 ≤ _; lia -abstractProof
end
end Mine
end
section
namespace Mine
set_option maxRecDepth 10000
section
variable {prog : Program} {w : World} {h₀ : Heap} {σ : List MO} {k n : Nat} {K : Fl → List (Str × Vl) → List MO → Prop} {gl : Str → Option Value} {sc : Scope} {m : List (Str × Vl)}
theorem WE.globS {Kv : Vl → List MO → Prop} (G : Glb h₀ gl) {x y : Str} {t : Tok} {p : Pos} (hv : gl x = some (.str y t)) (hk : sc.names.lookup x = some .globalImplicit) (h : Kv (.d (.str y)) σ) (hd : (x == ("__debug__" : Str)) = false := by decide) :
    WE prog w h₀ n sc m (.Name x p) σ Kv := fun A env fs as s hA hE R F =>
  wpAny_mono (WE.glob (K := fun v σ' => v = .g (.str y t) ∧ σ' = σ) G hv hk ⟨rfl, rfl⟩ hd A env fs as s hA hE R F) (fun u s' zf10 => PostE.elqq zf10 fun a h1 h2 h3 => by

    have h3' : u = .str y t := h3
    subst h3'
    exact (in_eeeaaa (.d (.str y)) a _ h1 h2 (Rd.str _ _) h)) fun _ _ x => x
structure GlQ (h₀ : Heap) (gl : Str → Option Value) : Prop where
  one : ∃ a, gl "_twin_re_1" = some (.ref a) ∧ IsPat h₀ a code1
  two : ∃ a, gl "_twin_re_2" = some (.ref a) ∧ IsPat h₀ a code2
  crlf : ∃ t, gl "CRLF" = some (.str "\r\n" t)
theorem quotedata {x y z : Str} (G : Glb h₀ gl) (Q : GlQ h₀ gl) (hx : x.length ≤ 100) (h1 : subOf code2 "\r\n" x = some y) (hy : y.length ≤ 100) (h2 : subOf code1 ".." y = some z) (h : ∀ m, K (.ret (.d (.str z))) m σ) :
    WS prog w h₀ n (scopeOf (stAt 11)) k [("data", .d (.str x))] (bodyOf (stAt 11)) σ K := by
  refine el_ea (Q.one) fun p1 g1 i1 => ?_
  refine el_ea (Q.two) fun p2 g2 i2 => ?_
  obtain ⟨tc, g3⟩ := Q.crlf
  refine WS.cons (W1.ret (WE.meth (T := "re.Pattern") (id := "re.Pattern.sub") plainAttrs_pat slot_sub type_sub (WE.glob G g1 rfl ⟨ty_pat i1, WEs.cons (WE.str (WEs.cons ?_))⟩)))
  refine WE.meth (T := "re.Pattern") (id := "re.Pattern.sub") plainAttrs_pat slot_sub type_sub (WE.glob G g2 rfl ⟨ty_pat i2, WEs.cons (WE.globS G g3 rfl (WEs.cons (WE.loc rfl rfl (WEs.nil ?_))))⟩)
  exact WO.sub i2 hx (by decide) (by decide +kernel) h1 (WEs.nil (WO.sub i1 hy (by decide) (by decide +kernel) h2 (h _)))
end
end Mine
end
section
namespace Mine
set_option maxRecDepth 10000
/-- a caller's value: a number, or a pair of numbers -/
inductive OkV : Bool → D → Prop
  | one (i : Int) : OkV false (.int i)
  | two (a b : Int) : OkV true (.tup [.int a, .int b])
noncomputable def addD : D → D → D
  | .int x, .int y => .int (y + x)
  | .tup [.int a, .int b], .tup [.int c, .int d] => .tup [.int (a + c), .int (b + d)]
  | x, _ => x
noncomputable def mergeStep (acc : List (Str × D)) (p : Str × D) : List (Str × D) := match dget acc p.1 with
  | some old => dset acc p.1 (addD p.2 old)
  | none => dset acc p.1 p.2
noncomputable def copyD (kvs : List (Str × D)) : List (Str × D) := kvs.foldl (fun a p => dset a p.1 p.2) []
noncomputable def mergeD (tgt src : List (Str × D)) : List (Str × D) := src.foldl mergeStep (copyD tgt)
theorem dget_cons {p : Str × D} {r : List (Str × D)} {y : Str} : dget (p :: r) y = if p.1 = y then some p.2 else dget r y := by
  unfold dget
  rw [List.find?_cons]
  by_cases q : p.1 = y
  · simp [q]
  · simp [q]
theorem dget_app {y : Str} {p : Str × D} : ∀ {l : List (Str × D)}, dget (l ++ [p]) y = match dget l y with | some d => some d | none => if p.1 = y then some p.2 else none
  | [] => by rw [List.nil_append, dget_cons]; rfl
  | q :: r => by
    rw [List.cons_append, dget_cons, dget_cons]
    by_cases e : q.1 = y
    · simp [e]
    · simp only [e, if_false]; exact dget_app
theorem dget_map {x y : Str} {d : D} : ∀ {l : List (Str × D)}, dget (l.map fun kv => if kv.1 = x then (kv.1, d) else kv) y = if y = x then (dget l y).map fun _ => d else dget l y
  | [] => by simp [dget]
  | q :: r => by
    rw [List.map_cons, dget_cons, dget_cons]
    have ih := @dget_map x y d r
    by_cases e : q.1 = x
    · simp only [e, if_true]
      by_cases e' : x = y
      · simp [e']
      · have : y ≠ x := fun z => e' z.symm
        simp only [e', if_false, this]
        rw [ih, if_neg this]
    · simp only [e, if_false]
      by_cases e' : q.1 = y
      · have : y ≠ x := fun z => e (e'.trans z)
        simp [e', this]
      · simp only [e', if_false]
        exact ih
theorem dget_none {x : Str} {l : List (Str × D)} (h : l.any (fun kv => kv.1 = x) = false) : dget l x = none := by
  unfold dget
  rw [Option.map_eq_none_iff, List.find?_eq_none]
  intro p hp q
  have := List.any_eq_false.mp h p hp
  exact this q
theorem dget_some {x : Str} {l : List (Str × D)} (h : l.any (fun kv => kv.1 = x) = true) : ∃ d, dget l x = some d := by
  unfold dget
  cases q : l.find? fun kv => kv.1 = x with
  | some p => exact ⟨p.2, rfl⟩
  | none =>
    rw [List.find?_eq_none] at q
    refine el_ea (List.any_eq_true.mp h) fun p hp e => ?_
    exact absurd e (q p hp)
theorem dget_dset {kvs : List (Str × D)} {x y : Str} {d : D} : dget (dset kvs x d) y = if y = x then some d else dget kvs y := by
  unfold dset
  cases q : kvs.any (fun kv => kv.1 = x) with
  | true =>
    rw [if_pos rfl, dget_map]
    by_cases e : y = x
    · subst e
      obtain ⟨d', hd⟩ := dget_some q
      simp [hd]
    · simp [e]
  | false =>
    rw [if_neg Bool.false_ne_true, dget_app]
    by_cases e : y = x
    · subst e
      simp [dget_none q]
    · have : ¬ x = y := fun z => e z.symm
      simp only [this, if_false, e]
      cases dget kvs y <;> rfl
noncomputable def AllOk (tw : Bool) (kvs : List (Str × D)) : Prop := ∀ k d, dget kvs k = some d → OkV tw d
theorem AllOk.set {tw : Bool} {kvs : List (Str × D)} {x : Str} {d : D} (h : AllOk tw kvs) (hd : OkV tw d) : AllOk tw (dset kvs x d) := fun k e hk => by
  rw [dget_dset] at hk
  split at hk
  · cases hk; exact hd
  · exact h k e hk
structure GlA (h₀ : Heap) (gl : Str → Option Value) : Prop where
  isi : gl "isinstance" = some (.builtin "isinstance")
  tup : gl "tuple" = some (.type "tuple")
  zip : gl "zip" = some (.type "zip")
  tab : IsTab h₀ 44 40
  bm : ∃ mg bm ob, BMod h₀ mainGlobals mg bm ob
section
variable {prog : Program} {w : World} {h₀ : Heap} {σ : List MO} {k n : Nat} {K : Fl → List (Str × Vl) → List MO → Prop} {gl : Str → Option Value}
theorem add_callers {tw : Bool} {i : Nat} {tgt src : List (Str × D)} (G : Glb h₀ gl) (Q : GlA h₀ gl) (hbd : ∀ y ∈ σ, y.bd ≤ σ.length) (hk : k ≤ σ.length) (hi : σ[i]? = some (.obj (tabOP i 40)))
    (ht : ∀ p ∈ tgt, OkV tw p.2) (hs : ∀ p ∈ src, OkV tw p.2) (hl : tgt.length + src.length ≤ 500) (h : ∀ m, K (.ret (.d (.dct (mergeD tgt src)))) m σ) :
    WS prog w h₀ n (scopeOf (stAt 3)) k [("target", .d (.dct tgt)), ("source", .d (.dct src))] (bodyOf (stAt 3)) σ K := by
  refine el_eee (Q.bm) fun mg bm ob B => ?_
  refine WS.cons (W1.assign (WE.dict0 (WN.loc rfl ?_) hbd))
  refine WS.cons (W1.forItems G (WE.loc rfl rfl ⟨tgt, rfl, ?_⟩))
  refine WLp.inv (fun rest m σ' => ∃ acc, σ' = σ ++ [.dict acc] ∧ acc.length + rest.length ≤ tgt.length ∧ AllOk tw acc ∧ (∀ p ∈ rest, OkV tw p.2) ∧ rest.foldl (fun a p => dset a p.1 p.2) acc = copyD tgt ∧ m.lookup ("new_callers" : Str) = some (.m σ.length) ∧ m.lookup ("source" : Str) = some (.d (.dct src)))
    ?_ ?_ _ _ _ ⟨[], rfl, by simp, (fun _ _ e => by cases e), ht, rfl, rfl, rfl⟩
  · rintro x d rest m σ' ⟨acc, rfl, hlen, hok, hrest, hf, h1, h2⟩
    have hσ : (σ ++ [MO.dict acc])[σ.length]? = some (.dict acc) := by simp
    have hset : (σ ++ [MO.dict acc]).set σ.length (.dict (dset acc x d)) = σ ++ [.dict (dset acc x d)] := by simp
    have hlen' : acc.length ≤ 1000 := by simp at hlen; lia -abstractProof
    refine WN.loc rfl (WN.loc rfl (WS.cons (W1.setItem (WE.loc rfl rfl (WE.loc (by rw [lookup_cons_eq, if_neg (by decide), lookup_cons_eq, if_neg (by decide)]; exact h1) rfl (WE.loc rfl rfl (WU.setD hσ hlen' (WS.nil ⟨rfl, ?_⟩))))))))
    rw [hset]
    have := dset_len acc x d
    exact ⟨dset acc x d, rfl, by simp at hlen; lia -abstractProof, hok.set (hrest _ (List.mem_cons_self ..)), fun p hp => hrest p (List.mem_cons_of_mem _ hp), hf, by rw [lookup_cons_eq, if_neg (by decide), lookup_cons_eq, if_neg (by decide)]; exact h1, by rw [lookup_cons_eq, if_neg (by decide), lookup_cons_eq, if_neg (by decide)]; exact h2⟩
  · rintro m σ' ⟨acc, rfl, hlen, hok, _, hf, h1, h2⟩
    simp only [List.foldl_nil] at hf
    subst hf
    refine WS.cons (W1.forItems G (WE.loc h2 rfl ⟨src, rfl, ?_⟩))
    have hcl : (copyD tgt).length ≤ tgt.length := by simpa using hlen
    refine WLp.inv (fun rest m σ' => ∃ acc, σ' = σ ++ [.dict acc] ∧ acc.length + rest.length ≤ tgt.length + src.length ∧ AllOk tw acc ∧ (∀ p ∈ rest, OkV tw p.2) ∧ rest.foldl mergeStep acc = mergeD tgt src ∧ m.lookup ("new_callers" : Str) = some (.m σ.length))
      ?_ ?_ _ _ _ ⟨_, rfl, by lia -abstractProof, hok, hs, rfl, h1⟩
    · rintro x d rest m σ' ⟨acc, rfl, hlen, hok, hrest, hf, h1⟩
      have hσ : (σ ++ [MO.dict acc])[σ.length]? = some (.dict acc) := by simp
      have hset : ∀ d', (σ ++ [MO.dict acc]).set σ.length (.dict (dset acc x d')) = σ ++ [.dict (dset acc x d')] := fun d' => by simp
      have hlen' : acc.length ≤ 1000 := by simp at hlen; lia -abstractProof
      have hd : OkV tw d := hrest _ (List.mem_cons_self ..)
      have g1 : ((("caller" : Str), Vl.d d) :: (("func" : Str), Vl.d (.str x)) :: m).lookup ("new_callers" : Str) = some (.m σ.length) := by rw [lookup_cons_eq, if_neg (by decide), lookup_cons_eq, if_neg (by decide)]; exact h1
      have fin : ∀ d', OkV tw d' → mergeStep acc (x, d) = dset acc x d' → ∃ acc', σ ++ [MO.dict (dset acc x d')] = σ ++ [.dict acc'] ∧ acc'.length + rest.length ≤ tgt.length + src.length ∧ AllOk tw acc' ∧ (∀ p ∈ rest, OkV tw p.2) ∧ rest.foldl mergeStep acc' = mergeD tgt src ∧ ((("caller" : Str), Vl.d d) :: (("func" : Str), Vl.d (.str x)) :: m).lookup ("new_callers" : Str) = some (.m σ.length) := by
        intro d' hd' e
        have := dset_len acc x d'
        refine ⟨dset acc x d', rfl, by simp at hlen; lia -abstractProof, hok.set hd', fun p hp => hrest p (List.mem_cons_of_mem _ hp), ?_, g1⟩
        rw [← e]; exact hf
      refine WN.loc rfl (WN.loc rfl (WS.cons (W1.ite (WB.cmp (WE.loc rfl rfl (WE.loc g1 rfl (WO.inD G (.m hσ) ⟨_, rfl, ?_⟩)))))))
      cases hg : dget acc x with
      | none =>
        rw [if_neg (by simp)]
        refine WS.cons (W1.setItem (WE.loc rfl rfl (WE.loc g1 rfl (WE.loc rfl rfl (WU.setD hσ hlen' (WS.nil (WS.nil ⟨rfl, ?_⟩)))))))
        rw [hset]
        exact fin d hd (by unfold mergeStep; rw [hg])
      | some old =>
        rw [if_pos (by simp)]
        have ho : OkV tw old := hok x old hg
        have hm : mergeStep acc (x, d) = dset acc x (addD d old) := by unfold mergeStep; rw [hg]
        refine WS.cons (W1.ite (WB.val (WE.callBi (WE.glob G Q.isi rfl ⟨rfl, WEs.cons (WE.loc rfl rfl (WEs.cons (WE.glob G Q.tup rfl (WEs.nil ?_))))⟩))))
        cases hd with
        | one v =>
          cases ho with | one u =>
          refine WO.isTupI (WT.bool ?_)
          rw [if_neg Bool.false_ne_true]
          refine WS.cons (W1.augItem (WE.loc g1 rfl (WE.loc rfl rfl (WO.getD G (.m hσ) hg (WE.loc rfl rfl (WO.iaddI (WU.setD hσ hlen' (WS.nil (WS.nil (WS.nil ⟨rfl, ?_⟩))))))))))
          rw [hset]
          exact fin _ (.one _) hm
        | two a b =>
          cases ho with | two c e =>
          refine WO.isTupT (WT.bool ?_)
          rw [if_pos rfl]
          have hi' : (σ ++ [MO.dict acc])[i]? = some (.obj (tabOP i 40)) := by
            rw [List.getElem?_append_left (List.getElem?_eq_some_iff.mp hi).1]; exact hi
          refine WS.cons (W1.setItem (WE.tupZip G hi' Q.tab B rfl Q.tup rfl Q.zip rfl rfl (by decide) (by decide) (by decide) (by decide) (WE.loc rfl rfl (WE.sub (WE.loc g1 rfl (WE.loc rfl rfl (WO.itemD G (.m hσ) hg ⟨rfl, a, b, c, e, rfl, rfl, ?_⟩)))))))
          refine WE.loc g1 rfl (WE.loc rfl rfl (WU.setD hσ hlen' (WS.nil (WS.nil (WS.nil ⟨rfl, ?_⟩)))))
          rw [hset]
          exact fin _ (.two _ _) hm
    · rintro m σ' ⟨acc, rfl, hlen, hok, _, hf, h1⟩
      simp only [List.foldl_nil] at hf
      subst hf
      exact WS.freeze G (.dict _) hbd hk (WS.cons (W1.ret (WE.loc (fzm_m h1) rfl (h _))))
end
end Mine
end
section
namespace Mine
set_option maxRecDepth 10000
/-- the def that is the text's statement i stands in the module under this name -/
structure IsFn (h₀ : Heap) (gl : Str → Option Value) (x : Str) (i : Nat) (ps : List Str) : Prop where
  ex : ∃ f ob fd, gl x = some (.ref f) ∧ h₀.get? f = some ob ∧ ob.data = .func fd ∧ h₀.CodeRec fd.code fd.qualname ∧ fd.body = .stmts (bodyOf (stAt i)) ∧ fd.scope = scopeOf (stAt i) ∧ fd.globals = mainGlobals ∧ fd.builtins = builtinsNs ∧ fd.closure = [] ∧
    (∀ us : List Value, us.length = ps.length → bindArgs fd ⟨us, []⟩ = pure (ps.zip us)) ∧ (∀ c, codeOf fd.scope = some c → fd.code = .ref c)
noncomputable def fnOk (sc : Scope) (ps : List Str) : Bool := sc.names.all (fun x => x.2 != .cell) && ps.all (fun x => sc.names.lookup x == some .local) && !sc.isCoroutine && !sc.isGenerator && sc.kind == .function && decide ps.Nodup
noncomputable def fnOkC (sc : Scope) (ps : List Str) : Bool := ps.all (fun x => sc.names.lookup x == some .local || sc.names.lookup x == some .cell) && !sc.isCoroutine && !sc.isGenerator && sc.kind == .function && decide ps.Nodup && decide ((cellsFrom 0 sc.names []).map (·.1)).Nodup
section
variable {prog : Program} {w : World} {h₀ : Heap} {σ : List MO} {k n : Nat} {K : Fl → List (Str × Vl) → List MO → Prop} {Kv : Vl → List MO → Prop} {gl : Str → Option Value} {sc : Scope} {m : List (Str × Vl)}
theorem WE.callDef {x : Str} {i : Nat} {ps : List Str} (G : Glb h₀ gl) (X : IsFn h₀ gl x i ps) {p pos : Pos} {e : Expr} {es : List Expr} (hk : sc.names.lookup x = some .globalImplicit) (hok : fnOk (scopeOf (stAt i)) ps = true)
    (h : WEs prog w h₀ (n + 1) sc m (e :: es) σ fun vs σ₂ => vs.length = ps.length ∧ WS prog w h₀ n (scopeOf (stAt i)) σ₂.length (ps.zip vs) (bodyOf (stAt i)) σ₂ fun fl _ σ' => Kv (retOf fl) σ')
    (he : ∀ env, starEach (e :: es) env = (false, eval e env) :: starEach es env := by intro _; rfl) (hd : (x == ("__debug__" : Str)) = false := by decide) : WE prog w h₀ (n + 1) sc m (.Call (.Name x p) (e :: es) [] pos) σ Kv := by
  refine el_eeeaaaaaaaaaa (X.ex) fun f ob fd h1 h2 h3 h4 h5 h6 h7 h8 h9 h10 h11 => ?_
  unfold fnOk at hok
  simp only [Bool.and_eq_true, List.all_eq_true, bne_iff_ne, beq_iff_eq, decide_eq_true_eq, Bool.not_eq_true'] at hok
  obtain ⟨⟨⟨⟨⟨o1, o2⟩, o3⟩, o4⟩, o5⟩, o6⟩ := hok
  refine WE.callFn h2 h3 (WE.glob G h1 hk ⟨rfl, ?_⟩ hd) he
  intro A env fs as s pos' hA hE R F
  refine wpAny_mono (h A env fs as s pos' hA hE R F) (fun us s' zf23 => PostEs.el zf23 fun vs a σ₂ st R₂ V zk => el_a zk fun hl kk => (PostEs.mk (vs := vs) (as' := a) (σ' := σ₂) st R₂ V ?_)) fun _ _ x => x
  refine WO.fn G ps h2 h3 h4 h5 hl h10 o6 (by rw [h6]; exact o1) (by rw [h6]; exact o2) h7 h8 h9 (by rw [h6]; exact o3) (by rw [h6]; exact o4) (by rw [h6]; exact o5) h11 fun k hk => ?_
  subst hk
  rw [h6]
  exact kk
theorem WE.callDefC {x : Str} {i : Nat} {ps : List Str} (G : Glb h₀ gl) (X : IsFn h₀ gl x i ps) {p pos : Pos} {e : Expr} {es : List Expr} (hk : sc.names.lookup x = some .globalImplicit) (hok : fnOkC (scopeOf (stAt i)) ps = true)
    (h : WEs prog w h₀ (n + 1) sc m (e :: es) σ fun vs σ₂ => vs.length = ps.length ∧ WS prog w h₀ n (scopeOf (stAt i)) σ₂.length (ps.zip vs) (bodyOf (stAt i)) σ₂ fun fl _ σ' => Kv (retOf fl) σ')
    (he : ∀ env, starEach (e :: es) env = (false, eval e env) :: starEach es env := by intro _; rfl) (hd : (x == ("__debug__" : Str)) = false := by decide) : WE prog w h₀ (n + 1) sc m (.Call (.Name x p) (e :: es) [] pos) σ Kv := by
  refine el_eeeaaaaaaaaaa (X.ex) fun f ob fd h1 h2 h3 h4 h5 h6 h7 h8 h9 h10 h11 => ?_
  unfold fnOkC at hok
  simp only [Bool.and_eq_true, Bool.or_eq_true, List.all_eq_true, bne_iff_ne, beq_iff_eq, decide_eq_true_eq, Bool.not_eq_true'] at hok
  obtain ⟨⟨⟨⟨⟨o1, o2⟩, o3⟩, o4⟩, o5⟩, o6⟩ := hok
  refine WE.callFn h2 h3 (WE.glob G h1 hk ⟨rfl, ?_⟩ hd) he
  intro A env fs as s pos' hA hE R F
  refine wpAny_mono (h A env fs as s pos' hA hE R F) (fun us s' zf37 => PostEs.el zf37 fun vs a σ₂ st R₂ V zk => el_a zk fun hl kk => (PostEs.mk (vs := vs) (as' := a) (σ' := σ₂) st R₂ V ?_)) fun _ _ x => x
  refine WO.fnC G ps h2 h3 h4 h5 hl h10 o5 (by rw [h6]; exact o1) h7 h8 h9 (by rw [h6]; exact o6) (by rw [h6]; exact o2) (by rw [h6]; exact o3) (by rw [h6]; exact o4) h11 fun k hk => ?_
  subst hk
  rw [h6]
  exact kk
theorem W1.unpack5 {e : Expr} {x₁ x₂ x₃ x₄ x₅ : Str} {p₁ p₂ p₃ p₄ p₅ p p' : Pos} {x1 : Nat}
    (h : WE prog w h₀ n sc m e σ fun v σ₁ => ∃ d₁ d₂ d₃ d₄ d₅, v = .d (.tup [d₁, d₂, d₃, d₄, d₅]) ∧ WNs prog w h₀ sc k [x₁, x₂, x₃, x₄, x₅] [.d d₁, .d d₂, .d d₃, .d d₄, .d d₅] m σ₁ K)
    (hs : ∀ env, swapsWithSole [.Tuple [.Name x₁ p₁, .Name x₂ p₂, .Name x₃ p₃, .Name x₄ p₄, .Name x₅ p₅] x1 p'] e p.line env = pure false := by intro _; rfl)
    (hw : ∀ env, swappedStores [.Tuple [.Name x₁ p₁, .Name x₂ p₂, .Name x₃ p₃, .Name x₄ p₄, .Name x₅ p₅] x1 p'] e env = pure none := by intro _; rfl) :
    W1 prog w h₀ n sc k m (.Assign [.Tuple [.Name x₁ p₁, .Name x₂ p₂, .Name x₃ p₃, .Name x₄ p₄, .Name x₅ p₅] x1 p'] e p) σ K :=
  W1.unpack (xs := [(x₁, p₁), (x₂, p₂), (x₃, p₃), (x₄, p₄), (x₅, p₅)]) (WE.mono h fun v σ₁ zf47 => el_eeeeea zf47 fun d₁ d₂ d₃ d₄ d₅ e hh => ⟨[d₁, d₂, d₃, d₄, d₅], e, rfl, hh⟩) hs hw (fun _ => rfl) (fun _ => rfl)
theorem five {x₁ x₂ x₃ x₄ x₅ : Str} {v₁ v₂ v₃ v₄ v₅ : Vl} (h₁ : sc.names.lookup x₁ = some .local) (h₂ : sc.names.lookup x₂ = some .local) (h₃ : sc.names.lookup x₃ = some .local) (h₄ : sc.names.lookup x₄ = some .local) (h₅ : sc.names.lookup x₅ = some .local)
    (h : K .next ((x₅, v₅) :: (x₄, v₄) :: (x₃, v₃) :: (x₂, v₂) :: (x₁, v₁) :: m) σ) : WNs prog w h₀ sc k [x₁, x₂, x₃, x₄, x₅] [v₁, v₂, v₃, v₄, v₅] m σ K :=
  WN.loc h₁ (WN.loc h₂ (WN.loc h₃ (WN.loc h₄ (WN.loc h₅ h))))
noncomputable def addStats (tgt src : D) : D := match tgt, src with
  | .tup [.int a, .int b, .int c, .int d, .dct e], .tup [.int a', .int b', .int c', .int d', .dct e'] => .tup [.int (a' + a), .int (b' + b), .int (c' + c), .int (d' + d), .dct (mergeD e e')]
  | x, _ => x
theorem add_func_stats {tw : Bool} {i : Nat} {a b c d a' b' c' d' : Int} {e e' : List (Str × D)} (G : Glb h₀ gl) (Q : GlA h₀ gl) (X : IsFn h₀ gl "add_callers" 3 ["target", "source"]) (hbd : ∀ y ∈ σ, y.bd ≤ σ.length) (hi : σ[i]? = some (.obj (tabOP i 40)))
    (ht : ∀ p ∈ e, OkV tw p.2) (hs : ∀ p ∈ e', OkV tw p.2) (hl : e.length + e'.length ≤ 500) (h : ∀ m, K (.ret (.d (.tup [.int (a' + a), .int (b' + b), .int (c' + c), .int (d' + d), .dct (mergeD e e')]))) m σ) :
    WS prog w h₀ (n + 1) (scopeOf (stAt 2)) k [("target", .d (.tup [.int a, .int b, .int c, .int d, .dct e])), ("source", .d (.tup [.int a', .int b', .int c', .int d', .dct e']))] (bodyOf (stAt 2)) σ K := by
  refine WS.cons (W1.unpack5 (WE.loc rfl rfl (in_eeeeea _ _ _ _ _ rfl (five rfl rfl rfl rfl rfl ?_))))
  refine WS.cons (W1.unpack5 (WE.loc rfl rfl (in_eeeeea _ _ _ _ _ rfl (five rfl rfl rfl rfl rfl ?_))))
  refine WS.cons (W1.ret (WE.tup (WEs.cons (WE.bin (WE.loc rfl rfl (WE.loc rfl rfl (WO.addI (WEs.cons (WE.bin (WE.loc rfl rfl (WE.loc rfl rfl (WO.addI ?_))))))))))))
  refine WEs.cons (WE.bin (WE.loc rfl rfl (WE.loc rfl rfl (WO.addI (WEs.cons (WE.bin (WE.loc rfl rfl (WE.loc rfl rfl (WO.addI (WEs.cons ?_))))))))))
  refine WE.callDef G X rfl rfl (WEs.cons (WE.loc rfl rfl (WEs.cons (WE.loc rfl rfl (WEs.nil ⟨rfl, ?_⟩)))))
  exact add_callers G Q hbd (Nat.le_refl _) hi ht hs hl fun _ => WEs.nil ⟨_, rfl, Nat.le_of_ble_eq_true rfl, h _⟩
end
end Mine
end
section
namespace Mine
set_option maxRecDepth 10000
noncomputable def readDef : Option Stmt := (bodyOf (stAt 13))[1]?
section
variable {prog : Program} {w : World} {A : Around} {s : Shared} {env : Env} {Q : Flow → Shared → Prop} {E : Value → Shared → Prop}
theorem read_body {a ct cp : Addr} {text : Str} {t t1 t2 : Tok} {p : Int} {mm : Str → Option Value} (hsc : env.scope = scopeOf readDef) (hns : s.heap.Ns env.locals mm) (hsz : mm "size" = some (.int 1 t1))
    (hcp : env.cells.lookup ("place" : Str) = some cp) (hct : env.cells.lookup ("text" : Str) = some ct) (ip : s.heap.IsCell cp (some (.ref a))) (it : s.heap.IsCell ct (some (.str text t))) (hl : s.heap.IsList a #[.int p t2])
    (n1 : env.locals ≠ a) (n2 : cp ≠ a) (n3 : ct ≠ a) (hlen : text.length ≤ sizeLine)
    (hQ : ∀ h' t' t3 k, h'.IsList a #[.int (p + 1) t3] → (∀ b o, b ≠ a → s.heap.get? b = some o → h'.get? b = some o) → Q (.ret (.str (Txt.slice text (some p) (some (p + 1))) t')) { s with heap := h', toks := k }) :
    wpAny (model prog w) A (execs (bodyOf readDef) env) Q E s := by
  have hk : env.scope.kind = .function := by rw [hsc]; rfl
  have k1 : env.kindOf "size" = some .local := by unfold Env.kindOf; rw [hsc]; rfl
  have k2 : env.kindOf "place" = some .free := by unfold Env.kindOf; rw [hsc]; rfl
  have k3 : env.kindOf "text" = some .free := by unfold Env.kindOf; rw [hsc]; rfl
  refine wpAny_execs_cons ?_
  refine wpAny_AugAssign_SubscriptAny ?_ (by intro _ _ _; rfl)
  refine wpAny_Name (wpAny_loadName_free hk k2 hcp ip ?_ (by decide)) (by decide)
  refine wpAny_Constant_int ?_
  refine wpAny_getItem_list (s := { s with toks := s.toks + 1 }) hl (by decide) (by decide) (x := .int p t2) (by rfl) ?_
  refine wpAny_Name (wpAny_loadName_local (s := { s with toks := s.toks + 1 }) hk k1 hns hsz ?_) (by decide)
  refine PyProof.Rows.iadd_int ?_
  refine wpAny_setItem_list (s := { s with toks := s.toks + 1 + 1 }) hl (by decide) (by decide) (by simp) fun h' hl' hsb => ?_
  have hl₁ : h'.IsList a #[.int (p + 1) (s.toks + 1)] := hl'
  have kp : ∀ b o, b ≠ a → s.heap.get? b = some o → h'.get? b = some o := fun b o hb e => (hsb.2 b hb).trans e
  have ip' : h'.IsCell cp (some (.ref a)) := isCell_at ip fun o e => kp cp o n2 e
  have it' : h'.IsCell ct (some (.str text t)) := isCell_at it fun o e => kp ct o n3 e
  have hns' : h'.Ns env.locals mm := hns.at' fun o e => kp _ o n1 e
  refine wpAny_execs_cons (wpAny_Return_some ?_)
  refine Subscript_ ?_
  refine wpAny_Name (wpAny_loadName_free hk k3 hct it' ?_ (by decide)) (by decide)
  refine wpAny_Slice ?_
  rw [evalPart_some, evalPart_some]
  refine wpAny_BinOp (Subscript_ (wpAny_Name (wpAny_loadName_free hk k2 hcp ip' ?_ (by decide)) (by decide)))
  refine wpAny_Constant_int ?_
  refine tail_any (Heap.IsList.typeIs (s := { s with heap := h', toks := s.toks + 1 + 1 + 1 }) hl₁) slot_list_getitem.lookup (wpAny_getItem_list hl₁ (by decide) (by decide) (x := .int (p + 1) (s.toks + 1)) (by rfl) ?_) (by with_unfolding_all rfl)
  refine wpAny_Name (wpAny_loadName_local hk k1 hns' hsz ?_) (by decide)
  refine sub_int ?_
  refine Subscript_ (wpAny_Name (wpAny_loadName_free hk k2 hcp ip' ?_ (by decide)) (by decide))
  refine wpAny_Constant_int ?_
  refine tail_any (Heap.IsList.typeIs (s := { s with heap := h', toks := s.toks + 1 + 1 + 1 + 1 + 1 }) hl₁) slot_list_getitem.lookup (wpAny_getItem_list hl₁ (by decide) (by decide) (x := .int (p + 1) (s.toks + 1)) (by rfl) ?_) (by with_unfolding_all rfl)
  refine wpAny_pure ?_
  have hp : p + 1 - 1 = p := by lia -abstractProof
  rw [hp]
  refine tail_of_ItemOn (SBH.sliceItem_ss (P := fun h => ∀ b o, h'.get? b = some o → h.get? b = some o) (s := { s with heap := h', toks := s.toks + 1 + 1 + 1 + 1 + 1 }) (fun h ob hh b o e => Heap.get?_push_of_some _ (hh b o e)) (fun b o e => e) (fun h'' t' k hh => ?_) hlen) (by with_unfolding_all rfl) (by intro _; with_unfolding_all rfl)
  exact hQ h'' t' _ k (hl₁.at fun o e => hh _ o e) fun b o hb e => hh b o (kp b o hb e)
end
end Mine
end
section
namespace Mine
set_option maxRecDepth 10000
/-- the list of one number -/
noncomputable def placeOP (p : Int) : OP where
  bd := 0
  P := fun _ _ _ o => o.cls = .type "list" ∧ ∃ t k, o.data = .seq #[.int p t] k
  mono := fun _ _ h => h
structure ReadFd (fd : FuncData) (cp ct : Addr) : Prop where
  body : fd.body = .stmts (bodyOf readDef)
  scope : fd.scope = scopeOf readDef
  globals : fd.globals = mainGlobals
  builtins : fd.builtins = builtinsNs
  place : fd.closure.lookup ("place" : Str) = some cp
  text : fd.closure.lookup ("text" : Str) = some ct
  bind : ∀ u : Value, bindArgs fd ⟨[u], []⟩ = pure [(("size" : Str), u)]
inductive StreamR (text : Str) (ip : Nat) (l : Nat → Option Addr) (ex : List Addr) (h : Heap) (o : Obj) : Prop
  | mk (dS : Addr) (mA : Str → Option Value) (Rf : Addr) (oR : Obj) (fd : FuncData) (cp ct : Addr) (t : Tok) (a c : Addr) (oc : Obj) (vs : Array Value) (tq : Tok) : o.dict = some dS → dS ∉ ex → h.Ns dS mA → mA "read" = some (.ref Rf) → Rf ∉ ex → h.get? Rf = some oR → oR.data = .func fd → ReadFd fd cp ct →
    fd.code = .ref c → c ∉ ex → h.get? c = some oc → oc.data = .fields vs → vs[1]? = some (.str fd.qualname tq) → cp ∉ ex → ct ∉ ex → h.IsCell ct (some (.str text t)) → l ip = some a → h.IsCell cp (some (.ref a)) → StreamR text ip l ex h o
structure StreamAt (text : Str) (ip : Nat) (l : Nat → Option Addr) (ex : List Addr) (h : Heap) (o : Obj) : Prop where
  cls : o.cls = .type "function"
  nc : ∀ c, o.data ≠ .cls c
  rest : StreamR text ip l ex h o
noncomputable def streamOP (text : Str) (ip : Nat) : OP where
  bd := ip + 1
  P := StreamAt text ip
  mono := by
    intro l l' ex ex' h h' o hl hk x
    obtain ⟨dS, mA, Rf, oR, fd, cp, ct, t, a, c, oc, vs, tq, h1, h2, h3, h4, h5, h6, h7, h8, h9, h10, h11, h12, h13, h14, h15, h16, h17, h18⟩ := x.rest
    refine el_eeea (id h3) fun od _ _ e1 _ => ?_
    refine el_ea (id h16) fun ot e2 _ => ?_
    refine el_ea (id h18) fun op e3 _ => ?_
    exact ⟨x.cls, x.nc, dS, mA, Rf, oR, fd, cp, ct, t, a, c, oc, vs, tq, h1, (hk _ _ h2 e1).2, h3.at' fun o e => (hk _ o h2 e).1, h4, (hk _ _ h5 h6).2, (hk _ _ h5 h6).1, h7, h8, h9, (hk _ _ h10 h11).2, (hk _ _ h10 h11).1, h12, h13,
      (hk _ _ h14 e3).2, (hk _ _ h15 e2).2, isCell_at h16 fun o e => (hk _ o h15 e).1, hl _ _ (Nat.lt_succ_self _) h17, isCell_at h18 fun o e => (hk _ o h14 e).1⟩
section
variable {prog : Program} {w : World} {h₀ : Heap} {fs as as' as'' ow : List Addr} {σ σ' σ'' : List MO} {s s' s'' : Shared} {k n : Nat} {sc : Scope} {m : List (Str × Vl)} {K : Vl → List MO → Prop} {gl : Str → Option Value}
  {env : Env} {A : Around}
/-- S.read(1) -/
theorem WE.callRead (G : Glb h₀ gl) {o : Expr} {apos pos pc : Pos} {xc : Nat}
    (h : WE prog w h₀ (n + 1) sc m o σ fun ov σ₁ => ∃ iS text ip p, ov = .m iS ∧ σ₁[iS]? = some (.obj (streamOP text ip)) ∧ σ₁[ip]? = some (.obj (placeOP p)) ∧ text.length ≤ 100000 ∧
      K (.d (.str (Txt.slice text (some p) (some (p + 1))))) (σ₁.set ip (.obj (placeOP (p + 1)))))
    (hbase : ∀ env, attributeBase o "read" env (eval o env) = eval o env := by intro _; rfl) (hline : (apos.endLine == pos.line) = true := by rfl) :
    WE prog w h₀ (n + 1) sc m (.Call (.Attribute o "read" apos) [.Constant (.int 1) xc pc] [] pos) σ K := by
  intro A env fs as s hA hE R F
  refine Call_meth (hbase env) rfl hline (wpAny_mono (h A env fs as s hA hE R F) (fun u s₁ zf pl => PostE.el zf fun v a₁ σ₁ st R₁ V zk => el_eeeeaaaa zk fun iS text ip p e' hS hp hlen kk => ?_) fun _ _ x => x)
  replace V : VR prog w fs a₁ s₁.heap (.m iS) u := e' ▸ V; clear zf zk
  refine el_ea (V) fun S haS zq2 => ?_; subst zq2; try clear V
  refine el_ea (R₁.mo iS S _ haS hS) fun o ho x => ?_
  obtain ⟨dS, mA, Rf, oR, fd, cp, ct, t, a, c, oc, vs, tq, h1, h2, h3, h4, h5, h6, h7, h8, h9, h10, h11, h12, h13, h14, h15, h16, h17, h18⟩ := x.rest
  obtain ⟨hh, g, dr, tk, os⟩ := s₁
  refine meth_fn ho x.cls x.nc h1 h3 h4 fn_read rfl ?_
  show wpAny _ A (callWith pos (.ref Rf) [] [(false, eval (.Constant (.int 1) xc pc) env)] []) _ _ _
  refine Calls.callWith_function (o := oR) (fd := fd) (Calls.evalArgs_plain (Calls.spliced_cons (wpAny_Constant_int (Calls.spliced_nil ⟨⟨h6, h7⟩, ?_⟩))))
  show wpAny _ A (call (.ref Rf) [.int 1 (tk + 1)]) _ _ ⟨hh, g, dr, tk + 1 + 1, os⟩
  have kp : ∀ b o, h₀.get? b = some o → hh.get? b = some o := fun b o e => (R₁.base b o e).1
  have hsc := h8.scope
  refine wpAny_call (codeAny_call_def (binds := [(("size" : Str), .int 1 (tk + 1))]) (by have := hA.depth; lia -abstractProof) h6 h7 (G.lim.keeps kp) (in_eeeeaaa c oc vs tq h9 h11 h12 h13) h8.body (BindsTo.of_eq (h8.bind _)) (by rw [hsc]; decide) (by rw [hsc]; intro y hy; rw [List.mem_singleton.mp hy]; rfl) (fun h₁ hns hk₁ => ?_) (by rw [hsc]; rfl) (by rw [hsc]; rfl) (by rw [hsc]; rfl))
  refine el_eaaee (R₁.mo ip a _ h17 hp) fun ol hol hcl tl kl hdl => ?_
  have hLs : hh.objs.size ≠ a := fun q => by
    have := Heap.lt_size hol; rw [← q] at this; exact Nat.lt_irrefl _ this
  have ain : a ∈ a₁ ++ fs := List.mem_append_left _ (List.mem_of_getElem? h17)
  refine read_body (a := a) (ct := ct) (cp := cp) (text := text) (t := t) (t1 := tk + 1) (t2 := tl) (p := p) (s := ⟨h₁, g, dr, _, os⟩) hsc hns rfl h8.place h8.text (isCell_at h18 fun o e => hk₁ _ o e) (isCell_at h16 fun o e => hk₁ _ o e)
    (in_eaae ol (hk₁ _ _ hol) hcl kl hdl) hLs (fun q => h14 (q ▸ ain)) (fun q => h15 (q ▸ ain)) (by rw [sizeLine_eq]; lia -abstractProof) fun h' t' t3 k' hl' hk' => ?_
  refine el_eaae (hl') fun ol' hol' hcl' kl' hdl' => ?_; try clear hl'
  have hkk : ∀ b o, b ≠ a → hh.get? b = some o → h'.get? b = some o := fun b o hb e => hk' b o hb (hk₁ b o e)
  exact ⟨.d (.str (Txt.slice text (some p) (some (p + 1)))), a₁, _, st.transE (Stp.setE (s := ⟨hh, g, dr, tk, os⟩) (s' := ⟨h', g, dr, k', os⟩) h17 hkk ⟨_, hol'⟩ rfl),
    R₁.setE (s' := ⟨h', g, dr, k', os⟩) (x := .obj (placeOP (p + 1))) h17 hkk ⟨_, hol'⟩ (⟨ol', hol', hcl', in_ee t3 kl' hdl'⟩) R₁.bare, Rd.str _ _, kk⟩
end
end Mine
end
section
namespace Mine
set_option maxRecDepth 10000
noncomputable def clsBody : Option Stmt → List Stmt
  | some (.ClassDef _ _ _ b _ _ _ _ _ _ _) => b
  | _ => []
noncomputable def cdef (i : Nat) : Option Stmt := (clsBody (stAt 6))[i]?
/-- the def st as a function object -/
structure FnIs (h₀ : Heap) (f : Addr) (st : Option Stmt) (ps : List Str) : Prop where
  ex : ∃ ob fd, h₀.get? f = some ob ∧ ob.cls = .type "function" ∧ ob.data = .func fd ∧ h₀.CodeRec fd.code fd.qualname ∧ fd.body = .stmts (bodyOf st) ∧ fd.scope = scopeOf st ∧ fd.globals = mainGlobals ∧ fd.builtins = builtinsNs ∧ fd.closure = [] ∧
    (∀ us : List Value, us.length = ps.length → bindArgs fd ⟨us, []⟩ = pure (ps.zip us)) ∧ (∀ c, codeOf fd.scope = some c → fd.code = .ref c)
noncomputable def ws4 : Str := "\n\t\r "
noncomputable def lexAt (ln : Int) : List (Str × Vl) := [("lineno", .d (.int ln)), ("instream", .m 3), ("whitespace", .d (.str ws4)), ("pushback", .m 6)]
/-- the lexer and what it holds, behind the two tables -/
noncomputable def lexσ (C : Addr) (t0 t1 : MO) (text : Str) (p ln : Int) (pb : List D) (rest : List MO) : List MO :=
  t0 :: t1 :: .obj (placeOP p) :: .obj (streamOP text 2) :: .obj (attrOP 7 (lexAt ln)) :: .obj (instOP C 4) :: .list pb :: rest
/-- the class -/
structure LexCls (h₀ : Heap) (gl : Str → Option Value) (C N : Addr) (mN : Str → Option Value) (fI fR fG fP : Addr) : Prop where
  cls : ClsAt h₀ C N mN
  qt : Quiet mN
  at_ : gl "_netrclex" = some (.ref C)
  nI : mN "__init__" = some (.ref fI)
  nR : mN "_read_char" = some (.ref fR)
  nG : mN "get_token" = some (.ref fG)
  nP : mN "push_token" = some (.ref fP)
  n1 : mN "lineno" = none
  n2 : mN "instream" = none
  n3 : mN "whitespace" = none
  n4 : mN "pushback" = none
  dI : FnIs h₀ fI (cdef 0) ["self", "fp"]
  dR : FnIs h₀ fR (cdef 1) ["self"]
  dG : FnIs h₀ fG (cdef 2) ["self"]
  dP : FnIs h₀ fP (cdef 3) ["self", "token"]
theorem o_lineno : typeLookup (.type "object") "lineno" = pure none := by rw [typeLookup_type, builtinLookup_eq_fast]; kernel_rfl
theorem o_instream : typeLookup (.type "object") "instream" = pure none := by rw [typeLookup_type, builtinLookup_eq_fast]; kernel_rfl
theorem o_whitespace : typeLookup (.type "object") "whitespace" = pure none := by rw [typeLookup_type, builtinLookup_eq_fast]; kernel_rfl
theorem o_pushback : typeLookup (.type "object") "pushback" = pure none := by rw [typeLookup_type, builtinLookup_eq_fast]; kernel_rfl
theorem o_read_char : typeLookup (.type "object") "_read_char" = pure none := by rw [typeLookup_type, builtinLookup_eq_fast]; kernel_rfl
theorem o_get_token : typeLookup (.type "object") "get_token" = pure none := by rw [typeLookup_type, builtinLookup_eq_fast]; kernel_rfl
theorem o_push_token : typeLookup (.type "object") "push_token" = pure none := by rw [typeLookup_type, builtinLookup_eq_fast]; kernel_rfl
section
variable {prog : Program} {w : World} {h₀ : Heap} {fs as as' as'' ow : List Addr} {σ σ' σ'' : List MO} {s s' s'' : Shared} {k n : Nat} {sc : Scope} {m : List (Str × Vl)} {K : Vl → List MO → Prop} {gl : Str → Option Value}
  {env : Env} {A : Around} {Ks : Fl → List (Str × Vl) → List MO → Prop} {C N : Addr} {mN : Str → Option Value} {fI fR fG fP : Addr} {t0 t1 : MO} {text : Str} {p ln : Int} {pb : List D} {rest : List MO}
theorem WOc.def {f : Addr} {st : Option Stmt} {ps : List Str} {vs : List Vl} (G : Glb h₀ gl) (X : FnIs h₀ f st ps) (hok : fnOk (scopeOf st) ps = true) (hl : vs.length = ps.length)
    (h : WS prog w h₀ n (scopeOf st) σ.length (ps.zip vs) (bodyOf st) σ fun fl _ σ' => K (retOf fl) σ') : WOc prog w h₀ (n + 1) vs f σ K := by
  refine el_eeaaaaaaaaaa (X.ex) fun ob fd h2 _ h3 h4 h5 h6 h7 h8 h9 h10 h11 => ?_
  unfold fnOk at hok
  simp only [Bool.and_eq_true, List.all_eq_true, bne_iff_ne, beq_iff_eq, decide_eq_true_eq, Bool.not_eq_true'] at hok
  obtain ⟨⟨⟨⟨⟨o1, o2⟩, o3⟩, o4⟩, o5⟩, o6⟩ := hok
  refine WOc.fn G ps h2 h3 h4 h5 hl h10 o6 (by rw [h6]; exact o1) (by rw [h6]; exact o2) h7 h8 h9 (by rw [h6]; exact o3) (by rw [h6]; exact o4) (by rw [h6]; exact o5) h11 fun k hk => ?_
  subst hk
  rw [h6]
  exact h
theorem FnIs.meth {f : Addr} {st : Option Stmt} {ps : List Str} {name : Str} {y : Option Value} (X : FnIs h₀ f st ps) (h : mN name = some (.ref f)) (hy : typeLookup (.type "object") name = pure y) : MethIs h₀ mN name f :=
  el_eeaaa X.ex fun ob fd h2 hc h3 _ => ⟨h, (in_eeaa ob fd h2 hc h3), ⟨y, hy⟩⟩
theorem lexσ_ins : Ins C (lexσ C t0 t1 text p ln pb rest) 5 4 7 (lexAt ln) := ⟨rfl, rfl, by decide⟩
theorem lexσ_bd (h0 : t0.bd ≤ 2) (h1 : t1.bd ≤ 2) (hr : ∀ y ∈ rest, y.bd ≤ (lexσ C t0 t1 text p ln pb rest).length) : ∀ y ∈ lexσ C t0 t1 text p ln pb rest, y.bd ≤ (lexσ C t0 t1 text p ln pb rest).length := by
  intro y hy
  have hl : (lexσ C t0 t1 text p ln pb rest).length = 7 + rest.length := by simp [lexσ]; lia -abstractProof
  simp only [lexσ, List.mem_cons] at hy
  rcases hy with rfl | rfl | rfl | rfl | rfl | rfl | rfl | hy
  · lia -abstractProof
  · lia -abstractProof
  · exact Nat.zero_le _
  · show 3 ≤ _; lia -abstractProof
  · show 7 ≤ _; lia -abstractProof
  · show 5 ≤ _; lia -abstractProof
  · exact Nat.zero_le _
  · exact hr y hy
/-- the sign at p, or none -/
noncomputable def sgn (text : Str) (p : Int) : Str := Txt.slice text (some p) (some (p + 1))
noncomputable def lnUp (c : Str) (ln : Int) : Int := if c = "\n" then ln + 1 else ln
theorem lexAt_up (ln : Int) (x : Str) : (lexAt (ln + 1)).lookup x = if x = "lineno" then some (.d (.int (ln + 1))) else (lexAt ln).lookup x := by
  unfold lexAt
  rw [lookup_cons_eq]
  by_cases q : x = "lineno"
  · rw [if_pos q, if_pos q]
  · rw [if_neg q, if_neg q]
    conv => rhs; rw [lookup_cons_eq, if_neg q]
theorem WO.eqS {a b : Str} (h : K (.d (.bool (a == b))) σ) : WO prog w h₀ n [.d (.str a), .d (.str b)] (bin2 (compareOp .Eq)) σ K := by
  intro A fs as s us hA R V
  apply VRs.two V; intro _ _ V₁ V₂
  · skip
    obtain ⟨t₁, rfl⟩ := V₁.str_inv
    obtain ⟨t₂, rfl⟩ := V₂.str_inv
    exact PyProof.Rows.eq_str (.at R (.bool _) h)
theorem WO.inS {a b : Str} (h : K (.d (.bool (Txt.contains b a))) σ) : WO prog w h₀ n [.d (.str a), .d (.str b)] (bin2 (compareOp .In)) σ K := by
  intro A fs as s us hA R V
  apply VRs.two V; intro _ _ V₁ V₂
  · skip
    obtain ⟨t₁, rfl⟩ := V₁.str_inv
    obtain ⟨t₂, rfl⟩ := V₂.str_inv
    exact SB.contains (.at R (.bool _) h)
/-- _read_char -/
theorem read_char (G : Glb h₀ gl) (X : LexCls h₀ gl C N mN fI fR fG fP) (ht : text.length ≤ 100000)
    (h : K (.d (.str (sgn text p))) (lexσ C t0 t1 text (p + 1) (lnUp (sgn text p) ln) pb rest)) :
    WOc prog w h₀ (n + 2) [.m 5] fR (lexσ C t0 t1 text p ln pb rest) K := by
  refine WOc.def G X.dR rfl rfl ?_
  refine WS.cons (W1.assign (WE.callRead G (WE.attr X.cls X.n2 o_instream X.qt.ga (WE.loc rfl rfl (in_eeeeeaaa 5 4 7 (lexAt ln) (.m 3) rfl lexσ_ins rfl (in_eeeeaaaa 3 text 2 p rfl rfl rfl ht (WN.loc rfl ?_)))))))
  refine WS.cons (W1.ite (WB.cmp (WE.loc rfl rfl (WE.str (WO.eqS ⟨_, rfl, ?_⟩)))))
  by_cases q : sgn text p = "\n"
  · rw [if_pos (by simpa [sgn] using q)]
    have e : lnUp (sgn text p) ln = ln + 1 := if_pos q
    rw [e] at h
    refine WS.cons (W1.augAttr X.cls X.n1 o_lineno X.qt.ga (WE.loc rfl rfl (in_eeeeeaaa 5 4 7 (lexAt ln) (.d (.int ln)) rfl lexσ_ins rfl (WE.int (WO.iaddI ?_)))))
    refine WU.setA X.cls lexσ_ins (.int _) (Nat.le_refl 7) (lexAt_up ln) (Nat.le_of_ble_eq_true rfl) X.qt.sa X.n1 o_lineno ?_
    exact WS.nil (WS.cons (W1.ret (WE.loc rfl rfl h)))
  · rw [if_neg (by simpa [sgn] using q)]
    have e : lnUp (sgn text p) ln = ln := if_neg q
    rw [e] at h
    exact WS.nil (WS.cons (W1.ret (WE.loc rfl rfl h)))
end
end Mine
end
section
namespace Mine
set_option maxRecDepth 10000
noncomputable def ifThen : Option Stmt → List Stmt
  | some (.If _ b _ _) => b
  | _ => []
noncomputable def ifElse : Option Stmt → List Stmt
  | some (.If _ _ c _) => c
  | _ => []
noncomputable def gBody : List Stmt := bodyOf (cdef 2)
noncomputable def oBody : List Stmt := forBody gBody[3]?
noncomputable def qBody : List Stmt := forBody (ifThen oBody[1]?)[0]?
noncomputable def bBody : List Stmt := forBody (ifElse oBody[1]?)[2]?
noncomputable def one (c : Nat) : Str := ⟨#[c]⟩
/-- what is left of the text behind p -/
noncomputable def Rem (text : Str) (p : Int) (cs : List Nat) : Prop := ∃ pre, text.cps.toList = pre ++ cs ∧ p = (pre.length : Int)
theorem Rem.next {text : Str} {p : Int} {c : Nat} {cs : List Nat} (h : Rem text p (c :: cs)) : Rem text (p + 1) cs := by
  refine el_ea (h) fun pre h1 h2 => ?_; try clear h
  exact ⟨pre ++ [c], by simp [h1], by simp [h2]⟩
theorem idx1 {n p : Nat} (h : p < n) : Builtin.Str.strSliceIndices (some (p : Int)) (some ((p : Int) + 1)) 1 n = [p] := by
  unfold Builtin.Str.strSliceIndices sliceRange
  have a1 : ¬ ((p : Int) < 0) := by lia -abstractProof
  have a2 : ¬ ((p : Int) + 1 < 0) := by lia -abstractProof
  have e1 : max 0 (min (p : Int) (n : Int)) = (p : Int) := by lia -abstractProof
  have e2 : max 0 (min ((p : Int) + 1) (n : Int)) = (p : Int) + 1 := by lia -abstractProof
  simp only [show (1 : Int) > 0 by decide, if_true, a1, a2, if_false, e1, e2]
  rw [if_pos (by lia -abstractProof)]
  have e3 : (((p : Int) + 1 - (p : Int) + 1 - 1) / 1).toNat = 1 := by
    rw [Int.ediv_one]; lia -abstractProof
  rw [e3]
  simp [List.range_succ]
theorem idx0 {n p : Nat} (h : n ≤ p) : Builtin.Str.strSliceIndices (some (p : Int)) (some ((p : Int) + 1)) 1 n = [] := by
  unfold Builtin.Str.strSliceIndices sliceRange
  have a1 : ¬ ((p : Int) < 0) := by lia -abstractProof
  have a2 : ¬ ((p : Int) + 1 < 0) := by lia -abstractProof
  have e1 : max 0 (min (p : Int) (n : Int)) = (n : Int) := by lia -abstractProof
  have e2 : max 0 (min ((p : Int) + 1) (n : Int)) = (n : Int) := by lia -abstractProof
  simp only [show (1 : Int) > 0 by decide, if_true, a1, a2, if_false, e1, e2]
  rw [if_neg (by lia -abstractProof)]
  simp
theorem Rem.sgn {text : Str} {p : Int} {c : Nat} {cs : List Nat} (h : Rem text p (c :: cs)) : sgn text p = one c := by
  refine el_ea (h) fun pre h1 zq2 => ?_; subst zq2; try clear h
  have hl : text.length = pre.length + (cs.length + 1) := by
    have : text.length = text.cps.toList.length := by simp [Str.length]
    rw [this, h1]; simp
  have hg : text.cps[pre.length]? = some c := by
    rw [← Array.getElem?_toList, h1]; simp
  unfold Mine.sgn Txt.slice
  rw [idx1 (by lia -abstractProof)]
  simp only [List.filterMap_cons, hg, List.filterMap_nil]
  split
  · rename_i q
    simp only [beq_self_eq_true, Bool.true_and, beq_iff_eq, List.length_cons, List.length_nil] at q
    have hz : pre.length = 0 ∧ cs.length = 0 := by lia -abstractProof
    have : text.cps.toList = [c] := by
      rw [h1, List.length_eq_zero_iff.mp hz.1, List.length_eq_zero_iff.mp hz.2]; rfl
    show text = one c
    obtain ⟨a⟩ := text
    show (⟨a⟩ : Str) = ⟨#[c]⟩
    congr 1
    exact Array.toList_inj.mp this
  · rfl
theorem Rem.sgn0 {text : Str} {p : Int} (h : Rem text p []) : Mine.sgn text p = "" := by
  refine el_ea (h) fun pre h1 zq2 => ?_; subst zq2; try clear h
  have hl : text.length = pre.length := by
    have : text.length = text.cps.toList.length := by simp [Str.length]
    rw [this, h1]; simp
  unfold Mine.sgn Txt.slice
  rw [idx0 (by lia -abstractProof)]
  split
  · rename_i q
    simp only [beq_self_eq_true, Bool.true_and, beq_iff_eq, List.length_nil] at q
    have : text.cps.toList = [] := by
      have hz : pre = [] := List.length_eq_zero_iff.mp (by lia -abstractProof)
      rw [h1, hz]; rfl
    obtain ⟨a⟩ := text
    show (⟨a⟩ : Str) = ⟨#[]⟩
    congr 1
    exact Array.toList_inj.mp this
  · rfl
theorem one_beq (c d : Nat) : (one c == one d) = (c == d) := by
  by_cases h : c = d
  · subst h; simp
  · have h1 : (c == d) = false := by simpa using h
    rw [h1, beq_eq_false_iff_ne]
    intro q
    have : (one c).cps.toList = (one d).cps.toList := by rw [q]
    simp [one] at this
    exact h this
theorem one_ne (c : Nat) : (("" : Str) == one c) = false := by
  rw [beq_eq_false_iff_ne]
  intro q
  have : ("" : Str).cps.toList = (one c).cps.toList := by rw [← q]
  cases this
theorem ws_blank : Txt.contains ws4 (one 32) = true := by decide +kernel
theorem ws_quote : Txt.contains ws4 (one 34) = false := by decide +kernel
theorem ws_back : Txt.contains ws4 (one 92) = false := by decide +kernel
end Mine
end
section
namespace Mine
set_option maxRecDepth 10000
noncomputable abbrev gσ (C fR : Addr) (t0 t1 : MO) (text : Str) (p ln : Int) (rest : List MO) : List MO := lexσ C t0 t1 text p ln [] (rest ++ [.obj (methOP fR 5)] ++ [.obj (ciOP (rest.length + 7))])
noncomputable def cnt (cs : List Nat) : Int := (cs.count 10 : Nat)
theorem cnt_cons (c : Nat) (cs : List Nat) : cnt (c :: cs) = cnt cs + if c = 10 then 1 else 0 := by
  unfold cnt; rw [List.count_cons]
  by_cases h : c = 10 <;> simp [h]
theorem lnUp_one (c : Nat) (ln : Int) : lnUp (one c) ln = ln + if c = 10 then 1 else 0 := by
  unfold lnUp
  have h : (one c = ("\n" : Str)) ↔ c = 10 := by
    have := one_beq c 10
    constructor
    · intro q
      have e : (one c == one 10) = true := by rw [beq_iff_eq]; exact q
      rw [this] at e; simpa using e
    · intro q; subst q; rfl
  by_cases q : c = 10
  · rw [if_pos (h.mpr q), if_pos q]
  · rw [if_neg fun z => q (h.mp z), if_neg q]; lia -abstractProof
noncomputable def escB (cs : List Nat) : List Nat := cs.flatMap fun c => [92, c]
noncomputable def escQ (cs : List Nat) : List Nat := cs.flatMap fun c => if c = 34 ∨ c = 92 then [92, c] else [c]
noncomputable def strOf (cs : List Nat) : Str := ⟨cs.toArray⟩
theorem str_snoc (t : Str) (c : Nat) (cs : List Nat) : t ++ one c ++ strOf cs = t ++ strOf (c :: cs) := by
  show (⟨(t.cps ++ #[c]) ++ cs.toArray⟩ : Str) = ⟨t.cps ++ (c :: cs).toArray⟩
  congr 1
  apply Array.toList_inj.mp; simp
theorem str_nil (t : Str) : t ++ strOf [] = t := by
  show (⟨t.cps ++ [].toArray⟩ : Str) = t
  simp
section
variable {prog : Program} {w : World} {h₀ : Heap} {n k : Nat} {sc : Scope} {m : List (Str × Vl)} {K : Vl → List MO → Prop} {gl : Str → Option Value}
  {Ks : Fl → List (Str × Vl) → List MO → Prop} {C N : Addr} {mN : Str → Option Value} {fI fR fG fP : Addr} {t0 t1 : MO} {text : Str} {p ln : Int} {rest : List MO}
theorem g_ci : (gσ C fR t0 t1 text p ln rest)[rest.length + 8]? = some (.obj (ciOP (rest.length + 7))) := by
  show (rest ++ [MO.obj (methOP fR 5)] ++ [MO.obj (ciOP (rest.length + 7))])[rest.length + 1]? = _
  rw [List.getElem?_append_right (by simp)]; simp
theorem g_me : (gσ C fR t0 t1 text p ln rest)[rest.length + 7]? = some (.obj (methOP fR 5)) := by
  show (rest ++ [MO.obj (methOP fR 5)] ++ [MO.obj (ciOP (rest.length + 7))])[rest.length]? = _
  rw [List.getElem?_append_left (by simp), List.getElem?_append_right (Nat.le_refl _)]; simp
theorem turn (G : Glb h₀ gl) (X : LexCls h₀ gl C N mN fI fR fG fP) (ht : text.length ≤ 100000) {c : Nat} {cs : List Nat} {body : List Stmt} {fuel : Nat} (hr : Rem text p (c :: cs))
    (h : WN prog w h₀ sc (rest.length + 8 + 1) m "ch" (.d (.str (one c))) (gσ C fR t0 t1 text (p + 1) (ln + if c = 10 then 1 else 0) rest) fun _ m₁ σ₁ => WS prog w h₀ (n + 3) sc (rest.length + 8 + 1) m₁ body σ₁ fun fl m₂ σ₂ => match fl with
        | .next => WLC prog w h₀ (n + 2) sc "ch" body (rest.length + 8) fuel m₂ σ₂ Ks
        | .cont => WLC prog w h₀ (n + 2) sc "ch" body (rest.length + 8) fuel m₂ σ₂ Ks
        | .brk => Ks .next m₂ σ₂
        | .ret v => Ks (.ret v) m₂ σ₂) : WLC prog w h₀ (n + 2) sc "ch" body (rest.length + 8) (fuel + 1) m (gσ C fR t0 t1 text p ln rest) Ks := by
  refine el_eeaaa (X.dR.ex) fun ob fd h2 _ h3 _ => ?_
  refine (in_eeeeeeaaaa (rest.length + 7) fR 5 (one c) ob fd g_ci g_me h2 h3 (read_char G X ht ?_))
  rw [hr.sgn, lnUp_one]
  exact ⟨rfl, g_ci, g_me, .inr ⟨one_ne c, h⟩⟩
/-- ch = self._read_char() -/
theorem readW (G : Glb h₀ gl) (X : LexCls h₀ gl C N mN fI fR fG fP) (ht : text.length ≤ 100000) {c : Nat} {cs : List Nat} {p1 p2 p3 p4 p5 : Pos} (hr : Rem text p (c :: cs)) (hs : sc.names.lookup ("ch" : Str) = some .local) (hs' : sc.names.lookup ("self" : Str) = some .local) (hm : m.lookup ("self" : Str) = some (.m 5))
    (h : Ks .next ((("ch" : Str), .d (.str (one c))) :: m) (gσ C fR t0 t1 text (p + 1) (ln + if c = 10 then 1 else 0) rest))
    (hbase : ∀ env, attributeBase (.Name "self" p2) "_read_char" env (eval (.Name "self" p2) env) = eval (.Name "self" p2) env := by intro _; rfl) (hline : (p3.endLine == p4.line) = true := by rfl) :
    W1 prog w h₀ (n + 3) sc k m (.Assign [.Name "ch" p1] (.Call (.Attribute (.Name "self" p2) "_read_char" p3) [] [] p4) p5) (gσ C fR t0 t1 text p ln rest) Ks := by
  refine W1.assign (WE.callM0 X.cls X.qt (X.dR.meth X.nR o_read_char) (WE.loc hm hs' (in_eeeeaaa 5 4 7 (lexAt ln) rfl lexσ_ins rfl ((read_char (n := n + 1) G X ht ?_).wo))) hbase hline)
  rw [hr.sgn, lnUp_one]
  exact WN.loc hs h
theorem one_len (c : Nat) : (one c).length = 1 := rfl
/-- a bare word is read to its end -/
theorem bare_loop (G : Glb h₀ gl) (X : LexCls h₀ gl C N mN fI fR fG fP) (ht : text.length ≤ 100000) {tail : List Nat} : ∀ (cs : List Nat) (m : List (Str × Vl)) (tok : Str) (p ln : Int), Rem text p (escB cs ++ 32 :: tail) → m.lookup ("self" : Str) = some (.m 5) → m.lookup ("token" : Str) = some (.d (.str tok)) → tok.length + cs.length ≤ 1000 →
    (∀ m' p', Rem text p' tail → Ks (.ret (.d (.str (tok ++ strOf cs)))) m' (gσ C fR t0 t1 text p' (ln + cnt cs) rest)) →
    WLC prog w h₀ (n + 2) (scopeOf (cdef 2)) "ch" bBody (rest.length + 8) (cs.length + 1) m (gσ C fR t0 t1 text p ln rest) Ks
  | [], m, tok, p, ln, hr, hs, hm, hl, h => by
    refine turn G X ht hr (WN.loc rfl ?_)
    refine WS.cons (W1.ite (WB.cmp (WE.loc rfl rfl (WE.attr X.cls X.n3 o_whitespace X.qt.ga (WE.loc hs rfl (in_eeeeeaaa 5 4 7 _ (.d (.str ws4)) rfl lexσ_ins rfl (WO.inS ⟨_, rfl, ?_⟩)))))))
    rw [ws_blank, if_pos rfl]
    refine WS.cons (W1.ret (WE.loc hm rfl ?_))
    have := h ((("ch" : Str), .d (.str (one 32))) :: m) (p + 1) hr.next
    rw [str_nil] at this
    exact this
  | c :: cs, m, tok, p, ln, hr, hs, hm, hl, h => by
    refine turn G X ht hr (WN.loc rfl ?_)
    refine WS.cons (W1.ite (WB.cmp (WE.loc rfl rfl (WE.attr X.cls X.n3 o_whitespace X.qt.ga (WE.loc hs rfl (in_eeeeeaaa 5 4 7 _ (.d (.str ws4)) rfl lexσ_ins rfl (WO.inS ⟨_, rfl, ?_⟩)))))))
    rw [ws_back, if_neg Bool.false_ne_true]
    refine WS.cons (W1.ite (WB.cmp (WE.loc rfl rfl (WE.str (WO.eqS ⟨_, rfl, ?_⟩)))))
    rw [if_pos (by decide)]
    refine WS.cons (readW G X ht hr.next rfl rfl hs ?_)
    refine WS.nil (WS.nil (WS.cons (W1.aug (v := .d (.str tok)) hm rfl (WE.loc rfl rfl (WO.iaddS (by rw [one_len, sizeLine_eq]; simp at hl; lia -abstractProof) (WN.loc rfl (WS.nil ?_)))))))
    refine bare_loop G X ht cs _ (tok ++ one c) _ _ hr.next.next hs rfl (by rw [app_len, one_len]; simp at hl; lia -abstractProof) fun m' p' hr' => ?_
    have := h m' p' hr'
    rw [cnt_cons] at this
    rw [str_snoc]
    have e : ln + (cnt cs + if c = 10 then 1 else 0) = (ln + if (92 : Nat) = 10 then 1 else 0) + (if c = 10 then 1 else 0) + cnt cs := by
      rw [show (if (92 : Nat) = 10 then (1 : Int) else 0) = 0 from rfl]; lia -abstractProof
    rw [e] at this
    exact this
end
end Mine
end
section
namespace Mine
set_option maxRecDepth 10000
section
variable {prog : Program} {w : World} {h₀ : Heap} {n k : Nat} {sc : Scope} {m : List (Str × Vl)} {K : Vl → List MO → Prop} {gl : Str → Option Value}
  {Ks : Fl → List (Str × Vl) → List MO → Prop} {C N : Addr} {mN : Str → Option Value} {fI fR fG fP : Addr} {t0 t1 : MO} {text : Str} {p ln : Int} {rest : List MO}
/-- a word in quotation marks is read to its end -/
theorem quot_loop (G : Glb h₀ gl) (X : LexCls h₀ gl C N mN fI fR fG fP) (ht : text.length ≤ 100000) {tail : List Nat} : ∀ (cs : List Nat) (m : List (Str × Vl)) (tok : Str) (p ln : Int), Rem text p (escQ cs ++ 34 :: tail) → m.lookup ("self" : Str) = some (.m 5) → m.lookup ("token" : Str) = some (.d (.str tok)) → tok.length + cs.length ≤ 1000 →
    (∀ m' p', Rem text p' tail → Ks (.ret (.d (.str (tok ++ strOf cs)))) m' (gσ C fR t0 t1 text p' (ln + cnt cs) rest)) →
    WLC prog w h₀ (n + 2) (scopeOf (cdef 2)) "ch" qBody (rest.length + 8) (cs.length + 1) m (gσ C fR t0 t1 text p ln rest) Ks
  | [], m, tok, p, ln, hr, hs, hm, hl, h => by
    refine turn G X ht hr (WN.loc rfl ?_)
    refine WS.cons (W1.ite (WB.cmp (WE.loc rfl rfl (WE.str (WO.eqS ⟨_, rfl, ?_⟩)))))
    rw [if_pos (by decide)]
    refine WS.cons (W1.ret (WE.loc hm rfl ?_))
    have := h ((("ch" : Str), .d (.str (one 34))) :: m) (p + 1) hr.next
    rw [str_nil] at this
    exact this
  | c :: cs, m, tok, p, ln, hr, hs, hm, hl, h => by
    by_cases q : c = 34 ∨ c = 92
    · have e0 : escQ (c :: cs) = 92 :: c :: escQ cs := by
        show (if c = 34 ∨ c = 92 then [92, c] else [c]) ++ escQ cs = _
        rw [if_pos q]; rfl
      rw [e0] at hr
      refine turn G X ht hr (WN.loc rfl ?_)
      refine WS.cons (W1.ite (WB.cmp (WE.loc rfl rfl (WE.str (WO.eqS ⟨_, rfl, ?_⟩)))))
      rw [if_neg (by decide)]
      refine WS.cons (W1.ite (WB.cmp (WE.loc rfl rfl (WE.str (WO.eqS ⟨_, rfl, ?_⟩)))))
      rw [if_pos (by decide)]
      refine WS.cons (readW G X ht hr.next rfl rfl hs ?_)
      refine WS.nil (WS.nil (WS.cons (W1.aug (v := .d (.str tok)) hm rfl (WE.loc rfl rfl (WO.iaddS (by rw [one_len, sizeLine_eq]; simp at hl; lia) (WN.loc rfl (WS.nil ?_)))))))
      refine quot_loop G X ht cs _ (tok ++ one c) _ _ hr.next.next hs rfl (by rw [app_len, one_len]; simp at hl; lia) fun m' p' hr' => ?_
      have := h m' p' hr'
      rw [cnt_cons] at this
      rw [str_snoc]
      have e : ln + (cnt cs + if c = 10 then 1 else 0) = (ln + if (92 : Nat) = 10 then 1 else 0) + (if c = 10 then 1 else 0) + cnt cs := by
        rw [show (if (92 : Nat) = 10 then (1 : Int) else 0) = 0 from rfl]; lia
      rw [e] at this
      exact this
    · have e0 : escQ (c :: cs) = c :: escQ cs := by
        show (if c = 34 ∨ c = 92 then [92, c] else [c]) ++ escQ cs = _
        rw [if_neg q]; rfl
      rw [e0] at hr
      refine turn G X ht hr (WN.loc rfl ?_)
      refine WS.cons (W1.ite (WB.cmp (WE.loc rfl rfl (WE.str (WO.eqS ⟨_, rfl, ?_⟩)))))
      have b1 : (one c == ("\"" : Str)) = false := by
        rw [show ("\"" : Str) = one 34 from rfl, one_beq]; simpa using fun z => q (.inl z)
      have b2 : (one c == ("\\" : Str)) = false := by
        rw [show ("\\" : Str) = one 92 from rfl, one_beq]; simpa using fun z => q (.inr z)
      rw [if_neg (by rw [b1]; exact Bool.false_ne_true)]
      refine WS.cons (W1.ite (WB.cmp (WE.loc rfl rfl (WE.str (WO.eqS ⟨_, rfl, ?_⟩)))))
      rw [if_neg (by rw [b2]; exact Bool.false_ne_true)]
      refine WS.nil (WS.nil (WS.cons (W1.aug (v := .d (.str tok)) hm rfl (WE.loc rfl rfl (WO.iaddS (by rw [one_len, sizeLine_eq]; simp at hl; lia) (WN.loc rfl (WS.nil ?_)))))))
      refine quot_loop G X ht cs _ (tok ++ one c) _ _ hr.next hs rfl (by rw [app_len, one_len]; simp at hl; lia) fun m' p' hr' => ?_
      have := h m' p' hr'
      rw [cnt_cons] at this
      rw [str_snoc]
      have e : ln + (cnt cs + if c = 10 then 1 else 0) = ln + (if c = 10 then 1 else 0) + cnt cs := by lia
      rw [e] at this
      exact this
/-- the outer loop, at the word's first sign -/
theorem word_bare (G : Glb h₀ gl) (X : LexCls h₀ gl C N mN fI fR fG fP) (ht : text.length ≤ 100000) {tail : List Nat} {c : Nat} {cs : List Nat} {m : List (Str × Vl)} {fuel : Nat} (hr : Rem text p (escB (c :: cs) ++ 32 :: tail)) (hs : m.lookup ("self" : Str) = some (.m 5)) (hm : m.lookup ("token" : Str) = some (.d (.str "")))
    (hf : m.lookup ("fiter" : Str) = some (.m (rest.length + 8))) (hl : cs.length ≤ 500)
    (h : ∀ m' p', Rem text p' tail → Ks (.ret (.d (.str (strOf (c :: cs))))) m' (gσ C fR t0 t1 text p' (ln + cnt (c :: cs)) rest)) :
    WLC prog w h₀ (n + 2) (scopeOf (cdef 2)) "ch" oBody (rest.length + 8) (fuel + 1) m (gσ C fR t0 t1 text p ln rest) Ks := by
  refine turn G X ht hr (WN.loc rfl ?_)
  refine WS.cons (W1.ite (WB.cmp (WE.loc rfl rfl (WE.attr X.cls X.n3 o_whitespace X.qt.ga (WE.loc hs rfl (in_eeeeeaaa 5 4 7 _ (.d (.str ws4)) rfl lexσ_ins rfl (WO.inS ⟨_, rfl, ?_⟩)))))))
  rw [ws_back, if_neg Bool.false_ne_true]
  refine WS.nil (WS.cons (W1.ite (WB.cmp (WE.loc rfl rfl (WE.str (WO.eqS ⟨_, rfl, ?_⟩))))))
  rw [if_neg (by decide)]
  refine WS.cons (W1.ite (WB.cmp (WE.loc rfl rfl (WE.str (WO.eqS ⟨_, rfl, ?_⟩)))))
  rw [if_pos (by decide)]
  refine WS.cons (readW G X ht hr.next rfl rfl hs ?_)
  refine WS.nil (WS.cons (W1.aug (v := .d (.str "")) hm rfl (WE.loc rfl rfl (WO.iaddS (by rw [one_len, sizeLine_eq]; show 0 + 1 ≤ _; lia) (WN.loc rfl ?_)))))
  refine WS.cons (W1.forC (WE.loc hf rfl (in_eeeaaa (rest.length + 8) (rest.length + 7) (cs.length + 1) rfl (Nat.le_refl _) g_ci ?_)))
  refine bare_loop G X ht cs _ ("" ++ one c) _ _ hr.next.next hs rfl (by rw [app_len, one_len]; show 0 + 1 + _ ≤ _; lia) fun m' p' hr' => ?_
  have := h m' p' hr'
  rw [cnt_cons] at this
  rw [str_snoc]
  have e : ln + (cnt cs + if c = 10 then 1 else 0) = (ln + if (92 : Nat) = 10 then 1 else 0) + (if c = 10 then 1 else 0) + cnt cs := by
    rw [show (if (92 : Nat) = 10 then (1 : Int) else 0) = 0 from rfl]; lia
  rw [e] at this
  have e' : ("" : Str) ++ strOf (c :: cs) = strOf (c :: cs) := by
    show (⟨#[] ++ (c :: cs).toArray⟩ : Str) = ⟨(c :: cs).toArray⟩
    simp
  rw [e']
  exact this
theorem word_quot (G : Glb h₀ gl) (X : LexCls h₀ gl C N mN fI fR fG fP) (ht : text.length ≤ 100000) {tail : List Nat} {cs : List Nat} {m : List (Str × Vl)} {fuel : Nat} (hr : Rem text p (34 :: (escQ cs ++ 34 :: tail))) (hs : m.lookup ("self" : Str) = some (.m 5)) (hm : m.lookup ("token" : Str) = some (.d (.str "")))
    (hf : m.lookup ("fiter" : Str) = some (.m (rest.length + 8))) (hl : cs.length ≤ 500)
    (h : ∀ m' p', Rem text p' tail → Ks (.ret (.d (.str (strOf cs)))) m' (gσ C fR t0 t1 text p' (ln + cnt cs) rest)) :
    WLC prog w h₀ (n + 2) (scopeOf (cdef 2)) "ch" oBody (rest.length + 8) (fuel + 1) m (gσ C fR t0 t1 text p ln rest) Ks := by
  refine turn G X ht hr (WN.loc rfl ?_)
  refine WS.cons (W1.ite (WB.cmp (WE.loc rfl rfl (WE.attr X.cls X.n3 o_whitespace X.qt.ga (WE.loc hs rfl (in_eeeeeaaa 5 4 7 _ (.d (.str ws4)) rfl lexσ_ins rfl (WO.inS ⟨_, rfl, ?_⟩)))))))
  rw [ws_quote, if_neg Bool.false_ne_true]
  refine WS.nil (WS.cons (W1.ite (WB.cmp (WE.loc rfl rfl (WE.str (WO.eqS ⟨_, rfl, ?_⟩))))))
  rw [if_pos (by decide)]
  refine WS.cons (W1.forC (WE.loc hf rfl (in_eeeaaa (rest.length + 8) (rest.length + 7) (cs.length + 1) rfl (Nat.le_refl _) g_ci ?_)))
  refine quot_loop G X ht cs _ "" _ _ hr.next hs hm (by show 0 + _ ≤ _; lia) fun m' p' hr' => ?_
  have e' : ("" : Str) ++ strOf cs = strOf cs := by
    show (⟨#[] ++ cs.toArray⟩ : Str) = ⟨cs.toArray⟩
    simp
  rw [e', show (if (34 : Nat) = 10 then (1 : Int) else 0) = 0 from rfl, Int.add_zero]
  exact h m' p' hr'
/-- .. at a blank -/
theorem word_blank (G : Glb h₀ gl) (X : LexCls h₀ gl C N mN fI fR fG fP) (ht : text.length ≤ 100000) {tail : List Nat} {m : List (Str × Vl)} {fuel : Nat} (hr : Rem text p (32 :: tail)) (hs : m.lookup ("self" : Str) = some (.m 5))
    (h : WLC prog w h₀ (n + 2) (scopeOf (cdef 2)) "ch" oBody (rest.length + 8) fuel ((("ch" : Str), .d (.str (one 32))) :: m) (gσ C fR t0 t1 text (p + 1) ln rest) Ks) :
    WLC prog w h₀ (n + 2) (scopeOf (cdef 2)) "ch" oBody (rest.length + 8) (fuel + 1) m (gσ C fR t0 t1 text p ln rest) Ks := by
  refine turn G X ht hr (WN.loc rfl ?_)
  refine WS.cons (W1.ite (WB.cmp (WE.loc rfl rfl (WE.attr X.cls X.n3 o_whitespace X.qt.ga (WE.loc hs rfl (in_eeeeeaaa 5 4 7 _ (.d (.str ws4)) rfl lexσ_ins rfl (WO.inS ⟨_, rfl, ?_⟩)))))))
  rw [ws_blank, if_pos rfl]
  refine WS.cons (W1.continue_ ?_)
  rw [show (if (32 : Nat) = 10 then (1 : Int) else 0) = 0 from rfl, Int.add_zero]
  exact h
/-- .. at the end -/
theorem word_end (G : Glb h₀ gl) (X : LexCls h₀ gl C N mN fI fR fG fP) (ht : text.length ≤ 100000) {m : List (Str × Vl)} {fuel : Nat} (hr : Rem text p [])
    (h : Ks .next m ((gσ C fR t0 t1 text (p + 1) ln rest).set (rest.length + 8) (.obj anyOP))) :
    WLC prog w h₀ (n + 2) (scopeOf (cdef 2)) "ch" oBody (rest.length + 8) (fuel + 1) m (gσ C fR t0 t1 text p ln rest) Ks := by
  refine el_eeaaa (X.dR.ex) fun ob fd h2 _ h3 _ => ?_
  refine (in_eeeeeeaaaa (rest.length + 7) fR 5 "" ob fd g_ci g_me h2 h3 (read_char G X ht ?_))
  rw [hr.sgn0]
  exact ⟨rfl, g_ci, g_me, .inl ⟨rfl, h⟩⟩
end
end Mine
end
section
namespace Mine
set_option maxRecDepth 10000
/-- signs that are read as one word -/
inductive Word (cs tail : List Nat) : List Nat → Prop
  | bare {c cs'} : cs = c :: cs' → Word cs tail (escB cs ++ 32 :: tail)
  | quot : Word cs tail (34 :: (escQ cs ++ 34 :: tail))
  | blank {r} : Word cs tail r → Word cs tail (32 :: r)
section
variable {prog : Program} {w : World} {h₀ : Heap} {n k : Nat} {sc : Scope} {m : List (Str × Vl)} {K : Vl → List MO → Prop} {gl : Str → Option Value}
  {Ks : Fl → List (Str × Vl) → List MO → Prop} {C N : Addr} {mN : Str → Option Value} {fI fR fG fP : Addr} {t0 t1 : MO} {text : Str} {p ln : Int} {rest : List MO} {pb : List D}
theorem word_walk (G : Glb h₀ gl) (X : LexCls h₀ gl C N mN fI fR fG fP) (ht : text.length ≤ 100000) {cs tail : List Nat} (hl : cs.length ≤ 500) {r : List Nat} (hw : Word cs tail r) : ∀ (p : Int) (m : List (Str × Vl)), Rem text p r → m.lookup ("self" : Str) = some (.m 5) → m.lookup ("token" : Str) = some (.d (.str "")) →
    m.lookup ("fiter" : Str) = some (.m (rest.length + 8)) →
    (∀ m' p', Rem text p' tail → Ks (.ret (.d (.str (strOf cs)))) m' (gσ C fR t0 t1 text p' (ln + cnt cs) rest)) →
    WLC prog w h₀ (n + 2) (scopeOf (cdef 2)) "ch" oBody (rest.length + 8) (r.length + 1) m (gσ C fR t0 t1 text p ln rest) Ks := by
  induction hw with
  | @bare c cs' e =>
    intro p m hr hs hm hf h
    subst e
    exact word_bare G X ht hr hs hm hf (by simp at hl; lia -abstractProof) h
  | quot => intro p m hr hs hm hf h; exact word_quot G X ht hr hs hm hf hl h
  | blank _ ih => intro p m hr hs hm hf h; exact word_blank G X ht hr hs (ih (p + 1) _ hr.next hs hm hf h)
theorem lexσ_bd' (h0 : t0.bd ≤ 2) (h1 : t1.bd ≤ 2) (hr : ∀ y ∈ rest, y.bd ≤ rest.length + 7) : ∀ y ∈ lexσ C t0 t1 text p ln pb rest, y.bd ≤ (lexσ C t0 t1 text p ln pb rest).length :=
  lexσ_bd h0 h1 hr
theorem bd_snoc {l : List MO} {x : MO} (h : ∀ y ∈ l, y.bd ≤ l.length + 7) (hx : x.bd ≤ l.length + 8) : ∀ y ∈ l ++ [x], y.bd ≤ (l ++ [x]).length + 7 := fun y hy => by
  rw [List.length_append]
  rcases List.mem_append.mp hy with q | q
  · have := h y q; show _ ≤ l.length + 1 + 7; lia -abstractProof
  · rw [List.mem_singleton.mp q]; show _ ≤ l.length + 1 + 7; lia -abstractProof
theorem meth_bd : (MO.obj (methOP fR 5)).bd ≤ rest.length + 8 := by show 6 ≤ _; lia -abstractProof
/-- get_token: the head of it, where nothing waits -/
theorem get_head (G : Glb h₀ gl) (X : LexCls h₀ gl C N mN fI fR fG fP) (hi : gl "iter" = some (.builtin "iter")) (h0 : t0.bd ≤ 2) (h1 : t1.bd ≤ 2) (hr : ∀ y ∈ rest, y.bd ≤ rest.length + 7) {fuel : Nat}
    (h : ∀ m, m.lookup ("self" : Str) = some (.m 5) → m.lookup ("token" : Str) = some (.d (.str "")) → m.lookup ("fiter" : Str) = some (.m (rest.length + 8)) →
      WLC prog w h₀ (n + 2) (scopeOf (cdef 2)) "ch" oBody (rest.length + 8) fuel m (gσ C fR t0 t1 text p ln rest) (fun fl m₁ σ₁ => match fl with
        | .next => WS prog w h₀ (n + 3) (scopeOf (cdef 2)) (lexσ C t0 t1 text p ln [] rest).length m₁ (gBody.drop 4) σ₁ fun fl _ σ' => K (retOf fl) σ'
        | fl => K (retOf fl) σ₁)) :
    WOc prog w h₀ (n + 4) [.m 5] fG (lexσ C t0 t1 text p ln [] rest) K := by
  refine WOc.def G X.dG rfl rfl ?_
  refine WS.cons (W1.ite (WB.val (WE.attr X.cls X.n4 o_pushback X.qt.ga (WE.loc rfl rfl (in_eeeeeaaa 5 4 7 _ (.m 6) rfl lexσ_ins rfl (WT.lst (i := 6) (xs := []) rfl (Nat.zero_le _) ?_))))))
  rw [if_neg (by decide)]
  refine WS.nil (WS.cons (W1.assign (WE.str (WN.loc rfl ?_))))
  refine WS.cons (W1.assign (WE.callBi (id := "iter") (WE.glob G hi rfl ⟨rfl, WEs.cons (WE.bound X.cls X.qt (X.dR.meth X.nR o_read_char) (by decide +kernel) (WE.loc rfl rfl (in_eeeeaaaa 5 4 7 _ rfl lexσ_ins rfl (lexσ_bd' h0 h1 hr) ?_)))⟩)))
  refine WEs.cons (WE.str (WEs.nil (WO.iter2 (ib := rest.length + 7) (ix := 5) (f := fR) ?_ (lexσ_bd' h0 h1 (bd_snoc hr meth_bd)) (WN.loc rfl ?_))))
  · show (rest ++ [MO.obj (methOP fR 5)])[rest.length]? = _
    rw [List.getElem?_append_right (Nat.le_refl _)]; simp
  · have el : (lexσ C t0 t1 text p ln [] rest ++ [MO.obj (methOP fR 5)]).length = rest.length + 8 := by simp [lexσ]
    rw [el]
    refine WS.cons (W1.forC (WE.loc rfl rfl (in_eeeaaa (rest.length + 8) (rest.length + 7) fuel rfl (by simp [lexσ]) g_ci ?_)))
    exact h _ rfl rfl rfl
theorem get_read (G : Glb h₀ gl) (X : LexCls h₀ gl C N mN fI fR fG fP) (hi : gl "iter" = some (.builtin "iter")) (h0 : t0.bd ≤ 2) (h1 : t1.bd ≤ 2) (hrb : ∀ y ∈ rest, y.bd ≤ rest.length + 7) (ht : text.length ≤ 100000) {cs tail r : List Nat} (hl : cs.length ≤ 500) (hw : Word cs tail r) (hr : Rem text p r)
    (h : ∀ p', Rem text p' tail → K (.d (.str (strOf cs))) (lexσ C t0 t1 text p' (ln + cnt cs) [] rest)) :
    WO prog w h₀ (n + 4) [.m 5] (fun us => call (.ref fG) us) (lexσ C t0 t1 text p ln [] rest) K := by
  refine WO.forget (get_head G X hi h0 h1 hrb (fuel := r.length + 1) fun m hs hm hf => ?_).wo
  refine word_walk G X ht hl hw p m hr hs hm hf fun m' p' hr' => ?_
  refine (in_eeaaaa (lexσ C t0 t1 text p' (ln + cnt cs) [] rest) ([.obj (methOP fR 5), .obj (ciOP (rest.length + 7))]) (by simp [lexσ]) (by simp [lexσ]) (lexσ_bd' h0 h1 hrb) (fun i e => (nomatch e)) (h p' hr'))
/-- .. where the text is at its end -/
theorem get_end (G : Glb h₀ gl) (X : LexCls h₀ gl C N mN fI fR fG fP) (hi : gl "iter" = some (.builtin "iter")) (h0 : t0.bd ≤ 2) (h1 : t1.bd ≤ 2) (hrb : ∀ y ∈ rest, y.bd ≤ rest.length + 7) (ht : text.length ≤ 100000) (hr : Rem text p [] ∨ Rem text p [32])
    (h : ∀ p', K (.d (.str "")) (lexσ C t0 t1 text p' ln [] rest)) :
    WO prog w h₀ (n + 4) [.m 5] (fun us => call (.ref fG) us) (lexσ C t0 t1 text p ln [] rest) K := by
  have key : ∀ (p : Int) (m : List (Str × Vl)), m.lookup ("token" : Str) = some (.d (.str "")) → WS prog w h₀ (n + 3) (scopeOf (cdef 2)) (lexσ C t0 t1 text p ln [] rest).length m (gBody.drop 4) ((gσ C fR t0 t1 text p ln rest).set (rest.length + 8) (.obj anyOP)) fun fl _ σ' =>
      ∃ σ₁ xs, σ' = σ₁ ++ xs ∧ (lexσ C t0 t1 text p ln [] rest).length ≤ σ₁.length ∧ (∀ y ∈ σ₁, y.bd ≤ σ₁.length) ∧ (∀ i, retOf fl = .m i → i < σ₁.length) ∧ K (retOf fl) σ₁ := fun p m hm => by
    refine WS.cons (W1.ret (WE.loc hm rfl (in_eeaaaa (lexσ C t0 t1 text p ln [] rest) ([.obj (methOP fR 5), .obj anyOP]) ?_ (Nat.le_refl _) (lexσ_bd' h0 h1 hrb) (fun i e => (nomatch e)) (h p))))
    show t0 :: t1 :: _ :: _ :: _ :: _ :: _ :: (rest ++ [MO.obj (methOP fR 5)] ++ [MO.obj (ciOP (rest.length + 7))]).set (rest.length + 1) _ = _
    simp [lexσ, List.set_append]
  refine WO.forget (get_head G X hi h0 h1 hrb (fuel := 2) fun m hs hm hf => ?_).wo
  rcases hr with hr | hr
  · exact word_end G X ht hr (key _ m hm)
  · exact word_blank G X ht hr hs (word_end G X ht hr.next (key _ _ hm))
/-- .. where tokens wait -/
theorem get_pop (G : Glb h₀ gl) (X : LexCls h₀ gl C N mN fI fR fG fP) {x : Str} (hl : pb.length ≤ 900) (h : K (.d (.str x)) (lexσ C t0 t1 text p ln pb rest)) :
    WO prog w h₀ (n + 1) [.m 5] (fun us => call (.ref fG) us) (lexσ C t0 t1 text p ln (.str x :: pb) rest) K := by
  refine (WOc.def G X.dG rfl rfl ?_).wo
  refine WS.cons (W1.ite (WB.val (WE.attr X.cls X.n4 o_pushback X.qt.ga (WE.loc rfl rfl (in_eeeeeaaa 5 4 7 _ (.m 6) rfl lexσ_ins rfl (WT.lst (i := 6) (xs := .str x :: pb) rfl (by simp; lia -abstractProof) ?_))))))
  rw [if_pos (by rfl)]
  refine WS.cons (W1.ret (WE.meth (T := "list") (id := "list.pop") PySem.F.plainAttrs_list PySem.F.slot_list_pop PySem.F.type_list_pop (WE.attr X.cls X.n4 o_pushback X.qt.ga (WE.loc rfl rfl (in_eeeeeaaa 5 4 7 _ (.m 6) rfl lexσ_ins rfl ?_)))))
  refine ⟨ty_list (i := 6) (xs := .str x :: pb) rfl, WEs.cons (WE.int (WEs.nil (WO.pop0 (i := 6) (d := .str x) (xs := pb) rfl (by lia -abstractProof) ?_)))⟩
  exact h
/-- push_token -/
theorem push_tok (G : Glb h₀ gl) (X : LexCls h₀ gl C N mN fI fR fG fP) {x : Str} (hl : pb.length ≤ 900) (h : K (.d .none) (lexσ C t0 t1 text p ln (pb ++ [.str x]) rest)) :
    WO prog w h₀ (n + 1) [.m 5, .d (.str x)] (fun us => call (.ref fP) us) (lexσ C t0 t1 text p ln pb rest) K := by
  refine (WOc.def G X.dP rfl rfl ?_).wo
  refine WS.cons (W1.expr (WE.meth (T := "list") (id := "list.append") PySem.F.plainAttrs_list PySem.F.slot_list_append PySem.F.type_list_append (WE.attr X.cls X.n4 o_pushback X.qt.ga (WE.loc rfl rfl (in_eeeeeaaa 5 4 7 _ (.m 6) rfl lexσ_ins rfl ?_)))))
  refine ⟨ty_list (i := 6) (xs := pb) rfl, WEs.cons (WE.loc rfl rfl (WEs.nil (WO.append (i := 6) (xs := pb) rfl (by lia -abstractProof) (WS.nil ?_))))⟩
  exact h
end
end Mine
end
section
namespace Mine
set_option maxRecDepth 10000
noncomputable def readPars : Arguments := match readDef with
  | some (.FunctionDef _ a _ _ _ _ _ _ _ _) => a
  | _ => ⟨[], [], none, [], [], none, []⟩
inductive MadeC (text : Str) (cp ct a S : Addr) (h' : Heap) : Prop
  | mk (o : Obj) : h'.get? S = some o → o.cls = .type "function" → (∀ c, o.data ≠ .cls c) → (dS : Addr) → (mA : Str → Option Value) → (Rf : Addr) → (oR : Obj) → (fd : FuncData) → (c : Addr) → (oc : Obj) → (vs : Array Value) → (tq t : Tok) → o.dict = some dS → S < dS → h'.Ns dS mA → mA "read" = some (.ref Rf) → h'.get? Rf = some oR → oR.data = .func fd → ReadFd fd cp ct →
    fd.code = .ref c → h'.get? c = some oc → oc.data = .fields vs → vs[1]? = some (.str fd.qualname tq) → h'.IsCell ct (some (.str text t)) → h'.IsCell cp (some (.ref a)) → a < c → c < Rf → Rf < S → MadeC text cp ct a S h'
/-- what _law_stream has made -/
structure Made (h₁ : Heap) (text : Str) (L cp ct P a S : Addr) (h' : Heap) : Prop where
  list : ∃ t, h'.IsList a #[.int 0 t]
  fa : h₁.objs.size ≤ a
  cls : MadeC text cp ct a S h'
  kept : ∀ b o, b ≠ L → b ≠ cp → b ≠ P → h₁.get? b = some o → h'.get? b = some o
  tab : ∃ ps, h'.get? P = some (tabObj ps) ∧ TriplesOk ps.toList
section
variable {prog : Program} {w : World} {A : Around} {h₀ h : Heap} {g : Array GenState} {d : Drawn} {t : Nat} {os : OsState} {env : Env} {Q : Flow → Shared → Prop} {E : Value → Shared → Prop}
theorem stream_body {c P cp ct bm : Addr} {ob : Obj} {text : Str} {t1 : Tok} {v0 : Option Value} {mm mg : Str → Option Value} (hsc : env.scope = scopeOf (stAt 13)) (hge : env.globals = mainGlobals) (hcode : env.code = .ref c)
    (hcp : env.cells.lookup ("place" : Str) = some cp) (hct : env.cells.lookup ("text" : Str) = some ct) (hns : h.Ns env.locals mm) (ip : h.IsCell cp v0) (it : h.IsCell ct (some (.str text t1)))
    (C : CodeHd h₀ c P) (B : BMod h₀ mainGlobals mg bm ob) (hP : h.get? P = some (tabObj #[])) (hb : ∀ b o, h₀.get? b = some o → h.get? b = some o ∧ b ≠ env.locals ∧ b ≠ cp ∧ b ≠ P)
    (n1 : env.locals ≠ P) (n2 : cp ≠ P) (n3 : ct ≠ P) (n4 : cp ≠ ct) (n5 : cp ≠ env.locals) (n6 : ct ≠ env.locals)
    (hQ : ∀ h' t' a S, Made h text env.locals cp ct P a S h' → Q (.ret (.ref S)) ⟨h', g, d, t', os⟩) :
    wpAny (model prog w) A (execs (bodyOf (stAt 13)) env) Q E ⟨h, g, d, t, os⟩ := by
  have hk : env.scope.kind = .function := by rw [hsc]; rfl
  have k1 : env.kindOf "place" = some .cell := by unfold Env.kindOf; rw [hsc]; rfl
  have k2 : env.kindOf "read" = some .local := by unfold Env.kindOf; rw [hsc]; rfl
  have k3 : env.kindOf "stream" = some .local := by unfold Env.kindOf; rw [hsc]; rfl
  have hgl : h.Ns mainGlobals mg := B.ns.keeps fun b o e => (hb b o e).1
  refine el_eeea (id B.ns) fun og _ _ eg _ => ?_
  have hgP : mainGlobals ≠ P := (hb _ _ eg).2.2.2
  have bmG : bm ≠ mainGlobals := fun q => by
    refine el_eeeaa (B.ns) fun o es ep e hd _ => ?_
    have hh := B.obj; have hd' := B.data
    rw [q, e] at hh; cases hh; rw [hd] at hd'; cases hd'
  have bA : ∀ {h' : Heap}, (∀ b o, h₀.get? b = some o → h'.get? b = some o) → h'.BuiltinsAt mg P := fun k => ⟨bm, ob, B.name, B.ne, bmG, (hb _ _ B.obj).2.2.2, k _ _ B.obj, B.cls, B.dict, B.data⟩
  refine wpAny_execs_cons (wpAny_Assign_Name (wpAny_List_spliced ?_) rfl)
  refine Calls.spliced_cons ?_
  refine wpAny_Constant_int (pos := ⟨77, 13, 77, 14⟩) (k := 0) ?_
  refine Calls.spliced_nil ⟨by show 1 ≤ _; rw [sizeLine_eq]; lia, ?_⟩
  have ip1 : (h.push { cls := .type "list", data := .seq #[.int 0 t] }).IsCell cp v0 := isCell_at ip fun o e => Heap.get?_push_of_some _ e
  refine wpAny_storeName_cell hk k1 hcp ip1 fun h2 hv2 hs2 => ?_
  have old2 : ∀ b o, b ≠ cp → h.get? b = some o → h2.get? b = some o := fun b o hb e => (hs2.2 b hb).trans (Heap.get?_push_of_some _ e)
  have sz2 : h2.objs.size = h.objs.size + 1 := hs2.1.trans (by rw [Heap.size_push])
  have base2 : ∀ b o, h₀.get? b = some o → h2.get? b = some o := fun b o e => old2 b o (hb b o e).2.2.1 (hb b o e).1
  have acp : h.objs.size ≠ cp := fun q => by refine el_ea (ip) fun o e _ => ?_; try clear ip; exact absurd (Heap.lt_size e) (by rw [← q]; exact Nat.lt_irrefl _)
  have list2 : h2.IsList h.objs.size #[.int 0 t] := (in_eaae _ ((hs2.2 _ acp).trans (Heap.get?_push_size _ rfl)) rfl 0 rfl)
  have hP2 : h2.get? P = some (tabObj #[]) := old2 _ _ n2.symm hP
  have ns2 : h2.Ns env.locals mm := hns.at' fun o e => old2 _ o n5.symm e
  have it2 : h2.IsCell ct (some (.str text t1)) := isCell_at it fun o e => old2 _ o n4.symm e
  have ltL : env.locals < h.objs.size := by refine el_eeea (hns) fun o _ _ e _ => ?_; try clear hns; exact Heap.lt_size e
  have ltP : P < h.objs.size := Heap.lt_size hP
  have ltcp : cp < h.objs.size := by refine el_ea (ip) fun o e _ => ?_; try clear ip; exact Heap.lt_size e
  have ltct : ct < h.objs.size := by refine el_ea (it) fun o e _ => ?_; try clear it; exact Heap.lt_size e
  refine wpAny_execs_cons (nestDef_K rfl rfl rfl ?_)
  refine makeFunction_K (mg := mg) (closure_ok (scope := scopeOf readDef) (env := env) ?_) hge (B.ns.keeps base2) hcode (C.keeps base2) hP2 trivial rfl hgP (bA base2) fun c' ctv doc h3 tk3 hx3 hge3 hlt3 hrec3 hP3 => ?_
  · intro y hy
    have : y = "place" ∨ y = "text" := by
      simp only [readDef, scopeOf, bodyOf, stAt] at hy
      revert hy
      intro hy
      rcases List.mem_cons.mp hy with q | hy
      · cases q
      · rcases List.mem_cons.mp hy with q | hy
        · cases q; exact .inl rfl
        · rcases List.mem_cons.mp hy with q | hy
          · cases q; exact .inr rfl
          · cases hy
    rcases this with rfl | rfl
    · exact ⟨cp, hcp⟩
    · exact ⟨ct, hct⟩
  have hge3' : h.objs.size + 1 ≤ c' := Nat.le_trans (Nat.le_of_eq sz2.symm) hge3
  have big : ∀ b : Nat, b < h.objs.size → ∀ x : Nat, h.objs.size ≤ x → b ≠ x := fun b hb x hx q => by lia
  have old3 : ∀ b o, b ≠ P → h2.get? b = some o → h3.get? b = some o := fun b o hb e => hx3 b o hb e
  -- the name read
  have ns4 : (h3.push (fnMade "read" (qualnameIn env "read" "read") readPars (bodyOf readDef) (scopeOf readDef) (closL env (scopeOf readDef).names []) doc ((mg "__name__").getD .none) c' ctv)).Ns env.locals mm := ns2.at' fun o e => Heap.get?_push_of_some _ (old3 _ o n1 e)
  refine wpAny_storeName_local k2 ns4 (fun h5 hn5 hs5 => ?_) (by rw [hk]; rfl)
  obtain ⟨fo, hfo⟩ : ∃ fo, fo = fnMade "read" (qualnameIn env "read" "read") readPars (bodyOf readDef) (scopeOf readDef) (closL env (scopeOf readDef).names []) doc ((mg "__name__").getD .none) c' ctv := ⟨_, rfl⟩
  have hs5 : Heap.SameBut env.locals (h3.push fo) h5 := by rw [hfo]; exact hs5
  have old5 : ∀ b o, b ≠ env.locals → b ≠ P → h2.get? b = some o → h5.get? b = some o := fun b o hb hb' e => (hs5.2 b hb).trans (Heap.get?_push_of_some _ (old3 b o hb' e))
  have base5 : ∀ b o, h₀.get? b = some o → h5.get? b = some o := fun b o e => old5 b o (hb b o e).2.1 (hb b o e).2.2.2 (base2 b o e)
  have sz5 : h5.objs.size = h3.objs.size + 1 := hs5.1.trans (by rw [Heap.size_push])
  have hP5 : h5.get? P = some (tabObj (#[] ++ #[rawInt 79, rawInt 4, .ref c'])) := (hs5.2 P n1.symm).trans (Heap.get?_push_of_some _ hP3)
  have hff : fo.isFreed = false := by rw [hfo]; rfl
  have hRf5 : h5.get? h3.objs.size = some fo := (hs5.2 _ (big _ ltL _ (by lia)).symm).trans (Heap.get?_push_size _ hff)
  refine el_eeeeaaa (hrec3) fun c₂ oc vs tq e2 hoc3 hdc hvq => ?_; try clear hrec3
  cases e2
  have hoc5 : h5.get? c' = some oc := (hs5.2 _ (big _ ltL _ (by lia)).symm).trans (Heap.get?_push_of_some _ hoc3)
  have ip2 : h2.IsCell cp (some (.ref h.objs.size)) := hv2
  have up : ∀ b o, b ≠ env.locals → b ≠ cp → b ≠ P → h.get? b = some o → h5.get? b = some o := fun b o q1 q2 q3 e => old5 b o q1 q3 (old2 b o q2 e)
  have list5 := list2.at fun o e => old5 _ o (big _ ltL _ (Nat.le_refl _)).symm (big _ ltP _ (Nat.le_refl _)).symm e
  have ip5 : h5.IsCell cp (some (.ref h.objs.size)) := isCell_at ip2 fun o e => old5 _ o n5 n2 e
  have it5 : h5.IsCell ct (some (.str text t1)) := isCell_at it2 fun o e => old5 _ o n6 n3 e
  -- stream = lambda: None
  refine wpAny_execs_cons (wpAny_Assign_Name (kla_eval rfl ?_) rfl)
  refine kla_makeFunction (mg := mg) (clos := []) rfl hge (B.ns.keeps base5) hcode (C.keeps base5) hP5 (by simp [TriplesOk, rawInt]) (by simp [codeAmong, rawInt]) hgP (bA base5) fun c₆ ctv₆ h6 tk6 hx6 hge6 hlt6 hrec6 hP6 => ?_
  have s3 : h.objs.size + 1 < h3.objs.size := by
    have q1 : c' < h3.objs.size := hlt3
    lia
  have s6 : h3.objs.size + 1 < h6.objs.size := by
    have q1 : h5.objs.size ≤ c₆ := hge6
    have q2 : c₆ < h6.objs.size := hlt6
    lia
  have old6 : ∀ b o, b ≠ P → h5.get? b = some o → h6.get? b = some o := fun b o hb e => hx6 b o hb e
  obtain ⟨lo, hlo⟩ : ∃ lo, lo = kla_obj "<lambda>" (env.qual ++ "<lambda>") ⟨[], [], none, [], [], none, []⟩ (.Constant .none 0 ⟨82, 21, 82, 25⟩) { kind := .function, names := [], isGenerator := false, isCoroutine := false, more := [] } [] ((mg "__name__").getD .none) c₆ ctv₆ := ⟨_, rfl⟩
  have hlc : lo.cls = .type "function" := by rw [hlo]
  have hld : lo.dict = none := by rw [hlo]
  have hln : ∀ c, lo.data ≠ .cls c := by rw [hlo]; intro c q; cases q
  have hlf : lo.isFreed = false := by rw [hlo]; rfl
  have ns7 : (h6.push lo).Ns env.locals _ := hn5.at' fun o e => Heap.get?_push_of_some _ (old6 _ o n1 e)
  rw [hlo] at ns7
  refine wpAny_storeName_local k3 ns7 (fun h8 hn8 hs8 => ?_) (by rw [hk]; rfl)
  have hs8 : Heap.SameBut env.locals (h6.push lo) h8 := by rw [hlo]; exact hs8
  have old8 : ∀ b o, b ≠ env.locals → b ≠ P → h5.get? b = some o → h8.get? b = some o := fun b o hb hb' e => (hs8.2 b hb).trans (Heap.get?_push_of_some _ (old6 b o hb' e))
  have sz8 : h8.objs.size = h6.objs.size + 1 := hs8.1.trans (by rw [Heap.size_push])
  have hS8 : h8.get? h6.objs.size = some lo := (hs8.2 _ (big _ ltL _ (by lia)).symm).trans (Heap.get?_push_size _ hlf)
  have hP8 : h8.get? P = _ := (hs8.2 P n1.symm).trans (Heap.get?_push_of_some _ hP6)
  -- stream.read = read
  refine wpAny_execs_cons (plainObj_wpAny_Assign_Attribute ?_ rfl)
  refine wpAny_Name (wpAny_loadName_local hk k2 hn8 (v := .ref h3.objs.size) rfl ?_) (by decide)
  refine wpAny_Name (wpAny_loadName_local hk k3 hn8 (v := .ref h6.objs.size) rfl ?_) (by decide)
  refine set_fn hS8 hlc hln hld fn_read fun h9 tk9 hS9 hd9 hk9 => ?_
  have hn9 : h9.Ns env.locals _ := hn8.at' fun o e => hk9 _ o (big _ ltL _ (by lia)) e
  refine wpAny_execs_cons (wpAny_Return_some (wpAny_Name (wpAny_loadName_local hk k3 hn9 (v := .ref h6.objs.size) rfl ?_) (by decide)))
  have old9 : ∀ b o, b ≠ env.locals → b ≠ P → b < h6.objs.size → h5.get? b = some o → h9.get? b = some o := fun b o q1 q2 q3 e => hk9 b o (fun z => by rw [z] at q3; exact Nat.lt_irrefl _ q3) (old8 b o q1 q2 e)
  have mv9 : ∀ b o, b ≠ env.locals → b ≠ P → h5.get? b = some o → h9.get? b = some o := fun b o q1 q2 e => old9 b o q1 q2 (Nat.lt_of_lt_of_le (Heap.lt_size e) (by lia)) e
  refine hQ h9 _ h.objs.size h6.objs.size ⟨⟨t, list5.at fun o e => mv9 _ o (big _ ltL _ (Nat.le_refl _)).symm (big _ ltP _ (Nat.le_refl _)).symm e⟩, Nat.le_refl _, ⟨_, hS9, hlc, hln, h8.objs.size, _, h3.objs.size, fo, _, c', oc, vs, tq, t1, rfl, ?_, hd9.ns, rfl,
    mv9 _ _ (big _ ltL _ (by lia)).symm (big _ ltP _ (by lia)).symm hRf5, by rw [hfo], ⟨rfl, rfl, rfl, rfl, ?_, ?_, ?_⟩, rfl, mv9 _ _ (big _ ltL _ (by lia)).symm (big _ ltP _ (by lia)).symm hoc5, hdc, hvq,
    isCell_at it5 fun o e => mv9 _ o n6 n3 e, isCell_at ip5 fun o e => mv9 _ o n5 n2 e, ?_, ?_, ?_⟩, fun b o q1 q2 q3 e => mv9 b o q1 q3 (up b o q1 q2 q3 e), ⟨_, hk9 P _ (big _ ltP _ (by lia)) hP8, ?_⟩⟩
  · exact Nat.lt_of_lt_of_eq (Nat.lt_succ_self _) sz8.symm
  · show (closL env (scopeOf readDef).names []).lookup ("place" : Str) = some cp
    exact closL_lookup (.tail _ (.head _)) hcp
  · show (closL env (scopeOf readDef).names []).lookup ("text" : Str) = some ct
    exact closL_lookup (.tail _ (.tail _ (.head _))) hct
  · intro u
    rfl
  · exact Nat.lt_of_lt_of_le (Nat.lt_succ_self _) hge3'
  · exact hlt3
  · exact Nat.lt_of_lt_of_le (Nat.lt_succ_self _) (Nat.le_of_lt s6)
  · simp [TriplesOk, rawInt]
end
end Mine
end
section
namespace Mine
set_option maxRecDepth 10000
/-- a table of inner codes that is still empty -/
noncomputable def tabE (i : Nat) (P : Addr) : OP where
  bd := i + 1
  P := fun l _ _ o => l i = some P ∧ o = tabObj #[]
  mono := fun hl _ zf10 => el_a zf10 fun h1 h2 => ⟨hl _ _ (Nat.lt_succ_self _) h1, h2⟩
section
variable {prog : Program} {w : World} {h₀ : Heap} {fs as as' as'' ow : List Addr} {σ σ' σ'' : List MO} {s s' s'' : Shared} {k n : Nat} {sc : Scope} {m : List (Str × Vl)} {K : Vl → List MO → Prop} {gl : Str → Option Value}
  {env : Env} {A : Around}
/-- new objects, and one has changed -/
theorem Rel.newsE {ns : List Addr} {xs : List MO} {i₀ : Nat} {a₀ : Addr} {x₀ : MO} (R : Rel prog w h₀ fs as σ s) (ha₀ : as[i₀]? = some a₀) (hl : ns.length = xs.length) (hnd : ns.Nodup) (hfr : ∀ a ∈ ns, s.heap.get? a = none)
    (hk : ∀ b o, b ≠ a₀ → s.heap.get? b = some o → s'.heap.get? b = some o)
    (ht₀ : ∃ o, s'.heap.get? a₀ = some o) (hx₀ : MOk prog w fs (as ++ ns) s'.heap a₀ x₀)
    (hth : ∀ a ∈ ns, ∃ o, s'.heap.get? a = some o) (hmo : ∀ (j : Nat) a x, ns[j]? = some a → xs[j]? = some x → MOk prog w fs (as ++ ns) s'.heap a x) (hg : AllBare s'.gens) (hbd : ∀ y ∈ σ, y.bd ≤ σ.length) :
    Rel prog w h₀ fs (as ++ ns) (σ.set i₀ x₀ ++ xs) s' := by
  have ne₀ : ∀ b, b ∉ as ++ fs → b ≠ a₀ := fun b hb q => hb (q ▸ List.mem_append_left _ (List.mem_of_getElem? ha₀))
  have mv : ∀ b o', b ∉ as ++ fs → s.heap.get? b = some o' → s'.heap.get? b = some o' ∧ b ∉ (as ++ ns) ++ fs := fun b o' hb e => ⟨hk b o' (ne₀ b hb) e, fun q => by
    rw [List.append_assoc] at q
    rcases List.mem_append.mp q with q | q
    · exact hb (List.mem_append_left _ q)
    · rcases List.mem_append.mp q with q | q
      · rw [hfr b q] at e; cases e
      · exact hb (List.mem_append_right _ q)⟩
  have hout : ∀ a ∈ ns, a ∉ as ++ fs := fun a ha q => by
    obtain ⟨o, e⟩ := R.there a q
    rw [hfr a ha] at e; cases e
  have th : ∀ a, a ∈ as ++ fs → ∃ o, s'.heap.get? a = some o := fun a ha => by
    by_cases q : a = a₀
    · subst q; exact ht₀
    · obtain ⟨o, e⟩ := R.there a ha; exact ⟨o, hk a o q e⟩
  refine ⟨fun b o' e => mv b o' (R.base b o' e).2 (R.base b o' e).1, by simp [R.len, hl], ?_, fun a ha => ?_, fun i a y ha hy => ?_, hg⟩
  · have hn := R.nd
    rw [List.nodup_append] at hn ⊢
    refine ⟨List.nodup_append.mpr ⟨hn.1, hnd, fun a ha b hb e => ?_⟩, hn.2.1, fun a ha b hb e => ?_⟩
    · subst e; exact hout a hb (List.mem_append_left _ ha)
    · rcases List.mem_append.mp ha with q | q
      · exact hn.2.2 a q b hb e
      · subst e; exact hout a q (List.mem_append_right _ hb)
  · rw [List.append_assoc] at ha
    rcases List.mem_append.mp ha with h | h
    · exact th a (List.mem_append_left _ h)
    · rcases List.mem_append.mp h with h | h
      · exact hth a h
      · exact th a (List.mem_append_right _ h)
  · by_cases hi : i < as.length
    · rw [List.getElem?_append_left hi] at ha
      rw [List.getElem?_append_left (by rw [List.length_set, ← R.len]; exact hi)] at hy
      by_cases q : i₀ = i
      · subst q
        rw [ha₀] at ha; cases ha
        rw [List.getElem?_set_self (by rw [← R.len]; exact hi)] at hy; cases hy
        exact hx₀
      · rw [List.getElem?_set_ne q] at hy
        have hne : a ≠ a₀ := fun z => q (R.inj ha₀ (z ▸ ha))
        exact (R.mo i a y ha hy).move (fun j b hj e => by
          have : j < as.length := (List.getElem?_eq_some_iff.mp e).1
          rw [List.getElem?_append_left this]; exact e) mv fun o' e => hk a o' hne e
    · have hi' : as.length ≤ i := Nat.le_of_not_lt hi
      rw [List.getElem?_append_right hi'] at ha
      rw [List.getElem?_append_right (by rw [List.length_set, ← R.len]; exact hi'), List.length_set, ← R.len] at hy
      exact hmo _ a y ha hy
theorem Stp.newsE {ns : List Addr} {i₀ : Nat} {a₀ : Addr} (ha₀ : as[i₀]? = some a₀) (hfr : ∀ a ∈ ns, s.heap.get? a = none) (hk : ∀ b o, b ≠ a₀ → s.heap.get? b = some o → s'.heap.get? b = some o) (ht₀ : ∃ o, s'.heap.get? a₀ = some o) (ho : s'.os = s.os) : Stp ow as.length as s (as ++ ns) s' :=
  ⟨fun i a hi e => by rw [List.getElem?_append_left hi]; exact e, fun a ha hn => by
    rcases List.mem_append.mp ha with q | q
    · exact absurd q hn
    · exact hfr a q, fun b o' h1 _ e => hk b o' (fun q => h1 (q ▸ List.mem_of_getElem? ha₀)) e, fun b o' e => by
      by_cases q : b = a₀
      · subst q; exact ht₀
      · exact ⟨o', hk b o' q e⟩, ho⟩
theorem law_stream {f : Addr} {i P bm : Nat} {mg : Str → Option Value} {ob : Obj} {text : Str} (G : Glb h₀ gl) (X : FnIs h₀ f (stAt 13) ["text"]) (T : IsTab h₀ 117 P) (B : BMod h₀ mainGlobals mg bm ob) (hi : σ[i]? = some (.obj (tabE i P))) (hbd : ∀ y ∈ σ, y.bd ≤ σ.length)
    (h : K (.m (σ.length + 1)) (σ.set i (.obj (tabOP i P)) ++ [.obj (placeOP 0), .obj (streamOP text σ.length)])) : WO prog w h₀ (n + 1) [.d (.str text)] (fun us => call (.ref f) us) σ K := by
  intro A fs as s us hA R V
  apply VRs.one V; intro _ V₁
  obtain ⟨t1, rfl⟩ := V₁.str_inv
  refine el_eeaaaaaaaaaa (X.ex) fun of fd hb _ hd hcd hbody hsc hglob hblt hclo hbind hcode => ?_
  have kp : ∀ b o, h₀.get? b = some o → s.heap.get? b = some o := fun b o e => (R.base b o e).1
  obtain ⟨P', haP, e1⟩ : ∃ P', as[i]? = some P' ∧ P' = P ∧ s.heap.get? P = some (tabObj #[]) := by
    obtain ⟨P', hP'⟩ := R.get hi
    refine el_eaa (R.mo i P' _ hP' hi) fun o ho q1 q2 => ?_
    have q1' : as[i]? = some P := q1
    rw [hP'] at q1'; cases q1'
    exact ⟨_, hP', rfl, q2 ▸ ho⟩
  obtain ⟨rfl, hP⟩ := e1
  have hk : fd.scope.kind = .function := by rw [hsc]; rfl
  refine wpAny_call (codeAny_call_cells (binds := [(("text" : Str), .str text t1)]) (by have := hA.depth; lia -abstractProof) (kp _ _ hb) hd (G.lim.keeps kp) (hcd.keeps kp) hbody (hbind _ rfl) hclo (fun x hx => ?_) (fun s₁ X₁ => ?_) (by rw [hsc]; rfl) (by rw [hsc]; rfl) hk)
  · rw [List.mem_singleton.mp hx, hsc]; exact .inr ⟨rfl, rfl⟩
  · refine el_eea (X₁.done) fun h₁ tk zq2 hk₁ => ?_; subst zq2
    have hge : ∀ b, s.heap.objs.size ≤ b → s.heap.get? b = none := fun b hb => by
      cases q : s.heap.get? b with
      | none => rfl
      | some o => exact absurd (Heap.lt_size q) (Nat.not_lt_of_le hb)
    have hcells : (callEnvC fd s.heap.objs.size f).cells = [(("place" : Str), s.heap.objs.size + 1 + 1), (("text" : Str), s.heap.objs.size + 1)] := by
      show cellsFrom (s.heap.objs.size + 1) fd.scope.names [] = _
      rw [hsc]; rfl
    have ip := X₁.cell ("place" : Str) (s.heap.objs.size + 1 + 1) (by rw [hcells]; rfl)
    have it : h₁.IsCell (s.heap.objs.size + 1) (some (.str text t1)) := by
      have := X₁.cell ("text" : Str) (s.heap.objs.size + 1) (by rw [hcells]; rfl)
      rw [bindC_in (y := ("text" : Str)) (v := .str text t1) (by show fd.scope.names.lookup ("text" : Str) ≠ _; rw [hsc]; decide) (by simp) rfl] at this
      exact this
    have hns := X₁.toInCall.ns
    have hloc : (callEnvC fd s.heap.objs.size f).locals = s.heap.objs.size := rfl
    have ltP : P' < s.heap.objs.size := Heap.lt_size hP
    have big : ∀ b : Nat, b < s.heap.objs.size → ∀ x : Nat, s.heap.objs.size ≤ x → b ≠ x := fun b hb x hx q => by lia -abstractProof
    have lt₁ : s.heap.objs.size + 1 + 1 < h₁.objs.size := ip.lt
    refine stream_body (h₀ := h₀) (P := P') (c := 117) (cp := s.heap.objs.size + 1 + 1) (ct := s.heap.objs.size + 1) (t1 := t1) hsc hglob (hcode 117 (by rw [hsc]; rfl)) (by rw [hcells]; rfl) (by rw [hcells]; rfl) hns ip it T.ex B (hk₁ _ _ hP) (fun b o e => ?_)
      (fun q => Nat.ne_of_gt ltP q) (fun q => big _ ltP _ (by lia -abstractProof) q.symm) (fun q => big _ ltP _ (by lia -abstractProof) q.symm) (fun q => absurd (show s.heap.objs.size + 1 + 1 = s.heap.objs.size + 1 from q) (by lia -abstractProof)) (fun q => absurd (show s.heap.objs.size + 1 + 1 = s.heap.objs.size from q) (by lia -abstractProof))
      (fun q => absurd (show s.heap.objs.size + 1 = s.heap.objs.size from q) (by lia -abstractProof)) fun h' t' a S M => ?_
    · have e' := kp b o e
      have lb : b < s.heap.objs.size := Heap.lt_size e'
      refine ⟨hk₁ _ _ e', big b lb _ (Nat.le_refl _), big b lb _ (by lia -abstractProof), fun q => (R.base b o e).2 (q ▸ List.mem_append_left _ (List.mem_of_getElem? haP))⟩
    · obtain ⟨o, hS, m1, m2, dS, mA, Rf, oR, fdR, c, oc, vs, tq, t2, m3, m4, m5, m6, m7, m8, m9, m10, m11, m12, m13, m14, m15, l1, l2, l3⟩ := M.cls
      refine el_eeaae (M.list) fun tl ol hol hcl kl hdl => ?_
      refine el_ea (M.tab) fun ps hP' hps => ?_
      have fa : h₁.objs.size ≤ a := M.fa
      have ga : s.heap.objs.size ≤ a := Nat.le_trans (by lia -abstractProof) fa
      have gc : s.heap.objs.size ≤ c := Nat.le_trans ga (Nat.le_of_lt l1)
      have gR : s.heap.objs.size ≤ Rf := Nat.le_trans gc (Nat.le_of_lt l2)
      have gS : s.heap.objs.size ≤ S := Nat.le_trans gR (Nat.le_of_lt l3)
      have gD : s.heap.objs.size ≤ dS := Nat.le_trans gS (Nat.le_of_lt m4)
      have aS : a < S := Nat.lt_trans (Nat.lt_trans l1 l2) l3
      have hfr : ∀ x ∈ [a, S], s.heap.get? x = none := fun x hx => by
        rcases List.mem_cons.mp hx with q | hx
        · rw [q]; exact hge _ ga
        · rw [List.mem_singleton.mp hx]; exact hge _ gS
      have out : ∀ x : Addr, s.heap.objs.size ≤ x → x ≠ a → x ≠ S → x ∉ (as ++ [a, S]) ++ fs := fun x hx q1 q2 q => by
        have hx' : x ∉ as ++ fs := fun z => by
          obtain ⟨o, e⟩ := R.there x z
          rw [hge x hx] at e; cases e
        rcases List.mem_append.mp q with q | q
        · rcases List.mem_append.mp q with q | q
          · exact hx' (List.mem_append_left _ q)
          · rcases List.mem_cons.mp q with q | q
            · exact q1 q
            · exact q2 (List.mem_singleton.mp q)
        · exact hx' (List.mem_append_right _ q)
      have hkk : ∀ b o, b ≠ P' → s.heap.get? b = some o → h'.get? b = some o := fun b o hb e => by
        have lb : b < s.heap.objs.size := Heap.lt_size e
        exact M.kept b o (fun q => big b lb _ (Nat.le_refl _) q) (fun q => big b lb _ (by lia -abstractProof) q) hb (hk₁ b o e)
      have ia : (as ++ [a, S])[σ.length]? = some a := by
        rw [← R.len, List.getElem?_append_right (Nat.le_refl _)]; simp
      have iS : (as ++ [a, S])[σ.length + 1]? = some S := by
        rw [← R.len, List.getElem?_append_right (Nat.le_succ _)]; simp
      have iP : (as ++ [a, S])[i]? = some P' := by
        rw [List.getElem?_append_left (List.getElem?_eq_some_iff.mp haP).1]; exact haP
      refine ⟨.m (σ.length + 1), as ++ [a, S], _, Stp.newsE (s' := { s with heap := h', toks := t' }) haP hfr hkk ⟨_, hP'⟩ rfl,
        R.newsE (s' := { s with heap := h', toks := t' }) (xs := [.obj (placeOP 0), .obj (streamOP text σ.length)]) (x₀ := .obj (tabOP i P')) haP rfl (by simp; exact Nat.ne_of_lt aS) hfr hkk ⟨_, hP'⟩ (in_eaaea _ hP' iP ps rfl hps) (fun x hx => ?_) (fun j x y hx hy => ?_) R.bare hbd, ⟨S, iS, rfl⟩, h⟩
      · rcases List.mem_cons.mp hx with q | hx
        · rw [q]; exact ⟨_, hol⟩
        · rw [List.mem_singleton.mp hx]; exact ⟨_, hS⟩
      · match j, hx, hy with
        | 0, hx, hy =>
          simp at hx hy
          subst hx; subst hy
          exact (⟨ol, hol, hcl, in_ee tl kl hdl⟩)
        | 1, hx, hy =>
          simp at hx hy
          subst hx; subst hy
          have oD := out _ gD (Nat.ne_of_gt (Nat.lt_trans aS m4)) (Nat.ne_of_gt m4)
          have oRf := out _ gR (Nat.ne_of_gt (Nat.lt_trans l1 l2)) (Nat.ne_of_lt l3)
          have oC := out _ gc (Nat.ne_of_gt l1) (Nat.ne_of_lt (Nat.lt_trans l2 l3))
          have lcp : s.heap.objs.size + 1 + 1 < a := Nat.lt_of_lt_of_le lt₁ fa
          have lct : s.heap.objs.size + 1 < a := Nat.lt_trans (Nat.lt_succ_self _) lcp
          have oCp := out (s.heap.objs.size + 1 + 1) (Nat.le_succ_of_le (Nat.le_succ _)) (Nat.ne_of_lt lcp) (Nat.ne_of_lt (Nat.lt_trans lcp aS))
          have oCt := out (s.heap.objs.size + 1) (Nat.le_succ _) (Nat.ne_of_lt lct) (Nat.ne_of_lt (Nat.lt_trans lct aS))
          exact ⟨o, hS, ⟨m1, m2, dS, mA, Rf, oR, fdR, _, _, t2, a, c, oc, vs, tq, m3, oD, m5, m6, oRf, m7, m8, m9, m10, oC, m11, m12, m13, oCp, oCt, m14, ia, m15⟩⟩
        | j + 2, hx, hy => simp at hx
end
end Mine
end
section
namespace Mine
set_option maxRecDepth 10000
theorem lookup_snoc {l : List (Str × Vl)} {name x : Str} {v : Vl} (hn : l.lookup name = none) : (l ++ [(name, v)]).lookup x = if x = name then some v else l.lookup x := by
  rw [List.lookup_append]
  by_cases q : x = name
  · subst q; rw [hn]; simp
  · rw [if_neg q]
    have : List.lookup x [(name, v)] = none := by rw [lookup_cons_eq, if_neg q]; rfl
    rw [this]; cases l.lookup x <;> rfl
section
variable {prog : Program} {w : World} {h₀ : Heap} {σ : List MO} {n k : Nat} {sc : Scope} {m : List (Str × Vl)} {K : Vl → List MO → Prop} {gl : Str → Option Value}
  {Ks : Fl → List (Str × Vl) → List MO → Prop} {C N : Addr} {mN : Str → Option Value} {fI fR fG fP : Addr} {t0 t1 : MO} {text : Str} {p ln : Int}
theorem WE.callCls (X : ClsAt h₀ C N mN) {x : Str} {p pos : Pos} {e : Expr} {es : List Expr}
    (h : WE prog w h₀ n sc m (.Name x p) σ fun v σ₁ => v = .g (.ref C) ∧ WEs prog w h₀ n sc m (e :: es) σ₁ fun vs σ₂ => WO prog w h₀ n vs (fun us => call (.ref C) us) σ₂ K)
    (he : ∀ env, starEach (e :: es) env = (false, eval e env) :: starEach es env := by intro _; rfl) (hp : ∀ env, (backTo pos (starEach es env)).any (·.1) = false := by intro _; rfl) :
    WE prog w h₀ n sc m (.Call (.Name x p) (e :: es) [] pos) σ K := by
  intro A env fs as s hA hE R F
  refine Call_Name rfl (wpAny_mono (h A env fs as s hA hE R F) (fun u s₁ zf21 => ?_) fun _ _ x => x)
  apply PostE.elg zf21; intro a₁ σ₁ st R₁ k
  refine callWith_cls X (wpAny_mono (k A env fs a₁ s₁ pos hA hE R₁ (F.stepE R.nd st)) (fun us s₂ zf25 => PostEs.el zf25 fun vs a₂ σ₂ st₂ R₂ V₂ k₂ => ⟨fun b o e => (R₂.base b o e).1, ?_⟩) fun _ _ x => x) (he env) (hp env)
  · exact wpAny_mono (k₂ A fs a₂ s₂ us hA R₂ V₂) (fun _ _ p => (p.step st₂).step st) fun _ _ x => x
/-- __init__ -/
theorem init (G : Glb h₀ gl) (X : LexCls h₀ gl C N mN fI fR fG fP) (h0 : t0.bd ≤ 2) (h1 : t1.bd ≤ 2) (h : K (.d .none) (lexσ C t0 t1 text p 1 [] [])) :
    WO prog w h₀ (n + 1) [.m 5, .m 3] (fun us => call (.ref fI) us) [t0, t1, .obj (placeOP p), .obj (streamOP text 2), .obj (attrOP 0 []), .obj (instOP C 4)] K := by
  refine (WOc.def G X.dI rfl rfl ?_).wo
  refine WS.cons (W1.setAttr (WE.int (WE.loc rfl rfl (WU.setA X.cls (ix := 5) (id := 4) (bd := 0) (bd' := 0) (at_ := []) (at' := [("lineno", .d (.int 1))]) ⟨rfl, rfl, by decide⟩ (.int _) (Nat.le_refl _) (fun x => lookup_snoc (l := []) rfl) (Nat.zero_le _) X.qt.sa X.n1 o_lineno ?_))))
  refine WS.cons (W1.setAttr (WE.loc rfl rfl (WE.loc rfl rfl (WU.setA X.cls (ix := 5) (id := 4) (bd := 0) (bd' := 4) (at_ := [("lineno", .d (.int 1))]) (at' := [("lineno", .d (.int 1)), ("instream", .m 3)]) ⟨rfl, rfl, by decide⟩ (.m (by decide)) (Nat.zero_le _) (fun x => lookup_snoc (l := [(("lineno" : Str), Vl.d (.int 1))]) rfl) (by decide) X.qt.sa X.n2 o_instream ?_))))
  refine WS.cons (W1.setAttr (WE.str (WE.loc rfl rfl (WU.setA X.cls (ix := 5) (id := 4) (bd := 4) (bd' := 4) (at_ := [("lineno", .d (.int 1)), ("instream", .m 3)]) (at' := [("lineno", .d (.int 1)), ("instream", .m 3), ("whitespace", .d (.str ws4))]) ⟨rfl, rfl, by decide⟩ (.str _) (Nat.le_refl _)
    (fun x => lookup_snoc (l := [(("lineno" : Str), Vl.d (.int 1)), ("instream", .m 3)]) rfl) (by decide) X.qt.sa X.n3 o_whitespace ?_))))
  refine WS.cons (W1.setAttr (WE.list0 (WE.loc rfl rfl (WU.setA X.cls (ix := 5) (id := 4) (bd := 4) (bd' := 7) (at_ := [("lineno", .d (.int 1)), ("instream", .m 3), ("whitespace", .d (.str ws4))]) (at' := lexAt 1) ⟨rfl, rfl, by decide⟩ (.m (show 6 < 7 by decide)) (by decide)
    (fun x => lookup_snoc (l := [(("lineno" : Str), Vl.d (.int 1)), ("instream", .m 3), ("whitespace", .d (.str ws4))]) rfl) (by decide) X.qt.sa X.n4 o_pushback ?_)) ?_))
  · exact WS.nil h
  · intro y hy
    have hl : ∀ z : Nat, z ≤ 6 → z ≤ ([t0, t1, MO.obj (placeOP p), MO.obj (streamOP text 2), MO.obj (attrOP 4 [("lineno", .d (.int 1)), ("instream", .m 3), ("whitespace", .d (.str ws4))]), MO.obj (instOP C 4)] : List MO).length := fun z hz => hz
    simp only [List.set, List.mem_cons, List.not_mem_nil, or_false] at hy
    rcases hy with rfl | rfl | rfl | rfl | rfl | rfl
    · exact Nat.le_trans h0 (show 2 ≤ 6 by decide)
    · exact Nat.le_trans h1 (show 2 ≤ 6 by decide)
    · exact Nat.zero_le _
    · show 3 ≤ 6; decide
    · show 4 ≤ 6; decide
    · show 5 ≤ 6; decide
end
end Mine
end
section
namespace Mine
/-! ### the urn, in plain numbers: a mail is 16 a + 4 b + c, all weights divided by the start -/
section
variable {ν : Type}
noncomputable def kget (l : List (Nat × ν)) (k : Nat) : Option ν := (l.find? fun p => decide (p.1 = k)).map (·.2)
noncomputable def kset (l : List (Nat × ν)) (k : Nat) (v : ν) : List (Nat × ν) :=
  if l.any (fun p => decide (p.1 = k)) then l.map (fun p => if p.1 = k then (p.1, v) else p) else l ++ [(k, v)]
end
structure EA where
  ways : Nat
  w : Nat
  last : Nat
  same : Nat
  fi : List (Nat × Nat × Nat)
noncomputable def EA.zero : EA := ⟨0, 0, 0, 0, []⟩
noncomputable def vk (v k : Nat) : Nat := if k = 0 then v / 16 else if k = 1 then v / 4 % 4 else v % 4
noncomputable def upk (k : Nat) : Nat := if k = 0 then 16 else if k = 1 then 4 else 1
/-- the dots at first -/
structure Dots where
  a : Nat
  b : Nat
  c : Nat
noncomputable def Dots.at (d : Dots) (k : Nat) : Nat := if k = 0 then d.a else if k = 1 then d.b else d.c
noncomputable def begunA (fi : List (Nat × Nat × Nat)) (w n k : Nat) : List (Nat × Nat × Nat) :=
  if fi.isEmpty then kset [] k (1, w * n) else fi.foldl (fun acc p => match kget fi p.1 with
    | some x => kset acc p.1 (x.1, x.2 * n)
    | none => acc) []
noncomputable def copyA (l : List (Nat × Nat × Nat)) : List (Nat × Nat × Nat) := l.foldl (fun a p => kset a p.1 p.2) []
noncomputable def mergeStepA (acc : List (Nat × Nat × Nat)) (p : Nat × Nat × Nat) : List (Nat × Nat × Nat) := match kget acc p.1 with
  | some x => kset acc p.1 (p.2.1 + x.1, p.2.2 + x.2)
  | none => kset acc p.1 p.2
noncomputable def mergeA (tgt src : List (Nat × Nat × Nat)) : List (Nat × Nat × Nat) := src.foldl mergeStepA (copyA tgt)
noncomputable def bothA (bg : List (Nat × Nat × Nat)) (k : Nat) : Nat := match kget bg k with
  | some x => x.2
  | none => 0
noncomputable def entryA (e : EA) (n k : Nat) : EA := ⟨e.ways, e.w * n, if k = 0 then e.w * n else 0, bothA (begunA e.fi e.w n k) k, begunA e.fi e.w n k⟩
noncomputable def addA (old new : EA) : EA := ⟨new.ways + old.ways, new.w + old.w, new.last + old.last, new.same + old.same, mergeA old.fi new.fi⟩
noncomputable abbrev StA := List (Nat × EA) × List Nat
noncomputable def turnA (d : Dots) (v : Nat) (e : EA) (k : Nat) (S : StA) : StA :=
  (kset S.1 (v + upk k) (addA ((kget S.1 (v + upk k)).getD EA.zero) (entryA e (d.at k + vk v k) k)), if (kget S.1 (v + upk k)).isSome then S.2 else S.2 ++ [v + upk k])
noncomputable def okA (S : StA) (v : Nat) : Bool := S.1.all (fun p => decide (p.1 < 64) && decide (p.2.fi.length ≤ 20) && p.2.fi.all (fun q => decide (q.1 < 3))) && decide (S.1.length ≤ 60) && decide (S.2.length ≤ 60) && decide (v / 16 ≤ 2) && decide (v / 4 % 4 ≤ 2) && decide (v % 4 ≤ 2)
noncomputable def stepA (d : Dots) (S : StA) : Option StA := match S.2 with
  | [] => none
  | v :: q => match kget S.1 v with
    | none => none
    | some e => if okA (S.1, q) v then some (turnA d v e 2 (turnA d v e 1 (turnA d v e 0 (S.1, q)))) else none
noncomputable def runA (d : Dots) : Nat → StA → Option StA
  | 0, S => some S
  | n + 1, S => match stepA d S with
    | some S' => runA d n S'
    | none => none
noncomputable def S₀ : StA := ([(0, ⟨1, 1, 0, 0, []⟩)], [0])
/-! what is due -/
noncomputable def factN : Nat → Nat
  | 0 => 1
  | 1 => 1
  | 2 => 2
  | _ => 6
noncomputable def riseN (d : Nat) : Nat → Nat
  | 0 => 1
  | n + 1 => riseN d n * (d + n)
noncomputable def waysN (a b c : Nat) : Nat := factN (a + b + c) / (factN a * factN b * factN c)
noncomputable def weightN (d : Dots) (a b c : Nat) : Nat := waysN a b c * riseN d.a a * riseN d.b b * riseN d.c c
noncomputable def sameN (w a b c : Nat) : Nat := if a + b + c < 2 then w * (a + b + c) else w * (a * (a - 1) + b * (b - 1) + c * (c - 1)) / ((a + b + c) * (a + b + c - 1))
noncomputable def firstN (ways w n k m : Nat) (l : List (Nat × Nat × Nat)) : List (Nat × Nat × Nat) := if 0 < m then kset l k (ways * m / n, w * m / n) else l
noncomputable def dueN (d : Dots) (a b c : Nat) : EA :=
  ⟨waysN a b c, weightN d a b c, weightN d a b c * a / max (a + b + c) 1, sameN (weightN d a b c) a b c,
   firstN (waysN a b c) (weightN d a b c) (a + b + c) 2 c (firstN (waysN a b c) (weightN d a b c) (a + b + c) 1 b (firstN (waysN a b c) (weightN d a b c) (a + b + c) 0 a []))⟩
/-- all divisions come out even -/
noncomputable def evenN (d : Dots) (a b c : Nat) : Bool :=
  decide (weightN d a b c * a % max (a + b + c) 1 = 0) && (decide (a + b + c < 2) || decide (weightN d a b c * (a * (a - 1) + b * (b - 1) + c * (c - 1)) % ((a + b + c) * (a + b + c - 1)) = 0)) &&
  (decide (a = 0) || decide (weightN d a b c * a % (a + b + c) = 0)) && (decide (b = 0) || decide (weightN d a b c * b % (a + b + c) = 0)) && (decide (c = 0) || decide (weightN d a b c * c % (a + b + c) = 0))
structure StD where
  due : List (Nat × EA)
  line : List Nat
  wts : List (Nat × Nat)
noncomputable def code3 (a b c : Nat) : Nat := 16 * a + 4 * b + c
noncomputable def dueTurn (d : Dots) (draws : Nat) (book : List (Nat × EA)) (a b c : Nat) (S : StD) : StD :=
  if a + b + c = draws then ⟨kset S.due (code3 a b c) (dueN d a b c), S.line ++ [code3 a b c], kset S.wts (code3 a b c) ((kget book (code3 a b c)).getD EA.zero).w⟩
  else ⟨kset S.due (code3 a b c) (dueN d a b c), S.line, S.wts⟩
noncomputable def dueC (d : Dots) (draws : Nat) (book : List (Nat × EA)) (a b : Nat) : Nat → StD → StD
  | 0, S => dueTurn d draws book a b 0 S
  | c + 1, S => dueC d draws book a b c (dueTurn d draws book a b (c + 1) S)
noncomputable def dueB (d : Dots) (draws : Nat) (book : List (Nat × EA)) (a : Nat) : Nat → StD → StD
  | 0, S => dueC d draws book a 0 (draws - a - 0) S
  | b + 1, S => dueB d draws book a b (dueC d draws book a (b + 1) (draws - a - (b + 1)) S)
noncomputable def dueA (d : Dots) (draws : Nat) (book : List (Nat × EA)) : Nat → StD → StD
  | 0, S => dueB d draws book 0 (draws - 0) S
  | a + 1, S => dueA d draws book a (dueB d draws book (a + 1) (draws - (a + 1)) S)
noncomputable def eqFi (x y : List (Nat × Nat × Nat)) : Bool := decide (x.length = y.length) && x.all fun p => match kget y p.1 with
  | some q => decide (p.2.1 = q.1) && decide (p.2.2 = q.2)
  | none => false
noncomputable def eqEA (x y : EA) : Bool := decide (x.ways = y.ways) && decide (x.w = y.w) && decide (x.last = y.last) && decide (x.same = y.same) && eqFi x.fi y.fi
noncomputable def eqBook (x y : List (Nat × EA)) : Bool := decide (x.length = y.length) && x.all fun p => match kget y p.1 with
  | some q => eqEA p.2 q
  | none => false
noncomputable def evenAll (d : Dots) : Bool := (List.range 64).all fun v => decide (3 < v / 16 + v / 4 % 4 + v % 4) || evenN d (v / 16) (v / 4 % 4) (v % 4)
noncomputable def stepsOf (draws : Nat) : Nat := if draws = 3 then 10 else 4
noncomputable def urnOk (d : Dots) (draws : Nat) : Bool := match runA d (stepsOf draws) S₀ with
  | none => false
  | some S => match dueA d draws S.1 draws ⟨[], [], []⟩ with
    | ⟨due, line, wts⟩ => eqBook S.1 due && decide (S.2 = line) && decide (line.length ≤ 20) && S.1.all (fun p => decide (p.1 < 64) && p.2.fi.all (fun q => decide (q.1 < 3))) && due.all (fun p => decide (p.1 < 64) && decide (p.2.fi.length ≤ 20) && p.2.fi.all (fun q => decide (q.1 < 3))) && wts.all (fun p => decide (p.1 < 64)) &&
      decide ((wts.map (·.2)).sum = (d.a + d.b + d.c) * (d.a + d.b + d.c + 1) * (if draws = 3 then d.a + d.b + d.c + 2 else 1))
theorem urn_1 : ([1, 2, 3].all fun b => [1, 2, 3].all fun c => urnOk ⟨1, b, c⟩ 2 && urnOk ⟨1, b, c⟩ 3 && evenAll ⟨1, b, c⟩) = true := by decide +kernel
theorem urn_2 : ([1, 2, 3].all fun b => [1, 2, 3].all fun c => urnOk ⟨2, b, c⟩ 2 && urnOk ⟨2, b, c⟩ 3 && evenAll ⟨2, b, c⟩) = true := by decide +kernel
theorem urn_3 : ([1, 2, 3].all fun b => [1, 2, 3].all fun c => urnOk ⟨3, b, c⟩ 2 && urnOk ⟨3, b, c⟩ 3 && evenAll ⟨3, b, c⟩) = true := by decide +kernel
theorem urn_all {a b c draws : Nat} (ha : 1 ≤ a ∧ a ≤ 3) (hb : 1 ≤ b ∧ b ≤ 3) (hc : 1 ≤ c ∧ c ≤ 3) (hd : draws = 2 ∨ draws = 3) : urnOk ⟨a, b, c⟩ draws = true ∧ evenAll ⟨a, b, c⟩ = true := by
  have key : ∀ a' : Nat, ([1, 2, 3].all fun b => [1, 2, 3].all fun c => urnOk ⟨a', b, c⟩ 2 && urnOk ⟨a', b, c⟩ 3 && evenAll ⟨a', b, c⟩) = true → urnOk ⟨a', b, c⟩ draws = true ∧ evenAll ⟨a', b, c⟩ = true := fun a' h => by
    have h1 := List.all_eq_true.mp h b (by simp; lia)
    have h2 := List.all_eq_true.mp h1 c (by simp; lia)
    simp only [Bool.and_eq_true] at h2
    rcases hd with rfl | rfl
    · exact ⟨h2.1.1, h2.2⟩
    · exact ⟨h2.1.2, h2.2⟩
  have : a = 1 ∨ a = 2 ∨ a = 3 := by lia
  rcases this with rfl | rfl | rfl
  · exact key 1 urn_1
  · exact key 2 urn_2
  · exact key 3 urn_3
end Mine
end
section
namespace Mine
/-! ### from plain numbers to trees -/
structure Cn where
  d : Dots
  e0 : Str
  e1 : Str
  e2 : Str
  tw : Bool
  start : Int
noncomputable def lt (k : Nat) : Str := if k = 0 then "a" else if k = 1 then "\"" else "\\"
noncomputable def Cn.e (P : Cn) (k : Nat) : Str := if k = 0 then P.e0 else if k = 1 then P.e1 else P.e2
/-- row k, drawn m times -/
noncomputable def Cn.row (P : Cn) (k m : Nat) : Str := rowOf (dotsRow (P.d.at k) (lt k) (P.e k)) (lt k) (P.d.at k : Nat) (m : Nat)
noncomputable def Cn.rows (P : Cn) (v : Nat) : List Str := [P.row 0 (v / 16), P.row 1 (v / 4 % 4), P.row 2 (v % 4)]
noncomputable def Cn.nm (P : Cn) (v : Nat) : Str := Txt.join "" (P.rows v)
noncomputable def Cn.g (P : Cn) (x : Nat × Nat) : D := if P.tw = true then .tup [.int x.1, .int (P.start * x.2)] else .int (P.start * x.2)
section
variable {ν : Type}
noncomputable def cmap (f : Nat → Str) (g : ν → D) (l : List (Nat × ν)) : List (Str × D) := l.map fun p => (f p.1, g p.2)
theorem cmap_length {f : Nat → Str} {g : ν → D} (l : List (Nat × ν)) : (cmap f g l).length = l.length := by simp [cmap]
theorem kget_cons {p : Nat × ν} {r : List (Nat × ν)} {k : Nat} : kget (p :: r) k = if p.1 = k then some p.2 else kget r k := by
  unfold kget
  rw [List.find?_cons]
  by_cases q : p.1 = k <;> simp [q]
theorem dget_cmap {f : Nat → Str} {g : ν → D} {k : Nat} : ∀ {l : List (Nat × ν)}, (∀ p ∈ l, f p.1 = f k → p.1 = k) → dget (cmap f g l) (f k) = (kget l k).map g
  | [], _ => rfl
  | p :: r, h => by
    have e : cmap f g (p :: r) = (f p.1, g p.2) :: cmap f g r := rfl
    rw [e, dget_cons, kget_cons]
    by_cases q : p.1 = k
    · rw [if_pos q, if_pos (by rw [q])]; rfl
    · rw [if_neg q, if_neg fun z => q (h p (List.mem_cons_self ..) z)]
      exact dget_cmap fun p' hp' => h p' (List.mem_cons_of_mem _ hp')
theorem dset_cmap {f : Nat → Str} {g : ν → D} {k : Nat} {v : ν} {l : List (Nat × ν)} (h : ∀ p ∈ l, f p.1 = f k → p.1 = k) : dset (cmap f g l) (f k) (g v) = cmap f g (kset l k v) := by
  have ha : (cmap f g l).any (fun kv => decide (kv.1 = f k)) = l.any (fun p => decide (p.1 = k)) := by
    unfold cmap
    rw [List.any_map]
    apply Bool.eq_iff_iff.mpr
    simp only [List.any_eq_true, Function.comp, decide_eq_true_eq]
    constructor
    · rintro ⟨p, hp, q⟩; exact ⟨p, hp, h p hp q⟩
    · rintro ⟨p, hp, q⟩; exact ⟨p, hp, by rw [q]⟩
  unfold dset kset
  rw [ha]
  split
  · unfold cmap
    rw [List.map_map, List.map_map]
    apply List.map_congr_left
    intro p hp
    simp only [Function.comp]
    by_cases q : p.1 = k
    · rw [if_pos (by rw [q]), if_pos q]
    · rw [if_neg fun z => q (h p hp z), if_neg q]
  · simp [cmap]
theorem kset_mem {l : List (Nat × ν)} {k : Nat} {v : ν} {p : Nat × ν} (h : p ∈ kset l k v) : p.1 = k ∨ p ∈ l := by
  unfold kset at h
  split at h
  · refine el_ea (List.mem_map.mp h) fun q hq e => ?_
    by_cases z : q.1 = k
    · rw [if_pos z] at e; subst e; exact .inl z
    · rw [if_neg z] at e; subst e; exact .inr hq
  · rcases List.mem_append.mp h with q | q
    · exact .inr q
    · rw [List.mem_singleton.mp q]; exact .inl rfl
theorem kset_mem' {l : List (Nat × ν)} {k : Nat} {v : ν} {p : Nat × ν} (h : p ∈ kset l k v) : p = (k, v) ∨ p ∈ l := by
  unfold kset at h
  split at h
  · refine el_ea (List.mem_map.mp h) fun q hq e => ?_
    by_cases z : q.1 = k
    · rw [if_pos z] at e; subst e; exact .inl (by rw [z])
    · rw [if_neg z] at e; subst e; exact .inr hq
  · rcases List.mem_append.mp h with q | q
    · exact .inr q
    · rw [List.mem_singleton.mp q]; exact .inl rfl
theorem kset_length (l : List (Nat × ν)) (k : Nat) (v : ν) : (kset l k v).length ≤ l.length + 1 := by
  unfold kset; split <;> simp
theorem kget_mem {l : List (Nat × ν)} {k : Nat} {v : ν} (h : kget l k = some v) : (k, v) ∈ l := by
  unfold kget at h
  cases q : l.find? (fun p => decide (p.1 = k)) with
  | none => rw [q] at h; cases h
  | some p =>
    rw [q] at h; cases h
    have := List.find?_some q
    simp at this
    rw [← this]
    exact List.mem_of_find?_eq_some q
end
/-! the letters, the names -/
theorem lt_inj {i j : Nat} (hi : i < 3) (hj : j < 3) (h : lt i = lt j) : i = j := by
  have h1 : i = 0 ∨ i = 1 ∨ i = 2 := by lia -abstractProof
  have h2 : j = 0 ∨ j = 1 ∨ j = 2 := by lia -abstractProof
  revert h
  rcases h1 with rfl | rfl | rfl <;> rcases h2 with rfl | rfl | rfl <;> decide
theorem take_pre {p : Nat → Bool} {pre rest : List Nat} {c : Nat} (h : ∀ x ∈ pre, p x = true) (hc : p c = false) : (pre ++ c :: rest).takeWhile p = pre := by
  rw [List.takeWhile_append_of_pos h, List.takeWhile_cons, hc]
  simp
/-- the signs of a row -/
theorem strMul_list (n : Nat) : (strMul "." n).cps.toList = List.replicate n 46 := by
  have key : ∀ (n : Nat) (acc : Array Nat), ((List.replicate n ("." : Str).cps).foldl (· ++ ·) acc).toList = acc.toList ++ List.replicate n 46 := by
    intro n
    induction n with
    | zero => intro acc; simp
    | succ n ih =>
      intro acc
      rw [List.replicate_succ, List.foldl_cons, ih]
      have : (acc ++ ("." : Str).cps).toList = acc.toList ++ [46] := by simp; rfl
      rw [this, List.replicate_succ]; simp
  have := key n #[]
  simpa [strMul] using this
theorem app_list (a b : Str) : (a ++ b).cps.toList = a.cps.toList ++ b.cps.toList := by
  show (a.cps ++ b.cps).toList = _
  simp
noncomputable def isEnd (x : Str) : Prop := x = "\n" ∨ x = "\r" ∨ x = "\r\n"
structure Cn.Ok (P : Cn) : Prop where
  e : ∀ k, isEnd (P.e k)
  d : ∀ k, 1 ≤ P.d.at k ∧ P.d.at k ≤ 3
theorem row_list {P : Cn} (hP : P.Ok) (k m : Nat) : ∃ e : Str, isEnd e ∧ (P.row k m).cps.toList = List.replicate (P.d.at k + m) 46 ++ ((lt k).cps.toList ++ e.cps.toList) := by
  unfold Cn.row rowOf
  by_cases q : (0 : Int) < (m : Nat)
  · rw [if_pos q]
    refine ⟨"\r\n", .inr (.inr rfl), ?_⟩
    rw [app_list, app_list, strMul_list, List.append_assoc]
    congr 2
  · rw [if_neg q]
    have hm : m = 0 := by lia -abstractProof
    subst hm
    refine ⟨P.e k, hP.e k, ?_⟩
    unfold dotsRow
    rw [app_list, app_list, strMul_list, List.append_assoc, Nat.add_zero]
theorem join3 (x y z : Str) : (Txt.join "" [x, y, z]).cps.toList = x.cps.toList ++ (y.cps.toList ++ z.cps.toList) := by
  show ((x.cps ++ ("" : Str).cps ++ y.cps) ++ ("" : Str).cps ++ z.cps).toList = _
  have : ("" : Str).cps.toList = [] := rfl
  simp [this]
theorem end_list {e : Str} (h : isEnd e) : ∀ x ∈ e.cps.toList, x = 10 ∨ x = 13 := by
  rcases h with rfl | rfl | rfl
  · intro x hx
    have : x ∈ [10] := hx
    simp at this; exact .inl this
  · intro x hx
    have : x ∈ [13] := hx
    simp at this; exact .inr this
  · intro x hx
    have : x ∈ [13, 10] := hx
    simp at this; rcases this with h | h <;> simp [h]
theorem end_count {e : Str} (h : isEnd e) : e.cps.toList.count 46 = 0 := by
  rw [List.count_eq_zero]
  intro q
  rcases end_list h 46 q with h | h <;> cases h
theorem name_counts {n0 n1 n2 : Nat} {e0 e1 e2 : Str} (h0 : isEnd e0) (h1 : isEnd e1) {L : List Nat}
    (hL : L = (List.replicate n0 46 ++ ([97] ++ e0.cps.toList)) ++ ((List.replicate n1 46 ++ ([34] ++ e1.cps.toList)) ++ (List.replicate n2 46 ++ ([92] ++ e2.cps.toList)))) :
    (L.takeWhile (fun x => x != 97)).count 46 = n0 ∧ (L.takeWhile (fun x => x != 34)).count 46 = n0 + n1 ∧ (L.takeWhile (fun x => x != 92)).count 46 = n0 + n1 + n2 := by
  have r : ∀ (n c x : Nat), c ≠ 46 → x ∈ List.replicate n 46 → (x != c) = true := fun n c x hc hx => by
    rw [(List.mem_replicate.mp hx).2]; simpa using fun q => hc q.symm
  have ee : ∀ {e : Str}, isEnd e → ∀ x ∈ e.cps.toList, (x != 34) = true ∧ (x != 92) = true := fun h x hx => by
    rcases end_list h x hx with rfl | rfl <;> decide
  refine ⟨?_, ?_, ?_⟩
  · have e : L = List.replicate n0 46 ++ 97 :: (e0.cps.toList ++ ((List.replicate n1 46 ++ ([34] ++ e1.cps.toList)) ++ (List.replicate n2 46 ++ ([92] ++ e2.cps.toList)))) := by rw [hL]; simp
    rw [e, take_pre (fun x hx => r n0 97 x (by decide) hx) (by decide)]
    simp
  · have e : L = (List.replicate n0 46 ++ ([97] ++ e0.cps.toList) ++ List.replicate n1 46) ++ 34 :: (e1.cps.toList ++ (List.replicate n2 46 ++ ([92] ++ e2.cps.toList))) := by rw [hL]; simp
    rw [e, take_pre (fun x hx => ?_) (by decide)]
    · simp [end_count h0]
    · simp only [List.mem_append, List.mem_singleton] at hx
      rcases hx with (hx | hx | hx) | hx
      · exact r n0 34 x (by decide) hx
      · subst hx; decide
      · exact (ee h0 x hx).1
      · exact r n1 34 x (by decide) hx
  · have e : L = (List.replicate n0 46 ++ ([97] ++ e0.cps.toList) ++ (List.replicate n1 46 ++ ([34] ++ e1.cps.toList)) ++ List.replicate n2 46) ++ 92 :: e2.cps.toList := by rw [hL]; simp
    rw [e, take_pre (fun x hx => ?_) (by decide)]
    · simp [end_count h0, end_count h1]; lia -abstractProof
    · simp only [List.mem_append, List.mem_singleton] at hx
      rcases hx with ((hx | hx | hx) | (hx | hx | hx)) | hx
      · exact r n0 92 x (by decide) hx
      · subst hx; decide
      · exact (ee h0 x hx).2
      · exact r n1 92 x (by decide) hx
      · subst hx; decide
      · exact (ee h1 x hx).2
      · exact r n2 92 x (by decide) hx
theorem nm_list {P : Cn} (hP : P.Ok) (v : Nat) : ∃ e0 e1 e2 : Str, isEnd e0 ∧ isEnd e1 ∧ (P.nm v).cps.toList = (List.replicate (P.d.a + v / 16) 46 ++ ([97] ++ e0.cps.toList)) ++ ((List.replicate (P.d.b + v / 4 % 4) 46 ++ ([34] ++ e1.cps.toList)) ++ (List.replicate (P.d.c + v % 4) 46 ++ ([92] ++ e2.cps.toList))) := by
  refine el_ea (row_list hP 0 (v / 16)) fun e0 h0 r0 => ?_
  refine el_ea (row_list hP 1 (v / 4 % 4)) fun e1 h1 r1 => ?_
  refine el_ea (row_list hP 2 (v % 4)) fun e2 h2 r2 => ?_
  refine (in_eeeaa e0 e1 e2 h0 h1 ?_)
  show (Txt.join "" [P.row 0 (v / 16), P.row 1 (v / 4 % 4), P.row 2 (v % 4)]).cps.toList = _
  rw [join3, r0, r1, r2]
  rfl
theorem nm_inj {P : Cn} (hP : P.Ok) {u v : Nat} (h : P.nm u = P.nm v) : u = v := by
  refine el_eeeaa (nm_list hP u) fun e0 e1 e2 h0 h1 hu => ?_
  refine el_eeeaa (nm_list hP v) fun f0 f1 f2 g0 g1 hv => ?_
  refine el_aa (name_counts h0 h1 hu) fun a1 a2 a3 => ?_
  refine el_aa (name_counts g0 g1 hv) fun b1 b2 b3 => ?_
  rw [h] at a1 a2 a3
  have c1 := a1.symm.trans b1
  have c2 := a2.symm.trans b2
  have c3 := a3.symm.trans b3
  lia -abstractProof
theorem name_ok {P : Cn} (hP : P.Ok) {ν : Type} (l : List (Nat × ν)) (k : Nat) : ∀ p ∈ l, P.nm p.1 = P.nm k → p.1 = k := fun _ _ h => nm_inj hP h
/-! the entries -/
noncomputable abbrev Fi := List (Nat × Nat × Nat)
noncomputable def K3 (l : Fi) : Prop := ∀ p ∈ l, p.1 < 3
theorem K3.set {l : Fi} {k : Nat} {v : Nat × Nat} (h : K3 l) (hk : k < 3) : K3 (kset l k v) := fun p hp => by
  rcases kset_mem hp with q | q
  · rw [q]; exact hk
  · exact h p q
theorem lt_ok {l : Fi} (h : K3 l) {k : Nat} (hk : k < 3) : ∀ p ∈ l, lt p.1 = lt k → p.1 = k := fun p hp q => lt_inj (h p hp) hk q
noncomputable def Cn.fiD (P : Cn) (l : Fi) : List (Str × D) := cmap lt P.g l
theorem g_okV (P : Cn) (x : Nat × Nat) : OkV P.tw (P.g x) := by
  unfold Cn.g
  cases h : P.tw with
  | true => rw [if_pos rfl]; exact .two _ _
  | false => rw [if_neg Bool.false_ne_true]; exact .one _
theorem fiD_okV (P : Cn) (l : Fi) : ∀ p ∈ P.fiD l, OkV P.tw p.2 := fun p hp => by
  refine el_ea (List.mem_map.mp hp) fun q _ zq2 => ?_; subst zq2
  exact g_okV P q.2
theorem g_add (P : Cn) (x y : Nat × Nat) : addD (P.g x) (P.g y) = P.g (x.1 + y.1, x.2 + y.2) := by
  unfold Cn.g
  cases P.tw with
  | true =>
    simp only [if_true]
    show D.tup [.int (x.1 + y.1), .int (P.start * x.2 + P.start * y.2)] = _
    rw [← Int.mul_add]; rfl
  | false =>
    simp only [Bool.false_eq_true, if_false]
    show D.int (P.start * y.2 + P.start * x.2) = _
    rw [← Int.mul_add, Int.add_comm]; rfl
theorem fi_get (P : Cn) {l : Fi} (h : K3 l) {k : Nat} (hk : k < 3) : dget (P.fiD l) (lt k) = (kget l k).map P.g := dget_cmap (lt_ok h hk)
theorem fi_set (P : Cn) {l : Fi} (h : K3 l) {k : Nat} (hk : k < 3) (v : Nat × Nat) : dset (P.fiD l) (lt k) (P.g v) = P.fiD (kset l k v) := dset_cmap (lt_ok h hk)
theorem copy_conc (P : Cn) : ∀ (l acc : Fi), K3 l → K3 acc → (P.fiD l).foldl (fun a p => dset a p.1 p.2) (P.fiD acc) = P.fiD (l.foldl (fun a p => kset a p.1 p.2) acc) ∧ K3 (l.foldl (fun a p => kset a p.1 p.2) acc)
  | [], acc, _, ha => ⟨rfl, ha⟩
  | p :: r, acc, hl, ha => by
    have hp : p.1 < 3 := hl p (List.mem_cons_self ..)
    have e : P.fiD (p :: r) = (lt p.1, P.g p.2) :: P.fiD r := rfl
    rw [e, List.foldl_cons, List.foldl_cons]
    show (P.fiD r).foldl _ (dset (P.fiD acc) (lt p.1) (P.g p.2)) = _ ∧ _
    rw [fi_set P ha hp]
    exact copy_conc P r _ (fun q hq => hl q (List.mem_cons_of_mem _ hq)) (ha.set hp)
theorem merge_conc (P : Cn) : ∀ (l acc : Fi), K3 l → K3 acc → (P.fiD l).foldl mergeStep (P.fiD acc) = P.fiD (l.foldl mergeStepA acc) ∧ K3 (l.foldl mergeStepA acc)
  | [], acc, _, ha => ⟨rfl, ha⟩
  | p :: r, acc, hl, ha => by
    have hp : p.1 < 3 := hl p (List.mem_cons_self ..)
    have e : P.fiD (p :: r) = (lt p.1, P.g p.2) :: P.fiD r := rfl
    have hr : K3 r := fun q hq => hl q (List.mem_cons_of_mem _ hq)
    rw [e, List.foldl_cons, List.foldl_cons]
    have h1 : mergeStep (P.fiD acc) (lt p.1, P.g p.2) = P.fiD (mergeStepA acc p) ∧ K3 (mergeStepA acc p) := by
      unfold mergeStep mergeStepA
      show (match dget (P.fiD acc) (lt p.1) with | some old => dset (P.fiD acc) (lt p.1) (addD (P.g p.2) old) | none => dset (P.fiD acc) (lt p.1) (P.g p.2)) = _ ∧ _
      rw [fi_get P ha hp]
      cases kget acc p.1 with
      | none => exact ⟨fi_set P ha hp _, ha.set hp⟩
      | some x =>
        show dset (P.fiD acc) (lt p.1) (addD (P.g p.2) (P.g x)) = _ ∧ _
        rw [g_add, fi_set P ha hp]
        exact ⟨rfl, ha.set hp⟩
    rw [h1.1]
    exact merge_conc P r _ hr h1.2
theorem merge_all (P : Cn) {t s : Fi} (ht : K3 t) (hs : K3 s) : mergeD (P.fiD t) (P.fiD s) = P.fiD (mergeA t s) ∧ K3 (mergeA t s) := by
  have h1 := copy_conc P t [] ht (fun _ h => nomatch h)
  have h2 := merge_conc P s (copyA t) hs h1.2
  unfold mergeD copyD mergeA
  have e : (P.fiD t).foldl (fun a p => dset a p.1 p.2) [] = P.fiD (copyA t) := h1.1
  rw [e]
  exact h2
noncomputable def Cn.gE (P : Cn) (e : EA) : D := .tup [.int e.ways, .int (P.start * e.w), .int (P.start * e.last), .int (P.start * e.same), .dct (P.fiD e.fi)]
noncomputable def Cn.bookD (P : Cn) (l : List (Nat × EA)) : List (Str × D) := cmap P.nm P.gE l
theorem book_get {P : Cn} (hP : P.Ok) (l : List (Nat × EA)) (k : Nat) : dget (P.bookD l) (P.nm k) = (kget l k).map P.gE := dget_cmap (name_ok hP l k)
theorem book_set {P : Cn} (hP : P.Ok) (l : List (Nat × EA)) (k : Nat) (e : EA) : dset (P.bookD l) (P.nm k) (P.gE e) = P.bookD (kset l k e) := dset_cmap (name_ok hP l k)
noncomputable def Cn.rowsD (P : Cn) (v : Nat) : List D := (P.rows v).map .str
noncomputable def Cn.qD (P : Cn) (q : List Nat) : List D := q.flatMap P.rowsD
end Mine
end
section
namespace Mine
set_option maxRecDepth 10000
/-! ### _law_drawn: one draw -/
noncomputable def stepBody : List Stmt := forBody (bodyOf (stAt 16))[2]?
noncomputable def drawBody : List Stmt := forBody stepBody[2]?
theorem app_len3 (a b c : Str) : (a ++ b ++ c).length = a.length + b.length + c.length := by rw [app_len, app_len]
theorem end_len {e : Str} (h : isEnd e) : e.length ≤ 2 := by
  rcases h with rfl | rfl | rfl <;> decide
theorem lt_len (k : Nat) : (lt k).length = 1 := by
  unfold lt; split
  · rfl
  · split <;> rfl
theorem row_len {P : Cn} (hP : P.Ok) (k m : Nat) : (P.row k m).length ≤ 6 + m := by
  have hd := (hP.d k).2
  have he := end_len (hP.e k)
  have hl := lt_len k
  unfold Cn.row rowOf
  split
  · rw [app_len3, strMul_len, hl]
    have : ("\r\n" : Str).length = 2 := by decide
    omega
  · unfold dotsRow
    rw [app_len3, strMul_len, hl]; omega
theorem rows_get (P : Cn) (v : Nat) {k : Nat} (hk : k < 3) : (P.rowsD v)[k]? = some (.str (P.row k (vk v k))) := by
  have : k = 0 ∨ k = 1 ∨ k = 2 := by omega
  rcases this with rfl | rfl | rfl <;> rfl
theorem row_quot {P : Cn} (hP : P.Ok) {k m : Nat} (hm : m ≤ 2) : ∃ y, subOf code2 "\r\n" (P.row k m) = some y ∧ y.length ≤ 100 ∧ subOf code1 ".." y = some (P.row k (m + 1)) := by
  have hd := hP.d k
  have hl : lt k ∈ [("a" : Str), ("\"" : Str), ("\\" : Str)] := by
    unfold lt; split
    · simp
    · split <;> simp
  have hin : ∀ (d : Nat), 1 ≤ d → d ≤ 5 → d ∈ [1, 2, 3, 4, 5] := fun d h1 h2 => by
    simp; omega
  have core : ∀ (d : Nat) (e : Str), 1 ≤ d → d ≤ 5 → e ∈ [("\n" : Str), ("\r" : Str), ("\r\n" : Str)] → ∃ y, subOf code2 "\r\n" (dotsRow d (lt k) e) = some y ∧ y.length ≤ 100 ∧ subOf code1 ".." y = some (dotsRow (d + 1) (lt k) "\r\n") := fun d e h1 h2 he => by
    have := quotOk_all d (hin d h1 h2) (lt k) hl e he
    unfold quotOk at this
    split at this
    · rename_i y hy
      simp only [Bool.and_eq_true, decide_eq_true_eq, beq_iff_eq] at this
      exact ⟨y, hy, this.1, this.2⟩
    · cases this
  have e2 : P.row k (m + 1) = dotsRow (P.d.at k + m + 1) (lt k) "\r\n" := by
    unfold Cn.row rowOf dotsRow
    rw [if_pos (by omega)]
    congr 3
  rw [e2]
  by_cases q : m = 0
  · subst q
    have e1 : P.row k 0 = dotsRow (P.d.at k) (lt k) (P.e k) := by unfold Cn.row rowOf; rw [if_neg (by omega)]
    rw [e1, Nat.add_zero]
    refine core _ _ hd.1 (by omega) ?_
    rcases hP.e k with h | h | h <;> rw [h] <;> simp
  · have e1 : P.row k m = dotsRow (P.d.at k + m) (lt k) "\r\n" := by
      unfold Cn.row rowOf dotsRow
      rw [if_pos (by omega)]
      congr 3
    rw [e1]
    exact core _ _ (by omega) (by omega) (by simp)
theorem pick_of {xs : List D} {lo hi st : Option Int} {n : Nat} (hn : xs.length = n) {l : List Nat} (h : sliceRange (sliceBounds lo hi st n).1 (sliceBounds lo hi st n).2.1 (sliceBounds lo hi st n).2.2 = l) : dPick xs lo hi st = l.filterMap (xs[·]?) := by
  subst hn; unfold dPick; rw [h]
theorem sent_eq (P : Cn) {v k : Nat} (hk : k < 3) (h1 : v / 4 % 4 ≤ 2) (h2 : v % 4 ≤ 2) :
    dPick (P.rowsD v) none (some (k : Int)) none ++ [.str (P.row k (vk v k + 1))] ++ dPick (P.rowsD v) (some ((k : Int) + 1)) none none = P.rowsD (v + upk k) := by
  have : k = 0 ∨ k = 1 ∨ k = 2 := by omega
  rcases this with rfl | rfl | rfl
  · rw [pick_of (xs := P.rowsD v) (lo := none) (n := 3) rfl (l := []) (by decide +kernel), pick_of (xs := P.rowsD v) (hi := none) (n := 3) rfl (l := [1, 2]) (by decide +kernel)]
    show [D.str (P.row 0 (v / 16 + 1)), .str (P.row 1 (v / 4 % 4)), .str (P.row 2 (v % 4))] = [D.str (P.row 0 ((v + 16) / 16)), .str (P.row 1 ((v + 16) / 4 % 4)), .str (P.row 2 ((v + 16) % 4))]
    have a : (v + 16) / 16 = v / 16 + 1 := by omega
    have b : (v + 16) / 4 % 4 = v / 4 % 4 := by omega
    have c : (v + 16) % 4 = v % 4 := by omega
    rw [a, b, c]
  · rw [pick_of (xs := P.rowsD v) (lo := none) (n := 3) rfl (l := [0]) (by decide +kernel), pick_of (xs := P.rowsD v) (hi := none) (n := 3) rfl (l := [2]) (by decide +kernel)]
    show [D.str (P.row 0 (v / 16)), .str (P.row 1 (v / 4 % 4 + 1)), .str (P.row 2 (v % 4))] = [D.str (P.row 0 ((v + 4) / 16)), .str (P.row 1 ((v + 4) / 4 % 4)), .str (P.row 2 ((v + 4) % 4))]
    have a : (v + 4) / 16 = v / 16 := by omega
    have b : (v + 4) / 4 % 4 = v / 4 % 4 + 1 := by omega
    have c : (v + 4) % 4 = v % 4 := by omega
    rw [a, b, c]
  · rw [pick_of (xs := P.rowsD v) (lo := none) (n := 3) rfl (l := [0, 1]) (by decide +kernel), pick_of (xs := P.rowsD v) (hi := none) (n := 3) rfl (l := []) (by decide +kernel)]
    show [D.str (P.row 0 (v / 16)), .str (P.row 1 (v / 4 % 4)), .str (P.row 2 (v % 4 + 1))] = [D.str (P.row 0 ((v + 1) / 16)), .str (P.row 1 ((v + 1) / 4 % 4)), .str (P.row 2 ((v + 1) % 4))]
    have a : (v + 1) / 16 = v / 16 := by omega
    have b : (v + 1) / 4 % 4 = v / 4 % 4 := by omega
    have c : (v + 1) % 4 = v % 4 + 1 := by omega
    rw [a, b, c]
end Mine
end
section
namespace Mine
set_option maxRecDepth 10000
theorem swapsL {elt iter : Expr} {x y : Str} {px pos py : Pos} {scope sc : Scope} {line : Nat} (hy : sc.names.lookup y = some .local) (hl : (py.line == pos.line) = true) (hn : (scope.names.any fun p => p.1 == y && (p.2 == .local || p.2 == .cell)) = false) :
    ∀ env, EnvIs sc env → swapsWith (.ListComp elt [⟨.Name x px, iter, [], 0⟩] scope pos) (some (.Name y py)) line env = pure true := fun env hE => by
  unfold swapsWith
  show (pure (env.blockKind == .function && env.kindOf y == some .local && py.line == pos.line && !(scope.names.any fun p => p.1 == y && (p.2 == .local || p.2 == .cell))) : Sem Bool) = pure true
  rw [hn, hl]
  have h1 : env.blockKind = .function := by unfold Env.blockKind; rw [hE.scope, hE.kind]; rfl
  have h2 : env.kindOf y = some .local := by unfold Env.kindOf; rw [hE.scope]; exact hy
  rw [h1, h2]; rfl
theorem swapsD {kx vx iter : Expr} {x y : Str} {px pos py : Pos} {scope sc : Scope} {line : Nat} (hy : sc.names.lookup y = some .local) (hl : (py.line == pos.line) = true) (hn : (scope.names.any fun p => p.1 == y && (p.2 == .local || p.2 == .cell)) = false) :
    ∀ env, EnvIs sc env → swapsWith (.DictComp kx vx [⟨.Name x px, iter, [], 0⟩] scope pos) (some (.Name y py)) line env = pure true := fun env hE => by
  unfold swapsWith
  show (pure (env.blockKind == .function && env.kindOf y == some .local && py.line == pos.line && !(scope.names.any fun p => p.1 == y && (p.2 == .local || p.2 == .cell))) : Sem Bool) = pure true
  rw [hn, hl]
  have h1 : env.blockKind = .function := by unfold Env.blockKind; rw [hE.scope, hE.kind]; rfl
  have h2 : env.kindOf y = some .local := by unfold Env.kindOf; rw [hE.scope]; exact hy
  rw [h1, h2]; rfl
/-- what a turn reads -/
structure TurnM (P : Cn) (v : Nat) (e : EA) (m : List (Str × Vl)) : Prop where
  lexer : m.lookup ("lexer" : Str) = some (.m 5)
  letters : m.lookup ("letters" : Str) = some (.d (.lst [.str "a", .str "\"", .str "\\"]))
  twofold : m.lookup ("twofold" : Str) = some (.d (.bool P.tw))
  book : m.lookup ("book" : Str) = some (.m 7)
  mail : m.lookup ("mail" : Str) = some (.d (.lst (P.rowsD v)))
  ways : m.lookup ("ways" : Str) = some (.d (.int e.ways))
  weight : m.lookup ("weight" : Str) = some (.d (.int (P.start * e.w)))
  firsts : m.lookup ("firsts" : Str) = some (.d (.dct (P.fiD e.fi)))
noncomputable def turnL (P : Cn) (v : Nat) (e : EA) : List (Str × Vl) := [("lexer", .m 5), ("letters", .d (.lst [.str "a", .str "\"", .str "\\"])), ("twofold", .d (.bool P.tw)), ("book", .m 7), ("mail", .d (.lst (P.rowsD v))), ("ways", .d (.int e.ways)), ("weight", .d (.int (P.start * e.w))), ("firsts", .d (.dct (P.fiD e.fi)))]
theorem TurnM.norm {P : Cn} {v : Nat} {e : EA} {m : List (Str × Vl)} (h : TurnM P v e m) {u : Vl} (hk : m.lookup ("k" : Str) = some u) : ∀ x y, ((("k" : Str), u) :: turnL P v e).lookup x = some y → m.lookup x = some y := fun x y q => by
  unfold turnL at q
  simp only [lookup_cons_eq] at q
  split at q
  · rename_i z; cases q; rw [z]; exact hk
  split at q
  · rename_i z; cases q; rw [z]; exact h.lexer
  split at q
  · rename_i z; cases q; rw [z]; exact h.letters
  split at q
  · rename_i z; cases q; rw [z]; exact h.twofold
  split at q
  · rename_i z; cases q; rw [z]; exact h.book
  split at q
  · rename_i z; cases q; rw [z]; exact h.mail
  split at q
  · rename_i z; cases q; rw [z]; exact h.ways
  split at q
  · rename_i z; cases q; rw [z]; exact h.weight
  split at q
  · rename_i z; cases q; rw [z]; exact h.firsts
  · cases q
theorem g_times (P : Cn) (x : Nat × Nat) (n : Nat) (htw : P.tw = true) : P.g (x.1, x.2 * n) = .tup [.int x.1, .int (P.start * x.2 * n)] := by
  unfold Cn.g; rw [htw, if_pos rfl, Int.mul_assoc]; rfl
theorem g_times' (P : Cn) (x : Nat × Nat) (n : Nat) (htw : P.tw = false) : P.g (x.1, x.2 * n) = .int (P.start * x.2 * n) := by
  unfold Cn.g; rw [htw, if_neg Bool.false_ne_true, Int.mul_assoc]; rfl
section
variable {prog : Program} {w : World} {h₀ : Heap} {σ : List MO} {k n : Nat} {sc : Scope} {m : List (Str × Vl)} {K : Vl → List MO → Prop} {gl : Str → Option Value} {Ks : Fl → List (Str × Vl) → List MO → Prop}
/-- _law_times on a value of the callers' -/
theorem times_g (P : Cn) (x : Nat × Nat) {N : Nat} (hN : N ≤ 100) (h : ∀ m, Ks (.ret (.d (P.g (x.1, x.2 * N)))) m σ) :
    WS prog w h₀ n (scopeOf (stAt 15)) k [("value", .d (P.g x)), ("dots", .d (.int N)), ("twofold", .d (.bool P.tw))] (bodyOf (stAt 15)) σ Ks := by
  cases htw : P.tw with
  | true =>
    have e : P.g x = .tup [.int x.1, .int (P.start * x.2)] := by unfold Cn.g; rw [htw, if_pos rfl]
    rw [e]
    refine times_t (mulR (by omega)) fun m => ?_
    rw [← g_times P x N htw]; exact h m
  | false =>
    have e : P.g x = .int (P.start * x.2) := by unfold Cn.g; rw [htw, if_neg Bool.false_ne_true]
    rw [e]
    refine times_f (mulR (by omega)) fun m => ?_
    rw [← g_times' P x N htw]; exact h m
end
end Mine
end
section
namespace Mine
set_option maxRecDepth 10000
theorem count_all : ∀ d ∈ [1, 2, 3, 4, 5], ∀ l ∈ [("a" : Str), ("\"" : Str), ("\\" : Str)], ∀ e ∈ [("\n" : Str), ("\r" : Str), ("\r\n" : Str)], (Txt.count (dotsRow d l e) "." == (d : Int)) = true := by decide +kernel
theorem row_shape {P : Cn} (hP : P.Ok) {k m : Nat} (hm : m ≤ 2) : ∃ e ∈ [("\n" : Str), ("\r" : Str), ("\r\n" : Str)], P.row k m = dotsRow (P.d.at k + m) (lt k) e ∧ P.d.at k + m ∈ [1, 2, 3, 4, 5] ∧ lt k ∈ [("a" : Str), ("\"" : Str), ("\\" : Str)] := by
  have hd := hP.d k
  have hl : lt k ∈ [("a" : Str), ("\"" : Str), ("\\" : Str)] := by
    unfold lt; split
    · simp
    · split <;> simp
  have hin : P.d.at k + m ∈ [1, 2, 3, 4, 5] := by simp; lia -abstractProof
  by_cases q : m = 0
  · subst q
    refine ⟨P.e k, ?_, ?_, hin, hl⟩
    · rcases hP.e k with h | h | h <;> rw [h] <;> simp
    · unfold Cn.row rowOf; rw [if_neg (by lia -abstractProof), Nat.add_zero]
  · refine ⟨"\r\n", by simp, ?_, hin, hl⟩
    unfold Cn.row rowOf dotsRow
    rw [if_pos (by lia -abstractProof)]
    congr 3
theorem row_count {P : Cn} (hP : P.Ok) {k m : Nat} (hm : m ≤ 2) : Txt.count (P.row k m) "." = ((P.d.at k + m : Nat) : Int) := by
  refine el_eaaa (row_shape hP (k := k) hm) fun e he h1 h2 h3 => ?_
  rw [h1]
  simpa using count_all _ h2 _ h3 _ he
/-- all that is known of the module -/
structure Md (h₀ : Heap) (gl : Str → Option Value) (C N : Addr) (mN : Str → Option Value) (fI fR fG fP : Addr) : Prop where
  G : Glb h₀ gl
  L : Gl gl
  A : GlA h₀ gl
  Q : GlQ h₀ gl
  X : LexCls h₀ gl C N mN fI fR fG fP
  it : gl "iter" = some (.builtin "iter")
  times : IsFn h₀ gl "_law_times" 15 ["value", "dots", "twofold"]
  quot : IsFn h₀ gl "quotedata" 11 ["data"]
  afs : IsFn h₀ gl "add_func_stats" 2 ["target", "source"]
  acs : IsFn h₀ gl "add_callers" 3 ["target", "source"]
  drawn : IsFn h₀ gl "_law_drawn" 16 ["lexer", "rows", "letters", "start", "draws", "twofold"]
  rows : IsFn h₀ gl "_law_rows" 17 ["rows", "dots", "letters", "drawn"]
  entry : IsFn h₀ gl "_law_entry" 18 ["dots", "letters", "start", "drawn", "twofold"]
  spelled : IsFn h₀ gl "_law_spelled" 14 ["word", "bare"]
  calls : IsFn h₀ gl "count_calls" 4 ["callers"]
  stream : ∃ f, gl "_law_stream" = some (.ref f) ∧ FnIs h₀ f (stAt 13) ["text"]
  tab : IsTab h₀ 117 113
section
variable {prog : Program} {w : World} {h₀ : Heap} {σ : List MO} {kk n : Nat} {sc : Scope} {m : List (Str × Vl)} {K : Vl → List MO → Prop} {gl : Str → Option Value} {Ks : Fl → List (Str × Vl) → List MO → Prop}
  {C N : Addr} {mN : Str → Option Value} {fI fR fG fP : Addr}
theorem vk_le {v k : Nat} (h0 : v / 16 ≤ 2) (h1 : v / 4 % 4 ≤ 2) (h2 : v % 4 ≤ 2) : vk v k ≤ 2 := by
  unfold vk; split
  · exact h0
  · split
    · exact h1
    · exact h2
theorem lt_at {k : Nat} (hk : k < 3) : ([.str "a", .str "\"", .str "\\"] : List D)[k]? = some (.str (lt k)) := by
  have : k = 0 ∨ k = 1 ∨ k = 2 := by lia -abstractProof
  rcases this with rfl | rfl | rfl <;> rfl
theorem fold_len {f : Fi → Nat × Nat × Nat → Fi} (hf : ∀ a p, (f a p).length ≤ a.length + 1) : ∀ (l acc : Fi), (l.foldl f acc).length ≤ acc.length + l.length
  | [], acc => Nat.le_refl _
  | p :: r, acc => by
    rw [List.foldl_cons]
    have h1 := fold_len hf r (f acc p)
    have h2 := hf acc p
    rw [List.length_cons]; lia -abstractProof
noncomputable def begStep (fi : Fi) (n : Nat) (acc : Fi) (p : Nat × Nat × Nat) : Fi := match kget fi p.1 with
    | some x => kset acc p.1 (x.1, x.2 * n)
    | none => acc
theorem begunA_eq (fi : Fi) (w n k : Nat) : begunA fi w n k = if fi.isEmpty then kset [] k (1, w * n) else fi.foldl (begStep fi n) [] := rfl
theorem kget_some {ν : Type} {p : Nat × ν} : ∀ {l : List (Nat × ν)}, p ∈ l → ∃ x, kget l p.1 = some x
  | [], h => nomatch h
  | q :: r, h => by
    rw [kget_cons]
    by_cases z : q.1 = p.1
    · exact ⟨q.2, by rw [if_pos z]⟩
    · rw [if_neg z]
      rcases List.mem_cons.mp h with e | e
      · subst e; exact absurd rfl z
      · exact kget_some e
theorem K3_nil : K3 [] := fun _ h => by cases h
/-- dots, begun -/
theorem turn_A (Z : Md h₀ gl C N mN fI fR fG fP) {P : Cn} (hP : P.Ok) {v k : Nat} {e : EA} (hk : k < 3) (h3 : K3 e.fi) (hfi : e.fi.length ≤ 20) (hv : vk v k ≤ 2) (hbd : ∀ y ∈ σ, y.bd ≤ σ.length)
    (h : WS prog w h₀ (n + 2) (scopeOf (stAt 16)) kk (("begun", .m σ.length) :: ("dots", .d (.int (P.d.at k + vk v k : Nat))) :: ("k", .d (.int k)) :: turnL P v e) (drawBody.drop 3) (σ ++ [.dict (P.fiD (begunA e.fi e.w (P.d.at k + vk v k) k))]) Ks) :
    WS prog w h₀ (n + 2) (scopeOf (stAt 16)) kk (("k", .d (.int k)) :: turnL P v e) drawBody σ Ks := by
  have hd := hP.d k
  have k0 : (0 : Int) ≤ (k : Int) := Int.natCast_nonneg k
  refine WS.cons (W1.assign (WE.meth (T := "str") (id := "str.count") PySem.F.plainAttrs_str PySem.F.slot_str_count PySem.F.type_str_count (WE.sub (WE.loc rfl rfl (WE.loc rfl rfl (WO.itemL k0 (by simpa using rows_get P v hk) ?_ (show 3 ≤ 1000 by decide)))))))
  refine ⟨ty_str, WEs.cons (WE.str (WEs.nil (WO.countS ?_)))⟩
  rw [row_count hP hv]
  generalize hN : P.d.at k + vk v k = N at h ⊢
  have hN5 : N ≤ 100 := by lia -abstractProof
  refine WN.cell rfl ?_
  refine WS.cons (W1.dcomp rfl (WI.keys Z.G (WE.cell rfl rfl ⟨P.fiD e.fi, rfl, ?_⟩)) (swapsD rfl rfl rfl))
  refine WCd.inv (fun vs σ' acc => ∃ (l acc' : Fi), (∀ p ∈ l, p ∈ e.fi) ∧ vs = (P.fiD l).map (fun p => .d (.str p.1)) ∧ acc = P.fiD acc' ∧ K3 acc' ∧ acc'.length + l.length ≤ 20 ∧ l.foldl (begStep e.fi N) acc' = e.fi.foldl (begStep e.fi N) [] ∧ σ' = σ) ?_ ?_ _ _ _ ⟨e.fi, [], fun _ h => h, rfl, rfl, K3_nil, by simpa using hfi, rfl, rfl⟩
  · rintro vv vs σ' acc ⟨l, acc', hl, e1, rfl, ha, hlen, hf, rfl⟩
    cases l with
    | nil => cases e1
    | cons p l =>
      have e1' : vv :: vs = .d (.str (lt p.1)) :: (P.fiD l).map (fun p => .d (.str p.1)) := e1
      cases e1'
      have hp : p.1 < 3 := h3 p (hl p (List.mem_cons_self ..))
      obtain ⟨x, hx⟩ := kget_some (hl p (List.mem_cons_self ..))
      refine WE.loc rfl rfl ⟨lt p.1, rfl, by rw [Cn.fiD, cmap_length]; simp at hlen; lia -abstractProof, ?_⟩
      have hget : dget (P.fiD e.fi) (lt p.1) = some (P.g x) := by rw [fi_get P h3 hp, hx]; rfl
      refine WE.callDef Z.G Z.times rfl rfl (WEs.cons (WE.sub (WE.cell rfl rfl (WE.loc rfl rfl (WO.itemD Z.G (.d _) hget ?_)))))
      refine WEs.cons (WE.cell rfl rfl (WEs.cons (WE.cell rfl rfl (WEs.nil ⟨rfl, ?_⟩))))
      refine times_g P x hN5 fun m' => ⟨_, rfl, l, kset acc' p.1 (x.1, x.2 * N), fun q hq => hl q (List.mem_cons_of_mem _ hq), rfl, fi_set P ha hp _, ha.set hp, ?_, ?_, rfl⟩
      · have := kset_length acc' p.1 (x.1, x.2 * N)
        simp at hlen; lia -abstractProof
      · rw [← hf, List.foldl_cons]
        congr 1
        unfold begStep
        rw [hx]
  · rintro σ' acc ⟨l, acc', hl, e1, rfl, ha, hlen, hf, rfl⟩
    have hl0 : l = [] := by
      cases l with
      | nil => rfl
      | cons p l => cases e1
    subst hl0
    have hf' : acc' = e.fi.foldl (begStep e.fi N) [] := hf
    refine ⟨hbd, WN.loc rfl ?_⟩
    have h20 : (P.fiD e.fi).length ≤ 1000 := by rw [Cn.fiD, cmap_length]; lia -abstractProof
    refine WS.cons (W1.ite (WB.not (WB.val (WE.cell rfl rfl (WT.dct Z.G (.d _) h20 ?_)))))
    have hemp : (P.fiD e.fi).isEmpty = e.fi.isEmpty := by
      unfold Cn.fiD cmap; simp
    rw [hemp, Bool.not_not]
    rw [begunA_eq] at h
    cases hE : e.fi.isEmpty with
    | false =>
      rw [hE, if_neg Bool.false_ne_true, ← hf'] at h
      rw [if_neg Bool.false_ne_true]
      exact WS.nil h
    | true =>
      rw [hE, if_pos rfl] at h
      rw [if_pos rfl]
      have hnil : e.fi = [] := List.isEmpty_iff.mp hE
      rw [hnil] at hf'
      have hacc : acc' = [] := hf'
      subst hacc
      have hσ : (σ' ++ [MO.dict (P.fiD [])])[σ'.length]? = some (.dict (P.fiD [])) := by simp
      have hset : (σ' ++ [MO.dict (P.fiD [])]).set σ'.length (.dict (dset (P.fiD []) (lt k) (P.g (1, e.w * N)))) = σ' ++ [.dict (P.fiD (kset [] k (1, e.w * N)))] := by
        rw [fi_set P K3_nil hk]; simp
      refine WS.cons (W1.setItem (WE.ite (WB.val (WE.cell rfl rfl (WT.bool ?_)))))
      cases htw : P.tw with
      | true =>
        rw [if_pos rfl]
        have hg : P.g (1, e.w * N) = .tup [.int 1, .int (P.start * e.w * N)] := g_times P (1, e.w) N htw
        rw [hg] at hset
        refine WE.tup (WEs.cons (WE.int (WEs.cons (WE.bin (WE.loc rfl rfl (WE.cell rfl rfl (WO.mulI (mulR (by lia -abstractProof)) (WEs.nil ⟨_, rfl, Nat.le_of_ble_eq_true rfl, ?_⟩))))))))
        refine WE.loc rfl rfl (WE.sub (WE.loc rfl rfl (WE.loc rfl rfl (WO.itemL k0 (by simpa using lt_at hk) (WU.setD hσ (Nat.zero_le _) (WS.nil ?_))))))
        rw [hset]
        exact h
      | false =>
        rw [if_neg Bool.false_ne_true]
        have hg : P.g (1, e.w * N) = .int (P.start * e.w * N) := g_times' P (1, e.w) N htw
        rw [hg] at hset
        refine WE.bin (WE.loc rfl rfl (WE.cell rfl rfl (WO.mulI (mulR (by lia -abstractProof)) ?_)))
        refine WE.loc rfl rfl (WE.sub (WE.loc rfl rfl (WE.loc rfl rfl (WO.itemL k0 (by simpa using lt_at hk) (WU.setD hσ (Nat.zero_le _) (WS.nil ?_))))))
        rw [hset]
        exact h
end
end Mine
end
section
namespace Mine
set_option maxRecDepth 10000
theorem g_zero (P : Cn) (htw : P.tw = true) : P.g (0, 0) = .tup [.int 0, .int 0] := by
  unfold Cn.g; rw [htw, if_pos rfl]
  show D.tup [.int 0, .int (P.start * 0)] = _
  rw [Int.mul_zero]
theorem g_zero' (P : Cn) (htw : P.tw = false) : P.g (0, 0) = .int 0 := by
  unfold Cn.g; rw [htw, if_neg Bool.false_ne_true]
  show D.int (P.start * 0) = _
  rw [Int.mul_zero]
theorem gE_zero (P : Cn) : P.gE EA.zero = .tup [.int 0, .int 0, .int 0, .int 0, .dct []] := by
  show D.tup [.int 0, .int (P.start * 0), .int (P.start * 0), .int (P.start * 0), .dct []] = _
  rw [Int.mul_zero]
theorem qD_app (P : Cn) (q : List Nat) (v : Nat) : P.qD (q ++ [v]) = P.qD q ++ P.rowsD v := by
  unfold Cn.qD; simp
theorem qD_len (P : Cn) (q : List Nat) : (P.qD q).length = 3 * q.length := by
  induction q with
  | nil => rfl
  | cons v q ih =>
    have e : P.qD (v :: q) = P.rowsD v ++ P.qD q := rfl
    have l : (P.rowsD v).length = 3 := rfl
    rw [e, List.length_append, ih, l, List.length_cons]; lia -abstractProof
theorem begunA_len (fi : Fi) (w n k : Nat) : (begunA fi w n k).length ≤ fi.length + 1 := by
  rw [begunA_eq]
  split
  · have := kset_length ([] : Fi) k (1, w * n)
    simp at this; lia -abstractProof
  · have := fold_len (f := begStep fi n) (fun a p => by
      unfold begStep; split
      · exact kset_length _ _ _
      · lia -abstractProof) fi []
    simp at this; lia -abstractProof
theorem begunA_K3 {fi : Fi} (h : K3 fi) (w n : Nat) {k : Nat} (hk : k < 3) : K3 (begunA fi w n k) := by
  rw [begunA_eq]
  split
  · exact K3_nil.set hk
  · have key : ∀ (l acc : Fi), K3 l → K3 acc → K3 (l.foldl (begStep fi n) acc) := by
      intro l
      induction l with
      | nil => intro acc _ ha; exact ha
      | cons p r ih =>
        intro acc hl ha
        rw [List.foldl_cons]
        refine ih _ (fun q hq => hl q (List.mem_cons_of_mem _ hq)) ?_
        unfold begStep
        split
        · exact ha.set (hl p (List.mem_cons_self ..))
        · exact ha
    exact key fi [] h K3_nil
section
variable {prog : Program} {w : World} {h₀ : Heap} {σ : List MO} {kk n : Nat} {sc : Scope} {m : List (Str × Vl)} {K : Vl → List MO → Prop} {gl : Str → Option Value} {Ks : Fl → List (Str × Vl) → List MO → Prop}
  {C N : Addr} {mN : Str → Option Value} {fI fR fG fP : Addr} {t0 t1 : MO} {text : Str} {p ln : Int}
/-- rows are pushed -/
theorem push_loop (Z : Md h₀ gl C N mN fI fR fG fP) {x : Str} {body : List Stmt} {rest : List MO} (m₀ : List (Str × Vl)) (hx : (x == "lexer") = false)
    (hb : ∀ (r : Str) (pb : List D) (m : List (Str × Vl)) (K : Fl → List (Str × Vl) → List MO → Prop), pb.length ≤ 900 → m.lookup ("lexer" : Str) = some (.m 5) → m.lookup x = some (.d (.str r)) → K .next m (lexσ C t0 t1 text p ln (pb ++ [.str r]) rest) →
      WS prog w h₀ (n + 2) sc kk m body (lexσ C t0 t1 text p ln pb rest) K) (hk : sc.names.lookup x = some .local) :
    ∀ (rs : List Str) (pb : List D) (m : List (Str × Vl)), pb.length + rs.length ≤ 900 → m.lookup ("lexer" : Str) = some (.m 5) → Ag [x] m₀ m →
      (∀ m', Ag [x] m₀ m' → Ks .next m' (lexσ C t0 t1 text p ln (pb ++ rs.map .str) rest)) → WL prog w h₀ (n + 2) sc kk x body (rs.map fun r => .d (.str r)) m (lexσ C t0 t1 text p ln pb rest) Ks
  | [], pb, m, _, _, ag, h => by
    have := h m ag
    rw [List.map_nil, List.append_nil] at this
    exact this
  | r :: rs, pb, m, hl, hm, ag, h => by
    simp only [List.length_cons] at hl
    have hm' : ((x, Vl.d (.str r)) :: m).lookup ("lexer" : Str) = some (.m 5) := by
      rw [lookup_cons_eq, if_neg]
      · exact hm
      · intro q; rw [← q] at hx; simp at hx
    refine WN.loc hk (hb r pb _ _ (by lia -abstractProof) hm' (by rw [lookup_cons_eq, if_pos rfl]) ?_)
    refine push_loop Z m₀ hx hb hk rs (pb ++ [.str r]) _ (by rw [List.length_append]; simp; lia -abstractProof) hm' (ag.cons (by simp)) fun m' ag' => ?_
    have := h m' ag'
    rw [List.map_cons] at this
    rw [List.append_assoc]; exact this
end
end Mine
end
section
namespace Mine
set_option maxRecDepth 10000
noncomputable def pushBody : List Stmt := forBody (ifThen drawBody[6]?)[0]?
section
variable {prog : Program} {w : World} {h₀ : Heap} {σ : List MO} {kk n : Nat} {sc : Scope} {m : List (Str × Vl)} {K : Vl → List MO → Prop} {gl : Str → Option Value} {Ks : Fl → List (Str × Vl) → List MO → Prop}
  {C N : Addr} {mN : Str → Option Value} {fI fR fG fP : Addr} {t0 t1 : MO} {text : Str} {p ln : Int}
theorem push_body (Z : Md h₀ gl C N mN fI fR fG fP) {r : Str} {pb : List D} {rest : List MO} {m : List (Str × Vl)} (hl : pb.length ≤ 900) (hm : m.lookup ("lexer" : Str) = some (.m 5)) (hr : m.lookup ("row" : Str) = some (.d (.str r)))
    (h : Ks .next m (lexσ C t0 t1 text p ln (pb ++ [.str r]) rest)) : WS prog w h₀ (n + 2) (scopeOf (stAt 16)) kk m pushBody (lexσ C t0 t1 text p ln pb rest) Ks := by
  refine WS.cons (W1.expr (WE.callM Z.X.cls Z.X.qt (Z.X.dP.meth Z.X.nP o_push_token) (WE.cell hm rfl (in_eeeeaaa 5 4 7 (lexAt ln) rfl lexσ_ins rfl (WEs.cons (WE.loc hr rfl (WEs.nil ?_)))))))
  exact push_tok (n := n + 1) Z.G Z.X hl (WS.nil h)
noncomputable def turnM1 (P : Cn) (v : Nat) (e : EA) (k N : Nat) (bg : Fi) : List (Str × Vl) := ("begun", .d (.dct (P.fiD bg))) :: ("dots", .d (.int (N : Nat))) :: ("k", .d (.int k)) :: turnL P v e
noncomputable def lexB (C : Addr) (t0 t1 : MO) (text : Str) (p ln : Int) (P : Cn) (S : StA) : List MO := lexσ C t0 t1 text p ln (P.qD S.2) [.dict (P.bookD S.1)]
theorem sum5 (P : Cn) (e old : EA) (n k : Nat) : addStats (P.gE old) (.tup [.int e.ways, .int (P.start * e.w * n), .int (if k = 0 then P.start * e.w * n else 0), .int (P.start * (bothA (begunA e.fi e.w n k) k : Nat)), .dct (P.fiD (begunA e.fi e.w n k))]) =
    .tup [.int (addA old (entryA e n k)).ways, .int (P.start * (addA old (entryA e n k)).w), .int (P.start * (addA old (entryA e n k)).last), .int (P.start * (addA old (entryA e n k)).same), .dct (mergeD (P.fiD old.fi) (P.fiD (begunA e.fi e.w n k)))] := by
  show D.tup [.int ((e.ways : Int) + old.ways), .int (P.start * e.w * n + P.start * old.w), .int ((if k = 0 then P.start * e.w * n else 0) + P.start * old.last), .int (P.start * (bothA (begunA e.fi e.w n k) k : Nat) + P.start * old.same), .dct (mergeD (P.fiD old.fi) (P.fiD (begunA e.fi e.w n k)))] =
    D.tup [.int ((e.ways + old.ways : Nat) : Int), .int (P.start * ((e.w * n + old.w : Nat) : Int)), .int (P.start * (((if k = 0 then e.w * n else 0) + old.last : Nat) : Int)), .int (P.start * ((bothA (begunA e.fi e.w n k) k + old.same : Nat) : Int)), .dct (mergeD (P.fiD old.fi) (P.fiD (begunA e.fi e.w n k)))]
  have a1 : P.start * e.w * n + P.start * old.w = P.start * ((e.w * n + old.w : Nat) : Int) := by push_cast; rw [Int.mul_add, Int.mul_assoc]
  have a2 : (if k = 0 then P.start * e.w * n else 0) + P.start * old.last = P.start * (((if k = 0 then e.w * n else 0) + old.last : Nat) : Int) := by
    split
    · push_cast; rw [Int.mul_add, Int.mul_assoc]
    · push_cast; rw [Int.zero_add, Int.zero_add]
  have a3 : P.start * (bothA (begunA e.fi e.w n k) k : Nat) + P.start * old.same = P.start * ((bothA (begunA e.fi e.w n k) k + old.same : Nat) : Int) := by push_cast; rw [Int.mul_add]
  rw [a1, a2, a3]
  push_cast
  rfl
theorem rows_sum {P : Cn} (hP : P.Ok) (u : Nat) : ((P.rows u).map (·.length)).sum ≤ 18 + u / 16 + 6 := by
  have a := row_len hP 0 (u / 16)
  have b := row_len hP 1 (u / 4 % 4)
  have c := row_len hP 2 (u % 4)
  show (P.row 0 (u / 16)).length + ((P.row 1 (u / 4 % 4)).length + ((P.row 2 (u % 4)).length + 0)) ≤ _
  lia -abstractProof
/-- what the later parts of a draw know -/
structure Dr (P : Cn) (v k : Nat) (e : EA) (S : StA) (t0 t1 : MO) (kk : Nat) : Prop where
  hP : P.Ok
  hk : k < 3
  h3 : K3 e.fi
  hfi : e.fi.length ≤ 20
  v0 : v / 16 ≤ 2
  v1 : v / 4 % 4 ≤ 2
  v2 : v % 4 ≤ 2
  hb0 : t0.bd ≤ 2
  ht1 : t1 = .obj (tabOP 1 40)
  hq : S.2.length ≤ 100
  hbk : S.1.length ≤ 100
  hbf : ∀ p ∈ S.1, K3 p.2.fi ∧ p.2.fi.length ≤ 100
  hkk : kk ≤ 8
theorem Dr.hb1 {P : Cn} {v k : Nat} {e : EA} {S : StA} {kk : Nat} (x : Dr P v k e S t0 t1 kk) : t1.bd ≤ 2 := by
  rw [x.ht1]; exact Nat.le_refl _
noncomputable def Nn (P : Cn) (v k : Nat) : Nat := P.d.at k + vk v k
noncomputable def bgOf (P : Cn) (v k : Nat) (e : EA) : Fi := begunA e.fi e.w (Nn P v k) k
/-- entry, book[name] -/
theorem turn_C (Z : Md h₀ gl C N mN fI fR fG fP) {P : Cn} {v k : Nat} {e : EA} {S : StA} (X : Dr P v k e S t0 t1 kk)
    (h : ∀ m', TurnM P v e m' → Ks .next m' (lexB C t0 t1 text p ln P (turnA P.d v e k S))) {q' : List Nat} (hq' : q' = (turnA P.d v e k S).2) :
    WS prog w h₀ (n + 2) (scopeOf (stAt 16)) kk ((("name" : Str), .d (.str (P.nm (v + upk k)))) :: ("sent", .d (.lst (P.rowsD (v + upk k)))) :: ("both", .d (P.g ((kget (bgOf P v k e) k).getD (0, 0)))) :: turnM1 P v e k (Nn P v k) (bgOf P v k e)) (drawBody.drop 7) (lexσ C t0 t1 text p ln (P.qD q') [.dict (P.bookD S.1)]) Ks := by
  subst hq'
  have hP := X.hP
  have hk := X.hk
  have hd := hP.d k
  have hv := vk_le (k := k) X.v0 X.v1 X.v2
  have K3b : K3 (bgOf P v k e) := begunA_K3 X.h3 e.w (Nn P v k) hk
  have lenb : (bgOf P v k e).length ≤ e.fi.length + 1 := begunA_len e.fi e.w (Nn P v k) k
  have sumk := sum5 P e ((kget S.1 (v + upk k)).getD EA.zero) (Nn P v k) k
  have hfi := X.hfi
  have hN5 : Nn P v k ≤ 100 := by unfold Nn; lia -abstractProof
  have hold : K3 ((kget S.1 (v + upk k)).getD EA.zero).fi ∧ ((kget S.1 (v + upk k)).getD EA.zero).fi.length ≤ 100 := by
    cases hg : kget S.1 (v + upk k) with
    | none => exact ⟨K3_nil, Nat.zero_le _⟩
    | some e' => exact X.hbf _ (kget_mem hg)
  have hbothA : bothA (bgOf P v k e) k = ((kget (bgOf P v k e) k).getD (0, 0)).2 := by
    unfold bothA; cases kget (bgOf P v k e) k <;> rfl
  have e2 : begunA e.fi e.w (Nn P v k) k = bgOf P v k e := rfl
  rw [e2, hbothA] at sumk
  -- the entry
  have hC : ∀ c : Int, c = P.start * ((kget (bgOf P v k e) k).getD (0, 0)).2 → ∀ l : Int, l = (if k = 0 then P.start * e.w * Nn P v k else 0) → WS prog w h₀ (n + 2) (scopeOf (stAt 16)) kk ((("entry" : Str), .d (.tup [.int e.ways, .int (P.start * e.w * Nn P v k), .int l, .int c, .dct (P.fiD (bgOf P v k e))])) :: ("name", .d (.str (P.nm (v + upk k)))) :: ("sent", .d (.lst (P.rowsD (v + upk k)))) :: ("both", .d (P.g ((kget (bgOf P v k e) k).getD (0, 0)))) :: turnM1 P v e k (Nn P v k) (bgOf P v k e)) (drawBody.drop 8)
      (lexσ C t0 t1 text p ln (P.qD (turnA P.d v e k S).2) [.dict (P.bookD S.1)]) Ks := by
    rintro c rfl l rfl
    have hget : (dget (P.bookD S.1) (P.nm (v + upk k))).getD (P.gE EA.zero) = P.gE ((kget S.1 (v + upk k)).getD EA.zero) := by
      rw [book_get hP]; cases kget S.1 (v + upk k) <;> rfl
    have hm := merge_all P hold.1 K3b
    have hval : addStats (P.gE ((kget S.1 (v + upk k)).getD EA.zero)) (.tup [.int e.ways, .int (P.start * e.w * Nn P v k), .int (if k = 0 then P.start * e.w * Nn P v k else 0), .int (P.start * ((kget (bgOf P v k e) k).getD (0, 0)).2), .dct (P.fiD (bgOf P v k e))]) = P.gE (addA ((kget S.1 (v + upk k)).getD EA.zero) (entryA e (Nn P v k) k)) := by
      rw [sumk, hm.1]; rfl
    have hset := book_set hP S.1 (v + upk k) (addA ((kget S.1 (v + upk k)).getD EA.zero) (entryA e (Nn P v k) k))
    have hbl : (P.bookD S.1).length ≤ 1000 := by rw [Cn.bookD, cmap_length]; have := X.hbk; lia -abstractProof
    have hbd : ∀ q, ∀ y ∈ lexσ C t0 t1 text p ln q [.dict (P.bookD S.1)], y.bd ≤ (lexσ C t0 t1 text p ln q [.dict (P.bookD S.1)]).length := fun q => lexσ_bd' X.hb0 X.hb1 (by intro y hy; rw [List.mem_singleton.mp hy]; exact Nat.zero_le _)
    refine WS.cons (W1.setItem (WE.callDef Z.G Z.afs rfl rfl (WEs.cons (WE.meth (T := "dict") (id := "dict.get") PySem.F.plainAttrs_dict PySem.F.slot_dict_get PySem.F.type_dict_get (WE.loc rfl rfl ⟨ty_dict Z.G (.m (i := 7) rfl), ?_⟩)))))
    refine WEs.cons (WE.loc rfl rfl (WEs.cons (WE.tup (WEs.cons (WE.int (WEs.cons (WE.int (WEs.cons (WE.int (WEs.cons (WE.int (WEs.cons (WE.dict0d Z.G (WEs.nil ⟨_, rfl, Nat.le_of_ble_eq_true rfl, WEs.nil (WO.get3 Z.G (.m (i := 7) rfl) ?_)⟩))))))))))))))
    rw [← gE_zero P, hget]
    refine WEs.cons (WE.loc rfl rfl (WEs.nil ⟨rfl, ?_⟩))
    refine add_func_stats (tw := P.tw) (i := 1) Z.G Z.A Z.acs (hbd _) (by rw [X.ht1]; rfl) (fiD_okV P _) (fiD_okV P _) (by rw [Cn.fiD, Cn.fiD, cmap_length, cmap_length]; have := hold.2; lia -abstractProof) fun m' => ?_
    refine WE.loc rfl rfl (WE.loc rfl rfl (WU.setD (i := 7) rfl hbl (WS.nil ?_)))
    have key : lexB C t0 t1 text p ln P (turnA P.d v e k S) = lexσ C t0 t1 text p ln (P.qD (turnA P.d v e k S).2) [.dict (dset (P.bookD S.1) (P.nm (v + upk k)) (addStats (P.gE ((kget S.1 (v + upk k)).getD EA.zero)) (.tup [.int e.ways, .int (P.start * e.w * Nn P v k), .int (if k = 0 then P.start * e.w * Nn P v k else 0), .int (P.start * ((kget (bgOf P v k e) k).getD (0, 0)).2), .dct (P.fiD (bgOf P v k e))])))] := by
      rw [hval, hset]; rfl
    have hh := h ((("entry" : Str), .d (.tup [.int e.ways, .int (P.start * e.w * Nn P v k), .int (if k = 0 then P.start * e.w * Nn P v k else 0), .int (P.start * ((kget (bgOf P v k e) k).getD (0, 0)).2), .dct (P.fiD (bgOf P v k e))])) :: ("name", .d (.str (P.nm (v + upk k)))) :: ("sent", .d (.lst (P.rowsD (v + upk k)))) :: ("both", .d (P.g ((kget (bgOf P v k e) k).getD (0, 0)))) :: turnM1 P v e k (Nn P v k) (bgOf P v k e)) ⟨rfl, rfl, rfl, rfl, rfl, rfl, rfl, rfl⟩
    rw [key] at hh
    exact hh
  refine WS.cons (W1.assign (WE.tup (WEs.cons (WE.loc rfl rfl (WEs.cons (WE.bin (WE.loc rfl rfl (WE.cell rfl rfl (WO.mulI (mulR (by lia -abstractProof)) ?_)))))))))
  refine WEs.cons (WE.ite (WB.cmp (WE.loc rfl rfl (WE.int (WO.eqI ⟨_, rfl, ?_⟩)))))
  generalize hx : (kget (bgOf P v k e) k).getD (0, 0) = x at hC ⊢
  by_cases q : k = 0
  · rw [if_pos (by simp [q])]
    refine WE.bin (WE.loc rfl rfl (WE.cell rfl rfl (WO.mulI (mulR (by lia -abstractProof)) (WEs.cons (WE.ite (WB.val (WE.cell rfl rfl (WT.bool ?_))))))))
    cases htw : P.tw with
    | true =>
      rw [if_pos rfl]
      have hgx : P.g x = .tup [.int x.1, .int (P.start * x.2)] := by unfold Cn.g; rw [htw, if_pos rfl]
      refine WE.sub (WE.loc (v := .d (.tup [.int x.1, .int (P.start * x.2)])) (by rw [← hgx]; rfl) rfl (WE.int (WO.itemT (by decide) rfl (WEs.cons (WE.loc rfl rfl (WEs.nil ⟨_, rfl, Nat.le_of_ble_eq_true rfl, WN.loc rfl (hC _ rfl _ (if_pos q).symm)⟩))))))
    | false =>
      rw [if_neg Bool.false_ne_true]
      have hgx : P.g x = .int (P.start * x.2) := by unfold Cn.g; rw [htw, if_neg Bool.false_ne_true]
      refine WE.loc (v := .d (.int (P.start * x.2))) (by rw [← hgx]; rfl) rfl (WEs.cons (WE.loc rfl rfl (WEs.nil ⟨_, rfl, Nat.le_of_ble_eq_true rfl, WN.loc rfl (hC _ rfl _ (if_pos q).symm)⟩)))
  · rw [if_neg (by simpa using q)]
    refine WE.int (WEs.cons (WE.ite (WB.val (WE.cell rfl rfl (WT.bool ?_)))))
    cases htw : P.tw with
    | true =>
      rw [if_pos rfl]
      have hgx : P.g x = .tup [.int x.1, .int (P.start * x.2)] := by unfold Cn.g; rw [htw, if_pos rfl]
      refine WE.sub (WE.loc (v := .d (.tup [.int x.1, .int (P.start * x.2)])) (by rw [← hgx]; rfl) rfl (WE.int (WO.itemT (by decide) rfl (WEs.cons (WE.loc rfl rfl (WEs.nil ⟨_, rfl, Nat.le_of_ble_eq_true rfl, WN.loc rfl (hC _ rfl _ (if_neg q).symm)⟩))))))
    | false =>
      rw [if_neg Bool.false_ne_true]
      have hgx : P.g x = .int (P.start * x.2) := by unfold Cn.g; rw [htw, if_neg Bool.false_ne_true]
      refine WE.loc (v := .d (.int (P.start * x.2))) (by rw [← hgx]; rfl) rfl (WEs.cons (WE.loc rfl rfl (WEs.nil ⟨_, rfl, Nat.le_of_ble_eq_true rfl, WN.loc rfl (hC _ rfl _ (if_neg q).symm)⟩)))
/-- sent, name, is it new? -/
theorem turn_N (Z : Md h₀ gl C N mN fI fR fG fP) {P : Cn} {v k : Nat} {e : EA} {S : StA} (X : Dr P v k e S t0 t1 kk)
    (h : ∀ m', TurnM P v e m' → Ks .next m' (lexB C t0 t1 text p ln P (turnA P.d v e k S))) :
    WS prog w h₀ (n + 2) (scopeOf (stAt 16)) kk ((("both" : Str), Vl.d (P.g ((kget (bgOf P v k e) k).getD (0, 0)))) :: turnM1 P v e k (Nn P v k) (bgOf P v k e)) (drawBody.drop 4) (lexB C t0 t1 text p ln P S) Ks := by
  have hP := X.hP
  have hk := X.hk
  have hd := hP.d k
  have v0 := X.v0
  have hv := vk_le (k := k) X.v0 X.v1 X.v2
  have k0 : (0 : Int) ≤ (k : Int) := Int.natCast_nonneg k
  have h3' : (P.rowsD v).length ≤ 1000 := show 3 ≤ 1000 by decide
  refine WS.cons (W1.assign (WE.bin (WE.bin (WE.slice (WE.loc rfl rfl ⟨P.rowsD v, rfl, h3', WP.none (WP.some (WE.loc rfl rfl ⟨_, rfl, WP.none ⟨nofun, ?_⟩⟩))⟩)))))
  refine WE.lst (WEs.cons (WE.callDef Z.G Z.quot rfl rfl (WEs.cons (WE.sub (WE.loc rfl rfl (WE.loc rfl rfl (WO.itemL k0 (by simpa using rows_get P v hk) (WEs.nil ⟨rfl, ?_⟩))))))))
  refine el_eaa (row_quot hP (k := k) hv) fun z q1 q2 q3 => ?_
  have hrl := row_len hP k (vk v k)
  refine quotedata Z.G Z.Q (by lia -abstractProof) q1 q2 q3 fun _ => WEs.nil ⟨_, rfl, Nat.le_of_ble_eq_true rfl, ?_⟩
  have hs := sent_eq P hk X.v1 X.v2
  have hl1 : (dPick (P.rowsD v) none (some (k : Int)) none).length + 1 + (dPick (P.rowsD v) (some ((k : Int) + 1)) none none).length = 3 := by
    have := congrArg List.length hs
    rw [List.length_append, List.length_append] at this
    exact this
  refine WO.addL (by simp; lia -abstractProof) (WE.slice (WE.loc rfl rfl ⟨P.rowsD v, rfl, h3', WP.some (WE.bin (WE.loc rfl rfl (WE.int (WO.addI ⟨_, rfl, WP.none (WP.none ⟨nofun, ?_⟩)⟩))))⟩))
  refine WO.addL (by simp; lia -abstractProof) ?_
  rw [hs]
  refine WN.loc rfl ?_
  -- name
  refine WS.cons (W1.assign (WE.meth (T := "str") (id := "str.join") PySem.F.plainAttrs_str PySem.F.slot_str_join PySem.F.type_str_join (WE.str ⟨ty_str, WEs.cons (WE.loc rfl rfl (WEs.nil ?_))⟩)))
  refine WO.join (ys := P.rows (v + upk k)) ?_ (WN.loc rfl ?_)
  · have := rows_sum hP (v + upk k)
    have hu : (v + upk k) / 16 ≤ 3 := by
      have : upk k ≤ 16 := by unfold upk; split <;> (try split) <;> lia -abstractProof
      lia -abstractProof
    have e0 : ("" : Str).length = 0 := rfl
    rw [e0, Nat.mul_zero]; lia -abstractProof
  -- is it new?
  refine WS.cons (W1.ite (WB.cmp (WE.loc rfl rfl (WE.loc rfl rfl (WO.notInD Z.G (.m (i := 7) rfl) ⟨_, rfl, ?_⟩)))))
  rw [show (Txt.join "" (P.rows (v + upk k))) = P.nm (v + upk k) from rfl, book_get hP]
  cases hg : kget S.1 (v + upk k) with
  | some e' =>
    rw [if_neg (by simp)]
    exact WS.nil (turn_C Z X h (by unfold turnA; rw [hg]; rfl))
  | none =>
    rw [if_pos (by simp)]
    refine WS.cons (W1.for_ (WI.list (WE.loc rfl rfl ⟨P.rowsD (v + upk k), rfl, ?_⟩)))
    have em : (P.rowsD (v + upk k)).map Vl.d = (P.rows (v + upk k)).map fun r => .d (.str r) := by
      unfold Cn.rowsD; rw [List.map_map]; rfl
    rw [em]
    have hql := qD_len P S.2
    have hq := X.hq
    refine push_loop Z _ (by decide) (fun r pb m' K hl hm hr h => push_body Z hl hm hr h) rfl (P.rows (v + upk k)) (P.qD S.2) _ (by rw [hql]; show 3 * _ + 3 ≤ _; lia -abstractProof) rfl (Ag.refl _ _) fun m' ag => ?_
    refine WS.nil ?_
    rw [show P.qD S.2 ++ (P.rows (v + upk k)).map D.str = P.qD (S.2 ++ [v + upk k]) from (qD_app P S.2 _).symm]
    refine WS.norm (fun x y q => ?_) (turn_C Z X h (q' := S.2 ++ [v + upk k]) (by unfold turnA; rw [hg]; rfl))
    by_cases z : x = "row"
    · subst z; cases q
    · rw [ag x (by simpa using z)]; exact q
/-- both .. book[name] = .. -/
theorem turn_B (Z : Md h₀ gl C N mN fI fR fG fP) {P : Cn} {v k : Nat} {e : EA} {S : StA} (X : Dr P v k e S t0 t1 kk)
    (h : ∀ m', TurnM P v e m' → Ks .next m' (lexB C t0 t1 text p ln P (turnA P.d v e k S))) :
    WS prog w h₀ (n + 2) (scopeOf (stAt 16)) kk (("begun", .m 8) :: ("dots", .d (.int (Nn P v k : Nat))) :: ("k", .d (.int k)) :: turnL P v e) (drawBody.drop 3) (lexB C t0 t1 text p ln P S ++ [.dict (P.fiD (bgOf P v k e))]) Ks := by
  have hk := X.hk
  have k0 : (0 : Int) ≤ (k : Int) := Int.natCast_nonneg k
  have hbd : ∀ y ∈ lexB C t0 t1 text p ln P S, y.bd ≤ (lexB C t0 t1 text p ln P S).length := lexσ_bd' X.hb0 X.hb1 (by intro y hy; rw [List.mem_singleton.mp hy]; exact Nat.zero_le _)
  have K3b : K3 (bgOf P v k e) := begunA_K3 X.h3 e.w (Nn P v k) hk
  have hN := turn_N (prog := prog) (w := w) (n := n) Z X h
  generalize bgOf P v k e = bg at K3b hN ⊢
  refine WS.freeze Z.G (.dict _) hbd X.hkk ?_
  refine WS.norm (m' := turnM1 P v e k (Nn P v k) bg) (fun x y q => q) ?_
  refine WS.cons (W1.assign (WE.meth (T := "dict") (id := "dict.get") PySem.F.plainAttrs_dict PySem.F.slot_dict_get PySem.F.type_dict_get (WE.loc rfl rfl ⟨ty_dict Z.G (.d _), ?_⟩)))
  refine WEs.cons (WE.sub (WE.loc rfl rfl (WE.loc rfl rfl (WO.itemL k0 (by simpa using lt_at hk) ?_))))
  have hboth : (dget (P.fiD bg) (lt k)).getD (P.g (0, 0)) = P.g ((kget bg k).getD (0, 0)) := by
    rw [fi_get P K3b hk]
    cases kget bg k <;> rfl
  cases htw : P.tw with
  | true =>
    refine WEs.cons (WE.ite (WB.val (WE.cell rfl rfl (WT.bool ?_))))
    rw [htw, if_pos rfl]
    refine WE.tup (WEs.cons (WE.int (WEs.cons (WE.int (WEs.nil ⟨_, rfl, Nat.le_of_ble_eq_true rfl, WEs.nil (WO.get3 Z.G (.d _) (WN.loc rfl ?_))⟩)))))
    rw [← g_zero P htw, hboth]
    exact hN
  | false =>
    refine WEs.cons (WE.ite (WB.val (WE.cell rfl rfl (WT.bool ?_))))
    rw [htw, if_neg Bool.false_ne_true]
    refine WE.int (WEs.nil (WO.get3 Z.G (.d _) (WN.loc rfl ?_)))
    rw [← g_zero' P htw, hboth]
    exact hN
end
end Mine
end
section
namespace Mine
set_option maxRecDepth 10000
theorem TurnM.consK {P : Cn} {v : Nat} {e : EA} {m : List (Str × Vl)} (h : TurnM P v e m) (u : Vl) : TurnM P v e ((("k" : Str), u) :: m) := by
  have c : ∀ x : Str, x ≠ "k" → ((("k" : Str), u) :: m).lookup x = m.lookup x := fun x hx => by rw [lookup_cons_eq, if_neg hx]
  exact ⟨(c _ (by decide)).trans h.lexer, (c _ (by decide)).trans h.letters, (c _ (by decide)).trans h.twofold, (c _ (by decide)).trans h.book, (c _ (by decide)).trans h.mail, (c _ (by decide)).trans h.ways, (c _ (by decide)).trans h.weight, (c _ (by decide)).trans h.firsts⟩
theorem mergeA_len (t s : Fi) : (mergeA t s).length ≤ t.length + s.length := by
  unfold mergeA
  have h1 := fold_len (f := mergeStepA) (fun a p => by
    unfold mergeStepA; split <;> exact kset_length _ _ _) s (copyA t)
  have h2 := fold_len (f := fun (a : Fi) (p : Nat × Nat × Nat) => kset a p.1 p.2) (fun a p => kset_length _ _ _) t []
  have h2' : (copyA t).length ≤ t.length := by
    have h3 : (copyA t).length ≤ 0 + t.length := h2
    lia -abstractProof
  lia -abstractProof
structure TInv (j : Nat) (S : StA) : Prop where
  q : S.2.length ≤ 60 + j
  b : S.1.length ≤ 60 + j
  f : ∀ p ∈ S.1, K3 p.2.fi ∧ p.2.fi.length ≤ 20 + 21 * j
theorem TInv.turn {j : Nat} {S : StA} (x : TInv j S) (P : Cn) {v k : Nat} {e : EA} (h3 : K3 e.fi) (hl : e.fi.length ≤ 20) (hk : k < 3) : TInv (j + 1) (turnA P.d v e k S) := by
  have K3b := begunA_K3 h3 e.w (P.d.at k + vk v k) hk
  have lenb := begunA_len e.fi e.w (P.d.at k + vk v k) k
  have hold : K3 ((kget S.1 (v + upk k)).getD EA.zero).fi ∧ ((kget S.1 (v + upk k)).getD EA.zero).fi.length ≤ 20 + 21 * j := by
    cases hg : kget S.1 (v + upk k) with
    | none => exact ⟨K3_nil, Nat.zero_le _⟩
    | some e' => exact x.f _ (kget_mem hg)
  refine ⟨?_, ?_, fun p hp => ?_⟩
  · show (if (kget S.1 (v + upk k)).isSome then S.2 else S.2 ++ [v + upk k]).length ≤ _
    have := x.q
    split
    · lia -abstractProof
    · rw [List.length_append]; show _ + 1 ≤ _; lia -abstractProof
  · have := kset_length S.1 (v + upk k) (addA ((kget S.1 (v + upk k)).getD EA.zero) (entryA e (P.d.at k + vk v k) k))
    have := x.b
    show (kset _ _ _).length ≤ _
    lia -abstractProof
  · rcases kset_mem' hp with q | q
    · rw [q]
      refine ⟨(merge_all P hold.1 K3b).2, ?_⟩
      have := mergeA_len ((kget S.1 (v + upk k)).getD EA.zero).fi (begunA e.fi e.w (P.d.at k + vk v k) k)
      show (mergeA ((kget S.1 (v + upk k)).getD EA.zero).fi (begunA e.fi e.w (P.d.at k + vk v k) k)).length ≤ _
      have h4 := hold.2
      lia -abstractProof
    · have := x.f p q
      exact ⟨this.1, by lia -abstractProof⟩
/-- what a step reads -/
structure StepM (P : Cn) (m : List (Str × Vl)) : Prop where
  lexer : m.lookup ("lexer" : Str) = some (.m 5)
  letters : m.lookup ("letters" : Str) = some (.d (.lst [.str "a", .str "\"", .str "\\"]))
  twofold : m.lookup ("twofold" : Str) = some (.d (.bool P.tw))
  book : m.lookup ("book" : Str) = some (.m 7)
noncomputable def stepL (P : Cn) : List (Str × Vl) := [("lexer", .m 5), ("letters", .d (.lst [.str "a", .str "\"", .str "\\"])), ("twofold", .d (.bool P.tw)), ("book", .m 7)]
theorem StepM.norm {P : Cn} {m : List (Str × Vl)} (h : StepM P m) : ∀ x y, (stepL P).lookup x = some y → m.lookup x = some y := fun x y q => by
  unfold stepL at q
  simp only [lookup_cons_eq] at q
  split at q
  · rename_i z; cases q; rw [z]; exact h.lexer
  split at q
  · rename_i z; cases q; rw [z]; exact h.letters
  split at q
  · rename_i z; cases q; rw [z]; exact h.twofold
  split at q
  · rename_i z; cases q; rw [z]; exact h.book
  · cases q
theorem StepM.cons {P : Cn} {m : List (Str × Vl)} (h : StepM P m) (u : Vl) : StepM P ((("step" : Str), u) :: m) := by
  have c : ∀ x : Str, x ≠ "step" → ((("step" : Str), u) :: m).lookup x = m.lookup x := fun x hx => by rw [lookup_cons_eq, if_neg hx]
  exact ⟨(c _ (by decide)).trans h.lexer, (c _ (by decide)).trans h.letters, (c _ (by decide)).trans h.twofold, (c _ (by decide)).trans h.book⟩
theorem TurnM.step {P : Cn} {v : Nat} {e : EA} {m : List (Str × Vl)} (h : TurnM P v e m) : StepM P m := ⟨h.lexer, h.letters, h.twofold, h.book⟩
theorem stepA_some {d : Dots} {S S' : StA} (h : stepA d S = some S') : ∃ v q e, S.2 = v :: q ∧ kget S.1 v = some e ∧ okA (S.1, q) v = true ∧ S' = turnA d v e 2 (turnA d v e 1 (turnA d v e 0 (S.1, q))) := by
  unfold stepA at h
  split at h
  · cases h
  · rename_i v q hq
    split at h
    · cases h
    · rename_i e he
      split at h
      · rename_i hok
        cases h
        exact (in_eeeaaa v q e hq he hok rfl)
      · cases h
theorem okA_all {S : StA} {v : Nat} (h : okA S v = true) : TInv 0 S ∧ v / 16 ≤ 2 ∧ v / 4 % 4 ≤ 2 ∧ v % 4 ≤ 2 := by
  unfold okA at h
  simp only [Bool.and_eq_true, List.all_eq_true, decide_eq_true_eq] at h
  obtain ⟨⟨⟨⟨⟨h1, h2⟩, h3⟩, h4⟩, h5⟩, h6⟩ := h
  exact ⟨⟨by lia -abstractProof, by lia -abstractProof, fun p hp => ⟨fun q hq => (h1 p hp).2 q hq, by have := (h1 p hp).1.2; lia -abstractProof⟩⟩, h4, h5, h6⟩
section
variable {prog : Program} {w : World} {h₀ : Heap} {σ : List MO} {kk n : Nat} {sc : Scope} {m : List (Str × Vl)} {K : Vl → List MO → Prop} {gl : Str → Option Value} {Ks : Fl → List (Str × Vl) → List MO → Prop}
  {C N : Addr} {mN : Str → Option Value} {fI fR fG fP : Addr} {t0 t1 : MO} {text : Str} {p ln : Int}
/-- one draw, whole -/
theorem turn_all (Z : Md h₀ gl C N mN fI fR fG fP) {P : Cn} (hP : P.Ok) {v k j : Nat} {e : EA} {S : StA} (I : TInv j S) (hj : j ≤ 3) (hk : k < 3) (h3 : K3 e.fi) (hfi : e.fi.length ≤ 20) (v0 : v / 16 ≤ 2) (v1 : v / 4 % 4 ≤ 2) (v2 : v % 4 ≤ 2)
    (hb0 : t0.bd ≤ 2) (ht1 : t1 = .obj (tabOP 1 40)) (hkk : kk ≤ 8) (hm : TurnM P v e m)
    (h : ∀ m', TurnM P v e m' → Ks .next m' (lexB C t0 t1 text p ln P (turnA P.d v e k S))) :
    WS prog w h₀ (n + 2) (scopeOf (stAt 16)) kk ((("k" : Str), .d (.int k)) :: m) drawBody (lexB C t0 t1 text p ln P S) Ks := by
  have X : Dr P v k e S t0 t1 kk := ⟨hP, hk, h3, hfi, v0, v1, v2, hb0, ht1, by have := I.q; lia -abstractProof, by have := I.b; lia -abstractProof, fun p hp => ⟨(I.f p hp).1, by have := (I.f p hp).2; lia -abstractProof⟩, hkk⟩
  refine WS.norm ((hm.consK _).norm rfl) ?_
  refine turn_A Z hP hk h3 hfi (vk_le v0 v1 v2) (lexσ_bd' hb0 X.hb1 (by intro y hy; rw [List.mem_singleton.mp hy]; exact Nat.zero_le _)) ?_
  exact turn_B Z X h
/-- one step -/
theorem step_walk (Z : Md h₀ gl C N mN fI fR fG fP) {P : Cn} (hP : P.Ok) {S S' : StA} (hS : stepA P.d S = some S') (hb0 : t0.bd ≤ 2) (ht1 : t1 = .obj (tabOP 1 40)) (hkk : kk ≤ 8) (hm : StepM P m)
    (h : ∀ m', StepM P m' → Ks .next m' (lexB C t0 t1 text p ln P S')) :
    WS prog w h₀ (n + 2) (scopeOf (stAt 16)) kk m stepBody (lexB C t0 t1 text p ln P S) Ks := by
  refine el_eeeaaa (stepA_some hS) fun v q e hq he hok zq6 => ?_; subst zq6
  refine el_aaa (okA_all hok) fun I v0 v1 v2 => ?_
  obtain ⟨B, Q⟩ := S
  have hq' : Q = v :: q := hq
  subst hq'
  have hE := I.f _ (kget_mem he)
  have h20 : e.fi.length ≤ 20 := by have := hE.2; simpa using this
  have hlen := qD_len P q
  have hql := I.q
  have hql' : q.length ≤ 60 := hql
  refine WS.norm hm.norm ?_
  have hpop : ∀ (pb : List D) (r : Str) (K : Vl → List MO → Prop), pb.length ≤ 900 → K (.d (.str r)) (lexσ C t0 t1 text p ln pb [.dict (P.bookD B)]) → WO prog w h₀ (n + 2) [.m 5] (fun us => call (.ref fG) us) (lexσ C t0 t1 text p ln (.str r :: pb) [.dict (P.bookD B)]) K := fun pb r K hl hK => get_pop (n := n + 1) Z.G Z.X hl hK
  refine WS.cons (W1.comp rfl (WI.range1 (WE.glob Z.G Z.L.range rfl ⟨rfl, WE.int ⟨3, rfl, by decide, ?_⟩⟩)) (swapsL rfl rfl rfl))
  refine WE.callM0 Z.X.cls Z.X.qt (Z.X.dG.meth Z.X.nG o_get_token) (WE.cell rfl rfl (in_eeeeaaa 5 4 7 (lexAt ln) rfl lexσ_ins rfl ?_))
  refine hpop (.str (P.row 1 (v / 4 % 4)) :: .str (P.row 2 (v % 4)) :: P.qD q) (P.row 0 (v / 16)) _ (by simp [hlen]; lia -abstractProof) ⟨_, rfl, Nat.zero_le _, ?_⟩
  refine WE.callM0 Z.X.cls Z.X.qt (Z.X.dG.meth Z.X.nG o_get_token) (WE.cell rfl rfl (in_eeeeaaa 5 4 7 (lexAt ln) rfl lexσ_ins rfl ?_))
  refine hpop (.str (P.row 2 (v % 4)) :: P.qD q) (P.row 1 (v / 4 % 4)) _ (by simp [hlen]; lia -abstractProof) ⟨_, rfl, Nat.le_of_ble_eq_true rfl, ?_⟩
  refine WE.callM0 Z.X.cls Z.X.qt (Z.X.dG.meth Z.X.nG o_get_token) (WE.cell rfl rfl (in_eeeeaaa 5 4 7 (lexAt ln) rfl lexσ_ins rfl ?_))
  refine hpop (P.qD q) (P.row 2 (v % 4)) _ (by rw [hlen]; lia -abstractProof) ⟨_, rfl, Nat.le_of_ble_eq_true rfl, ?_⟩
  refine WN.loc rfl ?_
  -- ways, weight, last, same, firsts
  have hget : dget (P.bookD B) (P.nm v) = some (P.gE e) := by rw [book_get hP, he]; rfl
  refine WS.cons (W1.unpack5 (WE.sub (WE.loc rfl rfl (WE.meth (T := "str") (id := "str.join") PySem.F.plainAttrs_str PySem.F.slot_str_join PySem.F.type_str_join (WE.str ⟨ty_str, WEs.cons (WE.loc rfl rfl (WEs.nil ?_))⟩)))))
  refine WO.join (ys := P.rows v) ?_ (WO.itemD Z.G (.m (i := 7) rfl) hget (in_eeeeea _ _ _ _ _ rfl ?_))
  · have := rows_sum hP v
    have e0 : ("" : Str).length = 0 := rfl
    rw [e0, Nat.mul_zero]; lia -abstractProof
  refine WN.loc rfl (WN.loc rfl (WN.loc rfl (WN.loc rfl (WN.cell rfl ?_))))
  refine WS.cons (W1.for_ (WI.range1 (WE.glob Z.G Z.L.range rfl ⟨rfl, WE.int ⟨3, rfl, by decide, ?_⟩⟩)))
  have I1 := I.turn P (v := v) (k := 0) hE.1 h20 (by decide)
  have I2 := I1.turn P (v := v) (k := 1) hE.1 h20 (by decide)
  refine WN.loc rfl (turn_all (S := (B, q)) (k := 0) Z hP I (by decide) (by decide) hE.1 h20 v0 v1 v2 hb0 ht1 hkk ⟨rfl, rfl, rfl, rfl, rfl, rfl, rfl, rfl⟩ fun m1 T1 => ?_)
  refine WN.loc rfl (turn_all (k := 1) Z hP I1 (by decide) (by decide) hE.1 h20 v0 v1 v2 hb0 ht1 hkk T1 fun m2 T2 => ?_)
  refine WN.loc rfl (turn_all (k := 2) Z hP I2 (by decide) (by decide) hE.1 h20 v0 v1 v2 hb0 ht1 hkk T2 fun m3 T3 => ?_)
  exact WS.nil (h m3 T3.step)
/-- all steps -/
theorem steps_walk (Z : Md h₀ gl C N mN fI fR fG fP) {P : Cn} (hP : P.Ok) (hb0 : t0.bd ≤ 2) (ht1 : t1 = .obj (tabOP 1 40)) (hkk : kk ≤ 8) {Sf : StA} (h : ∀ m', StepM P m' → Ks .next m' (lexB C t0 t1 text p ln P Sf)) :
    ∀ (N : Nat) (a : Int) (S : StA) (m : List (Str × Vl)), runA P.d N S = some Sf → StepM P m → WL prog w h₀ (n + 2) (scopeOf (stAt 16)) kk "step" stepBody (nums a 1 N) m (lexB C t0 t1 text p ln P S) Ks
  | 0, a, S, m, hr, hm => by
    cases hr
    exact h m hm
  | N + 1, a, S, m, hr, hm => by
    unfold runA at hr
    cases hs : stepA P.d S with
    | none => rw [hs] at hr; cases hr
    | some S' =>
      rw [hs] at hr
      refine WN.loc rfl (step_walk Z hP hs hb0 ht1 hkk (hm.cons _) fun m' hm' => ?_)
      exact steps_walk Z hP hb0 ht1 hkk h N (a + 1) S' m' hr hm'
theorem push_body0 (Z : Md h₀ gl C N mN fI fR fG fP) {r : Str} {pb : List D} {rest : List MO} {m : List (Str × Vl)} (hl : pb.length ≤ 900) (hm : m.lookup ("lexer" : Str) = some (.m 5)) (hr : m.lookup ("row" : Str) = some (.d (.str r)))
    (h : Ks .next m (lexσ C t0 t1 text p ln (pb ++ [.str r]) rest)) : WS prog w h₀ (n + 2) (scopeOf (stAt 16)) kk m (forBody (bodyOf (stAt 16))[1]?) (lexσ C t0 t1 text p ln pb rest) Ks := by
  refine WS.cons (W1.expr (WE.callM Z.X.cls Z.X.qt (Z.X.dP.meth Z.X.nP o_push_token) (WE.cell hm rfl (in_eeeeaaa 5 4 7 (lexAt ln) rfl lexσ_ins rfl (WEs.cons (WE.loc hr rfl (WEs.nil ?_)))))))
  exact push_tok (n := n + 1) Z.G Z.X hl (WS.nil h)
set_option maxHeartbeats 2000000 in
/-- _law_drawn -/
theorem law_drawn (Z : Md h₀ gl C N mN fI fR fG fP) {P : Cn} (hP : P.Ok) (hb0 : t0.bd ≤ 2) (ht1 : t1 = .obj (tabOP 1 40)) (hkk : kk ≤ 7) {draws : Nat} (hdr : draws = 2 ∨ draws = 3) {Sf : StA} (hr : runA P.d (stepsOf draws) S₀ = some Sf) (h : ∀ m', Ks (.ret (.m 7)) m' (lexB C t0 t1 text p ln P Sf)) :
    WS prog w h₀ (n + 2) (scopeOf (stAt 16)) kk [("lexer", .m 5), ("rows", .d (.lst (P.rowsD 0))), ("letters", .d (.lst [.str "a", .str "\"", .str "\\"])), ("start", .d (.int P.start)), ("draws", .d (.int draws)), ("twofold", .d (.bool P.tw))] (bodyOf (stAt 16)) (lexσ C t0 t1 text p ln [] []) Ks := by
  have hb1 : t1.bd ≤ 2 := by rw [ht1]; exact Nat.le_refl _
  have hsum := rows_sum hP 0
  have hlen : (P.rows 0).length = 3 := rfl
  have hnm : Txt.join "" (P.rows 0) = P.nm 0 := rfl
  have hq0 : (P.rows 0).map D.str = P.qD [0] := by unfold Cn.qD; simp [Cn.rowsD]
  rw [show P.rowsD 0 = (P.rows 0).map D.str from rfl]
  generalize P.rows 0 = rs at hsum hlen hnm hq0 ⊢
  refine WS.cons (W1.assign (WE.dict1 (WE.meth (T := "str") (id := "str.join") PySem.F.plainAttrs_str PySem.F.slot_str_join PySem.F.type_str_join (WE.str ⟨ty_str, WEs.cons (WE.loc rfl rfl (WEs.nil ?_))⟩))))
  refine WO.join (ys := rs) ?_ ⟨_, rfl, ?_⟩
  · have e0 : ("" : Str).length = 0 := rfl
    rw [e0, Nat.mul_zero]; lia -abstractProof
  have hbd : ∀ y ∈ lexσ C t0 t1 text p ln [] [], y.bd ≤ (lexσ C t0 t1 text p ln [] []).length := lexσ_bd' hb0 hb1 (fun _ h => nomatch h)
  refine WE.tup (WEs.cons (WE.int (WEs.cons (WE.loc rfl rfl (WEs.cons (WE.int ?_))))))
  refine WEs.cons (WE.int (WEs.cons (WE.dict0d Z.G ?_)))
  refine WEs.nil ⟨_, rfl, Nat.le_of_ble_eq_true rfl, _, rfl, hbd, ?_⟩
  refine WN.loc rfl ?_
  have e1 : (.tup [.int 1, .int P.start, .int 0, .int 0, .dct []] : D) = P.gE ⟨1, 1, 0, 0, []⟩ := by
    show _ = D.tup [.int 1, .int (P.start * 1), .int (P.start * 0), .int (P.start * 0), .dct []]
    rw [Int.mul_one, Int.mul_zero]
  rw [e1, hnm]
  have hbook : [(P.nm 0, P.gE ⟨1, 1, 0, 0, []⟩)] = P.bookD S₀.1 := rfl
  rw [hbook]
  refine WS.cons (W1.for_ (WI.list (WE.loc rfl rfl ⟨rs.map .str, rfl, ?_⟩)))
  have em : (rs.map D.str).map Vl.d = rs.map fun r => .d (.str r) := by rw [List.map_map]; rfl
  rw [em]
  refine push_loop Z _ (by decide) (fun r pb m' K hl hm hr h => push_body0 Z hl hm hr h) rfl rs [] _ (by show 0 + _ ≤ _; lia -abstractProof) rfl (Ag.refl _ _) fun m' ag => ?_
  rw [List.nil_append, hq0]
  refine WS.cons (W1.for_ (WI.range1 (WE.glob Z.G Z.L.range rfl ⟨rfl, WE.ite (WB.cmp (WE.loc (ag.get rfl) rfl (WE.int (WO.eqI ⟨_, rfl, ?_⟩))))⟩)))
  have hm' : StepM P m' := ⟨ag.get rfl, ag.get rfl, ag.get rfl, ag.get rfl⟩
  have fin : WL prog w h₀ (n + 2) (scopeOf (stAt 16)) kk "step" stepBody (nums 0 1 (stepsOf draws)) m' (lexB C t0 t1 text p ln P S₀) (fun fl m₁ σ₁ => match fl with
    | .next => WS prog w h₀ (n + 2) (scopeOf (stAt 16)) kk m₁ ((bodyOf (stAt 16)).drop 3) σ₁ Ks
    | fl => Ks fl m₁ σ₁) := by
    refine steps_walk Z hP hb0 ht1 (by lia -abstractProof) (fun m2 h2 => ?_) _ _ _ _ hr hm'
    exact WS.cons (W1.ret (WE.loc h2.book rfl (h _)))
  rcases hdr with rfl | rfl
  · rw [if_neg (by decide)]
    exact WE.int ⟨4, rfl, by decide, fin⟩
  · rw [if_pos (by decide)]
    exact WE.int ⟨10, rfl, by decide, fin⟩
end
end Mine
end
section
open PySem.Builtin.Str (occurrences)
namespace Mine
set_option maxRecDepth 10000
theorem count_one (x : Str) (c : Nat) : Txt.count x (one c) = ((x.cps.toList.count c : Nat) : Int) := by
  have hL : x.cps.toList.length = x.length := by simp [Str.length]
  have key : ∀ (rest : List Nat) (i : Nat) (found : Array Nat) (free : Nat), x.cps.toList.drop i = rest → i + rest.length = x.length → free ≤ i → found.size ≤ i →
      (forIn (List.range' i (rest.length + 1)) (found, free) (StrLaws.occBody x (one c) x.length (x.length + 1))).run.fst.size = found.size + rest.count c := by
    intro rest
    induction rest with
    | nil =>
      intro i found free hd hl hf hs
      simp only [List.length_nil, Nat.add_zero] at hl
      rw [List.length_nil, List.range'_succ, List.range'_zero, List.forIn_cons]
      unfold StrLaws.occBody
      rw [if_neg]
      · rfl
      · intro h
        have := h.1.2
        rw [one_len] at this
        lia -abstractProof
    | cons a r ih =>
      intro i found free hd hl hf hs
      simp only [List.length_cons] at hl
      have hg : x.cps.toList[i]? = some a := by
        have : (x.cps.toList.drop i)[0]? = some a := by rw [hd]; rfl
        rw [List.getElem?_drop] at this; exact this
      have hd' : x.cps.toList.drop (i + 1) = r := by
        rw [← List.drop_drop, hd]; rfl
      rw [List.length_cons, List.range'_succ, List.forIn_cons]
      have hsub := StrLaws.subAt_one x c i
      unfold StrLaws.occBody
      by_cases q : a = c
      · have h2 := hsub.mpr (by rw [hg, q])
        rw [if_pos ⟨⟨⟨by show found.size < x.length + 1; lia -abstractProof, hf⟩, h2.1⟩, h2.2⟩]
        have := ih (i + 1) (found.push i) (i + (one c).length) hd' (by lia -abstractProof) (by rw [one_len]; lia -abstractProof) (by simp; lia -abstractProof)
        rw [Array.size_push] at this
        rw [List.count_cons]
        simp only [q, beq_self_eq_true, if_true]
        refine Eq.trans this ?_
        lia -abstractProof
      · rw [if_neg]
        · have := ih (i + 1) found free hd' (by lia -abstractProof) (by lia -abstractProof) (by lia -abstractProof)
          rw [List.count_cons]
          have hb : (a == c) = false := by simpa using q
          rw [hb]
          exact this
        · intro h
          have := hsub.mp ⟨h.1.2, h.2⟩
          rw [hg] at this
          exact q (Option.some.inj this)
  unfold Txt.count
  rw [StrLaws.occ_eq]
  have := key x.cps.toList 0 #[] 0 rfl (by lia -abstractProof) (Nat.le_refl _) (Nat.le_refl _)
  rw [hL] at this
  have e : (forIn (List.range' 0 (x.length + 1 - 0)) ((#[] : Array Nat), 0) (StrLaws.occBody x (one c) x.length (x.length + 1))).run.fst.toList.length = x.cps.toList.count c := by
    rw [Array.length_toList]
    simpa using this
  rw [e]
/-! the spelled rows -/
noncomputable def spell (w : List Nat) (b : Bool) : List Nat := if b = true then escB w ++ [32] else 34 :: (escQ w ++ [34, 32])
noncomputable def spellOk (d : Nat) (l e : Str) (b : Bool) : Bool :=
  decide ((spelled (dotsRow d l e) b).cps.toList = spell (dotsRow d l e).cps.toList b) && decide ((dotsRow d l e).length ≤ 100) && decide ((Txt.replace (dotsRow d l e) "\\" "\\\\").length ≤ 1000) &&
    decide ((Txt.replace (Txt.replace (dotsRow d l e) "\\" "\\\\") "\"" "\\\"").length ≤ 1000) && decide ((bareOf (dotsRow d l e)).length ≤ 1000) && decide ((spelled (dotsRow d l e) b).length ≤ 1000)
theorem spell_all : ∀ d ∈ [1, 2, 3], ∀ l ∈ [("a" : Str), ("\"" : Str), ("\\" : Str)], ∀ e ∈ [("\n" : Str), ("\r" : Str), ("\r\n" : Str)], ∀ b ∈ [true, false], spellOk d l e b = true := by decide +kernel
end Mine
end
section
namespace Mine
set_option maxRecDepth 10000
/-! ### law: what it draws from the script -/
noncomputable def iPick (ns : List Int) (k : Int) : List Int := (sliceRange (sliceBounds (some k) none (some 3) ns.length).1 (sliceBounds (some k) none (some 3) ns.length).2.1 (sliceBounds (some k) none (some 3) ns.length).2.2).filterMap (ns[·]?)
theorem pick_map (ns : List Int) (k : Int) : dPick (ns.map D.int) (some k) none (some 3) = (iPick ns k).map D.int := by
  unfold dPick iPick
  rw [List.length_map, List.map_filterMap]
  congr 1
  funext i
  rw [List.getElem?_map]
noncomputable def baseOf (k : Nat) : Int := if k = 0 then 1 else if k = 1 then 14 else 6
noncomputable def cellOf (ns : List Int) (k : Nat) : Int := baseOf k + (iPick ns k).sum
noncomputable def endOf (c : Int) : Str := if (c.fdiv 3).fmod 3 = 0 then "\n" else if (c.fdiv 3).fmod 3 = 1 then "\r" else "\r\n"
noncomputable def dotOf (c : Int) : Nat := (c.fmod 3 + 1).toNat
theorem dotOf_eq (c : Int) : ((dotOf c : Nat) : Int) = c.fmod 3 + 1 := by
  have h1 := Int.fmod_nonneg_of_pos c (show (0 : Int) < 3 by decide)
  unfold dotOf; lia
theorem dotOf_b (c : Int) : 1 ≤ dotOf c ∧ dotOf c ≤ 3 := by
  have h1 := Int.fmod_nonneg_of_pos c (show (0 : Int) < 3 by decide)
  have h2 := Int.fmod_lt_of_pos c (show (0 : Int) < 3 by decide)
  unfold dotOf; lia
theorem endOf_get (c : Int) : ([.str "\n", .str "\r", .str "\r\n"] : List D)[((c.fdiv 3).fmod 3).toNat]? = some (.str (endOf c)) := by
  have h1 := Int.fmod_nonneg_of_pos (c.fdiv 3) (show (0 : Int) < 3 by decide)
  have h2 := Int.fmod_lt_of_pos (c.fdiv 3) (show (0 : Int) < 3 by decide)
  have h : (c.fdiv 3).fmod 3 = 0 ∨ (c.fdiv 3).fmod 3 = 1 ∨ (c.fdiv 3).fmod 3 = 2 := by lia
  unfold endOf
  rcases h with h | h | h <;> rw [h] <;> rfl
theorem endOf_is (c : Int) : isEnd (endOf c) := by
  unfold endOf
  split
  · exact .inl rfl
  · split
    · exact .inr (.inl rfl)
    · exact .inr (.inr rfl)
noncomputable def cnOf (ns : List Int) : Cn := ⟨⟨dotOf (cellOf ns 0), dotOf (cellOf ns 1), dotOf (cellOf ns 2)⟩, endOf (cellOf ns 0), endOf (cellOf ns 1), endOf (cellOf ns 2), ns.sum.fmod 2 == 1, 2 * ns.sum + 1⟩
noncomputable def drawsOf (ns : List Int) : Nat := if ns.sum.fmod 3 == 1 then 2 else 3
theorem cnOf_ok (ns : List Int) : (cnOf ns).Ok := by
  refine ⟨fun k => ?_, fun k => ?_⟩
  · unfold Cn.e; split
    · exact endOf_is _
    · split
      · exact endOf_is _
      · exact endOf_is _
  · unfold Dots.at; split
    · exact dotOf_b _
    · split
      · exact dotOf_b _
      · exact dotOf_b _
theorem swapsC {elt iter : Expr} {x y : Str} {px pos py : Pos} {scope sc : Scope} {line : Nat} (hy : sc.names.lookup y = some .cell) :
    ∀ env, EnvIs sc env → swapsWith (.ListComp elt [⟨.Name x px, iter, [], 0⟩] scope pos) (some (.Name y py)) line env = pure false := fun env hE => by
  unfold swapsWith
  show (pure (env.blockKind == .function && env.kindOf y == some .local && py.line == pos.line && !(scope.names.any fun p => p.1 == y && (p.2 == .local || p.2 == .cell))) : Sem Bool) = pure false
  have h2 : env.kindOf y = some .cell := by unfold Env.kindOf; rw [hE.scope]; exact hy
  rw [h2]
  have : ((some NameKind.cell : Option NameKind) == some .local) = false := by decide
  rw [this]; simp
noncomputable def cellsD (ns : List Int) : D := .lst [.int (cellOf ns 0), .int (cellOf ns 1), .int (cellOf ns 2)]
noncomputable def dotsD (ns : List Int) : D := .lst [.int ((cnOf ns).d.a : Nat), .int ((cnOf ns).d.b : Nat), .int ((cnOf ns).d.c : Nat)]
noncomputable def lettersD : D := .lst [.str "a", .str "\"", .str "\\"]
noncomputable def rowsL (ns : List Int) : D := .lst ((cnOf ns).rowsD 0)
noncomputable def lawM1 (ns : List Int) : List (Str × Vl) := [("rows", .d (rowsL ns)), ("dots", .d (dotsD ns)), ("letters", .d lettersD), ("start", .d (.int (2 * ns.sum + 1))), ("twofold", .d (.bool (ns.sum.fmod 2 == 1))), ("draws", .d (.int (drawsOf ns))), ("cells", .d (cellsD ns)), ("script", .d (.lst (ns.map .int)))]
section
variable {prog : Program} {w : World} {h₀ : Heap} {σ : List MO} {kk n : Nat} {sc : Scope} {m : List (Str × Vl)} {K : Vl → List MO → Prop} {gl : Str → Option Value} {Ks : Fl → List (Str × Vl) → List MO → Prop}
  {C N : Addr} {mN : Str → Option Value} {fI fR fG fP : Addr} {t0 t1 : MO} {text : Str} {p ln : Int}
theorem cell_turn (Z : Md h₀ gl C N mN fI fR fG fP) {ns : List Int} {k : Nat} (hk : k < 3) (hl : ns.length ≤ 63) {acc : List D} {elt : Expr} {x : Nat} :
    ∀ i : Int, i = k → ([.int 1, .int 14, .int 6] : List D)[i.toNat]? = some (.int (baseOf k)) := fun i hi => by
  subst hi
  have : k = 0 ∨ k = 1 ∨ k = 2 := by lia
  rcases this with rfl | rfl | rfl <;> rfl
theorem law_cells (Z : Md h₀ gl C N mN fI fR fG fP) {ns : List Int} (hl : ns.length ≤ 63)
    (h : WS prog w h₀ (n + 1) (scopeOf (stAt 19)) kk [("cells", .d (cellsD ns)), ("script", .d (.lst (ns.map .int)))] ((bodyOf (stAt 19)).drop 1) σ Ks) :
    WS prog w h₀ (n + 1) (scopeOf (stAt 19)) kk [("script", .d (.lst (ns.map .int)))] (bodyOf (stAt 19)) σ Ks := by
  have h63 : (ns.map D.int).length ≤ 1000 := by rw [List.length_map]; lia
  refine WS.cons (W1.assignC (WE.comp rfl (WI.range1 (WE.glob Z.G Z.L.range rfl ⟨rfl, WE.int ⟨3, rfl, by decide, ?_⟩⟩))) (swapsC rfl))
  refine WC.inv (fun vs σ' acc => ∃ j : Nat, j ≤ 3 ∧ vs = nums j 1 (3 - j) ∧ acc = ([.int (cellOf ns 0), .int (cellOf ns 1), .int (cellOf ns 2)] : List D).take j ∧ σ' = σ) ?_ ?_ _ _ _ ⟨0, Nat.zero_le _, rfl, rfl, rfl⟩
  · rintro v vs σ' acc ⟨j, hj, e, rfl, rfl⟩
    have hj' : j < 3 := by
      rcases Nat.lt_or_ge j 3 with q | q
      · exact q
      · have : 3 - j = 0 := by lia
        rw [this] at e; cases e
    have e3 : 3 - j = (3 - (j + 1)) + 1 := by lia
    rw [e3] at e
    cases e
    refine WE.bin (WE.sub (WE.tup (WEs.cons (WE.int (WEs.cons (WE.int (WEs.cons (WE.int (WEs.nil ⟨_, rfl, Nat.le_of_ble_eq_true rfl, WE.loc rfl rfl (WO.itemT (Int.natCast_nonneg j) (cell_turn (acc := []) (elt := default) (x := 0) Z hj' hl _ rfl) ?_)⟩)))))))))
    refine WE.callBi (WE.glob Z.G Z.L.sum rfl ⟨rfl, WEs.cons (WE.slice (WE.cell rfl rfl ⟨_, rfl, h63, WP.some (WE.loc rfl rfl ⟨_, rfl, WP.none (WP.some (WE.int ⟨_, rfl, by simp, ?_⟩))⟩)⟩))⟩)
    rw [pick_map]
    refine WEs.nil (WO.sumL (WO.addI (in_eaaeaaa _ rfl (by simp; lia) (j + 1) hj' ?_ ?_ rfl)))
    · push_cast; rfl
    · have : j = 0 ∨ j = 1 ∨ j = 2 := by lia
      rcases this with rfl | rfl | rfl <;> rfl
  · rintro σ' acc ⟨j, hj, e, rfl, rfl⟩
    have hj' : j = 3 := by
      rcases Nat.lt_or_ge j 3 with q | q
      · have e3 : 3 - j = (3 - (j + 1)) + 1 := by lia
        rw [e3] at e; cases e
      · lia
    subst hj'
    exact WN.cell rfl h
end
end Mine
end
section
namespace Mine
set_option maxRecDepth 10000
theorem cn_at (ns : List Int) {k : Nat} (hk : k < 3) : (cnOf ns).d.at k = dotOf (cellOf ns k) ∧ (cnOf ns).e k = endOf (cellOf ns k) := by
  have : k = 0 ∨ k = 1 ∨ k = 2 := by lia -abstractProof
  rcases this with rfl | rfl | rfl <;> exact ⟨rfl, rfl⟩
theorem three {x y z : D} {k : Nat} (hk : k < 3) (f : Nat → D) (h0 : f 0 = x) (h1 : f 1 = y) (h2 : f 2 = z) : ([x, y, z] : List D)[k]? = some (f k) := by
  have : k = 0 ∨ k = 1 ∨ k = 2 := by lia -abstractProof
  rcases this with rfl | rfl | rfl
  · rw [h0]; rfl
  · rw [h1]; rfl
  · rw [h2]; rfl
section
variable {prog : Program} {w : World} {h₀ : Heap} {σ : List MO} {kk n : Nat} {sc : Scope} {m : List (Str × Vl)} {K : Vl → List MO → Prop} {gl : Str → Option Value} {Ks : Fl → List (Str × Vl) → List MO → Prop}
  {C N : Addr} {mN : Str → Option Value} {fI fR fG fP : Addr} {t0 t1 : MO} {text : Str} {p ln : Int}
noncomputable def lawM0 (ns : List Int) : List (Str × Vl) := [("letters", .d lettersD), ("start", .d (.int (2 * ns.sum + 1))), ("twofold", .d (.bool (ns.sum.fmod 2 == 1))), ("draws", .d (.int (drawsOf ns))), ("total", .d (.int ns.sum)), ("cells", .d (cellsD ns)), ("script", .d (.lst (ns.map .int)))]
theorem law_nums (Z : Md h₀ gl C N mN fI fR fG fP) {ns : List Int} (h : WS prog w h₀ (n + 1) (scopeOf (stAt 19)) kk (lawM0 ns) ((bodyOf (stAt 19)).drop 6) σ Ks) :
    WS prog w h₀ (n + 1) (scopeOf (stAt 19)) kk [("cells", .d (cellsD ns)), ("script", .d (.lst (ns.map .int)))] ((bodyOf (stAt 19)).drop 1) σ Ks := by
  refine WS.cons (W1.assign (WE.callBi (WE.glob Z.G Z.L.sum rfl ⟨rfl, WEs.cons (WE.cell rfl rfl (WEs.nil (WO.sumL (WN.loc rfl ?_))))⟩)))
  refine WS.cons (W1.assign (WE.ite (WB.cmp (WE.bin (WE.loc rfl rfl (WE.int (WO.modI (by decide) (WE.int (WO.eqI ⟨_, rfl, ?_⟩)))))))))
  have hd : ∀ d : Int, d = (drawsOf ns : Nat) → WS prog w h₀ (n + 1) (scopeOf (stAt 19)) kk ((("draws" : Str), .d (.int d)) :: ("total", .d (.int ns.sum)) :: [("cells", .d (cellsD ns)), ("script", .d (.lst (ns.map .int)))]) ((bodyOf (stAt 19)).drop 3) σ Ks := by
    rintro d rfl
    refine WS.cons (W1.assign (WE.cmp (WE.bin (WE.loc rfl rfl (WE.int (WO.modI (by decide) (WE.int (WO.eqI (WN.loc rfl ?_)))))))))
    refine WS.cons (W1.assign (WE.bin (WE.bin (WE.int (WE.loc rfl rfl (WO.mulI (.of_left (bits_small (by decide))) (WE.int (WO.addI (WN.loc rfl ?_)))))))))
    refine WS.cons (W1.assign (WE.lst (WEs.cons (WE.str (WEs.cons (WE.str (WEs.cons (WE.str (WEs.nil ⟨_, rfl, Nat.le_of_ble_eq_true rfl, WN.cell rfl ?_⟩)))))))))
    exact h
  cases q : (ns.sum.fmod 3 == 1) with
  | true =>
    rw [if_pos rfl]
    exact WE.int (WN.loc rfl (hd 2 (by unfold drawsOf; rw [q]; rfl)))
  | false =>
    rw [if_neg Bool.false_ne_true]
    exact WE.int (WN.loc rfl (hd 3 (by unfold drawsOf; rw [q]; rfl)))
theorem law_dots (Z : Md h₀ gl C N mN fI fR fG fP) {ns : List Int} (h : WS prog w h₀ (n + 1) (scopeOf (stAt 19)) kk ((("dots" : Str), .d (dotsD ns)) :: lawM0 ns) ((bodyOf (stAt 19)).drop 7) σ Ks) :
    WS prog w h₀ (n + 1) (scopeOf (stAt 19)) kk (lawM0 ns) ((bodyOf (stAt 19)).drop 6) σ Ks := by
  refine WS.cons (W1.assignC (WE.comp rfl (WI.list (WE.cell rfl rfl ⟨_, rfl, ?_⟩))) (swapsC rfl))
  refine WE.bin (WE.bin (WE.loc rfl rfl (WE.int (WO.modI (by decide) (WE.int (WO.addI ⟨_, rfl, Nat.zero_le _, ?_⟩))))))
  refine WE.bin (WE.bin (WE.loc rfl rfl (WE.int (WO.modI (by decide) (WE.int (WO.addI ⟨_, rfl, Nat.le_of_ble_eq_true rfl, ?_⟩))))))
  refine WE.bin (WE.bin (WE.loc rfl rfl (WE.int (WO.modI (by decide) (WE.int (WO.addI ⟨_, rfl, Nat.le_of_ble_eq_true rfl, ?_⟩))))))
  refine WN.cell rfl ?_
  rw [← dotOf_eq, ← dotOf_eq, ← dotOf_eq]
  exact h
theorem law_rowsC (Z : Md h₀ gl C N mN fI fR fG fP) {ns : List Int} (h : WS prog w h₀ (n + 1) (scopeOf (stAt 19)) kk ((("rows" : Str), .d (rowsL ns)) :: ("dots", .d (dotsD ns)) :: lawM0 ns) ((bodyOf (stAt 19)).drop 8) σ Ks) :
    WS prog w h₀ (n + 1) (scopeOf (stAt 19)) kk ((("dots" : Str), .d (dotsD ns)) :: lawM0 ns) ((bodyOf (stAt 19)).drop 7) σ Ks := by
  refine WS.cons (W1.assignC (WE.comp rfl (WI.range1 (WE.glob Z.G Z.L.range rfl ⟨rfl, WE.int ⟨3, rfl, by decide, ?_⟩⟩))) (swapsC rfl))
  have hok := cnOf_ok ns
  refine WC.inv (fun vs σ' acc => ∃ j : Nat, j ≤ 3 ∧ vs = nums j 1 (3 - j) ∧ acc = ((cnOf ns).rowsD 0).take j ∧ σ' = σ) ?_ ?_ _ _ _ ⟨0, Nat.zero_le _, rfl, rfl, rfl⟩
  · rintro v vs σ' acc ⟨j, hj, e, rfl, rfl⟩
    have hj' : j < 3 := by
      rcases Nat.lt_or_ge j 3 with q | q
      · exact q
      · have : 3 - j = 0 := by lia -abstractProof
        rw [this] at e; cases e
    have e3 : 3 - j = (3 - (j + 1)) + 1 := by lia -abstractProof
    rw [e3] at e
    cases e
    have j0 : (0 : Int) ≤ (j : Int) := Int.natCast_nonneg j
    have hat := cn_at ns hj'
    have hd3 := (hok.d j).2
    have hr0 : ((cnOf ns).rowsD 0)[j]? = some (.str ((cnOf ns).row j 0)) := by
      have := rows_get (cnOf ns) 0 hj'
      have v0 : vk 0 j = 0 := by unfold vk; split <;> (try split) <;> rfl
      rw [v0] at this; exact this
    have hrow : strMul "." (((cnOf ns).d.at j : Nat) : Int).toNat ++ lt j ++ endOf (cellOf ns j) = (cnOf ns).row j 0 := by
      unfold Cn.row rowOf dotsRow
      rw [if_neg (by lia -abstractProof), hat.2, Int.toNat_natCast]
    have dget : ([.int ((cnOf ns).d.a : Nat), .int ((cnOf ns).d.b : Nat), .int ((cnOf ns).d.c : Nat)] : List D)[(j : Int).toNat]? = some (.int (((cnOf ns).d.at j : Nat) : Int)) := by
      rw [Int.toNat_natCast]; exact three hj' (fun k => .int (((cnOf ns).d.at k : Nat) : Int)) rfl rfl rfl
    have cget : ([.int (cellOf ns 0), .int (cellOf ns 1), .int (cellOf ns 2)] : List D)[(j : Int).toNat]? = some (.int (cellOf ns j)) := by
      rw [Int.toNat_natCast]; exact three hj' (fun k => .int (cellOf ns k)) rfl rfl rfl
    have f0 := Int.fmod_nonneg_of_pos ((cellOf ns j).fdiv 3) (show (0 : Int) < 3 by decide)
    have z1 := strMul_len (((cnOf ns).d.at j : Nat) : Int).toNat
    have z2 := end_len (endOf_is (cellOf ns j))
    have z3 := lt_len j
    refine WE.bin (WE.bin (WE.bin (WE.str (WE.sub (WE.cell rfl rfl (WE.loc rfl rfl (WO.itemL j0 dget (WO.mulS (by lia -abstractProof) (by lia -abstractProof) (by decide) ?_))))))))
    refine WE.sub (WE.cell rfl rfl (WE.loc rfl rfl (WO.itemL j0 (by simpa using lt_at hj') (WO.addS (by rw [z1, z3, sizeLine_eq]; lia -abstractProof) ?_))))
    refine WE.sub (WE.lst (WEs.cons (WE.str (WEs.cons (WE.str (WEs.cons (WE.str (WEs.nil ⟨_, rfl, Nat.le_of_ble_eq_true rfl, ?_⟩))))))))
    refine WE.bin (WE.bin (WE.sub (WE.cell rfl rfl (WE.loc rfl rfl (WO.itemL j0 cget (WE.int (WO.divI (by decide) (PyProof.noPylong_small (by decide)) (WE.int (WO.modI (by decide) (WO.itemL f0 (endOf_get _) ?_))))))))))
    refine WO.addS (by rw [app_len, z1, z3, sizeLine_eq]; lia -abstractProof) ?_
    rw [hrow]
    refine (in_eaaeaaa _ rfl (by simp; lia -abstractProof) (j + 1) hj' ?_ ?_ rfl)
    · push_cast; rfl
    · rw [List.take_succ, hr0]; rfl
  · rintro σ' acc ⟨j, hj, e, rfl, rfl⟩
    have hj' : j = 3 := by
      rcases Nat.lt_or_ge j 3 with q | q
      · have e3 : 3 - j = (3 - (j + 1)) + 1 := by lia -abstractProof
        rw [e3] at e; cases e
      · lia -abstractProof
    subst hj'
    exact WN.cell rfl h
end
end Mine
end
section
namespace Mine
set_option maxRecDepth 10000
noncomputable def bareK (ns : List Int) (k : Nat) : Bool := ((cellOf ns k).fdiv 9).fmod 2 == 1
noncomputable def spK (ns : List Int) (k : Nat) : Str := spelled ((cnOf ns).row k 0) (bareK ns k)
noncomputable def textOf (ns : List Int) : Str := Txt.join "" [spK ns 0, spK ns 1, spK ns 2]
theorem row0 (ns : List Int) {k : Nat} (hk : k < 3) : ∃ d ∈ [1, 2, 3], ∃ l ∈ [("a" : Str), ("\"" : Str), ("\\" : Str)], ∃ e ∈ [("\n" : Str), ("\r" : Str), ("\r\n" : Str)], (cnOf ns).row k 0 = dotsRow d l e := by
  have hok := cnOf_ok ns
  have hd := hok.d k
  refine ⟨(cnOf ns).d.at k, by simp; lia -abstractProof, lt k, ?_, (cnOf ns).e k, ?_, ?_⟩
  · unfold lt; split
    · simp
    · split <;> simp
  · rcases hok.e k with h | h | h <;> rw [h] <;> simp
  · unfold Cn.row rowOf; rw [if_neg (by lia -abstractProof)]
theorem spK_ok (ns : List Int) {k : Nat} (hk : k < 3) : (spK ns k).cps.toList = spell ((cnOf ns).row k 0).cps.toList (bareK ns k) ∧ ((cnOf ns).row k 0).length ≤ 100 ∧ (Txt.replace ((cnOf ns).row k 0) "\\" "\\\\").length ≤ 1000 ∧
    (Txt.replace (Txt.replace ((cnOf ns).row k 0) "\\" "\\\\") "\"" "\\\"").length ≤ 1000 ∧ (bareOf ((cnOf ns).row k 0)).length ≤ 1000 ∧ (spK ns k).length ≤ 1000 := by
  refine el_eaeaea (row0 ns hk) fun d hd l hl e he hr => ?_
  unfold spK
  rw [hr]
  have := spell_all d hd l hl e he (bareK ns k) (by cases bareK ns k <;> simp)
  unfold spellOk at this
  simp only [Bool.and_eq_true, decide_eq_true_eq] at this
  obtain ⟨⟨⟨⟨⟨h1, h2⟩, h3⟩, h4⟩, h5⟩, h6⟩ := this
  exact ⟨h1, h2, h3, h4, h5, h6⟩
theorem text_len (ns : List Int) : (textOf ns).length ≤ 3000 := by
  have h0 := (spK_ok ns (k := 0) (by decide)).2.2.2.2.2
  have h1 := (spK_ok ns (k := 1) (by decide)).2.2.2.2.2
  have h2 := (spK_ok ns (k := 2) (by decide)).2.2.2.2.2
  have hl : ∀ x : Str, x.length = x.cps.toList.length := fun x => by simp [Str.length]
  unfold textOf
  rw [hl, join3, List.length_append, List.length_append, ← hl, ← hl, ← hl]
  lia -abstractProof
/-- what is left behind a spelled row -/
noncomputable def after (b : Bool) (r : List Nat) : List Nat := if b = true then r else 32 :: r
theorem spell_word {w r : List Nat} {b : Bool} (hw : ∃ c cs, w = c :: cs) : Word w (after b r) (spell w b ++ r) := by
  refine el_ee (hw) fun c cs hc => ?_; try clear hw
  unfold spell after
  cases b with
  | true =>
    rw [if_pos rfl, if_pos rfl]
    have := Word.bare (cs := w) (tail := r) hc
    simpa using this
  | false =>
    rw [if_neg Bool.false_ne_true, if_neg Bool.false_ne_true]
    have := Word.quot (cs := w) (tail := 32 :: r)
    simpa using this
theorem after_word {w tail r : List Nat} {b : Bool} (h : Word w tail r) : Word w tail (after b r) := by
  unfold after
  cases b with
  | true => rw [if_pos rfl]; exact h
  | false => rw [if_neg Bool.false_ne_true]; exact h.blank
noncomputable def rowL (ns : List Int) (k : Nat) : List Nat := ((cnOf ns).row k 0).cps.toList
theorem rowL_ne (ns : List Int) {k : Nat} (hk : k < 3) : ∃ c cs, rowL ns k = c :: cs := by
  refine el_ea (row_list (cnOf_ok ns) k 0) fun e _ h => ?_
  have hd := ((cnOf_ok ns).d k).1
  unfold rowL
  rw [h]
  obtain ⟨j, hj⟩ : ∃ j, (cnOf ns).d.at k + 0 = j + 1 := ⟨(cnOf ns).d.at k - 1, by lia -abstractProof⟩
  rw [hj, List.replicate_succ]
  exact (in_ee _ _ rfl)
theorem rowL_len (ns : List Int) {k : Nat} (hk : k < 3) : (rowL ns k).length ≤ 500 := by
  have := (spK_ok ns hk).2.1
  have hl : ((cnOf ns).row k 0).length = (rowL ns k).length := by simp [Str.length, rowL]
  lia -abstractProof
theorem rowL_str (ns : List Int) (k : Nat) : strOf (rowL ns k) = (cnOf ns).row k 0 := by
  unfold strOf rowL
  generalize (cnOf ns).row k 0 = x
  obtain ⟨a⟩ := x
  simp
theorem text_list (ns : List Int) : (textOf ns).cps.toList = spell (rowL ns 0) (bareK ns 0) ++ (spell (rowL ns 1) (bareK ns 1) ++ (spell (rowL ns 2) (bareK ns 2) ++ [])) := by
  unfold textOf
  rw [join3, (spK_ok ns (k := 0) (by decide)).1, (spK_ok ns (k := 1) (by decide)).1, (spK_ok ns (k := 2) (by decide)).1, List.append_nil]
  rfl
/-- the feeds -/
theorem cnt_spell (w : List Nat) (b : Bool) : (spell w b).count 10 = w.count 10 := by
  have hB : ∀ w : List Nat, (escB w).count 10 = w.count 10 := fun w => by
    induction w with
    | nil => rfl
    | cons c w ih =>
      have e : escB (c :: w) = 92 :: c :: escB w := rfl
      rw [e, List.count_cons, List.count_cons, ih, List.count_cons]; simp
  have hQ : ∀ w : List Nat, (escQ w).count 10 = w.count 10 := fun w => by
    induction w with
    | nil => rfl
    | cons c w ih =>
      have e : escQ (c :: w) = (if c = 34 ∨ c = 92 then [92, c] else [c]) ++ escQ w := rfl
      rw [e, List.count_append, ih, List.count_cons]
      split
      · rw [List.count_cons, List.count_cons]; simp; lia -abstractProof
      · rw [List.count_cons]; simp; lia -abstractProof
  unfold spell
  cases b with
  | true => rw [if_pos rfl, List.count_append, hB]; simp
  | false => rw [if_neg Bool.false_ne_true, List.count_cons, List.count_append, hQ]; simp
theorem text_feeds (ns : List Int) : Txt.count (textOf ns) "\n" = cnt (rowL ns 0) + cnt (rowL ns 1) + cnt (rowL ns 2) := by
  have h := count_one (textOf ns) 10
  have e : (one 10) = ("\n" : Str) := rfl
  rw [e] at h
  rw [h, text_list, List.count_append, List.count_append, List.count_append, cnt_spell, cnt_spell, cnt_spell]
  unfold cnt
  push_cast
  simp
  lia -abstractProof
end Mine
end
section
namespace Mine
set_option maxRecDepth 10000
section
variable {prog : Program} {w : World} {h₀ : Heap} {σ : List MO} {kk n : Nat} {sc : Scope} {m : List (Str × Vl)} {K : Vl → List MO → Prop} {gl : Str → Option Value} {Ks : Fl → List (Str × Vl) → List MO → Prop}
  {C N : Addr} {mN : Str → Option Value} {fI fR fG fP : Addr} {t0 t1 : MO} {text : Str} {p ln : Int}
noncomputable def lawM2 (ns : List Int) : List (Str × Vl) := (("rows" : Str), .d (rowsL ns)) :: ("dots", .d (dotsD ns)) :: lawM0 ns
theorem law_text (Z : Md h₀ gl C N mN fI fR fG fP) {ns : List Int} (h : WS prog w h₀ (n + 2) (scopeOf (stAt 19)) kk ((("text" : Str), .d (.str (textOf ns))) :: lawM2 ns) ((bodyOf (stAt 19)).drop 9) σ Ks) :
    WS prog w h₀ (n + 2) (scopeOf (stAt 19)) kk (lawM2 ns) ((bodyOf (stAt 19)).drop 8) σ Ks := by
  refine WS.cons (W1.assign (WE.meth PySem.F.plainAttrs_str PySem.F.slot_str_join PySem.F.type_str_join (WE.str ⟨ty_str, WEs.cons (WE.comp rfl (WI.range1 (WE.glob Z.G Z.L.range rfl ⟨rfl, WE.int ⟨3, rfl, by decide, ?_⟩⟩)))⟩)))
  refine WC.inv (fun vs σ' acc => ∃ j : Nat, j ≤ 3 ∧ vs = nums j 1 (3 - j) ∧ acc = ([.str (spK ns 0), .str (spK ns 1), .str (spK ns 2)] : List D).take j ∧ σ' = σ) ?_ ?_ _ _ _ ⟨0, Nat.zero_le _, rfl, rfl, rfl⟩
  · rintro v vs σ' acc ⟨j, hj, e, rfl, rfl⟩
    have hj' : j < 3 := by
      rcases Nat.lt_or_ge j 3 with q | q
      · exact q
      · have : 3 - j = 0 := by lia -abstractProof
        rw [this] at e; cases e
    have e3 : 3 - j = (3 - (j + 1)) + 1 := by lia -abstractProof
    rw [e3] at e
    cases e
    have j0 : (0 : Int) ≤ (j : Int) := Int.natCast_nonneg j
    have hr0 : ((cnOf ns).rowsD 0)[(j : Int).toNat]? = some (.str ((cnOf ns).row j 0)) := by
      have := rows_get (cnOf ns) 0 hj'
      have v0 : vk 0 j = 0 := by unfold vk; split <;> (try split) <;> rfl
      rw [v0] at this; rw [Int.toNat_natCast]; exact this
    have cget : ([.int (cellOf ns 0), .int (cellOf ns 1), .int (cellOf ns 2)] : List D)[(j : Int).toNat]? = some (.int (cellOf ns j)) := by
      rw [Int.toNat_natCast]; exact three hj' (fun k => .int (cellOf ns k)) rfl rfl rfl
    refine el_aaaaa (spK_ok ns hj') fun _ s2 s3 s4 s5 _ => ?_
    refine WE.callDef Z.G Z.spelled rfl rfl (WEs.cons (WE.sub (WE.cell rfl rfl (WE.loc rfl rfl (WO.itemL j0 hr0 ?_ (show 3 ≤ 1000 by decide))))))
    refine WEs.cons (WE.cmp (WE.bin (WE.bin (WE.sub (WE.cell rfl rfl (WE.loc rfl rfl (WO.itemL j0 cget (WE.int (WO.divI (by decide) (PyProof.noPylong_small (by decide)) (WE.int (WO.modI (by decide) (WE.int (WO.eqI (WEs.nil ⟨rfl, ?_⟩))))))))))))))
    refine law_spelled s2 s3 s4 s5 fun _ => (in_eaaeaaa _ rfl (by simp; lia -abstractProof) (j + 1) hj' ?_ ?_ rfl)
    · push_cast; rfl
    · have : j = 0 ∨ j = 1 ∨ j = 2 := by lia -abstractProof
      rcases this with rfl | rfl | rfl <;> rfl
  · rintro σ' acc ⟨j, hj, e, rfl, rfl⟩
    have hj' : j = 3 := by
      rcases Nat.lt_or_ge j 3 with q | q
      · have e3 : 3 - j = (3 - (j + 1)) + 1 := by lia -abstractProof
        rw [e3] at e; cases e
      · lia -abstractProof
    subst hj'
    refine WEs.nil (WO.join (ys := [spK ns 0, spK ns 1, spK ns 2]) ?_ (WN.loc rfl h))
    have h0 := (spK_ok ns (k := 0) (by decide)).2.2.2.2.2
    have h1 := (spK_ok ns (k := 1) (by decide)).2.2.2.2.2
    have h2 := (spK_ok ns (k := 2) (by decide)).2.2.2.2.2
    have e0 : ("" : Str).length = 0 := rfl
    rw [e0, Nat.mul_zero]
    show (spK ns 0).length + ((spK ns 1).length + ((spK ns 2).length + 0)) + 0 ≤ _
    lia -abstractProof
noncomputable abbrev T0 : MO := .obj (tabOP 0 113)
noncomputable abbrev T1 : MO := .obj (tabOP 1 40)
noncomputable def lawM3 (ns : List Int) : List (Str × Vl) := (("lexer" : Str), .m 5) :: ("text", .d (.str (textOf ns))) :: lawM2 ns
theorem law_lexer (Z : Md h₀ gl C N mN fI fR fG fP) {ns : List Int} (h : WS prog w h₀ (n + 4) (scopeOf (stAt 19)) kk (lawM3 ns) ((bodyOf (stAt 19)).drop 10) (lexσ C T0 T1 (textOf ns) 0 1 [] []) Ks) :
    WS prog w h₀ (n + 4) (scopeOf (stAt 19)) kk ((("text" : Str), .d (.str (textOf ns))) :: lawM2 ns) ((bodyOf (stAt 19)).drop 9) [.obj (tabE 0 113), T1] Ks := by
  refine el_ea (Z.stream) fun f hf XS => ?_
  refine el_eeaaa (XS.ex) fun ob fd s1 s2 s3 s4 => ?_
  refine el_eeaaa (Z.X.dI.ex) fun oi fdi i1 i2 i3 i4 => ?_
  refine el_eee (Z.A.bm) fun mg bm obm B => ?_
  refine WS.cons (W1.assign (WE.callCls Z.X.cls (WE.glob Z.G Z.X.at_ rfl ⟨rfl, WEs.cons (WE.callFn s1 s3 (WE.glob Z.G hf rfl ⟨rfl, WEs.cons (WE.loc rfl rfl (WEs.nil ?_))⟩))⟩)))
  have hbd2 : ∀ y ∈ ([.obj (tabE 0 113), T1] : List MO), y.bd ≤ ([.obj (tabE 0 113), T1] : List MO).length := by
    intro y hy
    rcases List.mem_cons.mp hy with rfl | hy
    · show 1 ≤ 2; decide
    · rw [List.mem_singleton.mp hy]; show 2 ≤ 2; decide
  refine law_stream (i := 0) (P := 113) Z.G XS Z.tab B rfl hbd2 (WEs.nil ?_)
  have hbd4 : ∀ y ∈ ([T0, T1, .obj (placeOP 0), .obj (streamOP (textOf ns) 2)] : List MO), y.bd ≤ ([T0, T1, .obj (placeOP 0), .obj (streamOP (textOf ns) 2)] : List MO).length := by
    intro y hy
    simp only [List.mem_cons, List.not_mem_nil, or_false] at hy
    rcases hy with rfl | rfl | rfl | rfl
    · show 1 ≤ 4; decide
    · show 2 ≤ 4; decide
    · show 0 ≤ 4; decide
    · show 3 ≤ 4; decide
  refine WO.make (n := n + 3) Z.X.cls Z.X.nI i1 i2 hbd4 (fun v hv i e => ?_) ?_
  · rw [List.mem_singleton.mp hv] at e; cases e; show 3 < 4; decide
  · refine init (n := n + 2) Z.G Z.X (show 1 ≤ 2 by decide) (show 2 ≤ 2 by decide) ⟨rfl, WN.cell rfl h⟩
end
end Mine
end
section
namespace Mine
set_option maxRecDepth 10000
section
variable {prog : Program} {w : World} {h₀ : Heap} {σ : List MO} {kk n : Nat} {sc : Scope} {m : List (Str × Vl)} {K : Vl → List MO → Prop} {gl : Str → Option Value} {Ks : Fl → List (Str × Vl) → List MO → Prop}
  {C N : Addr} {mN : Str → Option Value} {fI fR fG fP : Addr} {t0 t1 : MO} {text : Str} {p ln : Int}
noncomputable def feeds (ns : List Int) : Int := 1 + cnt (rowL ns 0) + cnt (rowL ns 1) + cnt (rowL ns 2)
theorem law_read (Z : Md h₀ gl C N mN fI fR fG fP) {ns : List Int} (h : ∀ p, Rem (textOf ns) p (after (bareK ns 2) []) → WS prog w h₀ (n + 4) (scopeOf (stAt 19)) kk (lawM3 ns) ((bodyOf (stAt 19)).drop 11) (lexσ C T0 T1 (textOf ns) p (feeds ns) [] []) Ks) :
    WS prog w h₀ (n + 4) (scopeOf (stAt 19)) kk (lawM3 ns) ((bodyOf (stAt 19)).drop 10) (lexσ C T0 T1 (textOf ns) 0 1 [] []) Ks := by
  have ht : (textOf ns).length ≤ 100000 := by have := text_len ns; lia -abstractProof
  have b0 : T0.bd ≤ 2 := show 1 ≤ 2 by decide
  have b1 : T1.bd ≤ 2 := show 2 ≤ 2 by decide
  have bn : ∀ y ∈ ([] : List MO), y.bd ≤ ([] : List MO).length + 7 := fun _ h => nomatch h
  have r0 : Rem (textOf ns) 0 (spell (rowL ns 0) (bareK ns 0) ++ (spell (rowL ns 1) (bareK ns 1) ++ (spell (rowL ns 2) (bareK ns 2) ++ []))) := ⟨[], by rw [text_list]; rfl, rfl⟩
  have w0 := spell_word (w := rowL ns 0) (r := spell (rowL ns 1) (bareK ns 1) ++ (spell (rowL ns 2) (bareK ns 2) ++ [])) (b := bareK ns 0) (rowL_ne ns (by decide))
  have w1 := after_word (b := bareK ns 0) (spell_word (w := rowL ns 1) (r := spell (rowL ns 2) (bareK ns 2) ++ []) (b := bareK ns 1) (rowL_ne ns (by decide)))
  have w2 := after_word (b := bareK ns 1) (spell_word (w := rowL ns 2) (r := []) (b := bareK ns 2) (rowL_ne ns (by decide)))
  refine WS.cons (W1.ite (WB.cmp (WE.comp rfl (WI.range1 (WE.glob Z.G Z.L.range rfl ⟨rfl, WE.int ⟨3, rfl, by decide, ?_⟩⟩)))))
  refine WE.callM0 Z.X.cls Z.X.qt (Z.X.dG.meth Z.X.nG o_get_token) (WE.cell rfl rfl (in_eeeeaaa 5 4 7 (lexAt 1) rfl lexσ_ins rfl ?_))
  refine get_read Z.G Z.X Z.it b0 b1 bn ht (rowL_len ns (k := 0) (by decide)) w0 r0 fun p1 r1 => ⟨_, rfl, Nat.zero_le _, ?_⟩
  refine WE.callM0 Z.X.cls Z.X.qt (Z.X.dG.meth Z.X.nG o_get_token) (WE.cell rfl rfl (in_eeeeaaa 5 4 7 (lexAt _) rfl lexσ_ins rfl ?_))
  refine get_read Z.G Z.X Z.it b0 b1 bn ht (rowL_len ns (k := 1) (by decide)) w1 r1 fun p2 r2 => ⟨_, rfl, Nat.le_of_ble_eq_true rfl, ?_⟩
  refine WE.callM0 Z.X.cls Z.X.qt (Z.X.dG.meth Z.X.nG o_get_token) (WE.cell rfl rfl (in_eeeeaaa 5 4 7 (lexAt _) rfl lexσ_ins rfl ?_))
  refine get_read Z.G Z.X Z.it b0 b1 bn ht (rowL_len ns (k := 2) (by decide)) w2 r2 fun p3 r3 => ⟨_, rfl, Nat.le_of_ble_eq_true rfl, ?_⟩
  rw [rowL_str, rowL_str, rowL_str]
  refine WE.cell rfl rfl (WO.neLs (ys := (cnOf ns).rows 0) ⟨_, rfl, ?_⟩)
  rw [if_neg Bool.false_ne_true]
  exact WS.nil (h p3 r3)
end
end Mine
end
section
namespace Mine
set_option maxRecDepth 10000
/-! ### what is due, from plain numbers -/
theorem fdivN (x y : Nat) : ((x : Int)).fdiv (y : Int) = ((x / y : Nat) : Int) := by
  rw [Int.fdiv_eq_ediv_of_nonneg _ (Int.natCast_nonneg y)]; simp
theorem fdivS (s : Int) {X k : Nat} (hk : 0 < k) (h : X % k = 0) : (s * (X : Int)).fdiv (k : Int) = s * ((X / k : Nat) : Int) := by
  obtain ⟨q, rfl⟩ := Nat.dvd_of_mod_eq_zero h
  rw [Nat.mul_div_cancel_left q hk]
  have e : s * ((k * q : Nat) : Int) = (s * (q : Int)) * (k : Int) := by push_cast; rw [Int.mul_assoc, Int.mul_comm (k : Int) (q : Int)]
  rw [e, Int.mul_fdiv_cancel _ (by lia -abstractProof)]
theorem fact_N : ∀ n : Nat, fact n = ((factN n : Nat) : Int)
  | 0 => rfl
  | 1 => rfl
  | 2 => rfl
  | _ + 3 => rfl
theorem tWays_N (a b c : Nat) : tWays a b c = ((waysN a b c : Nat) : Int) := by
  unfold tWays waysN
  rw [fact_N, fact_N, fact_N, fact_N, ← fdivN]
  push_cast; rfl
theorem wR_N (W : Int) (d : Nat) : ∀ n : Nat, wR W (d : Int) n = W * ((riseN d n : Nat) : Int)
  | 0 => by show W = W * 1; rw [Int.mul_one]
  | n + 1 => by
    show wR W d n * ((d : Int) + (n : Int)) = _
    rw [wR_N W d n]
    show _ = W * ((riseN d n * (d + n) : Nat) : Int)
    push_cast
    rw [Int.mul_assoc]
theorem tWeight_N (s : Int) (d : Dots) (a b c : Nat) : tWeight s d.a d.b d.c a b c = s * ((weightN d a b c : Nat) : Int) := by
  unfold tWeight weightN
  rw [wR_N, wR_N, wR_N, tWays_N]
  push_cast
  rw [Int.mul_assoc, Int.mul_assoc, Int.mul_assoc, Int.mul_assoc, Int.mul_assoc]
theorem pred_N (a : Nat) : (a : Int) * ((a : Int) - 1) = ((a * (a - 1) : Nat) : Int) := by
  cases a with
  | zero => rfl
  | succ a => push_cast; rw [Int.add_sub_cancel]
theorem tVal_N (P : Cn) {ways w n m : Nat} (hn : 0 < n) (h : w * m % n = 0) : tVal P.tw (ways : Int) (P.start * (w : Int)) (m : Int) (n : Int) = P.g (ways * m / n, w * m / n) := by
  have e1 : ((ways : Int) * (m : Int)).fdiv (n : Int) = ((ways * m / n : Nat) : Int) := by
    rw [← fdivN]; push_cast; rfl
  have e2 : (P.start * (w : Int) * (m : Int)).fdiv (n : Int) = P.start * ((w * m / n : Nat) : Int) := by
    rw [← fdivS P.start hn h]; push_cast; rw [Int.mul_assoc]
  unfold tVal Cn.g
  rw [e1, e2]
theorem tFirst_N (P : Cn) {ways w n k m : Nat} {l : Fi} (hl : K3 l) (hk : k < 3) (hn : 0 < m → 0 < n) (h : m = 0 ∨ w * m % n = 0) :
    tFirst P.tw (ways : Int) (P.start * (w : Int)) (n : Int) (lt k) (m : Int) (P.fiD l) = P.fiD (firstN ways w n k m l) ∧ K3 (firstN ways w n k m l) := by
  unfold tFirst firstN
  by_cases q : 0 < m
  · rw [if_pos (by lia -abstractProof), if_pos q, tVal_N P (hn q) (by rcases h with h | h; lia -abstractProof; exact h), fi_set P hl hk]
    exact ⟨rfl, hl.set hk⟩
  · rw [if_neg (by lia -abstractProof), if_neg q]
    exact ⟨rfl, hl⟩
theorem entry_conc (P : Cn) {a b c : Nat} (hE : evenN P.d a b c = true) : tEntry P.start P.d.a P.d.b P.d.c (lt 0) (lt 1) (lt 2) P.tw a b c = P.gE (dueN P.d a b c) := by
  unfold evenN at hE
  simp only [Bool.and_eq_true, Bool.or_eq_true, decide_eq_true_eq] at hE
  obtain ⟨⟨⟨⟨h1, h2⟩, h3⟩, h4⟩, h5⟩ := hE
  have hn : ∀ m : Nat, m ≤ a + b + c → 0 < m → 0 < a + b + c := fun m h1 h2 => by lia -abstractProof
  obtain ⟨f1, k1⟩ := tFirst_N P (ways := waysN a b c) (w := weightN P.d a b c) (n := a + b + c) (k := 0) (m := a) K3_nil (by decide) (hn a (by lia -abstractProof)) h3
  obtain ⟨f2, k2⟩ := tFirst_N P (ways := waysN a b c) (w := weightN P.d a b c) (n := a + b + c) (k := 1) (m := b) k1 (by decide) (hn b (by lia -abstractProof)) h4
  obtain ⟨f3, k3⟩ := tFirst_N P (ways := waysN a b c) (w := weightN P.d a b c) (n := a + b + c) (k := 2) (m := c) k2 (by decide) (hn c (by lia -abstractProof)) h5
  have hlast : (P.start * ((weightN P.d a b c : Nat) : Int) * (a : Int)).fdiv (if (1 : Int) > (a + b + c : Nat) then 1 else (a + b + c : Nat)) = P.start * ((weightN P.d a b c * a / max (a + b + c) 1 : Nat) : Int) := by
    have e : (if (1 : Int) > ((a + b + c : Nat) : Int) then (1 : Int) else ((a + b + c : Nat) : Int)) = ((max (a + b + c) 1 : Nat) : Int) := by
      split
      · have : a + b + c = 0 := by lia -abstractProof
        rw [this]; rfl
      · have : max (a + b + c) 1 = a + b + c := by lia -abstractProof
        rw [this]
    rw [e, ← fdivS P.start (by lia -abstractProof) h1]; push_cast; rw [Int.mul_assoc]
  have hsame : tSame (P.start * ((weightN P.d a b c : Nat) : Int)) a b c = P.start * ((sameN (weightN P.d a b c) a b c : Nat) : Int) := by
    unfold tSame sameN
    by_cases q : a + b + c < 2
    · rw [if_pos (by lia -abstractProof), if_pos q]; push_cast; rw [Int.mul_assoc]
    · rw [if_neg (by lia -abstractProof), if_neg q]
      have hs : ([(a : Int) * (a - 1), (b : Int) * (b - 1), (c : Int) * (c - 1)] : List Int).sum = ((a * (a - 1) + b * (b - 1) + c * (c - 1) : Nat) : Int) := by
        rw [pred_N, pred_N, pred_N]
        show _ + (_ + (_ + 0)) = _
        push_cast
        rw [Int.add_zero, ← Int.add_assoc]
      have hd : ((a + b + c : Nat) : Int) * (((a + b + c : Nat) : Int) - 1) = (((a + b + c) * (a + b + c - 1) : Nat) : Int) := pred_N (a + b + c)
      rw [hs, hd, ← fdivS P.start (Nat.mul_pos (by lia -abstractProof) (by lia -abstractProof)) (by rcases h2 with h2 | h2; exact absurd h2 q; exact h2)]
      push_cast; rw [Int.mul_assoc]
  unfold tEntry
  rw [tWeight_N, tWays_N, hlast, hsame]
  show D.tup [.int ((waysN a b c : Nat) : Int), .int (P.start * ((weightN P.d a b c : Nat) : Int)), .int _, .int _, .dct (tFirsts P.tw ((waysN a b c : Nat) : Int) (P.start * ((weightN P.d a b c : Nat) : Int)) ((a + b + c : Nat) : Int) (lt 0) (lt 1) (lt 2) a b c)] = _
  have e : tFirsts P.tw ((waysN a b c : Nat) : Int) (P.start * ((weightN P.d a b c : Nat) : Int)) ((a + b + c : Nat) : Int) (lt 0) (lt 1) (lt 2) a b c = P.fiD (dueN P.d a b c).fi := by
    unfold tFirsts
    have f1' : tFirst P.tw ((waysN a b c : Nat) : Int) (P.start * ((weightN P.d a b c : Nat) : Int)) ((a + b + c : Nat) : Int) (lt 0) (a : Int) [] = _ := f1
    rw [f1', f2, f3]; rfl
  rw [e]
  rfl
end Mine
end
section
namespace Mine
set_option maxRecDepth 10000
noncomputable def dueBody : List Stmt := forBody (forBody (forBody (bodyOf (stAt 19))[15]?)[0]?)[0]?
noncomputable def Cn.wD (P : Cn) (l : List (Nat × Nat)) : List (Str × D) := cmap P.nm (fun x => .int (P.start * (x : Nat))) l
noncomputable def σD (C : Addr) (text : Str) (p ln : Int) (pb : List D) (P : Cn) (book : List (Nat × EA)) (S : StD) : List MO := lexσ C T0 T1 text p ln pb [.dict (P.bookD book), .dict (P.bookD S.due), .dict (P.wD S.wts)]
theorem σD_bd {C : Addr} {text : Str} {p ln : Int} {pb : List D} {P : Cn} {book : List (Nat × EA)} {S : StD} : ∀ y ∈ σD C text p ln pb P book S, y.bd ≤ (σD C text p ln pb P book S).length :=
  lexσ_bd' (show 1 ≤ 2 by decide) (show 2 ≤ 2 by decide) (by
    intro y hy
    simp only [List.mem_cons, List.not_mem_nil, or_false] at hy
    rcases hy with rfl | rfl | rfl <;> exact Nat.zero_le _)
noncomputable def lawM4 (ns : List Int) : List (Str × Vl) := (("weights" : Str), .m 9) :: ("due", .m 8) :: ("book", .m 7) :: lawM3 ns
noncomputable abbrev LV : List Str := ["a", "b", "c", "made", "line"]
theorem lk_ne {x y : Str} {v : Vl} {m : List (Str × Vl)} (h : y ≠ x) : ((x, v) :: m).lookup y = m.lookup y := by rw [lookup_cons_eq, if_neg h]
theorem rowOf_row (P : Cn) (k a : Nat) : rowOf (P.row k 0) (lt k) (P.d.at k : Nat) (a : Nat) = P.row k a := by
  unfold Cn.row rowOf
  by_cases q : (0 : Int) < (a : Nat)
  · rw [if_pos q, if_pos q]
  · rw [if_neg q, if_neg q, if_neg (by lia -abstractProof)]
theorem rows_code (P : Cn) {a b c : Nat} (hb : b ≤ 3) (hc : c ≤ 3) : P.rows (code3 a b c) = [P.row 0 a, P.row 1 b, P.row 2 c] := by
  unfold Cn.rows code3
  have h1 : (16 * a + 4 * b + c) / 16 = a := by lia -abstractProof
  have h2 : (16 * a + 4 * b + c) / 4 % 4 = b := by lia -abstractProof
  have h3 : (16 * a + 4 * b + c) % 4 = c := by lia -abstractProof
  rw [h1, h2, h3]
theorem w_set {P : Cn} (hP : P.Ok) (l : List (Nat × Nat)) (k x : Nat) : dset (P.wD l) (P.nm k) (.int (P.start * (x : Nat))) = P.wD (kset l k x) := dset_cmap (name_ok hP l k)
section
variable {prog : Program} {w : World} {h₀ : Heap} {σ : List MO} {kk n : Nat} {sc : Scope} {m : List (Str × Vl)} {K : Vl → List MO → Prop} {gl : Str → Option Value} {Ks : Fl → List (Str × Vl) → List MO → Prop}
  {C N : Addr} {mN : Str → Option Value} {fI fR fG fP : Addr} {t0 t1 : MO} {text : Str} {p ln : Int}
/-- made -/
theorem due_made (Z : Md h₀ gl C N mN fI fR fG fP) {ns : List Int} {a b c : Nat} (hab : a + b + c ≤ 3) {pb : List D} {book : List (Nat × EA)} {S : StD}
    (ag : Ag LV (lawM4 ns) m) (ha : m.lookup ("a" : Str) = some (.d (.int a))) (hb : m.lookup ("b" : Str) = some (.d (.int b))) (hc : m.lookup ("c" : Str) = some (.d (.int c)))
    (h : WS prog w h₀ (n + 2) (scopeOf (stAt 19)) kk ((("made" : Str), .d (.lst ((cnOf ns).rowsD (code3 a b c)))) :: m) (dueBody.drop 1) (σD C text p ln pb (cnOf ns) book S) Ks) :
    WS prog w h₀ (n + 2) (scopeOf (stAt 19)) kk m dueBody (σD C text p ln pb (cnOf ns) book S) Ks := by
  have hok := cnOf_ok ns
  have hd0 := hok.d 0
  have hd1 := hok.d 1
  have hd2 := hok.d 2
  refine WS.cons (W1.assign (WE.callDef Z.G Z.rows rfl rfl (WEs.cons (WE.cell (ag.get rfl) rfl (WEs.cons (WE.cell (ag.get rfl) rfl (WEs.cons (WE.cell (ag.get rfl) rfl (WEs.cons (WE.tup ?_))))))))))
  refine WEs.cons (WE.loc ha rfl (WEs.cons (WE.loc hb rfl (WEs.cons (WE.loc hc rfl (WEs.nil ⟨_, rfl, Nat.le_of_ble_eq_true rfl, WEs.nil ⟨rfl, ?_⟩⟩))))))
  have z0 := row_len hok 0 0
  have e1 : (cnOf ns).rowsD (code3 a b c) = [.str (rowOf ((cnOf ns).row 0 0) (lt 0) ((cnOf ns).d.at 0 : Nat) (a : Nat)), .str (rowOf ((cnOf ns).row 1 0) (lt 1) ((cnOf ns).d.at 1 : Nat) (b : Nat)), .str (rowOf ((cnOf ns).row 2 0) (lt 2) ((cnOf ns).d.at 2 : Nat) (c : Nat))] := by
    rw [rowOf_row, rowOf_row, rowOf_row]
    unfold Cn.rowsD
    rw [rows_code _ (by lia -abstractProof) (by lia -abstractProof)]; rfl
  rw [e1] at h
  refine law_rows (l₀ := lt 0) (l₁ := lt 1) (l₂ := lt 2) Z.G Z.L σD_bd (Nat.le_refl _) ⟨⟨by lia -abstractProof, by lia -abstractProof⟩, ⟨by lia -abstractProof, by lia -abstractProof⟩, ⟨by lia -abstractProof, by lia -abstractProof⟩⟩ ⟨⟨by have : 0 ≤ (cnOf ns).d.a := Nat.zero_le _; lia -abstractProof, by have : (cnOf ns).d.a ≤ 3 := hd0.2; lia -abstractProof⟩, ⟨by lia -abstractProof, by have : (cnOf ns).d.b ≤ 3 := hd1.2; lia -abstractProof⟩, ⟨by lia -abstractProof, by have : (cnOf ns).d.c ≤ 3 := hd2.2; lia -abstractProof⟩⟩
    ⟨by decide, by decide, by decide⟩ fun _ => WN.loc rfl ?_
  exact h
end
end Mine
end
section
namespace Mine
set_option maxRecDepth 10000
theorem join_ok {P : Cn} (hP : P.Ok) {a b c : Nat} (hab : a + b + c ≤ 3) : ((P.rows (code3 a b c)).map (·.length)).sum + (P.rows (code3 a b c)).length * ("" : Str).length ≤ 16777216 := by
  have := rows_sum hP (code3 a b c)
  have hu : code3 a b c / 16 ≤ 4 := by unfold code3; lia -abstractProof
  have e0 : ("" : Str).length = 0 := rfl
  rw [e0, Nat.mul_zero]; lia -abstractProof
section
variable {prog : Program} {w : World} {h₀ : Heap} {σ : List MO} {kk n : Nat} {sc : Scope} {m : List (Str × Vl)} {K : Vl → List MO → Prop} {gl : Str → Option Value} {Ks : Fl → List (Str × Vl) → List MO → Prop}
  {C N : Addr} {mN : Str → Option Value} {fI fR fG fP : Addr} {t0 t1 : MO} {text : Str} {p ln : Int}
/-- due[..] = .. -/
theorem due_store (Z : Md h₀ gl C N mN fI fR fG fP) {ns : List Int} {a b c : Nat} (hab : a + b + c ≤ 3) (hE : evenN (cnOf ns).d a b c = true) {pb : List D} {book : List (Nat × EA)} {S : StD} (hdl : S.due.length ≤ 100)
    (ag : Ag LV (lawM4 ns) m) (ha : m.lookup ("a" : Str) = some (.d (.int a))) (hb : m.lookup ("b" : Str) = some (.d (.int b))) (hc : m.lookup ("c" : Str) = some (.d (.int c))) (hm : m.lookup ("made" : Str) = some (.d (.lst ((cnOf ns).rowsD (code3 a b c)))))
    (h : WS prog w h₀ (n + 2) (scopeOf (stAt 19)) kk m (dueBody.drop 2) (σD C text p ln pb (cnOf ns) book ⟨kset S.due (code3 a b c) (dueN (cnOf ns).d a b c), S.line, S.wts⟩) Ks) :
    WS prog w h₀ (n + 2) (scopeOf (stAt 19)) kk m (dueBody.drop 1) (σD C text p ln pb (cnOf ns) book S) Ks := by
  have hok := cnOf_ok ns
  have hd0 : (cnOf ns).d.a ≤ 3 := (hok.d 0).2
  have hd1 : (cnOf ns).d.b ≤ 3 := (hok.d 1).2
  have hd2 : (cnOf ns).d.c ≤ 3 := (hok.d 2).2
  refine WS.cons (W1.setItem (WE.callDef Z.G Z.entry rfl rfl (WEs.cons (WE.cell (ag.get rfl) rfl (WEs.cons (WE.cell (ag.get rfl) rfl (WEs.cons (WE.loc (ag.get rfl) rfl (WEs.cons (WE.tup ?_)))))))))) 
  refine WEs.cons (WE.loc ha rfl (WEs.cons (WE.loc hb rfl (WEs.cons (WE.loc hc rfl (WEs.nil ⟨_, rfl, Nat.le_of_ble_eq_true rfl, ?_⟩))))))
  refine WEs.cons (WE.loc (ag.get rfl) rfl (WEs.nil ⟨rfl, ?_⟩))
  refine law_entry (l₀ := lt 0) (l₁ := lt 1) (l₂ := lt 2) Z.G Z.L σD_bd (Nat.le_refl _) hab ⟨⟨by lia -abstractProof, by lia -abstractProof⟩, ⟨by lia -abstractProof, by lia -abstractProof⟩, ⟨by lia -abstractProof, by lia -abstractProof⟩⟩ fun _ => ?_
  have he := entry_conc (cnOf ns) hE
  have hset := book_set hok S.due (code3 a b c) (dueN (cnOf ns).d a b c)
  have hbl : ((cnOf ns).bookD S.due).length ≤ 1000 := by rw [Cn.bookD, cmap_length]; lia -abstractProof
  refine WE.loc (ag.get rfl) rfl (WE.meth PySem.F.plainAttrs_str PySem.F.slot_str_join PySem.F.type_str_join (WE.str ⟨ty_str, WEs.cons (WE.loc hm rfl (WEs.nil ?_))⟩))
  refine WO.join (ys := (cnOf ns).rows (code3 a b c)) (join_ok hok hab) (WU.setD (i := 8) rfl hbl ?_)
  have key : σD C text p ln pb (cnOf ns) book ⟨kset S.due (code3 a b c) (dueN (cnOf ns).d a b c), S.line, S.wts⟩ = lexσ C T0 T1 text p ln pb [.dict ((cnOf ns).bookD book), .dict (dset ((cnOf ns).bookD S.due) ((cnOf ns).nm (code3 a b c)) (tEntry (cnOf ns).start (cnOf ns).d.a (cnOf ns).d.b (cnOf ns).d.c (lt 0) (lt 1) (lt 2) (cnOf ns).tw a b c)), .dict ((cnOf ns).wD S.wts)] := by
    rw [he, hset]; rfl
  rw [key] at h
  exact h
set_option maxHeartbeats 4000000 in
/-- the mails of the last draw -/
theorem due_last (Z : Md h₀ gl C N mN fI fR fG fP) {ns : List Int} {a b c : Nat} (hab : a + b + c ≤ 3) {pb : List D} {book : List (Nat × EA)} {S : StD} (hll : S.line.length ≤ 100) (hwl : S.wts.length ≤ 100)
    (ag : Ag LV (lawM4 ns) m) (ha : m.lookup ("a" : Str) = some (.d (.int a))) (hb : m.lookup ("b" : Str) = some (.d (.int b))) (hc : m.lookup ("c" : Str) = some (.d (.int c))) (hm : m.lookup ("made" : Str) = some (.d (.lst ((cnOf ns).rowsD (code3 a b c)))))
    (hln : m.lookup ("line" : Str) = some (.d (.lst ((cnOf ns).qD S.line))))
    (h : ∀ m' S', Ag ["line"] m m' → S' = (if a + b + c = drawsOf ns then (⟨S.due, S.line ++ [code3 a b c], kset S.wts (code3 a b c) ((kget book (code3 a b c)).getD EA.zero).w⟩ : StD) else S) → m'.lookup ("line" : Str) = some (.d (.lst ((cnOf ns).qD S'.line))) → Ks .next m' (σD C text p ln pb (cnOf ns) book S')) :
    WS prog w h₀ (n + 2) (scopeOf (stAt 19)) kk m (dueBody.drop 2) (σD C text p ln pb (cnOf ns) book S) Ks := by
  have hok := cnOf_ok ns
  refine WS.cons (W1.ite (WB.cmp (WE.bin (WE.bin (WE.loc ha rfl (WE.loc hb rfl (WO.addI (WE.loc hc rfl (WO.addI (WE.loc (ag.get rfl) rfl (WO.eqI ⟨_, rfl, ?_⟩)))))))))))
  by_cases q : a + b + c = drawsOf ns
  · rw [if_pos (by rw [beq_iff_eq]; lia -abstractProof)]
    have ql := qD_len (cnOf ns) S.line
    refine WS.cons (W1.assign (WE.bin (WE.loc hln rfl (WE.loc hm rfl (WO.addL (by rw [ql]; show _ + 3 ≤ _; lia -abstractProof) (WN.loc rfl ?_))))))
    have ag' := ag.cons (x := "line") (v := .d (.lst ((cnOf ns).qD S.line ++ (cnOf ns).rowsD (code3 a b c)))) (by decide)
    have hwl' : ((cnOf ns).wD S.wts).length ≤ 1000 := by unfold Cn.wD; rw [cmap_length]; lia -abstractProof
    have hget : (dget ((cnOf ns).bookD book) ((cnOf ns).nm (code3 a b c))).getD ((cnOf ns).gE EA.zero) = (cnOf ns).gE ((kget book (code3 a b c)).getD EA.zero) := by
      rw [book_get hok]; cases kget book (code3 a b c) <;> rfl
    have hset := w_set hok S.wts (code3 a b c) ((kget book (code3 a b c)).getD EA.zero).w
    refine WS.cons (W1.setItem (WE.sub (WE.meth PySem.F.plainAttrs_dict PySem.F.slot_dict_get PySem.F.type_dict_get (WE.loc (ag'.get rfl) rfl ⟨ty_dict Z.G (.m (i := 7) rfl), ?_⟩))))
    refine WEs.cons (WE.meth PySem.F.plainAttrs_str PySem.F.slot_str_join PySem.F.type_str_join (WE.str ⟨ty_str, WEs.cons (WE.loc (by rw [lk_ne (by decide)]; exact hm) rfl (WEs.nil ?_))⟩))
    refine WO.join (ys := (cnOf ns).rows (code3 a b c)) (join_ok hok hab) ?_
    refine WEs.cons (WE.tup (WEs.cons (WE.int (WEs.cons (WE.int (WEs.cons (WE.int (WEs.cons (WE.int (WEs.cons (WE.dict0d Z.G (WEs.nil ⟨_, rfl, Nat.le_of_ble_eq_true rfl, WEs.nil (WO.get3 Z.G (.m (i := 7) rfl) ?_)⟩))))))))))))
    rw [← gE_zero (cnOf ns), show Txt.join "" ((cnOf ns).rows (code3 a b c)) = (cnOf ns).nm (code3 a b c) from rfl, hget]
    refine WE.int (WO.itemT (by decide) rfl ?_)
    refine WE.loc (ag'.get rfl) rfl (WE.meth PySem.F.plainAttrs_str PySem.F.slot_str_join PySem.F.type_str_join (WE.str ⟨ty_str, WEs.cons (WE.loc (by rw [lk_ne (by decide)]; exact hm) rfl (WEs.nil ?_))⟩))
    refine WO.join (ys := (cnOf ns).rows (code3 a b c)) (join_ok hok hab) (WU.setD (i := 9) rfl hwl' (WS.nil ?_))
    have hh := h ((("line" : Str), .d (.lst ((cnOf ns).qD S.line ++ (cnOf ns).rowsD (code3 a b c)))) :: m) _ ((Ag.refl _ _).cons (by decide)) (if_pos q).symm (by rw [lookup_cons_eq, if_pos rfl, ← qD_app])
    have key : σD C text p ln pb (cnOf ns) book ⟨S.due, S.line ++ [code3 a b c], kset S.wts (code3 a b c) ((kget book (code3 a b c)).getD EA.zero).w⟩ = lexσ C T0 T1 text p ln pb [.dict ((cnOf ns).bookD book), .dict ((cnOf ns).bookD S.due), .dict (dset ((cnOf ns).wD S.wts) ((cnOf ns).nm (code3 a b c)) (.int ((cnOf ns).start * (((kget book (code3 a b c)).getD EA.zero).w : Nat))))] := by
      rw [hset]; rfl
    rw [key] at hh
    exact WS.nil hh
  · rw [if_neg (by rw [beq_iff_eq]; lia -abstractProof)]
    exact WS.nil (WS.nil (h m S (Ag.refl _ _) (if_neg q).symm hln))
end
end Mine
end
section
namespace Mine
set_option maxRecDepth 10000
structure Sz (j : Nat) (S : StD) : Prop where
  a : S.due.length ≤ j
  b : S.line.length ≤ j
  c : S.wts.length ≤ j
theorem Sz.turn {j : Nat} {S : StD} (h : Sz j S) (d : Dots) (draws : Nat) (book : List (Nat × EA)) (a b c : Nat) : Sz (j + 1) (dueTurn d draws book a b c S) := by
  have h1 := kset_length S.due (code3 a b c) (dueN d a b c)
  have h2 := kset_length S.wts (code3 a b c) ((kget book (code3 a b c)).getD EA.zero).w
  have := h.a; have := h.b; have := h.c
  unfold dueTurn
  split
  · refine ⟨?_, ?_, ?_⟩
    · show (kset _ _ _).length ≤ _; lia -abstractProof
    · show (S.line ++ _).length ≤ _; rw [List.length_append]; show _ + 1 ≤ _; lia -abstractProof
    · show (kset _ _ _).length ≤ _; lia -abstractProof
  · refine ⟨?_, ?_, ?_⟩
    · show (kset _ _ _).length ≤ _; lia -abstractProof
    · show S.line.length ≤ _; lia -abstractProof
    · show S.wts.length ≤ _; lia -abstractProof
theorem Sz.dueC {d : Dots} {draws : Nat} {book : List (Nat × EA)} {a b : Nat} : ∀ (c j : Nat) (S : StD), Sz j S → Sz (j + c + 1) (dueC d draws book a b c S)
  | 0, j, S, h => h.turn d draws book a b 0
  | c + 1, j, S, h => by
    have := Sz.dueC (d := d) (draws := draws) (book := book) (a := a) (b := b) c (j + 1) _ (h.turn d draws book a b (c + 1))
    have e : j + 1 + c + 1 = j + (c + 1) + 1 := by lia -abstractProof
    rw [e] at this; exact this
theorem Sz.mono {j k : Nat} {S : StD} (h : Sz j S) (hk : j ≤ k) : Sz k S := ⟨Nat.le_trans h.a hk, Nat.le_trans h.b hk, Nat.le_trans h.c hk⟩
theorem Sz.dueB {d : Dots} {draws : Nat} (hd : draws ≤ 3) {book : List (Nat × EA)} {a : Nat} : ∀ (b j : Nat) (S : StD), Sz j S → Sz (j + 4 * (b + 1)) (dueB d draws book a b S)
  | 0, j, S, h => (Sz.dueC (draws - a - 0) j S h).mono (by lia -abstractProof)
  | b + 1, j, S, h => by
    have := Sz.dueB hd (d := d) (book := book) (a := a) b (j + 4) _ ((Sz.dueC (d := d) (draws := draws) (book := book) (a := a) (b := b + 1) (draws - a - (b + 1)) j S h).mono (show _ ≤ j + 4 by lia -abstractProof))
    exact this.mono (by lia -abstractProof)
theorem even_of {d : Dots} (h : evenAll d = true) {a b c : Nat} (hab : a + b + c ≤ 3) : evenN d a b c = true := by
  unfold evenAll at h
  have := List.all_eq_true.mp h (code3 a b c) (by unfold code3; rw [List.mem_range]; lia -abstractProof)
  have h1 : code3 a b c / 16 = a := by unfold code3; lia -abstractProof
  have h2 : code3 a b c / 4 % 4 = b := by unfold code3; lia -abstractProof
  have h3 : code3 a b c % 4 = c := by unfold code3; lia -abstractProof
  rw [h1, h2, h3] at this
  simp only [Bool.or_eq_true, decide_eq_true_eq] at this
  rcases this with q | q
  · lia -abstractProof
  · exact q
theorem Ag.get' {xs : List Str} {m₀ m : List (Str × Vl)} {x : Str} {v : Vl} (h : Ag xs m₀ m) (hx : x ∉ xs) (hv : m₀.lookup x = some v) : m.lookup x = some v := (h x hx).trans hv
section
variable {prog : Program} {w : World} {h₀ : Heap} {σ : List MO} {kk n : Nat} {sc : Scope} {m : List (Str × Vl)} {K : Vl → List MO → Prop} {gl : Str → Option Value} {Ks : Fl → List (Str × Vl) → List MO → Prop}
  {C N : Addr} {mN : Str → Option Value} {fI fR fG fP : Addr} {t0 t1 : MO} {text : Str} {p ln : Int}
theorem due_turn (Z : Md h₀ gl C N mN fI fR fG fP) {ns : List Int} {a b c : Nat} (hab : a + b + c ≤ 3) (hE : evenAll (cnOf ns).d = true) {pb : List D} {book : List (Nat × EA)} {S : StD} (hS : Sz 90 S)
    (ag : Ag LV (lawM4 ns) m) (ha : m.lookup ("a" : Str) = some (.d (.int a))) (hb : m.lookup ("b" : Str) = some (.d (.int b))) (hc : m.lookup ("c" : Str) = some (.d (.int c)))
    (hln : m.lookup ("line" : Str) = some (.d (.lst ((cnOf ns).qD S.line))))
    (h : ∀ m', Ag ["made", "line"] m m' → m'.lookup ("line" : Str) = some (.d (.lst ((cnOf ns).qD (dueTurn (cnOf ns).d (drawsOf ns) book a b c S).line))) → Ks .next m' (σD C text p ln pb (cnOf ns) book (dueTurn (cnOf ns).d (drawsOf ns) book a b c S))) :
    WS prog w h₀ (n + 2) (scopeOf (stAt 19)) kk m dueBody (σD C text p ln pb (cnOf ns) book S) Ks := by
  have hSa := hS.a; have hSb := hS.b; have hSc := hS.c
  refine due_made Z hab ag ha hb hc ?_
  have ag1 := ag.cons (x := "made") (v := .d (.lst ((cnOf ns).rowsD (code3 a b c)))) (by decide)
  have ha1 : ((("made" : Str), Vl.d (.lst ((cnOf ns).rowsD (code3 a b c)))) :: m).lookup ("a" : Str) = some (.d (.int a)) := by rw [lk_ne (by decide)]; exact ha
  have hb1 : ((("made" : Str), Vl.d (.lst ((cnOf ns).rowsD (code3 a b c)))) :: m).lookup ("b" : Str) = some (.d (.int b)) := by rw [lk_ne (by decide)]; exact hb
  have hc1 : ((("made" : Str), Vl.d (.lst ((cnOf ns).rowsD (code3 a b c)))) :: m).lookup ("c" : Str) = some (.d (.int c)) := by rw [lk_ne (by decide)]; exact hc
  have hl1 : ((("made" : Str), Vl.d (.lst ((cnOf ns).rowsD (code3 a b c)))) :: m).lookup ("line" : Str) = some (.d (.lst ((cnOf ns).qD S.line))) := by rw [lk_ne (by decide)]; exact hln
  refine due_store Z hab (even_of hE hab) (by lia -abstractProof) ag1 ha1 hb1 hc1 (by rw [lookup_cons_eq, if_pos rfl]) ?_
  refine due_last Z hab (S := ⟨kset S.due (code3 a b c) (dueN (cnOf ns).d a b c), S.line, S.wts⟩) (show S.line.length ≤ 100 by lia -abstractProof) (show S.wts.length ≤ 100 by lia -abstractProof) ag1 ha1 hb1 hc1 (by rw [lookup_cons_eq, if_pos rfl]) hl1 fun m' S' ag' hS' hl' => ?_
  have e : dueTurn (cnOf ns).d (drawsOf ns) book a b c S = S' := by
    rw [hS']; unfold dueTurn; rfl
  rw [e] at h
  refine h m' ?_ hl'
  intro y hy
  rw [ag' y (by intro q; apply hy; simp at q ⊢; exact .inr q)]
  exact lk_ne (by intro q; apply hy; simp [q])
/-- for c .. -/
theorem c_loop (Z : Md h₀ gl C N mN fI fR fG fP) {ns : List Int} {a b : Nat} (hE : evenAll (cnOf ns).d = true) {pb : List D} {book : List (Nat × EA)} :
    ∀ (c : Nat) (i : Int) (j : Nat) (S : StD) (m : List (Str × Vl)), i = c → a + b + c ≤ 3 → Sz j S → j + c ≤ 90 → Ag LV (lawM4 ns) m → m.lookup ("a" : Str) = some (.d (.int a)) → m.lookup ("b" : Str) = some (.d (.int b)) → m.lookup ("line" : Str) = some (.d (.lst ((cnOf ns).qD S.line))) →
      (∀ m', Ag ["c", "made", "line"] m m' → m'.lookup ("line" : Str) = some (.d (.lst ((cnOf ns).qD (dueC (cnOf ns).d (drawsOf ns) book a b c S).line))) → Ks .next m' (σD C text p ln pb (cnOf ns) book (dueC (cnOf ns).d (drawsOf ns) book a b c S))) →
      WL prog w h₀ (n + 2) (scopeOf (stAt 19)) kk "c" dueBody (nums i (-1) (c + 1)) m (σD C text p ln pb (cnOf ns) book S) Ks := by
  have up : ∀ {m m' : List (Str × Vl)} {v : Vl}, Ag ["made", "line"] ((("c" : Str), v) :: m) m' → Ag ["c", "made", "line"] m m' := fun {m m' v} ag y hy => by
    rw [ag y (by intro q; apply hy; simp at q ⊢; exact .inr q)]
    exact lk_ne (by intro q; apply hy; simp [q])
  intro c
  induction c with
  | zero =>
    intro i j S m hi hab hS hj ag ha hb hln h
    subst hi
    refine WN.loc rfl (due_turn Z (c := 0) hab hE (hS.mono (by lia -abstractProof)) (ag.cons (by decide)) (by rw [lk_ne (by decide)]; exact ha) (by rw [lk_ne (by decide)]; exact hb) (by rw [lookup_cons_eq, if_pos rfl]) (by rw [lk_ne (by decide)]; exact hln) fun m' ag' hl' => ?_)
    exact h m' (up ag') hl'
  | succ c ih =>
    intro i j S m hi hab hS hj ag ha hb hln h
    subst hi
    refine WN.loc rfl (due_turn Z (c := c + 1) hab hE (hS.mono (by lia -abstractProof)) (ag.cons (by decide)) (by rw [lk_ne (by decide)]; exact ha) (by rw [lk_ne (by decide)]; exact hb) (by rw [lookup_cons_eq, if_pos rfl]) (by rw [lk_ne (by decide)]; exact hln) fun m' ag' hl' => ?_)
    have ag2 := up ag'
    refine ih _ (j + 1) _ m' (by push_cast; lia -abstractProof) (by lia -abstractProof) (hS.turn _ _ _ _ _ _) (by lia -abstractProof) (ag.trans (ag2.mono (by intro y hy; simp at hy ⊢; rcases hy with q | q | q <;> simp [q]))) (ag2.get' (by decide) ha) (ag2.get' (by decide) hb) hl' fun m'' ag3 hl'' => ?_
    exact h m'' (ag2.trans ag3) hl''
end
end Mine
end
section
namespace Mine
set_option maxRecDepth 10000
noncomputable def aBody : List Stmt := forBody (bodyOf (stAt 19))[15]?
noncomputable def bBodyD : List Stmt := forBody aBody[0]?
theorem draws_b (ns : List Int) : drawsOf ns ≤ 3 ∧ 2 ≤ drawsOf ns := by
  unfold drawsOf; split <;> decide
section
variable {prog : Program} {w : World} {h₀ : Heap} {σ : List MO} {kk n : Nat} {sc : Scope} {m : List (Str × Vl)} {K : Vl → List MO → Prop} {gl : Str → Option Value} {Ks : Fl → List (Str × Vl) → List MO → Prop}
  {C N : Addr} {mN : Str → Option Value} {fI fR fG fP : Addr} {t0 t1 : MO} {text : Str} {p ln : Int}
theorem b_body (Z : Md h₀ gl C N mN fI fR fG fP) {ns : List Int} {a b : Nat} (hab : a + b ≤ drawsOf ns) (hE : evenAll (cnOf ns).d = true) {pb : List D} {book : List (Nat × EA)} {j : Nat} {S : StD} (hS : Sz j S) (hj : j + 4 ≤ 90)
    (ag : Ag LV (lawM4 ns) m) (ha : m.lookup ("a" : Str) = some (.d (.int a))) (hb : m.lookup ("b" : Str) = some (.d (.int b))) (hln : m.lookup ("line" : Str) = some (.d (.lst ((cnOf ns).qD S.line))))
    (h : ∀ m', Ag ["c", "made", "line"] m m' → m'.lookup ("line" : Str) = some (.d (.lst ((cnOf ns).qD (dueC (cnOf ns).d (drawsOf ns) book a b (drawsOf ns - a - b) S).line))) → Ks .next m' (σD C text p ln pb (cnOf ns) book (dueC (cnOf ns).d (drawsOf ns) book a b (drawsOf ns - a - b) S))) :
    WS prog w h₀ (n + 2) (scopeOf (stAt 19)) kk m bBodyD (σD C text p ln pb (cnOf ns) book S) Ks := by
  have hd := (draws_b ns).1
  refine WS.cons (W1.for_ (WI.range3 (WE.glob Z.G Z.L.range rfl ⟨rfl, WE.bin (WE.bin (WE.loc (ag.get rfl) rfl (WE.loc ha rfl (WO.subI (WE.loc hb rfl (WO.subI ?_))))))⟩)))
  refine WE.neg (WE.int ⟨1, rfl, WE.neg (WE.int (in_eaeaaaa 1 rfl (drawsOf ns - a - b) ?_ rfl rfl (by lia -abstractProof) ?_))⟩)
  · congr 2; lia -abstractProof
  · exact c_loop Z hE (drawsOf ns - a - b) _ j S m rfl (by lia -abstractProof) hS (by lia -abstractProof) ag ha hb hln fun m' ag' hl' => WS.nil (h m' ag' hl')
theorem b_loop (Z : Md h₀ gl C N mN fI fR fG fP) {ns : List Int} {a : Nat} (hE : evenAll (cnOf ns).d = true) {pb : List D} {book : List (Nat × EA)} :
    ∀ (b : Nat) (i : Int) (j : Nat) (S : StD) (m : List (Str × Vl)), i = b → a + b ≤ drawsOf ns → Sz j S → j + 4 * (b + 1) ≤ 90 → Ag LV (lawM4 ns) m → m.lookup ("a" : Str) = some (.d (.int a)) → m.lookup ("line" : Str) = some (.d (.lst ((cnOf ns).qD S.line))) →
      (∀ m', Ag ["b", "c", "made", "line"] m m' → m'.lookup ("line" : Str) = some (.d (.lst ((cnOf ns).qD (dueB (cnOf ns).d (drawsOf ns) book a b S).line))) → Ks .next m' (σD C text p ln pb (cnOf ns) book (dueB (cnOf ns).d (drawsOf ns) book a b S))) →
      WL prog w h₀ (n + 2) (scopeOf (stAt 19)) kk "b" bBodyD (nums i (-1) (b + 1)) m (σD C text p ln pb (cnOf ns) book S) Ks := by
  have up : ∀ {m m' : List (Str × Vl)} {v : Vl}, Ag ["c", "made", "line"] ((("b" : Str), v) :: m) m' → Ag ["b", "c", "made", "line"] m m' := fun {m m' v} ag y hy => by
    rw [ag y (by intro q; apply hy; simp at q ⊢; exact .inr q)]
    exact lk_ne (by intro q; apply hy; simp [q])
  have hd := (draws_b ns).1
  intro b
  induction b with
  | zero =>
    intro i j S m hi hab hS hj ag ha hln h
    subst hi
    refine WN.loc rfl (b_body Z (b := 0) hab hE hS (by lia -abstractProof) (ag.cons (by decide)) (by rw [lk_ne (by decide)]; exact ha) (by rw [lookup_cons_eq, if_pos rfl]) (by rw [lk_ne (by decide)]; exact hln) fun m' ag' hl' => ?_)
    exact h m' (up ag') hl'
  | succ b ih =>
    intro i j S m hi hab hS hj ag ha hln h
    subst hi
    refine WN.loc rfl (b_body Z (b := b + 1) hab hE hS (by lia -abstractProof) (ag.cons (by decide)) (by rw [lk_ne (by decide)]; exact ha) (by rw [lookup_cons_eq, if_pos rfl]) (by rw [lk_ne (by decide)]; exact hln) fun m' ag' hl' => ?_)
    have ag2 := up ag'
    have hS2 := Sz.dueC (d := (cnOf ns).d) (draws := drawsOf ns) (book := book) (a := a) (b := b + 1) (drawsOf ns - a - (b + 1)) j S hS
    refine ih _ (j + 4) _ m' (by push_cast; lia -abstractProof) (by lia -abstractProof) (hS2.mono (by lia -abstractProof)) (by lia -abstractProof) (ag.trans (ag2.mono (by intro y hy; simp at hy ⊢; rcases hy with q | q | q | q <;> simp [q]))) (ag2.get' (by decide) ha) hl' fun m'' ag3 hl'' => ?_
    exact h m'' (ag2.trans ag3) hl''
theorem a_loop (Z : Md h₀ gl C N mN fI fR fG fP) {ns : List Int} (hE : evenAll (cnOf ns).d = true) {pb : List D} {book : List (Nat × EA)} :
    ∀ (a : Nat) (i : Int) (j : Nat) (S : StD) (m : List (Str × Vl)), i = a → a ≤ drawsOf ns → Sz j S → j + 16 * (a + 1) ≤ 90 → Ag LV (lawM4 ns) m → m.lookup ("line" : Str) = some (.d (.lst ((cnOf ns).qD S.line))) →
      (∀ m', Ag LV (lawM4 ns) m' → m'.lookup ("line" : Str) = some (.d (.lst ((cnOf ns).qD (dueA (cnOf ns).d (drawsOf ns) book a S).line))) → Ks .next m' (σD C text p ln pb (cnOf ns) book (dueA (cnOf ns).d (drawsOf ns) book a S))) →
      WL prog w h₀ (n + 2) (scopeOf (stAt 19)) kk "a" aBody (nums i (-1) (a + 1)) m (σD C text p ln pb (cnOf ns) book S) Ks := by
  have up : ∀ {m m' : List (Str × Vl)} {v : Vl}, Ag LV (lawM4 ns) m → Ag ["b", "c", "made", "line"] ((("a" : Str), v) :: m) m' → Ag LV (lawM4 ns) m' := fun {m m' v} ag0 ag => (ag0.cons (by decide)).trans (ag.mono (by intro y hy; simp at hy ⊢; rcases hy with q | q | q | q <;> simp [q]))
  have hd := (draws_b ns).1
  have turn : ∀ (a : Nat) (j : Nat) (S : StD) (m : List (Str × Vl)) (K : Fl → List (Str × Vl) → List MO → Prop), a ≤ drawsOf ns → Sz j S → j + 16 ≤ 90 → Ag LV (lawM4 ns) m → m.lookup ("line" : Str) = some (.d (.lst ((cnOf ns).qD S.line))) →
      (∀ m', Ag LV (lawM4 ns) m' → m'.lookup ("line" : Str) = some (.d (.lst ((cnOf ns).qD (dueB (cnOf ns).d (drawsOf ns) book a (drawsOf ns - a) S).line))) → K .next m' (σD C text p ln pb (cnOf ns) book (dueB (cnOf ns).d (drawsOf ns) book a (drawsOf ns - a) S))) →
      WS prog w h₀ (n + 2) (scopeOf (stAt 19)) kk ((("a" : Str), .d (.int a)) :: m) aBody (σD C text p ln pb (cnOf ns) book S) K := by
    intro a j S m K ha hS hj ag hln h
    have ag1 := ag.cons (x := "a") (v := .d (.int a)) (by decide)
    refine WS.cons (W1.for_ (WI.range3 (WE.glob Z.G Z.L.range rfl ⟨rfl, WE.bin (WE.loc (ag1.get rfl) rfl (WE.loc rfl rfl (WO.subI ?_)))⟩)))
    refine WE.neg (WE.int ⟨1, rfl, WE.neg (WE.int (in_eaeaaaa 1 rfl (drawsOf ns - a) ?_ rfl rfl (by lia -abstractProof) ?_))⟩)
    · congr 2; lia -abstractProof
    · exact b_loop Z hE (drawsOf ns - a) _ j S _ rfl (by lia -abstractProof) hS (by lia -abstractProof) ag1 (by rw [lookup_cons_eq, if_pos rfl]) (by rw [lk_ne (by decide)]; exact hln) fun m' ag' hl' => WS.nil (h m' (up ag ag') hl')
  intro a
  induction a with
  | zero =>
    intro i j S m hi ha hS hj ag hln h
    subst hi
    exact WN.loc rfl (turn 0 j S m _ ha hS (by lia -abstractProof) ag hln fun m' ag' hl' => h m' ag' hl')
  | succ a ih =>
    intro i j S m hi ha hS hj ag hln h
    subst hi
    refine WN.loc rfl (turn (a + 1) j S m _ ha hS (by lia -abstractProof) ag hln fun m' ag' hl' => ?_)
    have hS2 := Sz.dueB hd (d := (cnOf ns).d) (book := book) (a := a + 1) (drawsOf ns - (a + 1)) j S hS
    exact ih _ (j + 16) _ m' (by push_cast; lia -abstractProof) (by lia -abstractProof) (hS2.mono (by lia -abstractProof)) (by lia -abstractProof) ag' hl' h
end
end Mine
end
section
namespace Mine
set_option maxRecDepth 10000
/-! ### the checks -/
structure Urn (P : Cn) (draws : Nat) (Sf : StA) (S : StD) : Prop where
  run : runA P.d (stepsOf draws) S₀ = some Sf
  due : S = dueA P.d draws Sf.1 draws ⟨[], [], []⟩
  eq : eqBook Sf.1 S.due = true
  line : Sf.2 = S.line
  len : S.line.length ≤ 20
  k1 : ∀ p ∈ Sf.1, K3 p.2.fi
  k2 : ∀ p ∈ S.due, K3 p.2.fi
  sum : (S.wts.map (·.2)).sum = (P.d.a + P.d.b + P.d.c) * (P.d.a + P.d.b + P.d.c + 1) * (if draws = 3 then P.d.a + P.d.b + P.d.c + 2 else 1)
theorem urn_of {P : Cn} {draws : Nat} (h : urnOk P.d draws = true) : ∃ Sf S, Urn P draws Sf S := by
  unfold urnOk at h
  split at h
  · cases h
  · rename_i Sf hr
    split at h
    rename_i due line wts hd
    simp only [Bool.and_eq_true, decide_eq_true_eq, List.all_eq_true] at h
    obtain ⟨⟨⟨⟨⟨⟨h1, h2⟩, h3⟩, h4⟩, h5⟩, h6⟩, h7⟩ := h
    exact ⟨Sf, ⟨due, line, wts⟩, hr, hd.symm, h1, h2, h3, fun p hp q hq => (h4 p hp).2 q hq, fun p hp q hq => (h5 p hp).2 q hq, h7⟩
theorem g_DEq (P : Cn) (x : Nat × Nat) (n : Nat) : DEq (n + 1) (P.g x) (P.g x) := by
  unfold Cn.g
  cases P.tw with
  | true => rw [if_pos rfl]; exact .tup2 (.int _ _) (.int _ _)
  | false => rw [if_neg Bool.false_ne_true]; exact .int _ _
theorem fi_DEq (P : Cn) {x y : Fi} (hx : K3 x) (hy : K3 y) (h : eqFi x y = true) (n : Nat) : DEq (n + 2) (.dct (P.fiD x)) (.dct (P.fiD y)) := by
  unfold eqFi at h
  simp only [Bool.and_eq_true, decide_eq_true_eq, List.all_eq_true] at h
  have hget : ∀ q ∈ x, kget y q.1 = some q.2 := fun q hq => by
    have := h.2 q hq
    cases hk : kget y q.1 with
    | none => rw [hk] at this; cases this
    | some z =>
      rw [hk] at this
      simp only [Bool.and_eq_true, decide_eq_true_eq] at this
      have : q.2 = z := Prod.ext this.1 this.2
      rw [this]
  have hd : ∀ k d, (k, d) ∈ P.fiD x → dget (P.fiD y) k = some d := fun k d hkd => by
    refine el_ea (List.mem_map.mp hkd) fun q hq e => ?_
    cases e
    rw [fi_get P hy (hx q hq), hget q hq]; rfl
  refine .dct (fun k => (dget (P.fiD y) k).getD .none) (by unfold Cn.fiD; rw [cmap_length, cmap_length]; exact h.1) (fun k d hkd => by rw [hd k d hkd]; rfl) (fun k d hkd => ?_)
  rw [hd k d hkd]
  refine el_ea (List.mem_map.mp hkd) fun q hq e => ?_
  cases e
  exact g_DEq P q.2 n
theorem book_DEq {P : Cn} (hP : P.Ok) {x y : List (Nat × EA)} (hx : ∀ p ∈ x, K3 p.2.fi) (hy : ∀ p ∈ y, K3 p.2.fi) (h : eqBook x y = true) : DEq 8 (.dct (P.bookD x)) (.dct (P.bookD y)) := by
  unfold eqBook at h
  simp only [Bool.and_eq_true, decide_eq_true_eq, List.all_eq_true] at h
  have hget : ∀ q ∈ x, ∃ z, kget y q.1 = some z ∧ eqEA q.2 z = true := fun q hq => by
    have := h.2 q hq
    cases hk : kget y q.1 with
    | none => rw [hk] at this; cases this
    | some z => rw [hk] at this; exact ⟨z, rfl, this⟩
  refine .dct (fun k => (dget (P.bookD y) k).getD .none) (by unfold Cn.bookD; rw [cmap_length, cmap_length]; exact h.1) (fun k d hkd => ?_) (fun k d hkd => ?_)
  · refine el_ea (List.mem_map.mp hkd) fun q hq e => ?_
    cases e
    refine el_ea (hget q hq) fun z hz _ => ?_
    rw [book_get hP, hz]; rfl
  · refine el_ea (List.mem_map.mp hkd) fun q hq e => ?_
    cases e
    refine el_ea (hget q hq) fun z hz he => ?_
    rw [book_get hP, hz]
    unfold eqEA at he
    simp only [Bool.and_eq_true, decide_eq_true_eq] at he
    obtain ⟨⟨⟨⟨e1, e2⟩, e3⟩, e4⟩, e5⟩ := he
    show DEq 7 (P.gE q.2) (P.gE z)
    unfold Cn.gE
    rw [e1, e2, e3, e4]
    exact .tup5 (.int _ _) (.int _ _) (.int _ _) (.int _ _) (fi_DEq P (hx q hq) (hy _ (kget_mem hz)) e5 4)
theorem qD_strs (P : Cn) (q : List Nat) : P.qD q = (q.flatMap P.rows).map .str := by
  unfold Cn.qD Cn.rowsD
  rw [List.map_flatMap]
section
variable {prog : Program} {w : World} {h₀ : Heap} {σ : List MO} {kk n : Nat} {sc : Scope} {m : List (Str × Vl)} {K : Vl → List MO → Prop} {gl : Str → Option Value} {Ks : Fl → List (Str × Vl) → List MO → Prop}
  {C N : Addr} {mN : Str → Option Value} {fI fR fG fP : Addr} {t0 t1 : MO} {text : Str} {p ln : Int}
set_option maxHeartbeats 2000000 in
theorem law_book (Z : Md h₀ gl C N mN fI fR fG fP) {ns : List Int} {Sf : StA} (hkk : kk ≤ 7) (hr : runA (cnOf ns).d (stepsOf (drawsOf ns)) S₀ = some Sf)
    (h : WS prog w h₀ (n + 4) (scopeOf (stAt 19)) kk ((("weights" : Str), .m 9) :: ("line", .d (.lst [])) :: ("due", .m 8) :: ("book", .m 7) :: lawM3 ns) ((bodyOf (stAt 19)).drop 15) (σD C (textOf ns) p ln ((cnOf ns).qD Sf.2) (cnOf ns) Sf.1 ⟨[], [], []⟩) Ks) :
    WS prog w h₀ (n + 4) (scopeOf (stAt 19)) kk (lawM3 ns) ((bodyOf (stAt 19)).drop 11) (lexσ C T0 T1 (textOf ns) p ln [] []) Ks := by
  have b0 : T0.bd ≤ 2 := show 1 ≤ 2 by decide
  have b1 : T1.bd ≤ 2 := show 2 ≤ 2 by decide
  have hdr : drawsOf ns = 2 ∨ drawsOf ns = 3 := by have := draws_b ns; lia -abstractProof
  refine WS.cons (W1.assign (WE.callDefC Z.G Z.drawn rfl (by decide +kernel) (WEs.cons (WE.cell rfl rfl (WEs.cons (WE.cell rfl rfl (WEs.cons (WE.cell rfl rfl ?_))))))))
  refine WEs.cons (WE.loc rfl rfl ?_)
  refine WEs.cons (WE.loc rfl rfl ?_)
  refine WEs.cons (WE.loc rfl rfl ?_)
  refine WEs.nil ⟨rfl, ?_⟩
  refine law_drawn (n := n + 1) (P := cnOf ns) Z (cnOf_ok ns) b0 rfl (Nat.le_refl 7) hdr hr fun _ => WN.loc rfl ?_
  have bd1 : ∀ y ∈ lexB C T0 T1 (textOf ns) p ln (cnOf ns) Sf, y.bd ≤ (lexB C T0 T1 (textOf ns) p ln (cnOf ns) Sf).length := lexσ_bd' b0 b1 (by intro y hy; rw [List.mem_singleton.mp hy]; exact Nat.zero_le _)
  refine WS.cons (W1.assign (WE.dict0 (WN.loc rfl ?_) bd1))
  refine WS.cons (W1.assign (WE.lst (WEs.nil ⟨[], rfl, Nat.zero_le _, WN.loc rfl ?_⟩)))
  have bd2 : ∀ y ∈ lexB C T0 T1 (textOf ns) p ln (cnOf ns) Sf ++ [MO.dict []], y.bd ≤ (lexB C T0 T1 (textOf ns) p ln (cnOf ns) Sf ++ [MO.dict []]).length := lexσ_bd' (rest := [.dict ((cnOf ns).bookD Sf.1), .dict []]) b0 b1 (by
    intro y hy
    simp only [List.mem_cons, List.not_mem_nil, or_false] at hy
    rcases hy with rfl | rfl <;> exact Nat.zero_le _)
  refine WS.cons (W1.assign (WE.dict0 (WN.loc rfl ?_) bd2))
  exact h
end
end Mine
end
section
namespace Mine
set_option maxRecDepth 10000
section
variable {prog : Program} {w : World} {h₀ : Heap} {σ : List MO} {kk n : Nat} {sc : Scope} {m : List (Str × Vl)} {K : Vl → List MO → Prop} {gl : Str → Option Value} {Ks : Fl → List (Str × Vl) → List MO → Prop}
  {C N : Addr} {mN : Str → Option Value} {fI fR fG fP : Addr} {t0 t1 : MO} {text : Str} {p ln : Int}
/-- all that waits is got, then nothing -/
theorem pop_all (Z : Md h₀ gl C N mN fI fR fG fP) {x : Str} {elt : Expr} {rest : List MO} {Kl : List D → List MO → Prop} (b0 : t0.bd ≤ 2) (b1 : t1.bd ≤ 2) (hrb : ∀ y ∈ rest, y.bd ≤ rest.length + 7) (ht : text.length ≤ 100000) (hr : Rem text p [] ∨ Rem text p [32])
    (helt : ∀ (v : Vl) (pb : List D) (K : Vl → List MO → Prop), WO prog w h₀ (n + 4) [.m 5] (fun us => call (.ref fG) us) (lexσ C t0 t1 text p ln pb rest) K → WE prog w h₀ (n + 4) sc ((x, v) :: m) elt (lexσ C t0 t1 text p ln pb rest) K) :
    ∀ (rs : List Str) (i : Int) (acc : List D), acc.length + rs.length ≤ 900 → (∀ p', Kl (acc ++ rs.map .str ++ [.str ""]) (lexσ C t0 t1 text p' ln [] rest)) →
      WC prog w h₀ (n + 4) sc x elt m (nums i 1 (rs.length + 1)) (lexσ C t0 t1 text p ln (rs.map .str) rest) acc Kl
  | [], i, acc, hl, h => by
    refine helt _ [] _ (get_end Z.G Z.X Z.it b0 b1 hrb ht hr fun p' => ⟨_, rfl, ?_, ?_⟩)
    · simp at hl; lia -abstractProof
    · have := h p'
      rw [List.map_nil, List.append_nil] at this
      exact this
  | r :: rs, i, acc, hl, h => by
    simp only [List.length_cons] at hl
    refine helt _ (.str r :: rs.map .str) _ (get_pop (n := n + 3) Z.G Z.X (by rw [List.length_map]; lia -abstractProof) ⟨_, rfl, by lia -abstractProof, ?_⟩)
    refine pop_all Z b0 b1 hrb ht hr helt rs (i + 1) (acc ++ [.str r]) (by rw [List.length_append]; simp; lia -abstractProof) fun p' => ?_
    have := h p'
    rw [List.map_cons] at this
    rw [List.append_assoc acc]
    exact this
noncomputable def lawM5 (ns : List Int) (S : StD) : List (Str × Vl) := (("line" : Str), .d (.lst ((cnOf ns).qD S.line))) :: lawM4 ns
theorem lawM5_norm {ns : List Int} {S : StD} (ag : Ag LV (lawM4 ns) m) (hln : m.lookup ("line" : Str) = some (.d (.lst ((cnOf ns).qD S.line)))) : ∀ x v, (lawM5 ns S).lookup x = some v → m.lookup x = some v := fun x v q => by
  unfold lawM5 at q
  rw [lookup_cons_eq] at q
  by_cases z : x = "line"
  · rw [if_pos z] at q; cases q; rw [z]; exact hln
  · rw [if_neg z] at q
    have hx : x ∉ LV := by
      intro y
      simp only [LV, List.mem_cons, List.not_mem_nil, or_false] at y
      rcases y with y | y | y | y | y
      · subst y; cases q
      · subst y; cases q
      · subst y; cases q
      · subst y; cases q
      · exact z y
    exact (ag x hx).trans q
theorem law_cmp (Z : Md h₀ gl C N mN fI fR fG fP) {ns : List Int} {Sf : StA} {S : StD} (U : Urn (cnOf ns) (drawsOf ns) Sf S) (hr : Rem (textOf ns) p [] ∨ Rem (textOf ns) p [32])
    (h : ∀ p', WS prog w h₀ (n + 4) (scopeOf (stAt 19)) kk (lawM5 ns S) ((bodyOf (stAt 19)).drop 17) (σD C (textOf ns) p' (feeds ns) [] (cnOf ns) Sf.1 S) Ks) :
    WS prog w h₀ (n + 4) (scopeOf (stAt 19)) kk (lawM5 ns S) ((bodyOf (stAt 19)).drop 16) (σD C (textOf ns) p (feeds ns) ((cnOf ns).qD Sf.2) (cnOf ns) Sf.1 S) Ks := by
  have ht : (textOf ns).length ≤ 100000 := by have := text_len ns; lia -abstractProof
  have hq := book_DEq (cnOf_ok ns) U.k1 U.k2 U.eq
  have hlen := qD_len (cnOf ns) S.line
  have hU := U.len
  have hrs := qD_strs (cnOf ns) S.line
  rw [U.line]
  have hl2 : (S.line.flatMap (cnOf ns).rows).length = 3 * S.line.length := by
    have := congrArg List.length hrs
    rw [List.length_map] at this; lia -abstractProof
  refine WS.cons (W1.ite (WB.or (WB.cmp (WE.loc rfl rfl (WE.loc rfl rfl (WO.neD Z.G (.m (i := 7) rfl) (.m (i := 8) rfl) hq ⟨_, rfl, ?_⟩))))))
  rw [if_neg Bool.false_ne_true]
  refine WB.cmp (WE.comp rfl (WI.range1 (WE.glob Z.G Z.L.range rfl ⟨rfl, WE.bin (WE.callBi (WE.glob Z.G Z.L.len rfl ⟨rfl, WEs.cons (WE.loc rfl rfl (WEs.nil (WO.lenL ?_ (WE.int (WO.addI ⟨(S.line.flatMap (cnOf ns).rows).length + 1, ?_, ?_, ?_⟩)))))⟩))⟩)))
  · lia -abstractProof
  · rw [hlen, hl2]; rfl
  · lia -abstractProof
  · unfold σD
    rw [hrs]
    refine pop_all (t0 := T0) (t1 := T1) Z (show 1 ≤ 2 by decide) (show 2 ≤ 2 by decide) (by
      intro y hy
      simp only [List.mem_cons, List.not_mem_nil, or_false] at hy
      rcases hy with rfl | rfl | rfl <;> exact Nat.zero_le _) ht hr (fun v pb K hK => ?_) _ _ _ (by rw [hl2]; show 0 + _ ≤ _; lia -abstractProof) fun p' => ?_
    · exact WE.callM0 Z.X.cls Z.X.qt (Z.X.dG.meth Z.X.nG o_get_token) (WE.cell rfl rfl (in_eeeeaaa 5 4 7 (lexAt _) rfl lexσ_ins rfl hK))
    · refine WE.bin (WE.loc rfl rfl (WE.lst (WEs.cons (WE.str (WEs.nil ⟨_, rfl, Nat.le_of_ble_eq_true rfl, WO.addL (by rw [hlen]; show _ + 1 ≤ _; lia -abstractProof) ?_⟩)))))
      rw [hrs]
      have e : (S.line.flatMap (cnOf ns).rows).map D.str ++ [.str ""] = (S.line.flatMap (cnOf ns).rows ++ [("" : Str)]).map D.str := by simp
      rw [List.nil_append, e]
      refine WO.neLs ⟨_, rfl, ?_⟩
      rw [if_neg Bool.false_ne_true]
      exact WS.nil (h p')
end
end Mine
end
section
namespace Mine
set_option maxRecDepth 10000
theorem int_sum_map (s : Int) : ∀ l : List Nat, ((l.map fun (x : Nat) => s * (x : Int)).sum) = s * ((l.sum : Nat) : Int)
  | [] => by simp
  | x :: l => by
    rw [List.map_cons, List.sum_cons, int_sum_map s l, List.sum_cons]
    push_cast
    rw [Int.mul_add]
section
variable {prog : Program} {w : World} {h₀ : Heap} {σ : List MO} {kk n : Nat} {sc : Scope} {m : List (Str × Vl)} {K : Vl → List MO → Prop} {gl : Str → Option Value} {Ks : Fl → List (Str × Vl) → List MO → Prop}
  {C N : Addr} {mN : Str → Option Value} {fI fR fG fP : Addr} {t0 t1 : MO} {text : Str} {p ln : Int}
theorem law_feeds (Z : Md h₀ gl C N mN fI fR fG fP) {ns : List Int} {book : List (Nat × EA)} {S : StD} {pb : List D}
    (h : WS prog w h₀ (n + 4) (scopeOf (stAt 19)) kk (lawM5 ns S) ((bodyOf (stAt 19)).drop 18) (σD C (textOf ns) p (feeds ns) pb (cnOf ns) book S) Ks) :
    WS prog w h₀ (n + 4) (scopeOf (stAt 19)) kk (lawM5 ns S) ((bodyOf (stAt 19)).drop 17) (σD C (textOf ns) p (feeds ns) pb (cnOf ns) book S) Ks := by
  refine WS.cons (W1.ite (WB.cmp (WE.attr Z.X.cls Z.X.n1 o_lineno Z.X.qt.ga (WE.cell rfl rfl (in_eeeeeaaa 5 4 7 (lexAt (feeds ns)) (.d (.int (feeds ns))) rfl lexσ_ins rfl ?_)))))
  refine WE.bin (WE.int (WE.meth PySem.F.plainAttrs_str PySem.F.slot_str_count PySem.F.type_str_count (WE.loc rfl rfl ⟨ty_str, WEs.cons (WE.str (WEs.nil (WO.countS (WO.addI (WO.neI ⟨_, rfl, ?_⟩)))))⟩)))
  rw [text_feeds]
  have e : (feeds ns != 1 + (cnt (rowL ns 0) + cnt (rowL ns 1) + cnt (rowL ns 2))) = false := by
    unfold feeds
    simp
    lia -abstractProof
  rw [e, if_neg Bool.false_ne_true]
  exact WS.nil h
theorem law_sum (Z : Md h₀ gl C N mN fI fR fG fP) {ns : List Int} {Sf : StA} {S : StD} (U : Urn (cnOf ns) (drawsOf ns) Sf S) {pb : List D} (hkk : kk ≤ 9)
    (h : ∀ m rest, Ks (.ret (.d (.bool true))) m (lexσ C T0 T1 (textOf ns) p (feeds ns) pb rest)) :
    WS prog w h₀ (n + 4) (scopeOf (stAt 19)) kk (lawM5 ns S) ((bodyOf (stAt 19)).drop 18) (σD C (textOf ns) p (feeds ns) pb (cnOf ns) Sf.1 S) Ks := by
  have hok := cnOf_ok ns
  have hd0 : (cnOf ns).d.a ≤ 3 := (hok.d 0).2
  have hd1 : (cnOf ns).d.b ≤ 3 := (hok.d 1).2
  have hd2 : (cnOf ns).d.c ≤ 3 := (hok.d 2).2
  have hs := U.sum
  generalize hu : (cnOf ns).d.a + (cnOf ns).d.b + (cnOf ns).d.c = u at hs
  have hu9 : u ≤ 9 := by lia -abstractProof
  have esum : ([(((cnOf ns).d.a : Nat) : Int), ((cnOf ns).d.b : Nat), ((cnOf ns).d.c : Nat)] : List Int).sum = (u : Nat) := by
    show _ + (_ + (_ + 0)) = _
    lia -abstractProof
  refine WS.cons (W1.assign (WE.callBi (WE.glob Z.G Z.L.sum rfl ⟨rfl, WEs.cons (WE.cell rfl rfl (WEs.nil (WO.sumL (ns := [(((cnOf ns).d.a : Nat) : Int), ((cnOf ns).d.b : Nat), ((cnOf ns).d.c : Nat)]) (WN.loc rfl ?_))))⟩)))
  rw [esum]
  have bd : ∀ y ∈ lexσ C T0 T1 (textOf ns) p (feeds ns) pb [.dict ((cnOf ns).bookD Sf.1), .dict ((cnOf ns).bookD S.due)], y.bd ≤ (lexσ C T0 T1 (textOf ns) p (feeds ns) pb [.dict ((cnOf ns).bookD Sf.1), .dict ((cnOf ns).bookD S.due)]).length := lexσ_bd' (show 1 ≤ 2 by decide) (show 2 ≤ 2 by decide) (by
    intro y hy
    simp only [List.mem_cons, List.not_mem_nil, or_false] at hy
    rcases hy with rfl | rfl <;> exact Nat.zero_le _)
  refine WS.freeze (σ := lexσ C T0 T1 (textOf ns) p (feeds ns) pb [.dict ((cnOf ns).bookD Sf.1), .dict ((cnOf ns).bookD S.due)]) (x := .dict ((cnOf ns).wD S.wts)) Z.G (.dict _) bd hkk ?_
  refine WS.norm (m' := [(("weights" : Str), .d (.dct ((cnOf ns).wD S.wts))), ("urn", .d (.int (u : Nat))), ("start", .d (.int (cnOf ns).start)), ("draws", .d (.int (drawsOf ns)))]) (fun x y q => ?_) ?_
  · simp only [lookup_cons_eq] at q
    split at q
    · rename_i z; cases q; subst z; rfl
    split at q
    · rename_i z; cases q; subst z; rfl
    split at q
    · rename_i z; cases q; subst z; rfl
    split at q
    · rename_i z; cases q; subst z; rfl
    · cases q
  have hv : ((cnOf ns).wD S.wts).map (·.2) = (S.wts.map fun q => (cnOf ns).start * ((q.2 : Nat) : Int)).map D.int := by
    unfold Cn.wD cmap
    rw [List.map_map, List.map_map]; rfl
  have hsum : (S.wts.map fun q => (cnOf ns).start * ((q.2 : Nat) : Int)).sum = (cnOf ns).start * (((S.wts.map (·.2)).sum : Nat) : Int) := by
    rw [← int_sum_map, List.map_map]; rfl
  refine WS.cons (W1.ret (WE.cmp (WE.callDef Z.G Z.calls rfl rfl (WEs.cons (WE.loc rfl rfl (WEs.nil ⟨rfl, ?_⟩))))))
  refine count_calls Z.G hv fun _ => ?_
  rw [hsum, hs]
  refine WE.bin (WE.bin (WE.bin (WE.loc rfl rfl (WE.loc rfl rfl (WO.mulI (mulR (by lia -abstractProof)) (WE.bin (WE.loc rfl rfl (WE.int (WO.addI (WO.mulI (mulR (by lia -abstractProof)) ?_)))))))))) 
  have fin : ∀ x : Int, x = (if drawsOf ns = 3 then (u : Int) + 2 else 1) → WO prog w h₀ (n + 4) [.d (.int ((cnOf ns).start * ((u * (u + 1) * (if drawsOf ns = 3 then u + 2 else 1) : Nat) : Int))), .d (.int ((cnOf ns).start * (u : Int) * ((u : Int) + 1) * x))] (bin2 (compareOp .Eq)) (lexσ C T0 T1 (textOf ns) p (feeds ns) pb [.dict ((cnOf ns).bookD Sf.1), .dict ((cnOf ns).bookD S.due)]) fun v σ₁ => Ks (.ret v) [(("weights" : Str), .d (.dct ((cnOf ns).wD S.wts))), ("urn", .d (.int (u : Nat))), ("start", .d (.int (cnOf ns).start)), ("draws", .d (.int (drawsOf ns)))] σ₁ := by
    rintro x rfl
    refine WO.eqI ?_
    have e : ((cnOf ns).start * ((u * (u + 1) * (if drawsOf ns = 3 then u + 2 else 1) : Nat) : Int) == (cnOf ns).start * (u : Int) * ((u : Int) + 1) * (if drawsOf ns = 3 then (u : Int) + 2 else 1)) = true := by
      rw [beq_iff_eq]
      have e2 : ((u : Int) + 1 + 1) = (u : Int) + 2 := by lia -abstractProof
      split
      · push_cast; simp only [Int.mul_assoc, e2]
      · push_cast; simp only [Int.mul_assoc]
    rw [e]
    exact h _ _
  refine WE.ite (WB.cmp (WE.loc rfl rfl (WE.int (WO.eqI ⟨_, rfl, ?_⟩))))
  by_cases q : drawsOf ns = 3
  · rw [if_pos (by rw [q]; rfl)]
    exact WE.bin (WE.loc rfl rfl (WE.int (WO.addI (WO.mulI (mulR (by lia -abstractProof)) (fin _ (if_pos q).symm)))))
  · rw [if_neg (by rw [beq_iff_eq]; lia -abstractProof)]
    exact WE.int (WO.mulI (mulR (by decide)) (fin _ (if_neg q).symm))
/-- law, whole -/
theorem law_all (Z : Md h₀ gl C N mN fI fR fG fP) {ns : List Int} (hl : ns.length ≤ 63) (hkk : kk ≤ 2)
    (h : ∀ m p pb rest, Ks (.ret (.d (.bool true))) m (lexσ C T0 T1 (textOf ns) p (feeds ns) pb rest)) :
    WS prog w h₀ (n + 4) (scopeOf (stAt 19)) kk [("script", .d (.lst (ns.map .int)))] (bodyOf (stAt 19)) [.obj (tabE 0 113), T1] Ks := by
  have hdr : drawsOf ns = 2 ∨ drawsOf ns = 3 := by have := draws_b ns; lia -abstractProof
  obtain ⟨hu, hE⟩ := urn_all (dotOf_b (cellOf ns 0)) (dotOf_b (cellOf ns 1)) (dotOf_b (cellOf ns 2)) hdr
  have hE' : evenAll (cnOf ns).d = true := hE
  refine el_ee (urn_of (P := cnOf ns) hu) fun Sf S U => ?_
  refine law_cells (n := n + 3) Z hl (law_nums (n := n + 3) Z (law_dots (n := n + 3) Z (law_rowsC (n := n + 3) Z (law_text (n := n + 2) Z (law_lexer Z (law_read Z fun p hp => ?_))))))
  have hp' : Rem (textOf ns) p [] ∨ Rem (textOf ns) p [32] := by
    unfold after at hp
    cases hb : bareK ns 2 with
    | true => rw [hb, if_pos rfl] at hp; exact .inl hp
    | false => rw [hb, if_neg Bool.false_ne_true] at hp; exact .inr hp
  refine law_book Z (by lia -abstractProof) U.run ?_
  have hd3 := (draws_b ns).1
  refine WS.cons (W1.for_ (WI.range3 (WE.glob Z.G Z.L.range rfl ⟨rfl, WE.loc rfl rfl (WE.neg (WE.int ⟨1, rfl, WE.neg (WE.int (in_eaeaaaa 1 rfl (drawsOf ns) rfl rfl rfl (by lia -abstractProof) ?_))⟩))⟩)))
  refine a_loop (n := n + 2) (p := p) (ln := feeds ns) Z hE' (drawsOf ns) _ 0 ⟨[], [], []⟩ _ rfl (Nat.le_refl _) ⟨Nat.le_refl _, Nat.le_refl _, Nat.le_refl _⟩ (by lia -abstractProof) (fun y hy => ?_) rfl fun m' ag' hl' => ?_
  · have hy' : y ≠ "line" := fun q => hy (by simp [q])
    unfold lawM4
    simp only [lookup_cons_eq]
    rw [if_neg hy']
  · rw [← U.due] at hl' ⊢
    refine WS.norm (lawM5_norm ag' hl') (law_cmp Z U hp' fun p' => law_feeds Z (law_sum Z U (by lia -abstractProof) fun m rest => h m p' [] rest))
end
end Mine
end
section
namespace Mine
set_option maxRecDepth 100000
/-! ### the module at the call -/
noncomputable def parsOf : Option Stmt → Arguments
  | some (.FunctionDef _ a _ _ _ _ _ _ _ _) => a
  | _ => ⟨[], [], none, [], [], none, []⟩
noncomputable def nameOf : Option Stmt → Str
  | some (.FunctionDef n _ _ _ _ _ _ _ _ _) => n
  | _ => ""
noncomputable def fnP (o : Obj) : FuncData := match o.data with
  | .func fd => fd
  | _ => { name := "", qualname := "", params := ⟨[], [], none, [], [], none, []⟩, body := .stmts [], scope := default, globals := 0, closure := [], defaults := .none, kwdefaults := .none }
noncomputable def mkFd (st : Option Stmt) (q : Str) (o : Obj) (c : Addr) : FuncData :=
  { name := nameOf st, qualname := q, params := parsOf st, body := .stmts (bodyOf st), scope := scopeOf st, globals := mainGlobals, closure := [], defaults := .none, kwdefaults := .none, doc := (fnP o).doc, pyModule := (fnP o).pyModule, code := .ref c, builtins := builtinsNs }
theorem len0 {α : Type _} : ∀ l : List α, l.length = 0 → l = []
  | [], _ => rfl
theorem lenS {α : Type _} {n : Nat} {P : List α → Prop} (h : ∀ a l, l.length = n → P (a :: l)) : ∀ l : List α, l.length = n + 1 → P l
  | a :: l, e => h a l (Nat.succ.inj e)
theorem len1 {P : List Value → Prop} (h : ∀ a, P [a]) : ∀ us, us.length = 1 → P us := lenS fun a l e => by rw [len0 l e]; exact h a
theorem len2 {P : List Value → Prop} (h : ∀ a b, P [a, b]) : ∀ us, us.length = 2 → P us := lenS fun a => len1 (h a)
theorem len3 {P : List Value → Prop} (h : ∀ a b c, P [a, b, c]) : ∀ us, us.length = 3 → P us := lenS fun a => len2 (h a)
theorem len4 {P : List Value → Prop} (h : ∀ a b c d, P [a, b, c, d]) : ∀ us, us.length = 4 → P us := lenS fun a => len3 (h a)
theorem len5 {P : List Value → Prop} (h : ∀ a b c d e, P [a, b, c, d, e]) : ∀ us, us.length = 5 → P us := lenS fun a => len4 (h a)
theorem len6 {P : List Value → Prop} (h : ∀ a b c d e f, P [a, b, c, d, e, f]) : ∀ us, us.length = 6 → P us := lenS fun a => len5 (h a)
theorem bind_2 (q : Str) (o : Obj) (c : Addr) : ∀ us : List Value, us.length = (["target", "source"] : List Str).length → bindArgs (mkFd (stAt 2) q o c) ⟨us, []⟩ = pure ((["target", "source"] : List Str).zip us) :=
  len2 fun _ _ => rfl
theorem bind_3 (q : Str) (o : Obj) (c : Addr) : ∀ us : List Value, us.length = (["target", "source"] : List Str).length → bindArgs (mkFd (stAt 3) q o c) ⟨us, []⟩ = pure ((["target", "source"] : List Str).zip us) :=
  len2 fun _ _ => rfl
theorem bind_4 (q : Str) (o : Obj) (c : Addr) : ∀ us : List Value, us.length = (["callers"] : List Str).length → bindArgs (mkFd (stAt 4) q o c) ⟨us, []⟩ = pure ((["callers"] : List Str).zip us) :=
  len1 fun _ => rfl
theorem bind_11 (q : Str) (o : Obj) (c : Addr) : ∀ us : List Value, us.length = (["data"] : List Str).length → bindArgs (mkFd (stAt 11) q o c) ⟨us, []⟩ = pure ((["data"] : List Str).zip us) :=
  len1 fun _ => rfl
theorem bind_13 (q : Str) (o : Obj) (c : Addr) : ∀ us : List Value, us.length = (["text"] : List Str).length → bindArgs (mkFd (stAt 13) q o c) ⟨us, []⟩ = pure ((["text"] : List Str).zip us) :=
  len1 fun _ => rfl
theorem bind_14 (q : Str) (o : Obj) (c : Addr) : ∀ us : List Value, us.length = (["word", "bare"] : List Str).length → bindArgs (mkFd (stAt 14) q o c) ⟨us, []⟩ = pure ((["word", "bare"] : List Str).zip us) :=
  len2 fun _ _ => rfl
theorem bind_15 (q : Str) (o : Obj) (c : Addr) : ∀ us : List Value, us.length = (["value", "dots", "twofold"] : List Str).length → bindArgs (mkFd (stAt 15) q o c) ⟨us, []⟩ = pure ((["value", "dots", "twofold"] : List Str).zip us) :=
  len3 fun _ _ _ => rfl
theorem bind_16 (q : Str) (o : Obj) (c : Addr) : ∀ us : List Value, us.length = (["lexer", "rows", "letters", "start", "draws", "twofold"] : List Str).length → bindArgs (mkFd (stAt 16) q o c) ⟨us, []⟩ = pure ((["lexer", "rows", "letters", "start", "draws", "twofold"] : List Str).zip us) :=
  len6 fun _ _ _ _ _ _ => rfl
theorem bind_17 (q : Str) (o : Obj) (c : Addr) : ∀ us : List Value, us.length = (["rows", "dots", "letters", "drawn"] : List Str).length → bindArgs (mkFd (stAt 17) q o c) ⟨us, []⟩ = pure ((["rows", "dots", "letters", "drawn"] : List Str).zip us) :=
  len4 fun _ _ _ _ => rfl
theorem bind_18 (q : Str) (o : Obj) (c : Addr) : ∀ us : List Value, us.length = (["dots", "letters", "start", "drawn", "twofold"] : List Str).length → bindArgs (mkFd (stAt 18) q o c) ⟨us, []⟩ = pure ((["dots", "letters", "start", "drawn", "twofold"] : List Str).zip us) :=
  len5 fun _ _ _ _ _ => rfl
theorem bind_19 (q : Str) (o : Obj) (c : Addr) : ∀ us : List Value, us.length = (["script"] : List Str).length → bindArgs (mkFd (stAt 19) q o c) ⟨us, []⟩ = pure ((["script"] : List Str).zip us) :=
  len1 fun _ => rfl
theorem bind_i (q : Str) (o : Obj) (c : Addr) : ∀ us : List Value, us.length = (["self", "fp"] : List Str).length → bindArgs (mkFd (cdef 0) q o c) ⟨us, []⟩ = pure ((["self", "fp"] : List Str).zip us) :=
  len2 fun _ _ => rfl
theorem bind_r (q : Str) (o : Obj) (c : Addr) : ∀ us : List Value, us.length = (["self"] : List Str).length → bindArgs (mkFd (cdef 1) q o c) ⟨us, []⟩ = pure ((["self"] : List Str).zip us) :=
  len1 fun _ => rfl
theorem bind_g (q : Str) (o : Obj) (c : Addr) : ∀ us : List Value, us.length = (["self"] : List Str).length → bindArgs (mkFd (cdef 2) q o c) ⟨us, []⟩ = pure ((["self"] : List Str).zip us) :=
  len1 fun _ => rfl
theorem bind_p (q : Str) (o : Obj) (c : Addr) : ∀ us : List Value, us.length = (["self", "token"] : List Str).length → bindArgs (mkFd (cdef 3) q o c) ⟨us, []⟩ = pure ((["self", "token"] : List Str).zip us) :=
  len2 fun _ _ => rfl
/-- a def's object and its code stand in the written part -/
structure FnK (K : Frag) (f c : Addr) (st : Option Stmt) (q : Str) : Prop where
  ex : ∃ o oc vs tq, K.lookup f = some o ∧ o.cls = .type "function" ∧ o.data = .func (mkFd st q o c) ∧ K.lookup c = some oc ∧ oc.data = .fields vs ∧ vs[1]? = some (.str q tq)
theorem FnIs.fn {h : Heap} {gl : Str → Option Value} {x : Str} {f : Addr} {i : Nat} {ps : List Str} (X : FnIs h f (stAt i) ps) (hg : gl x = some (.ref f)) : IsFn h gl x i ps := by
  refine el_eeaaaaaaaaaa (X.ex) fun o fd h1 _ h3 h4 h5 h6 h7 h8 h9 h10 h11 => ?_
  exact ⟨f, o, fd, hg, h1, h3, h4, h5, h6, h7, h8, h9, h10, h11⟩
end Mine
end
section
namespace Mine
set_option maxRecDepth 100000
/-! ### the join -/
noncomputable def objAt (K : Frag) (a : Addr) : Obj := (K.lookup a).getD default
noncomputable def fldAt (K : Frag) (a : Addr) : Array Value := match (objAt K a).data with
  | .fields vs => vs
  | _ => #[]
noncomputable def seqAt (K : Frag) (a : Addr) : Array Value := match (objAt K a).data with
  | .seq vs _ => vs
  | _ => #[]
noncomputable def seqN (K : Frag) (a : Addr) : Nat := match (objAt K a).data with
  | .seq _ n => n
  | _ => 0
noncomputable def esAt (K : Frag) (a : Addr) : Array DictEntry := match (objAt K a).data with
  | .dict es _ => es
  | _ => #[]
noncomputable def epAt (K : Frag) (a : Addr) : Nat := match (objAt K a).data with
  | .dict _ n => n
  | _ => 0
noncomputable def clsOf (K : Frag) (a : Addr) : ClassData := match (objAt K a).data with
  | .cls c => c
  | _ => default
noncomputable def slotOf (K : Frag) (a : Addr) (i : Nat) : Option Value := (objAt K a).slots.getD i none
noncomputable def sOf : Value → Str
  | .str s _ => s
  | _ => ""
noncomputable def tOf : Value → Tok
  | .str _ t => t
  | .int _ t => t
  | _ => 0
noncomputable def iOf : Value → Int
  | .int i _ => i
  | _ => 0
noncomputable def bOf : Value → Bool
  | .bool b => b
  | _ => false
noncomputable def allStr (es : Array DictEntry) : Bool := es.toList.all fun e => match e.key with
  | .str _ _ => true
  | _ => false
theorem allStr_keys {es : Array DictEntry} (h : allStr es = true) : StrKeys es := by
  intro e he
  have := List.all_eq_true.mp h e (Array.mem_toList_iff.mpr he)
  revert this
  cases e.key <;> intro this
  case str n t => exact (in_ee n t rfl)
  all_goals exact absurd this Bool.false_ne_true
structure FnQ (K : Frag) (f c : Addr) (st : Option Stmt) (q : Str) : Prop where
  a : K.lookup f = some { cls := .type "function", dict := (objAt K f).dict, data := .func (mkFd st q (objAt K f) c), slots := (objAt K f).slots }
  b : K.lookup c = some { cls := (objAt K c).cls, dict := (objAt K c).dict, data := .fields (fldAt K c), slots := (objAt K c).slots }
  d : (fldAt K c)[1]? = some (.str q (tOf ((fldAt K c).getD 1 .none)))
structure CodeQ (K : Frag) (c P : Addr) : Prop where
  a : K.lookup c = some { cls := .type "code", dict := (objAt K c).dict, data := .fields (fldAt K c), slots := (objAt K c).slots }
  b : (fldAt K c)[11]? = some (.ref P)
  b' : (fldAt K c).getD 11 .none = .ref P
  c18 : (fldAt K c).getD 18 .none = .str (sOf ((fldAt K c).getD 18 .none)) (tOf ((fldAt K c).getD 18 .none))
  c7 : (fldAt K c).getD 7 .none = .int (iOf ((fldAt K c).getD 7 .none)) (tOf ((fldAt K c).getD 7 .none))
  c9 : (fldAt K c).getD 9 .none = .bool (bOf ((fldAt K c).getD 9 .none))
  c10 : (fldAt K c).getD 10 .none = .int (iOf ((fldAt K c).getD 10 .none)) (tOf ((fldAt K c).getD 10 .none))
  ne : c ≠ P
  t : K.lookup P = some (tabObj #[])
structure PatQ (K : Frag) (a c : Addr) (code : Array Nat) : Prop where
  oa : K.lookup a = some { cls := .type "re.Pattern", dict := none, data := .fields (fldAt K a), slots := (objAt K a).slots }
  f2 : (fldAt K a).getD 2 .none = .int 0 0
  f5 : (fldAt K a).getD 5 .none = .ref c
  f6 : (fldAt K a).getD 6 .none = .int 0 0
  oc : K.lookup c = some { cls := (objAt K c).cls, dict := (objAt K c).dict, data := .seq (seqAt K c) (seqN K c), slots := (objAt K c).slots }
  eq : ((seqAt K c).map Builtin.Re.reRawOf).map (·.toNat) = code
/-- what the written part of the module holds -/
structure KMod (K : Frag) : Prop where
  afs : FnQ K 38 37 (stAt 2) "add_func_stats"
  acs : FnQ K 45 44 (stAt 3) "add_callers"
  calls : FnQ K 52 51 (stAt 4) "count_calls"
  fI : FnQ K 66 65 (cdef 0) "_netrclex.__init__"
  fR : FnQ K 73 72 (cdef 1) "_netrclex._read_char"
  fG : FnQ K 80 79 (cdef 2) "_netrclex.get_token"
  fP : FnQ K 87 86 (cdef 3) "_netrclex.push_token"
  quot : FnQ K 111 110 (stAt 11) "quotedata"
  stream : FnQ K 118 117 (stAt 13) "_law_stream"
  spelled : FnQ K 123 122 (stAt 14) "_law_spelled"
  times : FnQ K 130 129 (stAt 15) "_law_times"
  drawn : FnQ K 135 134 (stAt 16) "_law_drawn"
  rows : FnQ K 142 141 (stAt 17) "_law_rows"
  entry : FnQ K 147 146 (stAt 18) "_law_entry"
  law : FnQ K 152 151 (stAt 19) "law"
  one : PatQ K 99 98 code1
  two : PatQ K 104 103 code2
  t0 : CodeQ K 117 113
  t1 : CodeQ K 44 40
  cl : K.lookup 90 = some (excClassObj (clsOf K 90).name (clsOf K 90).qualname 90 89 (clsOf K 90).bases [.type "object"] true (clsOf K 90).slotNames (clsOf K 90).subclasses false (clsOf K 90).collection (objAt K 90).dict (slotOf K 90 0) (slotOf K 90 1) (slotOf K 90 2) (slotOf K 90 3) (slotOf K 90 5) "object.__new__")
  ns : K.lookup 89 = some { cls := (objAt K 89).cls, dict := (objAt K 89).dict, data := .dict (esAt K 89) (epAt K 89), slots := (objAt K 89).slots }
  nsk : allStr (esAt K 89) = true
  gs : K.lookup 3 = some { cls := (objAt K 3).cls, dict := (objAt K 3).dict, data := .dict (esAt K 3) (epAt K 3), slots := (objAt K 3).slots }
  sm : K.lookup 1 = some (objAt K 1)
  mI : nsFind (esAt K 89) "__init__" = some (.ref 66)
  mR : nsFind (esAt K 89) "_read_char" = some (.ref 73)
  mG : nsFind (esAt K 89) "get_token" = some (.ref 80)
  mP : nsFind (esAt K 89) "push_token" = some (.ref 87)
  m1 : nsFind (esAt K 89) "lineno" = none
  m2 : nsFind (esAt K 89) "instream" = none
  m3 : nsFind (esAt K 89) "whitespace" = none
  m4 : nsFind (esAt K 89) "pushback" = none
  m5 : nsFind (esAt K 89) "__getattribute__" = none
  m6 : nsFind (esAt K 89) "__getattr__" = none
  m7 : nsFind (esAt K 89) "__setattr__" = none
  g1 : nsFind (esAt K 3) "add_func_stats" = some (.ref 38)
  g2 : nsFind (esAt K 3) "add_callers" = some (.ref 45)
  g3 : nsFind (esAt K 3) "count_calls" = some (.ref 52)
  g4 : nsFind (esAt K 3) "_netrclex" = some (.ref 90)
  g5 : nsFind (esAt K 3) "_twin_re_1" = some (.ref 99)
  g6 : nsFind (esAt K 3) "_twin_re_2" = some (.ref 104)
  g7 : nsFind (esAt K 3) "CRLF" = some (.str "\r\n" (tOf ((nsFind (esAt K 3) "CRLF").getD .none)))
  g8 : nsFind (esAt K 3) "quotedata" = some (.ref 111)
  g9 : nsFind (esAt K 3) "_law_stream" = some (.ref 118)
  g10 : nsFind (esAt K 3) "_law_spelled" = some (.ref 123)
  g11 : nsFind (esAt K 3) "_law_times" = some (.ref 130)
  g12 : nsFind (esAt K 3) "_law_drawn" = some (.ref 135)
  g13 : nsFind (esAt K 3) "_law_rows" = some (.ref 142)
  g14 : nsFind (esAt K 3) "_law_entry" = some (.ref 147)
  g15 : nsFind (esAt K 3) "law" = some (.ref 152)
  b1 : nsFind (esAt K 3) "range" = none
  b2 : nsFind (esAt K 3) "sum" = none
  b3 : nsFind (esAt K 3) "max" = none
  b4 : nsFind (esAt K 3) "len" = none
  b5 : nsFind (esAt K 3) "isinstance" = none
  b6 : nsFind (esAt K 3) "tuple" = none
  b7 : nsFind (esAt K 3) "zip" = none
  b8 : nsFind (esAt K 3) "iter" = none

theorem boot_range : bootBuiltins "range" = some (.type "range") := by kernel_rfl
theorem boot_sum : bootBuiltins "sum" = some (.builtin "sum") := by kernel_rfl
theorem boot_max : bootBuiltins "max" = some (.builtin "max") := by kernel_rfl
theorem boot_len : bootBuiltins "len" = some (.builtin "len") := by kernel_rfl
theorem boot_isinstance : bootBuiltins "isinstance" = some (.builtin "isinstance") := by kernel_rfl
theorem boot_tuple : bootBuiltins "tuple" = some (.type "tuple") := by kernel_rfl
theorem boot_zip : bootBuiltins "zip" = some (.type "zip") := by kernel_rfl
theorem boot_iter : bootBuiltins "iter" = some (.builtin "iter") := by kernel_rfl

noncomputable abbrev tabs2 : List (Addr × Addr) := [(117, 113), (44, 40)]
theorem FnQ.k {K : Frag} {f c : Addr} {st : Option Stmt} {q : Str} (x : FnQ K f c st q) : FnK K f c st q := ⟨_, _, _, _, x.a, rfl, rfl, x.b, rfl, x.d⟩
theorem CodeQ.hd {K : Frag} {h : Heap} {c P : Addr} (KX : K.In h) (x : CodeQ K c P) : CodeHd h c P ∧ h.get? P = some (tabObj #[]) :=
  ⟨⟨_, _, _, _, _, _, _, _, _, KX _ _ x.a, rfl, rfl, x.b, x.b', x.c18, x.c7, x.c9, x.c10, x.ne⟩, KX _ _ x.t⟩
theorem PatQ.is {K : Frag} {h : Heap} {a c : Addr} {code : Array Nat} (kp : ∀ b o, K.lookup b = some o → b ∉ tabs2.map (·.2) → h.get? b = some o) (x : PatQ K a c code) (ha : a ∉ tabs2.map (·.2)) (hc : c ∉ tabs2.map (·.2)) : IsPat h a code :=
  ⟨_, _, _, _, _, _, kp _ _ x.oa ha, rfl, rfl, rfl, x.f2, x.f5, x.f6, kp _ _ x.oc hc, rfl, x.eq⟩
theorem KMod.tabs {K : Frag} {h : Heap} (KX : K.In h) (X : KMod K) : TabsAt tabs2 h := by
  intro q hq
  rcases List.mem_cons.mp hq with rfl | hq
  · exact X.t0.hd KX
  · rcases List.mem_cons.mp hq with rfl | hq
    · exact X.t1.hd KX
    · cases hq
theorem FnQ.is {K : Frag} {h : Heap} {f c : Addr} {st : Option Stmt} {q : Str} {ps : List Str} (kp : ∀ b o, K.lookup b = some o → b ∉ tabs2.map (·.2) → h.get? b = some o) (x : FnQ K f c st q) (hf : f ∉ tabs2.map (·.2)) (hc : c ∉ tabs2.map (·.2))
    (hb : ∀ o, ∀ us : List Value, us.length = ps.length → bindArgs (mkFd st q o c) ⟨us, []⟩ = pure (ps.zip us)) (hcode : codeOf (scopeOf st) = none ∨ codeOf (scopeOf st) = some c) : FnIs h f st ps := by
  refine el_eeeeaaaaa (x.k.ex) fun o oc vs tq h1 h2 h3 h4 h5 h6 => ?_
  have hcode : ∀ c', codeOf (scopeOf st) = some c' → c' = c := fun c' e => by
    rcases hcode with q | q
    · rw [q] at e; cases e
    · rw [q] at e; cases e; rfl
  exact ⟨o, _, kp _ o h1 hf, h2, h3, (in_eeeeaaa c oc vs tq rfl (kp _ oc h4 hc) h5 h6), rfl, rfl, rfl, rfl, rfl, hb o, fun c' e => by rw [hcode c' e]; rfl⟩
noncomputable def glOf (mg mb : Str → Option Value) (x : Str) : Option Value := match mg x with
  | some v => some v
  | none => mb x
section
variable {K : Frag} {h₁ : Heap} {mg mb : Str → Option Value} {p : Program} {loose : List Str} {mean : ExcName → Option Value}
theorem KMod.mgAt (KX : K.In h₁) (X : KMod K) (T : h₁.Ns mainGlobals mg) (x : Str) : mg x = nsFind (esAt K 3) x := by
  refine el_eeeaaa (T) fun o es ep ho hd _ hf => ?_; try clear T
  have e := KX _ _ X.gs
  have ho' : h₁.get? 3 = some o := ho
  rw [ho'] at e
  cases e
  cases hd
  exact (hf x).symm
theorem glOf_g {x : Str} {v : Value} (e : mg x = some v) : glOf mg mb x = some v := by unfold glOf; rw [e]
theorem glOf_b {x : Str} {v : Option Value} (e : mg x = none) (e2 : mb x = v) : glOf mg mb x = v := by unfold glOf; rw [e]; exact e2
theorem md_of (KX : K.In h₁) (X : KMod K) (T : Top p loose mean mg mb h₁) : Md (ghostOf h₁ tabs2) (glOf mg mb) 90 89 (nsFind (esAt K 89)) 66 73 80 87 := by
  have hT : TabsAt tabs2 h₁ := X.tabs KX
  have kp : ∀ b o, K.lookup b = some o → b ∉ tabs2.map (·.2) → (ghostOf h₁ tabs2).get? b = some o := fun b o e hb => ghost_ne (KX b o e) hb
  have hm : ∀ x, mg x = nsFind (esAt K 3) x := X.mgAt KX T.g
  have gg : ∀ {x v}, nsFind (esAt K 3) x = some v → glOf mg mb x = some v := fun e => glOf_g ((hm _).trans e)
  have gb : ∀ {x : Str} {v : Option Value}, nsFind (esAt K 3) x = none → x ≠ "__name__" → bootBuiltins x = v → glOf mg mb x = v := fun e h1 e2 => glOf_b ((hm _).trans e) ((T.builtins _ h1).trans e2)
  have hG : Glb (ghostOf h₁ tabs2) (glOf mg mb) := by
    refine ⟨fun x v e => (in_eeaa mg mb (ghost_ns hT T.g) (ghost_ns hT T.b) ?_), ?_, _, kp _ _ X.sm (by decide)⟩
    · unfold glOf at e
      cases q : mg x with
      | none => rw [q] at e; exact .inr ⟨rfl, e⟩
      | some v' => rw [q] at e; exact .inl e
    · refine el_ea (T.nolimit) fun mc a r => ?_
      exact ⟨mc, ghost_ns hT a, r⟩
  have cc := ghost_code hT
  refine ⟨hG, ⟨gb X.b1 (by decide) boot_range, gb X.b2 (by decide) boot_sum, gb X.b3 (by decide) boot_max, gb X.b4 (by decide) boot_len⟩,
    ⟨gb X.b5 (by decide) boot_isinstance, gb X.b6 (by decide) boot_tuple, gb X.b7 (by decide) boot_zip, ⟨cc.2.1⟩, ?_⟩,
    ⟨⟨99, gg X.g5, X.one.is kp (by decide) (by decide)⟩, ⟨104, gg X.g6, X.two.is kp (by decide) (by decide)⟩, ⟨_, gg X.g7⟩⟩, ?_, gb X.b8 (by decide) boot_iter,
    FnIs.fn (X.times.is kp (by decide) (by decide) (fun o => bind_15 _ o _) (by decide +kernel)) (gg X.g11),
    FnIs.fn (X.quot.is kp (by decide) (by decide) (fun o => bind_11 _ o _) (by decide +kernel)) (gg X.g8),
    FnIs.fn (X.afs.is kp (by decide) (by decide) (fun o => bind_2 _ o _) (by decide +kernel)) (gg X.g1),
    FnIs.fn (X.acs.is kp (by decide) (by decide) (fun o => bind_3 _ o _) (by decide +kernel)) (gg X.g2),
    FnIs.fn (X.drawn.is kp (by decide) (by decide) (fun o => bind_16 _ o _) (by decide +kernel)) (gg X.g12),
    FnIs.fn (X.rows.is kp (by decide) (by decide) (fun o => bind_17 _ o _) (by decide +kernel)) (gg X.g13),
    FnIs.fn (X.entry.is kp (by decide) (by decide) (fun o => bind_18 _ o _) (by decide +kernel)) (gg X.g14),
    FnIs.fn (X.spelled.is kp (by decide) (by decide) (fun o => bind_14 _ o _) (by decide +kernel)) (gg X.g10),
    FnIs.fn (X.calls.is kp (by decide) (by decide) (fun o => bind_4 _ o _) (by decide +kernel)) (gg X.g3),
    ⟨118, gg X.g9, X.stream.is kp (by decide) (by decide) (fun o => bind_13 _ o _) (by decide +kernel)⟩, ⟨cc.1⟩⟩
  · refine el_eeaaaaa (T.bmain) fun bm ob a1 a2 a3 a4 a5 a6 => ?_
    exact ⟨mg, bm, ob, ghost_ns hT T.g, a1, a2, ghost_get hT a3 (fun q => by rw [q] at a4; cases a4), a4, a5, a6⟩
  · refine ⟨⟨⟨_, _, _, _, _, _, _, _, _, _, _, _, kp _ _ X.cl (by decide)⟩, (in_eeeaaa _ _ _ (kp _ _ X.ns (by decide)) rfl (allStr_keys X.nsk) (fun _ => rfl))⟩, ⟨X.m5, X.m6, X.m7⟩, gg X.g4, X.mI, X.mR, X.mG, X.mP, X.m1, X.m2, X.m3, X.m4,
      X.fI.is kp (by decide) (by decide) (fun o => bind_i _ o _) (by decide +kernel), X.fR.is kp (by decide) (by decide) (fun o => bind_r _ o _) (by decide +kernel),
      X.fG.is kp (by decide) (by decide) (fun o => bind_g _ o _) (by decide +kernel), X.fP.is kp (by decide) (by decide) (fun o => bind_p _ o _) (by decide +kernel)⟩
end
end Mine
end
section
namespace Mine
set_option maxRecDepth 100000
theorem ints_rd {prog : Program} {w : World} {ex : List Addr} {h : Heap} {vs : List Value} {ns : List Int} (x : IntsAre vs ns) : RdAll prog w ex h vs (ns.map .int) := by
  induction x with
  | nil => exact .nil
  | cons n t _ ih => exact .cons (.int n t) ih
theorem law_cell : ∀ x ∈ (["script"] : List Str), (scopeOf (stAt 19)).names.lookup x = some .local ∨ (scopeOf (stAt 19)).names.lookup x = some .cell := by decide +kernel
theorem law_nn : ((cellsFrom 0 (scopeOf (stAt 19)).names []).map (·.1)).Nodup := by decide +kernel
theorem law_code : codeOf (scopeOf (stAt 19)) = none := by decide +kernel
theorem law_co : (scopeOf (stAt 19)).isCoroutine = false := by decide +kernel
theorem law_ge : (scopeOf (stAt 19)).isGenerator = false := by decide +kernel
theorem law_ki : (scopeOf (stAt 19)).kind = .function := by kernel_rfl
section
variable {prog : Program} {w : World} {K : Frag} {s₁ : Shared} {mg mb : Str → Option Value} {p : Program} {loose : List Str} {mean mean' : ExcName → Option Value} {fa l : Addr} {vs : List Value} {ns : List Int} {c : ClaimW} {cl : Str → Option Addr} {args : List WData}
theorem join (KX : K.In s₁.heap) (X : KMod K) (T : Top p loose mean' mg mb s₁.heap) (hg : s₁.gens = #[]) (hmg : mg "law" = some (.ref fa)) (hL : s₁.heap.IsList l vs.toArray) (hI : IntsAre vs ns) (hl : ns.length ≤ 63)
    (hr : ∀ a x, c.raises a x = false) (hp : c.post args (.bool true) args = true) :
    wpAny (model prog w) callerA (call (.ref fa) [.ref l]) (fun v s' => GoodWG c cl mean args s₁ (.ok (.ret v)) s') (fun e s' => GoodWG c cl mean args s₁ (.error e) s') s₁ := by
  have hT : TabsAt tabs2 s₁.heap := X.tabs KX
  have kp : ∀ b o, K.lookup b = some o → b ∉ tabs2.map (·.2) → (ghostOf s₁.heap tabs2).get? b = some o := fun b o e hb => ghost_ne (KX b o e) hb
  have Z := md_of KX X T
  have e := (X.mgAt KX T.g "law").trans X.g15
  rw [hmg] at e
  cases e
  have h113 : s₁.heap.get? 113 = some (tabObj #[]) := (hT (117, 113) (.head _)).2
  have h40 : s₁.heap.get? 40 = some (tabObj #[]) := (hT (44, 40) (.tail _ (.head _))).2
  refine el_eaa (id hL) fun ol hol hlc hlr => ?_
  have hln : l ∉ ([113, 40] : List Addr) ++ [] := fun q => by
    have : l = 113 ∨ l = 40 := by simpa using q
    rcases this with rfl | rfl
    · rw [h113] at hol; cases hol; cases hlc
    · rw [h40] at hol; cases hol; cases hlc
  have R : Rel prog w (ghostOf s₁.heap tabs2) [] [113, 40] [.obj (tabE 0 113), T1] s₁ := by
    refine ⟨fun b o e => ⟨of_hideAll _ e, fun q => ?_⟩, rfl, by decide, fun a ha => ?_, fun i a x ha hx => ?_, .of_eq hg⟩
    · have : b ∈ tabs2.map (·.2) := by simpa using q
      rw [show (ghostOf s₁.heap tabs2).get? b = none from hideAll_none _ this] at e
      cases e
    · have : a = 113 ∨ a = 40 := by simpa using ha
      rcases this with rfl | rfl
      · exact ⟨_, h113⟩
      · exact ⟨_, h40⟩
    · match i, ha, hx with
      | 0, ha, hx =>
        cases ha; cases hx
        exact ⟨_, h113, rfl, rfl⟩
      | 1, ha, hx =>
        cases ha; cases hx
        exact (in_eaaea _ h40 rfl (#[]) rfl (by simp [TriplesOk]))
  have V : VRs prog w [] [113, 40] s₁.heap [.d (.lst (ns.map .int))] [.ref l] := .cons (.lst hln hL (ints_rd hI)) .nil
  have Q := X.law
  have W := WO.fnC (prog := prog) (w := w) (n := 4) (σ := [.obj (tabE 0 113), T1]) (vs := [.d (.lst (ns.map .int))]) (Kv := fun v σ' => v = .d (.bool true) ∧ ∃ text p ln pb rest, σ' = lexσ 90 T0 T1 text p ln pb rest)
    Z.G ["script"] (kp _ _ Q.a (by decide)) rfl (in_eeeeaaa _ _ _ _ rfl (kp _ _ Q.b (by decide)) rfl Q.d) rfl rfl (bind_19 _ _ _) (by decide) law_cell rfl rfl rfl law_nn law_co law_ge law_ki
    (fun c' e => by have e' : codeOf (scopeOf (stAt 19)) = some c' := e; rw [law_code] at e'; cases e')
    (fun k hk => law_all (n := 0) Z hl (by rw [hk]; exact Nat.le_refl 2) (fun m p pb rest => ⟨rfl, _, _, _, _, _, rfl⟩))
  refine wpAny_mono (W callerA [] [113, 40] s₁ [.ref l] ⟨rfl, by decide, by decide⟩ R V) (fun u s' h => ?_) (fun _ _ x => x.elim)
  refine el_eeeaaaaeeeee (h) fun v as' σ' st R' V' e text pp ln pb rest e' => ?_; try clear h
  subst e
  subst e'
  cases V'
  have a0 : as'[0]? = some 113 := st.pre 0 113 (by decide) rfl
  have a1 : as'[1]? = some 40 := st.pre 1 40 (by decide) rfl
  refine el_eaaea (R'.mo 0 113 T0 a0 rfl) fun o0 ho0 _ ps0 zq4 _ => ?_; subst zq4
  refine el_eaaea (R'.mo 1 40 T1 a1 rfl) fun o1 ho1 _ ps1 zq4 _ => ?_; subst zq4
  have keep : ∀ b o, b ∉ tabs2.map (·.2) → s₁.heap.get? b = some o → s'.heap.get? b = some o := fun b o hb e => (R'.base b o (ghost_ne e hb)).1
  have grown : ∀ b o, b ∈ tabs2.map (·.2) → s₁.heap.get? b = some o → isCodeTable s₁.heap b ∧ o = tabObj #[] ∧ ∃ ps, s'.heap.get? b = some (tabObj ps) := fun b o hb e => by
    have : b = 113 ∨ b = 40 := by simpa using hb
    rcases this with rfl | rfl
    · have q := hT (117, 113) (.head _)
      rw [h113] at e; cases e
      exact ⟨(q.1.tab q.2).isCodeTable, rfl, _, ho0⟩
    · have q := hT (44, 40) (.tail _ (.head _))
      rw [h40] at e; cases e
      exact ⟨(q.1.tab q.2).isCodeTable, rfl, _, ho1⟩
  refine ⟨.inl ⟨.bool true, .bool true, [], rfl, hr args, .bool _, hp, fun _ => ⟨List.nodup_nil, fun a h => nomatch h⟩⟩, ⟨fun b o e => ?_, fun b o e => ?_⟩, st.os, R'.bare⟩
  · by_cases hb : b ∈ tabs2.map (·.2)
    · refine el_aae (grown b o hb e) fun ht zq1 ps hP => ?_; subst zq1
      exact .inr (.inl (⟨ht, rfl, in_eea (#[]) ps rfl (by rw [Array.empty_append]; exact hP)⟩))
    · exact .inl (keep b o hb e)
  · by_cases hb : b ∈ tabs2.map (·.2)
    · refine el_aae (grown b o hb e) fun _ _ ps hP => ?_
      exact ⟨_, hP⟩
    · exact ⟨o, keep b o hb e⟩
end
end Mine
end
open PySem.W.X PySem.W.ZRun
set_option maxRecDepth 100000 in
set_option maxHeartbeats 0 in
theorem PySem.Challenge.cw_re0020_01_holds : PySem.Challenge.rw_re0020_01.Holds := by
  w_on; o_law; z_head
  (case hw => w_witness2)
  k_fill
  intro w s₀ s₁ mg mb G y fa o pm cd doc dV kV ho hd hcd hD hmg hg args vals as L hpre hlay hrd hwl hlo
  z_open y L KX ZH ZN ZT
  refine Ground.open G ?_
  intro T B D TE TW
  wrow_args hpre hlay hrd hwl hlo
  refine Mine.join KX ?_ T hg hmg ‹_› ‹_› ?_ (fun _ _ => rfl) ?_
  · constructor
    all_goals first | (kernel_rfl; done) | (constructor; all_goals first | (kernel_rfl; done) | decide)
  · omega
  · first | rfl | kernel_rfl
