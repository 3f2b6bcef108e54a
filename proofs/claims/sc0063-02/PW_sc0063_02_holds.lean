import PyProof.Rows.All
import Wide.All
import OpenK.AllK
import Wide.FinOn
import KE.BitLaws
import PySem.Challenge.RW_sc0063_02
set_option Elab.async false
set_option maxRecDepth 100000
set_option linter.all false
namespace Mine
section
theorem E0_2 {P0 P1 : Prop} {G : Prop} (h : P0 ∧ P1) (k : P0 → P1 → G) : G := k h.1 h.2
theorem E0_3 {P0 P1 P2 : Prop} {G : Prop} (h : P0 ∧ P1 ∧ P2) (k : P0 → P1 → P2 → G) : G := k h.1 h.2.1 h.2.2
theorem E0_4 {P0 P1 P2 P3 : Prop} {G : Prop} (h : P0 ∧ P1 ∧ P2 ∧ P3) (k : P0 → P1 → P2 → P3 → G) : G := k h.1 h.2.1 h.2.2.1 h.2.2.2
theorem E0_5 {P0 P1 P2 P3 P4 : Prop} {G : Prop} (h : P0 ∧ P1 ∧ P2 ∧ P3 ∧ P4) (k : P0 → P1 → P2 → P3 → P4 → G) : G := k h.1 h.2.1 h.2.2.1 h.2.2.2.1 h.2.2.2.2
theorem E0_6 {P0 P1 P2 P3 P4 P5 : Prop} {G : Prop} (h : P0 ∧ P1 ∧ P2 ∧ P3 ∧ P4 ∧ P5) (k : P0 → P1 → P2 → P3 → P4 → P5 → G) : G := k h.1 h.2.1 h.2.2.1 h.2.2.2.1 h.2.2.2.2.1 h.2.2.2.2.2
theorem E0_8 {P0 P1 P2 P3 P4 P5 P6 P7 : Prop} {G : Prop} (h : P0 ∧ P1 ∧ P2 ∧ P3 ∧ P4 ∧ P5 ∧ P6 ∧ P7) (k : P0 → P1 → P2 → P3 → P4 → P5 → P6 → P7 → G) : G := k h.1 h.2.1 h.2.2.1 h.2.2.2.1 h.2.2.2.2.1 h.2.2.2.2.2.1 h.2.2.2.2.2.2.1 h.2.2.2.2.2.2.2
theorem E1_1 {T0 : Type} {P0 : T0 → Prop} {G : Prop} (h : ∃ x0, P0 x0) (k : ∀ x0, P0 x0 → G) : G := h.elim fun x0 h => k x0 h
theorem E1_2 {T0 : Type} {P0 P1 : T0 → Prop} {G : Prop} (h : ∃ x0, P0 x0 ∧ P1 x0) (k : ∀ x0, P0 x0 → P1 x0 → G) : G := h.elim fun x0 h => k x0 h.1 h.2
theorem E1_3 {T0 : Type} {P0 P1 P2 : T0 → Prop} {G : Prop} (h : ∃ x0, P0 x0 ∧ P1 x0 ∧ P2 x0) (k : ∀ x0, P0 x0 → P1 x0 → P2 x0 → G) : G := h.elim fun x0 h => k x0 h.1 h.2.1 h.2.2
theorem E1_4 {T0 : Type} {P0 P1 P2 P3 : T0 → Prop} {G : Prop} (h : ∃ x0, P0 x0 ∧ P1 x0 ∧ P2 x0 ∧ P3 x0) (k : ∀ x0, P0 x0 → P1 x0 → P2 x0 → P3 x0 → G) : G := h.elim fun x0 h => k x0 h.1 h.2.1 h.2.2.1 h.2.2.2
theorem E1_5 {T0 : Type} {P0 P1 P2 P3 P4 : T0 → Prop} {G : Prop} (h : ∃ x0, P0 x0 ∧ P1 x0 ∧ P2 x0 ∧ P3 x0 ∧ P4 x0) (k : ∀ x0, P0 x0 → P1 x0 → P2 x0 → P3 x0 → P4 x0 → G) : G := h.elim fun x0 h => k x0 h.1 h.2.1 h.2.2.1 h.2.2.2.1 h.2.2.2.2
theorem E2_1 {T0 T1 : Type} {P0 : T0 → T1 → Prop} {G : Prop} (h : ∃ x0 x1, P0 x0 x1) (k : ∀ x0 x1, P0 x0 x1 → G) : G := h.elim fun x0 h => h.elim fun x1 h => k x0 x1 h
theorem E2_2 {T0 T1 : Type} {P0 P1 : T0 → T1 → Prop} {G : Prop} (h : ∃ x0 x1, P0 x0 x1 ∧ P1 x0 x1) (k : ∀ x0 x1, P0 x0 x1 → P1 x0 x1 → G) : G := h.elim fun x0 h => h.elim fun x1 h => k x0 x1 h.1 h.2
theorem E2_3 {T0 T1 : Type} {P0 P1 P2 : T0 → T1 → Prop} {G : Prop} (h : ∃ x0 x1, P0 x0 x1 ∧ P1 x0 x1 ∧ P2 x0 x1) (k : ∀ x0 x1, P0 x0 x1 → P1 x0 x1 → P2 x0 x1 → G) : G := h.elim fun x0 h => h.elim fun x1 h => k x0 x1 h.1 h.2.1 h.2.2
theorem E2_4 {T0 T1 : Type} {P0 P1 P2 P3 : T0 → T1 → Prop} {G : Prop} (h : ∃ x0 x1, P0 x0 x1 ∧ P1 x0 x1 ∧ P2 x0 x1 ∧ P3 x0 x1) (k : ∀ x0 x1, P0 x0 x1 → P1 x0 x1 → P2 x0 x1 → P3 x0 x1 → G) : G := h.elim fun x0 h => h.elim fun x1 h => k x0 x1 h.1 h.2.1 h.2.2.1 h.2.2.2
theorem E2_5 {T0 T1 : Type} {P0 P1 P2 P3 P4 : T0 → T1 → Prop} {G : Prop} (h : ∃ x0 x1, P0 x0 x1 ∧ P1 x0 x1 ∧ P2 x0 x1 ∧ P3 x0 x1 ∧ P4 x0 x1) (k : ∀ x0 x1, P0 x0 x1 → P1 x0 x1 → P2 x0 x1 → P3 x0 x1 → P4 x0 x1 → G) : G := h.elim fun x0 h => h.elim fun x1 h => k x0 x1 h.1 h.2.1 h.2.2.1 h.2.2.2.1 h.2.2.2.2
theorem E2_6 {T0 T1 : Type} {P0 P1 P2 P3 P4 P5 : T0 → T1 → Prop} {G : Prop} (h : ∃ x0 x1, P0 x0 x1 ∧ P1 x0 x1 ∧ P2 x0 x1 ∧ P3 x0 x1 ∧ P4 x0 x1 ∧ P5 x0 x1) (k : ∀ x0 x1, P0 x0 x1 → P1 x0 x1 → P2 x0 x1 → P3 x0 x1 → P4 x0 x1 → P5 x0 x1 → G) : G := h.elim fun x0 h => h.elim fun x1 h => k x0 x1 h.1 h.2.1 h.2.2.1 h.2.2.2.1 h.2.2.2.2.1 h.2.2.2.2.2
theorem E3_1 {T0 T1 T2 : Type} {P0 : T0 → T1 → T2 → Prop} {G : Prop} (h : ∃ x0 x1 x2, P0 x0 x1 x2) (k : ∀ x0 x1 x2, P0 x0 x1 x2 → G) : G := h.elim fun x0 h => h.elim fun x1 h => h.elim fun x2 h => k x0 x1 x2 h
theorem E3_2 {T0 T1 T2 : Type} {P0 P1 : T0 → T1 → T2 → Prop} {G : Prop} (h : ∃ x0 x1 x2, P0 x0 x1 x2 ∧ P1 x0 x1 x2) (k : ∀ x0 x1 x2, P0 x0 x1 x2 → P1 x0 x1 x2 → G) : G := h.elim fun x0 h => h.elim fun x1 h => h.elim fun x2 h => k x0 x1 x2 h.1 h.2
theorem E3_3 {T0 T1 T2 : Type} {P0 P1 P2 : T0 → T1 → T2 → Prop} {G : Prop} (h : ∃ x0 x1 x2, P0 x0 x1 x2 ∧ P1 x0 x1 x2 ∧ P2 x0 x1 x2) (k : ∀ x0 x1 x2, P0 x0 x1 x2 → P1 x0 x1 x2 → P2 x0 x1 x2 → G) : G := h.elim fun x0 h => h.elim fun x1 h => h.elim fun x2 h => k x0 x1 x2 h.1 h.2.1 h.2.2
theorem E3_4 {T0 T1 T2 : Type} {P0 P1 P2 P3 : T0 → T1 → T2 → Prop} {G : Prop} (h : ∃ x0 x1 x2, P0 x0 x1 x2 ∧ P1 x0 x1 x2 ∧ P2 x0 x1 x2 ∧ P3 x0 x1 x2) (k : ∀ x0 x1 x2, P0 x0 x1 x2 → P1 x0 x1 x2 → P2 x0 x1 x2 → P3 x0 x1 x2 → G) : G := h.elim fun x0 h => h.elim fun x1 h => h.elim fun x2 h => k x0 x1 x2 h.1 h.2.1 h.2.2.1 h.2.2.2
theorem E3_5 {T0 T1 T2 : Type} {P0 P1 P2 P3 P4 : T0 → T1 → T2 → Prop} {G : Prop} (h : ∃ x0 x1 x2, P0 x0 x1 x2 ∧ P1 x0 x1 x2 ∧ P2 x0 x1 x2 ∧ P3 x0 x1 x2 ∧ P4 x0 x1 x2) (k : ∀ x0 x1 x2, P0 x0 x1 x2 → P1 x0 x1 x2 → P2 x0 x1 x2 → P3 x0 x1 x2 → P4 x0 x1 x2 → G) : G := h.elim fun x0 h => h.elim fun x1 h => h.elim fun x2 h => k x0 x1 x2 h.1 h.2.1 h.2.2.1 h.2.2.2.1 h.2.2.2.2
theorem E3_7 {T0 T1 T2 : Type} {P0 P1 P2 P3 P4 P5 P6 : T0 → T1 → T2 → Prop} {G : Prop} (h : ∃ x0 x1 x2, P0 x0 x1 x2 ∧ P1 x0 x1 x2 ∧ P2 x0 x1 x2 ∧ P3 x0 x1 x2 ∧ P4 x0 x1 x2 ∧ P5 x0 x1 x2 ∧ P6 x0 x1 x2) (k : ∀ x0 x1 x2, P0 x0 x1 x2 → P1 x0 x1 x2 → P2 x0 x1 x2 → P3 x0 x1 x2 → P4 x0 x1 x2 → P5 x0 x1 x2 → P6 x0 x1 x2 → G) : G := h.elim fun x0 h => h.elim fun x1 h => h.elim fun x2 h => k x0 x1 x2 h.1 h.2.1 h.2.2.1 h.2.2.2.1 h.2.2.2.2.1 h.2.2.2.2.2.1 h.2.2.2.2.2.2
theorem E3_8 {T0 T1 T2 : Type} {P0 P1 P2 P3 P4 P5 P6 P7 : T0 → T1 → T2 → Prop} {G : Prop} (h : ∃ x0 x1 x2, P0 x0 x1 x2 ∧ P1 x0 x1 x2 ∧ P2 x0 x1 x2 ∧ P3 x0 x1 x2 ∧ P4 x0 x1 x2 ∧ P5 x0 x1 x2 ∧ P6 x0 x1 x2 ∧ P7 x0 x1 x2) (k : ∀ x0 x1 x2, P0 x0 x1 x2 → P1 x0 x1 x2 → P2 x0 x1 x2 → P3 x0 x1 x2 → P4 x0 x1 x2 → P5 x0 x1 x2 → P6 x0 x1 x2 → P7 x0 x1 x2 → G) : G := h.elim fun x0 h => h.elim fun x1 h => h.elim fun x2 h => k x0 x1 x2 h.1 h.2.1 h.2.2.1 h.2.2.2.1 h.2.2.2.2.1 h.2.2.2.2.2.1 h.2.2.2.2.2.2.1 h.2.2.2.2.2.2.2
theorem E4_1 {T0 T1 T2 T3 : Type} {P0 : T0 → T1 → T2 → T3 → Prop} {G : Prop} (h : ∃ x0 x1 x2 x3, P0 x0 x1 x2 x3) (k : ∀ x0 x1 x2 x3, P0 x0 x1 x2 x3 → G) : G := h.elim fun x0 h => h.elim fun x1 h => h.elim fun x2 h => h.elim fun x3 h => k x0 x1 x2 x3 h
theorem E4_2 {T0 T1 T2 T3 : Type} {P0 P1 : T0 → T1 → T2 → T3 → Prop} {G : Prop} (h : ∃ x0 x1 x2 x3, P0 x0 x1 x2 x3 ∧ P1 x0 x1 x2 x3) (k : ∀ x0 x1 x2 x3, P0 x0 x1 x2 x3 → P1 x0 x1 x2 x3 → G) : G := h.elim fun x0 h => h.elim fun x1 h => h.elim fun x2 h => h.elim fun x3 h => k x0 x1 x2 x3 h.1 h.2
theorem E4_3 {T0 T1 T2 T3 : Type} {P0 P1 P2 : T0 → T1 → T2 → T3 → Prop} {G : Prop} (h : ∃ x0 x1 x2 x3, P0 x0 x1 x2 x3 ∧ P1 x0 x1 x2 x3 ∧ P2 x0 x1 x2 x3) (k : ∀ x0 x1 x2 x3, P0 x0 x1 x2 x3 → P1 x0 x1 x2 x3 → P2 x0 x1 x2 x3 → G) : G := h.elim fun x0 h => h.elim fun x1 h => h.elim fun x2 h => h.elim fun x3 h => k x0 x1 x2 x3 h.1 h.2.1 h.2.2
theorem E4_4 {T0 T1 T2 T3 : Type} {P0 P1 P2 P3 : T0 → T1 → T2 → T3 → Prop} {G : Prop} (h : ∃ x0 x1 x2 x3, P0 x0 x1 x2 x3 ∧ P1 x0 x1 x2 x3 ∧ P2 x0 x1 x2 x3 ∧ P3 x0 x1 x2 x3) (k : ∀ x0 x1 x2 x3, P0 x0 x1 x2 x3 → P1 x0 x1 x2 x3 → P2 x0 x1 x2 x3 → P3 x0 x1 x2 x3 → G) : G := h.elim fun x0 h => h.elim fun x1 h => h.elim fun x2 h => h.elim fun x3 h => k x0 x1 x2 x3 h.1 h.2.1 h.2.2.1 h.2.2.2
theorem E4_5 {T0 T1 T2 T3 : Type} {P0 P1 P2 P3 P4 : T0 → T1 → T2 → T3 → Prop} {G : Prop} (h : ∃ x0 x1 x2 x3, P0 x0 x1 x2 x3 ∧ P1 x0 x1 x2 x3 ∧ P2 x0 x1 x2 x3 ∧ P3 x0 x1 x2 x3 ∧ P4 x0 x1 x2 x3) (k : ∀ x0 x1 x2 x3, P0 x0 x1 x2 x3 → P1 x0 x1 x2 x3 → P2 x0 x1 x2 x3 → P3 x0 x1 x2 x3 → P4 x0 x1 x2 x3 → G) : G := h.elim fun x0 h => h.elim fun x1 h => h.elim fun x2 h => h.elim fun x3 h => k x0 x1 x2 x3 h.1 h.2.1 h.2.2.1 h.2.2.2.1 h.2.2.2.2
theorem E4_7 {T0 T1 T2 T3 : Type} {P0 P1 P2 P3 P4 P5 P6 : T0 → T1 → T2 → T3 → Prop} {G : Prop} (h : ∃ x0 x1 x2 x3, P0 x0 x1 x2 x3 ∧ P1 x0 x1 x2 x3 ∧ P2 x0 x1 x2 x3 ∧ P3 x0 x1 x2 x3 ∧ P4 x0 x1 x2 x3 ∧ P5 x0 x1 x2 x3 ∧ P6 x0 x1 x2 x3) (k : ∀ x0 x1 x2 x3, P0 x0 x1 x2 x3 → P1 x0 x1 x2 x3 → P2 x0 x1 x2 x3 → P3 x0 x1 x2 x3 → P4 x0 x1 x2 x3 → P5 x0 x1 x2 x3 → P6 x0 x1 x2 x3 → G) : G := h.elim fun x0 h => h.elim fun x1 h => h.elim fun x2 h => h.elim fun x3 h => k x0 x1 x2 x3 h.1 h.2.1 h.2.2.1 h.2.2.2.1 h.2.2.2.2.1 h.2.2.2.2.2.1 h.2.2.2.2.2.2
theorem E4_8 {T0 T1 T2 T3 : Type} {P0 P1 P2 P3 P4 P5 P6 P7 : T0 → T1 → T2 → T3 → Prop} {G : Prop} (h : ∃ x0 x1 x2 x3, P0 x0 x1 x2 x3 ∧ P1 x0 x1 x2 x3 ∧ P2 x0 x1 x2 x3 ∧ P3 x0 x1 x2 x3 ∧ P4 x0 x1 x2 x3 ∧ P5 x0 x1 x2 x3 ∧ P6 x0 x1 x2 x3 ∧ P7 x0 x1 x2 x3) (k : ∀ x0 x1 x2 x3, P0 x0 x1 x2 x3 → P1 x0 x1 x2 x3 → P2 x0 x1 x2 x3 → P3 x0 x1 x2 x3 → P4 x0 x1 x2 x3 → P5 x0 x1 x2 x3 → P6 x0 x1 x2 x3 → P7 x0 x1 x2 x3 → G) : G := h.elim fun x0 h => h.elim fun x1 h => h.elim fun x2 h => h.elim fun x3 h => k x0 x1 x2 x3 h.1 h.2.1 h.2.2.1 h.2.2.2.1 h.2.2.2.2.1 h.2.2.2.2.2.1 h.2.2.2.2.2.2.1 h.2.2.2.2.2.2.2
theorem E5_3 {T0 T1 T2 T3 T4 : Type} {P0 P1 P2 : T0 → T1 → T2 → T3 → T4 → Prop} {G : Prop} (h : ∃ x0 x1 x2 x3 x4, P0 x0 x1 x2 x3 x4 ∧ P1 x0 x1 x2 x3 x4 ∧ P2 x0 x1 x2 x3 x4) (k : ∀ x0 x1 x2 x3 x4, P0 x0 x1 x2 x3 x4 → P1 x0 x1 x2 x3 x4 → P2 x0 x1 x2 x3 x4 → G) : G := h.elim fun x0 h => h.elim fun x1 h => h.elim fun x2 h => h.elim fun x3 h => h.elim fun x4 h => k x0 x1 x2 x3 x4 h.1 h.2.1 h.2.2
theorem E5_4 {T0 T1 T2 T3 T4 : Type} {P0 P1 P2 P3 : T0 → T1 → T2 → T3 → T4 → Prop} {G : Prop} (h : ∃ x0 x1 x2 x3 x4, P0 x0 x1 x2 x3 x4 ∧ P1 x0 x1 x2 x3 x4 ∧ P2 x0 x1 x2 x3 x4 ∧ P3 x0 x1 x2 x3 x4) (k : ∀ x0 x1 x2 x3 x4, P0 x0 x1 x2 x3 x4 → P1 x0 x1 x2 x3 x4 → P2 x0 x1 x2 x3 x4 → P3 x0 x1 x2 x3 x4 → G) : G := h.elim fun x0 h => h.elim fun x1 h => h.elim fun x2 h => h.elim fun x3 h => h.elim fun x4 h => k x0 x1 x2 x3 x4 h.1 h.2.1 h.2.2.1 h.2.2.2
theorem E6_5 {T0 T1 T2 T3 T4 T5 : Type} {P0 P1 P2 P3 P4 : T0 → T1 → T2 → T3 → T4 → T5 → Prop} {G : Prop} (h : ∃ x0 x1 x2 x3 x4 x5, P0 x0 x1 x2 x3 x4 x5 ∧ P1 x0 x1 x2 x3 x4 x5 ∧ P2 x0 x1 x2 x3 x4 x5 ∧ P3 x0 x1 x2 x3 x4 x5 ∧ P4 x0 x1 x2 x3 x4 x5) (k : ∀ x0 x1 x2 x3 x4 x5, P0 x0 x1 x2 x3 x4 x5 → P1 x0 x1 x2 x3 x4 x5 → P2 x0 x1 x2 x3 x4 x5 → P3 x0 x1 x2 x3 x4 x5 → P4 x0 x1 x2 x3 x4 x5 → G) : G := h.elim fun x0 h => h.elim fun x1 h => h.elim fun x2 h => h.elim fun x3 h => h.elim fun x4 h => h.elim fun x5 h => k x0 x1 x2 x3 x4 x5 h.1 h.2.1 h.2.2.1 h.2.2.2.1 h.2.2.2.2
theorem E7_2 {T0 T1 T2 T3 T4 T5 T6 : Type} {P0 P1 : T0 → T1 → T2 → T3 → T4 → T5 → T6 → Prop} {G : Prop} (h : ∃ x0 x1 x2 x3 x4 x5 x6, P0 x0 x1 x2 x3 x4 x5 x6 ∧ P1 x0 x1 x2 x3 x4 x5 x6) (k : ∀ x0 x1 x2 x3 x4 x5 x6, P0 x0 x1 x2 x3 x4 x5 x6 → P1 x0 x1 x2 x3 x4 x5 x6 → G) : G := h.elim fun x0 h => h.elim fun x1 h => h.elim fun x2 h => h.elim fun x3 h => h.elim fun x4 h => h.elim fun x5 h => h.elim fun x6 h => k x0 x1 x2 x3 x4 x5 x6 h.1 h.2
theorem E10_1 {T0 T1 T2 T3 T4 T5 T6 T7 T8 T9 : Type} {P0 : T0 → T1 → T2 → T3 → T4 → T5 → T6 → T7 → T8 → T9 → Prop} {G : Prop} (h : ∃ x0 x1 x2 x3 x4 x5 x6 x7 x8 x9, P0 x0 x1 x2 x3 x4 x5 x6 x7 x8 x9) (k : ∀ x0 x1 x2 x3 x4 x5 x6 x7 x8 x9, P0 x0 x1 x2 x3 x4 x5 x6 x7 x8 x9 → G) : G := h.elim fun x0 h => h.elim fun x1 h => h.elim fun x2 h => h.elim fun x3 h => h.elim fun x4 h => h.elim fun x5 h => h.elim fun x6 h => h.elim fun x7 h => h.elim fun x8 h => h.elim fun x9 h => k x0 x1 x2 x3 x4 x5 x6 x7 x8 x9 h
theorem E12_1 {T0 T1 T2 T3 T4 T5 T6 T7 T8 T9 T10 T11 : Type} {P0 : T0 → T1 → T2 → T3 → T4 → T5 → T6 → T7 → T8 → T9 → T10 → T11 → Prop} {G : Prop} (h : ∃ x0 x1 x2 x3 x4 x5 x6 x7 x8 x9 x10 x11, P0 x0 x1 x2 x3 x4 x5 x6 x7 x8 x9 x10 x11) (k : ∀ x0 x1 x2 x3 x4 x5 x6 x7 x8 x9 x10 x11, P0 x0 x1 x2 x3 x4 x5 x6 x7 x8 x9 x10 x11 → G) : G := h.elim fun x0 h => h.elim fun x1 h => h.elim fun x2 h => h.elim fun x3 h => h.elim fun x4 h => h.elim fun x5 h => h.elim fun x6 h => h.elim fun x7 h => h.elim fun x8 h => h.elim fun x9 h => h.elim fun x10 h => h.elim fun x11 h => k x0 x1 x2 x3 x4 x5 x6 x7 x8 x9 x10 x11 h
theorem all0 {α : Type} {P : α → Prop} : ∀ x ∈ ([] : List α), P x := fun _ h => nomatch h
theorem allc {α : Type} {P : α → Prop} {a : α} {l : List α} (h : P a) (t : ∀ x ∈ l, P x) : ∀ x ∈ a :: l, P x := List.forall_mem_cons.mpr ⟨h, t⟩
theorem all1 {α : Type} {P : α → Prop} {a : α} (h : P a) : ∀ x ∈ [a], P x := allc h all0
theorem alla {α : Type} {P : α → Prop} {l m : List α} (h : ∀ x ∈ l, P x) (t : ∀ x ∈ m, P x) : ∀ x ∈ l ++ m, P x := List.forall_mem_append.mpr ⟨h, t⟩
theorem nd_ne {α : Type} {a b : α} {l : List α} (h : (a :: b :: l).Nodup) : b ≠ a := fun e => (List.nodup_cons.mp h).1 (e ▸ .head _)
theorem Z56 {α : Type} {x : Option α} {a : α} {G : Prop} (h : x = some a) (e : x = none) : G := nomatch h.symm.trans e
theorem Z39 {α : Type} {x : Option α} {a b : α} (h : x = some a) (e : x = some b) : a = b := Option.some.inj (h.symm.trans e)
end
end Mine
section
namespace Mine
open PySem PySem.Spec PySem.Calls PyProof.Rows PySem.W
set_option genSizeOf false in
inductive D where
 | none
 | bool (b : Bool)
 | int (i : Int)
 | str (s : List Nat)
 | tup (l : List D)
 | lst (l : List D)
 | raw (v : Value)
noncomputable abbrev Im := Addr → Option Obj
noncomputable def sq (c : String) (its : Array Value) (n : Nat) : Obj := { cls := .type c, data := .seq its n }
noncomputable def S (s : List Nat) : Str := ⟨s.toArray⟩
mutual
noncomputable def Rep (im : Im) : D → Value → Prop
 | .none, v => v = .none
 | .bool b, v => v = .bool b
 | .int i, v => ∃ t, v = .int i t
 | .str s, v => ∃ t, v = .str (S s) t
 | .tup l, v => ∃ a its n, v = .ref a ∧ im a = some (sq "tuple" its n) ∧ Reps im l its.toList
 | .lst l, v => ∃ a its n, v = .ref a ∧ im a = some (sq "list" its n) ∧ Reps im l its.toList
 | .raw u, v => v = u
noncomputable def Reps (im : Im) : List D → List Value → Prop
 | [], vs => vs = []
 | d :: ds, vs => ∃ v vs', vs = v :: vs' ∧ Rep im d v ∧ Reps im ds vs'
end
mutual
theorem Rep.mono {im im' : Im} (h : ∀ a o, im a = some o → im' a = some o) : ∀ (d : D) (v : Value), Rep im d v → Rep im' d v
 | .none, _, x => by simpa [Rep] using x
 | .bool _, _, x => by simpa [Rep] using x
 | .int _, _, x => by simpa [Rep] using x
 | .str _, _, x => by simpa [Rep] using x
 | .tup l, v, x => by
  simp only [Rep] at x ⊢
  refine E3_3 x fun a its n e hi r => ?_
  exact ⟨a, its, n, e, h _ _ hi, Reps.mono h l _ r⟩
 | .lst l, v, x => by
  simp only [Rep] at x ⊢
  refine E3_3 x fun a its n e hi r => ?_
  exact ⟨a, its, n, e, h _ _ hi, Reps.mono h l _ r⟩
 | .raw _, _, x => by simpa [Rep] using x
theorem Reps.mono {im im' : Im} (h : ∀ a o, im a = some o → im' a = some o) : ∀ (d : List D) (v : List Value), Reps im d v → Reps im' d v
 | [], _, x => by simpa [Reps] using x
 | d :: ds, vs, x => by
  simp only [Reps] at x ⊢
  refine E2_3 x fun v vs' e r rs => ?_
  exact ⟨v, vs', e, Rep.mono h d v r, Reps.mono h ds vs' rs⟩
end
theorem Reps.length {im : Im} : ∀ {ds : List D} {vs : List Value}, Reps im ds vs → vs.length = ds.length
 | [], _, x => by simp only [Reps] at x; subst x; rfl
 | d :: ds, _, x => by
  simp only [Reps] at x
  refine E2_3 x ?_
  rintro v vs' rfl _ rs
  simp [Reps.length rs]
theorem Reps.nil {im : Im} : Reps im [] [] := by exact rfl
theorem Reps.cons {im : Im} {d : D} {v : Value} {ds : List D} {vs : List Value} (h : Rep im d v) (hs : Reps im ds vs) : Reps im (d :: ds) (v :: vs) := by
 simp only [Reps]; exact ⟨v, vs, rfl, h, hs⟩
theorem Reps.append {im : Im} : ∀ {ds es : List D} {vs ws : List Value}, Reps im ds vs → Reps im es ws → Reps im (ds ++ es) (vs ++ ws)
 | [], _, _, _, x, y => by simp only [Reps] at x; subst x; simpa using y
 | d :: ds, _, _, _, x, y => by
  simp only [Reps] at x
  refine E2_3 x ?_
  rintro v vs' rfl r rs
  exact Reps.cons r (Reps.append rs y)
theorem Reps.get {im : Im} : ∀ {ds : List D} {vs : List Value}, Reps im ds vs → ∀ {i : Nat} {d : D}, ds[i]? = some d → ∃ v, vs[i]? = some v ∧ Rep im d v
 | [], _, _, _, _, e => by simp at e
 | d :: ds, _, x, i, d', e => by
  simp only [Reps] at x
  refine E2_3 x ?_
  rintro v vs' rfl r rs
  cases i with
  | zero => simp at e; subst e; exact ⟨v, by exact rfl, r⟩
  | succ i => simpa using Reps.get rs (i := i) (by exact e)
theorem Reps.get' {im : Im} : ∀ {ds : List D} {vs : List Value}, Reps im ds vs → ∀ {i : Nat} {v : Value}, vs[i]? = some v → ∃ d, ds[i]? = some d ∧ Rep im d v
 | [], _, x, _, _, e => by simp only [Reps] at x; subst x; simp at e
 | d :: ds, _, x, i, v', e => by
  simp only [Reps] at x
  refine E2_3 x ?_
  rintro v vs' rfl r rs
  cases i with
  | zero => simp at e; subst e; exact ⟨d, by exact rfl, r⟩
  | succ i => simpa using Reps.get' rs (i := i) (by exact e)
theorem Reps.take {im : Im} : ∀ {ds : List D} {vs : List Value}, Reps im ds vs → ∀ n, Reps im (ds.take n) (vs.take n)
 | [], _, x, n => by simp only [Reps] at x; subst x; simp [Reps]
 | d :: ds, _, x, 0 => by exact rfl
 | d :: ds, _, x, n + 1 => by
  simp only [Reps] at x
  refine E2_3 x ?_
  rintro v vs' rfl r rs
  exact Reps.cons r (Reps.take rs n)
theorem Reps.reverse {im : Im} : ∀ {ds : List D} {vs : List Value}, Reps im ds vs → Reps im ds.reverse vs.reverse
 | [], _, x => by simp only [Reps] at x; subst x; simp [Reps]
 | d :: ds, _, x => by
  simp only [Reps] at x
  refine E2_3 x ?_
  rintro v vs' rfl r rs
  simp only [List.reverse_cons]
  exact Reps.append (Reps.reverse rs) (Reps.cons r Reps.nil)
theorem Reps.set {im : Im} : ∀ {ds : List D} {vs : List Value}, Reps im ds vs → ∀ (n : Nat) {d : D} {v : Value}, Rep im d v → Reps im (ds.set n d) (vs.set n v)
 | [], _, x, n, _, _, _ => by simp only [Reps] at x; subst x; simp [Reps]
 | d :: ds, _, x, 0, _, _, r' => by
  simp only [Reps] at x
  refine E2_3 x ?_
  rintro v vs' rfl r rs
  exact Reps.cons r' rs
 | d :: ds, _, x, n + 1, _, _, r' => by
  simp only [Reps] at x
  refine E2_3 x ?_
  rintro v vs' rfl r rs
  exact Reps.cons r (Reps.set rs n r')
set_option genInjectivity false in
set_option genSizeOf false in
structure Gh where
 im : Im
 mu : Im
 gs : Array GenState
set_option genInjectivity false in
set_option genSizeOf false in
structure Base where
 h₀ : Heap
 os : OsState
 im : Im
 tabs : List (Addr × Addr)
 qn : Nat → Nat → Option Str
 lim : ∃ o es ep, im cStatics = some o ∧ o.data = .dict es ep ∧ StrKeys es ∧ nsFind es "sys.recursionlimit" = none
 top : ∃ a o, im a = some o ∧ h₀.objs.size = a + 1
noncomputable def TabFit (qn : Nat → Nat → Option Str) (im : Im) (ps : Array Value) : Prop :=
 ∀ (pos : Pos) q c, qn pos.line pos.col = some q → codeAmong pos ps.toList = some c → ∃ a o vs t, c = .ref a ∧ im a = some o ∧ o.data = .fields vs ∧ vs[1]? = some (.str q t)
theorem TabFit.mono {qn : Nat → Nat → Option Str} {im im' : Im} {ps : Array Value} (h : ∀ a o, im a = some o → im' a = some o) (x : TabFit qn im ps) : TabFit qn im' ps :=
 fun pos q c e e' => E4_3 (x pos q c e e') fun a o vs t e1 e2 r => ⟨a, o, vs, t, e1, h _ _ e2, r⟩
structure Gh.Ok (B : Base) (g : Gh) (s : Shared) : Prop where
 im : ∀ a o, g.im a = some o → s.heap.get? a = some o
 mu : ∀ a o, g.mu a = some o → s.heap.get? a = some o
 dis : ∀ a o o', g.im a = some o → g.mu a = some o' → False
 base : ∀ a o, B.im a = some o → g.im a = some o
 new : ∀ a o, g.mu a = some o → B.h₀.objs.size ≤ a
 size : B.h₀.objs.size ≤ s.heap.objs.size
 old : OldK B.h₀ s.heap
 os : s.os = B.os
 gens : ∃ ex : Array GenState, s.gens = g.gs ++ ex ∧ AllBare ex
 tabs : ∀ c P, (c, P) ∈ B.tabs → g.im P = none ∧ P < B.h₀.objs.size ∧ (∃ o, B.im c = some o) ∧ P ≠ cStatics ∧ (∃ ps₀, B.h₀.TableAt c P ps₀) ∧ ∃ ps, s.heap.IsCode c P ps ∧ s.heap.TableAt c P ps ∧ TabFit B.qn g.im ps
 apart : (B.tabs.map (·.2)).Nodup
theorem Gh.Ok.nolimit {B : Base} {g : Gh} {s : Shared} (ok : g.Ok B s) : s.heap.NoLimit :=
 E3_4 B.lim fun o es ep h1 h2 h3 h4 => ⟨nsFind es, ⟨o, es, ep, ok.im _ _ (ok.base _ _ h1), h2, h3, fun _ => rfl⟩, h4⟩
structure LeX (S : List Addr) (g g' : Gh) : Prop where
 im : ∀ a o, g.im a = some o → g'.im a = some o
 mu : ∀ a o, a ∉ S → g.mu a = some o → g'.mu a = some o
 gs : g'.gs = g.gs
noncomputable abbrev Le := LeX []
theorem LeX.refl (S : List Addr) (g : Gh) : LeX S g g := ⟨fun _ _ e => e, fun _ _ _ e => e, rfl⟩
theorem LeX.trans {S : List Addr} {g g' g'' : Gh} (x : LeX S g g') (y : LeX S g' g'') : LeX S g g'' := ⟨fun a o e => y.im a o (x.im a o e), fun a o h e => y.mu a o h (x.mu a o h e), y.gs.trans x.gs⟩
theorem LeX.sub {S S' : List Addr} {g g' : Gh} (x : LeX S g g') (h : ∀ a ∈ S, a ∈ S') : LeX S' g g' := ⟨x.im, fun a o hn e => x.mu a o (fun hm => hn (h a hm)) e, x.gs⟩
theorem LeX.of {S : List Addr} {g g' : Gh} (x : Le g g') : LeX S g g' := x.sub (by simp)
theorem Le.at {g g' : Gh} (x : Le g g') {a : Addr} {o : Obj} (e : g.mu a = some o) : g'.mu a = some o := x.mu a o (by exact List.not_mem_nil) e
set_option genInjectivity false in
set_option genSizeOf false in
structure Wd where
 prog : Program
 w : World
 B : Base
variable {K : Wd} {B : Base} {α β : Type} {A : Around} {g : Gh}
noncomputable def gwp (K : Wd) (A : Around) (t : Sem α) (Q : α → Gh → Prop) (g : Gh) : Prop :=
 ∀ (s : Shared) (E : Value → Shared → Prop), g.Ok K.B s → wpAny (model K.prog K.w) A t (fun v s' => ∃ g' : Gh, g'.Ok K.B s' ∧ Q v g') E s
section
variable {Q : α → Gh → Prop}
theorem Z4 {a : α} (h : Q a g) : gwp K A (pure a) Q g := fun _ _ ok => wpAny_pure ⟨g, ok, h⟩
theorem Z82 {t t' : Sem α} (e : t = t') (h : gwp K A t' Q g) : gwp K A t Q g := e ▸ h
theorem Z9 {t : Sem α} {Q' : α → Gh → Prop} (h : gwp K A t Q' g) (hq : ∀ a g', Q' a g' → Q a g') : gwp K A t Q g :=
 fun s E ok => wpAny_mono (h s E ok) (fun a _ z₀ => E1_2 z₀ fun g' ok' q => ⟨g', ok', hq a g' q⟩) fun _ _ e => e
theorem Z1 {m : Sem β} {f : β → Sem α} (h : gwp K A m (fun b g' => gwp K A (f b) Q g') g) : gwp K A (m >>= f) Q g :=
 fun s E ok => wpAny_bind (wpAny_mono (h s E ok) (fun b s' z₀ => E1_2 z₀ fun _ ok' q => q s' E ok') fun _ _ e => e)
theorem Z18 {vs : List Value} {t : Sem α} (h : gwp K A t Q g) : gwp K A (holding vs t) Q g := fun s E ok => wpAny_holding (h s E ok)
theorem gwp_keep {vs : List Value} {t : Sem α} (h : gwp K A t Q g) : gwp K A (t.keep vs) Q g := fun s E ok => wpAny_keep (h s E ok)
theorem Z237 {t : Sem α} {k : Value → Sem Unit} (h : gwp K A t Q g) : gwp K A (t.onRaise k) Q g :=
 fun s _ ok => wpAny_onRaise (wpAny_mono (h s (fun _ _ => False) ok) (fun _ _ x => x) fun _ _ f => f.elim)
end
section
variable {Q : Unit → Gh → Prop}
theorem gwp_rule {tag : String} (h : Q () g) : gwp K A (rule tag) Q g := fun _ _ ok => wpAny_rule ⟨g, ok, h⟩
theorem Z28 {pos : Pos} (h : Q () g) : gwp K A (standAt pos) Q g := fun _ _ ok => wpAny_standAt ⟨g, ok, h⟩
theorem Z168 (h : Q () g) : gwp K A point Q g := fun _ _ ok => wpAny_point ⟨g, ok, h⟩
end
noncomputable def Gh.has (g : Gh) (a : Addr) (o : Obj) : Prop := g.im a = some o ∨ g.mu a = some o
theorem Gh.has.get {a : Addr} {o : Obj} (h : g.has a o) {s : Shared} (ok : g.Ok B s) : s.heap.get? a = some o := h.elim (ok.im a o) (ok.mu a o)
theorem Gh.has.le {g' : Gh} {a : Addr} {o : Obj} (h : g.has a o) (l : Le g g') : g'.has a o := h.imp (l.im a o) (l.at)
theorem Gh.has.inj {a : Addr} {o o' : Obj} (h : g.has a o) (h' : g.has a o') {s : Shared} (ok : g.Ok B s) : o = o' := Option.some.inj ((h.get ok).symm.trans (h'.get ok))
theorem gwp_load {a : Addr} {o : Obj} {Q : Obj → Gh → Prop} (ho : g.has a o) (h : Q o g) : gwp K A (load a) Q g := fun _ _ ok => wpAny_load (ho.get ok) ⟨g, ok, h⟩
theorem Gh.Ok.tok {s : Shared} (ok : g.Ok B s) (t : Nat) : g.Ok B { s with toks := t } := ⟨ok.im, ok.mu, ok.dis, ok.base, ok.new, ok.size, ok.old, ok.os, ok.gens, ok.tabs, ok.apart⟩
theorem gwp_mkInt {i : Int} {Q : Value → Gh → Prop} (h : ∀ t, Q (.int i t) g) : gwp K A (mkInt i) Q g := fun _ _ ok => wpAny_mkInt ⟨g, ok.tok _, h _⟩
noncomputable def Gh.addIm (g : Gh) (a : Addr) (o : Obj) : Gh := { g with im := fun b => if b = a then some o else g.im b }
noncomputable def Gh.setMu (g : Gh) (a : Addr) (o : Obj) : Gh := { g with mu := fun b => if b = a then some o else g.mu b }
noncomputable def TabS (B : Base) (im : Im) (h : Heap) (c P : Addr) : Prop := im P = none ∧ P < B.h₀.objs.size ∧ (∃ o, B.im c = some o) ∧ P ≠ cStatics ∧ (∃ ps₀, B.h₀.TableAt c P ps₀) ∧ ∃ ps, h.IsCode c P ps ∧ h.TableAt c P ps ∧ TabFit B.qn im ps
theorem TabS.keeps {im im' : Im} {h h' : Heap} {c P : Addr} (t : TabS B im h c P) (hk : ∀ b o, h.get? b = some o → h'.get? b = some o) (hP : im' P = none) (hi : ∀ a o, im a = some o → im' a = some o) : TabS B im' h' c P :=
 E0_6 t fun _ a2 a3 a4 a5 a6 => ⟨hP, a2, a3, a4, a5, E1_3 a6 fun ps b1 b2 b3 => ⟨ps, b1.keeps hk, b2.keeps hk, b3.mono hi⟩⟩
theorem TabS.but {im : Im} {h h' : Heap} {a c P : Addr} (t : TabS B im h c P) (hk : Heap.ExtBut a h h') (hc : c ≠ a) (hP : P ≠ a) : TabS B im h' c P :=
 E0_6 t fun a1 a2 a3 a4 a5 a6 => ⟨a1, a2, a3, a4, a5, E1_3 a6 fun ps b1 b2 b3 => ⟨ps, b1.extBut hk hc hP, b2.extBut hk hc hP, b3⟩⟩
theorem Gh.Ok.keeps {s : Shared} (ok : g.Ok B s) {h' : Heap} {tk : Nat} (hk : ∀ b o, s.heap.get? b = some o → h'.get? b = some o) : g.Ok B { s with heap := h', toks := tk } :=
 ⟨fun a o e => hk _ _ (ok.im a o e), fun a o e => hk _ _ (ok.mu a o e), ok.dis, ok.base, ok.new, by
  refine E2_2 B.top fun a o h1 h2 => ?_
  rw [h2]
  exact Heap.lt_size (hk _ _ (ok.im _ _ (ok.base _ _ h1))), ok.old.step_keeps hk, ok.os, ok.gens,
  fun c P hm => TabS.keeps (ok.tabs c P hm) hk (ok.tabs c P hm).1 fun _ _ e => e, ok.apart⟩
theorem Gh.Ok.extBut {s : Shared} (ok : g.Ok B s) {h' : Heap} {tk : Nat} (he : Heap.ExtBut s.heap.objs.size s.heap h') : g.Ok B { s with heap := h', toks := tk } :=
 ok.keeps fun b o e => he b o (Nat.ne_of_lt (Heap.lt_size e)) e
theorem Gh.Ok.freshAt {s : Shared} (ok : g.Ok B s) {c : Addr} (hge : s.heap.objs.size ≤ c) : g.im c = none ∧ g.mu c = none :=
 ⟨Option.eq_none_iff_forall_ne_some.mpr fun _ e => absurd (Heap.lt_size (ok.im _ _ e)) (Nat.not_lt.mpr hge), Option.eq_none_iff_forall_ne_some.mpr fun _ e => absurd (Heap.lt_size (ok.mu _ _ e)) (Nat.not_lt.mpr hge)⟩
theorem Gh.Ok.fresh {s : Shared} (ok : g.Ok B s) : g.im s.heap.objs.size = none ∧ g.mu s.heap.objs.size = none := ok.freshAt (Nat.le_refl _)
theorem Gh.Ok.noIm {s : Shared} (ok : g.Ok B s) {a : Addr} {o : Obj} (h : g.mu a = some o) : g.im a = none := Option.eq_none_iff_forall_ne_some.mpr fun _ e => ok.dis _ _ _ e h
theorem Le.addIm {a : Addr} {o : Obj} (h : g.im a = none) : Le g (g.addIm a o) := ⟨fun b o' e => (if_neg (fun z : b = a => Z56 e (z ▸ h))).trans e, fun _ _ _ e => e, rfl⟩
theorem Le.addMu {a : Addr} {o : Obj} (h : g.mu a = none) : Le g (g.setMu a o) := ⟨fun _ _ e => e, fun b o' _ e => (if_neg (fun z : b = a => Z56 e (z ▸ h))).trans e, rfl⟩
theorem LeX.setMu {a : Addr} {o : Obj} : LeX [a] g (g.setMu a o) := ⟨fun _ _ e => e, fun b o' hb e => (if_neg (fun z : b = a => hb (z ▸ .head _))).trans e, rfl⟩
theorem Gh.addIm_self {a : Addr} {o : Obj} : (g.addIm a o).im a = some o := if_pos rfl
theorem Gh.setMu_self {a : Addr} {o : Obj} : (g.setMu a o).mu a = some o := if_pos rfl
theorem Gh.setMu_other {a b : Addr} {o : Obj} (h : b ≠ a) : (g.setMu a o).mu b = g.mu b := if_neg h
theorem Gh.addIm_cases {a b : Addr} {o o' : Obj} {G : Prop} (e : (g.addIm a o).im b = some o') (k1 : b = a → o = o' → G) (k2 : b ≠ a → g.im b = some o' → G) : G :=
 (Classical.em (b = a)).elim (fun hb => k1 hb (Option.some.inj ((if_pos hb).symm.trans e))) fun hb => k2 hb ((if_neg hb).symm.trans e)
theorem Gh.setMu_cases {a b : Addr} {o o' : Obj} {G : Prop} (e : (g.setMu a o).mu b = some o') (k1 : b = a → o = o' → G) (k2 : b ≠ a → g.mu b = some o' → G) : G :=
 (Classical.em (b = a)).elim (fun hb => k1 hb (Option.some.inj ((if_pos hb).symm.trans e))) fun hb => k2 hb ((if_neg hb).symm.trans e)
theorem Gh.Ok.putIm {s s' : Shared} (ok : g.Ok B s) {a : Addr} {o : Obj} (hf : s'.heap.get? a = some o) (h1 : g.im a = none) (h2 : g.mu a = none) (hn : B.h₀.objs.size ≤ a) (hk : ∀ b o, s.heap.get? b = some o → s'.heap.get? b = some o) (hs : B.h₀.objs.size ≤ s'.heap.objs.size) (ho : s'.os = s.os) (hg : s'.gens = s.gens) : (g.addIm a o).Ok B s' where
 im b o' e := Gh.addIm_cases e (fun hb z => by rw [hb, ← z]; exact hf) fun _ e => hk _ _ (ok.im b o' e)
 mu b o' e := hk _ _ (ok.mu b o' e)
 dis b o1 o2 e e' := Gh.addIm_cases e (fun hb _ => Z56 e' (hb ▸ h2)) fun _ e => ok.dis _ _ _ e e'
 base b o' e := (Le.addIm h1).im _ _ (ok.base b o' e)
 new := ok.new
 size := hs
 old := ok.old.step_keeps hk
 os := ho.trans ok.os
 gens := hg ▸ ok.gens
 tabs c P hm := TabS.keeps (ok.tabs c P hm) hk ((if_neg (Nat.ne_of_lt (Nat.lt_of_lt_of_le (ok.tabs c P hm).2.1 hn))).trans (ok.tabs c P hm).1) (Le.addIm h1).im
 apart := ok.apart
theorem Gh.Ok.putMu {s s' : Shared} (ok : g.Ok B s) {a : Addr} {o : Obj} (hf : s'.heap.get? a = some o) (h1 : g.im a = none) (hn : B.h₀.objs.size ≤ a) (hk : Heap.ExtBut a s.heap s'.heap) (hs : B.h₀.objs.size ≤ s'.heap.objs.size) (hold : OldK B.h₀ s'.heap) (ho : s'.os = s.os) (hg : s'.gens = s.gens) : (g.setMu a o).Ok B s' where
 im b o' e := hk _ _ (fun z => Z56 e (z ▸ h1)) (ok.im b o' e)
 mu b o' e := Gh.setMu_cases e (fun hb z => by rw [hb, ← z]; exact hf) fun hb e => hk _ _ hb (ok.mu b o' e)
 dis b o1 o2 e e' := Gh.setMu_cases e' (fun hb _ => Z56 e (hb ▸ h1)) fun _ e' => ok.dis _ _ _ e e'
 base := ok.base
 new b o' e := Gh.setMu_cases e (fun hb _ => hb ▸ hn) fun _ e => ok.new _ _ e
 size := hs
 old := hold
 os := ho.trans ok.os
 gens := hg ▸ ok.gens
 tabs c P hm := TabS.but (ok.tabs c P hm) hk (fun z => E1_1 (ok.tabs c P hm).2.2.1 fun o e => Z56 (ok.base _ _ e) (z ▸ h1)) (Nat.ne_of_lt (Nat.lt_of_lt_of_le (ok.tabs c P hm).2.1 hn))
 apart := ok.apart
theorem Gh.Ok.extIm {s : Shared} (ok : g.Ok B s) {o : Obj} {h' : Heap} {tk : Nat} (hk : ∀ b o, s.heap.get? b = some o → h'.get? b = some o) (hf : h'.get? s.heap.objs.size = some o) : (g.addIm s.heap.objs.size o).Ok B { s with heap := h', toks := tk } :=
 ok.putIm hf ok.fresh.1 ok.fresh.2 ok.size hk (Nat.le_trans ok.size (Nat.le_of_lt (Heap.lt_size hf))) rfl rfl
theorem Gh.Ok.extMu {s : Shared} (ok : g.Ok B s) {o : Obj} {h' : Heap} {tk : Nat} (hk : ∀ b o, s.heap.get? b = some o → h'.get? b = some o) (hf : h'.get? s.heap.objs.size = some o) : (g.setMu s.heap.objs.size o).Ok B { s with heap := h', toks := tk } :=
 ok.putMu hf ok.fresh.1 ok.size (fun b o _ e => hk b o e) (Nat.le_trans ok.size (Nat.le_of_lt (Heap.lt_size hf))) (ok.old.step_keeps hk) rfl rfl
theorem Gh.Ok.pushIm {s : Shared} (ok : g.Ok B s) {o : Obj} (hf : o.isFreed = false) : (g.addIm s.heap.objs.size o).Ok B { s with heap := s.heap.push o } := ok.extIm (tk := s.toks) (fun _ _ e => Heap.get?_push_of_some _ e) (Heap.get?_push_size _ hf)
theorem Gh.Ok.pushMu {s : Shared} (ok : g.Ok B s) {o : Obj} (hf : o.isFreed = false) : (g.setMu s.heap.objs.size o).Ok B { s with heap := s.heap.push o } := ok.extMu (tk := s.toks) (fun _ _ e => Heap.get?_push_of_some _ e) (Heap.get?_push_size _ hf)
theorem Gh.Ok.sameBut {s : Shared} (ok : g.Ok B s) {a : Addr} {o o' : Obj} (ha : g.mu a = some o) {h' : Heap} {tk : Nat} (hs : Heap.SameBut a s.heap h') (hf : h'.get? a = some o') : (g.setMu a o').Ok B { s with heap := h', toks := tk } :=
 ok.putMu hf (ok.noIm ha) (ok.new _ _ ha) hs.extBut (Nat.le_trans ok.size (Nat.le_of_eq hs.1.symm)) (ok.old.step_same (ok.new _ _ ha) hs) rfl rfl
theorem Gh.Ok.upd {s : Shared} (ok : g.Ok B s) {a : Addr} {o : Obj} (ha : g.mu a = some o) {f : Obj → Obj} (hf : (f o).isFreed = false) : (g.setMu a (f o)).Ok B { s with heap := s.heap.update a f } :=
 ok.sameBut (tk := s.toks) ha (Heap.SameBut.update ..) (Heap.get?_update_self f (ok.mu _ _ ha) hf)
theorem Gh.Ok.knowMu {s : Shared} (ok : g.Ok B s) {a : Addr} {o : Obj} (h1 : g.im a = none) (h2 : B.h₀.objs.size ≤ a) (hf : s.heap.get? a = some o) : (g.setMu a o).Ok B s := ok.putMu hf h1 h2 (fun _ _ _ e => e) ok.size ok.old rfl rfl
theorem Gh.Ok.knowIm {s : Shared} (ok : g.Ok B s) {a : Addr} {o : Obj} (h1 : g.mu a = none) (h3 : g.im a = none) (h2 : B.h₀.objs.size ≤ a) (hf : s.heap.get? a = some o) : (g.addIm a o).Ok B s := ok.putIm hf h3 h1 h2 (fun _ _ e => e) ok.size rfl rfl
theorem Z246 {o : Obj} {Q : Addr → Gh → Prop} (hf : o.isFreed = false) (h : ∀ a, g.im a = none → g.mu a = none → Q a (g.setMu a o)) : gwp K A (alloc o) Q g :=
 fun _ _ ok => wpAny_alloc ⟨_, ok.pushMu hf, h _ ok.fresh.1 ok.fresh.2⟩
theorem cps {t : Sem α} {P : α → Gh → Prop} (h : ∀ Q : α → Gh → Prop, (∀ v g', P v g' → Q v g') → gwp K A t Q g) : gwp K A t P g := h P fun _ _ h => h
end Mine
end
namespace Mine
section
open PySem PySem.Spec PySem.Calls PyProof.Rows PySem.W
section
variable {K : Wd} {α β : Type} {A : Around} {g : Gh} {c : Prop} [Decidable c] {t e m m' : Sem α} {f : α → Sem β} {Q : α → Gh → Prop} {R : β → Gh → Prop}
end
section
variable {prog : Program} {w : World} {α β : Type} {A : Around} {s : Shared} {E : Value → Shared → Prop} {c : Prop} [Decidable c] {t e m m' : Sem α} {f : α → Sem β} {Q : α → Shared → Prop} {R : β → Shared → Prop}
end
section
variable {K : Wd} {α : Type} {A : Around} {g : Gh} {t : Sem α}
theorem gM0_2 {P0 P1 : α → Gh → Prop} {Q : α → Gh → Prop} (h : gwp K A t (fun v s => P0 v s ∧ P1 v s) g) (k : ∀ v s, P0 v s → P1 v s → Q v s) : gwp K A t Q g := Z9 h fun v s z => E0_2 z (k v s)
theorem gM0_3 {P0 P1 P2 : α → Gh → Prop} {Q : α → Gh → Prop} (h : gwp K A t (fun v s => P0 v s ∧ P1 v s ∧ P2 v s) g) (k : ∀ v s, P0 v s → P1 v s → P2 v s → Q v s) : gwp K A t Q g := Z9 h fun v s z => E0_3 z (k v s)
theorem gM1_3 {T0 : Type} {P0 P1 P2 : α → Gh → T0 → Prop} {Q : α → Gh → Prop} (h : gwp K A t (fun v s => ∃ x0, P0 v s x0 ∧ P1 v s x0 ∧ P2 v s x0) g) (k : ∀ v s x0, P0 v s x0 → P1 v s x0 → P2 v s x0 → Q v s) : gwp K A t Q g := Z9 h fun v s z => E1_3 z (k v s)
theorem gM2_2 {T0 : Type} {T1 : Type} {P0 P1 : α → Gh → T0 → T1 → Prop} {Q : α → Gh → Prop} (h : gwp K A t (fun v s => ∃ x0 x1, P0 v s x0 x1 ∧ P1 v s x0 x1) g) (k : ∀ v s x0 x1, P0 v s x0 x1 → P1 v s x0 x1 → Q v s) : gwp K A t Q g := Z9 h fun v s z => E2_2 z (k v s)
theorem gM2_3 {T0 : Type} {T1 : Type} {P0 P1 P2 : α → Gh → T0 → T1 → Prop} {Q : α → Gh → Prop} (h : gwp K A t (fun v s => ∃ x0 x1, P0 v s x0 x1 ∧ P1 v s x0 x1 ∧ P2 v s x0 x1) g) (k : ∀ v s x0 x1, P0 v s x0 x1 → P1 v s x0 x1 → P2 v s x0 x1 → Q v s) : gwp K A t Q g := Z9 h fun v s z => E2_3 z (k v s)
theorem gM2_6 {T0 : Type} {T1 : Type} {P0 P1 P2 P3 P4 P5 : α → Gh → T0 → T1 → Prop} {Q : α → Gh → Prop} (h : gwp K A t (fun v s => ∃ x0 x1, P0 v s x0 x1 ∧ P1 v s x0 x1 ∧ P2 v s x0 x1 ∧ P3 v s x0 x1 ∧ P4 v s x0 x1 ∧ P5 v s x0 x1) g) (k : ∀ v s x0 x1, P0 v s x0 x1 → P1 v s x0 x1 → P2 v s x0 x1 → P3 v s x0 x1 → P4 v s x0 x1 → P5 v s x0 x1 → Q v s) : gwp K A t Q g := Z9 h fun v s z => E2_6 z (k v s)
theorem gM3_7 {T0 : Type} {T1 : Type} {T2 : Type} {P0 P1 P2 P3 P4 P5 P6 : α → Gh → T0 → T1 → T2 → Prop} {Q : α → Gh → Prop} (h : gwp K A t (fun v s => ∃ x0 x1 x2, P0 v s x0 x1 x2 ∧ P1 v s x0 x1 x2 ∧ P2 v s x0 x1 x2 ∧ P3 v s x0 x1 x2 ∧ P4 v s x0 x1 x2 ∧ P5 v s x0 x1 x2 ∧ P6 v s x0 x1 x2) g) (k : ∀ v s x0 x1 x2, P0 v s x0 x1 x2 → P1 v s x0 x1 x2 → P2 v s x0 x1 x2 → P3 v s x0 x1 x2 → P4 v s x0 x1 x2 → P5 v s x0 x1 x2 → P6 v s x0 x1 x2 → Q v s) : gwp K A t Q g := Z9 h fun v s z => E3_7 z (k v s)
end
section
variable {prog : Program} {w : World} {α : Type} {A : Around} {s : Shared} {E : Value → Shared → Prop} {t : Sem α}
theorem wM1_2 {T0 : Type} {P0 P1 : α → Shared → T0 → Prop} {Q : α → Shared → Prop} (h : wpAny (model prog w) A t (fun v s => ∃ x0, P0 v s x0 ∧ P1 v s x0) E s) (k : ∀ v s x0, P0 v s x0 → P1 v s x0 → Q v s) : wpAny (model prog w) A t Q E s := wpAny_mono h (fun v s z => E1_2 z (k v s)) fun _ _ z => z
theorem wM1_3 {T0 : Type} {P0 P1 P2 : α → Shared → T0 → Prop} {Q : α → Shared → Prop} (h : wpAny (model prog w) A t (fun v s => ∃ x0, P0 v s x0 ∧ P1 v s x0 ∧ P2 v s x0) E s) (k : ∀ v s x0, P0 v s x0 → P1 v s x0 → P2 v s x0 → Q v s) : wpAny (model prog w) A t Q E s := wpAny_mono h (fun v s z => E1_3 z (k v s)) fun _ _ z => z
theorem wM0_2 {P0 P1 : α → Shared → Prop} {Q : α → Shared → Prop} (h : wpAny (model prog w) A t (fun v s => P0 v s ∧ P1 v s) E s) (k : ∀ v s, P0 v s → P1 v s → Q v s) : wpAny (model prog w) A t Q E s := wpAny_mono h (fun v s z => E0_2 z (k v s)) fun _ _ z => z
end
theorem nmem0 {α : Type} {a : α} : a ∉ ([] : List α) := fun h => nomatch h
theorem nmemc {α : Type} {a b : α} {l : List α} (h : a ≠ b) (t : a ∉ l) : a ∉ b :: l := fun m => (List.mem_cons.mp m).elim h t
theorem nmem1 {α : Type} {a b : α} (h : a ≠ b) : a ∉ [b] := nmemc h nmem0
theorem mem_l {α : Type} {a : α} {l m : List α} (h : a ∈ l) : a ∈ l ++ m := List.mem_append.mpr (.inl h)
end
end Mine
section
namespace Mine
open PySem PySem.Spec PySem.Calls PyProof.Rows PySem.W
variable {K : Wd} {B : Base} {α β : Type} {A : Around} {g : Gh}
noncomputable def Room (A : Around) (n : Nat) : Prop := A.handled = none ∧ A.depth + n < recursionLimit ∧ A.units + 8 * n < cLine
theorem Room.sub {n m : Nat} (h : Room A n) (hm : m ≤ n) : Room A m := ⟨h.1, by have := h.2.1; lia, by have := h.2.2; lia⟩
theorem Room.in1 {n : Nat} (h : Room A (n + 1)) : Room A.in1 n := ⟨h.1, by have := h.2.1; dsimp only [Around.in1_depth]; lia, by have := h.2.2; dsimp only [Around.in1_units]; lia⟩
theorem Room.deeper {n : Nat} {env : Env} (h : Room A (n + 1)) : Room (A.deeper env) n := ⟨h.1, by have := h.2.1; dsimp only [Around.deeper]; lia, by have := h.2.2; dsimp only [Around.deeper_units]; lia⟩
theorem Room.units {n : Nat} (h : Room A n) : A.units < cLine := by have := h.2.2; lia
theorem Room.depth {n : Nat} (h : Room A n) : A.depth < recursionLimit := by have := h.2.1; lia
noncomputable def Pv (K : Wd) (n : Nat) (g : Gh) (t : Sem α) (P : Gh → α → Prop) : Prop :=
 ∀ A, Room A n → ∀ g₁, Le g g₁ → gwp K A t (fun v g₂ => Le g₁ g₂ ∧ P g₂ v) g₁
noncomputable abbrev Pe (K : Wd) (n : Nat) (g : Gh) (t : Sem Value) (d : D) : Prop := Pv K n g t (fun g v => Rep g.im d v)
theorem Pv.le {n : Nat} {g g' : Gh} {t : Sem α} {P : Gh → α → Prop} (h : Pv K n g t P) (l : Le g g') : Pv K n g' t P := fun A r g₁ l₁ => h A r g₁ (l.trans l₁)
theorem Pv.room {n m : Nat} {t : Sem α} {P : Gh → α → Prop} (h : Pv K n g t P) (hm : n ≤ m) : Pv K m g t P := fun A r g₁ l₁ => h A (r.sub hm) g₁ l₁
theorem Pv.mono {n : Nat} {t : Sem α} {P P' : Gh → α → Prop} (h : Pv K n g t P) (hp : ∀ g₂ v, Le g g₂ → P g₂ v → P' g₂ v) : Pv K n g t P' :=
 fun A r g₁ l₁ => gM0_2 (h A r g₁ l₁) fun v g₂ l₂ p => ⟨l₂, hp g₂ v (l₁.trans l₂) p⟩
theorem Pv.use {n : Nat} {t : Sem α} {P : Gh → α → Prop} {Q : α → Gh → Prop} (h : Pv K n g t P) (r : Room A n) (k : ∀ v g', Le g g' → P g' v → Q v g') : gwp K A t Q g :=
 gM0_2 (h A r g (LeX.refl _ _)) fun v g' l p => k v g' l p
theorem Z22 {im : Im} {u v : Value} (h : Rep im (.raw u) v) : v = u := by simpa [Rep] using h
theorem Pv.useR {n : Nat} {t : Sem Value} {w : Value} {Q : Value → Gh → Prop} (h : Pv K n g t fun g' v => Rep g'.im (.raw w) v) (r : Room A n) (k : ∀ g', Le g g' → Q w g') : gwp K A t Q g :=
 Z9 (h A r g (LeX.refl _ _)) fun v g' z => (Z22 z.2) ▸ k g' z.1
theorem Pe.is {n : Nat} {t : Sem Value} {d d' : D} (h : Pe K n g t d) (e : d = d') : Pe K n g t d' := e ▸ h
theorem Rep.le {g g' : Gh} {d : D} {v : Value} (h : Rep g.im d v) (l : Le g g') : Rep g'.im d v := h.mono l.im
theorem Reps.le {g g' : Gh} {d : List D} {v : List Value} (h : Reps g.im d v) (l : Le g g') : Reps g'.im d v := h.mono l.im
set_option genInjectivity false in
set_option genSizeOf false in
structure MO where
 P : Im → Obj → Prop
 mono : ∀ im im' o, (∀ a o, im a = some o → im' a = some o) → P im o → P im' o
noncomputable def MO.list (ds : List D) : MO := ⟨fun im o => ∃ its n, o = sq "list" its n ∧ Reps im ds its.toList, fun _ _ _ h z₀ => E2_2 z₀ fun its n e r => ⟨its, n, e, r.mono h⟩⟩
noncomputable def MO.obj (o : Obj) : MO := ⟨fun _ o' => o' = o, fun _ _ _ _ e => e⟩
noncomputable def NsObj (o : Obj) (f : Str → Option Value) : Prop := ∃ es ep, o.data = .dict es ep ∧ StrKeys es ∧ ∀ x, nsFind es x = f x
theorem NsObj.ns {o : Obj} {f : Str → Option Value} (x : NsObj o f) {h : Heap} {a : Addr} (e : h.get? a = some o) : h.Ns a f := E2_1 x fun es ep r => ⟨o, es, ep, e, r⟩
noncomputable def GlobIs (B : Base) (x : Str) (v : Value) : Prop :=
 (∃ o f, B.im mainGlobals = some o ∧ NsObj o f ∧ f x = some v) ∨
 (∃ o f o' f', B.im mainGlobals = some o ∧ NsObj o f ∧ f x = none ∧ B.im builtinsNs = some o' ∧ NsObj o' f' ∧ f' x = some v)
structure Frm (K : Wd) (b : Gh) (S : List Addr) (fn : List Nat) (cs : List Addr) (env : Env) (nm : List (Str × NameKind)) (σ : List (Option D)) (own : List (Addr × MO)) (g : Gh) : Prop where
 le : LeX S b g
 names : env.scope.names = nm
 kind : env.scope.kind = .function
 ndup : (nm.map (·.1)).Nodup
 ndbg : ∀ x ∈ nm, (x.1 == ("__debug__" : Str)) = false ∧ (x.1 == ("__classdict__" : Str)) = false
 globals : env.globals = mainGlobals
 builtins : env.builtins = builtinsNs
 loc : ∃ o f, g.mu env.locals = some o ∧ NsObj o f ∧ ∀ (i : Nat) (x : Str) (d : D), nm[i]? = some (x, NameKind.local) → σ[i]? = some (some d) → ∃ v, f x = some v ∧ Rep g.im d v
 cel : ∀ (i : Nat) (x : Str) (k : NameKind), nm[i]? = some (x, k) → (k = NameKind.cell ∨ k = NameKind.free) → ∃ c o w, env.cells.lookup x = some c ∧ g.has c o ∧ o.data = .cell w ∧ (∀ d : D, σ[i]? = some (some d) → ∃ v, w = some v ∧ Rep g.im d v)
 glo : ∀ (i : Nat) (x : Str) (d : D), nm[i]? = some (x, NameKind.globalImplicit) → σ[i]? = some (some d) → ∃ v, d = D.raw v ∧ GlobIs K.B x v
 cw : ∀ (i : Nat) (x : Str), i ∈ fn → nm[i]? = some (x, NameKind.cell) → ∃ c o, env.cells.lookup x = some c ∧ c ∈ cs ∧ g.mu c = some o
 csm : ∀ c ∈ cs, ∃ o w, g.mu c = some o ∧ o.data = .cell w
 cinj : ∀ (i j : Nat) (x y : Str) (k k' : NameKind) (c : Addr), nm[i]? = some (x, k) → nm[j]? = some (y, k') → env.cells.lookup x = some c → env.cells.lookup y = some c → i = j
 apart : (env.locals :: cs ++ own.map (·.1)).Nodup
 fresh : ∀ a ∈ env.locals :: cs, b.mu a = none
 own : ∀ p ∈ own, ∃ o, g.mu p.1 = some o ∧ p.2.P g.im o ∧ (p.1 ∈ S ∨ b.mu p.1 = none)
variable {b : Gh} {S : List Addr} {fn : List Nat} {cs : List Addr} {env : Env} {nm : List (Str × NameKind)} {σ σ' : List (Option D)} {own : List (Addr × MO)} {n : Nat}
theorem Frm.up {g' : Gh} (F : Frm K b S fn cs env nm σ own g) (l : Le g g') : Frm K b S fn cs env nm σ own g' where
 le := F.le.trans (.of l)
 names := F.names
 kind := F.kind
 ndup := F.ndup
 ndbg := F.ndbg
 globals := F.globals
 builtins := F.builtins
 loc := E2_3 F.loc fun o f e h r => ⟨o, f, l.at e, h, fun i x d h1 h2 => E1_2 (r i x d h1 h2) fun v e1 e2 => ⟨v, e1, e2.le l⟩⟩
 cel := fun i x k h1 h2 => E3_4 (F.cel i x k h1 h2) fun c o w e1 e2 e3 r => ⟨c, o, w, e1, e2.le l, e3, fun d hd => E1_2 (r d hd) fun v a1 a2 => ⟨v, a1, a2.le l⟩⟩
 glo := F.glo
 cw := fun i x hf h => E2_3 (F.cw i x hf h) fun c o e1 e2 e3 => ⟨c, o, e1, e2, l.at e3⟩
 csm := fun c hc => E2_2 (F.csm c hc) fun o w e1 e2 => ⟨o, w, l.at e1, e2⟩
 cinj := F.cinj
 apart := F.apart
 fresh := F.fresh
 own := fun p hp => E1_3 (F.own p hp) fun o e1 e2 e3 => ⟨o, l.at e1, p.2.mono _ _ _ l.im e2, e3⟩
theorem Frm.less (F : Frm K b S fn cs env nm σ own g) (h : ∀ (i : Nat) (d : D), σ'[i]? = some (some d) → σ[i]? = some (some d)) : Frm K b S fn cs env nm σ' own g :=
 {F with
  loc := E2_3 F.loc fun o f e hh r => ⟨o, f, e, hh, fun i x d h1 h2 => r i x d h1 (h i d h2)⟩
  cel := fun i x k h1 h2 => E3_4 (F.cel i x k h1 h2) fun c o w e1 e2 e3 r => ⟨c, o, w, e1, e2, e3, fun d hd => r d (h i d hd)⟩
  glo := fun i x d h1 h2 => F.glo i x d h1 (h i d h2) }
theorem Frm.drop {own' : List (Addr × MO)} (F : Frm K b S fn cs env nm σ own g) (h : own'.Sublist own) : Frm K b S fn cs env nm σ own' g :=
 {F with
  apart := F.apart.sublist (List.Sublist.append (List.Sublist.refl _) (h.map _))
  own := fun p hp => F.own p (h.subset hp) }
theorem Z74 {γ : Type} : ∀ {l : List (Str × γ)} {i : Nat} {x : Str} {k : γ}, (l.map (·.1)).Nodup → l[i]? = some (x, k) → l.lookup x = some k
 | [], _, _, _, _, e => by simp at e
 | (y, k') :: l, 0, x, k, _, e => by
  simp at e
  refine E0_2 e ?_
  rintro rfl rfl
  simp [List.lookup_cons]
 | (y, k') :: l, i + 1, x, k, hn, e => by
  simp at e
  rw [List.map_cons, List.nodup_cons] at hn
  have hx : x ∈ l.map (·.1) := List.mem_map_of_mem (List.mem_of_getElem? e)
  have hne : (x == y) = false := by
   rw [beq_eq_false_iff_ne]
   rintro rfl
   exact hn.1 hx
  simp only [List.lookup_cons, hne]
  exact Z74 hn.2 e
theorem Frm.kindOf {i : Nat} {x : Str} {k : NameKind} (F : Frm K b S fn cs env nm σ own g) (h : nm[i]? = some (x, k)) : env.kindOf x = some k := by
 delta Env.kindOf
 rw [F.names]
 exact Z74 F.ndup h
theorem Frm.dbg {i : Nat} {x : Str} {k : NameKind} (F : Frm K b S fn cs env nm σ own g) (h : nm[i]? = some (x, k)) : (x == ("__debug__" : Str)) = false := (F.ndbg _ (List.mem_of_getElem? h)).1
theorem any_glob {prog : Program} {w : World} {B : Base} {E : Value → Shared → Prop} {s : Shared} {env : Env} {x : Str} {v : Value} {Q : Value → Shared → Prop} (hB : ∀ a o, B.im a = some o → s.heap.get? a = some o) (hg : GlobIs B x v) (h1 : env.globals = mainGlobals) (h2 : env.builtins = builtinsNs) (q : Q v s) : wpAny (model prog w) A (loadGlobal env x) Q E s := by
 rcases hg with ⟨o, f, e, hh, hx⟩ | ⟨o, f, o', f', e, hh, hx, e', hh', hx'⟩
 ·exact loadGlobal_global (h1.symm ▸ hh.ns (hB _ _ e)) hx q
 ·exact loadGlobal_builtin (h1.symm ▸ hh.ns (hB _ _ e)) hx (h2.symm ▸ hh'.ns (hB _ _ e')) hx' q
theorem Frm.read {i : Nat} {x : Str} {k : NameKind} {d : D} {Q : Value → Gh → Prop} (F : Frm K b S fn cs env nm σ own g) (h : nm[i]? = some (x, k)) (hd : σ[i]? = some (some d)) (hk : k ≠ .globalExplicit) (q : ∀ v, Rep g.im d v → Q v g) :
  gwp K A (loadName env x) Q g := by
 intro s E ok
 have hkx := F.kindOf h
 cases k with
 | «local» => exact E2_3 F.loc fun o f e hh r => E1_2 (r i x d h hd) fun v e1 e2 => wpAny_loadName_local F.kind hkx (hh.ns (ok.mu _ _ e)) e1 ⟨g, ok, q v e2⟩
 | globalImplicit =>
  rw [loadName_read F.kind hkx]
  exact E1_2 (F.glo i x d h hd) fun v e hg => any_glob (fun a o e => ok.im a o (ok.base a o e)) hg F.globals F.builtins ⟨g, ok, q v (e ▸ rfl)⟩
 | globalExplicit => exact absurd rfl hk
 | cell => exact E3_4 (F.cel i x _ h (.inl rfl)) fun c o w e1 e2 e3 r => E1_2 (r d hd) fun v e e4 => wpAny_loadName_cell F.kind hkx e1 ⟨o, e2.get ok, e3.trans (congrArg _ e)⟩ ⟨g, ok, q v e4⟩
 | free => exact E3_4 (F.cel i x _ h (.inr rfl)) fun c o w e1 e2 e3 r => E1_2 (r d hd) fun v e e4 => wpAny_loadName_free F.kind hkx e1 ⟨o, e2.get ok, e3.trans (congrArg _ e)⟩ ⟨g, ok, q v e4⟩ (F.ndbg _ (List.mem_of_getElem? h)).2
theorem getElem?_set_cases {γ : Type} {l : List γ} {i j : Nat} {a b : γ} (h : (l.set i a)[j]? = some b) : (i = j ∧ b = a) ∨ (i ≠ j ∧ l[j]? = some b) := by
 rw [List.getElem?_set] at h
 by_cases hij : i = j
 ·rw [if_pos hij] at h
  split at h
  ·cases h; exact .inl ⟨hij, rfl⟩
  ·cases h
 ·rw [if_neg hij] at h; exact .inr ⟨hij, h⟩
theorem Z228 {γ : Type} {l : List γ} (hn : l.Nodup) {i j : Nat} {a : γ} (hi : l[i]? = some a) (hj : l[j]? = some a) : i = j := by
 obtain ⟨h1, e1⟩ := List.getElem?_eq_some_iff.mp hi
 obtain ⟨h2, e2⟩ := List.getElem?_eq_some_iff.mp hj
 have hp := List.pairwise_iff_getElem.mp hn
 rcases Nat.lt_trichotomy i j with h | h | h
 ·exact absurd (e1.trans e2.symm) (hp i j h1 h2 h)
 ·exact h
 ·exact absurd (e2.trans e1.symm) (hp j i h2 h1 h)
theorem Z141 : ∀ {l : List (Str × NameKind)} {i j : Nat} {x : Str} {k k' : NameKind}, (l.map (·.1)).Nodup → l[i]? = some (x, k) → l[j]? = some (x, k') → i = j := by
 intro l i j x k k' hn hi hj
 have hi' : (l.map (·.1))[i]? = some x := by rw [List.getElem?_map, hi]; rfl
 have hj' : (l.map (·.1))[j]? = some x := by rw [List.getElem?_map, hj]; rfl
 exact Z228 hn hi' hj'
theorem Gh.has.other {a c : Addr} {o o' : Obj} (hx : g.has c o) (hne : c ≠ a) : (g.setMu a o').has c o := hx.imp (fun z => z) fun z => (Gh.setMu_other hne).trans z
theorem Frm.put {i : Nat} {x : Str} {k : NameKind} {d : D} {a : Addr} {o' : Obj} (F : Frm K b S fn cs env nm σ own g) (h : nm[i]? = some (x, k)) (hk : k ≠ .globalImplicit) (ha : a ∈ env.locals :: cs) (hcs : a ∈ cs → ∃ w, o'.data = .cell w)
  (loc' : ∃ o f, (g.setMu a o').mu env.locals = some o ∧ NsObj o f ∧ ∀ (j : Nat) (y : Str) (d' : D), nm[j]? = some (y, NameKind.local) → (σ.set i (some d))[j]? = some (some d') → ∃ v, f y = some v ∧ Rep g.im d' v)
  (cel' : ∀ (j : Nat) (y : Str) (k : NameKind), nm[j]? = some (y, k) → (k = NameKind.cell ∨ k = NameKind.free) → ∃ c o w, env.cells.lookup y = some c ∧ (g.setMu a o').has c o ∧ o.data = .cell w ∧ (∀ d' : D, (σ.set i (some d))[j]? = some (some d') → ∃ v, w = some v ∧ Rep g.im d' v)) : Frm K b S fn cs env nm (σ.set i (some d)) own (g.setMu a o') :=
 have mu : ∀ {c : Addr} {o : Obj}, g.mu c = some o → ∃ o, (g.setMu a o').mu c = some o := fun {c o} e => (Classical.em (c = a)).elim (fun z => ⟨o', z ▸ Gh.setMu_self⟩) fun z => ⟨o, (Gh.setMu_other z).trans e⟩
 {le := ⟨F.le.im, fun c oa hc ea => (Gh.setMu_other fun z => Z56 ea (by rw [z]; exact F.fresh _ ha)).trans (F.le.mu c oa hc ea), F.le.gs⟩
  names := F.names, kind := F.kind, ndup := F.ndup, ndbg := F.ndbg, globals := F.globals, builtins := F.builtins
  loc := loc'
  cel := cel'
  glo := fun j y d' hj hd' => (getElem?_set_cases hd').elim (fun z => absurd (congrArg Prod.snd (Z39 h (z.1 ▸ hj))) hk) fun z => F.glo j y d' hj z.2
  cw := fun j y hf hj => E2_3 (F.cw j y hf hj) fun c oc e1 e2 e3 => E1_1 (mu e3) fun o e => ⟨c, o, e1, e2, e⟩
  csm := fun c hc => (Classical.em (c = a)).elim (fun z => E1_1 (hcs (z ▸ hc)) fun w e => ⟨o', w, z ▸ Gh.setMu_self, e⟩) fun z => E2_2 (F.csm c hc) fun oc wc e1 e2 => ⟨oc, wc, (Gh.setMu_other z).trans e1, e2⟩
  cinj := F.cinj
  apart := F.apart
  fresh := F.fresh
  own := fun p hp => E1_3 (F.own p hp) fun op e1 e2 e3 => ⟨op, (Gh.setMu_other fun z => (List.nodup_append.mp F.apart).2.2 a ha p.1 (List.mem_map_of_mem hp) z.symm).trans e1, e2, e3⟩ }
theorem Frm.storeLocal {i : Nat} {x : Str} {d : D} {v : Value} {Q : Unit → Gh → Prop} (F : Frm K b S fn cs env nm σ own g) (h : nm[i]? = some (x, NameKind.local)) (hv : Rep g.im d v)
  (q : ∀ g', LeX [env.locals] g g' → Frm K b S fn cs env nm (σ.set i (some d)) own g' → Q () g') : gwp K A (storeName env x v) Q g := fun s E ok =>
 E2_3 F.loc fun o f e hh r => wpAny_storeName_local (F.kindOf h) (hh.ns (ok.mu _ _ e)) (fun h' hn' hs' => E3_4 hn' fun o' es' ep' ho' hd' hk' hf' =>
  ⟨_, ok.sameBut (tk := s.toks + 1) e hs' ho', q _ LeX.setMu (F.put h (fun z => nomatch z) (.head _) (fun z => absurd z (fun z => (List.nodup_cons.mp F.apart).1 (List.mem_append.mpr (.inl z))))
   ⟨o', _, Gh.setMu_self, ⟨es', ep', hd', hk', hf'⟩, fun j y d' hj hd' => (getElem?_set_cases hd').elim (fun z => ⟨v, if_pos (congrArg Prod.fst (Z39 (z.1 ▸ hj) h)), Option.some.inj z.2 ▸ hv⟩)
    fun z => E1_2 (r j y d' hj z.2) fun v' a1 a2 => ⟨v', (if_neg fun e => z.1 (Z141 F.ndup h (e ▸ hj))).trans a1, a2⟩⟩
   fun j y k hj hk => E3_4 (F.cel j y k hj hk) fun c oc wc e1 e2 e3 e4 =>
    ⟨c, oc, wc, e1, e2.other (fun z => E2_2 hh fun es ep hde _ => by have := e2.inj (.inr (by rw [z]; exact e)) ok; rw [this, hde] at e3; cases e3),
    e3, fun d' hd' => (getElem?_set_cases hd').elim (fun z => by rw [← z.1, h] at hj; cases hj; rcases hk with hk | hk <;> cases hk) fun z => e4 d' z.2⟩)⟩) (by rw [F.kind]; rfl)
theorem Frm.storeCell {i : Nat} {x : Str} {d : D} {v : Value} {Q : Unit → Gh → Prop} (F : Frm K b S fn cs env nm σ own g) (h : nm[i]? = some (x, NameKind.cell)) (hin : i ∈ fn) (hv : Rep g.im d v)
  (q : ∀ g', LeX cs g g' → Frm K b S fn cs env nm (σ.set i (some d)) own g' → Q () g') : gwp K A (storeName env x v) Q g := fun s E ok =>
 E2_3 (F.cw i x hin h) fun c oc' e1 e2' e3' => E2_2 (F.csm c e2') fun oc wc e3 e4 => E2_3 F.loc fun o f e hh r =>
  have hcl : env.locals ≠ c := fun z => (List.nodup_cons.mp F.apart).1 (List.mem_append.mpr (.inl (z ▸ e2')))
  wpAny_storeName_cell F.kind (F.kindOf h) e1 ⟨oc, ok.mu _ _ e3, e4⟩ fun h' hc' hs' => E1_2 hc' fun o' ho' hd' =>
  ⟨_, ok.sameBut (tk := s.toks) e3 hs' ho', q _ (LeX.setMu.sub (all1 e2')) (F.put h (fun z => nomatch z) (.tail _ e2') (fun _ => ⟨_, hd'⟩)
   ⟨o, f, (Gh.setMu_other hcl).trans e, hh, fun j y d' hj hd' => (getElem?_set_cases hd').elim (fun z => absurd (congrArg Prod.snd (Z39 (b := (y, NameKind.local)) h (by rw [z.1]; exact hj))) fun z => nomatch z) fun z => r j y d' hj z.2⟩
   fun j y k hj hk => E3_4 (F.cel j y k hj hk) fun c2 oc2 wc2 f1 f2 f3 f4 => (Classical.em (c2 = c)).elim
    (fun hc => ⟨c, o', some v, f1.trans (congrArg some hc), .inr Gh.setMu_self, hd', fun d' hd' => (getElem?_set_cases hd').elim (fun z => ⟨v, rfl, Option.some.inj z.2 ▸ hv⟩) fun z => absurd (F.cinj i j x y _ _ _ h hj e1 (f1.trans (congrArg some hc))) z.1⟩)
    fun hc => ⟨c2, oc2, wc2, f1, f2.other hc, f3, fun d' hd' => (getElem?_set_cases hd').elim (fun z => absurd (Option.some.inj (f1.symm.trans ((congrArg (fun p => env.cells.lookup p.1) (Z39 (z.1 ▸ hj) h)).trans e1))) hc) fun z => f4 d' z.2⟩)⟩
theorem Frm.addOwn {a : Addr} {m : MO} {o : Obj} (F : Frm K b S fn cs env nm σ own g) (hm : m.P g.im o) (ha : g.mu a = none) (hb : b.mu a = none) : Frm K b S fn cs env nm σ ((a, m) :: own) (g.setMu a o) := by
 have F' := F.up (Le.addMu ha (o := o))
 exact { F' with
  apart := by
   have hap := F.apart
   rw [List.map_cons]
   have hn : a ∉ env.locals :: cs ++ own.map (·.1) := by
    intro hm'
    rw [List.cons_append] at hm'
    rcases List.mem_cons.mp hm' with rfl | hm'
    ·refine E2_2 F.loc fun o f e _ => ?_
     cases ((ha).symm.trans e)
    rcases List.mem_append.mp hm' with hm' | hm'
    ·refine E2_2 (F.csm a hm') fun oc wc e1 _ => ?_
     cases ((ha).symm.trans e1)
    ·refine E1_2 (List.mem_map.mp hm') ?_
     clear hm'; rintro p hp rfl
     refine E1_2 (F.own p hp) fun op e1 _ => ?_
     clear hm' F; cases ((ha).symm.trans e1)
   rw [List.nodup_append] at hap ⊢
   refine ⟨hap.1, List.nodup_cons.mpr ⟨fun h => hn (List.mem_append.mpr (.inr h)), hap.2.1⟩, fun x hx y hy => ?_⟩
   rcases List.mem_cons.mp hy with rfl | hy
   ·clear ha F; rintro rfl; exact hn (List.mem_append.mpr (.inl hx))
   ·exact hap.2.2 x hx y hy
  own := fun p hp => by
   rcases List.mem_cons.mp hp with rfl | hp
   ·exact ⟨o, Gh.setMu_self, hm, .inr hb⟩
   ·exact F'.own p hp }
end Mine
end
namespace Mine
section
open PySem PySem.Spec PySem.Calls PyProof.Rows PySem.W
variable {K : Wd} {B : Base} {α β : Type} {A : Around} {g : Gh} {n : Nat} {env : Env}
variable {b : Gh} {S' : List Addr} {fn : List Nat} {cs : List Addr} {nm : List (Str × NameKind)} {σ σ' : List (Option D)} {own : List (Addr × MO)}
section
variable {Q : Value → Gh → Prop}
theorem gwp_BinOp {l r : Expr} {op : Operator} {pos : Pos} (h : gwp K A (eval l env) (fun a g₁ => gwp K A (eval r env) (fun b g₂ => gwp K A (binaryOp op a b) Q g₂) g₁) g) : gwp K A (eval (.BinOp l op r pos) env) Q g :=
 fun s E ok => wpAny_BinOp (wM1_2 (h s E ok) (fun a s₁ _ ok₁ h₁ => wM1_2 (h₁ s₁ E ok₁) (fun b s₂ _ ok₂ h₂ => h₂ s₂ E ok₂)))
theorem gwp_Compare {l r : Expr} {op : CmpOp} {pos : Pos} (h : gwp K A (eval l env) (fun a g₁ => gwp K A (eval r env) (fun b g₂ => gwp K A (compareOp op a b) Q g₂) g₁) g) (hm : behindInMarks op r = false := by with_unfolding_all rfl) : gwp K A (eval (.Compare l [op] [r] pos) env) Q g :=
 fun s E ok => wpAny_Compare1 (wM1_2 (h s E ok) (fun a s₁ _ ok₁ h₁ => wM1_2 (h₁ s₁ E ok₁) (fun b s₂ _ ok₂ h₂ => h₂ s₂ E ok₂))) hm
theorem gwp_UnaryOp {x : Expr} {op : UnaryOp} {pos : Pos} (h : gwp K A (eval x env) (fun a g₁ => gwp K A (unaryOp op a) Q g₁) g) : gwp K A (eval (.UnaryOp op x pos) env) Q g :=
 fun s E ok => wpAny_UnaryOp (wM1_2 (h s E ok) (fun a s₁ _ ok₁ h₁ => h₁ s₁ E ok₁))
theorem gwp_Name {x : Str} {pos : Pos} (h : gwp K A (loadName env x) Q g) (hd : (x == ("__debug__" : Str)) = false) : gwp K A (eval (.Name x pos) env) Q g := fun s E ok => wpAny_Name (h s E ok) hd
theorem gwp_int {i : Int} {k : Nat} {pos : Pos} (h : ∀ t, Q (.int i t) g) : gwp K A (eval (.Constant (.int i) k pos) env) Q g := fun s E ok => wpAny_Constant_int ⟨g, ok.tok _, h _⟩
theorem gwp_str {x : Str} {k : Nat} {pos : Pos} (h : ∀ t, Q (.str x t) g) : gwp K A (eval (.Constant (.str x) k pos) env) Q g := fun s E ok => wpAny_Constant_str ⟨g, ok.tok _, h _⟩
theorem gwp_none {k : Nat} {pos : Pos} (h : Q .none g) : gwp K A (eval (.Constant .none k pos) env) Q g := fun s E ok => wpAny_Constant_none ⟨g, ok, h⟩
theorem gwp_IfExp {t x y : Expr} {pos : Pos} (h : gwp K A (isTrue t env (eval t env)) (fun b g₁ => if b then gwp K A (eval x env) Q g₁ else gwp K A (eval y env) Q g₁) g) : gwp K A (eval (.IfExp t x y pos) env) Q g :=
 fun s E ok => wpAny_IfExp (wM1_2 (h s E ok) (fun b s₁ _ ok₁ h₁ => by cases b <;> exact h₁ s₁ E ok₁))
end
theorem Z6 {i : Nat} {x : Str} {k : NameKind} {d : D} {pos : Pos} (F : Frm K b S' fn cs env nm σ own g) (h : nm[i]? = some (x, k)) (hd : σ[i]? = some (some d)) (hk : k ≠ .globalExplicit := by decide) : Pe K n g (eval (.Name x pos) env) d :=
 fun A r g₁ l => gwp_Name ((F.up l).read h hd hk fun v hv => ⟨LeX.refl _ _, hv⟩) (F.dbg h)
theorem Z11 {i : Int} {k : Nat} {pos : Pos} : Pe K n g (eval (.Constant (.int i) k pos) env) (.int i) := fun A r g₁ l => gwp_int fun t => ⟨LeX.refl _ _, by simp [Rep]⟩
theorem Z31 {x : Str} {k : Nat} {pos : Pos} {l : List Nat} (h : x = S l) : Pe K n g (eval (.Constant (.str x) k pos) env) (.str l) := fun A r g₁ _ => gwp_str fun t => ⟨LeX.refl _ _, by subst h; simp [Rep]⟩
theorem pe_none {k : Nat} {pos : Pos} : Pe K n g (eval (.Constant .none k pos) env) .none := fun A r g₁ _ => gwp_none ⟨LeX.refl _ _, by exact rfl⟩
theorem Pv.bind {m : Sem α} {f : α → Sem β} {P : Gh → α → Prop} {P' : Gh → β → Prop} (h : Pv K n g m P) (k : ∀ v g', Le g g' → P g' v → Pv K n g' (f v) P') : Pv K n g (m >>= f) P' :=
 fun A r g₁ l => Z1 (gM0_2 (h A r g₁ l) fun v g₂ l₂ p => gM0_2 (k v g₂ (l.trans l₂) p A r g₂ (LeX.refl _ _)) fun u g₃ l₃ p' => ⟨l₂.trans l₃, p'⟩)
noncomputable def OpSem (K : Wd) (n : Nat) (g₀ : Gh) (f : Value → Value → Sem Value) (d₁ d₂ d : D) : Prop := ∀ g, Le g₀ g → ∀ v₁ v₂, Rep g.im d₁ v₁ → Rep g.im d₂ v₂ → Pe K n g (f v₁ v₂) d
noncomputable def UnSem (K : Wd) (n : Nat) (g₀ : Gh) (f : Value → Sem Value) (d₁ d : D) : Prop := ∀ g, Le g₀ g → ∀ v₁, Rep g.im d₁ v₁ → Pe K n g (f v₁) d
theorem Z8 {l r : Expr} {op : Operator} {pos : Pos} {d₁ d₂ d : D} (hl : Pe K n g (eval l env) d₁) (hr : Pe K n g (eval r env) d₂) (h : OpSem K n g (binaryOp op) d₁ d₂ d) : Pe K n g (eval (.BinOp l op r pos) env) d :=
 fun A rm g₁ l => gwp_BinOp (gM0_2 (hl A rm g₁ l) fun v₁ g₂ l₂ p₁ => gM0_2 (hr A rm g₂ (l.trans l₂)) fun v₂ g₃ l₃ p₂ => gM0_2 (h g₃ (l.trans (l₂.trans l₃)) v₁ v₂ (p₁.le l₃) p₂ A rm g₃ (LeX.refl _ _)) fun v g₄ l₄ p => ⟨l₂.trans (l₃.trans l₄), p⟩)
theorem pe_cmp {l r : Expr} {op : CmpOp} {pos : Pos} {d₁ d₂ d : D} (hl : Pe K n g (eval l env) d₁) (hr : Pe K n g (eval r env) d₂) (h : OpSem K n g (compareOp op) d₁ d₂ d) (hm : behindInMarks op r = false := by with_unfolding_all rfl) : Pe K n g (eval (.Compare l [op] [r] pos) env) d :=
 fun A rm g₁ l => gwp_Compare (gM0_2 (hl A rm g₁ l) fun v₁ g₂ l₂ p₁ => gM0_2 (hr A rm g₂ (l.trans l₂)) fun v₂ g₃ l₃ p₂ => gM0_2 (h g₃ (l.trans (l₂.trans l₃)) v₁ v₂ (p₁.le l₃) p₂ A rm g₃ (LeX.refl _ _)) fun v g₄ l₄ p => ⟨l₂.trans (l₃.trans l₄), p⟩) hm
theorem pe_un {x : Expr} {op : UnaryOp} {pos : Pos} {d₁ d : D} (hl : Pe K n g (eval x env) d₁) (h : UnSem K n g (unaryOp op) d₁ d) : Pe K n g (eval (.UnaryOp op x pos) env) d :=
 fun A rm g₁ l => gwp_UnaryOp (gM0_2 (hl A rm g₁ l) fun v₁ g₂ l₂ p₁ => gM0_2 (h g₂ (l.trans l₂) v₁ p₁ A rm g₂ (LeX.refl _ _)) fun v g₄ l₄ p => ⟨l₂.trans l₄, p⟩)
noncomputable abbrev Pt (K : Wd) (n : Nat) (g : Gh) (e : Expr) (env : Env) (v : Bool) : Prop := Pv K n g (isTrue e env (eval e env)) (fun _ u => u = v)
theorem Pt.is {e : Expr} {v v' : Bool} (h : Pt K n g e env v) (q : v = v') : Pt K n g e env v' := q ▸ h
theorem pe_if {t x y : Expr} {pos : Pos} {v : Bool} {d : D} (ht : Pt K n g t env v) (hx : v = true → Pe K n g (eval x env) d) (hy : v = false → Pe K n g (eval y env) d) : Pe K n g (eval (.IfExp t x y pos) env) d :=
 fun A rm g₁ l => gwp_IfExp (gM0_2 (ht A rm g₁ l) fun u g₂ l₂ p => by
  subst p
  cases u with
  | true => exact gM0_2 (hx rfl A rm g₂ (l.trans l₂)) fun w g₃ l₃ p => ⟨l₂.trans l₃, p⟩
  | false => exact gM0_2 (hy rfl A rm g₂ (l.trans l₂)) fun w g₃ l₃ p => ⟨l₂.trans l₃, p⟩)
theorem pe_ifd {t x y : Expr} {pos : Pos} {v : Bool} {d d' : D} (ht : Pt K n g t env v) (hx : Pe K n g (eval x env) d) (hy : Pe K n g (eval y env) d') : Pe K n g (eval (.IfExp t x y pos) env) (if v then d else d') := by
 refine pe_if ht (fun h => ?_) (fun h => ?_) <;> subst h
 ·exact hx
 ·exact hy
noncomputable def TruthSem (K : Wd) (n : Nat) (g₀ : Gh) (d : D) (v : Bool) : Prop := ∀ g, Le g₀ g → ∀ x, Rep g.im d x → Pv K n g (truthy x) (fun _ u => u = v)
theorem Z207 {e : Expr} {Q : Bool → Gh → Prop} (h : gwp K A (eval e env) (fun v g₁ => gwp K A (truthy v) Q g₁) g)
  (he : isTrue e env (eval e env) = (do let v ← eval e env; standAt e.pos; holding [v] (truthy v)) := by rfl) : gwp K A (isTrue e env (eval e env)) Q g := fun s E ok =>
 wpAny_isTrue_value (wM1_2 (h s E ok) (fun v s₁ _ ok₁ h₁ => h₁ s₁ E ok₁)) he
theorem Z271 {e : Expr} {d : D} {v : Bool} (h : Pe K n g (eval e env) d) (ht : TruthSem K n g d v) (he : isTrue e env (eval e env) = (do let v ← eval e env; standAt e.pos; holding [v] (truthy v)) := by rfl) : Pt K n g e env v :=
 fun A rm g₁ l => Z207 (gM0_2 (h A rm g₁ l) fun x g₂ l₂ p => gM0_2 (ht g₂ (l.trans l₂) x p A rm g₂ (LeX.refl _ _)) fun u g₃ l₃ q => ⟨l₂.trans l₃, q⟩) he
theorem pt_not {x : Expr} {pos : Pos} {v : Bool} (h : Pt K n g x env v) : Pt K n g (.UnaryOp .Not x pos) env (!v) :=
 fun A rm g₁ l s E ok => wpAny_isTrue_Not (wM1_3 (h A rm g₁ l s E ok) (fun u s₁ g₂ ok₂ l₂ q => ⟨g₂, ok₂, l₂, by rw [q]⟩))
theorem Z90 {l r : Expr} {op : CmpOp} {pos : Pos} {whole : Sem Value} {Q : Bool → Gh → Prop} (h : gwp K A (eval l env) (fun a g₁ => gwp K A (eval r env) (fun b g₂ => gwp K A (compareOp op a b) (fun c g₃ => gwp K A (truthy c) Q g₃) g₂) g₁) g)
  (hm : behindInMarks op r = false := by with_unfolding_all rfl) : gwp K A (isTrue (.Compare l [op] [r] pos) env whole) Q g :=
 fun s E ok => wpAny_isTrue_Compare1 (wM1_2 (h s E ok) (fun a s₁ _ ok₁ h₁ => wM1_2 (h₁ s₁ E ok₁) (fun b s₂ _ ok₂ h₂ => wM1_2 (h₂ s₂ E ok₂) (fun c s₃ _ ok₃ h₃ => h₃ s₃ E ok₃)))) hm
theorem Z135 {v : Bool} {x : Value} (h : Rep g.im (.bool v) x) : Pv K n g (truthy x) (fun _ u => u = v) := by
 simp only [Rep] at h; subst h
 exact fun A rm g₁ l s E ok => wpAny_truthy_bool ⟨g₁, ok, LeX.refl _ _, rfl⟩
theorem Z30 {l r : Expr} {op : CmpOp} {pos : Pos} {d₁ d₂ : D} {v : Bool} (hl : Pe K n g (eval l env) d₁) (hr : Pe K n g (eval r env) d₂) (h : OpSem K n g (compareOp op) d₁ d₂ (.bool v)) (hm : behindInMarks op r = false := by with_unfolding_all rfl) :
  Pt K n g (.Compare l [op] [r] pos) env v :=
 fun A rm g₁ l => Z90 (gM0_2 (hl A rm g₁ l) fun v₁ g₂ l₂ p₁ => gM0_2 (hr A rm g₂ (l.trans l₂)) fun v₂ g₃ l₃ p₂ => Z9 (h g₃ (l.trans (l₂.trans l₃)) v₁ v₂ (p₁.le l₃) p₂ A rm g₃ (LeX.refl _ _)) fun v g₄ ⟨l₄, p⟩ =>
  gM0_2 (Z135 p A rm g₄ (LeX.refl _ _)) fun u g₅ l₅ q => ⟨l₂.trans (l₃.trans (l₄.trans l₅)), q⟩) hm
theorem pt_and {x y : Expr} {pos : Pos} {u v : Bool} (hx : Pt K n g x env u) (hy : u = true → Pt K n g y env v) : Pt K n g (.BoolOp .And [x, y] pos) env (u && v) :=
 fun A rm g₁ l s E ok => wpAny_isTrue_BoolOp (wpAny_allTrue_And_cons (wM1_3 (hx A rm g₁ l s E ok) (fun c s₁ g₂ ok₂ l₂ q => by
  subst q
  cases c with
  | false => exact ⟨g₂, ok₂, l₂, rfl⟩
  | true => exact wpAny_allTrue_And_cons (wM1_3 (hy rfl A rm g₂ (l.trans l₂) s₁ E ok₂) (fun c s₂ g₃ ok₃ l₃ q => by
    clear hy; subst q
    cases c with
    | false => exact ⟨g₃, ok₃, l₂.trans l₃, rfl⟩
    | true => exact wpAny_allTrue_And_nil ⟨g₃, ok₃, l₂.trans l₃, rfl⟩)))))
theorem pt_or {x y : Expr} {pos : Pos} {u v : Bool} (hx : Pt K n g x env u) (hy : u = false → Pt K n g y env v) : Pt K n g (.BoolOp .Or [x, y] pos) env (u || v) :=
 fun A rm g₁ l s E ok => wpAny_isTrue_BoolOp (wpAny_allTrue_Or_cons (wM1_3 (hx A rm g₁ l s E ok) (fun c s₁ g₂ ok₂ l₂ q => by
  subst q
  cases c with
  | true => exact ⟨g₂, ok₂, l₂, rfl⟩
  | false => exact wpAny_allTrue_Or_cons (wM1_3 (hy rfl A rm g₂ (l.trans l₂) s₁ E ok₂) (fun c s₂ g₃ ok₃ l₃ q => by
    clear hy; subst q
    cases c with
    | true => exact ⟨g₃, ok₃, l₂.trans l₃, rfl⟩
    | false => exact wpAny_allTrue_Or_nil ⟨g₃, ok₃, l₂.trans l₃, rfl⟩)))))
theorem Z24 {im : Im} {i : Int} {v : Value} (h : Rep im (.int i) v) : ∃ t, v = .int i t := by simpa [Rep] using h
theorem Z25 {im : Im} {i : Int} {t : Tok} : Rep im (.int i) (.int i t) := by simp [Rep]
theorem Z211 {im : Im} {i : Bool} {v : Value} (h : Rep im (.bool i) v) : v = .bool i := by simpa [Rep] using h
theorem Z48 {im : Im} {i : Bool} : Rep im (.bool i) (.bool i) := by exact rfl
theorem Z29 {im : Im} {l : List Nat} {v : Value} (h : Rep im (.str l) v) : ∃ t, v = .str (S l) t := by simpa [Rep] using h
theorem Z79 {im : Im} {l : List Nat} {t : Tok} : Rep im (.str l) (.str (S l) t) := by simp [Rep]
theorem Z27 {im : Im} {u : Value} : Rep im (.raw u) u := by exact rfl
theorem intop {g₀ : Gh} {f : Value → Value → Sem Value} {x y : Int} {d : D} (h : ∀ (g : Gh) (A : Around) (s : Shared) (E : Value → Shared → Prop) (t u : Tok), Room A n → g.Ok K.B s → wpAny (model K.prog K.w) A (f (.int x t) (.int y u)) (fun v s' => ∃ g' : Gh, g'.Ok K.B s' ∧ Le g g' ∧ Rep g'.im d v) E s) :
  OpSem K n g₀ f (.int x) (.int y) d := fun g _ v₁ v₂ h₁ h₂ A r g₁ l s E ok => by
 obtain ⟨t, rfl⟩ := Z24 h₁; obtain ⟨u, rfl⟩ := Z24 h₂
 exact h g₁ A s E t u r ok
theorem Z32 {x y : Int} : OpSem K n g (binaryOp .Add) (.int x) (.int y) (.int (x + y)) := intop fun g A s E t u r ok => P.add_int ⟨g, ok.tok _, LeX.refl _ _, Z25⟩
theorem Z155 {x y : Int} : OpSem K n g (binaryOp .Sub) (.int x) (.int y) (.int (x - y)) := intop fun g A s E t u r ok => P.sub_int ⟨g, ok.tok _, LeX.refl _ _, Z25⟩
theorem Z224 {x y : Int} (hm : IntMulOk x y) : OpSem K n g (binaryOp .Mult) (.int x) (.int y) (.int (x * y)) := intop fun g A s E t u r ok => P.mul_int ⟨g, ok.tok _, LeX.refl _ _, Z25⟩ hm
theorem Z225 {x y : Int} (hy : y ≠ 0) : OpSem K n g (binaryOp .Mod) (.int x) (.int y) (.int (x.fmod y)) := intop fun g A s E t u r ok => mod_int_or r.1 (fun h => absurd h hy) (fun _ => ⟨g, ok.tok _, LeX.refl _ _, Z25⟩)
theorem op_div {x y : Int} (hy : y ≠ 0) (hp : Builtin.divisionGoesByPylong x y = false) : OpSem K n g (binaryOp .FloorDiv) (.int x) (.int y) (.int (x.fdiv y)) := intop fun g A s E t u r ok => floordiv_int hy ⟨g, ok.tok _, LeX.refl _ _, Z25⟩ (.inl hp)
theorem op_shr {x y : Int} (hy : 0 ≤ y) : OpSem K n g (binaryOp .RShift) (.int x) (.int y) (.int (x.fdiv (2 ^ y.toNat))) := intop fun g A s E t u r ok => rshift_int hy ⟨g, ok.tok _, LeX.refl _ _, Z25⟩
theorem op_shl {x y : Int} (hy : 0 ≤ y) (h2 : y ≤ 1000000) (hx : x.natAbs < 2 ^ 64) : OpSem K n g (binaryOp .LShift) (.int x) (.int y) (.int (x * 2 ^ y.toNat)) := intop fun g A s E t u r ok => lshift_int_small hy h2 hx ⟨g, ok.tok _, LeX.refl _ _, Z25⟩
theorem op_xor {x y : Int} : OpSem K n g (binaryOp .BitXor) (.int x) (.int y) (.int (Builtin.bitXor x y)) := intop fun g A s E t u r ok => xor_int ⟨g, ok.tok _, LeX.refl _ _, Z25⟩
theorem op_eq {x y : Int} : OpSem K n g (compareOp .Eq) (.int x) (.int y) (.bool (x == y)) := intop fun g A s E t u r ok => P.eq_int ⟨g, ok, LeX.refl _ _, Z48⟩
theorem op_ne {x y : Int} : OpSem K n g (compareOp .NotEq) (.int x) (.int y) (.bool (x != y)) := intop fun g A s E t u r ok => P.ne_int ⟨g, ok, LeX.refl _ _, Z48⟩
theorem op_lt {x y : Int} : OpSem K n g (compareOp .Lt) (.int x) (.int y) (.bool (decide (x < y))) := intop fun g A s E t u r ok => P.lt_int ⟨g, ok, LeX.refl _ _, Z48⟩
theorem op_le {x y : Int} : OpSem K n g (compareOp .LtE) (.int x) (.int y) (.bool (decide (x ≤ y))) := intop fun g A s E t u r ok => P.le_int ⟨g, ok, LeX.refl _ _, Z48⟩
theorem op_ge {x y : Int} : OpSem K n g (compareOp .GtE) (.int x) (.int y) (.bool (decide (x ≥ y))) := intop fun g A s E t u r ok => P.ge_int ⟨g, ok, LeX.refl _ _, Z48⟩
theorem Z156 {x : Int} : UnSem K n g (unaryOp .USub) (.int x) (.int (-x)) := fun g _ v h A r g₁ l s E ok => by
 refine E1_1 (Z24 h) ?_
 rintro t rfl
 exact P.neg_int ⟨g₁, ok.tok _, LeX.refl _ _, Z25⟩
theorem op_inv {x : Int} : UnSem K n g (unaryOp .Invert) (.int x) (.int (-x - 1)) := fun g _ v h A r g₁ l s E ok => by
 refine E1_1 (Z24 h) ?_
 rintro t rfl
 exact invert_int ⟨g₁, ok.tok _, LeX.refl _ _, Z25⟩
theorem truth_int {x : Int} : TruthSem K n g (.int x) (x != 0) := fun g _ v h A r g₁ l s E ok => by
 refine E1_1 (Z24 h) ?_
 rintro t rfl
 exact P.truthy_int ⟨g₁, ok, LeX.refl _ _, rfl⟩
theorem Z266 {x : Bool} : TruthSem K n g (.bool x) x := fun g _ v h => Z135 h
noncomputable abbrev Pes (K : Wd) (n : Nat) (g : Gh) (es : List Expr) (env : Env) (pos : Pos) (ds : List D) : Prop := Pv K n g (spliced (backTo pos (starEach es env))) (fun g vs => Reps g.im ds vs)
theorem Z17 {pos : Pos} {Q : List Value → Gh → Prop} (h : Q [] g) : gwp K A (spliced (backTo pos (starEach [] env))) Q g := fun s E ok => wpAny_items_nil ⟨g, ok, h⟩
theorem Z13 {pos : Pos} {e : Expr} {rest : List Expr} {Q : List Value → Gh → Prop}
  (h : gwp K A (eval e env) (fun v g₁ => gwp K A (spliced (backTo pos (starEach rest env))) (fun vs g₂ => Q (v :: vs) g₂) g₁) g)
  (he : starEach (e :: rest) env = (false, eval e env) :: starEach rest env := by rfl) : gwp K A (spliced (backTo pos (starEach (e :: rest) env))) Q g :=
 fun s E ok => wpAny_items_cons (wM1_2 (h s E ok) (fun v s₁ _ ok₁ h₁ => h₁ s₁ E ok₁)) he
theorem Z5 {pos : Pos} : Pes K n g [] env pos [] := fun A r g₁ l => Z17 ⟨LeX.refl _ _, Reps.nil⟩
theorem Z2 {pos : Pos} {e : Expr} {rest : List Expr} {d : D} {ds : List D} (h : Pe K n g (eval e env) d) (hs : Pes K n g rest env pos ds)
  (he : starEach (e :: rest) env = (false, eval e env) :: starEach rest env := by rfl) : Pes K n g (e :: rest) env pos (d :: ds) :=
 fun A r g₁ l => Z13 (gM0_2 (h A r g₁ l) fun v g₂ l₂ p => gM0_2 (hs A r g₂ (l.trans l₂)) fun vs g₃ l₃ q => ⟨l₂.trans l₃, Reps.cons (p.le l₃) q⟩) he
theorem Z199 {T : String} {vs : List Value} {Q : Value → Gh → Prop} (hsz : vs.length ≤ sizeLine) (h : ∀ a, g.im a = none → g.mu a = none → Q (.ref a) (g.addIm a (sq T vs.toArray 0))) :
  gwp K A (newObj (.type T) (.seq vs.toArray)) Q g := fun s E ok =>
 wpAny_newObj_type (T := T) (dict := none) ⟨_, ok.pushIm (o := sq T vs.toArray 0) rfl, h _ ok.fresh.1 ok.fresh.2⟩ (by show vs.toArray.size ≤ sizeLine; rw [List.size_toArray]; exact hsz)
theorem Z198 {T : String} {vs : List Value} {Q : Value → Gh → Prop} (hsz : vs.length ≤ sizeLine) (h : ∀ a, g.im a = none → g.mu a = none → Q (.ref a) (g.setMu a (sq T vs.toArray 0))) :
  gwp K A (newObj (.type T) (.seq vs.toArray)) Q g := fun s E ok =>
 wpAny_newObj_type (T := T) (dict := none) ⟨_, ok.pushMu (o := sq T vs.toArray 0) rfl, h _ ok.fresh.1 ok.fresh.2⟩ (by show vs.toArray.size ≤ sizeLine; rw [List.size_toArray]; exact hsz)
theorem Z16 {im : Im} {l : List D} {v : Value} : Rep im (.lst l) v ↔ ∃ a its n, v = .ref a ∧ im a = some (sq "list" its n) ∧ Reps im l its.toList := by simp [Rep]
theorem Z62 {im : Im} {l : List D} {v : Value} : Rep im (.tup l) v ↔ ∃ a its n, v = .ref a ∧ im a = some (sq "tuple" its n) ∧ Reps im l its.toList := by simp [Rep]
theorem pv_newList {vs : List Value} {ds : List D} (h : Reps g.im ds vs) (hsz : ds.length ≤ sizeLine) : Pe K n g (newList vs) (.lst ds) := fun A r g₁ l =>
 Z199 (by rw [h.length]; exact hsz) fun a h1 h2 => ⟨Le.addIm h1, Z16.mpr ⟨a, _, 0, rfl, Gh.addIm_self, by exact (h.mono (l.trans (Le.addIm h1)).im)⟩⟩
theorem pv_newTuple {vs : List Value} {ds : List D} (h : Reps g.im ds vs) (hsz : ds.length ≤ sizeLine) : Pe K n g (newTuple vs) (.tup ds) := fun A r g₁ l =>
 Z199 (by rw [h.length]; exact hsz) fun a h1 h2 => ⟨Le.addIm h1, Z62.mpr ⟨a, _, 0, rfl, Gh.addIm_self, by exact (h.mono (l.trans (Le.addIm h1)).im)⟩⟩
theorem Z179 {es : List Expr} {pos : Pos} {ds : List D} (h : Pes K n g es env pos ds) (hsz : ds.length ≤ sizeLine := by simp [sizeLine]) : Pe K n g (eval (.List es pos) env) (.lst ds) := by
 rw [arm_eval_List]
 exact fun A r g₁ l => Z1 (Z28 ((Pv.bind h fun vs g' l' p => pv_newList p hsz) A r g₁ l))
theorem Z38 {es : List Expr} {k : Nat} {pos : Pos} {ds : List D} (h : Pes K n g es env pos ds) (hsz : ds.length ≤ sizeLine := by simp [sizeLine]) : Pe K n g (eval (.Tuple es k pos) env) (.tup ds) := by
 rw [arm_eval_Tuple]
 exact fun A r g₁ l => Z1 (Z28 ((Pv.bind h fun vs g' l' p => pv_newTuple p hsz) A r g₁ l))
theorem Z186 {es : List Expr} {pos : Pos} {ds : List D} {Q : Value → Gh → Prop} (h : Pes K n g es env pos ds) (r : Room A n) (hsz : ds.length ≤ sizeLine)
  (k : ∀ a g' its, Le g g' → g'.im a = none → g'.mu a = none → Reps g'.im ds its.toList → Q (.ref a) (g'.setMu a (sq "list" its 0))) : gwp K A (eval (.List es pos) env) Q g := by
 rw [arm_eval_List]
 exact Z1 (Z28 (Z1 (h.use r fun vs g' l p => Z198 (by rw [p.length]; exact hsz) fun a h1 h2 => k a g' _ l h1 h2 (by exact p))))
theorem Z7 {es : List Expr} {pos : Pos} (h : (backTo pos (starEach es env)).any (·.1) = false) {f : Value} {Q : Args → Gh → Prop}
  (hs : gwp K A (spliced (backTo pos (starEach es env))) (fun vs g' => Q ⟨vs, []⟩ g') g) : gwp K A (evalArgs f true (backTo pos (starEach es env)) []) Q g := by
 have key : ∀ ts : List (Bool × Sem Value), ts.any (·.1) = false → gwp K A (spliced ts) (fun vs g' => Q ⟨vs, []⟩ g') g → gwp K A (evalArgs f true ts []) Q g := by
  intro ts ht hs
  cases ts with
  | nil =>
   refine Z82 (t' := spliced [] >>= fun vs => pure ⟨vs, []⟩) rfl (Z1 (Z9 hs fun vs g' q => Z4 q))
  | cons t ts =>
   obtain ⟨st, x⟩ := t
   simp only [List.any_cons, Bool.or_eq_false_iff] at ht
   obtain ⟨h1, h2⟩ := ht
   cases h1
   exact fun s E ok => evalArgs_plain (hs s E ok)
 exact key _ h hs
theorem Z19 {pos : Pos} {f : Value} {first : List Value} {args : List (Bool × Sem Value)} {Q : Value → Gh → Prop} (hf : ∀ a, f ≠ .ref a) (hplain : args.any (·.1) = false)
  (h : gwp K A (evalArgs f true args []) (fun a g₁ => gwp K A (call f (first ++ a.pos) a.kw) Q g₁) g) : gwp K A (callWith pos f first args []) Q g := by
 refine Z1 (Z18 (Z9 h fun a g₁ h₁ => Z1 (Z28 ?_)))
 simp only [hplain, List.any_nil, Bool.or_false]
 have hk : keeperOf f = pure .machine := by
  unfold keeperOf
  clear h hplain; cases f <;> first | rfl | exact absurd rfl (hf _)
 rw [hk]
 refine Z1 (Z4 ?_)
 exact Z1 (Z9 h₁ fun r g₂ hr => Z1 (Z18 (Z168 (Z4 hr))))
theorem Z26 {pos : Pos} {a : Addr} {o : Obj} {fd : FuncData} {first : List Value} {args : List (Bool × Sem Value)} {Q : Value → Gh → Prop} (ho : g.has a o) (hd : o.data = .func fd)
  (h : gwp K A (evalArgs (.ref a) true args []) (fun x g₁ => g₁.has a o ∧ gwp K A (call (.ref a) (first ++ x.pos) x.kw) Q g₁) g) : gwp K A (callWith pos (.ref a) first args []) Q g :=
 fun s E ok => callWith_function (wM1_3 (h s E ok) (fun x s₁ g₁ ok₁ h1 h2 => ⟨⟨h1.get ok₁, hd⟩, h2 s₁ E ok₁⟩))
noncomputable def CallSem (K : Wd) (n : Nat) (g₀ : Gh) (f : Value) (ds : List D) (d : D) : Prop := ∀ g, Le g₀ g → ∀ vs, Reps g.im ds vs → Pe K n g (call f vs) d
theorem Z33 {func : Expr} {args : List Expr} {pos : Pos} {Q : Value → Gh → Prop}
  (h : gwp K A (eval func env) (fun f g₁ => gwp K A (callWith pos f [] (backTo pos (starEach args env)) []) Q g₁) g)
  (he : eval (.Call func args [] pos) env = (do callWith pos (← eval func env) [] (backTo pos (starEach args env)) (backToKw pos (keywordEach [] env))) := by rfl) : gwp K A (eval (.Call func args [] pos) env) Q g := by
 rw [he]; exact Z1 h
theorem Z73 {func : Expr} {f : Value} {args : List Expr} {pos : Pos} {ds : List D} {d : D} (hf : Pe K n g (eval func env) (.raw f)) (hn : ∀ a, f ≠ .ref a) (ha : Pes K n g args env pos ds) (h : CallSem K n g f ds d)
  (hp : (backTo pos (starEach args env)).any (·.1) = false := by rfl)
  (he : eval (.Call func args [] pos) env = (do callWith pos (← eval func env) [] (backTo pos (starEach args env)) (backToKw pos (keywordEach [] env))) := by rfl) : Pe K n g (eval (.Call func args [] pos) env) d :=
 fun A r g₁ l => Z33 (he := he) (gM0_2 (hf A r g₁ l) fun f' g₂ l₂ p => by
  have := Z22 p; subst this
  refine Z19 hn hp (Z7 hp (gM0_2 (ha A r g₂ (l.trans l₂)) fun vs g₃ l₃ q => ?_))
  exact gM0_2 (h g₃ (l.trans (l₂.trans l₃)) vs q A r g₃ (LeX.refl _ _)) fun v g₄ l₄ z => ⟨l₂.trans (l₃.trans l₄), z⟩)
theorem pe_callf {func : Expr} {a : Addr} {o : Obj} {fd : FuncData} {args : List Expr} {pos : Pos} {ds : List D} {d : D} (hf : Pe K n g (eval func env) (.raw (.ref a))) (ho : g.has a o) (hd : o.data = .func fd)
  (ha : Pes K n g args env pos ds) (h : CallSem K n g (.ref a) ds d)
  (hp : (backTo pos (starEach args env)).any (·.1) = false := by rfl)
  (he : eval (.Call func args [] pos) env = (do callWith pos (← eval func env) [] (backTo pos (starEach args env)) (backToKw pos (keywordEach [] env))) := by rfl) : Pe K n g (eval (.Call func args [] pos) env) d :=
 fun A r g₁ l => Z33 (he := he) (gM0_2 (hf A r g₁ l) fun f' g₂ l₂ p => by
  have := Z22 p; subst this
  refine Z26 (ho.le (l.trans l₂)) hd (Z7 hp (gM0_2 (ha A r g₂ (l.trans l₂)) fun vs g₃ l₃ q => ⟨ho.le (l.trans (l₂.trans l₃)), ?_⟩))
  exact gM0_2 (h g₃ (l.trans (l₂.trans l₃)) vs q A r g₃ (LeX.refl _ _)) fun v g₄ l₄ z => ⟨l₂.trans (l₃.trans l₄), z⟩)
noncomputable def D.ty : D → String
 | .none => "NoneType" | .bool _ => "bool" | .int _ => "int" | .str _ => "str" | .tup _ => "tuple" | .lst _ => "list" | .raw _ => "?"
noncomputable def D.known : D → Bool
 | .raw _ => false
 | _ => true
theorem Rep.type {d : D} {v : Value} {s : Shared} (h : Rep g.im d v) (ok : g.Ok B s) (hk : d.known = true) : s.TypeIs v d.ty ∧ ∀ a, v = .ref a → ∃ ob, s.heap.get? a = some ob ∧ ob.dict = none := by
 cases d with
 | none => simp only [Rep] at h; subst h; exact ⟨rfl, fun a e => by cases e⟩
 | bool => simp only [Rep] at h; subst h; exact ⟨rfl, fun a e => by cases e⟩
 | int => obtain ⟨t, rfl⟩ := Z24 h; exact ⟨rfl, fun a e => by cases e⟩
 | str => obtain ⟨t, rfl⟩ := Z29 h; exact ⟨rfl, fun a e => by cases e⟩
 | tup => obtain ⟨a, its, m, rfl, e, _⟩ := Z62.mp h; exact ⟨⟨_, ok.im _ _ e, rfl⟩, fun a' e' => by cases e'; exact ⟨_, ok.im _ _ e, rfl⟩⟩
 | lst => obtain ⟨a, its, m, rfl, e, _⟩ := Z16.mp h; exact ⟨⟨_, ok.im _ _ e, rfl⟩, fun a' e' => by cases e'; exact ⟨_, ok.im _ _ e, rfl⟩⟩
 | raw => cases hk
theorem gwp_meth {o : Expr} {name : Str} {apos pos : Pos} {args : List Expr} {T id : String} {Q : Value → Gh → Prop}
  (pa : PlainAttrs T) (slot : Slot T name id) (hty : typeOf (.builtin id) = pure (.type "method_descriptor"))
  (h : gwp K A (eval o env) (fun ov g₁ => (∀ s, g₁.Ok K.B s → s.TypeIs ov T ∧ ∀ a, ov = .ref a → ∃ ob, s.heap.get? a = some ob ∧ ob.dict = none) ∧
   gwp K A (spliced (backTo pos (starEach args env))) (fun vs g₂ => gwp K A (call (.builtin id) (ov :: vs)) Q g₂) g₁) g)
  (hbase : attributeBase o name env (eval o env) = eval o env) (hline : (apos.endLine == pos.line) = true)
  (hfew : ((backTo pos (starEach args env)).all (fun x => !x.1) && (backToKw pos (keywordEach [] env)).all (fun x => x.1.isSome)
   && decide (args.length + ([] : List Keyword).length + (if ([] : List Keyword).isEmpty then 0 else 1) < 30)) = true)
  (hp : (backTo pos (starEach args env)).any (·.1) = false) : gwp K A (eval (.Call (.Attribute o name apos) args [] pos) env) Q g := fun s E ok =>
 wpAny_Call_method hbase hfew hline pa slot hty (wM1_3 (h s E ok) (fun ov s₁ g₁ ok₁ h1 h2 => ⟨(h1 s₁ ok₁).1, (h1 s₁ ok₁).2,
  Z19 (fun a => by intro e; cases e) hp (Z7 hp h2) s₁ E ok₁⟩))
theorem Z71 {o : Expr} {name : Str} {apos pos : Pos} {args : List Expr} {T id : String} {d₀ d : D} {ds : List D}
  (pa : PlainAttrs T) (slot : Slot T name id) (hty : typeOf (.builtin id) = pure (.type "method_descriptor")) (ho : Pe K n g (eval o env) d₀) (ha : Pes K n g args env pos ds) (h : CallSem K n g (.builtin id) (d₀ :: ds) d)
  (hT : d₀.ty = T := by rfl) (hk : d₀.known = true := by rfl)
  (hbase : attributeBase o name env (eval o env) = eval o env := by rfl) (hline : (apos.endLine == pos.line) = true := by rfl)
  (hfew : ((backTo pos (starEach args env)).all (fun x => !x.1) && (backToKw pos (keywordEach [] env)).all (fun x => x.1.isSome)
   && decide (args.length + ([] : List Keyword).length + (if ([] : List Keyword).isEmpty then 0 else 1) < 30)) = true := by rfl)
  (hp : (backTo pos (starEach args env)).any (·.1) = false := by rfl) : Pe K n g (eval (.Call (.Attribute o name apos) args [] pos) env) d :=
 fun A r g₁ l => gwp_meth pa slot hty (gM0_2 (ho A r g₁ l) fun ov g₂ l₂ p => ⟨fun s ok => hT ▸ p.type ok hk,
  gM0_2 (ha A r g₂ (l.trans l₂)) fun vs g₃ l₃ q => gM0_2 (h g₃ (l.trans (l₂.trans l₃)) _ (Reps.cons (p.le l₃) q) A r g₃ (LeX.refl _ _)) fun v g₄ l₄ z => ⟨l₂.trans (l₃.trans l₄), z⟩⟩) hbase hline hfew hp
theorem Z238 {base : Expr} {o r : Value} {Q : Unit → Gh → Prop} (h : Q () g) : gwp K A (letTemporaryGo base o r) Q g := fun s E ok => wpAny_letTemporaryGo ⟨g, ok, h⟩
theorem gwp_specialOf {v : Value} {T : String} {name : Str} {r : Option Value} {Q : Option Value → Gh → Prop} (hT : ∀ s, g.Ok K.B s → s.TypeIs v T) (hl : typeLookup (.type T) name = pure r) (h : Q r g) : gwp K A (specialOf v name) Q g :=
 fun s E ok => wpAny_specialOf (hT s ok) hl ⟨g, ok, h⟩
theorem gwp_release {vs keep : List Value} {Q : Unit → Gh → Prop} (h : Q () g) : gwp K A (release vs keep) Q g := fun s E ok Γ p hΓ => by rw [Sem.wp_release]; exact ⟨g, ok, h⟩
theorem gwp_operate {vs : List Value} {t : Sem Value} {Q : Value → Gh → Prop} (h : gwp K A t Q g) : gwp K A (operate vs t) Q g := by
 exact Z1 (Z18 (Z9 h fun v g' q => Z1 (gwp_release (Z4 q))))
theorem Z116 {value slice : Expr} {o i : Value} {Q : Value → Gh → Prop} (h : gwp K A (getItem o i) Q g) : gwp K A (subscripted slice false o i >>= fun r => letTemporaryGo value o r >>= fun _ => pure r) Q g := by
 have e : ∃ vs, subscripted slice false o i = operate vs (getItem o i) := by
  cases slice with
  | Slice a b c p => cases c <;> exact ⟨_, rfl⟩
  | _ => exact ⟨_, rfl⟩
 refine E1_1 e fun vs e => Z1 ?_
 rw [e]
 exact gwp_operate (Z9 h fun r g₃ q => Z1 (Z238 (Z4 q)))
theorem Z75 {value slice : Expr} {pos : Pos} {T id : String} {Q : Value → Gh → Prop} (hl : typeLookup (.type T) "__getitem__" = pure (some (.builtin id)))
  (h : gwp K A (eval value env) (fun o g₁ => gwp K A (eval slice env) (fun i g₂ => (∀ s, g₂.Ok K.B s → s.TypeIs o T) ∧ gwp K A (getItem o i) Q g₂) g₁) g) : gwp K A (eval (.Subscript value slice pos) env) Q g := by
 rw [eval_Subscript]
 refine Z1 (Z9 h fun o g₁ h₁ => Z1 (Z18 (gM0_2 h₁ fun i g₂ hT h₂ => Z1 (Z28 ?_))))
 have hgp : ∀ {Q : Bool → Gh → Prop}, Q false g₂ → gwp K A (getitemInPython o) Q g₂ := fun {Q} q => by
  exact Z1 (gwp_specialOf hT hl (Z4 q))
 refine Z1 (hgp ?_)
 exact Z116 h₂
theorem pe_sub {value slice : Expr} {pos : Pos} {d₀ d₁ d : D} {id : String} (hv : Pe K n g (eval value env) d₀) (hi : Pe K n g (eval slice env) d₁) (h : OpSem K n g getItem d₀ d₁ d)
  (hl : typeLookup (.type d₀.ty) "__getitem__" = pure (some (.builtin id))) (hk : d₀.known = true) : Pe K n g (eval (.Subscript value slice pos) env) d :=
 fun A r g₁ l => Z75 hl (gM0_2 (hv A r g₁ l) fun o g₂ l₂ p => gM0_2 (hi A r g₂ (l.trans l₂)) fun i g₃ l₃ q => ⟨fun s ok => ((p.le l₃).type ok hk).1,
  gM0_2 (h g₃ (l.trans (l₂.trans l₃)) o i (p.le l₃) q A r g₃ (LeX.refl _ _)) fun v g₄ l₄ z => ⟨l₂.trans (l₃.trans l₄), z⟩⟩)
noncomputable def atInt {γ : Type} (l : List γ) (i : Int) : Option γ := if 0 ≤ i then l[i.toNat]? else if 0 ≤ i + l.length then l[(i + l.length).toNat]? else none
theorem atInt_nonneg {γ : Type} {l : List γ} {i : Nat} : atInt l (i : Int) = l[i]? := by exact rfl
theorem item_list {l : List D} {i : Int} {d : D} (h : atInt l i = some d) (hsz : l.length < 2 ^ 62) : OpSem K n g getItem (.lst l) (.int i) d := fun g _ v₁ v₂ h₁ h₂ A r g₁ le s E ok => by
 refine E3_3 (Z16.mp h₁) ?_
 rintro a its m rfl e rs
 refine E1_1 (Z24 h₂) ?_
 rintro t rfl
 have hl : s.heap.IsList a its := ⟨_, ok.im _ _ (le.im _ _ e), rfl, m, rfl⟩
 have hlen : its.size = l.length := by rw [← Array.length_toList, rs.length]
 unfold atInt at h
 by_cases h0 : 0 ≤ i
 ·rw [if_pos h0] at h
  refine E1_2 (rs.get h) fun v hv hr => ?_
  have hlt : i.toNat < l.length := (List.getElem?_eq_some_iff.mp h).1
  exact wpAny_getItem_list hl h0 (by lia) (by simpa using hv) ⟨g₁, ok, LeX.refl _ _, hr.le le⟩
 ·rw [if_neg h0] at h
  by_cases h1 : 0 ≤ i + l.length
  ·rw [if_pos h1] at h
   refine E1_2 (rs.get h) fun v hv hr => ?_
   exact wpAny_getItem_list_neg hl (by lia) (by rw [hlen]; lia) (by lia) (by rw [hlen]; simpa using hv) ⟨g₁, ok, LeX.refl _ _, hr.le le⟩
  ·rw [if_neg h1] at h; cases h
theorem Z63 {value slice : Expr} {pos : Pos} {l : List D} {i : Int} {d : D} (hv : Pe K n g (eval value env) (.lst l)) (hi : Pe K n g (eval slice env) (.int i)) (h : atInt l i = some d) (hsz : l.length < 2 ^ 62 := by first | assumption | (simp; done) | lia) : Pe K n g (eval (.Subscript value slice pos) env) d :=
 pe_sub hv hi (item_list h hsz) slot_list_getitem.lookup rfl
noncomputable def pick {γ : Type} (l : List γ) (lo hi st : Option Int) : List γ :=
 (sliceRange (sliceBounds lo hi st l.length).1 (sliceBounds lo hi st l.length).2.1 (sliceBounds lo hi st l.length).2.2).filterMap (l[·]?)
noncomputable abbrev PPart (K : Wd) (n : Nat) (g : Gh) (e : Option Expr) (env : Env) (x : Option Int) : Prop := Pv K n g (evalPart e env) (fun _ v => IsPart v x)
theorem Z37 : PPart K n g none env none := fun A r g₁ l => by rw [evalPart_none]; exact Z4 ⟨LeX.refl _ _, .none⟩
theorem Z112 {e : Expr} {i : Int} (h : Pe K n g (eval e env) (.int i)) : PPart K n g (some e) env (some i) := fun A r g₁ l => by
 rw [evalPart_some]
 exact gM0_2 (h A r g₁ l) fun v g₂ l₂ p => ⟨l₂, by obtain ⟨t, rfl⟩ := Z24 p; exact .int i t⟩
noncomputable def IsSl (g : Gh) (v : Value) (lo hi st : Option Int) : Prop := ∃ a vl vu vs, v = .ref a ∧ g.im a = some { cls := .type "slice", data := .fields #[vl, vu, vs] } ∧ IsPart vl lo ∧ IsPart vu hi ∧ IsPart vs st
theorem Z121 {lower upper step : Option Expr} {p : Pos} {lo hi st : Option Int} (h1 : PPart K n g lower env lo) (h2 : PPart K n g upper env hi) (h3 : PPart K n g step env st) : Pv K n g (eval (.Slice lower upper step p) env) (fun g v => IsSl g v lo hi st) :=
 fun A r g₁ l s E ok => wpAny_Slice (wM1_3 (h1 A r g₁ l s E ok) (fun vl s₁ g₂ ok₂ l₂ p₁ => wpAny_mono (h2 A r g₂ (l.trans l₂) s₁ E ok₂) (fun vu s₂ ⟨g₃, ok₃, l₃, p₂⟩ =>
  wM1_3 (h3 A r g₃ (l.trans (l₂.trans l₃)) s₂ E ok₃) (fun vs s₃ g₄ ok₄ l₄ p₃ => ⟨_, ok₄.pushIm (o := { cls := .type "slice", data := .fields #[vl, vu, vs] }) rfl, l₂.trans (l₃.trans (l₄.trans (Le.addIm ok₄.fresh.1))), _, vl, vu, vs, rfl, Gh.addIm_self, p₁, p₂, p₃⟩)) fun _ _ e => e))
theorem Reps.pick {im : Im} {ds : List D} {its : Array Value} (h : Reps im ds its.toList) (lo hi st : Option Int) : Reps im (pick ds lo hi st) (slicePick its lo hi st).toList := by
 have hlen : its.size = ds.length := by rw [← Array.length_toList, h.length]
 delta Mine.pick slicePick
 rw [hlen]
 generalize (sliceRange (sliceBounds lo hi st ds.length).1 (sliceBounds lo hi st ds.length).2.1 (sliceBounds lo hi st ds.length).2.2) = r
 simp only
 induction r with
 | nil => simpa using Reps.nil
 | cons i r ih =>
  rw [List.filterMap_cons, List.filterMap_cons]
  cases e : ds[i]? with
  | none =>
   have : its[i]? = none := by
    rw [Array.getElem?_eq_none_iff]; rw [List.getElem?_eq_none_iff] at e; lia
   rw [this]; exact ih
  | some d =>
   refine E1_2 (h.get e) fun v hv hr => ?_
   have : its[i]? = some v := by simpa using hv
   rw [this]
   exact Reps.cons hr ih
theorem slice_list {l : List D} {lo hi st : Option Int} {v sl : Value} (hv : Rep g.im (.lst l) v) (hs : IsSl g sl lo hi st) (h0 : st ≠ some 0) (hsz : l.length ≤ sizeLine) : Pe K n g (getItem v sl) (.lst (pick l lo hi st)) := fun A r g₁ le s E ok => by
 refine E3_3 (Z16.mp hv) ?_
 rintro a its m rfl e rs
 refine E4_5 hs ?_
 rintro b vl vu vs rfl eb p1 p2 p3
 have hl : s.heap.IsList a its := ⟨_, ok.im _ _ (le.im _ _ e), rfl, m, rfl⟩
 have hlen : its.size = l.length := by rw [← Array.length_toList, rs.length]
 refine wpAny_getItem_list_slice hl ⟨_, ok.im _ _ (le.im _ _ eb), rfl, rfl⟩ p1 p2 p3 h0 ⟨_, ok.pushIm (o := sq "list" (slicePick its lo hi st) 0) rfl, Le.addIm ok.fresh.1, ?_⟩ (by rw [hlen]; exact hsz)
 exact Z16.mpr ⟨_, _, 0, rfl, Gh.addIm_self, (rs.pick lo hi st).mono (le.trans (Le.addIm ok.fresh.1)).im⟩
theorem Z212 {value : Expr} {lower upper step : Option Expr} {p pos : Pos} {l : List D} {lo hi st : Option Int} (hv : Pe K n g (eval value env) (.lst l)) (h1 : PPart K n g lower env lo) (h2 : PPart K n g upper env hi) (h3 : PPart K n g step env st)
  (h0 : st ≠ some 0 := by simp) (hsz : l.length ≤ sizeLine := by first | assumption | (simp [sizeLine]; done) | lia) : Pe K n g (eval (.Subscript value (.Slice lower upper step p) pos) env) (.lst (pick l lo hi st)) :=
 fun A r g₁ l' => Z75 slot_list_getitem.lookup (gM0_2 (hv A r g₁ l') fun o g₂ l₂ p => gM0_2 (Z121 h1 h2 h3 A r g₂ (l'.trans l₂)) fun i g₃ l₃ q => ⟨fun s ok => ((p.le l₃).type ok rfl).1,
  gM0_2 (slice_list (p.le l₃) q h0 hsz A r g₃ (LeX.refl _ _)) fun v g₄ l₄ z => ⟨l₂.trans (l₃.trans l₄), z⟩⟩)
theorem strop {g₀ : Gh} {f : Value → Value → Sem Value} {x y : List Nat} {d : D} (h : ∀ (g : Gh) (A : Around) (s : Shared) (E : Value → Shared → Prop) (t u : Tok), Room A n → g.Ok K.B s → wpAny (model K.prog K.w) A (f (.str (S x) t) (.str (S y) u)) (fun v s' => ∃ g' : Gh, g'.Ok K.B s' ∧ Le g g' ∧ Rep g'.im d v) E s) :
  OpSem K n g₀ f (.str x) (.str y) d := fun g _ v₁ v₂ h₁ h₂ A r g₁ l s E ok => by
 obtain ⟨t, rfl⟩ := Z29 h₁; obtain ⟨u, rfl⟩ := Z29 h₂
 exact h g₁ A s E t u r ok
theorem S_len (x : List Nat) : (S x).length = x.length := by exact rfl
theorem S_list (x : List Nat) : (S x).cps.toList = x := by exact rfl
theorem S_app (x y : List Nat) : S x ++ S y = S (x ++ y) := by
 show Str.append (S x) (S y) = S (x ++ y)
 simp [Str.append, S]
theorem S_inj {x y : List Nat} (h : S x = S y) : x = y := by have := congrArg (fun z => z.cps.toList) h; simpa [S] using this
theorem op_seq {x y : List Nat} : OpSem K n g (compareOp .Eq) (.str x) (.str y) (.bool (x == y)) := strop fun g A s E t u r ok => P.eq_str ⟨g, ok, LeX.refl _ _, by exact rfl⟩
theorem Z140 {x y : List Nat} (h : x.length + y.length ≤ sizeLine) : OpSem K n g (binaryOp .Add) (.str x) (.str y) (.str (x ++ y)) := strop fun g A s E t u r ok => by
 refine P.add_str ?_
 rw [S_len, S_len]
 by_cases hx : x = []
 ·subst hx; exact ⟨g, ok, LeX.refl _ _, by simp [Rep]⟩
 by_cases hy : y = []
 ·subst hy
  rw [if_neg (by simpa using hx)]; exact ⟨g, ok, LeX.refl _ _, by simp [Rep]⟩
 rw [if_neg (by simpa using hx), if_neg (by simpa using hy), S_app]
 exact ⟨by rw [S_len, List.length_append]; exact h, g, ok.tok _, LeX.refl _ _, Z79⟩
theorem op_siadd {x y : List Nat} (h : x.length + y.length ≤ sizeLine) : OpSem K n g (inplaceOp .Add) (.str x) (.str y) (.str (x ++ y)) := strop fun g A s E t u r ok => by
 refine P.iadd_str ?_
 rw [S_len, S_len]
 by_cases hx : x = []
 ·subst hx; exact ⟨g, ok, LeX.refl _ _, by simp [Rep]⟩
 by_cases hy : y = []
 ·subst hy
  rw [if_neg (by simpa using hx)]; exact ⟨g, ok, LeX.refl _ _, by simp [Rep]⟩
 rw [if_neg (by simpa using hx), if_neg (by simpa using hy), S_app]
 exact ⟨by rw [S_len, List.length_append]; exact h, g, ok.tok _, LeX.refl _ _, Z79⟩
theorem op_in1 {c : Nat} {x : List Nat} : OpSem K n g (compareOp .In) (.str [c]) (.str x) (.bool (decide (c ∈ x))) := strop fun g A s E t u r ok => by
 refine P.in_str ?_
 have : (!(Builtin.Str.occurrences (S x) (S [c]) 0 (S x).length 1).isEmpty) = decide (c ∈ x) := by
  have := StrLaws.found_one (S x) c
  rw [S_list] at this; exact this
 rw [this]
 exact ⟨g, ok, LeX.refl _ _, Z48⟩
noncomputable abbrev cellObj (w : Option Value) : Obj := { cls := .type "cell", data := .cell w }
theorem Z243 (f : Str × NameKind → List (Str × Addr) → Sem (ForInStep (List (Str × Addr))))
  (hf : ∀ name kind cells, f (name, kind) cells = if kind == .cell then (do let a ← alloc (cellObj none); pure (.yield ((name, a) :: cells))) else pure (.yield cells)) :
  ∀ (names : List (Str × NameKind)) (acc : List (Str × Addr)) (g : Gh) (Q : List (Str × Addr) → Gh → Prop),
   (∀ g' new, Le g g' → new.map (·.1) = ((names.filter (·.2 == .cell)).map (·.1)).reverse → (∀ p ∈ new, g'.mu p.2 = some (cellObj none) ∧ g.mu p.2 = none ∧ g.im p.2 = none) → (new.map (·.2)).Nodup → Q (new ++ acc) g') →
   gwp K A (forIn names acc f) Q g
 | [], acc, g, Q, h => by rw [List.forIn_nil]; exact Z4 (h g [] (LeX.refl _ _) rfl (by exact all0) (by exact List.nodup_nil))
 | (name, kind) :: r, acc, g, Q, h => by
  rw [List.forIn_cons, hf]
  by_cases hk : (kind == NameKind.cell) = true
  ·rw [if_pos hk]
   refine Z1 (Z1 (Z246 rfl fun a h1 h2 => Z4 ?_))
   refine Z243 f hf r _ _ _ fun g' new l e1 e2 e3 => ?_
   have := h g' (new ++ [(name, a)]) ((Le.addMu h2).trans l) (by simp [hk, e1]) (fun p hp => by
    rcases List.mem_append.mp hp with hp | hp
    ·refine E0_3 (e2 p hp) fun x1 x2 x3 => ?_
     refine ⟨x1, ?_, x3⟩
     by_cases hpa : p.2 = a
     ·rw [hpa]; exact h2
     ·rw [Gh.setMu_other hpa] at x2; exact x2
    ·simp at hp; subst hp
     exact ⟨l.at Gh.setMu_self, h2, h1⟩) (by
    rw [List.map_append, List.nodup_append]
    refine ⟨e3, by simp, fun x hx y hy => ?_⟩
    clear h2 h1; simp at hy; subst hy
    rintro rfl
    refine E1_2 (List.mem_map.mp hx) ?_
    clear hx; rintro p hp rfl
    have := (e2 p hp).2.1
    clear hp; cases ((Gh.setMu_self).symm.trans this))
   simpa using this
  ·rw [if_neg hk]
   refine Z1 (Z4 ?_)
   refine Z243 f hf r _ _ _ fun g' new l e1 e2 e3 => h g' new l (by simp [hk, e1]) e2 e3
theorem Z161 {γ : Type} {l : List (Str × γ)} {x : Str} (h : x ∈ l.map (·.1)) : ∃ c, l.lookup x = some c ∧ (x, c) ∈ l := by
 induction l with
 | nil => simp at h
 | cons p l ih =>
  obtain ⟨y, c⟩ := p
  by_cases hx : x = y
  ·subst hx; exact ⟨c, by simp [List.lookup_cons], List.mem_cons_self⟩
  ·have : x ∈ l.map (·.1) := by rw [List.map_cons] at h; exact (List.mem_cons.mp h).resolve_left hx
   refine E1_2 (ih this) fun c' h1 h2 => ?_
   have hb : (x == y) = false := by rw [beq_eq_false_iff_ne]; exact hx
   exact ⟨c', by simp only [List.lookup_cons, hb]; exact h1, List.mem_cons_of_mem _ h2⟩
theorem Z254 {γ : Type} {l : List (Str × γ)} {x : Str} (h : x ∉ l.map (·.1)) : l.lookup x = none := by
 cases e : l.lookup x with
 | none => rfl
 | some c => exact absurd (List.mem_map_of_mem (f := (·.1)) (mem_of_lookup e)) h
theorem addr_inj {l : List (Str × Addr)} (hn : (l.map (·.2)).Nodup) {x y : Str} {c : Addr} (hx : l.lookup x = some c) (hy : l.lookup y = some c) : x = y := by
 have h1 := mem_of_lookup hx
 have h2 := mem_of_lookup hy
 refine E1_1 (List.getElem?_of_mem h1) fun i hi => ?_
 refine E1_1 (List.getElem?_of_mem h2) fun j hj => ?_
 have hij : i = j := Z228 hn (i := i) (j := j) (a := c) (by rw [List.getElem?_map, hi]; rfl) (by rw [List.getElem?_map, hj]; rfl)
 clear h2 h1 hy hx hn; subst hij
 cases ((hi).symm.trans hj); rfl
noncomputable def bindSt : List (Option D) → List (Nat × D) → List (Option D)
 | σ, [] => σ
 | σ, (i, d) :: r => bindSt (σ.set i (some d)) r
noncomputable def BindOk (nm : List (Str × NameKind)) (fn : List Nat) (im : Im) : List (Str × Value) → List (Nat × D) → Prop
 | [], [] => True
 | (x, v) :: r, (i, d) :: r' => (nm[i]? = some (x, NameKind.local) ∨ (nm[i]? = some (x, NameKind.cell) ∧ i ∈ fn)) ∧ Rep im d v ∧ BindOk nm fn im r r'
 | _, _ => False
theorem BindOk.mono {im im' : Im} (h : ∀ a o, im a = some o → im' a = some o) : ∀ {l : List (Str × Value)} {l' : List (Nat × D)}, BindOk nm fn im l l' → BindOk nm fn im' l l'
 | [], [], _ => trivial
 | (_, _) :: _, (_, _) :: _, ⟨a, b, c⟩ => ⟨a, b.mono h, BindOk.mono h c⟩
 | [], _ :: _, h => h.elim
 | _ :: _, [], h => h.elim
theorem Z245 : ∀ (binds : List (Str × Value)) (bi : List (Nat × D)) (g : Gh) (σ : List (Option D)) (Q : Unit → Gh → Prop), BindOk nm fn g.im binds bi → Frm K b S' fn cs env nm σ own g →
  (∀ g', LeX (env.locals :: cs) g g' → Frm K b S' fn cs env nm (bindSt σ bi) own g' → Q () g') → gwp K A (forIn binds () fun x _ => (do storeName env x.1 x.2; pure (ForInStep.yield ()))) Q g
 | [], [], g, σ, Q, _, F, h => by rw [List.forIn_nil]; exact Z4 (h g (LeX.refl _ _) F)
 | (x, v) :: r, (i, d) :: r', g, σ, Q, ⟨h1, h2, h3⟩, F, h => by
  rw [List.forIn_cons]
  rcases h1 with h1 | ⟨h1, h1'⟩
  ·refine Z1 (Z1 (F.storeLocal h1 h2 fun g' l F' => Z4 ?_))
   exact Z245 r r' g' _ Q (h3.mono l.im) F' fun g'' l' F'' => h g'' ((l.sub (by exact all1 (.head _))).trans l') F''
  ·refine Z1 (Z1 (F.storeCell h1 h1' h2 fun g' l F' => Z4 ?_))
   exact Z245 r r' g' _ Q (h3.mono l.im) F' fun g'' l' F'' => h g'' ((l.sub (fun a ha => List.mem_cons_of_mem _ ha)).trans l') F''
 | [], _ :: _, _, _, _, h, _, _ => h.elim
 | _ :: _, [], _, _, _, h, _, _ => h.elim
structure ClosOk (nm : List (Str × NameKind)) (cl : List (Str × Addr)) (σ : List (Option D)) (g : Gh) : Prop where
 free : ∀ (i : Nat) (x : Str), nm[i]? = some (x, NameKind.free) → ∃ c o w, cl.lookup x = some c ∧ g.has c o ∧ o.data = .cell w ∧ (∀ d : D, σ[i]? = some (some d) → ∃ v, w = some v ∧ Rep g.im d v)
 has : ∀ p ∈ cl, ∃ o, g.has p.2 o
 apart : (cl.map (·.2)).Nodup
theorem ClosOk.nil (h : ∀ x ∈ nm, x.2 ≠ NameKind.free) : ClosOk nm [] σ g := ⟨fun i x e => absurd rfl (h _ (List.mem_of_getElem? e)), by exact all0, by exact List.nodup_nil⟩
structure NamesOk (nm : List (Str × NameKind)) : Prop where
 ndup : (nm.map (·.1)).Nodup
 ndbg : ∀ x ∈ nm, (x.1 == ("__debug__" : Str)) = false ∧ (x.1 == ("__classdict__" : Str)) = false
noncomputable def namesOk (nm : List (Str × NameKind)) : Bool := decide (nm.map (·.1)).Nodup && nm.all fun x => (x.1 == ("__debug__" : Str)) == false && (x.1 == ("__classdict__" : Str)) == false
theorem NamesOk.of (h : namesOk nm = true) : NamesOk nm := by
 unfold namesOk at h
 simp only [Bool.and_eq_true, decide_eq_true_eq, List.all_eq_true, beq_iff_eq] at h
 exact ⟨h.1, fun x hx => h.2 x hx⟩
noncomputable def startOk (nm : List (Str × NameKind)) (σ : List (Option D)) : Prop := ∀ (i : Nat) (x : Str) (k : NameKind) (d : D), nm[i]? = some (x, k) → σ[i]? = some (some d) → k ≠ .local ∧ k ≠ .cell
noncomputable def globOk (B : Base) (nm : List (Str × NameKind)) (σ : List (Option D)) : Prop := ∀ (i : Nat) (x : Str) (d : D), nm[i]? = some (x, NameKind.globalImplicit) → σ[i]? = some (some d) → ∃ v, d = D.raw v ∧ GlobIs B x v
theorem Z277 {scope : Scope} {closure : List (Str × Addr)} {binds : List (Str × Value)} {bi : List (Nat × D)} {qual : Str} {func : Option Addr} {code : Value} {around : Option Env} {Q : Env → Gh → Prop}
  (hn : NamesOk scope.names) (hk : scope.kind = .function) (hs : startOk scope.names σ) (hg : globOk K.B scope.names σ) (hc : ClosOk scope.names closure σ g) (hb : BindOk scope.names fn g.im binds bi)
  (hbu : ∀ outer, around = some outer → outer.builtins = builtinsNs)
  (h : ∀ L cells cs g', g.mu L = none → g.im L = none → (∀ c ∈ cs, g.mu c = none ∧ g.im c = none) → Frm K g S' fn cs (newEnv scope L mainGlobals cells qual func code around builtinsNs) scope.names (bindSt σ bi) [] g' → Q (newEnv scope L mainGlobals cells qual func code around builtinsNs) g') :
  gwp K A (newFunctionEnv scope mainGlobals closure binds qual func code around builtinsNs) Q g := by
 refine Z1 (Z246 rfl fun L hL1 hL2 => ?_)
 have hL := Le.addMu hL2 (o := ({ cls := .type (if around.isSome then "dict" else "frame"), data := .dict #[] } : Obj))
 refine Z1 (Z243 _ (fun name kind cells => rfl) _ _ _ _ fun g₂ new l e1 e2 e3 => ?_)
 have hne : ∀ p ∈ new, p.2 ≠ L := fun p hp e => by
  have := (e2 p hp).2.1
  rw [e, Gh.setMu_self] at this; cases this
 have hnew : ∀ p ∈ new, g.mu p.2 = none ∧ g.im p.2 = none := fun p hp => ⟨by have := (e2 p hp).2.1; rwa [Gh.setMu_other (hne p hp)] at this, (e2 p hp).2.2⟩
 have hap : ((new ++ closure).map (·.2)).Nodup := by
  rw [List.map_append, List.nodup_append]
  refine ⟨e3, hc.apart, fun x hx y hy => ?_⟩
  rintro rfl
  refine E1_2 (List.mem_map.mp hx) ?_
  rintro p hp rfl
  refine E1_2 (List.mem_map.mp hy) fun q hq eq => ?_
  refine E1_1 (hc.has q hq) fun o ho => ?_
  rw [eq] at ho
  rcases ho with ho | ho
  ·clear eq hq hy; cases (((hnew p hp).2).symm.trans ho)
  ·clear eq hq hy; cases (((hnew p hp).1).symm.trans ho)
 have hmem : ∀ (i : Nat) (x : Str), scope.names[i]? = some (x, NameKind.cell) → ∃ c, (new ++ closure).lookup x = some c ∧ (x, c) ∈ new := fun i x hi => by
  have hx : x ∈ new.map (·.1) := by
   rw [e1, List.mem_reverse, List.mem_map]
   exact ⟨(x, .cell), List.mem_filter.mpr ⟨List.mem_of_getElem? hi, rfl⟩, rfl⟩
  refine E1_2 (Z161 hx) fun c h1 h2 => ?_
  exact ⟨c, by rw [List.lookup_append, h1]; rfl, h2⟩
 have hfree : ∀ (i : Nat) (x : Str), scope.names[i]? = some (x, NameKind.free) → (new ++ closure).lookup x = closure.lookup x := fun i x hi => by
  rw [List.lookup_append, Z254, Option.none_or]
  rw [e1, List.mem_reverse]
  intro hm
  refine E1_2 (List.mem_map.mp hm) ?_
  rintro ⟨y, k⟩ hm2 e
  have e' : y = x := e
  subst e'
  have hm3 := List.mem_filter.mp hm2
  refine E1_1 (List.getElem?_of_mem hm3.1) fun j hj => ?_
  have hk' : k = .cell := by exact of_decide_eq_true hm3.2
  clear hm3 hm2; subst hk'
  have := Z141 hn.ndup hi hj
  subst this
  cases ((hi).symm.trans hj)
 have F : ∀ env : Env, env.scope = scope → env.locals = L → env.globals = mainGlobals → env.cells = new ++ closure → env.builtins = builtinsNs → Frm K g S' fn (new.map (·.2)) env scope.names σ [] g₂ := by
  intro env es el eg ec eb
  exact {
   le := .of (hL.trans l)
   names := by rw [es]
   kind := by rw [es, hk]
   ndup := hn.ndup
   ndbg := hn.ndbg
   globals := eg
   builtins := eb
   loc := ⟨_, fun x => none, by rw [el]; exact l.at Gh.setMu_self, ⟨#[], 0, rfl, fun e he => by clear ec hfree hmem hap hnew hne e3 e2 e1 l hL h hbu; simp at he, fun _ => rfl⟩, fun i x d h1 h2 => absurd rfl (hs i x _ d h1 h2).1⟩
   cel := fun i x k h1 h2 => by
    rw [ec]
    rcases h2 with rfl | rfl
    ·refine E1_2 (hmem i x h1) fun c a1 a2 => ?_
     exact ⟨c, cellObj none, none, a1, .inr (e2 _ a2).1, rfl, fun d hd => absurd rfl (hs i x _ d h1 hd).2⟩
    ·refine E3_4 (hc.free i x h1) fun c o w a1 a2 a3 a4 => ?_
     exact ⟨c, o, w, (hfree i x h1).trans (a1), a2.le (hL.trans l), a3, fun d hd => E1_2 (a4 d hd) fun v z1 z2 => ⟨v, z1, z2.le (hL.trans l)⟩⟩
   glo := hg
   cw := fun i x _ h1 => by
    rw [ec]
    refine E1_2 (hmem i x h1) fun c a1 a2 => ?_
    exact ⟨c, cellObj none, a1, List.mem_map_of_mem (f := (·.2)) a2, (e2 _ a2).1⟩
   csm := fun c hc => by
    refine E1_2 (List.mem_map.mp hc) ?_
    rintro p hp rfl
    exact ⟨_, none, (e2 p hp).1, rfl⟩
   cinj := fun i j x y k k' c hi hj h1 h2 => by
    rw [ec] at h1 h2
    have := addr_inj hap h1 h2
    clear h2 h1 ec; subst this
    exact Z141 hn.ndup hi hj
   apart := by
    rw [List.map_nil, List.append_nil, el, List.nodup_cons]
    refine ⟨fun hm => ?_, e3⟩
    refine E1_2 (List.mem_map.mp hm) fun p hp e => ?_
    exact hne p hp e
   fresh := fun a ha => by
    rw [el] at ha
    rcases List.mem_cons.mp ha with rfl | ha
    ·exact hL2
    ·refine E1_2 (List.mem_map.mp ha) ?_
     clear ha ec; rintro p hp rfl
     exact (hnew p hp).1
   own := by simp }
 have hb₂ : BindOk scope.names fn g₂.im binds bi := hb.mono (hL.trans l).im
 have key : ∀ env : Env, env = newEnv scope L mainGlobals (new ++ closure) qual func code around builtinsNs → gwp K A (do
   for (name, v) in binds do storeName env name v
   return env) Q g₂ := by
  intro env he
  refine Z1 ?_
  have hF := F env (by clear F hfree hmem hap hnew hne e3 e2 e1 l hL h hbu; subst he; cases around <;> rfl) (by clear F hfree hmem hap hnew hne e3 e2 e1 l hL h hbu; subst he; cases around <;> rfl) (by clear F hfree hmem hap hnew hne e3 e2 e1 l hL h hbu; subst he; cases around <;> rfl) (by clear F hfree hmem hap hnew hne e3 e2 e1 l hL h hbu; subst he; cases around <;> rfl) (by
   clear hb; subst he
   cases around with
   | none => rfl
   | some outer => exact hbu outer rfl)
  refine Z245 binds bi g₂ σ _ hb₂ hF fun g₃ l₃ F₃ => Z4 ?_
  clear hb₂ hb; subst he
  exact h L _ _ g₃ hL2 hL1 (fun c hc => by clear F₃ l₃ hF F hfree hmem hap hne e3 e2 e1 l hL h hbu; obtain ⟨p, hp, rfl⟩ := List.mem_map.mp hc; exact hnew p hp) F₃
 clear hb₂ F hfree hmem hap hnew hne e3 e2 e1 l hL hL2 hL1 h hbu hb; cases around with
 | none => exact key _ rfl
 | some outer => exact key _ rfl
structure FnAt (g : Gh) (a : Addr) (fd : FuncData) : Prop where
 obj : ∃ o, g.has a o ∧ o.data = .func fd
 code : ∃ c oc vs tq, fd.code = .ref c ∧ g.has c oc ∧ oc.data = .fields vs ∧ vs[1]? = some (.str fd.qualname tq)
theorem FnAt.le {g' : Gh} {a : Addr} {fd : FuncData} (h : FnAt g a fd) (l : Le g g') : FnAt g' a fd :=
 ⟨E1_2 h.obj fun o h1 h2 => ⟨o, h1.le l, h2⟩, E4_3 h.code fun c oc vs tq h1 h2 h3 => ⟨c, oc, vs, tq, h1, h2.le l, h3⟩⟩
noncomputable def BindTo (K : Wd) (fd : FuncData) (args : Args) (binds : List (Str × Value)) (g : Gh) : Prop := ∀ A (Q : List (Str × Value) → Gh → Prop), Q binds g → gwp K A (bindArgs fd args) Q g
theorem BindTo.rfl' {fd : FuncData} {args : Args} {binds : List (Str × Value)} (h : bindArgs fd args = pure binds) : BindTo K fd args binds g := fun A Q q => by rw [h]; exact Z4 q
noncomputable abbrev fnEnv (fd : FuncData) (a L : Addr) (cells : List (Str × Addr)) : Env := newEnv fd.scope L mainGlobals cells (fd.qualname ++ ".<locals>.") (some a) fd.code none builtinsNs
noncomputable def RetQ (Q : Value → Gh → Prop) : Flow → Gh → Prop := fun f g' => Q (match f with | .ret v => v | _ => .none) g'
noncomputable def gcc (K : Wd) (A : Around) (c : Code) (Q : Value → Gh → Prop) (g : Gh) : Prop := ∀ (s : Shared) (E : Value → Shared → Prop), g.Ok K.B s → codeAny (model K.prog K.w) A c (fun r s' => match r with | .ok (.ret v) => ∃ g' : Gh, g'.Ok K.B s' ∧ Q v g' | .ok _ => False | .error e => E e s') s
theorem Z95 {f : Value} {vals : List Value} {Q : Value → Gh → Prop} (h : gcc K A (.call f ⟨vals, []⟩) Q g) : gwp K A (call f vals) Q g := fun s E ok => wpAny_call (h s E ok)
noncomputable def gat (K : Wd) (A : Around) (c : Code) (t : Sem α) (Q : α → Gh → Prop) (g : Gh) : Prop := ∀ (s : Shared) (E : Value → Shared → Prop), g.Ok K.B s → _root_.PySem.wpAt (model K.prog K.w) A c t (fun v s' => ∃ g' : Gh, g'.Ok K.B s' ∧ Q v g') E s
theorem gat_of {c : Code} {t : Sem α} {Q : α → Gh → Prop} (h : gwp K A t Q g) : gat K A c t Q g := fun s E ok => _root_.PySem.wpAt_of_wpAny (h s E ok)
theorem Z202 {a : Addr} {fd : FuncData} {body : List Stmt} {vals : List Value} {binds : List (Str × Value)} {bi : List (Nat × D)} {Q : Value → Gh → Prop}
  (r : Room A (n + 2)) (hf : FnAt g a fd) (hbody : fd.body = .stmts body) (hbind : BindTo K fd ⟨vals, []⟩ binds g)
  (hn : NamesOk fd.scope.names) (hs : startOk fd.scope.names σ) (hg : globOk K.B fd.scope.names σ) (hc : ClosOk fd.scope.names fd.closure σ g) (hb : BindOk fd.scope.names fn g.im binds bi)
  (h : ∀ A' L cells cs g', Room A' n → g.mu L = none → g.im L = none → (∀ c ∈ cs, g.mu c = none ∧ g.im c = none) → Frm K g S' fn cs (fnEnv fd a L cells) fd.scope.names (bindSt σ bi) [] g' →
   gat K A' (.func body (fnEnv fd a L cells)) (execs body (fnEnv fd a L cells)) (RetQ Q) g')
  (hgl : fd.globals = mainGlobals := by rfl) (hbu : fd.builtins = builtinsNs := by rfl) (hco : fd.scope.isCoroutine = false := by rfl) (hgen : fd.scope.isGenerator = false := by rfl) (hk : fd.scope.kind = .function := by rfl) :
  gcc K A (.call (.ref a) ⟨vals, []⟩) Q g := fun s E ok => by
 refine E1_2 hf.obj fun o ho hd => ?_
 refine E4_4 hf.code fun c oc vs tq c1 c2 c3 c4 => ?_
 have r1 : Room A.in1 (n + 1) := r.in1
 have key := hbind A.in1 (fun bs g₁ => gwp K A.in1 (newFunctionEnv fd.scope mainGlobals fd.closure bs (fd.qualname ++ ".<locals>.") (some a) fd.code none builtinsNs)
   (fun env g' => ∃ L cells cs, env = fnEnv fd a L cells ∧ g.mu L = none ∧ g.im L = none ∧ (∀ c ∈ cs, g.mu c = none ∧ g.im c = none) ∧ Frm K g S' fn cs env fd.scope.names (bindSt σ bi) [] g') g₁)
  (Z277 hn hk hs hg hc hb (by intro _ e; cases e) fun L cells cs g' h1 h2 h3 F => ⟨L, cells, cs, rfl, h1, h2, h3, F⟩)
 refine codeAny_call_function r.depth (ho.get ok) hd hco hgen hbody ⟨c, oc, vs, tq, c1, c2.get ok, c3, c4⟩ ?_
 rw [hgl, hbu]
 refine wM1_2 (key s _ ok) (fun bs s₁ g₁ ok₁ h₁ => wM1_2 (h₁ s₁ _ ok₁) (fun env s₂ g' ok' z₁ => E3_5 z₁ fun L cells cs e h1 h2 h3 F => ⟨ok'.nolimit, ks_codeAny_funcAt ?_⟩))
 subst e
 exact h _ L cells cs g' ((r.sub (Nat.le_succ _)).deeper) h1 h2 h3 F s₂ _ ok'
theorem Z187 {a : Addr} {fd : FuncData} {body : List Stmt} {vals : List Value} {binds : List (Str × Value)} {bi : List (Nat × D)} {Q : Value → Gh → Prop}
  (r : Room A (n + 2)) (hf : FnAt g a fd) (hbody : fd.body = .stmts body) (hbind : BindTo K fd ⟨vals, []⟩ binds g)
  (hn : NamesOk fd.scope.names) (hs : startOk fd.scope.names σ) (hg : globOk K.B fd.scope.names σ) (hc : ClosOk fd.scope.names fd.closure σ g) (hb : BindOk fd.scope.names fn g.im binds bi)
  (h : ∀ A' L cells cs g', Room A' n → g.mu L = none → g.im L = none → (∀ c ∈ cs, g.mu c = none ∧ g.im c = none) → Frm K g S' fn cs (fnEnv fd a L cells) fd.scope.names (bindSt σ bi) [] g' →
   gwp K A' (execs body (fnEnv fd a L cells)) (RetQ Q) g')
  (hgl : fd.globals = mainGlobals := by rfl) (hbu : fd.builtins = builtinsNs := by rfl) (hco : fd.scope.isCoroutine = false := by rfl) (hgen : fd.scope.isGenerator = false := by rfl) (hk : fd.scope.kind = .function := by rfl) :
  gcc K A (.call (.ref a) ⟨vals, []⟩) Q g :=
 Z202 r hf hbody hbind hn hs hg hc hb (fun A' L cells cs g' a b c d e => gat_of (h A' L cells cs g' a b c d e)) hgl hbu hco hgen hk
theorem Z185 {a : Addr} {fd : FuncData} {body : List Stmt} {vals : List Value} {binds : List (Str × Value)} {bi : List (Nat × D)} {Q : Value → Gh → Prop}
  (r : Room A (n + 2)) (hf : FnAt g a fd) (hbody : fd.body = .stmts body) (hbind : BindTo K fd ⟨vals, []⟩ binds g)
  (hn : NamesOk fd.scope.names) (hs : startOk fd.scope.names σ) (hg : globOk K.B fd.scope.names σ) (hc : ClosOk fd.scope.names fd.closure σ g) (hb : BindOk fd.scope.names fn g.im binds bi)
  (h : ∀ A' L cells cs g', Room A' n → g.mu L = none → g.im L = none → (∀ c ∈ cs, g.mu c = none ∧ g.im c = none) → Frm K g S' fn cs (fnEnv fd a L cells) fd.scope.names (bindSt σ bi) [] g' →
   gwp K A' (execs body (fnEnv fd a L cells)) (RetQ Q) g')
  (hgl : fd.globals = mainGlobals := by rfl) (hbu : fd.builtins = builtinsNs := by rfl) (hco : fd.scope.isCoroutine = false := by rfl) (hgen : fd.scope.isGenerator = false := by rfl) (hk : fd.scope.kind = .function := by rfl) :
  gwp K A (call (.ref a) vals) Q g := Z95 (Z187 r hf hbody hbind hn hs hg hc hb h hgl hbu hco hgen hk)
noncomputable def Then (K : Wd) (A : Around) (env : Env) (rest : List Stmt) (Q : Flow → Gh → Prop) : Flow → Gh → Prop := fun f g' => match f with | .next => gwp K A (execs rest env) Q g' | f => Q f g'
section
variable {Q : Flow → Gh → Prop}
theorem Z43 (h : Q .next g) : gwp K A (execs [] env) Q g := fun s E ok => wpAny_execs_nil ⟨g, ok, h⟩
theorem Z10 {st : Stmt} {rest : List Stmt} (h : gwp K A (exec st env) (Then K A env rest Q) g) : gwp K A (execs (st :: rest) env) Q g := by
 rw [execs_cons]
 refine Z1 (Z9 h fun f g' q => ?_)
 cases f <;> first | exact q | exact Z4 q
theorem Z34 {x : Str} {pos' pos : Pos} {value : Expr} (h : gwp K A (eval value env) (fun v g₁ => gwp K A (storeName env x v) (fun _ g₂ => Q .next g₂) g₁) g)
  (hs : swapsWith value (some (.Name x pos')) pos.line env = pure false := by rfl) : gwp K A (exec (.Assign [.Name x pos'] value pos) env) Q g :=
 fun s E ok => wpAny_Assign_Name (wM1_2 (h s E ok) (fun v s₁ _ ok₁ h₁ => h₁ s₁ E ok₁)) hs
theorem st_aug {x : Str} {pos' pos : Pos} {op : Operator} {value : Expr} (h : gwp K A (loadName env x) (fun old g₁ => gwp K A (eval value env) (fun v g₂ => gwp K A (inplaceOp op old v) (fun r g₃ => gwp K A (storeName env x r) (fun _ g₄ => Q .next g₄) g₃) g₂) g₁) g) :
  gwp K A (exec (.AugAssign (.Name x pos') op value pos) env) Q g :=
 fun s E ok => wpAny_AugAssign_Name (wM1_2 (h s E ok) (fun v s₁ _ ok₁ h₁ => wM1_2 (h₁ s₁ E ok₁) (fun v s₁ _ ok₁ h₁ => wM1_2 (h₁ s₁ E ok₁) (fun v s₁ _ ok₁ h₁ => h₁ s₁ E ok₁))))
theorem st_if {test : Expr} {body orelse : List Stmt} {pos : Pos} (h : gwp K A (isTrue test env (eval test env)) (fun b g₁ => if b then gwp K A (execs body env) Q g₁ else gwp K A (execs orelse env) Q g₁) g) : gwp K A (exec (.If test body orelse pos) env) Q g :=
 fun s E ok => wpAny_If (wM1_2 (h s E ok) (fun b s₁ _ ok₁ h₁ => by cases b <;> exact h₁ s₁ E ok₁))
theorem st_ret {e : Expr} {pos : Pos} (h : gwp K A (eval e env) (fun v g₁ => Q (.ret v) g₁) g) : gwp K A (exec (.Return (some e) pos) env) Q g := fun s E ok => wpAny_Return_some (h s E ok)
theorem st_ret_none {pos : Pos} (h : Q (.ret .none) g) : gwp K A (exec (.Return none pos) env) Q g := fun s E ok => wpAny_Return_none ⟨g, ok, h⟩
theorem st_cont {pos : Pos} (h : Q .cont g) : gwp K A (exec (.Continue pos) env) Q g := by
 have : exec (.Continue pos) env = (do standAt pos; pure .cont) := rfl
 rw [this]; exact Z1 (Z28 (Z4 h))
theorem Z92 {e : Expr} {pos : Pos} (h : gwp K A (eval e env) (fun v g₁ => (∀ a, v ≠ .ref a) ∧ Q .next g₁) g) (hi : interactive env = false) (hs : swapsWith e none pos.line env = pure false := by rfl) : gwp K A (exec (.Expr e pos) env) Q g :=
 fun s E ok => wpAny_Expr (wM1_3 (h s E ok) (fun v s₁ g₁ ok₁ h₁ h₂ => by
  cases v <;> first | exact ⟨g₁, ok₁, h₂⟩ | exact absurd rfl (h₁ _))) hi hs
theorem Frm.inter (F : Frm K b S' fn cs env nm σ own g) : interactive env = false := by
 unfold interactive; rw [F.kind]; rfl
theorem Z88 {x : Str} {pos' pos : Pos} {value : Expr} {rest : List Stmt} {i : Nat} {d : D} (F : Frm K b S' fn cs env nm σ own g) (r : Room A n) (h : nm[i]? = some (x, NameKind.local)) (hv : Pe K n g (eval value env) d)
  (k : ∀ g', LeX [env.locals] g g' → Frm K b S' fn cs env nm (σ.set i (some d)) own g' → gwp K A (execs rest env) Q g')
  (hs : swapsWith value (some (.Name x pos')) pos.line env = pure false := by rfl) : gwp K A (execs (.Assign [.Name x pos'] value pos :: rest) env) Q g :=
 Z10 (Z34 (hv.use r fun v g' l p => (F.up l).storeLocal h p fun g'' l' F' => k g'' ((LeX.of l).trans l') F') hs)
theorem Z182 {x : Str} {pos' pos : Pos} {value : Expr} {rest : List Stmt} {i : Nat} {d : D} (F : Frm K b S' fn cs env nm σ own g) (r : Room A n) (h : nm[i]? = some (x, NameKind.cell)) (hin : i ∈ fn) (hv : Pe K n g (eval value env) d)
  (k : ∀ g', LeX cs g g' → Frm K b S' fn cs env nm (σ.set i (some d)) own g' → gwp K A (execs rest env) Q g')
  (hs : swapsWith value (some (.Name x pos')) pos.line env = pure false := by rfl) : gwp K A (execs (.Assign [.Name x pos'] value pos :: rest) env) Q g :=
 Z10 (Z34 (hv.use r fun v g' l p => (F.up l).storeCell h hin p fun g'' l' F' => k g'' ((LeX.of l).trans l') F') hs)
theorem Z46 {e : Expr} {pos : Pos} {rest : List Stmt} {d : D} (r : Room A n) (hv : Pe K n g (eval e env) d) (k : ∀ v g', Le g g' → Rep g'.im d v → Q (.ret v) g') : gwp K A (execs (.Return (some e) pos :: rest) env) Q g :=
 Z10 (st_ret (hv.use r fun v g' l p => k v g' l p))
theorem gx_if {test : Expr} {body orelse rest : List Stmt} {pos : Pos} {v : Bool} (r : Room A n) (ht : Pt K n g test env v)
  (h1 : v = true → ∀ g', Le g g' → gwp K A (execs body env) (Then K A env rest Q) g') (h2 : v = false → ∀ g', Le g g' → gwp K A (execs orelse env) (Then K A env rest Q) g') : gwp K A (execs (.If test body orelse pos :: rest) env) Q g :=
 Z10 (st_if (ht.use r fun u g' l p => by
  subst p
  cases u with
  | true => exact h1 rfl g' l
  | false => exact h2 rfl g' l))
theorem Z57 {rest : List Stmt} (h : gwp K A (execs rest env) Q g) : gwp K A (execs [] env) (Then K A env rest Q) g := Z43 h
theorem Z70 {elts : List Expr} {k : Nat} {tpos pos : Pos} {value : Expr} {names : List Str}
  (h : gwp K A (eval value env) (fun v g₁ => gwp K A (unpackItems v names.length none) (fun items g₂ => gwp K A (assignInOrder (names.reverse.map fun n => bindName env n) items.reverse) (fun _ g₃ => Q .next g₃) g₂) g₁) g)
  (hs : swapsWithSole [.Tuple elts k tpos] value pos.line env = pure false := by rfl) (hw : swappedStores [.Tuple elts k tpos] value env = pure (some names) := by rfl) : gwp K A (exec (.Assign [.Tuple elts k tpos] value pos) env) Q g :=
 fun s E ok => Assign_Tuple_swapped (wM1_2 (h s E ok) (fun v s₁ _ ok₁ h₁ => wM1_2 (h₁ s₁ E ok₁) (fun v s₁ _ ok₁ h₁ => h₁ s₁ E ok₁))) hs hw
theorem st_tuple {elts : List Expr} {k : Nat} {tpos pos : Pos} {value : Expr} (h : gwp K A (eval value env) (fun v g₁ => gwp K A (assign (.Tuple elts k tpos) env v) (fun _ g₂ => Q .next g₂) g₁) g)
  (hs : swapsWithSole [.Tuple elts k tpos] value pos.line env = pure false := by rfl) (hw : swappedStores [.Tuple elts k tpos] value env = pure none := by rfl) : gwp K A (exec (.Assign [.Tuple elts k tpos] value pos) env) Q g :=
 fun s E ok => Assign_Tuple (wM1_2 (h s E ok) (fun v s₁ _ ok₁ h₁ => h₁ s₁ E ok₁)) hs hw
end
theorem Z58 {v : Value} {ds : List D} {m : Nat} {Q : List Value → Gh → Prop} (hv : Rep g.im (.tup ds) v) (r : A.handled = none) (hm : m = ds.length) (h : ∀ vs g', Le g g' → Reps g'.im ds vs → Q vs g') : gwp K A (unpackItems v m none) Q g := fun s E ok => by
 refine E3_3 (Z62.mp hv) ?_
 rintro a its k rfl e rs
 have hlen : its.size = ds.length := by rw [← Array.length_toList, rs.length]
 subst hm
 rw [← hlen]
 exact wpAny_unpackItems_tuple r ⟨_, ok.im _ _ e, rfl, k, rfl⟩ fun h' he => ⟨g, ok.extBut he, h _ g (LeX.refl _ _) rs⟩
noncomputable def Gh.drop (g : Gh) (a : Addr) : Gh := { g with mu := fun b => if b = a then none else g.mu b }
theorem Gh.drop_other {a c : Addr} (h : c ≠ a) : (g.drop a).mu c = g.mu c := if_neg h
theorem Gh.drop_some {a c : Addr} {o : Obj} (h : (g.drop a).mu c = some o) : c ≠ a ∧ g.mu c = some o := (Classical.em (c = a)).elim (fun hb => Z56 h (if_pos hb)) fun hb => ⟨hb, (if_neg hb).symm.trans h⟩
theorem LeX.drop {a : Addr} : LeX [a] g (g.drop a) := ⟨fun _ _ e => e, fun c o hc e => (Gh.drop_other (by simpa using hc)).trans (e), rfl⟩
theorem oldK_ext {h₀ h h' : Heap} (K : OldK h₀ h) {a : Addr} (ha : h₀.objs.size ≤ a) (hs : Heap.ExtBut a h h') : OldK h₀ h' := by
 have ne : ∀ b o, h₀.get? b = some o → b ≠ a := fun b o e => Nat.ne_of_lt (Nat.lt_of_lt_of_le (Heap.lt_size e) ha)
 refine ⟨fun b o e => ?_, fun b o e => E1_1 (K.there b o e) fun o' ho' => ⟨o', hs b _ (ne b o e) ho'⟩⟩
 rcases K.old b o e with x | ⟨t, hc, vs, more, hv, x⟩ | ⟨rfl, hc, ⟨o', es, n, ho', r⟩, z⟩
 ·exact .inl (hs b _ (ne b o e) x)
 ·exact .inr (.inl ⟨t, hc, vs, more, hv, hs b _ (ne b o e) x⟩)
 ·exact .inr (.inr ⟨rfl, hc, ⟨o', es, n, hs _ _ (ne _ o e) ho', r⟩, fun key => by rw [OldK.staticOf_congr ((hs _ _ (ne _ o e) ho').trans ho'.symm) key]; exact z key⟩)
theorem Gh.Ok.lost {s : Shared} (ok : g.Ok B s) {a : Addr} {o : Obj} (ha : g.mu a = some o) {h' : Heap} {tk : Nat} (he : Heap.ExtBut a s.heap h') : (g.drop a).Ok B { s with heap := h', toks := tk } := by
 have hne : ∀ b o', g.im b = some o' → b ≠ a := fun b o' e z => Z56 e (z ▸ ok.noIm ha)
 refine ⟨fun b o' e => he b _ (hne b o' e) (ok.im b o' e), fun b o' e => ?_, fun b o1 o2 e e' => ok.dis b o1 o2 e (Gh.drop_some e').2, ok.base, fun b o' e => ok.new b o' (Gh.drop_some e).2, ?_, oldK_ext ok.old (ok.new _ _ ha) he, ok.os, ok.gens,
  fun c P hm => ?_, ok.apart⟩
 ·refine E0_2 (Gh.drop_some e) fun h1 h2 => ?_
  exact he b _ h1 (ok.mu b o' h2)
 ·refine E2_2 B.top fun t ot h1 h2 => ?_
  rw [h2]
  exact Heap.lt_size (he t _ (hne _ _ (ok.base _ _ h1)) (ok.im _ _ (ok.base _ _ h1)))
 ·exact TabS.but (ok.tabs c P hm) he (fun z => E1_1 (ok.tabs c P hm).2.2.1 fun o e => Z56 (ok.base _ _ e) (z ▸ ok.noIm ha)) (Nat.ne_of_lt (Nat.lt_of_lt_of_le (ok.tabs c P hm).2.1 (ok.new _ _ ha)))
noncomputable def Gh.fix (g : Gh) (a : Addr) (o : Obj) : Gh := { g with im := fun b => if b = a then some o else g.im b, mu := fun b => if b = a then none else g.mu b }
theorem Gh.Ok.fix {s : Shared} (ok : g.Ok B s) {a : Addr} {o : Obj} (ha : g.mu a = some o) : (g.fix a o).Ok B s :=
 have hi := ok.noIm ha
 have hmu : ∀ b o', (g.fix a o).mu b = some o' → b ≠ a ∧ g.mu b = some o' := fun b o' e => (Classical.em (b = a)).elim (fun hb => Z56 e (if_pos hb)) fun hb => ⟨hb, (if_neg hb).symm.trans e⟩
 {im := fun b o' e => Gh.addIm_cases e (fun hb z => by rw [hb, ← z]; exact ok.mu _ _ ha) fun _ e => ok.im b o' e
  mu := fun b o' e => ok.mu _ _ (hmu b o' e).2
  dis := fun b o1 o2 e e' => Gh.addIm_cases e (fun hb _ => absurd hb (hmu b o2 e').1) fun _ e => ok.dis _ _ _ e (hmu b o2 e').2
  base := fun b o' e => (Le.addIm hi).im _ _ (ok.base b o' e)
  new := fun b o' e => ok.new _ _ (hmu b o' e).2
  size := ok.size, old := ok.old, os := ok.os, gens := ok.gens
  tabs := fun c P hm => TabS.keeps (ok.tabs c P hm) (fun _ _ e => e) ((if_neg (Nat.ne_of_lt (Nat.lt_of_lt_of_le (ok.tabs c P hm).2.1 (ok.new _ _ ha)))).trans (ok.tabs c P hm).1) (Le.addIm hi).im
  apart := ok.apart }
theorem gwp_fix {t : Sem α} {Q : α → Gh → Prop} {a : Addr} {o : Obj} (ha : g.mu a = some o) (h : gwp K A t Q (g.fix a o)) : gwp K A t Q g := fun s E ok => h s E (ok.fix ha)
theorem LeX.fix {a : Addr} {o : Obj} (hi : g.im a = none) : LeX [a] g (g.fix a o) := ⟨fun b o' e => by
  show (if b = a then some o else g.im b) = some o'
  rw [if_neg (by rintro rfl; cases ((hi).symm.trans e))]; exact e, fun b o' hb e => by
  show (if b = a then none else g.mu b) = some o'
  rw [if_neg (by simpa using hb)]; exact e, rfl⟩
theorem Gh.fix_self {a : Addr} {o : Obj} : (g.fix a o).im a = some o := if_pos rfl
theorem LeX.forget {T : List Addr} {g' : Gh} (l : LeX T g g') (h : ∀ a ∈ T, a ∈ S' ∨ g.mu a = none) : LeX S' g g' :=
 ⟨l.im, fun a o ha e => l.mu a o (fun hm => (h a hm).elim ha fun z => by clear h; cases ((z).symm.trans e)) e, l.gs⟩
theorem Frm.other {T : List Addr} {g' : Gh} (F : Frm K b S' fn cs env nm σ own g) (l : LeX T g g') (h1 : ∀ a ∈ T, a ∉ env.locals :: cs ++ own.map (·.1)) (h2 : ∀ a ∈ T, b.mu a = none ∨ a ∈ S')
  (h3 : ∀ a ∈ T, ∀ o w, g.mu a = some o → o.data ≠ .cell w) : Frm K b S' fn cs env nm σ own g' where
 le := ⟨fun a o e => l.im _ _ (F.le.im a o e), fun a o ha e => l.mu a o (fun hT => (h2 a hT).elim (fun z => by clear h3 h2 h1; cases ((z).symm.trans e)) ha) (F.le.mu a o ha e), l.gs.trans F.le.gs⟩
 names := F.names
 kind := F.kind
 ndup := F.ndup
 ndbg := F.ndbg
 globals := F.globals
 builtins := F.builtins
 loc := E2_3 F.loc fun o f e hh r => ⟨o, f, l.mu _ _ (fun hT => h1 _ hT (by exact .head _)) e, hh, fun i x d a1 a2 => E1_2 (r i x d a1 a2) fun v e1 e2 => ⟨v, e1, e2.mono l.im⟩⟩
 cel := fun i x k a1 a2 => E3_4 (F.cel i x k a1 a2) fun c o w e1 e2 e3 r =>
  ⟨c, o, w, e1, e2.elim (fun z => .inl (l.im _ _ z)) (fun z => .inr (l.mu _ _ (fun hT => h3 c hT o w z e3) z)), e3, fun d hd => E1_2 (r d hd) fun v q1 q2 => ⟨v, q1, q2.mono l.im⟩⟩
 glo := F.glo
 cw := fun i x a1 a2 => E2_3 (F.cw i x a1 a2) fun c o e1 e2 e3 => ⟨c, o, e1, e2, l.mu _ _ (fun hT => h1 _ hT (by exact .tail _ (mem_l e2))) e3⟩
 csm := fun c hc => E2_2 (F.csm c hc) fun o w e1 e2 => ⟨o, w, l.mu _ _ (fun hT => h1 _ hT (by exact .tail _ (mem_l hc))) e1, e2⟩
 cinj := F.cinj
 apart := F.apart
 fresh := F.fresh
 own := fun p hp => E1_3 (F.own p hp) fun o e1 e2 e3 => ⟨o, l.mu _ _ (fun hT => h1 _ hT (by simp only [List.cons_append, List.mem_cons, List.mem_append]; exact .inr (.inr (List.mem_map_of_mem (f := (·.1)) hp)))) e1, p.2.mono _ _ _ l.im e2, e3⟩
theorem Frm.rebase {b' : Gh} (F : Frm K b S' fn cs env nm σ own g) (l : Le b' b) : Frm K b' S' fn cs env nm σ own g :=
 have nb : ∀ a, b.mu a = none → b'.mu a = none := fun a h => by
  cases e : b'.mu a with
  | none => rfl
  | some o => have := l.at e; cases ((h).symm.trans this)
 {F with
  le := (LeX.of l).trans F.le
  fresh := fun a ha => nb a (F.fresh a ha)
  own := fun p hp => E1_3 (F.own p hp) fun o e1 e2 e3 => ⟨o, e1, e2, e3.imp (fun z => z) (nb _)⟩ }
theorem Frm.may {S'' : List Addr} (F : Frm K b S' fn cs env nm σ own g) (h : ∀ a ∈ S', a ∈ S'') : Frm K b S'' fn cs env nm σ own g :=
 {F with le := F.le.sub h, own := fun p hp => E1_3 (F.own p hp) fun o e1 e2 e3 => ⟨o, e1, e2, e3.imp (h _) (fun z => z)⟩ }
structure It (K : Wd) (it : Value) (T R : List Addr) (St : List D → Gh → Prop) : Prop where
 item : ∀ {d : D} {ds : List D} {g : Gh} {A : Around}, A.handled = none → St (d :: ds) g → gwp K A (pyNext it) (fun r g' => LeX T g g' ∧ ∃ v, r = some v ∧ Rep g'.im d v ∧ ∀ (target : Expr) (A : Around), gwp K A (letOwnedTupleGo target it v) (fun _ g'' => LeX T g' g'' ∧ St ds g'') g') g
 done : ∀ {g : Gh} {A : Around}, A.handled = none → St [] g → gwp K A (pyNext it) (fun r g' => LeX T g g' ∧ r = none) g
 self : ∀ {ds : List D} {g : Gh} {A : Around} {Q : Value → Gh → Prop}, St ds g → Q it g → gwp K A (pyIter it) Q g
 frame : ∀ {ds : List D} {g g' : Gh} {W : List Addr}, St ds g → LeX W g g' → (∀ a ∈ W, a ∉ T ∧ a ∉ R) → St ds g'
 mem : ∀ {ds : List D} {g : Gh}, St ds g → ∀ a ∈ T, ∃ o, g.mu a = some o
 cell : ∀ {ds : List D} {g : Gh}, St ds g → ∀ a ∈ T, ∀ o w, g.mu a = some o → o.data ≠ .cell w
noncomputable def Gh.reads (g : Gh) (R : List Addr) (a : Addr) (o : Obj) : Prop := g.im a = some o ∨ (a ∈ R ∧ g.mu a = some o)
theorem Gh.reads.get {R : List Addr} {a : Addr} {o : Obj} (h : g.reads R a o) {s : Shared} (ok : g.Ok B s) : s.heap.get? a = some o := h.elim (ok.im a o) fun z => ok.mu a o z.2
theorem Gh.reads.up {R W : List Addr} {a : Addr} {o : Obj} {g' : Gh} (h : g.reads R a o) (l : LeX W g g') (hw : ∀ a ∈ W, a ∉ R) : g'.reads R a o := h.imp (l.im a o) fun z₀ => E0_2 z₀ fun z1 z2 => ⟨z1, l.mu a o (fun hm => hw a hm z1) z2⟩
noncomputable def LI (o : Obj) (l : Addr) (i : Nat) : Prop := o.cls = .type "list_iterator" ∧ o.data = .fields #[.ref l, .int i 0]
noncomputable def TI (o : Obj) (l : Addr) (i : Nat) : Prop := o.cls = .type "tuple_iterator" ∧ o.data = .fields #[.ref l, .int i 0]
noncomputable def StL (R : List Addr) (it : Addr) (ds : List D) (g : Gh) : Prop := ∃ o l i its m, g.mu it = some o ∧ LI o l i ∧ g.reads R l (sq "list" its m) ∧ Reps g.im ds (its.toList.drop i)
theorem Z133 (t : Expr) (it v : Value) : letOwnedTupleGo t it v = pure () ∨ letOwnedTupleGo t it v = letOwnedTupleGo (.Tuple [] 0 default) it v := by
 cases t <;> first | exact .inl rfl | exact .inr rfl
theorem Z35 {it a : Addr} {o : Obj} {vs : Array Value} {c : String} {v : Value} {target : Expr} {Q : Unit → Gh → Prop} (ho : g.has it o) (hc : o.cls = .type c) (hd : o.data = .fields vs)
  (hn : ["enumerate", "zip", "dict_itemiterator", "dict_reverseitemiterator", "odict_iterator", "itertools.zip_longest", "itertools.pairwise"].contains c = false) (h : Q () g) : gwp K A (letOwnedTupleGo target (.ref it) v) Q g := by
 rcases Z133 target (.ref it) v with e | e <;> rw [e]
 ·exact Z4 h
 ·cases v <;> try exact Z4 h
  refine Z1 (gwp_load ho ?_)
  simp only [hc, hd, hn, Bool.false_and]
  exact Z4 h
theorem reps_at {im : Im} {d : D} {ds : List D} {its : Array Value} {i : Nat} (h : Reps im (d :: ds) (its.toList.drop i)) : ∃ v, its[i]? = some v ∧ Rep im d v ∧ Reps im ds (its.toList.drop (i + 1)) := by
 simp only [Reps] at h
 refine E2_3 h fun v vs e1 e2 e3 => ⟨v, ?_, e2, ?_⟩
 ·rw [← Array.getElem?_toList, ← Nat.add_zero i, ← List.getElem?_drop, e1]; rfl
 ·rw [← List.drop_drop, e1]; exact e3
theorem reps_off {im : Im} {its : Array Value} {i : Nat} (h : Reps im [] (its.toList.drop i)) : its[i]? = none := by
 simp only [Reps] at h
 rw [Array.getElem?_eq_none_iff, ← Array.length_toList]
 exact List.drop_eq_nil_iff.mp h
theorem It.list {R : List Addr} {it : Addr} (hR : it ∉ R) : It K (.ref it) [it] R (StL R it) where
 item := fun {d ds g A} hh st s E ok => by
  refine E5_4 st fun o l i its m h1 h2 h3 h4 => ?_
  refine E1_3 (reps_at h4) fun v hv e2 e3 => ?_
  refine wpAny_pyNext_list_item ⟨o, ok.mu _ _ h1, h2⟩ ⟨_, h3.get ok, rfl, m, rfl⟩ hv fun h' hit' hs => ?_
  refine E1_3 hit' fun o' ho' hc' hd' => ?_
  have ok' := ok.sameBut (tk := s.toks) h1 hs ho'
  refine ⟨_, ok', LeX.setMu, v, rfl, e2, fun target A => ?_⟩
  refine Z35 (a := it) (.inr Gh.setMu_self) hc' hd' (by decide) ⟨LeX.refl _ _, o', l, i + 1, its, m, Gh.setMu_self, ⟨hc', hd'⟩, h3.up LeX.setMu (all1 hR), e3⟩
 done := fun {g A} hh st s E ok => by
  refine E5_4 st fun o l i its m h1 h2 h3 h4 => ?_
  have hv := reps_off h4
  exact wpAny_pyNext_list_end hh ⟨o, ok.mu _ _ h1, h2⟩ ⟨_, h3.get ok, rfl, m, rfl⟩ hv fun h' he => ⟨_, ok.lost (tk := s.toks) h1 he, LeX.drop, rfl⟩
 self := fun {ds g A Q} st q s E ok => by
  refine E5_4 st fun o l i its m h1 h2 h3 h4 => ?_
  exact wpAny_pyIter_listiter ⟨o, ok.mu _ _ h1, h2⟩ ⟨g, ok, q⟩
 frame := fun {ds g g' W} st l hw => by
  refine E5_4 st fun o a i its m h1 h2 h3 h4 => ?_
  exact ⟨o, a, i, its, m, l.mu _ _ (fun hm => (hw _ hm).1 (by exact .head _)) h1, h2, h3.up l (fun a ha => (hw a ha).2), h4.mono l.im⟩
 mem := fun {ds g} st => all1 (E5_4 st fun o l i its m h1 h2 h3 h4 => ⟨o, h1⟩)
 cell := fun {ds g} st => all1 (fun o' w e => E5_4 st fun o l i its m h1 h2 h3 h4 z => by rw [← Z39 h1 e, h2.2] at z; cases z)
noncomputable def NewIt (K : Wd) (R : List Addr) (ds : List D) (g : Gh) (it : Value) (g' : Gh) : Prop := Le g g' ∧ ∃ T St, It K it T R St ∧ St ds g' ∧ ∀ a ∈ T, g.mu a = none ∧ a ∉ R
noncomputable def PIt (K : Wd) (n : Nat) (g : Gh) (iter : Expr) (env : Env) (R : List Addr) (ds : List D) : Prop := ∀ A, Room A n → ∀ g₁, Le g g₁ → gwp K A (eval iter env) (fun x g₂ => gwp K A (pyIter x) (NewIt K R ds g₁) g₂) g₁
theorem iter_lst {ds : List D} {v : Value} (h : Rep g.im (.lst ds) v) : gwp K A (pyIter v) (NewIt K [] ds g) g := fun s E ok => by
 refine E3_3 (Z16.mp h) ?_
 rintro a its m rfl e rs
 refine wpAny_pyIter_list ⟨_, ok.im _ _ e, rfl, m, rfl⟩ ⟨_, ok.pushMu (o := { cls := .type "list_iterator", data := .fields #[.ref a, .int 0 0] }) rfl, Le.addMu ok.fresh.2, _, _, It.list (R := []) (by exact List.not_mem_nil), ?_, ?_⟩
 ·exact ⟨_, a, 0, its, m, Gh.setMu_self, ⟨rfl, rfl⟩, .inl e, by rw [List.drop_zero]; exact rs⟩
 ·intro c hc; simp at hc; subst hc; exact ⟨ok.fresh.2, by exact List.not_mem_nil⟩
theorem Le.nomu {g g' : Gh} (l : Le g g') {a : Addr} (h : g'.mu a = none) : g.mu a = none := by
 cases e : g.mu a with
 | none => rfl
 | some o => cases ((l.at e).symm.trans h)
theorem NewIt.since {R : List Addr} {ds : List D} {it : Value} {g₀ g' : Gh} (h : NewIt K R ds g it g') (l : Le g₀ g) : NewIt K R ds g₀ it g' :=
 E0_2 h fun l' v00 => E2_3 v00 fun T St h1 h2 h3 => ⟨l.trans l', T, St, h1, h2, fun a ha => ⟨l.nomu (h3 a ha).1, (h3 a ha).2⟩⟩
noncomputable def Holds (l : List (Addr × MO)) (g : Gh) : Prop := ∀ p ∈ l, ∃ o, g.mu p.1 = some o ∧ p.2.P g.im o
theorem Holds.up {l : List (Addr × MO)} {g' : Gh} {W : List Addr} (h : Holds l g) (le : LeX W g g') (hw : ∀ a ∈ W, a ∉ l.map (·.1)) : Holds l g' := fun p hp =>
 E1_2 (h p hp) fun o h1 h2 => ⟨o, le.mu _ _ (fun hm => hw _ hm (List.mem_map_of_mem hp)) h1, p.2.mono _ _ _ le.im h2⟩
structure ItM (K : Wd) (it : Value) (T : List Addr) (ms : List D → List (Addr × MO)) : Prop where
 keys : ∀ ds, (ms ds).map (·.1) = T
 nodup : T.Nodup
 item : ∀ {d : D} {ds : List D} {g : Gh} {A : Around}, A.handled = none → Holds (ms (d :: ds)) g → gwp K A (pyNext it) (fun r g' => LeX T g g' ∧ ∃ v, r = some v ∧ Rep g'.im d v ∧ ∀ (target : Expr) (A : Around), gwp K A (letOwnedTupleGo target it v) (fun _ g'' => LeX T g' g'' ∧ Holds (ms ds) g'') g') g
 done : ∀ {g : Gh} {A : Around}, A.handled = none → Holds (ms []) g → gwp K A (pyNext it) (fun r g' => LeX T g g' ∧ r = none) g
 self : ∀ {ds : List D} {g : Gh} {A : Around} {Q : Value → Gh → Prop}, Holds (ms ds) g → Q it g → gwp K A (pyIter it) Q g
 cell : ∀ {ds : List D} {im : Im}, ∀ p ∈ ms ds, ∀ o w, p.2.P im o → o.data ≠ .cell w
theorem ItM.it {it : Value} {T : List Addr} {ms : List D → List (Addr × MO)} (h : ItM K it T ms) : It K it T [] (fun ds => Holds (ms ds)) where
 item := h.item
 done := h.done
 self := h.self
 frame := fun st l hw => st.up l fun a ha => by rw [h.keys]; exact (hw a ha).1
 mem := fun {ds g} st a ha => by
  rw [← h.keys ds] at ha
  refine E1_2 (List.mem_map.mp ha) ?_
  rintro p hp rfl
  exact E1_2 (st p hp) fun o h1 _ => ⟨o, h1⟩
 cell := fun {ds g} st a ha o w e => by
  rw [← h.keys ds] at ha
  refine E1_2 (List.mem_map.mp ha) ?_
  clear ha; rintro p hp rfl
  refine E1_2 (st p hp) fun o' h1 h2 => ?_
  cases ((h1).symm.trans e)
  exact h.cell p hp _ w h2
theorem ItM.one {a : Addr} {m : List D → MO} {St : List D → Gh → Prop} (h : It K (.ref a) [a] [] St) (e : ∀ ds g, St ds g ↔ ∃ o, g.mu a = some o ∧ (m ds).P g.im o) (hc : ∀ ds im o w, (m ds).P im o → o.data ≠ .cell w) : ItM K (.ref a) [a] (fun ds => [(a, m ds)]) := by
 have e' : ∀ ds g, Holds [(a, m ds)] g ↔ St ds g := fun ds g => by rw [e]; simp [Holds]
 refine ⟨fun ds => rfl, by simp, fun hh st => ?_, fun hh st => h.done hh ((e' _ _).mp st), fun st q => h.self ((e' _ _).mp st) q, fun p hp o w hP => ?_⟩
 ·refine gM0_2 (h.item hh ((e' _ _).mp st)) fun r g' l v00 => E1_3 v00 fun v h1 h2 h3 => ⟨l, v, h1, h2, fun t A => gM0_2 (h3 t A) fun _ g'' l' s' => ⟨l', (e' _ _).mpr s'⟩⟩
 ·simp at hp; subst hp; exact hc _ _ _ w hP
noncomputable def MO.li (ds : List D) : MO := ⟨fun im o => ∃ l i its m, LI o l i ∧ im l = some (sq "list" its m) ∧ Reps im ds (its.toList.drop i), fun _ _ _ h z₀ => E4_3 z₀ fun l i its m h1 h2 h3 => ⟨l, i, its, m, h1, h _ _ h2, h3.mono h⟩⟩
theorem ItM.list {a : Addr} : ItM K (.ref a) [a] (fun ds => [(a, MO.li ds)]) := ItM.one (It.list (R := []) (by exact List.not_mem_nil)) (fun ds g => by
 constructor
 ·rintro ⟨o, l, i, its, m, h1, h2, h3, h4⟩
  exact ⟨o, h1, l, i, its, m, h2, h3.resolve_right (by simp), h4⟩
 ·rintro ⟨o, h1, l, i, its, m, h2, h3, h4⟩
  exact ⟨o, l, i, its, m, h1, h2, .inl h3, h4⟩) (by rintro ds im o w ⟨l, i, its, m, ⟨_, h⟩, _⟩ z; cases ((h).symm.trans z))
noncomputable def NewM (K : Wd) (ds : List D) (g : Gh) (it : Value) (g' : Gh) : Prop := Le g g' ∧ ∃ T ms, ItM K it T ms ∧ Holds (ms ds) g' ∧ ∀ a ∈ T, g.mu a = none
theorem NewM.it {ds : List D} {it : Value} {g' : Gh} (h : NewM K ds g it g') : NewIt K [] ds g it g' := E0_2 h fun l v00 => E2_3 v00 fun T ms h1 h2 h3 => ⟨l, T, _, h1.it, h2, fun a ha => ⟨h3 a ha, by exact List.not_mem_nil⟩⟩
theorem NewM.since {ds : List D} {it : Value} {g₀ g' : Gh} (h : NewM K ds g it g') (l : Le g₀ g) : NewM K ds g₀ it g' := E0_2 h fun l' v00 => E2_3 v00 fun T ms h1 h2 h3 => ⟨l.trans l', T, ms, h1, h2, fun a ha => l.nomu (h3 a ha)⟩
theorem NewM.mk1 {ds : List D} {g : Gh} {s : Shared} (ok : g.Ok B s) {o : Obj} {m : List D → MO} (h : ItM K (.ref s.heap.objs.size) [s.heap.objs.size] (fun ds => [(s.heap.objs.size, m ds)])) (hp : (m ds).P g.im o) : NewM K ds g (.ref s.heap.objs.size) (g.setMu s.heap.objs.size o) :=
 ⟨Le.addMu ok.fresh.2, _, _, h, fun p hp' => by simp at hp'; subst hp'; exact ⟨o, Gh.setMu_self, hp⟩, fun a ha => by simp at ha; subst ha; exact ok.fresh.2⟩
theorem iterM_lst {ds : List D} {v : Value} (h : Rep g.im (.lst ds) v) : gwp K A (pyIter v) (NewM K ds g) g := fun s E ok => by
 refine E3_3 (Z16.mp h) ?_
 rintro a its m rfl e rs
 exact wpAny_pyIter_list ⟨_, ok.im _ _ e, rfl, m, rfl⟩ ⟨_, ok.pushMu (o := { cls := .type "list_iterator", data := .fields #[.ref a, .int 0 0] }) rfl, NewM.mk1 ok ItM.list ⟨a, 0, its, m, ⟨rfl, rfl⟩, e, by rw [List.drop_zero]; exact rs⟩⟩
noncomputable def PItM (K : Wd) (n : Nat) (g : Gh) (iter : Expr) (env : Env) (ds : List D) : Prop := ∀ A, Room A n → ∀ g₁, Le g g₁ → gwp K A (eval iter env) (fun x g₂ => gwp K A (pyIter x) (NewM K ds g₁) g₂) g₁
theorem PItM.pit {iter : Expr} {ds : List D} (h : PItM K n g iter env ds) : PIt K n g iter env [] ds := fun A r g₁ l => Z9 (h A r g₁ l) fun x g₂ q => Z9 q fun it g₃ z => z.it
theorem Z50 {iter : Expr} {ds : List D} (h : Pe K n g (eval iter env) (.lst ds)) : PItM K n g iter env ds := fun A r g₁ l => gM0_2 (h A r g₁ l) fun v g₂ l₂ p => Z9 (iterM_lst p) fun it g₃ q => q.since l₂
theorem Frm.adopt {ms : List (Addr × MO)} {g₀ : Gh} (F : Frm K b S' fn cs env nm σ own g) (F₀ : Frm K b S' fn cs env nm σ own g₀) (h : Holds ms g) (hk : (ms.map (·.1)).Nodup) (h0 : ∀ a ∈ ms.map (·.1), g₀.mu a = none) (hb : ∀ a ∈ ms.map (·.1), a ∈ S' ∨ b.mu a = none) : Frm K b S' fn cs env nm σ (ms ++ own) g :=
 {F with
  apart := by
   have hap := F.apart
   have hn : ∀ a ∈ ms.map (·.1), a ∉ env.locals :: cs ++ own.map (·.1) := by
    intro a ha hm
    have hz := h0 a ha
    rw [List.cons_append] at hm
    rcases List.mem_cons.mp hm with rfl | hm
    ·refine E2_2 F₀.loc fun o f e _ => ?_
     clear ha h0; cases ((hz).symm.trans e)
    rcases List.mem_append.mp hm with hm | hm
    ·refine E2_2 (F₀.csm a hm) fun o w e _ => ?_
     clear ha h0; cases ((hz).symm.trans e)
    ·refine E1_2 (List.mem_map.mp hm) ?_
     clear hm ha h0; rintro p hp rfl
     refine E1_2 (F₀.own p hp) fun o e _ => ?_
     clear hm F₀; cases ((hz).symm.trans e)
   rw [List.map_append]
   rw [List.nodup_append] at hap ⊢
   refine ⟨hap.1, List.nodup_append.mpr ⟨hk, hap.2.1, fun x hx y hy => ?_⟩, fun x hx y hy => ?_⟩
   ·clear h0 hk F₀; rintro rfl; exact hn x hx (List.mem_append.mpr (.inr hy))
   ·rcases List.mem_append.mp hy with hy | hy
    ·clear h0 hk F₀; rintro rfl; exact hn x hy (List.mem_append.mpr (.inl hx))
    ·exact hap.2.2 x hx y hy
  own := fun p hp => by
   rcases List.mem_append.mp hp with hp | hp
   ·refine E1_2 (h p hp) fun o h1 h2 => ?_
    exact ⟨o, h1, h2, hb _ (List.mem_map_of_mem (f := (·.1)) hp)⟩
   ·exact F.own p hp }
theorem Frm.advance {ms ms' : List (Addr × MO)} {g' : Gh} (F : Frm K b S' fn cs env nm σ (ms ++ own) g) (l : LeX (ms.map (·.1)) g g') (hk : ms'.map (·.1) = ms.map (·.1)) (h : Holds ms' g') (hc : ∀ p ∈ ms, ∀ o w, p.2.P g.im o → o.data ≠ .cell w) : Frm K b S' fn cs env nm σ (ms' ++ own) g' := by
 have hap := F.apart
 have hms : ∀ p ∈ ms, ∃ o, g.mu p.1 = some o ∧ p.2.P g.im o ∧ (p.1 ∈ S' ∨ b.mu p.1 = none) := fun p hp => F.own p (List.mem_append.mpr (.inl hp))
 have F1 : Frm K b S' fn cs env nm σ own g' := (F.drop (List.sublist_append_right _ _)).other l (fun a ha hm => by
   rw [List.map_append, List.nodup_append] at hap
   rcases List.mem_append.mp hm with hm | hm
   ·exact hap.2.2 a hm a (List.mem_append.mpr (.inl ha)) rfl
   ·exact (List.nodup_append.mp hap.2.1).2.2 a ha a hm rfl)
  (fun a ha => by
   refine E1_2 (List.mem_map.mp ha) ?_
   clear hap l; rintro p hp rfl
   refine E1_3 (hms p hp) fun o _ _ h3 => ?_
   exact h3.symm) (fun a ha o w e => by
   refine E1_2 (List.mem_map.mp ha) ?_
   clear ha hap l; rintro p hp rfl
   refine E1_3 (hms p hp) fun o' h1 h2 _ => ?_
   cases ((h1).symm.trans e)
   exact hc p hp _ w h2)
 exact { F1 with
  apart := by rw [List.map_append, hk, ← List.map_append]; exact F.apart
  own := fun p hp => by
   rcases List.mem_append.mp hp with hp | hp
   ·refine E1_2 (h p hp) fun o h1 h2 => ?_
    have : p.1 ∈ ms.map (·.1) := by rw [← hk]; exact List.mem_map_of_mem (f := (·.1)) hp
    refine E1_2 (List.mem_map.mp this) fun q hq e => ?_
    refine E1_3 (hms q hq) fun _ _ _ h3 => ?_
    rw [e] at h3
    exact ⟨o, h1, h2, h3⟩
   ·exact F1.own p hp }
theorem Frm.lose {ms : List (Addr × MO)} {g' : Gh} (F : Frm K b S' fn cs env nm σ (ms ++ own) g) (l : LeX (ms.map (·.1)) g g') (hc : ∀ p ∈ ms, ∀ o w, p.2.P g.im o → o.data ≠ .cell w) : Frm K b S' fn cs env nm σ own g' := by
 have hap := F.apart
 have hms : ∀ p ∈ ms, ∃ o, g.mu p.1 = some o ∧ p.2.P g.im o ∧ (p.1 ∈ S' ∨ b.mu p.1 = none) := fun p hp => F.own p (List.mem_append.mpr (.inl hp))
 exact (F.drop (List.sublist_append_right _ _)).other l (fun a ha hm => by
   rw [List.map_append, List.nodup_append] at hap
   rcases List.mem_append.mp hm with hm | hm
   ·exact hap.2.2 a hm a (List.mem_append.mpr (.inl ha)) rfl
   ·exact (List.nodup_append.mp hap.2.1).2.2 a ha a hm rfl)
  (fun a ha => by
   refine E1_2 (List.mem_map.mp ha) ?_
   clear hap l F; rintro p hp rfl
   refine E1_3 (hms p hp) fun o _ _ h3 => ?_
   exact h3.symm) (fun a ha o w e => by
   refine E1_2 (List.mem_map.mp ha) ?_
   clear ha hap l F; rintro p hp rfl
   refine E1_3 (hms p hp) fun o' h1 h2 _ => ?_
   clear hms; cases ((h1).symm.trans e)
   exact hc p hp _ w h2)
theorem Z269 {target iter : Expr} {body : List Stmt} {pos : Pos} {Q : Flow → Gh → Prop} (h : gwp K A (eval iter env) (fun x g₁ => gwp K A (pyIter x) (fun it g₂ =>
   ∀ s, g₂.Ok K.B s → codeAny (model K.prog K.w) A (.forLoop target it body [] env) (fun r s' => match r with | .ok f => ∃ g' : Gh, g'.Ok K.B s' ∧ Q f g' | .error _ => False) s) g₁) g)
  (hs : ∀ x, foldedSetIterable iter env x = pure x := by intro _; rfl) : gwp K A (exec (.For target iter body [] pos) env) Q g := fun s E ok =>
 wpAny_For (wM1_2 (h s E ok) (fun x s₁ g₁ ok₁ h₁ => wM1_2 (h₁ s₁ E ok₁) (fun it s₂ g₂ ok₂ h₂ => codeAny_mono (h₂ s₂ ok₂) fun r s' hr => by
  cases r with
  | ok f => exact hr
  | error e => exact hr.elim))) hs
theorem gx_for {X : Type} (σf : List D → X → List (Option D)) (of : List D → X → List (Addr × MO)) (P : List D → X → Prop) {ds : List D} {x₀ : X} {target iter : Expr} {body rest : List Stmt} {pos : Pos} {Q : Flow → Gh → Prop}
  (r : Room A n) (hit : PItM K n g iter env ds) (F : Frm K b S' fn cs env nm (σf ds x₀) (of ds x₀) g) (hP : P ds x₀)
  (turn : ∀ d ds x ms g v, P (d :: ds) x → Frm K b S' fn cs env nm (σf (d :: ds) x) (ms ++ of (d :: ds) x) g → Rep g.im d v →
   gwp K A (assign target env v) (fun _ g₁ => gwp K A (execs body env) (fun f g₂ => match f with
    | .next | .cont => ∃ x', P ds x' ∧ Frm K b S' fn cs env nm (σf ds x') (ms ++ of ds x') g₂
    | .brk => False
    | .ret v => Q (.ret v) g₂) g₁) g)
  (fin : ∀ x g, P [] x → Frm K b S' fn cs env nm (σf [] x) (of [] x) g → gwp K A (execs rest env) Q g)
  (hs : ∀ x, foldedSetIterable iter env x = pure x := by intro _; rfl) : gwp K A (execs (.For target iter body [] pos :: rest) env) Q g := by
 refine Z10 (Z269 (Z9 (hit A r g (LeX.refl _ _)) fun x g₁ h₁ => Z9 h₁ fun it g₂ z₀ s ok => E0_2 z₀ fun l v00 => E2_3 v00 fun T ms hm hh hf => ?_) hs)
 have hk0 : ∀ ds', (ms ds').map (·.1) = T := hm.keys
 have F₂ : Frm K b S' fn cs env nm (σf ds x₀) (ms ds ++ of ds x₀) g₂ := (F.up l).adopt F hh (by rw [hk0]; exact hm.nodup) (by rw [hk0]; exact hf) (by
  rw [hk0]
  intro a ha
  have := hf a ha
  by_cases hS : a ∈ S'
  ·exact .inl hS
  ·cases e : b.mu a with
   | none => exact .inr rfl
   | some o => have := F.le.mu a o hS e; cases ((hf a ha).symm.trans this))
 refine codeAny_forLoop_any (fun k s' => ∃ ds' x g', g'.Ok K.B s' ∧ P ds' x ∧ Frm K b S' fn cs env nm (σf ds' x) (ms ds' ++ of ds' x) g' ∧ k = ds'.length) ?_ ds.length ⟨ds, x₀, g₂, ok, hP, F₂, rfl⟩
 rintro k s' ⟨ds', x, g', ok', hP', F', rfl⟩
 have hH : Holds (ms ds') g' := fun p hp => E1_3 (F'.own p (List.mem_append.mpr (.inl hp))) fun o h1 h2 _ => ⟨o, h1, h2⟩
 cases ds' with
 | nil =>
  refine wM1_3 (hm.done r.1 hH s' _ ok') (fun o s₁ g₁ ok₁ l₁ e => ?_)
  subst e
  exact wpAny_execs_nil ⟨g₁, ok₁, fin x g₁ hP' (F'.lose (by rw [hk0]; exact l₁) fun p hp o w hp' => hm.cell p hp o w hp')⟩
 | cons d ds' =>
  refine wM1_3 (hm.item r.1 hH s' _ ok') (fun o s₁ g₁ ok₁ l₁ v00 => E1_3 v00 fun v e hv hgo => ?_)
  subst e
  refine wM1_3 (hgo target A s₁ _ ok₁) (fun _ s₂ g₂' ok₂ l₂ h₂ => ?_)
  have F₃ : Frm K b S' fn cs env nm (σf (d :: ds') x) (ms ds' ++ of (d :: ds') x) g₂' := F'.advance (by rw [hk0]; exact l₁.trans l₂) (by rw [hk0, hk0]) h₂ fun p hp o w hp' => hm.cell p hp o w hp'
  refine wM1_2 (turn d ds' x _ g₂' v hP' F₃ (hv.mono l₂.im) s₂ _ ok₂) (fun _ s₃ g₃ ok₃ h₃ => wM1_2 (h₃ s₃ _ ok₃) (fun f s₄ g₄ ok₄ h₄ => ?_))
  cases f with
  | next => obtain ⟨x', h5, h6⟩ := h₄; exact ⟨ds'.length, by exact Nat.le_refl _, ds', x', g₄, ok₄, h5, h6, rfl⟩
  | cont => obtain ⟨x', h5, h6⟩ := h₄; exact ⟨ds'.length, by exact Nat.le_refl _, ds', x', g₄, ok₄, h5, h6, rfl⟩
  | brk => exact h₄.elim
  | ret v => exact ⟨g₄, ok₄, h₄⟩
set_option genSizeOf false in
inductive Src where
 | no
 | glob (v : Value)
 | outer (j : Nat)
noncomputable def srcSt (σ : List (Option D)) (src : List Src) : List (Option D) := src.map fun x => match x with | .no => none | .glob v => some (.raw v) | .outer j => (σ[j]?).getD none
noncomputable def relab (nm names : List (Str × NameKind)) : List (Str × NameKind) := names.map fun (n, k) => if (k == .free && nm.lookup n == some .cell) then (n, .cell) else (n, k)
noncomputable def srcOk1 (nm : List (Str × NameKind)) (x : Str) (k : NameKind) : Src → Bool
 | .no => k != .free
 | .glob _ => k == .globalImplicit
 | .outer j => k == .free && (nm[j]? == some (x, .cell) || nm[j]? == some (x, .free))
noncomputable def srcOk (nm names : List (Str × NameKind)) (src : List Src) : Bool := src.length == names.length && (List.range names.length).all fun i => match names[i]?, src[i]? with
 | some (x, k), some s => srcOk1 nm x k s
 | _, _ => false
theorem Z120 {names : List (Str × NameKind)} {src : List Src} (h : srcOk nm names src = true) {i : Nat} {x : Str} {k : NameKind} (hi : names[i]? = some (x, k)) : ∃ s, src[i]? = some s ∧ srcOk1 nm x k s = true := by
 unfold srcOk at h
 simp only [Bool.and_eq_true, List.all_eq_true, List.mem_range] at h
 have := h.2 i (List.getElem?_eq_some_iff.mp hi).1
 rw [hi] at this
 cases e : src[i]? with
 | none => rw [e] at this; cases this
 | some s => rw [e] at this; exact ⟨s, rfl, this⟩
theorem Z210 {src : List Src} {i : Nat} {d : D} (h : (srcSt σ src)[i]? = some (some d)) : (∃ v, src[i]? = some (.glob v) ∧ d = .raw v) ∨ (∃ j, src[i]? = some (.outer j) ∧ σ[j]? = some (some d)) := by
 unfold srcSt at h
 rw [List.getElem?_map] at h
 cases e : src[i]? with
 | none => rw [e] at h; cases h
 | some s =>
  rw [e] at h
  clear e; cases s with
  | no => simp at h
  | glob v => simp at h; exact .inl ⟨v, rfl, h.symm⟩
  | outer j =>
   simp at h
   refine .inr ⟨j, rfl, ?_⟩
   cases e' : σ[j]? with
   | none => rw [e'] at h; simp at h
   | some o => rw [e'] at h; simp at h; rw [h]
theorem Z49 {names : List (Str × NameKind)} {src : List Src} (h : srcOk nm names src = true) : startOk names (srcSt σ src) := fun i x k d hi hd => by
 refine E1_2 (Z120 h hi) fun s hs h1 => ?_
 rcases Z210 hd with ⟨v, e, _⟩ | ⟨j, e, _⟩
 ·clear hd hi; cases ((hs).symm.trans e)
  simp [srcOk1] at h1; subst h1; exact ⟨by decide, by decide⟩
 ·clear hd hi; cases ((hs).symm.trans e)
  simp [srcOk1] at h1; rw [h1.1]; exact ⟨by decide, by decide⟩
noncomputable def GlobsAre (B : Base) (names : List (Str × NameKind)) (src : List Src) : Prop := ∀ (i : Nat) (x : Str) (v : Value), names[i]? = some (x, NameKind.globalImplicit) → src[i]? = some (.glob v) → GlobIs B x v
theorem Z66 {names : List (Str × NameKind)} {src : List Src} (h : srcOk nm names src = true) (hg : GlobsAre B names src) : globOk B names (srcSt σ src) := fun i x d hi hd => by
 refine E1_2 (Z120 h hi) fun s hs h1 => ?_
 rcases Z210 hd with ⟨v, e, rfl⟩ | ⟨j, e, _⟩
 ·exact ⟨v, rfl, hg i x v hi e⟩
 ·cases ((hs).symm.trans e)
  simp [srcOk1] at h1
noncomputable def closOf (cells : List (Str × Addr)) : List (Str × NameKind) → List (Str × Addr) → List (Str × Addr)
 | [], acc => acc
 | (x, k) :: r, acc => if k == .free then closOf cells r ((x, (cells.lookup x).getD 0) :: acc) else closOf cells r acc
theorem Z72 {scope : Scope} (h : ∀ x, (x, NameKind.free) ∈ scope.names → ∃ c, env.cells.lookup x = some c) : closureFor scope env = pure (closOf env.cells scope.names []) := by
 unfold closureFor
 generalize ([] : List (Str × Addr)) = acc
 generalize scope.names = names at h ⊢
 have key : ∀ (names : List (Str × NameKind)) (acc : List (Str × Addr)), (∀ x, (x, NameKind.free) ∈ names → ∃ c, env.cells.lookup x = some c) →
   (forIn names acc fun x cs => (match x with
    | (name, kind) => (if (kind == NameKind.free) = true then (do let c ← cellOf env name; pure (ForInStep.yield ((name, c) :: cs))) else pure (ForInStep.yield cs) : Sem _))) = (pure (closOf env.cells names acc) : Sem _) := by
  intro names
  induction names with
  | nil => intro acc _; rfl
  | cons y r ih =>
   intro acc h
   obtain ⟨x, k⟩ := y
   rw [List.forIn_cons]
   have ihr := ih
   unfold closOf
   by_cases hk : (k == NameKind.free) = true
   ·have hk' : k = .free := by lia
    subst hk'
    refine E1_1 (h x (by exact .head _)) fun c hc => ?_
    dsimp only [hk, if_true]
    have : cellOf env x = pure c := by unfold cellOf; rw [hc]
    rw [this, hc]
    exact ihr _ fun z hz => h z (List.mem_cons_of_mem _ hz)
   ·simp only [hk, if_false]
    exact ihr _ fun z hz => h z (List.mem_cons_of_mem _ hz)
 have := key names acc h
 first | exact this | (simp only [bind_pure]; exact this)
theorem Z77 {cells : List (Str × Addr)} : ∀ {names : List (Str × NameKind)} {acc : List (Str × Addr)} {p : Str × Addr}, p ∈ closOf cells names acc → p ∈ acc ∨ ((p.1, NameKind.free) ∈ names ∧ p.2 = (cells.lookup p.1).getD 0)
 | [], _, _, h => .inl h
 | (x, k) :: r, acc, p, h => by
  unfold closOf at h
  split at h
  ·rename_i hk
   have hk' : k = .free := by lia
   clear hk; subst hk'
   rcases Z77 h with h | ⟨h1, h2⟩
   ·rcases List.mem_cons.mp h with rfl | h
    ·exact .inr ⟨by exact .head _, rfl⟩
    ·exact .inl h
   ·exact .inr ⟨List.mem_cons_of_mem _ h1, h2⟩
  ·rcases Z77 h with h | ⟨h1, h2⟩
   ·exact .inl h
   ·exact .inr ⟨List.mem_cons_of_mem _ h1, h2⟩
theorem Z91 {cells : List (Str × Addr)} : ∀ (names : List (Str × NameKind)) (acc : List (Str × Addr)), (closOf cells names acc).map (·.1) = ((names.filter (·.2 == .free)).map (·.1)).reverse ++ acc.map (·.1)
 | [], acc => by exact rfl
 | (x, k) :: r, acc => by
  unfold closOf
  split
  ·rename_i hk
   rw [Z91 r]; simp [hk]
  ·rename_i hk
   rw [Z91 r]; simp [hk]
theorem Frm.clos (F : Frm K b S' fn cs env nm σ own g) {names : List (Str × NameKind)} {src : List Src} (hn : NamesOk names) (h : srcOk nm names src = true) :
  (∀ x, (x, NameKind.free) ∈ names → ∃ c, env.cells.lookup x = some c) ∧ ClosOk names (closOf env.cells names []) (srcSt σ src) g := by
 have hat : ∀ (i : Nat) (x : Str), names[i]? = some (x, NameKind.free) → ∃ j k, src[i]? = some (.outer j) ∧ nm[j]? = some (x, k) ∧ (k = .cell ∨ k = .free) := fun i x hi => by
  refine E1_2 (Z120 h hi) fun s hs h1 => ?_
  cases s with
  | no => simp [srcOk1] at h1
  | glob v => simp [srcOk1] at h1
  | outer j =>
   simp [srcOk1] at h1
   rcases h1 with h1 | h1
   ·exact ⟨j, _, hs, h1, .inl rfl⟩
   ·exact ⟨j, _, hs, h1, .inr rfl⟩
 have hmem : ∀ x, (x, NameKind.free) ∈ names → ∃ j k c o w, nm[j]? = some (x, k) ∧ env.cells.lookup x = some c ∧ g.has c o ∧ o.data = .cell w := fun x hx => by
  refine E1_1 (List.getElem?_of_mem hx) fun i hi => ?_
  refine E2_3 (hat i x hi) fun j k h1 h2 h3 => ?_
  refine E3_4 (F.cel j x k h2 h3) fun c o w e1 e2 e3 _ => ?_
  exact ⟨j, k, c, o, w, h2, e1, e2, e3⟩
 refine ⟨fun x hx => E5_3 (hmem x hx) fun _ _ c _ _ _ e _ => ⟨c, e⟩, fun i x hi => ?_, fun p hp => ?_, ?_⟩
 ·refine E2_3 (hat i x hi) fun j k h1 h2 h3 => ?_
  refine E3_4 (F.cel j x k h2 h3) fun c o w e1 e2 e3 e4 => ?_
  have hx : x ∈ (closOf env.cells names []).map (·.1) := by
   rw [Z91, List.mem_append, List.mem_reverse, List.mem_map]
   exact .inl ⟨(x, .free), List.mem_filter.mpr ⟨List.mem_of_getElem? hi, rfl⟩, rfl⟩
  refine E1_2 (Z161 hx) fun c' a1 a2 => ?_
  have : c' = c := by
   rcases Z77 a2 with a2 | ⟨_, a2⟩
   ·clear hx h3 hi hat; cases a2
   ·rw [e1] at a2; exact a2
  clear a2 hx h3 hi hat; subst this
  refine ⟨c', o, w, a1, e2, e3, fun d hd => ?_⟩
  rcases Z210 hd with ⟨v, e, _⟩ | ⟨j', e, hj⟩
  ·clear hd a1; cases ((h1).symm.trans e)
  ·clear hd a1; cases ((h1).symm.trans e)
   exact e4 d hj
 ·rcases Z77 hp with hp | ⟨h1, h2⟩
  ·clear hat; cases hp
  ·refine E5_4 (hmem _ h1) fun j k c o w _ e1 e2 _ => ?_
   rw [e1] at h2
   exact ⟨o, by rw [h2]; exact e2⟩
 ·have hnd : ((closOf env.cells names []).map (·.1)).Nodup := by
   rw [Z91, List.map_nil, List.append_nil]
   exact ((List.reverse_perm _).nodup_iff).mpr (((List.filter_sublist (l := names)).map (fun x : Str × NameKind => x.1)).nodup hn.ndup)
  rw [List.nodup_iff_pairwise_ne, List.pairwise_map] at hnd ⊢
  refine hnd.imp_of_mem fun {p q} hp hq hne he => hne ?_
  rcases Z77 hp with hp | ⟨p1, p2⟩
  ·clear hne hnd hat; cases hp
  rcases Z77 hq with hq | ⟨q1, q2⟩
  ·clear hne hp hnd hat; cases hq
  refine E5_4 (hmem _ p1) fun j k c o w hj e1 _ _ => ?_
  refine E5_4 (hmem _ q1) fun j' k' c' o' w' hj' e1' _ _ => ?_
  rw [e1] at p2; rw [e1'] at q2
  have hcc : c = c' := by
   have h1 : p.2 = c := p2
   have h2 : q.2 = c' := q2
   rw [← h1, ← h2]; exact he
  clear q2 p2 q1 p1 he hne hq hp hnd hmem hat; subst hcc
  have := F.cinj j j' p.1 q.1 k k' c hj hj' e1 e1'
  clear e1' e1 F; subst this
  exact congrArg (·.1) (Option.some.inj (hj.symm.trans hj'))
theorem Frm.relab {nm' : List (Str × NameKind)} {env' : Env} (F : Frm K b S' fn cs env nm σ own g) (hs : env'.scope.names = nm') (hk : env'.scope.kind = .function) (hl : env'.locals = env.locals) (hg : env'.globals = env.globals) (hc : env'.cells = env.cells) (hb : env'.builtins = env.builtins)
  (h : ∀ (i : Nat) (x : Str) (k : NameKind), nm'[i]? = some (x, k) → ∃ k', nm[i]? = some (x, k') ∧ (k = k' ∨ (k = .cell ∧ k' = .free))) (hlen : nm'.map (·.1) = nm.map (·.1)) (hfn : ∀ i ∈ fn, ∀ x, nm'[i]? = some (x, NameKind.cell) → nm[i]? = some (x, NameKind.cell)) :
  Frm K b S' fn cs env' nm' σ own g where
 le := F.le
 names := hs
 kind := hk
 ndup := by rw [hlen]; exact F.ndup
 ndbg := fun x hx => by
  have : x.1 ∈ nm.map (·.1) := by rw [← hlen]; exact List.mem_map_of_mem (f := (·.1)) hx
  refine E1_2 (List.mem_map.mp this) fun y hy e => ?_
  rw [← e]; exact F.ndbg y hy
 globals := hg.trans F.globals
 builtins := hb.trans F.builtins
 loc := E2_3 F.loc fun o f e hh r => ⟨o, f, by rw [hl]; exact e, hh, fun i x d h1 h2 => by
  refine E1_2 (h i x _ h1) fun k' h3 h4 => ?_
  rcases h4 with rfl | ⟨h4, _⟩
  ·exact r i x d h3 h2
  ·cases h4⟩
 cel := fun i x k h1 h2 => by
  refine E1_2 (h i x k h1) fun k' h3 h4 => ?_
  rw [hc]
  refine F.cel i x k' h3 ?_
  rcases h4 with rfl | ⟨_, h4⟩
  ·exact h2
  ·exact .inr h4
 glo := fun i x d h1 h2 => by
  refine E1_2 (h i x _ h1) fun k' h3 h4 => ?_
  rcases h4 with rfl | ⟨h4, _⟩
  ·exact F.glo i x d h3 h2
  ·cases h4
 cw := fun i x h1 h2 => by rw [hc]; exact F.cw i x h1 (hfn i h1 x h2)
 csm := F.csm
 cinj := fun i j x y k k' c hi hj h1 h2 => by
  refine E1_2 (h i x k hi) fun k1 h3 _ => ?_
  refine E1_2 (h j y k' hj) fun k2 h4 _ => ?_
  rw [hc] at h1 h2
  exact F.cinj i j x y k1 k2 c h3 h4 h1 h2
 apart := by rw [hl]; exact F.apart
 fresh := by rw [hl]; exact F.fresh
 own := F.own
structure Tgt (K : Wd) (nm : List (Str × NameKind)) (fn : List Nat) (target : Expr) (σ₀ : List (Option D)) (d : D) (σ₁ : List (Option D)) : Prop where
 set : ∀ {A : Around} {env : Env} {g b : Gh} {S : List Addr} {cs : List Addr} {own : List (Addr × MO)} {v : Value}, A.handled = none → Frm K b S fn cs env nm σ₀ own g → Rep g.im d v →
  gwp K A (assign target env v) (fun _ g' => LeX (env.locals :: cs) g g' ∧ Frm K b S fn cs env nm σ₁ own g') g
theorem Z12 {x : Str} {pos : Pos} {v : Value} {Q : Unit → Gh → Prop} (h : gwp K A (storeName env x v) Q g) : gwp K A (assign (.Name x pos) env v) Q g := fun s E ok => wpAny_assign_Name (h s E ok)
theorem Tgt.loc {x : Str} {pos : Pos} {i : Nat} {d : D} (h : nm[i]? = some (x, NameKind.local)) : Tgt K nm fn (.Name x pos) σ d (σ.set i (some d)) :=
 ⟨fun hh F hv => Z12 (F.storeLocal h hv fun g' l F' => ⟨l.sub (by exact all1 (.head _)), F'⟩)⟩
theorem Tgt.cel {x : Str} {pos : Pos} {i : Nat} {d : D} (h : nm[i]? = some (x, NameKind.cell)) (hin : i ∈ fn) : Tgt K nm fn (.Name x pos) σ d (σ.set i (some d)) :=
 ⟨fun hh F hv => Z12 (F.storeCell h hin hv fun g' l F' => ⟨l.sub (fun a ha => List.mem_cons_of_mem _ ha), F'⟩)⟩
theorem Z106 {elts : List Expr} {k : Nat} {pos : Pos} {v : Value} {ds : List D} {Q : Unit → Gh → Prop} (hh : A.handled = none) (hv : Rep g.im (.tup ds) v)
  (h : ∀ vs g', Le g g' → Reps g'.im ds vs → gwp K A (assignInOrder ((assignEach elts env).map (·.2)) vs) Q g') (hn : (assignEach elts env).length = ds.length) (hstar : (assignEach elts env).findIdx? (·.1) = none) : gwp K A (assign (.Tuple elts k pos) env v) Q g := by
 have e : assign (.Tuple elts k pos) env v = (do standAt pos; unpack v (assignEach elts env)) := rfl
 rw [e]
 refine Z1 (Z28 ?_)
 unfold unpack
 rw [hn, hstar]
 exact Z1 (Z18 (Z58 hv hh rfl h))
theorem Tgt.pair {x y : Expr} {k : Nat} {pos : Pos} {d₁ d₂ : D} {σ₁ σ₂ : List (Option D)} (hx : Tgt K nm fn x σ d₁ σ₁) (hy : Tgt K nm fn y σ₁ d₂ σ₂)
  (he : ∀ env : Env, assignEach [x, y] env = [(false, assign x env), (false, assign y env)] := by intro; rfl) : Tgt K nm fn (.Tuple [x, y] k pos) σ (.tup [d₁, d₂]) σ₂ :=
 ⟨fun {A env g b S cs own v} hh F hv => by
  refine Z106 hh hv (fun vs g' l rs => ?_) (by rw [he]; rfl) (by rw [he]; rfl)
  rw [he]
  dsimp only [Reps] at rs
  obtain ⟨v1, _, rfl, r1, v2, _, rfl, r2, rfl⟩ := rs
  show gwp K A (do holding [v2] (assign x env v1); holding [] (assign y env v2); pure ()) _ g'
  refine Z1 (Z18 (gM0_2 (hx.set hh (F.up l) r1) fun _ g₁ l₁ F₁ => Z1 (Z18 (gM0_2 (hy.set hh F₁ (r2.mono l₁.im)) fun _ g₂ l₂ F₂ => Z4 ⟨(LeX.of l).trans (l₁.trans l₂), F₂⟩))))⟩
noncomputable def compTestsOf (ifs : List Expr) (env : Env) : Sem Bool := forIn ifs true fun c r => if r = true then do let ok ← isTrue c env (eval c env); pure (ForInStep.yield ok) else pure (ForInStep.yield r)
theorem gwp_tests_nil {Q : Bool → Gh → Prop} (h : Q true g) : gwp K A (compTestsOf [] env) Q g := Z4 h
theorem gwp_tests_one {c : Expr} {Q : Bool → Gh → Prop} (h : gwp K A (isTrue c env (eval c env)) Q g) : gwp K A (compTestsOf [c] env) Q g := fun s E ok => wpAny_tests_one (h s E ok)
theorem Z260 {elt target iter : Expr} {ifs : List Expr} {scope : Scope} {pos : Pos} {it acc : Value} {R : Result → Shared → Prop} {Fin : Gh → Prop} (J : Nat → Gh → Prop)
  (hR : ∀ g s, g.Ok K.B s → Fin g → R (.ok .next) s)
  (turn : ∀ k g, J k g → gwp K A (pyNext it) (fun r g₁ => match r with
   | none => Fin g₁
   | some v => gwp K A (letOwnedTupleGo target it v) (fun _ g₂ => gwp K A (assign target env v) (fun _ g₃ => gwp K A (compTestsOf ifs env) (fun ok g₄ =>
     if ok = true then gwp K A (eval elt env) (fun x g₅ => gwp K A (call (.builtin "list.append") [acc, x]) (fun _ g₆ => ∃ m, m < k ∧ J m g₆) g₅) g₄ else ∃ m, m < k ∧ J m g₄) g₃) g₂) g₁) g)
  (k : Nat) {s : Shared} (ok : g.Ok K.B s) (h : J k g) : codeAny (model K.prog K.w) A (.compLoop (.ListComp elt [⟨target, iter, ifs, 0⟩] scope pos) 0 it acc env) R s := by
 refine codeAny_loop rfl (fun k s => ∃ g, g.Ok K.B s ∧ J k g) (fun k s ⟨g, ok, hJ⟩ => ?_) k ⟨g, ok, h⟩
 show wpAny _ _ ((compTurn (.ListComp elt [⟨target, iter, ifs, 0⟩] scope pos) 0 it acc env).onRaise (fun x => do noteFrame x env; theTreesLotGoes x)) _ _ s
 refine wpAny_noted ?_
 rw [compTurn_list]
 refine wpAny_bind (wpAny_standAt (wpAny_bind (wpAny_mono (turn k g hJ s _ ok) (fun r s₁ z₀ => E1_2 z₀ fun g₁ ok₁ h₁ => ?_) fun _ _ h' => h')))
 cases r with
 | none => exact wpAny_pure (hR g₁ s₁ ok₁ h₁)
 | some v =>
  refine wpAny_bind (wpAny_mono (h₁ s₁ _ ok₁) (fun _ s₂ z₀ => E1_2 z₀ fun g₂ ok₂ h₂ => ?_) fun _ _ h' => h')
  refine wpAny_bind (wpAny_mono (h₂ s₂ _ ok₂) (fun _ s₃ z₀ => E1_2 z₀ fun g₃ ok₃ h₃ => wpAny_bind (wpAny_mono (h₃ s₃ _ ok₃) (fun ok s₄ z₀ => E1_2 z₀ fun g₄ ok₄ h₄ => ?_) fun _ _ h' => h')) fun _ _ h' => h')
  cases ok with
  | false => exact wpAny_pure ⟨rfl, by obtain ⟨m, h5, h6⟩ := h₄; exact ⟨m, h5, g₄, ok₄, h6⟩⟩
  | true =>
   exact wpAny_bind (wpAny_bind (wpAny_mono (h₄ s₄ _ ok₄) (fun x s₅ z₀ => E1_2 z₀ fun g₅ ok₅ h₅ => wpAny_bind (wpAny_mono (h₅ s₅ _ ok₅) (fun _ s₆ z₀ => E1_2 z₀ fun g₆ ok₆ v00 => E1_2 v00 fun m h6 h7 => wpAny_pure (wpAny_pure ⟨rfl, m, h6, g₆, ok₆, h7⟩)) fun _ _ h' => h')) fun _ _ h' => h'))
theorem Z280 {a : Addr} {its : Array Value} {m : Nat} {x : Value} {Q : Value → Gh → Prop} (h : g.mu a = some (sq "list" its m)) (hsz : its.size ≤ sizeLine) (q : ∀ m', Q .none (g.setMu a (sq "list" (its.push x) m'))) : gwp K A (call (.builtin "list.append") [.ref a, x]) Q g := fun s E ok => by
 have hl : s.heap.IsList a its := ⟨_, ok.mu _ _ h, rfl, m, rfl⟩
 refine wpAny_call_entry slot_list_append hl.typeIs entry_list_append ?_ (args_list_append _ _)
 show wpAny _ _ (updateSeq a (·.push x) >>= fun _ => ret .none) _ _ s
 refine wpAny_bind ?_
 refine wpAny_updateSeq (ok.mu _ _ h) rfl (wpAny_pure ⟨.none, rfl, ?_⟩)
 exact ⟨_, ok.upd h rfl, q _⟩
theorem relab_eq (F : Frm K b S' fn cs env nm σ own g) (scope : Scope) : (relabel scope env).names = relab nm scope.names := by
 delta relabel relab
 show scope.names.map _ = scope.names.map _
 refine List.map_congr_left fun x hx => ?_
 obtain ⟨y, k⟩ := x
 have h1 : env.kindOf y = nm.lookup y := by delta Env.kindOf; rw [F.names]
 have h2 : (env.scope.kind == ScopeKind.function) = true := by rw [F.kind]; rfl
 simp only [h1, h2, Bool.and_true]
theorem Z152 {names : List (Str × NameKind)} {i : Nat} {x : Str} {k : NameKind} (h : (relab nm names)[i]? = some (x, k)) : ∃ k', names[i]? = some (x, k') ∧ (k = k' ∨ (k = .cell ∧ k' = .free)) := by
 unfold relab at h
 rw [List.getElem?_map] at h
 cases e : names[i]? with
 | none => rw [e] at h; cases h
 | some y =>
  rw [e] at h
  obtain ⟨y, ky⟩ := y
  dsimp only [Option.map_some] at h
  by_cases hc : (ky == NameKind.free && nm.lookup y == some NameKind.cell) = true
  ·clear e; rw [if_pos hc] at h; cases h
   rw [Bool.and_eq_true] at hc
   exact ⟨ky, rfl, .inr ⟨rfl, by exact of_decide_eq_true hc.1⟩⟩
  ·clear e; rw [if_neg hc] at h; cases h
   exact ⟨k, rfl, .inl rfl⟩
theorem relab_names (names : List (Str × NameKind)) : (relab nm names).map (·.1) = names.map (·.1) := by
 delta relab
 rw [List.map_map]
 refine List.map_congr_left fun x hx => ?_
 obtain ⟨y, k⟩ := x
 show (if _ then _ else _ : Str × NameKind).1 = y
 split <;> rfl
noncomputable def backOk (σ₀ σ₁ : List (Option D)) : Prop := ∀ (i : Nat) (d : D), σ₀[i]? = some (some d) → σ₁[i]? = some (some d)
noncomputable abbrev compEnv (scope : Scope) (L : Addr) (cells : List (Str × Addr)) (env : Env) : Env := { newEnv scope L mainGlobals cells env.qual none .none (some env) builtinsNs with scope := relabel scope env }
theorem comp_core {elt target iter : Expr} {ifs : List Expr} {scope : Scope} {pos : Pos} {src : List Src} {fn' : List Nat} {R S : List Addr} {ds : List D} {σ₁ : D → List (Option D)} {use : Option (Value → Sem Unit)} {E : Value → Shared → Prop} {Q : Value → Shared → Prop} (I : List D → List D → Gh → Prop)
  (r : Room A n) (F : Frm K b S' fn cs env nm σ own g) (hn : NamesOk scope.names) (hk : scope.kind = .function) (hsrc : srcOk nm scope.names src = true) (hg : GlobsAre K.B scope.names src)
  (hfn : ∀ i ∈ fn', ∀ x, scope.names[i]? ≠ some (x, NameKind.free))
  (hS : ∀ a ∈ S, (∃ o, g.mu a = some o) ∧ a ∉ R) (hRm : ∀ a ∈ R, ∃ o, g.mu a = some o) (hSc : ∀ rest out g, I rest out g → ∀ a ∈ S, ∀ o w, g.mu a = some o → o.data ≠ .cell w)
  (htgt : ∀ d ∈ ds, Tgt K (relab nm scope.names) fn' target (srcSt σ src) d (σ₁ d)) (hback : ∀ d ∈ ds, backOk (srcSt σ src) (σ₁ d))
  (hI : ∀ rest out g g' W, I rest out g → LeX W g g' → (∀ a ∈ W, a ∉ S) → I rest out g')
  (hIl : ∀ rest out g, I rest out g → out.length ≤ ds.length)
  (hsz : ds.length ≤ sizeLine)
  (step : ∀ d rest out g' L cells cs', d ∈ ds → I (d :: rest) out g' → Frm K g S fn' cs' (compEnv scope L cells env) (relab nm scope.names) (σ₁ d) [] g' →
   gwp K A (compTestsOf ifs (compEnv scope L cells env)) (fun ok g₁ => LeX S g' g₁ ∧ if ok = true then gwp K A (eval elt (compEnv scope L cells env)) (fun v g₂ => LeX S g₁ g₂ ∧ ∃ e, Rep g₂.im e v ∧ I rest (out ++ [e]) g₂) g₁ else I rest out g₁) g')
  {it : Value} {g₂ : Gh} (hit : NewIt K R ds g it g₂) (hi : I ds [] g₂)
  (fin : ∀ out C o v g' s', g'.Ok K.B s' → LeX S g g' → I [] out g' → Rep g'.im (.lst out) v → g.mu C = none → g'.mu C = some o → (∃ es ep, o.data = .dict es ep ∧ StrKeys es) → compPost (model K.prog K.w) A E use Q v C (.ok .next) s') :
  ∀ s, g₂.Ok K.B s → wpAny (model K.prog K.w) A (newList []) (fun acc s₃ => wpAny (model K.prog K.w) A (newFunctionEnv scope env.globals (closOf env.cells scope.names []) [] env.qual none .none (some env)) (fun cenv s₄ =>
    codeAny (model K.prog K.w) A (.compStart (.ListComp elt [⟨target, iter, ifs, 0⟩] scope pos) 0 it acc { cenv with scope := relabel scope env }) (compPost (model K.prog K.w) A E use Q acc cenv.locals) s₄) E s₃) E s := by
 intro s ok
 obtain ⟨l, T, St, hIt, hSt, hT⟩ := hit
 have F₂ := F.up l
 refine wpAny_mono (Z198 (K := K) (A := A) (T := "list") (vs := []) (Q := fun v g' => ∃ Dl, v = .ref Dl ∧ g₂.im Dl = none ∧ g₂.mu Dl = none ∧ g' = g₂.setMu Dl (sq "list" #[] 0)) (by simp [sizeLine]) (fun Dl h1 h2 => ⟨Dl, rfl, h1, h2, rfl⟩) s E ok) (fun acc s₃ h => ?_) fun _ _ z => z
 obtain ⟨g₃, ok₃, Dl, e, hD1, hD2, eg⟩ := h
 clear hD1; subst e; subst eg
 have l₃ : Le g₂ (g₂.setMu Dl (sq "list" #[] 0)) := Le.addMu hD2
 generalize hg3 : g₂.setMu Dl (sq "list" #[] 0) = g₃ at l₃ ok₃
 have hDm : g₃.mu Dl = some (sq "list" #[] 0) := by rw [← hg3]; exact Gh.setMu_self
 have l₀ : Le g g₃ := l.trans l₃
 have F₃ := F₂.up l₃
 refine E0_2 (F₃.clos hn hsrc) fun hfree hclos => ?_
 rw [F.globals]
 have key := Z277 (K := K) (A := A) (fn := fn') (S' := []) (g := g₃) (scope := scope) (closure := closOf env.cells scope.names []) (binds := []) (bi := []) (qual := env.qual) (func := none) (code := .none) (around := some env)
  (Q := fun env' g' => ∃ L cells cs', env' = newEnv scope L mainGlobals cells env.qual none .none (some env) builtinsNs ∧ g₃.mu L = none ∧ (∀ c ∈ cs', g₃.mu c = none) ∧ Frm K g₃ [] fn' cs' env' scope.names (srcSt σ src) [] g')
  hn hk (Z49 hsrc) (Z66 hsrc hg) hclos trivial (by intro o e; cases e; exact F.builtins) (fun L cells cs' g' h1 _ h3 F' => ⟨L, cells, cs', rfl, h1, fun c hc => (h3 c hc).1, F'⟩)
 refine wpAny_mono (key s₃ E ok₃) (fun cenv s₄ h => ?_) fun _ _ z => z
 obtain ⟨g₄, ok₄, L, cells, cs', e, hL, hcs, F₄⟩ := h
 clear key hclos hfree F₃ hg3 F₂ hsrc; subst e
 have l₄ : Le g₃ g₄ := F₄.le
 have hlocL : ∀ (a : Addr) (o : Obj), g₃.mu a = some o → a ∉ L :: cs' := fun a o ho hm => by
  rcases List.mem_cons.mp hm with rfl | hm
  ·cases ((hL).symm.trans ho)
  ·cases ((hcs a hm).symm.trans ho)
 have hTm : ∀ a ∈ T, ∃ o, g₂.mu a = some o := fun a ha => hIt.mem hSt a ha
 have hTL : ∀ a ∈ T, a ∉ L :: cs' := fun a ha => E1_1 (hTm a ha) fun o ho => hlocL a o (l₃.at ho)
 have hTD : Dl ∉ T := fun hm => by obtain ⟨o, ho⟩ := hTm _ hm; cases ((hD2).symm.trans ho)
 have hTS : ∀ a ∈ S, a ∉ T := fun a ha hm => by obtain ⟨o, ho⟩ := (hS a ha).1; cases (((hT a hm).1).symm.trans ho)
 have hSL : ∀ a ∈ S, a ∉ L :: cs' := fun a ha => E1_1 ((hS a ha).1) fun o ho => hlocL a o (l₀.at ho)
 have hRL : ∀ a ∈ R, a ∉ L :: cs' := fun a ha => E1_1 (hRm a ha) fun o ho => hlocL a o (l₀.at ho)
 have hDg : g.mu Dl = none := l.nomu hD2
 have hDS : Dl ∉ S := fun hm => by obtain ⟨o, ho⟩ := (hS _ hm).1; cases ((hDg).symm.trans ho)
 have hDR : Dl ∉ R := fun hm => by obtain ⟨o, ho⟩ := hRm _ hm; cases ((hDg).symm.trans ho)
 have hDL : Dl ∉ L :: cs' := hlocL _ _ hDm
 have F₅ : Frm K g S fn' cs' (compEnv scope L cells env) (relab nm scope.names) (srcSt σ src) [] g₄ := ((F₄.may (by exact all0)).rebase l₀).relab (relab_eq F scope) hk rfl rfl rfl rfl
  (fun i x k h => Z152 h) (relab_names _) (fun i hi x hx => by
   refine E1_2 (Z152 hx) fun k' h1 h2 => ?_
   rcases h2 with rfl | ⟨_, h2⟩
   ·exact h1
   ·clear hTm hlocL F₄ hcs hD2 hRm F; subst h2; exact absurd h1 (hfn i hi x))
 have hloc : (compEnv scope L cells env).locals = L := rfl
 have loop : ∀ g' s', g'.Ok K.B s' → Le g₃ g' → Frm K g S fn' cs' (compEnv scope L cells env) (relab nm scope.names) (srcSt σ src) [] g' → codeAny (model K.prog K.w) A (.compLoop (.ListComp elt [⟨target, iter, ifs, 0⟩] scope pos) 0 it (.ref Dl) (compEnv scope L cells env)) (compPost (model K.prog K.w) A E use Q (.ref Dl) L) s' := by
  intro g' s' ok' l' F'
  refine Z260 (Fin := fun g' => ∃ out its m, I [] out g' ∧ Frm K g S fn' cs' (compEnv scope L cells env) (relab nm scope.names) (srcSt σ src) [] g' ∧ g'.mu Dl = some (sq "list" its m) ∧ Reps g'.im out its.toList)
   (J := fun k g' => ∃ rest out its m, k = rest.length ∧ (∀ d ∈ rest, d ∈ ds) ∧ St rest g' ∧ I rest out g' ∧ Frm K g S fn' cs' (compEnv scope L cells env) (relab nm scope.names) (srcSt σ src) [] g' ∧ g'.mu Dl = some (sq "list" its m) ∧ Reps g'.im out its.toList)
   (fun g' s' ok' hf => ?_) (fun k g' hJ => ?_) ds.length ok'
   ⟨ds, [], #[], 0, rfl, fun d hd => hd, (hIt.frame hSt (l₃.trans l') (by exact all0)), hI _ _ _ _ _ hi (l₃.trans l') (by exact all0), F', l'.at hDm, Reps.nil⟩
  ·refine E3_4 hf fun out its m h1 h2 h3 h4 => ?_
   have hDi : g'.im Dl = none := by
    clear hf F' hTm hlocL F₄ hcs hDm hD2 hRm hfn F; cases e : g'.im Dl with
    | none => rfl
    | some o => exact (ok'.dis _ _ _ e h3).elim
   have lf : LeX [Dl] g' (g'.fix Dl (sq "list" its m)) := LeX.fix hDi
   refine E2_3 h2.loc ?_
   rintro o f e1 ⟨es, ep, e2, e3, _⟩ _
   refine fin out L o (.ref Dl) (g'.fix Dl (sq "list" its m)) s' (ok'.fix h3) ?_ (hI _ _ _ _ _ h1 lf (by simpa using hDS)) (Z16.mpr ⟨Dl, its, m, rfl, Gh.fix_self, h4.mono lf.im⟩) (l₀.nomu hL) (lf.mu _ _ (by simp only [List.mem_singleton]; rintro rfl; exact hDL (by exact .head _)) e1) ⟨es, ep, e2, e3⟩
   have l5 : LeX (Dl :: S) g (g'.fix Dl (sq "list" its m)) := (h2.le.sub (by simp_all)).trans (lf.sub (by exact all1 (.head _)))
   refine l5.forget fun a ha => ?_
   rcases List.mem_cons.mp ha with rfl | ha
   ·exact .inr hDg
   ·exact .inl ha
  ·refine E4_7 hJ ?_
   clear hJ F' hTm hlocL F₄ hcs hL hDm hD2 fin hRm hfn F; rintro rest out its m rfl hd hst hi' hF hm hr
   have other : ∀ {σ' g₁ g₂ W}, Frm K g S fn' cs' (compEnv scope L cells env) (relab nm scope.names) σ' [] g₁ → LeX W g₁ g₂ → (∀ a ∈ W, a ∉ L :: cs') → (∀ a ∈ W, g.mu a = none ∨ a ∈ S) → (∀ a ∈ W, ∀ o w, g₁.mu a = some o → o.data ≠ .cell w) → Frm K g S fn' cs' (compEnv scope L cells env) (relab nm scope.names) σ' [] g₂ :=
    fun hF l h1 h2 h3 => hF.other l (fun a ha hm => h1 a ha (by rw [List.map_nil, List.append_nil] at hm; exact hm)) h2 h3
   cases rest with
   | nil =>
    refine gM0_2 (hIt.done r.1 hst) fun o g₁ l₁ e => ?_
    subst e
    exact ⟨out, its, m, hI _ _ _ _ _ hi' l₁ (fun a ha hs => hTS a hs ha), other hF l₁ hTL (fun a ha => .inl (hT a ha).1) (fun a ha => hIt.cell hst a ha), l₁.mu _ _ hTD hm, hr.mono l₁.im⟩
   | cons d rest =>
    refine gM0_2 (hIt.item r.1 hst) fun o g₁ l₁ v00 => E1_3 v00 fun v e hv hgo => ?_
    subst e
    refine gM0_2 (hgo target A) fun _ g₂' l₂ hst₂ => ?_
    have l₁₂ := l₁.trans l₂
    have hF₂ := other hF l₁₂ hTL (fun a ha => .inl (hT a ha).1) (fun a ha => hIt.cell hst a ha)
    have hi₂ := hI _ _ _ _ _ hi' l₁₂ (fun a ha hs => hTS a hs ha)
    have hm₂ := l₁₂.mu _ _ hTD hm
    have hr₂ := hr.mono l₁₂.im
    refine gM0_2 ((htgt d (hd d (by exact .head _))).set r.1 hF₂ (hv.mono l₂.im)) fun _ g₃' l₃' hF₃ => ?_
    rw [hloc] at l₃'
    have hst₃ := hIt.frame hst₂ l₃' fun a ha => ⟨fun hm => hTL a hm ha, fun hm => hRL a hm ha⟩
    have hi₃ := hI _ _ _ _ _ hi₂ l₃' fun a ha hs => hSL a hs ha
    have hm₃ := l₃'.mu _ _ hDL hm₂
    have hr₃ := hr₂.mono l₃'.im
    refine gM0_2 (step d rest out g₃' L cells cs' (hd d (by exact .head _)) hi₃ hF₃) fun okk g₄' l₄' h₄ => ?_
    have hst₄ := hIt.frame hst₃ l₄' fun a ha => ⟨hTS a ha, (hS a ha).2⟩
    clear hm₂ hF₂ hgo hm hF hloc hRL hTL hT step htgt; cases okk with
    | false =>
     refine ⟨rest.length, by exact Nat.le_refl _, rest, out, its, m, rfl, fun x hx => hd x (by exact .tail _ hx), hst₄, h₄, ?_, l₄'.mu _ _ hDS hm₃, hr₃.mono l₄'.im⟩
     exact (other hF₃ l₄' hSL (fun a ha => .inr ha) (fun a ha => hSc _ _ _ hi₃ a ha)).less (hback d (hd d (by exact .head _)))
    | true =>
     refine gM0_2 h₄ fun x g₅ l₅ v00 => E1_2 v00 fun e he h₅ => ?_
     have l₄₅ := l₄'.trans l₅
     have hst₅ := hIt.frame hst₄ l₅ fun a ha => ⟨hTS a ha, (hS a ha).2⟩
     have hF₅ := other hF₃ l₄₅ hSL (fun a ha => .inr ha) (fun a ha => hSc _ _ _ hi₃ a ha)
     have hm₅ := l₄₅.mu _ _ hDS hm₃
     have hr₅ := hr₃.mono l₄₅.im
     have hlen : its.size = out.length := by rw [← Array.length_toList, hr.length]
     refine Z280 hm₅ (by rw [hlen]; exact Nat.le_trans (hIl _ _ _ hi') hsz) fun m' => ?_
     have l₆ : LeX [Dl] g₅ (g₅.setMu Dl (sq "list" (its.push x) m')) := LeX.setMu
     refine ⟨rest.length, by exact Nat.le_refl _, rest, out ++ [e], its.push x, m', rfl, fun x hx => hd x (by exact .tail _ hx), hIt.frame hst₅ l₆ (by simp [hTD, hDR]), hI _ _ _ _ _ h₅ l₆ (by simpa using hDS), ?_, Gh.setMu_self, ?_⟩
     ·exact (other hF₅ l₆ (by simpa using hDL) (by simp [hDg]) (by intro a ha o w ho; simp at ha; subst ha; cases ((hm₅).symm.trans ho); intro z; cases z)).less (hback d (hd d (by exact .head _)))
     ·rw [Array.toList_push]
      exact Reps.append (hr₅.mono l₆.im) (Reps.cons (he.mono l₆.im) Reps.nil)
 refine codeAny_compStart_list (loop g₄ s₄ ok₄ l₄ F₅) ?_
 refine wpAny_mono (hIt.self (K := K) (A := A) (Q := fun v g' => v = it ∧ g' = g₄) (hIt.frame hSt (l₃.trans l₄) (by exact all0)) ⟨rfl, rfl⟩ s₄ _ ok₄) (fun v s₅ h => ?_) fun _ _ z => z
 refine E1_3 h fun g₅ ok₅ e1 e2 => ?_
 clear h hloc hDL hDR hDS hDg hRL hSL hTS hTD hTL hTm hlocL F₄ hcs hL hDm hD2 hT fin step hIl hI hback htgt hSc hRm hS hfn F; subst e1; subst e2
 exact loop _ s₅ ok₅ l₄ F₅
theorem NsObj_of {o : Obj} {a : Addr} {h : Heap} (e : h.get? a = some o) (hd : ∃ es ep, o.data = .dict es ep ∧ StrKeys es) : ∃ m, h.Ns a m := E2_2 hd fun es ep h1 h2 => ⟨nsFind es, o, es, ep, e, h1, h2, fun _ => rfl⟩
theorem gwp_comp {elt target iter : Expr} {ifs : List Expr} {scope : Scope} {pos : Pos} {src : List Src} {fn' : List Nat} {R S : List Addr} {ds : List D} {σ₁ : D → List (Option D)} {Q : Value → Gh → Prop} (I : List D → List D → Gh → Prop)
  (r : Room A n) (F : Frm K b S' fn cs env nm σ own g) (hn : NamesOk scope.names) (hk : scope.kind = .function) (hsrc : srcOk nm scope.names src = true) (hg : GlobsAre K.B scope.names src)
  (hfn : ∀ i ∈ fn', ∀ x, scope.names[i]? ≠ some (x, NameKind.free))
  (hS : ∀ a ∈ S, (∃ o, g.mu a = some o) ∧ a ∉ R) (hRm : ∀ a ∈ R, ∃ o, g.mu a = some o) (hSc : ∀ rest out g, I rest out g → ∀ a ∈ S, ∀ o w, g.mu a = some o → o.data ≠ .cell w)
  (htgt : ∀ d ∈ ds, Tgt K (relab nm scope.names) fn' target (srcSt σ src) d (σ₁ d)) (hback : ∀ d ∈ ds, backOk (srcSt σ src) (σ₁ d))
  (hI : ∀ rest out g g' W, I rest out g → LeX W g g' → (∀ a ∈ W, a ∉ S) → I rest out g')
  (hIl : ∀ rest out g, I rest out g → out.length ≤ ds.length)
  (hsz : ds.length ≤ sizeLine)
  (step : ∀ d rest out g' L cells cs', d ∈ ds → I (d :: rest) out g' → Frm K g S fn' cs' (compEnv scope L cells env) (relab nm scope.names) (σ₁ d) [] g' →
   gwp K A (compTestsOf ifs (compEnv scope L cells env)) (fun ok g₁ => LeX S g' g₁ ∧ if ok = true then gwp K A (eval elt (compEnv scope L cells env)) (fun v g₂ => LeX S g₁ g₂ ∧ ∃ e, Rep g₂.im e v ∧ I rest (out ++ [e]) g₂) g₁ else I rest out g₁) g')
  (hit : gwp K A (eval iter env) (fun x g₁ => gwp K A (pyIter x) (NewIt K R ds g) g₁) g) (init : I ds [] g)
  (fin : ∀ out v g', LeX S g g' → I [] out g' → Rep g'.im (.lst out) v → Q v g')
  (hs : ∀ x, foldedSetIterable iter env x = pure x := by intro _; rfl) :
  gwp K A (eval (.ListComp elt [⟨target, iter, ifs, 0⟩] scope pos) env) Q g := fun s E ok => by
 refine E0_2 (F.clos hn hsrc) fun hfree hclos => ?_
 rw [eval_ListComp]
 refine wpAny_comprehension_free (use := none) (cl := closOf env.cells scope.names []) rfl hs (Z72 hfree) hk
  (fun x hx hl => by obtain ⟨y, k⟩ := x; cases hl; obtain ⟨i, hi⟩ := List.getElem?_of_mem hx; exact Z74 hn.ndup hi)
  (wM1_2 (hit s E ok) (fun x s₁ g₁ ok₁ h₁ => wM1_2 (h₁ s₁ E ok₁) (fun it s₂ g₂ ok₂ h₂ => ?_)))
 refine comp_core (use := none) I r F hn hk hsrc hg hfn hS hRm hSc htgt hback hI hIl hsz step h₂ (hI _ _ _ _ _ init h₂.1 (by exact all0)) (fun out C o v g' s' ok' l' hi' hr hC hCo hCd => ?_) s₂ ok₂
 refine ⟨_, (NsObj_of (ok'.mu _ _ hCo) hCd).choose_spec, fun h' hs' => ⟨g'.drop C, ok'.lost (tk := s'.toks) hCo hs'.extBut, ?_⟩⟩
 have hCS : C ∉ S := fun hm => by obtain ⟨o, ho⟩ := (hS _ hm).1; cases ((hC).symm.trans ho)
 refine fin out v _ ?_ (hI _ _ _ _ _ hi' LeX.drop (by simpa using hCS)) (hr.mono LeX.drop.im)
 refine LeX.forget (T := C :: S) ((l'.sub (by simp_all)).trans (LeX.drop.sub (by exact all1 (.head _)))) fun a ha => ?_
 rcases List.mem_cons.mp ha with rfl | ha
 ·exact .inr hC
 ·exact .inl ha
noncomputable abbrev PTests (K : Wd) (n : Nat) (g : Gh) (ifs : List Expr) (env : Env) (v : Bool) : Prop := Pv K n g (compTestsOf ifs env) (fun _ u => u = v)
theorem Z21 : PTests K n g [] env true := fun A r g₁ l => gwp_tests_nil ⟨LeX.refl _ _, rfl⟩
theorem Z178 {c : Expr} {v : Bool} (h : Pt K n g c env v) : PTests K n g [c] env v := fun A r g₁ l => gwp_tests_one (h A r g₁ l)
structure CompP (K : Wd) (n : Nat) (g : Gh) (env : Env) (nm : List (Str × NameKind)) (σ : List (Option D)) (elt target : Expr) (ifs : List Expr) (scope : Scope) (ds : List D) (p : D → Bool) (f : D → D) : Prop where
 mk ::
 ex : ∃ (src : List Src) (fn' : List Nat) (σ₁ : D → List (Option D)), NamesOk scope.names ∧ scope.kind = .function ∧ srcOk nm scope.names src = true ∧ GlobsAre K.B scope.names src ∧ (∀ i ∈ fn', ∀ x, scope.names[i]? ≠ some (x, NameKind.free)) ∧
  (∀ d ∈ ds, Tgt K (relab nm scope.names) fn' target (srcSt σ src) d (σ₁ d)) ∧ (∀ d ∈ ds, backOk (srcSt σ src) (σ₁ d)) ∧
  ∀ d ∈ ds, ∀ b g' L cells cs', Le g b → Le b g' → Frm K b [] fn' cs' (compEnv scope L cells env) (relab nm scope.names) (σ₁ d) [] g' → PTests K n g' ifs (compEnv scope L cells env) (p d) ∧ (p d = true → Pe K n g' (eval elt (compEnv scope L cells env)) (f d))
theorem Z282 {ds : List D} (p : D → Bool) (f : D → D) (rest out : List D) (done : List D) (h : done ++ rest = ds) (ho : out = (done.filter p).map f) : out.length ≤ ds.length := by
 subst ho; subst h
 rw [List.length_map, List.length_append]
 exact Nat.le_trans (List.length_filter_le _ _) (Nat.le_add_right _ _)
theorem Z51 {elt target iter : Expr} {ifs : List Expr} {scope : Scope} {pos : Pos} {R : List Addr} {ds : List D} {p : D → Bool} {f : D → D}
  (F : Frm K b S' fn cs env nm σ own g) (hit : PIt K n g iter env R ds) (hRm : ∀ a ∈ R, ∃ o, g.mu a = some o) (H : CompP K n g env nm σ elt target ifs scope ds p f) (hsz : ds.length ≤ sizeLine)
  (hs : ∀ x, foldedSetIterable iter env x = pure x := by intro _; rfl) :
  Pe K n g (eval (.ListComp elt [⟨target, iter, ifs, 0⟩] scope pos) env) (.lst ((ds.filter p).map f)) := fun A r g₁ l => by
 refine E3_8 H.ex fun src fn' σ₁ h1 h2 h3 h4 h5 h6 h7 h8 => ?_
 refine gwp_comp (S := []) (R := R) (ds := ds) (σ₁ := σ₁) (I := fun rest out _ => ∃ done, done ++ rest = ds ∧ out = (done.filter p).map f) r (F.up l) h1 h2 h3 h4 h5 (by exact all0) (fun a ha => E1_1 (hRm a ha) fun o ho => ⟨o, l.at ho⟩) (fun _ _ _ _ a ha => by cases ha) h6 h7 (fun _ _ _ _ _ h _ _ => h)
  (fun rest out g z₀ => E1_2 z₀ fun done e1 e2 => Z282 p f rest out done e1 e2) hsz ?_ (hit A r g₁ l) ⟨[], rfl, rfl⟩ ?_ hs
 ·intro d rest out g' L cells cs' hd ⟨done, e1, e2⟩ F'
  refine E0_2 (h8 d hd g₁ g' L cells cs' l F'.le F') fun t1 t2 => ?_
  refine gM0_2 (t1 A r g' (LeX.refl _ _)) fun ok g₂ l₂ e => ⟨l₂, ?_⟩
  clear t1 F' hd h8 h7 h6 h5 h3 hs H hRm hit F; subst e
  cases hp : p d with
  | true =>
   refine gM0_2 (t2 hp A r g₂ l₂) fun v g₃ l₃ hv => ⟨l₃, f d, hv, done ++ [d], by simp [e1], ?_⟩
   clear hv t2; subst e2; simp [hp]
  | false =>
   exact ⟨done ++ [d], by simp [e1], by subst e2; simp [hp]⟩
 ·intro out v g' l' ⟨done, e1, e2⟩ hr
  rw [List.append_nil] at e1
  clear h8 h7 h6 h5 h3 hs H hRm hit F; subst e1; subst e2
  exact ⟨l', hr⟩
theorem Frm.lostNew {g₀ : Gh} {C : Addr} (F : Frm K b S' fn cs env nm σ' own g) (F₀ : Frm K b S' fn cs env nm σ own g₀) (hC : g₀.mu C = none) (hd : ∀ o w, g.mu C = some o → o.data ≠ .cell w) : Frm K b S' fn cs env nm σ' own (g.drop C) := by
 refine F.other LeX.drop (fun a ha hm => ?_) (fun a ha => ?_) (fun a ha => ?_)
 ·clear F; simp at ha; subst ha
  rw [List.cons_append] at hm
  rcases List.mem_cons.mp hm with rfl | hm
  ·refine E2_2 F₀.loc fun o f e _ => ?_
   cases ((hC).symm.trans e)
  rcases List.mem_append.mp hm with hm | hm
  ·refine E2_2 (F₀.csm a hm) fun o w e _ => ?_
   cases ((hC).symm.trans e)
  ·refine E1_2 (List.mem_map.mp hm) ?_
   clear hm; rintro p hp rfl
   refine E1_2 (F₀.own p hp) fun o e _ => ?_
   clear hm hp; cases ((hC).symm.trans e)
 ·clear F; simp at ha; subst ha
  by_cases hS : a ∈ S'
  ·exact .inr hS
  ·cases e : b.mu a with
   | none => exact .inl rfl
   | some o => have := F₀.le.mu a o hS e; cases ((hC).symm.trans this)
 ·clear hC F₀ F; simp at ha; subst ha; exact hd
theorem Z65 {elt target iter : Expr} {ifs : List Expr} {scope : Scope} {pos pos' spos : Pos} {x : Str} {i : Nat} {rest : List Stmt} {R : List Addr} {ds : List D} {p : D → Bool} {f : D → D} {Q : Flow → Gh → Prop}
  (F : Frm K b S' fn cs env nm σ own g) (r : Room A n) (h : nm[i]? = some (x, NameKind.local)) (hit : PIt K n g iter env R ds) (hRm : ∀ a ∈ R, ∃ o, g.mu a = some o) (H : CompP K n g env nm σ elt target ifs scope ds p f) (hsz : ds.length ≤ sizeLine)
  (k : ∀ g', LeX [env.locals] g g' → Frm K b S' fn cs env nm (σ.set i (some (.lst ((ds.filter p).map f)))) own g' → gwp K A (execs rest env) Q g')
  (hline : pos'.line = pos.line) (hnot : (scope.names.any fun (n, k) => n == x && (k == .local || k == .cell)) = false)
  (hs : ∀ x, foldedSetIterable iter env x = pure x := by intro _; rfl) : gwp K A (execs (.Assign [.Name x pos'] (.ListComp elt [⟨target, iter, ifs, 0⟩] scope pos) spos :: rest) env) Q g := by
 refine Z10 fun s E ok => ?_
 have hsw : swapsWith (.ListComp elt [⟨target, iter, ifs, 0⟩] scope pos) (some (.Name x pos')) spos.line env = pure true := by
  show (pure (env.blockKind == .function && env.kindOf x == some .local && pos'.line == pos.line && !(scope.names.any fun (n, k) => n == x && (k == .local || k == .cell))) : Sem Bool) = _
  rw [hnot, hline, F.kindOf h]
  have hb : env.blockKind = .function := by unfold Env.blockKind; rw [F.kind]; rfl
  rw [hb]
  simp
 refine E3_8 H.ex fun src fn' σ₁ h1 h2 h3 h4 h5 h6 h7 h8 => ?_
 refine E0_2 (F.clos h1 h3) fun hfree hclos => ?_
 rw [exec_Assign_Name_used _ _ _ _ hsw]
 refine wpAny_bind (wpAny_standAt (wpAny_bind ?_))
 show wpAny _ A (do let _ ← comprehension (.ListComp elt [⟨target, iter, ifs, 0⟩] scope pos) scope env _ (newList []) false (eval iter env) (some (assign (.Name x pos') env))) _ _ s
 refine wpAny_bind (wpAny_mono (wpAny_comprehension_free (use := some (assign (.Name x pos') env)) (Q := fun _ s' => ∃ g' : Gh, g'.Ok K.B s' ∧ Then K A env rest Q .next g') (cl := closOf env.cells scope.names []) rfl hs (Z72 hfree) h2
  (fun x hx hl => by obtain ⟨y, k⟩ := x; cases hl; obtain ⟨i, hi⟩ := List.getElem?_of_mem hx; exact Z74 h1.ndup hi)
  (wM1_2 (hit A r g (LeX.refl _ _) s E ok) (fun x s₁ g₁ ok₁ h₁ => wM1_2 (h₁ s₁ E ok₁) (fun it s₂ g₂ ok₂ h₂ => ?_)))) (fun _ s' hq => wpAny_pure (wpAny_pure hq)) fun _ _ z => z)
 refine comp_core (use := some (assign (.Name _ pos') env)) (S := []) (R := R) (ds := ds) (σ₁ := σ₁) (I := fun rest out _ => ∃ done, done ++ rest = ds ∧ out = (done.filter p).map f) r F h1 h2 h3 h4 h5 (by exact all0) hRm (fun _ _ _ _ a ha => by cases ha) h6 h7 (fun _ _ _ _ _ h _ _ => h)
  (fun rest out g z₀ => E1_2 z₀ fun done e1 e2 => Z282 p f rest out done e1 e2) hsz ?_ h₂ ⟨[], rfl, rfl⟩ ?_ s₂ ok₂
 ·intro d rest out g' L cells cs' hd ⟨done, e1, e2⟩ F'
  refine E0_2 (h8 d hd g g' L cells cs' (LeX.refl _ _) F'.le F') fun t1 t2 => ?_
  refine gM0_2 (t1 A r g' (LeX.refl _ _)) fun ok g₂ l₂ e => ⟨l₂, ?_⟩
  clear t1 F' hd h₁ hclos hfree h8 h7 h6 h5 h3 hsw hs hnot H hRm hit; subst e
  cases hp : p d with
  | true =>
   refine gM0_2 (t2 hp A r g₂ l₂) fun v g₃ l₃ hv => ⟨l₃, f d, hv, done ++ [d], by simp [e1], ?_⟩
   clear hv t2; subst e2; simp [hp]
  | false =>
   exact ⟨done ++ [d], by simp [e1], by subst e2; simp [hp]⟩
 ·intro out C o v g' s' ok' l' ⟨done, e1, e2⟩ hr hC hCo hCd
  rw [List.append_nil] at e1
  clear h₁ hclos hfree h8 h7 h6 h5 h3 hsw hs hnot H hRm hit; subst e1; subst e2
  have hCL : C ≠ env.locals := by
   rintro rfl
   refine E2_2 F.loc fun o f e _ => ?_
   cases ((hC).symm.trans e)
  show wpAny _ A (assign (.Name _ pos') env v) _ _ s'
  refine wpAny_mono (Z12 (K := K) (A := A) (Q := fun _ g'' => LeX [env.locals] g' g'' ∧ Frm K b S' fn cs env nm (σ.set i (some (.lst ((done.filter p).map f)))) own g'') ((F.up l').storeLocal h hr fun g'' l'' F'' => ⟨l'', F''⟩) s' E ok') (fun _ s'' hh => ?_) fun _ _ z => z
  refine E1_3 hh fun g'' ok'' l'' F'' => ?_
  have hCo' := l''.mu C o (by exact nmem1 hCL) hCo
  refine ⟨_, (NsObj_of (ok''.mu _ _ hCo') hCd).choose_spec, fun h' hs' => ⟨g''.drop C, ok''.lost (tk := s''.toks) hCo' hs'.extBut, ?_⟩⟩
  refine k _ ?_ (F''.lostNew F hC fun o' w e => by cases ((hCo').symm.trans e); obtain ⟨es, ep, e, _⟩ := hCd; rw [e]; intro z; cases z)
  refine LeX.forget (T := [C, env.locals]) (((LeX.of l').trans (l''.sub (by exact all1 (.tail _ (.head _))))).trans (LeX.drop.sub (by exact all1 (.head _)))) fun a ha => ?_
  rcases List.mem_cons.mp ha with rfl | ha
  ·exact .inr hC
  ·exact .inl ha
theorem repsC {im : Im} {d : D} {ds : List D} {vs : List Value} (h : Reps im (d :: ds) vs) : ∃ v vs', vs = v :: vs' ∧ Rep im d v ∧ Reps im ds vs' := by simpa only [Reps] using h
theorem repsN {im : Im} {vs : List Value} (h : Reps im [] vs) : vs = [] := by simpa only [Reps] using h
theorem reps1 {im : Im} {d : D} {vs : List Value} (h : Reps im [d] vs) : ∃ v, vs = [v] ∧ Rep im d v := E2_3 (repsC h) fun v _ e r z => ⟨v, e.trans (congrArg _ (repsN z)), r⟩
theorem reps2 {im : Im} {d e : D} {vs : List Value} (h : Reps im [d, e] vs) : ∃ v w, vs = [v, w] ∧ Rep im d v ∧ Rep im e w := E2_3 (repsC h) fun v _ e r z => E1_2 (reps1 z) fun w e' q => ⟨v, w, e.trans (congrArg _ e'), r, q⟩
theorem reps3 {im : Im} {d e f : D} {vs : List Value} (h : Reps im [d, e, f] vs) : ∃ v w x, vs = [v, w, x] ∧ Rep im d v ∧ Rep im e w ∧ Rep im f x := E2_3 (repsC h) fun v _ e r z => E2_3 (reps2 z) fun w x e' q p => ⟨v, w, x, e.trans (congrArg _ e'), r, q, p⟩
theorem Z100 {a : Int} : CallSem K n g (.builtin "int.bit_length") [.int a] (.int (Builtin.Int.intBits a)) := fun g _ vs h A r g₁ l s E ok => by
 obtain ⟨v, rfl, h1⟩ := reps1 h; obtain ⟨t, rfl⟩ := Z24 h1
 exact call_int_bit_length ⟨g₁, ok.tok _, LeX.refl _ _, Z25⟩
theorem cs_divmod {a c : Int} (hb : c ≠ 0) (hp : Builtin.divisionGoesByPylong a c = false) : CallSem K n g (.builtin "divmod") [.int a, .int c] (.tup [.int (a.fdiv c), .int (a.fmod c)]) := fun g _ vs h A r g₁ l s E ok => by
 obtain ⟨v, w, rfl, h1, h2⟩ := reps2 h; obtain ⟨t, rfl⟩ := Z24 h1; obtain ⟨u, rfl⟩ := Z24 h2
 refine divmod_int hb ⟨_, (ok.pushIm (o := sq "tuple" #[.int (a.fdiv c) s.toks, .int (a.fmod c) (s.toks + 1)] 0) rfl).tok _, Le.addIm ok.fresh.1, ?_⟩ (.inl hp)
 exact Z62.mpr ⟨_, _, 0, rfl, Gh.addIm_self, Reps.cons Z25 (Reps.cons Z25 Reps.nil)⟩
theorem Z235 {a : Addr} {its : Array Value} {m : Nat} {T : String} {id : String} {s : Shared} {E : Value → Shared → Prop} {Q : Value → Shared → Prop} (hl : s.heap.IsList a its) (hsz : its.size < 2 ^ 62) (h : Q (.int its.size (s.toks + 1)) { s with toks := s.toks + 1 + 1 }) :
  wpAny (model K.prog K.w) A (call (.builtin "len") [.ref a]) Q E s := by
 refine Calls.call_function_entry kind_len plain_len entry_len (args_len1 _) ?_
 refine wpAny_len_body_list hl (by lia) h
theorem Z127 {x : List D} (hx : x.length < 2 ^ 62) : CallSem K n g (.builtin "len") [.lst x] (.int x.length) := fun g _ vs h A r g₁ l s E ok => by
 obtain ⟨v, rfl, h1⟩ := reps1 h; obtain ⟨a, its, m, rfl, e, rs⟩ := Z16.mp h1
 have hlen : its.size = x.length := by rw [← Array.length_toList, rs.length]
 refine Z235 (m := m) (T := "") (id := "") ⟨_, ok.im _ _ (l.im _ _ e), rfl, m, rfl⟩ (by lia) ⟨g₁, ok.tok _, LeX.refl _ _, ?_⟩
 rw [hlen]; exact Z25
theorem cs_len_mu {a : Addr} {its : Array Value} {m : Nat} (hm : g.mu a = some (sq "list" its m)) (hx : its.size < 2 ^ 62) : CallSem K n g (.builtin "len") [.raw (.ref a)] (.int its.size) := fun g l₀ vs h A r g₁ l s E ok => by
 obtain ⟨v, rfl, h1⟩ := reps1 h; have := Z22 h1; subst this
 exact Z235 (m := m) (T := "") (id := "") ⟨_, ok.mu _ _ (l.at (l₀.at hm)), rfl, m, rfl⟩ hx ⟨g₁, ok.tok _, LeX.refl _ _, Z25⟩
theorem flatten_foldl (its : Array Value) (k : Nat) : (List.foldl (fun x1 x2 => x1 ++ x2) #[] (List.replicate k its)).toList = (List.replicate k its.toList).flatten := by
 have key : ∀ (k : Nat) (acc : Array Value), (List.foldl (fun x1 x2 => x1 ++ x2) acc (List.replicate k its)).toList = acc.toList ++ (List.replicate k its.toList).flatten := by
  intro k
  induction k with
  | zero => intro acc; simp
  | succ k ih => intro acc; simp [List.replicate_succ, ih]
 simpa using key k #[]
theorem Reps.replicate {im : Im} {ds : List D} {vs : List Value} (h : Reps im ds vs) : ∀ k, Reps im (List.replicate k ds).flatten (List.replicate k vs).flatten
 | 0 => by exact Reps.nil
 | k + 1 => by
  rw [List.replicate_succ, List.replicate_succ, List.flatten_cons, List.flatten_cons]
  exact Reps.append h (Reps.replicate h k)
theorem lmul_at {a : Addr} {its : Array Value} {m : Nat} {x : Int} {u : Tok} {s : Shared} {E : Value → Shared → Prop} {Q : Value → Shared → Prop} (hl : s.heap.get? a = some (sq "list" its m)) (hlo : -(2 ^ 63 : Int) ≤ x) (hhi : x < 2 ^ 63) (hsz : its.size * x.toNat ≤ 2 ^ 24)
  (h : ∀ its', its'.toList = (List.replicate x.toNat its.toList).flatten → Q (.ref s.heap.objs.size) { s with heap := s.heap.push (sq "list" its' 0) }) : wpAny (model K.prog K.w) A (binaryOp .Mult (.ref a) (.int x u)) Q E s := by
 refine wpAny_binaryOp_repeat_ref (T := "list") (U := "int") (by decide) ⟨_, hl, rfl⟩ (fun s' => typeIs_int s' x u) noFill_list_mul F.fills_int_mul F.slot_int_rmul repeat_list F.slot_int_index.lookup
  (call_meets F.slot_int_rmul (typeIs_int s x u) F.entry_int_rmul (F.args_int_rmul_2 _ _) (int___rmul___int_list x u a its m)
   ⟨hl, rfl, ⟨_, hl, rfl⟩, call_meets F.slot_list_mul ⟨_, hl, rfl⟩ F.entry_list_mul (F.args_list_mul_2 _ _)
    (AutoListH.list___mul___list_int_3 a its m x u (by simp [Builtin.List.listFitsIndex]; lia) (by lia) (by simp [Builtin.List.listTooLong, sizeLine]; lia))
    ⟨hl, h _ ?_⟩⟩)
 rw [flatten_foldl]
 by_cases he : its.isEmpty = true
 ·rw [if_pos he]
  have : its = #[] := Array.isEmpty_iff.mp he
  clear h hsz hhi hlo hl; subst this
  simp
 ·rw [if_neg he]
theorem op_lmul {l : List D} {x : Int} (hlo : -(2 ^ 62 : Int) ≤ x) (hhi : x < 2 ^ 62) (hsz : l.length * x.toNat ≤ 2 ^ 24) : OpSem K n g (binaryOp .Mult) (.lst l) (.int x) (.lst (List.replicate x.toNat l).flatten) := fun g _ v₁ v₂ h₁ h₂ A r g₁ le s E ok => by
 refine E3_3 (Z16.mp h₁) ?_
 rintro a its m rfl e rs
 refine E1_1 (Z24 h₂) ?_
 rintro t rfl
 have hlen : its.size = l.length := by rw [← Array.length_toList, rs.length]
 refine lmul_at (ok.im _ _ (le.im _ _ e)) (by lia) (by lia) (by rw [hlen]; exact hsz) fun its' he => ⟨_, ok.pushIm (o := sq "list" its' 0) rfl, Le.addIm ok.fresh.1, ?_⟩
 exact Z16.mpr ⟨_, its', 0, rfl, Gh.addIm_self, by rw [he]; exact (rs.mono (le.trans (Le.addIm ok.fresh.1)).im).replicate _⟩
theorem gwp_lmulMu {v : Value} {t : Tok} {l : List D} {x : Int} {Q : Value → Gh → Prop} (hv : Rep g.im (.lst l) v) (hlo : -(2 ^ 62 : Int) ≤ x) (hhi : x < 2 ^ 62) (hsz : l.length * x.toNat ≤ 2 ^ 24)
  (h : ∀ a its, g.im a = none → g.mu a = none → Reps g.im (List.replicate x.toNat l).flatten its.toList → Q (.ref a) (g.setMu a (sq "list" its 0))) : gwp K A (binaryOp .Mult v (.int x t)) Q g := fun s E ok => by
 refine E3_3 (Z16.mp hv) ?_
 rintro a its m rfl e rs
 have hlen : its.size = l.length := by rw [← Array.length_toList, rs.length]
 exact lmul_at (ok.im _ _ e) (by lia) (by lia) (by rw [hlen]; exact hsz) fun its' he => ⟨_, ok.pushMu (o := sq "list" its' 0) rfl, h _ its' ok.fresh.1 ok.fresh.2 (by rw [he]; exact rs.replicate _)⟩
theorem truth_lst {x : List D} (hx : x.length < 2 ^ 62) : TruthSem K n g (.lst x) (!x.isEmpty) := fun g _ v h A r g₁ l s E ok => by
 refine E3_3 (Z16.mp h) ?_
 rintro a its m rfl e rs
 have hlen : its.size = x.length := by rw [← Array.length_toList, rs.length]
 refine wpAny_truthy_list ⟨_, ok.im _ _ (l.im _ _ e), rfl, m, rfl⟩ (by lia) ⟨g₁, ok.tok _, LeX.refl _ _, ?_⟩
 show (!its.isEmpty) = !x.isEmpty
 rw [Bool.eq_iff_iff]
 simp only [Bool.not_eq_true', Array.isEmpty_eq_false_iff, List.isEmpty_eq_false_iff, ne_eq]
 rw [← Array.size_eq_zero_iff, ← List.length_eq_zero_iff, hlen]
theorem setItem_at {a : Addr} {its : Array Value} {o : Obj} {m : Nat} {k : Int} {t : Tok} {v : Value} {s : Shared} {E : Value → Shared → Prop} {Q : Unit → Shared → Prop} (ho : s.heap.get? a = some o) (hc : o.cls = .type "list") (hd : o.data = .seq its m)
  (h0 : 0 ≤ k) (hfit : k < 2 ^ 63) (hn : k < its.size) (h : Q () { s with heap := s.heap.update a (Obj.mapSeq (·.setIfInBounds k.toNat v)) }) : wpAny (model K.prog K.w) A (setItem (.ref a) (.int k t) v) Q E s := by
 have hl : s.heap.IsList a its := ⟨_, ho, hc, m, hd⟩
 unfold setItem
 try with_reducible refine wpAny_holding ?_
 first | refine wpAny_bind (wpAny_pure ?_) | skip
 refine wpAny_bind (wpAny_sequenceKey hl.typeIs (by decide) ?_)
 refine wpAny_bind (wpAny_callSpecial?_slot (name := Str.ofString "__setitem__") hl.typeIs slot_list_setitem
  (wpAny_call_entry slot_list_setitem hl.typeIs entry_list_setitem ?_ (args_list_setitem _ _ _)))
 show wpAny _ _ (Builtin.List.listSubscript? (.int k t) >>= _) _ _ s
 refine wpAny_bind (wpAny_listSubscript_int (fitsIndex_of h0 hfit) ?_)
 clear hfit
 refine E1_1 (Int.eq_ofNat_of_zero_le h0) ?_
 rintro j rfl
 have hj : j < its.size := by lia
 have hx' : its[j]? = some its[j] := Array.getElem?_eq_getElem hj
 show wpAny _ _ ((seqItemAt a j >>= fun r => pure (r.map (j, ·))) >>= _) _ _ s
 refine wpAny_bind (wpAny_bind (wpAny_seqItemAt ho hd (wpAny_pure ?_)))
 rw [hx']
 show wpAny _ _ (setSeqItemAt a j v >>= _) _ _ s
 refine wpAny_bind (wpAny_setSeqItemAt ho hd ?_)
 first
  | exact wpAny_bind (wpAny_pure (wpAny_pure ⟨.none, rfl, wpAny_pure h⟩))
  | exact wpAny_pure ⟨.none, rfl, wpAny_pure h⟩
theorem gwp_setItem {a : Addr} {its : Array Value} {m : Nat} {k : Nat} {t : Tok} {v : Value} {Q : Unit → Gh → Prop} (ha : g.mu a = some (sq "list" its m)) (hn : k < its.size) (hk : k < 2 ^ 62)
  (h : ∀ m', Q () (g.setMu a (sq "list" (its.setIfInBounds k v) m'))) : gwp K A (setItem (.ref a) (.int k t) v) Q g := fun s E ok =>
 setItem_at (ok.mu _ _ ha) rfl rfl (by lia) (by lia) (by lia) ⟨_, ok.upd ha rfl, h _⟩
theorem gwp_pop0 {a : Addr} {its : Array Value} {m : Nat} {t : Tok} {y : Value} {Q : Value → Gh → Prop} (ha : g.mu a = some (sq "list" its m)) (hy : its[0]? = some y) (hsz : its.size ≤ sizeLine)
  (h : ∀ m', Q y (g.setMu a (sq "list" (its.eraseIdxIfInBounds 0) m'))) : gwp K A (call (.builtin "list.pop") [.ref a, .int 0 t]) Q g := fun s E ok =>
 call_meets F.slot_list_pop ⟨_, ok.mu _ _ ha, rfl⟩ F.entry_list_pop (F.args_list_pop_2 _ _) (MeetsSeq.list_pop_at a its m 0 t 0 y (by decide) (by
  have : 0 < its.size := (Array.getElem?_eq_some_iff.mp hy).1
  unfold seqIndex?; simp [this]) hy hsz) ⟨ok.mu _ _ ha, _, ok.upd ha rfl, h _⟩
theorem gwp_reverse {a : Addr} {its : Array Value} {m : Nat} {Q : Value → Gh → Prop} (ha : g.mu a = some (sq "list" its m)) (hsz : its.size ≤ sizeLine)
  (h : ∀ m', Q .none (g.setMu a (sq "list" its.reverse m'))) : gwp K A (call (.builtin "list.reverse") [.ref a]) Q g := fun s E ok =>
 call_meets F.slot_list_reverse ⟨_, ok.mu _ _ ha, rfl⟩ F.entry_list_reverse (F.args_list_reverse_1 _) (AutoListH.list_reverse_list_0 a its m hsz) ⟨ok.mu _ _ ha, _, ok.upd ha rfl, h _⟩
noncomputable def RI (o : Obj) (l : Addr) (i : Int) : Prop := o.cls = .type "list_reverseiterator" ∧ o.data = .fields #[.ref l, rawInt i]
noncomputable def MO.ri (ds : List D) : MO := ⟨fun im o => ∃ l its m, RI o l ((ds.length : Int) - 1) ∧ im l = some (sq "list" its m) ∧ Reps im ds.reverse (its.toList.take ds.length), fun _ _ _ h z₀ => E3_3 z₀ fun l its m h1 h2 h3 => ⟨l, its, m, h1, h _ _ h2, h3.mono h⟩⟩
theorem It.rev {it : Addr} : It K (.ref it) [it] [] (fun ds g => ∃ o, g.mu it = some o ∧ (MO.ri ds).P g.im o) where
 item := fun {d ds g A} hh st s E ok => by
  refine E1_2 st fun o h1 z => E3_3 z fun l its m h2 h3 h4 => ?_
  have hv : ∃ v, its[ds.length]? = some v ∧ Rep g.im d v := by
   refine E1_2 (h4.get (i := ds.length) (d := d) (by rw [List.reverse_cons, List.getElem?_append_right (Nat.le_of_eq List.length_reverse), List.length_reverse, Nat.sub_self]; rfl)) fun v e1 e2 => ?_
   refine ⟨v, ?_, e2⟩
   rw [List.getElem?_take] at e1
   simpa using e1
  refine E1_2 hv fun v hv hr => ?_
  have hl2 : ((((d :: ds).length : Nat) : Int) - 1) = ((ds.length : Nat) : Int) := by simp
  rw [hl2] at h2
  refine wpAny_pyNext_rev_item ⟨o, ok.mu _ _ h1, h2⟩ ⟨_, ok.im _ _ h3, rfl, m, rfl⟩ hv fun h' hit' hs => ?_
  refine E1_3 hit' fun o' ho' hc' hd' => ?_
  have ok' := ok.sameBut (tk := s.toks) h1 hs ho'
  refine ⟨_, ok', LeX.setMu, v, rfl, hr, fun target A => ?_⟩
  refine Z35 (a := it) (.inr Gh.setMu_self) hc' hd' (by decide) ⟨LeX.refl _ _, o', Gh.setMu_self, l, its, m, ⟨hc', hd'⟩, h3, ?_⟩
  have h5 := h4.take ds.length
  rw [List.take_take] at h5
  rw [List.reverse_cons, List.take_append_of_le_length (by simp), List.take_of_length_le (by simp)] at h5
  have : min ds.length (d :: ds).length = ds.length := by simp
  rw [this] at h5; exact h5
 done := fun {g A} hh st s E ok => by
  refine E1_2 st fun o h1 z => E3_3 z fun l its m h2 h3 h4 => ?_
  exact wpAny_pyNext_rev_end hh ⟨o, ok.mu _ _ h1, h2⟩ fun h' he => ⟨_, ok.lost (tk := s.toks) h1 he, LeX.drop, rfl⟩
 self := fun {ds g A Q} st q s E ok => by
  refine E1_2 st fun o h1 z => E3_3 z fun l its m h2 h3 h4 => ?_
  have hT : s.TypeIs (.ref it) "list_reverseiterator" := ⟨o, ok.mu _ _ h1, h2.1⟩
  refine wpAny_pyIter_slot hT F.slot_lri_iter (wpAny_call_entry F.slot_lri_iter hT F.entry_lri_iter ?_ (F.args_lri_iter_1 _))
  show wpAny _ _ (ret (.ref it)) _ _ s
  exact wpAny_pure ⟨_, rfl, "list_reverseiterator", _, hT, F.slot_lri_next.lookup, ⟨g, ok, q⟩⟩
 frame := fun {ds g g' W} st l hw => by
  refine E1_2 st fun o h1 h2 => ?_
  exact ⟨o, l.mu _ _ (fun hm => (hw _ hm).1 (by exact .head _)) h1, (MO.ri ds).mono _ _ _ l.im h2⟩
 mem := fun {ds g} st => all1 (E1_2 st fun o h1 _ => ⟨o, h1⟩)
 cell := fun {ds g} st => all1 (fun o' w e => E1_2 st fun o h1 z => E3_3 z fun l its m h2 _ _ z => by rw [← Z39 h1 e, h2.2] at z; cases z)
theorem ItM.rev {a : Addr} : ItM K (.ref a) [a] (fun ds => [(a, MO.ri ds)]) := ItM.one It.rev (fun ds g => Iff.rfl) (fun ds im o w z₀ => E3_3 z₀ fun l its m h _ _ z => by rw [h.2] at z; cases z)
theorem Z170 {func arg : Expr} {pos : Pos} {f : Value} {Q : Value → Gh → Prop} (r : Room A n) (hf : Pe K n g (eval func env) (.raw f)) (hn : ∀ a, f ≠ .ref a)
  (h : ∀ g', Le g g' → gwp K A (spliced (backTo pos (starEach [arg] env))) (fun vs g₂ => gwp K A (call f vs) Q g₂) g')
  (hp : (backTo pos (starEach [arg] env)).any (·.1) = false := by rfl)
  (he : eval (.Call func [arg] [] pos) env = (do callWith pos (← eval func env) [] (backTo pos (starEach [arg] env)) (backToKw pos (keywordEach [] env))) := by rfl) : gwp K A (eval (.Call func [arg] [] pos) env) Q g :=
 Z33 (he := he) (hf.use r fun f' g₂ l₂ p => by
  have := Z22 p; subst this
  exact Z19 hn hp (Z7 hp (h g₂ l₂)))
theorem pim_reversed {func arg : Expr} {pos : Pos} {ds : List D} (hf : Pe K n g (eval func env) (.raw (.type "reversed"))) (ha : Pe K n g (eval arg env) (.lst ds))
  (hst : starEach [arg] env = [(false, eval arg env)] := by rfl)
  (hp : (backTo pos (starEach [arg] env)).any (·.1) = false := by rfl)
  (he : eval (.Call func [arg] [] pos) env = (do callWith pos (← eval func env) [] (backTo pos (starEach [arg] env)) (backToKw pos (keywordEach [] env))) := by rfl) : PItM K n g (.Call func [arg] [] pos) env ds.reverse := fun A r g₁ l =>
 Z170 r (hf.le l) (by intro a z; cases z) (fun g' l' => Pv.use ((Z2 (ha.le l) Z5 hst).le l') r fun vs g₂ l₂ rs => by
  refine E1_2 (reps1 rs) ?_
  rintro v rfl h1
  refine E3_3 (Z16.mp h1) ?_
  rintro a its m rfl e rs
  intro s E ok
  have hlen : its.size = ds.length := by rw [← Array.length_toList, rs.length]
  refine call_reversed_list ⟨_, ok.im _ _ e, rfl, m, rfl⟩ ⟨_, ok.pushMu (o := revObj a ((its.size : Int) - 1)) rfl, ?_⟩
  have hi : NewM K ds.reverse g₂ (.ref s.heap.objs.size) (g₂.setMu s.heap.objs.size (revObj a ((its.size : Int) - 1))) := NewM.mk1 ok ItM.rev ⟨a, its, m, ⟨rfl, by rw [hlen, List.length_reverse]; rfl⟩, e, by rw [List.reverse_reverse, List.length_reverse, ← rs.length, List.take_length]; exact rs⟩
  obtain ⟨x1, T, ms, x2, x3, x4⟩ := hi
  exact x2.self x3 ⟨(l'.trans l₂).trans x1, T, ms, x2, x3, fun a ha => Le.nomu (l'.trans l₂) (x4 a ha)⟩) hp he
theorem Z209 {pos : Pos} {l c : Int} {v w : Value} : ∀ (ps : List Value), TriplesOk ps → codeAmong pos (ps ++ [rawInt l, rawInt c, w]) = some v → codeAmong pos ps = some v ∨ (l = pos.line ∧ c = pos.col ∧ v = w) := by
 intro ps
 fun_induction TriplesOk ps with
 | case1 =>
  intro _ h
  right
  dsimp only [List.nil_append, rawInt, codeAmong] at h
  split at h
  ·rename_i hc
   simp only [Bool.and_eq_true, beq_iff_eq] at hc
   exact ⟨hc.1, hc.2, by clear hc; cases h; rfl⟩
  ·cases h
 | case2 a t b u x rest ih =>
  intro ht h
  dsimp only [List.cons_append, codeAmong] at h ⊢
  split at h
  ·rename_i hc; rw [if_pos hc]; exact .inl h
  ·rename_i hc; rw [if_neg hc]; exact ih ht h
 | case3 l h1 h2 => intro ht; exact ht.elim
theorem Z275 {h : Heap} {c P : Addr} {ps : Array Value} {G : Prop} (b1 : h.IsCode c P ps) (k : ∀ o vs op, h.get? c = some o → o.data = .fields vs → vs.getD 11 .none = .ref P → h.get? P = some op → op.data = .fields ps → TriplesOk ps.toList → G) : G :=
 E10_1 b1 fun o vs _ _ _ _ _ _ _ op z => k o vs op z.1 z.2.1 z.2.2.1 z.2.2.2.2.2.2.2.1 z.2.2.2.2.2.2.2.2.1 z.2.2.2.2.2.2.2.2.2.1
theorem Z101 {prog : Program} {w : World} {s : Shared} {E : Value → Shared → Prop} {Q : Value → Shared → Prop} {c P : Addr} {pos : Pos} {ps : Array Value} {v : Value} {mk : CodeContext → Sem Value} (hc : env.code = .ref c) (b1 : s.heap.IsCode c P ps) (hf : codeAmong pos ps.toList = some v) (q : Q v s) : wpAny (model prog w) A (codeAt env pos mk) Q E s := by
 refine Z275 b1 fun o vs op ho hd h11 hop hpd _ => ?_
 delta codeAt
 rw [hc, if_neg (show ¬ ((Value.ref c == Value.none) = true) from Bool.false_ne_true)]
 refine wpAny_bind (wpAny_fieldsOf ho hd ?_)
 rw [h11]
 refine wpAny_bind (wpAny_fieldsOf hop hpd ?_)
 rw [hf]
 exact wpAny_pure q
theorem tabFit_grow {qn : Nat → Nat → Option Str} {pos : Pos} {qual : Str} {ps : Array Value} {c' : Addr} {oc : Obj} {vs : Array Value} {tq : Tok} (hq : qn pos.line pos.col = some qual) (htr : TriplesOk ps.toList) (b3 : TabFit qn g.im ps) (l : Le g (g.addIm c' oc)) (r2 : oc.data = .fields vs) (r3 : vs[1]? = some (.str qual tq)) :
  TabFit qn (g.addIm c' oc).im (ps ++ #[rawInt pos.line, rawInt pos.col, .ref c']) := fun pos' q v hq' hv => by
 have hl : (ps ++ #[rawInt pos.line, rawInt pos.col, Value.ref c']).toList = ps.toList ++ [rawInt pos.line, rawInt pos.col, .ref c'] := Array.toList_append
 rw [hl] at hv
 rcases Z209 _ htr hv with hv | ⟨h1, h2, h3⟩
 ·exact (b3.mono l.im) pos' q v hq' hv
 ·rw [← Int.ofNat.inj h1, ← Int.ofNat.inj h2, hq] at hq'
  cases hq'
  exact ⟨c', oc, vs, tq, h3, Gh.addIm_self, r2, r3⟩
theorem tabs_apart (ap : (B.tabs.map (·.2)).Nodup) {c c2 P : Addr} (hm : (c2, P) ∈ B.tabs) (ht : (c, P) ∈ B.tabs) : c2 = c := by
 refine E1_1 (List.getElem?_of_mem hm) fun i hi => E1_1 (List.getElem?_of_mem ht) fun j hj => ?_
 have : i = j := Z228 ap (i := i) (j := j) (a := P) (by rw [List.getElem?_map, hi]; rfl) (by rw [List.getElem?_map, hj]; rfl)
 rw [this, hj] at hi
 cases hi; rfl
theorem Gh.Ok.grow {s : Shared} (ok : g.Ok B s) {c P : Addr} {pos : Pos} {qual : Str} {ps : Array Value} (ht : (c, P) ∈ B.tabs) (hq : B.qn pos.line pos.col = some qual) (a1 : g.im P = none) (a2 : P < B.h₀.objs.size) (a4 : P ≠ cStatics) {ps₀ : Array Value} (a5 : B.h₀.TableAt c P ps₀)
  (b1 : s.heap.IsCode c P ps) (b2 : s.heap.TableAt c P ps) (b3 : TabFit B.qn g.im ps) {c' : Addr} {h' : Heap} {tk : Nat} {oc : Obj} {vs : Array Value} {tq : Tok} (hx : Heap.ExtBut P s.heap h') (hge : s.heap.objs.size ≤ c') (hlt : c' < h'.objs.size) (hok' : h'.IsCode c P (ps ++ #[rawInt pos.line, rawInt pos.col, .ref c'])) (htab' : h'.TableAt c P (ps ++ #[rawInt pos.line, rawInt pos.col, .ref c'])) (r1 : h'.get? c' = some oc) (r2 : oc.data = .fields vs) (r3 : vs[1]? = some (.str qual tq)) :
  (g.addIm c' oc).Ok B { s with heap := h', toks := tk } := by
 have hPim : ∀ b o, g.im b = some o → b ≠ P := fun b o e z => by rw [z, a1] at e; cases e
 have hfr := ok.freshAt hge
 have l : Le g (g.addIm c' oc) := Le.addIm hfr.1
 have hb1 : ∀ b o, (g.addIm c' oc).im b = some o → b ≠ c' → g.im b = some o := fun b o e hb => (if_neg hb).symm.trans e
 refine ⟨fun b o e => (Classical.em (b = c')).elim (fun hb => ?_) fun hb => hx _ _ (hPim _ _ (hb1 b o e hb)) (ok.im _ _ (hb1 b o e hb)), fun b o e => hx _ _ (Nat.ne_of_gt (Nat.lt_of_lt_of_le a2 (ok.new _ _ e))) (ok.mu _ _ e), fun b o1 o2 e e' => (Classical.em (b = c')).elim (fun hb => ?_) fun hb => ok.dis _ _ _ (hb1 b o1 e hb) e', fun b o e => l.im _ _ (ok.base b o e), ok.new, Nat.le_trans ok.size (Nat.le_trans hge (Nat.le_of_lt hlt)), ok.old.step_table a5 b2 htab' hx a4, ok.os, ok.gens, fun c2 P2 hm => ?_, ok.apart⟩
 ·rw [hb] at e ⊢; cases (Gh.addIm_self.symm.trans e); exact r1
 ·rw [hb] at e'; cases (hfr.2.symm.trans e')
 ·refine E0_6 (ok.tabs c2 P2 hm) fun x1 x2 x3 x4 x5 x6 => ?_
  have hi2 : (g.addIm c' oc).im P2 = none := (if_neg (Nat.ne_of_lt (Nat.lt_of_lt_of_le x2 (Nat.le_trans ok.size hge)))).trans x1
  by_cases hPP : P2 = P
  ·rw [hPP] at hm x5 hi2 ⊢
   rw [tabs_apart ok.apart hm ht] at x3 x5 ⊢
   exact ⟨hi2, a2, x3, a4, x5, _, hok', htab', (Z275 b1 fun _ _ _ _ _ _ _ _ htr => tabFit_grow hq htr b3 l r2 r3)⟩
  ·refine E1_1 x3 fun o2 x3 => E1_3 x6 fun ps2 y1 y2 y3 => ?_
   have hc2 : c2 ≠ P := hPim _ _ (ok.base _ _ x3)
   exact ⟨hi2, x2, ⟨o2, x3⟩, x4, x5, ps2, y1.extBut hx hc2 hPP, y2.extBut hx hc2 hPP, y3.mono l.im⟩
theorem Z279 {c P : Addr} {pos : Pos} {qual : Str} {t : Sem Value} {Q : Value → Gh → Prop} (ht : (c, P) ∈ K.B.tabs) (hq : K.B.qn pos.line pos.col = some qual)
  (H1 : ∀ (s : Shared) (E : Value → Shared → Prop) (ps : Array Value) (v : Value) (Q : Value → Shared → Prop), s.heap.IsCode c P ps → codeAmong pos ps.toList = some v → Q v s → wpAny (model K.prog K.w) A t Q E s)
  (H2 : ∀ (s : Shared) (E : Value → Shared → Prop) (ps : Array Value) (Q : Value → Shared → Prop), s.heap.IsCode c P ps → s.heap.TableAt c P ps → codeAmong pos ps.toList = none → (∀ c' h' tk, Heap.ExtBut P s.heap h' → s.heap.objs.size ≤ c' → c' < h'.objs.size → h'.IsCode c P (ps ++ #[rawInt pos.line, rawInt pos.col, .ref c']) → h'.CodeRec (.ref c') qual →
   h'.TableAt c P (ps ++ #[rawInt pos.line, rawInt pos.col, .ref c']) → (∃ P', s.heap.objs.size ≤ P' ∧ h'.IsCode c' P' #[] ∧ h'.TableAt c' P' #[]) → Q (.ref c') { s with heap := h', toks := tk }) → wpAny (model K.prog K.w) A t Q E s)
  (h : ∀ c' g' oc vs tq, Le g g' → g'.im c' = some oc → oc.data = .fields vs → vs[1]? = some (.str qual tq) → Q (.ref c') g') : gwp K A t Q g := fun s E ok =>
 E0_6 (ok.tabs c P ht) fun a1 a2 _ a4 a5 a6 => E1_1 a5 fun ps₀ a5 => E1_3 a6 fun ps b1 b2 b3 => match hf : codeAmong pos ps.toList with
 | some v => E4_4 (b3 pos qual v hq hf) fun a o vs t e e1 e2 e3 => H1 s E ps v _ b1 hf ⟨g, ok, e ▸ h a g o vs t (LeX.refl _ _) e1 e2 e3⟩
 | none => H2 s E ps _ b1 b2 hf fun c' h' tk hx hge hlt hok' hrec htab' _ => E4_4 hrec fun c2 oc vs tq e r1 r2 r3 => by
  rw [← Value.ref.inj e] at r1
  exact ⟨_, ok.grow ht hq a1 a2 a4 a5 b1 b2 b3 hx hge hlt hok' htab' r1 r2 r3, h c' _ oc vs tq (Le.addIm (ok.freshAt hge).1) Gh.addIm_self r2 r3⟩
theorem Z104 {c P : Addr} {pos : Pos} {firstLine : Nat} {name qual : Str} {p : Arguments} {scope : Scope} {body : FuncBody} {Q : Value → Gh → Prop} (hc : env.code = .ref c) (ht : (c, P) ∈ K.B.tabs) (hq : K.B.qn pos.line pos.col = some qual)
  (h : ∀ c' g' oc vs tq, Le g g' → g'.im c' = some oc → oc.data = .fields vs → vs[1]? = some (.str qual tq) → Q (.ref c') g') : gwp K A (functionCode env pos firstLine name qual p scope body) Q g :=
 Z279 ht hq (fun _ _ _ _ _ b1 hf q => Z101 hc b1 hf q) (fun _ _ _ _ b1 b2 hf k => wpAny_functionCodeX hc b1 b2 hf k) h
structure ModB (B : Base) : Prop where
 bi : ∃ o f bm ob, B.im mainGlobals = some o ∧ NsObj o f ∧ f "__builtins__" = some (.ref bm) ∧ bm ≠ builtinsNs ∧ B.im bm = some ob ∧ ob.cls = .type "module" ∧ ob.dict = some builtinsNs ∧ ob.data = .plain
theorem Z278 {c P : Addr} {pos : Pos} {firstLine : Nat} {name qual : Str} {params : Arguments} {scope : Scope} {body : FuncBody} {cl : List (Str × Addr)} {Q : Value → Gh → Prop} (M : ModB K.B) (hkw : params.kwonlyargs = []) (hgl : env.globals = mainGlobals) (hcl : closureFor scope env = pure cl) (hc : env.code = .ref c) (ht : (c, P) ∈ K.B.tabs) (hq : K.B.qn pos.line pos.col = some qual)
  (hdoc : ∀ b, body = .stmts b → docOf b = none)
  (h : ∀ g' c' pm ct, Le g g' → (∃ oc vs tq, g'.im c' = some oc ∧ oc.data = .fields vs ∧ vs[1]? = some (.str qual tq)) →
   gwp K A (newObj (.type "function") (.func { name, qualname := qual, params, body, scope, globals := mainGlobals, closure := cl, closureTuple := ct, code := .ref c', builtins := builtinsNs, defaults := .none, kwdefaults := .none, annotations := none, pyModule := pm, doc := .none })) Q g') :
  gwp K A (makeFunction name qual params body scope env [] [] [] pos firstLine) Q g := by
 rw [makeFunction_eq, hkw]
 refine Z1 (Z4 (Z1 (Z4 (Z1 (Z4 ?_)))))
 delta makeTail
 rw [hcl, hgl]
 refine Z1 (Z4 ?_)
 by_cases he : cl.isEmpty = true
 ·rw [if_pos he]
  refine Z1 (Z4 ?_)
  refine Z1 (Z104 hc ht hq fun c' g₂ oc vs tq l₂ e1 e2 e3 => ?_)
  refine E4_8 M.bi fun o f bm ob m1 m2 m3 m4 m5 m6 m7 m8 => ?_
  refine Z1 fun s E ok => ?_
  refine wpAny_builtinsFor (m2.ns (ok.im _ _ (ok.base _ _ m1))) m3 m4 (ok.im _ _ (ok.base _ _ m5)) m6 m7 m8 ⟨g₂, ok, ?_⟩
  refine Z1 fun s E ok => ?_
  refine wpAny_nsGet (m2.ns (ok.im _ _ (ok.base _ _ m1))) ⟨g₂, ok, ?_⟩
  cases body with
  | stmts b => simp only [hdoc b rfl]; exact Z1 (Z4 (h g₂ c' _ _ l₂ ⟨oc, vs, tq, e1, e2, e3⟩))
  | expr e => exact Z1 (Z4 (h g₂ c' _ _ l₂ ⟨oc, vs, tq, e1, e2, e3⟩))
 ·rw [if_neg he]
  refine Z1 fun s E ok => wpAny_newTextTuple ⟨_, ok.pushIm (o := { cls := .type "tuple", data := .seq ((cl.mergeSort fun a b => a.1.cps.toList ≤ b.1.cps.toList).map (.ref ·.2)).toArray }) rfl, ?_⟩
  have l₁ := Le.addIm (g := g) (o := { cls := .type "tuple", data := .seq ((cl.mergeSort fun a b => a.1.cps.toList ≤ b.1.cps.toList).map (.ref ·.2)).toArray }) ok.fresh.1
  refine Z1 (Z104 hc ht hq fun c' g₂ oc vs tq l₂ e1 e2 e3 => ?_)
  refine E4_8 M.bi fun o f bm ob m1 m2 m3 m4 m5 m6 m7 m8 => ?_
  refine Z1 fun s E ok => ?_
  refine wpAny_builtinsFor (m2.ns (ok.im _ _ (ok.base _ _ m1))) m3 m4 (ok.im _ _ (ok.base _ _ m5)) m6 m7 m8 ⟨g₂, ok, ?_⟩
  refine Z1 fun s E ok => ?_
  refine wpAny_nsGet (m2.ns (ok.im _ _ (ok.base _ _ m1))) ⟨g₂, ok, ?_⟩
  cases body with
  | stmts b => simp only [hdoc b rfl]; exact Z1 (Z4 (h g₂ c' _ _ (l₁.trans l₂) ⟨oc, vs, tq, e1, e2, e3⟩))
  | expr e => exact Z1 (Z4 (h g₂ c' _ _ (l₁.trans l₂) ⟨oc, vs, tq, e1, e2, e3⟩))
noncomputable abbrev nestFd (name qual : Str) (params : Arguments) (body : FuncBody) (scope : Scope) (cl : List (Str × Addr)) (c' : Addr) (pm ct : Value) : FuncData :=
 {name, qualname := qual, params, body, scope, globals := mainGlobals, closure := cl, closureTuple := ct, code := .ref c', builtins := builtinsNs, defaults := .none, kwdefaults := .none, annotations := none, pyModule := pm, doc := .none }
noncomputable abbrev fnObj (fd : FuncData) : Obj := { cls := .type "function", data := .func fd }
theorem st_def {name : Str} {params : Arguments} {body : List Stmt} {scope : Scope} {pos : Pos} {Q : Flow → Gh → Prop} (hd0 : params.defaults = []) (hk0 : params.kw_defaults = []) (ha : annTrees params none env = [])
  (h : gwp K A (makeFunction name (qualnameIn env name name) params (.stmts body) scope env [] [] [] pos pos.line) (fun v g₁ => gwp K A (storeName env name v) (fun _ g₂ => Q .next g₂) g₁) g) : gwp K A (exec (.FunctionDef name params body [] none [] scope none name pos) env) Q g :=
 fun s E ok => nestDef_K hd0 hk0 ha (wM1_2 (h s E ok) (fun v s₁ _ ok₁ h₁ => h₁ s₁ E ok₁))
noncomputable def Gh.fixed (g : Gh) : Gh := { g with mu := fun _ => none }
theorem Gh.fixed_le : Le g.fixed g := ⟨fun _ _ e => e, (fun _ _ _ e => by cases e), rfl⟩
theorem LeX.fixed {W : List Addr} {g' : Gh} (l : LeX W g g') : Le g.fixed g'.fixed := ⟨l.im, (fun _ _ _ e => by cases e), l.gs⟩
theorem FnAt.unfix {a : Addr} {fd : FuncData} (h : FnAt g.fixed a fd) : FnAt g a fd := h.le Gh.fixed_le
theorem gx_def2 {name : Str} {params : Arguments} {body : List Stmt} {scope : Scope} {pos : Pos} {rest : List Stmt} {src : List Src} {c P : Addr} {i : Nat} {k : NameKind} {q : Str} {Q : Flow → Gh → Prop} (M : ModB K.B)
  (F : Frm K b S' fn cs env nm σ own g) (hi : nm[i]? = some (name, k)) (hk : k = .local ∨ (k = .cell ∧ i ∈ fn)) (hn : NamesOk scope.names) (hsrc : srcOk nm scope.names src = true)
  (hc : env.code = .ref c) (ht : (c, P) ∈ K.B.tabs) (hq : K.B.qn pos.line pos.col = some q) (hqq : env.qual ++ name = q) (hdoc : docOf body = none)
  (h : ∀ a fd g' c' pm ct, fd = nestFd name q params (.stmts body) scope (closOf env.cells scope.names []) c' pm ct → FnAt g'.fixed a fd → LeX (env.locals :: cs) g g' → Frm K b S' fn cs env nm (σ.set i (some (.raw (.ref a)))) own g' → gwp K A (execs rest env) Q g')
  (hd0 : params.defaults = [] := by rfl) (hk0 : params.kw_defaults = [] := by rfl) (hkw : params.kwonlyargs = [] := by rfl) (ha : annTrees params none env = [] := by rfl) :
  gwp K A (execs (.FunctionDef name params body [] none [] scope none name pos :: rest) env) Q g := by
 refine E0_2 (F.clos hn hsrc) fun hfree hclos => ?_
 have hqn : qualnameIn env name name = q := by
  unfold qualnameIn
  rw [F.kindOf hi]
  rcases hk with rfl | ⟨rfl, _⟩ <;> exact hqq
 refine Z10 (st_def hd0 hk0 ha ?_)
 rw [hqn]
 refine Z278 M hkw F.globals (Z72 hfree) hc ht hq (fun b hb => by cases hb; exact hdoc) fun g' c' pm ct l hrec => ?_
 refine fun s E ok => wpAny_newObj_type (T := "function") (dict := none) ⟨_, ok.pushIm (o := fnObj _) rfl, ?_⟩ (by trivial)
 refine E3_3 hrec fun oc vs tq r1 r2 r3 => ?_
 have l₁ : Le g' (g'.addIm s.heap.objs.size (fnObj (nestFd name q params (.stmts body) scope (closOf env.cells scope.names []) c' pm ct))) := Le.addIm ok.fresh.1
 have hfa : ∀ g'' W, LeX W (g'.addIm s.heap.objs.size (fnObj (nestFd name q params (.stmts body) scope (closOf env.cells scope.names []) c' pm ct))) g'' → FnAt g''.fixed s.heap.objs.size (nestFd name q params (.stmts body) scope (closOf env.cells scope.names []) c' pm ct) := fun g'' W l₂ =>
  ⟨⟨_, .inl (l₂.im _ _ Gh.addIm_self), rfl⟩, ⟨c', oc, vs, tq, rfl, .inl (l₂.im _ _ (l₁.im _ _ r1)), r2, r3⟩⟩
 have F' := F.up (l.trans l₁)
 rcases hk with rfl | ⟨rfl, hin⟩
 ·refine F'.storeLocal hi (d := .raw (.ref s.heap.objs.size)) Z27 fun g'' l'' F'' => ?_
  exact h _ _ g'' c' pm ct rfl (hfa g'' _ l'') ((LeX.of (l.trans l₁)).trans (l''.sub (by exact all1 (.head _)))) F''
 ·refine F'.storeCell hi hin (d := .raw (.ref s.heap.objs.size)) Z27 fun g'' l'' F'' => ?_
  exact h _ _ g'' c' pm ct rfl (hfa g'' _ l'') ((LeX.of (l.trans l₁)).trans (l''.sub (fun a ha => List.mem_cons_of_mem _ ha))) F''
theorem gx_def {name : Str} {params : Arguments} {body : List Stmt} {scope : Scope} {pos : Pos} {rest : List Stmt} {src : List Src} {c P : Addr} {i : Nat} {k : NameKind} {q : Str} {Q : Flow → Gh → Prop} (M : ModB K.B)
  (F : Frm K b S' fn cs env nm σ own g) (hi : nm[i]? = some (name, k)) (hk : k = .local ∨ (k = .cell ∧ i ∈ fn)) (hn : NamesOk scope.names) (hsrc : srcOk nm scope.names src = true)
  (hc : env.code = .ref c) (ht : (c, P) ∈ K.B.tabs) (hq : K.B.qn pos.line pos.col = some q) (hqq : env.qual ++ name = q) (hdoc : docOf body = none)
  (h : ∀ a fd g' c' pm ct, fd = nestFd name q params (.stmts body) scope (closOf env.cells scope.names []) c' pm ct → FnAt g' a fd → LeX (env.locals :: cs) g g' → Frm K b S' fn cs env nm (σ.set i (some (.raw (.ref a)))) own g' → gwp K A (execs rest env) Q g')
  (hd0 : params.defaults = [] := by rfl) (hk0 : params.kw_defaults = [] := by rfl) (hkw : params.kwonlyargs = [] := by rfl) (ha : annTrees params none env = [] := by rfl) :
  gwp K A (execs (.FunctionDef name params body [] none [] scope none name pos :: rest) env) Q g :=
 gx_def2 M F hi hk hn hsrc hc ht hq hqq hdoc (fun a fd g' c' pm ct e f => h a fd g' c' pm ct e f.unfix) hd0 hk0 hkw ha
structure FnB (B : Base) (a : Addr) (fd : FuncData) : Prop where
 obj : ∃ o, B.im a = some o ∧ o.data = .func fd ∧ o.cls = .type "function"
 code : ∃ c oc vs tq, fd.code = .ref c ∧ B.im c = some oc ∧ oc.data = .fields vs ∧ vs[1]? = some (.str fd.qualname tq)
theorem FnB.at {a : Addr} {fd : FuncData} {s : Shared} (h : FnB K.B a fd) (ok : g.Ok K.B s) : FnAt g a fd :=
 ⟨E1_3 h.obj fun o h1 h2 _ => ⟨o, .inl (ok.base _ _ h1), h2⟩, E4_3 h.code fun c oc vs tq h1 h2 h3 => ⟨c, oc, vs, tq, h1, .inl (ok.base _ _ h2), h3⟩⟩
noncomputable def paramsOf : Stmt → Arguments
 | .FunctionDef _ p _ _ _ _ _ _ _ _ => p
 | _ => ⟨[], [], none, [], [], none, []⟩
noncomputable def bodyOf : Stmt → List Stmt
 | .FunctionDef _ _ b _ _ _ _ _ _ _ => b
 | .ClassDef _ _ _ b _ _ _ _ _ _ _ => b
 | _ => []
noncomputable def scopeOf : Stmt → Scope
 | .FunctionDef _ _ _ _ _ _ s _ _ _ => s
 | _ => ⟨.function, [], false, false, []⟩
noncomputable def nameOf : Stmt → Str
 | .FunctionDef n _ _ _ _ _ _ _ _ _ => n
 | _ => Str.empty
noncomputable def stNo (l : List Stmt) (i : Nat) : Stmt := l.getD i (.Pass ⟨0, 0, 0, 0⟩)
noncomputable def topFd (st : Stmt) (q : Str) (c : Addr) (cl : List (Str × Addr)) (dv pm ct : Value) : FuncData :=
 {name := nameOf st, qualname := q, params := paramsOf st, body := .stmts (bodyOf st), scope := scopeOf st, globals := mainGlobals, closure := cl, defaults := dv, kwdefaults := .none, doc := .none, pyModule := pm, annotations := none, code := .ref c, closureTuple := ct, builtins := builtinsNs }
theorem Z103 {t : Sem α} {Q : α → Gh → Prop} (h : (∃ s, g.Ok K.B s) → gwp K A t Q g) : gwp K A t Q g := fun s E ok => h ⟨s, ok⟩ s E ok
theorem Z248 {a : Addr} {st : Stmt} {q : Str} {c : Addr} {dv pm ct : Value} {src : List Src} {vals : List Value} {binds : List (Str × Value)} {bi : List (Nat × D)} {Q : Value → Gh → Prop}
  (hf : FnB K.B a (topFd st q c [] dv pm ct)) (r : Room A (n + 2)) (hbind : BindTo K (topFd st q c [] dv pm ct) ⟨vals, []⟩ binds g)
  (hn : NamesOk (scopeOf st).names) (hsrc : srcOk [] (scopeOf st).names src = true) (hg : GlobsAre K.B (scopeOf st).names src) (hb : BindOk (scopeOf st).names fn g.im binds bi)
  (h : ∀ A' L cells cs g', Room A' n → Frm K g S' fn cs (newEnv (scopeOf st) L mainGlobals cells (q ++ ".<locals>.") (some a) (.ref c) none builtinsNs) (scopeOf st).names (bindSt (srcSt [] src) bi) [] g' →
   gwp K A' (execs (bodyOf st) (newEnv (scopeOf st) L mainGlobals cells (q ++ ".<locals>.") (some a) (.ref c) none builtinsNs)) (RetQ Q) g')
  (hco : (scopeOf st).isCoroutine = false := by rfl) (hgen : (scopeOf st).isGenerator = false := by rfl) (hk : (scopeOf st).kind = .function := by rfl) :
  gcc K A (.call (.ref a) ⟨vals, []⟩) Q g := fun s E ok => by
 have hnf : ∀ x ∈ (scopeOf st).names, x.2 ≠ NameKind.free := fun x hx e => by
  refine E1_1 (List.getElem?_of_mem hx) fun i hi => ?_
  obtain ⟨y, k⟩ := x
  clear hx; cases e
  refine E1_2 (Z120 hsrc hi) fun s _ h1 => ?_
  clear hi; cases s <;> simp [srcOk1] at h1
 exact Z187 (fd := topFd st q c [] dv pm ct) (σ := srcSt [] src) r (hf.at ok) rfl hbind hn (Z49 hsrc) (Z66 hsrc hg) (ClosOk.nil hnf) hb (fun A' L cells cs g' hr _ _ _ F => h A' L cells cs g' hr F) rfl rfl hco hgen hk s E ok
theorem Z14 {a : Addr} {st : Stmt} {q : Str} {c : Addr} {dv pm ct : Value} {src : List Src} {vals : List Value} {binds : List (Str × Value)} {bi : List (Nat × D)} {Q : Value → Gh → Prop}
  (hf : FnB K.B a (topFd st q c [] dv pm ct)) (r : Room A (n + 2)) (hbind : BindTo K (topFd st q c [] dv pm ct) ⟨vals, []⟩ binds g)
  (hn : NamesOk (scopeOf st).names) (hsrc : srcOk [] (scopeOf st).names src = true) (hg : GlobsAre K.B (scopeOf st).names src) (hb : BindOk (scopeOf st).names fn g.im binds bi)
  (h : ∀ A' L cells cs g', Room A' n → Frm K g S' fn cs (newEnv (scopeOf st) L mainGlobals cells (q ++ ".<locals>.") (some a) (.ref c) none builtinsNs) (scopeOf st).names (bindSt (srcSt [] src) bi) [] g' →
   gwp K A' (execs (bodyOf st) (newEnv (scopeOf st) L mainGlobals cells (q ++ ".<locals>.") (some a) (.ref c) none builtinsNs)) (RetQ Q) g')
  (hco : (scopeOf st).isCoroutine = false := by rfl) (hgen : (scopeOf st).isGenerator = false := by rfl) (hk : (scopeOf st).kind = .function := by rfl) :
  gwp K A (call (.ref a) vals) Q g := Z95 (Z248 hf r hbind hn hsrc hg hb h hco hgen hk)
theorem Z15 {fd : FuncData} {vals : List Value} {binds : List (Str × Value)} (h : bindArgs fd ⟨vals, []⟩ = pure binds) : BindTo K fd ⟨vals, []⟩ binds g := BindTo.rfl' h
end
end Mine
section
namespace Mine
open PySem PySem.Spec PySem.Calls PyProof.Rows PySem.W
variable {K : Wd} {B : Base} {α β : Type} {A : Around} {g : Gh} {n : Nat} {env : Env}
variable {b : Gh} {S' : List Addr} {fn : List Nat} {cs : List Addr} {nm : List (Str × NameKind)} {σ σ' : List (Option D)} {own : List (Addr × MO)}
theorem pe_rawint {t : Sem Value} {i : Int} {k : Tok} (h : Pe K n g t (.raw (.int i k))) : Pe K n g t (.int i) := h.mono fun g₂ v _ p => by rw [Z22 p]; exact Z25
set_option genSizeOf false in
inductive SI where
 | no
 | glob (j : Nat)
 | outer (j : Nat)
noncomputable def mkSrc (gt : List (Str × Value)) : SI → Src
 | .no => .no
 | .glob j => .glob ((gt[j]?.map (·.2)).getD .none)
 | .outer j => .outer j
noncomputable def mkSrcs (gt : List (Str × Value)) (l : List SI) : List Src := l.map (mkSrc gt)
noncomputable def globIdx (gt : List Str) (names : List (Str × NameKind)) (l : List SI) : Bool := (List.range names.length).all fun i => match names[i]?, l[i]? with
 | some (x, _), some (.glob j) => gt[j]? == some x
 | _, _ => true
noncomputable def GtOk (B : Base) (gt : List (Str × Value)) : Prop := ∀ (j : Nat) (x : Str) (v : Value), gt[j]? = some (x, v) → GlobIs B x v
theorem Z3 {B : Base} {gt : List (Str × Value)} (h : GtOk B gt) {names : List (Str × NameKind)} {l : List SI} (hc : globIdx (gt.map (·.1)) names l = true) : GlobsAre B names (mkSrcs gt l) := fun i x v hi hs => by
 unfold globIdx at hc
 simp only [List.all_eq_true, List.mem_range] at hc
 have hlt := (List.getElem?_eq_some_iff.mp hi).1
 have := hc i hlt
 unfold mkSrcs at hs
 rw [List.getElem?_map] at hs
 clear hlt hc; cases e : l[i]? with
 | none => rw [e] at hs; cases hs
 | some s =>
  rw [e] at hs
  cases s with
  | no => simp [mkSrc] at hs
  | outer j => simp [mkSrc] at hs
  | glob j =>
   rw [hi, e] at this
   simp only [List.getElem?_map, beq_iff_eq, Option.map_eq_some_iff] at this
   refine E1_2 this ?_
   clear this e hi; rintro p hp rfl
   simp [mkSrc, hp] at hs
   subst hs
   exact h j p.1 p.2 (by rw [hp])
theorem pn (F : Frm K b S' fn cs env nm σ own g) (i : Nat) {x : Str} {k : NameKind} {d : D} {pos : Pos} (h : nm[i]? = some (x, k) := by rfl) (hd : σ[i]? = some (some d) := by rfl) (hk : k ≠ .globalExplicit := by decide) : Pe K n g (eval (.Name x pos) env) d := Z6 F h hd hk
theorem Z244 {func : Expr} {args : List Expr} {pos : Pos} {a : Addr} {fd : FuncData} {ds : List D} {Q : Value → Gh → Prop} (r : Room A n) (hf : Pe K n g (eval func env) (.raw (.ref a))) (hfn : FnAt g a fd) (ha : Pes K n g args env pos ds)
  (h : ∀ vs g', Le g g' → Reps g'.im ds vs → gwp K A (call (.ref a) vs) Q g')
  (hp : (backTo pos (starEach args env)).any (·.1) = false := by rfl)
  (he : eval (.Call func args [] pos) env = (do callWith pos (← eval func env) [] (backTo pos (starEach args env)) (backToKw pos (keywordEach [] env))) := by rfl) : gwp K A (eval (.Call func args [] pos) env) Q g := by
 refine E1_2 hfn.obj fun o h1 h2 => ?_
 exact Z33 (he := he) (hf.use r fun f' g₂ l₂ p => by
  have := Z22 p; subst this
  exact Z26 (h1.le l₂) h2 (Z7 hp ((ha.le l₂).use r fun vs g₃ l₃ rs => ⟨h1.le (l₂.trans l₃), h vs g₃ (l₂.trans l₃) rs⟩)))
theorem Z176 {o i value : Expr} {pos' pos : Pos} {Q : Flow → Gh → Prop} (h : gwp K A (eval value env) (fun v g₁ => gwp K A (eval o env) (fun ov g₂ => gwp K A (eval i env) (fun iv g₃ => gwp K A (setItem ov iv v) (fun _ g₄ => Q .next g₄) g₃) g₂) g₁) g)
  (hs : swapsWith value (some (.Subscript o i pos')) pos.line env = pure false := by rfl) : gwp K A (exec (.Assign [.Subscript o i pos'] value pos) env) Q g :=
 fun s E ok => wpAny_Assign_Subscript (wM1_2 (h s E ok) (fun v s₁ _ ok₁ h₁ => wM1_2 (h₁ s₁ E ok₁) (fun v s₁ _ ok₁ h₁ => wM1_2 (h₁ s₁ E ok₁) (fun v s₁ _ ok₁ h₁ => h₁ s₁ E ok₁)))) hs
theorem ClosOk.up {cl : List (Str × Addr)} {g' : Gh} {W : List Addr} (h : ClosOk nm cl σ g) (l : LeX W g g') (hw : ∀ a ∈ W, g.mu a = none ∨ ∀ o w, g.mu a = some o → o.data ≠ .cell w) (hh : ∀ p ∈ cl, ∃ o, g'.has p.2 o) : ClosOk nm cl σ g' where
 free := fun i x hi => by
  refine E3_4 (h.free i x hi) fun c o w h1 h2 h3 h4 => ?_
  refine ⟨c, o, w, h1, h2.imp (l.im _ _) (fun z => l.mu _ _ (fun hm => ?_) z), h3, fun d hd => E1_2 (h4 d hd) fun v a1 a2 => ⟨v, a1, a2.mono l.im⟩⟩
  rcases hw c hm with hw | hw
  ·cases ((hw).symm.trans z)
  ·exact hw o w z h3
 has := hh
 apart := h.apart
theorem ClosOk.le {cl : List (Str × Addr)} {g' : Gh} (h : ClosOk nm cl σ g) (l : Le g g') : ClosOk nm cl σ g' := h.up l (by exact all0) fun p hp => E1_1 (h.has p hp) fun o ho => ⟨o, ho.le l⟩
theorem FnAt.up {a : Addr} {fd : FuncData} {g' : Gh} {W : List Addr} (h : FnAt g a fd) (l : LeX W g g') (hi : ∀ b ∈ W, b ≠ a ∧ ∀ o, g.mu b = some o → ∀ vs, o.data ≠ .fields vs) : FnAt g' a fd := by
 refine E1_2 h.obj fun o h1 h2 => ?_
 refine E4_4 h.code fun c oc vs tq c1 c2 c3 c4 => ?_
 exact ⟨⟨o, h1.imp (l.im _ _) (fun z => l.mu _ _ (fun hm => (hi a hm).1 rfl) z), h2⟩, ⟨c, oc, vs, tq, c1, c2.imp (l.im _ _) (fun z => l.mu _ _ (fun hm => (hi c hm).2 oc z vs c3) z), c3, c4⟩⟩
noncomputable def putD (ds : List D) (L : Nat) (vs : List D) : List D := ds.take L ++ vs ++ ds.drop (L + vs.length)
theorem putD_put {ds v w : List D} {L : Nat} (h : L + v.length ≤ ds.length) : putD (putD ds L v) (L + v.length) w = putD ds L (v ++ w) := by
 unfold putD
 have h1 : (ds.take L).length = L := by rw [List.length_take]; lia
 have h2 : (ds.take L ++ v).length = L + v.length := by rw [List.length_append, h1]
 rw [List.take_append_of_le_length (by rw [h2]; exact Nat.le_refl _), List.take_of_length_le (by rw [h2]; exact Nat.le_refl _), List.drop_append, h2, List.drop_eq_nil_of_le (by rw [h2]; lia), List.nil_append, List.drop_drop, List.append_assoc (ds.take L), List.length_append]
 congr 2
 lia
theorem putD_one {ds : List D} {L : Nat} {v : D} (h : L < ds.length) : putD ds L [v] = ds.set L v := by
 unfold putD
 rw [List.set_eq_take_append_cons_drop, if_pos h]
 simp
theorem putD_all {ds v : List D} (h : v.length = ds.length) : putD ds 0 v = v := by
 unfold putD; rw [h]; simp
theorem putD_length {ds v : List D} {L : Nat} (h : L + v.length ≤ ds.length) : (putD ds L v).length = ds.length := by
 unfold putD; simp; lia
theorem Reps.setA {im : Im} {ds : List D} {its : Array Value} (h : Reps im ds its.toList) (k : Nat) {d : D} {v : Value} (hd : Rep im d v) : Reps im (ds.set k d) (its.setIfInBounds k v).toList := by
 rw [Array.toList_setIfInBounds]; exact h.set k hd
end Mine
namespace Mine
open PySem PySem.Spec PySem.Calls PyProof.Rows PySem.W
variable {K : Wd} {B : Base} {α β : Type} {A : Around} {g : Gh} {n : Nat} {env : Env}
variable {b : Gh} {S' : List Addr} {fn : List Nat} {cs : List Addr} {nm : List (Str × NameKind)} {σ σ' : List (Option D)} {own : List (Addr × MO)}
theorem Frm.adopt' {ms : List (Addr × MO)} (F : Frm K b S' fn cs env nm σ own g) (h : Holds ms g) (hk : (ms.map (·.1)).Nodup) (hn : ∀ a ∈ ms.map (·.1), a ∉ env.locals :: cs ++ own.map (·.1)) (hb : ∀ a ∈ ms.map (·.1), a ∈ S' ∨ b.mu a = none) : Frm K b S' fn cs env nm σ (ms ++ own) g :=
 {F with
  apart := by
   have hap := F.apart
   rw [List.map_append]
   rw [List.nodup_append] at hap ⊢
   refine ⟨hap.1, List.nodup_append.mpr ⟨hk, hap.2.1, fun x hx y hy => ?_⟩, fun x hx y hy => ?_⟩
   ·rintro rfl; exact hn x hx (List.mem_append.mpr (.inr hy))
   ·rcases List.mem_append.mp hy with hy | hy
    ·rintro rfl; exact hn x hy (List.mem_append.mpr (.inl hx))
    ·exact hap.2.2 x hx y hy
  own := fun p hp => by
   rcases List.mem_append.mp hp with hp | hp
   ·refine E1_2 (h p hp) fun o h1 h2 => ?_
    exact ⟨o, h1, h2, hb _ (List.mem_map_of_mem (f := (·.1)) hp)⟩
   ·exact F.own p hp }
theorem Frm.own1 {a : Addr} {m : MO} (F : Frm K b S' fn cs env nm σ ((a, m) :: own) g) : ∃ o, g.mu a = some o ∧ m.P g.im o := E1_3 (F.own (a, m) (by exact .head _)) fun o h1 h2 _ => ⟨o, h1, h2⟩
theorem Frm.adv1 {a : Addr} {m m' : MO} {g' : Gh} (F : Frm K b S' fn cs env nm σ ((a, m) :: own) g) (l : LeX [a] g g') (h : ∃ o, g'.mu a = some o ∧ m'.P g'.im o) (hc : ∀ o w, m.P g.im o → o.data ≠ .cell w) : Frm K b S' fn cs env nm σ ((a, m') :: own) g' :=
 Frm.advance (ms := [(a, m)]) (ms' := [(a, m')]) F l rfl (all1 (h)) (all1 (hc))
theorem MO.list_cell {ds : List D} {im : Im} (o : Obj) (w : Option Value) (h : (MO.list ds).P im o) : o.data ≠ .cell w := by
 obtain ⟨its, m, rfl, _⟩ := h; intro z; cases z
theorem Frm.setList {a : Addr} {ds ds' : List D} {its' : Array Value} {m' : Nat} (F : Frm K b S' fn cs env nm σ ((a, MO.list ds) :: own) g) (h : Reps g.im ds' its'.toList) : Frm K b S' fn cs env nm σ ((a, MO.list ds') :: own) (g.setMu a (sq "list" its' m')) :=
 F.adv1 LeX.setMu ⟨_, Gh.setMu_self, its', m', rfl, h⟩ MO.list_cell
theorem Frm.fix1 {a : Addr} {ds : List D} {its : Array Value} {m : Nat} (F : Frm K b [] fn cs env nm σ ((a, MO.list ds) :: own) g) (hi : g.im a = none) (h : g.mu a = some (sq "list" its m)) :
  Frm K b [] fn cs env nm σ own (g.fix a (sq "list" its m)) ∧ Rep (g.fix a (sq "list" its m)).im (.lst ds) (.ref a) := by
 obtain ⟨o, e, its', m', e2, hr⟩ := F.own1
 cases ((h).symm.trans e); cases e2
 refine ⟨Frm.lose (ms := [(a, MO.list ds)]) F (LeX.fix hi) (fun p hp o w => by simp at hp; subst hp; exact MO.list_cell o w), Z16.mpr ⟨a, its, m, rfl, Gh.fix_self, hr.mono (LeX.fix hi).im⟩⟩
theorem Z214 {t : Sem α} {Q : α → Gh → Prop} {a : Addr} {ds : List D} (F : Frm K b [] fn cs env nm σ ((a, MO.list ds) :: own) g) (k : ∀ g', LeX [a] g g' → Frm K b [] fn cs env nm σ own g' → Rep g'.im (.lst ds) (.ref a) → gwp K A t Q g') : gwp K A t Q g := Z103 fun z₀ => E1_1 z₀ fun s ok => by
 obtain ⟨o, e, its, m, rfl, hr⟩ := F.own1
 have hi : g.im a = none := by
  cases e' : g.im a with
  | none => rfl
  | some o => exact (ok.dis _ _ _ e' e).elim
 refine E0_2 (F.fix1 hi e) fun F' hr' => ?_
 exact gwp_fix e (k _ (LeX.fix hi) F' hr')
theorem gwp_pe {t : Sem Value} {Q : Value → Gh → Prop} (d : D) (h : Pe K n g t d) (r : Room A n) (k : ∀ v g', Le g g' → Rep g'.im d v → Q v g') : gwp K A t Q g := h.use r k
theorem FnAt.ne {a c : Addr} {fd : FuncData} {o : Obj} {s : Shared} (h : FnAt g a fd) (ok : g.Ok B s) (hm : g.mu c = some o) (hd : ∀ fd, o.data ≠ .func fd) : a ≠ c := by
 rintro rfl
 refine E1_2 h.obj fun o' h1 h2 => ?_
 have := h1.inj (.inr hm) ok
 clear hm; subst this
 exact hd _ h2
theorem CallSem.room {f : Value} {ds : List D} {d : D} {m : Nat} (h : CallSem K n g f ds d) (hm : n ≤ m) : CallSem K m g f ds d := fun g' l vs r => (h g' l vs r).room hm
theorem CallSem.le {f : Value} {ds : List D} {d : D} {g' : Gh} (h : CallSem K n g f ds d) (l : Le g g') : CallSem K n g' f ds d := fun g'' l' vs r => h g'' (l.trans l') vs r
theorem Z213 {func : Expr} {a : Addr} {fd : FuncData} {args : List Expr} {pos : Pos} {ds : List D} {d : D} (hf : Pe K n g (eval func env) (.raw (.ref a))) (hfn : FnAt g a fd) (ha : Pes K n g args env pos ds) (h : CallSem K n g (.ref a) ds d)
  (hp : (backTo pos (starEach args env)).any (·.1) = false := by rfl)
  (he : eval (.Call func args [] pos) env = (do callWith pos (← eval func env) [] (backTo pos (starEach args env)) (backToKw pos (keywordEach [] env))) := by rfl) : Pe K n g (eval (.Call func args [] pos) env) d := by
 refine E1_2 hfn.obj fun o h1 h2 => ?_
 exact pe_callf hf h1 h2 ha h hp he
theorem Z45 {func : Expr} {a : Addr} {fd : FuncData} {args : List Expr} {pos : Pos} {ds : List D} {d : D} (hf : Pe K n g (eval func env) (.raw (.ref a))) (hfn : FnB K.B a fd) (ha : Pes K n g args env pos ds) (h : CallSem K n g (.ref a) ds d)
  (hp : (backTo pos (starEach args env)).any (·.1) = false := by rfl)
  (he : eval (.Call func args [] pos) env = (do callWith pos (← eval func env) [] (backTo pos (starEach args env)) (backToKw pos (keywordEach [] env))) := by rfl) : Pe K n g (eval (.Call func args [] pos) env) d := fun A r g₁ l => Z103 fun ⟨s, ok⟩ =>
 Z213 (hf.le l) (hfn.at ok) (Pv.le ha l) (h.le l) hp he A r g₁ (LeX.refl _ _)
end Mine
end
namespace Mine
section
open PySem PySem.Spec PySem.Calls PyProof.Rows PySem.W
variable {K : Wd} {B : Base} {α β : Type} {A : Around} {g : Gh} {n : Nat} {env : Env}
variable {b : Gh} {S' : List Addr} {fn : List Nat} {cs : List Addr} {nm : List (Str × NameKind)} {σ σ' : List (Option D)} {own : List (Addr × MO)}
theorem pe_as {t : Sem Value} {v : Value} {d : D} (h : Pe K n g t (.raw v)) (hr : Rep g.im d v) : Pe K n g t d := h.mono fun g₂ w l p => by rw [Z22 p]; exact hr.le l
theorem Z125 {o : Expr} {name : Str} {apos pos : Pos} {args : List Expr} {a : Addr} {its : Array Value} {m : Nat} {id : String} {ds : List D} {Q : Value → Gh → Prop} (r : Room A n)
  (ho : Pe K n g (eval o env) (.raw (.ref a))) (ha : g.mu a = some (sq "list" its m)) (hargs : Pes K n g args env pos ds) (slot : Slot "list" name id) (hty : typeOf (.builtin id) = pure (.type "method_descriptor"))
  (h : ∀ vs g', Le g g' → Reps g'.im ds vs → gwp K A (call (.builtin id) (.ref a :: vs)) Q g')
  (hbase : attributeBase o name env (eval o env) = eval o env := by rfl) (hline : (apos.endLine == pos.line) = true := by rfl)
  (hfew : ((backTo pos (starEach args env)).all (fun x => !x.1) && (backToKw pos (keywordEach [] env)).all (fun x => x.1.isSome)
   && decide (args.length + ([] : List Keyword).length + (if ([] : List Keyword).isEmpty then 0 else 1) < 30)) = true := by rfl)
  (hp : (backTo pos (starEach args env)).any (·.1) = false := by rfl) : gwp K A (eval (.Call (.Attribute o name apos) args [] pos) env) Q g :=
 gwp_meth F.plainAttrs_list slot hty (ho.useR r fun g₂ l₂ => by
  exact ⟨fun s ok => ⟨⟨_, ok.mu _ _ (l₂.at ha), rfl⟩, fun a' e => by cases e; exact ⟨_, ok.mu _ _ (l₂.at ha), rfl⟩⟩, (hargs.le l₂).use r fun vs g₃ l₃ rs => h vs g₃ (l₂.trans l₃) rs⟩) hbase hline hfew hp
theorem Z164 {o e : Expr} {apos pos spos : Pos} {a : Addr} {ds : List D} {d : D} {rest : List Stmt} {Q : Flow → Gh → Prop} (H : Frm K b S' fn cs env nm σ ((a, MO.list ds) :: own) g) (r : Room A n) (ho : Pe K n g (eval o env) (.raw (.ref a))) (he : Pe K n g (eval e env) d)
  (hsz : ds.length ≤ sizeLine) (k : ∀ g', LeX [a] g g' → Frm K b S' fn cs env nm σ ((a, MO.list (ds ++ [d])) :: own) g' → gwp K A (execs rest env) Q g')
  (hst : starEach [e] env = [(false, eval e env)] := by rfl)
  (hbase : attributeBase o "append" env (eval o env) = eval o env := by rfl) (hline : (apos.endLine == pos.line) = true := by rfl)
  (hfew : ((backTo pos (starEach [e] env)).all (fun x => !x.1) && (backToKw pos (keywordEach [] env)).all (fun x => x.1.isSome)
   && decide ([e].length + ([] : List Keyword).length + (if ([] : List Keyword).isEmpty then 0 else 1) < 30)) = true := by rfl)
  (hp : (backTo pos (starEach [e] env)).any (·.1) = false := by rfl) : gwp K A (execs (.Expr (.Call (.Attribute o "append" apos) [e] [] pos) spos :: rest) env) Q g := by
 obtain ⟨ob, e1, its, m, rfl, hr⟩ := H.own1
 have hsize : its.size = ds.length := by rw [← Array.length_toList, hr.length]
 refine Z10 (Z92 (Z125 r ho e1 (Z2 he Z5 hst) slot_list_append F.type_list_append (fun vs g' l rs => ?_) hbase hline hfew hp) H.inter)
 refine E1_2 (reps1 rs) ?_
 clear rs hp hfew hline hbase hst he ho; rintro v rfl rv
 refine Z280 (l.at e1) (by rw [hsize]; exact hsz) fun m' => ⟨(fun a z => by cases z), k _ ((LeX.of l).trans LeX.setMu) ?_⟩
 exact (H.up l).setList (by rw [Array.toList_push]; exact Reps.append (hr.le l) (Reps.cons rv Reps.nil))
theorem gx_reverse {o : Expr} {apos pos spos : Pos} {a : Addr} {ds : List D} {rest : List Stmt} {Q : Flow → Gh → Prop} (H : Frm K b S' fn cs env nm σ ((a, MO.list ds) :: own) g) (r : Room A n) (ho : Pe K n g (eval o env) (.raw (.ref a)))
  (hsz : ds.length ≤ sizeLine) (k : ∀ g', LeX [a] g g' → Frm K b S' fn cs env nm σ ((a, MO.list ds.reverse) :: own) g' → gwp K A (execs rest env) Q g')
  (hbase : attributeBase o "reverse" env (eval o env) = eval o env := by rfl) (hline : (apos.endLine == pos.line) = true := by rfl)
  (hfew : ((backTo pos (starEach [] env)).all (fun x => !x.1) && (backToKw pos (keywordEach [] env)).all (fun x => x.1.isSome)
   && decide (([] : List Expr).length + ([] : List Keyword).length + (if ([] : List Keyword).isEmpty then 0 else 1) < 30)) = true := by rfl)
  (hp : (backTo pos (starEach [] env)).any (·.1) = false := by rfl) : gwp K A (execs (.Expr (.Call (.Attribute o "reverse" apos) [] [] pos) spos :: rest) env) Q g := by
 obtain ⟨ob, e1, its, m, rfl, hr⟩ := H.own1
 have hsize : its.size = ds.length := by rw [← Array.length_toList, hr.length]
 refine Z10 (Z92 (Z125 r ho e1 Z5 F.slot_list_reverse F.type_list_reverse (fun vs g' l rs => ?_) hbase hline hfew hp) H.inter)
 simp only [Reps] at rs; subst rs
 refine gwp_reverse (l.at e1) (by rw [hsize]; exact hsz) fun m' => ⟨(fun a z => by cases z), k _ ((LeX.of l).trans LeX.setMu) ?_⟩
 exact (H.up l).setList (by rw [Array.toList_reverse]; exact (hr.le l).reverse)
theorem Z276 {x : Str} {es : List Expr} {pos pos' spos : Pos} {i : Nat} {ds : List D} {rest : List Stmt} {Q : Flow → Gh → Prop} (H : Frm K b S' fn cs env nm σ own g) (r : Room A n) (h : nm[i]? = some (x, NameKind.local)) (hs : Pes K n g es env pos ds) (hsz : ds.length ≤ sizeLine)
  (k : ∀ a g', LeX [env.locals] g g' → g.mu a = none → Frm K b S' fn cs env nm (σ.set i (some (.raw (.ref a)))) ((a, MO.list ds) :: own) g' → gwp K A (execs rest env) Q g')
  (hsw : swapsWith (.List es pos) (some (.Name x pos')) spos.line env = pure false := by rfl) : gwp K A (execs (.Assign [.Name x pos'] (.List es pos) spos :: rest) env) Q g := by
 refine Z10 (Z34 (Z186 hs r hsz fun a g₂ its l h1 h2 hr => ?_) hsw)
 have hba : b.mu a = none ∨ a ∈ S' := by
  by_cases hS : a ∈ S'
  ·exact .inr hS
  ·refine .inl ?_
   cases e : b.mu a with
   | none => rfl
   | some o => have := (H.up l).le.mu a o hS e; cases ((h2).symm.trans this)
 have H₂ : Frm K b S' fn cs env nm σ ((a, MO.list ds) :: own) (g₂.setMu a (sq "list" its 0)) := Frm.adopt (ms := [(a, MO.list ds)]) ((H.up l).up (Le.addMu h2)) (H.up l) (all1 ⟨_, Gh.setMu_self, its, 0, rfl, hr⟩) (by simp) (by simp [h2]) (by simpa using hba.symm)
 exact H₂.storeLocal h (d := .raw (.ref a)) Z27 fun g₃ l₃ H₃ => k a g₃ (((LeX.of (l.trans (Le.addMu h2)))).trans l₃) (l.nomu h2) H₃
theorem gx_pair {e₁ e₂ : Expr} {k : Nat} {tpos pos : Pos} {value : Expr} {d₁ d₂ : D} {σ₁ : List (Option D)} {rest : List Stmt} {Q : Flow → Gh → Prop} (H : Frm K b S' fn cs env nm σ own g) (r : Room A n) (hv : Pe K n g (eval value env) (.tup [d₁, d₂])) (ht : Tgt K nm fn (.Tuple [e₁, e₂] k tpos) σ (.tup [d₁, d₂]) σ₁)
  (kk : ∀ g', LeX (env.locals :: cs) g g' → Frm K b S' fn cs env nm σ₁ own g' → gwp K A (execs rest env) Q g')
  (hs : swapsWithSole [.Tuple [e₁, e₂] k tpos] value pos.line env = pure false := by rfl) (hw : swappedStores [.Tuple [e₁, e₂] k tpos] value env = pure none := by rfl) : gwp K A (execs (.Assign [.Tuple [e₁, e₂] k tpos] value pos :: rest) env) Q g :=
 Z10 (st_tuple (hv.use r fun v g₁ l p => gM0_2 (ht.set r.1 (H.up l) p) fun _ g₂ l₂ H₂ => kk g₂ ((LeX.of l).trans l₂) H₂) hs hw)
noncomputable def leSt : List (Option D) → List (Option D) → Prop
 | [], _ => True
 | none :: σ₀, _ :: σ₁ => leSt σ₀ σ₁
 | some d :: σ₀, o :: σ₁ => o = some d ∧ leSt σ₀ σ₁
 | none :: σ₀, [] => leSt σ₀ []
 | some _ :: _, [] => False
theorem leSt_at : ∀ {σ₀ σ₁ : List (Option D)}, leSt σ₀ σ₁ → backOk σ₀ σ₁
 | [], _, _, i, d, e => by simp at e
 | none :: σ₀, o :: σ₁, h, 0, d, e => by simp at e
 | none :: σ₀, o :: σ₁, h, i + 1, d, e => by simpa using leSt_at (σ₀ := σ₀) (σ₁ := σ₁) h i d (by simpa using e)
 | some d' :: σ₀, o :: σ₁, h, 0, d, e => by simp at e; subst e; simp [h.1]
 | some d' :: σ₀, o :: σ₁, h, i + 1, d, e => by simpa using leSt_at (σ₀ := σ₀) (σ₁ := σ₁) h.2 i d (by simpa using e)
 | none :: σ₀, [], h, 0, d, e => by simp at e
 | none :: σ₀, [], h, i + 1, d, e => by have := leSt_at (σ₀ := σ₀) (σ₁ := []) h i d (by simpa using e); simp at this
 | some _ :: _, [], h, _, _, _ => h.elim
theorem Frm.lessL (F : Frm K b S' fn cs env nm σ own g) (h : leSt σ' σ) : Frm K b S' fn cs env nm σ' own g := F.less (leSt_at h)
theorem Z143 {X : Type} (F₀ : Frm K b S' fn cs env nm σ own g) (σf : List D → X → List (Option D)) (of : List D → X → List (Addr × MO)) (P : List D → X → Prop) {ds : List D} (x₀ : X) {target iter : Expr} {body rest : List Stmt} {pos : Pos} {Q : Flow → Gh → Prop}
  (r : Room A n) (hit : PItM K n g iter env ds) (F : Frm K b S' fn cs env nm (σf ds x₀) (of ds x₀) g) (hP : P ds x₀)
  (turn : ∀ d ds x ms g v, P (d :: ds) x → Frm K b S' fn cs env nm (σf (d :: ds) x) (ms ++ of (d :: ds) x) g → Rep g.im d v →
   gwp K A (assign target env v) (fun _ g₁ => gwp K A (execs body env) (fun f g₂ => match f with
    | .next | .cont => ∃ x', P ds x' ∧ Frm K b S' fn cs env nm (σf ds x') (ms ++ of ds x') g₂
    | .brk => False
    | .ret v => Q (.ret v) g₂) g₁) g)
  (fin : ∀ x g, P [] x → Frm K b S' fn cs env nm (σf [] x) (of [] x) g → gwp K A (execs rest env) Q g)
  (hs : ∀ x, foldedSetIterable iter env x = pure x := by intro _; rfl) : gwp K A (execs (.For target iter body [] pos :: rest) env) Q g :=
 gx_for σf of P r hit F hP turn fin hs
theorem Frm.front {l₁ l₂ : List (Addr × MO)} {p : Addr × MO} (F : Frm K b S' fn cs env nm σ (l₁ ++ p :: l₂) g) : Frm K b S' fn cs env nm σ (p :: (l₁ ++ l₂)) g :=
 {F with
  apart := by
   have := F.apart
   refine (List.Perm.nodup_iff ?_).mp this
   refine List.Perm.append_left _ ?_
   exact (List.perm_middle (a := p) (l₁ := l₁) (l₂ := l₂)).map _
  own := fun q hq => F.own q (by
   rcases List.mem_cons.mp hq with rfl | hq
   ·simp
   ·rcases List.mem_append.mp hq with hq | hq <;> simp [hq]) }
theorem Frm.back {l₁ l₂ : List (Addr × MO)} {p : Addr × MO} (F : Frm K b S' fn cs env nm σ (p :: (l₁ ++ l₂)) g) : Frm K b S' fn cs env nm σ (l₁ ++ p :: l₂) g :=
 {F with
  apart := by
   have := F.apart
   refine (List.Perm.nodup_iff ?_).mpr this
   refine List.Perm.append_left _ ?_
   exact (List.perm_middle (a := p) (l₁ := l₁) (l₂ := l₂)).map _
  own := fun q hq => F.own q (by
   rcases List.mem_append.mp hq with hq | hq
   ·simp [hq]
   ·rcases List.mem_cons.mp hq with rfl | hq
    ·simp
    ·simp [hq]) }
noncomputable def NsObj1 (o : Obj) (f : Str → Option Value) : Prop := ∃ es ep, o.data = .dict es ep ∧ StrKeys es ∧ UniqKeys es ∧ ∀ x, nsFind es x = f x
theorem NsObj1.ns1 {o : Obj} {f : Str → Option Value} (x : NsObj1 o f) {h : Heap} {a : Addr} (e : h.get? a = some o) : h.Ns1 a f := E2_1 x fun es ep r => ⟨o, es, ep, e, r⟩
theorem NsObj1.nocell {o : Obj} {f : Str → Option Value} (x : NsObj1 o f) (w : Option Value) : o.data ≠ .cell w := E2_2 x fun es ep e _ => by rw [e]; intro z; cases z
structure ClsB (B : Base) (C N : Addr) (bm : List Value) (newId : String) (mN : Str → Option Value) : Prop where
 cls : ∃ nm q bs sn sub col dd k0 k1 k2 k3 k5, B.im C = some (excClassObj nm q C N bs bm true sn sub false col dd k0 k1 k2 k3 k5 newId)
 ns : ∃ oN, B.im N = some oN ∧ NsObj oN mN
theorem ClsB.elim {s : Shared} {C N : Addr} {bm : List Value} {newId : String} {mN : Str → Option Value} {G : Prop} (hc : ClsB B C N bm newId mN) (ok : g.Ok B s) (k : ∀ nm q bs sn sub col dd k0 k1 k2 k3 k5, s.heap.get? C = some (excClassObj nm q C N bs bm true sn sub false col dd k0 k1 k2 k3 k5 newId) → s.heap.Ns N mN → G) : G :=
 E1_2 hc.ns fun _ h1 h2 => E12_1 hc.cls fun nm q bs sn sub col dd k0 k1 k2 k3 k5 h => k nm q bs sn sub col dd k0 k1 k2 k3 k5 (ok.im _ _ (ok.base _ _ h)) (h2.ns (ok.im _ _ (ok.base _ _ h1)))
noncomputable def MO.inst (L : List (Str × D)) : MO := ⟨fun im o => ∃ m, NsObj1 o m ∧ (∀ x d, (x, d) ∈ L → ∃ v, m x = some v ∧ Rep im d v) ∧ ∀ x, x ∉ L.map (·.1) → m x = none,
 fun _ _ _ h ⟨m, h1, h2, h3⟩ => ⟨m, h1, fun x d hx => let ⟨v, a, r⟩ := h2 x d hx; ⟨v, a, r.mono h⟩, h3⟩⟩
theorem MO.inst_cell {L : List (Str × D)} {im : Im} (o : Obj) (w : Option Value) (h : (MO.inst L).P im o) : o.data ≠ .cell w := E1_2 h fun m h1 _ => h1.nocell w
noncomputable abbrev instObj (C dx : Addr) : Obj := { cls := .ref C, dict := some dx, data := .plain }
theorem Gh.Ok.extSet {s : Shared} (ok : g.Ok B s) {a : Addr} {o o' : Obj} (ha : g.mu a = some o) {h' : Heap} {tk : Nat} (hk : ∀ b o, b ≠ a → s.heap.get? b = some o → h'.get? b = some o) (hf : h'.get? a = some o') : (g.setMu a o').Ok B { s with heap := h', toks := tk } :=
 have l := ok.lost (tk := tk) ha hk
 ok.putMu hf (ok.noIm ha) (ok.new _ _ ha) hk l.size l.old rfl rfl
theorem call_plain {prog : Program} {w : World} {A : Around} {E : Value → Shared → Prop} {h : Heap} {g : Array GenState} {d : Drawn} {t : Nat} {os : OsState} {nm q : Str} {C N : Addr} {bs : List Value} {sn : List Str} {sub : List Value} {col : Option Bool} {dd : Option Addr} {k0 k1 k2 k3 k5 : Option Value}
  {mN : Str → Option Value} {rest : List Value} {fI : Addr} {oI : Obj} {Q : Value → Shared → Prop}
  (hC : h.get? C = some (excClassObj nm q C N bs [.type "object"] true sn sub false col dd k0 k1 k2 k3 k5 "object.__new__")) (hn : h.Ns N mN) (hi : mN "__init__" = some (.ref fI)) (hfI : h.get? fI = some oI) (hfc : oI.cls = .type "function")
  (hq : wpAny (model prog w) (A.under (.builtin "type.__call__" ⟨.ref C :: rest, []⟩)) (call (.ref fI) (.ref (h.objs.size + 1) :: rest)) (fun r s' => r = .none ∧ Q (.ref (h.objs.size + 1)) s') E ⟨(h.push { cls := .type "dict", data := .dict #[] }).push (instObj C h.objs.size), g, d, t, os⟩) :
  wpAny (model prog w) A (call (.ref C) rest) Q E ⟨h, g, d, t, os⟩ := by
 have f1 := tc_lookup
 have f2 := tc_bind (.ref C)
 have hT : (⟨h, g, d, t, os⟩ : Shared).TypeIs (.ref C) "type" := ⟨_, hC, rfl⟩
 have hlk : typeLookup (.type "object") "__init__" = pure (some (.builtin "object.__init__")) := by rw [typeLookup_type, builtinLookup_eq_fast]; kernel_rfl
 refine wpAny_call (codeAny_of_tree ?_)
 show wpAny _ _ (callAny (.ref C) _) _ _ _
 repeat (any_goals (first | assumption | with_reducible refine wpAny_loadPart_at hC ?_ | wp_step))
 refine ⟨rfl, ?_⟩
 refine codeAny_call_builtin_at (Code.quiet_builtin _ (by decide +kernel)) entry_typeCall (wpAny_check_type_call_sub hC ?_)
 repeat (first | with_reducible refine wpAny_loadPart_at hC ?_ | with_reducible refine wpAny_madeBy_exc hC ?_ | wp_step)
 refine codeAny_call_builtin_code (Code.quiet_builtin _ F.objNew.quiet) (wpAny_check_obj_new F.objNew hC ?_)
 refine codeAny_obj_new F.objNew hC hn hi ?_
 show wpAny _ _ _ _ _ _
 have k2' : ∀ b o, h.get? b = some o → ((h.push { cls := .type "dict", data := .dict #[] }).push (instObj C h.objs.size)).get? b = some o := fun b o e => Heap.get?_push_of_some _ (Heap.get?_push_of_some _ e)
 have hget : ((h.push { cls := .type "dict", data := .dict #[] }).push (instObj C h.objs.size)).get? (h.objs.size + 1) = some (instObj C h.objs.size) := by
  have := Heap.get?_push_size (h.push { cls := .type "dict", data := .dict #[] }) (o := instObj C h.objs.size) rfl
  rwa [Heap.size_push] at this
 have hcC : (Value.ref C :: [Value.type "object"]).contains (.ref C) = true := by simp
 repeat (first | with_reducible refine wpAny_loadPart_at hget ?_ | (with_reducible refine wpAny_isSubtype_exc (k2' _ _ hC) ?_; rw [hcC]) | wp_step)
 show wpAny _ _ (typeLookup (.ref C) _) _ _ _
 refine wpAny_typeLookup_exc (k2' _ _ hC) (hn.keeps k2') F.mro_object hlk ?_
 rw [hi]
 refine wpAny_holding (wpAny_bind ?_)
 refine wpAny_bind (wpAny_typeOf (T := "function") ⟨_, k2' _ _ hfI, hfc⟩ ?_)
 rw [if_pos (by decide)]
 refine wpAny_pure (wpAny_bind (wpAny_mono hq (fun r s' hr => ?_) fun _ _ x => x))
 refine E0_2 hr ?_
 clear hr hcC hget k2' hlk hT f2 f1 hq hfI hi hC; rintro rfl hQ
 wp_walk
 exact hQ
theorem Z200 {pos : Pos} {f : Value} {first : List Value} {args : List (Bool × Sem Value)} {Q : Value → Gh → Prop} (hplain : args.any (·.1) = false)
  (h : gwp K A (evalArgs f true args []) (fun a g₁ => gwp K A (keeperOf f) (fun k g₂ => (k = .frame ∨ k = .machine ∨ k = .boundFrame) ∧ gwp K A (call f (first ++ a.pos) a.kw) Q g₂) g₁) g) : gwp K A (callWith pos f first args []) Q g := by
 refine Z1 (Z18 (Z9 h fun a g₁ h₁ => Z1 (Z28 ?_)))
 simp only [hplain, List.any_nil, Bool.or_false]
 refine Z1 (gM0_2 h₁ fun k g₂ hk h₂ => ?_)
 have tail : ∀ {t : Sem Value}, gwp K A t Q g₂ → gwp K A (t >>= fun r => holding [r] point >>= fun _ => pure r) Q g₂ := fun ht => Z1 (Z9 ht fun r g₃ hr => Z1 (Z18 (Z168 (Z4 hr))))
 have marked (mk : Value) : gwp K A (callMarked mk f (first ++ a.pos) a.kw) Q g₂ := by unfold callMarked; exact gwp_keep h₂
 rcases hk with rfl | rfl | rfl <;> dsimp only <;> first | exact tail h₂ | (split <;> first | exact tail h₂ | exact tail (marked _))
theorem Z61 {o : Expr} {name : Str} {apos pos : Pos} {args : List Expr} {Q : Value → Gh → Prop}
  (h : gwp K A (attributeBase o name env (eval o env)) (fun ov g₁ => ∀ pl, gwp K A (getMethod ov name pl) (fun fx g₂ => gwp K A (callWith pos fx.1 fx.2 (backTo pos (starEach args env)) []) Q g₂) g₁) g)
  (hline : (apos.endLine == pos.line) = true := by rfl)
  (hfew : ((backTo pos (starEach args env)).all (fun x => !x.1) && (backToKw pos (keywordEach [] env)).all (fun x => x.1.isSome)
   && decide (args.length + ([] : List Keyword).length + (if ([] : List Keyword).isEmpty then 0 else 1) < 30)) = true := by rfl) : gwp K A (eval (.Call (.Attribute o name apos) args [] pos) env) Q g := by
 rw [arm_eval_Call]
 refine Z1 (Z9 h fun ov g₁ h₁ => Z1 (Z28 ?_))
 have hform : methodCallForm (args.length + ([] : List Keyword).length) (backTo pos (starEach args env)) (backToKw pos (keywordEach [] env)) = true := hfew
 have hpos : methodCallPos true o env apos pos = pure pos := by unfold methodCallPos; simp [hline]
 unfold methodCall
 rw [hform]
 refine Z1 (Z18 (Z9 (h₁ _) fun fx g₂ h₂ => ?_))
 exact Z1 (Z82 hpos (Z4 h₂))
theorem Z171 {o : Expr} {attr : Str} {pos : Pos} {Q : Value → Gh → Prop} (h : gwp K A (eval o env) (fun ov g₁ => gwp K A (getAttr ov attr true) Q g₁) g) (hbase : attributeBase o attr env (eval o env) = eval o env := by rfl) : gwp K A (eval (.Attribute o attr pos) env) Q g := by
 rw [arm_eval_Attribute, hbase]
 exact Z1 (Z9 h fun ov g₁ h₁ => Z1 (Z28 (Z1 (Z18 (Z9 h₁ fun r g₂ q => Z1 (Z238 (Z4 q)))))))
theorem Z119 {o value : Expr} {attr : Str} {pos' pos : Pos} {Q : Flow → Gh → Prop} (h : gwp K A (eval value env) (fun v g₁ => gwp K A (eval o env) (fun ov g₂ => gwp K A (setAttr ov attr v) (fun _ g₃ => Q .next g₃) g₂) g₁) g)
  (hs : swapsWith value (some (.Attribute o attr pos')) pos.line env = pure false := by rfl) : gwp K A (exec (.Assign [.Attribute o attr pos'] value pos) env) Q g :=
 fun s E ok => plainObj_wpAny_Assign_Attribute (wM1_2 (h s E ok) (fun v s₁ _ ok₁ h₁ => wM1_2 (h₁ s₁ E ok₁) (fun v s₁ _ ok₁ h₁ => h₁ s₁ E ok₁))) hs
theorem Z220 {x dx C : Addr} {ox od : Obj} {m : Str → Option Value} {h : Heap} (hx : h.get? x = some ox) (hxc : ox.cls = .ref C) (hxd : ox.dict = some dx) (hnc : ∀ c, ox.data ≠ .cls c) (hne : dx ≠ x) (hd : h.get? dx = some od) (hm : NsObj1 od m) : h.Inst x C m :=
 ⟨ox, hx, hxc, hnc, .inr ⟨dx, hxd, hne, hm.ns1 hd⟩⟩
theorem handedOut_of {d : D} {im : Im} {v : Value} (h : Rep im d v) (hd : ∀ id, d ≠ .raw (.builtin id)) : handedOut v = pure v := by
 cases d with
 | none => simp only [Rep] at h; subst h; rfl
 | bool => simp only [Rep] at h; subst h; rfl
 | int => obtain ⟨t, rfl⟩ := Z24 h; rfl
 | str => obtain ⟨t, rfl⟩ := Z29 h; rfl
 | tup => obtain ⟨a, its, m, rfl, _⟩ := Z62.mp h; rfl
 | lst => obtain ⟨a, its, m, rfl, _⟩ := Z16.mp h; rfl
 | raw v => have := Z22 h; subst this; cases v <;> first | rfl | exact absurd rfl (hd _)
theorem Z241 {x dx C N : Addr} {od : Obj} {mN : Str → Option Value} {L : List (Str × D)} {name : Str} {d : D} {newId : String} {Q : Value → Gh → Prop} (hc : ClsB K.B C N [.type "object"] newId mN) (hng : mN "__getattribute__" = none) (hna : mN name = none) (hB : typeLookup (.type "object") name = pure none)
  (hx : g.mu x = some (instObj C dx)) (hd : g.mu dx = some od) (hm : (MO.inst L).P g.im od) (hne : dx ≠ x) (hv : (name, d) ∈ L) (hb : ∀ id, d ≠ .raw (.builtin id)) (q : ∀ v, Rep g.im d v → Q v g) : gwp K A (getAttr (.ref x) name true) Q g := fun s E ok => by
 refine hc.elim ok ?_
 intro nm q' bs sn sub col dd k0 k1 k2 k3 k5 hC hNS
 refine E1_3 hm fun m m1 m2 m3 => ?_
 refine E1_2 (m2 name d hv) fun v hv1 hv2 => ?_
 exact load_attr hC hNS hng hna hB (Z220 (ok.mu _ _ hx) rfl rfl (by intro c z; cases z) hne (ok.mu _ _ hd) m1) hv1 (handedOut_of hv2 hb) ⟨g, ok.tok _, q v hv2⟩
theorem Z169 {x dx C N f : Addr} {od : Obj} {mN : Str → Option Value} {L : List (Str × D)} {name : Str} {fd : FuncData} {newId : String} {pl : Sem Bool} {y : Option Value} {Q : Value × List Value → Gh → Prop} (hc : ClsB K.B C N [.type "object"] newId mN) (hng : mN "__getattribute__" = none) (hnh : mN "__getattr__" = none) (hf : mN name = some (.ref f)) (hfn : FnB K.B f fd)
  (hB : typeLookup (.type "object") name = pure y) (hx : g.mu x = some (instObj C dx)) (hd : g.mu dx = some od) (hm : (MO.inst L).P g.im od) (hne : dx ≠ x) (hv : name ∉ L.map (·.1)) (q : Q (.ref f, [.ref x]) g) : gwp K A (getMethod (.ref x) name pl) Q g := fun s E ok => by
 refine hc.elim ok ?_
 intro nm q' bs sn sub col dd k0 k1 k2 k3 k5 hC hNS
 refine E1_3 hm fun m m1 m2 m3 => ?_
 refine E1_3 hfn.obj fun of f1 f2 f3 => ?_
 exact method_of hC hNS hng hnh hf (ok.im _ _ (ok.base _ _ f1)) f3 hB (Z220 (ok.mu _ _ hx) rfl rfl (by intro c z; cases z) hne (ok.mu _ _ hd) m1) (m3 _ hv) ⟨g, ok, q⟩
noncomputable def putN (L : List (Str × D)) (x : Str) (d : D) : List (Str × D) := (x, d) :: L.filter (fun p => p.1 != x)
theorem inst_put {im : Im} {m : Str → Option Value} {L : List (Str × D)} {name : Str} {d : D} {v : Value} {o' : Obj} (m2 : ∀ x d, (x, d) ∈ L → ∃ v, m x = some v ∧ Rep im d v) (m3 : ∀ x, x ∉ L.map (·.1) → m x = none) (hr : Rep im d v) (ho : NsObj1 o' (fun y => if y = name then some v else m y)) : (MO.inst (putN L name d)).P im o' := by
 refine ⟨_, ho, fun z dz hz => (List.mem_cons.mp hz).elim (fun e => ?_) fun hz => ?_, fun z hz => ?_⟩
 ·exact ⟨v, if_pos (Prod.mk.inj e).1, (Prod.mk.inj e).2 ▸ hr⟩
 ·exact E0_2 (List.mem_filter.mp hz) fun hz1 hz2 => E1_2 (m2 z dz hz1) fun u u1 u2 => ⟨u, (if_neg (bne_iff_ne.mp hz2)).trans u1, u2⟩
 ·have hz := fun e => hz (List.mem_cons.mpr e)
  exact (if_neg fun e => hz (.inl e)).trans (m3 z fun hm => E1_2 (List.mem_map.mp hm) fun p hp e => hz (.inr (e ▸ List.mem_map_of_mem (List.mem_filter.mpr ⟨hp, bne_iff_ne.mpr fun e' => hz (.inl (e.symm.trans e'))⟩))))
theorem Z167 {x dx C N : Addr} {ox od : Obj} {mN : Str → Option Value} {L : List (Str × D)} {name : Str} {d : D} {v : Value} {Bn newId sa owner : String} {bm : List Value} {Q : Unit → Gh → Prop} (SF : StoreFacts Bn bm sa owner) (hc : ClsB K.B C N bm newId mN) (hns : mN "__setattr__" = none) (hna : mN name = none) (hB : typeLookup (.type Bn) name = pure none) (hxC : K.B.h₀.objs.size > C)
  (hx : g.mu x = some ox) (hxc : ox.cls = .ref C) (hxd : ox.dict = some dx) (hnc : ∀ c, ox.data ≠ .cls c) (hd : g.mu dx = some od) (hm : (MO.inst L).P g.im od) (hne : dx ≠ x) (hr : Rep g.im d v) (hsz : L.length ≤ sizeLine) (q : ∀ o', (MO.inst (putN L name d)).P g.im o' → Q () (g.setMu dx o')) : gwp K A (setAttr (.ref x) name v) Q g := fun s E ok =>
 hc.elim ok fun _ _ _ _ _ _ _ _ _ _ _ _ hC hNS => E1_3 hm fun m m1 m2 m3 => store_attr (ns := L.map (·.1)) SF hC hNS hns hna hB (Nat.ne_of_gt (Nat.lt_of_lt_of_le hxC (ok.new _ _ hx))) (Z220 (ok.mu _ _ hx) hxc hxd hnc hne (ok.mu _ _ hd) m1)
  (fun h' tk' I' hk hsame => E1_5 (hsame _ (ok.mu _ _ hx)) fun o₁ e1 e2 e3 e4 e5 => by
   have ho₁ : o₁ = ox := by
    have := (e5 dx hxd).trans hxd.symm
    cases o₁; cases ox
    cases e2; cases e3; cases e4; cases this; rfl
   refine E1_4 I' fun o₂ f1 f2 f3 f4 => ?_
   rw [Z39 f1 e1, ho₁, hxd] at f4
   refine f4.elim (fun z => nomatch z.1) fun z => E1_3 z fun dx' z1 z2 z3 => ?_
   rw [← Option.some.inj z1] at z3
   refine E3_5 z3 fun o' es ep f6 f7 f8 f9 f10 => ⟨g.setMu dx o', ok.extSet (tk := tk') hd (fun b o hb e => (Classical.em (b = x)).elim (fun hbx => ?_) fun hbx => hk b o hbx (fun o₀ dx' h1 h2 => ?_) e) f6, q o' (inst_put m2 m3 hr ⟨es, ep, f7, f8, f9, f10⟩)⟩
   ·rw [hbx, ok.mu _ _ hx] at e
    rw [hbx, e1, ho₁]; exact e
   ·rw [← Z39 (ok.mu _ _ hx) h1, hxd] at h2
    exact Option.some.inj h2 ▸ hb)
  (fun y hy => Classical.byContradiction fun z => hy (m3 y z)) (by rw [List.length_map]; exact hsz)
theorem Z144 {x dx C N : Addr} {od : Obj} {mN : Str → Option Value} {L : List (Str × D)} {name : Str} {d : D} {v : Value} {newId : String} {Q : Unit → Gh → Prop} (hc : ClsB K.B C N [.type "object"] newId mN) (hns : mN "__setattr__" = none) (hna : mN name = none) (hB : typeLookup (.type "object") name = pure none) (hxC : K.B.h₀.objs.size > C)
  (hx : g.mu x = some (instObj C dx)) (hd : g.mu dx = some od) (hm : (MO.inst L).P g.im od) (hne : dx ≠ x) (hr : Rep g.im d v) (hsz : L.length ≤ sizeLine) (q : ∀ o', (MO.inst (putN L name d)).P g.im o' → Q () (g.setMu dx o')) : gwp K A (setAttr (.ref x) name v) Q g :=
 Z167 F.store_object hc hns hna hB hxC hx rfl rfl (fun c z => nomatch z) hd hm hne hr hsz q
theorem Room.under1 {c : Code} (r : Room A (n + 1)) (h1 : c.weight = 1) (h2 : c.cUnits ≤ 8) : Room (A.under c) n := ⟨r.1, by have := r.2.1; show A.depth + c.weight + n < _; lia, by have := r.2.2; show A.units + c.cUnits + 8 * n < _; lia⟩
theorem Z107 (C : Addr) (rest : List Value) : (Code.builtin "type.__call__" ⟨.ref C :: rest, []⟩).weight = 1 := by kernel_rfl
theorem Z130 (C : Addr) (rest : List Value) : (Code.builtin "type.__call__" ⟨.ref C :: rest, []⟩).cUnits ≤ 8 := by
 have : (Code.builtin "type.__call__" ⟨.ref C :: rest, []⟩).cUnits = 1 := by kernel_rfl
 lia
theorem gwp_newInst {C N fI : Addr} {mN : Str → Option Value} {fd : FuncData} {vals : List Value} {Q : Value → Gh → Prop} (r : Room A (n + 1)) (hc : ClsB K.B C N [.type "object"] "object.__new__" mN) (hi : mN "__init__" = some (.ref fI)) (hfn : FnB K.B fI fd)
  (h : ∀ A' x dx od g', Room A' n → Le g g' → g.mu x = none → g.mu dx = none → dx ≠ x → g'.mu x = some (instObj C dx) → g'.mu dx = some od → (MO.inst []).P g'.im od → gwp K A' (call (.ref fI) (.ref x :: vals)) (fun v g'' => v = .none ∧ Q (.ref x) g'') g') : gwp K A (call (.ref C) vals) Q g := fun s E ok => by
 refine hc.elim ok ?_
 intro nm q' bs sn sub col dd k0 k1 k2 k3 k5 hC hNS
 refine E1_3 hfn.obj fun of f1 f2 f3 => ?_
 obtain ⟨hp, gs, dr, tk, os⟩ := s
 refine call_plain hC hNS hi (ok.im _ _ (ok.base _ _ f1)) f3 ?_
 have ok1 := ok.pushMu (o := ({ cls := .type "dict", data := .dict #[] } : Obj)) rfl
 have ok2 := ok1.pushMu (o := instObj C hp.objs.size) rfl
 have l1 : Le g (g.setMu hp.objs.size { cls := .type "dict", data := .dict #[] }) := Le.addMu ok.fresh.2
 have l2 := Le.addMu (o := instObj C hp.objs.size) ok1.fresh.2
 have hs : (hp.push ({ cls := .type "dict", data := .dict #[] } : Obj)).objs.size = hp.objs.size + 1 := Heap.size_push ..
 simp only [hs] at ok2 l2
 have hne : hp.objs.size ≠ hp.objs.size + 1 := Nat.ne_of_lt (Nat.lt_succ_self _)
 refine wpAny_mono (h _ (hp.objs.size + 1) hp.objs.size { cls := .type "dict", data := .dict #[] } _ (r.under1 (Z107 _ _) (Z130 _ _)) (l1.trans l2) (l1.nomu (by have := ok1.fresh.2; simp only [hs] at this; exact this)) ok.fresh.2 hne Gh.setMu_self ((Gh.setMu_other hne).trans Gh.setMu_self) ⟨fun _ => none, ⟨#[], 0, rfl, fun e he => by simp at he, ?_, fun _ => rfl⟩, by simp, by simp⟩ _ E ok2) (fun v s' hh => ?_) fun _ _ z => z
 ·have := (Heap.Ns1.of_empty (h := hp.push { cls := .type "dict", data := .dict #[] }) (a := hp.objs.size) ⟨_, #[], _, Heap.get?_push_size _ rfl, rfl, fun e he => by simp at he, fun _ => rfl⟩)
  refine E3_5 this fun o es ep e1 e2 e3 e4 e5 => ?_
  clear e5 this hne l2 ok2 hs l1 ok1 ok f1 hC h hi hc r; rw [Heap.get?_push_size _ rfl] at e1
  cases e1; cases e2; exact e4
 ·refine E1_3 hh ?_
  clear hh hne l2 ok2 hs l1 ok1 ok f1 hC h hi hc r; rintro g' ok' rfl hq
  exact ⟨rfl, g', ok', hq⟩
end
end Mine
section
namespace Mine
open PySem PySem.Spec PySem.Calls PyProof.Rows PySem.W
open Builtin Builtin.ObjectAttr
namespace FA
theorem slot_setattr : Slot "function" "__setattr__" "object.__setattr__" :=
 .of (owner := "object") (n := "__setattr__") (by rw [typeLookup_type, builtinLookup_eq_fast]; kernel_rfl) (by decide +kernel) (by decide +kernel) (by decide +kernel)
  (by first | exact .inl (by decide +kernel) | exact .inr (by decide +kernel)) (by rw [isSubtype_type]; kernel_rfl)
theorem lk_read : typeLookup (.type "function") "read" = pure none := by rw [typeLookup_type, builtinLookup_eq_fast]; kernel_rfl
theorem mro_fn : mroOf (.type "function") = pure [.type "function", .type "object"] := by rw [mroOf_type]; kernel_rfl
theorem args_sa (a b c : Value) : argsOk "object.__setattr__" ⟨[a, b, c], []⟩ := by unfold argsOk; kernel_rfl
theorem refuse_fn (self : Value) : refuseLoop self "__setattr__" [.type "function", .type "object"] = pure () := by kernel_rfl
end FA
end Mine
namespace Mine
open PySem PySem.Spec PySem.Calls PyProof.Rows PySem.W
open Builtin Builtin.ObjectAttr
noncomputable abbrev fnObjD (fd : FuncData) (dx : Addr) : Obj := { cls := .type "function", dict := some dx, data := .func fd }
section
variable {prog : Program} {w : World} {A : Around} {E : Value → Shared → Prop} {h : Heap} {g : Array GenState} {d : Drawn} {t : Nat} {os : OsState}
set_option maxHeartbeats 4000000 in
theorem Z262 {x : Addr} {fd : FuncData} {v : Value} {tk : Tok} {Q : Fin → Shared → Prop} (hx : h.get? x = some (fnObj fd))
  (hq : ∀ h' o' tk', h'.get? x = some (fnObjD fd h.objs.size) → h'.get? h.objs.size = some o' → NsObj1 o' (fun y => if y = Str.ofString "read" then some v else none) → (∀ b o, b ≠ x → h.get? b = some o → h'.get? b = some o) → Q (.done (.ret .none)) ⟨h', g, d, tk', os⟩) :
  wpAny (model prog w) A (Builtin.«object.__setattr__» ⟨[.ref x, .str (Str.ofString "read") tk, v], []⟩) Q E ⟨h, g, d, t, os⟩ := by
 have hT : (⟨h, g, d, t, os⟩ : Shared).TypeIs (.ref x) "function" := ⟨_, hx, rfl⟩
 have h1 := FA.mro_fn
 have h2 := FA.refuse_fn (.ref x)
 have h3 := FA.lk_read
 have hxs : x ≠ h.objs.size := Nat.ne_of_lt (Heap.lt_size hx)
 have hx₁ : (h.push { cls := .type "dict", data := .dict #[] }).get? x = some (fnObj fd) := Heap.get?_push_of_some _ hx
 have hgd : ((h.push { cls := .type "dict", data := .dict #[] }).update x fun o => { cls := o.cls, dict := some h.objs.size, data := o.data, slots := o.slots }).get? h.objs.size
     = some { cls := .type "dict", data := .dict #[] } :=
    (Heap.get?_update_ne _ _ _ _ hxs.symm).trans (Heap.get?_push_at rfl rfl)
 have hnd : ((h.push { cls := .type "dict", data := .dict #[] }).update x fun o => { cls := o.cls, dict := some h.objs.size, data := o.data, slots := o.slots }).Ns h.objs.size (fun _ => none) :=
    ⟨_, #[], _, hgd, rfl, fun e he => absurd he (by simp), fun _ => rfl⟩
 have hgx : ((h.push { cls := .type "dict", data := .dict #[] }).update x fun o => { cls := o.cls, dict := some h.objs.size, data := o.data, slots := o.slots }).get? x = some (fnObjD fd h.objs.size) :=
  Heap.get?_update_self _ hx₁ rfl
 repeat (first | rw [refuse_eq] | (with_reducible refine wpAny_loadPart_at hx ?_) | (with_reducible refine wpAny_nsSet1 (Heap.Ns1.of_empty hnd) fun h' hn' hs => ?_) | wp_step)
 refine E3_3 (hn'.count (Within.cons (Str.ofString "read") v Within.nil)) fun oD esD epD hoD hdD hcD => ?_
 refine wpAny_loadPart hoD ?_
 have hp : oD.data.pastItsLine = none := by rw [hdD]; exact pastItsLine_dict (Nat.le_trans hcD (by rw [List.length_cons, List.length_nil, sizeLine_eq]; lia))
 rw [hp]
 refine wpAny_pure (wpAny_pure ?_)
 refine E3_5 hn' fun o' es ep e1 e2 e3 e4 e5 => ?_
 refine hq h' o' _ ((hs.2 x hxs).trans hgx) e1 ⟨es, ep, e2, e3, e4, e5⟩ fun b o hb e => ?_
 exact (hs.2 b (Nat.ne_of_lt (Heap.lt_size e))).trans ((Heap.get?_update_ne _ _ _ _ hb).trans (Heap.get?_push_of_some _ e))
theorem fn_setattr {x : Addr} {fd : FuncData} {v : Value} {Q : Unit → Shared → Prop} (hx : h.get? x = some (fnObj fd))
  (hq : ∀ h' o' tk', h'.get? x = some (fnObjD fd h.objs.size) → h'.get? h.objs.size = some o' → NsObj1 o' (fun y => if y = Str.ofString "read" then some v else none) → (∀ b o, b ≠ x → h.get? b = some o → h'.get? b = some o) → Q () ⟨h', g, d, tk', os⟩) :
  wpAny (model prog w) A (setAttr (.ref x) (Str.ofString "read") v) Q E ⟨h, g, d, t, os⟩ := by
 have hT : ∀ t', (⟨h, g, d, t', os⟩ : Shared).TypeIs (.ref x) "function" := fun t' => ⟨_, hx, rfl⟩
 refine wpAny_bind (wpAny_mkText ?_)
 refine wpAny_bind (wpAny_callSpecial?_slot (name := Str.ofString "__setattr__") (hT _) FA.slot_setattr (wpAny_call_entry FA.slot_setattr (hT _) F.entry_object_sa ?_ (FA.args_sa _ _ _)))
 refine Z262 hx fun h' o' tk' h1 h2 h3 h4 => ?_
 exact ⟨_, rfl, wpAny_pure (hq h' o' tk' h1 h2 h3 h4)⟩
end
end Mine
end
section
namespace Mine
open PySem PySem.Spec PySem.Calls PyProof.Rows PySem.W
open Builtin Builtin.ObjectAttr
namespace FA
theorem slot_ga : Slot "function" "__getattribute__" "object.__getattribute__" :=
 .of (owner := "object") (n := "__getattribute__") (by rw [typeLookup_type, builtinLookup_eq_fast]; kernel_rfl) (by decide +kernel) (by decide +kernel) (by decide +kernel)
  (by first | exact .inl (by decide +kernel) | exact .inr (by decide +kernel)) (by rw [isSubtype_type]; kernel_rfl)
theorem lk_getattr : typeLookup (.type "function") "__getattr__" = pure none := by rw [typeLookup_type, builtinLookup_eq_fast]; kernel_rfl
theorem args_ga (a b : Value) : argsOk "object.__getattribute__" ⟨[a, b], []⟩ := by unfold argsOk; kernel_rfl
theorem entry_ga : entryFor table "object.__getattribute__" = some Builtin.«object.__getattribute__» := entryFor_of_tree (by kernel_rfl)
end FA
end Mine
namespace Mine
open PySem PySem.Spec PySem.Calls PyProof.Rows PySem.W
open Builtin Builtin.ObjectAttr
section
variable {prog : Program} {w : World} {A : Around} {E : Value → Shared → Prop} {h : Heap} {g : Array GenState} {d : Drawn} {t : Nat} {os : OsState}
theorem fn_ga_entry {x dx : Addr} {fd : FuncData} {m : Str → Option Value} {v : Value} {tk : Tok} {Q : Fin → Shared → Prop} (hx : h.get? x = some (fnObjD fd dx)) (hn : h.Ns dx m) (hv : m (Str.ofString "read") = some v) (hq : Q (.done (.ret v)) ⟨h, g, d, t, os⟩) :
  wpAny (model prog w) A (Builtin.«object.__getattribute__» ⟨[.ref x, .str (Str.ofString "read") tk], []⟩) Q E ⟨h, g, d, t, os⟩ := by
 have hT : (⟨h, g, d, t, os⟩ : Shared).TypeIs (.ref x) "function" := ⟨_, hx, rfl⟩
 have h3 := FA.lk_read
 refine wpAny_bind (wpAny_of_eq (a := (Value.ref x, [Value.str (Str.ofString "read") tk])) rfl ?_)
 refine wpAny_bind (m := attrName _) (wpAny_of_eq (a := Str.ofString "read") rfl ?_)
 refine wpAny_bind (wpAny_typeOf hT ?_)
 refine wpAny_bind (m := find _ _ _) ?_
 refine wpAny_bind (wpAny_of_eq h3 ?_)
 refine wpAny_bind (m := getOf none) (wpAny_pure ?_)
 refine wpAny_bind (m := dataDescriptor? none none) (wpAny_pure ?_)
 show wpAny _ _ (ownThenClass (.ref x) (Str.ofString "read") none none) _ _ _
 refine wpAny_bind (m := inOwnDict _ _) ?_
 show wpAny _ _ (ObjectAttr.ownDict x >>= fun d => inDict (Str.ofString "read") d) _ _ _
 refine wpAny_bind (m := ObjectAttr.ownDict x) ?_
 refine wpAny_bind (m := loadHead x) (wpAny_loadPart hx ?_)
 show wpAny _ _ (instanceDict x false) _ _ _
 refine wpAny_bind (wpAny_loadPart hx ?_)
 show wpAny _ _ (pure (some dx)) _ _ _
 refine wpAny_pure ?_
 show wpAny _ _ (nsGet dx (Str.ofString "read")) _ _ _
 refine wpAny_nsGet hn ?_
 rw [hv]
 refine wpAny_bind (wpAny_rule (wpAny_pure ?_))
 exact wpAny_pure hq
theorem fn_getMethod {x dx : Addr} {fd : FuncData} {m : Str → Option Value} {fr : Addr} {pl : Sem Bool} {Q : Value × List Value → Shared → Prop} (hx : h.get? x = some (fnObjD fd dx)) (hn : h.Ns dx m) (hv : m (Str.ofString "read") = some (.ref fr)) (hq : Q (.ref fr, []) ⟨h, g, d, t + 1, os⟩) :
  wpAny (model prog w) A (getMethod (.ref x) (Str.ofString "read") pl) Q E ⟨h, g, d, t, os⟩ := by
 have hT : ∀ t', (⟨h, g, d, t', os⟩ : Shared).TypeIs (.ref x) "function" := fun t' => ⟨_, hx, rfl⟩
 refine wpAny_bind (wpAny_specialOf (hT _) FA.slot_ga.lookup ?_)
 dsimp only
 rw [if_neg (by rw [F.canon_object_ga]; exact Bool.false_ne_true)]
 refine wpAny_bind (wpAny_specialOf (hT _) FA.lk_getattr ?_)
 rw [if_neg (by decide)]
 refine wpAny_bind (wpAny_specialOf (hT _) FA.lk_read ?_)
 refine wpAny_bind (m := getAttr (.ref x) (Str.ofString "read")) ?_
 refine wpAny_bind (wpAny_mkText ?_)
 refine wpAny_holding (wpAny_bind (wpAny_typeOf (hT _) ?_))
 refine wpAny_bind (wpAny_of_eq FA.slot_ga.lookup ?_)
 show wpAny _ _ (getAttrByItsOwn (.ref x) _ (.type "function") (.builtin "object.__getattribute__") true false) _ _ _
 refine wpAny_bind (m := hookBefore _) (wpAny_of_eq (a := none) rfl ?_)
 refine wpAny_bind (wpAny_attempt (wpAny_holding ?_))
 show wpAny _ _ (boundAndCalled (.builtin "object.__getattribute__") (.ref x) _) _ _ _
 refine wpAny_bind (wpAny_of_eq (FA.slot_ga.bind _) ?_)
 refine wpAny_call_entry FA.slot_ga (hT _) FA.entry_ga (fn_ga_entry hx hn hv ?_) (FA.args_ga _ _)
 exact ⟨_, rfl, wpAny_pure (wpAny_pure hq)⟩
end
end Mine
namespace Mine
open PySem PySem.Spec PySem.Calls PyProof.Rows PySem.W
open Builtin Builtin.ObjectAttr
namespace FA
theorem lk_set : typeLookup (.type "function") "__set__" = pure none := by rw [typeLookup_type, builtinLookup_eq_fast]; kernel_rfl
theorem lk_delete : typeLookup (.type "function") "__delete__" = pure none := by rw [typeLookup_type, builtinLookup_eq_fast]; kernel_rfl
end FA
section
variable {prog : Program} {w : World} {A : Around} {E : Value → Shared → Prop} {h : Heap} {g : Array GenState} {d : Drawn} {t : Nat} {os : OsState}
variable {nm q : Str} {C N x : Addr} {bs : List Value} {sn : List Str} {sub : List Value} {ab : Bool} {col : Option Bool} {dd : Option Addr} {k0 k1 k2 k3 k5 : Option Value} {newId : String}
 {mN mA : Str → Option Value} {name : Str}
theorem bound_entry {tk : Tok} {f : Addr} {of : Obj} {Q : Fin → Shared → Prop}
  (hC : h.get? C = some (excClassObj nm q C N bs [.type "object"] true sn sub ab col dd k0 k1 k2 k3 k5 newId)) (hn : h.Ns N mN) (hf : mN name = some (.ref f)) (hfo : h.get? f = some of) (hfc : of.cls = .type "function") (hnh : mN "__getattr__" = none)
  {y : Option Value} (hB : typeLookup (.type "object") name = pure y) {ox : Obj} {dx : Addr} (hx : h.get? x = some ox) (hxc : ox.cls = .ref C) (hxn : ∀ c, ox.data ≠ .cls c) (hxd : ox.dict = some dx) (hns : h.Ns dx mA) (hv : mA name = none)
  (hcp : copiedAttributeGuard name (.ref x) = pure ()) (hq : Q (.done (.ret (.ref h.objs.size))) ⟨h.push { cls := .type "method", data := .fields #[.ref f, .ref x] }, g, d, t, os⟩) :
  wpAny (model prog w) A (Builtin.«proto.getattr_hooked» ⟨[.ref x, .str name tk], []⟩) Q E ⟨h, g, d, t, os⟩ := by
 have hTf : (⟨h, g, d, t, os⟩ : Shared).TypeIs (.ref f) "function" := ⟨_, hfo, hfc⟩
 refine wpAny_bind (m := attrName _) (wpAny_of_eq (a := name) rfl ?_)
 refine wpAny_bind (m := typeOf (.ref x)) ?_
 refine wpAny_typeOf_ref hx ?_
 rw [hxc]
 refine wpAny_bind (m := find _ _ _) ?_
 refine wpAny_bind (wpAny_typeLookup_exc hC hn F.mro_object hB ?_)
 rw [hf]
 refine wpAny_bind (m := getOf _) ?_
 show wpAny _ _ (specialOf (.ref f) "__get__") _ _ _
 refine wpAny_specialOf hTf F.ks_slot_function_get.lookup ?_
 refine wpAny_bind (m := dataDescriptor? _ _) ?_
 show wpAny _ _ (takesStores (.ref f) >>= fun b => if b = true then pure (some _) else pure none) _ _ _
 refine wpAny_bind ?_
 refine wpAny_bind (wpAny_specialOf hTf FA.lk_set ?_)
 rw [if_neg (by decide)]
 refine wpAny_bind (wpAny_specialOf hTf FA.lk_delete (wpAny_pure ?_))
 refine wpAny_pure ?_
 show wpAny _ _ (ownThenClass (.ref x) name (some (.ref f)) (some (.builtin "function.__get__"))) _ _ _
 refine wpAny_bind (m := inOwnDict _ _) ?_
 show wpAny _ _ (ObjectAttr.ownDict x >>= fun d => inDict name d) _ _ _
 refine wpAny_bind (m := ObjectAttr.ownDict x) ?_
 refine wpAny_bind (m := loadHead x) (wpAny_loadPart hx ?_)
 have hi : ∀ {Q : Option Addr → Shared → Prop}, Q (some dx) ⟨h, g, d, t, os⟩ → wpAny (model prog w) A (instanceDict x false) Q E ⟨h, g, d, t, os⟩ := fun {Q} hq => by
  refine wpAny_bind (wpAny_loadPart hx ?_)
  rw [hxc]
  refine wpAny_bind (wpAny_bind (wpAny_load hC (wpAny_pure ?_)))
  rw [hxd]
  exact wpAny_pure hq
 split
 ·rename_i c hcd
  exact absurd hcd (hxn c)
 refine hi ?_
 show wpAny _ _ (nsGet dx name) _ _ _
 refine wpAny_nsGet hns ?_
 rw [hv]
 rw [hcp]
 refine wpAny_bind (wpAny_pure ?_)
 show wpAny _ _ (rule "getattr.non-data-descriptor" >>= fun _ => pure (Found.bind (.builtin "function.__get__") (.ref f))) _ _ _
 refine wpAny_bind (wpAny_rule (wpAny_pure ?_))
 refine wpAny_bind (wpAny_typeLookup_exc hC hn F.mro_object F.lk_object_getattr ?_)
 rw [hnh]
 show wpAny _ _ (bindTo (.builtin "function.__get__") (.ref f) (.ref x) (.ref C)) _ _ _
 show wpAny _ _ (holding [.ref f] (call (.builtin "function.__get__") [.ref f, .ref x, .ref C]) >>= fun v => ret v) _ _ _
 refine wpAny_bind (wpAny_holding ?_)
 refine wpAny_call_entry F.ks_slot_function_get hTf F.ks_entry_function_get ?_ (F.ks_getArgs_function _ _ _)
 repeat wp_step
 exact ⟨_, rfl, wpAny_pure hq⟩
end
end Mine
end
namespace Mine
section
open PySem PySem.Spec PySem.Calls PyProof.Rows PySem.W
theorem Z145 {M : Model} {A : Around} {E : Value → Shared → Prop} {s : Shared} {f : Value} {pos : List Value} {Q : Value → Shared → Prop} (h : wpAny M A (call f pos) Q E s) : wpAny M A (callBorrowed f pos) Q E s := fun Γ p hΓ => by
 have h' := h Γ p hΓ
 unfold call at h'
 rw [Sem.wp_runValue] at h'
 unfold callBorrowed
 rw [Sem.wp_call]
 refine wpCode_mono ?_ h'
 intro r s' hr
 cases r with
 | error e => rw [Sem.wp_raise]; exact hr
 | ok f =>
  cases f with
  | ret v => exact hr
  | _ => exact hr.elim
namespace FA
theorem slot_ci_next : Slot "callable_iterator" "__next__" "callable_iterator.__next__" :=
 .of (owner := "callable_iterator") (n := "__next__") (by rw [typeLookup_type, builtinLookup_eq_fast]; kernel_rfl) (by decide +kernel) (by decide +kernel) (by decide +kernel)
  (by first | exact .inl (by decide +kernel) | exact .inr (by decide +kernel)) (by rw [isSubtype_type]; kernel_rfl)
theorem slot_ci_iter : Slot "callable_iterator" "__iter__" "callable_iterator.__iter__" :=
 .of (owner := "callable_iterator") (n := "__iter__") (by rw [typeLookup_type, builtinLookup_eq_fast]; kernel_rfl) (by decide +kernel) (by decide +kernel) (by decide +kernel)
  (by first | exact .inl (by decide +kernel) | exact .inr (by decide +kernel)) (by rw [isSubtype_type]; kernel_rfl)
theorem entry_ci_next : entryFor table "callable_iterator.__next__" = some Builtin.«callable_iterator.__next__» := entryFor_of_tree (by kernel_rfl)
theorem args_ci_next (a : Value) : argsOk "callable_iterator.__next__" ⟨[a], []⟩ := by unfold argsOk; kernel_rfl
theorem args_ci_iter (a : Value) : argsOk "callable_iterator.__iter__" ⟨[a], []⟩ := by unfold argsOk; kernel_rfl
theorem entry_ci_iter : entryFor table "callable_iterator.__iter__" = some Builtin.«dict_keyiterator.__iter__» :=
 entryFor_alias (id' := "dict_keyiterator.__iter__") (by kernel_rfl) (by first | rfl | decide +kernel | (unfold String.splitOn; simp +decide [String.splitOnAux])) (by decide +kernel) (by kernel_rfl)
theorem entry_iter2 : entryFor table "iter" = some Builtin.«iter» := entryFor_of_tree (by kernel_rfl)
theorem lk_method_call : typeLookup (.type "method") "__call__" = pure (some (.builtin "method.__call__")) := by rw [typeLookup_type, builtinLookup_eq_fast]; kernel_rfl
end FA
section
open Builtin Builtin.SmallTypes
variable {prog : Program} {w : World} {A : Around} {E : Value → Shared → Prop} {s : Shared}
theorem Z78 {α : Type} {Q : α → Shared → Prop} (hh : A.handled = none) (h : ∀ s', (∀ b o, s.heap.get? b = some o → s'.heap.get? b = some o) → s' = { s with heap := s'.heap } → ∀ e, s'.TypeIs (.ref e) "StopIteration" → E (.ref e) s') : wpAny (model prog w) A (SmallTypes.stopIteration : Sem α) Q E s := by
 refine wpAny_bind ?_
 refine wpAny_bind (wpAny_newObj_type ?_ (by size_fits))
 refine wpAny_bind (m := firstArgMember _ _) (wpAny_of_eq (a := Value.none) (by first | rfl | (dsimp only [firstArgMember]; rfl)) ?_)
 refine wpAny_newObj_type ?_ (by size_fits)
 refine wpAny_bind (wpAny_handled ?_)
 rw [hh]
 refine wpAny_bind (wpAny_pure (wpAny_throw ?_))
 refine h _ (fun b o e => Heap.get?_push_of_some _ (Heap.get?_push_of_some _ e)) rfl _ ⟨_, Heap.get?_push_size _ rfl, rfl⟩
noncomputable abbrev ciObj (f sent : Value) (b : Bool) : Obj := { cls := .type "callable_iterator", data := .fields #[f, sent, .bool b] }
theorem ci_next {it mth f : Addr} {self : Value} {of : Obj} {fd : FuncData} {x : Str} {tk : Tok} {Q : Option Value → Shared → Prop} (hh : A.handled = none)
  (hit : s.heap.get? it = some (ciObj (.ref mth) (.str x tk) false)) (hm : s.heap.get? mth = some { cls := .type "method", data := .fields #[.ref f, self] }) (hf : s.heap.get? f = some of) (hfd : of.data = .func fd)
  (h : codeAny (model prog w) A.in1 (.call (.ref f) ⟨[self], []⟩) (fun r s' => match r with | .ok (.ret r) => (∃ y u, r = .str y u ∧ s'.heap.get? it = some (ciObj (.ref mth) (.str x tk) false) ∧ s'.heap.get? mth = some { cls := .type "method", data := .fields #[.ref f, self] } ∧ s'.heap.get? f = some of ∧
   if (x == y) = true then ∀ h', Heap.ExtBut it s'.heap h' → h'.get? it = some (ciObj .none .none true) → Q none { s' with heap := h' } else Q (some r) s') | .ok _ => False | .error _ => False) s) : wpAny (model prog w) A (pyNext (.ref it)) Q E s := by
 have hT : s.TypeIs (.ref it) "callable_iterator" := ⟨_, hit, rfl⟩
 refine wpAny_bind (wpAny_attempt (wpAny_callSpecial?_slot (name := Str.ofString "__next__") hT FA.slot_ci_next
  (wpAny_call_entry FA.slot_ci_next hT FA.entry_ci_next ?_ (FA.args_ci_next _))))
 refine wpAny_bind (wpAny_of_eq (a := (Value.ref it, [])) rfl ?_)
 refine wpAny_bind (wpAny_field hit rfl (x := .bool false) rfl ?_)
 rw [if_neg (by decide)]
 refine wpAny_bind (m := field (.ref it) 0) (wpAny_field hit rfl (x := .ref mth) rfl ?_)
 refine wpAny_bind (wpAny_attempt ?_)
 have hb : ∀ (s : Shared) {Q : Bool → Shared → Prop} {E : Value → Shared → Prop}, s.heap.get? mth = some { cls := .type "method", data := .fields #[.ref f, self] } → s.heap.get? f = some of → Q true s → ∀ A : Around, wpAny (model prog w) A (borrowsExactly (.ref mth)) Q E s := fun s {Q E} hm hf hq A => by
  refine wpAny_bind (wpAny_load hm ?_)
  show wpAny _ _ (do match (← load f).data with | .func _ => pure true | _ => pure false) _ _ _
  refine wpAny_bind (wpAny_load hf ?_)
  rw [hfd]
  exact wpAny_pure hq
 refine wpAny_bind (hb s hm hf ?_ _)
 rw [if_pos rfl]
 refine Z145 ?_
 refine wpAny_call (W.method_call hm (codeAny_mono h fun r s' hr => ?_))
 cases r with
 | error e => exact hr.elim
 | ok fl =>
  cases fl with
  | ret r =>
   refine E2_5 hr ?_
   rintro y u rfl hit' hm' hf' hQ
   refine wpAny_bind (m := field (.ref it) 2) (wpAny_field hit' rfl (x := .bool false) rfl ?_)
   rw [if_neg (by decide)]
   refine wpAny_bind (m := field (.ref it) 1) (wpAny_field hit' rfl (x := .str x tk) rfl ?_)
   refine wpAny_bind (wpAny_holding (PyProof.Rows.eqGives_str x y tk u _ _ _ _ _ _ ?_))
   cases hxy : x == y with
   | false =>
    rw [hxy] at hQ
    simp only [Bool.false_eq_true, if_false] at hQ
    rw [if_pos (by decide)]
    exact wpAny_pure ⟨_, rfl, wpAny_pure hQ⟩
   | true =>
    rw [hxy] at hQ
    simp only [if_true] at hQ
    rw [if_neg (by decide)]
    refine wpAny_bind (wpAny_rule ?_)
    refine wpAny_bind (wpAny_bind (wpAny_field hit' rfl (x := .ref mth) rfl ?_))
    refine wpAny_bind ?_
    refine wpAny_bind (hb _ hm' hf' ?_ _)
    rw [if_pos rfl]
    refine wpAny_pure ?_
    refine wpAny_bind (wpAny_setField_rec hit' (by exact Nat.succ_pos _) fun h1 e1 s1 => ?_)
    refine wpAny_bind (wpAny_setField_rec (s := { s' with heap := h1 }) e1 (by simp) fun h2 e2 s2 => ?_)
    refine wpAny_setField_rec (s := { s' with heap := h2 }) e2 (by exact Nat.le_refl _) fun h3 e3 s3 => ?_
    refine Z78 hh fun s4 k4 e4 ex hex => ?_
    refine wpAny_bind (wpAny_isInstance (T := "StopIteration") (b := true) hex isSubtype_stop ?_)
    rw [if_pos rfl]
    refine wpAny_pure ?_
    rw [e4]
    refine hQ s4.heap (fun b o hb e => k4 b o ?_) (k4 _ _ e3)
    exact s3.extBut b o hb (s2.extBut b o hb (s1.extBut b o hb e))
  | _ => exact hr.elim
theorem ci_ended {it : Addr} {f sent : Value} {Q : Option Value → Shared → Prop} (hh : A.handled = none) (hit : s.heap.get? it = some (ciObj f sent true)) (hQ : ∀ h', (∀ b o, s.heap.get? b = some o → h'.get? b = some o) → Q none { s with heap := h' }) : wpAny (model prog w) A (pyNext (.ref it)) Q E s := by
 have hT : s.TypeIs (.ref it) "callable_iterator" := ⟨_, hit, rfl⟩
 refine wpAny_bind (wpAny_attempt (wpAny_callSpecial?_slot (name := Str.ofString "__next__") hT FA.slot_ci_next
  (wpAny_call_entry FA.slot_ci_next hT FA.entry_ci_next ?_ (FA.args_ci_next _))))
 refine wpAny_bind (wpAny_of_eq (a := (Value.ref it, [])) rfl ?_)
 refine wpAny_bind (wpAny_field hit rfl (x := .bool true) rfl ?_)
 rw [if_pos (by decide)]
 refine wpAny_bind (wpAny_rule ?_)
 refine wpAny_bind (Z78 hh fun s4 k4 e4 ex hex => ?_)
 refine wpAny_bind (wpAny_isInstance (T := "StopIteration") (b := true) hex isSubtype_stop ?_)
 rw [if_pos rfl]
 refine wpAny_pure ?_
 rw [e4]
 exact hQ s4.heap k4
theorem ci_iter {it : Addr} {f sent : Value} {b : Bool} {Q : Value → Shared → Prop} (hit : s.heap.get? it = some (ciObj f sent b)) (h : Q (.ref it) s) : wpAny (model prog w) A (pyIter (.ref it)) Q E s := by
 have hT : s.TypeIs (.ref it) "callable_iterator" := ⟨_, hit, rfl⟩
 refine wpAny_pyIter_slot hT FA.slot_ci_iter (wpAny_call_entry FA.slot_ci_iter hT FA.entry_ci_iter ?_ (FA.args_ci_iter _))
 show wpAny _ _ (ret (.ref it)) _ _ s
 exact wpAny_pure ⟨_, rfl, "callable_iterator", _, hT, FA.slot_ci_next.lookup, h⟩
end
end
end Mine
namespace Mine
section
open PySem PySem.Spec PySem.Calls PyProof.Rows PySem.W
variable {K : Wd} {B : Base} {α β : Type} {A : Around} {g : Gh} {n : Nat} {env : Env}
variable {b : Gh} {S' : List Addr} {fn : List Nat} {cs : List Addr} {nm : List (Str × NameKind)} {σ σ' : List (Option D)} {own : List (Addr × MO)}
noncomputable abbrev mthObj (f : Addr) (self : Value) : Obj := { cls := .type "method", data := .fields #[.ref f, self] }
theorem gwp_getBound {x dx C N f : Addr} {od : Obj} {mN : Str → Option Value} {L : List (Str × D)} {name : Str} {fd : FuncData} {newId : String} {y : Option Value} {Q : Value → Gh → Prop} (hc : ClsB K.B C N [.type "object"] newId mN) (hng : mN "__getattribute__" = none) (hnh : mN "__getattr__" = none) (hf : mN name = some (.ref f)) (hfn : FnB K.B f fd)
  (hB : typeLookup (.type "object") name = pure y) (hx : g.mu x = some (instObj C dx)) (hd : g.mu dx = some od) (hm : (MO.inst L).P g.im od) (hne : dx ≠ x) (hv : name ∉ L.map (·.1)) (hcp : Builtin.ObjectAttr.copiedAttributeGuard name (.ref x) = pure ())
  (q : ∀ p, g.im p = none → g.mu p = none → Q (.ref p) (g.addIm p (mthObj f (.ref x)))) : gwp K A (getAttr (.ref x) name true) Q g := fun s E ok => by
 refine hc.elim ok ?_
 intro nm q' bs sn sub col dd k0 k1 k2 k3 k5 hC hNS
 refine E1_3 hm fun m m1 m2 m3 => ?_
 refine E1_3 hfn.obj fun of f1 f2 f3 => ?_
 obtain ⟨hp, gs, dr, tk, os⟩ := s
 have hC' := hC
 have hN' := hNS
 have hx' := ok.mu _ _ hx
 refine wpAny_bind (wpAny_mkText (wpAny_holding ?_))
 refine wpAny_bind (m := typeOf (.ref x)) (wpAny_typeOf_ref hx' ?_)
 refine wpAny_bind (wpAny_typeLookup_exc hC' hN' F.mro_object F.lk_object_ga ?_)
 rw [hng]
 show wpAny _ _ (getAttrEveryday (.ref x) (.str name tk) true) _ _ _
 refine wpAny_bind (wpAny_onRaise (wpAny_runValue (codeAny_builtin F.plainObj_entry_getattr_hooked (bound_entry (y := y) hC' hN' hf (ok.im _ _ (ok.base _ _ f1)) f3 hnh hB hx' rfl (by intro c z; cases z) rfl ((m1.ns1 (ok.mu _ _ hd)).ns) (m3 _ hv) hcp ?_))))
 show wpAny _ _ (handedOut (.ref hp.objs.size)) _ _ _
 exact wpAny_pure ⟨_, (ok.pushIm (o := mthObj f (.ref x)) rfl).tok _, q _ ok.fresh.1 ok.fresh.2⟩
theorem gwp_iter2 {p f : Addr} {self : Value} {x : Str} {t : Tok} {Q : Value → Gh → Prop} (hp : g.im p = some (mthObj f self)) (q : ∀ it, g.im it = none → g.mu it = none → Q (.ref it) (g.setMu it (ciObj (.ref p) (.str x t) false))) : gwp K A (call (.builtin "iter") [.ref p, .str x t]) Q g := fun s E ok => by
 have hT : s.TypeIs (.ref p) "method" := ⟨_, ok.im _ _ hp, rfl⟩
 refine Calls.call_function_entry (by decide +kernel) (by decide +kernel) FA.entry_iter2 (by delta argsOk; kernel_rfl) ?_
 refine wpAny_bind (m := someArgs "iter" 1 2 _) (wpAny_pure ?_)
 refine wpAny_bind (wpAny_specialOf hT FA.lk_method_call ?_)
 rw [if_neg (by simp)]
 refine wpAny_bind (wpAny_rule ?_)
 exact wpAny_bind (wpAny_newObj_type (wpAny_pure ⟨_, rfl, _, ok.pushMu (o := ciObj (.ref p) (.str x t) false) rfl, q _ ok.fresh.1 ok.fresh.2⟩) (by size_fits))
theorem gwp_ciNext {it p f : Addr} {self : Value} {fd : FuncData} {x : List Nat} {t : Tok} {Q : Option Value → Gh → Prop} {T : List Addr} (r : Room A (n + 1)) (hit : g.mu it = some (ciObj (.ref p) (.str (S x) t) false)) (hp : g.im p = some (mthObj f self)) (hfn : FnB K.B f fd) (hT : it ∉ T)
  (h : ∀ A', Room A' n → gcc K A' (.call (.ref f) ⟨[self], []⟩) (fun v g' => ∃ y, Rep g'.im (.str y) v ∧ LeX T g g' ∧ if x = y then Q none (g'.setMu it (ciObj .none .none true)) else Q (some v) g') g) : gwp K A (pyNext (.ref it)) Q g := fun s E ok => by
 refine E1_3 hfn.obj fun of f1 f2 f3 => ?_
 refine ci_next r.1 (ok.mu _ _ hit) (ok.im _ _ hp) (ok.im _ _ (ok.base _ _ f1)) f2 (codeAny_mono (h _ r.in1 s (fun _ _ => False) ok) fun r s' hr => ?_)
 clear h; cases r with
 | error e => exact hr.elim
 | ok fl =>
  clear r; cases fl with
  | ret v =>
   obtain ⟨g', ok', y, hy, l, hQ⟩ := hr
   refine E1_1 (Z29 hy) ?_
   rintro u rfl
   have hit' := l.mu _ _ hT hit
   refine ⟨S y, u, rfl, ok'.mu _ _ hit', ok'.im _ _ (l.im _ _ hp), ok'.im _ _ (ok'.base _ _ f1), ?_⟩
   by_cases hxy : x = y
   ·clear hy f1 hT hp hit; subst hxy
    rw [if_pos rfl] at hQ
    rw [if_pos (by exact beq_self_eq_true _)]
    exact fun h' he hf => ⟨_, ok'.extSet (tk := s'.toks) hit' (fun b o hb e => he b o hb e) hf, hQ⟩
   ·rw [if_neg hxy] at hQ
    rw [if_neg (by intro z; exact hxy (S_inj (by exact of_decide_eq_true z)))]
    exact ⟨g', ok', hQ⟩
  | _ => exact hr.elim
theorem gwp_ciEnded {it : Addr} {f sent : Value} {Q : Option Value → Gh → Prop} (hh : A.handled = none) (hit : g.mu it = some (ciObj f sent true)) (q : Q none g) : gwp K A (pyNext (.ref it)) Q g := fun s E ok =>
 ci_ended hh (ok.mu _ _ hit) fun h' hk => ⟨g, ok.keeps (tk := s.toks) hk, q⟩
theorem gwp_ciIter {it : Addr} {f sent : Value} {b : Bool} {Q : Value → Gh → Prop} (hit : g.mu it = some (ciObj f sent b)) (q : Q (.ref it) g) : gwp K A (pyIter (.ref it)) Q g := fun s E ok => ci_iter (ok.mu _ _ hit) ⟨g, ok, q⟩
theorem gwp_fnSetRead {x : Addr} {fd : FuncData} {v : Value} {Q : Unit → Gh → Prop} (hx : g.mu x = some (fnObj fd)) (q : ∀ dx od, g.im dx = none → g.mu dx = none → dx ≠ x → NsObj1 od (fun y => if y = Str.ofString "read" then some v else none) → Q () ((g.setMu dx od).setMu x (fnObjD fd dx))) : gwp K A (setAttr (.ref x) (Str.ofString "read") v) Q g := fun s E ok => by
 obtain ⟨hp, gs, dr, tk, os⟩ := s
 have hne : hp.objs.size ≠ x := Nat.ne_of_gt (Heap.lt_size (ok.mu _ _ hx))
 refine fn_setattr (ok.mu _ _ hx) fun h' o' tk' h1 h2 h3 h4 => ⟨_, ?_, q _ o' ok.fresh.1 ok.fresh.2 hne h3⟩
 have ok1 : (g.setMu x (fnObjD fd hp.objs.size)).Ok K.B ⟨h', gs, dr, tk', os⟩ := ok.extSet (s := ⟨hp, gs, dr, tk, os⟩) (tk := tk') (ok.mu _ _ hx |> fun _ => hx) (fun b o hb e => h4 b o hb e) h1
 refine ⟨ok1.im, fun a o e => ?_, fun a o1 o2 e e' => ?_, ok1.base, fun a o e => ?_, ok1.size, ok1.old, ok1.os, ok1.gens, ok1.tabs, ok1.apart⟩
 ·by_cases hax : a = x
  ·clear h4 h3 q; subst hax; cases ((Gh.setMu_self).symm.trans e); exact h1
  ·rw [Gh.setMu_other hax] at e
   by_cases had : a = hp.objs.size
   ·clear h4 h3 h1 q; subst had; cases ((Gh.setMu_self).symm.trans e); exact h2
   ·rw [Gh.setMu_other had] at e
    exact ok1.mu a o ((Gh.setMu_other hax).trans (e))
 ·by_cases hax : a = x
  ·clear ok1 h4 h3 h2 h1 q; subst hax; exact ok.dis _ _ _ e hx
  ·rw [Gh.setMu_other hax] at e'
   by_cases had : a = hp.objs.size
   ·clear ok1 h4 h3 h2 h1 q; subst had
    have e1 : g.im hp.objs.size = some o1 := e
    have := ok.fresh.1
    have e2 : g.im hp.objs.size = none := this
    clear this; cases ((e2).symm.trans e1)
   ·rw [Gh.setMu_other had] at e'; exact ok.dis _ _ _ e e'
 ·by_cases hax : a = x
  ·clear ok1 h4 h3 h2 h1 q; subst hax; exact ok.new _ _ hx
  ·rw [Gh.setMu_other hax] at e
   by_cases had : a = hp.objs.size
   ·clear ok1 h4 h3 h2 h1 q hx; subst had; exact ok.size
   ·rw [Gh.setMu_other had] at e; exact ok.new _ _ e
theorem gwp_fnGetRead {x dx fr : Addr} {fd : FuncData} {od : Obj} {m : Str → Option Value} {pl : Sem Bool} {Q : Value × List Value → Gh → Prop} (hx : g.has x (fnObjD fd dx)) (hd : g.has dx od) (hm : NsObj od m) (hv : m (Str.ofString "read") = some (.ref fr)) (q : Q (.ref fr, []) g) : gwp K A (getMethod (.ref x) (Str.ofString "read") pl) Q g := fun s E ok => by
 exact fn_getMethod (hx.get ok) (hm.ns (hd.get ok)) hv ⟨g, ok.tok _, q⟩
end
end Mine
namespace Mine
section
open PySem PySem.Spec PySem.Calls PyProof.Rows PySem.W PySem.SeqAt
variable {K : Wd} {B : Base} {α β : Type} {A : Around} {g : Gh} {n : Nat} {env : Env}
theorem Z290 (a b : List Nat) : (S a == S b) = (a == b) := by
 rw [Bool.eq_iff_iff, beq_iff_eq, beq_iff_eq]
 exact ⟨S_inj, congrArg S⟩
structure Lk (k : Nat) (d e : D) (b : Bool) : Prop where
 same : ∀ {im : Im} {v : Value}, Rep im d v → Rep im e v → b = true
 at_ : ∀ {im : Im} {A : Around} {s : Shared} {v w : Value}, (∀ a o, im a = some o → s.heap.get? a = some o) → A.units + k < cLine → Rep im d v → Rep im e w → EqAt A s v w b ∧ RcAt A s v w b ∧ RcNeAt A s v w (!b)
structure Lks (k : Nat) (l l' : List D) (b : Bool) : Prop where
 same : ∀ {im : Im} {vs : List Value}, Reps im l vs → Reps im l' vs → b = true
 ex : ∃ f : Nat → Bool, (∀ j d d', l[j]? = some d → l'[j]? = some d' → Lk k d d' (f j)) ∧ b = ((List.range (min l.length l'.length)).all f && l.length == l'.length)
section
variable {k : Nat} {d e : D} {ds es : List D} {x y b : Bool}
theorem lk_bool {i j : Bool} : Lk k (.bool i) (.bool j) (i == j) where
 same h1 h2 := by cases (Z211 h1).symm.trans (Z211 h2); exact beq_self_eq_true i
 at_ _ _ h1 h2 := by rw [Z211 h1, Z211 h2]; exact ⟨EqAt.bool_bool _ _, RcAt.bool_bool _ _, RcNeAt.bool_bool _ _⟩
theorem lk_int {i j : Int} : Lk k (.int i) (.int j) (i == j) where
 same h1 h2 := E1_1 (Z24 h1) fun t e => E1_1 (Z24 h2) fun u e' => by cases e.symm.trans e'; exact beq_self_eq_true i
 at_ _ _ h1 h2 := E1_1 (Z24 h1) fun t e => E1_1 (Z24 h2) fun u e' => by rw [e, e']; exact ⟨EqAt.int_int _ _ _ _, RcAt.int_int _ _ _ _, RcNeAt.int_int _ _ _ _⟩
theorem lk_str {i j : List Nat} : Lk k (.str i) (.str j) (i == j) where
 same h1 h2 := E1_1 (Z29 h1) fun t e => E1_1 (Z29 h2) fun u e' => by
  rw [← Z290]; injection e.symm.trans e' with h _; rw [h]; exact beq_self_eq_true (S j)
 at_ _ _ h1 h2 := E1_1 (Z29 h1) fun t e => E1_1 (Z29 h2) fun u e' => by rw [e, e', ← Z290]; exact ⟨EqAt.str_str _ _ _ _, RcAt.str_str _ _ _ _, RcNeAt.str_str _ _ _ _⟩
theorem Lks.seq (H : Lks k ds es b) {im : Im} {s : Shared} {its its2 : Array Value} (ok : ∀ a o, im a = some o → s.heap.get? a = some o) (hu : A.units + k < cLine) (r1 : Reps im ds its.toList) (r2 : Reps im es its2.toList) :
  ∃ e : Nat → Bool, (∀ j (h1 : j < its.size) (h2 : j < its2.size), EqAt A s its[j] its2[j] (e j)) ∧ b = ((List.range (min its.size its2.size)).all e && its.size == its2.size) :=
 E1_2 H.ex fun f f1 f2 => ⟨f, fun j h1 h2 => E1_2 (r1.get' (i := j) (v := its[j]) (by rw [Array.getElem?_toList, Array.getElem?_eq_getElem h1])) fun d hd rd => E1_2 (r2.get' (i := j) (v := its2[j]) (by rw [Array.getElem?_toList, Array.getElem?_eq_getElem h2])) fun d' hd' rd' => ((f1 j d d' hd hd').at_ ok hu rd rd').1,
  by rw [← Array.length_toList, ← Array.length_toList, r1.length, r2.length]; exact f2⟩
theorem eq_refs {A : Around} {s : Shared} {a a' : Addr} (h : a = a' → b = true) (l : RcAt A s (.ref a) (.ref a') b ∧ RcNeAt A s (.ref a) (.ref a') (!b)) : EqAt A s (.ref a) (.ref a') b ∧ RcAt A s (.ref a) (.ref a') b ∧ RcNeAt A s (.ref a) (.ref a') (!b) :=
 ⟨(Classical.em (a = a')).elim (fun z => by rw [h z, z]; exact EqAt.same _) fun z => EqAt.of_refs z l.1, l⟩
theorem sq_inj {T : String} {its its' : Array Value} {m m' : Nat} (h : sq T its m = sq T its' m') : its = its' := by cases h; rfl
theorem Z232 (H : Lks k ds es b) : Lk (k + 1) (.lst ds) (.lst es) b := by
 have sm : ∀ {im : Im} {v : Value}, Rep im (.lst ds) v → Rep im (.lst es) v → b = true := fun h1 h2 => E3_3 (Z16.mp h1) fun a its m e e1 r1 => E3_3 (Z16.mp h2) fun a' its' m' e' e2 r2 => by
  rw [Value.ref.inj (e.symm.trans e')] at e1
  exact H.same r1 (sq_inj (Z39 e1 e2) ▸ r2)
 refine ⟨sm, fun {im A s v w} ok hu h1 h2 => E3_3 (Z16.mp h1) fun a its m e e1 r1 => E3_3 (Z16.mp h2) fun a' its' m' e' e2 r2 => ?_⟩
 rw [e] at h1 ⊢; rw [e'] at h2 ⊢
 refine E1_2 (H.seq (A := A.in1) ok (by rw [Around.in1_units]; lia) r1 r2) fun f f1 f2 => ?_
 have hl1 : s.heap.IsList a its := ⟨_, ok _ _ e1, rfl, m, rfl⟩
 have hl2 : s.heap.IsList a' its' := ⟨_, ok _ _ e2, rfl, m', rfl⟩
 refine eq_refs (fun z => sm h1 (z ▸ h2)) ?_
 by_cases hsz : its.size = its'.size
 ·rw [f2, ← hsz, Nat.min_self, beq_self_eq_true, Bool.and_true]
  exact ⟨RcAt.lists hl1 hl2 hsz (by lia) f1, RcNeAt.lists hl1 hl2 hsz (by lia) f1⟩
 ·rw [f2, beq_eq_false_iff_ne.mpr hsz, Bool.and_false]
  exact ⟨RcAt.lists_lengths hl1 hl2 (bne_iff_ne.mpr hsz) (by lia), RcNeAt.lists_lengths hl1 hl2 (bne_iff_ne.mpr hsz) (by lia)⟩
theorem lk_tup (H : Lks k ds es b) : Lk (k + 1) (.tup ds) (.tup es) b := by
 have sm : ∀ {im : Im} {v : Value}, Rep im (.tup ds) v → Rep im (.tup es) v → b = true := fun h1 h2 => E3_3 (Z62.mp h1) fun a its m e e1 r1 => E3_3 (Z62.mp h2) fun a' its' m' e' e2 r2 => by
  rw [Value.ref.inj (e.symm.trans e')] at e1
  exact H.same r1 (sq_inj (Z39 e1 e2) ▸ r2)
 refine ⟨sm, fun {im A s v w} ok hu h1 h2 => E3_3 (Z62.mp h1) fun a its m e e1 r1 => E3_3 (Z62.mp h2) fun a' its' m' e' e2 r2 => ?_⟩
 rw [e] at h1 ⊢; rw [e'] at h2 ⊢
 refine E1_2 (H.seq (A := A.in1) ok (by rw [Around.in1_units]; lia) r1 r2) fun f f1 f2 => ?_
 have hl1 : s.heap.IsTuple a its := ⟨_, ok _ _ e1, rfl, m, rfl⟩
 have hl2 : s.heap.IsTuple a' its' := ⟨_, ok _ _ e2, rfl, m', rfl⟩
 refine eq_refs (fun z => sm h1 (z ▸ h2)) ?_
 rw [f2]
 exact ⟨RcAt.tuples hl1 hl2 (by lia) f1, RcNeAt.tuples hl1 hl2 (by lia) f1⟩
theorem Z180 : Lks k [] [] true := ⟨fun _ _ => rfl, fun _ => true, fun _ _ _ h => Z56 h rfl, rfl⟩
theorem lks_ln : Lks k [] (e :: es) false := ⟨fun r1 r2 => absurd (r1.length.symm.trans r2.length) (Nat.succ_ne_zero _).symm, fun _ => true, fun _ _ _ h => Z56 h rfl, rfl⟩
theorem lks_rn : Lks k (d :: ds) [] false := ⟨fun r1 r2 => absurd (r1.length.symm.trans r2.length) (Nat.succ_ne_zero _), fun _ => true, fun _ _ _ _ h => Z56 h rfl, rfl⟩
theorem lks_cons (h : Lk k d e x) (t : Lks k ds es y) : Lks k (d :: ds) (e :: es) (x && y) := by
 refine ⟨fun r1 r2 => ?_, E1_2 t.ex fun f h1 h2 => ⟨fun j => Nat.casesOn j x f, fun j d1 d2 e1 e2 => ?_, ?_⟩⟩
 ·simp only [Reps] at r1 r2
  refine E2_3 r1 fun v vs e r1 rs1 => E2_3 r2 fun v' vs' e' r2 rs2 => ?_
  cases e.symm.trans e'
  rw [h.same r1 r2, t.same rs1 rs2]; rfl
 ·cases j with
  | zero => cases e1; cases e2; exact h
  | succ j => exact h1 j d1 d2 e1 e2
 ·rw [h2, List.length_cons, List.length_cons, Nat.succ_min_succ, List.range_succ_eq_map, List.all_cons, List.all_map, Bool.and_assoc]
  congr 2
  exact (Bool.eq_iff_iff.mpr (by rw [beq_iff_eq, beq_iff_eq, Nat.succ_inj]))
theorem Z67 (h : Lk k d e true) (t : Lks k ds es true) : Lks k (d :: ds) (e :: es) true := lks_cons h t
theorem lks_self : ∀ {l : List D}, (∀ d ∈ l, Lk k d d true) → Lks k l l true
 | [], _ => Z180
 | _ :: _, h => lks_cons (h _ (.head _)) (lks_self fun e he => h e (.tail _ he))
theorem Z64 {i : Int} : Lk k (.int i) (.int i) true := (beq_self_eq_true i) ▸ lk_int (i := i) (j := i)
theorem Z142 {i : List Nat} : Lk k (.str i) (.str i) true := (beq_self_eq_true i) ▸ lk_str (i := i) (j := i)
theorem lk_bool_self {i : Bool} : Lk k (.bool i) (.bool i) true := (beq_self_eq_true i) ▸ lk_bool (i := i) (j := i)
theorem Z181 {γ : Type} {f : γ → D} {l : List γ} (h : ∀ a, Lk k (f a) (f a) true) : Lks k (l.map f) (l.map f) true := lks_self fun _ hd => E1_2 (List.mem_map.mp hd) fun a _ e => e ▸ h a
end
theorem op_eqD {d e : D} {v : Bool} {k : Nat} (h : Lk k d e v) (hk : k ≤ 8 * n := by exact Nat.le_trans (by decide) (Nat.mul_le_mul_left 8 (Nat.le_add_left _ _))) : OpSem K n g (compareOp .Eq) d e (.bool v) := fun g _ v₁ v₂ h₁ h₂ A r g₁ le s E ok =>
 (h.at_ (A := A) ok.im (by have := r.2.2; lia) (h₁.le le) (h₂.le le)).2.1 K.prog K.w E _ ⟨g₁, ok, LeX.refl _ _, Z48⟩
theorem Z272 {d e : D} {v : Bool} {k : Nat} (h : Lk k d e v) (hk : k ≤ 8 * n := by exact Nat.le_trans (by decide) (Nat.mul_le_mul_left 8 (Nat.le_add_left _ _))) : OpSem K n g (compareOp .NotEq) d e (.bool (!v)) := fun g _ v₁ v₂ h₁ h₂ A r g₁ le s E ok =>
 (h.at_ (A := A) ok.im (by have := r.2.2; lia) (h₁.le le) (h₂.le le)).2.2 K.prog K.w E _ ⟨g₁, ok, LeX.refl _ _, Z48⟩
end
end Mine
namespace Mine
section
open PySem PySem.Spec PySem.Calls PyProof.Rows PySem.W PySem.SeqAt
variable {K : Wd} {B : Base} {α β : Type} {A : Around} {g : Gh} {n : Nat} {env : Env}
variable {b : Gh} {S' : List Addr} {fn : List Nat} {cs : List Addr} {nm : List (Str × NameKind)} {σ σ' : List (Option D)} {own : List (Addr × MO)}
theorem op_neMu {a : Addr} {its : Array Value} {m : Nat} (ha : g.mu a = some (sq "list" its m)) : OpSem K n g (compareOp .NotEq) (.raw (.ref a)) (.lst []) (.bool (decide (its.size ≠ 0))) := fun g' l₀ v₁ v₂ h₁ h₂ A r g₁ le s E ok => by
 have := Z22 h₁; subst this
 refine E3_3 (Z16.mp h₂) ?_
 rintro a' its' m' rfl e rs
 have h0 : its'.size = 0 := by rw [← Array.length_toList, rs.length]; rfl
 have hl1 : s.heap.IsList a its := ⟨_, ok.mu _ _ (le.at (l₀.at ha)), rfl, m, rfl⟩
 have hl2 : s.heap.IsList a' its' := ⟨_, ok.im _ _ (le.im _ _ e), rfl, m', rfl⟩
 have hu : A.units < cLine := r.units
 by_cases hz : its.size = 0
 ·have hd : decide (its.size ≠ 0) = false := by simp [hz]
  rw [hd]
  refine (RcNeAt.lists (e := fun _ => true) hl1 hl2 (by rw [hz, h0]) hu (fun j h1 => by lia)) K.prog K.w E _ ?_
  rw [hz]
  exact ⟨g₁, ok, LeX.refl _ _, Z48⟩
 ·have hd : decide (its.size ≠ 0) = true := by exact if_pos hz
  rw [hd]
  exact (RcNeAt.lists_lengths hl1 hl2 (by rw [h0]; simpa using hz) hu) K.prog K.w E _ ⟨g₁, ok, LeX.refl _ _, Z48⟩
theorem Frm.at {i : Nat} {a : Addr} {m : MO} (F : Frm K b S' fn cs env nm σ own g) (h : own[i]? = some (a, m)) : ∃ o, g.mu a = some o ∧ m.P g.im o := E1_3 (F.own _ (List.mem_of_getElem? h)) fun o h1 h2 _ => ⟨o, h1, h2⟩
theorem Frm.adv {i : Nat} {a : Addr} {m m' : MO} {g' : Gh} (F : Frm K b S' fn cs env nm σ own g) (hi : own[i]? = some (a, m)) (l : LeX [a] g g') (h : ∃ o, g'.mu a = some o ∧ m'.P g'.im o) (hc : ∀ o w, m.P g.im o → o.data ≠ .cell w) : Frm K b S' fn cs env nm σ (own.set i (a, m')) g' := by
 obtain ⟨hlt, e⟩ := List.getElem?_eq_some_iff.mp hi
 have hsplit : own = own.take i ++ (a, m) :: own.drop (i + 1) := by
  rw [← e, ← List.drop_eq_getElem_cons hlt, List.take_append_drop]
 have hset : own.set i (a, m') = own.take i ++ (a, m') :: own.drop (i + 1) := by
  rw [List.set_eq_take_append_cons_drop, if_pos hlt]
 rw [hsplit] at F
 rw [hset]
 exact Frm.back ((Frm.front F).adv1 l h hc)
theorem Z139 {o : Expr} {attr : Str} {pos : Pos} {x dx C N : Addr} {mN : Str → Option Value} {L : List (Str × D)} {d : D} {newId : String} {i j : Nat} (F : Frm K b S' fn cs env nm σ own g) (hc : ClsB K.B C N [.type "object"] newId mN) (hng : mN "__getattribute__" = none) (hna : mN attr = none) (hB : typeLookup (.type "object") attr = pure none)
  (hi : own[i]? = some (x, MO.obj (instObj C dx))) (hj : own[j]? = some (dx, MO.inst L)) (hne : dx ≠ x) (hv : (attr, d) ∈ L) (ho : Pe K n g (eval o env) (.raw (.ref x))) (hb : ∀ id, d ≠ .raw (.builtin id) := by intro id z; cases z) (hbase : attributeBase o attr env (eval o env) = eval o env := by rfl) :
  Pe K n g (eval (.Attribute o attr pos) env) d := fun A r g₁ l => Z171 (gM0_2 (ho A r g₁ l) fun v g₂ l₂ p => by
  have := Z22 p; subst this
  refine E1_2 (F.at hi) fun ox x1 x2 => ?_
  refine E1_2 (F.at hj) fun od d1 d2 => ?_
  have hxo : ox = instObj C dx := x2
  clear x2 p ho hj hi F; subst hxo
  exact Z241 hc hng hna hB (l₂.at (l.at x1)) (l₂.at (l.at d1)) ((MO.inst L).mono _ _ _ (l.trans l₂).im d2) hne hv hb fun v hv => ⟨l₂, hv⟩) hbase
theorem Z183 {o value : Expr} {attr : Str} {pos' pos : Pos} {rest : List Stmt} {x dx C N : Addr} {mN : Str → Option Value} {L : List (Str × D)} {d : D} {newId : String} {i j : Nat} {Q : Flow → Gh → Prop} (F : Frm K b S' fn cs env nm σ own g) (r : Room A n) (hc : ClsB K.B C N [.type "object"] newId mN) (hns : mN "__setattr__" = none) (hna : mN attr = none) (hB : typeLookup (.type "object") attr = pure none) (hxC : K.B.h₀.objs.size > C)
  (hi : own[i]? = some (x, MO.obj (instObj C dx))) (hj : own[j]? = some (dx, MO.inst L)) (hne : dx ≠ x) (hsz : L.length ≤ 1000) (ho : Pe K n g (eval o env) (.raw (.ref x))) (hval : Pe K n g (eval value env) d)
  (k : ∀ g', LeX [dx] g g' → Frm K b S' fn cs env nm σ (own.set j (dx, MO.inst (putN L attr d))) g' → gwp K A (execs rest env) Q g')
  (hs : swapsWith value (some (.Attribute o attr pos')) pos.line env = pure false := by rfl) : gwp K A (execs (.Assign [.Attribute o attr pos'] value pos :: rest) env) Q g :=
 Z10 (Z119 (hval.use r fun v g₁ l₁ hv => (ho.le l₁).useR r fun g₂ l₂ => by
  have F₂ := F.up (l₁.trans l₂)
  refine E1_2 (F₂.at hi) fun ox x1 x2 => ?_
  refine E1_2 (F₂.at hj) fun od d1 d2 => ?_
  have hxo : ox = instObj C dx := x2
  clear x2 hval ho hi F; subst hxo
  refine Z144 hc hns hna hB hxC x1 d1 d2 hne (hv.le l₂) (Nat.le_trans hsz (by decide)) fun o' ho' => ?_
  exact k _ ((LeX.of (l₁.trans l₂)).trans LeX.setMu) (F₂.adv hj LeX.setMu ⟨o', Gh.setMu_self, ho'⟩ MO.inst_cell)) hs)
end
end Mine
namespace Mine
section
open PySem
theorem and_high (x s : Nat) : x &&& (x / 2 ^ s * 2 ^ s) = x / 2 ^ s * 2 ^ s := by
 have e : x / 2 ^ s * 2 ^ s = (x >>> s) <<< s := by rw [Nat.shiftLeft_eq, Nat.shiftRight_eq_div_pow]
 rw [e]
 apply Nat.eq_of_testBit_eq
 intro i
 rw [Nat.testBit_and, Nat.testBit_shiftLeft, Nat.testBit_shiftRight]
 by_cases h : s ≤ i
 ·simp [h]
 ·simp [h]
theorem xor_high (x s : Nat) : Builtin.bitXor (x : Int) (((x / 2 ^ s : Nat) : Int) * 2 ^ s) = ((x % 2 ^ s : Nat) : Int) := by
 rw [PyProof.Rows.bitXor_and]
 have e : (((x / 2 ^ s : Nat) : Int) * 2 ^ s) = ((x / 2 ^ s * 2 ^ s : Nat) : Int) := by push_cast; rfl
 rw [e]
 have h : Builtin.bitAnd (x : Int) ((x / 2 ^ s * 2 ^ s : Nat) : Int) = ((x / 2 ^ s * 2 ^ s : Nat) : Int) := by
  show ((((x : Int).toNat &&& ((x / 2 ^ s * 2 ^ s : Nat) : Int).toNat : Nat)) : Int) = _
  rw [Int.toNat_natCast, Int.toNat_natCast, and_high]
 rw [h]
 have := Nat.div_add_mod x (2 ^ s)
 have h2 : x / 2 ^ s * 2 ^ s = 2 ^ s * (x / 2 ^ s) := Nat.mul_comm _ _
 lia
theorem bits_lt (a : Nat) : a < 2 ^ (Builtin.Int.intBits (a : Int)) := by
 unfold Builtin.Int.intBits
 by_cases h : a = 0
 ·subst h; simp
 ·have : ((a : Int) == 0) = false := by simpa using h
  rw [this]
  exact Nat.lt_log2_self
theorem Z118 {a k : Nat} (h : a < 2 ^ k) : Builtin.Int.intBits (a : Int) ≤ k := by
 unfold Builtin.Int.intBits
 by_cases h0 : a = 0
 ·subst h0; simp
 ·have : ((a : Int) == 0) = false := by simpa using h0
  rw [this]
  exact (Nat.log2_lt h0).mpr h
theorem bits_pos {a : Nat} (h : a ≠ 0) : 1 ≤ Builtin.Int.intBits (a : Int) := by
 unfold Builtin.Int.intBits
 have : ((a : Int) == 0) = false := by simpa using h
 rw [this]
 simp
noncomputable def dig (n x i : Nat) : Nat := x / 2 ^ (n * i) % 2 ^ n
noncomputable def nd (n a : Nat) : Nat := (Builtin.Int.intBits (a : Int) + n - 1) / n
theorem lt_nd {n a : Nat} (hn : 1 ≤ n) : a < 2 ^ (n * nd n a) := by
 refine Nat.lt_of_lt_of_le (bits_lt a) (Nat.pow_le_pow_right (by lia) ?_)
 unfold nd
 generalize Builtin.Int.intBits (a : Int) = k
 have h1 := Nat.div_add_mod (k + n - 1) n
 have h2 := Nat.mod_lt (k + n - 1) (by lia : n > 0)
 lia
theorem nd_le {n a k : Nat} (hn : 1 ≤ n) (h : a < 2 ^ k) : nd n a ≤ k := by
 unfold nd
 have hb := Z118 h
 generalize Builtin.Int.intBits (a : Int) = j at hb
 refine Nat.le_trans (Nat.div_le_div_right (c := n) (show j + n - 1 ≤ k + n - 1 by lia)) ?_
 rw [Nat.div_le_iff_le_mul_add_pred (by lia)]
 have : k ≤ n * k := Nat.le_mul_of_pos_left k (by lia)
 lia
theorem nd_pos {n a : Nat} (hn : 1 ≤ n) (h : a ≠ 0) : 1 ≤ nd n a := by
 have hb := bits_pos h
 exact (Nat.le_div_iff_mul_le (by lia)).mpr (by lia)
theorem nd_zero {n : Nat} (hn : 1 ≤ n) : nd n 0 = 0 := by
 unfold nd
 have : Builtin.Int.intBits ((0 : Nat) : Int) = 0 := rfl
 rw [this]
 exact Nat.div_eq_of_lt (by lia)
theorem dig_low {n x i j : Nat} (h : i < j) : dig n (x % 2 ^ (j * n)) i = dig n x i := by
 unfold dig
 have e : j * n = n * i + n * (j - i) := by rw [← Nat.mul_add, Nat.mul_comm]; congr 1; lia
 rw [e, Nat.pow_add, Nat.mod_mul_right_div_self]
 have e2 : 2 ^ (n * (j - i)) = 2 ^ n * 2 ^ (n * (j - i - 1)) := by
  rw [← Nat.pow_add]; congr 1
  have : j - i = (j - i - 1) + 1 := by lia
  rw [this, Nat.mul_add]; simp; lia
 rw [e2, Nat.mod_mul_right_mod]
theorem dig_high {n x i j : Nat} : dig n (x / 2 ^ (j * n)) i = dig n x (j + i) := by
 unfold dig
 rw [Nat.div_div_eq_div_mul, ← Nat.pow_add]
 congr 3
 rw [Nat.mul_add, Nat.mul_comm j n]
noncomputable def seg (n : Nat) (f : Nat → Nat) : Nat → Nat → Nat
 | _, 0 => 0
 | L, k + 1 => f L + 2 ^ n * seg n f (L + 1) k
theorem seg_succ (n : Nat) (f : Nat → Nat) (L k : Nat) : seg n f L (k + 1) = f L + 2 ^ n * seg n f (L + 1) k := rfl
theorem Z151 (n : Nat) (f : Nat → Nat) : ∀ (j L k : Nat), seg n f L (j + k) = seg n f L j + 2 ^ (j * n) * seg n f (L + j) k
 | 0, L, k => by simp [seg]
 | j + 1, L, k => by
  have : j + 1 + k = (j + k) + 1 := by lia
  rw [this, seg_succ, seg_succ, Z151 n f j (L + 1) k, Nat.mul_add, ← Nat.mul_assoc, ← Nat.pow_add, show L + 1 + j = L + (j + 1) by lia, show n + j * n = (j + 1) * n by rw [Nat.add_mul]; lia]
  lia
theorem seg_le (n : Nat) (f : Nat → Nat) (L j k : Nat) : seg n f L j ≤ seg n f L (j + k) := by rw [Z151]; exact Nat.le_add_right _ _
theorem seg_le2 (n : Nat) (f : Nat → Nat) (L j k : Nat) : seg n f (L + j) k ≤ seg n f L (j + k) := by
 rw [Z151]
 have : seg n f (L + j) k ≤ 2 ^ (j * n) * seg n f (L + j) k := Nat.le_mul_of_pos_left _ (Nat.pow_pos (by lia))
 lia
noncomputable def qd (n a c i : Nat) : Nat := (a / 2 ^ (n * (i + 1)) % c * 2 ^ n + dig n a i) / c
theorem step_eq (n a i : Nat) : a / 2 ^ (n * i) = a / 2 ^ (n * (i + 1)) * 2 ^ n + dig n a i := by
 have e : n * (i + 1) = n * i + n := by rw [Nat.mul_add]; simp
 rw [e, Nat.pow_add, ← Nat.div_div_eq_div_mul]
 have := Nat.div_add_mod (a / 2 ^ (n * i)) (2 ^ n)
 rw [Nat.mul_comm] at this
 exact this.symm
theorem step_mod (n a c i : Nat) : (a / 2 ^ (n * (i + 1)) % c * 2 ^ n + dig n a i) % c = a / 2 ^ (n * i) % c := by
 conv => rhs; rw [step_eq]
 rw [Nat.add_mod, Nat.mul_mod, Nat.mod_mod, ← Nat.mul_mod, ← Nat.add_mod]
theorem step_div {c : Nat} (n a i : Nat) (hc : 0 < c) : a / 2 ^ (n * i) / c = a / 2 ^ (n * (i + 1)) / c * 2 ^ n + qd n a c i := by
 unfold qd
 rw [step_eq n a i]
 generalize a / 2 ^ (n * (i + 1)) = A
 generalize dig n a i = d
 have h : A * 2 ^ n + d = c * (A / c * 2 ^ n) + (A % c * 2 ^ n + d) := by
  have := Nat.div_add_mod A c
  conv => lhs; rw [← this]
  rw [Nat.add_mul]
  rw [Nat.mul_assoc]; lia
 rw [h, Nat.mul_add_div hc]
theorem seg_div {c : Nat} (n a : Nat) (hc : 0 < c) : ∀ (k i : Nat), a / 2 ^ (n * (i + k)) = 0 → seg n (qd n a c) i k = a / 2 ^ (n * i) / c
 | 0, i, h => by
  rw [Nat.add_zero] at h
  rw [h]; simp [seg]
 | k + 1, i, h => by
  unfold seg
  rw [seg_div n a hc k (i + 1) (by rw [show i + 1 + k = i + (k + 1) by lia]; exact h), step_div n a i hc, Nat.mul_comm]
  lia
end
end Mine
namespace Mine
section
open PySem PySem.Spec PySem.Calls PyProof.Rows PySem.W
noncomputable def PB : List Stmt := PySem.Challenge.pw_sc0063_02.main.body
noncomputable def GT : List (Str × Value) := [(Str.ofString "_wall", Value.ref 21), (Str.ofString "EMPTYSTRING", Value.str (Str.ofString "") 196), (Str.ofString "_Accumulator", Value.ref 101), (Str.ofString "_DIV_LIMIT", Value.int 4000 296), (Str.ofString "_div2n1n", Value.ref 112), (Str.ofString "_div3n2n", Value.ref 119), (Str.ofString "_int2digits", Value.ref 126), (Str.ofString "_digits2int", Value.ref 133), (Str.ofString "_divmod_pos", Value.ref 140), (Str.ofString "int_divmod", Value.ref 147), (Str.ofString "_netrclex", Value.ref 185), (Str.ofString "_law_stream", Value.ref 196), (Str.ofString "_law_written", Value.ref 201), (Str.ofString "_law_measure", Value.ref 208), (Str.ofString "_law_rows", Value.ref 213), (Str.ofString "_law_lines", Value.ref 220), (Str.ofString "law", Value.ref 225), (Str.ofString "super", Value.type "super"), (Str.ofString "sum", Value.builtin "sum"), (Str.ofString "len", Value.builtin "len"), (Str.ofString "divmod", Value.builtin "divmod"), (Str.ofString "reversed", Value.type "reversed"), (Str.ofString "ZeroDivisionError", Value.type "ZeroDivisionError"), (Str.ofString "iter", Value.builtin "iter"), (Str.ofString "range", Value.type "range"), (Str.ofString "list", Value.type "list"), (Str.ofString "sorted", Value.builtin "sorted"), (Str.ofString "enumerate", Value.type "enumerate"), (Str.ofString "zip", Value.type "zip"), (Str.ofString "set", Value.type "set"), (Str.ofString "str", Value.type "str"), (Str.ofString "max", Value.builtin "max")]
noncomputable def st_Ac : Stmt := stNo PB 3
noncomputable def st_Ac_init : Stmt := stNo (bodyOf st_Ac) 0
theorem ok_Ac_init : NamesOk (scopeOf st_Ac_init).names := NamesOk.of (by decide +kernel)
noncomputable def sr_Ac_init : List SI := [.no, .no, .outer 0, .glob 17]
theorem so_Ac_init : srcOk [("__class__", .cell)] (scopeOf st_Ac_init).names (mkSrcs GT sr_Ac_init) = true := by decide +kernel
theorem gi_Ac_init : globIdx (GT.map (·.1)) (scopeOf st_Ac_init).names sr_Ac_init = true := by decide +kernel
noncomputable abbrev a_Ac_init : Addr := 38
noncomputable abbrev c_Ac_init : Addr := 37
noncomputable abbrev fd_Ac_init : FuncData := topFd st_Ac_init "_Accumulator.__init__" 37 [("__class__", 25)] (Value.ref 30) (Value.str (Str.ofString "cpy313.email.header") 194) (Value.ref 31)
noncomputable def st_Ac_push : Stmt := stNo (bodyOf st_Ac) 1
theorem ok_Ac_push : NamesOk (scopeOf st_Ac_push).names := NamesOk.of (by decide +kernel)
noncomputable def sr_Ac_push : List SI := [.no, .no, .no]
theorem so_Ac_push : srcOk [] (scopeOf st_Ac_push).names (mkSrcs GT sr_Ac_push) = true := by decide +kernel
theorem gi_Ac_push : globIdx (GT.map (·.1)) (scopeOf st_Ac_push).names sr_Ac_push = true := by decide +kernel
noncomputable abbrev a_Ac_push : Addr := 45
noncomputable abbrev c_Ac_push : Addr := 44
noncomputable abbrev fd_Ac_push : FuncData := topFd st_Ac_push "_Accumulator.push" 44 [] (Value.none) (Value.str (Str.ofString "cpy313.email.header") 194) (Value.none)
noncomputable def st_Ac_pf : Stmt := stNo (bodyOf st_Ac) 2
theorem ok_Ac_pf : NamesOk (scopeOf st_Ac_pf).names := NamesOk.of (by decide +kernel)
noncomputable def sr_Ac_pf : List SI := [.no, .no, .no]
theorem so_Ac_pf : srcOk [] (scopeOf st_Ac_pf).names (mkSrcs GT sr_Ac_pf) = true := by decide +kernel
theorem gi_Ac_pf : globIdx (GT.map (·.1)) (scopeOf st_Ac_pf).names sr_Ac_pf = true := by decide +kernel
noncomputable abbrev a_Ac_pf : Addr := 53
noncomputable abbrev c_Ac_pf : Addr := 52
noncomputable abbrev fd_Ac_pf : FuncData := topFd st_Ac_pf "_Accumulator.pop_from" 52 [] (Value.ref 46) (Value.str (Str.ofString "cpy313.email.header") 194) (Value.none)
noncomputable def st_Ac_pop : Stmt := stNo (bodyOf st_Ac) 3
noncomputable abbrev a_Ac_pop : Addr := 61
noncomputable abbrev c_Ac_pop : Addr := 60
noncomputable abbrev fd_Ac_pop : FuncData := topFd st_Ac_pop "_Accumulator.pop" 60 [("__class__", 25)] (Value.none) (Value.str (Str.ofString "cpy313.email.header") 194) (Value.ref 54)
noncomputable def st_Ac_len : Stmt := stNo (bodyOf st_Ac) 4
theorem ok_Ac_len : NamesOk (scopeOf st_Ac_len).names := NamesOk.of (by decide +kernel)
noncomputable def sr_Ac_len : List SI := [.no, .glob 18]
theorem so_Ac_len : srcOk [] (scopeOf st_Ac_len).names (mkSrcs GT sr_Ac_len) = true := by decide +kernel
theorem gi_Ac_len : globIdx (GT.map (·.1)) (scopeOf st_Ac_len).names sr_Ac_len = true := by decide +kernel
noncomputable abbrev a_Ac_len : Addr := 68
noncomputable abbrev c_Ac_len : Addr := 67
noncomputable abbrev fd_Ac_len : FuncData := topFd st_Ac_len "_Accumulator.__len__" 67 [] (Value.none) (Value.str (Str.ofString "cpy313.email.header") 194) (Value.none)
noncomputable def st_Ac_str : Stmt := stNo (bodyOf st_Ac) 5
noncomputable abbrev a_Ac_str : Addr := 75
noncomputable abbrev c_Ac_str : Addr := 74
noncomputable abbrev fd_Ac_str : FuncData := topFd st_Ac_str "_Accumulator.__str__" 74 [] (Value.none) (Value.str (Str.ofString "cpy313.email.header") 194) (Value.none)
noncomputable def st_Ac_reset : Stmt := stNo (bodyOf st_Ac) 6
theorem ok_Ac_reset : NamesOk (scopeOf st_Ac_reset).names := NamesOk.of (by decide +kernel)
noncomputable def sr_Ac_reset : List SI := [.no, .no]
theorem so_Ac_reset : srcOk [] (scopeOf st_Ac_reset).names (mkSrcs GT sr_Ac_reset) = true := by decide +kernel
theorem gi_Ac_reset : globIdx (GT.map (·.1)) (scopeOf st_Ac_reset).names sr_Ac_reset = true := by decide +kernel
noncomputable abbrev a_Ac_reset : Addr := 83
noncomputable abbrev c_Ac_reset : Addr := 82
noncomputable abbrev fd_Ac_reset : FuncData := topFd st_Ac_reset "_Accumulator.reset" 82 [] (Value.ref 76) (Value.str (Str.ofString "cpy313.email.header") 194) (Value.none)
noncomputable def st_Ac_pc : Stmt := stNo (bodyOf st_Ac) 8
noncomputable abbrev a_Ac_pc : Addr := 98
noncomputable abbrev c_Ac_pc : Addr := 97
noncomputable abbrev fd_Ac_pc : FuncData := topFd st_Ac_pc "_Accumulator.part_count" 97 [("__class__", 25)] (Value.none) (Value.str (Str.ofString "cpy313.email.header") 194) (Value.ref 91)
noncomputable def st_d21 : Stmt := stNo PB 6
theorem ok_d21 : NamesOk (scopeOf st_d21).names := NamesOk.of (by decide +kernel)
noncomputable def sr_d21 : List SI := [.no, .no, .no, .no, .no, .no, .no, .no, .no, .no, .no, .glob 3, .glob 20, .glob 5]
theorem so_d21 : srcOk [] (scopeOf st_d21).names (mkSrcs GT sr_d21) = true := by decide +kernel
theorem gi_d21 : globIdx (GT.map (·.1)) (scopeOf st_d21).names sr_d21 = true := by decide +kernel
noncomputable abbrev a_d21 : Addr := 112
noncomputable abbrev c_d21 : Addr := 111
noncomputable abbrev fd_d21 : FuncData := topFd st_d21 "_div2n1n" 111 [] (Value.none) (Value.str (Str.ofString "cpy313._pylong") 294) (Value.none)
noncomputable def st_d32 : Stmt := stNo PB 7
noncomputable abbrev a_d32 : Addr := 119
noncomputable abbrev c_d32 : Addr := 118
noncomputable abbrev fd_d32 : FuncData := topFd st_d32 "_div3n2n" 118 [] (Value.none) (Value.str (Str.ofString "cpy313._pylong") 294) (Value.none)
noncomputable def st_i2d : Stmt := stNo PB 8
theorem ok_i2d : NamesOk (scopeOf st_i2d).names := NamesOk.of (by decide +kernel)
noncomputable def sr_i2d : List SI := [.no, .no, .no, .no, .glob 19]
theorem so_i2d : srcOk [] (scopeOf st_i2d).names (mkSrcs GT sr_i2d) = true := by decide +kernel
theorem gi_i2d : globIdx (GT.map (·.1)) (scopeOf st_i2d).names sr_i2d = true := by decide +kernel
noncomputable abbrev q_i2d_inner : Str := "_int2digits.<locals>.inner"
noncomputable def st_i2d_inner : Stmt := stNo (bodyOf st_i2d) 1
theorem Z113 : NamesOk (scopeOf st_i2d_inner).names := NamesOk.of (by decide +kernel)
noncomputable def sr_i2d_inner : List SI := [.no, .no, .no, .no, .no, .no, .no, .outer 2, .outer 3, .outer 1]
theorem Z86 : srcOk (scopeOf st_i2d).names (scopeOf st_i2d_inner).names (mkSrcs GT sr_i2d_inner) = true := by decide +kernel
theorem gi_i2d_inner : globIdx (GT.map (·.1)) (scopeOf st_i2d_inner).names sr_i2d_inner = true := by decide +kernel
noncomputable abbrev a_i2d : Addr := 126
noncomputable abbrev c_i2d : Addr := 125
noncomputable abbrev fd_i2d : FuncData := topFd st_i2d "_int2digits" 125 [] (Value.none) (Value.str (Str.ofString "cpy313._pylong") 294) (Value.none)
noncomputable def st_d2i : Stmt := stNo PB 9
theorem ok_d2i : NamesOk (scopeOf st_d2i).names := NamesOk.of (by decide +kernel)
noncomputable def sr_d2i : List SI := [.no, .no, .no, .glob 19]
theorem so_d2i : srcOk [] (scopeOf st_d2i).names (mkSrcs GT sr_d2i) = true := by decide +kernel
theorem gi_d2i : globIdx (GT.map (·.1)) (scopeOf st_d2i).names sr_d2i = true := by decide +kernel
noncomputable abbrev q_d2i_inner : Str := "_digits2int.<locals>.inner"
noncomputable def st_d2i_inner : Stmt := stNo (bodyOf st_d2i) 0
theorem Z114 : NamesOk (scopeOf st_d2i_inner).names := NamesOk.of (by decide +kernel)
noncomputable def sr_d2i_inner : List SI := [.no, .no, .no, .no, .outer 0, .outer 2, .outer 1]
theorem Z87 : srcOk (scopeOf st_d2i).names (scopeOf st_d2i_inner).names (mkSrcs GT sr_d2i_inner) = true := by decide +kernel
theorem gi_d2i_inner : globIdx (GT.map (·.1)) (scopeOf st_d2i_inner).names sr_d2i_inner = true := by decide +kernel
noncomputable abbrev a_d2i : Addr := 133
noncomputable abbrev c_d2i : Addr := 132
noncomputable abbrev fd_d2i : FuncData := topFd st_d2i "_digits2int" 132 [] (Value.none) (Value.str (Str.ofString "cpy313._pylong") 294) (Value.none)
noncomputable def st_dmp : Stmt := stNo PB 10
theorem ok_dmp : NamesOk (scopeOf st_dmp).names := NamesOk.of (by decide +kernel)
noncomputable def sr_dmp : List SI := [.no, .no, .no, .no, .no, .no, .no, .no, .no, .glob 6, .glob 21, .glob 4, .glob 7]
theorem so_dmp : srcOk [] (scopeOf st_dmp).names (mkSrcs GT sr_dmp) = true := by decide +kernel
theorem gi_dmp : globIdx (GT.map (·.1)) (scopeOf st_dmp).names sr_dmp = true := by decide +kernel
noncomputable abbrev a_dmp : Addr := 140
noncomputable abbrev c_dmp : Addr := 139
noncomputable abbrev fd_dmp : FuncData := topFd st_dmp "_divmod_pos" 139 [] (Value.none) (Value.str (Str.ofString "cpy313._pylong") 294) (Value.none)
noncomputable def st_idm : Stmt := stNo PB 11
theorem ok_idm : NamesOk (scopeOf st_idm).names := NamesOk.of (by decide +kernel)
noncomputable def sr_idm : List SI := [.no, .no, .no, .no, .glob 22, .glob 9, .glob 8]
theorem so_idm : srcOk [] (scopeOf st_idm).names (mkSrcs GT sr_idm) = true := by decide +kernel
theorem gi_idm : globIdx (GT.map (·.1)) (scopeOf st_idm).names sr_idm = true := by decide +kernel
noncomputable abbrev a_idm : Addr := 147
noncomputable abbrev c_idm : Addr := 146
noncomputable abbrev fd_idm : FuncData := topFd st_idm "int_divmod" 146 [] (Value.none) (Value.str (Str.ofString "cpy313._pylong") 294) (Value.none)
noncomputable def st_nl : Stmt := stNo PB 13
noncomputable def st_nl_init : Stmt := stNo (bodyOf st_nl) 0
theorem ok_nl_init : NamesOk (scopeOf st_nl_init).names := NamesOk.of (by decide +kernel)
noncomputable def sr_nl_init : List SI := [.no, .no]
theorem so_nl_init : srcOk [] (scopeOf st_nl_init).names (mkSrcs GT sr_nl_init) = true := by decide +kernel
theorem gi_nl_init : globIdx (GT.map (·.1)) (scopeOf st_nl_init).names sr_nl_init = true := by decide +kernel
noncomputable abbrev a_nl_init : Addr := 161
noncomputable abbrev c_nl_init : Addr := 160
noncomputable abbrev fd_nl_init : FuncData := topFd st_nl_init "_netrclex.__init__" 160 [] (Value.none) (Value.str (Str.ofString "cpy313.netrc") 376) (Value.none)
noncomputable def st_nl_rc : Stmt := stNo (bodyOf st_nl) 1
theorem ok_nl_rc : NamesOk (scopeOf st_nl_rc).names := NamesOk.of (by decide +kernel)
noncomputable def sr_nl_rc : List SI := [.no, .no]
theorem so_nl_rc : srcOk [] (scopeOf st_nl_rc).names (mkSrcs GT sr_nl_rc) = true := by decide +kernel
theorem gi_nl_rc : globIdx (GT.map (·.1)) (scopeOf st_nl_rc).names sr_nl_rc = true := by decide +kernel
noncomputable abbrev a_nl_rc : Addr := 168
noncomputable abbrev c_nl_rc : Addr := 167
noncomputable abbrev fd_nl_rc : FuncData := topFd st_nl_rc "_netrclex._read_char" 167 [] (Value.none) (Value.str (Str.ofString "cpy313.netrc") 376) (Value.none)
noncomputable def st_nl_gt : Stmt := stNo (bodyOf st_nl) 2
theorem ok_nl_gt : NamesOk (scopeOf st_nl_gt).names := NamesOk.of (by decide +kernel)
noncomputable def sr_nl_gt : List SI := [.no, .no, .no, .no, .glob 23]
theorem so_nl_gt : srcOk [] (scopeOf st_nl_gt).names (mkSrcs GT sr_nl_gt) = true := by decide +kernel
theorem gi_nl_gt : globIdx (GT.map (·.1)) (scopeOf st_nl_gt).names sr_nl_gt = true := by decide +kernel
noncomputable abbrev a_nl_gt : Addr := 175
noncomputable abbrev c_nl_gt : Addr := 174
noncomputable abbrev fd_nl_gt : FuncData := topFd st_nl_gt "_netrclex.get_token" 174 [] (Value.none) (Value.str (Str.ofString "cpy313.netrc") 376) (Value.none)
noncomputable def st_nl_pt : Stmt := stNo (bodyOf st_nl) 3
theorem ok_nl_pt : NamesOk (scopeOf st_nl_pt).names := NamesOk.of (by decide +kernel)
noncomputable def sr_nl_pt : List SI := [.no, .no]
theorem so_nl_pt : srcOk [] (scopeOf st_nl_pt).names (mkSrcs GT sr_nl_pt) = true := by decide +kernel
theorem gi_nl_pt : globIdx (GT.map (·.1)) (scopeOf st_nl_pt).names sr_nl_pt = true := by decide +kernel
noncomputable abbrev a_nl_pt : Addr := 182
noncomputable abbrev c_nl_pt : Addr := 181
noncomputable abbrev fd_nl_pt : FuncData := topFd st_nl_pt "_netrclex.push_token" 181 [] (Value.none) (Value.str (Str.ofString "cpy313.netrc") 376) (Value.none)
noncomputable def st_ls : Stmt := stNo PB 15
theorem ok_ls : NamesOk (scopeOf st_ls).names := NamesOk.of (by decide +kernel)
noncomputable def sr_ls : List SI := [.no, .no, .no]
theorem so_ls : srcOk [] (scopeOf st_ls).names (mkSrcs GT sr_ls) = true := by decide +kernel
theorem gi_ls : globIdx (GT.map (·.1)) (scopeOf st_ls).names sr_ls = true := by decide +kernel
noncomputable abbrev q_ls_lrd : Str := "_law_stream.<locals>._law_read"
noncomputable def st_ls_lrd : Stmt := stNo (bodyOf st_ls) 0
theorem ok_ls_lrd : NamesOk (scopeOf st_ls_lrd).names := NamesOk.of (by decide +kernel)
noncomputable def sr_ls_lrd : List SI := [.no, .outer 0]
theorem Z218 : srcOk (scopeOf st_ls).names (scopeOf st_ls_lrd).names (mkSrcs GT sr_ls_lrd) = true := by decide +kernel
theorem gi_ls_lrd : globIdx (GT.map (·.1)) (scopeOf st_ls_lrd).names sr_ls_lrd = true := by decide +kernel
noncomputable abbrev a_ls : Addr := 196
noncomputable abbrev c_ls : Addr := 195
noncomputable abbrev fd_ls : FuncData := topFd st_ls "_law_stream" 195 [] (Value.none) (Value.str (Str.ofString "law_sc0063_02") 436) (Value.none)
noncomputable def st_lw : Stmt := stNo PB 16
theorem ok_lw : NamesOk (scopeOf st_lw).names := NamesOk.of (by decide +kernel)
noncomputable def sr_lw : List SI := [.no, .no, .no, .no]
theorem so_lw : srcOk [] (scopeOf st_lw).names (mkSrcs GT sr_lw) = true := by decide +kernel
theorem gi_lw : globIdx (GT.map (·.1)) (scopeOf st_lw).names sr_lw = true := by decide +kernel
noncomputable abbrev a_lw : Addr := 201
noncomputable abbrev c_lw : Addr := 200
noncomputable abbrev fd_lw : FuncData := topFd st_lw "_law_written" 200 [] (Value.none) (Value.str (Str.ofString "law_sc0063_02") 436) (Value.none)
noncomputable def st_lm : Stmt := stNo PB 17
theorem ok_lm : NamesOk (scopeOf st_lm).names := NamesOk.of (by decide +kernel)
noncomputable def sr_lm : List SI := [.no, .no, .glob 9]
theorem so_lm : srcOk [] (scopeOf st_lm).names (mkSrcs GT sr_lm) = true := by decide +kernel
theorem gi_lm : globIdx (GT.map (·.1)) (scopeOf st_lm).names sr_lm = true := by decide +kernel
noncomputable abbrev a_lm : Addr := 208
noncomputable abbrev c_lm : Addr := 207
noncomputable abbrev fd_lm : FuncData := topFd st_lm "_law_measure" 207 [] (Value.none) (Value.str (Str.ofString "law_sc0063_02") 436) (Value.none)
noncomputable def st_lr : Stmt := stNo PB 18
theorem ok_lr : NamesOk (scopeOf st_lr).names := NamesOk.of (by decide +kernel)
noncomputable def sr_lr : List SI := [.no, .no, .no, .no, .no, .no, .no, .no, .no, .no, .glob 2, .glob 19, .glob 24]
theorem so_lr : srcOk [] (scopeOf st_lr).names (mkSrcs GT sr_lr) = true := by decide +kernel
theorem gi_lr : globIdx (GT.map (·.1)) (scopeOf st_lr).names sr_lr = true := by decide +kernel
noncomputable abbrev a_lr : Addr := 213
noncomputable abbrev c_lr : Addr := 212
noncomputable abbrev fd_lr : FuncData := topFd st_lr "_law_rows" 212 [] (Value.none) (Value.str (Str.ofString "law_sc0063_02") 436) (Value.none)
noncomputable def st_ll : Stmt := stNo PB 19
theorem ok_ll : NamesOk (scopeOf st_ll).names := NamesOk.of (by decide +kernel)
noncomputable def sr_ll : List SI := [.no, .no, .no, .no, .no, .no, .no, .no, .no, .glob 24, .glob 25]
theorem so_ll : srcOk [] (scopeOf st_ll).names (mkSrcs GT sr_ll) = true := by decide +kernel
theorem gi_ll : globIdx (GT.map (·.1)) (scopeOf st_ll).names sr_ll = true := by decide +kernel
noncomputable abbrev a_ll : Addr := 220
noncomputable abbrev c_ll : Addr := 219
noncomputable abbrev fd_ll : FuncData := topFd st_ll "_law_lines" 219 [] (Value.none) (Value.str (Str.ofString "law_sc0063_02") 436) (Value.none)
noncomputable def st_law : Stmt := stNo PB 20
theorem ok_law : NamesOk (scopeOf st_law).names := NamesOk.of (by decide +kernel)
noncomputable def sr_law : List SI := [.no, .no, .no, .no, .no, .no, .no, .no, .no, .no, .no, .no, .no, .no, .no, .no, .no, .no, .no, .no, .no, .no, .no, .no, .no, .no, .no, .no, .no, .glob 19, .glob 24, .glob 10, .glob 11, .glob 25, .glob 13, .glob 9, .glob 14, .glob 26, .glob 15, .glob 27, .glob 28]
theorem so_law : srcOk [] (scopeOf st_law).names (mkSrcs GT sr_law) = true := by decide +kernel
theorem gi_law : globIdx (GT.map (·.1)) (scopeOf st_law).names sr_law = true := by decide +kernel
noncomputable abbrev a_law : Addr := 225
noncomputable abbrev c_law : Addr := 224
noncomputable abbrev fd_law : FuncData := topFd st_law "law" 224 [] (Value.none) (Value.str (Str.ofString "law_sc0063_02") 436) (Value.none)
noncomputable def QN : List (Nat × Nat × Str) := [(26, 19, "_Accumulator.__len__.<locals>.<genexpr>"), (29, 32, "_Accumulator.__str__.<locals>.<genexpr>"), (73, 4, "_int2digits.<locals>.inner"), (88, 4, "_digits2int.<locals>.inner"), (164, 4, "_law_stream.<locals>._law_read"), (166, 13, "_law_stream.<locals>.<lambda>")]
noncomputable def TABS : List (Addr × Addr) := [(67, 63), (74, 70), (125, 121), (132, 128), (195, 191)]
noncomputable def CN_Ac : List (Str × Value) := [(Str.ofString "__module__", Value.str (Str.ofString "cpy313.email.header") 194), (Str.ofString "__firstlineno__", Value.int 6 208), (Str.ofString "__init__", Value.ref 38), (Str.ofString "push", Value.ref 45), (Str.ofString "pop_from", Value.ref 53), (Str.ofString "pop", Value.ref 61), (Str.ofString "__len__", Value.ref 68), (Str.ofString "__str__", Value.ref 75), (Str.ofString "reset", Value.ref 83), (Str.ofString "is_onlyws", Value.ref 90), (Str.ofString "part_count", Value.ref 98), (Str.ofString "__static_attributes__", Value.ref 99), (Str.ofString "__dict__", Value.ref 102), (Str.ofString "__weakref__", Value.ref 103), (Str.ofString "__doc__", Value.none)]
noncomputable abbrev C_Ac : Addr := 101
noncomputable abbrev N_Ac : Addr := 100
noncomputable abbrev M_Ac : Str → Option Value := fun x => CN_Ac.lookup x
noncomputable def CN_nl : List (Str × Value) := [(Str.ofString "__module__", Value.str (Str.ofString "cpy313.netrc") 376), (Str.ofString "__firstlineno__", Value.int 118 388), (Str.ofString "__init__", Value.ref 161), (Str.ofString "_read_char", Value.ref 168), (Str.ofString "get_token", Value.ref 175), (Str.ofString "push_token", Value.ref 182), (Str.ofString "__static_attributes__", Value.ref 183), (Str.ofString "__dict__", Value.ref 186), (Str.ofString "__weakref__", Value.ref 187), (Str.ofString "__doc__", Value.none)]
noncomputable abbrev C_nl : Addr := 185
noncomputable abbrev N_nl : Addr := 184
noncomputable abbrev M_nl : Str → Option Value := fun x => CN_nl.lookup x
structure WX (K : Wd) : Prop where
 gt : GtOk K.B GT
 md : ModB K.B
 qn : ∀ l c q, (l, c, q) ∈ QN → K.B.qn l c = some q
 tab : ∀ p ∈ TABS, p ∈ K.B.tabs
 f_Ac_init : FnB K.B a_Ac_init fd_Ac_init
 f_Ac_push : FnB K.B a_Ac_push fd_Ac_push
 f_Ac_pf : FnB K.B a_Ac_pf fd_Ac_pf
 f_Ac_pop : FnB K.B a_Ac_pop fd_Ac_pop
 f_Ac_len : FnB K.B a_Ac_len fd_Ac_len
 f_Ac_str : FnB K.B a_Ac_str fd_Ac_str
 f_Ac_reset : FnB K.B a_Ac_reset fd_Ac_reset
 f_Ac_pc : FnB K.B a_Ac_pc fd_Ac_pc
 f_d21 : FnB K.B a_d21 fd_d21
 f_d32 : FnB K.B a_d32 fd_d32
 f_i2d : FnB K.B a_i2d fd_i2d
 f_d2i : FnB K.B a_d2i fd_d2i
 f_dmp : FnB K.B a_dmp fd_dmp
 f_idm : FnB K.B a_idm fd_idm
 f_nl_init : FnB K.B a_nl_init fd_nl_init
 f_nl_rc : FnB K.B a_nl_rc fd_nl_rc
 f_nl_gt : FnB K.B a_nl_gt fd_nl_gt
 f_nl_pt : FnB K.B a_nl_pt fd_nl_pt
 f_ls : FnB K.B a_ls fd_ls
 f_lw : FnB K.B a_lw fd_lw
 f_lm : FnB K.B a_lm fd_lm
 f_lr : FnB K.B a_lr fd_lr
 f_ll : FnB K.B a_ll fd_ll
 f_law : FnB K.B a_law fd_law
 k_Ac : ClsB K.B C_Ac N_Ac [Value.type "list", Value.type "object"] "list.__new__" M_Ac
 k_nl : ClsB K.B C_nl N_nl [Value.type "object"] "object.__new__" M_nl
 low : 200 < K.B.h₀.objs.size
 cc : K.B.im 25 = some { cls := .type "cell", data := .cell (some (.ref C_Ac)) }
 pr : K.prog = PySem.Challenge.pw_sc0063_02
 cf : ∀ c ∈ [c_Ac_init, c_Ac_pop, c_Ac_pc], ∃ oc vs t, K.B.im c = some oc ∧ oc.data = .fields vs ∧ vs[2]? = some (.str K.prog.main.file t)
 stt : ∃ o f, K.B.im cStatics = some o ∧ NsObj o f ∧ f "thirdparty.any" = none
 dv : ∀ a ∈ [(30 : Addr), (46 : Addr), (76 : Addr)], ∃ o v n, K.B.im a = some o ∧ o.data = .seq #[v] n
end
end Mine
namespace Mine
section
open PySem PySem.Spec PySem.Calls PyProof.Rows PySem.W
variable {K : Wd} {A : Around} {g : Gh} {n : Nat} {env : Env}
theorem WX.qnOf (X : WX K) {l c : Nat} {q : Str} (h : (l, c, q) ∈ QN) : K.B.qn l c = some q := X.qn l c q h
theorem w_div2n1n (X : WX K) {a b m : Int} (h1 : b ≠ 0) (h2 : Builtin.divisionGoesByPylong a b = false) (h3 : (Builtin.Int.intBits a : Int) - m ≤ 4000) :
  CallSem K (n + 3) g (.ref a_d21) [.int a, .int b, .int m] (.tup [.int (a.fdiv b), .int (a.fmod b)]) := fun g _ vs hvs A r g₁ l => by
 refine E3_4 (reps3 hvs) ?_
 clear hvs; rintro va vb vm rfl ra rb rm
 refine Z14 (fn := []) (S' := []) (binds := [("a", va), ("b", vb), ("n", vm)]) (bi := [(0, .int a), (1, .int b), (2, .int m)]) X.f_d21 (r.sub (by exact Nat.le_refl _)) (Z15 (by rfl)) ok_d21 so_d21 (Z3 X.gt gi_d21)
  ⟨.inl rfl, ra.le l, .inl rfl, rb.le l, .inl rfl, rm.le l, trivial⟩ (n := n + 1) fun A' L cells cs g' r' H => ?_
 have lH := H.le
 refine gx_if (v := decide ((Builtin.Int.intBits a : Int) - m ≤ 4000)) r' ?_ ?_ ?_
 ·exact Z30 (Z8 (Z71 F.plainAttrs_int F.slot_int_bit_length F.type_int_bit_length (pn H 0) Z5 Z100) (pn H 2) Z155) (pe_rawint (pn H 11)) op_le
 ·intro _ g' l'
  refine Z46 r' (Z73 (pn (H.up l') 12) (by intro a z; cases z) (Z2 (pn (H.up l') 0) (Z2 (pn (H.up l') 1) Z5)) (cs_divmod h1 h2)) fun v g'' l'' hr => ?_
  exact ⟨lH.trans (l'.trans l''), hr⟩
 ·intro hv; simp [h3] at hv
noncomputable def digsD (n x k : Nat) : List D := (List.range k).map fun i => .int (dig n x i)
theorem Z54 (n x k : Nat) : (digsD n x k).length = k := by simp [digsD]
theorem digsD_split {n x j k : Nat} (h : j ≤ k) : digsD n (x % 2 ^ (j * n)) j ++ digsD n (x / 2 ^ (j * n)) (k - j) = digsD n x k := by
 unfold digsD
 apply List.ext_getElem (by simp; lia)
 intro i h1 h2
 simp at h2
 rw [List.getElem_append]
 split
 ·rename_i hi; simp at hi
  simp [dig_low hi]
 ·rename_i hi; simp at hi
  simp only [List.getElem_map, List.getElem_range, dig_high, List.length_map, List.length_range]
  have : j + (i - j) = i := by lia
  rw [this]
theorem shr_nat (a s : Nat) : (a : Int).fdiv (2 ^ ((s : Int)).toNat) = ((a / 2 ^ s : Nat) : Int) := by
 rw [Int.toNat_natCast]
 have : ((2 : Int) ^ s) = ((2 ^ s : Nat) : Int) := by push_cast; rfl
 rw [this]
 rw [Int.fdiv_eq_ediv_of_nonneg _ (Int.natCast_nonneg _)]
 exact (Int.natCast_ediv _ _).symm
theorem shl_nat (a s : Nat) : (a : Int) * 2 ^ ((s : Int)).toNat = ((a * 2 ^ s : Nat) : Int) := by
 rw [Int.toNat_natCast]; push_cast; rfl
noncomputable def fdInner (cl : List (Str × Addr)) (c' : Addr) (pm ct : Value) : FuncData := nestFd "inner" q_i2d_inner (paramsOf st_i2d_inner) (.stmts (bodyOf st_i2d_inner)) (scopeOf st_i2d_inner) cl c' pm ct
noncomputable def sgI (m : Nat) (ad ai : Addr) : List (Option D) := [none, none, none, none, none, none, none, some (.raw (.ref ad)), some (.raw (.ref ai)), some (.int m)]
theorem sgI_eq (m : Nat) (ad ai : Addr) : sgI m ad ai = srcSt [none, some (.int m), some (.raw (.ref ad)), some (.raw (.ref ai)), none] (mkSrcs GT sr_i2d_inner) := rfl
theorem w_i2d_inner (X : WX K) {ai ad : Addr} {cl : List (Str × Addr)} {c' : Addr} {pm ct : Value} {m : Nat} (hm : 1 ≤ m) : ∀ (k : Nat) (x L : Nat) (g : Gh) (A : Around) (ds : List D) (its : Array Value) (mm : Nat) (vs : List Value),
  1 ≤ k → x < 2 ^ (m * k) → m * k ≤ 64 → L + k ≤ ds.length → L + k < 2 ^ 40 → Room A (4 * k + 4) → FnAt g ai (fdInner cl c' pm ct) → ClosOk (scopeOf st_i2d_inner).names cl (sgI m ad ai) g → g.mu ad = some (sq "list" its mm) → ai ≠ ad → Reps g.im ds its.toList → Reps g.im [.int x, .int L, .int (L + k : Nat)] vs →
  gwp K A (call (.ref ai) vs) (fun v g' => v = .none ∧ LeX [ad] g g' ∧ ∃ its' mm', g'.mu ad = some (sq "list" its' mm') ∧ Reps g'.im (putD ds L (digsD m x k)) its'.toList) g := by
 intro k
 induction k using Nat.strongRecOn with
 | _ k ih =>
 intro x L g A ds its mm vs hk hx h64 hL h40 r hf hcl had hne hds hvs
 refine E3_4 (reps3 hvs) ?_
 rintro vx vL vR rfl rx rL rR
 refine Z185 (n := 4 * k + 2) (σ := sgI m ad ai) (fn := []) (S' := []) (binds := [("x", vx), ("L", vL), ("R", vR)]) (bi := [(0, .int x), (1, .int L), (2, .int (L + k : Nat))]) r hf rfl (Z15 (by rfl)) Z113
  (by rw [sgI_eq]; exact Z49 Z86) (by rw [sgI_eq]; exact Z66 Z86 (Z3 X.gt gi_i2d_inner)) hcl
  ⟨.inl rfl, rx, .inl rfl, rL, .inl rfl, rR, trivial⟩ (fun A' L' cells cs g' r' hL1 hL2 hcs H => ?_)
 have l0 := H.le
 have hnl : ad ∉ L' :: cs := fun hm' => by
  rcases List.mem_cons.mp hm' with rfl | hm'
  ·cases ((hL1).symm.trans had)
  ·cases (((hcs _ hm').1).symm.trans had)
 replace H := (H.may (S'' := [ad]) (by simp)).adopt' (ms := [(ad, MO.list ds)]) (fun p hp => by simp at hp; subst hp; exact ⟨_, Le.at l0 had, its, mm, rfl, hds.mono l0.im⟩) (by simp) (fun a ha => by
  simp at ha; subst ha
  rw [List.map_nil, List.append_nil]; exact hnl) (by simp)
 change gwp K A' (execs (bodyOf st_i2d_inner) (fnEnv (fdInner cl c' pm ct) ai L' cells)) _ g'
 have up : ∀ g'', LeX [ad] g g'' → (∃ o, g''.mu ad = some o) → FnAt g'' ai (fdInner cl c' pm ct) ∧ ClosOk (scopeOf st_i2d_inner).names cl (sgI m ad ai) g'' := fun g'' l he => by
  refine ⟨hf.up l (fun a ha => ?_), hcl.up l (fun a ha => .inr fun o w e => ?_) fun p hp => ?_⟩
  ·simp at ha; subst ha
   exact ⟨Ne.symm hne, fun o e vs => by cases ((had).symm.trans e); intro z; cases z⟩
  ·simp at ha; subst ha
   cases ((had).symm.trans e); intro z; cases z
  ·refine E1_1 (hcl.has p hp) fun o ho => ?_
   by_cases hpa : p.2 = ad
   ·rw [hpa]; obtain ⟨o, ho⟩ := he; exact ⟨o, .inr ho⟩
   ·exact ⟨o, ho.imp (l.im _ _) (l.mu _ _ (by simpa using hpa))⟩
 refine gx_if (v := ((L : Int) + 1 == ((L + k : Nat) : Int))) r' (Z30 (Z8 (pn H 1) Z11 Z32) (pn H 2) op_eq) ?_ ?_
 ·intro hv g₁ l₁
  have hk1 : k = 1 := by simp at hv; lia
  subst hk1
  replace H := H.up l₁
  refine Z10 (Z176 ((pn H 0).use r' fun v g₂ l₂ rv => (pn (H.up l₂) 7).useR r' fun g₃ l₃ => (pn (H.up (l₂.trans l₃)) 1).use r' fun iv g₄ l₄ ri => ?_))
  refine E1_1 (Z24 ri) ?_
  rintro t rfl
  replace H := H.up (l₂.trans (l₃.trans l₄))
  obtain ⟨o, e1, its₁, m₁, rfl, hr⟩ := H.own1
  have hsz : its₁.size = ds.length := by rw [← Array.length_toList, hr.length]
  refine gwp_setItem e1 (by lia) (by lia) fun m' => ?_
  have H' := H.setList (m' := m') (hr.setA L (rv.le (l₃.trans l₄)))
  refine Z10 (st_ret_none ?_)
  refine ⟨rfl, H'.le, _, _, Gh.setMu_self, ?_⟩
  obtain ⟨o, e2, its₂, m₂, e3, hr₂⟩ := H'.own1
  cases ((Gh.setMu_self).symm.trans e2); cases e3
  have : digsD m x 1 = [.int x] := by
   have h0 : dig m x 0 = x := by
    unfold dig
    rw [Nat.mul_zero, Nat.pow_zero, Nat.div_one, Nat.mod_eq_of_lt (by lia)]
   simp [digsD, h0]
  rw [this, putD_one (by assumption)]
  exact hr₂
 ·intro hv g₁ l₁
  have hk2 : 2 ≤ k := by simp at hv; lia
  replace H := H.up l₁
  refine Z57 ?_
  obtain ⟨j, hj⟩ : ∃ j, j = k / 2 := ⟨_, rfl⟩
  have hj1 : 1 ≤ j := by lia
  have hjk : j < k := by lia
  have hmj : m * j ≤ 64 := Nat.le_trans (Nat.mul_le_mul_left m (by exact Nat.le_of_lt ‹_›)) h64
  have hmk : m * j + m * (k - j) = m * k := by rw [← Nat.mul_add]; congr 1; lia
  refine Z88 H r' (i := 3) (d := .int (L + j : Nat)) rfl ((Z8 (Z8 (pn H 1) (pn H 2) Z32) Z11 (op_shr (by decide))).is ?_) fun g₂ l₂ H => ?_
  ·have := shr_nat (L + (L + k)) 1
   congr 1
   have e : ((L : Int) + ((L + k : Nat) : Int)) = ((L + (L + k) : Nat) : Int) := by push_cast; rfl
   rw [e]
   refine this.trans ?_
   congr 1
   lia
  refine Z88 H r' (i := 4) (d := .int (j * m : Nat)) rfl ((Z8 (Z8 (pn H 3) (pn H 1) Z155) (pn H 9) (Z224 (IntMulOk.of_left ?_))).is ?_) fun g₃ l₃ H => ?_
  ·have e : (((L + j : Nat) : Int) - (L : Int)) = ((j : Nat) : Int) := by lia
   rw [e]
   exact Z118 (Nat.lt_of_lt_of_le Nat.lt_two_pow_self (Nat.pow_le_pow_right (by exact Nat.le_add_left _ _) (by have := Nat.le_mul_of_pos_left j hm; lia)))
  ·congr 1
   have e : (((L + j : Nat) : Int) - (L : Int)) = ((j : Nat) : Int) := by lia
   rw [e]; push_cast; rfl
  refine Z88 H r' (i := 5) (d := .int (x / 2 ^ (j * m) : Nat)) rfl ((Z8 (pn H 0) (pn H 4) (op_shr (by lia))).is (by rw [shr_nat])) fun g₄ l₄ H => ?_
  have hup : x / 2 ^ (j * m) < 2 ^ (m * (k - j)) := by
   refine Nat.div_lt_of_lt_mul ?_
   rw [← Nat.pow_add, show j * m + m * (k - j) = m * k by rw [← hmk, Nat.mul_comm]]
   exact hx
  refine Z88 H r' (i := 6) (d := .int (x % 2 ^ (j * m) : Nat)) rfl ((Z8 (pn H 0) (Z8 (pn H 5) (pn H 4) (op_shl (by lia) ?_ ?_)) op_xor).is ?_) fun g₅ l₅ H => ?_
  ·have : j * m ≤ 64 := by rw [Nat.mul_comm]; exact hmj
   lia
  ·rw [Int.natAbs_natCast]
   exact Nat.lt_of_lt_of_le hup (Nat.pow_le_pow_right (by exact Nat.le_add_left _ _) (by lia))
  ·rw [Int.toNat_natCast, xor_high]
  obtain ⟨o, e1, its₁, m₁, rfl, hr⟩ := H.own1
  refine E0_2 (up g₅ H.le ⟨_, e1⟩) fun hf₁ hcl₁ => ?_
  refine Z10 (Z92 (Z244 r' (pn H 8) hf₁ (Z2 (pn H 6) (Z2 (pn H 1) (Z2 (pn H 3) Z5))) fun vs g₆ l₆ rs => ?_) H.inter)
  refine Z9 (ih j hjk (x % 2 ^ (j * m)) L g₆ A' ds its₁ m₁ vs hj1 (by rw [Nat.mul_comm m j]; exact Nat.mod_lt _ (Nat.pow_pos (by exact Nat.le_add_left _ _))) hmj (by lia) (by lia) (r'.sub (by lia)) (hf₁.le l₆) (hcl₁.le l₆) (Le.at l₆ e1) hne (hr.mono l₆.im) rs) fun v g₇ z₀ => E0_3 z₀ fun hv0 l₇ v00 => E2_2 v00 fun its₂ m₂ e2 hr₂ => ?_
  subst hv0
  refine ⟨(fun a z => by cases z), ?_⟩
  have H₇ := (H.up l₆).adv1 (m' := MO.list (putD ds L (digsD m (x % 2 ^ (j * m)) j))) l₇ ⟨_, e2, its₂, m₂, rfl, hr₂⟩ MO.list_cell
  refine E0_2 (up g₇ H₇.le ⟨_, e2⟩) fun hf₂ hcl₂ => ?_
  have hlen : (putD ds L (digsD m (x % 2 ^ (j * m)) j)).length = ds.length := putD_length (by rw [Z54]; lia)
  refine Z10 (Z92 (Z244 r' (pn H₇ 8) hf₂ (Z2 (pn H₇ 5) (Z2 (pn H₇ 3) (Z2 (pn H₇ 2) Z5))) fun vs g₈ l₈ rs => ?_) H₇.inter)
  have hLk : L + k = L + j + (k - j) := by lia
  rw [hLk] at rs
  refine Z9 (ih (k - j) (by lia) (x / 2 ^ (j * m)) (L + j) g₈ A' _ its₂ m₂ vs (by lia) hup (by lia) (by rw [hlen]; lia) (by lia) (r'.sub (by lia)) (hf₂.le l₈) (hcl₂.le l₈) (Le.at l₈ e2) hne (hr₂.mono l₈.im) rs) fun v g₉ z₀ => E0_3 z₀ fun hv0 l₉ v00 => E2_2 v00 fun its₃ m₃ e3 hr₃ => ?_
  subst hv0
  refine ⟨(fun a z => by cases z), Z43 ⟨rfl, ?_, its₃, m₃, e3, ?_⟩⟩
  ·exact (H₇.le.trans (LeX.of l₈)).trans l₉
  ·have := putD_put (ds := ds) (v := digsD m (x % 2 ^ (j * m)) j) (w := digsD m (x / 2 ^ (j * m)) (k - j)) (L := L) (by rw [Z54]; lia)
   rw [Z54, digsD_split (by exact Nat.le_of_lt ‹_›)] at this
   rw [this] at hr₃
   exact hr₃
theorem Z136 : (("_int2digits" : Str) ++ ".<locals>.") ++ "inner" = q_i2d_inner := by decide +kernel
theorem w_int2digits (X : WX K) {a m : Nat} (hm : 1 ≤ m) (hm2 : m ≤ 60) (ha : a < 2 ^ 60) (hk : m * nd m a ≤ 64) : CallSem K (n + 270) g (.ref a_i2d) [.int a, .int m] (.lst (digsD m a (nd m a))) := fun g _ vs hvs A r g₁ l => by
 refine E2_3 (reps2 hvs) ?_
 rintro va vm rfl ra rm
 have hnd : nd m a ≤ 60 := nd_le hm ha
 refine Z14 (fn := [1, 2, 3]) (S' := []) (binds := [("a", va), ("n", vm)]) (bi := [(0, .int a), (1, .int m)]) X.f_i2d (r.sub (Nat.le_refl _)) (Z15 (by rfl)) ok_i2d so_i2d (Z3 X.gt gi_i2d)
  ⟨.inl rfl, ra.le l, .inr ⟨rfl, by decide⟩, rm.le l, trivial⟩ (n := n + 268) fun A' L cells cs g' r' H => ?_
 refine Z10 (Z34 (gwp_BinOp ((Z179 (Z2 Z11 Z5)).use r' fun v g₂ l₂ rv => ?_)))
 refine gwp_pe (.int (nd m a : Nat)) ((Z8 (Z8 (Z8 (Z71 F.plainAttrs_int F.slot_int_bit_length F.type_int_bit_length (pn (H.up l₂) 0) Z5 Z100) (pn (H.up l₂) 1) Z32) Z11 Z155) (pn (H.up l₂) 1) (op_div (by lia) (PyProof.noPylong_small (by lia)))).is ?_) r' fun v2 g₃ l₃ rv2 => ?_
 ·
  congr 1
  have e : (((Builtin.Int.intBits (a : Int) : Nat) : Int) + (m : Int) - 1) = ((Builtin.Int.intBits (a : Int) + m - 1 : Nat) : Int) := by lia
  rw [e, Int.fdiv_eq_ediv_of_nonneg _ (Int.natCast_nonneg _)]
  exact (Int.natCast_ediv _ _).symm
 refine E1_1 (Z24 rv2) ?_
 rintro t rfl
 refine gwp_lmulMu (rv.le l₃) (by lia) (by lia) (by simp; lia) fun ad its h1 h2 hr => ?_
 have H₃ := (H.up (l₂.trans l₃)).addOwn (a := ad) (m := MO.list (List.replicate (nd m a) (.int 0))) (o := sq "list" its 0) ⟨its, 0, rfl, by simpa [List.flatten_replicate_singleton] using hr⟩ h2 (Le.nomu (H.le.trans (l₂.trans l₃)) h2)
 refine H₃.storeCell (i := 2) rfl (by decide) (d := .raw (.ref ad)) Z27 fun g₄ l₄ H => ?_
 refine gx_def (src := mkSrcs GT sr_i2d_inner) (c := c_i2d) (P := 121) (i := 3) (q := q_i2d_inner) X.md H rfl (.inr ⟨rfl, by decide⟩) Z113 Z86 rfl (X.tab _ (by decide)) (X.qnOf (by decide +kernel)) Z136 (by rfl) fun ai fdi g₅ c' pm ct hfd hfn l₅ H => ?_
 refine gx_if (v := ((a : Int) != 0)) r' (Z271 (pn H 0) truth_int) ?_ ?_
 ·intro hv g₆ l₆
  have ha0 : a ≠ 0 := by lia
  replace H := H.up l₆
  have hnd1 := nd_pos hm ha0
  obtain ⟨o, e1, its₁, m₁, rfl, hr⟩ := H.own1
  have hsz : its₁.size = nd m a := by rw [← Array.length_toList, hr.length, List.length_replicate]
  have hcl : ClosOk (scopeOf st_i2d_inner).names (closOf (newEnv (scopeOf st_i2d) L mainGlobals cells ("_int2digits" ++ ".<locals>.") (some a_i2d) (.ref c_i2d) none builtinsNs).cells (scopeOf st_i2d_inner).names []) (sgI m ad ai) g₆ := (H.clos Z113 Z86).2
  refine Z10 (Z92 (Z244 r' (pn H 3) (hfn.le l₆) (Z2 (pn H 0) (Z2 Z11 (Z2 (Z73 (pn H 4) (by intro a z; cases z) (Z2 (pn H 2) Z5) (cs_len_mu e1 (by lia))) Z5))) fun vs g₇ l₇ rs => ?_) H.inter)
  replace H := H.up l₇
  refine Z103 fun z₀ => E1_1 z₀ fun s ok => ?_
  have hne : ai ≠ ad := (hfn.le (l₆.trans l₇)).ne ok (Le.at l₇ e1) (fun fd z => by cases z)
  subst hfd
  refine Z9 (w_i2d_inner X hm (nd m a) a 0 g₇ A' (List.replicate (nd m a) (.int 0)) its₁ m₁ vs hnd1 (lt_nd hm) hk (by simp) (by lia) (r'.sub (by lia)) (hfn.le (l₆.trans l₇)) (hcl.le l₇) (Le.at l₇ e1) hne (hr.le l₇) (by simpa [hsz] using rs)) fun v g₈ z₀ => E0_3 z₀ fun hv0 l₈ v00 => E2_2 v00 fun its₂ m₂ e2 hr₂ => ?_
  subst hv0
  refine ⟨(fun a z => by cases z), ?_⟩
  rw [putD_all (by rw [Z54, List.length_replicate])] at hr₂
  have H₈ := H.adv1 (m' := MO.list (digsD m a (nd m a))) l₈ ⟨_, e2, its₂, m₂, rfl, hr₂⟩ MO.list_cell
  refine Z57 (Z214 H₈ fun g₉ l₉ H₉ hr₉ => ?_)
  refine Z46 r' (pn H₉ 2) fun v g₁₀ l₁₀ hv => ?_
  have := Z22 hv; subst this
  exact ⟨H₉.le.trans l₁₀, hr₉.le l₁₀⟩
 ·intro hv g₆ l₆
  refine Z57 ?_
  have ha0 : a = 0 := by lia
  subst ha0
  rw [nd_zero hm] at H
  refine Z214 (H.up l₆) fun g₉ l₉ H₉ hr₉ => ?_
  refine Z46 r' (pn H₉ 2) fun v g₁₀ l₁₀ hv => ?_
  have := Z22 hv; subst this
  rw [nd_zero hm]
  exact ⟨H₉.le.trans l₁₀, hr₉.le l₁₀⟩
noncomputable def numsD (f : Nat → Nat) (N : Nat) : List D := (List.range N).map fun i => .int (f i)
theorem Z53 (f : Nat → Nat) (N : Nat) : (numsD f N).length = N := by simp [numsD]
theorem numsD_at {f : Nat → Nat} {N i : Nat} (h : i < N) : atInt (numsD f N) (i : Int) = some (.int (f i)) := by rw [atInt_nonneg]; simp [numsD, h]
noncomputable def sgJ (f : Nat → Nat) (N m : Nat) (ai : Addr) : List (Option D) := [none, none, none, none, some (.lst (numsD f N)), some (.raw (.ref ai)), some (.int m)]
theorem sgJ_eq (f : Nat → Nat) (N m : Nat) (ai : Addr) : sgJ f N m ai = srcSt [some (.lst (numsD f N)), some (.int m), some (.raw (.ref ai)), none] (mkSrcs GT sr_d2i_inner) := rfl
noncomputable def fdInner2 (cl : List (Str × Addr)) (c' : Addr) (pm ct : Value) : FuncData := nestFd "inner" q_d2i_inner (paramsOf st_d2i_inner) (.stmts (bodyOf st_d2i_inner)) (scopeOf st_d2i_inner) cl c' pm ct
theorem w_d2i_inner (X : WX K) {ai : Addr} {cl : List (Str × Addr)} {c' : Addr} {pm ct : Value} {m N : Nat} {f : Nat → Nat} (hm : 1 ≤ m) (hN : m * N ≤ 10000) (hb : ∀ L k, L + k ≤ N → seg m f L k < 2 ^ 64) : ∀ (k L : Nat) (g : Gh),
  1 ≤ k → L + k ≤ N → FnAt g ai (fdInner2 cl c' pm ct) → ClosOk (scopeOf st_d2i_inner).names cl (sgJ f N m ai) g → CallSem K (4 * k + 4) g (.ref ai) [.int L, .int (L + k : Nat)] (.int (seg m f L k)) := by
 intro k
 induction k using Nat.strongRecOn with
 | _ k ih =>
 intro L g₀ hk hL hf hcl g l₀ vs hvs A r g₁ l
 refine E2_3 (reps2 hvs) ?_
 rintro vL vR rfl rL rR
 have hmN : N ≤ m * N := Nat.le_mul_of_pos_left N hm
 refine Z185 (n := 4 * k + 2) (σ := sgJ f N m ai) (fn := []) (S' := []) (binds := [("L", vL), ("R", vR)]) (bi := [(0, .int L), (1, .int (L + k : Nat))]) r (hf.le (l₀.trans l)) rfl (Z15 (by rfl)) Z114
  (by rw [sgJ_eq]; exact Z49 Z87) (by rw [sgJ_eq]; exact Z66 Z87 (Z3 X.gt gi_d2i_inner)) (hcl.le (l₀.trans l))
  ⟨.inl rfl, rL.le l, .inl rfl, rR.le l, trivial⟩ (fun A' L' cells cs g' r' hL1 hL2 hcs H => ?_)
 have lH := H.le
 have hf' : FnAt g' ai (fdInner2 cl c' pm ct) := hf.le ((l₀.trans l).trans lH)
 have hcl' := hcl.le ((l₀.trans l).trans lH)
 change gwp K A' (execs (bodyOf st_d2i_inner) (fnEnv (fdInner2 cl c' pm ct) ai L' cells)) _ g'
 refine gx_if (v := ((L : Int) + 1 == ((L + k : Nat) : Int))) r' (Z30 (Z8 (pn H 0) Z11 Z32) (pn H 1) op_eq) ?_ ?_
 ·intro hv g₂ l₂
  have hk1 : k = 1 := by simp at hv; lia
  subst hk1
  refine Z46 r' (Z63 (pn (H.up l₂) 4) (pn (H.up l₂) 0) (numsD_at (by assumption)) (by rw [Z53]; lia)) fun v g₃ l₃ hv => ?_
  exact ⟨lH.trans (l₂.trans l₃), by simpa [seg] using hv⟩
 ·intro hv g₂ l₂
  have hk2 : 2 ≤ k := by simp at hv; lia
  replace H := H.up l₂
  refine Z57 ?_
  obtain ⟨j, hj⟩ : ∃ j, j = k / 2 := ⟨_, rfl⟩
  have hj1 : 1 ≤ j := by lia
  have hjk : j < k := by lia
  have hmj : m * j ≤ 10000 := Nat.le_trans (Nat.mul_le_mul_left m (by lia)) hN
  refine Z88 H r' (i := 2) (d := .int (L + j : Nat)) rfl ((Z8 (Z8 (pn H 0) (pn H 1) Z32) Z11 (op_shr (by decide))).is ?_) fun g₃ l₃ H => ?_
  ·have := shr_nat (L + (L + k)) 1
   congr 1
   have e : ((L : Int) + ((L + k : Nat) : Int)) = ((L + (L + k) : Nat) : Int) := by push_cast; rfl
   rw [e]
   refine this.trans ?_
   congr 1
   lia
  refine Z88 H r' (i := 3) (d := .int (j * m : Nat)) rfl ((Z8 (Z8 (pn H 2) (pn H 0) Z155) (pn H 6) (Z224 (IntMulOk.of_left ?_))).is ?_) fun g₄ l₄ H => ?_
  ·have e : (((L + j : Nat) : Int) - (L : Int)) = ((j : Nat) : Int) := by lia
   rw [e]
   have hjl : j ≤ m * j := Nat.le_mul_of_pos_left j hm
   exact Z118 (Nat.lt_of_lt_of_le (show j < 2 ^ 14 by lia) (Nat.pow_le_pow_right (by exact Nat.le_add_left _ _) (by exact Nat.le_add_left _ _)))
  ·congr 1
   have e : (((L + j : Nat) : Int) - (L : Int)) = ((j : Nat) : Int) := by lia
   rw [e]; push_cast; rfl
  have l₂₄ : Le g₁ g₄ := H.le
  have hf₄ : FnAt g₄ ai (fdInner2 cl c' pm ct) := hf.le ((l₀.trans l).trans l₂₄)
  have hcl₄ := hcl.le ((l₀.trans l).trans l₂₄)
  have c1 : CallSem K (4 * k + 2) g₄ (.ref ai) [.int (L + j : Nat), .int (L + k : Nat)] (.int (seg m f (L + j) (k - j))) := by
   have := (ih (k - j) (by lia) (L + j) g₄ (by lia) (by lia) hf₄ hcl₄).room (m := 4 * k + 2) (by lia)
   rw [show L + j + (k - j) = L + k by lia] at this
   exact this
  have c2 := (ih j hjk L g₄ hj1 (by lia) hf₄ hcl₄).room (m := 4 * k + 2) (by lia)
  refine Z46 r' ((Z8 (Z8 (Z213 (pn H 5) hf₄ (Z2 (pn H 2) (Z2 (pn H 1) Z5)) c1) (pn H 3) (op_shl (by lia) ?_ ?_)) (Z213 (pn H 5) hf₄ (Z2 (pn H 0) (Z2 (pn H 2) Z5)) c2) Z32).is (d' := .int (seg m f L k)) ?_) fun v g₅ l₅ hv => ⟨l₂₄.trans l₅, hv⟩
  ·have : j * m ≤ 10000 := by rw [Nat.mul_comm]; exact hmj
   lia
  ·rw [Int.natAbs_natCast]; exact hb _ _ (by lia)
  ·rw [shl_nat]
   have := Z151 m f j L (k - j)
   rw [show j + (k - j) = k by lia] at this
   rw [this, Nat.mul_comm (2 ^ (j * m))]
   congr 1
   push_cast
   lia
theorem Z137 : (("_digits2int" : Str) ++ ".<locals>.") ++ "inner" = q_d2i_inner := by decide +kernel
theorem w_digits2int (X : WX K) {m N : Nat} {f : Nat → Nat} (hm : 1 ≤ m) (hN : m * N ≤ 64) (hb : ∀ L k, L + k ≤ N → seg m f L k < 2 ^ 64) : CallSem K (n + 270) g (.ref a_d2i) [.lst (numsD f N), .int m] (.int (seg m f 0 N)) := fun g _ vs hvs A r g₁ l => by
 refine E2_3 (reps2 hvs) ?_
 rintro vd vm rfl rd rm
 have hmN : N ≤ m * N := Nat.le_mul_of_pos_left N hm
 refine Z14 (fn := [0, 1, 2]) (S' := []) (binds := [("digits", vd), ("n", vm)]) (bi := [(0, .lst (numsD f N)), (1, .int m)]) X.f_d2i (r.sub (Nat.le_refl _)) (Z15 (by rfl)) ok_d2i so_d2i (Z3 X.gt gi_d2i)
  ⟨.inr ⟨rfl, by decide⟩, rd.le l, .inr ⟨rfl, by decide⟩, rm.le l, trivial⟩ (n := n + 268) fun A' L cells cs g' r' H => ?_
 refine gx_def (src := mkSrcs GT sr_d2i_inner) (c := c_d2i) (P := 128) (i := 2) (q := q_d2i_inner) X.md H rfl (.inr ⟨rfl, by decide⟩) Z114 Z87 rfl (X.tab _ (by decide)) (X.qnOf (by decide +kernel)) Z137 (by rfl) fun ai fdi g₅ c' pm ct hfd hfn l₅ H => ?_
 have hcl : ClosOk (scopeOf st_d2i_inner).names (closOf (newEnv (scopeOf st_d2i) L mainGlobals cells ("_digits2int" ++ ".<locals>.") (some a_d2i) (.ref c_d2i) none builtinsNs).cells (scopeOf st_d2i_inner).names []) (sgJ f N m ai) g₅ := (H.clos Z114 Z87).2
 subst hfd
 refine Z46 r' (d := .int (seg m f 0 N)) (pe_if (v := !(numsD f N).isEmpty) (Z271 (pn H 0) (truth_lst (by rw [Z53]; lia))) (fun hv => ?_) (fun hv => ?_)) fun v g₆ l₆ hv => ⟨H.le.trans l₆, hv⟩
 ·have hN1 : 1 ≤ N := by
   rw [Bool.not_eq_true', List.isEmpty_eq_false_iff, ← List.length_pos_iff, Z53] at hv
   exact hv
  have c1 := (w_d2i_inner X hm (by lia) hb N 0 g₅ hN1 (by lia) hfn hcl).room (m := n + 268) (by lia)
  rw [Nat.zero_add] at c1
  refine Z213 (pn H 2) hfn (Z2 Z11 (Z2 ((Z73 (pn H 3) (by intro a z; cases z) (Z2 (pn H 0) Z5) (Z127 (by rw [Z53]; lia))).is (by rw [Z53])) Z5)) c1
 ·have hN0 : N = 0 := by
   rw [Bool.not_eq_false', List.isEmpty_iff, ← List.length_eq_zero_iff, Z53] at hv
   exact hv
  subst hN0
  exact Z11
theorem nd_mul {m a : Nat} (hm : 1 ≤ m) : m * nd m a ≤ Builtin.Int.intBits (a : Int) + m - 1 := by
 exact Nat.mul_div_le _ _
theorem digsD_rev (m a t : Nat) : (digsD m a (t + 1)).reverse = .int (dig m a t) :: (digsD m a t).reverse := by
 simp [digsD, List.range_succ]
noncomputable def quotD (m a b N t : Nat) : List D := (List.range (N - t)).map fun i => .int (qd m a b (N - 1 - i))
theorem quotD_step {m a b N t : Nat} (h : t < N) : quotD m a b N t = quotD m a b N (t + 1) ++ [.int (qd m a b t)] := by
 delta quotD
 have : N - t = (N - (t + 1)) + 1 := by lia
 rw [this, List.range_succ, List.map_append]
 simp only [List.map_cons, List.map_nil]
 have e : N - 1 - (N - (t + 1)) = t := by lia
 rw [e]
theorem quotD_rev (m a b N : Nat) : (quotD m a b N 0).reverse = numsD (qd m a b) N := by
 delta quotD numsD
 apply List.ext_getElem
 ·simp
 ·intro i h1 h2
  simp at h1 h2
  simp only [List.getElem_reverse, List.getElem_map, List.getElem_range, List.length_map, List.length_range]
  have : N - 1 - (N - 0 - 1 - i) = i := by lia
  rw [this]
theorem w_divmod_pos (X : WX K) {a b : Nat} (ha : a < 2 ^ 48) (hb : 1 ≤ b) (hb2 : b < 2 ^ 16) : CallSem K (n + 280) g (.ref a_dmp) [.int a, .int b] (.tup [.int (a / b : Nat), .int (a % b : Nat)]) := fun g _ vs hvs A r g₁ l => by
 refine E2_3 (reps2 hvs) ?_
 rintro va vb rfl ra rb
 obtain ⟨m, hmd⟩ : ∃ m, m = Builtin.Int.intBits (b : Int) := ⟨_, rfl⟩
 have hm1 : 1 ≤ m := hmd ▸ bits_pos (by exact Nat.ne_of_gt ‹_›)
 have hm16 : m ≤ 16 := hmd ▸ Z118 hb2
 have hbm : b < 2 ^ m := hmd ▸ bits_lt b
 obtain ⟨N, hNd⟩ : ∃ N, N = nd m a := ⟨_, rfl⟩
 have hmN : m * N ≤ 63 := by
  have := nd_mul (a := a) hm1
  have h2 := Z118 ha
  rw [hNd]; lia
 have hNm : N ≤ m * N := Nat.le_mul_of_pos_left N hm1
 have hbig : a / 2 ^ (m * N) = 0 := Nat.div_eq_of_lt (hNd ▸ lt_nd hm1)
 refine Z14 (fn := []) (S' := []) (binds := [("a", va), ("b", vb)]) (bi := [(0, .int a), (1, .int b)]) X.f_dmp (r.sub (Nat.le_refl _)) (Z15 (by rfl)) ok_dmp so_dmp (Z3 X.gt gi_dmp)
  ⟨.inl rfl, ra.le l, .inl rfl, rb.le l, trivial⟩ (n := n + 278) fun A' L cells cs g' r' H => ?_
 refine Z88 H r' (i := 2) (d := .int m) rfl ((Z71 F.plainAttrs_int F.slot_int_bit_length F.type_int_bit_length (pn H 1) Z5 Z100).is (by rw [hmd])) fun g₂ l₂ H => ?_
 refine Z88 H r' (i := 3) (d := .lst (digsD m a N)) rfl ((Z45 (pn H 9) X.f_i2d (Z2 (pn H 0) (Z2 (pn H 2) Z5)) ((w_int2digits X (n := 0) (a := a) (m := m) hm1 (by lia) (by lia) (by rw [← hNd]; lia)).room (by exact Nat.le_add_left _ _))).is (by rw [hNd])) fun g₃ l₃ H => ?_
 refine Z88 H r' (i := 4) (d := .int (a / 2 ^ (m * N) % b : Nat)) rfl (Z11.is (by rw [hbig, Nat.zero_mod]; rfl)) fun g₄ l₄ H => ?_
 refine Z276 H r' (i := 5) rfl Z5 (by decide) fun aq g₅ l₅ hq H => ?_
 let S0 : Nat → List (Option D) := fun t => [some (.int a), some (.int b), some (.int m), some (.lst (digsD m a N)), some (.int (a / 2 ^ (m * t) % b : Nat)), some (.raw (.ref aq)), none, none, none, some (.raw (.ref a_i2d)), some (.raw (.type "reversed")), some (.raw (.ref a_d21)), some (.raw (.ref a_d2i))]
 refine Z143 (X := Unit) H (fun rest _ => S0 rest.length) (fun rest _ => [(aq, MO.list (quotD m a b N rest.length))]) (fun rest _ => rest.length ≤ N ∧ rest = (digsD m a rest.length).reverse) (ds := (digsD m a N).reverse) () r' (pim_reversed (pn H 10) (pn H 3)) ?_ ?_ ?_ ?_
 ·have hl : (digsD m a N).reverse.length = N := by simp [Z54]
  rw [hl]
  have hq : quotD m a b N N = [] := by simp [quotD]
  rw [hq]
  exact H.lessL (by repeat (first | exact trivial | refine And.intro rfl ?_))
 ·simp [Z54]
 ·intro d rest x ms g v ⟨hP1, hP2⟩ H rv
  obtain ⟨t, ht⟩ : ∃ t, t = rest.length := ⟨_, rfl⟩
  rw [List.length_cons, ← ht] at hP1 hP2 H
  rw [digsD_rev] at hP2
  cases hP2
  refine Z12 (H.storeLocal (i := 6) rfl rv fun g₆ l₆ H => ?_)
  have hr0 : a / 2 ^ (m * (t + 1)) % b < b := Nat.mod_lt _ hb
  have hdg : dig m a t < 2 ^ m := Nat.mod_lt _ (Nat.pow_pos (by exact Nat.le_add_left _ _))
  have hbits : Builtin.Int.intBits ((a / 2 ^ (m * (t + 1)) % b * 2 ^ m + dig m a t : Nat) : Int) ≤ 32 := Z118 (by
   have h1 : 2 ^ m ≤ 2 ^ 16 := Nat.pow_le_pow_right (by exact Nat.le_add_left _ _) hm16
   have h2 : a / 2 ^ (m * (t + 1)) % b * 2 ^ m ≤ 2 ^ 16 * 2 ^ 16 - 2 ^ 16 := by
    have : a / 2 ^ (m * (t + 1)) % b ≤ 2 ^ 16 - 1 := by lia
    exact Nat.le_trans (Nat.mul_le_mul this h1) (by exact Nat.le_refl _)
   lia)
  refine gx_pair (d₁ := .int (qd m a b t : Nat)) (d₂ := .int (a / 2 ^ (m * t) % b : Nat)) H r' ((Z45 (pn H 11) X.f_d21 (Z2 (Z8 (Z8 (pn H 4) (pn H 2) (op_shl (by lia) (by lia) (by rw [Int.natAbs_natCast]; lia))) (pn H 6) Z32) (Z2 (pn H 1) (Z2 (pn H 2) Z5)))
   ((w_div2n1n X (n := 0) (a := (a / 2 ^ (m * (t + 1)) % b * 2 ^ m + dig m a t : Nat)) (b := (b : Int)) (m := (m : Int)) (by lia) (PyProof.noPylong_small (by lia)) (by lia)).room (by exact Nat.le_add_left _ _) |> fun z => by rw [shl_nat]; exact z)).is ?_) (Tgt.pair (Tgt.loc (i := 7) rfl) (Tgt.loc (i := 4) rfl)) fun g₇ l₇ H => ?_
  ·rw [Int.fdiv_eq_ediv_of_nonneg _ (Int.natCast_nonneg _), Int.fmod_eq_emod_of_nonneg _ (Int.natCast_nonneg _), ← Int.natCast_ediv, ← Int.natCast_emod, step_mod]
   rfl
  refine Z164 (Frm.front H) r' (pn H 5) (pn H 7) (by simp [quotD, sizeLine]; lia) fun g₈ l₈ H => ?_
  refine Z43 ⟨(), ⟨by rw [← ht]; lia, by rw [← ht]⟩, ?_⟩
  rw [← ht, quotD_step (by lia : t < N)]
  exact (Frm.back H).lessL (by repeat (first | exact trivial | refine And.intro rfl ?_))
 ·intro x g ⟨hP1, hP2⟩ H
  rw [List.length_nil] at H
  refine gx_reverse H r' (pn H 5) (by simp [quotD, sizeLine]; lia) fun g₆ l₆ H => ?_
  rw [quotD_rev] at H
  refine Z214 H fun g₇ l₇ H hr => ?_
  have hq0 : ∀ L k, L + k ≤ N → seg m (qd m a b) L k < 2 ^ 64 := fun L k hLk => by
   have h1 := seg_le2 m (qd m a b) 0 L k
   have h2 := seg_le m (qd m a b) 0 (L + k) (N - (L + k))
   rw [Nat.zero_add] at h1
   rw [show L + k + (N - (L + k)) = N by lia] at h2
   have h3 := seg_div m a hb N 0 (by rw [Nat.zero_add]; exact hbig)
   rw [h3, Nat.mul_zero, Nat.pow_zero, Nat.div_one] at h2
   have h4 : a / b ≤ a := Nat.div_le_self _ _
   lia
  have hsum : seg m (qd m a b) 0 N = a / b := by
   have h3 := seg_div m a hb N 0 (by rw [Nat.zero_add]; exact hbig)
   rw [h3, Nat.mul_zero, Nat.pow_zero, Nat.div_one]
  refine Z88 H r' (i := 8) (d := .int (a / b : Nat)) rfl ((Z45 (pn H 12) X.f_d2i (Z2 (pe_as (pn H 5) hr) (Z2 (pn H 2) Z5)) ((w_digits2int X (n := 0) hm1 (by lia) hq0).room (by exact Nat.le_add_left _ _))).is (by rw [hsum])) fun g₈ l₈ H => ?_
  refine Z46 r' (Z38 (Z2 (pn H 8) (Z2 (pn H 4) Z5))) fun v g₉ l₉ hv => ⟨H.le.trans l₉, ?_⟩
  rw [Nat.mul_zero, Nat.pow_zero, Nat.div_one] at hv
  exact hv
theorem Z208 (a : Int) (b : Nat) (hb : 1 ≤ b) (ha : a < 0) : a.fdiv b = -((-a - 1).fdiv b) - 1 ∧ a.fmod b = b + (-((-a - 1).fmod b) - 1) := by
 have hb' : (0 : Int) ≤ (b : Int) := Int.natCast_nonneg _
 rw [Int.fdiv_eq_ediv_of_nonneg _ hb', Int.fdiv_eq_ediv_of_nonneg _ hb', Int.fmod_eq_emod_of_nonneg _ hb', Int.fmod_eq_emod_of_nonneg _ hb']
 have hb0 : (b : Int) ≠ 0 := by lia
 have h1 := Int.emod_add_mul_ediv (-a - 1) b
 have h2 := Int.emod_nonneg (-a - 1) hb0
 have h3 := Int.emod_lt_of_pos (-a - 1) (by lia : (0 : Int) < b)
 have key : a / (b : Int) = -((-a - 1) / (b : Int)) - 1 ∧ a % (b : Int) = (b : Int) + (-((-a - 1) % (b : Int)) - 1) := by
  have h5 : a = (b : Int) + (-((-a - 1) % (b : Int)) - 1) + (b : Int) * (-((-a - 1) / (b : Int)) - 1) := by
   have e : (b : Int) * (-((-a - 1) / (b : Int)) - 1) = -((b : Int) * ((-a - 1) / (b : Int))) - b := by
    rw [Int.mul_sub, Int.mul_neg, Int.mul_one]
   rw [e]; lia
  generalize hR : (b : Int) + (-((-a - 1) % (b : Int)) - 1) = R at h5 ⊢
  generalize hQ : -((-a - 1) / (b : Int)) - 1 = Qq at h5 ⊢
  constructor
  ·rw [h5, Int.add_mul_ediv_left _ _ hb0, Int.ediv_eq_zero_of_lt (by lia) (by lia)]; lia
  ·rw [h5, Int.add_mul_emod_self_left, Int.emod_eq_of_lt (by lia) (by lia)]
 exact key
theorem fdiv_neg_neg' (a b : Int) : (-a).fdiv (-b) = a.fdiv b ∧ -((-a).fmod (-b)) = a.fmod b := by
 constructor
 ·exact Int.neg_fdiv_neg a b
 ·rw [Int.fmod_def, Int.fmod_def, Int.neg_fdiv_neg, Int.neg_mul]
  lia
theorem Z83 {va vb : Value} : bindArgs fd_idm ⟨[va, vb], []⟩ = pure [(Str.ofString "a", va), (Str.ofString "b", vb)] := by rfl
theorem Z148 (X : WX K) {a : Nat} {b : Nat} (ha : a < 2 ^ 48) (hb : 1 ≤ b) (hb2 : b < 2 ^ 16) : CallSem K (n + 284) g (.ref a_idm) [.int a, .int b] (.tup [.int ((a : Int).fdiv b), .int ((a : Int).fmod b)]) := fun g _ vs hvs A r g₁ l => by
 refine E2_3 (reps2 hvs) ?_
 clear hvs; rintro va vb rfl ra rb
 refine Z14 (fn := []) (S' := []) (binds := [("a", va), ("b", vb)]) (bi := [(0, .int a), (1, .int b)]) X.f_idm (r.sub (Nat.le_refl _)) (Z15 Z83) ok_idm so_idm (Z3 X.gt gi_idm)
  ⟨.inl rfl, ra.le l, .inl rfl, rb.le l, trivial⟩ (n := n + 282) fun A' L cells cs g' r' H => ?_
 refine gx_if (v := ((b : Int) == 0)) r' (Z30 (pn H 1) Z11 op_eq) (fun hv => ?_) (fun hv g₂ l₂ => ?_)
 ·have : b = 0 := by lia
  lia
 replace H := H.up l₂
 refine gx_if (v := decide ((b : Int) < 0)) r' (Z30 (pn H 1) Z11 op_lt) (fun hv => ?_) (fun hv g₃ l₃ => ?_)
 ·have := of_decide_eq_true hv; lia
 replace H := H.up l₃
 refine gx_if (v := decide ((a : Int) < 0)) r' (Z30 (pn H 0) Z11 op_lt) (fun hv => ?_) (fun hv g₄ l₄ => ?_)
 ·have := of_decide_eq_true hv; lia
 replace H := H.up l₄
 refine Z46 r' ((Z45 (pn H 6) X.f_dmp (Z2 (pn H 0) (Z2 (pn H 1) Z5)) ((w_divmod_pos X (n := 0) ha hb hb2).room (by exact Nat.le_add_left _ _))).is (d' := .tup [.int ((a : Int).fdiv b), .int ((a : Int).fmod b)]) ?_) fun v g₅ l₅ hv => ⟨H.le.trans l₅, hv⟩
 rw [Int.fdiv_eq_ediv_of_nonneg _ (Int.natCast_nonneg _), Int.fmod_eq_emod_of_nonneg _ (Int.natCast_nonneg _), ← Int.natCast_ediv, ← Int.natCast_emod]
theorem Z147 (X : WX K) {a : Int} {b : Nat} (ha : a.natAbs < 2 ^ 48) (hb : 1 ≤ b) (hb2 : b < 2 ^ 16) : CallSem K (n + 288) g (.ref a_idm) [.int a, .int b] (.tup [.int (a.fdiv b), .int (a.fmod b)]) := by
 by_cases h0 : 0 ≤ a
 ·refine E1_1 (Int.eq_ofNat_of_zero_le h0) ?_
  rintro k rfl
  exact (Z148 X (n := n) (by assumption) hb hb2).room (by exact Nat.add_le_add_left (by decide) _)
 intro g _ vs hvs A r g₁ l
 refine E2_3 (reps2 hvs) ?_
 rintro va vb rfl ra rb
 refine Z14 (fn := []) (S' := []) (binds := [("a", va), ("b", vb)]) (bi := [(0, .int a), (1, .int b)]) X.f_idm (r.sub (Nat.le_refl _)) (Z15 Z83) ok_idm so_idm (Z3 X.gt gi_idm)
  ⟨.inl rfl, ra.le l, .inl rfl, rb.le l, trivial⟩ (n := n + 286) fun A' L cells cs g' r' H => ?_
 refine gx_if (v := ((b : Int) == 0)) r' (Z30 (pn H 1) Z11 op_eq) (fun hv => ?_) (fun hv g₂ l₂ => ?_)
 ·have : b = 0 := by lia
  lia
 replace H := H.up l₂
 refine gx_if (v := decide ((b : Int) < 0)) r' (Z30 (pn H 1) Z11 op_lt) (fun hv => ?_) (fun hv g₃ l₃ => ?_)
 ·have := of_decide_eq_true hv; lia
 replace H := H.up l₃
 refine gx_if (v := decide ((a : Int) < 0)) r' (Z30 (pn H 0) Z11 op_lt) (fun hv g₄ l₄ => ?_) (fun hv => ?_)
 ·replace H := H.up l₄
  refine E1_1 (Int.eq_ofNat_of_zero_le (show 0 ≤ -a - 1 by lia)) fun k hk => ?_
  refine gx_pair (d₁ := .int ((-a - 1).fdiv b)) (d₂ := .int ((-a - 1).fmod b)) H r' (Z45 (pn H 5) X.f_idm (Z2 (pe_un (pn H 0) op_inv) (Z2 (pn H 1) Z5)) ?_) (Tgt.pair (Tgt.loc (i := 2) rfl) (Tgt.loc (i := 3) rfl)) fun g₅ l₅ H => ?_
  ·rw [hk]
   exact (Z148 X (n := 0) (a := k) (by lia) hb hb2).room (by exact Nat.le_add_left _ _)
  refine Z46 r' ((Z38 (Z2 (pe_un (pn H 2) op_inv) (Z2 (Z8 (pn H 1) (pe_un (pn H 3) op_inv) Z32) Z5))).is (d' := .tup [.int (a.fdiv b), .int (a.fmod b)]) ?_) fun v g₆ l₆ hv => ⟨H.le.trans l₆, hv⟩
  refine E0_2 (Z208 a b hb (by lia)) fun e1 e2 => ?_
  rw [e1, e2]
 ·have := of_decide_eq_false hv; lia
theorem Z84 (X : WX K) {a b : Int} (ha : a.natAbs < 2 ^ 48) (hb : b ≠ 0) (hb2 : b.natAbs < 2 ^ 16) : CallSem K (n + 292) g (.ref a_idm) [.int a, .int b] (.tup [.int (a.fdiv b), .int (a.fmod b)]) := by
 by_cases h0 : 0 ≤ b
 ·refine E1_1 (Int.eq_ofNat_of_zero_le h0) ?_
  rintro k rfl
  exact (Z147 X (n := n) ha (by lia) (by assumption)).room (by exact Nat.add_le_add_left (by decide) _)
 intro g _ vs hvs A r g₁ l
 refine E2_3 (reps2 hvs) ?_
 rintro va vb rfl ra rb
 refine Z14 (fn := []) (S' := []) (binds := [("a", va), ("b", vb)]) (bi := [(0, .int a), (1, .int b)]) X.f_idm (r.sub (Nat.le_refl _)) (Z15 Z83) ok_idm so_idm (Z3 X.gt gi_idm)
  ⟨.inl rfl, ra.le l, .inl rfl, rb.le l, trivial⟩ (n := n + 290) fun A' L cells cs g' r' H => ?_
 refine gx_if (v := (b == 0)) r' (Z30 (pn H 1) Z11 op_eq) (fun hv => ?_) (fun hv g₂ l₂ => ?_)
 ·have : b = 0 := by lia
  lia
 replace H := H.up l₂
 refine gx_if (v := decide (b < 0)) r' (Z30 (pn H 1) Z11 op_lt) (fun hv g₃ l₃ => ?_) (fun hv => ?_)
 ·replace H := H.up l₃
  refine E1_1 (Int.eq_ofNat_of_zero_le (show 0 ≤ -b by lia)) fun k hk => ?_
  refine gx_pair (d₁ := .int ((-a).fdiv (-b))) (d₂ := .int ((-a).fmod (-b))) H r' (Z45 (pn H 5) X.f_idm (Z2 (pe_un (pn H 0) Z156) (Z2 (pe_un (pn H 1) Z156) Z5)) ?_) (Tgt.pair (Tgt.loc (i := 2) rfl) (Tgt.loc (i := 3) rfl)) fun g₅ l₅ H => ?_
  ·rw [hk]
   exact (Z147 X (n := 0) (a := -a) (b := k) (by lia) (by lia) (by lia)).room (by exact Nat.le_add_left _ _)
  refine Z46 r' ((Z38 (Z2 (pn H 2) (Z2 (pe_un (pn H 3) Z156) Z5))).is (d' := .tup [.int (a.fdiv b), .int (a.fmod b)]) ?_) fun v g₆ l₆ hv => ⟨H.le.trans l₆, hv⟩
  refine E0_2 (fdiv_neg_neg' a b) fun e1 e2 => ?_
  rw [e1, e2]
 ·have := of_decide_eq_false hv; lia
end
end Mine
namespace Mine
section
open PySem PySem.Spec PySem.Calls PyProof.Rows PySem.W PySem.SeqAt
variable {K : Wd} {A : Around} {g : Gh} {n : Nat} {env : Env}
noncomputable def chD (c : Nat) : D := .str [c]
noncomputable def fdRead (cl : List (Str × Addr)) (c' : Addr) (pm ct : Value) : FuncData := nestFd "_law_read" q_ls_lrd (paramsOf st_ls_lrd) (.stmts (bodyOf st_ls_lrd)) (scopeOf st_ls_lrd) cl c' pm ct
noncomputable def sgR (lf : Addr) : List (Option D) := [none, some (.raw (.ref lf))]
theorem sgR_eq (lf : Addr) : sgR lf = srcSt [some (.raw (.ref lf)), none, none] (mkSrcs GT sr_ls_lrd) := rfl
structure StreamAt (g : Gh) (fs lf : Addr) : Prop where
 ex : ∃ dfs fr fd od cl c' pm ct, g.im fs = some (fnObjD fd dfs) ∧ g.im dfs = some od ∧ NsObj od (fun y => if y = Str.ofString "read" then some (.ref fr) else none) ∧ FnAt g.fixed fr (fdRead cl c' pm ct) ∧ ClosOk (scopeOf st_ls_lrd).names cl (sgR lf) g.fixed
theorem StreamAt.up {fs lf : Addr} {W : List Addr} {g' : Gh} (h : StreamAt g fs lf) (l : LeX W g g') : StreamAt g' fs lf :=
 ⟨E4_1 h.ex fun dfs fr fd od z => E4_5 z fun cl c' pm ct h1 h2 h3 h4 h5 => ⟨dfs, fr, fd, od, cl, c', pm, ct, l.im _ _ h1, l.im _ _ h2, h3, h4.le l.fixed, h5.le l.fixed⟩⟩
noncomputable def CharsAt (g : Gh) (lf : Addr) (chars : List Nat) : Prop := ∃ its m, g.mu lf = some (sq "list" its m) ∧ Reps g.im (chars.map chD) its.toList
theorem erase0 {its : Array Value} {v : Value} {vs : List Value} (h : its.toList = v :: vs) : (its.eraseIdxIfInBounds 0).toList = vs := by
 obtain ⟨l⟩ := its
 simp only at h
 subst h
 simp [Array.eraseIdxIfInBounds]
theorem w_law_read (X : WX K) {fr lf : Addr} {cl : List (Str × Addr)} {c' : Addr} {pm ct : Value} {chars : List Nat} {v1 : Value} (r : Room A (n + 2)) (hf : FnAt g fr (fdRead cl c' pm ct)) (hcl : ClosOk (scopeOf st_ls_lrd).names cl (sgR lf) g) (hch : CharsAt g lf chars) (hsz : chars.length ≤ 10000) (hv : Rep g.im (.int 1) v1) :
  gwp K A (call (.ref fr) [v1]) (fun v g' => Rep g'.im (.str (chars.take 1)) v ∧ LeX [lf] g g' ∧ CharsAt g' lf (chars.drop 1)) g := by
 refine cps fun Q₀ k₀ => ?_
 refine E2_2 hch fun its m hm hr => ?_
 have hlen : its.size = chars.length := by rw [← Array.length_toList, hr.length, List.length_map]
 refine Z185 (n := n) (σ := sgR lf) (fn := []) (S' := []) (binds := [("size", v1)]) (bi := [(0, .int 1)]) r hf rfl (Z15 (by rfl)) ok_ls_lrd
  (by rw [sgR_eq]; exact Z49 Z218) (by rw [sgR_eq]; exact Z66 Z218 (Z3 X.gt gi_ls_lrd)) hcl
  ⟨.inl rfl, hv, trivial⟩ (fun A' L' cells cs g' r' hL1 hL2 hcs H => ?_)
 have l0 := H.le
 change gwp K A' (execs (bodyOf st_ls_lrd) (fnEnv (fdRead cl c' pm ct) fr L' cells)) _ g'
 refine Z10 (st_ret (gwp_IfExp ?_))
 refine (pt_and (u := true) (v := decide (its.size ≠ 0)) ((Z30 (pn H 0) Z11 op_eq).is rfl) (fun _ => Z30 (pn H 1) (Z179 Z5) (op_neMu (Le.at l0 hm)))).use r' fun bb g₂ l₂ hb => ?_
 clear hcs hL2 hL1 hcl hf r; subst hb
 by_cases hz : its.size = 0
 ·have : (true && decide (its.size ≠ 0)) = false := by simp [hz]
  rw [this]
  have hc0 : chars = [] := by rw [← List.length_eq_zero_iff, ← hlen]; exact hz
  subst hc0
  refine (Z31 (l := []) rfl).use r' fun v g₃ l₃ hv => (k₀ _ _ ⟨hv, LeX.of (l0.trans (l₂.trans l₃)), its, m, Le.at (l0.trans (l₂.trans l₃)) hm, hr.le (l0.trans (l₂.trans l₃))⟩)
 ·have : (true && decide (its.size ≠ 0)) = true := by exact if_pos hz
  rw [this]
  cases chars with
  | nil => rw [List.length_nil] at hlen; exact absurd hlen hz
  | cons c chars =>
   simp only [List.map_cons, Reps] at hr
   refine E2_3 hr fun v vs e1 hv hrs => ?_
   have hy : its[0]? = some v := by
    have : its.toList[0]? = some v := by rw [e1]; rfl
    simpa using this
   refine Z125 r' (pn (H.up l₂) 1) (Le.at (l0.trans l₂) hm) (Z2 Z11 Z5) F.slot_list_pop F.type_list_pop fun vs' g₃ l₃ rs => ?_
   refine E1_2 (reps1 rs) ?_
   clear rs hr this hz H; rintro w rfl rw'
   refine E1_1 (Z24 rw') ?_
   clear rw'; rintro t rfl
   have l03 := l0.trans (l₂.trans l₃)
   refine gwp_pop0 (Le.at l03 hm) hy (Nat.le_trans (by rw [hlen]; exact hsz) (by decide)) fun m' => ?_
   exact (k₀ _ _ ⟨hv.mono l03.im, (LeX.of l03).trans LeX.setMu, _, m', Gh.setMu_self, by rw [erase0 e1]; exact hrs.mono l03.im⟩)
end
end Mine
namespace Mine
section
open PySem PySem.Spec PySem.Calls PyProof.Rows PySem.W PySem.SeqAt
variable {K : Wd} {A : Around} {g : Gh} {n : Nat} {env : Env}
variable {b : Gh} {S' : List Addr} {fn : List Nat} {cs : List Addr} {nm : List (Str × NameKind)} {σ σ' : List (Option D)} {own : List (Addr × MO)}
theorem op_iadd {x y : Int} : OpSem K n g (inplaceOp .Add) (.int x) (.int y) (.int (x + y)) := intop fun g A s E t u r ok => P.iadd_int ⟨g, ok.tok _, LeX.refl _ _, Z25⟩
theorem st_augattr {o value : Expr} {attr : Str} {tpos pos : Pos} {op : Operator} {Q : Flow → Gh → Prop} (h : gwp K A (eval o env) (fun ov g₁ => gwp K A (getAttr ov attr true) (fun old g₂ => gwp K A (eval value env) (fun v g₃ => gwp K A (inplaceOp op old v) (fun new g₄ => gwp K A (setAttr ov attr new) (fun _ g₅ => Q .next g₅) g₄) g₃) g₂) g₁) g) :
  gwp K A (exec (.AugAssign (.Attribute o attr tpos) op value pos) env) Q g :=
 fun s E ok => wpAny_AugAssign_AttributeAny (wM1_2 (h s E ok) (fun v s₁ _ ok₁ h₁ => wM1_2 (h₁ s₁ E ok₁) (fun v s₁ _ ok₁ h₁ => wM1_2 (h₁ s₁ E ok₁) (fun v s₁ _ ok₁ h₁ => wM1_2 (h₁ s₁ E ok₁) (fun v s₁ _ ok₁ h₁ => h₁ s₁ E ok₁)))))
theorem Frm.adoptB {ms : List (Addr × MO)} (F : Frm K b [] fn cs env nm σ [] g) (h : Holds ms b) (hk : (ms.map (·.1)).Nodup) : Frm K b (ms.map (·.1)) fn cs env nm σ ms g := by
 have hle : Le b g := F.le
 have := (F.may (S'' := ms.map (·.1)) (by exact all0)).adopt' (ms := ms) (h.up hle (by exact all0)) hk (fun a ha hm => by
  rw [List.map_nil, List.append_nil] at hm
  refine E1_2 (List.mem_map.mp ha) ?_
  rintro p hp rfl
  refine E1_2 (h p hp) fun o ho _ => ?_
  cases ((F.fresh _ hm).symm.trans ho)) (fun a ha => .inl ha)
 rw [List.append_nil] at this
 exact this
theorem Frm.holds (F : Frm K b S' fn cs env nm σ own g) : Holds own g := fun p hp => E1_3 (F.own p hp) fun o h1 h2 _ => ⟨o, h1, h2⟩
noncomputable def lexL (ln : Int) (fs pb : Addr) : List (Str × D) := [(Str.ofString "lineno", .int ln), (Str.ofString "instream", .raw (.ref fs)), (Str.ofString "whitespace", .str [10, 9, 13, 32]), (Str.ofString "pushback", .raw (.ref pb))]
noncomputable def LexOwn (x dx pb lf fs : Addr) (ln : Int) (chars : List Nat) (pbs : List D) : List (Addr × MO) := [(x, MO.obj (instObj C_nl dx)), (dx, MO.inst (lexL ln fs pb)), (pb, MO.list pbs), (lf, MO.list (chars.map chD))]
theorem Z115 : M_nl "__getattribute__" = none := by kernel_rfl
theorem lex_gh : M_nl "__getattr__" = none := by kernel_rfl
theorem lex_sa : M_nl "__setattr__" = none := by kernel_rfl
theorem Z124 : M_nl "lineno" = none := by kernel_rfl
theorem Z196 : M_nl "instream" = none := by kernel_rfl
theorem Z131 : M_nl "whitespace" = none := by kernel_rfl
theorem Z68 : M_nl "pushback" = none := by kernel_rfl
theorem Z162 : M_nl "_read_char" = some (.ref a_nl_rc) := by kernel_rfl
theorem Z163 : M_nl "get_token" = some (.ref a_nl_gt) := by kernel_rfl
theorem Z132 : M_nl "push_token" = some (.ref a_nl_pt) := by kernel_rfl
theorem lex_init : M_nl "__init__" = some (.ref a_nl_init) := by kernel_rfl
theorem Z158 : typeLookup (.type "object") "lineno" = pure none := by rw [typeLookup_type, builtinLookup_eq_fast]; kernel_rfl
theorem Z227 : typeLookup (.type "object") "instream" = pure none := by rw [typeLookup_type, builtinLookup_eq_fast]; kernel_rfl
theorem Z157 : typeLookup (.type "object") "whitespace" = pure none := by rw [typeLookup_type, builtinLookup_eq_fast]; kernel_rfl
theorem Z81 : typeLookup (.type "object") "pushback" = pure none := by rw [typeLookup_type, builtinLookup_eq_fast]; kernel_rfl
theorem ob_rc : typeLookup (.type "object") "_read_char" = pure none := by rw [typeLookup_type, builtinLookup_eq_fast]; kernel_rfl
theorem ob_gt : typeLookup (.type "object") "get_token" = pure none := by rw [typeLookup_type, builtinLookup_eq_fast]; kernel_rfl
theorem ob_pt : typeLookup (.type "object") "push_token" = pure none := by rw [typeLookup_type, builtinLookup_eq_fast]; kernel_rfl
theorem putN_lineno (ln ln' : Int) (fs pb : Addr) : putN (lexL ln fs pb) (Str.ofString "lineno") (.int ln') = lexL ln' fs pb := by
 have h1 : ((Str.ofString "lineno") != (Str.ofString "lineno")) = false := by decide +kernel
 have h2 : ((Str.ofString "instream") != (Str.ofString "lineno")) = true := by decide +kernel
 have h3 : ((Str.ofString "whitespace") != (Str.ofString "lineno")) = true := by decide +kernel
 have h4 : ((Str.ofString "pushback") != (Str.ofString "lineno")) = true := by decide +kernel
 simp only [putN, lexL, List.filter, h1, h2, h3, h4]
noncomputable def lnUp (ln : Int) (chars : List Nat) : Int := if chars.take 1 = [10] then ln + 1 else ln
theorem Z216 (X : WX K) {x dx pb lf fs : Addr} {ln : Int} {chars : List Nat} {pbs : List D} (r : Room A (n + 6)) (hH : Holds (LexOwn x dx pb lf fs ln chars pbs) g) (hnd : [x, dx, pb, lf].Nodup) (hst : StreamAt g fs lf) (hsz : chars.length ≤ 10000) :
  gcc K A (.call (.ref a_nl_rc) ⟨[.ref x], []⟩) (fun v g' => Rep g'.im (.str (chars.take 1)) v ∧ LeX [x, dx, pb, lf] g g' ∧ Holds (LexOwn x dx pb lf fs (lnUp ln chars) (chars.drop 1) pbs) g') g := by
 refine Z248 (n := n + 4) (fn := []) (S' := []) (binds := [("self", .ref x)]) (bi := [(0, .raw (.ref x))]) X.f_nl_rc r (Z15 (by rfl)) ok_nl_rc so_nl_rc (Z3 X.gt gi_nl_rc)
  ⟨.inl rfl, Z27, trivial⟩ fun A' L cells cs g' r' H => ?_
 have l0 := H.le
 replace hst := hst.up l0
 replace H := H.adoptB hH hnd
 have hne : dx ≠ x := nd_ne hnd
 refine Z10 (Z34 (Z61 ?_))
 refine gwp_pe (.raw (.ref fs)) (Z139 H X.k_nl Z115 Z196 Z227 (i := 0) (j := 1) rfl rfl hne (by exact .tail _ (.head _)) (pn H 0)) r' fun ov g₂ l₂ p pl => ?_
 have := Z22 p; subst this
 obtain ⟨dfs, fr, fd, od, cl, c', pm, ct, t1, t2, t3, t4, t5⟩ := (hst.up l₂).ex
 refine gwp_fnGetRead (.inl t1) (.inl t2) t3 (if_pos rfl) ?_
 refine E1_2 t4.obj fun fo fo1 fo2 => ?_
 refine Z26 (fo1.le Gh.fixed_le) fo2 (Z7 rfl ((Z2 Z11 Z5).use r' fun vs g₃ l₃ rs => ⟨(fo1.le Gh.fixed_le).le l₃, ?_⟩))
 refine E1_2 (reps1 rs) ?_
 clear rs fo2 t3 t2 t1 hnd hH r; rintro v1 rfl rv1
 replace H := H.up (l₂.trans l₃)
 obtain ⟨lo, e1, its, m, rfl, hr⟩ := H.at (i := 3) rfl
 refine gM0_3 (w_law_read X (r'.sub (by exact Nat.add_le_add_left (by decide) _) : Room A' (n + 2)) ((t4.le Gh.fixed_le).le l₃) ((t5.le Gh.fixed_le).le l₃) ⟨its, m, e1, hr⟩ hsz rv1) fun v g₄ hv l₄ v00 => E2_2 v00 fun its' m' e2 hr' => ?_
 replace H := H.adv (i := 3) rfl l₄ (m' := MO.list ((chars.drop 1).map chD)) ⟨_, e2, its', m', rfl, hr'⟩ MO.list_cell
 refine H.storeLocal (i := 1) rfl hv fun g₅ l₅ H => ?_
 refine gx_if (v := (chars.take 1 == [10])) r' (Z30 (pn H 1) (Z31 rfl) op_seq) (fun hc g₆ l₆ => ?_) (fun hc g₆ l₆ => ?_)
 ·have hc' : chars.take 1 = [10] := by lia
  replace H := H.up l₆
  refine Z10 (st_augattr ((pn H 0).useR r' fun g₇ l₇ => ?_))
  replace H := H.up l₇
  refine E1_2 (H.at (i := 0) rfl) fun ox x1 x2 => ?_
  refine E1_2 (H.at (i := 1) rfl) fun odx d1 d2 => ?_
  have hxo : ox = instObj C_nl dx := x2
  clear x2; subst hxo
  refine Z241 X.k_nl Z115 Z124 Z158 x1 d1 d2 hne (d := .int ln) (by exact .head _) (by intro id z; cases z) fun old hold => ?_
  refine Z11.use r' fun v1 g₈ l₈ hv1 => ?_
  refine (op_iadd (K := K) (n := n + 4) (g := g₈) g₈ (LeX.refl _ _) _ _ (hold.le l₈) hv1).use r' fun nv g₉ l₉ hnv => ?_
  replace H := H.up (l₈.trans l₉)
  clear hv1; refine E1_2 (H.at (i := 1) rfl) ?_
  rintro odx d1 d2
  refine Z144 X.k_nl lex_sa Z124 Z158 (Nat.lt_of_lt_of_le (by decide) (Nat.le_of_lt X.low)) (Le.at (l₈.trans l₉) x1) d1 d2 hne hnv (by simp [lexL, sizeLine]) fun o' ho' => ?_
  rw [putN_lineno] at ho'
  replace H := H.adv (i := 1) rfl LeX.setMu ⟨o', Gh.setMu_self, ho'⟩ MO.inst_cell
  refine Z43 (Z46 r' (pn H 1) fun v g₁₀ l₁₀ hv => ⟨hv, H.le.trans (LeX.of l₁₀), ?_⟩)
  have := (H.up l₁₀).holds
  unfold lnUp
  rw [if_pos hc']
  exact this
 ·have hc' : ¬ chars.take 1 = [10] := by lia
  replace H := H.up l₆
  refine Z43 (Z46 r' (pn H 1) fun v g₁₀ l₁₀ hv => ⟨hv, H.le.trans (LeX.of l₁₀), ?_⟩)
  have := (H.up l₁₀).holds
  unfold lnUp
  rw [if_neg hc']
  exact this
theorem Z190 (X : WX K) {x dx pb lf fs : Addr} {ln : Int} {chars : List Nat} {pbs : List D} {d : D} {v : Value} (r : Room A (n + 2)) (hH : Holds (LexOwn x dx pb lf fs ln chars pbs) g) (hnd : [x, dx, pb, lf].Nodup) (hsz : pbs.length ≤ 10000) (hv : Rep g.im d v) :
  gwp K A (call (.ref a_nl_pt) [.ref x, v]) (fun u g' => u = .none ∧ LeX [x, dx, pb, lf] g g' ∧ Holds (LexOwn x dx pb lf fs ln chars (pbs ++ [d])) g') g := by
 refine Z14 (n := n) (fn := []) (S' := []) (binds := [("self", .ref x), ("token", v)]) (bi := [(0, .raw (.ref x)), (1, d)]) X.f_nl_pt r (Z15 (by rfl)) ok_nl_pt so_nl_pt (Z3 X.gt gi_nl_pt)
  ⟨.inl rfl, Z27, .inl rfl, hv, trivial⟩ fun A' L cells cs g' r' H => ?_
 have l0 := H.le
 replace H := H.adoptB hH hnd
 have hne : dx ≠ x := nd_ne hnd
 refine Z164 (Frm.front (l₁ := [(x, MO.obj (instObj C_nl dx)), (dx, MO.inst (lexL ln fs pb))]) (l₂ := [(lf, MO.list (chars.map chD))]) H) r' (Z139 H X.k_nl Z115 Z68 Z81 (i := 0) (j := 1) (d := .raw (.ref pb)) rfl rfl hne (by exact .tail _ (.tail _ (.tail _ (.head _)))) (pn H 0)) (pn H 1) (Nat.le_trans hsz (by decide)) fun g₂ l₂ H => ?_
 refine Z43 ⟨rfl, H.le, ?_⟩
 exact (Frm.back H).holds
theorem gx_forAny {target iter : Expr} {body rest : List Stmt} {pos : Pos} {Q : Flow → Gh → Prop} (J : Nat → Gh → Prop) (itv : Value) (k₀ : Nat)
  (hit : gwp K A (eval iter env) (fun x g₁ => gwp K A (pyIter x) (fun it g₂ => it = itv ∧ J k₀ g₂) g₁) g)
  (turn : ∀ k g, J k g → gwp K A (pyNext itv) (fun r g₁ => match r with
   | none => gwp K A (execs rest env) Q g₁
   | some v => gwp K A (assign target env v) (fun _ g₃ => gwp K A (execs body env) (fun f g₄ => match f with
    | .next | .cont => ∃ m, m < k ∧ J m g₄
    | .brk => gwp K A (execs rest env) Q g₄
    | .ret v => Q (.ret v) g₄) g₃) g₁) g)
  (ht : ∀ v, letOwnedTupleGo target itv v = pure () := by intro _; rfl)
  (hs : ∀ x, foldedSetIterable iter env x = pure x := by intro _; rfl) : gwp K A (execs (.For target iter body [] pos :: rest) env) Q g := by
 refine Z10 (Z269 (Z9 hit fun x g₁ h₁ => Z9 h₁ fun it g₂ z₀ s ok => E0_2 z₀ fun e hJ => ?_) hs)
 clear hs hit; subst e
 refine codeAny_forLoop_any (fun k s' => ∃ g', g'.Ok K.B s' ∧ J k g') ?_ k₀ ⟨g₂, ok, hJ⟩
 rintro k s' ⟨g', ok', hJ'⟩
 refine wM1_2 (turn k g' hJ' s' _ ok') (fun o s₁ g₁ ok₁ h₁ => ?_)
 clear turn; cases o with
 | none => exact wpAny_execs_nil ⟨g₁, ok₁, h₁⟩
 | some v =>
  refine wpAny_of_eq (ht v) ?_
  refine wM1_2 (h₁ s₁ _ ok₁) (fun _ s₂ g₂' ok₂ h₂ => wM1_2 (h₂ s₂ _ ok₂) (fun f s₄ g₄ ok₄ h₄ => ?_))
  clear h₂ h₁ ht; cases f with
  | next => obtain ⟨m, h5, h6⟩ := h₄; exact ⟨m, h5, g₄, ok₄, h6⟩
  | cont => obtain ⟨m, h5, h6⟩ := h₄; exact ⟨m, h5, g₄, ok₄, h6⟩
  | brk => exact ⟨g₄, ok₄, h₄⟩
  | ret v => exact ⟨g₄, ok₄, h₄⟩
theorem truth_mu {a : Addr} {its : Array Value} {m : Nat} (ha : g.mu a = some (sq "list" its m)) (hx : its.size < 2 ^ 62) : TruthSem K n g (.raw (.ref a)) (!its.isEmpty) := fun g₀ l₀ v h A r g₁ l s E ok => by
 have := Z22 h; subst this
 exact wpAny_truthy_list ⟨_, ok.mu _ _ (l.at (l₀.at ha)), rfl, m, rfl⟩ (by lia) ⟨g₁, ok.tok _, LeX.refl _ _, rfl⟩
theorem gx_aug {x : Str} {pos' pos : Pos} {op : Operator} {value : Expr} {rest : List Stmt} {i : Nat} {d₀ d₁ d : D} {Q : Flow → Gh → Prop} (F : Frm K b S' fn cs env nm σ own g) (r : Room A n) (h : nm[i]? = some (x, NameKind.local)) (hd : σ[i]? = some (some d₀)) (hv : Pe K n g (eval value env) d₁) (ho : OpSem K n g (inplaceOp op) d₀ d₁ d)
  (k : ∀ g', LeX [env.locals] g g' → Frm K b S' fn cs env nm (σ.set i (some d)) own g' → gwp K A (execs rest env) Q g') : gwp K A (execs (.AugAssign (.Name x pos') op value pos :: rest) env) Q g := by
 refine Z10 (st_aug (F.read h hd (by decide) fun v hv' => ?_))
 refine hv.use r fun v1 g₁ l₁ r1 => ?_
 refine (ho _ l₁ _ _ (hv'.le l₁) r1).use r fun v2 g₂ l₂ r2 => ?_
 exact (F.up (l₁.trans l₂)).storeLocal h r2 fun g'' l' F' => k g'' ((LeX.of (l₁.trans l₂)).trans l') F'
noncomputable def wsL : List Nat := [10, 9, 13, 32]
noncomputable def lexA : Nat → List Nat → List Nat → List Nat × List Nat
 | _, t, [] => (t, [])
 | 0, t, c :: cs => if c ∈ wsL then lexA 0 t cs else if c = 34 then lexA 1 t cs else if c = 92 then lexA 4 t cs else lexA 2 (t ++ [c]) cs
 | 1, t, c :: cs => if c = 34 then (t, cs) else if c = 92 then lexA 3 t cs else lexA 1 (t ++ [c]) cs
 | 2, t, c :: cs => if c ∈ wsL then (t, cs) else if c = 92 then lexA 4 t cs else lexA 2 (t ++ [c]) cs
 | 3, t, c :: cs => lexA 1 (t ++ [c]) cs
 | _, t, c :: cs => lexA 2 (t ++ [c]) cs
theorem lexA_3 (t cs : List Nat) : lexA 3 t cs = lexA 1 (t ++ cs.take 1) (cs.drop 1) := by cases cs <;> simp [lexA]
theorem lexA_4 (t cs : List Nat) : lexA 4 t cs = lexA 2 (t ++ cs.take 1) (cs.drop 1) := by cases cs <;> simp [lexA]
noncomputable abbrev itO (p : Addr) (t : Tok) (e : Bool) : Obj := if e then ciObj .none .none true else ciObj (.ref p) (.str (S []) t) false
noncomputable abbrev LexIt (x dx pb lf fs it p : Addr) (t : Tok) (tot : Int) (chars : List Nat) (pbs : List D) (e : Bool) : List (Addr × MO) := LexOwn x dx pb lf fs (tot - chars.count 10) chars pbs ++ [(it, MO.obj (itO p t e))]
theorem Z52 {x dx pb lf fs : Addr} {ln : Int} {chars : List Nat} {pbs : List D} {im : Im} : ∀ q ∈ LexOwn x dx pb lf fs ln chars pbs, ∀ o w, q.2.P im o → o.data ≠ .cell w := by
 intro q hq o w h
 simp only [LexOwn, List.mem_cons, List.not_mem_nil, or_false] at hq
 rcases hq with rfl | rfl | rfl | rfl
 ·have : o = _ := h
  subst this; intro z; cases z
 ·exact MO.inst_cell _ _ h
 ·exact MO.list_cell _ _ h
 ·exact MO.list_cell _ _ h
theorem Z233 {ln : Int} {fs pb : Addr} : Str.ofString "_read_char" ∉ (lexL ln fs pb).map (·.1) := by
 show Str.ofString "_read_char" ∉ [Str.ofString "lineno", Str.ofString "instream", Str.ofString "whitespace", Str.ofString "pushback"]
 decide +kernel
theorem gcc_mono {c : Code} {Q Q' : Value → Gh → Prop} (h : gcc K A c Q g) (hq : ∀ v g', Q v g' → Q' v g') : gcc K A c Q' g := fun s E ok => codeAny_mono (h s E ok) fun r s' hr => by
 cases r with
 | error e => exact hr
 | ok f => cases f with
  | ret v => obtain ⟨g', h1, h2⟩ := hr; exact ⟨g', h1, hq v g' h2⟩
  | _ => exact hr.elim
structure LexFr (K : Wd) (b : Gh) (fn : List Nat) (cs : List Addr) (env : Env) (nm : List (Str × NameKind)) (σ : List (Option D)) (x dx pb lf fs it p : Addr) (t : Tok) (tot : Int) (chars : List Nat) (pbs : List D) (e : Bool) (g : Gh) : Prop where
 F : Frm K b [x, dx, pb, lf] fn cs env nm σ (LexIt x dx pb lf fs it p t tot chars pbs e) g
 hp : g.im p = some (mthObj a_nl_rc (.ref x))
 st : StreamAt g fs lf
 sz : chars.length ≤ 10000
 nd : [x, dx, pb, lf].Nodup
section
variable {x dx pb lf fs it p : Addr} {t : Tok} {tot : Int} {chars : List Nat} {pbs : List D} {e : Bool}
theorem LexFr.up {g' : Gh} (h : LexFr K b fn cs env nm σ x dx pb lf fs it p t tot chars pbs e g) (l : Le g g') : LexFr K b fn cs env nm σ x dx pb lf fs it p t tot chars pbs e g' := ⟨h.F.up l, l.im _ _ h.hp, h.st.up l, h.sz, h.nd⟩
theorem LexFr.setF {g' : Gh} {W : List Addr} (h : LexFr K b fn cs env nm σ x dx pb lf fs it p t tot chars pbs e g) (l : LeX W g g') (F : Frm K b [x, dx, pb, lf] fn cs env nm σ' (LexIt x dx pb lf fs it p t tot chars pbs e) g') : LexFr K b fn cs env nm σ' x dx pb lf fs it p t tot chars pbs e g' := ⟨F, l.im _ _ h.hp, h.st.up l, h.sz, h.nd⟩
theorem LexFr.less (h : LexFr K b fn cs env nm σ x dx pb lf fs it p t tot chars pbs e g) (hl : leSt σ' σ) : LexFr K b fn cs env nm σ' x dx pb lf fs it p t tot chars pbs e g := ⟨h.F.lessL hl, h.hp, h.st, h.sz, h.nd⟩
theorem LexFr.lex (h : LexFr K b fn cs env nm σ x dx pb lf fs it p t tot chars pbs e g) : Holds (LexOwn x dx pb lf fs (tot - chars.count 10) chars pbs) g := fun q hq => h.F.holds q (List.mem_append.mpr (.inl hq))
theorem lnUp_tot (tot : Int) (chars : List Nat) : lnUp (tot - chars.count 10) chars = tot - (chars.drop 1).count 10 := by
 unfold lnUp
 cases chars with
 | nil => simp
 | cons c cs =>
  by_cases hc : c = 10
  ·subst hc; simp; lia
  ·have : ¬ (10 = c) := fun h => hc h.symm
   simp [hc, List.count_cons]
theorem LexFr.adv {g' : Gh} (h : LexFr K b fn cs env nm σ x dx pb lf fs it p t tot chars pbs e g) (l : LeX [x, dx, pb, lf] g g') (hh : Holds (LexOwn x dx pb lf fs (lnUp (tot - chars.count 10) chars) (chars.drop 1) pbs) g') : LexFr K b fn cs env nm σ x dx pb lf fs it p t tot (chars.drop 1) pbs e g' := by
 rw [lnUp_tot] at hh
 exact ⟨Frm.advance (ms := LexOwn x dx pb lf fs (tot - chars.count 10) chars pbs) (ms' := LexOwn x dx pb lf fs (tot - (chars.drop 1).count 10) (chars.drop 1) pbs) h.F l rfl hh Z52, l.im _ _ h.hp, h.st.up l, by have := h.sz; rw [List.length_drop]; lia, h.nd⟩
theorem LexFr.read (X : WX K) {o : Expr} {apos pos : Pos} {Q : Value → Gh → Prop} (h : LexFr K b fn cs env nm σ x dx pb lf fs it p t tot chars pbs e g) (r : Room A (n + 6)) (ho : Pe K (n + 6) g (eval o env) (.raw (.ref x)))
  (k : ∀ v g', Rep g'.im (.str (chars.take 1)) v → LexFr K b fn cs env nm σ x dx pb lf fs it p t tot (chars.drop 1) pbs e g' → Q v g')
  (hb : attributeBase o "_read_char" env (eval o env) = eval o env := by rfl)
  (hline : (apos.endLine == pos.line) = true := by rfl)
  (hfew : ((backTo pos (starEach [] env)).all (fun x => !x.1) && (backToKw pos (keywordEach [] env)).all (fun x => x.1.isSome)
   && decide (([] : List Expr).length + ([] : List Keyword).length + (if ([] : List Keyword).isEmpty then 0 else 1) < 30)) = true := by rfl)
  (hp : (backTo pos (starEach [] env)).any (·.1) = false := by rfl) : gwp K A (eval (.Call (.Attribute o "_read_char" apos) [] [] pos) env) Q g := by
 refine Z61 ?_ hline hfew
 rw [hb]
 refine ho.use r fun ov g₁ l₁ p' pl => ?_
 have := Z22 p'; subst this
 replace h := h.up l₁
 have hne : dx ≠ x := nd_ne h.nd
 clear p' hfew hline hb ho; refine E1_2 (h.F.at (i := 0) rfl) ?_
 rintro ox x1 x2
 refine E1_2 (h.F.at (i := 1) rfl) fun od d1 d2 => ?_
 have hxo : ox = instObj C_nl dx := x2
 clear x2; subst hxo
 refine Z169 X.k_nl Z115 lex_gh Z162 X.f_nl_rc ob_rc x1 d1 d2 hne Z233 ?_
 refine E1_3 X.f_nl_rc.obj fun of f1 f2 f3 => ?_
 refine Z103 fun z₀ => E1_1 z₀ fun s ok => ?_
 refine E1_2 ((X.f_nl_rc.at ok).obj) fun of' f1' f2' => ?_
 refine Z26 f1' f2' (Z7 hp (Z5.use r fun vs g₂ l₂ rs => ⟨f1'.le l₂, ?_⟩))
 clear f1 x1 d2 d1 hp; simp only [Reps] at rs; subst rs
 replace h := h.up l₂
 exact gM0_3 (Z95 (Z216 X r h.lex h.nd h.st h.sz)) fun v g₃ hv l₃ hh => k v g₃ hv (h.adv l₃ hh)
theorem LexFr.next (X : WX K) {Q : Option Value → Gh → Prop} (h : LexFr K b fn cs env nm σ x dx pb lf fs it p t tot chars pbs false g) (r : Room A (n + 7)) (hit : it ∉ [x, dx, pb, lf])
  (k0 : ∀ g', chars = [] → LexFr K b fn cs env nm σ x dx pb lf fs it p t tot [] pbs true g' → Q none g')
  (k1 : ∀ c rest v g', chars = c :: rest → Rep g'.im (.str [c]) v → LexFr K b fn cs env nm σ x dx pb lf fs it p t tot rest pbs false g' → Q (some v) g') : gwp K A (pyNext (.ref it)) Q g := by
 refine E1_2 (h.F.at (i := 4) rfl) fun o i1 i2 => ?_
 have hio : o = itO p t false := i2
 clear i2; subst hio
 refine gwp_ciNext (T := [x, dx, pb, lf]) r i1 h.hp X.f_nl_rc hit fun A' r' => ?_
 refine gcc_mono (Z216 X r' h.lex h.nd h.st h.sz) fun v g' z₀ => E0_3 z₀ fun hv l hh => ⟨_, hv, l, ?_⟩
 have h' := h.adv l hh
 clear hh l r' i1 hit r; cases chars with
 | nil =>
  rw [if_pos (by rfl)]
  have lt : LeX [it] g' (g'.setMu it (ciObj .none .none true)) := LeX.setMu
  refine k0 _ rfl ⟨?_, lt.im _ _ h'.hp, h'.st.up lt, h'.sz, h'.nd⟩
  exact Frm.adv (i := 4) h'.F rfl LeX.setMu ⟨_, Gh.setMu_self, rfl⟩ (fun o w h => by have : o = _ := h; subst this; intro z; cases z)
 | cons c rest =>
  rw [if_neg (by simp)]
  exact k1 c rest v g' rfl hv h'
theorem LexFr.ended {Q : Option Value → Gh → Prop} (h : LexFr K b fn cs env nm σ x dx pb lf fs it p t tot chars pbs true g) (hh : A.handled = none) (q : Q none g) : gwp K A (pyNext (.ref it)) Q g := by
 refine E1_2 (h.F.at (i := 4) rfl) fun o i1 i2 => ?_
 have hio : o = itO p t true := i2
 clear i2 h; subst hio
 exact gwp_ciEnded hh i1 q
end
theorem LexFr.hit {x dx pb lf fs it p : Addr} {t : Tok} {tot : Int} {chars : List Nat} {pbs : List D} {e : Bool} (h : LexFr K b fn cs env nm σ x dx pb lf fs it p t tot chars pbs e g) : it ∉ [x, dx, pb, lf] := by
 have h1 := h.F.apart
 have h2 : ([x, dx, pb, lf] ++ [it]).Nodup := (List.nodup_append.mp h1).2.1
 intro hm
 exact (List.nodup_append.mp h2).2.2 it hm it (by exact .head _) rfl
theorem w_get_pushed (X : WX K) {x dx pb lf fs : Addr} {ln : Int} {chars : List Nat} {pbs : List D} {d : D} (r : Room A (n + 2)) (hH : Holds (LexOwn x dx pb lf fs ln chars (d :: pbs)) g) (hnd : [x, dx, pb, lf].Nodup) (hsz : pbs.length ≤ 10000) :
  gwp K A (call (.ref a_nl_gt) [.ref x]) (fun v g' => Rep g'.im d v ∧ LeX [x, dx, pb, lf] g g' ∧ Holds (LexOwn x dx pb lf fs ln chars pbs) g') g := by
 refine Z14 (n := n) (fn := []) (S' := []) (binds := [("self", .ref x)]) (bi := [(0, .raw (.ref x))]) X.f_nl_gt r (Z15 (by rfl)) ok_nl_gt so_nl_gt (Z3 X.gt gi_nl_gt)
  ⟨.inl rfl, Z27, trivial⟩ fun A' L cells cs g' r' H => ?_
 have l0 := H.le
 replace H := H.adoptB hH hnd
 have hne : dx ≠ x := nd_ne hnd
 clear hnd hH r; obtain ⟨ob, e1, its, m, rfl, hr⟩ := H.at (i := 2) rfl
 have hlen : its.size = pbs.length + 1 := by rw [← Array.length_toList, hr.length]; rfl
 have pa : ∀ {g₁ : Gh} {pos pos' : Pos}, Le g' g₁ → Pe K n g₁ (eval (.Attribute (.Name "self" pos) "pushback" pos') _) (.raw (.ref pb)) := fun l => Z139 (H.up l) X.k_nl Z115 Z68 Z81 (i := 0) (j := 1) (d := .raw (.ref pb)) rfl rfl hne (by exact .tail _ (.tail _ (.tail _ (.head _)))) (pn (H.up l) 0)
 refine gx_if (v := !its.isEmpty) r' (Z271 (pa (LeX.refl _ _)) (truth_mu e1 (by lia))) (fun hc g₂ l₂ => ?_) (fun hc g₂ l₂ => ?_)
 ·replace H := H.up l₂
  simp only [Reps] at hr
  refine E2_3 hr fun v vs e2 hv hrs => ?_
  have hy : its[0]? = some v := by
   have : its.toList[0]? = some v := by rw [e2]; rfl
   simpa using this
  refine Z10 (st_ret ?_)
  refine Z125 r' (pa l₂) (Le.at l₂ e1) (Z2 Z11 Z5) F.slot_list_pop F.type_list_pop fun vs' g₃ l₃ rs => ?_
  refine E1_2 (reps1 rs) ?_
  clear rs pa hr; rintro w rfl rw'
  refine E1_1 (Z24 rw') ?_
  clear rw'; rintro t rfl
  refine gwp_pop0 (Le.at (l₂.trans l₃) e1) hy (by rw [hlen]; exact Nat.le_trans (Nat.succ_le_succ hsz) (by decide)) fun m' => ?_
  have H₃ := (H.up l₃).adv (i := 2) rfl (m' := MO.list pbs) (LeX.setMu (a := pb) (o := sq "list" (its.eraseIdxIfInBounds 0) m')) ⟨_, Gh.setMu_self, _, m', rfl, by rw [erase0 e2]; exact (hrs.mono l₂.im).mono l₃.im⟩ MO.list_cell
  exact ⟨(hv.mono l₂.im).mono l₃.im, H₃.le, H₃.holds⟩
 ·have : its.size = 0 := by simpa using hc
  lia
noncomputable abbrev gtSt (x : Addr) (it : Addr) (tok : List Nat) (ch : Option D) : List (Option D) := [some (.raw (.ref x)), some (.str tok), some (.raw (.ref it)), ch, some (.raw (.builtin "iter"))]
set_option genInjectivity false in
set_option genSizeOf false in
structure LxW where
 K : Wd
 b : Gh
 cs : List Addr
 L : Addr
 cells : List (Str × Addr)
 x : Addr
 dx : Addr
 pb : Addr
 lf : Addr
 fs : Addr
 it : Addr
 p : Addr
 t : Tok
 tot : Int
noncomputable abbrev LxW.en (w : LxW) : Env := fnEnv fd_nl_gt a_nl_gt w.L w.cells
structure LxF (w : LxW) (tok : List Nat) (ch : Option D) (chars : List Nat) (e : Bool) (g : Gh) : Prop where
 h : LexFr w.K w.b [] w.cs w.en (scopeOf st_nl_gt).names (gtSt w.x w.it tok ch) w.x w.dx w.pb w.lf w.fs w.it w.p w.t w.tot chars [] e g
section
variable {w : LxW} {tok : List Nat} {ch : Option D} {chars : List Nat} {e : Bool} {pos : Pos} {rest : List Stmt}
theorem LxF.up {g' : Gh} (H : LxF w tok ch chars e g) (l : Le g g') : LxF w tok ch chars e g' := ⟨H.h.up l⟩
theorem LxF.ne (H : LxF w tok ch chars e g) : w.dx ≠ w.x := nd_ne H.h.nd
theorem LxF.n0 (H : LxF w tok ch chars e g) : Pe w.K n g (eval (.Name "self" pos) w.en) (.raw (.ref w.x)) := pn H.h.F 0
theorem LxF.n1 (H : LxF w tok ch chars e g) : Pe w.K n g (eval (.Name "token" pos) w.en) (.str tok) := pn H.h.F 1
theorem LxF.n2 (H : LxF w tok ch chars e g) : Pe w.K n g (eval (.Name "fiter" pos) w.en) (.raw (.ref w.it)) := pn H.h.F 2
theorem LxF.n3 {d : D} (H : LxF w tok (some d) chars e g) : Pe w.K n g (eval (.Name "ch" pos) w.en) d := pn H.h.F 3
theorem LxF.store {d : D} {v : Value} {Q : Unit → Gh → Prop} (H : LxF w tok ch chars e g) (hv : Rep g.im d v) (k : ∀ g', LxF w tok (some d) chars e g' → Q () g') : gwp w.K A (storeName w.en "ch" v) Q g :=
 H.h.F.storeLocal (i := 3) rfl hv fun g' l F => k g' ⟨H.h.setF l F⟩
theorem LxF.aug {s : List Nat} {p1 p2 p3 : Pos} {Q : Flow → Gh → Prop} (H : LxF w tok (some (.str s)) chars e g) (r : Room A n) (hs : tok.length + s.length ≤ sizeLine) (k : ∀ g', LxF w (tok ++ s) (some (.str s)) chars e g' → gwp w.K A (execs rest w.en) Q g') :
  gwp w.K A (execs (.AugAssign (.Name "token" p1) .Add (.Name "ch" p2) p3 :: rest) w.en) Q g :=
 gx_aug (i := 1) (d := .str (tok ++ s)) H.h.F r rfl rfl H.n3 (op_siadd hs) fun g' l F => k g' ⟨H.h.setF l F⟩
theorem LxF.ws (X : WX w.K) {c : Nat} {p1 p2 p3 p4 : Pos} (H : LxF w tok (some (.str [c])) chars e g) : Pt w.K n g (.Compare (.Name "ch" p1) [.In] [.Attribute (.Name "self" p2) "whitespace" p3] p4) w.en (decide (c ∈ wsL)) :=
 Z30 H.n3 (Z139 H.h.F X.k_nl Z115 Z131 Z157 (i := 0) (j := 1) (d := .str wsL) rfl rfl H.ne (by exact .tail _ (.tail _ (.head _))) H.n0) op_in1
theorem LxF.iter {Q : Value → Gh → Prop} (H : LxF w tok ch chars false g) (q : Q (.ref w.it) g) : gwp w.K A (pyIter (.ref w.it)) Q g := by
 obtain ⟨o, i1, i2⟩ := H.h.F.at (i := 4) rfl
 cases (show o = itO w.p w.t false from i2)
 exact gwp_ciIter i1 q
theorem LxF.next (X : WX w.K) {Q : Option Value → Gh → Prop} (H : LxF w tok ch chars false g) (r : Room A (n + 7)) (k0 : ∀ g', chars = [] → LxF w tok ch [] true g' → Q none g')
  (k1 : ∀ c cs v g', chars = c :: cs → Rep g'.im (.str [c]) v → LxF w tok ch cs false g' → Q (some v) g') : gwp w.K A (pyNext (.ref w.it)) Q g :=
 H.h.next X r H.h.hit (fun g' e h => k0 g' e ⟨h⟩) fun c cs v g' e hv h => k1 c cs v g' e hv ⟨h⟩
theorem LxF.esc (X : WX w.K) {c : Nat} {p1 p2 p3 p4 p5 p6 p7 p8 p9 : Pos} {Q : Flow → Gh → Prop} (H : LxF w tok (some (.str [c])) chars false g) (r : Room A (n + 8)) (hl : (p6.endLine == p7.line) = true)
  (k : ∀ s cs g', (s, cs) = (if c = 92 then (chars.take 1, chars.drop 1) else ([c], chars)) → LxF w tok (some (.str s)) cs false g' → gwp w.K A (execs rest w.en) Q g') :
  gwp w.K A (execs (.If (.Compare (.Name "ch" p1) [.Eq] [.Constant (.str "\\") 0 p2] p3) [.Assign [.Name "ch" p4] (.Call (.Attribute (.Name "self" p5) "_read_char" p6) [] [] p7) p8] [] p9 :: rest) w.en) Q g := by
 refine gx_if (v := ([c] == [92])) r (Z30 H.n3 (Z31 rfl) op_seq) (fun hb g₁ l₁ => ?_) (fun hb g₁ l₁ => Z57 ?_)
 ·have hc : c = 92 := by simpa using hb
  refine Z10 (Z34 ((H.up l₁).h.read X (n := n + 2) r (H.up l₁).n0 (fun v g₂ hv h2 => ?_) (hline := hl)))
  exact LxF.store ⟨h2⟩ hv fun g₃ H3 => Z57 (k _ _ g₃ (if_pos hc).symm H3)
 ·have hc : ¬ c = 92 := by simpa using hb
  exact k _ _ g₁ (if_neg hc).symm (H.up l₁)
theorem esc_len {c : Nat} {s cs r : List Nat} (h : (s, cs) = (if c = 92 then (r.take 1, r.drop 1) else ([c], r))) : s.length + cs.length ≤ r.length + 1 ∧ cs.length ≤ r.length := by
 split at h <;> cases h <;> simp <;> lia
theorem LxF.loop (X : WX w.K) {m : Nat} {stop : Nat → Bool} {test : Expr} (hm0 : ∀ tk, lexA m tk [] = (tk, [])) (hm1 : ∀ tk c r s cs, (s, cs) = (if c = 92 then (r.take 1, r.drop 1) else ([c], r)) → lexA m tk (c :: r) = if stop c = true then (tk, r) else lexA m (tk ++ s) cs)
  (ht : ∀ {tk c cs g'}, LxF w tk (some (.str [c])) cs false g' → Pt w.K (n + 8) g' test w.en (stop c)) (H : LxF w tok ch chars false g) (r : Room A (n + 8)) (hlen : tok.length + chars.length ≤ 10001)
  {tokR restR : List Nat} (h0 : lexA m tok chars = (tokR, restR)) {q1 q2 q3 q4 q5 q6 q7 q8 q9 p1 p2 p3 p4 p5 p6 p7 p8 p9 : Pos} (hl : (p6.endLine == p7.line) = true) {Q : Flow → Gh → Prop}
  (kret : ∀ ch v g', LxF w tokR ch restR false g' → Rep g'.im (.str tokR) v → Q (.ret v) g') (kend : ∀ ch g', LxF w tokR ch [] true g' → restR = [] → gwp w.K A (execs rest w.en) Q g') :
  gwp w.K A (execs (.For (.Name "ch" q1) (.Name "fiter" q2) [.If test [.Return (some (.Name "token" q3)) q4] [.If (.Compare (.Name "ch" p1) [.Eq] [.Constant (.str "\\") 0 p2] p3) [.Assign [.Name "ch" p4] (.Call (.Attribute (.Name "self" p5) "_read_char" p6) [] [] p7) p8] [] p9] q5,
   .AugAssign (.Name "token" q6) .Add (.Name "ch" q7) q8] [] q9 :: rest) w.en) Q g := by
 refine gx_forAny (fun k g' => ∃ ch' cs tk, k = cs.length ∧ LxF w tk ch' cs false g' ∧ lexA m tk cs = (tokR, restR) ∧ tk.length + cs.length ≤ 10001) (.ref w.it) chars.length ?_ ?_
 ·refine H.n2.use r fun v g₁ l₁ hv => ?_
  cases Z22 hv
  exact (H.up l₁).iter ⟨rfl, ch, chars, tok, rfl, H.up l₁, h0, hlen⟩
 ·clear h0 hlen; rintro k g₁ ⟨ch', cs', tk, rfl, H1, h1, hs⟩
  refine H1.next X (n := n + 1) r (fun g₂ ec H2 => ?_) (fun c r2 v g₂ ec hv H2 => ?_)
  ·subst ec
   rw [hm0] at h1; cases h1
   exact kend _ _ H2 rfl
  ·clear kend hm0; subst ec
   clear H1
   refine Z12 (H2.store hv fun g₃ H3 => ?_)
   clear H2 hv
   refine gx_if r (ht H3) (fun hq g₄ l₄ => ?_) (fun hq g₄ l₄ => ?_)
   ·clear ht; obtain ⟨s, cs, es⟩ : ∃ s cs, (s, cs) = (if c = 92 then (r2.take 1, r2.drop 1) else ([c], r2)) := ⟨_, _, rfl⟩
    rw [hm1 tk c r2 s cs es, if_pos hq] at h1; cases h1
    exact Z46 r (H3.up l₄).n1 fun v g₅ l₅ hv => kret _ v g₅ ((H3.up l₄).up l₅) hv
   ·refine (H3.up l₄).esc X r hl fun s cs g₅ es H5 => Z57 ?_
    have h2 := esc_len es
    rw [hm1 tk c r2 s cs es, if_neg (by rw [hq]; exact Bool.false_ne_true)] at h1
    have hs' : tk.length + (r2.length + 1) ≤ 10001 := hs
    exact H5.aug r (Nat.le_trans (by lia) (by decide : 10001 ≤ sizeLine)) fun g₆ H6 => Z43 ⟨cs.length, Nat.lt_succ_of_le h2.2, _, cs, tk ++ s, rfl, H6, h1, by rw [List.length_append]; lia⟩
theorem lexA_m1 (tk : List Nat) (c : Nat) (r s cs : List Nat) (h : (s, cs) = (if c = 92 then (r.take 1, r.drop 1) else ([c], r))) : lexA 1 tk (c :: r) = if ([c] == [34]) = true then (tk, r) else lexA 1 (tk ++ s) cs := by
 have e : ([c] == [34]) = true ↔ c = 34 := by simp
 rw [lexA]
 by_cases h1 : c = 34
 ·rw [if_pos h1, if_pos (e.mpr h1)]
 ·rw [if_neg h1, if_neg fun z => h1 (e.mp z)]
  split at h <;> cases h
  ·rename_i h2; rw [if_pos h2, lexA_3]
  ·rename_i h2; rw [if_neg h2]
theorem lexA_m2 (tk : List Nat) (c : Nat) (r s cs : List Nat) (h : (s, cs) = (if c = 92 then (r.take 1, r.drop 1) else ([c], r))) : lexA 2 tk (c :: r) = if decide (c ∈ wsL) = true then (tk, r) else lexA 2 (tk ++ s) cs := by
 rw [lexA]
 by_cases h1 : c ∈ wsL
 ·rw [if_pos h1, if_pos (decide_eq_true h1)]
 ·rw [if_neg h1, if_neg fun z => h1 (of_decide_eq_true z)]
  split at h <;> cases h
  ·rename_i h2; rw [if_pos h2, lexA_4]
  ·rename_i h2; rw [if_neg h2]
theorem lexA_m0 (c : Nat) (r s cs : List Nat) (h : (s, cs) = (if c = 92 then (r.take 1, r.drop 1) else ([c], r))) (h1 : ¬ c ∈ wsL) (h2 : ¬ c = 34) : lexA 0 [] (c :: r) = lexA 2 ([] ++ s) cs := by
 rw [lexA, if_neg h1, if_neg h2]
 split at h <;> cases h
 ·rename_i h2; rw [if_pos h2, lexA_4]
 ·rename_i h2; rw [if_neg h2]
theorem w_get_loop (X : WX w.K) (r : Room A (n + 8)) (H : LxF w [] ch chars false g) {tokR restR : List Nat} (h0 : lexA 0 [] chars = (tokR, restR)) {Q : Flow → Gh → Prop}
  (k : ∀ ch e v g', LxF w tokR ch restR e g' → Rep g'.im (.str tokR) v → Q (.ret v) g') : gwp w.K A (execs ((bodyOf st_nl_gt).drop 3) w.en) Q g := by
 refine gx_forAny (fun k g' => ∃ ch cs e tok, k = (if e then 0 else cs.length + 1) ∧ LxF w tok ch cs e g' ∧ (e = false → tok = [] ∧ lexA 0 [] cs = (tokR, restR)) ∧ (e = true → (tok, cs) = (tokR, restR))) (.ref w.it) (chars.length + 1) ?_ ?_
 ·refine H.n2.use r fun v g₁ l₁ hv => ?_
  cases Z22 hv
  exact (H.up l₁).iter ⟨rfl, ch, chars, false, [], rfl, H.up l₁, fun _ => ⟨rfl, h0⟩, fun z => by cases z⟩
 ·rintro m g₁ ⟨ch, cs, e, tok, rfl, H, h0, h1⟩
  cases e with
  | true =>
   cases h1 rfl
   exact H.h.ended r.1 (Z46 r H.n1 fun v g₂ l₂ hv => k _ _ v g₂ (H.up l₂) hv)
  | false =>
   obtain ⟨rfl, h2⟩ := h0 rfl
   clear h0 h1
   refine H.next X (n := n + 1) r (fun g₂ ec H2 => ?_) (fun c r2 v g₂ ec hv H2 => ?_)
   ·clear h0; subst ec
    cases (show ([], []) = (tokR, restR) from h2)
    exact Z46 r H2.n1 fun v g₂ l₂ hv => k _ _ v g₂ (H2.up l₂) hv
   ·clear h0; subst ec
    have hsz := H.h.sz
    clear H
    refine Z12 (H2.store hv fun g₃ H3 => ?_)
    clear H2 hv
    refine gx_if r (H3.ws X) (fun hc g₄ l₄ => ?_) (fun hc g₄ l₄ => Z57 ?_)
    ·rw [lexA, if_pos (of_decide_eq_true hc)] at h2
     exact Z10 (st_cont ⟨r2.length + 1, by exact Nat.le_refl _, some (.str [c]), r2, false, [], rfl, H3.up l₄, fun _ => ⟨rfl, h2⟩, fun z => by cases z⟩)
    ·have hc' : ¬ c ∈ wsL := of_decide_eq_false hc
     have H4 := H3.up l₄
     clear H3
     have kend : ∀ ch' g', LxF w tokR ch' [] true g' → restR = [] → ∃ m, m < (if false = true then 0 else (c :: r2).length + 1) ∧ ∃ ch cs e tok, m = (if e then 0 else cs.length + 1) ∧ LxF w tok ch cs e g' ∧ (e = false → tok = [] ∧ lexA 0 [] cs = (tokR, restR)) ∧ (e = true → (tok, cs) = (tokR, restR)) := fun ch' g' H' e => by
      clear hc; subst e
      exact ⟨0, by exact Nat.succ_pos _, ch', [], true, tokR, rfl, H', (fun z => by cases z), fun _ => rfl⟩
     refine gx_if (v := ([c] == [34])) r (Z30 H4.n3 (Z31 rfl) op_seq) (fun hq g₅ l₅ => ?_) (fun hq g₅ l₅ => ?_)
     ·have hq' : c = 34 := by simpa using hq
      rw [lexA, if_neg hc', if_pos hq'] at h2
      have hlen : ([] : List Nat).length + r2.length ≤ 10001 := by simp at hsz ⊢; lia
      exact LxF.loop X (m := 1) (stop := fun c => [c] == [34]) (n := n) (fun _ => rfl) lexA_m1 (fun H => Z30 H.n3 (Z31 rfl) op_seq) (H4.up l₅) r hlen h2 rfl (fun ch v g' H' hv => k ch false v g' H' hv) fun ch' g' H' e => Z43 (Z43 (kend ch' g' H' e))
     ·have hq' : ¬ c = 34 := by simpa using hq
      refine (H4.up l₅).esc X r rfl fun s cs g₆ es H6 => ?_
      have h3 := esc_len es
      rw [lexA_m0 c r2 s cs es hc' hq'] at h2
      simp at hsz
      refine H6.aug r (Nat.le_trans (by simp; lia) (by decide : 10001 ≤ sizeLine)) fun g₇ H7 => ?_
      have hlen : ([] ++ s : List Nat).length + cs.length ≤ 10001 := by rw [List.nil_append]; lia
      exact LxF.loop X (m := 2) (stop := fun c => decide (c ∈ wsL)) (n := n) (fun _ => rfl) lexA_m2 (fun H => H.ws X) H7 r hlen h2 rfl (fun ch v g' H' hv => k ch false v g' H' hv) fun ch' g' H' e => Z43 (Z43 (kend ch' g' H' e))
end
theorem w_get_read (X : WX K) {x dx pb lf fs : Addr} {ln : Int} {chars : List Nat} (r : Room A (n + 10)) (hH : Holds (LexOwn x dx pb lf fs ln chars []) g) (hnd : [x, dx, pb, lf].Nodup) (hst : StreamAt g fs lf) (hsz : chars.length ≤ 10000) :
  gwp K A (call (.ref a_nl_gt) [.ref x]) (fun v g' => Rep g'.im (.str (lexA 0 [] chars).1) v ∧ LeX [x, dx, pb, lf] g g' ∧ Holds (LexOwn x dx pb lf fs (ln + chars.count 10 - (lexA 0 [] chars).2.count 10) (lexA 0 [] chars).2 []) g') g := by
 refine cps fun Q₀ k₀ => ?_
 refine Z14 (n := n + 8) (fn := []) (S' := []) (binds := [("self", .ref x)]) (bi := [(0, .raw (.ref x))]) X.f_nl_gt r (Z15 (by rfl)) ok_nl_gt so_nl_gt (Z3 X.gt gi_nl_gt)
  ⟨.inl rfl, Z27, trivial⟩ fun A' L cells cs g' r' H => ?_
 have l0 := H.le
 replace H := H.adoptB hH hnd
 replace hst := hst.up l0
 have hne : dx ≠ x := nd_ne hnd
 clear hH r; obtain ⟨ob, e1, its, m, rfl, hr⟩ := H.at (i := 2) rfl
 have hlen : its.size = 0 := by rw [← Array.length_toList, hr.length]; rfl
 refine gx_if (v := !its.isEmpty) r' (Z271 (Z139 H X.k_nl Z115 Z68 Z81 (i := 0) (j := 1) (d := .raw (.ref pb)) rfl rfl hne (by exact .tail _ (.tail _ (.tail _ (.head _)))) (pn H 0)) (truth_mu e1 (by lia))) (fun hc g₂ l₂ => ?_) (fun hc g₂ l₂ => ?_)
 ·have : its.size ≠ 0 := by exact bne_iff_ne.mp hc
  lia
 refine Z57 ?_
 replace H := H.up l₂
 replace hst := hst.up l₂
 refine Z88 (i := 1) (d := .str []) H r' rfl (Z31 rfl) fun g₃ l₃ H => ?_
 replace hst := hst.up l₃
 clear l₃ hlen e1 hr; refine E1_2 (H.at (i := 0) rfl) ?_
 rintro ox x1 x2
 refine E1_2 (H.at (i := 1) rfl) fun od d1 d2 => ?_
 have hxo : ox = instObj C_nl dx := x2
 clear x2; subst hxo
 refine Z10 (Z34 (Z33 ((pn H 4).useR r' fun g₄ l₄ => ?_)))
 refine Z19 (by intro a z; cases z) rfl (Z7 rfl (Z13 (Z171 ((pn (H.up l₄) 0).useR r' fun g₅ l₅ => ?_)) rfl))
 have l45 := l₄.trans l₅
 refine gwp_getBound X.k_nl Z115 lex_gh Z162 X.f_nl_rc ob_rc (Le.at l45 x1) (Le.at l45 d1) ((MO.inst _).mono _ _ _ l45.im d2) hne Z233 rfl fun p hp1 hp2 => ?_
 have l6 : Le g₅ (g₅.addIm p (mthObj a_nl_rc (.ref x))) := Le.addIm hp1
 have hp : (g₅.addIm p (mthObj a_nl_rc (.ref x))).im p = some (mthObj a_nl_rc (.ref x)) := Gh.addIm_self
 refine Z13 ((Z31 (l := []) rfl).use r' fun w g₇ l₇ p7 => Z17 ?_) rfl
 refine E1_1 (Z29 p7) ?_
 clear hp2 hp1 x1 d2 d1; rintro t rfl
 have l47 := l45.trans (l6.trans l₇)
 refine gwp_iter2 (l₇.im _ _ hp) fun it hi1 hi2 => ?_
 replace H := H.up l47
 replace hst := hst.up l47
 have hS : it ∉ [x, dx, pb, lf] := fun hm => by
  have h8 : ∃ q ∈ LexOwn x dx pb lf fs ln chars [], q.1 = it := List.mem_map.mp (show it ∈ (LexOwn x dx pb lf fs ln chars []).map (·.1) from hm)
  refine E1_2 h8 ?_
  clear h8 hm hi1 p7 l6; rintro q hq rfl
  refine E1_2 (H.holds q hq) fun o ho _ => ?_
  rw [hi2] at ho; cases ho
 have hba : g.mu it = none ∨ it ∈ [x, dx, pb, lf] := .inl (by
  clear hi1 p7 l6; cases e : g.mu it with
  | none => rfl
  | some o => have := H.le.mu it o hS e; rw [hi2] at this; cases this)
 have l8 : Le _ (Gh.setMu _ it (ciObj (.ref p) (.str (S []) t) false)) := Le.addMu hi2
 have H₈ := Frm.back (l₁ := LexOwn x dx pb lf fs ln chars []) (l₂ := []) (p := (it, MO.obj (itO p t false)))
  (Frm.adopt (ms := [(it, MO.obj (itO p t false))]) (H.up l8) H (all1 ⟨_, Gh.setMu_self, rfl⟩) (by simp) (by simp [hi2]) (all1 (hba.symm)))
 replace hp := l8.im _ _ (l₇.im _ _ hp)
 replace hst := hst.up l8
 have etot : ln = (ln + chars.count 10) - chars.count 10 := by lia
 have H₉ : LexFr K g [] cs (fnEnv fd_nl_gt a_nl_gt L cells) (scopeOf st_nl_gt).names _ x dx pb lf fs it p t (ln + chars.count 10) chars [] false _ := ⟨by rw [LexIt, ← etot]; exact H₈, hp, hst, hsz, hnd⟩
 clear H₈ H hst hp
 refine H₉.F.storeLocal (i := 2) (d := .raw (.ref it)) rfl Z27 fun g₉ l₉ F₉ => ?_
 refine w_get_loop (w := ⟨K, g, cs, L, cells, x, dx, pb, lf, fs, it, p, t, ln + chars.count 10⟩) (n := n) X r' (ch := none) (chars := chars) ⟨(H₉.setF l₉ F₉).less (by repeat (first | exact trivial | refine And.intro rfl ?_))⟩ rfl fun ch e v g' H hv => ?_
 exact (k₀ _ _ ⟨hv, H.h.F.le, H.h.lex⟩)
theorem MO.inst_sub {L L' : List (Str × D)} {im : Im} {o : Obj} (h : (MO.inst L).P im o) (h1 : ∀ p ∈ L', p ∈ L) (h2 : ∀ p ∈ L, p ∈ L') : (MO.inst L').P im o := by
 refine E1_3 h fun m m1 m2 m3 => ?_
 refine ⟨m, m1, fun x d hx => m2 x d (h1 _ hx), fun x hx => m3 x fun hm => hx ?_⟩
 refine E1_2 (List.mem_map.mp hm) ?_
 clear hm hx m3 m2 h1; rintro p hp rfl
 exact List.mem_map_of_mem (h2 p hp)
theorem putN_new {L : List (Str × D)} {x : Str} {d : D} (h : x ∉ L.map (·.1)) : putN L x d = (x, d) :: L := by
 unfold putN
 congr 1
 refine List.filter_eq_self.mpr fun p hp => ?_
 simp only [bne_iff_ne, ne_eq]
 rintro rfl
 exact h (List.mem_map_of_mem hp)
theorem Z122 {L : List (Str × D)} {x : Str} {d : D} : (putN L x d).length ≤ L.length + 1 := by
 unfold putN
 rw [List.length_cons]
 exact Nat.succ_le_succ (List.length_filter_le _ _)
theorem init_L {fs pb : Addr} : putN (putN (putN (putN [] (Str.ofString "lineno") (.int 1)) (Str.ofString "instream") (.raw (.ref fs))) (Str.ofString "whitespace") (.str [10, 9, 13, 32])) (Str.ofString "pushback") (.raw (.ref pb)) =
  [(Str.ofString "pushback", .raw (.ref pb)), (Str.ofString "whitespace", .str [10, 9, 13, 32]), (Str.ofString "instream", .raw (.ref fs)), (Str.ofString "lineno", .int 1)] := by
 have h1 : ((Str.ofString "lineno") != (Str.ofString "instream")) = true := by decide +kernel
 have h2 : ((Str.ofString "lineno") != (Str.ofString "whitespace")) = true := by decide +kernel
 have h3 : ((Str.ofString "lineno") != (Str.ofString "pushback")) = true := by decide +kernel
 have h4 : ((Str.ofString "instream") != (Str.ofString "whitespace")) = true := by decide +kernel
 have h5 : ((Str.ofString "instream") != (Str.ofString "pushback")) = true := by decide +kernel
 have h6 : ((Str.ofString "whitespace") != (Str.ofString "pushback")) = true := by decide +kernel
 simp only [putN, List.filter, h1, h2, h3, h4, h5, h6]
theorem w_init (X : WX K) {x dx fs : Addr} (r : Room A (n + 2)) (hH : Holds [(x, MO.obj (instObj C_nl dx)), (dx, MO.inst [])] g) (hnd : [x, dx].Nodup) :
  gwp K A (call (.ref a_nl_init) [.ref x, .ref fs]) (fun v g' => v = .none ∧ ∃ pb, g.mu pb = none ∧ pb ∉ [x, dx] ∧ LeX [x, dx] g g' ∧ Holds [(x, MO.obj (instObj C_nl dx)), (dx, MO.inst (lexL 1 fs pb)), (pb, MO.list [])] g') g := by
 refine cps fun Q₀ k₀ => ?_
 refine Z14 (n := n) (fn := []) (S' := []) (binds := [("self", .ref x), ("fp", .ref fs)]) (bi := [(0, .raw (.ref x)), (1, .raw (.ref fs))]) X.f_nl_init r (Z15 (by rfl)) ok_nl_init so_nl_init (Z3 X.gt gi_nl_init)
  ⟨.inl rfl, Z27, .inl rfl, Z27, trivial⟩ fun A' L cells cs g' r' H => ?_
 have l0 := H.le
 replace H := H.adoptB hH hnd
 have hne : dx ≠ x := nd_ne hnd
 have hC : K.B.h₀.objs.size > C_nl := Nat.lt_of_lt_of_le (by decide) (Nat.le_of_lt X.low)
 refine Z183 (i := 0) (j := 1) (d := .int 1) H r' X.k_nl lex_sa Z124 Z158 hC rfl rfl hne (by decide) (pn H 0) Z11 fun g₁ l₁ H => ?_
 refine Z183 (i := 0) (j := 1) (d := .raw (.ref fs)) H r' X.k_nl lex_sa Z196 Z227 hC rfl rfl hne (Nat.le_trans Z122 (by decide)) (pn H 0) (pn H 1) fun g₂ l₂ H => ?_
 refine Z183 (i := 0) (j := 1) (d := .str [10, 9, 13, 32]) H r' X.k_nl lex_sa Z131 Z157 hC rfl rfl hne (Nat.le_trans Z122 (Nat.le_trans (Nat.succ_le_succ Z122) (by decide))) (pn H 0) (Z31 rfl) fun g₃ l₃ H => ?_
 refine Z10 (Z119 (Z186 Z5 r' (by decide) fun pb g₄ its l₄ i4 m4 hr => ?_))
 have lm : Le g₄ (g₄.setMu pb (sq "list" its 0)) := Le.addMu m4
 replace H := H.up (l₄.trans lm)
 refine (pn H 0).useR r' fun g₅ l₅ => ?_
 replace H := H.up l₅
 clear i4 hnd; refine E1_2 (H.at (i := 0) rfl) ?_
 rintro ox x1 x2
 refine E1_2 (H.at (i := 1) rfl) fun od d1 d2 => ?_
 have hxo : ox = instObj C_nl dx := x2
 clear x2; subst hxo
 refine Z144 X.k_nl lex_sa Z68 Z81 hC x1 d1 d2 hne (d := .raw (.ref pb)) Z27 (Nat.le_trans Z122 (Nat.le_trans (Nat.succ_le_succ Z122) (Nat.le_trans (Nat.succ_le_succ (Nat.succ_le_succ Z122)) (by decide : 3 ≤ sizeLine)))) fun o' ho' => ?_
 replace H := H.adv (i := 1) rfl (LeX.setMu (a := dx) (o := o')) ⟨o', Gh.setMu_self, ho'⟩ MO.inst_cell
 have hS : pb ∉ [x, dx] := fun hm => by
  have h5 : (g₅.mu pb) = some (sq "list" its 0) := Le.at l₅ Gh.setMu_self
  simp only [List.mem_cons, List.not_mem_nil, or_false] at hm
  rcases hm with rfl | rfl
  ·clear hC; cases ((x1).symm.trans h5)
  ·clear x1 hC; cases ((d1).symm.trans h5); obtain ⟨m, m1, _⟩ := d2; obtain ⟨es, ep, e1, _⟩ := m1; cases e1
 have hpb : (Gh.setMu g₅ dx o').mu pb = some (sq "list" its 0) := (Gh.setMu_other (fun e => hS (by rw [e]; simp))).trans (Le.at l₅ Gh.setMu_self)
 clear x1 d1 hC; refine E1_2 (H.at (i := 0) rfl) ?_
 rintro ox x1' x2'
 refine E1_2 (H.at (i := 1) rfl) fun od' d1' d2' => ?_
 refine Z43 (k₀ _ _ ⟨rfl, pb, ?_, hS, H.le, ?_⟩)
 ·cases e : g.mu pb with
  | none => rfl
  | some o =>
   have h6 := l₁.mu _ _ (fun hm => hS (by clear d2' hpb hS H ho' d2 l₅ lm hH r; simp at hm; simp [hm])) (l0.mu _ _ (by exact List.not_mem_nil) e)
   have h7 := l₄.at (l₃.mu _ _ (fun hm => hS (by clear d2' hpb hS H ho' d2 l₅ lm hH r; simp at hm; simp [hm])) (l₂.mu _ _ (fun hm => hS (by clear d2' hpb hS H ho' d2 l₅ lm hH r; simp at hm; simp [hm])) h6))
   clear h6 e hS H ho' d2 lm l₃ l₂ l₁ hH r; cases ((m4).symm.trans h7)
 ·intro p hp
  simp only [List.mem_cons, List.not_mem_nil, or_false] at hp
  rcases hp with rfl | rfl | rfl
  ·exact ⟨ox, x1', x2'⟩
  ·rw [init_L] at d2'
   exact ⟨od', d1', MO.inst_sub d2' (allc (.tail _ (.tail _ (.tail _ (.head _)))) (allc (.tail _ (.tail _ (.head _))) (allc (.tail _ (.head _)) (all1 (.head _))))) (allc (.tail _ (.tail _ (.tail _ (.head _)))) (allc (.tail _ (.tail _ (.head _))) (allc (.tail _ (.head _)) (all1 (.head _)))))⟩
  ·exact ⟨_, hpb, its, 0, rfl, hr.mono (l₅.im)⟩
theorem gwp_keeperCls {C N : Addr} {bm : List Value} {newId : String} {mN : Str → Option Value} {Q : Keeper → Gh → Prop} (hc : ClsB K.B C N bm newId mN) (q : Q .machine g) : gwp K A (keeperOf (.ref C)) Q g := fun s E ok => by
 refine hc.elim ok ?_
 intro nm q' bs sn sub col dd k0 k1 k2 k3 k5 hC hNS
 exact wpAny_keeperOf_exc hC ⟨g, ok, q⟩
theorem Z105 {pos : Pos} {C N : Addr} {bm : List Value} {newId : String} {mN : Str → Option Value} {args : List (Bool × Sem Value)} {Q : Value → Gh → Prop} (hc : ClsB K.B C N bm newId mN) (hplain : args.any (·.1) = false)
  (h : gwp K A (evalArgs (.ref C) true args []) (fun a g₁ => gwp K A (call (.ref C) a.pos a.kw) Q g₁) g) : gwp K A (callWith pos (.ref C) [] args []) Q g :=
 Z200 hplain (Z9 h fun a g₁ h₁ => gwp_keeperCls hc ⟨.inr (.inl rfl), h₁⟩)
theorem w_netrclex (X : WX K) {fs : Addr} (r : Room A (n + 4)) :
  gwp K A (call (.ref C_nl) [.ref fs]) (fun v g' => ∃ x dx pb, v = .ref x ∧ [x, dx, pb].Nodup ∧ g.mu x = none ∧ g.mu dx = none ∧ g.mu pb = none ∧ Le g g' ∧ Holds [(x, MO.obj (instObj C_nl dx)), (dx, MO.inst (lexL 1 fs pb)), (pb, MO.list [])] g') g := by
 refine gwp_newInst (n := n + 3) r X.k_nl lex_init X.f_nl_init fun A' x dx od g' r' l hx hdx hne h1 h2 h3 => ?_
 refine gM0_2 (w_init X (n := n + 1) r' (x := x) (dx := dx) (fun p hp => ?_) (by simpa using fun e => hne e.symm)) fun v g'' hv v00 => E1_4 v00 fun pb h4 h5 h6 h7 => ⟨hv, x, dx, pb, rfl, ?_, hx, hdx, ?_, ?_, h7⟩
 ·simp only [List.mem_cons, List.not_mem_nil, or_false] at hp
  rcases hp with rfl | rfl
  ·exact ⟨_, h1, rfl⟩
  ·exact ⟨_, h2, h3⟩
 ·simp only [List.mem_cons, List.not_mem_nil, or_false, not_or] at h5
  simp only [List.nodup_cons, List.mem_cons, List.not_mem_nil, or_false, not_or, not_false_eq_true, List.nodup_nil, and_true]
  exact ⟨⟨fun e => hne e.symm, fun e => h5.1 e.symm⟩, fun e => h5.2 e.symm⟩
 ·exact l.nomu h4
 ·exact ((LeX.of l).trans h6).forget (allc (.inr hx) (all1 (.inr hdx)))
end
end Mine
namespace Mine
section
open PySem PySem.Spec PySem.Calls PyProof.Rows PySem.W PySem.SeqAt
variable {K : Wd} {A : Around} {g : Gh} {n : Nat} {env : Env} {α : Type}
variable {b : Gh} {S' : List Addr} {fn : List Nat} {cs : List Addr} {nm : List (Str × NameKind)} {σ σ' : List (Option D)} {own : List (Addr × MO)}
theorem gwp_lambda {params : Arguments} {body : Expr} {scope : Scope} {pos : Pos} {c P : Addr} {q : Str} {cl : List (Str × Addr)} {Q : Value → Gh → Prop} (M : ModB K.B) (hgl : env.globals = mainGlobals) (hcl : closureFor scope env = pure cl)
  (hc : env.code = .ref c) (ht : (c, P) ∈ K.B.tabs) (hq : K.B.qn pos.line pos.col = some q) (hqq : env.qual ++ "<lambda>" = q)
  (h : ∀ a fd g', Le g g' → g.mu a = none → g'.mu a = none → g'.im a = none → Q (.ref a) (g'.setMu a (fnObj fd)))
  (hdef : defaultsOf params env = ([], []) := by rfl) (hkw : params.kwonlyargs = [] := by rfl) : gwp K A (eval (.Lambda params body scope pos) env) Q g := by
 rw [arm_eval_Lambda, hdef]
 show gwp K A (do let dv ← evalAll []; let kdv ← holding dv (evalAllOpt []); makeFunction "<lambda>" (env.qual ++ "<lambda>") params (.expr body) scope env dv kdv [] pos pos.line) Q g
 refine Z1 (Z4 (Z1 (Z18 (Z4 ?_))))
 rw [hqq]
 refine Z278 M hkw hgl hcl hc ht hq (fun b hb => by cases hb) fun g' c' pm ct l hrec => ?_
 exact fun s E ok => wpAny_newObj_type (T := "function") (dict := none) ⟨_, ok.pushMu (o := fnObj _) rfl, h _ _ g' l (l.nomu ok.fresh.2) ok.fresh.2 ok.fresh.1⟩ (by trivial)
theorem gwp_post {t : Sem α} {Q : α → Gh → Prop} (h : gwp K A t (fun v g' => (∃ s, g'.Ok K.B s) → ∃ g'' : Gh, (∀ s, g'.Ok K.B s → g''.Ok K.B s) ∧ Q v g'') g) : gwp K A t Q g := fun s E ok => wM1_2 (h s E ok) (fun v s' g' ok' h => E1_2 (h ⟨s', ok'⟩) fun g'' h1 h2 => ⟨g'', h1 s' ok', h2⟩)
theorem gwp_callTopF {a : Addr} {st : Stmt} {q : Str} {c : Addr} {dv pm ct : Value} {src : List Src} {vals : List Value} {binds : List (Str × Value)} {bi : List (Nat × D)} {Q : Value → Gh → Prop}
  (hf : FnB K.B a (topFd st q c [] dv pm ct)) (r : Room A (n + 2)) (hbind : BindTo K (topFd st q c [] dv pm ct) ⟨vals, []⟩ binds g)
  (hn : NamesOk (scopeOf st).names) (hsrc : srcOk [] (scopeOf st).names src = true) (hg : GlobsAre K.B (scopeOf st).names src) (hb : BindOk (scopeOf st).names fn g.im binds bi)
  (h : ∀ A' L cells cs g', Room A' n → (∀ c ∈ cs, g.mu c = none ∧ g.im c = none) → Frm K g S' fn cs (newEnv (scopeOf st) L mainGlobals cells (q ++ ".<locals>.") (some a) (.ref c) none builtinsNs) (scopeOf st).names (bindSt (srcSt [] src) bi) [] g' →
   gwp K A' (execs (bodyOf st) (newEnv (scopeOf st) L mainGlobals cells (q ++ ".<locals>.") (some a) (.ref c) none builtinsNs)) (RetQ Q) g')
  (hco : (scopeOf st).isCoroutine = false := by rfl) (hgen : (scopeOf st).isGenerator = false := by rfl) (hk : (scopeOf st).kind = .function := by rfl) :
  gwp K A (call (.ref a) vals) Q g := Z95 fun s E ok => by
 have hnf : ∀ x ∈ (scopeOf st).names, x.2 ≠ NameKind.free := fun x hx e => by
  refine E1_1 (List.getElem?_of_mem hx) fun i hi => ?_
  obtain ⟨y, k⟩ := x
  clear hx; cases e
  refine E1_2 (Z120 hsrc hi) fun s _ h1 => ?_
  clear hi; cases s <;> simp [srcOk1] at h1
 exact Z187 (fd := topFd st q c [] dv pm ct) (σ := srcSt [] src) r (hf.at ok) rfl hbind hn (Z49 hsrc) (Z66 hsrc hg) (ClosOk.nil hnf) hb (fun A' L cells cs g' hr _ _ h3 F => h A' L cells cs g' hr h3 F) rfl rfl hco hgen hk s E ok
theorem Gh.fix_mu {a c : Addr} {o : Obj} (h : c ≠ a) : (g.fix a o).mu c = g.mu c := if_neg h
theorem Gh.fix_im {a c : Addr} {o : Obj} (h : c ≠ a) : (g.fix a o).im c = g.im c := if_neg h
theorem noIm {a : Addr} {o : Obj} {s : Shared} (ok : g.Ok K.B s) (h : g.mu a = some o) : g.im a = none := ok.noIm h
theorem qq_law_read : (("_law_stream" : Str) ++ ".<locals>.") ++ "_law_read" = q_ls_lrd := by decide +kernel
theorem qq_law_lambda : (("_law_stream" : Str) ++ ".<locals>.") ++ "<lambda>" = "_law_stream.<locals>.<lambda>" := by decide +kernel
theorem w_law_stream (X : WX K) {lf : Addr} (r : Room A (n + 4)) : gwp K A (call (.ref a_ls) [.ref lf]) (fun v g' => ∃ fs, v = .ref fs ∧ Le g g' ∧ StreamAt g' fs lf) g := by
 refine gwp_post ?_
 refine gwp_callTopF (n := n + 2) (fn := [0]) (S' := []) (binds := [("left", .ref lf)]) (bi := [(0, .raw (.ref lf))]) X.f_ls r (Z15 (by rfl)) ok_ls so_ls (Z3 X.gt gi_ls)
  ⟨.inr ⟨rfl, by decide⟩, Z27, trivial⟩ fun A' L cells cs g' r' hcs H => ?_
 refine gx_def2 (src := mkSrcs GT sr_ls_lrd) (c := c_ls) (P := 191) (i := 1) (q := q_ls_lrd) X.md H rfl (.inl rfl) ok_ls_lrd Z218 rfl (X.tab _ (by decide)) (X.qnOf (by decide +kernel)) qq_law_read (by rfl) fun fr fdr g₁ c' pm ct hfd hfr l₁ H => ?_
 refine Z10 (Z34 (gwp_lambda (P := 191) X.md rfl (by rfl) rfl (X.tab _ (by decide)) (X.qnOf (q := "_law_stream.<locals>.<lambda>") (by decide +kernel)) qq_law_lambda fun fs fdl g₂ l₂ m0 m2 i2 => ?_))
 have lm : Le g₂ (g₂.setMu fs (fnObj fdl)) := Le.addMu m2
 have hba : fs ∈ ([] : List Addr) ∨ g.mu fs = none := .inr (by
  clear i2 m0; cases e : g.mu fs with
  | none => rfl
  | some o => have := (H.up l₂).le.mu fs o (by exact List.not_mem_nil) e; cases ((m2).symm.trans this))
 have H₂ := Frm.adopt (ms := [(fs, MO.obj (fnObj fdl))]) ((H.up l₂).up lm) (H.up l₂) (all1 ⟨_, Gh.setMu_self, rfl⟩) (by simp) (by simp [m2]) (all1 (hba))
 have hfr₂ : FnAt (g₂.setMu fs (fnObj fdl)).fixed fr fdr := hfr.le (LeX.fixed (l₂.trans lm))
 clear H hfr
 refine H₂.storeLocal (i := 2) (d := .raw (.ref fs)) rfl Z27 fun g₃ l₃ H => ?_
 have hfr₃ := hfr₂.le (LeX.fixed l₃)
 refine Z10 (Z119 ((pn H 1).useR r' fun g₄ l₄ => (pn (H.up l₄) 2).useR r' fun g₅ l₅ => ?_))
 replace H := H.up (l₄.trans l₅)
 have hfr₅ := hfr₃.le (LeX.fixed (l₄.trans l₅))
 clear hfr₂ i2 m2 m0; refine E1_2 (H.at (i := 0) rfl) ?_
 rintro of f1 f2
 have hof : of = fnObj fdl := f2
 subst hof
 refine gwp_fnSetRead f1 fun dx od d1 d2 hne hns => ?_
 have l6 : LeX [fs] g₅ ((g₅.setMu dx od).setMu fs (fnObjD fdl dx)) := (LeX.of (Le.addMu d2)).trans LeX.setMu
 have hdx : g.mu dx = none := by
  clear d1 f2 f1; cases e : g.mu dx with
  | none => rfl
  | some o => have := H.le.mu dx o (by exact List.not_mem_nil) e; cases ((d2).symm.trans this)
 have hD₆ : ((g₅.setMu dx od).setMu fs (fnObjD fdl dx)).mu dx = some od := (Gh.setMu_other hne).trans Gh.setMu_self
 replace H := H.adv (i := 0) rfl l6 (m' := MO.obj (fnObjD fdl dx)) ⟨_, Gh.setMu_self, rfl⟩ (fun o w h => by have : o = _ := h; subst this; intro z; cases z)
 have hfr₆ := hfr₅.le (LeX.fixed l6)
 refine Z46 r' (pn H 2) fun v g₇ l₇ p7 => ?_
 have := Z22 p7; subst this
 replace H := H.up l₇
 have hfr₇ := hfr₆.le (LeX.fixed l₇)
 have hS₇ : g₇.mu fs = some (fnObjD fdl dx) := Le.at l₇ Gh.setMu_self
 have hD₇ : g₇.mu dx = some od := Le.at l₇ hD₆
 rintro ⟨s, ok⟩
 clear p7 l₇ d2 d1 f2 f1; refine E3_4 (H.cel 0 _ _ rfl (.inl rfl)) ?_
 rintro c oc w c1 c2 c3 c4
 refine E2_3 (H.cw 0 _ (by decide) rfl) fun c0 oc' e1 e2 e3 => ?_
 cases ((c1).symm.trans e1)
 refine E1_2 (c4 (.raw (.ref lf)) rfl) fun u hu hu' => ?_
 have hu2 := Z22 hu'; subst hu2; subst hu
 have hoc : oc = oc' := Gh.has.inj c2 (.inr e3) ok
 clear hu'; subst hoc
 have hcf : c ≠ fs := fun e => by clear c4 e1 c1 H hfr₆ hD₆ l6 hns l₃ H₂ hba l₁ hfd hcs r' r; subst e; cases ((hS₇).symm.trans e3); cases c3
 have hcd : c ≠ dx := fun e => by clear c4 e1 c1 H hfr₆ hD₆ l6 l₃ H₂ hba l₁ hfd hcs r' r; subst e; cases ((hD₇).symm.trans e3); exact hns.nocell _ c3
 refine ⟨((g₇.fix c oc).fix fs (fnObjD fdl dx)).fix dx od, fun s ok => ((ok.fix e3).fix ((Gh.fix_mu hcf.symm).trans hS₇)).fix ((Gh.fix_mu hne).trans ((Gh.fix_mu hcd.symm).trans hD₇)), fs, rfl, ?_, ?_⟩
 ·have hi1 : g₇.im c = none := noIm ok e3
  have hi2 : (g₇.fix c oc).im fs = none := (Gh.fix_im hcf.symm).trans (noIm ok hS₇)
  have hi3 : ((g₇.fix c oc).fix fs (fnObjD fdl dx)).im dx = none := (Gh.fix_im hne).trans ((Gh.fix_im hcd.symm).trans (noIm ok hD₇))
  have l8 : LeX [c, fs, dx] g₇ (((g₇.fix c oc).fix fs (fnObjD fdl dx)).fix dx od) := ((LeX.fix hi1).sub (by exact all1 (.head _))).trans (((LeX.fix hi2).sub (by exact all1 (.tail _ (.head _)))).trans ((LeX.fix hi3).sub (by exact all1 (.tail _ (.tail _ (.head _))))))
  refine ((LeX.of H.le).trans l8).forget (fun a ha => .inr ?_)
  simp only [List.mem_cons, List.not_mem_nil, or_false] at ha
  rcases ha with rfl | rfl | rfl
  ·exact (hcs _ e2).1
  ·exact hba.resolve_left (by exact List.not_mem_nil)
  ·exact hdx
 ·clear c4 e2 e1 H hfr₆ hD₆ hdx l6 l₃ H₂ hba l₁ hcs r' r; subst hfd
  have hi1 : g₇.im c = none := noIm ok e3
  have hi2 : (g₇.fix c oc).im fs = none := (Gh.fix_im hcf.symm).trans (noIm ok hS₇)
  have hi3 : ((g₇.fix c oc).fix fs (fnObjD fdl dx)).im dx = none := (Gh.fix_im hne).trans ((Gh.fix_im hcd.symm).trans (noIm ok hD₇))
  have l8 : LeX [c, fs, dx] g₇ (((g₇.fix c oc).fix fs (fnObjD fdl dx)).fix dx od) := ((LeX.fix hi1).sub (by exact all1 (.head _))).trans (((LeX.fix hi2).sub (by exact all1 (.tail _ (.head _)))).trans ((LeX.fix hi3).sub (by exact all1 (.tail _ (.tail _ (.head _))))))
  refine ⟨dx, fr, fdl, od, _, c', pm, ct, (Gh.fix_im hne.symm).trans Gh.fix_self, Gh.fix_self, ?_, hfr₇.le l8.fixed, ?_⟩
  ·refine E2_4 hns fun es ep a1 a2 _ a4 => ?_
   exact ⟨es, ep, a1, a2, a4⟩
  ·have hcl : closOf (newEnv (scopeOf st_ls) L mainGlobals cells ("_law_stream" ++ ".<locals>.") (some a_ls) (.ref c_ls) none builtinsNs).cells (scopeOf st_ls_lrd).names [] = [(Str.ofString "left", c)] := by
    show [(Str.ofString "left", (cells.lookup (Str.ofString "left")).getD 0)] = _
    have c1' : cells.lookup (Str.ofString "left") = some c := c1
    clear l8 hi3 hi2 hi1 hfr₇ hfr₅ hfr₃ e3 c1 hD₇ hS₇ hns H; rw [c1']; rfl
   have hGc : (((g₇.fix c oc).fix fs (fnObjD fdl dx)).fix dx od).im c = some oc := (Gh.fix_im hcd).trans ((Gh.fix_im hcf).trans Gh.fix_self)
   show ClosOk _ (closOf (newEnv (scopeOf st_ls) L mainGlobals cells ("_law_stream" ++ ".<locals>.") (some a_ls) (.ref c_ls) none builtinsNs).cells (scopeOf st_ls_lrd).names []) _ _
   rw [hcl]
   refine ⟨fun i x hi => ?_, fun p hp => ?_, by simp⟩
   ·rcases i with _ | _ | i
    ·clear hcl l8 hi3 hi2 hi1 hfr₇ hfr₅ hfr₃ e3 c1 hD₇ hS₇ hns H; cases hi
    ·have hx : some (Str.ofString "left", NameKind.free) = some (x, NameKind.free) := hi
     clear hcl l8 hi3 hi2 hi1 hfr₇ hfr₅ hfr₃ e3 c1 hD₇ hS₇ hns H; cases hx
     refine ⟨c, oc, _, rfl, .inl hGc, c3, fun d hd => ?_⟩
     have hd' : some (some (D.raw (.ref lf))) = some (some d) := hd
     clear hd c3; cases hd'
     exact ⟨_, rfl, Z27⟩
    ·clear hcl l8 hi3 hi2 hi1 hfr₇ hfr₅ hfr₃ e3 c3 c1 hD₇ hS₇ hns H; cases hi
   ·clear hcl l8 hi3 hi2 hi1 hfr₇ hfr₅ hfr₃ e3 c3 c1 hD₇ hS₇ hns H; simp at hp; subst hp
    exact ⟨oc, .inl hGc⟩
end
end Mine
namespace Mine
section
open PySem PySem.Spec PySem.Calls PyProof.Rows PySem.W PySem.SeqAt
variable {K : Wd} {B : Base} {α β : Type} {A : Around} {g : Gh} {n : Nat} {env : Env} {c : Code}
variable {b : Gh} {S' : List Addr} {fn : List Nat} {cs : List Addr} {nm : List (Str × NameKind)} {σ σ' : List (Option D)} {own : List (Addr × MO)}
theorem Z134 {st : Stmt} {rest : List Stmt} {Q : Flow → Gh → Prop} (h : gat K A c (exec st env) (fun f g' => match f with | .next => gat K A c (execs rest env) Q g' | f => Q f g') g) : gat K A c (execs (st :: rest) env) Q g := fun s E ok =>
 ks_wpAt_execs_cons (_root_.PySem.wpAt_mono (h s E ok) (fun f s' z₀ => E1_2 z₀ fun g' h1 h2 => by
  cases f with
  | next => exact h2 s' E h1
  | _ => exact ⟨g', h1, h2⟩) fun _ _ z => z)
theorem gat_Expr {e : Expr} {pos : Pos} {Q : Flow → Gh → Prop} (h : gat K A c (eval e env) (fun _ g' => Q .next g') g) (hi : interactive env = false) (hs : swapsWith e none pos.line env = pure false := by rfl) : gat K A c (exec (.Expr e pos) env) Q g := fun s E ok =>
 ks_wpAt_Expr_any (h s E ok) hi hs
theorem Z261 {o : Expr} {name : Str} {apos pos : Pos} {args : List Expr} {pl : Sem Bool} {Q : Value → Gh → Prop}
  (h : gat K A c (attributeBase o name env (eval o env)) (fun ov g₁ => gwp K A (getMethod ov name pl) (fun fx g₂ => gwp K A (callWith pos fx.1 fx.2 (backTo pos (starEach args env)) []) Q g₂) g₁) g)
  (he : eval (.Call (.Attribute o name apos) args [] pos) env = (do
   let ov ← attributeBase o name env (eval o env)
   standAt apos.atName
   let (f, first) ← holding [ov] (getMethod ov name pl)
   callWith pos f first (backTo pos (starEach args env)) []) := by rfl) : gat K A c (eval (.Call (.Attribute o name apos) args [] pos) env) Q g := fun s E ok =>
 ks_wpAt_MethodCall (_root_.PySem.wpAt_mono (h s E ok) (fun ov s₁ z₀ => E1_2 z₀ fun g₁ ok₁ h₁ => wM1_2 (h₁ s₁ E ok₁) (fun fx s₂ g₂ ok₂ h₂ => h₂ s₂ E ok₂)) fun _ _ z => z) he
theorem gat_nil {Q : Flow → Gh → Prop} (h : Q .next g) : gat K A c (execs [] env) Q g := gat_of (Z43 h)
end
end Mine
namespace Mine
section
open PySem PySem.Spec PySem.Calls PyProof.Rows PySem.W
namespace FL
theorem split : splitId "list.__new__" = some ("list", "__new__") := by decide +kernel
theorem kind : builtinKind "list.__new__" = some .builtinFn := by decide +kernel
theorem row : Manifest.signature? "list.__new__" = some ⟨.any, "list", "list", .cls, [⟨"args", .varPos, false⟩, ⟨"kwargs", .varKw, false⟩]⟩ := by kernel_rfl
end FL
section
variable {prog : Program} {w : World} {A : Around} {E : Value → Shared → Prop} {h : Heap} {g : Array GenState} {d : Drawn} {t : Nat} {os : OsState}
variable {nm q : Str} {C N : Addr} {bs : List Value} {sn : List Str} {sub : List Value} {col : Option Bool} {dd : Option Addr} {k0 k1 k2 k3 k5 : Option Value}
theorem Z263 {M : Model} {rest : List Value} {Q : Unit → Shared → Prop}
  (hC : h.get? C = some (excClassObj nm q C N bs [.type "list", .type "object"] true sn sub false col dd k0 k1 k2 k3 k5 "list.__new__")) (hq : Q () ⟨h, g, d, t, os⟩) :
  wpAny M A (checkBuiltinCall "list.__new__" ⟨.ref C :: rest, []⟩) Q E ⟨h, g, d, t, os⟩ := by
 have hcont : (Value.ref C :: [Value.type "list", Value.type "object"]).contains (.type "list") = true := by rw [List.contains_cons, show [Value.type "list", Value.type "object"].contains (.type "list") = true from by decide, Bool.or_true]
 simp only [checkBuiltinCall, FL.kind, FL.split, FL.row]
 repeat (first | refine wpAny_loadPart_at hC ?_ | (refine wpAny_isSubtype_exc hC ?_; rw [hcont]) | refine wpAny_staticBase_exc hC ?_ | refine wpAny_madeBy_exc hC ?_ | simp only [bne_self_eq_false, Bool.false_eq_true, if_false] | wp_step)
 exact hq
noncomputable abbrev lsObj (C dx : Addr) (its : Array Value) (m : Nat) : Obj := { cls := .ref C, dict := some dx, data := .seq its m }
theorem Z174 {R : Result → Shared → Prop} {rest : List Value}
  (hC : h.get? C = some (excClassObj nm q C N bs [.type "list", .type "object"] true sn sub false col dd k0 k1 k2 k3 k5 "list.__new__"))
  (hq : R (.ok (.ret (.ref (h.objs.size + 1)))) ⟨(h.push { cls := .type "dict", data := .dict #[] }).push (lsObj C h.objs.size #[] 0), g, d, t, os⟩) :
  codeAny (model prog w) A (.builtin "list.__new__" ⟨.ref C :: rest, []⟩) R ⟨h, g, d, t, os⟩ := by
 have hcont : (Value.ref C :: [Value.type "list", Value.type "object"]).contains (.type "list") = true := by rw [List.contains_cons, show [Value.type "list", Value.type "object"].contains (.type "list") = true from by decide, Bool.or_true]
 have hown := owner_list_new
 have hT : (⟨h, g, d, t, os⟩ : Shared).TypeIs (.ref C) "type" := ⟨_, hC, rfl⟩
 refine codeAny_builtin_stack F.entry_list_new rfl fun p st => ?_
 simp only [hown]
 repeat (first | with_reducible refine wpAny_loadPart_at hC ?_ | (with_reducible refine wpAny_isSubtype_exc hC ?_; rw [hcont]) | wp_step)
 show R _ _
 rw [Heap.size_push]
 exact hq
theorem call_listsub {mN : Str → Option Value} {rest : List Value} {fI : Addr} {oI : Obj} {Q : Value → Shared → Prop}
  (hC : h.get? C = some (excClassObj nm q C N bs [.type "list", .type "object"] true sn sub false col dd k0 k1 k2 k3 k5 "list.__new__")) (hn : h.Ns N mN) (hi : mN "__init__" = some (.ref fI)) (hfI : h.get? fI = some oI) (hfc : oI.cls = .type "function")
  (hq : wpAny (model prog w) (A.under (.builtin "type.__call__" ⟨.ref C :: rest, []⟩)) (call (.ref fI) (.ref (h.objs.size + 1) :: rest)) (fun r s' => r = .none ∧ Q (.ref (h.objs.size + 1)) s') E ⟨(h.push { cls := .type "dict", data := .dict #[] }).push (lsObj C h.objs.size #[] 0), g, d, t, os⟩) :
  wpAny (model prog w) A (call (.ref C) rest) Q E ⟨h, g, d, t, os⟩ := by
 have f1 := tc_lookup
 have f2 := tc_bind (.ref C)
 have hT : (⟨h, g, d, t, os⟩ : Shared).TypeIs (.ref C) "type" := ⟨_, hC, rfl⟩
 have hlk : typeLookup (.type "list") "__init__" = pure (some (.builtin "list.__init__")) := by rw [typeLookup_type, builtinLookup_eq_fast]; kernel_rfl
 refine wpAny_call (codeAny_of_tree ?_)
 show wpAny _ _ (callAny (.ref C) _) _ _ _
 repeat (any_goals (first | assumption | with_reducible refine wpAny_loadPart_at hC ?_ | wp_step))
 refine ⟨rfl, ?_⟩
 refine codeAny_call_builtin_at (Code.quiet_builtin _ (by decide +kernel)) entry_typeCall (wpAny_check_type_call_sub hC ?_)
 repeat (first | with_reducible refine wpAny_loadPart_at hC ?_ | with_reducible refine wpAny_madeBy_exc hC ?_ | wp_step)
 refine codeAny_call_builtin_code (Code.quiet_builtin _ (by decide +kernel)) (Z263 hC ?_)
 refine Z174 hC ?_
 show wpAny _ _ _ _ _ _
 have k2' : ∀ b o, h.get? b = some o → ((h.push { cls := .type "dict", data := .dict #[] }).push (lsObj C h.objs.size #[] 0)).get? b = some o := fun b o e => Heap.get?_push_of_some _ (Heap.get?_push_of_some _ e)
 have hget : ((h.push { cls := .type "dict", data := .dict #[] }).push (lsObj C h.objs.size #[] 0)).get? (h.objs.size + 1) = some (lsObj C h.objs.size #[] 0) := by
  have := Heap.get?_push_size (h.push { cls := .type "dict", data := .dict #[] }) (o := lsObj C h.objs.size #[] 0) rfl
  rwa [Heap.size_push] at this
 have hcC : (Value.ref C :: [Value.type "list", Value.type "object"]).contains (.ref C) = true := by simp
 repeat (first | with_reducible refine wpAny_loadPart_at hget ?_ | (with_reducible refine wpAny_isSubtype_exc (k2' _ _ hC) ?_; rw [hcC]) | wp_step)
 show wpAny _ _ (typeLookup (.ref C) _) _ _ _
 refine wpAny_typeLookup_exc (k2' _ _ hC) (hn.keeps k2') F.mro_list hlk ?_
 rw [hi]
 refine wpAny_holding (wpAny_bind ?_)
 refine wpAny_bind (wpAny_typeOf (T := "function") ⟨_, k2' _ _ hfI, hfc⟩ ?_)
 rw [if_pos (by decide)]
 refine wpAny_pure (wpAny_bind (wpAny_mono hq (fun r s' hr => ?_) fun _ _ x => x))
 obtain ⟨rfl, hQ⟩ := hr
 wp_walk
 exact hQ
end
end
end Mine
namespace Mine
section
open PySem PySem.Spec PySem.Calls PyProof.Rows PySem.W PySem.SeqAt
variable {K : Wd} {B : Base} {α β : Type} {A : Around} {g : Gh} {n : Nat} {env : Env}
variable {b : Gh} {S' : List Addr} {fn : List Nat} {cs : List Addr} {nm : List (Str × NameKind)} {σ σ' : List (Option D)} {own : List (Addr × MO)}
noncomputable def MO.lsub (C dx : Addr) (ds : List D) : MO := ⟨fun im o => ∃ its m, o = lsObj C dx its m ∧ Reps im ds its.toList, fun im im' o l z₀ => E2_2 z₀ fun its m e h => ⟨its, m, e, h.mono l⟩⟩
theorem MO.lsub_cell {C dx : Addr} {ds : List D} {im : Im} (o : Obj) (w : Option Value) (h : (MO.lsub C dx ds).P im o) : o.data ≠ .cell w := by
 obtain ⟨its, m, rfl, _⟩ := h; intro z; cases z
theorem gwp_newSub {C N fI : Addr} {mN : Str → Option Value} {fd : FuncData} {vals : List Value} {Q : Value → Gh → Prop} (r : Room A (n + 1)) (hc : ClsB K.B C N [.type "list", .type "object"] "list.__new__" mN) (hi : mN "__init__" = some (.ref fI)) (hfn : FnB K.B fI fd)
  (h : ∀ A' x dx od g', Room A' n → Le g g' → g.mu x = none → g.mu dx = none → dx ≠ x → g'.mu x = some (lsObj C dx #[] 0) → g'.mu dx = some od → (MO.inst []).P g'.im od → gwp K A' (call (.ref fI) (.ref x :: vals)) (fun v g'' => v = .none ∧ Q (.ref x) g'') g') : gwp K A (call (.ref C) vals) Q g := fun s E ok => by
 refine hc.elim ok ?_
 intro nm q' bs sn sub col dd k0 k1 k2 k3 k5 hC hNS
 refine E1_3 hfn.obj fun of f1 f2 f3 => ?_
 obtain ⟨hp, gs, dr, tk, os⟩ := s
 refine call_listsub hC hNS hi (ok.im _ _ (ok.base _ _ f1)) f3 ?_
 have ok1 := ok.pushMu (o := ({ cls := .type "dict", data := .dict #[] } : Obj)) rfl
 have ok2 := ok1.pushMu (o := lsObj C hp.objs.size #[] 0) rfl
 have l1 : Le g (g.setMu hp.objs.size { cls := .type "dict", data := .dict #[] }) := Le.addMu ok.fresh.2
 have l2 := Le.addMu (o := lsObj C hp.objs.size #[] 0) ok1.fresh.2
 have hs : (hp.push ({ cls := .type "dict", data := .dict #[] } : Obj)).objs.size = hp.objs.size + 1 := Heap.size_push ..
 simp only [hs] at ok2 l2
 have hne : hp.objs.size ≠ hp.objs.size + 1 := Nat.ne_of_lt (Nat.lt_succ_self _)
 refine wpAny_mono (h _ (hp.objs.size + 1) hp.objs.size { cls := .type "dict", data := .dict #[] } _ (r.under1 (Z107 _ _) (Z130 _ _)) (l1.trans l2) (l1.nomu (by have := ok1.fresh.2; simp only [hs] at this; exact this)) ok.fresh.2 hne Gh.setMu_self ((Gh.setMu_other hne).trans Gh.setMu_self) ⟨fun _ => none, ⟨#[], 0, rfl, fun e he => by simp at he, ?_, fun _ => rfl⟩, by simp, by lia⟩ _ E ok2) (fun v s' hh => ?_) fun _ _ z => z
 ·have := (Heap.Ns1.of_empty (h := hp.push { cls := .type "dict", data := .dict #[] }) (a := hp.objs.size) ⟨_, #[], _, Heap.get?_push_size _ rfl, rfl, fun e he => by simp at he, fun _ => rfl⟩)
  refine E3_5 this fun o es ep e1 e2 e3 e4 e5 => ?_
  clear e5 this hne l2 ok2 hs l1 ok1 ok f1 hC h hi hc r; rw [Heap.get?_push_size _ rfl] at e1
  cases e1; cases e2; exact e4
 ·refine E1_3 hh ?_
  clear hh hne l2 ok2 hs l1 ok1 ok f1 hC h hi hc r; rintro g' ok' rfl hq
  exact ⟨rfl, g', ok', hq⟩
end
end Mine
namespace Mine
section
open PySem PySem.Spec PySem.Calls PyProof.Rows PySem.W Builtin Builtin.ObjectAttr
namespace FL
theorem lk_ga : typeLookup (.type "list") "__getattribute__" = pure (some (.builtin "list.__getattribute__")) := by rw [typeLookup_type, builtinLookup_eq_fast]; kernel_rfl
theorem lk_sa : typeLookup (.type "list") "__setattr__" = pure (some (.builtin "object.__setattr__")) := by rw [typeLookup_type, builtinLookup_eq_fast]; kernel_rfl
theorem lk_getattr : typeLookup (.type "list") "__getattr__" = pure none := by rw [typeLookup_type, builtinLookup_eq_fast]; kernel_rfl
theorem canon_ga : (Manifest.canonical "list.__getattribute__" != "object.__getattribute__") = false := by decide +kernel
theorem slot_ga : Slot "list" "__getattribute__" "list.__getattribute__" :=
 .of (owner := "list") (n := "__getattribute__") lk_ga (by decide +kernel) (by decide +kernel) (by decide +kernel)
  (by first | exact .inl (by decide +kernel) | exact .inr (by decide +kernel)) (by rw [isSubtype_type]; kernel_rfl)
theorem args_ga (a b : Value) : argsOk "list.__getattribute__" ⟨[a, b], []⟩ := by delta argsOk; kernel_rfl
theorem entry_ga : entryFor table "list.__getattribute__" = some Builtin.«object.__getattribute__» :=
 entryFor_alias (id' := "object.__getattribute__") (by kernel_rfl) (by first | rfl | decide +kernel | (delta String.splitOn; simp +decide [String.splitOnAux])) (by decide +kernel) (by kernel_rfl)
end FL
section
variable {prog : Program} {w : World} {A : Around} {E : Value → Shared → Prop} {h : Heap} {g : Array GenState} {d : Drawn} {t : Nat} {os : OsState}
variable {nm q : Str} {C N x : Addr} {bs : List Value} {sn : List Str} {sub : List Value} {col : Option Bool} {dd : Option Addr} {k0 k1 k2 k3 k5 : Option Value} {ox : Obj}
theorem Z149 {id owner n : String} {b : Builtin} {rest : List Value} {Q : Value → Shared → Prop}
  (hC : h.get? C = some (excClassObj nm q C N bs [.type "list", .type "object"] true sn sub false col dd k0 k1 k2 k3 k5 "list.__new__")) (hx : h.get? x = some ox) (hxc : ox.cls = .ref C)
  (hsplit : splitId id = some (owner, n)) (hkind : (Manifest.find? owner).bind (·.attrs.lookup n) = some .slot ∨ (Manifest.find? owner).bind (·.attrs.lookup n) = some .method)
  (how : owner = "list" ∨ owner = "object") (hp : plainId id = true) (hb : entryFor table id = some b) (ha : argsOk id ⟨.ref x :: rest, []⟩)
  (hc : wpAny (model prog w) A.in1 (b ⟨.ref x :: rest, []⟩) (fun fin s' => ∃ v, fin = .done (.ret v) ∧ Q v s') E ⟨h, g, d, t, os⟩) : wpAny (model prog w) A (call (.builtin id) (.ref x :: rest)) Q E ⟨h, g, d, t, os⟩ := by
 have hcont : (Value.ref C :: [Value.type "list", Value.type "object"]).contains (.type owner) = true := by
  rw [List.contains_cons]
  rcases how with rfl | rfl
  ·rw [show [Value.type "list", Value.type "object"].contains (.type "list") = true from by decide, Bool.or_true]
  ·rw [show [Value.type "list", Value.type "object"].contains (.type "object") = true from by decide, Bool.or_true]
 refine wpAny_call (codeAny_call_builtin hp hb ?_)
 have hk : builtinKind id = (Manifest.find? owner).bind (·.attrs.lookup n) := by simp only [builtinKind, hsplit]
 refine wpAny_mono (Q := fun _ s₁ => s₁ = ⟨h, g, d, t, os⟩) (E := fun _ _ => False) ?_ (fun _ s₁ e => ?_) fun _ _ z => z.elim
 ·rcases hkind with hh | hh <;>
  ·simp only [checkBuiltinCall, hk, hh, hsplit]
   delta isInstance
   repeat (first | with_reducible refine wpAny_loadPart_at hx ?_ | with_reducible refine wpAny_bind ?_ | (with_reducible refine wpAny_isSubtype_exc hC ?_; rw [hcont]) | wp_step)
   rw [hxc]
   refine wpAny_isSubtype_exc hC ?_
   rw [hcont]
   cases hsig : Manifest.signature? id with
   | none => exact wpAny_pure rfl
   | some sig =>
    simp only [argsOk, hsig] at ha
    have h2 : Bind.checkArgs id sig ⟨.ref x :: rest, []⟩ = pure () := ha
    show wpAny _ _ (Bind.checkArgs id sig ⟨.ref x :: rest, []⟩) _ _ _
    rw [h2]; exact wpAny_pure rfl
 ·subst e
  exact wpAny_mono hc (fun fin s' h' => by obtain ⟨v, rfl, hv⟩ := h'; exact hv) fun _ _ z => z
theorem sub_ga_entry {mN mA : Str → Option Value} {name : Str} {v : Value} {tk : Tok} {dx : Addr} {Q : Fin → Shared → Prop}
  (hC : h.get? C = some (excClassObj nm q C N bs [.type "list", .type "object"] true sn sub false col dd k0 k1 k2 k3 k5 "list.__new__")) (hn : h.Ns N mN) (hna : mN name = none)
  (hB : typeLookup (.type "list") name = pure none) (hx : h.get? x = some ox) (hxc : ox.cls = .ref C) (hnc : ∀ c, ox.data ≠ .cls c) (hdx : ox.dict = some dx) (hns : h.Ns dx mA) (hv : mA name = some v) (hq : Q (.done (.ret v)) ⟨h, g, d, t, os⟩) :
  wpAny (model prog w) A (Builtin.«object.__getattribute__» ⟨[.ref x, .str name tk], []⟩) Q E ⟨h, g, d, t, os⟩ := by
 repeat (first | (with_reducible refine wpAny_loadPart_at hx ?_; rw [hxc]) | (with_reducible refine wpAny_typeLookup_exc hC hn F.mro_list hB ?_; rw [hna]) | wp_step)
 split
 ·rename_i c hcd
  exact absurd hcd (hnc c)
 repeat (first | (with_reducible refine wpAny_loadPart_at hx ?_; rw [hxc]) | with_reducible refine wpAny_loadPart_at hC ?_ | wp_step)
 rw [hdx]
 repeat (first | (with_reducible refine wpAny_nsGet hns ?_; rw [hv]) | wp_step)
 exact hq
theorem sub_getattr {mN mA : Str → Option Value} {name : Str} {v : Value} {dx : Addr} {expr : Bool} {Q : Value → Shared → Prop}
  (hC : h.get? C = some (excClassObj nm q C N bs [.type "list", .type "object"] true sn sub false col dd k0 k1 k2 k3 k5 "list.__new__")) (hn : h.Ns N mN) (hng : mN "__getattribute__" = none) (hnh : mN "__getattr__" = none) (hna : mN name = none)
  (hB : typeLookup (.type "list") name = pure none) (hx : h.get? x = some ox) (hxc : ox.cls = .ref C) (hnc : ∀ c, ox.data ≠ .cls c) (hdx : ox.dict = some dx) (hns : h.Ns dx mA) (hv : mA name = some v) (hh : handedOut v = pure v) (hq : Q v ⟨h, g, d, t + 1, os⟩) :
  wpAny (model prog w) A (getAttr (.ref x) name expr) Q E ⟨h, g, d, t, os⟩ := by
 repeat (first | (with_reducible refine wpAny_loadPart_at hx ?_; rw [hxc]) | (with_reducible refine wpAny_typeLookup_exc hC hn F.mro_list FL.lk_ga ?_; rw [hng]) | wp_step)
 refine wpAny_typeLookup_exc hC hn F.mro_list FL.lk_getattr ?_
 rw [hnh]
 refine wpAny_bind (wpAny_attempt (wpAny_holding ?_))
 delta callGetattribute
 rw [if_neg (show ¬ (expr && onTheHeap (.builtin "list.__getattribute__")) = true from by simp [onTheHeap])]
 refine wpAny_bind (wpAny_of_eq (FL.slot_ga.bind _) ?_)
 show wpAny _ _ (call (.builtin "list.__getattribute__") [.ref x, .str name t]) _ _ _
 refine Z149 (n := "__getattribute__") hC hx hxc (by decide +kernel) (by first | exact .inl (by decide +kernel) | exact .inr (by decide +kernel)) (.inl rfl) (by decide +kernel) FL.entry_ga (FL.args_ga _ _) ?_
 refine sub_ga_entry hC hn hna hB hx hxc hnc hdx hns hv ⟨_, rfl, ?_⟩
 show wpAny _ _ (handedOut v) _ _ _
 rw [hh]
 exact wpAny_pure hq
end
end
end Mine
namespace Mine
section
open PySem PySem.Spec PySem.Calls PyProof.Rows PySem.W PySem.SeqAt
variable {K : Wd} {B : Base} {α β : Type} {A : Around} {g : Gh} {n : Nat} {env : Env}
variable {b : Gh} {S' : List Addr} {fn : List Nat} {cs : List Addr} {nm : List (Str × NameKind)} {σ σ' : List (Option D)} {own : List (Addr × MO)}
theorem FL.store_list : StoreFacts "list" [.type "list", .type "object"] "object.__setattr__" "object" where
 mro := F.mro_list
 slot := .of (owner := "object") (n := "__setattr__") FL.lk_sa (by decide +kernel) (by decide +kernel) (by decide +kernel)
  (by first | exact .inl (by decide +kernel) | exact .inr (by decide +kernel)) (by rw [isSubtype_type]; kernel_rfl)
 entry := F.store_object.entry
 kind := by decide +kernel
 split := by decide +kernel
 hasOwner := by decide +kernel
 args := F.store_object.args
 passes := fun self => by kernel_rfl
theorem gwp_setAttrS {x dx C N : Addr} {od : Obj} {mN : Str → Option Value} {L : List (Str × D)} {name : Str} {d : D} {v : Value} {its : Array Value} {mm : Nat} {Q : Unit → Gh → Prop} (hc : ClsB K.B C N [.type "list", .type "object"] "list.__new__" mN) (hns : mN "__setattr__" = none) (hna : mN name = none) (hB : typeLookup (.type "list") name = pure none) (hxC : K.B.h₀.objs.size > C)
  (hx : g.mu x = some (lsObj C dx its mm)) (hd : g.mu dx = some od) (hm : (MO.inst L).P g.im od) (hne : dx ≠ x) (hr : Rep g.im d v) (hsz : L.length ≤ sizeLine) (q : ∀ o', (MO.inst (putN L name d)).P g.im o' → Q () (g.setMu dx o')) : gwp K A (setAttr (.ref x) name v) Q g :=
 Z167 FL.store_list hc hns hna hB hxC hx rfl rfl (fun c z => nomatch z) hd hm hne hr hsz q
end
end Mine
namespace Mine
section
open PySem PySem.Spec PySem.Calls PyProof.Rows PySem.W PySem.SeqAt
section
variable {prog : Program} {w : World} {A : Around} {E : Value → Shared → Prop} {h : Heap} {g : Array GenState} {d : Drawn} {t : Nat} {os : OsState}
variable {nm q : Str} {C N x : Addr} {bs : List Value} {sn : List Str} {sub : List Value} {col : Option Bool} {dd : Option Addr} {k0 k1 k2 k3 k5 : Option Value} {ox : Obj} {mN mA : Str → Option Value} {name : Str} {dx : Addr}
set_option maxHeartbeats 1000000 in
theorem sub_method {pl : Sem Bool} {f : Addr} {of : Obj} {Q : Value × List Value → Shared → Prop}
  (hC : h.get? C = some (excClassObj nm q C N bs [.type "list", .type "object"] true sn sub false col dd k0 k1 k2 k3 k5 "list.__new__")) (hn : h.Ns N mN) (hng : mN "__getattribute__" = none) (hnh : mN "__getattr__" = none)
  (hf : mN name = some (.ref f)) (hfo : h.get? f = some of) (hfc : of.cls = .type "function") {y : Option Value} (hB : typeLookup (.type "list") name = pure y)
  (hx : h.get? x = some ox) (hc : ox.cls = .ref C) (hdx : ox.dict = some dx) (hns : h.Ns dx mA) (hsh : mA name = none) (hq : Q (.ref f, [.ref x]) ⟨h, g, d, t, os⟩) :
  wpAny (model prog w) A (getMethod (.ref x) name pl) Q E ⟨h, g, d, t, os⟩ := by
 have hcan := FL.canon_ga
 repeat (first | (with_reducible refine wpAny_loadPart_at hx ?_; rw [hc]) | (with_reducible refine wpAny_typeLookup_exc hC hn F.mro_list FL.lk_ga ?_; rw [hng]) | (with_reducible refine wpAny_typeLookup_exc hC hn F.mro_list FL.lk_getattr ?_; rw [hnh]) | (with_reducible refine wpAny_typeLookup_exc hC hn F.mro_list hB ?_; rw [hf]) | (with_reducible refine wpAny_typeOf (T := "function") ⟨_, hfo, hfc⟩ ?_) | dsimp only [hcan, Bool.false_eq_true, if_false] | wp_step)
 rw [hdx]
 repeat (first | (with_reducible refine wpAny_nsGet hns ?_; rw [hsh]) | wp_step)
 exact hq
set_option maxHeartbeats 1000000 in
theorem sub_lmethod {pl : Sem Bool} {id : String} {Q : Value × List Value → Shared → Prop}
  (hC : h.get? C = some (excClassObj nm q C N bs [.type "list", .type "object"] true sn sub false col dd k0 k1 k2 k3 k5 "list.__new__")) (hn : h.Ns N mN) (hng : mN "__getattribute__" = none) (hnh : mN "__getattr__" = none)
  (hf : mN name = none) (hB : typeLookup (.type "list") name = pure (some (.builtin id))) (hty : typeOf (.builtin id) = pure (.type "method_descriptor"))
  (hx : h.get? x = some ox) (hc : ox.cls = .ref C) (hdx : ox.dict = some dx) (hns : h.Ns dx mA) (hsh : mA name = none) (hq : Q (.builtin id, [.ref x]) ⟨h, g, d, t, os⟩) :
  wpAny (model prog w) A (getMethod (.ref x) name pl) Q E ⟨h, g, d, t, os⟩ := by
 have hcan := FL.canon_ga
 repeat (first | (with_reducible refine wpAny_loadPart_at hx ?_; rw [hc]) | (with_reducible refine wpAny_typeLookup_exc hC hn F.mro_list FL.lk_ga ?_; rw [hng]) | (with_reducible refine wpAny_typeLookup_exc hC hn F.mro_list FL.lk_getattr ?_; rw [hnh]) | (with_reducible refine wpAny_typeLookup_exc hC hn F.mro_list hB ?_; rw [hf]) | (with_reducible refine wpAny_of_eq hty ?_) | dsimp only [hcan, Bool.false_eq_true, if_false] | wp_step)
 rw [hdx]
 repeat (first | (with_reducible refine wpAny_nsGet hns ?_; rw [hsh]) | wp_step)
 exact hq
end
end
end Mine
namespace Mine
section
open PySem PySem.Spec PySem.Calls PyProof.Rows PySem.W PySem.SeqAt
variable {K : Wd} {B : Base} {α β : Type} {A : Around} {g : Gh} {n : Nat} {env : Env}
theorem Z256 {x dx C N f : Addr} {its : Array Value} {mm : Nat} {od : Obj} {mN : Str → Option Value} {L : List (Str × D)} {name : Str} {fd : FuncData} {pl : Sem Bool} {y : Option Value} {Q : Value × List Value → Gh → Prop} (hc : ClsB K.B C N [.type "list", .type "object"] "list.__new__" mN) (hng : mN "__getattribute__" = none) (hnh : mN "__getattr__" = none) (hf : mN name = some (.ref f)) (hfn : FnB K.B f fd)
  (hB : typeLookup (.type "list") name = pure y) (hx : g.mu x = some (lsObj C dx its mm)) (hd : g.mu dx = some od) (hm : (MO.inst L).P g.im od) (hv : name ∉ L.map (·.1)) (q : Q (.ref f, [.ref x]) g) : gwp K A (getMethod (.ref x) name pl) Q g := fun s E ok => by
 refine hc.elim ok ?_
 intro nm q' bs sn sub col dd k0 k1 k2 k3 k5 hC hNS
 refine E1_3 hm fun m m1 m2 m3 => ?_
 refine E1_3 hfn.obj fun of f1 f2 f3 => ?_
 exact sub_method hC hNS hng hnh hf (ok.im _ _ (ok.base _ _ f1)) f3 hB (ok.mu _ _ hx) rfl rfl ((m1.ns1 (ok.mu _ _ hd)).ns) (m3 _ hv) ⟨g, ok, q⟩
theorem Z257 {x dx C N : Addr} {its : Array Value} {mm : Nat} {od : Obj} {mN : Str → Option Value} {L : List (Str × D)} {name : Str} {pl : Sem Bool} {id : String} {Q : Value × List Value → Gh → Prop} (hc : ClsB K.B C N [.type "list", .type "object"] "list.__new__" mN) (hng : mN "__getattribute__" = none) (hnh : mN "__getattr__" = none) (hf : mN name = none)
  (hB : typeLookup (.type "list") name = pure (some (.builtin id))) (hty : typeOf (.builtin id) = pure (.type "method_descriptor")) (hx : g.mu x = some (lsObj C dx its mm)) (hd : g.mu dx = some od) (hm : (MO.inst L).P g.im od) (hv : name ∉ L.map (·.1)) (q : Q (.builtin id, [.ref x]) g) : gwp K A (getMethod (.ref x) name pl) Q g := fun s E ok => by
 refine hc.elim ok ?_
 intro nm q' bs sn sub col dd k0 k1 k2 k3 k5 hC hNS
 refine E1_3 hm fun m m1 m2 m3 => ?_
 exact sub_lmethod hC hNS hng hnh hf hB hty (ok.mu _ _ hx) rfl rfl ((m1.ns1 (ok.mu _ _ hd)).ns) (m3 _ hv) ⟨g, ok, q⟩
end
end Mine
namespace Mine
section
open PySem PySem.Spec PySem.Calls PyProof.Rows PySem.W PySem.SeqAt Builtin
section
variable {prog : Program} {w : World} {A : Around} {E : Value → Shared → Prop} {h : Heap} {g : Array GenState} {d : Drawn} {t : Nat} {os : OsState}
variable {nm q : Str} {C N x : Addr} {bs : List Value} {sn : List Str} {sub : List Value} {col : Option Bool} {dd : Option Addr} {k0 k1 k2 k3 k5 : Option Value} {ox : Obj} {mN mA mS : Str → Option Value} {name : Str} {dx so : Addr}
theorem not_opaque {M : Model} {what how : String} {Q : Unit → Shared → Prop} (hs : h.Ns cStatics mS) (hm : mS "thirdparty.any" = none) (hq : Q () ⟨h, g, d, t, os⟩) : wpAny M A (notOfAnOpaqueClass what how (.ref C)) Q E ⟨h, g, d, t, os⟩ := by
 repeat (first | (with_reducible refine wpAny_nsGet hs ?_; rw [hm]) | wp_step)
 exact hq
noncomputable abbrev supO (D x C : Addr) : Obj := { cls := .type "super", dict := none, data := .fields #[.ref D, .ref x, .ref C], slots := #[] }
namespace FL
theorem own_init : classOwn (.type "list") "__init__" = pure (some (.builtin "list.__init__")) := by kernel_rfl
theorem type_init : typeOf (.builtin "list.__init__") = pure (.type "wrapper_descriptor") := by kernel_rfl
theorem get_wd : typeLookup (.type "wrapper_descriptor") "__get__" = pure (some (.builtin "wrapper_descriptor.__get__")) := by rw [typeLookup_type, builtinLookup_eq_fast]; kernel_rfl
end FL
theorem Z288 {tk : Tok} {Q : Fin → Shared → Prop}
  (hC : h.get? C = some (excClassObj nm q C N bs [.type "list", .type "object"] true sn sub false col dd k0 k1 k2 k3 k5 "list.__new__")) (hx : h.get? x = some ox) (hxc : ox.cls = .ref C) (hxC : x ≠ C)
  (hso : h.get? so = some (supO C x C)) (hs : h.Ns cStatics mS) (hm : mS "thirdparty.any" = none)
  (hq : wpAny (model prog w) A (call (.builtin "wrapper_descriptor.__get__") [.builtin "list.__init__", .ref x, .ref C]) (fun v s' => Q (.done (.ret v)) s') E ⟨h, g, d, t, os⟩) :
  wpAny (model prog w) A (Builtin.«super.__getattribute__» ⟨[.ref so, .str "__init__" tk], []⟩) Q E ⟨h, g, d, t, os⟩ := by
 have hne : (Value.ref x == Value.ref C) = false := by simp [hxC]
 have hdt : (supO C x C).data = .fields #[.ref C, .ref x, .ref C] := rfl
 have f0 : (#[.ref C, .ref x, .ref C] : Array Value)[0]? = some (.ref C) := rfl
 have f1 : (#[.ref C, .ref x, .ref C] : Array Value)[1]? = some (.ref x) := rfl
 have f2 : (#[.ref C, .ref x, .ref C] : Array Value)[2]? = some (.ref C) := rfl
 have hn : (Str.ofString "__init__" == ("__class__" : Str)) = false := by decide +kernel
 have o1 := FL.own_init
 have o2 := FL.type_init
 have o3 := FL.get_wd
 repeat (first
  | (with_reducible refine wpAny_field hso hdt f0 ?_) | (with_reducible refine wpAny_field hso hdt f1 ?_) | (with_reducible refine wpAny_field hso hdt f2 ?_)
  | (with_reducible refine not_opaque hs hm ?_)
  | (with_reducible refine wpAny_mroOf_exc hC ?_)
  | (simp only [hn, hne, Bool.or_false, Bool.false_eq_true, if_false])
  | wp_step
  | dsimp only)
 have e : List.drop 1 (List.dropWhile (fun x => x != Value.ref C) [Value.ref C, Value.type "list", Value.type "object"]) = [Value.type "list", Value.type "object"] := by simp
 simp only [e, List.forIn'.loop]
 refine wpAny_bind (wpAny_bind (wpAny_of_eq o1 ?_))
 refine wpAny_bind (wpAny_of_eq o2 (wpAny_bind (wpAny_of_eq o3 ?_)))
 refine wpAny_bind (wpAny_holding (wpAny_mono hq (fun v s' hv => ?_) fun _ _ z => z))
 exact wpAny_bind (wpAny_pure (wpAny_pure (wpAny_pure (wpAny_pure hv))))
namespace FL
theorem slot_wd : Slot "wrapper_descriptor" "__get__" "wrapper_descriptor.__get__" :=
 .of (owner := "wrapper_descriptor") (n := "__get__") get_wd (by decide +kernel) (by decide +kernel) (by decide +kernel)
  (by first | exact .inl (by decide +kernel) | exact .inr (by decide +kernel)) (by rw [isSubtype_type]; kernel_rfl)
theorem entry_wd : entryFor table "wrapper_descriptor.__get__" = some Builtin.«wrapper_descriptor.__get__» := entryFor_of_tree (by kernel_rfl)
theorem args_wd (a b c : Value) : argsOk "wrapper_descriptor.__get__" ⟨[a, b, c], []⟩ := by delta argsOk; kernel_rfl
end FL
theorem wd_get {Q : Value → Shared → Prop}
  (hC : h.get? C = some (excClassObj nm q C N bs [.type "list", .type "object"] true sn sub false col dd k0 k1 k2 k3 k5 "list.__new__")) (hx : h.get? x = some ox) (hxc : ox.cls = .ref C)
  (hq : Q (.ref h.objs.size) ⟨h.push { cls := .type "method-wrapper", data := .fields #[.builtin "list.__init__", .ref x] }, g, d, t, os⟩) :
  wpAny (model prog w) A (call (.builtin "wrapper_descriptor.__get__") [.builtin "list.__init__", .ref x, .ref C]) Q E ⟨h, g, d, t, os⟩ := by
 refine wpAny_call_entry FL.slot_wd (show typeOf _ = _ from FL.type_init) FL.entry_wd ?_ (FL.args_wd _ _ _)
 repeat wp_step
 have ecut : ".".intercalate ("list.__init__".cutAt '.').dropLast = "list" := by decide +kernel
 have hcont : (Value.ref C :: [Value.type "list", Value.type "object"]).contains (.type "list") = true := by rw [List.contains_cons, show [Value.type "list", Value.type "object"].contains (.type "list") = true from by decide, Bool.or_true]
 rw [hxc, ecut]
 refine wpAny_isSubtype_exc hC ?_
 rw [hcont]
 rw [if_neg (by decide)]
 repeat (first | (with_reducible refine wpAny_newObj_type ?_ (by size_fits)) | wp_step)
 exact ⟨_, rfl, hq⟩
theorem Z289 {pl : Sem Bool} {Q : Value × List Value → Shared → Prop}
  (hC : h.get? C = some (excClassObj nm q C N bs [.type "list", .type "object"] true sn sub false col dd k0 k1 k2 k3 k5 "list.__new__")) (hx : h.get? x = some ox) (hxc : ox.cls = .ref C) (hxC : x ≠ C)
  (hso : h.get? so = some (supO C x C)) (hs : h.Ns cStatics mS) (hm : mS "thirdparty.any" = none)
  (hq : Q (.ref h.objs.size, []) ⟨h.push { cls := .type "method-wrapper", data := .fields #[.builtin "list.__init__", .ref x] }, g, d, t + 1, os⟩) :
  wpAny (model prog w) A (getMethod (.ref so) "__init__" pl) Q E ⟨h, g, d, t, os⟩ := by
 have hlk := F.ks_slot_super_ga.lookup
 have hcan := F.ks_canon_super_ga
 have hT : ∀ t', (⟨h, g, d, t', os⟩ : Shared).TypeIs (.ref so) "super" := fun _ => ⟨_, hso, rfl⟩
 refine wpAny_bind (wpAny_specialOf (hT _) hlk ?_)
 show wpAny _ _ (if (Manifest.canonical "super.__getattribute__" != "object.__getattribute__") = true then _ else _) _ _ _
 rw [if_pos hcan]
 refine wpAny_bind (wpAny_bind (wpAny_mkText (wpAny_holding (wpAny_bind (wpAny_typeOf (hT _) (wpAny_bind (wpAny_of_eq hlk ?_)))))))
 show wpAny _ _ (getAttrByItsOwn (.ref so) (.str "__init__" t) (.type "super") (.builtin "super.__getattribute__") true false) _ _ _
 refine wpAny_bind (wpAny_of_eq (show (if onTheHeap (.type "super") then typeLookup (.type "super") "__getattr__" else pure none) = pure none from rfl) ?_)
 refine wpAny_bind (wpAny_attempt (wpAny_holding ?_))
 show wpAny _ _ (bindSpecial (.builtin "super.__getattribute__") (.ref so) >>= _) _ _ _
 refine wpAny_bind (wpAny_of_eq (F.ks_slot_super_ga.bind _) ?_)
 refine wpAny_mono (Q := fun v s' => v = .ref h.objs.size ∧ s' = ⟨h.push { cls := .type "method-wrapper", data := .fields #[.builtin "list.__init__", .ref x] }, g, d, t + 1, os⟩) (E := fun _ _ => False)
  (wpAny_call_entry F.ks_slot_super_ga (hT _) F.ks_entry_super_ga (Z288 hC hx hxc hxC hso hs hm (wd_get hC hx hxc ⟨_, rfl, rfl, rfl⟩)) (F.ks_gaArgs_super _ _)) (fun v s' hv => ?_) fun _ _ z => z.elim
 obtain ⟨rfl, rfl⟩ := hv
 exact wpAny_pure (wpAny_pure hq)
end
section
variable {prog : Program} {w : World} {A : Around} {E : Value → Shared → Prop} {h : Heap} {g : Array GenState} {d : Drawn} {t : Nat} {os : OsState}
variable {x p : Addr} {C dx : Addr}
namespace FL
theorem bound_init (x : Value) : checkBoundCall "list.__init__" ⟨[x], []⟩ = pure () := by kernel_rfl
theorem entry_init : entryFor table "list.__init__" = some Builtin.«list.__init__» := entryFor_of_tree (by kernel_rfl)
end FL
theorem call_mw_init {mm : Nat} {Q : Value → Shared → Prop} (hp : h.get? p = some { cls := .type "method-wrapper", data := .fields #[.builtin "list.__init__", .ref x] }) (hx : h.get? x = some (lsObj C dx #[] mm))
  (hq : ∀ h', h' = h.update x (Obj.mapSeq fun _ => #[]) → Q .none ⟨h', g, d, t, os⟩) : wpAny (model prog w) A (call (.ref p) []) Q E ⟨h, g, d, t, os⟩ := by
 refine wpAny_call (codeAny_of_tree ?_)
 show wpAny _ A.in1 (callAny (.ref p) _) _ _ _
 refine wpAny_bind (wpAny_load hp ?_)
 show wpAny _ _ (checkBoundCall "list.__init__" ⟨[.ref x], []⟩ >>= fun _ => again (.builtin "list.__init__" ⟨[.ref x], []⟩)) _ _ _
 refine wpAny_bind (wpAny_of_eq (FL.bound_init _) (wpAny_pure ⟨plainId_quiet (by decide +kernel) _, codeAny_builtin FL.entry_init ?_⟩))
 repeat wp_step
 exact hq _ rfl
end
end
end Mine
namespace Mine
section
open PySem PySem.Spec PySem.Calls PyProof.Rows PySem.W PySem.SeqAt
variable {K : Wd} {B : Base} {α β : Type} {A : Around} {g : Gh} {n : Nat} {env : Env} {c : Code}
variable {b : Gh} {S' : List Addr} {fn : List Nat} {cs : List Addr} {nm : List (Str × NameKind)} {σ σ' : List (Option D)} {own : List (Addr × MO)}
theorem gwp_keeperMW {p : Addr} {o : Obj} {vs : Array Value} {Q : Keeper → Gh → Prop} (ho : g.has p o) (hc : o.cls = .type "method-wrapper") (hd : o.data = .fields vs) (q : Q .machine g) : gwp K A (keeperOf (.ref p)) Q g := by
 refine Z1 (gwp_load ho ?_)
 rw [hd]
 rw [hc, if_pos (by decide)]
 exact Z4 q
noncomputable abbrev mwInit (x : Addr) : Obj := { cls := .type "method-wrapper", data := .fields #[.builtin "list.__init__", .ref x] }
theorem gat_super {p0 p1 : Pos} {body : List Stmt} {attr : Str} {whole : Sem Value} {C N x dx : Addr} {mN : Str → Option Value} {i j k : Nat} {f cc : Addr} {fd : FuncData} {ar : Arg} {oc of : Obj} {vs : Array Value} {file : Str} {tf : Tok} {its : Array Value} {mm : Nat} {nw : String} {Q : Value → Gh → Prop} (F : Frm K b S' fn cs env nm σ own g)
  (hc : ClsB K.B C N [.type "list", .type "object"] nw mN)
  (hi : nm[i]? = some (("super" : Str), .globalImplicit)) (hi' : σ[i]? = some (some (.raw (.type "super")))) (hj : nm[j]? = some (("__class__" : Str), .free)) (hj' : σ[j]? = some (some (.raw (.ref C))))
  (hk : nm[k]? = some (ar.arg, .local)) (hk' : σ[k]? = some (some (.raw (.ref x))))
  (hat : (attr == ("__class__" : Str)) = false) (hfu : env.func = some f) (hf : g.has f of) (hfd : of.data = .func fd) (hp : (fd.params.posonlyargs ++ fd.params.args).head? = some ar) (hco : env.code = .ref cc) (hcc : g.has cc oc) (hoc : oc.data = .fields vs) (hvs : vs[2]? = some (.str file tf))
  (hfile : ((K.prog.main.file : Str) == file) = true) (htop : (K.prog.main.scope.names.lookup ("super" : Str)).isSome = false)
  (hx : g.mu x = some (lsObj C dx its mm)) (r : Room A n)
  (q : ∀ so g', Le g g' → g'.im so = some (supO C x C) → Q (.ref so) g') : gat K A (.func body env) (attributeBase (.Call (.Name "super" p0) [] [] p1) attr env whole) Q g := fun s E ok => by
 refine ks_wpAt_super_base (F.kindOf hi) (F.kindOf hj) hat hfu (hf.get ok) hfd hp hco (hcc.get ok) hoc hvs hfile htop ?_
 have h1 : gwp K A (loadName env "super") (fun v g₁ => v = .type "super" ∧ gwp K A (loadName env "__class__") (fun cls g₂ => gwp K A (loadName env ar.arg) (fun self g₃ => gwp K A (isType cls) (fun b g₄ => b = true ∧ gwp K A (call (.type "super") [cls, self]) Q g₄) g₃) g₂) g₁) g := by
  refine F.read hi hi' (by decide) fun v hv => ⟨Z22 hv, ?_⟩
  refine F.read hj hj' (by decide) fun cls hcl => ?_
  have := Z22 hcl; subst this
  refine F.read hk hk' (by decide) fun sf hsf => ?_
  have := Z22 hsf; subst this
  clear ok s E
  intro s E ok
  refine E12_1 hc.cls ?_
  intro nm' q' bs sn sub col dd k0 k1 k2 k3 k5 hC
  have hC' := ok.im _ _ (ok.base _ _ hC)
  have hx' := ok.mu _ _ hx
  refine wpAny_bind (wpAny_load hC' ?_)
  refine wpAny_pure ⟨g, ok, rfl, ?_⟩
  clear hC' hx' ok s E
  intro s E ok
  obtain ⟨h, gg, d, t, os⟩ := s
  have hC' : h.get? C = _ := ok.im _ _ (ok.base _ _ hC)
  have hx' : h.get? x = _ := ok.mu _ _ hx
  refine ks_wpAny_call_super hC' rfl hx' rfl (fun c z => by cases z) (fun A Q E s hs hq => ?_) fun h' hso hkp => ?_
  ·obtain ⟨h2, gg2, d2, t2, os2⟩ := s
   refine wpAny_isSubtype_exc (hs _ _ hC') ?_
   have hcont : (Value.ref C :: [Value.type "list", Value.type "object"]).contains (.ref C) = true := by simp
   rw [hcont]
   exact hq
  ·have l : Le g (g.addIm h.objs.size (supO C x C)) := Le.addIm ok.fresh.1
   refine ⟨_, ?_, q h.objs.size (g.addIm h.objs.size (supO C x C)) l Gh.addIm_self⟩
   exact ok.extIm (tk := t) hkp hso
 exact wM1_3 (h1 s E ok) (fun v s₁ g₁ ok₁ e₁ h₁ => ⟨e₁, wM1_2 (h₁ s₁ E ok₁) (fun cls s₂ g₂ ok₂ h₂ => wM1_2 (h₂ s₂ E ok₂) (fun sf s₃ g₃ ok₃ h₃ => wM1_3 (h₃ s₃ E ok₃) (fun b s₄ g₄ ok₄ e₄ h₄ => ⟨e₄, h₄ s₄ E ok₄⟩)))⟩)
theorem gwp_supInit {so x dx C N : Addr} {mN : Str → Option Value} {its : Array Value} {mm : Nat} {oS : Obj} {mS : Str → Option Value} {pl : Sem Bool} {Q : Value × List Value → Gh → Prop} (hc : ClsB K.B C N [.type "list", .type "object"] "list.__new__" mN)
  (hS : K.B.im cStatics = some oS) (hS1 : NsObj oS mS) (hS2 : mS "thirdparty.any" = none) (hx : g.mu x = some (lsObj C dx its mm)) (hso : g.im so = some (supO C x C))
  (q : ∀ p, g.im p = none → g.mu p = none → Q (.ref p, []) (g.addIm p (mwInit x))) : gwp K A (getMethod (.ref so) "__init__" pl) Q g := fun s E ok => by
 refine hc.elim ok ?_
 intro nm' q' bs sn sub col dd k0 k1 k2 k3 k5 hC hNS
 obtain ⟨h, gg, d, t, os⟩ := s
 have hC' : h.get? C = _ := hC
 have hx' : h.get? x = _ := ok.mu _ _ hx
 have hxC : x ≠ C := by rintro rfl; cases ((hC').symm.trans hx')
 refine Z289 hC' hx' rfl hxC (ok.im _ _ hso) (hS1.ns (ok.im _ _ (ok.base _ _ hS))) hS2 ?_
 exact ⟨_, (ok.pushIm (o := mwInit x) rfl).tok _, q _ ok.fresh.1 ok.fresh.2⟩
theorem gwp_callInit {p x C dx : Addr} {mm : Nat} {pos : Pos} {Q : Value → Gh → Prop} (hp : g.im p = some (mwInit x)) (hx : g.mu x = some (lsObj C dx #[] mm))
  (q : Q .none (g.setMu x (lsObj C dx #[] mm))) : gwp K A (callWith pos (.ref p) [] (backTo pos (starEach [] env)) []) Q g := by
 refine Z200 rfl ?_
 refine Z7 rfl (Z17 ?_)
 refine gwp_keeperMW (.inl hp) rfl rfl ⟨.inr (.inl rfl), ?_⟩
 intro s E ok
 refine call_mw_init (ok.im _ _ hp) (ok.mu _ _ hx) fun h' hh => ?_
 subst hh
 exact ⟨_, ok.upd hx (f := Obj.mapSeq fun _ => #[]) rfl, q⟩
theorem gwp_callMeth {a cl : Addr} {st : Stmt} {q : Str} {c : Addr} {dv pm ct u : Value} {src : List Src} {vals : List Value} {binds : List (Str × Value)} {bi : List (Nat × D)} {Q : Value → Gh → Prop}
  (hf : FnB K.B a (topFd st q c [("__class__", cl)] dv pm ct)) (hcl : K.B.im cl = some { cls := .type "cell", data := .cell (some u) }) (r : Room A (n + 2)) (hbind : BindTo K (topFd st q c [("__class__", cl)] dv pm ct) ⟨vals, []⟩ binds g)
  (hn : NamesOk (scopeOf st).names) (hsrc : srcOk [("__class__", .cell)] (scopeOf st).names src = true) (hg : GlobsAre K.B (scopeOf st).names src) (hb : BindOk (scopeOf st).names fn g.im binds bi)
  (h : ∀ A' L cells cs g', Room A' n → Frm K g S' fn cs (newEnv (scopeOf st) L mainGlobals cells (q ++ ".<locals>.") (some a) (.ref c) none builtinsNs) (scopeOf st).names (bindSt (srcSt [some (.raw u)] src) bi) [] g' →
   gat K A' (.func (bodyOf st) (newEnv (scopeOf st) L mainGlobals cells (q ++ ".<locals>.") (some a) (.ref c) none builtinsNs)) (execs (bodyOf st) (newEnv (scopeOf st) L mainGlobals cells (q ++ ".<locals>.") (some a) (.ref c) none builtinsNs)) (RetQ Q) g')
  (hco : (scopeOf st).isCoroutine = false := by rfl) (hgen : (scopeOf st).isGenerator = false := by rfl) (hk : (scopeOf st).kind = .function := by rfl) :
  gwp K A (call (.ref a) vals) Q g := Z95 fun s E ok => by
 have hclos : ClosOk (scopeOf st).names [("__class__", cl)] (srcSt [some (.raw u)] src) g := by
  refine ⟨fun i x hi => ?_, fun p hp => ?_, by simp⟩
  ·refine E1_2 (Z120 hsrc hi) fun s' h1 h2 => ?_
   clear hi; cases s' with
   | no => simp [srcOk1] at h2
   | glob v => simp [srcOk1] at h2
   | outer j =>
    have hx : x = Str.ofString "__class__" := by
     rcases j with _ | j
     ·have h3 : (some (("__class__" : Str), NameKind.cell) == some (x, NameKind.cell) || some (("__class__" : Str), NameKind.cell) == some (x, NameKind.free)) = true := by simpa [srcOk1] using h2
      simp at h3; exact h3.symm
     ·simp [srcOk1] at h2
    clear h2; subst hx
    refine ⟨cl, _, some u, by exact rfl, .inl (ok.base _ _ hcl), rfl, fun d hd => ?_⟩
    rcases Z210 hd with ⟨v, e, _⟩ | ⟨j', e, e'⟩
    ·clear hd; cases ((h1).symm.trans e)
    ·rcases j' with _ | j'
     ·clear e hd h1; simp at e'; subst e'; exact ⟨u, rfl, Z27⟩
     ·simp at e'
  ·simp at hp; subst hp; exact ⟨_, .inl (ok.base _ _ hcl)⟩
 exact Z202 (fd := topFd st q c [("__class__", cl)] dv pm ct) (σ := srcSt [some (.raw u)] src) r (hf.at ok) rfl hbind hn (Z49 hsrc) (Z66 hsrc hg) hclos hb (fun A' L cells cs g' hr _ _ h3 F => h A' L cells cs g' hr F) rfl rfl hco hgen hk s E ok
theorem Z197 {o value : Expr} {attr : Str} {pos' pos : Pos} {x dx C N : Addr} {mN : Str → Option Value} {L : List (Str × D)} {ds : List D} {d : D} {i j : Nat} {Q : Flow → Gh → Prop} (F : Frm K b S' fn cs env nm σ own g) (r : Room A n) (hc : ClsB K.B C N [.type "list", .type "object"] "list.__new__" mN) (hns : mN "__setattr__" = none) (hna : mN attr = none) (hB : typeLookup (.type "list") attr = pure none) (hxC : K.B.h₀.objs.size > C)
  (hi : own[i]? = some (x, MO.lsub C dx ds)) (hj : own[j]? = some (dx, MO.inst L)) (hne : dx ≠ x) (hsz : L.length ≤ 1000) (ho : Pe K n g (eval o env) (.raw (.ref x))) (hval : Pe K n g (eval value env) d)
  (k : ∀ g', LeX [dx] g g' → Frm K b S' fn cs env nm σ (own.set j (dx, MO.inst (putN L attr d))) g' → Q .next g')
  (hs : swapsWith value (some (.Attribute o attr pos')) pos.line env = pure false := by rfl) : gwp K A (exec (.Assign [.Attribute o attr pos'] value pos) env) Q g :=
 Z119 (hval.use r fun v g₁ l₁ hv => (ho.le l₁).useR r fun g₂ l₂ => by
  have F₂ := F.up (l₁.trans l₂)
  refine E1_2 (F₂.at hi) fun ox x1 x2 => ?_
  refine E1_2 (F₂.at hj) fun od d1 d2 => ?_
  refine E2_2 x2 ?_
  clear x2 hval ho hi F; rintro its mm rfl hr
  refine gwp_setAttrS hc hns hna hB hxC x1 d1 d2 hne (hv.le l₂) (Nat.le_trans hsz (by decide)) fun o' ho' => ?_
  exact k _ ((LeX.of (l₁.trans l₂)).trans LeX.setMu) (F₂.adv hj LeX.setMu ⟨o', Gh.setMu_self, ho'⟩ MO.inst_cell)) hs
end
end Mine
namespace Mine
section
open PySem PySem.Spec PySem.Calls PyProof.Rows PySem.W PySem.SeqAt
variable {K : Wd} {A : Around} {g : Gh} {n : Nat} {env : Env} {α : Type}
variable {b : Gh} {S' : List Addr} {fn : List Nat} {cs : List Addr} {nm : List (Str × NameKind)} {σ σ' : List (Option D)} {own : List (Addr × MO)}
theorem acc_ga : M_Ac "__getattribute__" = none := by decide +kernel
theorem acc_gh : M_Ac "__getattr__" = none := by decide +kernel
theorem acc_sa : M_Ac "__setattr__" = none := by decide +kernel
theorem acc_isz : M_Ac "_initial_size" = none := by decide +kernel
theorem acc_init : M_Ac "__init__" = some (.ref a_Ac_init) := by decide +kernel
theorem acc_push : M_Ac "push" = some (.ref a_Ac_push) := by decide +kernel
theorem ls_isz : typeLookup (.type "list") "_initial_size" = pure none := by rw [typeLookup_type, builtinLookup_eq_fast]; kernel_rfl
theorem ls_push : typeLookup (.type "list") "push" = pure none := by rw [typeLookup_type, builtinLookup_eq_fast]; kernel_rfl
noncomputable def accL (d : D) : List (Str × D) := [(Str.ofString "_initial_size", d)]
noncomputable def AccOwn (x dx : Addr) (d : D) (ds : List D) : List (Addr × MO) := [(x, MO.lsub C_Ac dx ds), (dx, MO.inst (accL d))]
theorem noSuper (X : WX K) : (K.prog.main.scope.names.lookup ("super" : Str)).isSome = false := by rw [X.pr]; decide +kernel
theorem Z117 {a : Addr} {o : Obj} {its : Array Value} {m : Nat} {Q : Option (Array Value) → Gh → Prop} (ho : g.has a o) (hd : o.data = .seq its m) (q : Q (some its) g) : gwp K A (seqItems? (.ref a)) Q g := fun s E ok => wpAny_seqItems (ho.get ok) hd ⟨g, ok, q⟩
theorem bind_acc_init (X : WX K) {x v : Value} : BindTo K fd_Ac_init ⟨[x, v], []⟩ [("self", x), ("initial_size", v)] g := fun A Q q => by
 refine E3_2 (X.dv 30 (by exact .head _)) fun o u m h1 h2 => ?_
 show gwp K A (Bind.bind (seqItems? (Value.ref 30)) _) Q g
 refine Z1 (Z103 fun z₀ => E1_1 z₀ fun s ok => Z117 (.inl (ok.base _ _ h1)) h2 ?_)
 exact Z82 rfl (Z4 q)
theorem w_acc_init (X : WX K) {x dx : Addr} {d : D} {v : Value} (r : Room A (n + 2)) (hH : Holds [(x, MO.lsub C_Ac dx []), (dx, MO.inst [])] g) (hnd : [x, dx].Nodup) (hv : Rep g.im d v) :
  gwp K A (call (.ref a_Ac_init) [.ref x, v]) (fun u g' => u = .none ∧ LeX [x, dx] g g' ∧ Holds (AccOwn x dx d []) g') g := by
 refine cps fun Q₀ k₀ => ?_
 refine E3_3 (X.cf c_Ac_init (by exact .head _)) fun oc vs t c1 c2 c3 => ?_
 refine E2_3 X.stt fun oS mS s1 s2 s3 => ?_
 refine gwp_callMeth (n := n) (fn := []) (S' := []) (binds := [("self", .ref x), ("initial_size", v)]) (bi := [(0, .raw (.ref x)), (1, d)]) X.f_Ac_init X.cc r (bind_acc_init X) ok_Ac_init so_Ac_init (Z3 X.gt gi_Ac_init)
  ⟨.inl rfl, Z27, .inl rfl, hv, trivial⟩ fun A' L cells cs g' r' H => ?_
 have l0 := H.le
 replace H := H.adoptB hH hnd
 have hne : dx ≠ x := nd_ne hnd
 have hC : K.B.h₀.objs.size > C_Ac := Nat.lt_of_lt_of_le (by decide) (Nat.le_of_lt X.low)
 refine Z134 (gat_of (Z197 (i := 0) (j := 1) (d := d) H r' X.k_Ac acc_sa acc_isz ls_isz hC rfl rfl hne (by decide) (pn H 0) (pn H 1) fun g₁ l₁ H => ?_))
 refine Z134 (gat_Expr (Z261 ?_ (by rfl)) H.inter)
 refine E1_3 X.f_Ac_init.obj fun oF f1 f2 f3 => ?_
 refine fun s E ok => ?_
 clear l₁ hC hnd hH r; obtain ⟨ox, x1, its, mm, rfl, x2⟩ := H.at (i := 0) rfl
 refine gat_super H X.k_Ac (i := 3) (j := 2) (k := 0) (ar := ((paramsOf st_Ac_init).posonlyargs ++ (paramsOf st_Ac_init).args).headD ⟨"", none, ⟨0, 0, 0, 0⟩⟩) rfl rfl rfl rfl rfl rfl (by decide +kernel) rfl (.inl (ok.base _ _ f1)) f2 rfl rfl (.inl (ok.base _ _ c1)) c2 c3 (by lia) (noSuper X) x1 r' (fun so g₂ l₂ hso => ?_) s E ok
 refine gwp_supInit X.k_Ac s1 s2 s3 (l₂.at x1) hso fun p p1 p2 => ?_
 have lp : Le g₂ (g₂.addIm p (mwInit x)) := Le.addIm p1
 replace H := H.up (l₂.trans lp)
 clear p2 p1 hso x1 x2 f1 s3 s1 c3 c1; obtain ⟨ox, y1, its', mm', rfl, y2⟩ := H.at (i := 0) rfl
 have he : its' = #[] := by simp [Reps] at y2; exact y2
 clear y2; subst he
 refine gwp_callInit Gh.addIm_self y1 ?_
 replace H := H.adv (i := 0) rfl (LeX.setMu (a := x) (o := lsObj C_Ac dx #[] mm')) (m' := MO.lsub C_Ac dx []) ⟨_, Gh.setMu_self, #[], mm', rfl, by exact rfl⟩ MO.lsub_cell
 refine gat_nil (k₀ _ _ ⟨rfl, H.le, ?_⟩)
 have := H.holds
 rw [putN_new (by exact List.not_mem_nil)] at this
 exact this
end
end Mine
namespace Mine
section
open PySem PySem.Spec PySem.Calls PyProof.Rows PySem.W PySem.SeqAt Builtin
section
variable {prog : Program} {w : World} {A : Around} {E : Value → Shared → Prop} {h : Heap} {g : Array GenState} {d : Drawn} {t : Nat} {os : OsState}
variable {nm q : Str} {C N x : Addr} {bs : List Value} {sn : List Str} {sub : List Value} {col : Option Bool} {dd : Option Addr} {k0 k1 k2 k3 k5 : Option Value} {ox : Obj} {mN mA mS : Str → Option Value} {name : Str} {dx so : Addr}
noncomputable abbrev subCls (nm q : Str) (C N : Addr) (bs : List Value) (sn : List Str) (sub : List Value) (col : Option Bool) (dd : Option Addr) (k0 k1 k2 k3 k5 : Option Value) : Obj := excClassObj nm q C N bs [.type "list", .type "object"] true sn sub false col dd k0 k1 k2 k3 k5 "list.__new__"
theorem put_size (xs new : Array Value) {a b : Nat} (h : a ≤ b) : (xs.extract 0 a ++ new ++ xs.extract b xs.size).size ≤ xs.size + new.size := by
 simp only [Array.size_append, Array.size_extract]; lia
theorem Z267 {M : Model} {Q : Value → Shared → Prop} (hx : h.get? x = some ox) (hxc : ox.cls = .ref C) (hq : Q (.ref C) ⟨h, g, d, t, os⟩) : wpAny M A (typeOf (.ref x)) Q E ⟨h, g, d, t, os⟩ := by
 repeat (first | (with_reducible refine wpAny_loadPart_at hx ?_; rw [hxc]) | wp_step)
 exact hq
theorem Z55 {M : Model} {y : Option Value} {Q : Option Value → Shared → Prop} (hC : h.get? C = some (subCls nm q C N bs sn sub col dd k0 k1 k2 k3 k5)) (hn : h.Ns N mN) (hx : h.get? x = some ox) (hxc : ox.cls = .ref C)
  (hB : typeLookup (.type "list") name = pure y) (hq : Q (match mN name with | some v => some v | none => y) ⟨h, g, d, t, os⟩) : wpAny M A (specialOf (.ref x) name) Q E ⟨h, g, d, t, os⟩ := by
 exact wpAny_bind (Z267 hx hxc (wpAny_typeLookup_exc hC hn F.mro_list hB hq))
theorem Z108 {id : String} {args : List Value} {Q : Option Value → Shared → Prop} (hC : h.get? C = some (subCls nm q C N bs sn sub col dd k0 k1 k2 k3 k5)) (hn : h.Ns N mN) (hx : h.get? x = some ox) (hxc : ox.cls = .ref C)
  (hs : Slot "list" name id) (hm : mN name = none) (hc : wpAny (model prog w) A (call (.builtin id) (.ref x :: args)) (fun v => Q (some v)) E ⟨h, g, d, t, os⟩) : wpAny (model prog w) A (callSpecial? (.ref x) name args) Q E ⟨h, g, d, t, os⟩ := by
 refine wpAny_bind (Z55 hC hn hx hxc hs.lookup ?_)
 rw [hm]
 refine wpAny_holding (wpAny_bind (wpAny_of_eq (hs.bind _) ?_))
 exact wpAny_bind (wpAny_mono (by exact hc) (fun v s' hv => wpAny_pure hv) fun _ _ z => z)
theorem Z205 {f : Addr} {of : Obj} {y : Option Value} {args : List Value} {Q : Option Value → Shared → Prop} (hC : h.get? C = some (subCls nm q C N bs sn sub col dd k0 k1 k2 k3 k5)) (hn : h.Ns N mN) (hx : h.get? x = some ox) (hxc : ox.cls = .ref C)
  (hB : typeLookup (.type "list") name = pure y) (hm : mN name = some (.ref f)) (hf : h.get? f = some of) (hfc : of.cls = .type "function") (hc : wpAny (model prog w) A (call (.ref f) (.ref x :: args)) (fun v => Q (some v)) E ⟨h, g, d, t, os⟩) : wpAny (model prog w) A (callSpecial? (.ref x) name args) Q E ⟨h, g, d, t, os⟩ := by
 refine wpAny_bind (Z55 hC hn hx hxc hB ?_)
 rw [hm]
 refine wpAny_holding (wpAny_bind ?_)
 refine wpAny_bind (wpAny_typeOf (T := "function") ⟨_, hf, hfc⟩ ?_)
 rw [if_pos (by decide)]
 refine wpAny_pure ?_
 exact wpAny_bind (wpAny_mono (by exact hc) (fun v s' hv => wpAny_pure hv) fun _ _ z => z)
theorem sub_iter {Q : Value → Shared → Prop} (hC : h.get? C = some (subCls nm q C N bs sn sub col dd k0 k1 k2 k3 k5)) (hn : h.Ns N mN) (hx : h.get? x = some ox) (hxc : ox.cls = .ref C) (hm : mN "__iter__" = none)
  (hQ : Q (.ref h.objs.size) ⟨h.push { cls := .type "list_iterator", data := .fields #[.ref x, .int 0 0] }, g, d, t, os⟩) : wpAny (model prog w) A (pyIter (.ref x)) Q E ⟨h, g, d, t, os⟩ := by
 refine wpAny_bind (Z55 hC hn hx hxc slot_list_iter.lookup ?_)
 rw [hm]
 show wpAny _ _ (callSpecialIfBoundUnlessNone? (.ref x) "__iter__" _ >>= _) _ _ _
 refine wpAny_bind ?_
 refine wpAny_holding (wpAny_bind (wpAny_bind (Z55 hC hn hx hxc slot_list_iter.lookup ?_)))
 rw [hm]
 refine wpAny_bind (wpAny_askSetting (wpAny_ite ?_))
 have key : wpAny (model prog w) A (call (.builtin "list.__iter__") [.ref x]) (fun v s' => v = .ref h.objs.size ∧ s' = ⟨h.push { cls := .type "list_iterator", data := .fields #[.ref x, .int 0 0] }, g, d, t, os⟩) E ⟨h, g, d, t, os⟩ := by
  refine Z149 hC hx hxc (show splitId "list.__iter__" = some ("list", "__iter__") from by decide +kernel) (by first | exact .inl (by decide +kernel) | exact .inr (by decide +kernel)) (.inl rfl) (by decide +kernel) entry_list_iter (args_list_iter _) ?_
  show wpAny _ _ (do ret (← newFields "list_iterator" [.ref x, rawInt 0])) _ _ _
  exact wpAny_bind (wpAny_newObj_type (wpAny_pure ⟨_, rfl, rfl, rfl⟩))
 have fin : ∀ (refuse : Sem Value) (Q' : Option Value → Shared → Prop), Q' (some (.ref h.objs.size)) ⟨h.push { cls := .type "list_iterator", data := .fields #[.ref x, .int 0 0] }, g, d, t, os⟩ → wpAny (model prog w) A (if (Value.builtin "list.__iter__" == Value.none) = true then (refuse >>= fun v => pure (some v)) else (call (.builtin "list.__iter__") [.ref x] >>= fun v => pure (some v))) Q' E ⟨h, g, d, t, os⟩ := fun refuse Q' q => by
  refine wpAny_bind (wpAny_mono key (fun v s' h' => ?_) fun _ _ h' => h')
  refine E0_2 h' ?_
  clear h' key hm hx hC; rintro rfl rfl
  exact wpAny_pure q
 have aft : ∀ {Q' : Value → Shared → Prop}, Q' (.ref h.objs.size) ⟨h.push { cls := .type "list_iterator", data := .fields #[.ref x, .int 0 0] }, g, d, t, os⟩ → wpAny (model prog w) A (specialOf (.ref h.objs.size) "__next__" >>= fun r => match r with | none => (do rule "iter.non-iterator"; raiseError "TypeError" s!"iter() returned non-iterator of type '{← typeNameOf (.ref h.objs.size)}'") | some _ => pure (.ref h.objs.size)) Q' E ⟨h.push { cls := .type "list_iterator", data := .fields #[.ref x, .int 0 0] }, g, d, t, os⟩ := fun {Q'} q => by
  refine wpAny_bind (wpAny_specialOf (T := "list_iterator") ⟨_, Heap.get?_push_size _ rfl, rfl⟩ slot_listiter_next.lookup ?_)
  exact wpAny_pure q
 split
 ·exact wpAny_bind (wpAny_pure (wpAny_pure (fin _ _ (aft hQ))))
 ·exact wpAny_tryCatch (wpAny_bind (wpAny_pure (wpAny_pure (fin _ _ (aft hQ)))))
theorem sub_key {k : Value} {Q : Value → Shared → Prop} (hC : h.get? C = some (subCls nm q C N bs sn sub col dd k0 k1 k2 k3 k5)) (hx : h.get? x = some ox) (hxc : ox.cls = .ref C) (hq : Q k ⟨h, g, d, t, os⟩) : wpAny (model prog w) A (sequenceKey (.ref x) k name) Q E ⟨h, g, d, t, os⟩ := by
 refine wpAny_bind (Z267 hx hxc ?_)
 show wpAny _ _ ((seqItemTypes.anyM fun n => isSubtype (.ref C) (.type n)) >>= _) _ _ _
 have hcont : (Value.ref C :: [Value.type "list", Value.type "object"]).contains (.type "collections.deque") = false := by
  rw [List.contains_cons, show [Value.type "list", Value.type "object"].contains (.type "collections.deque") = false from by decide, Bool.or_false]; rfl
 refine wpAny_bind (wpAny_bind (wpAny_isSubtype_exc hC ?_))
 rw [hcont]
 exact wpAny_pure (wpAny_pure hq)
theorem sub_getslice {sl : Addr} {items : Array Value} {m : Nat} {vl vu vs : Value} {lo hi st : Option Int} {Q : Value → Shared → Prop} (hC : h.get? C = some (subCls nm q C N bs sn sub col dd k0 k1 k2 k3 k5)) (hn : h.Ns N mN) (hx : h.get? x = some ox) (hxc : ox.cls = .ref C) (hxd : ox.data = .seq items m) (hm : mN "__getitem__" = none)
  (hs : h.IsSliceOf sl vl vu vs) (pl : IsPart vl lo) (pu : IsPart vu hi) (ps : IsPart vs st) (h0 : st ≠ some 0) (hsz : items.size ≤ sizeLine)
  (hq : Q (.ref h.objs.size) ⟨h.push { cls := .type "list", data := .seq (slicePick items lo hi st) }, g, d, t, os⟩) : wpAny (model prog w) A (getItem (.ref x) (.ref sl)) Q E ⟨h, g, d, t, os⟩ := by
 refine E1_3 (id hs) fun os' hos hcs hds => ?_
 have hTs : (⟨h, g, d, t, os⟩ : Shared).TypeIs (.ref sl) "slice" := ⟨os', hos, hcs⟩
 refine wpAny_holding (wpAny_bind (sub_key hC hx hxc (wpAny_bind (Z108 hC hn hx hxc slot_list_getitem hm ?_))))
 refine wpAny_mono (Q := fun v s' => v = .ref h.objs.size ∧ s' = ⟨h.push { cls := .type "list", data := .seq (slicePick items lo hi st) }, g, d, t, os⟩) ?_ (fun v s' h' => by obtain ⟨rfl, rfl⟩ := h'; exact wpAny_pure hq) fun _ _ z => z
 refine Z149 hC hx hxc (show splitId "list.__getitem__" = some ("list", "__getitem__") from by decide +kernel) (by first | exact .inl (by decide +kernel) | exact .inr (by decide +kernel)) (.inl rfl) (by decide +kernel) entry_list_getitem (args_list_getitem _ _) ?_
 show wpAny _ _ (Builtin.List.listSubscript? (.ref sl) >>= _) _ _ _
 refine wpAny_bind ?_
 refine wpAny_bind (wpAny_specialOf hTs slice_no_index ?_)
 refine wpAny_pure ?_
 show wpAny _ _ (typeOf (.ref sl) >>= _) _ _ _
 refine wpAny_bind (wpAny_typeOf hTs ?_)
 rw [if_neg (by decide)]
 rw [listSliceParts_eq]
 have hstep : ¬ ((rawPart st == rawInt 0) = true) := by
  clear hTs hq hm hC; cases st with
  | none => exact Bool.false_ne_true
  | some c =>
   intro hh
   have : c = 0 := by simpa [rawPart, rawInt] using hh
   exact h0 (by rw [this])
 refine wpAny_bind (wpAny_bind (wpAny_field hos hds (x := vs) rfl (wpAny_bind (wpAny_listPart ps ?_))))
 rw [if_neg hstep]
 refine wpAny_bind (wpAny_field hos hds (x := vl) rfl (wpAny_bind (wpAny_listPart pl ?_)))
 refine wpAny_bind (wpAny_field hos hds (x := vu) rfl (wpAny_bind (wpAny_listPart pu (wpAny_pure ?_))))
 refine wpAny_bind (m := Builtin.List.listItems (.ref x)) ?_
 refine wpAny_bind (wpAny_seqItems hx hxd (wpAny_pure ?_))
 refine wpAny_bind (wpAny_of_eq (sliceIndices_raw lo hi st items.size h0) ?_)
 exact wpAny_bind (wpAny_newObj_type (wpAny_pure ⟨_, rfl, rfl, rfl⟩) (Nat.le_trans (slicePick_size_le items lo hi st) hsz))
noncomputable def slicePut (its new : Array Value) (lo hi : Option Int) : Array Value :=
 its.extract 0 (sliceBounds lo hi none its.size).1.toNat ++ new ++ its.extract (max (sliceBounds lo hi none its.size).1 (sliceBounds lo hi none its.size).2.1).toNat its.size
theorem sub_setslice {sl l : Addr} {items new : Array Value} {m : Nat} {vl vu : Value} {lo hi : Option Int} {Q : Unit → Shared → Prop} (hC : h.get? C = some (subCls nm q C N bs sn sub col dd k0 k1 k2 k3 k5)) (hn : h.Ns N mN) (hx : h.get? x = some ox) (hxc : ox.cls = .ref C) (hxd : ox.data = .seq items m) (hm : mN "__setitem__" = none)
  (hs : h.IsSliceOf sl vl vu .none) (pl : IsPart vl lo) (pu : IsPart vu hi) (hl : h.IsList l new) (hne : x ≠ l) (hsz : items.size + new.size ≤ sizeLine)
  (hq : Q () ⟨h.update x (Obj.mapSeq fun xs => xs.extract 0 (sliceBounds lo hi none items.size).1.toNat ++ new ++ xs.extract (max (sliceBounds lo hi none items.size).1 (sliceBounds lo hi none items.size).2.1).toNat xs.size), g, d, t, os⟩) : wpAny (model prog w) A (setItem (.ref x) (.ref sl) (.ref l)) Q E ⟨h, g, d, t, os⟩ := by
 refine E1_3 (id hs) fun os' hos hcs hds => ?_
 obtain ⟨ol, hol, hlc, ml, hld⟩ := id hl
 have hTs : (⟨h, g, d, t, os⟩ : Shared).TypeIs (.ref sl) "slice" := ⟨os', hos, hcs⟩
 refine wpAny_holding (wpAny_bind (sub_key hC hx hxc (wpAny_bind (Z108 hC hn hx hxc slot_list_setitem hm ?_))))
 refine wpAny_mono (Q := fun v s' => s' = ⟨h.update x (Obj.mapSeq fun xs => xs.extract 0 (sliceBounds lo hi none items.size).1.toNat ++ new ++ xs.extract (max (sliceBounds lo hi none items.size).1 (sliceBounds lo hi none items.size).2.1).toNat xs.size), g, d, t, os⟩) ?_ (fun v s' h' => by subst h'; exact wpAny_pure hq) fun _ _ z => z
 refine Z149 hC hx hxc (show splitId "list.__setitem__" = some ("list", "__setitem__") from by decide +kernel) (by first | exact .inl (by decide +kernel) | exact .inr (by decide +kernel)) (.inl rfl) (by decide +kernel) entry_list_setitem (args_list_setitem _ _ _) ?_
 show wpAny _ _ (Builtin.List.listSubscript? (.ref sl) >>= _) _ _ _
 refine wpAny_bind ?_
 refine wpAny_bind (wpAny_specialOf hTs slice_no_index ?_)
 refine wpAny_pure ?_
 show wpAny _ _ (typeOf (.ref sl) >>= _) _ _ _
 refine wpAny_bind (wpAny_typeOf hTs ?_)
 rw [if_neg (by decide)]
 rw [listSliceParts_eq]
 have hstep : ¬ ((rawPart none == rawInt 0) = true) := Bool.false_ne_true
 refine wpAny_bind (wpAny_bind (wpAny_field hos hds (x := .none) rfl (wpAny_bind (wpAny_listPart .none ?_))))
 rw [if_neg hstep]
 refine wpAny_bind (wpAny_field hos hds (x := vl) rfl (wpAny_bind (wpAny_listPart pl ?_)))
 refine wpAny_bind (wpAny_field hos hds (x := vu) rfl (wpAny_bind (wpAny_listPart pu (wpAny_pure ?_))))
 have hsame : Builtin.List.listSameRef (.ref x) (.ref l) = false := by simp [Builtin.List.listSameRef, hne]
 rw [hsame]
 show wpAny _ _ (Builtin.List.listAllItems (.ref l) _ >>= _) _ _ _
 refine wpAny_bind ?_
 refine wpAny_bind (wpAny_typeOf (T := "list") ⟨ol, hol, hlc⟩ ?_)
 rw [if_pos (by decide)]
 refine wpAny_bind (wpAny_seqItems hol hld (wpAny_pure ?_))
 refine wpAny_bind (wpAny_bind (wpAny_seqItems hx hxd (wpAny_pure ?_)))
 refine wpAny_bind (wpAny_of_eq (sliceIndices_raw lo hi none items.size (by decide)) ?_)
 have h1 : ((sliceBounds lo hi none items.size).2.2 == 1) = true := rfl
 refine wpAny_bind (wpAny_rule ?_)
 have h2 : Builtin.List.listTooLong (items.size + new.size) = false := by simp [Builtin.List.listTooLong, hsz]
 rw [h2]
 simp only [Bool.false_eq_true, if_false]
 unfold Builtin.List.listUpdate
 refine wpAny_bind (wpAny_updateSeq hx hxd ?_ (_hz' := Nat.le_succ_of_le (Nat.le_trans (put_size _ _ (Int.toNat_le_toNat (Int.le_max_left ..))) hsz)))
 exact wpAny_bind (wpAny_letGo (wpAny_pure ⟨_, rfl, rfl⟩))
end
end
end Mine
section
namespace Mine
open PySem PySem.Spec PySem.Calls PyProof.Rows PySem.W PySem.SeqAt
open Builtin
section
variable {prog : Program} {w : World} {A : Around} {E : Value → Shared → Prop} {s : Shared}
theorem Z160 {it l : Addr} {i nl : Nat} {items : Array Value} {ol : Obj} {x : Value} {Q : Option Value → Shared → Prop} (hit : s.heap.IsListIter it l i)
  (hol : s.heap.get? l = some ol) (hdl : ol.data = .seq items nl) (hx : items[i]? = some x)
  (hQ : ∀ h', h'.IsListIter it l (i + 1) → Heap.SameBut it s.heap h' → Q (some x) { s with heap := h' }) :
  wpAny (model prog w) A (pyNext (.ref it)) Q E s := by
 refine E1_3 (id hit) fun o ho hc hd => ?_
 refine wpAny_bind (wpAny_attempt (wpAny_callSpecial?_slot (name := Str.ofString "__next__") hit.typeIs slot_listiter_next
  (wpAny_call_entry slot_listiter_next hit.typeIs entry_listiter_next ?_ (args_listiter_next _))))
 show wpAny _ _ (field (.ref it) 0 >>= _) _ _ s
 refine wpAny_bind (wpAny_field ho hd (x := .ref l) rfl ?_)
 show wpAny _ _ (if (Value.ref l == Value.none) = true then _ else _) _ _ s
 rw [if_neg (show ¬ ((Value.ref l == Value.none) = true) from Bool.false_ne_true)]
 show wpAny _ _ (field (.ref it) 1 >>= _) _ _ s
 refine wpAny_bind (wpAny_field ho hd (x := .int i 0) rfl ?_)
 show wpAny _ _ (seqItems? (.ref l) >>= _) _ _ s
 refine wpAny_bind (wpAny_seqItems hol hdl ?_)
 simp only [Int.toNat_natCast, hx]
 refine wpAny_bind (wpAny_setField ho hd (by exact Nat.le_refl _) (wpAny_pure ⟨x, rfl, wpAny_pure (hQ _ ?_ (Heap.SameBut.update ..))⟩))
 exact ⟨_, Heap.get?_update_self _ ho (Obj.isFreed_of_fields (Obj.data_mapFields hd _)), (Obj.cls_mapFields ..).trans hc, by
  rw [Obj.data_mapFields hd]; simp [rawInt]⟩
theorem Z194 {it l : Addr} {i nl : Nat} {items : Array Value} {ol : Obj} {Q : Option Value → Shared → Prop} (hh : A.handled = none)
  (hit : s.heap.IsListIter it l i) (hol : s.heap.get? l = some ol) (hdl : ol.data = .seq items nl) (hx : items[i]? = none)
  (hQ : ∀ h', Heap.ExtBut it s.heap h' → Q none { s with heap := h' }) : wpAny (model prog w) A (pyNext (.ref it)) Q E s := by
 refine E1_3 (id hit) fun o ho hc hd => ?_
 refine wpAny_bind (wpAny_attempt (wpAny_callSpecial?_slot (name := Str.ofString "__next__") hit.typeIs slot_listiter_next
  (wpAny_call_entry slot_listiter_next hit.typeIs entry_listiter_next ?_ (args_listiter_next _))))
 show wpAny _ _ (field (.ref it) 0 >>= _) _ _ s
 refine wpAny_bind (wpAny_field ho hd (x := .ref l) rfl ?_)
 show wpAny _ _ (if (Value.ref l == Value.none) = true then _ else _) _ _ s
 rw [if_neg (show ¬ ((Value.ref l == Value.none) = true) from Bool.false_ne_true)]
 show wpAny _ _ (field (.ref it) 1 >>= _) _ _ s
 refine wpAny_bind (wpAny_field ho hd (x := .int i 0) rfl ?_)
 show wpAny _ _ (seqItems? (.ref l) >>= _) _ _ s
 refine wpAny_bind (wpAny_seqItems hol hdl ?_)
 simp only [Int.toNat_natCast, hx]
 refine wpAny_bind (wpAny_rule (wpAny_bind (wpAny_setField ho hd (by exact Nat.succ_pos _) ?_)))
 show wpAny _ _ (newExc (.type "StopIteration") [] >>= _) _ _ _
 refine wpAny_bind ?_
 refine wpAny_bind (wpAny_newObj_type ?_ (by size_fits))
 refine wpAny_bind (m := firstArgMember _ _) (wpAny_of_eq (a := Value.none) (by first | rfl | (dsimp only [firstArgMember]; rfl)) ?_)
 refine wpAny_newObj_type ?_ (by size_fits)
 refine wpAny_bind (wpAny_handled ?_)
 rw [show A.in1.handled = none from hh]
 refine wpAny_bind (wpAny_pure (wpAny_throw ?_))
 refine wpAny_bind (wpAny_isInstance (T := "StopIteration") (b := true) ⟨_, Heap.get?_push_size _ rfl, rfl⟩ isSubtype_stop ?_)
 exact wpAny_pure (hQ _ (((Heap.SameBut.update ..).extBut.push _).push _))
end
variable {K : Wd} {B : Base} {α β : Type} {A : Around} {g : Gh} {n : Nat} {env : Env} {c : Code}
variable {b : Gh} {S' : List Addr} {fn : List Nat} {cs : List Addr} {nm : List (Str × NameKind)} {σ σ' : List (Option D)} {own : List (Addr × MO)}
noncomputable def StS (R : List Addr) (it : Addr) (ds : List D) (g : Gh) : Prop := ∃ o ol l i its m, g.mu it = some o ∧ LI o l i ∧ g.reads R l ol ∧ ol.data = .seq its m ∧ Reps g.im ds (its.toList.drop i)
theorem It.seq {R : List Addr} {it : Addr} (hR : it ∉ R) : It K (.ref it) [it] R (StS R it) where
 item := fun {d ds g A} hh st s E ok => by
  refine E6_5 st fun o ol l i its m h1 h2 h3 hd h4 => ?_
  refine E1_3 (reps_at h4) fun v hv e2 e3 => ?_
  refine Z160 ⟨o, ok.mu _ _ h1, h2⟩ (h3.get ok) hd hv fun h' hit' hs => ?_
  refine E1_3 hit' fun o' ho' hc' hd' => ?_
  have ok' := ok.sameBut (tk := s.toks) h1 hs ho'
  refine ⟨_, ok', LeX.setMu, v, rfl, e2, fun target A => ?_⟩
  refine Z35 (a := it) (.inr Gh.setMu_self) hc' hd' (by decide) ⟨LeX.refl _ _, o', ol, l, i + 1, its, m, Gh.setMu_self, ⟨hc', hd'⟩, h3.up LeX.setMu (all1 hR), hd, e3⟩
 done := fun {g A} hh st s E ok => by
  refine E6_5 st fun o ol l i its m h1 h2 h3 hd h4 => ?_
  have hv := reps_off h4
  exact Z194 hh ⟨o, ok.mu _ _ h1, h2⟩ (h3.get ok) hd hv fun h' he => ⟨_, ok.lost (tk := s.toks) h1 he, LeX.drop, rfl⟩
 self := fun {ds g A Q} st q s E ok => by
  refine E6_5 st fun o ol l i its m h1 h2 h3 hd h4 => ?_
  exact wpAny_pyIter_listiter ⟨o, ok.mu _ _ h1, h2⟩ ⟨g, ok, q⟩
 frame := fun {ds g g' W} st l hw => by
  refine E6_5 st fun o ol a i its m h1 h2 h3 hd h4 => ?_
  exact ⟨o, ol, a, i, its, m, l.mu _ _ (fun hm => (hw _ hm).1 (by exact .head _)) h1, h2, h3.up l (fun a ha => (hw a ha).2), hd, h4.mono l.im⟩
 mem := fun {ds g} st => all1 (E6_5 st fun o ol l i its m h1 h2 h3 hd h4 => ⟨o, h1⟩)
 cell := fun {ds g} st => all1 (fun o' w e => E6_5 st fun o ol l i its m h1 h2 h3 hd h4 z => by rw [← Z39 h1 e, h2.2] at z; cases z)
noncomputable abbrev ClsL (B : Base) (C N : Addr) (mN : Str → Option Value) : Prop := ClsB B C N [.type "list", .type "object"] "list.__new__" mN
theorem Z85 {C N x dx : Addr} {mN : Str → Option Value} {its : Array Value} {m : Nat} {s : Shared} (hc : ClsL K.B C N mN) (hx : g.mu x = some (lsObj C dx its m)) (ok : g.Ok K.B s) {G : Prop} (k : ∀ nm q bs sn sub col dd k0 k1 k2 k3 k5, s.heap.get? C = some (subCls nm q C N bs sn sub col dd k0 k1 k2 k3 k5) → s.heap.Ns N mN → s.heap.get? x = some (lsObj C dx its m) → G) : G :=
 hc.elim ok fun nm q bs sn sub col dd k0 k1 k2 k3 k5 h1 h2 => k nm q bs sn sub col dd k0 k1 k2 k3 k5 h1 h2 (ok.mu _ _ hx)
theorem iter_sub {C N x dx : Addr} {mN : Str → Option Value} {its : Array Value} {m : Nat} {ds : List D} (hc : ClsL K.B C N mN) (hm : mN "__iter__" = none) (hx : g.mu x = some (lsObj C dx its m)) (hr : Reps g.im ds its.toList) : gwp K A (pyIter (.ref x)) (NewIt K [x] ds g) g := fun s E ok => by
 refine Z85 hc hx ok ?_
 intro nm' q' bs sn sub col dd k0 k1 k2 k3 k5 hC hN hx'
 have hne : s.heap.objs.size ≠ x := Nat.ne_of_gt (Heap.lt_size (ok.mu _ _ hx))
 refine sub_iter hC hN hx' rfl hm ⟨_, ok.pushMu (o := { cls := .type "list_iterator", data := .fields #[.ref x, .int 0 0] }) rfl, Le.addMu ok.fresh.2, _, _, It.seq (R := [x]) (by exact nmem1 hne), ?_, ?_⟩
 ·exact ⟨_, _, x, 0, its, m, Gh.setMu_self, ⟨rfl, rfl⟩, .inr ⟨by exact .head _, (Le.addMu ok.fresh.2).at hx⟩, rfl, by rw [List.drop_zero]; exact hr⟩
 ·intro c hc; simp at hc; subst hc; exact ⟨ok.fresh.2, by exact nmem1 hne⟩
theorem pit_sub {iter : Expr} {C N x dx : Addr} {mN : Str → Option Value} {its : Array Value} {m : Nat} {ds : List D} (hc : ClsL K.B C N mN) (hm : mN "__iter__" = none) (h : Pe K n g (eval iter env) (.raw (.ref x))) (hx : g.mu x = some (lsObj C dx its m)) (hr : Reps g.im ds its.toList) : PIt K n g iter env [x] ds := fun A r g₁ l₁ =>
 (h.le l₁).useR r fun g₂ l₂ => by
  exact Z9 (iter_sub hc hm (l₂.at (l₁.at hx)) ((hr.le l₁).le l₂)) fun it g₃ hi => hi.since l₂
theorem gwp_methS {o : Expr} {name : Str} {apos pos : Pos} {args : List Expr} {x dx C N f : Addr} {its : Array Value} {mm : Nat} {od : Obj} {mN : Str → Option Value} {L : List (Str × D)} {fd : FuncData} {y : Option Value} {ds : List D} {Q : Value → Gh → Prop} (r : Room A n) (hc : ClsL K.B C N mN)
  (hng : mN "__getattribute__" = none) (hnh : mN "__getattr__" = none) (hf : mN name = some (.ref f)) (hfn : FnB K.B f fd) (hB : typeLookup (.type "list") name = pure y)
  (ho : Pe K n g (eval o env) (.raw (.ref x))) (hx : g.mu x = some (lsObj C dx its mm)) (hd : g.mu dx = some od) (hm : (MO.inst L).P g.im od) (hv : name ∉ L.map (·.1)) (hargs : Pes K n g args env pos ds)
  (h : ∀ vs g', Le g g' → Reps g'.im ds vs → gwp K A (call (.ref f) (.ref x :: vs)) Q g')
  (hb : attributeBase o name env (eval o env) = eval o env := by rfl)
  (hline : (apos.endLine == pos.line) = true := by rfl)
  (hfew : ((backTo pos (starEach args env)).all (fun x => !x.1) && (backToKw pos (keywordEach [] env)).all (fun x => x.1.isSome)
   && decide (args.length + ([] : List Keyword).length + (if ([] : List Keyword).isEmpty then 0 else 1) < 30)) = true := by rfl)
  (hp : (backTo pos (starEach args env)).any (·.1) = false := by rfl) : gwp K A (eval (.Call (.Attribute o name apos) args [] pos) env) Q g := by
 refine Z61 ?_ hline hfew
 rw [hb]
 refine ho.use r fun ov g₁ l₁ p' pl => ?_
 have := Z22 p'; subst this
 refine Z256 hc hng hnh hf hfn hB (l₁.at hx) (l₁.at hd) ((MO.inst L).mono _ _ _ l₁.im hm) hv ?_
 refine Z103 fun z₀ => E1_1 z₀ fun s ok => ?_
 refine E1_2 ((hfn.at ok).obj) fun of' f1' f2' => ?_
 refine Z26 f1' f2' (Z7 hp ((hargs.le l₁).use r fun vs g₂ l₂ rs => ⟨f1'.le l₂, ?_⟩))
 exact h vs g₂ (l₁.trans l₂) rs
theorem gwp_appendS {C N x dx : Addr} {mN : Str → Option Value} {its : Array Value} {m : Nat} {v : Value} {Q : Value → Gh → Prop} (hc : ClsL K.B C N mN) (hx : g.mu x = some (lsObj C dx its m)) (hsz : its.size ≤ sizeLine) (q : ∀ m', Q .none (g.setMu x (lsObj C dx (its.push v) m'))) : gwp K A (call (.builtin "list.append") [.ref x, v]) Q g := fun s E ok => by
 refine Z85 hc hx ok ?_
 intro nm' q' bs sn sub col dd k0 k1 k2 k3 k5 hC hN hx'
 refine Z149 hC hx' rfl (show splitId "list.append" = some ("list", "append") from by decide +kernel) (by first | exact .inl (by decide +kernel) | exact .inr (by decide +kernel)) (.inl rfl) (by decide +kernel) entry_list_append (args_list_append _ _) ?_
 show wpAny _ _ (Builtin.List.listUpdate (.ref x) (·.push v) >>= _) _ _ _
 refine wpAny_bind (wpAny_updateSeq (o := lsObj C dx its m) hx' rfl (wpAny_pure ⟨_, rfl, ?_⟩) hsz (by simp; exact hsz))
 exact ⟨_, ok.upd hx (f := Obj.mapSeq (·.push v)) rfl, q _⟩
theorem gwp_getsliceS {C N x dx : Addr} {mN : Str → Option Value} {its : Array Value} {m : Nat} {ds : List D} {sl : Value} {lo hi st : Option Int} {Q : Value → Gh → Prop} (hc : ClsL K.B C N mN) (hm : mN "__getitem__" = none) (hx : g.mu x = some (lsObj C dx its m)) (hr : Reps g.im ds its.toList) (hs : IsSl g sl lo hi st) (h0 : st ≠ some 0) (hsz : its.size ≤ sizeLine)
  (q : ∀ v g', Le g g' → Rep g'.im (.lst (pick ds lo hi st)) v → Q v g') : gwp K A (getItem (.ref x) sl) Q g := fun s E ok => by
 refine Z85 hc hx ok ?_
 intro nm' q' bs sn sub col dd k0 k1 k2 k3 k5 hC hN hx'
 refine E4_5 hs ?_
 rintro b vl vu vs rfl eb p1 p2 p3
 have hsl : s.heap.IsSliceOf b vl vu vs := ⟨_, ok.im _ _ eb, rfl, rfl⟩
 refine sub_getslice hC hN hx' rfl rfl hm hsl p1 p2 p3 h0 hsz ⟨_, ok.pushIm (o := sq "list" (slicePick its lo hi st) 0) rfl, q _ _ (Le.addIm ok.fresh.1) ?_⟩
 exact Z16.mpr ⟨_, _, 0, rfl, Gh.addIm_self, (hr.pick lo hi st).mono (Le.addIm ok.fresh.1).im⟩
theorem Z166 {C N x dx : Addr} {mN : Str → Option Value} {its : Array Value} {m : Nat} {ds : List D} {sl v : Value} {lo hi : Option Int} {Q : Unit → Gh → Prop} (hc : ClsL K.B C N mN) (hm : mN "__setitem__" = none) (hx : g.mu x = some (lsObj C dx its m)) (hs : IsSl g sl lo hi none) (hv : Rep g.im (.lst ds) v) (hsz : its.size + ds.length ≤ sizeLine)
  (q : ∀ new m', Reps g.im ds new.toList → Q () (g.setMu x (lsObj C dx (slicePut its new lo hi) m'))) : gwp K A (setItem (.ref x) sl v) Q g := fun s E ok => by
 refine Z85 hc hx ok ?_
 intro nm' q' bs sn sub col dd k0 k1 k2 k3 k5 hC hN hx'
 refine E4_5 hs ?_
 rintro b vl vu vs rfl eb p1 p2 p3
 cases p3
 refine E3_3 (Z16.mp hv) ?_
 rintro l new ml rfl hl hnew
 have hsl : s.heap.IsSliceOf b vl vu .none := ⟨_, ok.im _ _ eb, rfl, rfl⟩
 have hls : s.heap.IsList l new := ⟨_, ok.im _ _ hl, rfl, ml, rfl⟩
 have hne : x ≠ l := fun e => by clear eb hx' hC q hsz; subst e; exact ok.dis _ _ _ hl hx
 have hlen : new.size = ds.length := by rw [← Array.length_toList, hnew.length]
 refine sub_setslice hC hN hx' rfl rfl hm hsl p1 p2 hls hne (by rw [hlen]; exact hsz) ?_
 exact ⟨_, ok.upd hx (f := Obj.mapSeq fun xs => xs.extract 0 (sliceBounds lo hi none its.size).1.toNat ++ new ++ xs.extract (max (sliceBounds lo hi none its.size).1 (sliceBounds lo hi none its.size).2.1).toNat xs.size) rfl, q new _ hnew⟩
theorem Z259 {value slice : Expr} {pos : Pos} {C N : Addr} {mN : Str → Option Value} {Q : Value → Gh → Prop} (hc : ClsL K.B C N mN) (hm : mN "__getitem__" = none)
  (h : gwp K A (eval value env) (fun o g₁ => gwp K A (eval slice env) (fun i g₂ => (∃ x dx its m, o = .ref x ∧ g₂.mu x = some (lsObj C dx its m)) ∧ gwp K A (getItem o i) Q g₂) g₁) g) : gwp K A (eval (.Subscript value slice pos) env) Q g := by
 rw [eval_Subscript]
 refine Z1 (Z9 h fun o g₁ h₁ => Z1 (Z18 (gM0_2 h₁ fun i g₂ hT h₂ => Z1 (Z28 ?_))))
 refine E4_2 hT ?_
 clear hT h₁; rintro x dx its m rfl hx
 have hgp : ∀ {Q : Bool → Gh → Prop}, Q false g₂ → gwp K A (getitemInPython (.ref x)) Q g₂ := fun {Q} q s E ok => by
  refine Z85 hc hx ok ?_
  intro nm' q' bs sn sub col dd k0 k1 k2 k3 k5 hC hN hx'
  refine wpAny_bind (Z55 hC hN hx' rfl slot_list_getitem.lookup ?_)
  rw [hm]
  exact wpAny_pure ⟨_, ok, q⟩
 refine Z1 (hgp ?_)
 exact Z116 h₂
end Mine
end
namespace Mine
section
open PySem PySem.Spec PySem.Calls PyProof.Rows PySem.W PySem.SeqAt Builtin
variable {K : Wd} {B : Base} {α β : Type} {A : Around} {g : Gh} {n : Nat} {env : Env} {c : Code}
variable {b : Gh} {S' : List Addr} {fn : List Nat} {cs : List Addr} {nm : List (Str × NameKind)} {σ σ' : List (Option D)} {own : List (Addr × MO)}
theorem op_isNone {d : D} (h : ∀ im v, Rep im d v → v ≠ .none) : OpSem K n g (compareOp .Is) d .none (.bool false) := fun g₁ l v₁ v₂ h1 h2 A r g₂ l₂ s E ok => by
 have h3 : v₂ = .none := by simpa [Rep] using h2
 subst h3
 exact is_none_ne (h _ _ h1) ⟨g₂, ok, LeX.refl _ _, Z48⟩
theorem Z93 (s e : Nat) : sliceRange (s : Int) (e : Int) 1 = (List.range (e - s)).map (s + ·) := by
 delta sliceRange
 simp only [show (1 : Int) > 0 from by decide, if_true]
 have : (if (s : Int) < e then ((e : Int) - s + 1 - 1) / 1 else 0).toNat = e - s := by
  split <;> lia
 rw [this]
 refine List.map_congr_left fun k hk => ?_
 lia
theorem Z153 {γ : Type} (l : List γ) (s e : Nat) : (sliceRange (s : Int) (e : Int) 1).filterMap (l[·]?) = (l.take e).drop s := by
 rw [Z93, List.filterMap_map]
 apply List.ext_getElem?
 intro i
 have key : ∀ (m : Nat), ((List.range m).filterMap ((l[·]?) ∘ (s + ·))) = (l.drop s).take m := by
  intro m
  induction m with
  | zero => simp
  | succ m ih =>
   rw [List.range_succ, List.filterMap_append, ih, List.take_succ]
   congr 1
   simp only [List.filterMap_cons, List.filterMap_nil, Function.comp, List.getElem?_drop]
   cases l[s + m]? <;> rfl
 rw [key]
 congr 1
 rw [List.drop_take]
theorem Z221 {γ : Type} (l : List γ) (i : Nat) : pick l (some (i : Int)) none none = l.drop i := by
 delta pick sliceBounds
 simp only [Option.getD_none, show (1 : Int) > 0 from by decide, if_true, show ¬ ((i : Int) < 0) from Int.not_lt.mpr (Int.natCast_nonneg _), if_false]
 rcases Nat.le_total i l.length with h | h
 ·rw [show max (0 : Int) (min (i : Int) l.length) = (i : Nat) from by lia, Z153, List.take_length]
 ·rw [show max (0 : Int) (min (i : Int) l.length) = (l.length : Nat) from by lia, Z153, List.take_length, List.drop_length, List.drop_eq_nil_iff.mpr h]
theorem pick_to {γ : Type} (l : List γ) (i : Nat) : pick l none (some (i : Int)) none = l.take i := by
 delta pick sliceBounds
 simp only [Option.getD_none, show (1 : Int) > 0 from by decide, if_true, show ¬ ((i : Int) < 0) from Int.not_lt.mpr (Int.natCast_nonneg _), if_false]
 rw [show (0 : Int) = (0 : Nat) from rfl]
 rcases Nat.le_total i l.length with h | h
 ·rw [show max ((0 : Nat) : Int) (min (i : Int) l.length) = (i : Nat) from by lia, Z153, List.drop_zero]
 ·rw [show max ((0 : Nat) : Int) (min (i : Int) l.length) = (l.length : Nat) from by lia, Z153, List.drop_zero, List.take_length, List.take_of_length_le h]
theorem Z291 {its new : Array Value} {i : Nat} (h : i ≤ its.size) : (slicePut its new (some (i : Int)) none).toList = its.toList.take i ++ new.toList := by
 delta slicePut sliceBounds
 simp only [Option.getD_none, show (1 : Int) > 0 from by decide, if_true, show ¬ ((i : Int) < 0) from Int.not_lt.mpr (Int.natCast_nonneg _), if_false]
 have h1 : (max 0 (min (i : Int) its.size)).toNat = i := by rw [Int.min_eq_left (Int.ofNat_le.mpr h), Int.max_eq_right (Int.natCast_nonneg _), Int.toNat_natCast]
 have h2 : (max (max 0 (min (i : Int) its.size)) (its.size : Int)).toNat = its.size := by rw [Int.min_eq_left (Int.ofNat_le.mpr h), Int.max_eq_right (Int.natCast_nonneg _), Int.max_eq_right (Int.ofNat_le.mpr h), Int.toNat_natCast]
 rw [h1, h2]
 simp [Array.toList_append]
theorem slicePut_all {its new : Array Value} : (slicePut its new none none).toList = new.toList := by
 delta slicePut sliceBounds
 simp only [Option.getD_none, show (1 : Int) > 0 from by decide, if_true]
 have h2 : (max (0 : Int) (its.size : Int)).toNat = its.size := by rw [Int.max_eq_right (Int.natCast_nonneg _), Int.toNat_natCast]
 rw [h2]
 simp [Array.toList_append]
theorem gx_setattrS {o value : Expr} {attr : Str} {pos' pos : Pos} {rest : List Stmt} {x dx C N : Addr} {mN : Str → Option Value} {L : List (Str × D)} {ds : List D} {d : D} {i j : Nat} {Q : Flow → Gh → Prop} (F : Frm K b S' fn cs env nm σ own g) (r : Room A n) (hc : ClsB K.B C N [.type "list", .type "object"] "list.__new__" mN) (hns : mN "__setattr__" = none) (hna : mN attr = none) (hB : typeLookup (.type "list") attr = pure none) (hxC : K.B.h₀.objs.size > C)
  (hi : own[i]? = some (x, MO.lsub C dx ds)) (hj : own[j]? = some (dx, MO.inst L)) (hne : dx ≠ x) (hsz : L.length ≤ 1000) (ho : Pe K n g (eval o env) (.raw (.ref x))) (hval : Pe K n g (eval value env) d)
  (k : ∀ g', LeX [dx] g g' → Frm K b S' fn cs env nm σ (own.set j (dx, MO.inst (putN L attr d))) g' → gwp K A (execs rest env) Q g')
  (hs : swapsWith value (some (.Attribute o attr pos')) pos.line env = pure false := by rfl) : gwp K A (execs (.Assign [.Attribute o attr pos'] value pos :: rest) env) Q g :=
 Z10 (Z197 F r hc hns hna hB hxC hi hj hne hsz ho hval (fun g' l H => k g' l H) hs)
end
end Mine
namespace Mine
section
open PySem PySem.Spec PySem.Calls PyProof.Rows PySem.W PySem.SeqAt
variable {K : Wd} {A : Around} {g : Gh} {n : Nat} {env : Env} {α : Type}
variable {b : Gh} {S' : List Addr} {fn : List Nat} {cs : List Addr} {nm : List (Str × NameKind)} {σ σ' : List (Option D)} {own : List (Addr × MO)}
theorem acc_append : M_Ac "append" = none := by decide +kernel
theorem acc_gi : M_Ac "__getitem__" = none := by decide +kernel
theorem acc_si : M_Ac "__setitem__" = none := by decide +kernel
theorem acc_it : M_Ac "__iter__" = none := by decide +kernel
theorem Z204 : M_Ac "pop_from" = some (.ref a_Ac_pf) := by decide +kernel
theorem acc_reset : M_Ac "reset" = some (.ref a_Ac_reset) := by decide +kernel
theorem acc_len : M_Ac "__len__" = some (.ref a_Ac_len) := by decide +kernel
theorem ls_append : typeLookup (.type "list") "append" = pure (some (.builtin "list.append")) := by rw [typeLookup_type, builtinLookup_eq_fast]; kernel_rfl
theorem Z231 : typeLookup (.type "list") "pop_from" = pure none := by rw [typeLookup_type, builtinLookup_eq_fast]; kernel_rfl
theorem ls_reset : typeLookup (.type "list") "reset" = pure none := by rw [typeLookup_type, builtinLookup_eq_fast]; kernel_rfl
theorem ty_append : typeOf (.builtin "list.append") = pure (.type "method_descriptor") := by kernel_rfl
theorem acc_cell {x dx : Addr} {d : D} {ds : List D} {im : Im} : ∀ p ∈ AccOwn x dx d ds, ∀ o w, p.2.P im o → o.data ≠ .cell w := by
 intro p hp o w h
 simp only [AccOwn, List.mem_cons, List.not_mem_nil, or_false] at hp
 rcases hp with rfl | rfl
 ·exact MO.lsub_cell o w h
 ·exact MO.inst_cell o w h
theorem w_acc_push (X : WX K) {x dx : Addr} {d e f : D} {ds : List D} {v w : Value} (r : Room A (n + 2)) (hH : Holds (AccOwn x dx d ds) g) (hnd : [x, dx].Nodup) (hsz : ds.length ≤ 10000) (hv : Rep g.im e v) (hw : Rep g.im f w) :
  gwp K A (call (.ref a_Ac_push) [.ref x, v, w]) (fun u g' => u = .none ∧ LeX [x, dx] g g' ∧ Holds (AccOwn x dx d (ds ++ [.tup [e, f]])) g') g := by
 refine cps fun Q₀ k₀ => ?_
 refine Z14 (n := n) (fn := []) (S' := []) (binds := [("self", .ref x), ("fws", v), ("string", w)]) (bi := [(0, .raw (.ref x)), (1, e), (2, f)]) X.f_Ac_push r (Z15 (by rfl)) ok_Ac_push so_Ac_push (Z3 X.gt gi_Ac_push)
  ⟨.inl rfl, Z27, .inl rfl, hv, .inl rfl, hw, trivial⟩ fun A' L cells cs g' r' H => ?_
 replace H := H.adoptB hH hnd
 refine Z10 (Z92 (Z61 ?_) H.inter)
 show gwp K A' (eval (.Name "self" _) _) _ g'
 refine (pn H 0).use r' fun ov g₁ l₁ p pl => ?_
 have := Z22 p; subst this
 replace H := H.up l₁
 obtain ⟨ox, x1, its, m, rfl, x2⟩ := H.at (i := 0) rfl
 refine E1_2 (H.at (i := 1) rfl) fun od d1 d2 => ?_
 refine Z257 X.k_Ac acc_ga acc_gh acc_append ls_append ty_append x1 d1 d2 (by simp only [accL, List.map_cons, List.map_nil, List.mem_singleton]; decide +kernel) ?_
 refine Z19 (fun a z => by clear x1 H r; cases z) rfl ?_
 refine Z7 rfl ((Z2 (Z38 (Z2 (pn H 1) (Z2 (pn H 2) Z5))) Z5).use r' fun vs g₂ l₂ rs => ?_)
 refine E1_2 (reps1 rs) ?_
 rintro t rfl ht
 replace H := H.up l₂
 have hlen : its.size ≤ sizeLine := by rw [← Array.length_toList, x2.length]; exact Nat.le_trans hsz (by decide)
 refine gwp_appendS X.k_Ac (l₂.at x1) hlen fun m' => ⟨(fun a z => by clear H ht rs x1 r; cases z), ?_⟩
 replace H := H.adv (i := 0) rfl (LeX.setMu (a := x) (o := lsObj C_Ac dx (its.push t) m')) (m' := MO.lsub C_Ac dx (ds ++ [.tup [e, f]])) ⟨_, Gh.setMu_self, _, m', rfl, by rw [Array.toList_push]; exact Reps.append (x2.mono l₂.im) (Reps.cons ht Reps.nil)⟩ MO.lsub_cell
 exact Z43 (k₀ _ _ ⟨rfl, H.le, H.holds⟩)
theorem Z189 (X : WX K) {x v : Value} : BindTo K fd_Ac_pf ⟨[x, v], []⟩ [("self", x), ("i", v)] g := fun A Q q => by
 refine E3_2 (X.dv 46 (by exact .tail _ (.head _))) fun o u m h1 h2 => ?_
 show gwp K A (Bind.bind (seqItems? (Value.ref 46)) _) Q g
 refine Z1 (Z103 fun z₀ => E1_1 z₀ fun s ok => Z117 (.inl (ok.base _ _ h1)) h2 ?_)
 exact Z82 rfl (Z4 q)
theorem Z264 (X : WX K) {x v : Value} : BindTo K fd_Ac_reset ⟨[x, v], []⟩ [("self", x), ("startval", v)] g := fun A Q q => by
 refine E3_2 (X.dv 76 (by exact .tail _ (.tail _ (.head _)))) fun o u m h1 h2 => ?_
 show gwp K A (Bind.bind (seqItems? (Value.ref 76)) _) Q g
 refine Z1 (Z103 fun z₀ => E1_1 z₀ fun s ok => Z117 (.inl (ok.base _ _ h1)) h2 ?_)
 exact Z82 rfl (Z4 q)
theorem Z129 (X : WX K) {x dx : Addr} {d : D} {i : Nat} {ds : List D} {v : Value} (r : Room A (n + 2)) (hH : Holds (AccOwn x dx d ds) g) (hnd : [x, dx].Nodup) (hsz : ds.length ≤ 10000) (hi : i ≤ ds.length) (hv : Rep g.im (.int i) v) :
  gwp K A (call (.ref a_Ac_pf) [.ref x, v]) (fun u g' => Rep g'.im (.lst (ds.drop i)) u ∧ LeX [x, dx] g g' ∧ Holds (AccOwn x dx d (ds.take i)) g') g := by
 refine cps fun Q₀ k₀ => ?_
 refine Z14 (n := n) (fn := []) (S' := []) (binds := [("self", .ref x), ("i", v)]) (bi := [(0, .raw (.ref x)), (1, .int i)]) X.f_Ac_pf r (Z189 X) ok_Ac_pf so_Ac_pf (Z3 X.gt gi_Ac_pf)
  ⟨.inl rfl, Z27, .inl rfl, hv, trivial⟩ fun A' L cells cs g' r' H => ?_
 replace H := H.adoptB hH hnd
 refine Z10 (Z34 (Z259 X.k_Ac acc_gi ((pn H 0).useR r' fun g₁ l₁ => (Z121 (Z112 (pn (H.up l₁) 1)) Z37 Z37).use r' fun sl g₂ l₂ hsl => ?_)))
 replace H := (H.up l₁).up l₂
 obtain ⟨ox, x1, its, m, rfl, x2⟩ := H.at (i := 0) rfl
 have hlen : its.size = ds.length := by rw [← Array.length_toList, x2.length]
 refine ⟨⟨x, dx, its, m, rfl, x1⟩, gwp_getsliceS X.k_Ac acc_gi x1 x2 hsl (by decide) (by rw [hlen]; exact Nat.le_trans hsz (by decide)) fun u g₃ l₃ hu => ?_⟩
 rw [Z221] at hu
 replace H := H.up l₃
 refine H.storeLocal (i := 2) rfl hu fun g₄ l₄ H => ?_
 refine Z10 (Z176 ((Z179 Z5).use r' fun nv g₅ l₅ hnv => (pn (H.up l₅) 0).useR r' fun g₆ l₆ => (Z121 (Z112 (pn ((H.up l₅).up l₆) 1)) Z37 Z37).use r' fun sl g₇ l₇ hsl => ?_))
 replace H := ((H.up l₅).up l₆).up l₇
 obtain ⟨ox, y1, its', m', rfl, y2⟩ := H.at (i := 0) rfl
 have hlen' : its'.size = ds.length := by rw [← Array.length_toList, y2.length]
 refine Z166 X.k_Ac acc_si y1 hsl ((hnv.le l₆).le l₇) (by rw [hlen']; exact Nat.le_trans hsz (by decide)) fun new m'' hnew => ?_
 replace H := H.adv (i := 0) rfl (LeX.setMu (a := x) (o := lsObj C_Ac dx (slicePut its' new (some (i : Int)) none) m'')) (m' := MO.lsub C_Ac dx (ds.take i)) ⟨_, Gh.setMu_self, _, m'', rfl, by
  rw [Z291 (by lia)]
  have : new.toList = [] := by simpa [Reps] using hnew
  rw [this, List.append_nil]
  exact y2.take i⟩ MO.lsub_cell
 refine Z46 r' (pn H 2) fun v g₈ l₈ h8 => (k₀ _ _ ⟨h8, (H.up l₈).le, (H.up l₈).holds⟩)
theorem w_acc_reset (X : WX K) {x dx : Addr} {d : D} {ds es : List D} {v : Value} (r : Room A (n + 2)) (hH : Holds (AccOwn x dx d ds) g) (hnd : [x, dx].Nodup) (hsz : ds.length ≤ 10000) (hsz' : es.length ≤ 10000) (hv : Rep g.im (.lst es) v) :
  gwp K A (call (.ref a_Ac_reset) [.ref x, v]) (fun u g' => u = .none ∧ LeX [x, dx] g g' ∧ Holds (AccOwn x dx (.int 0) es) g') g := by
 refine cps fun Q₀ k₀ => ?_
 refine Z14 (n := n) (fn := []) (S' := []) (binds := [("self", .ref x), ("startval", v)]) (bi := [(0, .raw (.ref x)), (1, .lst es)]) X.f_Ac_reset r (Z264 X) ok_Ac_reset so_Ac_reset (Z3 X.gt gi_Ac_reset)
  ⟨.inl rfl, Z27, .inl rfl, hv, trivial⟩ fun A' L cells cs g' r' H => ?_
 replace H := H.adoptB hH hnd
 have hne : dx ≠ x := nd_ne hnd
 have hC : K.B.h₀.objs.size > C_Ac := Nat.lt_of_lt_of_le (by decide) (Nat.le_of_lt X.low)
 refine gx_if r' (Z30 (pn H 1) pe_none (op_isNone fun im v h => by clear H r; obtain ⟨a, its, n, rfl, _⟩ := Z16.mp h; intro z; cases z)) (fun z => by clear H r; cases z) fun _ g₁ l₁ => Z57 ?_
 replace H := H.up l₁
 refine Z10 (Z176 ((pn H 1).use r' fun nv g₅ l₅ hnv => (pn (H.up l₅) 0).useR r' fun g₆ l₆ => (Z121 Z37 Z37 Z37).use r' fun sl g₇ l₇ hsl => ?_))
 replace H := ((H.up l₅).up l₆).up l₇
 obtain ⟨ox, y1, its', m', rfl, y2⟩ := H.at (i := 0) rfl
 have hlen' : its'.size = ds.length := by rw [← Array.length_toList, y2.length]
 refine Z166 X.k_Ac acc_si y1 hsl ((hnv.le l₆).le l₇) (by rw [hlen']; exact Nat.le_trans (Nat.add_le_add hsz hsz') (by decide)) fun new m'' hnew => ?_
 replace H := H.adv (i := 0) rfl (LeX.setMu (a := x) (o := lsObj C_Ac dx (slicePut its' new none none) m'')) (m' := MO.lsub C_Ac dx es) ⟨_, Gh.setMu_self, _, m'', rfl, by rw [slicePut_all]; exact hnew⟩ MO.lsub_cell
 refine gx_setattrS (i := 0) (j := 1) (d := .int 0) H r' X.k_Ac acc_sa acc_isz ls_isz hC rfl rfl hne (by simp [accL]) (pn H 0) Z11 fun g₈ l₈ H => ?_
 refine Z43 (k₀ _ _ ⟨rfl, H.le, ?_⟩)
 have h9 := H.holds
 have : putN (accL d) (Str.ofString "_initial_size") (.int 0) = accL (.int 0) := by exact rfl
 rw [this] at h9
 exact h9
end
end Mine
namespace Mine
section
open PySem PySem.Spec PySem.Calls PyProof.Rows PySem.W PySem.SeqAt Builtin
variable {K : Wd} {B : Base} {α β : Type} {A : Around} {g : Gh} {n : Nat} {env : Env}
variable {b : Gh} {S' : List Addr} {fn : List Nat} {cs : List Addr} {nm : List (Str × NameKind)} {σ σ' : List (Option D)} {own : List (Addr × MO)}
theorem Z242 {c P : Addr} {pos : Pos} {qual : Str} {scope : Scope} {Q : Value → Gh → Prop} (hc : env.code = .ref c) (ht : (c, P) ∈ K.B.tabs) (hq : K.B.qn pos.line pos.col = some qual)
  (h : ∀ c' g' oc vs tq, Le g g' → g'.im c' = some oc → oc.data = .fields vs → vs[1]? = some (.str qual tq) → Q (.ref c') g') : gwp K A (genexprCode env pos qual scope) Q g :=
 Z279 ht hq (fun _ _ _ _ _ b1 hf q => Z101 hc b1 hf q) (fun _ _ _ _ b1 b2 hf k => wpAny_genexprCodeX hc b1 b2 hf k) h
theorem Gh.Ok.any {s s' : Shared} (ok : g.Ok B s) (h : s'.heap = s.heap) (ho : s'.os = s.os) (hg : ∃ ex, s'.gens = g.gs ++ ex ∧ AllBare ex) : g.Ok B s' :=
 ⟨fun a o e => by rw [h]; exact ok.im a o e, fun a o e => by rw [h]; exact ok.mu a o e, ok.dis, ok.base, ok.new, by rw [h]; exact ok.size, by rw [h]; exact ok.old, ho.trans ok.os, hg,
  fun c P hm => by rw [h]; exact ok.tabs c P hm, ok.apart⟩
theorem WalksU.ofSeq {prog : Program} {w : World} {A : Around} (hh : A.handled = none) (I ax : Addr) (hne : ax ≠ I) (ol : Obj) (nl : Nat) (items : Array Value) (hol : ol.data = .seq items nl) (Ts : Nat → Addr) (vals : Nat → Array Value)
  (hit : ∀ j, j < items.size → items[j]? = some (.ref (Ts j))) (hTI : ∀ j, j < items.size → Ts j ≠ I) :
  WalksU prog w A I (I :: ax :: (List.range items.size).map Ts) [I] items.size (fun j v => j < items.size ∧ v = vals j)
   (fun j h => h.IsListIter I ax j ∧ h.get? ax = some ol ∧ ∀ k, k < items.size → h.IsTuple (Ts k) (vals k))
   (fun j T h => (j < items.size ∧ T = Ts j) ∧ h.IsListIter I ax (j + 1) ∧ h.get? ax = some ol ∧ ∀ k, k < items.size → h.IsTuple (Ts k) (vals k)) where
 sub := fun b hb => by clear hTI hit; simp at hb; simp [hb]
 frame := fun _ _ _ st hk => ⟨st.1.at fun o e => hk I (by exact .head _) o e, hk ax (by exact .tail _ (.head _)) _ st.2.1,
  fun k hk' => (st.2.2 k hk').at fun o e => hk (Ts k) (List.mem_cons_of_mem _ (List.mem_cons_of_mem _ (List.mem_map.mpr ⟨k, List.mem_range.mpr hk', rfl⟩))) o e⟩
 item := fun i s Q E hi st hQ => by
  refine Z160 st.1 st.2.1 hol (x := .ref (Ts i)) (hit i hi) fun h' hit' hs' => ?_
  have tup : ∀ k, k < items.size → h'.IsTuple (Ts k) (vals k) := fun k hk' => (st.2.2 k hk').extBut hs'.extBut (hTI k hk')
  exact hQ (Ts i) (vals i) h' s.toks ⟨hi, rfl⟩ (tup i hi) ⟨⟨hi, rfl⟩, hit', hs'.extBut ax _ hne st.2.1, tup⟩ fun b o hb e => hs'.extBut b o (fun h => hb (by simp [h])) e
 go := fun _ _ _ _ _ s Q _ hm hQ => wpAny_letOwnedTupleGo_listiter hm.2.1 (hQ s.heap hm.2 fun _ _ _ e => e)
 apart := fun j T _ hm hmem => by
  rcases List.mem_cons.mp hmem with e | e
  ·exact hTI j hm.1.1 (hm.1.2 ▸ e)
  ·cases e
 done := fun s Q E st hQ => Z194 hh st.1 st.2.1 hol (by simp) fun h' he' => hQ h' s.toks fun b o hb e => he' b o (fun h => hb (by simp [h])) e
 self := fun _ _ _ _ st hQ => wpAny_pyIter_listiter st.1 hQ
theorem WalksS.imp {prog : Program} {w : World} {A : Around} {I : Addr} {fp wr : List Addr} {G : Array GenState → Array GenState → Prop} {n : Nat} {P P' : Nat → Value → Prop} {St : Nat → Shared → Prop}
  (W : WalksS prog w A I fp wr G n P St) (h : ∀ i v, P i v → P' i v) : WalksS prog w A I fp wr G n P' St :=
 {W with item := fun i s Q E hi st hQ => W.item i s Q E hi st fun v s' hp => hQ v s' (h i v hp) }
theorem Z223 (n : Nat) : passing (fun _ => true) n 0 = List.range n := by delta passing; simp
theorem gens_of_only {gs ex a b : Array GenState} {y : GenState} (ha : a = (gs ++ ex).push y) (hy : y.bare = true) (he : AllBare ex) (h : GenOnlyQ (gs ++ ex).size a b) : ∃ ex', b = gs ++ ex' ∧ AllBare ex' := by
 rcases h with rfl | ⟨⟨h1, h2⟩, h3⟩
 ·exact ⟨ex.push y, by rw [ha, Array.push_append], he.push hy⟩
 ·subst ha
  have hs : b.size = (gs ++ ex).size + 1 := by rw [h1, Array.size_push]
  have hb : b = (gs ++ ex).push b[(gs ++ ex).size] := by
   apply Array.ext_getElem?
   intro k
   by_cases hk : k = (gs ++ ex).size
   ·subst hk
    rw [Array.getElem?_push_size, Array.getElem?_eq_getElem (by lia)]
   ·rw [h2 k hk, Array.getElem?_push, Array.getElem?_push, if_neg hk, if_neg hk]
  refine ⟨ex.push b[(gs ++ ex).size], by rw [← Array.push_append]; exact hb, he.push (h3 _ ?_)⟩
  rw [Array.getElem?_eq_getElem (by lia)]
theorem pair_rows {im : Im} {its : Array Value} {ds : List D} {da db : Nat → D} (hr : Reps im ds its.toList) (hds : ∀ (j : Nat) d, ds[j]? = some d → d = .tup [da j, db j]) :
  ∃ (Ts : Nat → Addr) (vals : Nat → Array Value), ∀ j, j < its.size → its[j]? = some (.ref (Ts j)) ∧ ∃ va vb, vals j = #[va, vb] ∧ (∃ k, im (Ts j) = some (sq "tuple" #[va, vb] k)) ∧ Rep im (da j) va ∧ Rep im (db j) vb := by
 have hrow : ∀ j, ∃ p : Addr × Array Value, j < its.size → its[j]? = some (.ref p.1) ∧ ∃ va vb, p.2 = #[va, vb] ∧ (∃ k, im p.1 = some (sq "tuple" #[va, vb] k)) ∧ Rep im (da j) va ∧ Rep im (db j) vb := fun j => by
  by_cases hj : j < its.size
  ·refine E1_2 (hr.get' (i := j) (v := its[j]) (by rw [Array.getElem?_toList, Array.getElem?_eq_getElem hj])) fun d e1 e2 => ?_
   rw [hds j _ e1] at e2
   refine E3_3 (Z62.mp e2) fun T its' k e e3 e4 => ?_
   simp only [Reps] at e4
   refine E2_3 e4 fun va l e5 e6 z => E2_3 z fun vb l' e7 e8 e9 => ⟨(T, its'), fun _ => ⟨(Array.getElem?_eq_getElem hj).trans (congrArg some e), va, vb, Array.ext' (by rw [e5, e7, e9]), ⟨k, ?_⟩, e6, e8⟩⟩
   rw [e3, Array.ext' (xs := its') (ys := #[va, vb]) (by rw [e5, e7, e9])]
  ·exact ⟨(0, #[]), fun h => absurd h hj⟩
 exact E1_1 (Classical.axiomOfChoice hrow) fun f h => ⟨fun j => (f j).1, fun j => (f j).2, h⟩
theorem any_genPairs {x dx C N c P : Addr} {mN : Str → Option Value} {its : Array Value} {m : Nat} {ds : List D} {da db : Nat → D} {elt iter : Expr} {xa xb qual : Str} {pa pb pt : Pos} {kt : Nat} {scope : Scope} {pos : Pos} {F' : Nat → Value → Prop} {s : Shared} {E : Value → Shared → Prop} {Q : Value → Shared → Prop}
  (M : ModB K.B) (ok : g.Ok K.B s) (r : Room A n) (hc : ClsL K.B C N mN) (hm : mN "__iter__" = none) (hx : g.mu x = some (lsObj C dx its m)) (hr : Reps g.im ds its.toList) (hds : ∀ (j : Nat) d, ds[j]? = some d → d = .tup [da j, db j]) (hiter : Pe K n g (eval iter env) (.raw (.ref x)))
  (hcode : env.code = .ref c) (ht : (c, P) ∈ K.B.tabs) (hq : K.B.qn pos.line pos.col = some qual) (hqq : env.qual ++ "<genexpr>" = qual) (hgl : env.globals = mainGlobals)
  (hco : scope.isCoroutine = false) (hclos : closureFor scope env = pure []) (hcell : ∀ y ∈ scope.names, y.2 ≠ .cell) (h0 : scope.names.lookup (".0" : Str) = some NameKind.local)
  (hxa : scope.names.lookup xa = some .local) (hxb : scope.names.lookup xb = some .local) (hab : xa ≠ xb) (hkind : scope.kind = .function)
  (helt : ∀ (A' : Around) E' i va vb (s₂ : Shared) m₂ L code, A'.handled = none → A'.depth ≤ A.depth + 1 → A'.units ≤ A.units + 8 → i < ds.length → Rep g.im (da i) va → Rep g.im (db i) vb → (∀ a o, g.im a = some o → s₂.heap.get? a = some o) →
   s₂.heap.Ns L m₂ → m₂ xa = some va → m₂ xb = some vb → wpAny (model K.prog K.w) A' (eval elt (genEnv scope [] L code builtinsNs env)) (fun y s₃ => F' i y ∧ Keeps s₂ s₃) E' s₂)
  (fin : ∀ a g' s' fp wr gi St, Le g g' → g'.Ok K.B s' → WalksS K.prog K.w A.in4 a fp wr (GenOnlyQ gi) ds.length F' St → St 0 s' → (∀ i s, St i s → s.TypeIs (.ref a) "generator") → a ∈ fp → (∀ b ∈ fp, b < s'.heap.objs.size) → (∀ s'', Moved wr (GenOnlyQ gi) s' s'' → g'.Ok K.B s'') → Q (.ref a) s')
  (hs : ∀ x, genFold iter env x = pure x := by intro _; rfl) :
  wpAny (model K.prog K.w) A (eval (.GeneratorExp elt [⟨.Tuple [.Name xa pa, .Name xb pb] kt pt, iter, [], 0⟩] scope pos) env) Q E s := by
 have hh := r.1
 refine wpAny_GeneratorExp_walksQTD hh hco hclos hcell h0 hxa hxb hab hkind r.depth (wM1_3 (hiter.use r (Q := fun v g₁ => v = .ref x ∧ Le g g₁) (fun v g₁ l p => ⟨Z22 p, l⟩) s E ok) (fun v s₁ g₁ ok₁ e l₁ => ?_)) hs
 subst e
 have hx₁ := l₁.at hx
 refine Z85 hc hx₁ ok₁ ?_
 intro nm' q' bs sn sub col dd k0 k1 k2 k3 k5 hC hN hxh
 have hIx : x ≠ s₁.heap.objs.size := Nat.ne_of_lt (Heap.lt_size hxh)
 refine sub_iter hC hN hxh rfl hm ?_
 have hfr := ok₁.fresh
 have ok₂ := ok₁.pushMu (o := { cls := .type "list_iterator", data := .fields #[.ref x, .int 0 0] }) rfl
 have l₂ : Le g₁ (g₁.setMu s₁.heap.objs.size { cls := .type "list_iterator", data := .fields #[.ref x, .int 0 0] }) := Le.addMu hfr.2
 refine ⟨ok₂.nolimit, wM1_2 (Z242 (Q := fun v g₃ => Le (g₁.setMu s₁.heap.objs.size { cls := .type "list_iterator", data := .fields #[.ref x, .int 0 0] }) g₃) hcode ht hq (fun c' g₃ oc vs tq l₃ _ _ _ => l₃) _ E ok₂ |> fun z => hqq ▸ z) (fun code s₄ g₃ ok₃ l₃ => ?_)⟩
 refine E4_8 M.bi fun o f bm ob m1 m2 m3 m4 m5 m6 m7 m8 => ?_
 rw [hgl]
 refine wpAny_builtinsFor (m2.ns (ok₃.im _ _ (ok₃.base _ _ m1))) m3 m4 (ok₃.im _ _ (ok₃.base _ _ m5)) m6 m7 m8 ?_
 have hI₃ : g₃.mu s₁.heap.objs.size = some { cls := .type "list_iterator", data := .fields #[.ref x, .int 0 0] } := l₃.at Gh.setMu_self
 have hx₃ : g₃.mu x = some (lsObj C dx its m) := l₃.at (l₂.at hx₁)
 have l03 : ∀ a o, g.im a = some o → g₃.im a = some o := fun a o e => l₃.im _ _ (l₂.im _ _ (l₁.im _ _ e))
 have hlen : its.size = ds.length := by rw [← Array.length_toList, hr.length]
 refine E2_1 (pair_rows hr hds) fun Ts vals hvals => ?_
 have hTI : ∀ j, j < its.size → Ts j ≠ s₁.heap.objs.size := fun j hj e => by
  refine E2_3 (hvals j hj).2 ?_
  rintro va vb _ ⟨k, e1⟩ _
  rw [e] at e1
  exact ok₃.dis _ _ _ (l03 _ _ e1) hI₃
 have hIlt : s₁.heap.objs.size < s₄.heap.objs.size := Heap.lt_size (ok₃.mu _ _ hI₃)
 have hcI : cStatics ≠ s₁.heap.objs.size := fun e => by
  refine E3_2 K.B.lim fun o es ep e1 _ => ?_
  rw [e] at e1
  exact ok₃.dis _ _ _ (ok₃.base _ _ e1) hI₃
 refine ⟨s₁.heap.objs.size, s₁.heap.objs.size :: x :: (List.range its.size).map Ts, [s₁.heap.objs.size], its.size, _, _, _, fun _ => true, F', rfl, fun A' hA' => WalksU.ofSeq hA' s₁.heap.objs.size x hIx (lsObj C dx its m) m its rfl Ts vals (fun j hj => (hvals j hj).1) hTI, fun i vs hv => ?_, ⟨⟨_, ok₃.mu _ _ hI₃, rfl, rfl⟩, ok₃.mu _ _ hx₃, fun k hk => ?_⟩, fun b hb => ?_, ok₃.nolimit, by exact nmem1 hcI, fun href hkp => ⟨fun A' E' i va vb s₂ m₂ _ _ _ _ _ _ _ _ => wpAny_pure ⟨rfl, ⟨_, _, rfl, fun _ _ e => e⟩⟩, fun A' E' i va vb s₂ m₂ hA hd hu hpt _ hns e1 e2 hk2 => ?_⟩, fun a h₅ tk gs hgb hlt hsz5 hk5 W hat => ?_⟩
 ·refine E0_2 hv ?_
  rintro hi rfl
  refine E2_2 (hvals i hi).2 fun va vb e _ => ?_
  exact ⟨va, vb, e⟩
 ·refine E2_3 (hvals k hk).2 ?_
  rintro va vb e ⟨k', e1⟩ _
  rw [e]
  exact ⟨_, ok₃.im _ _ (l03 _ _ e1), rfl, k', rfl⟩
 ·rcases List.mem_cons.mp hb with rfl | hb
  ·exact hIlt
  rcases List.mem_cons.mp hb with rfl | hb
  ·exact Heap.lt_size (ok₃.mu _ _ hx₃)
  refine E1_2 (List.mem_map.mp hb) ?_
  rintro k hk rfl
  refine E2_3 (hvals k (List.mem_range.mp hk)).2 ?_
  rintro va vb e ⟨k', e1⟩ _
  exact Heap.lt_size (ok₃.im _ _ (l03 _ _ e1))
 ·refine E0_2 hpt fun hi hpt => ?_
  refine E2_4 (hvals i hi).2 fun va' vb' e _ e3 e4 => ?_
  rw [e] at hpt
  have h5 : va = va' ∧ vb = vb' := by lia
  refine E0_2 h5 ?_
  rintro rfl rfl
  refine helt A' E' i va vb s₂ m₂ _ code hA hd hu (by lia) e3 e4 (fun a o ea => hk2 a (List.mem_range.mpr (Heap.lt_size (ok₃.im _ _ (l03 _ _ ea)))) (fun hm => ?_) o (hkp _ _ (ok₃.im _ _ (l03 _ _ ea)))) hns e1 e2
  simp at hm; subst hm
  exact ok₃.dis _ _ _ (l03 _ _ ea) hI₃
 ·have hlp : (passing (fun _ => true) its.size 0).length = ds.length := by rw [Z223, List.length_range, hlen]
  have W' := WalksS.imp (P' := F') W (fun j y hy => by
   refine E1_2 hy fun i e1 e2 => ?_
   rw [Z223] at e1
   have : i = j := by
    rw [List.getElem?_range] at e1
    ·exact (Option.some.inj e1).symm
    ·exact Nat.lt_of_not_le fun h => by cases ((List.getElem?_eq_none (by simpa using h)).symm.trans e1)
   exact this ▸ e2)
  rw [hlp] at W'
  refine E1_2 ok₃.gens fun ex hex hbare => ?_
  have hI0 : g.mu s₁.heap.objs.size = none := l₁.nomu hfr.2
  have lf : Le g (g₃.drop s₁.heap.objs.size) := ⟨fun a o e => l03 a o e, fun a o _ e => by
   have hne : a ≠ s₁.heap.objs.size := fun z => by subst z; cases ((hI0).symm.trans e)
   rw [Gh.drop_other hne]
   exact l₃.at (l₂.at (l₁.at e)), (l₃.gs.trans (l₂.gs.trans l₁.gs) : g₃.gs = g.gs)⟩
  have key : ∀ s'' : Shared, (∀ b o, b ≠ s₁.heap.objs.size → s₄.heap.get? b = some o → s''.heap.get? b = some o) → s''.os = s₄.os → (∃ ex, s''.gens = g₃.gs ++ ex ∧ AllBare ex) → (g₃.drop s₁.heap.objs.size).Ok K.B s'' := fun s'' hk ho hg => by
   have := ok₃.lost (tk := 0) hI₃ (h' := s''.heap) hk
   exact this.any (s' := s'') rfl ho hg
  refine fin a (g₃.drop s₁.heap.objs.size) _ _ _ _ _ lf (key _ (fun b o _ e => hk5 b o e) rfl ⟨ex.push gs, ?_, hbare.push hgb⟩) W' hat (fun i s st => st.1.typeIs) List.mem_cons_self (fun b hb => ?_) fun s'' hm => key s'' (fun b o hb e => hm.heap b o (fun hmem => ?_) (hk5 b o e)) hm.os ?_
  ·show s₄.gens.push gs = _
   rw [hex, Array.push_append]
  ·show b < h₅.objs.size
   rw [hsz5]
   rcases List.mem_cons.mp hb with rfl | hb
   ·exact Nat.lt_succ_self _
   ·rcases List.mem_cons.mp hb with rfl | hb
    ·exact Nat.lt_succ_of_lt hlt
    ·exact Nat.lt_succ_of_lt (Nat.lt_trans (List.mem_range.mp hb) hlt)
  ·rcases List.mem_cons.mp hmem with rfl | hmem
   ·exact Nat.lt_irrefl _ (Heap.lt_size e)
   ·simp at hmem; exact hb hmem
  ·have h7 := hm.gens
   rw [hex] at h7
   exact gens_of_only rfl hgb hbare h7
end
end Mine
namespace Mine
section
open PySem PySem.Spec PySem.Calls PyProof.Rows PySem.W PySem.SeqAt Builtin
section
variable {prog : Program} {w : World} {A : Around} {E : Value → Shared → Prop} {s : Shared} {env : Env}
theorem Z203 {es : List Expr} {pos : Pos} {f : Value} {Q : Args → Shared → Prop} (h : (backTo pos (starEach es env)).any (·.1) = false)
  (hs : wpAny (model prog w) A (spliced (backTo pos (starEach es env))) (fun vs s' => Q ⟨vs, []⟩ s') E s) : wpAny (model prog w) A (evalArgs f true (backTo pos (starEach es env)) []) Q E s := by
 have key : ∀ ts : List (Bool × Sem Value), ts.any (·.1) = false → wpAny (model prog w) A (spliced ts) (fun vs s' => Q ⟨vs, []⟩ s') E s → wpAny (model prog w) A (evalArgs f true ts []) Q E s := by
  intro ts ht hs
  cases ts with
  | nil =>
   have e : evalArgs f true [] [] = (spliced [] >>= fun vs => pure ⟨vs, []⟩ : Sem Args) := rfl
   rw [e]
   exact wpAny_bind (wpAny_mono hs (fun vs s' q => wpAny_pure q) fun _ _ z => z)
  | cons t ts =>
   obtain ⟨st, x⟩ := t
   simp only [List.any_cons, Bool.or_eq_false_iff] at ht
   obtain ⟨h1, h2⟩ := ht
   cases h1
   exact evalArgs_plain hs
 exact key _ h hs
theorem any_globName {B : Base} {x : Str} {v : Value} {Q : Value → Shared → Prop} (hB : ∀ a o, B.im a = some o → s.heap.get? a = some o) (hg : GlobIs B x v) (h1 : env.globals = mainGlobals) (h2 : env.builtins = builtinsNs) (hk : env.kindOf x = some .globalImplicit) (hf : env.scope.kind = .function) (q : Q v s) : wpAny (model prog w) A (loadName env x) Q E s := by
 rw [loadName_read hf hk]
 exact any_glob hB hg h1 h2 q
theorem args_sum2 (a b : Value) : argsOk "sum" ⟨[a, b], []⟩ := by unfold argsOk; kernel_rfl
theorem sum_start {a : Addr} {fp wr : List Addr} {G : Array GenState → Array GenState → Prop} {n : Nat} {P : Nat → Value → Prop} {St : Nat → Shared → Prop} {st : Int} {tok : Tok} {val : Nat → Int} {Q : Value → Shared → Prop}
  (W : WalksS prog w A.in1 a fp wr G n P St) (hst : St 0 s) (hfp : ∀ b ∈ fp, b < s.heap.objs.size) (hval : ∀ i v, P i v → ∃ t, v = .int (val i) t) (h0 : InLong st) (hfit : ∀ j, j < n → InLong (val j) ∧ InLong (st + preSum val (j + 1)))
  (hQ : ∀ s' t', Moved wr G s s' → Q (.int (st + preSum val n) t') s') : wpAny (model prog w) A (call (.builtin "sum") [.ref a, .int st tok]) Q E s := by
 have W' : WalksS prog w A.in1 a fp wr G (n + 1) (fun i v => ∃ j, i = j + 1 ∧ P j v) (fun i s => ∃ j, i = j + 1 ∧ St j s) :=
  {sub := W.sub, grefl := W.grefl, gtrans := W.gtrans
   frame := fun i s h' tk z₀ h1 h2 => E1_2 z₀ fun j e hs => ⟨j, e, W.frame j s h' tk hs h1 h2⟩
   item := fun i s Q E hi z₀ hQ => E1_2 z₀ fun j e hs => W.item j s Q E (by lia) hs fun v s' hp hs' hm => hQ v s' ⟨j, e, hp⟩ ⟨j + 1, by lia, hs'⟩ hm
   done := fun s Q E z₀ hQ => E1_2 z₀ fun j e hs => W.done s Q E ((Nat.succ.inj e : n = j) ▸ hs) hQ
   self := fun i s Q E z₀ q => E1_2 z₀ fun j e hs => W.self j s Q E hs q }
 have hpre : ∀ j, preSum (fun i => match i with | 0 => st | i + 1 => val i) (j + 1) = st + preSum val j := by
  intro j
  induction j with
  | zero => simp [preSum]
  | succ j ih => rw [preSum, ih]; dsimp only [preSum]; lia
 refine call_function_tree F.kind_sum F.plain_sum F.entry_sum (args_sum2 _ _) ?_
 unfold Builtin.«sum»
 dsimp only [List.length_cons, List.length_nil]
 rw [if_neg (by decide)]
 refine wpAny_bind (wpAny_of_eq (show Builtin.Builtins.bindParams "sum" ["start"] 0 ⟨[.int st tok], []⟩ = pure [some (.int st tok)] from rfl) ?_)
 refine wpAny_bind (W.self 0 _ _ _ hst ?_)
 have hfl : (decide (-(2 ^ 63) ≤ st) && decide (st < 2 ^ 63)) = true := by
  obtain ⟨h1, h2⟩ := h0; simp; lia
 refine wpAny_ite ?_
 split
 case isFalse hn => exact absurd hfl hn
 refine wpAny_bind (wpAny_rule (wpAny_bind (wpAny_mkInt (wpAny_bind (wpAny_pure ?_)))))
 refine wpAny_bind (wpAny_bind (wpAny_bind (wpAny_isInstance (T := "int") (b := false) (typeIs_int _ _ _) F.sub_int_str ?_)))
 refine wpAny_pure (wpAny_bind (wpAny_bind (wpAny_isInstance (T := "int") (b := false) (typeIs_int _ _ _) F.sub_int_bytes ?_)))
 refine wpAny_pure (wpAny_bind (wpAny_bind (wpAny_isInstance (T := "int") (b := false) (typeIs_int _ _ _) F.sub_int_bytearray ?_)))
 refine wpAny_pure (wpAny_pure ?_)
 refine wpAny_bind (wpAny_newObj_type ?_)
 have hSf : s.heap.objs.size ∉ fp := fun hm => Nat.lt_irrefl _ (hfp _ hm)
 refine wpAny_pure ⟨plainId_quiet F.plain_sum_loop _, codeAny_sum_loopS W' (fun i => match i with | 0 => st | i + 1 => val i) (fun i v z₀ => E1_2 z₀ fun j e hp => by subst e; exact hval j v hp) (fun j hj => ?_) s.heap.objs.size hSf n 1 _ s.toks 0 (by lia) (by exact Nat.le_add_left _ _)
  ⟨0, rfl, W.frame 0 s _ _ hst (by first | exact Nat.le_refl _ | exact Nat.le_succ _ | lia) fun b _ o e => Heap.get?_push_of_some _ e⟩ ?_ fun s' t' hm => ?_⟩
 ·cases j with
  | zero => exact ⟨h0, by rw [hpre]; simpa [preSum] using h0⟩
  | succ j => rw [hpre]; exact hfit j (by lia)
 ·have := hpre 0
  rw [this]
  simp only [preSum, Int.add_zero]
  exact Heap.get?_push_size _ rfl
 ·rw [hpre]
  exact hQ s' t' (hm.drop_new (by first | exact Nat.le_refl _ | exact Nat.le_succ _ | lia))
theorem any_Call1 {func e : Expr} {pos : Pos} {id : String} {Q : Value → Shared → Prop} (hf : wpAny (model prog w) A (eval func env) (fun f s₁ => f = .builtin id ∧ wpAny (model prog w) A (eval e env) (fun v s₂ => wpAny (model prog w) A (call (.builtin id) [v]) Q E s₂) E s₁) E s)
  (hst : starEach [e] env = [(false, eval e env)] := by rfl)
  (he : eval (.Call func [e] [] pos) env = (do callWith pos (← eval func env) [] (backTo pos (starEach [e] env)) (backToKw pos (keywordEach [] env))) := by rfl) : wpAny (model prog w) A (eval (.Call func [e] [] pos) env) Q E s := by
 rw [he]
 refine wpAny_bind (wM0_2 hf (fun f s₁ e1 h => ?_))
 subst e1
 have hany : (backTo pos (starEach [e] env)).any (·.1) = false := by rw [hst]; rfl
 refine callWith_builtin hany (Z203 hany (wpAny_items_cons (wpAny_mono h (fun v s₂ h₂ => wpAny_items_nil h₂) fun _ _ z => z) (by rw [hst]; rfl)))
theorem Z172 {x : Str} {pos : Pos} {m : Str → Option Value} {v : Value} {Q : Value → Shared → Prop} (hk : env.kindOf x = some .local) (hf : env.scope.kind = .function) (hd : (x == ("__debug__" : Str)) = false) (hn : s.heap.Ns env.locals m) (hv : m x = some v) (q : Q v s) : wpAny (model prog w) A (eval (.Name x pos) env) Q E s :=
 wpAny_Name (wpAny_loadName_local hf hk hn hv q) hd
theorem Z251 {B : Base} {nx : Str} {px pf pc : Pos} {y : List Nat} {t : Tok} {m : Str → Option Value} {Q : Value → Shared → Prop} (hB : ∀ a o, B.im a = some o → s.heap.get? a = some o) (hg : GlobIs B "len" (.builtin "len")) (h1 : env.globals = mainGlobals) (h2 : env.builtins = builtinsNs)
  (hkl : env.kindOf "len" = some .globalImplicit) (hk : env.kindOf nx = some .local) (hf : env.scope.kind = .function) (hd : (nx == ("__debug__" : Str)) = false) (hn : s.heap.Ns env.locals m) (hv : m nx = some (.str (S y) t)) (hy : y.length < 2 ^ 62)
  (q : Q (.int y.length (s.toks + 1)) { s with toks := s.toks + 1 + 1 })
  (he : eval (.Call (.Name "len" pf) [.Name nx px] [] pc) env = (do callWith pc (← eval (.Name "len" pf) env) [] (backTo pc (starEach [.Name nx px] env)) (backToKw pc (keywordEach [] env))) := by rfl) : wpAny (model prog w) A (eval (.Call (.Name "len" pf) [.Name nx px] [] pc) env) Q E s := by
 refine any_Call1 (wpAny_Name (any_globName hB hg h1 h2 hkl hf ⟨rfl, Z172 hk hf hd hn hv ?_⟩) (by decide +kernel)) rfl he
 exact P.len_str (by rw [S_len]; lia) (by rw [S_len]; exact q)
end
end
end Mine
namespace Mine
section
open PySem PySem.Spec PySem.Calls PyProof.Rows PySem.W PySem.SeqAt
variable {K : Wd} {A : Around} {g : Gh} {n : Nat} {env : Env} {α : Type}
variable {b : Gh} {S' : List Addr} {fn : List Nat} {cs : List Addr} {nm : List (Str × NameKind)} {σ σ' : List (Option D)} {own : List (Addr × MO)}
theorem glob_len (X : WX K) : GlobIs K.B "len" (.builtin "len") := X.gt 19 _ _ rfl
noncomputable def pieceD (p : List Nat × List Nat) : D := .tup [.str p.1, .str p.2]
noncomputable def pieceLen (p : List Nat × List Nat) : Int := (p.1.length : Int) + p.2.length
theorem qq_len : (("_Accumulator.__len__" : Str) ++ ".<locals>.") ++ "<genexpr>" = "_Accumulator.__len__.<locals>.<genexpr>" := by decide +kernel
theorem sum_take {l : List Int} : ∀ j, j ≤ l.length → preSum (fun i => l.getD i 0) j = (l.take j).sum := by
 intro j
 induction j with
 | zero => intro _; rfl
 | succ j ih =>
  intro h
  rw [preSum, ih (by exact Nat.le_of_lt ‹_›), List.take_add_one, List.getElem?_eq_getElem (by assumption), List.sum_append]
  simp [List.getD_eq_getElem?_getD, List.getElem?_eq_getElem (show j < l.length by assumption)]
theorem sum_bd {l : List (List Nat × List Nat)} (h : ∀ p ∈ l, p.1.length ≤ 10000 ∧ p.2.length ≤ 10000) : 0 ≤ (l.map pieceLen).sum ∧ (l.map pieceLen).sum ≤ 20000 * l.length := by
 induction l with
 | nil => simp
 | cons p l ih =>
  have h1 := h p (by exact .head _)
  have h2 := ih fun q hq => h q (List.mem_cons_of_mem _ hq)
  simp only [List.map_cons, List.sum_cons, List.length_cons, pieceLen] at h2 ⊢
  lia
theorem Z236 {i : Int} (h1 : -(2 ^ 62) ≤ i) (h2 : i < 2 ^ 62) : InLong i := ⟨by lia, by lia⟩
theorem w_acc_len (X : WX K) {x dx : Addr} {k : Int} {ps : List (List Nat × List Nat)} {its : Array Value} {m : Nat} {od : Obj} (hx : g.mu x = some (lsObj C_Ac dx its m)) (hr : Reps g.im (ps.map pieceD) its.toList) (hdx : g.mu dx = some od) (hin : (MO.inst (accL (.int k))).P g.im od) (hsz : ps.length ≤ 10000) (hps : ∀ p ∈ ps, p.1.length ≤ 10000 ∧ p.2.length ≤ 10000) (hk : 0 ≤ k ∧ k ≤ 1000000) :
  Pe K (n + 6) g (call (.ref a_Ac_len) [.ref x]) (.int (k + (ps.map pieceLen).sum)) := fun A r g₀ l₀ => by
 refine Z14 (n := n + 4) (fn := []) (S' := []) (binds := [("self", .ref x)]) (bi := [(0, .raw (.ref x))]) X.f_Ac_len r (Z15 (by rfl)) ok_Ac_len so_Ac_len (Z3 X.gt gi_Ac_len)
  ⟨.inl rfl, Z27, trivial⟩ fun A' L cells cs g' r' H => ?_
 refine Z10 (st_ret (Z33 ((pn H 1).useR r' fun g₁ l₁ => ?_)))
 replace H := H.up l₁
 have lA : Le g g₁ := l₀.trans H.le
 have x1 := lA.at hx
 have x2 : Reps g₁.im (ps.map pieceD) its.toList := hr.le lA
 intro s E ok
 refine callWith_builtin rfl (Z203 rfl (wpAny_items_cons ?_))
 have hmem : ∀ (j : Nat) (d : D), (ps.map pieceD)[j]? = some d → ∃ p, ps[j]? = some p ∧ d = pieceD p := fun j d h => by
  rw [List.getElem?_map] at h
  cases e : ps[j]? with
  | none => rw [e] at h; cases h
  | some p => rw [e] at h; cases h; exact ⟨p, rfl, rfl⟩
 refine any_genPairs (n := n + 4) (c := c_Ac_len) (P := 63) (qual := "_Accumulator.__len__.<locals>.<genexpr>") (da := fun j => .str (ps.getD j ([], [])).1) (db := fun j => .str (ps.getD j ([], [])).2) (F' := fun i y => ∃ t, y = .int ((ps.map pieceLen).getD i 0) t)
  X.md ok r' X.k_Ac acc_it x1 x2 (fun j d h => by
   refine E1_2 (hmem j d h) ?_
   rintro p e1 rfl
   simp [List.getD_eq_getElem?_getD, e1, pieceD])
  (pn H 0) rfl (X.tab _ (by decide)) (X.qnOf (by decide +kernel)) qq_len rfl rfl (by rfl) (by decide) (by decide +kernel) (by decide +kernel) (by decide +kernel) (by decide +kernel) rfl
  (fun A'' E' i va vb s₂ m₂ L' code hA hd hu hi hva hvb him hns e1 e2 => ?_)
  (fun a g₂ s' fp wr gi St l₂ ok₂ W hst hT ha hfp hmv => ?_)
 ·-- len(fws) + len(part)
  refine E1_1 (Z29 hva) ?_
  rintro t1 rfl
  refine E1_1 (Z29 hvb) ?_
  rintro t2 rfl
  have hpi : ps[i]? = some (ps.getD i ([], [])) := by
   have : i < ps.length := by simpa using hi
   simp [List.getD_eq_getElem?_getD, List.getElem?_eq_getElem this]
  have hb := hps _ (List.mem_of_getElem? hpi)
  have hval : (ps.map pieceLen).getD i 0 = ((ps.getD i ([], [])).1.length : Int) + (ps.getD i ([], [])).2.length := by
   simp [List.getD_eq_getElem?_getD, List.getElem?_map]
   have : i < ps.length := by simpa using hi
   simp [List.getElem?_eq_getElem this, pieceLen]
  have hBim : ∀ a o, K.B.im a = some o → s₂.heap.get? a = some o := fun a o e => him a o (ok.base a o e)
  have g1 := glob_len X
  refine wpAny_BinOp (Z251 hBim g1 rfl rfl (by rfl) (by rfl) rfl (by decide +kernel) hns e1 (by lia) ?_)
  refine Z251 hBim g1 rfl rfl (by rfl) (by rfl) rfl (by decide +kernel) hns e2 (by lia) ?_
  refine P.add_int ⟨⟨_, by rw [hval]⟩, ⟨_, _, rfl, fun _ _ e => e⟩⟩
 ·-- self._initial_size
  have H₂ := H.up l₂
  have d1 := l₂.at (lA.at hdx)
  refine E1_3 ((MO.inst (accL (.int k))).mono _ _ _ (lA.trans l₂).im hin) fun mA a1 a2 a3 => ?_
  refine E1_2 (a2 (Str.ofString "_initial_size") (.int k) (by exact .head _)) fun kv b1 b2 => ?_
  refine E1_1 (Z24 b2) ?_
  rintro tk rfl
  refine Z85 X.k_Ac (l₂.at x1) ok₂ ?_
  intro nm' q' bs sn sub col dd k0 k1 k2 k3 k5 hC hN hxh
  refine E2_3 H₂.loc fun oL fL c1 c2 c3 => ?_
  refine E1_2 (c3 0 _ (.raw (.ref x)) rfl rfl) fun vs c4 c5 => ?_
  have := Z22 c5; subst this
  refine wpAny_items_cons (Attribute_name (Z172 (H₂.kindOf (i := 0) rfl) rfl (by decide +kernel) (c2.ns (ok₂.mu _ _ c1)) c4 ?_))
  obtain ⟨h, gg, d, t, os⟩ := s'
  have hns : h.Ns dx mA := a1.ns1 (ok₂.mu _ _ d1) |>.ns
  refine sub_getattr hC hN acc_ga acc_gh acc_isz ls_isz hxh rfl (fun c z => by cases z) rfl hns b1 (by rfl) (wpAny_items_nil ?_)
  have hb := sum_bd hps
  refine sum_start (st := k) (val := fun i => (ps.map pieceLen).getD i 0) W.in4_1 (W.frame 0 _ h (t + 1) hst (Nat.le_succ _) fun _ _ _ e => e) hfp (fun i v hv => hv) (Z236 (by lia) (by lia)) (fun j hj => ?_) fun s'' t' hm => ?_
  ·have hj' : j < ps.length := by simpa using hj
   have e1 : (ps.map pieceLen).getD j 0 = pieceLen ps[j] := by simp [List.getD_eq_getElem?_getD, List.getElem?_eq_getElem hj']
   have h1 := hps ps[j] (List.getElem_mem hj')
   have h2 := sum_bd (l := ps.take (j + 1)) fun p hp => hps p (List.mem_of_mem_take hp)
   have h3 : (ps.take (j + 1)).length ≤ ps.length := by rw [List.length_take]; lia
   rw [sum_take _ (by simpa using Nat.succ_le_of_lt hj'), ← List.map_take, e1]
   unfold pieceLen at h2 ⊢
   refine ⟨Z236 (by lia) (by lia), Z236 (by lia) (by lia)⟩
  ·have ok₃ := hmv s'' ⟨hm.heap, hm.gens, hm.drawn, hm.os, Nat.le_trans (Nat.le_succ _) hm.toks⟩
   refine ⟨g₂, ok₃, H₂.le, ?_⟩
   have : preSum (fun i => (ps.map pieceLen).getD i 0) (ps.map pieceD).length = (ps.map pieceLen).sum := by
    rw [sum_take _ (by simp), List.take_of_length_le (by simp)]
   rw [this]
   exact Z25
theorem gwp_lenS {x dx C N f : Addr} {mN : Str → Option Value} {its : Array Value} {m : Nat} {fd : FuncData} {y : Option Value} {Q : Value → Gh → Prop} (r : Room A (n + 1)) (hc : ClsL K.B C N mN) (hl : mN "__len__" = some (.ref f)) (hfn : FnB K.B f fd) (hB : typeLookup (.type "list") "__len__" = pure y) (hx : g.mu x = some (lsObj C dx its m))
  (h : ∀ A', Room A' n → gwp K A' (call (.ref f) [.ref x]) (fun v g' => ∃ i : Int, Rep g'.im (.int i) v ∧ 0 ≤ i ∧ i < 2 ^ 62 ∧ ∀ t, Q (.int i t) g') g) : gwp K A (call (.builtin "len") [.ref x]) Q g := fun s E ok => by
 refine Z85 hc hx ok ?_
 intro nm' q' bs sn sub col dd k0 k1 k2 k3 k5 hC hN hxh
 refine E1_3 hfn.obj fun of f1 f2 f3 => ?_
 have hfo : s.heap.get? f = some of := ok.im _ _ (ok.base _ _ f1)
 have h1 := h A.in1 r.in1 s
 refine Calls.call_function_entry kind_len plain_len entry_len (args_len1 _) ?_
 refine wpAny_bind (m := oneArg "len" _) (wpAny_pure (wpAny_bind (Z205 hC hN hxh rfl hB hl hfo f3 (wM1_2 (h1 E ok) (fun v s₁ g₁ ok₁ v00 => E1_4 v00 fun i hi h0 h2 q => ?_)))))
 refine E1_1 (Z24 hi) ?_
 rintro tk rfl
 refine wpAny_bind (wpAny_holding (wpAny_of_eq (show asIndex (.int i tk) = pure i from rfl) ?_))
 refine wpAny_bind (wpAny_letGo ?_)
 rw [if_neg (by lia), if_neg (by lia)]
 exact wpAny_bind (wpAny_mkInt (wpAny_pure ⟨_, rfl, g₁, ok₁.tok _, q _⟩))
theorem pe_lenAcc0 (X : WX K) {x dx : Addr} {k : Int} {ps : List (List Nat × List Nat)} {its : Array Value} {m : Nat} {od : Obj} (hx : g.mu x = some (lsObj C_Ac dx its m)) (hr : Reps g.im (ps.map pieceD) its.toList) (hdx : g.mu dx = some od) (hin : (MO.inst (accL (.int k))).P g.im od) (hsz : ps.length ≤ 10000) (hps : ∀ p ∈ ps, p.1.length ≤ 10000 ∧ p.2.length ≤ 10000) (hk : 0 ≤ k ∧ k ≤ 1000000)
  (ls_len : typeLookup (.type "list") "__len__" = pure (some (.builtin "list.__len__"))) : CallSem K (n + 7) g (.builtin "len") [.raw (.ref x)] (.int (k + (ps.map pieceLen).sum)) := fun g₁ l vs h A r g₂ l₂ => by
 refine E1_2 (reps1 h) ?_
 clear h; rintro v rfl h1
 have := Z22 h1; subst this
 have l' : Le g g₂ := l.trans l₂
 refine gwp_lenS r X.k_Ac acc_len X.f_Ac_len ls_len (l'.at hx) fun A' r' => gM0_2 (w_acc_len X (n := n) (l'.at hx) (hr.le l') (l'.at hdx) ((MO.inst _).mono _ _ _ l'.im hin) hsz hps hk A' r' g₂ (LeX.refl _ _)) fun v g₃ l₃ p => ?_
 have hb := sum_bd hps
 exact ⟨_, p, by lia, by lia, fun t => ⟨l₃, Z25⟩⟩
theorem ls_len : typeLookup (.type "list") "__len__" = pure (some (.builtin "list.__len__")) := by rw [typeLookup_type, builtinLookup_eq_fast]; kernel_rfl
theorem Z287 (X : WX K) {d : D} {v : Value} (r : Room A (n + 4)) (hv : Rep g.im d v) :
  gwp K A (call (.ref C_Ac) [v]) (fun u g' => ∃ x dx, u = .ref x ∧ [x, dx].Nodup ∧ g.mu x = none ∧ g.mu dx = none ∧ Le g g' ∧ Holds (AccOwn x dx d []) g') g := by
 refine gwp_newSub (n := n + 3) r X.k_Ac acc_init X.f_Ac_init fun A' x dx od g' r' l hx hdx hne h1 h2 h3 => ?_
 refine gM0_3 (w_acc_init X (n := n + 1) r' (x := x) (dx := dx) (fun p hp => ?_) (by simpa using fun e => hne e.symm) (hv.le l)) fun u g'' hu l6 h7 => ⟨hu, x, dx, rfl, by simpa using fun e => hne e.symm, hx, hdx, ?_, h7⟩
 ·simp only [List.mem_cons, List.not_mem_nil, or_false] at hp
  rcases hp with rfl | rfl
  ·exact ⟨_, h1, #[], 0, rfl, by exact rfl⟩
  ·exact ⟨_, h2, h3⟩
 ·exact ((LeX.of l).trans l6).forget (allc (.inr hx) (all1 (.inr hdx)))
end
end Mine
namespace Mine
section
open PySem PySem.Spec PySem.Calls PyProof.Rows PySem.W PySem.SeqAt
variable {K : Wd} {B : Base} {α β : Type} {A : Around} {g : Gh} {n : Nat} {env : Env}
variable {b : Gh} {S' : List Addr} {fn : List Nat} {cs : List Addr} {nm : List (Str × NameKind)} {σ σ' : List (Option D)} {own : List (Addr × MO)}
theorem S_fold (x : List Nat) (k : Nat) : (⟨(List.replicate k (S x).cps).foldl (· ++ ·) #[]⟩ : Str) = S (List.replicate k x).flatten := by
 have h : ∀ (k : Nat) (acc : Array Nat), ((List.replicate k (S x).cps).foldl (· ++ ·) acc) = (acc.toList ++ (List.replicate k x).flatten).toArray := by
  intro k
  induction k with
  | zero => intro acc; simp
  | succ k ih => intro acc; rw [List.replicate_succ, List.foldl_cons, ih, List.replicate_succ, List.flatten_cons]; simp [S]
 rw [h]; simp [S]
theorem op_smul {x : List Nat} {k : Int} (hk : k ≤ 1000000) (hk0 : -1000000 ≤ k) (hx : x.length ≤ 10) : OpSem K n g (binaryOp .Mult) (.str x) (.int k) (.str (List.replicate k.toNat x).flatten) := fun g₁ l v₁ v₂ h1 h2 A r g₂ l₂ s E ok => by
 refine E1_1 (Z29 h1) ?_
 rintro t rfl
 refine E1_1 (Z24 h2) ?_
 rintro u rfl
 have hl : (S x).length = x.length := S_len x
 refine SB.mul ⟨by simp; lia, fun h3 _ => ?_, fun h3 _ => ?_⟩ fun t' tk => ⟨g₂, ok.tok _, LeX.refl _ _, ?_⟩
 ·rw [hl]
  have h5 : (2 ^ 63 - 1) / k ≥ 10 := (Int.le_ediv_iff_mul_le (by lia)).mpr (by lia)
  lia
 ·rw [hl]
  have : x.length * k.toNat ≤ 10 * 1000000 := Nat.mul_le_mul hx (by lia)
  simp [Builtin.Str.tooLong, sizeLine]; lia
 ·have : Txt.mul (S x) k = S (List.replicate k.toNat x).flatten := by
   unfold Txt.mul
   split
   ·rw [show k.toNat = 0 by lia]; rfl
   ·rename_i h3
    split
    ·rename_i h4
     rcases Bool.or_eq_true _ _ |>.mp h4 with h5 | h5
     ·rw [show k = 1 by exact of_decide_eq_true h5]; simp
     ·have : x = [] := by rw [hl] at h5; exact List.length_eq_zero_iff.mp (by exact of_decide_eq_true h5)
      subst this; simp
    ·exact S_fold x _
  rw [this]; exact Z79
theorem Z150 {i : Int} {m : Nat} {j : Nat} (h : (0 ≤ i ∧ i.toNat = j ∧ j < m) ∨ (i < 0 ∧ 0 ≤ i + m ∧ (i + m).toNat = j ∧ j < m)) : seqIndex? i m = some j := by
 unfold seqIndex?
 rcases h with ⟨h1, h2, h3⟩ | ⟨h1, h2, h3, h4⟩
 ·have e : (if i < 0 then i + (m : Int) else i) = i := if_neg (by lia)
  rw [e]
  show (if (decide (0 ≤ i) && decide (i < (m : Int))) = true then some i.toNat else none) = some j
  rw [if_pos (by simp; lia), h2]
 ·have e : (if i < 0 then i + (m : Int) else i) = i + m := if_pos h1
  rw [e]
  show (if (decide (0 ≤ i + (m : Int)) && decide (i + (m : Int) < (m : Int))) = true then some (i + (m : Int)).toNat else none) = some j
  rw [if_pos (by simp; lia), h3]
theorem item_str' {x : List Nat} {i : Int} {c : Nat} (h : atInt x i = some c) (hsz : x.length < 2 ^ 62) : OpSem K n g getItem (.str x) (.int i) (.str [c]) := fun g₁ l v₁ v₂ h1 h2 A r g₂ l₂ s E ok => by
 refine E1_1 (Z29 h1) ?_
 rintro t rfl
 refine E1_1 (Z24 h2) ?_
 rintro u rfl
 have hl : (S x).length = x.length := S_len x
 have key : (-(x.length : Int) ≤ i ∧ i < x.length) ∧ (seqIndex? i (S x).length).bind ((S x).cps[·]?) = some c := by
  rw [hl]
  unfold atInt at h
  have hc : ∀ j : Nat, (S x).cps[j]? = x[j]? := fun j => by simp [S]
  split at h
  ·rename_i h0
   have hj := (List.getElem?_eq_some_iff.mp h).1
   refine ⟨by lia, ?_⟩
   rw [Z150 (j := i.toNat) (.inl ⟨h0, rfl, hj⟩), Option.bind_some, hc]; exact h
  ·rename_i h0
   split at h
   ·rename_i h1
    have hj := (List.getElem?_eq_some_iff.mp h).1
    refine ⟨by lia, ?_⟩
    rw [Z150 (j := (i + x.length).toNat) (.inr ⟨by lia, h1, rfl, hj⟩), Option.bind_some, hc]; exact h
   ·cases h
 exact P.getItem_str (by simp; lia) key.2 ⟨g₂, ok.tok _, LeX.refl _ _, Z79⟩
theorem Z154 {value slice : Expr} {pos : Pos} {x : List Nat} {i : Int} {c : Nat} (hv : Pe K n g (eval value env) (.str x)) (hi : Pe K n g (eval slice env) (.int i)) (h : atInt x i = some c) (hsz : x.length < 2 ^ 62 := by first | assumption | (simp; done) | lia) : Pe K n g (eval (.Subscript value slice pos) env) (.str [c]) :=
 pe_sub (id := "str.__getitem__") hv hi (item_str' h hsz) PySem.F.slot_str_getitem.lookup rfl
noncomputable def jn (sep : List Nat) : List (List Nat) → List Nat
 | [] => []
 | [x] => x
 | x :: y :: r => x ++ sep ++ jn sep (y :: r)
theorem jn_nil : ∀ l, jn [] l = l.flatten
 | [] => rfl
 | [x] => by simp [jn]
 | x :: y :: r => by rw [jn, jn_nil (y :: r)]; simp
theorem jn_S (sep : List Nat) : ∀ l, Str.join (S sep) (l.map S) = S (jn sep l)
 | [] => rfl
 | [x] => rfl
 | x :: y :: r => by
  rw [List.map_cons, List.map_cons]
  show S x ++ S sep ++ Str.join (S sep) (S y :: r.map S) = _
  have := jn_S sep (y :: r)
  rw [List.map_cons] at this
  rw [this, S_app, S_app, jn]
theorem strs_of {im : Im} : ∀ {xs : List (List Nat)} {vs : List Value}, Reps im (xs.map .str) vs → StrsAre vs (xs.map S)
 | [], vs, h => by simp only [List.map_nil, Reps] at h; subst h; exact .nil
 | x :: xs, vs, h => by
  simp only [List.map_cons, Reps] at h
  refine E2_3 h ?_
  clear h; rintro v vs' rfl h1 h2
  refine E1_1 (Z29 h1) ?_
  rintro t rfl
  exact .cons _ t (strs_of h2)
theorem map_S_len (xs : List (List Nat)) : (xs.map S).map (·.length) = xs.map (·.length) := by
 rw [List.map_map]; exact List.map_congr_left fun x _ => S_len x
theorem cs_join {sep : List Nat} {xs : List (List Nat)} (hsz : (xs.map (·.length)).sum + xs.length * sep.length ≤ 16777216) : CallSem K n g (.builtin "str.join") [.str sep, .lst (xs.map .str)] (.str (jn sep xs)) := fun g₁ l vs h A r g₂ l₂ s E ok => by
 refine E2_3 (reps2 h) ?_
 clear h; rintro v w rfl h1 h2
 refine E1_1 (Z29 h1) ?_
 rintro t rfl
 refine E3_3 (Z16.mp h2) ?_
 clear h1 h2; rintro a its m rfl e rs
 refine join_list ⟨_, ok.im _ _ (l₂.im _ _ e), rfl, m, rfl⟩ (strs_of rs) (by rw [map_S_len, List.length_map, S_len]; exact hsz) fun t' k => ⟨g₂, ok.tok _, LeX.refl _ _, ?_⟩
 have : Txt.join (S sep) (xs.map S) = S (jn sep xs) := by rw [← jn_S]; exact StrLaws.glued_eq_join _ _
 rw [this]; exact Z79
theorem count_fold (x : Str) (c N hi : Nat) : ∀ (m lo free : Nat) (found : Array Nat), found.size ≤ lo → free ≤ lo → lo + m ≤ N → x.length = hi →
  (forIn (List.range' lo m) (found, free) (StrLaws.occBody x ⟨#[c]⟩ hi N)).run.fst.size = found.size + (List.range' lo m).countP (fun i => x.cps.toList[i]? == some c) := by
 intro m
 induction m with
 | zero => intro lo free found _ _ _ _; simp
 | succ m ih =>
  intro lo free found h1 h2 h3 h4
  rw [List.range'_succ, List.forIn_cons]
  unfold StrLaws.occBody
  rw [List.countP_cons]
  by_cases hc : x.cps.toList[lo]? = some c
  ·have hlt : lo < x.length := by
    have := (List.getElem?_eq_some_iff.mp hc).1
    simpa [Str.length] using this
   have hs : Builtin.Str.subAt x ⟨#[c]⟩ lo = true := ((StrLaws.subAt_one x c lo).mpr hc).2
   rw [if_pos ⟨⟨⟨by dsimp only; lia, h2⟩, by show lo + 1 ≤ hi; lia⟩, hs⟩]
   have := ih (lo + 1) (lo + 1) (found.push lo) (by simp; lia) (Nat.le_refl _) (by lia) h4
   refine Eq.trans this ?_
   rw [Array.size_push]
   simp [hc]; lia
  ·have hs : ¬ ((((found, free).fst.size < N ∧ (found, free).snd ≤ lo) ∧ lo + Str.length ⟨#[c]⟩ ≤ hi) ∧ Builtin.Str.subAt x ⟨#[c]⟩ lo = true) := fun h => hc ((StrLaws.subAt_one x c lo).mp ⟨by have := h.1.2; lia, h.2⟩)
   rw [if_neg hs]
   have := ih (lo + 1) free found (by lia) (by lia) (by lia) h4
   refine Eq.trans this ?_
   have : ((x.cps.toList[lo]? == some c)) = false := by simpa using hc
   rw [this]; simp
theorem countP_range (c : Nat) : ∀ (l : List Nat), (List.range' 0 (l.length + 1)).countP (fun i => l[i]? == some c) = l.count c := by
 intro l
 have key : ∀ (l : List Nat) (k : Nat) (p : Nat → Option Nat), (∀ i, i ≤ l.length → p (k + i) = l[i]?) → (List.range' k (l.length + 1)).countP (fun i => p i == some c) = l.count c := by
  intro l
  induction l with
  | nil =>
   intro k p hp
   have := hp 0 (by exact Nat.zero_le _)
   simp at this
   simp [this]
  | cons a l ih =>
   intro k p hp
   rw [List.length_cons, List.range'_succ, List.countP_cons, ih (k + 1) p (fun i hi => by
    have := hp (i + 1) (by simp; lia)
    rw [show k + (i + 1) = k + 1 + i by lia] at this
    simpa using this)]
   have := hp 0 (by exact Nat.zero_le _)
   simp at this
   rw [this, List.count_cons]
   simp
 exact key l 0 (fun i => l[i]?) (fun i _ => by simp)
theorem count_S (x : List Nat) (c : Nat) : Txt.count (S x) (S [c]) = (x.count c : Nat) := by
 unfold Txt.count
 rw [StrLaws.occ_eq]
 have h := count_fold (S x) c ((S x).length + 1) (S x).length ((S x).length + 1) 0 0 #[] (by exact Nat.zero_le _) (Nat.le_refl _) (by lia) rfl
 have e : (S [c]) = (⟨#[c]⟩ : Str) := rfl
 rw [e, Array.length_toList, show (S x).length + 1 - 0 = (S x).length + 1 from rfl, h, S_len]
 have := countP_range c x
 simp only [S_list]
 rw [this]; simp
theorem cs_count {x : List Nat} {c : Nat} : CallSem K n g (.builtin "str.count") [.str x, .str [c]] (.int (x.count c : Nat)) := fun g₁ l vs h A r g₂ l₂ s E ok => by
 refine E2_3 (reps2 h) ?_
 clear h; rintro v w rfl h1 h2
 refine E1_1 (Z29 h1) ?_
 rintro t rfl
 refine E1_1 (Z29 h2) ?_
 clear h1 h2; rintro u rfl
 refine call_gives PySem.F.slot_str_count (typeIs_str _ _ _) PySem.F.entry_str_count (PySem.F.args_str_count_2 _ _) (gives_str_count (S x) (S [c]) t u) ⟨g₂, ok.tok _, LeX.refl _ _, ?_⟩
 have := count_S x c
 unfold Txt.count at this
 rw [this]; exact Z25
theorem Z226 {x y : List D} (h : x.length + y.length ≤ sizeLine) : OpSem K n g (binaryOp .Add) (.lst x) (.lst y) (.lst (x ++ y)) := fun g₁ l v₁ v₂ h1 h2 A r g₂ l₂ s E ok => by
 refine E3_3 (Z16.mp h1) ?_
 rintro a its m rfl e rs
 refine E3_3 (Z16.mp h2) ?_
 rintro b its2 m2 rfl e2 rs2
 have ho := ok.im _ _ (l₂.im _ _ e)
 have ho2 := ok.im _ _ (l₂.im _ _ e2)
 have hs1 : its.size = x.length := by rw [← Array.length_toList, rs.length]
 have hs2 : its2.size = y.length := by rw [← Array.length_toList, rs2.length]
 refine concat_meets ⟨_, ho, rfl⟩ ⟨_, ho2, rfl⟩ noFill_list_add seq_list_add PySem.F.slot_list_add PySem.F.entry_list_add (PySem.F.args_list_add_2 _ _) (list_addW a b its its2 m m2 none none #[] #[] (by rw [hs1, hs2]; exact h)) ⟨ho, ho2, ?_⟩
 refine ⟨_, ok.pushIm (o := sq "list" (its ++ its2) 0) rfl, Le.addIm ok.fresh.1, Z16.mpr ⟨_, _, 0, rfl, Gh.addIm_self, ?_⟩⟩
 rw [Array.toList_append]
 exact ((rs.le l₂).append (rs2.le l₂)).mono (Le.addIm ok.fresh.1).im
theorem cs_index {xs : List (List Nat)} {x : List Nat} (hx : x ∈ xs) (hsz : xs.length < 2 ^ 62) : CallSem K (n + 1) g (.builtin "list.index") [.lst (xs.map .str), .str x] (.int (xs.idxOf x : Nat)) := fun g₁ l vs h A r g₂ l₂ s E ok => by
 refine E2_3 (reps2 h) ?_
 rintro v w rfl h1 h2
 refine E3_3 (Z16.mp h1) ?_
 rintro a its m rfl e rs
 refine E1_1 (Z29 h2) ?_
 rintro t rfl
 have ho := ok.im _ _ (l₂.im _ _ e)
 have hlen : its.size = xs.length := by rw [← Array.length_toList, rs.length, List.length_map]
 have hj : xs.idxOf x < xs.length := List.idxOf_lt_length_iff.mpr hx
 have hat : ∀ (i : Nat) (hi : i < its.size), ∃ t, its[i] = .str (S (xs[i]'(by lia))) t := fun i hi => by
  obtain ⟨v, e1, e2⟩ := rs.get (i := i) (d := .str (xs[i]'(by lia))) (by rw [List.getElem?_map, List.getElem?_eq_getElem (by lia)]; rfl)
  refine E1_1 (Z29 e2) ?_
  rintro t rfl
  refine ⟨t, ?_⟩
  have : its[i]? = some (.str (S (xs[i]'(by lia))) t) := by simpa using e1
  rw [Array.getElem?_eq_getElem hi] at this
  exact Option.some.inj this
 let f : Value → Bool := fun v => match v with | .str y _ => y == S x | _ => false
 refine call_meets PySem.F.slot_list_index ⟨_, ho, rfl⟩ PySem.F.entry_list_index (PySem.F.args_list_index_2 _ _)
  (list_indexAt a its m none #[] (.str (S x) t) f (xs.idxOf x) (by rw [hlen]; exact hj) (by lia) ?_ ?_) ⟨ho, fun y hy => ?_, g₂, ok.tok _, LeX.refl _ _, Z25⟩
 ·refine E1_1 (hat (xs.idxOf x) (by lia)) fun t' e' => ?_
  rw [e', List.getElem_idxOf hj]
  exact beq_self_eq_true _
 ·intro i hi hlt
  refine E1_1 (hat i hi) fun t' e' => ?_
  rw [e']
  show (S (xs[i]'(by lia)) == S x) = false
  rw [Z290]
  have := List.not_of_lt_findIdx (p := (· == x)) (xs := xs) hlt
  simpa using this
 ·obtain ⟨i, hi, rfl⟩ := Array.mem_iff_getElem.mp hy
  refine E1_1 (hat i hi) fun t' e' => ?_
  rw [e']
  exact EqAt.str_str _ _ _ _
end
end Mine
namespace Mine
section
open PySem PySem.Spec PySem.Calls PyProof.Rows PySem.W PySem.SeqAt Builtin
variable {K : Wd} {B : Base} {α β : Type} {A : Around} {g : Gh} {n : Nat} {env : Env}
variable {b : Gh} {S' : List Addr} {fn : List Nat} {cs : List Addr} {nm : List (Str × NameKind)} {σ σ' : List (Option D)} {own : List (Addr × MO)}
noncomputable abbrev fo (c : String) (vs : Array Value) : Obj := { cls := .type c, dict := none, data := .fields vs, slots := #[] }
theorem Z60 {a : Addr} {o : Obj} {vs : Array Value} {i : Nat} {x : Value} {Q : Value → Gh → Prop} (ho : g.has a o) (hd : o.data = .fields vs) (hx : vs[i]? = some x) (q : Q x g) : gwp K A (field (.ref a) i) Q g := fun s E ok => wpAny_field (ho.get ok) hd hx ⟨g, ok, q⟩
theorem Z23 {a : Addr} {c : String} {vs : Array Value} {i : Nat} {x : Value} {Q : Unit → Gh → Prop} (ho : g.mu a = some (fo c vs)) (hi : i < vs.size) (q : Q () (g.setMu a (fo c (vs.setIfInBounds i x)))) : gwp K A (setField (.ref a) i x) Q g := fun s E ok =>
 wpAny_setField_rec (ok.mu _ _ ho) hi fun h' e hs => ⟨_, ok.sameBut (tk := s.toks) ho hs e, q⟩
theorem gwp_alive {a : Addr} {o : Obj} {Q : Option Obj → Gh → Prop} (ho : g.has a o) (q : Q (some o) g) : gwp K A (loadIfAlive a) Q g := fun s E ok Γ p hΓ => by
 show Sem.wp _ _ (Sem.loadIfAlive a .pure) _ _ _ _
 rw [Sem.wp_loadIfAlive, ho.get ok]
 exact ⟨g, ok, q⟩
theorem Z165 {a : Addr} {c : String} {its : Array Value} {m : Nat} {f : Array Value → Array Value} {Q : Unit → Gh → Prop} (ho : g.mu a = some (sq c its m)) (h1 : its.size ≤ sizeLine) (h2 : (f its).size ≤ sizeLine + 1) (q : ∀ m', Q () (g.setMu a (sq c (f its) m'))) : gwp K A (updateSeq a f) Q g := fun s E ok =>
 wpAny_updateSeq (ok.mu _ _ ho) rfl ⟨_, ok.upd ho (f := Obj.mapSeq f) rfl, q _⟩ h1 h2
theorem Z239 {vs ks : List Value} {Q : Unit → Gh → Prop} (q : Q () g) : gwp K A (letGo vs ks) Q g := fun s E ok => wpAny_letGo ⟨g, ok, q⟩
structure ItN (K : Wd) (it : Value) (T R : List Addr) (St : List D → Gh → Prop) : Prop where
 item : ∀ {d : D} {ds : List D} {g : Gh} {A : Around}, A.handled = none → St (d :: ds) g → gwp K A (SmallTypes.nextOf it) (fun v g' => LeX T g g' ∧ Rep g'.im d v ∧ St ds g') g
 done : ∀ {g : Gh} {A : Around} {s : Shared} {Q : Value → Shared → Prop} {E : Value → Shared → Prop}, A.handled = none → St [] g → g.Ok K.B s → (∀ e s' g', g'.Ok K.B s' → LeX T g g' → s'.TypeIs (.ref e) "StopIteration" → E (.ref e) s') → wpAny (model K.prog K.w) A (SmallTypes.nextOf it) Q E s
 frame : ∀ {ds : List D} {g g' : Gh} {W : List Addr}, St ds g → LeX W g g' → (∀ a ∈ W, a ∉ T ∧ a ∉ R) → St ds g'
 mem : ∀ {ds : List D} {g : Gh}, St ds g → ∀ a ∈ T, ∃ o, g.mu a = some o
 cell : ∀ {ds : List D} {g : Gh}, St ds g → ∀ a ∈ T, ∀ o w, g.mu a = some o → o.data ≠ .cell w
theorem ItN.list {it : Addr} : ItN K (.ref it) [it] [] (StL [] it) where
 item := fun {d ds g A} hh st s E ok => by
  refine E5_4 st fun o l i its m h1 h2 h3 h4 => ?_
  refine E1_3 (reps_at h4) fun v hv e2 e3 => ?_
  refine wpAny_nextOf_list_item ⟨o, ok.mu _ _ h1, h2⟩ ⟨_, h3.get ok, rfl, m, rfl⟩ hv fun h' hit' hs => ?_
  refine E1_3 hit' fun o' ho' hc' hd' => ?_
  have ok' := ok.sameBut (tk := s.toks) h1 hs ho'
  exact ⟨_, ok', LeX.setMu, e2, o', l, i + 1, its, m, Gh.setMu_self, ⟨hc', hd'⟩, h3.up LeX.setMu (fun a ha => by exact List.not_mem_nil), e3⟩
 done := fun {g A s Q E} hh st ok hE => by
  refine E5_4 st fun o l i its m h1 h2 h3 h4 => ?_
  have hv := reps_off h4
  exact wpAny_nextOf_list_end hh ⟨o, ok.mu _ _ h1, h2⟩ ⟨_, h3.get ok, rfl, m, rfl⟩ hv fun h' e he ht => hE e _ _ (ok.lost (tk := s.toks) h1 he) LeX.drop ht
 frame := fun {ds g g' W} st l hw => by
  refine E5_4 st fun o a i its m h1 h2 h3 h4 => ?_
  exact ⟨o, a, i, its, m, l.mu _ _ (fun hm => (hw _ hm).1 (by exact .head _)) h1, h2, h3.up l (fun a ha => (hw a ha).2), h4.mono l.im⟩
 mem := fun {ds g} st => all1 (E5_4 st fun o l i its m h1 h2 h3 h4 => ⟨o, h1⟩)
 cell := fun {ds g} st => all1 (fun o' w e => E5_4 st fun o l i its m h1 h2 h3 h4 z => by rw [← Z39 h1 e, h2.2] at z; cases z)
noncomputable def Owned (g : Gh) (f0 : Value) : Prop := f0 = .none ∨ ∃ T o, f0 = rawInt (T : Nat) ∧ g.im T = some o
theorem Owned.mono {g' : Gh} {f0 : Value} (h : Owned g f0) (l : ∀ a o, g.im a = some o → g'.im a = some o) : Owned g' f0 := h.imp id fun z₀ => E2_2 z₀ fun T o e h => ⟨T, o, e, l _ _ h⟩
theorem Z184 {a : Addr} {c : String} {f0 f1 : Value} {rest : List Value} {Q : Bool → Gh → Prop} (ho : g.mu a = some (fo c (f0 :: f1 :: rest).toArray)) (hf : Owned g f0)
  (q1 : f0 = .none → Q true g) (q2 : ∀ f1', Q false (g.setMu a (fo c (f0 :: f1' :: rest).toArray))) : gwp K A (SmallTypes.ownedTupleIsFree (.ref a)) Q g := by
 unfold SmallTypes.ownedTupleIsFree
 refine Z1 (Z60 (x := f0) (.inr ho) rfl (by exact rfl) ?_)
 rcases hf with rfl | ⟨T, o, rfl, hT⟩
 ·exact Z4 (q1 rfl)
 ·show gwp K A (loadIfAlive T >>= _) Q g
  refine Z1 (gwp_alive (.inl hT) ?_)
  dsimp only [Option.isNone_some, Bool.false_eq_true, if_false]
  refine Z1 (Z60 (x := f1) (.inr ho) rfl (by exact rfl) ?_)
  have hsame : ∀ (q : Q false (g.setMu a (fo c (rawInt T :: f1 :: rest).toArray))), gwp K A (pure false) Q g := fun q s E ok => by
   have ok' := ok.sameBut (tk := s.toks) ho (h' := s.heap) ⟨rfl, fun _ _ => rfl⟩ (ok.mu _ _ ho)
   exact wpAny_pure ⟨_, ok', q⟩
  split
  ·refine Z1 (Z23 ho (by simp) (Z4 ?_))
   have : ((rawInt T :: f1 :: rest).toArray.setIfInBounds 1 (.bool true)) = (rawInt T :: .bool true :: rest).toArray := by exact rfl
   rw [this]; exact q2 _
  ·exact hsame (q2 f1)
theorem Z240 {a T : Addr} {c : String} {f0 f1 : Value} {rest : List Value} {Q : Unit → Gh → Prop} (ho : g.mu a = some (fo c (f0 :: f1 :: rest).toArray)) (q : Q () (g.setMu a (fo c (rawInt T :: .bool false :: rest).toArray))) : gwp K A (SmallTypes.ownedTupleHandOut (.ref a) (.ref T)) Q g := by
 unfold SmallTypes.ownedTupleHandOut
 refine Z1 (Z23 ho (by exact Nat.succ_pos _) ?_)
 refine Z23 (c := c) (vs := (rawInt T :: f1 :: rest).toArray) (by rw [Gh.setMu_self]; simp) (by simp) ?_
 have e : ((rawInt T :: f1 :: rest).toArray.setIfInBounds 1 (.bool false)) = (rawInt T :: .bool false :: rest).toArray := by exact rfl
 rw [e]
 have e2 : ∀ o o', (g.setMu a o).setMu a o' = g.setMu a o' := fun o o' => by
  unfold Gh.setMu
  congr 1
  funext x
  by_cases hx : x = a <;> simp [hx]
 rw [e2]; exact q
theorem Z59 {a : Addr} {o : Obj} {its : Array Value} {m : Nat} {Q : Option (Array Value) → Gh → Prop} (ho : g.has a o) (hd : o.data = .seq its m) (q : Q (some its) g) : gwp K A (seqItems? (.ref a)) Q g := fun s E ok => wpAny_seqItems (ho.get ok) hd ⟨g, ok, q⟩
noncomputable def zipD (ds1 ds2 : List D) : List D := List.zipWith (fun d e => .tup [d, e]) ds1 ds2
noncomputable abbrev zo (f0 f1 : Value) (TI TO : Addr) : Obj := fo "zip" (f0 :: f1 :: [.bool false, .ref TI, .ref TO]).toArray
structure ZipSt (z TI TO i1 i2 : Addr) (St1 St2 : List D → Gh → Prop) (ds1 ds2 : List D) (g : Gh) : Prop where
 z : ∃ f0 f1, g.mu z = some (zo f0 f1 TI TO) ∧ Owned g f0
 TO : ∃ a b m, g.mu TO = some (sq "tuple" #[a, b] m)
 TI : ∃ m, g.im TI = some (sq "tuple" #[.ref i1, .ref i2] m)
 len : ds1.length = ds2.length
 st1 : St1 ds1 g
 st2 : St2 ds2 g
theorem Z97 {x y : Value} {d e : D} {Q : Value → Gh → Prop} (hx : Rep g.im d x) (hy : Rep g.im e y) (q : ∀ T o g', Le g g' → g'.im T = some o → Rep g'.im (.tup [d, e]) (.ref T) → Q (.ref T) g') : gwp K A (newTuple [x, y]) Q g := fun s E ok => by
 refine wpAny_newTuple ⟨_, ok.pushIm (o := { cls := .type "tuple", data := .seq #[x, y] }) rfl, q _ _ _ (Le.addIm ok.fresh.1) Gh.addIm_self ?_⟩
 have l := Le.addIm (g := g) (o := { cls := .type "tuple", data := .seq #[x, y] }) ok.fresh.1
 exact Z62.mpr ⟨_, #[x, y], 0, rfl, Gh.addIm_self, Reps.cons (hx.le l) (Reps.cons (hy.le l) Reps.nil)⟩
section
variable {z TI TO i1 i2 : Addr} {T1 T2 R1 R2 : List Addr} {St1 St2 : List D → Gh → Prop}
theorem zip_next (I1 : ItN K (.ref i1) T1 R1 St1) (I2 : ItN K (.ref i2) T2 R2 St2) (hnd : (z :: TO :: (T1 ++ T2)).Nodup) (hR : ∀ a ∈ R1 ++ R2, a ∉ z :: TO :: (T1 ++ T2)) {d e : D} {ds1 ds2 : List D} (hh : A.handled = none)
  (st : ZipSt z TI TO i1 i2 St1 St2 (d :: ds1) (e :: ds2) g) : gwp K A (Builtin.«zip.__next__» ⟨[.ref z], []⟩) (fun fin g' => ∃ v, fin = .done (.ret v) ∧ LeX (z :: TO :: (T1 ++ T2)) g g' ∧ Rep g'.im (.tup [d, e]) v ∧ ZipSt z TI TO i1 i2 St1 St2 ds1 ds2 g') g := by
 refine cps fun Q₀ k₀ => ?_
 obtain ⟨⟨f0, f1, hz, hown⟩, ⟨a, b, m, hTO⟩, ⟨mI, hTI⟩, hlen, st1, st2⟩ := st
 simp only [List.nodup_cons, List.mem_cons, List.mem_append, not_or, List.nodup_append] at hnd
 obtain ⟨⟨hzTO, hz1, hz2⟩, ⟨hTO1, hTO2⟩, hn1, hn2, h12⟩ := hnd
 have hR' : ∀ a, a ∈ R1 ∨ a ∈ R2 → a ≠ z ∧ a ≠ TO ∧ a ∉ T1 ∧ a ∉ T2 := fun a ha => by
  have := hR a (List.mem_append.mpr ha)
  simp only [List.mem_cons, List.mem_append, not_or] at this
  exact ⟨this.1, this.2.1, this.2.2.1, this.2.2.2⟩
 have sub1 : ∀ a ∈ T1, a ∈ z :: TO :: (T1 ++ T2) := fun a h => .tail _ (.tail _ (List.mem_append.mpr (.inl h)))
 have sub2 : ∀ a ∈ T2, a ∈ z :: TO :: (T1 ++ T2) := fun a h => .tail _ (.tail _ (List.mem_append.mpr (.inr h)))
 have subz : ∀ a ∈ [z], a ∈ z :: TO :: (T1 ++ T2) := all1 (.head _)
 have subTO : ∀ a ∈ [TO], a ∈ z :: TO :: (T1 ++ T2) := all1 (.tail _ (.head _))
 show gwp K A (field (.ref z) 2 >>= _) _ g
 refine Z1 (Z60 (x := .bool false) (.inr hz) rfl (by exact rfl) ?_)
 show gwp K A (field (.ref z) 3 >>= _) _ g
 refine Z1 (Z60 (x := .ref TI) (.inr hz) rfl (by exact rfl) ?_)
 refine Z1 (Z59 (.inl hTI) rfl ?_)
 show gwp K A (SmallTypes.ownedTupleIsFree (.ref z) >>= _) _ g
 refine Z1 (Z184 hz hown (fun e0 => ?_) (fun f1' => ?_))
 ·subst e0
  refine Z1 (gwp_rule ?_)
  refine Z1 (Z60 (x := .ref TO) (.inr hz) rfl (by exact rfl) ?_)
  refine Z1 (Z23 hz (by exact Nat.succ_pos _) ?_)
  have l₁ : LeX [z] g (g.setMu z (zo .ellipsis f1 TI TO)) := LeX.setMu
  have e1 : ((Value.none :: f1 :: [Value.bool false, .ref TI, .ref TO]).toArray.setIfInBounds 0 .ellipsis) = (.ellipsis :: f1 :: [Value.bool false, .ref TI, .ref TO]).toArray := by exact rfl
  rw [e1]
  refine Z1 ?_
  refine Z1 (Z1 (Z237 ?_))
  show gwp K A (SmallTypes.nextOf (.ref i1) >>= _) _ _
  have st1' := I1.frame st1 l₁ (all1 ⟨hz1, fun h => (hR' _ (.inl h)).1 rfl⟩)
  refine Z1 (gM0_3 (I1.item hh st1') fun x g₂ l₂ hx st1₂ => Z4 ?_)
  have hTO₂ : g₂.mu TO = some (sq "tuple" #[a, b] m) := l₂.mu _ _ hTO1 ((Gh.setMu_other (Ne.symm hzTO)).trans hTO)
  have hz₂ : g₂.mu z = some (zo .ellipsis f1 TI TO) := l₂.mu _ _ hz1 Gh.setMu_self
  refine Z1 (Z59 (.inr hTO₂) rfl ?_)
  refine Z1 (Z165 hTO₂ (by exact Nat.le_of_ble_eq_true rfl) (by exact Nat.le_of_ble_eq_true rfl) fun m₃ => ?_)
  refine Z1 (Z239 (Z4 ?_))
  have hTOe : (#[a, b] : Array Value).setIfInBounds 0 x = #[x, b] := rfl
  rw [hTOe]
  generalize hg₃ : g₂.setMu TO (sq "tuple" #[x, b] m₃) = g₃
  have l₃ : LeX [TO] g₂ g₃ := hg₃ ▸ LeX.setMu
  have hTO₃ : g₃.mu TO = some (sq "tuple" #[x, b] m₃) := hg₃ ▸ Gh.setMu_self
  have hz₃ : g₃.mu z = some (zo .ellipsis f1 TI TO) := l₃.mu _ _ (fun h => hzTO (List.mem_singleton.mp h)) hz₂
  refine Z1 (Z1 (Z237 ?_))
  show gwp K A (SmallTypes.nextOf (.ref i2) >>= _) _ _
  have l₁₃ : LeX (z :: TO :: T1) g g₃ := (l₁.sub (all1 (.head _))).trans ((l₂.sub (fun a h => .tail _ (.tail _ h))).trans (l₃.sub (all1 (.tail _ (.head _)))))
  have st2' := I2.frame st2 l₁₃ (allc ⟨hz2, fun h => (hR' _ (.inr h)).1 rfl⟩ (allc ⟨hTO2, fun h => (hR' _ (.inr h)).2.1 rfl⟩ (fun a ha => ⟨fun h => h12 a ha a h rfl, fun h => (hR' _ (.inr h)).2.2.1 ha⟩)))
  refine Z1 (gM0_3 (I2.item hh st2') fun y g₄ l₄ hy st2₄ => Z4 ?_)
  have hTO₄ : g₄.mu TO = some (sq "tuple" #[x, b] m₃) := l₄.mu _ _ hTO2 hTO₃
  have hz₄ : g₄.mu z = some (zo .ellipsis f1 TI TO) := l₄.mu _ _ hz2 hz₃
  refine Z1 (Z59 (.inr hTO₄) rfl ?_)
  refine Z1 (Z165 hTO₄ (by exact Nat.le_of_ble_eq_true rfl) (by exact Nat.le_of_ble_eq_true rfl) fun m₅ => ?_)
  refine Z1 (Z239 (Z4 (Z4 ?_)))
  have hTOe : (#[x, b] : Array Value).setIfInBounds 1 y = #[x, y] := rfl
  rw [hTOe]
  generalize hg₅ : g₄.setMu TO (sq "tuple" #[x, y] m₅) = g₅
  have l₅ : LeX [TO] g₄ g₅ := hg₅ ▸ LeX.setMu
  have hTO₅ : g₅.mu TO = some (sq "tuple" #[x, y] m₅) := hg₅ ▸ Gh.setMu_self
  have hz₅ : g₅.mu z = some (zo .ellipsis f1 TI TO) := l₅.mu _ _ (fun h => hzTO (List.mem_singleton.mp h)) hz₄
  refine Z1 (Z59 (.inr hTO₅) rfl ?_)
  have hx₅ : Rep g₅.im d x := ((hx.mono l₃.im).mono l₄.im).mono l₅.im
  refine Z1 (Z97 hx₅ (hy.mono l₅.im) fun T o g₆ l₆ hT ht => ?_)
  refine Z1 (Z240 (l₆.at hz₅) (Z4 (k₀ _ _ ⟨.ref T, rfl, ?_, ht, ?_⟩)))
  ·exact (l₁.sub subz).trans ((l₂.sub sub1).trans ((l₃.sub subTO).trans ((l₄.sub sub2).trans ((l₅.sub subTO).trans ((LeX.of l₆).trans (LeX.setMu.sub subz))))))
  ·have l₇ : LeX [z] g₆ (g₆.setMu z (zo (rawInt T) (.bool false) TI TO)) := LeX.setMu
   refine ⟨⟨_, _, Gh.setMu_self, .inr ⟨T, o, rfl, hT⟩⟩, ⟨x, y, m₅, (Gh.setMu_other (Ne.symm hzTO)).trans (l₆.at hTO₅)⟩, ⟨mI, l₆.im _ _ (l₅.im _ _ (l₄.im _ _ (l₃.im _ _ (l₂.im _ _ hTI))))⟩, Nat.succ.inj hlen, ?_, ?_⟩
   ·have lA : LeX (z :: TO :: T2) g₂ (g₆.setMu z (zo (rawInt T) (.bool false) TI TO)) := (l₃.sub (all1 (.tail _ (.head _)))).trans ((l₄.sub (fun a h => .tail _ (.tail _ h))).trans ((l₅.sub (all1 (.tail _ (.head _)))).trans ((LeX.of l₆).trans (l₇.sub (all1 (.head _))))))
    exact I1.frame st1₂ lA (allc ⟨hz1, fun h => (hR' _ (.inl h)).1 rfl⟩ (allc ⟨hTO1, fun h => (hR' _ (.inl h)).2.1 rfl⟩ (fun a ha => ⟨fun h => h12 a h a ha rfl, fun h => (hR' _ (.inl h)).2.2.2 ha⟩)))
   ·have lA : LeX (z :: TO :: []) g₄ (g₆.setMu z (zo (rawInt T) (.bool false) TI TO)) := (l₅.sub (all1 (.tail _ (.head _)))).trans ((LeX.of l₆).trans (l₇.sub (all1 (.head _))))
    exact I2.frame st2₄ lA (allc ⟨hz2, fun h => (hR' _ (.inr h)).1 rfl⟩ (all1 ⟨hTO2, fun h => (hR' _ (.inr h)).2.1 rfl⟩))
 ·have l₁ : LeX [z] g (g.setMu z (zo f0 f1' TI TO)) := LeX.setMu
  generalize hg₁ : g.setMu z (zo f0 f1' TI TO) = g₁ at *
  have hz₁ : g₁.mu z = some (zo f0 f1' TI TO) := hg₁ ▸ Gh.setMu_self
  have hTO₁ : g₁.mu TO = some (sq "tuple" #[a, b] m) := l₁.mu _ _ (fun h => hzTO (List.mem_singleton.mp h).symm) hTO
  refine Z1 ?_
  refine Z1 (Z1 (Z18 ?_))
  show gwp K A (SmallTypes.nextOf (.ref i1) >>= _) _ _
  have st1' := I1.frame st1 l₁ (all1 ⟨hz1, fun h => (hR' _ (.inl h)).1 rfl⟩)
  refine Z1 (gM0_3 (I1.item hh st1') fun x g₂ l₂ hx st1₂ => Z4 (Z4 ?_))
  refine Z1 (Z1 (Z18 ?_))
  show gwp K A (SmallTypes.nextOf (.ref i2) >>= _) _ _
  have l₁₂ : LeX (z :: T1) g g₂ := (l₁.sub (all1 (.head _))).trans (l₂.sub (fun a h => .tail _ h))
  have st2' := I2.frame st2 l₁₂ (allc ⟨hz2, fun h => (hR' _ (.inr h)).1 rfl⟩ (fun a ha => ⟨fun h => h12 a ha a h rfl, fun h => (hR' _ (.inr h)).2.2.1 ha⟩))
  refine Z1 (gM0_3 (I2.item hh st2') fun y g₃ l₃ hy st2₃ => Z4 (Z4 (Z4 ?_)))
  refine Z1 (Z97 (hx.mono l₃.im) hy fun T o g₄ l₄ hT ht => Z4 (k₀ _ _ ⟨.ref T, rfl, ?_, ht, ?_⟩))
  ·exact (l₁.sub subz).trans ((l₂.sub sub1).trans ((l₃.sub sub2).trans (LeX.of l₄)))
  ·refine ⟨⟨f0, f1', l₄.at (l₃.mu _ _ hz2 (l₂.mu _ _ hz1 hz₁)), hown.mono fun a o h => l₄.im _ _ (l₃.im _ _ (l₂.im _ _ (l₁.im _ _ h)))⟩, ⟨a, b, m, l₄.at (l₃.mu _ _ hTO2 (l₂.mu _ _ hTO1 hTO₁))⟩, ⟨mI, l₄.im _ _ (l₃.im _ _ (l₂.im _ _ (l₁.im _ _ hTI)))⟩, Nat.succ.inj hlen, ?_, ?_⟩
   ·exact I1.frame st1₂ ((l₃.sub (fun a h => h)).trans (LeX.of l₄)) (fun a ha => ⟨fun h => h12 a h a ha rfl, fun h => (hR' _ (.inl h)).2.2.2 ha⟩)
   ·exact I2.frame st2₃ l₄ all0
end
theorem gwp_owned {it : Addr} {c : String} {f0 : Value} {rest : List Value} {v : Value} {target : Expr} {Q : Unit → Gh → Prop} (ho : g.mu it = some (fo c (f0 :: rest).toArray)) (q0 : Q () g) (q1 : Q () (g.setMu it (fo c (.none :: rest).toArray))) : gwp K A (letOwnedTupleGo target (.ref it) v) Q g := by
 rcases Z133 target (.ref it) v with e | e <;> rw [e]
 ·exact Z4 q0
 ·cases v with
  | ref a =>
   show gwp K A (load it >>= _) Q g
   refine Z1 (gwp_load (.inr ho) ?_)
   dsimp only
   split
   ·exact Z1 (gwp_rule (Z23 ho (Nat.succ_pos _) q1))
   ·exact Z4 q0
  | _ => exact Z4 q0
section
variable {z TI TO i1 i2 : Addr} {T1 T2 R1 R2 : List Addr} {St1 St2 : List D → Gh → Prop}
theorem ZipSt.frame {ds1 ds2 : List D} {g' : Gh} {W : List Addr} (I1 : ItN K (.ref i1) T1 R1 St1) (I2 : ItN K (.ref i2) T2 R2 St2) (st : ZipSt z TI TO i1 i2 St1 St2 ds1 ds2 g) (l : LeX W g g') (hw : ∀ a ∈ W, a ∉ z :: TO :: (T1 ++ T2) ∧ a ∉ R1 ++ R2) : ZipSt z TI TO i1 i2 St1 St2 ds1 ds2 g' := by
 obtain ⟨⟨f0, f1, hz, hown⟩, ⟨a, b, m, hTO⟩, ⟨mI, hTI⟩, hlen, st1, st2⟩ := st
 simp only [List.mem_cons, List.mem_append, not_or] at hw
 exact ⟨⟨f0, f1, l.mu _ _ (fun h => (hw _ h).1.1 rfl) hz, hown.mono l.im⟩, ⟨a, b, m, l.mu _ _ (fun h => (hw _ h).1.2.1 rfl) hTO⟩, ⟨mI, l.im _ _ hTI⟩, hlen,
  I1.frame st1 l fun a ha => ⟨(hw a ha).1.2.2.1, (hw a ha).2.1⟩, I2.frame st2 l fun a ha => ⟨(hw a ha).1.2.2.2, (hw a ha).2.2⟩⟩
theorem It.zip (I1 : ItN K (.ref i1) T1 R1 St1) (I2 : ItN K (.ref i2) T2 R2 St2) (hnd : (z :: TO :: (T1 ++ T2)).Nodup) (hR : ∀ a ∈ R1 ++ R2, a ∉ z :: TO :: (T1 ++ T2)) :
  It K (.ref z) (z :: TO :: (T1 ++ T2)) (R1 ++ R2) (fun ds g => ∃ ds1 ds2, ds = zipD ds1 ds2 ∧ ZipSt z TI TO i1 i2 St1 St2 ds1 ds2 g) where
 item := fun {d ds g A} hh st₀ s E ok => by
  refine E2_2 st₀ fun ds1 ds2 e st => ?_
  refine E2_2 st.z fun f0 f1 hz hown => ?_
  have hT : s.TypeIs (.ref z) "zip" := ⟨_, ok.mu _ _ hz, rfl⟩
  cases ds1 with
  | nil => cases e
  | cons d1 ds1 =>
   cases ds2 with
   | nil => cases e
   | cons d2 ds2 =>
    have e' : d :: ds = D.tup [d1, d2] :: zipD ds1 ds2 := e
    cases e'
    refine wpAny_bind (wpAny_attempt (wpAny_callSpecial?_slot (name := Str.ofString "__next__") hT PySem.F.slot_zip_next (wpAny_call_entry PySem.F.slot_zip_next hT PySem.F.entry_zip_next (wM1_2 (zip_next I1 I2 hnd hR (A := A.in1) hh st s _ ok) (fun fin s' g' ok' z₀ => E1_4 z₀ fun v e1 l hv st' => ?_)) (PySem.F.args_zip_next_1 _))))
    refine ⟨v, e1, wpAny_pure ⟨g', ok', l, v, rfl, hv, fun target A => ?_⟩⟩
    refine E2_2 st'.z fun f0' f1' hz' hown' => ?_
    refine gwp_owned hz' ⟨LeX.refl _ _, _, _, rfl, st'⟩ ⟨LeX.setMu.sub (all1 (.head _)), ds1, ds2, rfl, ?_⟩
    have l₁ : LeX [z] g' (g'.setMu z (zo .none f1' TI TO)) := LeX.setMu
    simp only [List.nodup_cons, List.mem_cons, List.mem_append, not_or, List.nodup_append] at hnd
    refine E0_5 hnd ?_
    rintro ⟨hzTO, hz1, hz2⟩ ⟨hTO1, hTO2⟩ hn1 hn2 h12
    refine E3_1 st'.TO fun a b m hTO => ?_
    refine ⟨⟨_, _, Gh.setMu_self, .inl rfl⟩, ⟨a, b, m, (Gh.setMu_other (Ne.symm hzTO)).trans hTO⟩, st'.TI, st'.len, I1.frame st'.st1 l₁ (all1 ⟨hz1, fun h => hR _ (List.mem_append.mpr (.inl h)) (.head _)⟩), I2.frame st'.st2 l₁ (all1 ⟨hz2, fun h => hR _ (List.mem_append.mpr (.inr h)) (.head _)⟩)⟩
 done := fun {g A} hh st₀ s E ok => by
  refine E2_2 st₀ fun ds1 ds2 e st => ?_
  refine E2_2 st.z fun f0 f1 hz hown => ?_
  refine E3_1 st.TO fun a b m hTO => ?_
  refine E1_1 st.TI fun mI hTI => ?_
  have hT : s.TypeIs (.ref z) "zip" := ⟨_, ok.mu _ _ hz, rfl⟩
  have h1 : ds1 = [] := by
   cases ds1 with
   | nil => rfl
   | cons d1 ds1 =>
    cases ds2 with
    | nil => exact absurd st.len (by exact Nat.succ_ne_zero _)
    | cons d2 ds2 => cases e
  subst h1
  have hnd' := hnd
  simp only [List.nodup_cons, List.mem_cons, List.mem_append, not_or, List.nodup_append] at hnd'
  refine E0_5 hnd' ?_
  rintro ⟨hzTO, hz1, hz2⟩ ⟨hTO1, hTO2⟩ hn1 hn2 h12
  have sub1 : ∀ a ∈ T1, a ∈ z :: TO :: (T1 ++ T2) := fun a h => .tail _ (.tail _ (List.mem_append.mpr (.inl h)))
  refine wpAny_bind (wpAny_attempt (wpAny_callSpecial?_slot (name := Str.ofString "__next__") hT PySem.F.slot_zip_next (wpAny_call_entry PySem.F.slot_zip_next hT PySem.F.entry_zip_next ?_ (PySem.F.args_zip_next_1 _))))
  have stop : ∀ (g' : Gh) (s' : Shared) (e : Addr), g'.Ok K.B s' → LeX (z :: TO :: (T1 ++ T2)) g g' → s'.TypeIs (.ref e) "StopIteration" → wpAny (model K.prog K.w) A (isInstance (.ref e) (.type "StopIteration") >>= fun c => if c = true then pure (none : Option Value) else throw (.ref e)) (fun v s' => ∃ g', g'.Ok K.B s' ∧ LeX (z :: TO :: (T1 ++ T2)) g g' ∧ v = none) E s' := fun g' s' e ok' l ht =>
   wpAny_bind (wpAny_isInstance ht isSubtype_stop (wpAny_pure ⟨g', ok', l, rfl⟩))
  show wpAny _ _ (field (.ref z) 2 >>= _) _ _ s
  refine wpAny_bind (wpAny_field (ok.mu _ _ hz) rfl (x := .bool false) (by exact rfl) ?_)
  show wpAny _ _ (field (.ref z) 3 >>= _) _ _ s
  refine wpAny_bind (wpAny_field (ok.mu _ _ hz) rfl (x := .ref TI) (by exact rfl) ?_)
  refine wpAny_bind (wpAny_seqItems (ok.im _ _ hTI) rfl ?_)
  show wpAny _ _ (SmallTypes.ownedTupleIsFree (.ref z) >>= _) _ _ s
  refine wpAny_bind (wpAny_mono (Z184 (Q := fun c g' => LeX [z] g g' ∧ (∃ f0 f1, g'.mu z = some (zo f0 f1 TI TO)) ∧ St1 [] g') hz hown (fun _ => ⟨LeX.refl _ _, ⟨_, _, hz⟩, st.st1⟩) (fun f1' => ⟨LeX.setMu, ⟨_, _, Gh.setMu_self⟩, I1.frame st.st1 (LeX.setMu (a := z)) (all1 ⟨hz1, fun h => hR _ (List.mem_append.mpr (.inl h)) (.head _)⟩)⟩) s (fun _ _ => False) ok) (fun c s₁ z₀ => E1_4 z₀ fun g₁ ok₁ l₁ z₀ st1₁ => E2_1 z₀ fun f0' f1' hz₁ => ?_) fun _ _ z => z.elim)
  cases c with
  | true =>
   refine wpAny_bind (wpAny_rule ?_)
   refine wpAny_bind (wpAny_field (ok₁.mu _ _ hz₁) rfl (x := .ref TO) (by exact rfl) ?_)
   refine wpAny_bind (wpAny_mono (Z23 (i := 0) (x := .ellipsis) (Q := fun _ g' => LeX [z] g₁ g' ∧ (∃ f0 f1, g'.mu z = some (zo f0 f1 TI TO)) ∧ St1 [] g') hz₁ (by exact Nat.succ_pos _) ⟨LeX.setMu, ⟨.ellipsis, f1', by rw [Gh.setMu_self]; simp⟩, I1.frame st1₁ (LeX.setMu (a := z)) (all1 ⟨hz1, fun h => hR _ (List.mem_append.mpr (.inl h)) (.head _)⟩)⟩ s₁ (fun _ _ => False) ok₁) (fun _ s₂ z₀ => E1_4 z₀ fun g₂ ok₂ l₂ z₀ st1₂ => E2_1 z₀ fun f0'' f1'' hz₂ => ?_) fun _ _ z => z.elim)
   refine wpAny_bind ?_
   refine wpAny_bind (wpAny_bind (wpAny_onRaise ?_))
   show wpAny _ _ (SmallTypes.nextOf (.ref i1) >>= _) _ _ _
   refine wpAny_bind (I1.done hh st1₂ ok₂ fun e s₃ g₃ ok₃ l₃ ht => ?_)
   have hz₃ : g₃.mu z = some (zo f0'' f1'' TI TO) := l₃.mu _ _ hz1 hz₂
   refine wpAny_setField_rec (ok₃.mu _ _ hz₃) (by exact Nat.succ_pos _) fun h' hz' hs' => ?_
   refine stop _ _ e (ok₃.sameBut (tk := s₃.toks) hz₃ hs' hz') ((l₁.sub (all1 (.head _))).trans ((l₂.sub (all1 (.head _))).trans ((l₃.sub sub1).trans (LeX.setMu.sub (all1 (.head _)))))) ?_
   refine E1_2 ht fun oe ho hc => ?_
   have hez : e ≠ z := fun x => by
    rw [x, ok₃.mu _ _ hz₃] at ho
    rw [← Option.some.inj ho] at hc
    exact absurd (Value.type.inj hc) (by decide)
   exact ⟨oe, (hs'.2 e hez).trans ho, hc⟩
  | false =>
   refine wpAny_bind ?_
   refine wpAny_bind (wpAny_bind (wpAny_holding ?_))
   show wpAny _ _ (SmallTypes.nextOf (.ref i1) >>= _) _ _ _
   refine wpAny_bind (I1.done hh st1₁ ok₁ fun e s₃ g₃ ok₃ l₃ ht => ?_)
   exact stop g₃ s₃ e ok₃ ((l₁.sub (all1 (.head _))).trans (l₃.sub sub1)) ht
 self := fun {ds g A Q} st₀ q s E ok => by
  refine E2_2 st₀ fun ds1 ds2 e st => ?_
  refine E2_2 st.z fun f0 f1 hz hown => ?_
  have hT : s.TypeIs (.ref z) "zip" := ⟨_, ok.mu _ _ hz, rfl⟩
  refine wpAny_pyIter_slot hT PySem.F.slot_zip_iter (wpAny_call_entry PySem.F.slot_zip_iter hT PySem.F.entry_zip_iter ?_ (PySem.F.args_zip_iter_1 _))
  show wpAny _ _ (ret (.ref z)) _ _ s
  exact wpAny_pure ⟨_, rfl, "zip", _, hT, PySem.F.slot_zip_next.lookup, g, ok, q⟩
 frame := fun {ds g g' W} st₀ l hw => E2_2 st₀ fun ds1 ds2 e st => ⟨ds1, ds2, e, st.frame I1 I2 l hw⟩
 mem := fun {ds g} st₀ => E2_2 st₀ fun ds1 ds2 e st => E2_2 st.z fun f0 f1 hz _ => E3_1 st.TO fun x y m hTO =>
  allc ⟨_, hz⟩ (allc ⟨_, hTO⟩ (alla (I1.mem st.st1) (I2.mem st.st2)))
 cell := fun {ds g} st₀ => E2_2 st₀ fun ds1 ds2 e st => E2_2 st.z fun f0 f1 hz _ => E3_1 st.TO fun x y m hTO =>
  allc (fun o w e z => by rw [← Z39 hz e] at z; cases z) (allc (fun o w e z => by rw [← Z39 hTO e] at z; cases z) (alla (I1.cell st.st1) (I2.cell st.st2)))
end
noncomputable def enumD : Nat → List D → List D
 | _, [] => []
 | i, d :: ds => .tup [.int i, d] :: enumD (i + 1) ds
noncomputable abbrev eo (f0 f1 : Value) (it : Addr) (i : Nat) (old : Value) : Obj := fo "enumerate" (f0 :: f1 :: [.ref it, rawInt i, .none, old]).toArray
structure EnSt (e it : Addr) (St1 : List D → Gh → Prop) (i : Nat) (ds : List D) (g : Gh) : Prop where
 e : ∃ f0 f1 old, g.mu e = some (eo f0 f1 it i old) ∧ Owned g f0
 st : St1 ds g
theorem Z40 {a : Addr} {o o' : Obj} : (g.setMu a o).setMu a o' = g.setMu a o' := by
 unfold Gh.setMu
 congr 1
 funext x
 by_cases hx : x = a <;> simp [hx]
section
variable {e it : Addr} {T1 R1 : List Addr} {St1 : List D → Gh → Prop}
theorem enum_next (I1 : ItN K (.ref it) T1 R1 St1) (he1 : e ∉ T1) (he2 : e ∉ R1) {i : Nat} {d : D} {ds : List D} (hh : A.handled = none) (st : EnSt e it St1 i (d :: ds) g) :
  gwp K A (Builtin.«enumerate.__next__» ⟨[.ref e], []⟩) (fun fin g' => ∃ v, fin = .done (.ret v) ∧ LeX (e :: T1) g g' ∧ Rep g'.im (.tup [.int i, d]) v ∧ EnSt e it St1 (i + 1) ds g') g := by
 refine cps fun Q₀ k₀ => ?_
 obtain ⟨⟨f0, f1, old, he, hown⟩, st1⟩ := st
 show gwp K A (field (.ref e) 2 >>= _) _ g
 refine Z1 (Z60 (x := .ref it) (.inr he) rfl (by exact rfl) ?_)
 refine Z1 (gM0_3 (I1.item hh st1) fun x g₁ l₁ hx st1₁ => ?_)
 have he₁ : g₁.mu e = some (eo f0 f1 it i old) := l₁.mu _ _ he1 he
 show gwp K A (field (.ref e) 3 >>= _) _ g₁
 refine Z1 (Z60 (x := rawInt i) (.inr he₁) rfl (by exact rfl) ?_)
 show gwp K A (field (.ref e) 4 >>= _) _ g₁
 refine Z1 (Z60 (x := .none) (.inr he₁) rfl (by exact rfl) ?_)
 show gwp K A (mkInt i >>= _) _ g₁
 refine Z1 (gwp_mkInt fun t => ?_)
 show gwp K A (setField (.ref e) 3 (rawInt ((i : Int) + 1)) >>= _) _ g₁
 refine Z1 (Z23 he₁ (by simp) ?_)
 show gwp K A (setField (.ref e) 4 .none >>= _) _ _
 refine Z1 (Z23 (c := "enumerate") (vs := (f0 :: f1 :: [.ref it, rawInt ((i : Int) + 1), .none, old]).toArray) (by rw [Gh.setMu_self]; simp) (by simp) ?_)
 rw [Z40]
 have e1 : ((f0 :: f1 :: [Value.ref it, rawInt ((i : Int) + 1), .none, old]).toArray.setIfInBounds 4 .none) = (f0 :: f1 :: [Value.ref it, rawInt ((i + 1 : Nat) : Int), .none, old]).toArray := by exact rfl
 rw [e1]
 have l₂ : LeX [e] g₁ (g₁.setMu e (eo f0 f1 it (i + 1) old)) := LeX.setMu
 generalize hg₂ : g₁.setMu e (eo f0 f1 it (i + 1) old) = g₂ at *
 have he₂ : g₂.mu e = some (eo f0 f1 it (i + 1) old) := hg₂ ▸ Gh.setMu_self
 show gwp K A (newTuple [.int i t, x] >>= _) _ g₂
 have ssub : ∀ a ∈ [e], a ∈ e :: T1 := all1 (.head _)
 have ssub1 : ∀ a ∈ T1, a ∈ e :: T1 := fun a h => .tail _ h
 refine Z1 (Z97 (d := .int i) Z25 (hx.mono l₂.im) fun T o g₃ l₃ hT ht => ?_)
 have he₃ : g₃.mu e = some (eo f0 f1 it (i + 1) old) := l₃.at he₂
 have st1₃ : St1 ds g₃ := I1.frame st1₁ (l₂.trans (LeX.of l₃)) (all1 ⟨he1, he2⟩)
 have l03 : LeX (e :: T1) g g₃ := (l₁.sub ssub1).trans ((l₂.sub ssub).trans (LeX.of l₃))
 show gwp K A (SmallTypes.ownedTupleIsFree (.ref e) >>= _) _ g₃
 refine Z1 (Z184 he₃ (hown.mono fun a o h => l₃.im _ _ (l₂.im _ _ (l₁.im _ _ h))) (fun e0 => ?_) (fun f1' => ?_))
 ·subst e0
  refine Z1 (gwp_rule ?_)
  refine Z1 (Z60 (x := old) (.inr he₃) rfl (by exact rfl) ?_)
  refine Z1 (Z23 he₃ (by exact Nat.le_refl _) ?_)
  have e2 : ((Value.none :: f1 :: [Value.ref it, rawInt ((i + 1 : Nat) : Int), .none, old]).toArray.setIfInBounds 5 x) = (Value.none :: f1 :: [Value.ref it, rawInt ((i + 1 : Nat) : Int), .none, x]).toArray := by exact rfl
  rw [e2]
  refine Z1 (Z240 (f0 := .none) (f1 := f1) (rest := [Value.ref it, rawInt ((i + 1 : Nat) : Int), .none, x]) Gh.setMu_self ?_)
  rw [Z40]
  have l₄ : LeX [e] g₃ (g₃.setMu e (eo (rawInt T) (.bool false) it (i + 1) x)) := LeX.setMu
  refine Z1 (Z239 (Z4 (k₀ _ _ ⟨.ref T, rfl, l03.trans (l₄.sub ssub), ht.mono l₄.im, ⟨_, _, _, Gh.setMu_self, .inr ⟨T, o, rfl, hT⟩⟩, ?_⟩)))
  exact I1.frame st1₃ l₄ (all1 ⟨he1, he2⟩)
 ·have l₄ : LeX [e] g₃ (g₃.setMu e (eo f0 f1' it (i + 1) old)) := LeX.setMu
  refine Z4 (k₀ _ _ ⟨.ref T, rfl, l03.trans (l₄.sub ssub), ht.mono l₄.im, ⟨_, _, _, Gh.setMu_self, hown.mono fun a o h => l₃.im _ _ (l₂.im _ _ (l₁.im _ _ h))⟩, ?_⟩)
  exact I1.frame st1₃ l₄ (all1 ⟨he1, he2⟩)
theorem It.enum (I1 : ItN K (.ref it) T1 R1 St1) (he1 : e ∉ T1) (he2 : e ∉ R1) :
  It K (.ref e) (e :: T1) R1 (fun ds g => ∃ i ds1, ds = enumD i ds1 ∧ EnSt e it St1 i ds1 g) where
 item := fun {d ds g A} hh st₀ s E ok => by
  refine E2_2 st₀ fun i ds1 eq st => ?_
  refine E3_2 st.e fun f0 f1 old he hown => ?_
  have hT : s.TypeIs (.ref e) "enumerate" := ⟨_, ok.mu _ _ he, rfl⟩
  cases ds1 with
  | nil => cases eq
  | cons d1 ds1 =>
   have e' : d :: ds = D.tup [.int i, d1] :: enumD (i + 1) ds1 := eq
   cases e'
   refine wpAny_bind (wpAny_attempt (wpAny_callSpecial?_slot (name := Str.ofString "__next__") hT PySem.F.slot_enumerate_next (wpAny_call_entry PySem.F.slot_enumerate_next hT PySem.F.entry_enumerate_next (wM1_2 (enum_next I1 he1 he2 (A := A.in1) hh st s _ ok) (fun fin s' g' ok' z₀ => E1_4 z₀ fun v e1 l hv st' => ?_)) (PySem.F.args_enumerate_next_1 _))))
   refine ⟨v, e1, wpAny_pure ⟨g', ok', l, v, rfl, hv, fun target A => ?_⟩⟩
   refine E3_2 st'.e fun f0' f1' old' hz' hown' => ?_
   refine gwp_owned hz' ⟨LeX.refl _ _, _, _, rfl, st'⟩ ⟨LeX.setMu.sub (all1 (.head _)), i + 1, ds1, rfl, ?_⟩
   have l₁ : LeX [e] g' (g'.setMu e (eo .none f1' it (i + 1) old')) := LeX.setMu
   exact ⟨⟨_, _, _, Gh.setMu_self, .inl rfl⟩, I1.frame st'.st l₁ (all1 ⟨he1, he2⟩)⟩
 done := fun {g A} hh st₀ s E ok => by
  refine E2_2 st₀ fun i ds1 eq st => ?_
  refine E3_2 st.e fun f0 f1 old he hown => ?_
  have hT : s.TypeIs (.ref e) "enumerate" := ⟨_, ok.mu _ _ he, rfl⟩
  have h1 : ds1 = [] := by
   cases ds1 with
   | nil => rfl
   | cons d1 ds1 => cases eq
  subst h1
  refine wpAny_bind (wpAny_attempt (wpAny_callSpecial?_slot (name := Str.ofString "__next__") hT PySem.F.slot_enumerate_next (wpAny_call_entry PySem.F.slot_enumerate_next hT PySem.F.entry_enumerate_next ?_ (PySem.F.args_enumerate_next_1 _))))
  show wpAny _ _ (field (.ref e) 2 >>= _) _ _ s
  refine wpAny_bind (wpAny_field (ok.mu _ _ he) rfl (x := .ref it) (by exact rfl) ?_)
  refine wpAny_bind (I1.done hh st.st ok fun e' s₃ g₃ ok₃ l₃ ht => ?_)
  exact wpAny_bind (wpAny_isInstance ht isSubtype_stop (wpAny_pure ⟨g₃, ok₃, l₃.sub (fun a h => .tail _ h), rfl⟩))
 self := fun {ds g A Q} st₀ q s E ok => by
  refine E2_2 st₀ fun i ds1 eq st => ?_
  refine E3_2 st.e fun f0 f1 old he hown => ?_
  have hT : s.TypeIs (.ref e) "enumerate" := ⟨_, ok.mu _ _ he, rfl⟩
  refine wpAny_pyIter_slot hT PySem.F.slot_enumerate_iter (wpAny_call_entry PySem.F.slot_enumerate_iter hT PySem.F.entry_enumerate_iter ?_ (PySem.F.args_enumerate_iter_1 _))
  show wpAny _ _ (ret (.ref e)) _ _ s
  exact wpAny_pure ⟨_, rfl, "enumerate", _, hT, PySem.F.slot_enumerate_next.lookup, g, ok, q⟩
 frame := fun {ds g g' W} st₀ l hw => by
  refine E2_2 st₀ fun i ds1 eq st => ?_
  refine E3_2 st.e fun f0 f1 old he hown => ?_
  exact ⟨i, ds1, eq, ⟨f0, f1, old, l.mu _ _ (fun h => (hw _ h).1 (by exact .head _)) he, hown.mono l.im⟩, I1.frame st.st l fun a ha => ⟨fun h => (hw a ha).1 (.tail _ h), (hw a ha).2⟩⟩
 mem := fun {ds g} st₀ => E2_2 st₀ fun i ds1 eq st => E3_2 st.e fun f0 f1 old he hown => allc ⟨_, he⟩ (I1.mem st.st)
 cell := fun {ds g} st₀ => E2_2 st₀ fun i ds1 eq st => E3_2 st.e fun f0 f1 old he hown => allc (fun o w e z => by rw [← Z39 he e] at z; cases z) (I1.cell st.st)
end
theorem Gh.Ok.above {s : Shared} (ok : g.Ok B s) {a : Addr} (h : s.heap.objs.size ≤ a) : g.im a = none ∧ g.mu a = none := ok.freshAt h
theorem gwp_enumerate {v : Value} {ds : List D} (hv : Rep g.im (.lst ds) v) : gwp K A (call (.type "enumerate") [v]) (fun it g' => NewIt K [] (enumD 0 ds) g it g') g := fun s E ok => by
 refine E3_3 (Z16.mp hv) ?_
 rintro a its m rfl e rs
 refine call_enumerate_list ⟨_, ok.im _ _ e, rfl, m, rfl⟩ fun h' he hi hsz hk => ?_
 refine E1_3 hi fun oi ho hc hd => ?_
 have ok₁ := ok.keeps (tk := s.toks) hk
 have f1 := ok.above (Nat.le_refl s.heap.objs.size)
 have f2 := ok.above (Nat.le_succ s.heap.objs.size)
 have ok₂ := ok₁.knowMu f1.1 ok.size ho
 have hm1 : (g.setMu s.heap.objs.size oi).mu (s.heap.objs.size + 1) = none := (Gh.setMu_other (Nat.succ_ne_self _)).trans f2.2
 have ok₃ := ok₂.knowMu (a := s.heap.objs.size + 1) (show (g.setMu s.heap.objs.size oi).im (s.heap.objs.size + 1) = none from f2.1) (Nat.le_succ_of_le ok.size) he
 have l : Le g ((g.setMu s.heap.objs.size oi).setMu (s.heap.objs.size + 1) (eo .none (.bool false) s.heap.objs.size 0 .none)) := (Le.addMu f1.2).trans (Le.addMu hm1)
 refine ⟨_, ok₃, l, [s.heap.objs.size + 1, s.heap.objs.size], _, It.enum (ItN.list (it := s.heap.objs.size)) (by simp) (by exact List.not_mem_nil), ⟨0, ds, rfl, ⟨_, _, _, Gh.setMu_self, .inl rfl⟩, oi, a, 0, its, m, (Gh.setMu_other (Nat.ne_of_lt (Nat.lt_succ_self _))).trans Gh.setMu_self, ⟨hc, hd⟩, .inl e, by rw [List.drop_zero]; exact rs⟩, fun c hc' => ?_⟩
 simp at hc'
 rcases hc' with rfl | rfl
 ·exact ⟨f2.2, by exact List.not_mem_nil⟩
 ·exact ⟨f1.2, by exact List.not_mem_nil⟩
theorem gwp_zip2 {v w : Value} {ds1 ds2 : List D} (hv : Rep g.im (.lst ds1) v) (hw : Rep g.im (.lst ds2) w) (hlen : ds1.length = ds2.length) : gwp K A (call (.type "zip") [v, w]) (fun it g' => NewIt K [] (zipD ds1 ds2) g it g' ∧ ∃ z o, it = .ref z ∧ g'.mu z = some o ∧ o.cls = .type "zip") g := fun s E ok => by
 refine E3_3 (Z16.mp hv) ?_
 rintro a its m rfl e rs
 refine E3_3 (Z16.mp hw) ?_
 rintro b its2 m2 rfl e2 rs2
 refine call_zip_2 ⟨_, ok.im _ _ e, rfl, m, rfl⟩ ⟨_, ok.im _ _ e2, rfl, m2, rfl⟩ fun h' hz hTI hTO hi1 hi2 hsz hk => ?_
 refine E1_3 hi1 fun o1 ho1 hc1 hd1 => ?_
 refine E1_3 hi2 fun o2 ho2 hc2 hd2 => ?_
 generalize hN : s.heap.objs.size = N at *
 have fr : ∀ k, g.im (N + k) = none ∧ g.mu (N + k) = none := fun k => ok.above (by rw [hN]; lia)
 have hB : ∀ k, K.B.h₀.objs.size ≤ N + k := fun k => Nat.le_trans ok.size (by rw [hN]; lia)
 have ok₁ := ok.keeps (tk := s.toks) hk
 have ok₂ := ok₁.knowIm (a := N + 2) (fr 2).2 (fr 2).1 (hB 2) hTI
 have ok₃ := ok₂.knowMu (a := N) (show (if N = N + 2 then _ else g.im N) = none by rw [if_neg (by lia)]; exact (fr 0).1) (hB 0) ho1
 have ok₄ := ok₃.knowMu (a := N + 1) (show (if N + 1 = N + 2 then _ else g.im (N + 1)) = none by rw [if_neg (by lia)]; exact (fr 1).1) (hB 1) ho2
 have ok₅ := ok₄.knowMu (a := N + 3) (show (if N + 3 = N + 2 then _ else g.im (N + 3)) = none by rw [if_neg (by lia)]; exact (fr 3).1) (hB 3) hTO
 have ok₆ := ok₅.knowMu (a := N + 4) (show (if N + 4 = N + 2 then _ else g.im (N + 4)) = none by rw [if_neg (by lia)]; exact (fr 4).1) (hB 4) hz
 generalize hg : ((((g.addIm (N + 2) (sq "tuple" #[.ref N, .ref (N + 1)] 0)).setMu N o1).setMu (N + 1) o2).setMu (N + 3) (sq "tuple" #[.none, .none] 0)).setMu (N + 4) (zo .none (.bool false) (N + 2) (N + 3)) = g₆
 have q1 : g₆.mu N = some o1 := by rw [← hg]; simp [Gh.setMu, Gh.addIm]
 have q2 : g₆.mu (N + 1) = some o2 := by rw [← hg]; simp [Gh.setMu, Gh.addIm]
 have q3 : g₆.mu (N + 3) = some (sq "tuple" #[.none, .none] 0) := by rw [← hg]; simp [Gh.setMu, Gh.addIm]
 have q4 : g₆.mu (N + 4) = some (zo .none (.bool false) (N + 2) (N + 3)) := by rw [← hg]; exact Gh.setMu_self
 have q5 : g₆.im (N + 2) = some (sq "tuple" #[.ref N, .ref (N + 1)] 0) := by rw [← hg]; exact Gh.addIm_self
 have l : Le g g₆ := by
  rw [← hg]
  refine (Le.addIm (fr 2).1).trans ((Le.addMu ?_).trans ((Le.addMu ?_).trans ((Le.addMu ?_).trans (Le.addMu ?_))))
  ·exact (fr 0).2
  ·simp [Gh.setMu, Gh.addIm]; exact (fr 1).2
  ·simp [Gh.setMu, Gh.addIm]; exact (fr 3).2
  ·simp [Gh.setMu, Gh.addIm]; exact (fr 4).2
 refine ⟨g₆, ?_, ⟨l, _, _, It.zip (z := N + 4) (TI := N + 2) (TO := N + 3) (ItN.list (it := N)) (ItN.list (it := N + 1)) (by simp) (by exact all0), ⟨ds1, ds2, rfl, ⟨_, _, q4, .inl rfl⟩, ⟨_, _, _, q3⟩, ⟨_, q5⟩, hlen, ⟨o1, a, 0, its, m, q1, ⟨hc1, hd1⟩, .inl (l.im _ _ e), by rw [List.drop_zero]; exact rs.le l⟩, ⟨o2, b, 0, its2, m2, q2, ⟨hc2, hd2⟩, .inl (l.im _ _ e2), by rw [List.drop_zero]; exact rs2.le l⟩⟩, fun c hc' => ?_⟩, N + 4, _, rfl, q4, rfl⟩
 ·rw [← hg]; exact ok₆
 ·simp at hc'
  rcases hc' with rfl | rfl | rfl | rfl
  ·exact ⟨(fr 4).2, by exact List.not_mem_nil⟩
  ·exact ⟨(fr 3).2, by exact List.not_mem_nil⟩
  ·exact ⟨(fr 0).2, by exact List.not_mem_nil⟩
  ·exact ⟨(fr 1).2, by exact List.not_mem_nil⟩
noncomputable abbrev rgO (x l : Nat) : Obj := { cls := .type "range_iterator", dict := none, data := .fields #[rawInt x, rawInt l, rawInt 1], slots := #[] }
noncomputable def rgD (x l : Nat) : List D := (List.range' x l).map fun (i : Nat) => D.int i
noncomputable def MO.rgi (ds : List D) : MO := ⟨fun _ o => ∃ x l : Nat, ds = rgD x l ∧ o = rgO x l, fun _ _ _ _ h => h⟩
theorem It.range {it : Addr} : It K (.ref it) [it] [] (fun ds g => ∃ o, g.mu it = some o ∧ (MO.rgi ds).P g.im o) where
 item := fun {d ds g A} hh st s E ok => by
  obtain ⟨o, h1, x, l, e, rfl⟩ := st
  cases l with
  | zero => cases e
  | succ l =>
   have e' : d :: ds = D.int x :: rgD (x + 1) l := e
   cases e'
   refine wpAny_pyNext_range_item (ok.mu _ _ h1) (by lia) fun h' hit' hs => ?_
   have hit2 : h'.get? it = some (rgO (x + 1) l) := by
    have := hit'
    rw [show ((l + 1 : Nat) : Int) - 1 = (l : Nat) by lia] at this
    exact this
   have ok' := ok.sameBut (tk := s.toks + 1) h1 hs hit2
   refine ⟨_, ok', LeX.setMu, _, rfl, Z25, fun target A => ?_⟩
   exact Z35 (a := it) (.inr Gh.setMu_self) rfl rfl (by decide) ⟨LeX.refl _ _, _, Gh.setMu_self, x + 1, l, rfl, rfl⟩
 done := fun {g A} hh st s E ok => by
  obtain ⟨o, h1, x, l, e, rfl⟩ := st
  cases l with
  | succ l => cases e
  | zero => exact wpAny_pyNext_range_end hh (ok.mu _ _ h1) (by decide) fun h' he => ⟨_, ok.lost (tk := s.toks) h1 he, LeX.drop, rfl⟩
 self := fun {ds g A Q} st q s E ok => by
  obtain ⟨o, h1, x, l, e, rfl⟩ := st
  have hT : s.TypeIs (.ref it) "range_iterator" := ⟨_, ok.mu _ _ h1, rfl⟩
  refine wpAny_pyIter_slot hT PySem.F.slot_range_iterator_iter (wpAny_call_entry PySem.F.slot_range_iterator_iter hT PySem.F.entry_range_iterator_iter ?_ (PySem.F.args_range_iterator_iter_1 _))
  show wpAny _ _ (ret (.ref it)) _ _ s
  exact wpAny_pure ⟨_, rfl, "range_iterator", _, hT, PySem.F.slot_range_iterator_next.lookup, ⟨g, ok, q⟩⟩
 frame := fun {ds g g' W} st l hw => by
  refine E1_2 st fun o h1 h2 => ?_
  exact ⟨o, l.mu _ _ (fun h => (hw _ h).1 (by exact .head _)) h1, h2⟩
 mem := fun {ds g} st => all1 (E1_2 st fun o h1 _ => ⟨o, h1⟩)
 cell := fun {ds g} st => all1 (fun o' w e => E1_2 st fun o h1 z => E2_2 z fun x l _ e' z => by rw [← Z39 h1 e, e'] at z; cases z)
theorem ItM.range {a : Addr} : ItM K (.ref a) [a] (fun ds => [(a, MO.rgi ds)]) := ItM.one It.range (fun ds g => Iff.rfl) (by rintro ds im o w ⟨x, l, _, rfl⟩; intro z; cases z)
theorem small_range {k : Int} (h1 : -1000000000 ≤ k) (h2 : k ≤ 1000000000) : Builtin.Range.small 0 k 1 = true := by
 delta Builtin.Range.small
 rw [rangeSize_one]
 delta Builtin.Range.rangeFitsLong
 split <;> simp <;> lia
theorem Z47 {func arg : Expr} {pos : Pos} {k : Int} (hf : Pe K n g (eval func env) (.raw (.type "range"))) (ha : Pe K n g (eval arg env) (.int k)) (h1 : -1000000000 ≤ k) (h2 : k ≤ 1000000000)
  (hst : starEach [arg] env = [(false, eval arg env)] := by rfl)
  (hp : (backTo pos (starEach [arg] env)).any (·.1) = false := by rfl)
  (he : eval (.Call func [arg] [] pos) env = (do callWith pos (← eval func env) [] (backTo pos (starEach [arg] env)) (backToKw pos (keywordEach [] env))) := by rfl) : PItM K n g (.Call func [arg] [] pos) env (rgD 0 k.toNat) := fun A r g₁ l =>
 Z170 r (hf.le l) (by intro a z; cases z) (fun g' l' => Pv.use ((Z2 (ha.le l) Z5 hst).le l') r fun vs g₂ l₂ rs => by
  refine E1_2 (reps1 rs) ?_
  rintro v rfl h3
  refine E1_1 (Z24 h3) ?_
  rintro t rfl
  intro s E ok
  refine call_range_1 ?_
  have ok₁ := (ok.pushIm (o := { cls := .type "range", data := .fields #[.int 0 s.toks, .int k t, .int 1 (s.toks + 1)] }) rfl).tok (s.toks + 1 + 1)
  have l₁ : Le g₂ (g₂.addIm s.heap.objs.size { cls := .type "range", data := .fields #[.int 0 s.toks, .int k t, .int 1 (s.toks + 1)] }) := Le.addIm ok.fresh.1
  refine ⟨_, ok₁, ?_⟩
  clear rs h3
  intro s₂ E₂ ok₂
  refine wpAny_pyIter_range (ok₂.im _ _ Gh.addIm_self) (small_range h1 h2) ?_
  rw [rangeSize_one]
  have hsz : (if (0 : Int) < k then k - 0 else 0) = (k.toNat : Int) := by split <;> lia
  rw [hsz]
  have hi := NewM.mk1 (K := K) ok₂ (o := rgO 0 k.toNat) (ds := rgD 0 k.toNat) (ItM.range) ⟨0, k.toNat, rfl, rfl⟩
  obtain ⟨x1, T, ms, x2, x3, x4⟩ := hi
  exact ⟨_, ok₂.pushMu (o := rgO 0 k.toNat) rfl, ((l'.trans l₂).trans l₁).trans x1, T, ms, x2, x3, fun a ha => Le.nomu ((l'.trans l₂).trans l₁) (x4 a ha)⟩) hp he
theorem Z80 (x l : Nat) : (rgD x l).length = l := by simp [rgD]
theorem signs_reps {im : Im} {x : List Nat} {acc : Array Value} (h : ItemsOf (SignAt (S x)) acc (S x).cps.size) : Reps im (x.map fun c => D.str [c]) acc.toList := by
 refine E0_2 h fun h1 h2 => ?_
 have h1' : acc.size = x.length := h1.trans (S_len x)
 have key : ∀ (x : List Nat) (l : List Value), l.length = x.length → (∀ (j : Nat) v, l[j]? = some v → ∃ c u, x[j]? = some c ∧ v = .str ⟨#[c]⟩ u) → Reps im (x.map fun c => D.str [c]) l := by
  intro x
  induction x with
  | nil => intro l hl _; cases l with
   | nil => exact Reps.nil
   | cons _ _ => simp at hl
  | cons c x ih =>
   intro l hl hh
   cases l with
   | nil => simp at hl
   | cons v l =>
    refine E2_2 (hh 0 v rfl) fun c' u e1 e2 => ?_
    simp at e1; subst e1; subst e2
    exact Reps.cons Z79 (ih l (by exact Nat.succ.inj hl) fun j v hv => by
     refine E2_2 (hh (j + 1) v (by exact hv)) fun c' u e1 e2 => ?_
     exact ⟨c', u, by exact e1, e2⟩)
 refine key x acc.toList (by exact h1') fun j v hv => ?_
 refine E2_2 (h2 j v (by simpa using hv)) fun c u e1 e2 => ?_
 exact ⟨c, u, by simpa [S] using e1, e2⟩
theorem gwp_listStr {x : List Nat} {v : Value} {Q : Value → Gh → Prop} (hh : A.handled = none) (hv : Rep g.im (.str x) v) (hsz : x.length ≤ sizeLine) (q : ∀ a its m, g.im a = none → g.mu a = none → Reps g.im (x.map fun c => D.str [c]) its.toList → Q (.ref a) (g.setMu a (sq "list" its m))) : gwp K A (call (.type "list") [v]) Q g := fun s E ok => by
 refine E1_1 (Z29 hv) ?_
 rintro t rfl
 refine call_list_str hh (S x) t (fun h' tk acc c hk hS hacc => ?_) (by rw [show (S x).cps.size = x.length from S_len x]; exact hsz)
 exact ⟨_, ok.extMu hk hS, q _ acc c ok.fresh.1 ok.fresh.2 (signs_reps hacc)⟩
theorem gwp_listMu {a : Addr} {its : Array Value} {m : Nat} {ds : List D} {Q : Value → Gh → Prop} (ha : g.mu a = some (sq "list" its m)) (hr : Reps g.im ds its.toList) (hsz : its.size ≤ sizeLine) (q : ∀ v g', Le g g' → Rep g'.im (.lst ds) v → Q v g') : gwp K A (call (.type "list") [.ref a]) Q g := fun s E ok =>
 call_list_seq a (.inl rfl) (ok.mu _ _ ha) rfl rfl (fun h' c hk hS => ⟨_, ok.extIm (o := sq "list" its c) (tk := s.toks) hk hS, q _ _ (Le.addIm ok.fresh.1) (Z16.mpr ⟨_, its, c, rfl, Gh.addIm_self, hr.mono (Le.addIm ok.fresh.1).im⟩)⟩) hsz
theorem Z252 (m : Nat) : sliceRange ((m : Int) - 1) (-1) (-1) = (List.range m).map fun k => m - 1 - k := by
 delta sliceRange
 simp only [show ¬ ((-1 : Int) > 0) from by decide, if_false]
 have : (if (m : Int) - 1 > -1 then ((m : Int) - 1 - -1 - -1 - 1) / -(-1) else 0).toNat = m := by
  split
  ·rw [show -(-1 : Int) = 1 from rfl, Int.ediv_one]; lia
  ·lia
 rw [this]
 exact List.map_congr_left fun k hk => by lia
theorem rev_pick {γ : Type} (l : List γ) : ((List.range l.length).map fun k => l.length - 1 - k).filterMap (l[·]?) = l.reverse := by
 rw [List.filterMap_map]
 have : ∀ (m : Nat), m ≤ l.length → (List.range m).filterMap ((l[·]?) ∘ fun k => l.length - 1 - k) = l.reverse.take m := by
  intro m
  induction m with
  | zero => intro _; simp
  | succ m ih =>
   intro hm
   rw [List.range_succ, List.filterMap_append, ih (by exact Nat.le_of_lt ‹_›), List.take_add_one]
   congr 1
   have h1 : l.length - 1 - m < l.length := by lia
   dsimp only [List.filterMap_cons, List.filterMap_nil, Function.comp]
   rw [List.getElem?_reverse (by assumption)]
   rw [List.getElem?_eq_getElem h1]
   rfl
 rw [this _ (Nat.le_refl _)]
 rw [← List.length_reverse, List.take_length]
theorem pe_sliceRevS {value step : Expr} {p pos : Pos} {x : List Nat} (hv : Pe K n g (eval value env) (.str x)) (h3 : Pe K n g (eval step env) (.int (-1))) (hsz : x.length ≤ sizeLine) : Pe K n g (eval (.Subscript value (.Slice none none (some step) p) pos) env) (.str x.reverse) := fun A r g₁ l =>
 Z75 (T := "str") (id := "str.__getitem__") PySem.F.slot_str_getitem.lookup ((hv.le l).use r fun v g₂ l₂ hx => (Z121 Z37 Z37 (Z112 (h3.le (l.trans l₂)))).use r fun sl g₃ l₃ hsl => by
  refine E1_1 (Z29 hx) ?_
  clear h3 hv; rintro t rfl
  refine ⟨fun s _ => typeIs_str _ _ _, fun s E ok => ?_⟩
  refine E4_5 hsl ?_
  clear hx hsl; rintro a vl vu vs rfl ea p1 p2 p3
  cases p1; cases p2
  cases p3 with
  | int i u =>
   refine wpAny_getItem_str_slice (l := none) (u := none) (st := some (-1, u)) ⟨_, ok.im _ _ ea, rfl, rfl⟩ (by rfl) ?_
   have e : ((slicePicked (S x) none none (some ((-1 : Int), u))).filterMap ((S x).cps[·]?)).toArray = (x.reverse).toArray := by
    delta slicePicked Builtin.Str.strSliceIndices
    have hl : (S x).length = x.length := S_len x
    simp only [Option.map_none, Option.map_some, Option.getD_some, hl]
    have h0 : ¬ ((-1 : Int) > 0) := by decide
    simp only [h0, if_false]
    rw [Z252]
    have hc : (fun (i : Nat) => (S x).cps[i]?) = fun (i : Nat) => x[i]? := by funext i; simp [S]
    rw [hc, rev_pick]
   delta sliceMade
   rw [if_neg (by simp), e]
   refine ⟨?_, ?_⟩
   ·show x.reverse.toArray.size ≤ sizeLine
    simp; exact hsz
   ·exact ⟨g₃, ok.tok _, l₂.trans l₃, Z79⟩)
theorem Z201 {it S : Addr} {T R : List Addr} {St : List D → Gh → Prop} {res : Value} {Rr : Result → Shared → Prop} (I : It K (.ref it) T R St) (hST : S ∉ T) (hSR : S ∉ R) (hh : A.handled = none) :
  ∀ (ds out : List D) (its : Array Value) (m : Nat) (g g₀ : Gh) (s : Shared), St ds g → g.mu S = some (sq "list" its m) → Reps g.im out its.toList → out.length + ds.length ≤ 100000 → LeX (S :: T) g₀ g → g.Ok K.B s →
   (∀ s' g' its' m', g'.Ok K.B s' → LeX (S :: T) g₀ g' → g'.mu S = some (sq "list" its' m') → Reps g'.im (out ++ ds) its'.toList → Rr (.ok (.ret res)) s') →
   codeAny (model K.prog K.w) A (.builtin "list.extend.loop" ⟨[.ref S, .ref it, res], []⟩) Rr s := by
 intro ds
 induction ds with
 | nil =>
  intro out its m g g₀ s st hS hr hsz l ok hR
  refine codeAny_builtin PySem.F.entry_extend_loop ?_
  rw [Around.under_plainId PySem.F.plain_extend_loop _]
  show wpAny _ A.in1 (pyNext (.ref it) >>= _) _ _ s
  refine wpAny_bind (wpAny_mono (I.done (A := A.in1) hh st s (fun _ _ => False) ok) (fun r s₁ z₀ => E1_3 z₀ fun g₁ ok₁ l₁ e => ?_) fun _ _ z => z.elim)
  subst e
  have l₁' : LeX (S :: T) g g₁ := l₁.sub (fun a h => by exact .tail _ h)
  exact wpAny_pure (hR s₁ g₁ its m ok₁ (l.trans l₁') (l₁.mu _ _ hST hS) (by rw [List.append_nil]; exact hr.mono l₁.im))
 | cons d ds ih =>
  intro out its m g g₀ s st hS hr hsz l ok hR
  have hlen : its.size = out.length := by rw [← Array.length_toList, hr.length]
  refine codeAny_builtin PySem.F.entry_extend_loop ?_
  rw [Around.under_plainId PySem.F.plain_extend_loop _]
  show wpAny _ A.in1 (pyNext (.ref it) >>= _) _ _ s
  refine wpAny_bind (wpAny_mono (I.item (A := A.in1) hh st s (fun _ _ => False) ok) (fun r s₁ z₀ => E1_3 z₀ fun g₁ ok₁ l₁ v00 => E1_3 v00 fun v e hv hgo => ?_) fun _ _ z => z.elim)
  subst e
  have hX : ∀ (X : Sem Fin), wpAny (model K.prog K.w) A.in1 (letOwnedTupleGo (.Constant .none 0 ⟨0, 0, 0, 0⟩) (.ref it) v >>= fun _ => X) (fun fin s' => match fin with | .done f => Rr (.ok f) s' | .again c' => c'.quiet = true ∧ codeAny (model K.prog K.w) A c' Rr s') (fun e s' => Rr (.error e) s') s₁ → wpAny (model K.prog K.w) A.in1 X (fun fin s' => match fin with | .done f => Rr (.ok f) s' | .again c' => c'.quiet = true ∧ codeAny (model K.prog K.w) A c' Rr s') (fun e s' => Rr (.error e) s') s₁ := fun X h => h
  show wpAny _ A.in1 (Builtin.List.listUpdate (.ref S) (·.push v) >>= fun _ => again (.builtin "list.extend.loop" ⟨[.ref S, .ref it, res], []⟩)) _ _ s₁
  refine hX _ (wpAny_bind (wpAny_mono (hgo (.Constant .none 0 ⟨0, 0, 0, 0⟩) A.in1 s₁ (fun _ _ => False) ok₁) (fun _ s₂ z₀ => E1_3 z₀ fun g₂ ok₂ l₂ st₂ => ?_) fun _ _ z => z.elim))
  have hS₂ : g₂.mu S = some (sq "list" its m) := l₂.mu _ _ hST (l₁.mu _ _ hST hS)
  refine wpAny_bind (wpAny_updateSeq (ok₂.mu _ _ hS₂) rfl ?_ (by rw [hlen]; exact Nat.le_trans (Nat.le_trans (Nat.le_add_right _ _) hsz) (by decide)) (by rw [Array.size_push, hlen]; exact Nat.succ_le_succ (Nat.le_trans (Nat.le_trans (Nat.le_add_right _ _) hsz) (by decide))))
  have ok₃ := ok₂.upd hS₂ (f := Obj.mapSeq (·.push v)) rfl
  have l₃ : LeX [S] g₂ (g₂.setMu S (Obj.mapSeq (·.push v) (sq "list" its m))) := LeX.setMu
  refine wpAny_pure ⟨plainId_quiet PySem.F.plain_extend_loop _, ih (out ++ [d]) (its.push v) _ _ g₀ _ (I.frame st₂ l₃ fun a ha => by clear l₃ ok₃ hX hgo hR hsz ih; simp at ha; subst ha; exact ⟨hST, hSR⟩) Gh.setMu_self ?_ ?_ ?_ ok₃ fun s' g' its' m' ok' l' hS' hr' => hR s' g' its' m' ok' l' hS' (by simpa using hr')⟩
  ·rw [Array.toList_push]
   exact Reps.append ((hr.mono l₁.im).mono l₂.im) (Reps.cons (hv.mono l₂.im) Reps.nil)
  ·simp at hsz ⊢; lia
  ·exact l.trans ((l₁.sub (fun a h => by exact .tail _ h)).trans ((l₂.sub (fun a h => by exact .tail _ h)).trans (l₃.sub (by exact all1 (.head _)))))
namespace FL
theorem zip_no_len : typeLookup (.type "zip") "__len__" = pure none := by rw [typeLookup_type, builtinLookup_eq_fast]; kernel_rfl
theorem zip_no_hint : typeLookup (.type "zip") "__length_hint__" = pure none := by rw [typeLookup_type, builtinLookup_eq_fast]; kernel_rfl
end FL
theorem gwp_listZip {z : Addr} {T R : List Addr} {St : List D → Gh → Prop} {ds : List D} {oz : Obj} {Q : Value → Gh → Prop} (I : It K (.ref z) T R St) (st : St ds g) (hz : g.mu z = some oz) (hzc : oz.cls = .type "zip") (hh : A.handled = none) (hsz : ds.length ≤ 10000) (hRm : ∀ a ∈ R, ∃ o, g.mu a = some o)
  (q : ∀ S its m g', LeX (S :: T) g g' → g.im S = none → g.mu S = none → g'.mu S = some (sq "list" its m) → Reps g'.im ds its.toList → Q (.ref S) g') : gwp K A (call (.type "list") [.ref z]) Q g := fun s E ok => by
 refine callType_codes (Q₁ := fun obj s₁ => obj = .ref s.heap.objs.size ∧ s₁ = { s with heap := s.heap.push { cls := .type "list", data := .seq #[] } }) PySem.F.called_list (PySem.F.typeCall_list_1 _) PySem.F.entry_list_init
  (code_list_new _ ⟨rfl, rfl⟩) fun obj s₁ h₁ => ?_
 obtain ⟨rfl, rfl⟩ := h₁
 have ok₁ := ok.pushMu (o := sq "list" #[] 0) rfl
 have fr := ok.fresh
 generalize hN : s.heap.objs.size = N at *
 have l₁ : Le g (g.setMu N (sq "list" #[] 0)) := Le.addMu fr.2
 have hNT : N ∉ T := fun h => by
  obtain ⟨o, e⟩ := I.mem st N h
  cases ((fr.2).symm.trans e)
 have hNR : N ∉ R := fun h => by
  obtain ⟨o, e⟩ := hRm N h
  cases ((fr.2).symm.trans e)
 have st₁ : St ds (g.setMu N (sq "list" #[] 0)) := I.frame st l₁ (by exact all0)
 have hS₁ : (g.setMu N (sq "list" #[] 0)).mu N = some (sq "list" #[] 0) := Gh.setMu_self
 have hz₁ : (g.setMu N (sq "list" #[] 0)).mu z = some oz := l₁.at hz
 have hNz : N ≠ z := fun e => by clear hz₁ hS₁ st₁ l₁ ok₁ q hRm; rw [e] at fr; cases ((fr.2).symm.trans hz)
 refine ⟨⟨_, ok₁.mu _ _ hS₁, rfl⟩, PySem.F.args_list_init_2 _ _, ?_⟩
 clear hN
 replace ok₁ : (g.setMu N (sq "list" #[] 0)).Ok K.B { s with heap := s.heap.push { cls := .type "list", data := .seq #[] } } := ok₁
 generalize ({ s with heap := s.heap.push { cls := .type "list", data := .seq #[] } } : Shared) = s₁ at *
 show wpAny _ _ (do let old ← Builtin.List.listItems (.ref N); Builtin.List.listUpdate (.ref N) (fun _ => #[]); letGo old.toList.reverse; Builtin.List.listExtendWith (.ref N) (.ref z) .none) _ _ s₁
 refine wpAny_bind ?_
 refine wpAny_bind (wpAny_seqItems (ok₁.mu _ _ hS₁) rfl (wpAny_pure ?_))
 show wpAny _ _ (updateSeq N (fun _ => #[]) >>= fun _ => letGo (#[] : Array Value).toList.reverse >>= fun _ => Builtin.List.listExtendWith (.ref N) (.ref z) .none) _ _ s₁
 refine wpAny_bind (wpAny_updateSeq (ok₁.mu _ _ hS₁) rfl ?_ (by decide) (by decide))
 have ok₂ := ok₁.upd hS₁ (f := Obj.mapSeq fun _ => #[]) rfl
 have e2 : (g.setMu N (sq "list" #[] 0)).setMu N (Obj.mapSeq (fun _ => #[]) (sq "list" #[] 0)) = g.setMu N (sq "list" #[] 0) := Z40
 rw [e2] at ok₂
 generalize ({ s₁ with heap := s₁.heap.update N (Obj.mapSeq fun _ => #[]) } : Shared) = s₂ at *
 refine wpAny_bind (wpAny_letGo ?_)
 have hT : s₂.TypeIs (.ref z) "zip" := ⟨_, ok₂.mu _ _ hz₁, hzc⟩
 refine wpAny_bind (wpAny_typeOf hT ?_)
 have h1 : Builtin.List.listSameRef (.ref N) (.ref z) = false := by simp [Builtin.List.listSameRef, hNz]
 have h2 : (Value.type "zip" == Value.type "list") = false := by decide
 have h3 : (Value.type "zip" == Value.type "tuple") = false := by decide
 simp only [h1, h2, h3, Bool.or_false, Bool.false_eq_true, if_false]
 refine wpAny_bind (wpAny_mono (I.self (A := A.in1.in1) (Q := fun v g' => v = .ref z ∧ g' = g.setMu N (sq "list" #[] 0)) st₁ ⟨rfl, rfl⟩ s₂ (fun _ _ => False) ok₂) (fun v s₃ z₀ => E1_3 z₀ fun g₃ ok₃ e3 e4 => ?_) fun _ _ z => z.elim)
 subst e3; subst e4
 refine wpAny_bind (wpAny_holding ?_)
 have hT₃ : s₃.TypeIs (.ref z) "zip" := ⟨_, ok₃.mu _ _ hz₁, hzc⟩
 refine wpAny_bind (wpAny_specialOf hT₃ FL.zip_no_len ?_)
 show wpAny _ _ (specialOf (Value.ref z) (Str.ofString "__length_hint__") >>= _) _ _ _
 refine wpAny_bind (wpAny_specialOf hT₃ FL.zip_no_hint ?_)
 refine wpAny_pure ?_
 show wpAny _ _ (rule "list.extend.makes-room" >>= fun _ => Builtin.List.listTouch (.ref N) >>= fun _ => again (.builtin "list.extend.loop" ⟨[.ref N, .ref z, .none], []⟩)) _ _ _
 refine wpAny_bind (wpAny_rule ?_)
 refine wpAny_bind ?_
 show wpAny _ _ (updateSeq N (·.push .none) >>= fun _ => updateSeq N (·.pop)) _ _ _
 refine wpAny_bind (wpAny_updateSeq (ok₃.mu _ _ hS₁) rfl ?_ (by decide) (by decide))
 have ok₄ := ok₃.upd hS₁ (f := Obj.mapSeq (·.push Value.none)) rfl
 rw [Z40] at ok₄
 refine wpAny_updateSeq (ok₄.mu _ _ Gh.setMu_self) rfl ?_ (by decide) (by decide)
 have ok₅ := ok₄.upd Gh.setMu_self (f := Obj.mapSeq (·.pop)) rfl
 rw [Z40] at ok₅
 generalize hg₅ : g.setMu N (Obj.mapSeq (·.pop) (Obj.mapSeq (·.push Value.none) (sq "list" #[] 0))) = g₅ at *
 have l₅ : Le g g₅ := hg₅ ▸ Le.addMu fr.2
 have hS₅ : g₅.mu N = some (sq "list" #[] 2) := by rw [← hg₅]; exact Gh.setMu_self
 refine wpAny_pure ⟨plainId_quiet PySem.F.plain_extend_loop _, Z201 (A := A.in1) I hNT hNR hh ds [] #[] 2 g₅ g₅ _ (I.frame st l₅ (by exact all0)) hS₅ Reps.nil (by simp; lia) (LeX.refl _ _) ok₅ fun s' g' its' m' ok' l' hS' hr' => ⟨rfl, g', ok', ?_⟩⟩
 exact q N its' m' g' ((LeX.of l₅).trans l') fr.1 fr.2 hS' (by exact hr')
end
end Mine
namespace Mine
section
open PySem PySem.Spec PySem.Calls PyProof.Rows PySem.W PySem.SeqAt
variable {K : Wd} {B : Base} {α β : Type} {A : Around} {g : Gh} {n : Nat} {env : Env}
variable {b : Gh} {S' : List Addr} {fn : List Nat} {cs : List Addr} {nm : List (Str × NameKind)} {σ σ' : List (Option D)} {own : List (Addr × MO)}
theorem Z270 : ∀ (r : List Str) (p : Str), risingS p r = true → (p :: r).Pairwise (fun a b => a.cps.toList ≤ b.cps.toList)
 | [], p, _ => by simp
 | x :: r, p, h => by
  have h' : (!ltCps x.cps.toList p.cps.toList && risingS x r) = true := h
  rw [Bool.and_eq_true] at h'
  have ih := Z270 r x h'.2
  have hpx : p.cps.toList ≤ x.cps.toList := by
   have h1 := h'.1
   rw [ltCps_eq] at h1
   simpa [List.not_lt] using h1
  refine List.pairwise_cons.mpr ⟨fun y hy => ?_, ih⟩
  rcases List.mem_cons.mp hy with rfl | hy
  ·exact hpx
  ·exact List.le_trans hpx (List.rel_of_pairwise_cons ih hy)
theorem sortedS_pw {l : List Str} (h : sortedS l = true) : l.Pairwise (fun a b => a.cps.toList ≤ b.cps.toList) := by
 cases l with
 | nil => simp
 | cons x r => exact Z270 r x h
theorem Z191 {im : Im} : ∀ {vs : List Value} {xs : List (List Nat)}, StrsAre vs (xs.map S) → Reps im (xs.map .str) vs
 | vs, [], h => by cases h; exact Reps.nil
 | vs, x :: xs, h => by
  cases h with
  | cons _ t h => exact Reps.cons Z79 (Z191 h)
theorem Gh.Ok.sortedOut {s : Shared} (ok : g.Ok B s) {vs : List Value} {out : Array Value} : ∃ e, (g.addIm (s.heap.objs.size + 1) (sq "list" out e)).Ok B { s with heap := sortedAll s.heap vs out } ∧ Le g (g.addIm (s.heap.objs.size + 1) (sq "list" out e)) := by
 refine E1_1 (sortedAll_at s.heap vs out) fun e he => ?_
 have ok₁ := ok.keeps (tk := s.toks) (h' := sortedAll s.heap vs out) fun b o h => sortedAll_old h
 have fr := ok.above (Nat.le_succ s.heap.objs.size)
 exact ⟨e, ok₁.knowIm fr.2 fr.1 (Nat.le_succ_of_le ok.size) he, Le.addIm fr.1⟩
theorem cs_sortedStrs {xs : List (List Nat)} (hs : xs.Pairwise (· ≤ ·)) (h64 : xs.length < 64) : CallSem K n g (.builtin "sorted") [.lst (xs.map .str)] (.lst (xs.map .str)) := fun g₁ l vs h A r g₂ l₂ s E ok => by
 refine E1_2 (reps1 h) ?_
 rintro v rfl h1
 refine E3_3 (Z16.mp h1) ?_
 clear h1; rintro a its m rfl e rs
 refine sorted_strs (vs := its.toList) ⟨_, ok.im _ _ (l₂.im _ _ e), rfl, m, by exact rfl⟩ (strs_of rs) (by rw [rs.length, List.length_map]; exact h64) fun out ss' h2 h3 h4 => ?_
 have hss : ss' = xs.map S := by
  refine List.Perm.eq_of_pairwise (le := fun a b : Str => a.cps.toList ≤ b.cps.toList) (fun a b _ _ h5 h6 => ?_) (sortedS_pw h4) ?_ h3
  ·have := List.le_antisymm h5 h6
   clear h6 h5 h3 rs e h64; cases a; cases b; simp at this; exact congrArg _ this
  ·rw [List.pairwise_map]
   exact hs.imp fun {a b} h => by simpa [S] using h
 clear h3 rs e h h64 hs; subst hss
 refine E1_2 (ok.sortedOut (vs := its.toList) (out := out)) fun e' ok' l' => ?_
 exact ⟨_, ok', l', Z16.mpr ⟨_, out, e', rfl, Gh.addIm_self, Z191 h2⟩⟩
theorem st_while {test : Expr} {body : List Stmt} {pos : Pos} {Q : Flow → Gh → Prop} (h : ∀ s, g.Ok K.B s → codeAny (model K.prog K.w) A (.whileLoop test body [] env) (fun r s' => match r with | .ok f => ∃ g' : Gh, g'.Ok K.B s' ∧ Q f g' | .error _ => False) s) : gwp K A (exec (.While test body [] pos) env) Q g := fun s E ok =>
 wpAny_While (codeAny_mono (h s ok) fun r s' hr => by
  cases r with
  | ok f => exact hr
  | error e => exact hr.elim)
theorem gx_while {test : Expr} {body rest : List Stmt} {pos : Pos} {Q : Flow → Gh → Prop} (J : Nat → Gh → Prop) (k₀ : Nat) (h₀ : J k₀ g)
  (turn : ∀ k g, J k g → gwp K A (isTrue test env (eval test env)) (fun b g₁ => if b = true then gwp K A (execs body env) (fun f g₂ => match f with
    | .next | .cont => ∃ m, m < k ∧ J m g₂
    | .brk => False
    | .ret v => Q (.ret v) g₂) g₁ else gwp K A (execs rest env) Q g₁) g) : gwp K A (execs (.While test body [] pos :: rest) env) Q g := by
 refine Z10 (st_while fun s ok => ?_)
 refine codeAny_whileLoop (fun k s' => ∃ g', g'.Ok K.B s' ∧ J k g') ?_ k₀ ⟨g, ok, h₀⟩
 rintro k s' ⟨g', ok', hJ'⟩
 refine wM1_2 (turn k g' hJ' s' _ ok') (fun b s₁ g₁ ok₁ h₁ => ?_)
 cases b with
 | true =>
  dsimp only [if_true] at h₁ ⊢
  refine wM1_2 (h₁ s₁ _ ok₁) (fun f s₄ g₄ ok₄ h₄ => ?_)
  cases f with
  | next => obtain ⟨m, h5, h6⟩ := h₄; exact ⟨m, h5, g₄, ok₄, h6⟩
  | cont => obtain ⟨m, h5, h6⟩ := h₄; exact ⟨m, h5, g₄, ok₄, h6⟩
  | brk => exact h₄.elim
  | ret v => exact ⟨g₄, ok₄, h₄⟩
 | false =>
  dsimp only [Bool.false_eq_true, if_false] at h₁ ⊢
  exact wpAny_execs_nil ⟨g₁, ok₁, h₁⟩
theorem Z44 {x : Str} {v : Value} {Q : Unit → Gh → Prop} (h : gwp K A (storeName env x v) Q g) : gwp K A (bindName env x v) Q g := by
 exact Z1 (Z18 (Z168 (Z1 (Z9 h fun _ g' q => Z168 q))))
theorem Z20 {t : Value → Sem Unit} {ts : List (Value → Sem Unit)} {x : Value} {xs : List Value} {Q : Unit → Gh → Prop} (h : gwp K A (t x) (fun _ g₁ => gwp K A (assignInOrder ts xs) Q g₁) g) : gwp K A (assignInOrder (t :: ts) (x :: xs)) Q g := by
 exact Z1 (Z18 h)
theorem gx_swap2 {elts : List Expr} {k : Nat} {tpos pos : Pos} {value : Expr} {x y : Str} {i j : Nat} {d₁ d₂ : D} {rest : List Stmt} {Q : Flow → Gh → Prop} (H : Frm K b S' fn cs env nm σ own g) (r : Room A n) (hx : nm[i]? = some (x, NameKind.local)) (hy : nm[j]? = some (y, NameKind.local)) (hv : Pe K n g (eval value env) (.tup [d₁, d₂]))
  (kk : ∀ g', LeX [env.locals] g g' → Frm K b S' fn cs env nm ((σ.set j (some d₂)).set i (some d₁)) own g' → gwp K A (execs rest env) Q g')
  (hs : swapsWithSole [.Tuple elts k tpos] value pos.line env = pure false := by rfl) (hw : swappedStores [.Tuple elts k tpos] value env = pure (some [x, y]) := by rfl) : gwp K A (execs (.Assign [.Tuple elts k tpos] value pos :: rest) env) Q g := by
 refine Z10 (Z70 (hv.use r fun v g₁ l₁ p => Z58 p r.1 rfl fun vs g₂ l₂ rs => ?_) hs hw)
 refine E2_3 (reps2 rs) ?_
 clear rs p hw hs hv; rintro u w rfl h1 h2
 refine Z20 (Z44 (((H.up l₁).up l₂).storeLocal hy h2 fun g₃ l₃ H₃ => ?_))
 refine Z20 (Z44 (H₃.storeLocal hx (h1.mono l₃.im) fun g₄ l₄ H₄ => ?_))
 exact Z4 (kk g₄ ((LeX.of (l₁.trans l₂)).trans (l₃.trans l₄)) H₄)
theorem gx_swap2' {elts : List Expr} {k : Nat} {tpos pos : Pos} {value : Expr} {x y : Str} {rest : List Stmt} {Q : Flow → Gh → Prop} (hh : A.handled = none)
  (h : gwp K A (eval value env) (fun v g₁ => ∃ d₁ d₂, Rep g₁.im (.tup [d₁, d₂]) v ∧ ∀ u w g₂, Le g₁ g₂ → Rep g₂.im d₁ u → Rep g₂.im d₂ w → gwp K A (storeName env y w) (fun _ g₃ => gwp K A (storeName env x u) (fun _ g₄ => gwp K A (execs rest env) Q g₄) g₃) g₂) g)
  (hs : swapsWithSole [.Tuple elts k tpos] value pos.line env = pure false := by rfl) (hw : swappedStores [.Tuple elts k tpos] value env = pure (some [x, y]) := by rfl) : gwp K A (execs (.Assign [.Tuple elts k tpos] value pos :: rest) env) Q g := by
 refine Z10 (Z70 (gM2_2 h fun v g₁ d₁ d₂ p hk => Z58 p hh rfl fun vs g₂ l₂ rs => ?_) hs hw)
 refine E2_3 (reps2 rs) ?_
 clear rs p hw hs h; rintro u w rfl h1 h2
 refine Z20 (Z44 (Z9 (hk u w g₂ l₂ h1 h2) fun _ g₃ h₃ => ?_))
 exact Z20 (Z44 (Z9 h₃ fun _ g₄ h₄ => Z4 h₄))
theorem item_tup {l : List D} {i : Int} {d : D} (h : atInt l i = some d) (hsz : l.length < 2 ^ 62) : OpSem K n g getItem (.tup l) (.int i) d := fun g₁ _ v₁ v₂ h₁ h₂ A r g₂ le s E ok => by
 refine E3_3 (Z62.mp h₁) ?_
 rintro a its m rfl e rs
 refine E1_1 (Z24 h₂) ?_
 rintro t rfl
 have hlen : its.size = l.length := by rw [← Array.length_toList, rs.length]
 have key : ∃ j : Nat, l[j]? = some d ∧ seqIndex? i its.size = some j ∧ -2 ^ 63 ≤ i ∧ i < 2 ^ 63 := by
  unfold atInt at h
  split at h
  ·rename_i h0
   have hj := (List.getElem?_eq_some_iff.mp h).1
   exact ⟨i.toNat, h, Z150 (.inl ⟨h0, rfl, by lia⟩), by lia, by lia⟩
  ·rename_i h0
   split at h
   ·rename_i h1
    have hj := (List.getElem?_eq_some_iff.mp h).1
    exact ⟨(i + l.length).toNat, h, Z150 (.inr ⟨by lia, by lia, by rw [hlen], by lia⟩), by lia, by lia⟩
   ·cases h
 refine E1_4 key fun j hj h1 h2 h3 => ?_
 refine E1_2 (rs.get hj) fun v hv hr => ?_
 exact PySem.P.getItem_tuple (ok.im _ _ (le.im _ _ e)) h2 h3 h1 (by simpa using hv) ⟨g₂, ok, LeX.refl _ _, hr.le le⟩
theorem pe_itemT {value slice : Expr} {pos : Pos} {l : List D} {i : Int} {d : D} (hv : Pe K n g (eval value env) (.tup l)) (hi : Pe K n g (eval slice env) (.int i)) (h : atInt l i = some d) (hsz : l.length < 2 ^ 62 := by first | assumption | (simp; done) | lia) : Pe K n g (eval (.Subscript value slice pos) env) d :=
 pe_sub (id := "tuple.__getitem__") hv hi (item_tup h hsz) PySem.F.slot_tuple_getitem.lookup rfl
theorem op_inInts {x : Int} {ns : List Int} : OpSem K (n + 1) g (compareOp .In) (.int x) (.tup (ns.map .int)) (.bool (decide (x ∈ ns))) := fun g₁ _ v₁ v₂ h₁ h₂ A r g₂ le s E ok => by
 refine E1_1 (Z24 h₁) ?_
 rintro t rfl
 refine E3_3 (Z62.mp h₂) ?_
 clear h₁ h₂; rintro a its m rfl e rs
 have hlen : its.size = ns.length := by rw [← Array.length_toList, rs.length, List.length_map]
 have hat : ∀ (i : Nat) (hi : i < its.size), ∃ t, its[i] = .int (ns[i]'(by lia)) t := fun i hi => by
  obtain ⟨v, e1, e2⟩ := rs.get (i := i) (d := .int (ns[i]'(by lia))) (by rw [List.getElem?_map, List.getElem?_eq_getElem (by lia)]; rfl)
  refine E1_1 (Z24 e2) ?_
  clear e2 rs; rintro t rfl
  refine ⟨t, ?_⟩
  have : its[i]? = some (.int (ns[i]'(by lia)) t) := by simpa using e1
  rw [Array.getElem?_eq_getElem hi] at this
  exact Option.some.inj this
 let f : Value → Bool := fun v => match v with | .int y _ => y == x | _ => false
 refine in_tupleAt f ⟨_, ok.im _ _ (le.im _ _ e), rfl, m, rfl⟩ (fun y hy => ?_) ⟨g₂, ok, LeX.refl _ _, ?_⟩
 ·clear rs e; obtain ⟨i, hi, rfl⟩ := Array.mem_iff_getElem.mp hy
  refine E1_1 (hat i hi) fun t' e' => ?_
  rw [e']
  exact EqAt.int_int _ _ _ _
 ·have : its.any f = decide (x ∈ ns) := by
   rw [Bool.eq_iff_iff, decide_eq_true_eq, Array.any_eq_true]
   constructor
   ·rintro ⟨i, hi, h⟩
    refine E1_1 (hat i hi) fun t' e' => ?_
    rw [e'] at h
    have : ns[i]'(by lia) = x := by simpa [f] using h
    exact this ▸ List.getElem_mem _
   ·intro h
    clear rs e r; obtain ⟨i, hi, rfl⟩ := List.mem_iff_getElem.mp h
    refine ⟨i, by lia, ?_⟩
    refine E1_1 (hat i (by lia)) fun t' e' => ?_
    rw [e']
    simp [f]
  rw [this]; exact Z48
noncomputable def signsD (x : List Nat) : List D := x.map fun c => .str [c]
noncomputable abbrev siO (x : List Nat) (t : Tok) (i : Nat) : Obj := { cls := .type "str_ascii_iterator", data := .fields #[.str (S x) t, .int i 0] }
noncomputable def MO.si (ds : List D) : MO := ⟨fun _ o => ∃ (x : List Nat) (t : Tok) (i : Nat), o.cls = .type "str_ascii_iterator" ∧ o.data = .fields #[.str (S x) t, .int i 0] ∧ ds = signsD (x.drop i), fun _ _ _ _ h => h⟩
theorem It.ascii {it : Addr} : It K (.ref it) [it] [] (fun ds g => ∃ o, g.mu it = some o ∧ (MO.si ds).P g.im o) where
 item := fun {d ds g A} hh st s E ok => by
  obtain ⟨o, h1, x, t, i, h2, h3, e⟩ := st
  cases hx : x.drop i with
  | nil => rw [hx] at e; cases e
  | cons c r =>
   rw [hx] at e
   have e' : d :: ds = D.str [c] :: signsD r := e
   cases e'
   have hc : (S x).cps[i]? = some c := by
    have : (x.drop i)[0]? = some c := by rw [hx]; rfl
    simpa [S] using this
   have hr : x.drop (i + 1) = r := by
    have : (x.drop i).drop 1 = r := by rw [hx]; rfl
    rwa [List.drop_drop] at this
   refine wpAny_pyNext_ascii_item ⟨o, ok.mu _ _ h1, h2, h3⟩ hc fun h' hit' hs => ?_
   refine E1_3 hit' fun o' ho' hc' hd' => ?_
   have ok' := ok.sameBut (tk := s.toks + 1) h1 hs ho'
   refine ⟨_, ok', LeX.setMu, _, rfl, Z79, fun target A => ?_⟩
   exact Z35 (a := it) (.inr Gh.setMu_self) hc' hd' (by decide) ⟨LeX.refl _ _, _, Gh.setMu_self, x, t, i + 1, hc', hd', by rw [hr]⟩
 done := fun {g A} hh st s E ok => by
  obtain ⟨o, h1, x, t, i, h2, h3, e⟩ := st
  have hx : x.drop i = [] := by
   cases hx : x.drop i with
   | nil => rfl
   | cons c r => rw [hx] at e; cases e
  have hc : (S x).cps[i]? = none := by
   have := List.drop_eq_nil_iff.mp hx
   simp [S]; lia
  exact wpAny_pyNext_ascii_end hh ⟨o, ok.mu _ _ h1, h2, h3⟩ hc fun h' he => ⟨_, ok.lost (tk := s.toks) h1 he, LeX.drop, rfl⟩
 self := fun {ds g A Q} st q s E ok => by
  obtain ⟨o, h1, x, t, i, h2, h3, e⟩ := st
  exact wpAny_pyIter_striter_ascii ⟨o, ok.mu _ _ h1, h2, h3⟩ ⟨g, ok, q⟩
 frame := fun {ds g g' W} st l hw => by
  refine E1_2 st fun o h1 h2 => ?_
  exact ⟨o, l.mu _ _ (fun h => (hw _ h).1 (by exact .head _)) h1, h2⟩
 mem := fun {ds g} st => all1 (E1_2 st fun o h1 _ => ⟨o, h1⟩)
 cell := fun {ds g} st => all1 (fun o' w e => E1_2 st fun o h1 z => E3_3 z fun x t i _ h3 _ z => by rw [← Z39 h1 e, h3] at z; cases z)
theorem ItM.ascii {a : Addr} : ItM K (.ref a) [a] (fun ds => [(a, MO.si ds)]) := ItM.one It.ascii (fun ds g => Iff.rfl) (by rintro ds im o w ⟨x, t, i, _, h, _⟩; rw [h]; intro z; cases z)
theorem iterM_str {x : List Nat} {v : Value} (h : Rep g.im (.str x) v) (ha : ∀ c ∈ x, c < 128) : gwp K A (pyIter v) (NewM K (signsD x) g) g := fun s E ok => by
 refine E1_1 (Z29 h) ?_
 rintro t rfl
 refine wpAny_pyIter_ascii (by simpa [S] using ha) ?_
 exact ⟨_, ok.pushMu (o := siO x t 0) rfl, NewM.mk1 (K := K) ok (o := siO x t 0) (ds := signsD x) ItM.ascii ⟨x, t, 0, rfl, rfl, by exact rfl⟩⟩
theorem pim_str {iter : Expr} {x : List Nat} (h : Pe K n g (eval iter env) (.str x)) (ha : ∀ c ∈ x, c < 128) : PItM K n g iter env (signsD x) := fun A r g₁ l => gM0_2 (h A r g₁ l) fun v g₂ l₂ p => Z9 (iterM_str p ha) fun it g₃ hi => hi.since l₂
theorem le_sl {a : Nat} (h : a ≤ 1000000) : a ≤ sizeLine := Nat.le_trans h (by decide)
theorem Z128 {σ : List (Option D)} {i : Nat} {d : D} (h : σ[i]? = some none) : backOk σ (σ.set i (some d)) := fun j e hj => by
 have hne : i ≠ j := fun z => by subst z; cases ((h).symm.trans hj)
 rw [List.getElem?_set, if_neg hne]; exact hj
theorem backOk.trans {a b c : List (Option D)} (h : backOk a b) (h' : backOk b c) : backOk a c := fun i d e => h' i d (h i d e)
noncomputable def noFree (names : List (Str × NameKind)) (fn : List Nat) : Bool := fn.all fun i => match names[i]? with | some (_, .free) => false | _ => true
theorem Z159 {names : List (Str × NameKind)} {fn : List Nat} (h : noFree names fn = true) : ∀ i ∈ fn, ∀ x, names[i]? ≠ some (x, NameKind.free) := fun i hi x e => by
 have := List.all_eq_true.mp h i hi
 rw [e] at this
 cases this
theorem CompP.name {elt : Expr} {x : Str} {pos : Pos} {ifs : List Expr} {scope : Scope} {ds : List D} {p : D → Bool} {f : D → D} (src : List Src) (i : Nat) (hsrc : srcOk nm scope.names src = true) (hg : GlobsAre K.B scope.names src)
  (hi : (relab nm scope.names)[i]? = some (x, NameKind.local) ∨ ((relab nm scope.names)[i]? = some (x, NameKind.cell) ∧ noFree scope.names [i] = true)) (h0 : (srcSt σ src)[i]? = some none)
  (step : ∀ d ∈ ds, ∀ b g' env' cs', Le g b → Le b g' → Frm K b [] [i] cs' env' (relab nm scope.names) ((srcSt σ src).set i (some d)) [] g' → env'.scope.names = relab nm scope.names → (∀ L cells, env' = compEnv scope L cells env → True) → (∃ L cells, env' = compEnv scope L cells env) →
   PTests K n g' ifs env' (p d) ∧ (p d = true → Pe K n g' (eval elt env') (f d)))
  (hn : namesOk scope.names = true := by decide +kernel) (hk : scope.kind = .function := by rfl) : CompP K n g env nm σ elt (.Name x pos) ifs scope ds p f := by
 refine ⟨src, [i], fun d => (srcSt σ src).set i (some d), NamesOk.of hn, hk, hsrc, hg, fun j hj y e => ?_, fun d _ => ?_, fun d _ => Z128 h0, fun d hd b g' L cells cs' lb lb' F => step d hd b g' _ cs' lb lb' F F.names (fun _ _ _ => trivial) ⟨L, cells, rfl⟩⟩
 ·clear step h0 hsrc; simp at hj; subst hj
  rcases hi with hi | ⟨_, hi⟩
  ·refine E1_2 (Z152 hi) fun k' e1 e2 => ?_
   cases ((e).symm.trans e1)
   rcases e2 with e2 | ⟨e2, _⟩ <;> cases e2
  ·exact Z159 hi j (by exact .head _) y e
 ·rcases hi with hi | ⟨hi, _⟩
  ·exact Tgt.loc hi
  ·exact Tgt.cel hi (by exact .head _)
theorem CompP.pair {elt : Expr} {x y : Str} {px py pt : Pos} {kt : Nat} {ifs : List Expr} {scope : Scope} {ds : List D} {p : D → Bool} {f : D → D} (src : List Src) (i j : Nat) (hij : i ≠ j) (hsrc : srcOk nm scope.names src = true) (hg : GlobsAre K.B scope.names src)
  (hi : (relab nm scope.names)[i]? = some (x, NameKind.local) ∨ ((relab nm scope.names)[i]? = some (x, NameKind.cell) ∧ noFree scope.names [i] = true)) (h0 : (srcSt σ src)[i]? = some none)
  (hj : (relab nm scope.names)[j]? = some (y, NameKind.local) ∨ ((relab nm scope.names)[j]? = some (y, NameKind.cell) ∧ noFree scope.names [j] = true)) (h1 : (srcSt σ src)[j]? = some none)
  (hds : ∀ d ∈ ds, ∃ d₁ d₂, d = .tup [d₁, d₂])
  (step : ∀ d₁ d₂, D.tup [d₁, d₂] ∈ ds → ∀ b g' env' cs', Le g b → Le b g' → Frm K b [] [i, j] cs' env' (relab nm scope.names) (((srcSt σ src).set i (some d₁)).set j (some d₂)) [] g' → (∃ L cells, env' = compEnv scope L cells env) →
   PTests K n g' ifs env' (p (.tup [d₁, d₂])) ∧ (p (.tup [d₁, d₂]) = true → Pe K n g' (eval elt env') (f (.tup [d₁, d₂]))))
  (hn : namesOk scope.names = true := by decide +kernel) (hk : scope.kind = .function := by rfl) : CompP K n g env nm σ elt (.Tuple [.Name x px, .Name y py] kt pt) ifs scope ds p f := by
 let st : D → List (Option D) := fun d => match d with | .tup [d₁, d₂] => ((srcSt σ src).set i (some d₁)).set j (some d₂) | _ => srcSt σ src
 refine ⟨src, [i, j], st, NamesOk.of hn, hk, hsrc, hg, fun m hm z e => ?_, fun d hd => ?_, fun d hd => ?_, fun d hd b g' L cells cs' lb lb' F => ?_⟩
 ·simp at hm
  rcases hm with rfl | rfl
  ·rcases hi with hi | ⟨_, hi⟩
   ·refine E1_2 (Z152 hi) fun k' e1 e2 => ?_
    cases ((e).symm.trans e1)
    rcases e2 with e2 | ⟨e2, _⟩ <;> cases e2
   ·exact Z159 hi m (by exact .head _) z e
  ·rcases hj with hj | ⟨_, hj⟩
   ·refine E1_2 (Z152 hj) fun k' e1 e2 => ?_
    cases ((e).symm.trans e1)
    rcases e2 with e2 | ⟨e2, _⟩ <;> cases e2
   ·exact Z159 hj m (by exact .head _) z e
 ·refine E2_1 (hds d hd) ?_
  rintro d₁ d₂ rfl
  refine Tgt.pair (σ₁ := (srcSt σ src).set i (some d₁)) ?_ ?_
  ·rcases hi with hi | ⟨hi, _⟩
   ·exact Tgt.loc hi
   ·exact Tgt.cel hi (by exact .head _)
  ·rcases hj with hj | ⟨hj, _⟩
   ·exact Tgt.loc hj
   ·exact Tgt.cel hj (by exact .tail _ (.head _))
 ·refine E2_1 (hds d hd) ?_
  rintro d₁ d₂ rfl
  refine (Z128 h0).trans (Z128 ?_)
  rw [List.getElem?_set, if_neg hij]; exact h1
 ·refine E2_1 (hds d hd) ?_
  rintro d₁ d₂ rfl
  exact step d₁ d₂ hd b g' _ cs' lb lb' F ⟨L, cells, rfl⟩
end
end Mine
namespace Mine
section
open PySem PySem.Spec PySem.Calls PyProof.Rows PySem.W PySem.SeqAt
variable {K : Wd} {A : Around} {g : Gh} {n : Nat} {env : Env} {α : Type}
variable {b : Gh} {S' : List Addr} {fn : List Nat} {cs : List Addr} {nm : List (Str × NameKind)} {σ σ' : List (Option D)} {own : List (Addr × MO)}
noncomputable def escQ (quoted : Bool) (c : Nat) : List Nat := if (decide (c ∈ [34, 92]) || !quoted) = true then [92, c] else [c]
noncomputable def writtenL (w : List Nat) (quoted : Bool) (white : List Nat) : List Nat := (if quoted then [34] ++ (w.map (escQ quoted)).flatten ++ [34] else (w.map (escQ quoted)).flatten) ++ white
theorem flat_le (w : List Nat) (q : Bool) : ((w.map (escQ q)).map (·.length)).sum ≤ 2 * w.length := by
 induction w with
 | nil => simp
 | cons c w ih =>
  simp only [List.map_cons, List.sum_cons, List.length_cons]
  have : (escQ q c).length ≤ 2 := by unfold escQ; split <;> simp
  lia
theorem Z285 (X : WX K) {w white : List Nat} {q : Bool} (hw : w.length ≤ 1000) (hwh : white.length ≤ 1000) (ha : ∀ c ∈ w, c < 128) : CallSem K (n + 3) g (.ref a_lw) [.str w, .bool q, .str white] (.str (writtenL w q white)) := fun g _ vs hvs A r g₁ l => by
 refine E3_4 (reps3 hvs) ?_
 rintro v1 v2 v3 rfl r1 r2 r3
 refine Z14 (n := n + 1) (fn := [1]) (S' := []) (binds := [("word", v1), ("quoted", v2), ("white", v3)]) (bi := [(0, .str w), (1, .bool q), (2, .str white)]) X.f_lw r (Z15 (by rfl)) ok_lw so_lw (Z3 X.gt gi_lw)
  ⟨.inl rfl, r1.le l, .inr ⟨rfl, by decide⟩, r2.le l, .inl rfl, r3.le l, trivial⟩ fun A' L cells cs g' r' H => ?_
 have hsum := flat_le w q
 have hlen : (w.map (escQ q)).flatten.length ≤ 2000 := by rw [List.length_flatten]; exact Nat.le_trans hsum (Nat.mul_le_mul_left 2 hw)
 refine Z88 (i := 3) (d := .str (w.map (escQ q)).flatten) H r' rfl ?_ (fun g₂ l₂ H => ?_)
 ·refine (Z71 (T := "str") (id := "str.join") (d₀ := .str []) (ds := [.lst ((w.map (escQ q)).map .str)]) (d := .str (jn [] (w.map (escQ q)))) PySem.F.plainAttrs_str PySem.F.slot_str_join PySem.F.type_str_join (Z31 rfl) (Z2 ?_ Z5) (cs_join (by simp only [List.length_nil, Nat.mul_zero, Nat.add_zero]; exact Nat.le_trans hsum (Nat.le_trans (Nat.mul_le_mul_left 2 hw) (by decide))))).is (by rw [jn_nil])
  refine (Z51 (p := fun _ => true) (f := fun d => match d with | .str [c] => .str (escQ q c) | d => d) H (pim_str (pn H 0) ha).pit (by exact all0) (CompP.name (mkSrcs GT [.no, .no, .outer 1]) 1 (by decide +kernel) (Z3 X.gt (by decide +kernel)) (.inl (by decide +kernel)) rfl fun d hd b g' env' cs' lb lb' F _ _ henv => ?_) (by simp [signsD]; exact le_sl (by lia))).is ?_
  ·refine E1_2 (List.mem_map.mp hd) ?_
   rintro c hc rfl
   refine E2_1 henv ?_
   rintro L' cells' rfl
   refine ⟨Z21, fun _ => ?_⟩
   refine pe_if (v := decide (c ∈ [34, 92]) || !q) (pt_or (Z30 (pn F 1) (Z31 rfl) op_in1) fun _ => pt_not (Z271 (pn F 2) Z266)) (fun hv => (Z8 (Z31 (l := [92]) rfl) (pn F 1) (Z140 (le_sl (by simp)))).is ?_) fun hv => (pn F 1).is ?_
   ·show D.str ([92] ++ [c]) = D.str (escQ q c)
    unfold escQ; rw [if_pos hv]; rfl
   ·show D.str [c] = D.str (escQ q c)
    unfold escQ; rw [if_neg (by rw [hv]; decide)]
  ·rw [List.filter_eq_self.mpr (fun _ _ => rfl)]
   simp [signsD, List.map_map, Function.comp_def]
 ·generalize hJ : (w.map (escQ q)).flatten = J at *
  have hres : writtenL w q white = (if q then [34] ++ J ++ [34] else J) ++ white := by unfold writtenL; rw [hJ]
  refine Z46 r' (d := .str (writtenL w q white)) ?_ fun v g₃ l₃ p => ⟨H.le.trans l₃, p⟩
  rw [hres]
  refine Z8 (d₁ := .str (if q then [34] ++ J ++ [34] else J)) (pe_if (Z271 (pn H 1) Z266) (fun hq => ?_) (fun hq => (pn H 3).is (by rw [hq]; rfl))) (pn H 2) (Z140 (le_sl ?_))
  ·refine (Z8 (Z8 (Z31 (l := [34]) rfl) (pn H 3) (Z140 (le_sl (by simp; lia)))) (Z31 (l := [34]) rfl) (Z140 (le_sl (by simp; lia)))).is (by rw [hq]; rfl)
  ·cases q <;> simp <;> lia
theorem Z286 (X : WX K) {a₀ b₀ : Nat} (ha : a₀ < 1000) (hb : b₀ < 1000) : CallSem K (n + 300) g (.ref a_lm) [.int a₀, .int b₀] (.int (Nat.gcd a₀ b₀)) := fun g _ vs hvs A r g₁ l => by
 refine E2_3 (reps2 hvs) ?_
 rintro v1 v2 rfl r1 r2
 refine Z14 (n := n + 298) (fn := []) (S' := []) (binds := [("one", v1), ("other", v2)]) (bi := [(0, .int a₀), (1, .int b₀)]) X.f_lm r (Z15 (by rfl)) ok_lm so_lm (Z3 X.gt gi_lm)
  ⟨.inl rfl, r1.le l, .inl rfl, r2.le l, trivial⟩ fun A' L cells cs g' r' H => ?_
 let J : Nat → Gh → Prop := fun k g => ∃ a : Nat, a < 1000 ∧ k < 1000 ∧ Nat.gcd a k = Nat.gcd a₀ b₀ ∧ Frm K g₁ [] [] cs (newEnv (scopeOf st_lm) L mainGlobals cells ("_law_measure" ++ ".<locals>.") (some a_lm) (.ref c_lm) none builtinsNs) (scopeOf st_lm).names [some (.int a), some (.int k), some (.raw (.ref a_idm))] [] g
 refine gx_while J b₀ ⟨a₀, ha, hb, rfl, H⟩ ?_
 rintro k g₂ ⟨a, ha, hk, hg, F⟩
 refine Pv.use (Z30 (pn F 1) Z11 op_ne) r' fun v g₃ l₃ hv => ?_
 subst hv
 replace F := F.up l₃
 by_cases hk0 : k = 0
 ·subst hk0
  rw [if_neg (by simp)]
  refine Z46 r' (pn F 0) fun v g₄ l₄ p => ⟨F.le.trans l₄, ?_⟩
  rw [← hg, Nat.gcd_zero_right]; exact p
 ·rw [if_pos (by simpa using hk0)]
  have hmod : ((a : Int).fmod k) = ((a % k : Nat) : Int) := by rw [Int.fmod_eq_emod_of_nonneg _ (by lia)]; rfl
  refine gx_swap2 (i := 0) (j := 1) (x := "one") (y := "other") (d₁ := .int k) (d₂ := .int ((a % k : Nat) : Int)) F r' rfl rfl
   (Z38 (Z2 (pn F 1) (Z2 (pe_itemT (l := [.int ((a : Int).fdiv k), .int ((a % k : Nat) : Int)]) (hmod ▸ Z45 (pn F 2) X.f_idm (Z2 (pn F 0) (Z2 (pn F 1) Z5)) ((Z84 X (n := n + 6) (by lia) (by lia) (by lia)))) Z11 rfl (by simp)) Z5)) (by simp [sizeLine])) fun g₄ l₄ F₄ => Z43 ?_
  have hlt : a % k < k := Nat.mod_lt _ (Nat.pos_of_ne_zero hk0)
  exact ⟨a % k, hlt, k, hk, by lia, by rw [← hg, Nat.gcd_comm k (a % k), ← Nat.gcd_rec k a, Nat.gcd_comm], F₄⟩
end
end Mine
namespace Mine
section
open PySem PySem.Spec PySem.Calls PyProof.Rows PySem.W PySem.SeqAt
variable {K : Wd} {B : Base} {α β : Type} {A : Around} {g : Gh} {n : Nat} {env : Env}
variable {b : Gh} {S' : List Addr} {fn : List Nat} {cs : List Addr} {nm : List (Str × NameKind)} {σ σ' : List (Option D)} {own own' : List (Addr × MO)}
theorem Frm.perm (F : Frm K b S' fn cs env nm σ own g) (h : own.Perm own') : Frm K b S' fn cs env nm σ own' g :=
 {F with
  apart := (List.Perm.nodup_iff (List.Perm.append (List.Perm.refl _) (h.map _))).mp F.apart
  own := fun p hp => F.own p (h.mem_iff.mpr hp) }
theorem Frm.advAt {pre ms ms' post : List (Addr × MO)} {g' : Gh} (F : Frm K b S' fn cs env nm σ (pre ++ (ms ++ post)) g) (l : LeX (ms.map (·.1)) g g') (hk : ms'.map (·.1) = ms.map (·.1)) (h : Holds ms' g') (hc : ∀ p ∈ ms, ∀ o w, p.2.P g.im o → o.data ≠ .cell w) : Frm K b S' fn cs env nm σ (pre ++ (ms' ++ post)) g' := by
 have p : ∀ (ms : List (Addr × MO)), (pre ++ (ms ++ post)).Perm (ms ++ (pre ++ post)) := fun ms => by
  rw [← List.append_assoc, ← List.append_assoc]
  exact List.Perm.append List.perm_append_comm (List.Perm.refl _)
 exact ((F.perm (p ms)).advance l hk h hc).perm (p ms').symm
theorem Frm.holdsAt {pre ms post : List (Addr × MO)} (F : Frm K b S' fn cs env nm σ (pre ++ (ms ++ post)) g) : Holds ms g := fun p hp => E1_3 (F.own p (by simp [hp])) fun o e1 e2 _ => ⟨o, e1, e2⟩
theorem gwp_Tuple2 {e₁ e₂ : Expr} {k : Nat} {pos : Pos} {Q : Value → Gh → Prop}
  (h : gwp K A (eval e₁ env) (fun v g₁ => gwp K A (eval e₂ env) (fun w g₂ => ∃ d₁ d₂, Rep g₂.im d₁ v ∧ Rep g₂.im d₂ w ∧ ∀ T g₃, Le g₂ g₃ → Rep g₃.im (.tup [d₁, d₂]) T → Q T g₃) g₁) g)
  (h1 : starEach [e₁, e₂] env = (false, eval e₁ env) :: starEach [e₂] env := by rfl) (h2 : starEach [e₂] env = (false, eval e₂ env) :: starEach [] env := by rfl) : gwp K A (eval (.Tuple [e₁, e₂] k pos) env) Q g := by
 rw [arm_eval_Tuple]
 refine Z1 (Z28 (Z1 (Z13 (Z9 h fun v g₁ h₁ => Z13 (gM2_3 h₁ fun w g₂ d₁ d₂ r1 r2 hq => Z17 ?_) h2) h1)))
 exact Z97 r1 r2 fun T o g₃ l₃ hT ht => hq _ g₃ l₃ ht
end
end Mine
namespace Mine
section
open PySem PySem.Spec PySem.Calls PyProof.Rows PySem.W PySem.SeqAt
variable {K : Wd} {A : Around} {g : Gh} {n : Nat} {env : Env} {α : Type}
variable {b : Gh} {S' : List Addr} {fn : List Nat} {cs : List Addr} {nm : List (Str × NameKind)} {σ σ' : List (Option D)} {own : List (Addr × MO)}
theorem reps4 {im : Im} {d e f h : D} {vs : List Value} (z : Reps im [d, e, f, h] vs) : ∃ v w x y, vs = [v, w, x, y] ∧ Rep im d v ∧ Rep im e w ∧ Rep im f x ∧ Rep im h y := E2_3 (repsC z) fun v _ e r z => E3_4 (reps3 z) fun w x y e' q p o => ⟨v, w, x, y, e.trans (congrArg _ e'), r, q, p, o⟩
theorem Z215 (X : WX K) {o : Expr} {name : Str} {apos pos : Pos} {args : List Expr} {x dx f : Addr} {d d' : D} {ds ds' : List D} {fd : FuncData} {y : Option Value} {es : List D} {pre post : List (Addr × MO)} {R : Value → Gh → Prop} {Q : Value → Gh → Prop}
  (F : Frm K b S' fn cs env nm σ (pre ++ (AccOwn x dx d ds ++ post)) g) (r : Room A n) (hf : M_Ac name = some (.ref f)) (hfn : FnB K.B f fd) (hB : typeLookup (.type "list") name = pure y)
  (ho : Pe K n g (eval o env) (.raw (.ref x))) (hargs : Pes K n g args env pos es) (hv : name ≠ Str.ofString "_initial_size")
  (h : ∀ vs g', Le g g' → Reps g'.im es vs → Holds (AccOwn x dx d ds) g' → [x, dx].Nodup → gwp K A (call (.ref f) (.ref x :: vs)) (fun u g'' => R u g'' ∧ LeX [x, dx] g' g'' ∧ Holds (AccOwn x dx d' ds') g'') g')
  (k : ∀ u g', LeX [x, dx] g g' → R u g' → Frm K b S' fn cs env nm σ (pre ++ (AccOwn x dx d' ds' ++ post)) g' → Q u g')
  (hb : attributeBase o name env (eval o env) = eval o env := by rfl)
  (hline : (apos.endLine == pos.line) = true := by rfl)
  (hfew : ((backTo pos (starEach args env)).all (fun x => !x.1) && (backToKw pos (keywordEach [] env)).all (fun x => x.1.isSome)
   && decide (args.length + ([] : List Keyword).length + (if ([] : List Keyword).isEmpty then 0 else 1) < 30)) = true := by rfl)
  (hp : (backTo pos (starEach args env)).any (·.1) = false := by rfl) : gwp K A (eval (.Call (.Attribute o name apos) args [] pos) env) Q g := by
 have hh := F.holdsAt
 obtain ⟨ox, x1, its, m, rfl, x2⟩ := hh (x, MO.lsub C_Ac dx ds) (by exact .head _)
 obtain ⟨od, d1, d2⟩ := hh (dx, MO.inst (accL d)) (by exact .tail _ (.head _))
 have hnd : [x, dx].Nodup := by
  have := F.apart
  rw [List.map_append, List.map_append] at this
  have h2 := (List.nodup_append.mp (List.nodup_append.mp (List.nodup_append.mp this).2.1).2.1).1
  simpa [AccOwn] using h2
 refine gwp_methS r X.k_Ac acc_ga acc_gh hf hfn hB ho x1 d1 d2 (by simpa [accL] using hv) hargs (fun vs g' l rs => gM0_3 (h vs g' l rs (fun p hp => ?_) hnd) fun u g'' hR l2 hH => k u g'' ((LeX.of l).trans l2) hR ?_) hb hline hfew hp
 ·obtain ⟨o, e1, e2⟩ := hh p hp
  exact ⟨o, l.at e1, p.2.mono _ _ _ l.im e2⟩
 ·exact (F.up l).advAt (ms := AccOwn x dx d ds) l2 rfl hH acc_cell
noncomputable def stepW {γ : Type} (f m : Nat) (ws : List γ) : List γ := ws.drop (f + m) ++ (ws.take (f + m)).drop f ++ ws.take f
noncomputable def rowAt {γ : Type} (f m : Nat) (ws : List γ) : Nat → List γ
 | 0 => ws
 | h + 1 => stepW f m (rowAt f m ws h)
theorem stepW_len {γ : Type} {f m : Nat} {ws : List γ} : (stepW f m ws).length = ws.length := by
 have e : ws.take f = (ws.take (f + m)).take f := by rw [List.take_take, Nat.min_eq_left (Nat.le_add_right ..)]
 rw [stepW, e, List.length_append, List.length_append, Nat.add_assoc, Nat.add_comm (List.drop f (List.take (f + m) ws)).length, ← List.length_append, List.take_append_drop, Nat.add_comm, ← List.length_append, List.take_append_drop]
theorem Z111 {γ : Type} {f m : Nat} {ws : List γ} (h : Nat) : (rowAt f m ws h).length = ws.length := by
 induction h with
 | zero => rfl
 | succ h ih => rw [rowAt, stepW_len, ih]
theorem rowAt_mem {γ : Type} {f m : Nat} {ws : List γ} (h : Nat) {w : γ} (hw : w ∈ rowAt f m ws h) : w ∈ ws := by
 induction h with
 | zero => exact hw
 | succ h ih =>
  rw [rowAt, stepW] at hw
  refine ih ?_
  simp only [List.mem_append] at hw
  rcases hw with (hw | hw) | hw
  ·exact List.mem_of_mem_drop hw
  ·exact List.mem_of_mem_take (List.mem_of_mem_drop hw)
  ·exact List.mem_of_mem_take hw
theorem rowAt_map {γ δ : Type} (e : γ → δ) (f m : Nat) (ws : List γ) (h : Nat) : rowAt f m (ws.map e) h = (rowAt f m ws h).map e := by
 induction h with
 | zero => rfl
 | succ h ih => simp only [rowAt, ih, stepW, List.map_append, List.map_drop, List.map_take]
noncomputable def pieceW (w : List Nat) : List Nat × List Nat := ([32], w)
noncomputable def rowD (f m : Nat) (ws : List (List Nat)) (h : Nat) : D := .tup [.lst ((rowAt f m ws h).map .str), .int ((if h = 0 then (ws.length : Int) else 0) + (((rowAt f m ws h).map pieceW).map pieceLen).sum)]
noncomputable def rowsD (f m : Nat) (ws : List (List Nat)) (h : Nat) : List D := (List.range h).map (rowD f m ws)
theorem rowsD_succ (f m : Nat) (ws : List (List Nat)) (h : Nat) : rowsD f m ws (h + 1) = rowsD f m ws h ++ [rowD f m ws h] := by simp [rowsD, List.range_succ]
theorem w_law_rows (X : WX K) {ws : List (List Nat)} {f m hours : Nat} (hn : ws.length ≤ 100) (hw : ∀ w ∈ ws, w.length ≤ 100) (hfm : f + m ≤ ws.length) (hh : hours ≤ 1000) :
  CallSem K (n + 9) g (.ref a_lr) [.lst (ws.map .str), .int f, .int m, .int hours] (.lst (rowsD f m ws (hours + 1))) := fun g _ vs hvs A r g₁ l => by
 refine cps fun Q₀ k₀ => ?_
 obtain ⟨v1, v2, v3, v4, rfl, r1, r2, r3, r4⟩ := reps4 hvs
 refine Z14 (n := n + 7) (fn := []) (S' := []) (binds := [("words", v1), ("first", v2), ("middle", v3), ("hours", v4)]) (bi := [(0, .lst (ws.map .str)), (1, .int f), (2, .int m), (3, .int hours)]) X.f_lr r (Z15 (by rfl)) ok_lr so_lr (Z3 X.gt gi_lr)
  ⟨.inl rfl, r1.le l, .inl rfl, r2.le l, .inl rfl, r3.le l, .inl rfl, r4.le l, trivial⟩ fun A' L cells cs g' r' H => ?_
 refine gx_swap2' r'.1 (gwp_Tuple2 (Z33 ((pn H 10).useR r' fun g₂ l₂ => ?_)))
 replace H := H.up l₂
 refine Z105 X.k_Ac rfl (Z7 rfl ((Z2 (Z73 (d := .int (ws.map D.str).length) (pn H 11) (fun a z => by cases z) (Z2 (pn H 0) Z5) (Z127 (by simp; lia))) Z5).use r' fun vs g₃ l₃ rs => ?_))
 obtain ⟨u, rfl, hu⟩ := reps1 rs
 replace H := H.up l₃
 refine gM2_6 (Z287 X (n := n) (r'.sub (by exact Nat.add_le_add_left (by decide) _)) hu) fun v g₄ x dx hv hnd hx hdx l₄ hH => ?_
 subst hv
 have hbm : ∀ a, g₃.mu a = none → g₁.mu a = none := fun a h => have z : Le g₁ g₃ := H.le; z.nomu h
 replace H := (H.up l₄).adopt H hH hnd (fun a ha => by simp [AccOwn] at ha; rcases ha with rfl | rfl <;> assumption) (fun a ha => .inr (by simp [AccOwn] at ha; rcases ha with rfl | rfl <;> exact hbm _ (by assumption)))
 refine Z186 (Z5 (K := K) (n := n + 7)) r' (by decide) fun ra g₅ its l₅ hi hm hr => ?_
 replace H := H.up l₅
 have hbr : g₁.mu ra = none := have z : Le g₁ g₅ := H.le; z.nomu hm
 replace H := (H.up (Le.addMu hm)).adopt (ms := [(ra, MO.list [])]) H (all1 ⟨_, Gh.setMu_self, its, 0, rfl, hr⟩) (by simp) (all1 (hm)) (fun a ha => .inr (by simp at ha; subst ha; exact hbr))
 rw [List.length_map] at H
 replace H := H.perm (own' := [] ++ (AccOwn x dx (.int ws.length) [] ++ [(ra, MO.list [])])) (by
  rw [List.nil_append, List.append_nil]
  exact List.perm_append_comm)
 refine ⟨.raw (.ref x), .raw (.ref ra), Z27, Z27, fun T g₆ l₆ hT => ⟨_, _, hT, fun u w g₇ l₇ hu hw' => ?_⟩⟩
 refine ((H.up l₆).up l₇).storeLocal (i := 5) rfl hw' fun g₈ l₈ H => ?_
 refine H.storeLocal (i := 4) rfl (hu.mono l₈.im) fun g₉ l₉ H => ?_
 have hwl : ∀ w ∈ ws, w.length ≤ 10000 := fun w h => by have := hw w h; lia
 let S0 : List (Option D) := [some (.lst (ws.map .str)), some (.int f), some (.int m), some (.int hours), some (.raw (.ref x)), some (.raw (.ref ra)), none, none, none, none, some (.raw (.ref C_Ac)), some (.raw (.builtin "len")), some (.raw (.type "range"))]
 refine Z143 (X := List (List Nat)) H (fun _ _ => S0) (fun _ done => AccOwn x dx (.int ws.length) ((done.map pieceW).map pieceD) ++ [(ra, MO.list [])]) (fun rest done => ∃ todo, rest = todo.map .str ∧ done ++ todo = ws) (ds := ws.map .str) [] r' (Z50 (pn H 0)) ?_ ⟨ws, rfl, rfl⟩ ?_ ?_
 ·exact H.lessL (by repeat (first | exact trivial | refine And.intro rfl ?_))
 ·rintro d rest done ms g v ⟨todo, e1, e2⟩ H rv
  cases todo with
  | nil => simp at e1
  | cons w todo =>
   simp only [List.map_cons, List.cons.injEq] at e1
   obtain ⟨rfl, rfl⟩ := e1
   refine Z12 (H.storeLocal (i := 6) rfl rv fun g₆ l₆ H => ?_)
   have hdl : done.length ≤ 100 := by rw [← e2] at hn; simp at hn; lia
   refine Z10 (Z92 (Z215 X (d' := .int ws.length) (ds' := ((done ++ [w]).map pieceW).map pieceD) (R := fun u _ => u = .none) H r' acc_push X.f_Ac_push ls_push (pn H 4) (Z2 (Z31 (l := [32]) rfl) (Z2 (pn H 6) Z5)) (by decide) (fun vs g' l rs hH hnd => ?_) fun u g' l hu H => ⟨fun a z => (by subst hu; cases z), Z43 ⟨done ++ [w], ⟨todo, rfl, by simpa using e2⟩, ?_⟩⟩) H.inter)
   ·obtain ⟨v1, v2, rfl, r1, r2⟩ := reps2 rs
    have := w_acc_push X (n := n) (r'.sub (by exact Nat.add_le_add_left (by decide) _)) hH hnd (by simp; lia) r1 r2
    rw [List.map_append, List.map_append]
    exact this
   ·exact H.lessL (by repeat (first | exact trivial | refine And.intro rfl ?_))
 rintro done g₁₀ ⟨todo, e1, e2⟩ H
 have : todo = [] := by cases todo with | nil => rfl | cons w t => simp at e1
 subst this
 rw [List.append_nil] at e2
 subst e2
 let cnt : Nat → Int := fun h => if h = 0 then (done.length : Int) else 0
 let P : Nat → List D := fun h => ((rowAt f m done h).map pieceW).map pieceD
 have hPl : ∀ h, (P h).length = done.length := fun h => by simp [P, Z111]
 refine Z143 (X := Nat) H (fun _ _ => S0) (fun _ h => AccOwn x dx (.int (cnt h)) (P h) ++ [(ra, MO.list (rowsD f m done h))]) (fun rest h => h + rest.length = hours + 1) (ds := rgD 0 ((hours : Int) + 1).toNat) 0 r' (Z47 (pn H 12) (Z8 (pn H 3) Z11 Z32) (by lia) (by lia)) ?_ (by rw [Z80]; lia) ?_ ?_
 ·exact H
 ·intro d rest h ms g v hP H rv
  refine Z12 (H.storeLocal (i := 7) rfl rv fun g₆ l₆ H => ?_)
  have hh := H.holdsAt
  obtain ⟨ox, x1, its, mm, rfl, x2⟩ := hh (x, MO.lsub C_Ac dx (P h)) (by exact .head _)
  obtain ⟨od, d1, d2⟩ := hh (dx, MO.inst (accL (.int (cnt h)))) (by exact .tail _ (.head _))
  have H1 := H.perm (own' := (ra, MO.list (rowsD f m done h)) :: (ms ++ AccOwn x dx (.int (cnt h)) (P h))) (by
   rw [← List.append_assoc]
   exact List.perm_append_comm)
  have hc0 : 0 ≤ cnt h ∧ cnt h ≤ 1000000 := by simp only [cnt]; split <;> lia
  refine Z164 (d := rowD f m done h) H1 r' (pn H1 5) (Z38 (Z2 (d := .lst ((rowAt f m done h).map .str)) ?_ (Z2 (d := .int (cnt h + (((rowAt f m done h).map pieceW).map pieceLen).sum)) ?_ Z5))) (by simp [rowsD]; exact le_sl (by lia)) fun g₇ l₇ H2 => ?_
  ·refine (Z51 (p := fun _ => true) (f := fun d => match d with | .tup [_, w] => w | d => d) H1 (pit_sub X.k_Ac acc_it (pn H1 4) x1 x2) (all1 ⟨_, x1⟩) (CompP.pair (mkSrcs GT [.no, .no, .no]) 1 2 (by decide) (by decide +kernel) (Z3 X.gt (by decide +kernel)) (.inl (by decide +kernel)) rfl (.inl (by decide +kernel)) rfl (fun d hd => ?_) fun e1 e2 hd b g' env' cs' lb lb' F henv => ?_) (by rw [hPl]; exact le_sl (by lia))).is ?_
   ·obtain ⟨p, hp, rfl⟩ := List.mem_map.mp hd
    exact ⟨_, _, rfl⟩
   ·obtain ⟨L', cells', rfl⟩ := henv
    exact ⟨Z21, fun _ => pn F 2⟩
   ·rw [List.filter_eq_self.mpr (fun _ _ => rfl)]
    simp [P, List.map_map, Function.comp_def, pieceD, pieceW]
  ·refine Z73 (pn H1 11) (fun a z => by cases z) (Z2 (pn H1 4) Z5) (pe_lenAcc0 X (n := n) x1 x2 d1 d2 (by rw [List.length_map, Z111]; lia) (fun p hp => ?_) hc0 ls_len)
   obtain ⟨w, hw', rfl⟩ := List.mem_map.mp hp
   exact ⟨by simp [pieceW], hwl w (rowAt_mem h hw')⟩
  rw [← rowsD_succ] at H2
  replace H := H2.perm (own' := ms ++ (AccOwn x dx (.int (cnt h)) (P h) ++ [(ra, MO.list (rowsD f m done (h + 1)))])) (by
   rw [← List.append_assoc]
   exact (List.perm_append_comm (l₁ := [(ra, MO.list (rowsD f m done (h + 1)))])))
  refine Z10 (Z34 (Z215 X (d' := .int (cnt h)) (ds' := (P h).take (f + m)) (R := fun u g => Rep g.im (.lst ((P h).drop (f + m))) u) H r' Z204 X.f_Ac_pf Z231 (pn H 4) (Z2 (Z8 (pn H 1) (pn H 2) Z32) Z5) (by decide) (fun vs g' l rs hH hnd => ?_) fun u g' l hu H => H.storeLocal (i := 8) rfl hu fun g₈ l₈ H => ?_))
  ·obtain ⟨v1, rfl, r1⟩ := reps1 rs
   exact Z129 X (n := n) (i := f + m) (r'.sub (by exact Nat.add_le_add_left (by decide) _)) hH hnd (by rw [hPl]; lia) (by rw [hPl]; lia) r1
  refine Z10 (Z34 (Z215 X (d' := .int (cnt h)) (ds' := ((P h).take (f + m)).take f) (R := fun u g => Rep g.im (.lst (((P h).take (f + m)).drop f)) u) H r' Z204 X.f_Ac_pf Z231 (pn H 4) (Z2 (pn H 1) Z5) (by decide) (fun vs g' l rs hH hnd => ?_) fun u g' l hu H => H.storeLocal (i := 9) rfl hu fun g₈ l₈ H => ?_))
  ·obtain ⟨v1, rfl, r1⟩ := reps1 rs
   exact Z129 X (n := n) (i := f) (r'.sub (by exact Nat.add_le_add_left (by decide) _)) hH hnd (by rw [List.length_take, hPl]; lia) (by rw [List.length_take, hPl]; lia) r1
  have hstep : P (h + 1) = (P h).drop (f + m) ++ ((P h).take (f + m)).drop f ++ ((P h).take (f + m)).take f := by
   simp only [P, rowAt, stepW, List.map_append, List.map_drop, List.map_take]
   rw [List.take_take, Nat.min_eq_left (by exact Nat.le_add_right _ _)]
  have hh' := H.holdsAt
  obtain ⟨ox', y1, its', mm', rfl, y2⟩ := hh' (x, MO.lsub C_Ac dx (((P h).take (f + m)).take f)) (by exact .head _)
  refine Z10 (Z92 (Z215 X (d' := .int 0) (ds' := P (h + 1)) (R := fun u _ => u = .none) H r' acc_reset X.f_Ac_reset ls_reset (pn H 4) (es := [.lst (P (h + 1))]) (Z2 ((Z8 (Z8 (pn H 8) (pn H 9) (Z226 ?_)) (d₂ := .lst (((P h).take (f + m)).take f)) ?_ (Z226 ?_)).is (by rw [hstep])) Z5) (by decide) (fun vs g' l rs hH hnd => ?_) fun u g' l hu H => ⟨fun a z => (by subst hu; cases z), Z43 ⟨h + 1, by simp at hP ⊢; lia, ?_⟩⟩) H.inter)
  ·exact le_sl (by simp only [List.length_drop, List.length_take, hPl]; lia)
  ·refine (Z51 (p := fun _ => true) (f := id) H (pit_sub X.k_Ac acc_it (pn H 4) y1 y2) (all1 ⟨_, y1⟩) (CompP.name (mkSrcs GT [.no, .no]) 1 (by decide +kernel) (Z3 X.gt (by decide +kernel)) (.inl (by decide +kernel)) rfl fun d hd b g' env' cs' lb lb' F _ _ henv => ?_) (by exact le_sl (by simp only [List.length_take, hPl]; lia))).is ?_
   ·obtain ⟨L', cells', rfl⟩ := henv
    exact ⟨Z21, fun _ => pn F 1⟩
   ·rw [List.filter_eq_self.mpr (fun _ _ => rfl), List.map_id]
  ·exact le_sl (by simp only [List.length_append, List.length_drop, List.length_take, hPl]; lia)
  ·obtain ⟨v1, rfl, r1⟩ := reps1 rs
   exact w_acc_reset X (n := n) (r'.sub (by exact Nat.add_le_add_left (by decide) _)) hH hnd (by simp only [List.length_take, hPl]; lia) (by rw [hPl]; lia) r1
  ·have hc : cnt (h + 1) = 0 := by exact rfl
   show Frm K g₁ [] [] cs _ _ S0 (ms ++ (AccOwn x dx (.int (cnt (h + 1))) (P (h + 1)) ++ [(ra, MO.list (rowsD f m done (h + 1)))])) _
   rw [hc]
   exact H.lessL (by repeat (first | exact trivial | refine And.intro rfl ?_))
 intro h g hP H
 have : h = hours + 1 := by exact hP
 subst this
 have H1 := H.perm (own' := (ra, MO.list (rowsD f m done (hours + 1))) :: AccOwn x dx (.int (cnt (hours + 1))) (P (hours + 1))) List.perm_append_comm
 refine Z214 H1 fun g' l' H hr => ?_
 refine Z46 r' (pn H 5) fun v g'' l'' p => ?_
 have := Z22 p; subst this
 exact k₀ _ _ ⟨H.le.trans l'', hr.le l''⟩
theorem reps5 {im : Im} {d e f h i : D} {vs : List Value} (z : Reps im [d, e, f, h, i] vs) : ∃ v w x y u, vs = [v, w, x, y, u] ∧ Rep im d v ∧ Rep im e w ∧ Rep im f x ∧ Rep im h y ∧ Rep im i u := E2_3 (repsC z) fun v _ e r z => E4_5 (reps4 z) fun w x y u e' q p o a => ⟨v, w, x, y, u, e.trans (congrArg _ e'), r, q, p, o, a⟩
theorem gwp_monoOk {t : Sem α} {Q Q' : α → Gh → Prop} (h : gwp K A t Q g) (hq : ∀ v g', (∃ s, g'.Ok K.B s) → Q v g' → Q' v g') : gwp K A t Q' g := fun s E ok =>
 wM1_2 (h s E ok) (fun v s' g' ok' q => ⟨g', ok', hq v g' ⟨s', ok'⟩ q⟩)
theorem Z98 (X : WX K) {o : Expr} {name : Str} {apos pos : Pos} {args : List Expr} {x dx pb lf fs f : Addr} {ln : Int} {chars : List Nat} {pbs : List D} {fd : FuncData} {y : Option Value} {Q : Value → Gh → Prop}
  (hH : Holds (LexOwn x dx pb lf fs ln chars pbs) g) (hnd : [x, dx, pb, lf].Nodup) (r : Room A n) (hf : M_nl name = some (.ref f)) (hfn : FnB K.B f fd) (hB : typeLookup (.type "object") name = pure y) (hv : name ∉ (lexL ln fs pb).map (·.1))
  (ho : Pe K n g (eval o env) (.raw (.ref x)))
  (h : ∀ g₁, Le g g₁ → gwp K A (spliced (backTo pos (starEach args env))) (fun vs g₂ => gwp K A (call (.ref f) (.ref x :: vs)) Q g₂) g₁)
  (hb : attributeBase o name env (eval o env) = eval o env := by rfl)
  (hline : (apos.endLine == pos.line) = true := by rfl)
  (hfew : ((backTo pos (starEach args env)).all (fun x => !x.1) && (backToKw pos (keywordEach [] env)).all (fun x => x.1.isSome)
   && decide (args.length + ([] : List Keyword).length + (if ([] : List Keyword).isEmpty then 0 else 1) < 30)) = true := by rfl)
  (hp : (backTo pos (starEach args env)).any (·.1) = false := by rfl) : gwp K A (eval (.Call (.Attribute o name apos) args [] pos) env) Q g := by
 refine Z61 ?_ hline hfew
 rw [hb]
 refine ho.use r fun ov g₁ l₁ p' pl => ?_
 have := Z22 p'; subst this
 have hne : dx ≠ x := nd_ne hnd
 obtain ⟨ox, x1, x2⟩ := hH (x, MO.obj (instObj C_nl dx)) (by exact .head _)
 obtain ⟨od, d1, d2⟩ := hH (dx, MO.inst (lexL ln fs pb)) (by exact .tail _ (.head _))
 have hxo : ox = instObj C_nl dx := x2
 clear x2 p' hfew hline hb ho hnd hH; subst hxo
 refine Z169 X.k_nl Z115 lex_gh hf hfn hB (l₁.at x1) (l₁.at d1) ((MO.inst _).mono _ _ _ l₁.im d2) hne hv ?_
 obtain ⟨of, f1, f2, f3⟩ := hfn.obj
 refine Z103 fun z₀ => E1_1 z₀ fun s ok => ?_
 obtain ⟨of', f1', f2'⟩ := (hfn.at ok).obj
 have hof : g₁.has f of := .inl (ok.base _ _ f1)
 exact Z26 hof f2 (Z7 hp (gwp_monoOk (h g₁ l₁) fun vs g₂ z₀ h₂ => E1_1 z₀ fun s' ok' => ⟨.inl (ok'.base _ _ f1), h₂⟩))
theorem Z274 {ln : Int} {fs pb : Addr} : Str.ofString "get_token" ∉ (lexL ln fs pb).map (·.1) := by
 show Str.ofString "get_token" ∉ [Str.ofString "lineno", Str.ofString "instream", Str.ofString "whitespace", Str.ofString "pushback"]
 decide +kernel
theorem Z234 {ln : Int} {fs pb : Addr} : Str.ofString "push_token" ∉ (lexL ln fs pb).map (·.1) := by
 show Str.ofString "push_token" ∉ [Str.ofString "lineno", Str.ofString "instream", Str.ofString "whitespace", Str.ofString "pushback"]
 decide +kernel
theorem Holds.le {l : List (Addr × MO)} {g' : Gh} (h : Holds l g) (le : Le g g') : Holds l g' := h.up le (by exact all0)
theorem Frm.ndAt {pre ms post : List (Addr × MO)} (F : Frm K b S' fn cs env nm σ (pre ++ (ms ++ post)) g) : (ms.map (·.1)).Nodup := by
 have := F.apart
 rw [List.map_append, List.map_append] at this
 exact (List.nodup_append.mp (List.nodup_append.mp (List.nodup_append.mp this).2.1).2.1).1
theorem cs_listMu {a : Addr} {its : Array Value} {m : Nat} {ds : List D} (ha : g.mu a = some (sq "list" its m)) (hr : Reps g.im ds its.toList) (hsz : its.size ≤ sizeLine) : CallSem K n g (.type "list") [.raw (.ref a)] (.lst ds) := fun g₁ l vs h A r g₂ l₂ => by
 obtain ⟨v, rfl, h1⟩ := reps1 h
 have := Z22 h1; subst this
 have l' : Le g g₂ := l.trans l₂
 exact gwp_listMu (l'.at ha) (hr.le l') hsz fun v g₃ l₃ p => ⟨l₃, p⟩
theorem gwp_fixS {t : Sem α} {Q : α → Gh → Prop} {a : Addr} {ds : List D} (F : Frm K b S' fn cs env nm σ ((a, MO.list ds) :: own) g) (k : ∀ g', LeX [a] g g' → Frm K b S' fn cs env nm σ own g' → Rep g'.im (.lst ds) (.ref a) → gwp K A t Q g') : gwp K A t Q g := Z103 fun z₀ => E1_1 z₀ fun s ok => by
 obtain ⟨o, e, its, m, rfl, hr⟩ := F.own1
 have hi : g.im a = none := by
  cases e' : g.im a with
  | none => rfl
  | some o => exact (ok.dis _ _ _ e' e).elim
 exact gwp_fix e (k _ (LeX.fix hi) (Frm.lose (ms := [(a, MO.list ds)]) F (LeX.fix hi) (fun p hp o w => by clear k F; simp at hp; subst hp; exact MO.list_cell o w)) (Z16.mpr ⟨a, its, m, rfl, Gh.fix_self, hr.mono (LeX.fix hi).im⟩))
noncomputable def rot1 {γ : Type} : List γ → List γ
 | [] => []
 | a :: l => l ++ [a]
noncomputable def rotN {γ : Type} : Nat → List γ → List γ
 | 0, q => q
 | t + 1, q => rot1 (rotN t q)
theorem rotN_len {γ : Type} (t : Nat) (q : List γ) : (rotN t q).length = q.length := by
 induction t with
 | zero => rfl
 | succ t ih => rw [rotN, ← ih]; cases rotN t q <;> simp [rot1]
theorem rotN_map {γ δ : Type} (e : γ → δ) (t : Nat) (q : List γ) : rotN t (q.map e) = (rotN t q).map e := by
 induction t with
 | zero => rfl
 | succ t ih => rw [rotN, ih, rotN]; cases rotN t q <;> simp [rot1]
noncomputable def lineAt {γ : Type} (k : Nat) (q : List γ) : Nat → List γ
 | 0 => q
 | h + 1 => rotN k (lineAt k q h)
theorem Z273 {γ : Type} (k : Nat) (q : List γ) (h : Nat) : (lineAt k q h).length = q.length := by
 induction h with
 | zero => rfl
 | succ h ih => rw [lineAt, rotN_len, ih]
theorem Z123 {γ δ : Type} (e : γ → δ) (k : Nat) (q : List γ) (h : Nat) : lineAt k (q.map e) h = (lineAt k q h).map e := by
 induction h with
 | zero => rfl
 | succ h ih => simp only [lineAt, ih, rotN_map]
noncomputable def linesD (k : Nat) (q : List D) (h : Nat) : List D := (List.range h).map fun h => .lst (lineAt k q h)
theorem linesD_succ (k : Nat) (q : List D) (h : Nat) : linesD k q (h + 1) = linesD k q h ++ [.lst (lineAt k q h)] := by simp [linesD, List.range_succ]
theorem Z193 (m : Nat) : (List.replicate m [D.str []]).flatten = List.replicate m (D.str []) := by
 induction m with
 | zero => rfl
 | succ m ih => rw [List.replicate_succ, List.flatten_cons, ih]; rfl
theorem w_law_lines (X : WX K) {x dx pb lf fs : Addr} {ln : Int} {chars : List Nat} {ws : List (List Nat)} {f m turns : Nat} {v1 v2 v3 v4 : Value} (r : Room A (n + 9)) (hH : Holds (LexOwn x dx pb lf fs ln chars []) g) (hnd : [x, dx, pb, lf].Nodup) (hw0 : ws ≠ []) (hn : ws.length + m ≤ 1000) (hfm : f + m ≤ 1000) (hh : turns ≤ 10000)
  (r1 : Rep g.im (.lst (ws.map .str)) v1) (r2 : Rep g.im (.int f) v2) (r3 : Rep g.im (.int m) v3) (r4 : Rep g.im (.int turns) v4) :
  gwp K A (call (.ref a_ll) [.ref x, v1, v2, v3, v4]) (fun u g' => Rep g'.im (.lst (linesD (f + m) ((ws ++ List.replicate m []).map .str) (turns + 1))) u ∧ LeX [x, dx, pb, lf] g g' ∧ ∃ pbs, Holds (LexOwn x dx pb lf fs ln chars pbs) g') g := by
 refine cps fun Q₀ k₀ => ?_
 refine Z14 (n := n + 7) (fn := []) (S' := []) (binds := [("desk", .ref x), ("words", v1), ("first", v2), ("middle", v3), ("turns", v4)]) (bi := [(0, .raw (.ref x)), (1, .lst (ws.map .str)), (2, .int f), (3, .int m), (4, .int turns)]) X.f_ll r (Z15 (by rfl)) ok_ll so_ll (Z3 X.gt gi_ll)
  ⟨.inl rfl, Z27, .inl rfl, r1, .inl rfl, r2, .inl rfl, r3, .inl rfl, r4, trivial⟩ fun A' L cells cs g' r' H => ?_
 replace H := H.adoptB hH hnd
 obtain ⟨q, hq⟩ : ∃ q : List D, q = (ws ++ List.replicate m []).map .str := ⟨_, rfl⟩
 have hql : q.length = ws.length + m := by rw [hq]; simp
 have hq0 : q.length ≠ 0 := by rw [hql]; have := List.length_pos_iff.mpr hw0; lia
 rw [← hq] at k₀
 refine Z276 H r' (i := 5) rfl Z5 (by decide) fun ra g₂ l₂ hra H => ?_
 let S0 : List (Option D) := [some (.raw (.ref x)), some (.lst (ws.map .str)), some (.int f), some (.int m), some (.int turns), some (.raw (.ref ra)), none, none, none, some (.raw (.type "range")), some (.raw (.type "list"))]
 refine Z143 (X := List D) H (fun _ _ => S0) (fun _ done => [(ra, MO.list [])] ++ LexOwn x dx pb lf fs ln chars done) (fun rest done => done ++ rest = q) (ds := q) [] r' (Z50 ?_) ?_ (by exact rfl) ?_ ?_
 ·refine (Z8 (pn H 1) (Z8 (Z179 (Z2 (Z31 (l := []) rfl) Z5)) (pn H 3) (op_lmul (l := [.str []]) (x := (m : Int)) (by lia) (by lia) (by simp; lia))) (Z226 ?_)).is ?_
  ·rw [Int.toNat_natCast, Z193]; simp; exact le_sl (by lia)
  ·rw [Int.toNat_natCast, Z193, hq]; simp
 ·exact H.lessL (by repeat (first | exact trivial | refine And.intro rfl ?_))
 ·rintro d rest done ms g v e1 H rv
  refine Z12 (H.storeLocal (i := 6) rfl rv fun g₆ l₆ H => ?_)
  have hdl : done.length ≤ 10000 := by rw [← e1] at hql; simp at hql; lia
  replace H := H.perm (own' := (ms ++ [(ra, MO.list [])]) ++ (LexOwn x dx pb lf fs ln chars done ++ [])) (by simp only [List.append_nil, List.append_assoc]; exact List.Perm.refl _)
  refine Z10 (Z92 (Z98 X H.holdsAt H.ndAt r' Z132 X.f_nl_pt ob_pt Z234 (pn H 0) (fun g₇ l₇ => (Z2 (pn (H.up l₇) 6) Z5).use r' fun vs g₈ l₈ rs => ?_)) H.inter)
  obtain ⟨v1, rfl, h1⟩ := reps1 rs
  replace H := (H.up l₇).up l₈
  refine gM0_3 (Z190 X (n := n) (r'.sub (by exact Nat.add_le_add_left (by decide) _)) H.holdsAt H.ndAt hdl h1) fun u g₉ hu l₉ hH' => ⟨fun a z => (by clear hH' l₉ H rs l₆ e1 l₂ hql hq r' hfm hn hnd r; subst hu; cases z), Z43 ⟨done ++ [d], by simpa using e1, ?_⟩⟩
  replace H := H.advAt (ms' := LexOwn x dx pb lf fs ln chars (done ++ [d])) l₉ rfl hH' Z52
  refine (H.perm (own' := ms ++ ([(ra, MO.list [])] ++ LexOwn x dx pb lf fs ln chars (done ++ [d]))) (by simp only [List.append_nil, List.append_assoc]; exact List.Perm.refl _)).lessL (by repeat (first | exact trivial | refine And.intro rfl ?_))
 rintro done g₁₀ e1 H
 rw [List.append_nil] at e1
 subst e1
 refine Z143 (X := Nat) H (fun _ _ => S0) (fun _ h => [(ra, MO.list (linesD (f + m) done h))] ++ LexOwn x dx pb lf fs ln chars (lineAt (f + m) done h)) (fun rest h => h + rest.length = turns + 1) (ds := rgD 0 ((turns : Int) + 1).toNat) 0 r' (Z47 (pn H 9) (Z8 (pn H 4) Z11 Z32) (by lia) (by lia)) H (by rw [Z80]; lia) ?_ ?_
 ·intro d rest h ms g v hP H rv
  refine Z12 (H.storeLocal (i := 7) rfl rv fun g₆ l₆ H => ?_)
  have hcl : (lineAt (f + m) done h).length = done.length := Z273 _ _ _
  have H1 := H.perm (own' := LexOwn x dx pb lf fs ln chars (lineAt (f + m) done h) ++ (ms ++ [(ra, MO.list (linesD (f + m) done h))])) (by rw [← List.append_assoc]; exact List.perm_append_comm)
  have H2 := H.perm (own' := (ra, MO.list (linesD (f + m) done h)) :: (ms ++ LexOwn x dx pb lf fs ln chars (lineAt (f + m) done h))) List.perm_middle
  have hne : dx ≠ x := nd_ne hnd
  obtain ⟨op, p1, its, mm, rfl, p2⟩ := H1.at (i := 2) rfl
  have pa : ∀ {pos pos' : Pos}, Pe K (n + 7) g₆ (eval (.Attribute (.Name "desk" pos) "pushback" pos') _) (.raw (.ref pb)) := Z139 H1 X.k_nl Z115 Z68 Z81 (i := 0) (j := 1) (d := .raw (.ref pb)) rfl rfl hne (by exact .tail _ (.tail _ (.tail _ (.head _)))) (pn H1 0)
  refine Z164 (d := .lst (lineAt (f + m) done h)) H2 r' (pn H2 5) (Z73 (pn H2 10) (fun a z => by clear pa p2 H2 H1 hcl H l₆ hP hql hq l₂ r' hfm hn hnd r; cases z) (Z2 pa Z5) (cs_listMu p1 p2 (by rw [← Array.length_toList, p2.length, hcl, hql]; exact le_sl (by lia)))) (by simp [linesD]; exact le_sl (by clear pa p2 H2 H1 hcl H l₆ hql hq l₂ r' hfm hn hnd r; simp at hP; lia)) fun g₇ l₇ H => ?_
  rw [← linesD_succ] at H
  replace H := H.perm (own' := ms ++ ([(ra, MO.list (linesD (f + m) done (h + 1)))] ++ LexOwn x dx pb lf fs ln chars (lineAt (f + m) done h))) List.perm_middle.symm
  refine Z143 (X := Nat) H (fun _ _ => S0) (fun _ t => ms ++ ([(ra, MO.list (linesD (f + m) done (h + 1)))] ++ LexOwn x dx pb lf fs ln chars (rotN t (lineAt (f + m) done h)))) (fun rest t => t + rest.length = f + m) (ds := rgD 0 ((f : Int) + m).toNat) 0 r' (Z47 (pn H 9) (Z8 (pn H 2) (pn H 3) Z32) (by lia) (by lia)) ?_ (by rw [Z80]; lia) ?_ ?_
  ·exact H.lessL (by repeat (first | exact trivial | refine And.intro rfl ?_))
  ·intro d rest t ms' g v hPt H rv
   refine Z12 (H.storeLocal (i := 8) rfl rv fun g₆ l₆ H => ?_)
   have htl : (rotN t (lineAt (f + m) done h)).length = done.length := by rw [rotN_len, hcl]
   obtain ⟨d₀, ql, hcur⟩ : ∃ d₀ ql, rotN t (lineAt (f + m) done h) = d₀ :: ql := by
    cases e : rotN t (lineAt (f + m) done h) with
    | nil => rw [e] at htl; simp at htl; lia
    | cons d₀ ql => exact ⟨_, _, rfl⟩
   have hnext : rotN (t + 1) (lineAt (f + m) done h) = ql ++ [d₀] := by rw [rotN, hcur]; rfl
   rw [hcur] at H htl
   have hqs : ql.length ≤ 10000 := by rw [List.length_cons] at htl; lia
   replace H := H.perm (own' := (ms' ++ (ms ++ [(ra, MO.list (linesD (f + m) done (h + 1)))])) ++ (LexOwn x dx pb lf fs ln chars (d₀ :: ql) ++ [])) (by simp only [List.append_nil, List.append_assoc]; exact List.Perm.refl _)
   refine Z10 (Z92 (Z98 X H.holdsAt H.ndAt r' Z132 X.f_nl_pt ob_pt Z234 (pn H 0) (fun g₇ l₇ => Z13 ?_)) H.inter)
   replace H := H.up l₇
   refine Z98 X H.holdsAt H.ndAt r' Z163 X.f_nl_gt ob_gt Z274 (pn H 0) fun g₈ l₈ => Z17 ?_
   replace H := H.up l₈
   refine gM0_3 (w_get_pushed X (n := n) (r'.sub (by exact Nat.add_le_add_left (by decide) _)) H.holdsAt H.ndAt hqs) fun u g₉ hu l₉ hH' => Z17 ?_
   replace H := H.advAt (ms' := LexOwn x dx pb lf fs ln chars ql) l₉ rfl hH' Z52
   refine gM0_3 (Z190 X (n := n) (r'.sub (by exact Nat.add_le_add_left (by decide) _)) H.holdsAt H.ndAt hqs hu) fun u g₉ hu l₉ hH' => ⟨fun a z => (by clear hH' l₉ H hnext hcur l₆ hPt pa p2 H2 H1 hcl hP hql hq l₂ r' hfm hn hnd r; subst hu; cases z), Z43 ⟨t + 1, by clear hH' l₉ H hnext hcur l₆ pa p2 H2 H1 hcl hP hql hq l₂ r' hfm hn hnd r; simp at hPt ⊢; lia, ?_⟩⟩
   replace H := H.advAt (ms' := LexOwn x dx pb lf fs ln chars (ql ++ [d₀])) l₉ rfl hH' Z52
   rw [hnext]
   refine (H.perm (own' := ms' ++ (ms ++ ([(ra, MO.list (linesD (f + m) done (h + 1)))] ++ LexOwn x dx pb lf fs ln chars (ql ++ [d₀])))) (by simp only [List.append_nil, List.append_assoc]; exact List.Perm.refl _)).lessL (by repeat (first | exact trivial | refine And.intro rfl ?_))
  ·intro t g hPt H
   have : t = f + m := by exact hPt
   subst this
   exact Z43 ⟨h + 1, by clear H hPt pa p2 H2 H1 hcl l₆ hql hq l₂ r' hfm hn hnd r; simp at hP ⊢; lia, H⟩
 intro h g hP H
 have : h = turns + 1 := by exact hP
 subst this
 refine gwp_fixS H fun g' l' H hr => ?_
 refine Z46 r' (pn H 5) fun v g'' l'' p => ?_
 have := Z22 p; subst this
 exact k₀ _ _ ⟨hr.le l'', (H.up l'').le, _, (H.up l'').holds⟩
end
end Mine
namespace Mine
section
open PySem
noncomputable def Rz (p : Array Nat) : Prop := p.toList.Pairwise (· < ·)
theorem Rz.lt {p : Array Nat} (h : Rz p) {i k : Nat} (hik : i < k) (hk : k < p.size) : p.getD i 0 < p.getD k 0 := by
 have := List.pairwise_iff_getElem.mp h i k (by simp; lia) (by exact hk) hik
 simp only [Array.getElem_toList] at this
 simpa [Array.getD_eq_getD_getElem?, Array.getElem?_eq_getElem hk, Array.getElem?_eq_getElem (show i < p.size by lia)] using this
theorem getD_lt {p : Array Nat} {m : Nat} (h : m < p.size) (a b : Nat) : p.getD m a = p.getD m b := by
 simp [Array.getD_eq_getD_getElem?, Array.getElem?_eq_getElem h]
theorem below_go {p : Array Nat} (h : Rz p) (j : Nat) : ∀ (fuel lo hi : Nat), hi ≤ p.size → lo ≤ hi → hi - lo ≤ fuel → (∀ i, i < lo → p.getD i 0 < j) → (∀ i, hi ≤ i → i < p.size → j ≤ p.getD i 0) →
  SetTable.below.go p j fuel lo hi ≤ p.size ∧ (∀ i, i < SetTable.below.go p j fuel lo hi → p.getD i 0 < j) ∧ (∀ i, SetTable.below.go p j fuel lo hi ≤ i → i < p.size → j ≤ p.getD i 0) := by
 intro fuel
 induction fuel with
 | zero =>
  intro lo hi h1 h2 h3 h4 h5
  have : lo = hi := by lia
  subst this
  exact ⟨h1, h4, h5⟩
 | succ fuel ih =>
  intro lo hi h1 h2 h3 h4 h5
  unfold SetTable.below.go
  by_cases hlt : lo < hi
  ·rw [if_pos hlt]
   dsimp only
   have hm : (lo + hi) / 2 < hi := by lia
   have hm2 : lo ≤ (lo + hi) / 2 := by lia
   generalize (lo + hi) / 2 = mid at *
   rw [getD_lt (by lia : mid < p.size) j 0]
   by_cases hc : p.getD mid 0 < j
   ·rw [if_pos hc]
    refine ih (mid + 1) hi h1 (by assumption) (by lia) (fun i hi' => ?_) h5
    by_cases e : i = mid
    ·subst e; exact hc
    ·exact Nat.lt_trans (h.lt (by lia) (by exact Nat.lt_of_lt_of_le ‹_› ‹_›)) hc
   ·rw [if_neg hc]
    refine ih lo mid (by lia) hm2 (by lia) h4 (fun i hi' hs => ?_)
    by_cases e : i = mid
    ·subst e; lia
    ·have := h.lt (show mid < i by lia) hs
     lia
  ·rw [if_neg hlt]
   have : lo = hi := by lia
   subst this
   exact ⟨h1, h4, h5⟩
theorem Z283 {p : Array Nat} (h : Rz p) (j : Nat) : SetTable.below p j ≤ p.size ∧ (∀ i, i < SetTable.below p j → p.getD i 0 < j) ∧ (∀ i, SetTable.below p j ≤ i → i < p.size → j ≤ p.getD i 0) :=
 below_go h j p.size 0 p.size (Nat.le_refl _) (Nat.zero_le _) (Nat.le_refl _) (by lia) (by lia)
theorem Rz.insert {p : Array Nat} (h : Rz p) {j : Nat} (hj : p[SetTable.below p j]? ≠ some j) : Rz (SetTable.insertAt p (SetTable.below p j) j) := by
 obtain ⟨h1, h2, h3⟩ := Z283 h j
 generalize SetTable.below p j = k at *
 have hgt : ∀ i, k ≤ i → i < p.size → j < p.getD i 0 := fun i hk hi => by
  have hk' : k < p.size := by exact Nat.lt_of_le_of_lt ‹_› ‹_›
  have h4 := h3 k (Nat.le_refl _) hk'
  have h5 : p.getD k 0 ≠ j := fun e => hj (by rw [Array.getElem?_eq_getElem hk']; simpa [Array.getD_eq_getD_getElem?, Array.getElem?_eq_getElem hk'] using e)
  by_cases e : i = k
  ·subst e; lia
  ·have := h.lt (show k < i by lia) hi; lia
 show (SetTable.insertAt p k j).toList.Pairwise (· < ·)
 rw [SetTable.toList_insertAt]
 refine List.pairwise_append.mpr ⟨h.sublist (List.take_sublist _ _), List.pairwise_cons.mpr ⟨fun b hb => ?_, h.sublist (List.drop_sublist _ _)⟩, fun a ha b hb => ?_⟩
 ·obtain ⟨i, hi, rfl⟩ := List.mem_iff_getElem.mp hb
  have hi' : k + i < p.size := by simp at hi; lia
  have := hgt (k + i) (by exact Nat.le_add_right _ _) hi'
  simpa [Array.getD_eq_getD_getElem?, Array.getElem?_eq_getElem hi'] using this
 ·obtain ⟨i, hi, rfl⟩ := List.mem_iff_getElem.mp ha
  have hi' : i < k := by simp at hi; lia
  have hi2 : i < p.size := by simp at hi; lia
  have h6 := h2 i hi'
  have h7 : (p.toList.take k)[i] = p.getD i 0 := by simp [Array.getD_eq_getD_getElem?, Array.getElem?_eq_getElem hi2]
  rw [h7]
  rcases List.mem_cons.mp hb with rfl | hb
  ·exact h6
  ·obtain ⟨m, hm, rfl⟩ := List.mem_iff_getElem.mp hb
   have hm' : k + m < p.size := by simp at hm; lia
   have := hgt (k + m) (by exact Nat.le_add_right _ _) hm'
   refine Nat.lt_trans h6 ?_
   simpa [Array.getD_eq_getD_getElem?, Array.getElem?_eq_getElem hm'] using this
theorem Rz.range (n : Nat) : Rz (Array.range n) := by
 show (Array.range n).toList.Pairwise (· < ·)
 rw [Array.toList_range]
 exact List.pairwise_lt_range
theorem slot_free {t : SetTable} {j : Nat} (h : ∀ i, t.slot j ≠ .live i) : t.place[SetTable.below t.place j]? ≠ some j := by
 intro e
 refine h (SetTable.below t.place j) ?_
 unfold SetTable.slot
 simp [e]
theorem Z173 (t : SetTable) (p : SetTable.Probe) : (t.advance p).dummy = p.dummy := by
 unfold SetTable.advance
 split <;> rfl
theorem probe_free {t : SetTable} {f : Nat → Int} {h : Int} : ∀ (fuel : Nat) (p : SetTable.Probe) (j : Nat) (d : Option Nat), (∀ k, p.dummy = some k → t.slot k = .dummy) → SetTable.probe.go t f h fuel p = some (.empty j d) → ∀ i, t.slot (d.getD j) ≠ .live i := by
 intro fuel
 induction fuel with
 | zero => intro p j d _ e; simp [SetTable.probe.go] at e
 | succ fuel ih =>
  intro p j d hd e i
  unfold SetTable.probe.go at e
  cases hs : t.slot p.j with
  | empty =>
   rw [hs] at e
   simp only [Option.some.injEq, SetTable.Met.empty.injEq] at e
   obtain ⟨rfl, rfl⟩ := e
   cases hp : p.dummy with
   | none => simp [hs]
   | some k => simp [hd k hp]
  | dummy =>
   rw [hs] at e
   exact ih _ j d (fun k hk => by rw [Z173] at hk; simp at hk; subst hk; exact hs) e i
  | live i' =>
   rw [hs] at e
   dsimp only at e
   split at e
   ·cases e
   ·exact ih _ j d (fun k hk => by rw [Z173] at hk; exact hd k hk) e i
theorem freeSlot_free {t : SetTable} {h : Int} {j : Nat} {w : Bool} (e : t.freeSlot h = some (j, w)) : t.place[SetTable.below t.place j]? ≠ some j := by
 unfold SetTable.freeSlot at e
 split at e
 ·rename_i j' d hp
  simp only [Option.some.injEq, Prod.mk.injEq] at e
  obtain ⟨rfl, _⟩ := e
  exact slot_free (probe_free _ _ j' d (fun k hk => by simp [SetTable.probeStart] at hk) hp)
 ·cases e
noncomputable def TabOk (led : Bool) (t : SetTable) : Prop := Rz t.place ∧ t.led = led
theorem TabOk.standIn {led : Bool} {t : SetTable} (h : TabOk led t) (n : Nat) : TabOk led (t.standIn n) := ⟨Rz.range n, h.2⟩
theorem layNew_tab {led : Bool} {t : SetTable} (h : TabOk led t) (es : Array (Int × Value)) (k : Int) (x : Value) : TabOk led (layNew t es k x).2.1 := by
 unfold layNew
 split
 ·rename_i j w e
  have hf := freeSlot_free e
  have hp : TabOk led (t.put j).1 := ⟨h.1.insert hf, h.2⟩
  dsimp only
  unfold SetTable.orStandIn
  split
  ·exact hp
  ·exact hp.standIn _
 ·exact h.standIn _
theorem laid_rz {mask finger moves : Nat} {led plain : Bool} {hs : Array Int} {t : SetTable} {o : Array Nat} (e : SetTable.laid mask finger moves led plain hs = some (t, o)) : TabOk led t := by
 unfold SetTable.laid at e
 cases ho : SetTable.layClean mask hs with
 | none => rw [ho] at e; cases e
 | some owner =>
  rw [ho] at e
  have e' := Option.some.inj e
  have e1 := (Prod.mk.inj e').1
  rw [← e1]
  refine ⟨?_, rfl⟩
  show (((List.range (mask + 1)).filterMap fun j => (owner.getD j none).map (j, ·)).map (·.1)).toArray.toList.Pairwise (· < ·)
  rw [List.map_filterMap]
  refine List.Pairwise.filterMap _ (R := (· < ·)) ?_ List.pairwise_lt_range
  intro a a' haa b hb b' hb'
  have h1 : b = a := by
   cases hg : owner.getD a none with
   | none => simp [hg] at hb
   | some v => simp [hg] at hb; exact hb.symm
  have h2 : b' = a' := by
   cases hg : owner.getD a' none with
   | none => simp [hg] at hb'
   | some v => simp [hg] at hb'; exact hb'.symm
  rw [h1, h2]; exact haa
theorem relayAll_tab {led : Bool} {t : SetTable} (h : TabOk led t) (es : Array (Int × Value)) (k : Nat) : TabOk led (relayAll t es k).2.1 := by
 unfold relayAll
 split
 ·rename_i t' o e
  dsimp only
  split
  ·have := laid_rz e
   rw [h.2] at this
   exact this
  ·exact h.standIn _
 ·exact h.standIn _
theorem TabOk.fresh (led : Bool) : TabOk led (.fresh 0 0 led) := ⟨by show (#[] : Array Nat).toList.Pairwise (· < ·); simp, rfl⟩
theorem TabOk.plainOff {led : Bool} {t : SetTable} (h : TabOk led t) (b : Bool) : TabOk led { t with plain := b } := ⟨h.1, h.2⟩
end
end Mine
namespace Mine
section
open PySem PySem.Spec PySem.Calls PyProof.Rows PySem.W
variable {prog : Program} {w : World} {A : Around} {E : Value → Shared → Prop} {s : Shared}
structure SetT (prog : Program) (w : World) (o : Obj) (S : Int → Bool) (n : Nat) (led : Bool) (es : Array (Int × Value)) (ep : Nat) (t : SetTable) : Prop where
 ex : o.ExactSet
 data : o.data = .set es ep t
 els : ElemsOf (intKind prog w) es.toList
 mem : ∀ k, S k = true ↔ ∃ e ∈ es.toList, (intKind prog w).is k e.2 = true
 small : es.size < scanBound
 fits : t.fits es.size = true
 size : es.size = n
 tab : TabOk led t
noncomputable def HasT (prog : Program) (w : World) (h : Heap) (a : Addr) (S : Int → Bool) (n : Nat) (led : Bool) : Prop := ∃ o es ep t, h.get? a = some o ∧ SetT prog w o S n led es ep t
theorem HasT.of {h h' : Heap} {a : Addr} {S S' : Int → Bool} {n n' : Nat} {led : Bool} (x : HasT prog w h a S n led) (e : h'.get? a = h.get? a) (hS : ∀ k, S k = S' k) (hn : n = n') : HasT prog w h' a S' n' led := by
 refine E4_2 x fun o es ep t h1 h2 => ?_
 have : S = S' := funext hS
 subst this; subst hn
 exact ⟨o, es, ep, t, (e).trans (h1), h2⟩
theorem SetT.store {h : Heap} {a : Addr} {o : Obj} {S S' : Int → Bool} {n : Nat} {led : Bool} {es es' : Array (Int × Value)} {ep : Nat} {t t' : SetTable} (ho : h.get? a = some o) (x : SetT prog w o S n led es ep t)
  (h1 : ElemsOf (intKind prog w) es'.toList) (h2 : ∀ k, S' k = true ↔ ∃ e ∈ es'.toList, (intKind prog w).is k e.2 = true) (h3 : es'.size < scanBound) (h4 : t'.fits es'.size = true) (h5 : TabOk led t') :
  (h.update a (Obj.putSet es' t')).get? a = some { o with data := .set es' (ep + 1) t' } ∧ SetT prog w { o with data := .set es' (ep + 1) t' } S' es'.size led es' (ep + 1) t' :=
 ⟨(SetOf_store (knd := intKind prog w) ho x.ex x.data h1 h2 h3 h4).1, ⟨x.ex, rfl, h1, h2, h3, h4, rfl, h5⟩⟩
theorem gave_ok {b : Bool} {s₁ : Shared} {Q' : Unit → Shared → Prop} (h : Q' () s₁) : wpAny (model prog w) A (match b with | true => rule "set.scan.the-table-gave-way" | false => pure ()) Q' E s₁ := by
 cases b
 ·exact wpAny_pure h
 ·exact wpAny_rule h
theorem Z219 {a : Addr} {o : Obj} {es es1 : Array (Int × Value)} {ep : Nat} {t t2 : SetTable} {S S' : Int → Bool} {n : Nat} {led : Bool} (ho : s.heap.get? a = some o) (x : SetT prog w o S n led es ep t)
  (h1 : ElemsOf (intKind prog w) es1.toList) (h2 : ∀ k, S' k = true ↔ ∃ e ∈ es1.toList, (intKind prog w).is k e.2 = true) (h3 : es1.size < scanBound) (h4 : t2.fits es1.size = true) (h5 : TabOk led t2) {wasDummy : Bool} {R : Option Bool → Shared → Prop}
  {g : Bool → Sem Unit} (hg : ∀ (b : Bool) (s₁ : Shared) (Q' : Unit → Shared → Prop), Q' () s₁ → wpAny (model prog w) A (g b) Q' E s₁)
  (h : ∀ h', Heap.SameBut a s.heap h' → HasT prog w h' a S' es1.size led → R (some true) { s with heap := h' }) :
  wpAny (model prog w) A (do
    storeSet a es1 t2
    if (!wasDummy && t2.tooFull) = true then do
      g (relayAll t2 es1 (SetTable.grown es1.size)).2.2
      storeSet a (relayAll t2 es1 (SetTable.grown es1.size)).1 (relayAll t2 es1 (SetTable.grown es1.size)).2.1
      pure (some true)
     else pure (some true)) R E s := by
 refine wpAny_bind (wpAny_storeSet_of ho x.data ?_ (fits_of_scanBound h3))
 refine E0_2 (x.store (S' := S') ho h1 h2 h3 h4 h5) fun ho1 x1 => ?_
 have sb := Heap.SameBut.update s.heap a (Obj.putSet es1 t2)
 split
 ·have hp := relayAll_perm t2 es1 (SetTable.grown es1.size)
  have hf := relayAll_fits t2 es1 (SetTable.grown es1.size)
  have ht := relayAll_tab h5 es1 (SetTable.grown es1.size)
  generalize relayAll t2 es1 (SetTable.grown es1.size) = Rl at hp hf ht ⊢
  obtain ⟨es2, t3, gave⟩ := Rl
  dsimp only at hp hf ht ⊢
  have hsz : es2.size = es1.size := by rw [← Array.length_toList, hp.length_eq, Array.length_toList]
  refine wpAny_bind (hg _ _ _ ?_)
  refine wpAny_bind (wpAny_storeSet_of ho1 rfl ?_ (fits_of_scanBound (by rw [hsz]; exact h3)))
  obtain ⟨ho2, x2⟩ := x1.store (S' := S') ho1 (h1.perm hp) (fun k => (h2 k).trans ⟨fun z₀ => E1_2 z₀ fun e he q => ⟨e, hp.mem_iff.mpr he, q⟩, fun z₀ => E1_2 z₀ fun e he q => ⟨e, hp.mem_iff.mp he, q⟩⟩) (by rw [hsz]; exact h3) hf ht
  rw [hsz] at x2
  exact wpAny_pure (h _ (sb.trans (Heap.SameBut.update _ a _)) ⟨_, _, _, _, ho2, x2⟩)
 ·exact wpAny_pure (h _ sb ⟨_, _, _, _, ho1, x1⟩)
theorem setAdd_tab {a : Addr} {S : Int → Bool} {n : Nat} {led : Bool} {k : Int} {x : Value} {Q : Bool → Shared → Prop} (hk : (intKind prog w).is k x = true) (hsc : x.scannable = true) (hS : HasT prog w s.heap a S n led) (hroom : n + 1 < scanBound)
  (h : ∀ h', Heap.SameBut a s.heap h' → HasT prog w h' a (fun k' => S k' || decide (k' = k)) (if S k then n else n + 1) led → Q (!S k) { s with heap := h' }) :
  wpAny (model prog w) A (setAddHashed a x ((intKind prog w).hash k)) Q E s := by
 refine E4_2 hS fun o es ep t ho z => ?_
 have hb1 : es.size + 1 < scanBound := by rw [z.size]; exact hroom
 refine wpAny_holding (wpAny_bind (wpAny_setState_of ho z.data z.fits ?_))
 dsimp only
 rw [byScan_of hsc z.small z.els]
 refine wpAny_bind (wpAny_bind (wpAny_rule (wpAny_bind (wpAny_setScan_of hk ho z.data z.fits z.els ?_))))
 cases hr : List.findIdx? (fun e => (intKind prog w).is k e.2) es.toList with
 | some j =>
  obtain ⟨hj, hpj, _⟩ := List.findIdx?_eq_some_iff_getElem.mp hr
  have hSk : S k = true := (z.mem k).mpr ⟨es.toList[j], List.getElem_mem hj, hpj⟩
  refine wpAny_pure (wpAny_pure ?_)
  have hm' : ∀ k', (S k' || decide (k' = k)) = true ↔ ∃ e ∈ es.toList, (intKind prog w).is k' e.2 = true := fun k' => by
   rw [Bool.or_eq_true, decide_eq_true_eq, ← z.mem k']
   exact ⟨fun hk => hk.elim id (fun e => e ▸ hSk), .inl⟩
  have := h s.heap (Heap.SameBut.refl a s.heap) ⟨o, es, ep, t, ho, { z with mem := hm', size := (by rw [hSk]; exact z.size) }⟩
  rw [hSk] at this
  exact this
 | none =>
  have hSk : S k = false := by
   cases hk' : S k with
   | false => rfl
   | true =>
    refine E1_2 ((z.mem k).mp hk') fun e he hp => ?_
    have := List.findIdx?_eq_none_iff.mp hr e he
    rw [hp] at this; exact Bool.noConfusion this
  have hp := layNew_perm t es ((intKind prog w).hash k) x
  have hf := layNew_fits t es ((intKind prog w).hash k) x
  have ht := layNew_tab z.tab es ((intKind prog w).hash k) x
  generalize layNew t es ((intKind prog w).hash k) x = L at hp hf ht ⊢
  obtain ⟨es1, t1, wasDummy, gave⟩ := L
  dsimp only at hp hf ht ⊢
  rw [Array.toList_push] at hp
  have h1 : ElemsOf (intKind prog w) es1.toList := (z.els.push hk hsc).perm hp
  have h2 : ∀ k', (S k' || decide (k' = k)) = true ↔ ∃ e ∈ es1.toList, (intKind prog w).is k' e.2 = true := mem_push_iff hk z.mem hp
  have hsz : es1.size = n + 1 := by rw [← Array.length_toList, hp.length_eq, List.length_append, Array.length_toList, z.size]; rfl
  have h3 : es1.size < scanBound := by rw [hsz]; exact hroom
  have hend : ∀ h', Heap.SameBut a s.heap h' → HasT prog w h' a (fun k' => S k' || decide (k' = k)) es1.size led → Q true { s with heap := h' } := by
   intro h' hsb hS'
   have := h h' hsb
   rw [hSk] at this; rw [hsz] at hS'
   exact this hS'
  refine wpAny_bind (gave_ok ?_)
  split
  ·refine wpAny_bind ?_
   rw [hashByValue_scannable 8 hsc]
   refine wpAny_pure ?_
   refine Z219 ho z h1 h2 h3 ?_ ?_ (fun b s₁ Q' hq => gave_ok hq) fun h' hsb hS' => ?_
   ·split
    ·exact hf
    ·exact SetTable.fits_plain_off hf
   ·split
    ·exact ht
    ·exact ht.plainOff _
   ·dsimp only; exact wpAny_pure (hend h' hsb hS')
  ·refine wpAny_bind (wpAny_pure ?_)
   refine Z219 ho z h1 h2 h3 hf ht (fun b s₁ Q' hq => gave_ok hq) fun h' hsb hS' => ?_
   dsimp only; exact wpAny_pure (hend h' hsb hS')
end
end Mine
namespace Mine
section
open PySem PySem.Spec PySem.Calls PyProof.Rows PySem.W Builtin
variable {K : Wd} {B : Base} {α β : Type} {A : Around} {g : Gh} {n : Nat} {env : Env}
variable {b : Gh} {S' : List Addr} {fn : List Nat} {cs : List Addr} {nm : List (Str × NameKind)} {σ σ' : List (Option D)} {own : List (Addr × MO)}
noncomputable def ledOf (w : World) : Bool := !(w.params.followText "set-order")
noncomputable def SetAt (K : Wd) (o : Obj) (l : List Int) : Prop := ∃ es ep t, SetT K.prog K.w o (fun k => l.any (· == k)) l.length (ledOf K.w) es ep t
theorem Z247 {it : Value} {S : Addr} {T R : List Addr} {St : List D → Gh → Prop} {Rr : Result → Shared → Prop} (I : It K it T R St) (hST : S ∉ T) (hSR : S ∉ R) (hh : A.handled = none) :
  ∀ (ns acc : List Int) (g g₀ : Gh) (s : Shared), St (ns.map .int) g → (∃ o, g.mu S = some o ∧ SetAt K o acc) → acc.length + ns.length + 1 < scanBound → LeX (S :: T) g₀ g → g.Ok K.B s →
   (∀ s' g', g'.Ok K.B s' → LeX (S :: T) g₀ g' → (∃ o, g'.mu S = some o ∧ SetAt K o (ns.foldl step_dedup acc)) → Rr (.ok (.ret .none)) s') →
   codeAny (model K.prog K.w) A (.builtin "set.update.loop" ⟨[.ref S, it], []⟩) Rr s := by
 intro ns
 induction ns with
 | nil =>
  intro acc g g₀ s st hS hsz l ok hR
  refine codeAny_builtin PyProof.Rows.F.entry_set_update_loop ?_
  rw [Around.under_plainId PyProof.Rows.F.plain_set_update_loop _]
  show wpAny _ A.in1 (pyNext it >>= _) _ _ s
  refine wpAny_bind (wpAny_mono (I.done (A := A.in1) hh st s (fun _ _ => False) ok) (fun r s₁ z₀ => E1_3 z₀ fun g₁ ok₁ l₁ e => ?_) fun _ _ z => z.elim)
  subst e
  refine E1_2 hS fun o h1 h2 => ?_
  exact wpAny_pure (hR s₁ g₁ ok₁ (l.trans (l₁.sub fun a h => by exact .tail _ h)) ⟨o, l₁.mu _ _ hST h1, h2⟩)
 | cons x ns ih =>
  intro acc g g₀ s st hS hsz l ok hR
  refine codeAny_builtin PyProof.Rows.F.entry_set_update_loop ?_
  rw [Around.under_plainId PyProof.Rows.F.plain_set_update_loop _]
  show wpAny _ A.in1 (pyNext it >>= _) _ _ s
  refine wpAny_bind (wpAny_mono (I.item (A := A.in1) hh st s (fun _ _ => False) ok) (fun r s₁ z₀ => E1_3 z₀ fun g₁ ok₁ l₁ v00 => E1_3 v00 fun v e hv hgo => ?_) fun _ _ z => z.elim)
  subst e
  refine E1_1 (Z24 hv) ?_
  rintro tk rfl
  have hX : ∀ (X : Sem Fin), wpAny (model K.prog K.w) A.in1 (letOwnedTupleGo (.Constant .none 0 ⟨0, 0, 0, 0⟩) it (.int x tk) >>= fun _ => X) (fun fin s' => match fin with | .done f => Rr (.ok f) s' | .again c' => c'.quiet = true ∧ codeAny (model K.prog K.w) A c' Rr s') (fun e s' => Rr (.error e) s') s₁ → wpAny (model K.prog K.w) A.in1 X (fun fin s' => match fin with | .done f => Rr (.ok f) s' | .again c' => c'.quiet = true ∧ codeAny (model K.prog K.w) A c' Rr s') (fun e s' => Rr (.error e) s') s₁ := fun X h => h
  show wpAny _ A.in1 (holding [Value.int x tk] (setAdd S (.int x tk)) >>= fun _ => again (.builtin "set.update.loop" ⟨[.ref S, it], []⟩)) _ _ s₁
  refine hX _ (wpAny_bind (wpAny_mono (hgo (.Constant .none 0 ⟨0, 0, 0, 0⟩) A.in1 s₁ (fun _ _ => False) ok₁) (fun _ s₂ z₀ => E1_3 z₀ fun g₂ ok₂ l₂ st₂ => ?_) fun _ _ z => z.elim))
  obtain ⟨o, h1, es, ep, t, h2⟩ := hS
  have hS₂ : g₂.mu S = some o := l₂.mu _ _ hST (l₁.mu _ _ hST h1)
  refine wpAny_bind (wpAny_holding ?_)
  refine wpAny_holding (wpAny_bind ((intKind K.prog K.w).pyHash (k := x) (intKind_is _ _ _ _) ?_))
  refine setAdd_tab (s := { s₂ with toks := s₂.toks + 1 }) (S := fun k => acc.any (· == k)) (n := acc.length) (led := ledOf K.w) (intKind_is _ _ _ _) rfl ⟨o, es, ep, t, ok₂.mu _ _ hS₂, h2⟩ (by lia) fun h' sb hS' => ?_
  have hS3 := hS'.of (h' := h') rfl (S' := fun k => (step_dedup acc x).any (· == k)) (fun k => (step_any acc x k).symm) (step_length acc x).symm
  refine E4_2 hS3 fun o' es' ep' t' e1 e2 => ?_
  have ok₃ := ok₂.sameBut (tk := s₂.toks + 1) hS₂ sb e1
  have l₃ : LeX [S] g₂ (g₂.setMu S o') := LeX.setMu
  refine wpAny_pure ⟨plainId_quiet PyProof.Rows.F.plain_set_update_loop _, ih (step_dedup acc x) _ g₀ _ (I.frame st₂ l₃ fun a ha => by clear ok₃ e2 hS3 hS' sb h2 hX hgo hR hsz ih; simp at ha; subst ha; exact ⟨hST, hSR⟩) ⟨o', Gh.setMu_self, es', ep', t', e2⟩ ?_ ?_ ok₃ fun s' g' ok' l' hS' => hR s' g' ok' l' hS'⟩
  ·rw [step_length]; simp at hsz; split <;> lia
  ·exact l.trans ((l₁.sub (fun a h => by exact .tail _ h)).trans ((l₂.sub (fun a h => by exact .tail _ h)).trans (l₃.sub (by exact all1 (.head _)))))
theorem code_setNew (v : Value) {s : Shared} {E : Value → Shared → Prop} {Q₁ : Value → Shared → Prop}
  (h : Q₁ (.ref s.heap.objs.size) { s with heap := s.heap.push { cls := .type "set", dict := none, data := .set #[] 0 (.fresh 0 0 (ledOf K.w)) } }) :
  codeAny (model K.prog K.w) A (.call (.builtin "set.__new__") ⟨[.type "set", v], []⟩) (wants Q₁ E) s := by
 refine codeAny_of_tree ?_
 show wpAny _ A.in1 (do checkBuiltinCall "set.__new__" ⟨[.type "set", v], []⟩; again (.builtin "set.__new__" ⟨[.type "set", v], []⟩)) _ _ s
 refine wpAny_bind (wpAny_of_eq (PySem.F.newCall_set_1 v) (wpAny_pure ⟨plainId_quiet PySem.F.plain_set_new _, codeAny_builtin PySem.F.entry_set_new ?_⟩))
 rw [Around.under_plainId PySem.F.plain_set_new _]
 have hsub := sub_set_self
 wp_walk
 refine wpAny_askSetting (wpAny_pure ?_)
 refine wpAny_bind (wpAny_alloc (wpAny_pure ?_))
 exact wpAny_pure h
set_option maxHeartbeats 3200000 in
theorem set_init_list {prog : Program} {w : World} {s : Shared} {N lv : Addr} {its : Array Value} {m : Nat} {led : Bool} {P : Fin → Shared → Prop} {E : Value → Shared → Prop}
  (hol : s.heap.get? lv = some (sq "list" its m)) (hN₁ : s.heap.get? N = some { cls := .type "set", dict := none, data := .set #[] 0 (.fresh 0 0 led) })
  (h : wpAny (model prog w) A (pyIter (.ref lv)) (fun it s' => wpAny (model prog w) A (do let _ ← runValue (.builtin "set.update.loop" ⟨[.ref N, it], []⟩); pure ()) (fun _ s' => wpAny (model prog w) A (ret Value.none) P E s') E s') E s) :
  wpAny (model prog w) A (Builtin.«set.__init__» ⟨[.ref N, .ref lv], []⟩) P E s := by
 have hsls := PySem.F.sub_list_set
 have hslf := PySem.F.sub_list_frozenset
 have hne : (Value.type "list" == Value.type "dict") = false := by decide
 unfold sq at hol
 obtain ⟨hp₁, gn₁, dr₁, tk₁, os₁⟩ := s
 dsimp only at hol hN₁
 unfold Builtin.«set.__init__» noKeywords Builtin.Frozenset.updateFrom
 generalize hPI : pyIter = PI at h ⊢
 wp_walk
 exact h
set_option maxHeartbeats 3200000 in
theorem gwp_setList {v : Value} {ns : List Int} {Q : Value → Gh → Prop} (hh : A.handled = none) (hv : Rep g.im (.lst (ns.map .int)) v) (hsz : ns.length ≤ 4000)
  (q : ∀ S o g', Le g g' → g'.im S = some o → SetAt K o (ns.foldl step_dedup []) → Q (.ref S) g') : gwp K A (call (.type "set") [v]) Q g := fun s E ok => by
 obtain ⟨lv, its, m, rfl, hlv, hr⟩ := Z16.mp hv
 obtain ⟨c, tl, hmro⟩ := PySem.F.called_set.mro
 have hmade := PySem.F.called_set.made
 have hsub := PySem.F.called_set.sub
 refine wpAny_call (codeAny_of_tree ?_)
 show wpAny _ _ (callAny (.type "set") _) _ _ _
 refine wpAny_pure ⟨Code.quiet_builtin _ (by decide +kernel), codeAny_builtin PySem.F.entry_type_call ?_⟩
 rw [Around.under_plain (weight_type_call_type "set" [.ref lv] []) rfl]
 have h1 := PySem.F.called_set.notType
 have h2 := PySem.F.called_set.canCreate
 have hct := PySem.F.typeCall_set_1 (.ref lv)
 repeat (any_goals (first | assumption | wp_step))
 refine codeAny_mono (code_setNew (.ref lv) (E := E) (Q₁ := fun obj s₁ => obj = .ref s.heap.objs.size ∧ s₁ = { s with heap := s.heap.push { cls := .type "set", dict := none, data := .set #[] 0 (.fresh 0 0 (ledOf K.w)) } }) ⟨rfl, rfl⟩) fun r s₁ hr₁ => ?_
 cases r with
 | error e => exact hr₁
 | ok fl =>
  cases fl with
  | ret obj =>
   obtain ⟨rfl, rfl⟩ := hr₁
   have fr := ok.fresh
   have ok₁ := ok.pushMu (o := { cls := .type "set", dict := none, data := .set #[] 0 (.fresh 0 0 (ledOf K.w)) }) rfl
   have hT : Shared.TypeIs { s with heap := s.heap.push { cls := .type "set", dict := none, data := .set #[] 0 (.fresh 0 0 (ledOf K.w)) } } (.ref s.heap.objs.size) "set" := ⟨_, Heap.get?_push_size _ rfl, rfl⟩
   generalize hN : s.heap.objs.size = N at *
   generalize hs₁ : ({ s with heap := s.heap.push { cls := .type "set", dict := none, data := .set #[] 0 (.fresh 0 0 (ledOf K.w)) } } : Shared) = s₁ at *
   have hli := PySem.F.called_set.init.lookup
   have hbi := PySem.F.called_set.init.bind (.ref N)
   repeat (any_goals (first | assumption | wp_step))
   refine codeAny_mono (codeAny_call_builtin (R := wants (fun r s₂ => r = .none ∧ ∃ g' o, g'.Ok K.B s₂ ∧ Le g g' ∧ g'.im N = some o ∧ SetAt K o (ns.foldl step_dedup [])) (fun _ _ => False)) PySem.F.called_set.init.plain PySem.F.entry_set_init (check_set_init_1 hT ?_)) fun r₂ s₂ hr₂ => ?_
   ·have l₁ : Le g (g.setMu N { cls := .type "set", dict := none, data := .set #[] 0 (.fresh 0 0 (ledOf K.w)) }) := Le.addMu fr.2
    have hS₁ : (g.setMu N { cls := .type "set", dict := none, data := .set #[] 0 (.fresh 0 0 (ledOf K.w)) }).mu N = some { cls := .type "set", dict := none, data := .set #[] 0 (.fresh 0 0 (ledOf K.w)) } := Gh.setMu_self
    have hSA : SetAt K { cls := .type "set", dict := none, data := .set #[] 0 (.fresh 0 0 (ledOf K.w)) } [] := ⟨#[], 0, _, ⟨⟨rfl, rfl, rfl⟩, rfl, (fun e he => by simp at he), (fun k => by simp), by decide, by rfl, rfl, TabOk.fresh _⟩⟩
    generalize hob : ({ cls := .type "set", dict := none, data := .set #[] 0 (.fresh 0 0 (ledOf K.w)) } : Obj) = ob at *
    generalize hg₁ : g.setMu N ob = g₁ at *
    have ok₁' : g₁.Ok K.B s₁ := ok₁
    have hol := ok₁'.im _ _ (l₁.im _ _ hlv)
    have hN₁ := ok₁'.mu _ _ hS₁
    rw [← hob] at hN₁
    refine set_init_list hol hN₁ ?_
    have hh2 : A.in1.in1.handled = none := hh
    refine wpAny_mono (iter_lst (A := A.in1.in1) (hv.mono l₁.im) s₁ (fun _ _ => False) ok₁') (fun it s₂ z₀ => E1_3 z₀ fun g₂ ok₂ l₂ v00 => E2_3 v00 fun T St I st hT => ?_) fun _ _ z => z.elim
    have hNT : N ∉ T := fun h => by
     have := (hT N h).1
     cases ((hS₁).symm.trans this)
    refine wpAny_bind (wpAny_runValue (Z247 I hNT (by exact List.not_mem_nil) (by exact hh2) ns [] g₂ g₂ s₂ st ⟨_, l₂.at hS₁, hSA⟩ (by simp [scanBound]; lia) (LeX.refl _ _) ok₂ fun s₃ g₃ ok₃ l₃ z₀ => E1_2 z₀ fun o₃ hS₃ hSA₃ => ?_))
    have hi₃ : g₃.im N = none := by
     cases e : g₃.im N with
     | none => rfl
     | some o => exact (ok₃.dis _ _ _ e hS₃).elim
    refine wpAny_pure (wpAny_pure ⟨rfl, g₃.fix N o₃, o₃, ok₃.fix hS₃, ?_, Gh.fix_self, hSA₃⟩)
    have l₄ : LeX (N :: T) g₁ (g₃.fix N o₃) := (LeX.of l₂).trans (l₃.trans ((LeX.fix hi₃).sub (by simp)))
    have l₅ : LeX (N :: T) g (g₃.fix N o₃) := (LeX.of l₁).trans l₄
    refine l₅.forget fun a ha => .inr ?_
    rcases List.mem_cons.mp ha with rfl | ha
    ·exact fr.2
    ·exact l₁.nomu (hT a ha).1
   ·cases r₂ with
    | error e => exact hr₂.elim
    | ok fl₂ =>
     cases fl₂ with
     | ret r =>
      obtain ⟨rfl, g', o', ok', l', h', hSA'⟩ := hr₂
      repeat (any_goals (first | assumption | wp_step))
      exact ⟨g', ok', q _ _ _ l' h' hSA'⟩
     | _ => exact hr₂.elim
  | _ => exact hr₁.elim
end
end Mine
section
namespace Mine
open PySem PySem.Spec PySem.Calls PyProof.Rows PySem.W
namespace FM
open PySem.F
theorem own_setit : Manifest.owners.lookup (String.ofList ['r', 'o', 't', 'a', 'r', 'e', 't', 'i', '_', 't', 'e', 's'].reverse) = some Manifest.sig_set_iterator := by kernel_rfl
theorem slot_setit_next : Slot "set_iterator" "__next__" "set_iterator.__next__" :=
 .of (owner := "set_iterator") (n := "__next__") (by rw [typeLookup_type, builtinLookup_eq_fast]; kernel_rfl) (by decide +kernel) (by decide +kernel) (by decide +kernel)
  (by first | exact .inl (by decide +kernel) | exact .inr (by decide +kernel)) (by rw [isSubtype_type]; kernel_rfl)
theorem slot_setit_iter : Slot "set_iterator" "__iter__" "set_iterator.__iter__" :=
 .of (owner := "set_iterator") (n := "__iter__") (by rw [typeLookup_type, builtinLookup_eq_fast]; kernel_rfl) (by decide +kernel) (by decide +kernel) (by decide +kernel)
  (by first | exact .inl (by decide +kernel) | exact .inr (by decide +kernel)) (by rw [isSubtype_type]; kernel_rfl)
theorem entry_setit_next : entryFor table "set_iterator.__next__" = some Builtin.«set_iterator.__next__» := entryFor_of_tree (by kernel_rfl)
theorem args_setit_next (a : Value) : argsOk "set_iterator.__next__" ⟨[a], []⟩ := by
 unfold argsOk; rw [signature?_of (id := "set_iterator.__next__") (n := ['_', '_', 't', 'x', 'e', 'n', '_', '_']) (o := ['r', 'o', 't', 'a', 'r', 'e', 't', 'i', '_', 't', 'e', 's']) (by kernel_rfl) own_setit]; kernel_rfl
theorem entry_set_iter' : entryFor table "set.__iter__" = some Builtin.«frozenset.__iter__» :=
 entryFor_alias (id' := "frozenset.__iter__") (by kernel_rfl) rfl (by decide +kernel) (by kernel_rfl)
end FM
open Builtin
variable {K : Wd} {B : Base} {α β : Type} {A : Around} {g : Gh} {n : Nat} {env : Env}
variable {b : Gh} {S' : List Addr} {fn : List Nat} {cs : List Addr} {nm : List (Str × NameKind)} {σ σ' : List (Option D)} {own : List (Addr × MO)}
theorem Z188 : ∀ (xs : List α) (i : Nat) (h : i < xs.length), (xs[i] :: xs.eraseIdx i).Perm xs
 | [], i, h => by cases h
 | x :: xs, 0, h => .refl _
 | x :: xs, i + 1, h => by
  have h' : i < xs.length := by exact Nat.lt_of_succ_lt_succ h
  show (xs[i] :: x :: xs.eraseIdx i).Perm (x :: xs)
  exact (List.Perm.swap _ _ _).trans ((Z188 xs i h').cons x)
theorem gwp_choose {src : Source} {n : Nat} {Q : Nat → Gh → Prop} (hn : n ≠ 0) (q : ∀ x, x < n → Q x g) : gwp K A (choose src n) Q g := fun s E ok Γ p hΓ => by
 show n ≠ 0 ∧ _
 exact ⟨hn, g, ok.any rfl rfl ok.gens, q _ (Nat.mod_lt _ (Nat.pos_of_ne_zero hn))⟩
theorem gwp_drawOrder : ∀ (k : Nat) (xs : List α), xs.length = k → gwp K A (drawOrder k xs) (fun ys g' => g' = g ∧ ys.Perm xs) g := by
 intro k
 induction k with
 | zero =>
  intro xs h
  have : xs = [] := List.length_eq_zero_iff.mp h
  subst this
  exact Z4 ⟨rfl, .nil⟩
 | succ k ih =>
  intro xs h
  cases xs with
  | nil => cases h
  | cons x xs =>
   refine Z1 (gwp_choose (by lia) fun i hi => ?_)
   have hi' : i < (x :: xs).length := hi
   rw [List.getElem?_eq_getElem hi']
   refine Z1 (gM0_2 (ih ((x :: xs).eraseIdx i) (by rw [List.length_eraseIdx_of_lt hi', h]; rfl)) fun ys g' e hp => Z4 ⟨e, ?_⟩)
   refine (hp.cons _).trans ?_
   exact Z188 _ _ hi'
theorem pickOrder_go (f : Nat → Nat) : ∀ (k j : Nat) (xs : List α) (out : Array α), xs.length = k → (pickOrder.go f k j xs out).toList.Perm (out.toList ++ xs) := by
 intro k
 induction k with
 | zero =>
  intro j xs out h
  have : xs = [] := List.length_eq_zero_iff.mp h
  subst this
  simp [pickOrder.go]
 | succ k ih =>
  intro j xs out h
  unfold pickOrder.go
  have hi : f j % xs.length < xs.length := Nat.mod_lt _ (by lia)
  rw [List.getElem?_eq_getElem hi]
  refine (ih (j + 1) _ _ (by rw [List.length_eraseIdx_of_lt hi, h]; rfl)).trans ?_
  rw [Array.toList_push, List.append_assoc]
  exact List.Perm.append_left _ (Z188 _ _ hi)
theorem Z253 (f : Nat → Nat) (xs : Array α) : (pickOrder f xs).toList.Perm xs.toList := by
 have := pickOrder_go f xs.size 0 xs.toList #[] (by exact rfl)
 simpa [pickOrder] using this
theorem Z89 {a : Addr} {o : Obj} {es : Array (Int × Value)} {ep : Nat} {t : SetTable} {Q : (Array (Int × Value) × Nat × SetTable) → Gh → Prop} (ho : g.has a o) (hd : o.data = .set es ep t) (hf : t.fits es.size = true) (q : Q (es, ep, t) g) : gwp K A (setState a) Q g := fun s E ok =>
 wpAny_setState_of (ho.get ok) hd hf ⟨g, ok, q⟩
theorem Z255 {a : Addr} {o : Obj} {es : Array (Int × Value)} {ep : Nat} {t : SetTable} {Q : Array (Int × Value) → Gh → Prop} (ho : g.has a o) (hd : o.data = .set es ep t) (hf : t.fits es.size = true) (q : Q es g) : gwp K A (setEntries a) Q g := fun s E ok =>
 wpAny_setEntries_of (ho.get ok) hd hf ⟨g, ok, q⟩
theorem Z126 {Q : Bool → Gh → Prop} (q : Q (!ledOf K.w) g) : gwp K A setsByText Q g := fun s E ok => by
 refine wpAny_bind (wpAny_askSetting (wpAny_pure ⟨g, ok, ?_⟩))
 have : K.w.params.followText "set-order" = !ledOf K.w := by unfold ledOf; simp
 show Q (K.w.params.followText "set-order") g
 rw [this]; exact q
theorem gwp_fieldsOf {a : Addr} {o : Obj} {vs : Array Value} {Q : Array Value → Gh → Prop} (ho : g.has a o) (hd : o.data = .fields vs) (q : Q vs g) : gwp K A (fieldsOf (.ref a)) Q g := fun s E ok => wpAny_fieldsOf (ho.get ok) hd ⟨g, ok, q⟩
noncomputable abbrev siObj (first : Value) (i : Nat) (S : Addr) (n ep : Nat) : Obj := fo "set_iterator" #[first, rawInt i, .ref S, rawInt n, rawInt ep]
noncomputable def IntV (e : Int × Value) (k : Int) : Prop := ∃ tk, e.2 = .int k tk
inductive Mode (K : Wd) (S : Addr) (es : Array (Int × Value)) (ep : Nat) (t : SetTable) (seq : List (Int × Value)) (i : Nat) (first : Value) (g : Gh) : Prop where
 | text (slot : Nat) (h1 : ledOf K.w = false) (h2 : seq = (pickOrder (K.w.params.setOrder S ep) es).toList) (h3 : first = rawInt slot) : Mode K S es ep t seq i first g
 | order (slot : Nat) (h1 : ledOf K.w = true) (h2 : seq = es.toList) (h3 : first = rawInt slot) (h4 : SetTable.below t.place slot = i) (h5 : (!t.plain && decide (es.size > 1)) = false) : Mode K S es ep t seq i first g
 | draw (P : Addr) (ps : List Nat) (m : Nat) (h1 : first = .ref P) (h2 : g.im P = some (sq "tuple" (ps.map fun p : Nat => rawInt p).toArray m)) (h3 : ps.map (fun p => es[p]?) = seq.map some) : Mode K S es ep t seq i first g
noncomputable def ivD (e : Int × Value) : D := match e.2 with | .int k _ => .int k | _ => .int 0
structure SiAt (K : Wd) (S it : Addr) (o : Obj) (es : Array (Int × Value)) (ep : Nat) (t : SetTable) (seq : List (Int × Value)) (i : Nat) (first : Value) (g : Gh) : Prop where
 data : o.data = .set es ep t
 fits : t.fits es.size = true
 tab : TabOk (ledOf K.w) t
 im : g.im S = some o
 it : g.mu it = some (siObj first i S es.size ep)
 mode : Mode K S es ep t seq i first g
 len : seq.length = es.size
 allInt : ∀ e ∈ seq, ∃ k, IntV e k
noncomputable def SiSt (K : Wd) (S it : Addr) (ds : List D) (g : Gh) : Prop := ∃ o es ep t seq i first, SiAt K S it o es ep t seq i first g ∧ ds = (seq.drop i).map ivD
theorem below_next {p : Array Nat} (h : Rz p) {i : Nat} (hi : i < p.size) : SetTable.below p (p.getD i 0 + 1) = i + 1 := by
 obtain ⟨h1, h2, h3⟩ := Z283 h (p.getD i 0 + 1)
 generalize SetTable.below p (p.getD i 0 + 1) = k at *
 rcases Nat.lt_trichotomy k (i + 1) with hk | hk | hk
 ·exfalso
  have := h3 i (by lia) hi
  lia
 ·exact hk
 ·exfalso
  have h4 := h2 (i + 1) hk
  have := h.lt (show i < i + 1 by exact Nat.le_refl _) (by exact Nat.lt_of_lt_of_le ‹_› ‹_›)
  lia
theorem below_zero {p : Array Nat} : SetTable.below p 0 = 0 := by
 by_cases h : 0 < SetTable.below p 0
 ·exfalso
  have go : ∀ (fuel lo hi : Nat), SetTable.below.go p 0 fuel lo hi = lo := by
   intro fuel
   induction fuel with
   | zero => intros; rfl
   | succ f ih =>
    intro lo hi
    unfold SetTable.below.go
    split
    ·rw [if_neg (by lia)]; exact ih _ _
    ·rfl
  unfold SetTable.below at h
  rw [go] at h; lia
 ·lia
theorem gwp_askW {Q : Setting → Gh → Prop} (q : Q ⟨K.prog, K.w.params⟩ g) : gwp K A ask Q g := fun s E ok => wpAny_askSetting ⟨g, ok, q⟩
theorem Z102 {S : Addr} {o : Obj} {es : Array (Int × Value)} {ep slot i : Nat} {t : SetTable} {Q : Option (Value × Nat) → Gh → Prop} (h1 : ledOf K.w = false) (ho : g.has S o) (hd : o.data = .set es ep t) (hf : t.fits es.size = true)
  (q : Q (((pickOrder (K.w.params.setOrder S ep) es)[i]?).map fun e => (e.2, slot)) g) : gwp K A (setNext S slot i ep) Q g := by
 refine Z1 (Z89 ho hd hf ?_)
 refine Z1 (Z126 ?_)
 rw [h1]
 simp only [Bool.not_false, if_true, bne_self_eq_false, Bool.false_eq_true, if_false]
 refine Z1 ?_
 refine Z1 (Z89 ho hd hf ?_)
 refine Z1 (Z126 ?_)
 rw [h1]
 refine Z1 (gwp_askW (Z4 ?_))
 exact Z4 q
theorem Z94 {S : Addr} {o : Obj} {es : Array (Int × Value)} {ep slot i : Nat} {t : SetTable} {Q : Option (Value × Nat) → Gh → Prop} (h1 : ledOf K.w = true) (hl : t.led = true) (h5 : (!t.plain && decide (es.size > 1)) = false) (ho : g.has S o) (hd : o.data = .set es ep t) (hf : t.fits es.size = true)
  (q : Q (match es[SetTable.below t.place slot]?, t.place[SetTable.below t.place slot]? with | some (_, x), some j => some (x, j + 1) | _, _ => none) g) : gwp K A (setNext S slot i ep) Q g := by
 refine Z1 (Z89 ho hd hf ?_)
 refine Z1 (Z126 ?_)
 rw [h1]
 simp only [Bool.not_true, Bool.false_eq_true, if_false]
 split
 ·rename_i hc
  exact absurd (show (!t.plain && decide (es.size > 1)) = true from hc) (by rw [h5]; simp)
 ·refine Z1 ?_
  show gwp K A (if (!t.led && !es.isEmpty) = true then unsupported "set:maker-not-led" else pure ()) _ g
  rw [hl]
  exact Z4 (Z4 q)
theorem setit_next {S it : Addr} {d : D} {ds : List D} (st : SiSt K S it (d :: ds) g) : gwp K A (Builtin.«set_iterator.__next__» ⟨[.ref it], []⟩) (fun fin g' => ∃ v, fin = .done (.ret v) ∧ LeX [it] g g' ∧ Rep g'.im d v ∧ SiSt K S it ds g') g := by
 refine cps fun Q₀ k₀ => ?_
 obtain ⟨o, es, ep, t, seq, i, first, st, hds⟩ := st
 have hi : i < seq.length := by
  rcases Nat.lt_or_ge i seq.length with h | h
  ·exact h
  ·rw [List.drop_eq_nil_of_le h] at hds; cases hds
 rw [List.drop_eq_getElem_cons hi] at hds
 obtain ⟨k, tk, hk⟩ := st.allInt _ (List.getElem_mem hi)
 have hd : d = D.int k ∧ ds = (seq.drop (i + 1)).map ivD := by
  simp only [List.map_cons, List.cons.injEq] at hds
  refine ⟨?_, hds.2⟩
  rw [hds.1, ivD, hk]
 clear hds; obtain ⟨rfl, rfl⟩ := hd
 refine Z1 (m := slotArgs _ _ _) (Z82 rfl (Z4 ?_))
 refine Z1 (gwp_fieldsOf (.inr st.it) rfl ?_)
 refine Z1 (Z255 (.inl st.im) st.data st.fits ?_)
 rw [if_neg (by lia)]
 have hit := st.it
 have hmo := st.mode
 have hput : ∀ (first' : Value), (∀ g', g'.im = g.im → Mode K S es ep t seq (i + 1) first' g') → SiSt K S it ((seq.drop (i + 1)).map ivD) (g.setMu it (siObj first' (i + 1) S es.size ep)) := fun first' hm =>
  ⟨o, es, ep, t, seq, i + 1, first', ⟨st.data, st.fits, st.tab, st.im, Gh.setMu_self, hm _ rfl, st.len, st.allInt⟩, rfl⟩
 cases hmo with
 | text slot h1 h2 h3 =>
  subst h3
  simp only [Int.toNat_natCast]
  refine Z1 (Z102 h1 (.inl st.im) st.data st.fits ?_)
  have e : (pickOrder (K.w.params.setOrder S ep) es)[i]? = some seq[i] := by
   rw [← Array.getElem?_toList, ← h2]; exact List.getElem?_eq_getElem hi
  rw [e]
  refine Z1 (Z23 hit (by exact Nat.succ_pos _) ?_)
  refine Z1 (Z23 Gh.setMu_self (by simp) (Z4 ?_))
  rw [Z40]
  refine (k₀ _ _ ⟨_, rfl, LeX.setMu, by rw [hk]; exact Z25, ?_⟩)
  exact hput (rawInt slot) fun g' e => .text slot h1 h2 rfl
 | order slot h1 h2 h3 h4 h5 =>
  subst h3
  dsimp only [rawInt]
  simp only [Int.toNat_natCast]
  refine Z1 (Z94 h1 (st.tab.2.trans h1) h5 (.inl st.im) st.data st.fits ?_)
  rw [h4]
  have hsz : t.place.size = es.size := by
   have := st.fits
   simp only [SetTable.fits, Bool.and_eq_true, beq_iff_eq] at this
   exact this.1
  have hi' : i < es.size := by rw [← st.len]; exact hi
  have e : es[i]? = some seq[i] := by
   rw [← Array.getElem?_toList, ← h2]; exact List.getElem?_eq_getElem hi
  have e2 : t.place[i]? = some (t.place.getD i 0) := by
   rw [Array.getElem?_eq_getElem (by lia)]
   simp [Array.getD_eq_getD_getElem?, Array.getElem?_eq_getElem (show i < t.place.size by lia)]
  rw [e, e2]
  dsimp only
  refine Z1 (Z23 hit (by exact Nat.succ_pos _) ?_)
  refine Z1 (Z23 Gh.setMu_self (by simp) (Z4 ?_))
  rw [Z40]
  refine (k₀ _ _ ⟨_, rfl, LeX.setMu, by rw [hk]; exact Z25, ?_⟩)
  exact hput (rawInt (t.place.getD i 0 + 1 : Nat)) fun g' e => .order _ h1 h2 rfl (below_next st.tab.1 (by lia)) h5
 | draw P ps m h1 h2 h3 =>
  subst h1
  refine Z1 (Z59 (.inl h2) rfl ?_)
  simp only [Int.toNat_natCast]
  have hps : i < ps.length := by
   have := congrArg List.length h3
   simp at this; lia
  have e : ((ps.map fun p : Nat => rawInt p).toArray)[i]? = some (rawInt ps[i]) := by
   rw [List.getElem?_toArray, List.getElem?_map, List.getElem?_eq_getElem hps]; rfl
  have e2 : es[ps[i]]? = some seq[i] := by
   have := congrArg (·[i]?) h3
   simpa [List.getElem?_eq_getElem hps, List.getElem?_eq_getElem hi] using this
  rw [e]
  dsimp only [rawInt]
  simp only [Int.toNat_natCast]
  refine Z1 ?_
  unfold setNextDrawn
  refine Z1 (Z89 (.inl st.im) st.data st.fits ?_)
  simp only [bne_self_eq_false, Bool.false_eq_true, if_false]
  rw [e2]
  refine Z4 ?_
  refine Z1 (Z23 hit (by simp) (Z4 ?_))
  refine (k₀ _ _ ⟨_, rfl, LeX.setMu, by show Rep _ _ (seq[i]).2; rw [hk]; exact Z25, ?_⟩)
  exact hput (.ref P) fun g' e => .draw P ps m rfl (by rw [e]; exact h2) h3
end Mine
end
section
namespace Mine
open PySem PySem.Spec PySem.Calls PyProof.Rows PySem.W PySem.SeqAt
namespace FM
open PySem.F
theorem entry_setit_iter : entryFor table "set_iterator.__iter__" = some Builtin.«dict_keyiterator.__iter__» :=
 entryFor_alias (id' := "dict_keyiterator.__iter__") (by kernel_rfl) rfl (by decide +kernel) (by kernel_rfl)
theorem args_setit_iter (a : Value) : argsOk "set_iterator.__iter__" ⟨[a], []⟩ := by
 unfold argsOk; rw [signature?_of (id := "set_iterator.__iter__") (n := ['_', '_', 'r', 'e', 't', 'i', '_', '_']) (o := ['r', 'o', 't', 'a', 'r', 'e', 't', 'i', '_', 't', 'e', 's']) (by kernel_rfl) own_setit]; kernel_rfl
end FM
open Builtin
variable {K : Wd} {B : Base} {α β : Type} {A : Around} {g : Gh} {n : Nat} {env : Env}
variable {b : Gh} {S' : List Addr} {fn : List Nat} {cs : List Addr} {nm : List (Str × NameKind)} {σ σ' : List (Option D)} {own : List (Addr × MO)}
theorem SiSt.up {S it : Addr} {ds : List D} {g' : Gh} {W : List Addr} (st : SiSt K S it ds g) (l : LeX W g g') (h : it ∉ W) : SiSt K S it ds g' := by
 refine E7_2 st fun o es ep t seq i first st hds => ?_
 refine ⟨o, es, ep, t, seq, i, first, ⟨st.data, st.fits, st.tab, l.im _ _ st.im, l.mu _ _ h st.it, ?_, st.len, st.allInt⟩, hds⟩
 cases st.mode with
 | text slot h1 h2 h3 => exact .text slot h1 h2 h3
 | order slot h1 h2 h3 h4 h5 => exact .order slot h1 h2 h3 h4 h5
 | draw P ps m h1 h2 h3 => exact .draw P ps m h1 (l.im _ _ h2) h3
theorem any_stop {prog : Program} {w : World} {s : Shared} {E : Value → Shared → Prop} {Q : Option Value → Shared → Prop} {P : Fin → Shared → Prop} {it : Addr} {o : Obj} {vs : Array Value} (hh : A.handled = none) (ho : s.heap.get? it = some o) (hd : o.data = .fields vs) (hsz : 2 < vs.size)
  (hQ : ∀ h', Heap.ExtBut it s.heap h' → Q none { s with heap := h' }) :
  wpAny (model prog w) A.in1 (do setField (.ref it) 2 .none; raiseNew (← newExc (.type "StopIteration") []) : Sem Fin)
   P (fun e s' => wpAny (model prog w) A (do if ← isInstance e (.type "StopIteration") then pure none else throw e : Sem (Option Value)) Q E s') s := by
 refine wpAny_bind (wpAny_setField ho hd hsz ?_)
 refine wpAny_bind ?_
 refine wpAny_bind (wpAny_newObj_type ?_ (by size_fits))
 refine wpAny_bind (m := firstArgMember _ _) (wpAny_of_eq (a := Value.none) (by first | rfl | (dsimp only [firstArgMember]; rfl)) ?_)
 refine wpAny_newObj_type ?_ (by size_fits)
 refine wpAny_bind (wpAny_handled ?_)
 rw [show A.in1.handled = none from hh]
 refine wpAny_bind (wpAny_pure (wpAny_throw ?_))
 refine wpAny_bind (wpAny_isInstance (T := "StopIteration") (b := true) ⟨_, Heap.get?_push_size _ rfl, rfl⟩ isSubtype_stop ?_)
 exact wpAny_pure (hQ _ (((Heap.SameBut.update ..).extBut.push _).push _))
theorem setit_done {S it : Addr} (hh : A.handled = none) (st : SiSt K S it [] g) : gwp K A (pyNext (.ref it)) (fun r g' => LeX [it] g g' ∧ r = none) g := fun s E ok => by
 refine E7_2 st fun o es ep t seq i first st hds => ?_
 have hi : seq.length ≤ i := by
  have := congrArg List.length hds
  simp at this; lia
 have hget := ok.mu _ _ st.it
 have hT : s.TypeIs (.ref it) "set_iterator" := ⟨_, hget, rfl⟩
 have hQ : ∀ h', Heap.ExtBut it s.heap h' → ∃ g' : Gh, g'.Ok K.B { s with heap := h' } ∧ LeX [it] g g' ∧ (none : Option Value) = none := fun h' he => ⟨_, ok.lost (tk := s.toks) st.it he, LeX.drop, rfl⟩
 refine wpAny_bind (wpAny_attempt (wpAny_callSpecial?_slot (name := Str.ofString "__next__") hT FM.slot_setit_next (wpAny_call_entry FM.slot_setit_next hT FM.entry_setit_next ?_ (FM.args_setit_next _))))
 refine wpAny_bind (m := slotArgs _ _ _) (wpAny_of_eq rfl ?_)
 refine wpAny_bind (wpAny_fieldsOf hget rfl ?_)
 refine wpAny_bind (wpAny_setEntries_of (ok.im _ _ st.im) st.data st.fits ?_)
 rw [if_neg (by simp)]
 have hmo := st.mode
 cases hmo with
 | text slot h1 h2 h3 =>
  subst h3
  dsimp only [Int.toNat_natCast]
  have e : (pickOrder (K.w.params.setOrder S ep) es)[i]? = none := by
   rw [← Array.getElem?_toList, ← h2]; exact List.getElem?_eq_none hi
  refine wpAny_bind (wpAny_mono (Z102 (A := A.in1) (g := g) (Q := fun r g' => r = none ∧ g' = g) h1 (.inl st.im) st.data st.fits (by rw [e]; exact ⟨rfl, rfl⟩) s (fun _ _ => False) ok) (fun r s₁ z₀ => E1_3 z₀ fun g₁ ok₁ e1 e2 => ?_) fun _ _ z => z.elim)
  subst e1; subst e2
  exact any_stop (Q := fun v s' => ∃ g' : Gh, g'.Ok K.B s' ∧ (LeX [it] g₁ g' ∧ v = none)) hh (ok₁.mu _ _ st.it) rfl (by simp) fun h' he => ⟨_, ok₁.lost (tk := s₁.toks) st.it he, LeX.drop, rfl⟩
 | order slot h1 h2 h3 h4 h5 =>
  subst h3
  dsimp only [rawInt]
  dsimp only [Int.toNat_natCast]
  have e : es[i]? = none := by
   rw [← Array.getElem?_toList, ← h2]; exact List.getElem?_eq_none hi
  refine wpAny_bind (wpAny_mono (Z94 (A := A.in1) (g := g) (Q := fun r g' => r = none ∧ g' = g) h1 (st.tab.2.trans h1) h5 (.inl st.im) st.data st.fits (by rw [h4, e]; exact ⟨rfl, rfl⟩) s (fun _ _ => False) ok) (fun r s₁ z₀ => E1_3 z₀ fun g₁ ok₁ e1 e2 => ?_) fun _ _ z => z.elim)
  subst e1; subst e2
  exact any_stop (Q := fun v s' => ∃ g' : Gh, g'.Ok K.B s' ∧ (LeX [it] g₁ g' ∧ v = none)) hh (ok₁.mu _ _ st.it) rfl (by simp) fun h' he => ⟨_, ok₁.lost (tk := s₁.toks) st.it he, LeX.drop, rfl⟩
 | draw P ps m h1 h2 h3 =>
  subst h1
  refine wpAny_bind (wpAny_seqItems (ok.im _ _ h2) rfl ?_)
  dsimp only [Int.toNat_natCast]
  have e : ((ps.map fun p : Nat => rawInt p).toArray)[i]? = none := by
   have := congrArg List.length h3
   rw [List.getElem?_toArray]
   refine List.getElem?_eq_none ?_
   simp at this ⊢; lia
  rw [e]
  refine wpAny_bind (wpAny_setField_rec hget (by simp) fun h' e1 hs => ?_)
  have ok' := ok.sameBut (tk := s.toks) st.it hs e1
  exact any_stop (Q := fun v s' => ∃ g' : Gh, g'.Ok K.B s' ∧ (LeX [it] g g' ∧ v = none)) (vs := #[Value.ref P, rawInt i, .ref S, rawInt es.size, rawInt ep].setIfInBounds 0 (.int 0 0)) hh e1 rfl (by simp) fun h'' he => ⟨_, ok'.lost (tk := s.toks) Gh.setMu_self he, (LeX.setMu (a := it)).trans LeX.drop, rfl⟩
theorem It.set {S it : Addr} : It K (.ref it) [it] [] (SiSt K S it) where
 item := fun {d ds g A} hh st s E ok => by
  refine E7_2 (id st) fun o es ep t seq i first st' hds => ?_
  have hT : s.TypeIs (.ref it) "set_iterator" := ⟨_, ok.mu _ _ st'.it, rfl⟩
  refine wpAny_bind (wpAny_attempt (wpAny_callSpecial?_slot (name := Str.ofString "__next__") hT FM.slot_setit_next (wpAny_call_entry FM.slot_setit_next hT FM.entry_setit_next (wM1_2 (setit_next (A := A.in1) st s _ ok) (fun fin s' g' ok' v00 => E1_4 v00 fun v e1 l hv st' => ?_)) (FM.args_setit_next _))))
  refine ⟨v, e1, wpAny_pure ⟨g', ok', l, v, rfl, hv, fun target A => ?_⟩⟩
  refine E7_2 (id st') fun o' es' ep' t' seq' i' first' st'' hds' => ?_
  exact Z35 (a := it) (.inr st''.it) rfl rfl (by decide) ⟨LeX.refl _ _, st'⟩
 done := fun {g A} hh st => setit_done hh st
 self := fun {ds g A Q} st q s E ok => by
  refine E7_2 st fun o es ep t seq i first st hds => ?_
  have hT : s.TypeIs (.ref it) "set_iterator" := ⟨_, ok.mu _ _ st.it, rfl⟩
  refine wpAny_pyIter_slot hT FM.slot_setit_iter (wpAny_call_entry FM.slot_setit_iter hT FM.entry_setit_iter ?_ (FM.args_setit_iter _))
  show wpAny _ _ (ret (.ref it)) _ _ s
  exact wpAny_pure ⟨_, rfl, "set_iterator", _, hT, FM.slot_setit_next.lookup, ⟨g, ok, q⟩⟩
 frame := fun {ds g g' W} st l hw => st.up l fun h => (hw _ h).1 (by exact .head _)
 mem := fun {ds g} st => all1 (E7_2 st fun o es ep t seq i first st _ => ⟨_, st.it⟩)
 cell := fun {ds g} st => all1 (fun o' w e => E7_2 st fun o es ep t seq i first st _ z => by rw [← Z39 st.it e] at z; cases z)
end Mine
end
namespace Mine
section
open PySem PySem.Spec PySem.Calls PyProof.Rows PySem.W PySem.SeqAt Builtin
variable {K : Wd} {B : Base} {α β : Type} {A : Around} {g : Gh} {n : Nat} {env : Env}
variable {b : Gh} {S' : List Addr} {fn : List Nat} {cs : List Addr} {nm : List (Str × NameKind)} {σ σ' : List (Option D)} {own : List (Addr × MO)}
theorem Z222 {α : Type} [DecidableEq α] : ∀ (l k : List α), l.Nodup → (∀ x ∈ l, x ∈ k) → k.length = l.length → k.Perm l
 | [], k, _, _, h => by rw [List.length_eq_zero_iff.mp h]
 | a :: l, k, hn, hs, h => by
  have ha := hs a (by exact .head _)
  have hp : k.Perm (a :: k.erase a) := List.perm_cons_erase ha
  rw [List.nodup_cons] at hn
  refine hp.trans (.cons a (Z222 l (k.erase a) hn.2 (fun x hx => ?_) ?_))
  ·exact (List.mem_erase_of_ne (fun e => hn.1 (by clear hp hs hn; subst e; exact hx))).mpr (hs x (List.mem_cons_of_mem _ hx))
  ·have := hp.length_eq
   simp at this h; lia
theorem Z250 : ∀ (l σ : List Int), σ.Nodup → (l.foldl step_dedup σ).Nodup := by
 intro l
 induction l with
 | nil => intro σ h; exact h
 | cons x l ih =>
  intro σ h
  rw [List.foldl_cons]
  refine ih _ ?_
  unfold step_dedup
  split
  ·exact h
  ·rename_i hc
   refine List.nodup_append.mpr ⟨h, by simp, fun a ha b hb e => hc ?_⟩
   clear hc ih; simp at hb; subst hb; subst e
   exact List.any_eq_true.mpr ⟨a, ha, by lia⟩
theorem dedup_mem (l : List Int) (k : Int) : k ∈ l.foldl step_dedup [] ↔ k ∈ l := by
 have h : ∀ (l σ : List Int), k ∈ l.foldl step_dedup σ ↔ (k ∈ σ ∨ k ∈ l) := by
  intro l
  induction l with
  | nil => simp
  | cons x l ih =>
   intro σ
   rw [List.foldl_cons, ih, List.mem_cons]
   unfold step_dedup
   split
   ·rename_i hc
    refine E1_2 (List.any_eq_true.mp hc) fun y hy he => ?_
    clear hc ih; simp at he; subst he
    constructor
    ·rintro (h | h)
     ·exact .inl h
     ·exact .inr (.inr h)
    ·rintro (h | h | h)
     ·exact .inl h
     ·exact .inl (h ▸ hy)
     ·exact .inr h
   ·simp [or_assoc]
 rw [h]; simp
noncomputable def ivI (e : Int × Value) : Int := match e.2 with | .int k _ => k | _ => 0
theorem ivD_eq (e : Int × Value) (h : ∃ k, IntV e k) : ivD e = .int (ivI e) := by
 refine E2_1 h fun k tk hk => ?_
 simp [ivD, ivI, hk]
theorem isInt_iff {k : Int} {v : Value} : Value.isInt k v = true ↔ ∃ t, v = .int k t := ⟨Value.isInt_shape, fun z₀ => E1_1 z₀ fun t e => by subst e; simp [Value.isInt]⟩
theorem SetAt.perm {o : Obj} {l : List Int} {es : Array (Int × Value)} {ep : Nat} {t : SetTable} (h : SetT K.prog K.w o (fun k => l.any (· == k)) l.length (ledOf K.w) es ep t) (hn : l.Nodup) : (∀ e ∈ es.toList, ∃ k, IntV e k) ∧ (es.toList.map ivI).Perm l := by
 have h1 : ∀ e ∈ es.toList, ∃ k, IntV e k := fun e he => by
  refine E0_2 (h.els e he) ?_
  rintro ⟨k, hk, _⟩ _
  exact ⟨k, isInt_iff.mp hk⟩
 refine ⟨h1, Z222 l _ hn (fun k hk => ?_) (by rw [List.length_map, Array.length_toList, h.size])⟩
 obtain ⟨e, he, hi⟩ := (h.mem k).mp (List.any_eq_true.mpr ⟨k, hk, by lia⟩)
 refine E1_1 (isInt_iff.mp hi) fun tk ht => ?_
 exact List.mem_map.mpr ⟨e, he, by simp [ivI, ht]⟩
theorem gwp_newTupleF {items : List Value} {Q : Value → Gh → Prop} (hsz : items.length ≤ sizeLine) (q : ∀ T g', Le g g' → g'.im T = some (sq "tuple" items.toArray 0) → Q (.ref T) g') : gwp K A (newTuple items) Q g := fun s E ok =>
 wpAny_newTuple ⟨_, ok.pushIm (o := { cls := .type "tuple", data := .seq items.toArray }) rfl, q _ _ (Le.addIm ok.fresh.1) Gh.addIm_self⟩ hsz
theorem Z229 {α : Type} {es : Array α} : ∀ ps : List Nat, (∀ p ∈ ps, p < es.size) → ps.map (fun p => es[p]?) = (ps.filterMap fun p => es[p]?).map some
 | [], _ => rfl
 | p :: ps, h => by
  have hp := h p (by exact .head _)
  have ih := Z229 (es := es) ps fun q hq => h q (List.mem_cons_of_mem _ hq)
  rw [List.map_cons, List.filterMap_cons, Array.getElem?_eq_getElem hp, ih]
  rfl
theorem iter_set {S : Addr} {o : Obj} {l : List Int} (ho : g.im S = some o) (h : SetAt K o l) (hn : l.Nodup) (hl : l.length ≤ 4000) : gwp K A (pyIter (.ref S)) (fun it g' => ∃ ks : List Int, ks.Perm l ∧ ∃ T, it = .ref T ∧ g.mu T = none ∧ Le g g' ∧ SiSt K S T (ks.map .int) g') g := fun s E ok => by
 refine E3_1 h fun es ep t hS => ?_
 refine E0_2 (SetAt.perm hS hn) fun hall hperm => ?_
 have hT : s.TypeIs (.ref S) "set" := ⟨_, ok.im _ _ ho, hS.ex.1⟩
 have hsz : es.size ≤ 4000 := by rw [hS.size]; exact hl
 have tail : ∀ (g₁ : Gh) (first : Value) (seq : List (Int × Value)) (s₁ : Shared), Le g g₁ → g₁.Ok K.B s₁ → (∀ g', Le g₁ g' → Mode K S es ep t seq 0 first g') → seq.Perm es.toList →
   wpAny (model K.prog K.w) A.in1 (do ret (← newFields "set_iterator" [first, rawInt 0, .ref S, rawInt es.size, rawInt (← setEpoch S)]) : Sem Fin)
    (fun fin s' => ∃ v, fin = .done (.ret v) ∧ ∃ T' r, s'.TypeIs v T' ∧ typeLookup (.type T') "__next__" = pure (some r) ∧ ∃ g', g'.Ok K.B s' ∧ ∃ ks : List Int, ks.Perm l ∧ ∃ T, v = .ref T ∧ g.mu T = none ∧ Le g g' ∧ SiSt K S T (ks.map .int) g') E s₁ := by
  intro g₁ first seq s₁ l₁ ok₁ hm hp
  refine wpAny_bind (wpAny_setEpoch_of (ok₁.im _ _ (l₁.im _ _ ho)) hS.data hS.fits ?_)
  refine wpAny_bind (wpAny_newObj_type (wpAny_pure ⟨_, rfl, "set_iterator", _, ⟨_, Heap.get?_push_size _ rfl, rfl⟩, FM.slot_setit_next.lookup, _, ok₁.pushMu (o := siObj first 0 S es.size ep) rfl, seq.map ivI, (hp.map ivI).trans hperm, _, rfl, l₁.nomu ok₁.fresh.2, l₁.trans (Le.addMu ok₁.fresh.2), o, es, ep, t, seq, 0, first, ?_, ?_⟩))
  ·exact ⟨hS.data, hS.fits, hS.tab, l₁.im _ _ ho, Gh.setMu_self, hm _ (Le.addMu ok₁.fresh.2), by rw [hp.length_eq, Array.length_toList], fun e he => hall e (hp.mem_iff.mp he)⟩
  ·rw [List.drop_zero, List.map_map]
   exact List.map_congr_left fun e he => (ivD_eq e (hall e (hp.mem_iff.mp he))).symm
 refine wpAny_pyIter_slot hT PySem.F.slot_set_iter (wpAny_call_entry PySem.F.slot_set_iter hT FM.entry_set_iter' ?_ (PySem.F.args_set_iter_1 _))
 refine wpAny_bind (m := Frozenset.slot0 _ _) (wpAny_of_eq (a := S) rfl ?_)
 refine wpAny_bind (wpAny_bind (wpAny_setEntries_of (ok.im _ _ ho) hS.data hS.fits (wpAny_pure ?_)))
 refine wpAny_bind ?_
 refine wpAny_bind (wpAny_setState_of (ok.im _ _ ho) hS.data hS.fits ?_)
 refine wpAny_bind (wpAny_mono (Z126 (A := A.in1) (g := g) (Q := fun r g' => r = !ledOf K.w ∧ g' = g) ⟨rfl, rfl⟩ s (fun _ _ => False) ok) (fun r s₁ z₀ => E1_3 z₀ fun g₁ ok₁ e1 e2 => ?_) fun _ _ z => z.elim)
 clear hperm hall hS hl ho; subst e1; subst e2
 refine wpAny_pure ?_
 split
 ·rename_i hc
  refine wpAny_bind (wpAny_mono (gwp_drawOrder (A := A.in1) (g := g₁) es.size (List.range es.size) (by exact List.length_range) s₁ (fun _ _ => False) ok₁) (fun ps s₂ z₀ => E1_3 z₀ fun g₂ ok₂ e2 hps => ?_) fun _ _ z => z.elim)
  subst e2
  refine wpAny_bind (wpAny_mono (gwp_newTupleF (A := A.in1) (g := g₂) (items := ps.map fun i : Nat => rawInt i) (Q := fun v g' => ∃ T, v = .ref T ∧ Le g₂ g' ∧ g'.im T = some (sq "tuple" (ps.map fun i : Nat => rawInt i).toArray 0)) (by rw [List.length_map, hps.length_eq, List.length_range]; exact Nat.le_trans hsz (by decide)) (fun T g' l e => ⟨T, rfl, l, e⟩) s₂ (fun _ _ => False) ok₂) (fun v s₃ z₀ => E1_2 z₀ fun g₃ ok₃ v00 => E1_3 v00 fun T e1 l₃ e2 => ?_) fun _ _ z => z.elim)
  clear hsz; subst e1
  have hlt : ∀ p ∈ ps, p < es.size := fun p hp => by exact List.mem_range.mp (hps.mem_iff.mp hp)
  refine tail g₃ (.ref T) (ps.filterMap fun p => es[p]?) s₃ l₃ ok₃ (fun g' l => .draw T ps 0 rfl (l.im _ _ e2) ?_) ?_
  ·exact Z229 ps hlt
  ·refine (hps.filterMap _).trans ?_
   rw [filterMap_getElem?_range]
 ·rename_i hc
  refine wpAny_bind (wpAny_pure ?_)
  clear hsz; cases hled : ledOf K.w with
  | false => exact tail g₁ (rawInt 0) _ s₁ (LeX.refl _ _) ok₁ (fun g' l => .text 0 hled rfl rfl) (Z253 _ _)
  | true =>
   rw [hled] at hc
   exact tail g₁ (rawInt 0) es.toList s₁ (LeX.refl _ _) ok₁ (fun g' l => .order 0 hled rfl rfl below_zero (by
    have : ¬ ((!t.plain && decide (es.size > 1)) = true) := fun z => hc (by show (!!true && (!t.plain && decide (es.size > 1))) = true; rw [z]; rfl)
    simpa using this)) (.refl _)
theorem Z258 {S : Addr} {o : Obj} {l : List Int} (hh : A.handled = none) (ho : g.im S = some o) (h : SetAt K o l) (hn : l.Nodup) (hl : l.length ≤ 4000) :
  gwp K A (collect (.ref S)) (fun vs g' => ∃ ks : List Int, ks.Perm l ∧ Le g g' ∧ Reps g'.im (ks.map .int) vs) g := fun s E ok => by
 have hcls : o.cls = .type "set" := by obtain ⟨es, ep, t, hS⟩ := h; exact hS.ex.1
 have fr := ok.fresh
 have ok₁ := ok.pushMu (o := sq "list" #[] 0) rfl
 refine wpAny_bind (wpAny_runValue (codeAny_builtin PyProof.Rows.entry_proto_collect' ?_))
 show wpAny _ _ (do again (.builtin "list.__iadd__" ⟨[← newList [], .ref S], []⟩)) _ _ s
 refine wpAny_bind (wpAny_newList (wpAny_pure ⟨Code.quiet_builtin _ (by decide +kernel), codeAny_builtin PyProof.Rows.entry_list_iadd' ?_⟩))
 replace ok₁ : (g.setMu s.heap.objs.size (sq "list" #[] 0)).Ok K.B { s with heap := s.heap.push { cls := .type "list", data := .seq ([] : List Value).toArray } } := ok₁
 generalize hN : s.heap.objs.size = N at *
 generalize ({ s with heap := s.heap.push { cls := .type "list", data := .seq ([] : List Value).toArray } } : Shared) = s₁ at *
 clear hN
 have l₁ : Le g (g.setMu N (sq "list" #[] 0)) := Le.addMu fr.2
 have hS₁ : (g.setMu N (sq "list" #[] 0)).mu N = some (sq "list" #[] 0) := Gh.setMu_self
 generalize hg₁ : g.setMu N (sq "list" #[] 0) = g₁ at *
 show wpAny (model K.prog K.w) _ (Builtin.List.listExtendWith (.ref N) (.ref S) (.ref N)) _ _ s₁
 have hNS : N ≠ S := fun e => by clear hS₁ hg₁; rw [e] at fr; cases ((fr.1).symm.trans ho)
 refine wpAny_bind (wpAny_typeOf (T := "set") ⟨o, ok₁.im _ _ (l₁.im _ _ ho), hcls⟩ ?_)
 have h1 : Builtin.List.listSameRef (.ref N) (.ref S) = false := by simp [Builtin.List.listSameRef, hNS]
 have h2 : (Value.type "set" == Value.type "list") = false := by decide
 have h3 : (Value.type "set" == Value.type "tuple") = false := by decide
 simp only [h1, h2, h3, Bool.or_false, Bool.false_eq_true, if_false]
 refine wpAny_bind (wpAny_mono (iter_set (l₁.im _ _ ho) h hn hl s₁ (fun _ _ => False) ok₁) (fun v s₂ z₀ => E1_2 z₀ fun g₂ ok₂ v00 => E1_2 v00 fun ks hp v01 => E1_4 v01 fun T e1 hT l₂ st => ?_) fun _ _ z => z.elim)
 subst e1
 refine wpAny_bind (wpAny_holding ?_)
 have hT₂ : s₂.TypeIs (.ref S) "set" := ⟨_, ok₂.im _ _ (l₂.im _ _ (l₁.im _ _ ho)), hcls⟩
 refine wpAny_bind (wpAny_specialOf hT₂ PySem.F.slot_set_len.lookup ?_)
 have hsp : splitId "set.__len__" = some ("set", "__len__") := by kernel_rfl
 dsimp only
 rw [hsp]
 refine wpAny_bind (wpAny_isInstance (T := "set") (b := true) hT₂ sub_set_self ?_)
 rw [if_neg (show ¬((!true) = true) by decide)]
 rw [if_pos]
 rotate_left
 ·decide +kernel
 refine wpAny_bind (wpAny_typeOf hT₂ ?_)
 refine wpAny_pure ?_
 have hS₂ := l₂.at hS₁
 have hNT : N ≠ T := fun e => by clear hS₂ hsp hg₁ fr; rw [e] at hS₁; cases ((hT).symm.trans hS₁)
 have fin5 : ∀ (s' : Shared) (g' : Gh) (its' : Array Value) (m' : Nat), g'.Ok K.B s' → LeX [N, T] g₂ g' → g'.mu N = some (sq "list" its' m') → Reps g'.im ([] ++ ks.map .int) its'.toList →
   ∃ g'' : Gh, g''.Ok K.B s' ∧ ∃ ks : List Int, ks.Perm l ∧ Le g g'' ∧ Reps g''.im (ks.map .int) its'.toList := fun s' g' its' m' ok' l' hS' hr' =>
  ⟨g', ok', ks, hp, ((LeX.of (l₁.trans l₂)).trans l').forget (fun a ha => .inr (by
   simp only [List.mem_cons, List.not_mem_nil, or_false] at ha
   rcases ha with rfl | rfl
   ·exact fr.2
   ·exact l₁.nomu hT)), by exact hr'⟩
 rw [if_pos]
 rotate_left
 ·decide +kernel
 refine wpAny_bind (wpAny_rule ?_)
 refine wpAny_bind ?_
 show wpAny _ _ (updateSeq N (·.push .none) >>= fun _ => updateSeq N (·.pop)) _ _ _
 refine wpAny_bind (wpAny_updateSeq (ok₂.mu _ _ hS₂) rfl ?_ (by decide) (by decide))
 have ok₄ := ok₂.upd hS₂ (f := Obj.mapSeq (·.push Value.none)) rfl
 refine wpAny_updateSeq (ok₄.mu _ _ Gh.setMu_self) rfl ?_ (by decide) (by decide)
 have ok₅ := ok₄.upd Gh.setMu_self (f := Obj.mapSeq (·.pop)) rfl
 rw [Z40] at ok₅
 generalize hg₅ : g₂.setMu N (Obj.mapSeq (·.pop) (Obj.mapSeq (·.push Value.none) (sq "list" #[] 0))) = g₅ at *
 have l₅ : LeX [N] g₂ g₅ := hg₅ ▸ LeX.setMu
 have hS₅ : g₅.mu N = some (sq "list" #[] 2) := by rw [← hg₅]; exact Gh.setMu_self
 refine wpAny_pure ⟨plainId_quiet PySem.F.plain_extend_loop _, Z201 (A := A) (S := N) It.set (by exact nmem1 hNT) (by exact List.not_mem_nil) hh (ks.map .int) [] #[] 2 g₅ g₅ _ (st.up l₅ (by exact nmem1 (fun e => hNT e.symm))) hS₅ Reps.nil (by simp; have := hp.length_eq; lia) (LeX.refl _ _) ok₅ fun s' g' its' m' ok' l' hS' hr' => ?_⟩
 refine wpAny_bind (wpAny_load (ok'.mu _ _ hS') (wpAny_pure ?_))
 exact fin5 s' g' its' m' ok' ((l₅.sub (by exact all1 (.head _))).trans l') hS' hr'
theorem ints_of {im : Im} : ∀ {ks : List Int} {vs : List Value}, Reps im (ks.map .int) vs → IntsAre vs ks
 | [], vs, h => by
  have : vs = [] := by simpa [Reps] using h
  subst this; exact .nil
 | k :: ks, vs, h => by
  simp only [List.map_cons, Reps] at h
  obtain ⟨v, vs', rfl, h1, h2⟩ := h
  obtain ⟨t, rfl⟩ := Z24 h1
  exact .cons k t (ints_of h2)
theorem Z192 {im : Im} : ∀ {vs : List Value} {ks : List Int}, IntsAre vs ks → Reps im (ks.map .int) vs
 | _, _, .nil => Reps.nil
 | _, _, .cons n t h => Reps.cons Z25 (Z192 h)
theorem Z206 {h : Heap} {a : Addr} {vs : List Value} {out : Array Value} {its : Array Value} {m : Nat} (ha : h.get? a = some (sq "list" its m)) :
  (∃ e, (sortedHeap h a vs out).get? a = some (sq "list" out e)) ∧ ∀ b o, b ≠ a → h.get? b = some o → (sortedHeap h a vs out).get? b = some o := by
 have hlt : a < h.objs.size := Heap.lt_size ha
 have h1 := get?_update_seq ha (fun _ => #[])
 unfold sortedHeap
 refine ⟨?_, fun b o hb e => ?_⟩
 ·have h6 : (((h.update a (Obj.mapSeq fun _ => #[])).push (seqObj "tuple" vs.toArray 0)).push (seqObj "list" #[] 0)).get? a = some (seqObj "list" #[] (if ((#[] : Array Value).size == its.size) = true then m else m + 1)) := by
   rw [Heap.get?_push_ne _ _ _ (by rw [size_push', Heap.size_update]; exact Nat.ne_of_lt (Nat.lt_succ_of_lt hlt)), Heap.get?_push_ne _ _ _ (by rw [Heap.size_update]; exact Nat.ne_of_lt hlt)]
   exact h1
  exact ⟨_, get?_update_seq h6 (fun _ => out)⟩
 ·rw [(Heap.SameBut.update _ a _).2 b hb]
  refine Heap.get?_push_of_some _ (Heap.get?_push_of_some _ ?_)
  rw [(Heap.SameBut.update _ a _).2 b hb]
  exact e
theorem gwp_sortedSet {S : Addr} {o : Obj} {l rs : List Int} {Q : Value → Gh → Prop} (hh : A.handled = none) (ho : g.im S = some o) (h : SetAt K o l) (hn : l.Nodup) (hl : l.length < 64) (hrs : rs.Pairwise (· < ·)) (hm : ∀ k, k ∈ rs ↔ k ∈ l)
  (q : ∀ v g', Le g g' → Rep g'.im (.lst (rs.map .int)) v → Q v g') : gwp K A (call (.builtin "sorted") [.ref S]) Q g := fun s E ok => by
 refine Calls.call_function_entry kind_sorted plain_sorted entry_sorted (args_sorted1 _) ?_
 refine wpAny_bind (m := checkCount "sorted" 1 1 _) (wpAny_pure ?_)
 refine wpAny_bind (wpAny_mono (Z258 (A := A.in1) hh ho h hn (by lia) s (fun _ _ => False) ok) (fun vs s₁ z₀ => E1_2 z₀ fun g₁ ok₁ v00 => E1_3 v00 fun ks hp l₁ hr => ?_) fun _ _ z => z.elim)
 have hlen : vs.length < 64 := by rw [hr.length, List.length_map, hp.length_eq]; exact hl
 refine wpAny_bind (wpAny_newList ?_ (le_sl (by lia)))
 have fr := ok₁.fresh
 have hN : (s₁.heap.push { cls := .type "list", data := .seq vs.toArray }).get? s₁.heap.objs.size = some (sq "list" vs.toArray 0) := Heap.get?_push_size _ rfl
 refine wpAny_bind (wpAny_holding (wpAny_call_entry slot_list_sort ⟨_, hN, rfl⟩ entry_list_sort (list_sort_tree (ns := ks) hN (ints_of hr) hlen fun out ns' a1 a2 a3 => ⟨_, rfl, ?_⟩) (args_list_sort _)))
 obtain ⟨⟨e, he⟩, hk⟩ := Z206 (vs := vs) (out := out) hN
 have hrsn : ns' = rs := by
  refine List.Perm.eq_of_pairwise (le := fun a b : Int => a ≤ b) (fun a b _ _ h5 h6 => Int.le_antisymm h5 h6) a3 (hrs.imp fun h => Int.le_of_lt h) ?_
  refine (a2.trans hp).trans ((List.perm_ext_iff_of_nodup hn (hrs.imp fun h => Int.ne_of_lt h)).mpr fun k => (hm k).symm)
 clear a3 hN hlen hr hm hrs hl ho; subst hrsn
 have ok₃ := ok₁.extIm (tk := s₁.toks) (o := sq "list" out e) (h' := sortedHeap (s₁.heap.push { cls := .type "list", data := .seq vs.toArray }) s₁.heap.objs.size vs out) (fun b o hb => hk b o (Nat.ne_of_lt (Heap.lt_size hb)) (Heap.get?_push_of_some _ hb)) he
 have l₃ := Le.addIm (g := g₁) (o := sq "list" out e) fr.1
 refine wpAny_pure ⟨_, rfl, _, ok₃, q _ _ (l₁.trans l₃) ?_⟩
 exact Z16.mpr ⟨_, out, e, rfl, Gh.addIm_self, Z192 a1⟩
theorem pe_sortedSet {f1 f2 e : Expr} {p1 p2 : Pos} {ns rs : List Int} (h1 : Pe K n g (eval f1 env) (.raw (.builtin "sorted"))) (h2 : Pe K n g (eval f2 env) (.raw (.type "set"))) (he : Pe K n g (eval e env) (.lst (ns.map .int))) (hsz : ns.length ≤ 4000) (h64 : rs.length < 64)
  (hrs : rs.Pairwise (· < ·)) (hm : ∀ k, k ∈ rs ↔ k ∈ ns)
  (ht1 : starEach [.Call f2 [e] [] p2] env = (false, eval (.Call f2 [e] [] p2) env) :: starEach [] env := by rfl)
  (hp1 : (backTo p1 (starEach [.Call f2 [e] [] p2] env)).any (·.1) = false := by rfl) (hp2 : (backTo p2 (starEach [e] env)).any (·.1) = false := by rfl)
  (hst : starEach [e] env = (false, eval e env) :: starEach [] env := by rfl)
  (hc1 : eval (.Call f1 [.Call f2 [e] [] p2] [] p1) env = (do callWith p1 (← eval f1 env) [] (backTo p1 (starEach [.Call f2 [e] [] p2] env)) (backToKw p1 (keywordEach [] env))) := by rfl)
  (hc2 : eval (.Call f2 [e] [] p2) env = (do callWith p2 (← eval f2 env) [] (backTo p2 (starEach [e] env)) (backToKw p2 (keywordEach [] env))) := by rfl) :
  Pe K n g (eval (.Call f1 [.Call f2 [e] [] p2] [] p1) env) (.lst (rs.map .int)) := fun A r g₁ l₁ => by
 refine Z33 ((h1.le l₁).useR r fun g₂ l₂ => ?_) hc1
 refine Z19 (fun a z => by cases z) hp1 (Z7 hp1 (Z13 ?_ ht1))
 have l12 := l₁.trans l₂
 refine Z33 ((h2.le l12).useR r fun g₃ l₃ => ?_) hc2
 refine Z19 (fun a z => by cases z) hp2 (Z7 hp2 (Z13 (((he.le l12).le l₃).use r fun v g₄ l₄ hv => Z17 ?_) hst))
 have hdl : (ns.foldl step_dedup []).length = rs.length := ((List.perm_ext_iff_of_nodup (Z250 ns [] (by exact List.nodup_nil)) (hrs.imp fun h => Int.ne_of_lt h)).mpr fun k => by rw [hm, dedup_mem]).length_eq
 refine gwp_setList r.1 hv hsz fun S o g₅ l₅ hS hSA => Z17 ?_
 refine gwp_sortedSet r.1 hS hSA (Z250 _ _ (by exact List.nodup_nil)) (by rw [hdl]; exact h64) hrs (fun k => by rw [hm, dedup_mem]) fun v g₆ l₆ hv => ⟨?_, hv⟩
 exact ((l₂.trans l₃).trans (l₄.trans l₅)).trans l₆
theorem Frm.storeAny {i : Nat} {x : Str} {k : NameKind} {d : D} {v : Value} {Q : Unit → Gh → Prop} (F : Frm K b S' fn cs env nm σ own g) (h : nm[i]? = some (x, k)) (hk : k = .local ∨ (k = .cell ∧ i ∈ fn)) (hv : Rep g.im d v)
  (q : ∀ g', LeX (env.locals :: cs) g g' → Frm K b S' fn cs env nm (σ.set i (some d)) own g' → Q () g') : gwp K A (storeName env x v) Q g := by
 rcases hk with rfl | ⟨rfl, hi⟩
 ·exact F.storeLocal h hv fun g' l F' => q g' (l.sub (by exact all1 (.head _))) F'
 ·exact F.storeCell h hi hv fun g' l F' => q g' (l.sub (fun a ha => List.mem_cons_of_mem _ ha)) F'
theorem gx_swap3 {elts : List Expr} {k : Nat} {tpos pos : Pos} {value : Expr} {x y z : Str} {kx ky kz : NameKind} {i j l : Nat} {d₁ d₂ d₃ : D} {rest : List Stmt} {Q : Flow → Gh → Prop} (H : Frm K b S' fn cs env nm σ own g) (r : Room A n) (hx : nm[i]? = some (x, kx)) (hy : nm[j]? = some (y, ky)) (hz : nm[l]? = some (z, kz))
  (h1 : kx = .local ∨ (kx = .cell ∧ i ∈ fn)) (h2 : ky = .local ∨ (ky = .cell ∧ j ∈ fn)) (h3 : kz = .local ∨ (kz = .cell ∧ l ∈ fn)) (hv : Pe K n g (eval value env) (.tup [d₁, d₂, d₃]))
  (kk : ∀ g', LeX (env.locals :: cs) g g' → Frm K b S' fn cs env nm (((σ.set l (some d₃)).set j (some d₂)).set i (some d₁)) own g' → gwp K A (execs rest env) Q g')
  (hs : swapsWithSole [.Tuple elts k tpos] value pos.line env = pure false := by rfl) (hw : swappedStores [.Tuple elts k tpos] value env = pure (some [x, y, z]) := by rfl) : gwp K A (execs (.Assign [.Tuple elts k tpos] value pos :: rest) env) Q g := by
 refine Z10 (Z70 (hv.use r fun v g₁ l₁ p => Z58 p r.1 rfl fun vs g₂ l₂ rs => ?_) hs hw)
 refine E3_4 (reps3 rs) ?_
 clear rs p hw hs hv; rintro u w t rfl r1 r2 r3
 refine Z20 (Z44 (((H.up l₁).up l₂).storeAny hz h3 r3 fun g₃ l₃ H₃ => ?_))
 refine Z20 (Z44 (H₃.storeAny hy h2 (r2.mono l₃.im) fun g₄ l₄ H₄ => ?_))
 refine Z20 (Z44 (H₄.storeAny hx h1 ((r1.mono l₃.im).mono l₄.im) fun g₅ l₅ H₅ => ?_))
 exact Z4 (kk g₅ ((LeX.of (l₁.trans l₂)).trans (l₃.trans (l₄.trans l₅))) H₅)
theorem gx_tuple3 {k : Nat} {tpos pos px py pz : Pos} {value : Expr} {x y z : Str} {kx ky kz : NameKind} {i j l : Nat} {d₁ d₂ d₃ : D} {rest : List Stmt} {Q : Flow → Gh → Prop} (H : Frm K b S' fn cs env nm σ own g) (r : Room A n) (hx : nm[i]? = some (x, kx)) (hy : nm[j]? = some (y, ky)) (hz : nm[l]? = some (z, kz))
  (h1 : kx = .local ∨ (kx = .cell ∧ i ∈ fn)) (h2 : ky = .local ∨ (ky = .cell ∧ j ∈ fn)) (h3 : kz = .local ∨ (kz = .cell ∧ l ∈ fn)) (hv : Pe K n g (eval value env) (.tup [d₁, d₂, d₃]))
  (kk : ∀ g', LeX (env.locals :: cs) g g' → Frm K b S' fn cs env nm (((σ.set i (some d₁)).set j (some d₂)).set l (some d₃)) own g' → gwp K A (execs rest env) Q g')
  (hs : swapsWithSole [.Tuple [.Name x px, .Name y py, .Name z pz] k tpos] value pos.line env = pure false := by rfl) (hw : swappedStores [.Tuple [.Name x px, .Name y py, .Name z pz] k tpos] value env = pure none := by rfl) : gwp K A (execs (.Assign [.Tuple [.Name x px, .Name y py, .Name z pz] k tpos] value pos :: rest) env) Q g := by
 refine Z10 (st_tuple (hv.use r fun v g₁ l₁ p => Z106 r.1 p (fun vs g₂ l₂ rs => ?_) rfl rfl) hs hw)
 refine E3_4 (reps3 rs) ?_
 clear rs p hw hs hv; rintro u w t rfl r1 r2 r3
 refine Z20 (Z12 (((H.up l₁).up l₂).storeAny hx h1 r1 fun g₃ l₃ H₃ => ?_))
 refine Z20 (Z12 (H₃.storeAny hy h2 (r2.mono l₃.im) fun g₄ l₄ H₄ => ?_))
 refine Z20 (Z12 (H₄.storeAny hz h3 ((r3.mono l₃.im).mono l₄.im) fun g₅ l₅ H₅ => ?_))
 exact Z4 (kk g₅ ((LeX.of (l₁.trans l₂)).trans (l₃.trans (l₄.trans l₅))) H₅)
end
end Mine
namespace Mine
section
open PySem PySem.Spec PySem.Calls PyProof.Rows PySem.W PySem.SeqAt
variable {K : Wd} {A : Around} {g : Gh} {n : Nat} {env : Env} {α : Type}
variable {b : Gh} {S' : List Addr} {fn : List Nat} {cs : List Addr} {nm : List (Str × NameKind)} {σ σ' : List (Option D)} {own : List (Addr × MO)}
noncomputable def drawsL (ds : List Int) : List Int := ds.take 4 ++ [3, 1, 0, 0].drop ds.length
theorem drawsL_four (ds : List Int) : ∃ d0 d1 d2 d3, drawsL ds = [d0, d1, d2, d3] := by
 rcases ds with _ | ⟨a, _ | ⟨b, _ | ⟨c, _ | ⟨d, r⟩⟩⟩⟩
 ·exact ⟨_, _, _, _, rfl⟩
 ·exact ⟨_, _, _, _, rfl⟩
 ·exact ⟨_, _, _, _, rfl⟩
 ·exact ⟨_, _, _, _, rfl⟩
 ·exact ⟨a, b, c, d, by simp [drawsL]⟩
theorem Z99 (d : Int) {k : Nat} (hk : 0 < k) : ∃ f : Nat, f < k ∧ d.fmod k = f := by
 have h1 : 0 ≤ d.fmod k := Int.fmod_nonneg_of_pos _ (by lia)
 have h2 : d.fmod k < k := Int.fmod_lt_of_pos _ (by lia)
 exact ⟨(d.fmod k).toNat, by lia, by lia⟩
noncomputable def lawFn : List Nat := [1, 5, 7, 9, 11, 12, 15, 16, 21, 26]
noncomputable def lawG : List (Option D) := (srcSt [] (mkSrcs GT sr_law)).drop 29
noncomputable def stretchL (f m l : Nat) : List Nat := List.replicate f 97 ++ List.replicate m 98 ++ List.replicate l 99
theorem rep_one (k : Nat) (c : Nat) : (List.replicate k [c]).flatten = List.replicate k c := by
 induction k with
 | zero => rfl
 | succ k ih => rw [List.replicate_succ, List.flatten_cons, ih]; rfl
theorem law_1 (X : WX K) {ds : List Int} (hds : ds.length ≤ 63) {L : Addr} {cells : List (Str × Addr)} {Q : Flow → Gh → Prop}
  (F : Frm K b [] lawFn cs (newEnv (scopeOf st_law) L mainGlobals cells ("law" ++ ".<locals>.") (some a_law) (.ref c_law) none builtinsNs) (scopeOf st_law).names (bindSt (srcSt [] (mkSrcs GT sr_law)) [(0, .lst (ds.map .int))]) [] g) (r : Room A (n + 2))
  (k : ∀ (d0 d1 d2 d3 : Int) (f m l : Nat) (g' : Gh), f < 5 → m < 5 → 1 ≤ l → l ≤ 4 → Frm K b [] lawFn cs (newEnv (scopeOf st_law) L mainGlobals cells ("law" ++ ".<locals>.") (some a_law) (.ref c_law) none builtinsNs) (scopeOf st_law).names
   ([none, some (.lst [.int d0, .int d1, .int d2, .int d3]), some (.int f), some (.int m), none, some (.int (f + m + l : Nat)), some (.int (m + l : Nat)), some (.str (stretchL f m l))] ++ List.replicate 21 none ++ lawG) [] g' → gwp K A (execs ((bodyOf st_law).drop 3) (newEnv (scopeOf st_law) L mainGlobals cells ("law" ++ ".<locals>.") (some a_law) (.ref c_law) none builtinsNs)) Q g') :
  gwp K A (execs (bodyOf st_law) (newEnv (scopeOf st_law) L mainGlobals cells ("law" ++ ".<locals>.") (some a_law) (.ref c_law) none builtinsNs)) Q g := by
 refine E4_1 (drawsL_four ds) fun d0 d1 d2 d3 hd => ?_
 refine E1_2 (Z99 d0 (k := 5) (by exact Nat.le_add_left _ _)) fun f hf ef => ?_
 refine E1_2 (Z99 d1 (k := 5) (by exact Nat.le_add_left _ _)) fun m hm em => ?_
 refine E1_2 (Z99 d2 (k := 4) (by exact Nat.le_add_left _ _)) fun l hl el => ?_
 refine Z182 (i := 1) (d := .lst [.int d0, .int d1, .int d2, .int d3]) F r rfl (by decide) ((Z8 (Z212 (pn F 0) Z37 (Z112 Z11) Z37 (by decide) (by simp; exact le_sl (by lia))) (Z212 (Z179 (Z2 Z11 (Z2 Z11 (Z2 Z11 (Z2 Z11 Z5))))) (Z112 (Z73 (pn F 29) (fun a z => by cases z) (Z2 (pn F 0) Z5) (Z127 (by simp; lia)))) Z37 Z37) (Z226 ?_)).is ?_) fun g₁ l₁ F => ?_
 ·rw [show (4 : Int) = ((4 : Nat) : Int) from rfl, pick_to, Z221]
  simp
  exact le_sl (by lia)
 ·rw [show (4 : Int) = ((4 : Nat) : Int) from rfl, pick_to, Z221]
  have : D.lst ((drawsL ds).map .int) = D.lst [.int d0, .int d1, .int d2, .int d3] := by rw [hd]; rfl
  rw [← this]
  simp [drawsL]
 have e4 : atInt [D.int d0, .int d1, .int d2, .int d3] 0 = some (.int d0) := rfl
 refine gx_swap3 (i := 2) (j := 3) (l := 4) (d₁ := .int f) (d₂ := .int m) (d₃ := .int (1 + l : Nat)) F r rfl rfl rfl (.inl rfl) (.inl rfl) (.inl rfl)
  ((Z38 (Z2 (Z8 (Z63 (l := [.int d0, .int d1, .int d2, .int d3]) (i := 0) (d := .int d0) (pn F 1) Z11 rfl) Z11 (Z225 (by decide))) (Z2 (Z8 (Z63 (l := [.int d0, .int d1, .int d2, .int d3]) (i := 1) (d := .int d1) (pn F 1) Z11 rfl) Z11 (Z225 (by decide))) (Z2 (Z8 Z11 (Z8 (Z63 (l := [.int d0, .int d1, .int d2, .int d3]) (i := 2) (d := .int d2) (pn F 1) Z11 rfl) Z11 (Z225 (by decide))) Z32) Z5)))).is ?_) fun g₂ l₂ F => ?_
 ·have ef' : d0.fmod 5 = f := ef
  have em' : d1.fmod 5 = m := em
  have el' : d2.fmod 4 = l := el
  rw [ef', em', el']
  simp
 refine gx_tuple3 (i := 5) (j := 6) (l := 7) (d₁ := .int (f + m + (1 + l) : Nat)) (d₂ := .int (m + (1 + l) : Nat)) (d₃ := .str (stretchL f m (1 + l))) F r rfl rfl rfl (.inr ⟨rfl, by decide⟩) (.inl rfl) (.inr ⟨rfl, by decide⟩)
  ((Z38 (Z2 (Z8 (Z8 (pn F 2) (pn F 3) Z32) (pn F 4) Z32) (Z2 (Z8 (pn F 3) (pn F 4) Z32) (Z2 (Z8 (Z8 (Z8 (Z31 (l := [97]) rfl) (pn F 2) (op_smul (by lia) (by lia) (by decide))) (Z8 (Z31 (l := [98]) rfl) (pn F 3) (op_smul (by lia) (by lia) (by decide))) (Z140 (le_sl (by simp; lia)))) (Z8 (Z31 (l := [99]) rfl) (pn F 4) (op_smul (by lia) (by lia) (by decide))) (Z140 (le_sl (by simp; lia)))) Z5)))).is ?_) fun g₃ l₃ F => ?_
 ·dsimp only [Int.toNat_natCast, rep_one, stretchL]
  simp
 exact k d0 d1 d2 d3 f m (1 + l) g₃ hf hm (by exact Nat.le_add_right _ _) (by lia) (F.lessL (by repeat (first | exact trivial | refine And.intro rfl ?_)))
noncomputable abbrev lawEnv (L : Addr) (cells : List (Str × Addr)) : Env := newEnv (scopeOf st_law) L mainGlobals cells ("law" ++ ".<locals>.") (some a_law) (.ref c_law) none builtinsNs
noncomputable abbrev LF (K : Wd) (b : Gh) (cs : List Addr) (L : Addr) (cells : List (Str × Addr)) (σ : List (Option D)) (own : List (Addr × MO)) (g : Gh) : Prop := Frm K b [] lawFn cs (lawEnv L cells) (scopeOf st_law).names σ own g
noncomputable def signs7 : List Nat := [10, 9, 13, 32, 34, 92, 35]
noncomputable def white4 : List Nat := [10, 9, 13, 32]
noncomputable def letters : List Nat := [97, 98, 99, 100, 101, 102, 103, 104, 105, 106, 107, 108]
noncomputable def wordF (d3 : Int) (k : Nat) : List Nat := [97 + k, signs7.getD (((k : Int) + d3).fmod 7).toNat 0]
noncomputable def wordsL (d3 : Int) (n : Nat) : List (List Nat) := (List.range n).map (wordF d3)
noncomputable def pieceF (d3 : Int) (k : Nat) : List Nat := writtenL (wordF d3 k) (((k : Int) + d3).fmod 2 == 0) [white4.getD (k % 4) 0]
noncomputable def textL (d3 : Int) (n : Nat) : List Nat := ((List.range n).map (pieceF d3)).flatten
theorem letters_at : ∀ k : Nat, k < 12 → atInt letters (k : Int) = some (97 + k) := by decide
theorem signs7_at (i : Nat) (h : i < 7) : atInt signs7 (i : Int) = some (signs7.getD i 0) := by revert i; decide
theorem white4_at (i : Nat) (h : i < 4) : atInt white4 (i : Int) = some (white4.getD i 0) := by revert i; decide
theorem Z96 {l : List α} {k : Nat} {a : α} (h : l[k]? = some a) : atInt l (k : Int) = some a := by
 delta atInt; rw [if_pos (by lia)]; simpa using h
theorem Z177 {n : Nat} {d : D} (h : d ∈ rgD 0 n) : ∃ k : Nat, k < n ∧ d = .int k := by
 refine E1_2 (List.mem_map.mp h) ?_
 clear h; rintro k hk rfl
 exact ⟨k, by simpa using hk, rfl⟩
theorem rgD_map (n : Nat) (f : D → D) : (rgD 0 n).map f = (List.range n).map fun k : Nat => f (.int (k : Int)) := by
 simp [rgD, List.range_eq_range', List.map_map, Function.comp_def]
theorem wordF_ok (d3 : Int) (k : Nat) (hk : k < 12) : (wordF d3 k).length = 2 ∧ ∀ c ∈ wordF d3 k, c < 128 := by
 refine ⟨rfl, fun c hc => ?_⟩
 have h : ∀ j, signs7.getD j 0 < 128 := fun j => by
  by_cases hj : j < 7
  ·revert j; decide
  ·rw [List.getD_eq_getElem?_getD, List.getElem?_eq_none (show signs7.length ≤ j from by simp [signs7]; lia)]; decide
 simp only [wordF, List.mem_cons, List.not_mem_nil, or_false] at hc
 rcases hc with rfl | rfl
 ·lia
 ·exact h _
theorem pieceF_len (d3 : Int) (k : Nat) : (pieceF d3 k).length ≤ 7 := by
 have h : ∀ q, (((wordF d3 k).map (escQ q)).flatten).length ≤ 4 := fun q => by
  rw [List.length_flatten]
  exact Nat.le_trans (flat_le _ _) (by exact Nat.le_refl _)
 delta pieceF writtenL
 have h1 := h true
 have h2 := h false
 cases (((k : Int) + d3).fmod 2 == 0) <;> simp <;> simp at h1 h2 <;> lia
theorem Z217 (d3 : Int) (n : Nat) : (((List.range n).map (pieceF d3)).map (·.length)).sum ≤ 7 * n := by
 induction n with
 | zero => simp
 | succ n ih =>
  rw [List.range_succ, List.map_append, List.map_append, List.sum_append]
  have := pieceF_len d3 n
  simp at ih ⊢
  lia
theorem law_2 (X : WX K) {d0 d1 d2 d3 : Int} {f m l : Nat} {L : Addr} {cells : List (Str × Addr)} {Q : Flow → Gh → Prop} (hf : f < 5) (hm : m < 5) (hl1 : 1 ≤ l) (hl : l ≤ 4) (r : Room A (n + 20))
  (F : LF K b cs L cells ([none, some (.lst [.int d0, .int d1, .int d2, .int d3]), some (.int f), some (.int m), none, some (.int (f + m + l : Nat)), some (.int (m + l : Nat)), some (.str (stretchL f m l))] ++ List.replicate 21 none ++ lawG) [] g)
  (k : ∀ (g' : Gh), LF K b cs L cells ([none, some (.lst [.int d0, .int d1, .int d2, .int d3]), some (.int f), some (.int m), none, some (.int (f + m + l : Nat)), some (.int (m + l : Nat)), some (.str (stretchL f m l)), none, some (.lst ((wordsL d3 (f + m + l)).map .str)), some (.str (textL d3 (f + m + l)))] ++ List.replicate 18 none ++ lawG) [] g' → gwp K A (execs ((bodyOf st_law).drop 5) (lawEnv L cells)) Q g') :
  gwp K A (execs ((bodyOf st_law).drop 3) (lawEnv L cells)) Q g := by
 have hn12 : f + m + l ≤ 12 := by lia
 obtain ⟨N, hN⟩ : ∃ N, N = f + m + l := ⟨_, rfl⟩
 rw [← hN] at F k hn12
 have e7 : ∀ k : Nat, ∃ i : Nat, i < 7 ∧ ((k : Int) + d3).fmod 7 = i := fun k => Z99 _ (by exact Nat.le_add_left _ _)
 refine Z182 (i := 9) (d := .lst ((wordsL d3 N).map .str)) F r rfl (by decide) ((Z51 (p := fun _ => true) (f := fun d => match d with | .int k => .str (wordF d3 k.toNat) | d => d) F (Z47 (k := N) (pn F 30) (pn F 5) (by lia) (by lia)).pit (by exact all0)
  (CompP.name (mkSrcs GT [.no, .no, .outer 1]) 1 (by decide +kernel) (Z3 X.gt (by decide +kernel)) (.inl (by decide +kernel)) rfl fun d hd b g' env' cs' lb lb' F _ _ henv => ?_) (by rw [Z80]; exact le_sl (by lia))).is ?_) fun g₁ l₁ F => ?_
 ·refine E2_1 henv ?_
  rintro L' cells' rfl
  refine E1_2 (Z177 hd) ?_
  rintro k hk rfl
  refine ⟨Z21, fun _ => ?_⟩
  refine E1_2 (e7 k) fun i hi ei => ?_
  refine (Z8 (Z154 (x := letters) (i := (k : Int)) (c := 97 + k) (Z31 rfl) (pn F 1) (letters_at k (by clear ei F hd henv e7 hN r; simp at hk; lia)) (by decide)) (Z154 (x := signs7) (i := (i : Int)) (c := signs7.getD i 0) (Z31 rfl) (ei ▸ Z8 (Z8 (pn F 1) (Z63 (l := [.int d0, .int d1, .int d2, .int d3]) (i := 3) (d := .int d3) (pn F 2) Z11 rfl) Z32) Z11 (Z225 (by decide))) (signs7_at i hi) (by decide)) (Z140 (le_sl (by simp)))).is ?_
  simp [wordF, ei]
 ·rw [List.filter_eq_self.mpr (fun _ _ => rfl), rgD_map]
  simp [wordsL, List.map_map, Function.comp_def]
 have e2 : ∀ k : Nat, ∃ i : Nat, i < 2 ∧ ((k : Int) + d3).fmod 2 = i := fun k => Z99 _ (by exact Nat.le_add_left _ _)
 have hw : ∀ k : Nat, k < N → ((wordsL d3 N).map D.str)[k]? = some (.str (wordF d3 k)) := fun k hk => by simp [wordsL, hk]
 refine Z88 (i := 10) (d := .str (textL d3 N)) F r rfl ?_ fun g₂ l₂ F => k g₂ (F.lessL (by repeat (first | exact trivial | refine And.intro rfl ?_)))
 refine (Z71 (T := "str") (id := "str.join") (d₀ := .str []) (ds := [.lst (((List.range N).map (pieceF d3)).map .str)]) (d := .str (jn [] ((List.range N).map (pieceF d3)))) PySem.F.plainAttrs_str PySem.F.slot_str_join PySem.F.type_str_join (Z31 rfl) (Z2 ?_ Z5) (cs_join (by have := Z217 d3 N; simp only [List.length_nil, Nat.mul_zero, Nat.add_zero]; lia))).is (by rw [jn_nil]; rfl)
 refine (Z51 (p := fun _ => true) (f := fun d => match d with | .int k => .str (pieceF d3 k.toNat) | d => d) F (Z47 (k := N) (pn F 30) (pn F 5) (by lia) (by lia)).pit (by exact all0)
  (CompP.name (mkSrcs GT [.no, .no, .glob 12, .outer 1, .outer 9]) 1 (by decide +kernel) (Z3 X.gt (by decide +kernel)) (.inl (by decide +kernel)) rfl fun d hd b g' env' cs' lb lb' F _ _ henv => ?_) (by rw [Z80]; exact le_sl (by lia))).is ?_
 ·refine E2_1 henv ?_
  rintro L' cells' rfl
  refine E1_2 (Z177 hd) ?_
  rintro k hk rfl
  refine ⟨Z21, fun _ => ?_⟩
  have hk' : k < N := by exact hk
  have hwo := wordF_ok d3 k (by exact Nat.lt_of_lt_of_le ‹_› ‹_›)
  refine (Z45 (d := .str (writtenL (wordF d3 k) (((k : Int) + d3).fmod 2 == 0) [white4.getD (k % 4) 0])) (pn F 2) X.f_lw (Z2 (Z63 (l := (wordsL d3 N).map D.str) (i := (k : Int)) (d := .str (wordF d3 k)) (pn F 4) (pn F 1) (Z96 (hw k hk')) (by simp [wordsL]; lia)) (Z2 (pe_cmp (Z8 (Z8 (pn F 1) (Z63 (l := [.int d0, .int d1, .int d2, .int d3]) (i := 3) (d := .int d3) (pn F 3) Z11 rfl) Z32) Z11 (Z225 (by decide))) Z11 op_eq) (Z2 (Z154 (x := white4) (i := ((k % 4 : Nat) : Int)) (c := white4.getD (k % 4) 0) (Z31 rfl) ((Z8 (pn F 1) Z11 (Z225 (by decide))).is (by rw [Int.fmod_eq_emod_of_nonneg _ (by decide)]; rfl)) (white4_at (k % 4) (by lia)) (by decide)) Z5))) (Z285 X (n := n + 17) (by rw [hwo.1]; lia) (by exact Nat.succ_pos _) hwo.2)).is (by exact rfl)
 ·rw [List.filter_eq_self.mpr (fun _ _ => rfl), rgD_map]
  simp [List.map_map, Function.comp_def]
theorem law_3 (X : WX K) {L : Addr} {cells : List (Str × Addr)} {Q : Flow → Gh → Prop} {σ₀ : List (Option D)} {T : List Nat} (hT : T.length ≤ 10000) (r : Room A (n + 20))
  (h10 : σ₀[10]? = some (some (.str T))) (h31 : σ₀[31]? = some (some (.raw (.ref C_nl)))) (h32 : σ₀[32]? = some (some (.raw (.ref a_ls)))) (h33 : σ₀[33]? = some (some (.raw (.type "list"))))
  (F : LF K b cs L cells σ₀ [] g)
  (k : ∀ (x dx pb lf fs : Addr) (g' : Gh), [x, dx, pb, lf].Nodup → StreamAt g' fs lf → LF K b cs L cells (σ₀.set 11 (some (.raw (.ref x)))) (LexOwn x dx pb lf fs 1 T []) g' → gwp K A (execs ((bodyOf st_law).drop 6) (lawEnv L cells)) Q g') :
  gwp K A (execs ((bodyOf st_law).drop 5) (lawEnv L cells)) Q g := by
 refine Z10 (Z34 (Z33 ((Z6 F (i := 31) rfl h31).useR r fun g₁ l₁ => ?_)))
 replace F := F.up l₁
 refine Z105 X.k_nl rfl (Z7 rfl (Z13 (Z33 ((Z6 F (i := 32) rfl h32).useR r fun g₂ l₂ => ?_))))
 replace F := F.up l₂
 refine E1_3 X.f_ls.obj fun of f1 f2 f3 => ?_
 refine Z103 fun z₀ => E1_1 z₀ fun s ok => ?_
 have hof := ok.base _ _ f1
 refine Z26 (.inl hof) f2 (Z7 rfl (Z13 (Z33 ((Z6 F (i := 33) rfl h33).useR r fun g₃ l₃ => ?_))))
 replace F := F.up l₃
 refine Z19 (fun a z => by cases z) rfl (Z7 rfl (Z13 ((Z6 F (i := 10) rfl h10).use r fun v g₄ l₄ hv => Z17 ?_)))
 replace F := F.up l₄
 refine gwp_listStr r.1 hv (le_sl (by lia)) fun lf its m hi hm hr => Z17 ?_
 have l₅ : Le g₄ (g₄.setMu lf (sq "list" its m)) := Le.addMu hm
 refine ⟨.inl (l₅.im _ _ (l₄.im _ _ (l₃.im _ _ hof))), gM1_3 (w_law_stream X (n := n + 16) (r.sub (by exact Nat.le_refl _)) (lf := lf)) fun v g₆ fs hv l₆ hst => Z17 ?_⟩
 clear hi hof f1 h33 h32 h31 h10 hT; subst hv
 refine gM3_7 (w_netrclex X (n := n + 16) (r.sub (by exact Nat.le_refl _)) (fs := fs)) fun v g₇ x dx pb hv hnd hx hdx hpb l₇ hH => ?_
 clear r; subst hv
 have l56 : Le g₄ g₆ := l₅.trans l₆
 have hlf : g₆.mu lf = some (sq "list" its m) := l₆.at Gh.setMu_self
 have hnd4 : [x, dx, pb, lf].Nodup := by
  have h1 : x ≠ lf := fun e => by rw [e, hlf] at hx; cases hx
  have h2 : dx ≠ lf := fun e => by rw [e, hlf] at hdx; cases hdx
  have h3 : pb ≠ lf := fun e => by rw [e, hlf] at hpb; cases hpb
  simp only [List.nodup_cons, List.mem_cons, List.not_mem_nil, or_false, not_or, List.nodup_nil, and_true, not_false_eq_true] at hnd ⊢
  exact ⟨⟨hnd.1.1, hnd.1.2, h1⟩, ⟨hnd.2, h2⟩, h3⟩
 have hmu : ∀ a ∈ [x, dx, pb, lf], g₄.mu a = none := fun a ha => by
  simp only [List.mem_cons, List.not_mem_nil, or_false] at ha
  rcases ha with rfl | rfl | rfl | rfl
  ·exact l56.nomu hx
  ·exact l56.nomu hdx
  ·exact l56.nomu hpb
  ·exact hm
 have hbm : ∀ a, g₄.mu a = none → b.mu a = none := fun a h => have z : Le b g₄ := F.le; z.nomu h
 have hall : Holds (LexOwn x dx pb lf fs 1 T []) g₇ := fun p hp => by
  simp only [LexOwn, List.mem_cons, List.not_mem_nil, or_false] at hp
  rcases hp with rfl | rfl | rfl | rfl
  ·exact hH (x, MO.obj (instObj C_nl dx)) (by exact .head _)
  ·exact hH (dx, MO.inst (lexL 1 fs pb)) (by exact .tail _ (.head _))
  ·exact hH (pb, MO.list []) (by exact .tail _ (.tail _ (.head _)))
  ·exact ⟨_, l₇.at hlf, its, m, rfl, hr.le (l56.trans l₇)⟩
 have F₇ := (F.up (l56.trans l₇)).adopt F hall hnd4 hmu (fun a ha => .inr (hbm a (hmu a ha)))
 refine F₇.storeCell (i := 11) rfl (by decide) (d := .raw (.ref x)) Z27 fun g₈ l₈ F₈ => ?_
 refine k x dx pb lf fs g₈ hnd4 ((hst.up l₇).up l₈) ?_
 rw [List.append_nil] at F₈
 exact F₈
theorem lex_piece (c s w : Nat) (q : Bool) (hc : 97 ≤ c ∧ c ≤ 108) (hs : s ∈ signs7) (hw : w ∈ wsL) (rest : List Nat) : lexA 0 [] (writtenL [c, s] q [w] ++ rest) = ([c, s], if q then w :: rest else rest) := by
 have h1 : c ≠ 10 := by lia
 have h2 : c ≠ 9 := by lia
 have h3 : c ≠ 13 := by lia
 have h4 : c ≠ 32 := by lia
 have h5 : c ≠ 34 := by lia
 have h6 : c ≠ 92 := by lia
 have hcw : c ∉ wsL := by simp [wsL, h1, h2, h3, h4]
 have h92 : 92 ∉ wsL := by decide
 have h34 : 34 ∉ wsL := by decide
 cases q
 ·simp [writtenL, escQ, lexA, h5, h6, hw, hcw, h92, h34]
 ·have hcd : ¬(c = 34 ∨ c = 92) := fun z => z.elim h5 h6
  by_cases h7 : s = 34 ∨ s = 92
  ·rcases h7 with rfl | rfl <;> simp [writtenL, escQ, lexA, h5, h6, h34]
  ·have h8 := not_or.mp h7
   simp [writtenL, escQ, lexA, h5, h6, h8.1, h8.2, h34]
noncomputable def restA (T : List Nat) : Nat → List Nat
 | 0 => T
 | j + 1 => (lexA 0 [] (restA T j)).2
noncomputable def tokA (T : List Nat) (j : Nat) : List Nat := (lexA 0 [] (restA T j)).1
theorem signs7_mem (i : Nat) (h : i < 7) : signs7.getD i 0 ∈ signs7 := by revert i; decide
theorem Z265 (i : Nat) (h : i < 4) : white4.getD i 0 ∈ wsL := by revert i; decide
theorem lex_ws {P : List Nat} (hP : P = [] ∨ ∃ w ∈ wsL, P = [w]) (cs : List Nat) : lexA 0 [] (P ++ cs) = lexA 0 [] cs := by
 rcases hP with rfl | ⟨w, hw, rfl⟩
 ·rfl
 ·simp [lexA, hw]
theorem lex_step (d3 : Int) (j : Nat) (hj : j < 12) (rest : List Nat) : lexA 0 [] (pieceF d3 j ++ rest) = (wordF d3 j, if (((j : Int) + d3).fmod 2 == 0) then (white4.getD (j % 4) 0) :: rest else rest) := by
 refine E1_2 (Z99 ((j : Int) + d3) (k := 7) (by exact Nat.le_add_left _ _)) fun i hi ei => ?_
 have ei' : ((j : Int) + d3).fmod 7 = i := ei
 delta pieceF wordF
 rw [ei', Int.toNat_natCast]
 exact lex_piece _ _ _ _ (by lia) (signs7_mem i hi) (Z265 _ (by lia)) rest
theorem restA_at (d3 : Int) {n : Nat} (hn : n ≤ 12) : ∀ j, j ≤ n → ∃ P, (P = [] ∨ ∃ w ∈ wsL, P = [w]) ∧ restA (textL d3 n) j = P ++ ((List.range' j (n - j)).map (pieceF d3)).flatten := by
 intro j
 induction j with
 | zero => intro _; exact ⟨[], .inl rfl, by simp [restA, textL, List.range_eq_range']⟩
 | succ j ih =>
  intro hj
  refine E1_2 (ih (by exact Nat.le_of_lt ‹_›)) fun P hP e => ?_
  have e2 : List.range' j (n - j) = j :: List.range' (j + 1) (n - (j + 1)) := by
   rw [show n - j = (n - (j + 1)) + 1 by lia, List.range'_succ]
  rw [e2, List.map_cons, List.flatten_cons] at e
  rw [restA, e, lex_ws hP, lex_step d3 j (by exact Nat.lt_of_lt_of_le ‹_› ‹_›)]
  dsimp only
  split
  ·exact ⟨[white4.getD (j % 4) 0], .inr ⟨_, Z265 _ (by lia), rfl⟩, rfl⟩
  ·exact ⟨[], .inl rfl, rfl⟩
theorem tokA_at (d3 : Int) {n j : Nat} (hn : n ≤ 12) (hj : j < n) : tokA (textL d3 n) j = wordF d3 j := by
 refine E1_2 (restA_at d3 hn j (by exact Nat.le_of_lt ‹_›)) fun P hP e => ?_
 have e2 : List.range' j (n - j) = j :: List.range' (j + 1) (n - (j + 1)) := by
  rw [show n - j = (n - (j + 1)) + 1 by lia, List.range'_succ]
 rw [e2, List.map_cons, List.flatten_cons] at e
 rw [tokA, e, lex_ws hP, lex_step d3 j (by exact Nat.lt_of_lt_of_le ‹_› ‹_›)]
theorem tokA_end (d3 : Int) {n : Nat} (hn : n ≤ 12) : tokA (textL d3 n) n = [] ∧ restA (textL d3 n) (n + 1) = [] := by
 refine E1_2 (restA_at d3 hn n (Nat.le_refl _)) fun P hP e => ?_
 rw [Nat.sub_self] at e
 have e' : restA (textL d3 n) n = P ++ [] := by exact e
 rw [tokA, restA, e', lex_ws hP]
 exact ⟨rfl, rfl⟩
theorem toks_all (d3 : Int) {n : Nat} (hn : n ≤ 12) : (List.range (n + 1)).map (tokA (textL d3 n)) = wordsL d3 n ++ [[]] := by
 rw [List.range_succ, List.map_append]
 congr 1
 ·exact List.map_congr_left fun j hj => tokA_at d3 hn (by exact List.mem_range.mp hj)
 ·simp [(tokA_end d3 hn).1]
theorem lexA_le : ∀ (cs t : List Nat) (m : Nat), (lexA m t cs).2.length ≤ cs.length := by
 intro cs
 induction cs with
 | nil => intro t m; simp [lexA]
 | cons c cs ih =>
  intro t m
  have h : ∀ m t, (lexA m t cs).2.length ≤ (c :: cs).length := fun m t => Nat.le_trans (ih t m) (by simp)
  match m with
  | 0 =>
   rw [lexA]
   split
   ·exact h _ _
   ·split
    ·exact h _ _
    ·split <;> exact h _ _
  | 1 =>
   rw [lexA]
   split
   ·simp
   ·split <;> exact h _ _
  | 2 =>
   rw [lexA]
   split
   ·simp
   ·split <;> exact h _ _
  | 3 => rw [lexA]; exact h _ _
  | m + 4 =>
   rw [lexA]
   ·exact h _ _
   all_goals lia
theorem restA_len (T : List Nat) (j : Nat) : (restA T j).length ≤ T.length := by
 induction j with
 | zero => exact Nat.le_refl _
 | succ j ih => exact Nat.le_trans (lexA_le _ _ _) ih
theorem gwp_isTrue_or {x y : Expr} {pos : Pos} {Q : Bool → Gh → Prop} (h : gwp K A (isTrue x env (eval x env)) (fun u g₁ => if u = true then Q true g₁ else gwp K A (isTrue y env (eval y env)) Q g₁) g) : gwp K A (isTrue (.BoolOp .Or [x, y] pos) env (eval (.BoolOp .Or [x, y] pos) env)) Q g :=
 fun s E ok => wpAny_isTrue_BoolOp (wpAny_allTrue_Or_cons (wM1_2 (h s E ok) (fun c s₁ g₂ ok₂ q => by
  cases c with
  | true => exact ⟨g₂, ok₂, q⟩
  | false => exact wpAny_allTrue_Or_cons (wM1_2 (q s₁ E ok₂) (fun c s₂ g₃ ok₃ q => by
    cases c with
    | true => exact ⟨g₃, ok₃, q⟩
    | false => exact wpAny_allTrue_Or_nil ⟨g₃, ok₃, q⟩)))))
noncomputable def tkI (T : List Nat) (N : Nat) (x dx pb lf fs : Addr) (rest out : List D) (g : Gh) : Prop :=
 out.length + rest.length = N + 1 ∧ out = (List.range out.length).map (fun j => D.str (tokA T j)) ∧ Holds (LexOwn x dx pb lf fs (1 + (T.count 10 : Nat) - ((restA T out.length).count 10 : Nat)) (restA T out.length) []) g ∧ StreamAt g fs lf
theorem law_4 (X : WX K) {d3 : Int} {N : Nat} {L : Addr} {cells : List (Str × Addr)} {Q : Flow → Gh → Prop} {σ₀ : List (Option D)} {x dx pb lf fs : Addr} (hN : N ≤ 12) (r : Room A (n + 20)) (hnd : [x, dx, pb, lf].Nodup) (hst : StreamAt g fs lf)
  (h5 : σ₀[5]? = some (some (.int N))) (h9 : σ₀[9]? = some (some (.lst ((wordsL d3 N).map .str)))) (h10 : σ₀[10]? = some (some (.str (textL d3 N)))) (h11 : σ₀[11]? = some (some (.raw (.ref x)))) (h30 : σ₀[30]? = some (some (.raw (.type "range"))))
  (F : LF K b cs L cells σ₀ (LexOwn x dx pb lf fs 1 (textL d3 N) []) g)
  (k : ∀ (ln : Int) (chars : List Nat) (g' : Gh), LF K b cs L cells σ₀ (LexOwn x dx pb lf fs ln chars []) g' → gwp K A (execs ((bodyOf st_law).drop 7) (lawEnv L cells)) Q g') :
  gwp K A (execs ((bodyOf st_law).drop 6) (lawEnv L cells)) Q g := by
 have hTl : (textL d3 N).length ≤ 10000 := by
  have := Z217 d3 N
  rw [textL, List.length_flatten]; exact Nat.le_trans this (by lia)
 obtain ⟨T, hT⟩ : ∃ T, T = textL d3 N := ⟨_, rfl⟩
 have htoks := toks_all d3 hN
 have hend := tokA_end d3 hN
 rw [← hT] at F hTl htoks hend h10
 refine Z10 (st_if (gwp_isTrue_or (Z90 ?_)))
 refine gwp_comp (n := n + 20) (src := mkSrcs GT [.no, .no, .outer 11]) (fn' := [1]) (R := []) (S := [x, dx, pb, lf]) (ds := rgD 0 (N + 1)) (σ₁ := fun d => (srcSt σ₀ (mkSrcs GT [.no, .no, .outer 11])).set 1 (some d)) (tkI T N x dx pb lf fs) r F
  (NamesOk.of (by decide +kernel)) rfl (by decide +kernel) (Z3 X.gt (by decide +kernel)) (Z159 (by decide +kernel)) (fun a ha => ?_) (by exact all0) (fun rest out g hI a ha o w e => ?_) (fun d hd => Tgt.loc (by decide +kernel)) (fun d hd => Z128 (by rfl)) (fun rest out g g' W hI l hW => ?_) (fun rest out g hI => ?_) (by rw [Z80]; exact le_sl (by lia)) (fun d rest out g' L' cells' cs' hd hI F' => ?_) ?_ ?_ (fun out v g' l hI hv => ?_)
 ·refine E1_2 (List.mem_map.mp (show a ∈ (LexOwn x dx pb lf fs 1 T []).map (·.1) from ha)) ?_
  rintro p hp rfl
  refine E1_2 (F.own p hp) fun o e1 _ => ?_
  exact ⟨⟨o, e1⟩, by exact List.not_mem_nil⟩
 ·refine E1_2 (List.mem_map.mp (show a ∈ (LexOwn x dx pb lf fs (1 + (T.count 10 : Nat) - ((restA T out.length).count 10 : Nat)) (restA T out.length) []).map (·.1) from ha)) ?_
  rintro p hp rfl
  refine E1_2 (hI.2.2.1 p hp) fun o' e1 e2 => ?_
  cases ((e).symm.trans e1)
  exact Z52 p hp o w e2
 ·exact ⟨hI.1, hI.2.1, hI.2.2.1.up l hW, hI.2.2.2.up l⟩
 ·rw [Z80]; have := hI.1; lia
 ·refine E0_4 hI fun h1 h2 h3 h4 => ?_
  refine Z82 rfl (Z4 ⟨LeX.refl _ _, ?_⟩)
  rw [if_pos rfl]
  refine Z98 X h3 hnd r Z163 X.f_nl_gt ob_gt Z274 (Z6 F' (i := 2) (k := .cell) (by decide +kernel) (by show some ((σ₀[11]?).getD none) = _; rw [h11]; rfl)) fun g₁ l₁ => Z17 ?_
  refine gM0_3 (w_get_read X (n := n + 10) r (h3.le l₁) hnd (h4.up l₁) (Nat.le_trans (restA_len _ _) hTl)) fun v g₂ hv l₂ hH => ⟨(LeX.of l₁).trans l₂, .str (tokA T out.length), hv, ?_, ?_, ?_, (h4.up l₁).up l₂⟩
  ·simp at h1 ⊢; lia
  ·rw [List.length_append, List.length_singleton, List.range_succ, List.map_append, ← h2]; rfl
  ·rw [List.length_append, List.length_singleton]
   have e : (1 + (T.count 10 : Nat) - ((restA T out.length).count 10 : Nat) + (restA T out.length).count 10 - (lexA 0 [] (restA T out.length)).2.count 10 : Int) = 1 + (T.count 10 : Nat) - ((restA T (out.length + 1)).count 10 : Nat) := by
    have e3 : restA T (out.length + 1) = (lexA 0 [] (restA T out.length)).2 := rfl
    rw [e3]; lia
   rw [← e]
   exact hH
 ·exact (Z47 (n := n + 20) (k := (N : Int) + 1) (Z6 F (i := 30) rfl h30) (Z8 (Z6 F (i := 5) rfl h5) Z11 Z32) (by lia) (by lia)).pit A r g (LeX.refl _ _)
 ·refine ⟨by simp [Z80], rfl, ?_, hst⟩
  have e : (1 + (T.count 10 : Nat) - ((restA T 0).count 10 : Nat) : Int) = 1 := by
   show (1 + (T.count 10 : Nat) - (T.count 10 : Nat) : Int) = 1
   lia
  show Holds (LexOwn x dx pb lf fs (1 + (T.count 10 : Nat) - ((restA T 0).count 10 : Nat)) T []) g
  rw [e]
  exact F.holds
 ·refine E0_4 hI fun h1 h2 h3 h4 => ?_
  have hol : out.length = N + 1 := by exact h1
  rw [hol] at h2 h3
  have hout : out = (wordsL d3 N ++ [[]]).map D.str := by rw [h2, ← htoks, List.map_map]; rfl
  rw [hend.2] at h3
  subst hout
  have F2 := F.advance (ms := LexOwn x dx pb lf fs 1 T []) (ms' := LexOwn x dx pb lf fs (1 + (T.count 10 : Nat) - (([] : List Nat).count 10 : Nat)) [] []) (own := []) l rfl h3 Z52
  rw [List.append_nil] at F2
  refine (Z8 (Z6 F2 (i := 9) rfl h9) (Z179 (Z2 (Z31 (l := []) rfl) Z5)) (Z226 (by simp [wordsL]; exact le_sl (by lia)))).use r fun w g₃ l₃ hw => ?_
  have hw' : Rep g₃.im (.lst ((wordsL d3 N ++ [[]]).map D.str)) w := by rw [List.map_append]; exact hw
  refine gM0_2 (Z272 (K := K) (n := n + 20) (g := g₃) (v := true) (d := .lst ((wordsL d3 N ++ [[]]).map D.str)) (e := .lst ((wordsL d3 N ++ [[]]).map D.str)) (Z232 (k := 0) (Z181 fun _ => Z142)) (by lia) g₃ (LeX.refl _ _) v w (hv.le l₃) hw' A r g₃ (LeX.refl _ _)) fun c g₄ l₄ hc => ?_
  refine gM0_2 (Z135 (n := n + 20) hc A r g₄ (LeX.refl _ _)) fun u g₅ l₅ hu => ?_
  subst hu
  rw [if_neg (by decide)]
  have F3 := ((F2.up l₃).up l₄).up l₅
  have hne : dx ≠ x := nd_ne hnd
  refine (Z30 (Z139 F3 X.k_nl Z115 Z124 Z158 (i := 0) (j := 1) (d := .int (1 + (T.count 10 : Nat) - (([] : List Nat).count 10 : Nat))) rfl rfl hne (by exact .head _) (Z6 F3 (i := 11) rfl h11)) (Z8 Z11 (Z71 (T := "str") (id := "str.count") PySem.F.plainAttrs_str PySem.F.slot_str_count PySem.F.type_str_count (Z6 F3 (i := 10) rfl h10) (Z2 (Z31 (l := [10]) rfl) Z5) cs_count) Z32) op_ne).use r fun u g₆ l₆ hu => ?_
  have hu' : u = false := by rw [hu]; simp
  subst hu'
  rw [if_neg (by decide)]
  exact Z43 (k _ _ g₆ (F3.up l₆))
noncomputable def measN (f m l : Nat) : Nat := Nat.gcd (f + m) (m + l)
noncomputable def hoursN (f m l : Nat) : Nat := if (f + m + l) % measN f m l = 0 then (f + m + l) / measN f m l else (f + m + l) / measN f m l * ((f + m + l) / measN f m l + 1)
theorem measN_pos {f m l : Nat} (hl : 1 ≤ l) : 1 ≤ measN f m l := Nat.gcd_pos_of_pos_right _ (by lia)
theorem measN_le {f m l : Nat} (hm : m < 5) (hl : 1 ≤ l) (hl4 : l ≤ 4) : measN f m l ≤ 8 := Nat.le_trans (Nat.gcd_le_right _ (by lia)) (by lia)
theorem Z42 {f m l : Nat} (hf : f < 5) (hm : m < 5) (hl : 1 ≤ l) (hl4 : l ≤ 4) : hoursN f m l ≤ 156 := by
 have h1 : (f + m + l) / measN f m l ≤ 12 := Nat.le_trans (Nat.div_le_self _ _) (by lia)
 unfold hoursN
 generalize (f + m + l) / measN f m l = t at *
 split
 ·lia
 ·exact Nat.le_trans (Nat.mul_le_mul h1 (by lia : t + 1 ≤ 13)) (by exact Nat.le_refl _)
noncomputable def lawS5 (d0 d1 d2 d3 : Int) (f m l : Nat) (x : Addr) (a12 a15 a16 : Option D) : List (Option D) :=
 [none, some (.lst [.int d0, .int d1, .int d2, .int d3]), some (.int f), some (.int m), none, some (.int (f + m + l : Nat)), some (.int (m + l : Nat)), some (.str (stretchL f m l)), none, some (.lst ((wordsL d3 (f + m + l)).map .str)), some (.str (textL d3 (f + m + l))), some (.raw (.ref x)), a12, none, none, a15, a16] ++ List.replicate 12 none ++ lawG
theorem law_5 (X : WX K) {d0 d1 d2 d3 : Int} {f m l : Nat} {L : Addr} {cells : List (Str × Addr)} {Q : Flow → Gh → Prop} {x dx pb lf fs : Addr} {ln : Int} {chars : List Nat} (hf : f < 5) (hm : m < 5) (hl1 : 1 ≤ l) (hl : l ≤ 4) (r : Room A (n + 300))
  (F : LF K b cs L cells (lawS5 d0 d1 d2 d3 f m l x none none none) own g)
  (k : ∀ (g' : Gh), LF K b cs L cells (lawS5 d0 d1 d2 d3 f m l x (some (.int (measN f m l))) (some (.int (hoursN f m l))) (some (.lst (rowsD f m (wordsL d3 (f + m + l)) (hoursN f m l + 1))))) own g' → gwp K A (execs ((bodyOf st_law).drop 11) (lawEnv L cells)) Q g') :
  gwp K A (execs ((bodyOf st_law).drop 7) (lawEnv L cells)) Q g := by
 have hg1 := measN_pos (f := f) (m := m) hl1
 have hg8 := measN_le (f := f) hm hl1 hl
 have hh := Z42 hf hm hl1 hl
 have hN : f + m + l ≤ 12 := by lia
 unfold lawS5 at F
 refine Z182 (i := 12) (d := .int (measN f m l)) F r rfl (by decide) (Z45 (pn F 34) X.f_lm (Z2 ((Z8 (pn F 2) (pn F 3) Z32).is (by rw [← Int.natCast_add])) (Z2 (pn F 6) Z5)) (Z286 X (n := n) (a₀ := f + m) (b₀ := m + l) (by lia) (by lia))) fun g₁ l₁ F => ?_
 refine gx_pair (d₁ := .int ((f + m + l) / measN f m l : Nat)) (d₂ := .int ((f + m + l) % measN f m l : Nat)) F r (Z45 (pn F 35) X.f_idm (Z2 (pn F 5) (Z2 (pn F 12) Z5)) ?_) (Tgt.pair (Tgt.loc (i := 13) rfl) (Tgt.loc (i := 14) rfl)) fun g₂ l₂ F => ?_
 ·have h := Z84 X (g := g₁) (n := n + 8) (a := ((f + m + l : Nat) : Int)) (b := (measN f m l : Int)) (by rw [Int.natAbs_natCast]; lia) (by lia) (by rw [Int.natAbs_natCast]; lia)
  rw [show ((f + m + l : Nat) : Int).fdiv (measN f m l) = (((f + m + l) / measN f m l : Nat) : Int) from by rw [Int.fdiv_eq_ediv_of_nonneg _ (by lia)]; rfl,
   show ((f + m + l : Nat) : Int).fmod (measN f m l) = (((f + m + l) % measN f m l : Nat) : Int) from by rw [Int.fmod_eq_emod_of_nonneg _ (by lia)]; rfl] at h
  exact h
 refine Z182 (i := 15) (d := .int (hoursN f m l)) F r rfl (by decide) (pe_if (v := ((((f + m + l) % measN f m l : Nat) : Int) == 0)) (Z30 (pn F 14) Z11 op_eq) (fun hv => (pn F 13).is ?_) (fun hv => (Z8 (pn F 13) (Z8 (pn F 13) Z11 Z32) (Z224 ?_)).is ?_)) fun g₃ l₃ F => ?_
 ·have : (f + m + l) % measN f m l = 0 := by rw [beq_iff_eq] at hv; lia
  rw [hoursN, if_pos this]
 ·refine IntMulOk.of_left (Nat.le_trans (Z118 (k := 48) ?_) (by exact Nat.le_add_left _ _))
  exact Nat.lt_of_le_of_lt (Nat.div_le_self _ _) (by lia)
 ·have : ¬ (f + m + l) % measN f m l = 0 := by rw [beq_eq_false_iff_ne] at hv; lia
  rw [hoursN, if_neg this]
  simp
 refine Z182 (i := 16) (d := .lst (rowsD f m (wordsL d3 (f + m + l)) (hoursN f m l + 1))) F r rfl (by decide) (Z45 (pn F 36) X.f_lr (Z2 (pn F 9) (Z2 (pn F 2) (Z2 (pn F 3) (Z2 (pn F 15) Z5)))) (w_law_rows X (n := n + 291) (by simp [wordsL]; lia) (fun w hw => ?_) (by simp [wordsL]) (by lia))) fun g₄ l₄ F => k g₄ (F.lessL (by repeat (first | exact trivial | refine And.intro rfl ?_)))
 refine E1_2 (List.mem_map.mp hw) ?_
 rintro k' hk' rfl
 rw [(wordF_ok d3 k' (by simp at hk'; lia)).1]; lia
noncomputable def strsOf : List D → List (List Nat)
 | [] => []
 | .str s :: r => s :: strsOf r
 | _ :: r => strsOf r
theorem Z76 (ws : List (List Nat)) : strsOf (ws.map .str) = ws := by
 induction ws with
 | nil => rfl
 | cons w ws ih => exact congrArg (w :: ·) ih
theorem idx_map {e : Nat → List Nat} (he : ∀ a b, e a = e b → a = b) (k : Nat) : ∀ L : List Nat, (L.map e).idxOf (e k) = L.idxOf k
 | [] => rfl
 | a :: L => by
  rw [List.map_cons, List.idxOf_cons, List.idxOf_cons, idx_map he k L]
  have : (e a == e k) = (a == k) := by
   rw [Bool.eq_iff_iff, beq_iff_eq, beq_iff_eq]
   exact ⟨fun z => he _ _ z, fun z => by rw [z]⟩
  rw [this]
theorem Z146 (d3 : Int) : ∀ a b, wordF d3 a = wordF d3 b → a = b := fun a b h => by
 have := (List.cons.inj h).1; lia
noncomputable def placeN (f m l k h : Nat) : Nat := (rowAt f m (List.range (f + m + l)) h).idxOf k
noncomputable def placesN (f m l H : Nat) : List (List Nat) := (List.range (f + m + l)).map fun k => (List.range H).map fun h => placeN f m l k h
noncomputable def natsD (l : List Nat) : D := .lst (l.map fun k : Nat => .int k)
noncomputable def natsD2 (l : List (List Nat)) : D := .lst (l.map natsD)
theorem Z110 (f m : Nat) (d3 : Int) (n h : Nat) : rowAt f m (wordsL d3 n) h = (rowAt f m (List.range n) h).map (wordF d3) := rowAt_map _ _ _ _ _
theorem row_has (f m : Nat) (d3 : Int) (n h k : Nat) (hk : k < n) : wordF d3 k ∈ rowAt f m (wordsL d3 n) h := by
 have hm : ∀ h, k ∈ rowAt f m (List.range n) h := by
  intro h
  induction h with
  | zero => simpa [rowAt] using hk
  | succ h ih =>
   rw [rowAt, stepW]
   generalize rowAt f m (List.range n) h = L at *
   rw [← List.take_append_drop (f + m) L] at ih
   rcases List.mem_append.mp ih with h1 | h1
   ·have h2 := h1
    rw [← List.take_append_drop f (L.take (f + m))] at h2
    rcases List.mem_append.mp h2 with h3 | h3
    ·rw [List.take_take] at h3
     rw [Nat.min_eq_left (by exact Nat.le_add_right _ _)] at h3
     simp [h3]
    ·simp only [List.mem_append]; exact .inl (.inr h3)
   ·simp [h1]
 rw [Z110]
 exact List.mem_map_of_mem (hm h)
noncomputable def idxD (w : List Nat) (d : D) : D := match d with | .tup [.lst r, _] => .int ((strsOf r).idxOf w : Nat) | d => d
theorem idxD_row (f m : Nat) (d3 : Int) (l k h : Nat) : idxD (wordF d3 k) (rowD f m (wordsL d3 (f + m + l)) h) = .int (placeN f m l k h) := by
 show D.int _ = _
 rw [Z76, Z110, idx_map (Z146 d3)]
 rfl
noncomputable def lawS6 (d0 d1 d2 d3 : Int) (f m l : Nat) (x : Addr) (a12 a15 a16 a17 a18 : Option D) : List (Option D) :=
 [none, some (.lst [.int d0, .int d1, .int d2, .int d3]), some (.int f), some (.int m), none, some (.int (f + m + l : Nat)), some (.int (m + l : Nat)), some (.str (stretchL f m l)), none, some (.lst ((wordsL d3 (f + m + l)).map .str)), some (.str (textL d3 (f + m + l))), some (.raw (.ref x)), a12, none, none, a15, a16, a17, a18] ++ List.replicate 10 none ++ lawG
theorem natsD2_eq (F : Nat → Nat → Nat) (N H : Nat) : natsD2 ((List.range N).map fun k => (List.range H).map fun h => F k h) = .lst ((List.range N).map fun k => .lst ((List.range H).map fun h => .int (F k h))) := by
 rw [natsD2, List.map_map]; exact congrArg D.lst (List.map_congr_left fun k _ => congrArg D.lst List.map_map)
theorem law_6 (X : WX K) {d0 d1 d2 d3 : Int} {f m l : Nat} {L : Addr} {cells : List (Str × Addr)} {Q : Flow → Gh → Prop} {x : Addr} (hf : f < 5) (hm : m < 5) (hl1 : 1 ≤ l) (hl : l ≤ 4) (r : Room A (n + 300))
  (F : LF K b cs L cells (lawS5 d0 d1 d2 d3 f m l x (some (.int (measN f m l))) (some (.int (hoursN f m l))) (some (.lst (rowsD f m (wordsL d3 (f + m + l)) (hoursN f m l + 1))))) own g)
  (k : ∀ (g' : Gh), LF K b cs L cells (lawS6 d0 d1 d2 d3 f m l x (some (.int (measN f m l))) (some (.int (hoursN f m l))) (some (.lst (rowsD f m (wordsL d3 (f + m + l)) (hoursN f m l + 1)))) (some (natsD2 (placesN f m l (hoursN f m l + 1)))) none) own g' → gwp K A (execs ((bodyOf st_law).drop 12) (lawEnv L cells)) Q g') :
  gwp K A (execs ((bodyOf st_law).drop 11) (lawEnv L cells)) Q g := by
 have hh := Z42 hf hm hl1 hl
 have hN : f + m + l ≤ 12 := by lia
 unfold lawS5 at F
 obtain ⟨H, hH⟩ : ∃ H, H = hoursN f m l + 1 := ⟨_, rfl⟩
 rw [← hH] at F k
 have heq : D.lst ((((wordsL d3 (f + m + l)).map D.str).filter fun _ => true).map fun d => match d with | .str w => .lst ((rowsD f m (wordsL d3 (f + m + l)) H).map (idxD w)) | d => d) = natsD2 (placesN f m l H) := by
  rw [List.filter_eq_self.mpr (fun _ _ => rfl), placesN, natsD2_eq, wordsL, List.map_map, List.map_map]
  congr 1
  refine List.map_congr_left fun j hj => ?_
  show D.lst ((rowsD f m (wordsL d3 (f + m + l)) H).map (idxD (wordF d3 j))) = _
  rw [rowsD, List.map_map]
  congr 1
  exact List.map_congr_left fun h hh => idxD_row f m d3 l j h
 refine Z65 (i := 17) (p := fun _ => true) (f := fun d => match d with | .str w => .lst ((rowsD f m (wordsL d3 (f + m + l)) H).map (idxD w)) | d => d) F r rfl (Z50 (pn F 9)).pit (by exact all0)
  (CompP.name (mkSrcs GT [.no, .no, .outer 16]) 1 (by decide +kernel) (Z3 X.gt (by decide +kernel)) (.inr ⟨by decide +kernel, by decide +kernel⟩) rfl fun d hd b g' env' cs' lb lb' F1 _ _ henv => ?_) (by simp [wordsL]; exact le_sl (by lia)) (fun g₁ l₁ F => ?_) rfl (by decide +kernel)
 ·refine E2_1 henv ?_
  rintro L' cells' rfl
  refine E1_2 (List.mem_map.mp hd) ?_
  rintro w hw rfl
  refine ⟨Z21, fun _ => ?_⟩
  refine (Z51 (p := fun _ => true) (f := idxD w) F1 (Z50 (pn F1 2)).pit (by exact all0) (CompP.pair (mkSrcs GT [.no, .no, .no, .outer 1]) 1 2 (by decide) (by decide +kernel) (Z3 X.gt (by decide +kernel)) (.inl (by decide +kernel)) rfl (.inl (by decide +kernel)) rfl (fun d hd => ?_) fun e1 e2 hd b g' env' cs' lb lb' F2 henv => ?_) (by simp [rowsD]; exact le_sl (by lia))).is ?_
  ·refine E1_2 (List.mem_map.mp hd) ?_
   rintro h hh rfl
   exact ⟨_, _, rfl⟩
  ·refine E2_1 henv ?_
   rintro L'' cells'' rfl
   refine E1_2 (List.mem_map.mp hd) fun h hh he => ?_
   refine E1_2 (List.mem_map.mp hw) ?_
   rintro j hj rfl
   cases he
   refine ⟨Z21, fun _ => (Z71 (T := "list") (id := "list.index") PySem.F.plainAttrs_list PySem.F.slot_list_index PySem.F.type_list_index (pn F2 1) (Z2 (pn F2 3) Z5) (cs_index (n := n + 299) (row_has f m d3 _ h j (by exact List.mem_range.mp hj)) (by rw [Z111]; simp [wordsL]; lia))).is ?_⟩
   show _ = D.int ((strsOf _).idxOf _ : Nat)
   rw [Z76]
  ·rw [List.filter_eq_self.mpr (fun _ _ => rfl)]
 ·rw [heq] at F
  exact k g₁ (F.lessL (by repeat (first | exact trivial | refine And.intro rfl ?_)))
theorem Z109 (f m l : Nat) : (stretchL f m l).length = f + m + l := by simp [stretchL]; lia
theorem row_mem (f m n h k : Nat) (hk : k < n) : k ∈ rowAt f m (List.range n) h := by
 have := row_has f m 0 n h k hk
 rw [Z110] at this
 obtain ⟨j, hj, e⟩ := List.mem_map.mp this
 rw [Z146 0 _ _ e] at hj
 exact hj
theorem placeN_lt {f m l k h : Nat} (hk : k < f + m + l) : placeN f m l k h < f + m + l := by
 have := List.idxOf_lt_length_of_mem (row_mem f m (f + m + l) h k hk)
 rw [Z111, List.length_range] at this
 exact this
theorem Z138 {f m l H : Nat} {p : List Nat} (h : p ∈ placesN f m l H) : p.length = H ∧ ∀ q ∈ p, q < f + m + l := by
 obtain ⟨k, hk, rfl⟩ := List.mem_map.mp h
 refine ⟨by exact (List.length_map _).trans List.length_range, fun q hq => ?_⟩
 obtain ⟨j, hj, rfl⟩ := List.mem_map.mp hq
 exact placeN_lt (by exact List.mem_range.mp hk)
noncomputable def diaryF (S : List Nat) (H : Nat) (p : List Nat) : List Nat := (p.take H).map fun q => S.getD q 0
noncomputable def diariesN (f m l : Nat) : List (List Nat) := (placesN f m l (hoursN f m l + 1)).map (diaryF (stretchL f m l) (hoursN f m l))
noncomputable def natOf (d : D) : Nat := match d with | .int i => i.toNat | _ => 0
noncomputable def natsOf (d : D) : List Nat := match d with | .lst r => r.map natOf | _ => []
theorem Z36 (p : List Nat) : natsOf (natsD p) = p := by simp [natsOf, natsD, natOf, List.map_map, Function.comp_def]
theorem law_7 (X : WX K) {d0 d1 d2 d3 : Int} {f m l : Nat} {L : Addr} {cells : List (Str × Addr)} {Q : Flow → Gh → Prop} {x : Addr} (hf : f < 5) (hm : m < 5) (hl1 : 1 ≤ l) (hl : l ≤ 4) (r : Room A (n + 300))
  (F : LF K b cs L cells (lawS6 d0 d1 d2 d3 f m l x (some (.int (measN f m l))) (some (.int (hoursN f m l))) (some (.lst (rowsD f m (wordsL d3 (f + m + l)) (hoursN f m l + 1)))) (some (natsD2 (placesN f m l (hoursN f m l + 1)))) none) own g)
  (k : ∀ (g' : Gh), LF K b cs L cells (lawS6 d0 d1 d2 d3 f m l x (some (.int (measN f m l))) (some (.int (hoursN f m l))) (some (.lst (rowsD f m (wordsL d3 (f + m + l)) (hoursN f m l + 1)))) (some (natsD2 (placesN f m l (hoursN f m l + 1)))) (some (.lst ((diariesN f m l).map .str)))) own g' → gwp K A (execs ((bodyOf st_law).drop 13) (lawEnv L cells)) Q g') :
  gwp K A (execs ((bodyOf st_law).drop 12) (lawEnv L cells)) Q g := by
 have hh := Z42 hf hm hl1 hl
 have hN : f + m + l ≤ 12 := by lia
 unfold lawS6 at F
 obtain ⟨H, hH⟩ : ∃ H, H = hoursN f m l := ⟨_, rfl⟩
 rw [← hH] at F hh
 have heq : D.lst ((((placesN f m l (H + 1)).map natsD).filter fun _ => true).map fun d => .str (diaryF (stretchL f m l) H (natsOf d))) = .lst ((diariesN f m l).map .str) := by
  rw [List.filter_eq_self.mpr (fun _ _ => rfl), diariesN, List.map_map, List.map_map, ← hH]
  congr 1
  refine List.map_congr_left fun p hp => ?_
  show D.str (diaryF (stretchL f m l) H (natsOf (natsD p))) = _
  rw [Z36]; rfl
 refine Z65 (i := 18) (p := fun _ => true) (f := fun d => .str (diaryF (stretchL f m l) H (natsOf d))) F r rfl (Z50 (ds := (placesN f m l (H + 1)).map natsD) (pn F 17)).pit (by exact all0)
  (CompP.name (mkSrcs GT [.no, .no, .outer 15, .outer 7]) 1 (by decide +kernel) (Z3 X.gt (by decide +kernel)) (.inl (by decide +kernel)) rfl fun d hd b g' env' cs' lb lb' F1 _ _ henv => ?_) (by simp [placesN]; exact le_sl (by lia)) (fun g₁ l₁ F => ?_) rfl (by decide +kernel)
 ·obtain ⟨L', cells', rfl⟩ := henv
  obtain ⟨p, hp, rfl⟩ := List.mem_map.mp hd
  obtain ⟨hpl, hpq⟩ := Z138 hp
  refine ⟨Z21, fun _ => ?_⟩
  rw [Z36]
  have hxs : jn [] ((diaryF (stretchL f m l) H p).map fun c => [c]) = diaryF (stretchL f m l) H p := by
   rw [jn_nil]
   generalize diaryF (stretchL f m l) H p = q
   induction q with
   | nil => rfl
   | cons c q ih => rw [List.map_cons, List.flatten_cons, ih]; rfl
  refine (Z71 (T := "str") (id := "str.join") (d₀ := .str []) (ds := [.lst (((diaryF (stretchL f m l) H p).map fun c => [c]).map .str)]) (d := .str (jn [] ((diaryF (stretchL f m l) H p).map fun c => [c]))) PySem.F.plainAttrs_str PySem.F.slot_str_join PySem.F.type_str_join (Z31 rfl) (Z2 ?_ Z5) (cs_join ?_)).is (by rw [hxs])
  ·refine (Z51 (p := fun _ => true) (f := fun d => .str [(stretchL f m l).getD (natOf d) 0]) F1 (Z50 (ds := (p.take H).map fun q : Nat => D.int q) ((Z212 (l := p.map fun q : Nat => D.int q) (pn F1 1) Z37 (Z112 (pn F1 2)) Z37 (by decide) (by rw [List.length_map, hpl]; exact le_sl (by lia))).is (by rw [pick_to, List.map_take]))).pit (by exact all0)
    (CompP.name (mkSrcs GT [.no, .no, .outer 3]) 1 (by decide +kernel) (Z3 X.gt (by decide +kernel)) (.inl (by decide +kernel)) rfl fun d hd b g' env' cs' lb lb' F2 _ _ henv => ?_) (by rw [List.length_map, List.length_take]; exact le_sl (by lia))).is ?_
   ·obtain ⟨L'', cells'', rfl⟩ := henv
    obtain ⟨q, hq, rfl⟩ := List.mem_map.mp hd
    have hql : q < (stretchL f m l).length := by rw [Z109]; exact hpq q (List.mem_of_mem_take hq)
    refine ⟨Z21, fun _ => Z154 (x := stretchL f m l) (i := (q : Int)) (pn F2 2) (pn F2 1) (Z96 ?_) (by rw [Z109]; lia)⟩
    show _ = some ((stretchL f m l).getD q 0)
    rw [List.getD_eq_getElem?_getD, List.getElem?_eq_getElem hql]; rfl
   ·rw [List.filter_eq_self.mpr (fun _ _ => rfl), diaryF, List.map_map, List.map_map, List.map_map]
    rfl
  ·have : ((diaryF (stretchL f m l) H p).map fun c => [c]).length ≤ 200 := by simp [diaryF]; lia
   simp only [List.length_nil, Nat.mul_zero, Nat.add_zero, List.map_map]
   have h2 : ∀ q : List Nat, (q.map ((fun x : List Nat => x.length) ∘ fun c => [c])).sum = q.length := fun q => by
    induction q with
    | nil => rfl
    | cons c q ih => rw [List.map_cons, List.sum_cons, ih]; simp; lia
   rw [h2]
   simp at this; lia
 ·rw [heq] at F
  rw [← hH] at k
  exact k g₁ (F.lessL (by repeat (first | exact trivial | refine And.intro rfl ?_)))
theorem flat1 {β : Type} (f : β → Nat) : ∀ q : List β, (q.map fun c => [f c]).flatten = q.map f
 | [] => rfl
 | c :: q => by rw [List.map_cons, List.flatten_cons, flat1 f q]; rfl
theorem Z284 {q : List Nat} (h : 1 ≤ q.length) : atInt q (-1) = some (q.getLastD 0) := by
 unfold atInt
 rw [if_neg (by decide), if_pos (by lia)]
 have e : (-1 + (q.length : Int)).toNat = q.length - 1 := by lia
 rw [e]
 clear e; cases q with
 | nil => simp at h
 | cons a q => simp [List.getLastD_eq_getLast?, List.getLast?_eq_getElem?]
theorem law_8 (X : WX K) {d0 d1 d2 d3 : Int} {f m l : Nat} {L : Addr} {cells : List (Str × Addr)} {Q : Flow → Gh → Prop} {x : Addr} (hf : f < 5) (hm : m < 5) (hl1 : 1 ≤ l) (hl : l ≤ 4) (r : Room A (n + 300))
  (p1 : (diariesN f m l).Pairwise (· ≤ ·)) (p2 : (diariesN f m l).map (fun d => d.getLastD 0) = (stretchL f m l).reverse) (p3 : 1 ≤ hoursN f m l) {σ₀ : List (Option D)}
  (h7 : σ₀[7]? = some (some (.str (stretchL f m l)))) (h18 : σ₀[18]? = some (some (.lst ((diariesN f m l).map .str)))) (h37 : σ₀[37]? = some (some (.raw (.builtin "sorted"))))
  (F : LF K b cs L cells σ₀ own g)
  (k : ∀ (g' : Gh), LF K b cs L cells σ₀ own g' → gwp K A (execs ((bodyOf st_law).drop 14) (lawEnv L cells)) Q g') :
  gwp K A (execs ((bodyOf st_law).drop 13) (lawEnv L cells)) Q g := by
 have hh := Z42 hf hm hl1 hl
 have hN : f + m + l ≤ 12 := by lia
 have hdl : (diariesN f m l).length = f + m + l := by simp [diariesN, placesN]
 have hdd : ∀ d ∈ diariesN f m l, d.length = hoursN f m l := fun d hd => by
  refine E1_2 (List.mem_map.mp hd) ?_
  rintro p hp rfl
  have := (Z138 hp).1
  simp [diaryF, this]
 refine gx_if (v := false) r (pt_or (u := false) (v := false) (Z30 (v := false) (Z6 F (i := 18) rfl h18) (Z73 (Z6 F (i := 37) rfl h37) (fun a z => by cases z) (Z2 (Z6 F (i := 18) rfl h18) Z5) (cs_sortedStrs p1 (by rw [hdl]; lia))) (Z272 (v := true) (Z232 (k := 0) (Z181 fun _ => Z142)) (by lia))) fun _ => ?_) (fun z => by cases z) fun _ g₁ l₁ => Z57 (k g₁ (F.up l₁))
 have hs : ((diariesN f m l).map (fun d => d.getLastD 0)) = (stretchL f m l).reverse := p2
 refine Z30 (v := false) (d₁ := .str (jn [] (((diariesN f m l).map fun d => [d.getLastD 0])))) (d₂ := .str (stretchL f m l).reverse) (Z71 (T := "str") (id := "str.join") (d₀ := .str []) (ds := [.lst (((diariesN f m l).map fun d => [d.getLastD 0]).map .str)]) PySem.F.plainAttrs_str PySem.F.slot_str_join PySem.F.type_str_join (Z31 rfl) (Z2 ?_ Z5) (cs_join ?_)) (pe_sliceRevS (Z6 F (i := 7) rfl h7) (pe_un Z11 Z156) (by rw [Z109]; exact le_sl (by lia))) ?_
 ·refine (Z51 (p := fun _ => true) (f := fun d => match d with | .str s => .str [s.getLastD 0] | d => d) F (Z50 (Z6 F (i := 18) rfl h18)).pit (by exact all0)
    (CompP.name (mkSrcs GT [.no, .no]) 1 (by decide +kernel) (Z3 X.gt (by decide +kernel)) (.inl (by decide +kernel)) rfl fun d hd b g' env' cs' lb lb' F2 _ _ henv => ?_) (by rw [List.length_map, hdl]; exact le_sl (by lia))).is ?_
  ·refine E2_1 henv ?_
   rintro L'' cells'' rfl
   refine E1_2 (List.mem_map.mp hd) ?_
   rintro q hq rfl
   have hql := hdd q hq
   exact ⟨Z21, fun _ => Z154 (x := q) (i := -1) (pn F2 1) (pe_un Z11 Z156) (Z284 (by lia)) (by lia)⟩
  ·rw [List.filter_eq_self.mpr (fun _ _ => rfl), List.map_map, List.map_map]
   rfl
 ·have h2 : ∀ q : List (List Nat), ((q.map fun d => [d.getLastD 0]).map fun x => x.length).sum = q.length := fun q => by
   induction q with
   | nil => rfl
   | cons c q ih => rw [List.map_cons, List.map_cons, List.sum_cons, ih, List.length_cons]; simp; lia
  rw [h2, hdl]; simp; lia
 ·rw [jn_nil, flat1, hs]
  exact Z272 (k := 0) Z142 (Nat.zero_le _)
theorem lks_strs2 : ∀ a b : List (List Nat), Lks 0 (a.map .str) (b.map .str) (decide (a = b))
 | [], [] => Z180
 | [], _ :: _ => lks_ln
 | _ :: _, [] => lks_rn
 | x :: a, y :: b => by
  have e : decide (x :: a = y :: b) = (x == y && decide (a = b)) := by rw [Bool.eq_iff_iff, Bool.and_eq_true, decide_eq_true_eq, decide_eq_true_eq, beq_iff_eq, List.cons.injEq]
  rw [e]; exact lks_cons lk_str (lks_strs2 a b)
noncomputable def backD (N H h : Nat) : D := .tup [.bool (decide ((h : Int) ∈ [(0 : Int), H])), .int (if h = 0 then 4 * N else 3 * N : Nat)]
noncomputable def backL (N H : Nat) : List D := (List.range (H + 1)).map (backD N H)
theorem law_9 (X : WX K) {d0 d1 d2 d3 : Int} {f m l : Nat} {L : Addr} {cells : List (Str × Addr)} {Q : Flow → Gh → Prop} {x : Addr} (hf : f < 5) (hm : m < 5) (hl1 : 1 ≤ l) (hl : l ≤ 4) (r : Room A (n + 300)) {σ₀ : List (Option D)}
  (h5 : σ₀[5]? = some (some (.int (f + m + l : Nat)))) (h15 : σ₀[15]? = some (some (.int (hoursN f m l)))) (h30 : σ₀[30]? = some (some (.raw (.type "range"))))
  (F : LF K b cs L cells σ₀ own g)
  (k : ∀ (g' : Gh), LF K b cs L cells (σ₀.set 20 (some (.lst (backL (f + m + l) (hoursN f m l))))) own g' → gwp K A (execs ((bodyOf st_law).drop 15) (lawEnv L cells)) Q g') :
  gwp K A (execs ((bodyOf st_law).drop 14) (lawEnv L cells)) Q g := by
 have hh := Z42 hf hm hl1 hl
 have hN : f + m + l ≤ 12 := by lia
 have heq : D.lst (((rgD 0 (hoursN f m l + 1)).filter fun _ => true).map fun d => backD (f + m + l) (hoursN f m l) (natOf d)) = .lst (backL (f + m + l) (hoursN f m l)) := by
  clear hN hh hl hl1 hm hf; rw [List.filter_eq_self.mpr (fun _ _ => rfl), rgD_map]
  simp [backL, natOf]
 refine Z65 (i := 20) (p := fun _ => true) (f := fun d => backD (f + m + l) (hoursN f m l) (natOf d)) F r rfl (Z47 (k := (hoursN f m l : Int) + 1) (Z6 F (i := 30) rfl h30) (Z8 (Z6 F (i := 15) rfl h15) Z11 Z32) (by lia) (by lia)).pit (by exact all0)
  (CompP.name (mkSrcs GT [.no, .no, .outer 15, .outer 5]) 1 (by decide +kernel) (Z3 X.gt (by decide +kernel)) (.inl (by decide +kernel)) rfl fun d hd b g' env' cs' lb lb' F1 _ _ henv => ?_) (by rw [Z80]; exact le_sl (by lia)) (fun g₁ l₁ F => ?_) rfl (by decide +kernel)
 ·refine E2_1 henv ?_
  clear henv hN hh h30 r hl hl1 hm hf; rintro L' cells' rfl
  refine E1_2 (Z177 hd) ?_
  clear hd; rintro h hlt rfl
  have e1 : ((srcSt σ₀ (mkSrcs GT [.no, .no, .outer 15, .outer 5])).set 1 (some (.int (h : Int))))[2]? = some (some (.int (hoursN f m l))) := by show some ((σ₀[15]?).getD none) = _; rw [h15]; rfl
  have e2 : ((srcSt σ₀ (mkSrcs GT [.no, .no, .outer 15, .outer 5])).set 1 (some (.int (h : Int))))[3]? = some (some (.int (f + m + l : Nat))) := by show some ((σ₀[5]?).getD none) = _; rw [h5]; rfl
  refine ⟨Z21, fun _ => (Z38 (Z2 (pe_cmp (pn F1 1) (Z38 (ds := ([0, (hoursN f m l : Int)]).map .int) (Z2 Z11 (Z2 (Z6 F1 (i := 2) (k := .cell) (by decide +kernel) e1) Z5))) (op_inInts (n := n + 299))) (Z2 (pe_ifd (Z30 (pn F1 1) Z11 op_eq) (Z8 Z11 (Z6 F1 (i := 3) (k := .cell) (by decide +kernel) e2) (Z224 (IntMulOk.of_left (by decide)))) (Z8 Z11 (Z6 F1 (i := 3) (k := .cell) (by decide +kernel) e2) (Z224 (IntMulOk.of_left (by decide))))) Z5))).is ?_⟩
  have hn : natOf (.int (h : Int)) = h := rfl
  rw [hn, backD]
  by_cases h0 : h = 0
  ·clear hn e2 e1 F1 hlt h15 h5; subst h0; simp
  ·simp [h0]
 ·have heq' : D.lst (((rgD 0 ((hoursN f m l : Int) + 1).toNat).filter fun _ => true).map fun d => backD (f + m + l) (hoursN f m l) (natOf d)) = .lst (backL (f + m + l) (hoursN f m l)) := heq
  rw [heq'] at F
  exact k g₁ F
theorem Z230 {e : Nat → List Nat} (he : ∀ a b, e a = e b → a = b) : ∀ a b : List Nat, a.map e = b.map e ↔ a = b
 | [], [] => by simp
 | [], _ :: _ => by simp
 | _ :: _, [] => by simp
 | x :: a, y :: b => by
  rw [List.map_cons, List.map_cons, List.cons.injEq, List.cons.injEq, Z230 he a b]
  exact ⟨fun z₀ => E0_2 z₀ fun h1 h2 => ⟨he _ _ h1, h2⟩, fun z₀ => E0_2 z₀ fun h1 h2 => ⟨by rw [h1], h2⟩⟩
theorem row_sum (f m : Nat) (d3 : Int) (n h : Nat) : (((rowAt f m (wordsL d3 n) h).map pieceW).map pieceLen).sum = 3 * (n : Int) := by
 have hl : (rowAt f m (List.range n) h).length = n := by rw [Z111, List.length_range]
 rw [Z110]
 generalize rowAt f m (List.range n) h = L at *
 subst hl
 induction L with
 | nil => rfl
 | cons a L ih =>
  rw [List.map_cons, List.map_cons, List.map_cons, List.sum_cons, ih, List.length_cons]
  have : pieceLen (pieceW (wordF d3 a)) = 3 := rfl
  rw [this]; lia
noncomputable def eqRowD (W : List (List Nat)) (d : D) : D := match d with | .tup [.lst r, c] => .tup [.bool (decide (strsOf r = W)), c] | d => d
theorem eqRow_at {f m : Nat} {d3 : Int} {l H h : Nat} (p4 : rowAt f m (List.range (f + m + l)) h = List.range (f + m + l) ↔ (h = 0 ∨ h = H)) : eqRowD (wordsL d3 (f + m + l)) (rowD f m (wordsL d3 (f + m + l)) h) = backD (f + m + l) H h := by
 show D.tup [.bool (decide (strsOf _ = _)), _] = _
 rw [Z76, row_sum, backD]
 have e : (rowAt f m (wordsL d3 (f + m + l)) h = wordsL d3 (f + m + l)) ↔ (h : Int) ∈ [(0 : Int), H] := by
  rw [Z110]
  show (_ = (List.range (f + m + l)).map (wordF d3)) ↔ _
  rw [Z230 (Z146 d3), p4]
  simp only [List.mem_cons, List.not_mem_nil, or_false]
  lia
 simp only [e]
 congr 3
 by_cases h0 : h = 0
 ·simp [h0, wordsL]; lia
 ·simp [h0]
theorem law_10 (X : WX K) {d0 d1 d2 d3 : Int} {f m l : Nat} {L : Addr} {cells : List (Str × Addr)} {Q : Flow → Gh → Prop} {x : Addr} (hf : f < 5) (hm : m < 5) (hl1 : 1 ≤ l) (hl : l ≤ 4) (r : Room A (n + 300)) {σ₀ : List (Option D)}
  (p4 : ∀ h, h ≤ hoursN f m l → (rowAt f m (List.range (f + m + l)) h = List.range (f + m + l) ↔ (h = 0 ∨ h = hoursN f m l)))
  (h9 : σ₀[9]? = some (some (.lst ((wordsL d3 (f + m + l)).map .str)))) (h16 : σ₀[16]? = some (some (.lst (rowsD f m (wordsL d3 (f + m + l)) (hoursN f m l + 1))))) (h20 : σ₀[20]? = some (some (.lst (backL (f + m + l) (hoursN f m l)))))
  (F : LF K b cs L cells σ₀ own g)
  (k : ∀ (g' : Gh), LF K b cs L cells σ₀ own g' → gwp K A (execs ((bodyOf st_law).drop 16) (lawEnv L cells)) Q g') :
  gwp K A (execs ((bodyOf st_law).drop 15) (lawEnv L cells)) Q g := by
 have hh := Z42 hf hm hl1 hl
 have hN : f + m + l ≤ 12 := by lia
 have heq : D.lst (((rowsD f m (wordsL d3 (f + m + l)) (hoursN f m l + 1)).filter fun _ => true).map (eqRowD (wordsL d3 (f + m + l)))) = .lst (backL (f + m + l) (hoursN f m l)) := by
  rw [List.filter_eq_self.mpr (fun _ _ => rfl), rowsD, List.map_map, backL]
  congr 1
  refine List.map_congr_left fun h hh' => ?_
  exact eqRow_at (p4 h (by have := List.mem_range.mp hh'; lia))
 refine gx_if (v := false) r (Z30 (v := false) (d₁ := .lst (backL (f + m + l) (hoursN f m l))) ((Z51 (p := fun _ => true) (f := eqRowD (wordsL d3 (f + m + l))) F (Z50 (Z6 F (i := 16) rfl h16)).pit (by exact all0)
  (CompP.pair (mkSrcs GT [.no, .no, .no, .outer 9]) 1 2 (by decide) (by decide +kernel) (Z3 X.gt (by decide +kernel)) (.inl (by decide +kernel)) rfl (.inl (by decide +kernel)) rfl (fun d hd => ?_) fun e1 e2 hd b g' env' cs' lb lb' F2 henv => ?_) (by simp [rowsD]; exact le_sl (by lia))).is heq) (Z6 F (i := 20) rfl h20) (Z272 (Z232 (k := 1) (Z181 fun _ => lk_tup (Z67 lk_bool_self (Z67 Z64 Z180)))) (by lia))) (fun z => by cases z) fun _ g₁ l₁ => Z57 (k g₁ (F.up l₁))
 ·refine E1_2 (List.mem_map.mp hd) ?_
  rintro h hh rfl
  exact ⟨_, _, rfl⟩
 ·refine E2_1 henv ?_
  rintro L'' cells'' rfl
  refine E1_2 (List.mem_map.mp hd) fun h hh he => ?_
  cases he
  have e1 : (((srcSt σ₀ (mkSrcs GT [.no, .no, .no, .outer 9])).set 1 (some (.lst ((rowAt f m (wordsL d3 (f + m + l)) h).map .str)))).set 2 (some (.int ((if h = 0 then ((wordsL d3 (f + m + l)).length : Int) else 0) + (((rowAt f m (wordsL d3 (f + m + l)) h).map pieceW).map pieceLen).sum))))[3]? = some (some (.lst ((wordsL d3 (f + m + l)).map .str))) := by show some ((σ₀[9]?).getD none) = _; rw [h9]; rfl
  refine ⟨Z21, fun _ => (Z38 (Z2 (pe_cmp (pn F2 1) (Z6 F2 (i := 3) (k := .cell) (by decide +kernel) e1) (op_eqD (v := decide (rowAt f m (wordsL d3 (f + m + l)) h = wordsL d3 (f + m + l))) (Z232 (lks_strs2 _ _)) (by lia))) (Z2 (pn F2 2) Z5))).is ?_⟩
  show _ = D.tup [.bool (decide (strsOf _ = _)), _]
  rw [Z76]
noncomputable def lines0 (d3 : Int) (f m l : Nat) : List D := ((wordsL d3 (f + m + l)) ++ List.replicate m []).map D.str
theorem law_11 (X : WX K) {d0 d1 d2 d3 : Int} {f m l : Nat} {L : Addr} {cells : List (Str × Addr)} {Q : Flow → Gh → Prop} {x dx pb lf fs : Addr} {ln : Int} {chars : List Nat} (hf : f < 5) (hm : m < 5) (hl1 : 1 ≤ l) (hl : l ≤ 4) (r : Room A (n + 300)) (hnd : [x, dx, pb, lf].Nodup) {σ₀ : List (Option D)}
  (h2 : σ₀[2]? = some (some (.int f))) (h3 : σ₀[3]? = some (some (.int m))) (h9 : σ₀[9]? = some (some (.lst ((wordsL d3 (f + m + l)).map .str)))) (h11 : σ₀[11]? = some (some (.raw (.ref x)))) (h15 : σ₀[15]? = some (some (.int (hoursN f m l)))) (h38 : σ₀[38]? = some (some (.raw (.ref a_ll))))
  (F : LF K b cs L cells σ₀ (LexOwn x dx pb lf fs ln chars []) g)
  (k : ∀ (pbs : List D) (g' : Gh), LF K b cs L cells (σ₀.set 21 (some (.lst (linesD (f + m) (lines0 d3 f m l) (2 * hoursN f m l + 1))))) (LexOwn x dx pb lf fs ln chars pbs) g' → gwp K A (execs ((bodyOf st_law).drop 17) (lawEnv L cells)) Q g') :
  gwp K A (execs ((bodyOf st_law).drop 16) (lawEnv L cells)) Q g := by
 have hh := Z42 hf hm hl1 hl
 have hN : f + m + l ≤ 12 := by lia
 refine Z10 (Z34 (Z33 ((Z6 F (i := 38) rfl h38).useR r fun g₁ l₁ => ?_)))
 replace F := F.up l₁
 obtain ⟨of, f1, f2, f3⟩ := X.f_ll.obj
 refine Z103 fun z₀ => E1_1 z₀ fun s ok => ?_
 have hof := ok.base _ _ f1
 refine Z26 (.inl hof) f2 (Z7 rfl ((Z2 (Z6 F (i := 11) rfl h11) (Z2 (Z6 F (i := 9) rfl h9) (Z2 (Z6 F (i := 2) rfl h2) (Z2 (Z6 F (i := 3) rfl h3) (Z2 (d := .int (2 * hoursN f m l : Nat)) ((Z8 Z11 (Z6 F (i := 15) rfl h15) (Z224 (IntMulOk.of_left (by decide)))).is (by exact rfl)) Z5))))).use r fun vs g₂ l₂ rs => ⟨.inl (l₂.im _ _ hof), ?_⟩))
 obtain ⟨u, v1, v2, v3, v4, rfl, r0, r1, r2, r3, r4⟩ := reps5 rs
 have := Z22 r0; subst this
 replace F := F.up l₂
 refine gM0_3 (w_law_lines X (n := n + 291) (ws := wordsL d3 (f + m + l)) (f := f) (m := m) (turns := 2 * hoursN f m l) r F.holds hnd (by simp [wordsL]; lia) (by simp [wordsL]; lia) (by lia) (by lia) r1 r2 r3 r4) fun u g₃ hu l₃ v00 => E1_1 v00 fun pbs hH => ?_
 have F2 := F.advance (ms := LexOwn x dx pb lf fs ln chars []) (ms' := LexOwn x dx pb lf fs ln chars pbs) (own := []) l₃ rfl hH Z52
 rw [List.append_nil] at F2
 exact F2.storeCell (i := 21) rfl (by decide) hu fun g₄ l₄ F3 => k pbs g₄ F3
noncomputable def lineN (f m l k h : Nat) : Nat := (lineAt (f + m) (List.range (f + m + l + m)) h).idxOf k
noncomputable def seenK (f m l H k : Nat) : List Nat := ((List.range (2 * H + 1)).map (lineN f m l k)).filter fun q => decide (q < f + m + l)
noncomputable def seenN (f m l : Nat) : List (List Nat) := (List.range (f + m + l)).map (seenK f m l (hoursN f m l))
noncomputable def wordE (d3 : Int) (N j : Nat) : List Nat := if j < N then wordF d3 j else []
theorem lines0_eq (d3 : Int) (f m l : Nat) : (wordsL d3 (f + m + l)) ++ List.replicate m [] = (List.range (f + m + l + m)).map (wordE d3 (f + m + l)) := by
 rw [List.range_add, List.map_append]
 congr 1
 ·exact List.map_congr_left fun j hj => by rw [wordE, if_pos (by exact List.mem_range.mp hj)]
 ·rw [List.map_map]
  refine (List.ext_getElem (by simp) fun i h1 h2 => ?_)
  simp only [List.getElem_replicate, List.getElem_map, Function.comp_apply, List.getElem_range]
  rw [wordE, if_neg (by lia)]
theorem idx_mapE {e : Nat → List Nat} {k : Nat} (he : ∀ a, e a = e k → a = k) : ∀ L : List Nat, (L.map e).idxOf (e k) = L.idxOf k
 | [] => rfl
 | a :: L => by
  rw [List.map_cons, List.idxOf_cons, List.idxOf_cons, idx_mapE he L]
  have : (e a == e k) = (a == k) := by
   rw [Bool.eq_iff_iff, beq_iff_eq, beq_iff_eq]
   exact ⟨fun z => he _ z, fun z => by rw [z]⟩
  rw [this]
theorem wordE_inj (d3 : Int) {N k : Nat} (hk : k < N) : ∀ a, wordE d3 N a = wordE d3 N k → a = k := fun a h => by
 rw [wordE, wordE, if_pos hk] at h
 split at h
 ·exact Z146 d3 _ _ h
 ·cases h
theorem rot_mem {γ : Type} {a : γ} {t : Nat} {q : List γ} : a ∈ rotN t q ↔ a ∈ q := by
 induction t with
 | zero => rfl
 | succ t ih =>
  rw [rotN, ← ih]
  cases rotN t q with
  | nil => rfl
  | cons c q => simp [rot1, or_comm]
theorem lineAt_mem {γ : Type} {a : γ} {k h : Nat} {q : List γ} : a ∈ lineAt k q h ↔ a ∈ q := by
 induction h with
 | zero => rfl
 | succ h ih => rw [lineAt, rot_mem, ih]
noncomputable def linIdx (w : List Nat) (d : D) : D := match d with | .lst r => .int ((strsOf r).idxOf w : Nat) | d => d
theorem linIdx_at (d3 : Int) {f m l k h : Nat} (hk : k < f + m + l) : linIdx (wordF d3 k) (.lst (lineAt (f + m) (lines0 d3 f m l) h)) = .int (lineN f m l k h) := by
 have e : wordF d3 k = wordE d3 (f + m + l) k := by rw [wordE, if_pos hk]
 rw [lines0, Z123, linIdx, Z76, lines0_eq, Z123, e, idx_mapE (wordE_inj d3 hk)]
 rfl
theorem law_12 (X : WX K) {d0 d1 d2 d3 : Int} {f m l : Nat} {L : Addr} {cells : List (Str × Addr)} {Q : Flow → Gh → Prop} (hf : f < 5) (hm : m < 5) (hl1 : 1 ≤ l) (hl : l ≤ 4) (r : Room A (n + 300)) {σ₀ : List (Option D)}
  (h5 : σ₀[5]? = some (some (.int (f + m + l : Nat)))) (h9 : σ₀[9]? = some (some (.lst ((wordsL d3 (f + m + l)).map .str)))) (h21 : σ₀[21]? = some (some (.lst (linesD (f + m) (lines0 d3 f m l) (2 * hoursN f m l + 1)))))
  (F : LF K b cs L cells σ₀ own g)
  (k : ∀ (g' : Gh), LF K b cs L cells (σ₀.set 22 (some (natsD2 (seenN f m l)))) own g' → gwp K A (execs ((bodyOf st_law).drop 18) (lawEnv L cells)) Q g') :
  gwp K A (execs ((bodyOf st_law).drop 17) (lawEnv L cells)) Q g := by
 have hh := Z42 hf hm hl1 hl
 have hN : f + m + l ≤ 12 := by lia
 let G : List Nat → D := fun w => .lst ((((linesD (f + m) (lines0 d3 f m l) (2 * hoursN f m l + 1)).map (linIdx w)).filter fun d => decide (natOf d < f + m + l)).map id)
 have heq : D.lst ((((wordsL d3 (f + m + l)).map D.str).filter fun _ => true).map fun d => match d with | .str w => G w | d => d) = natsD2 (seenN f m l) := by
  rw [List.filter_eq_self.mpr (fun _ _ => rfl), wordsL, List.map_map, List.map_map, natsD2, seenN, List.map_map]
  congr 1
  refine List.map_congr_left fun j hj => ?_
  show G (wordF d3 j) = natsD (seenK f m l (hoursN f m l) j)
  have hj' : j < f + m + l := by exact List.mem_range.mp hj
  have e1 : (linesD (f + m) (lines0 d3 f m l) (2 * hoursN f m l + 1)).map (linIdx (wordF d3 j)) = ((List.range (2 * hoursN f m l + 1)).map (lineN f m l j)).map (fun q : Nat => D.int q) := by
   rw [linesD, List.map_map, List.map_map]
   exact List.map_congr_left fun h _ => linIdx_at d3 hj'
  show D.lst ((((linesD (f + m) (lines0 d3 f m l) (2 * hoursN f m l + 1)).map (linIdx (wordF d3 j))).filter fun d => decide (natOf d < f + m + l)).map id) = _
  rw [e1, List.map_id, List.filter_map]
  rfl
 refine Z65 (i := 22) (p := fun _ => true) (f := fun d => match d with | .str w => G w | d => d) F r rfl (Z50 (Z6 F (i := 9) rfl h9)).pit (by exact all0)
  (CompP.name (mkSrcs GT [.no, .no, .outer 21, .outer 5]) 1 (by decide +kernel) (Z3 X.gt (by decide +kernel)) (.inr ⟨by decide +kernel, by decide +kernel⟩) rfl fun d hd b g' env' cs' lb lb' F1 _ _ henv => ?_) (by simp [wordsL]; exact le_sl (by lia)) (fun g₁ l₁ F => ?_) rfl (by decide +kernel)
 ·obtain ⟨L', cells', rfl⟩ := henv
  obtain ⟨w, hw, rfl⟩ := List.mem_map.mp hd
  obtain ⟨j, hj, rfl⟩ := List.mem_map.mp hw
  have hj' : j < f + m + l := by exact List.mem_range.mp hj
  have e1 : ((srcSt σ₀ (mkSrcs GT [.no, .no, .outer 21, .outer 5])).set 1 (some (.str (wordF d3 j))))[2]? = some (some (.lst (linesD (f + m) (lines0 d3 f m l) (2 * hoursN f m l + 1)))) := by show some ((σ₀[21]?).getD none) = _; rw [h21]; rfl
  have e2 : ((srcSt σ₀ (mkSrcs GT [.no, .no, .outer 21, .outer 5])).set 1 (some (.str (wordF d3 j))))[3]? = some (some (.int (f + m + l : Nat))) := by show some ((σ₀[5]?).getD none) = _; rw [h5]; rfl
  refine ⟨Z21, fun _ => ?_⟩
  show Pe K (n + 300) g' _ (G (wordF d3 j))
  refine Z51 (p := fun d => decide (natOf d < f + m + l)) (f := id) F1 (Z50 (ds := (linesD (f + m) (lines0 d3 f m l) (2 * hoursN f m l + 1)).map (linIdx (wordF d3 j))) ((Z51 (p := fun _ => true) (f := linIdx (wordF d3 j)) F1 (Z50 (Z6 F1 (i := 2) (k := .cell) (by decide +kernel) e1)).pit (by exact all0)
   (CompP.name (mkSrcs GT [.no, .no, .outer 1]) 1 (by decide +kernel) (Z3 X.gt (by decide +kernel)) (.inl (by decide +kernel)) rfl fun d hd b g' env' cs' lb lb' F2 _ _ henv => ?_) (by simp [linesD]; exact le_sl (by lia))).is (by rw [List.filter_eq_self.mpr (fun _ _ => rfl)]))).pit (by exact all0)
   (CompP.name (mkSrcs GT [.no, .no, .outer 3]) 1 (by decide +kernel) (Z3 X.gt (by decide +kernel)) (.inl (by decide +kernel)) rfl fun d hd b g' env' cs' lb lb' F2 _ _ henv => ?_) (by simp [linesD]; exact le_sl (by lia))
  ·obtain ⟨L'', cells'', rfl⟩ := henv
   obtain ⟨h, hh, rfl⟩ := List.mem_map.mp hd
   refine ⟨Z21, fun _ => (Z71 (T := "list") (id := "list.index") PySem.F.plainAttrs_list PySem.F.slot_list_index PySem.F.type_list_index ((pn F2 1).is (by rw [lines0, Z123])) (Z2 (pn F2 2) Z5) (cs_index (n := n + 299) (xs := lineAt (f + m) (wordsL d3 (f + m + l) ++ List.replicate m []) h) (x := wordF d3 j) (lineAt_mem.mpr (List.mem_append_left _ (List.mem_map_of_mem hj))) (by rw [Z273]; simp [wordsL]; lia))).is ?_⟩
   rw [lines0, Z123, linIdx, Z76]
  ·obtain ⟨L'', cells'', rfl⟩ := henv
   obtain ⟨_, hl', rfl⟩ := List.mem_map.mp hd
   obtain ⟨h, hh, rfl⟩ := List.mem_map.mp hl'
   rw [linIdx_at d3 hj'] at F2 ⊢
   refine ⟨?_, fun _ => pn F2 1⟩
   have e : decide (natOf (D.int (lineN f m l j h)) < f + m + l) = decide (((lineN f m l j h : Nat) : Int) < ((f + m + l : Nat) : Int)) := by
    have : natOf (D.int (lineN f m l j h)) = lineN f m l j h := rfl
    rw [this]
    exact decide_eq_decide.mpr (by lia)
   rw [e]
   have e3 : ((srcSt ((srcSt σ₀ (mkSrcs GT [.no, .no, .outer 21, .outer 5])).set 1 (some (.str (wordF d3 j)))) (mkSrcs GT [.no, .no, .outer 3])).set 1 (some (.int (lineN f m l j h))))[2]? = some (some (.int (f + m + l : Nat))) := by show some ((((srcSt σ₀ (mkSrcs GT [.no, .no, .outer 21, .outer 5])).set 1 (some (.str (wordF d3 j))))[3]?).getD none) = _; rw [e2]; rfl
   exact Z178 (Z30 (pn F2 1) (Z6 F2 (i := 2) (k := .cell) (by decide +kernel) e3) op_lt)
 ·rw [heq] at F
  exact k g₁ F
end
end Mine
namespace Mine
section
open PySem PySem.Spec PySem.Calls PyProof.Rows PySem.W PySem.SeqAt Builtin
variable {K : Wd} {B : Base} {α β : Type} {A : Around} {g : Gh} {n : Nat} {env : Env}
variable {b : Gh} {S' : List Addr} {fn : List Nat} {cs : List Addr} {nm : List (Str × NameKind)} {σ σ' : List (Option D)} {own : List (Addr × MO)}
theorem pe_sliceToS {value upper : Expr} {p pos : Pos} {x : List Nat} {i : Nat} (hv : Pe K n g (eval value env) (.str x)) (h3 : Pe K n g (eval upper env) (.int i)) (hi : i ≤ x.length) (hsz : x.length ≤ sizeLine) : Pe K n g (eval (.Subscript value (.Slice none (some upper) none p) pos) env) (.str (x.take i)) := fun A r g₁ l =>
 Z75 (T := "str") (id := "str.__getitem__") PySem.F.slot_str_getitem.lookup ((hv.le l).use r fun v g₂ l₂ hx => (Z121 Z37 (Z112 (h3.le (l.trans l₂))) Z37).use r fun sl g₃ l₃ hsl => by
  refine E1_1 (Z29 hx) ?_
  clear h3 hv; rintro t rfl
  refine ⟨fun s _ => typeIs_str _ _ _, fun s E ok => ?_⟩
  refine E4_5 hsl ?_
  clear hx hsl; rintro a vl vu vs rfl ea p1 p2 p3
  cases p1; cases p3
  cases p2 with
  | int i' u =>
   refine wpAny_getItem_str_slice (l := none) (u := some ((i : Int), u)) (st := none) ⟨_, ok.im _ _ ea, rfl, rfl⟩ (by rfl) ?_
   have e0 : slicePicked (S x) none (some ((i : Int), u)) none = (List.range i).map fun k => 0 + k := by
    delta slicePicked Builtin.Str.strSliceIndices
    have hl : (S x).length = x.length := S_len x
    simp only [Option.map_none, Option.map_some, Option.getD_some, Option.getD_none, hl]
    have h0 : ((1 : Int) > 0) := by decide
    simp only [h0, if_true]
    rw [if_neg (by lia), show Max.max (0 : Int) (Min.min (i : Int) x.length) = ((i : Nat) : Int) from by lia]
    exact Z93 0 i
   have e : ((slicePicked (S x) none (some ((i : Int), u)) none).filterMap ((S x).cps[·]?)).toArray = (x.take i).toArray := by
    rw [e0]
    have hc : (fun (i : Nat) => (S x).cps[i]?) = fun (i : Nat) => x[i]? := by funext i; simp [S]
    rw [hc]
    congr 1
    have := Z153 x 0 i
    rw [Z93] at this
    simpa using this
   delta sliceMade
   rw [e]
   have hl : (S x).length = x.length := S_len x
   have hlen : (slicePicked (S x) none (some ((i : Int), u)) none).length = i := by rw [e0]; simp
   rw [hlen, hl]
   by_cases hix : i = x.length
   ·rw [if_pos (by exact if_pos hix)]
    clear hlen hl e e0 ea; subst hix
    rw [List.take_length]
    exact ⟨g₃, ok, l₂.trans l₃, Z79⟩
   ·rw [if_neg (by simp [hix])]
    refine ⟨?_, ?_⟩
    ·show (x.take i).toArray.size ≤ sizeLine
     simp; exact Nat.le_trans (Nat.min_le_right _ _) hsz
    ·exact ⟨g₃, ok.tok _, l₂.trans l₃, Z79⟩)
end
end Mine
namespace Mine
section
open PySem PySem.Spec PySem.Calls PyProof.Rows PySem.W PySem.SeqAt
variable {K : Wd} {A : Around} {g : Gh} {n : Nat} {env : Env} {α : Type}
variable {b : Gh} {S' : List Addr} {fn : List Nat} {cs : List Addr} {nm : List (Str × NameKind)} {σ σ' : List (Option D)} {own : List (Addr × MO)}
theorem lk_nats {k : Nat} (l : List Nat) : Lk (k + 1) (natsD l) (natsD l) true := Z232 (Z181 fun _ => Z64)
theorem lk_nats2 {k : Nat} (l : List (List Nat)) : Lk (k + 2) (natsD2 l) (natsD2 l) true := Z232 (Z181 fun q => lk_nats q)
theorem law_13 (X : WX K) {f m l : Nat} {L : Addr} {cells : List (Str × Addr)} {Q : Flow → Gh → Prop} (hf : f < 5) (hm : m < 5) (hl1 : 1 ≤ l) (hl : l ≤ 4) (r : Room A (n + 300)) {σ₀ : List (Option D)}
  (p5 : (seenN f m l).map (fun p => p.take (hoursN f m l + 1)) = placesN f m l (hoursN f m l + 1))
  (h15 : σ₀[15]? = some (some (.int (hoursN f m l)))) (h17 : σ₀[17]? = some (some (natsD2 (placesN f m l (hoursN f m l + 1))))) (h22 : σ₀[22]? = some (some (natsD2 (seenN f m l))))
  (F : LF K b cs L cells σ₀ own g)
  (k : ∀ (g' : Gh), LF K b cs L cells σ₀ own g' → gwp K A (execs ((bodyOf st_law).drop 19) (lawEnv L cells)) Q g') :
  gwp K A (execs ((bodyOf st_law).drop 18) (lawEnv L cells)) Q g := by
 have hh := Z42 hf hm hl1 hl
 have hsl : ∀ p ∈ seenN f m l, p.length ≤ 1000 := fun p hp => by
  refine E1_2 (List.mem_map.mp hp) ?_
  rintro j hj rfl
  refine Nat.le_trans (List.length_filter_le _ _) ?_
  simp; lia
 have heq : D.lst ((((seenN f m l).map natsD).filter fun _ => true).map fun d => natsD ((natsOf d).take (hoursN f m l + 1))) = natsD2 (placesN f m l (hoursN f m l + 1)) := by
  rw [List.filter_eq_self.mpr (fun _ _ => rfl), ← p5, natsD2, List.map_map, List.map_map]
  congr 1
  refine List.map_congr_left fun p hp => ?_
  show natsD ((natsOf (natsD p)).take _) = _
  rw [Z36]; rfl
 refine gx_if (v := false) r (Z30 (v := false) (d₁ := natsD2 (placesN f m l (hoursN f m l + 1))) ((Z51 (p := fun _ => true) (f := fun d => natsD ((natsOf d).take (hoursN f m l + 1))) F (Z50 (ds := (seenN f m l).map natsD) (Z6 F (i := 22) rfl h22)).pit (by exact all0)
  (CompP.name (mkSrcs GT [.no, .no, .outer 15]) 1 (by decide +kernel) (Z3 X.gt (by decide +kernel)) (.inl (by decide +kernel)) rfl fun d hd b g' env' cs' lb lb' F1 _ _ henv => ?_) (by simp [seenN]; exact le_sl (by lia))).is heq) (Z6 F (i := 17) rfl h17) (Z272 (v := true) (lk_nats2 (k := 0) _) (by lia))) (fun z => by cases z) fun _ g₁ l₁ => Z57 (k g₁ (F.up l₁))
 refine E2_1 henv ?_
 rintro L'' cells'' rfl
 refine E1_2 (List.mem_map.mp hd) ?_
 rintro p hp rfl
 have e2 : ((srcSt σ₀ (mkSrcs GT [.no, .no, .outer 15])).set 1 (some (natsD p)))[2]? = some (some (.int (hoursN f m l))) := by show some ((σ₀[15]?).getD none) = _; rw [h15]; rfl
 rw [Z36]
 refine ⟨Z21, fun _ => (Z212 (l := p.map fun q : Nat => D.int q) (pn F1 1) Z37 (Z112 (Z8 (Z6 F1 (i := 2) (k := .cell) (by decide +kernel) e2) Z11 Z32)) Z37 (by decide) (by rw [List.length_map]; exact Nat.le_trans (hsl p hp) (by decide))).is ?_⟩
 rw [show ((hoursN f m l : Int) + 1) = ((hoursN f m l + 1 : Nat) : Int) from rfl, pick_to, natsD, List.map_take]
noncomputable def diaryK (f m l k : Nat) : List Nat := diaryF (stretchL f m l) (hoursN f m l) ((List.range (hoursN f m l + 1)).map fun h => placeN f m l k h)
theorem Z281 (f m l k : Nat) : (diaryK f m l k).length = hoursN f m l := by simp [diaryK, diaryF]
theorem diaryK_at {f m l k : Nat} (hk : k < f + m + l) : ((diariesN f m l).map D.str)[k]? = some (.str (diaryK f m l k)) := by
 simp [diariesN, placesN, hk, diaryK]
noncomputable def overN (f m l k h c : Nat) : Nat := ((diaryK f m l k).take h).count c
theorem overN_le (f m l k h c : Nat) : overN f m l k h c ≤ h := by
 refine Nat.le_trans List.count_le_length ?_
 simp; lia
noncomputable def ringOk (f m l k h : Nat) : Prop := ((placeN f m l k h : Int) - ((h : Int) + overN f m l k h 98) * (m + l : Nat)).fdiv (f + m + l + m : Nat) = -(overN f m l k h 98 : Int) - overN f m l k h 99 ∧ ((placeN f m l k h : Int) - ((h : Int) + overN f m l k h 98) * (m + l : Nat)).fmod (f + m + l + m : Nat) = k
theorem Frm.unset (F : Frm K b S' fn cs env nm σ' own g) (σ : List (Option D)) (is : List Nat) (h0 : ∀ i ∈ is, ∀ d, σ[i]? ≠ some (some d)) (h : ∀ i, i ∉ is → σ'[i]? = σ[i]?) : Frm K b S' fn cs env nm σ own g :=
 F.less fun i d e => by
  by_cases hi : i ∈ is
  ·exact (h0 i hi d e).elim
  ·rw [h i hi]; exact e
theorem law_14 (X : WX K) {d0 d1 d2 d3 : Int} {f m l : Nat} {L : Addr} {cells : List (Str × Addr)} {Q : Flow → Gh → Prop} (hf : f < 5) (hm : m < 5) (hl1 : 1 ≤ l) (hl : l ≤ 4) (r : Room A (n + 300)) {σ₀ : List (Option D)}
  (p6 : ∀ k, k < f + m + l → ∀ h, h ≤ hoursN f m l → ringOk f m l k h)
  (h1 : σ₀[1]? = some (some (.lst [.int d0, .int d1, .int d2, .int d3]))) (h3 : σ₀[3]? = some (some (.int m))) (h5 : σ₀[5]? = some (some (.int (f + m + l : Nat)))) (h6 : σ₀[6]? = some (some (.int (m + l : Nat)))) (h8 : σ₀[8]? = some none) (h15 : σ₀[15]? = some (some (.int (hoursN f m l)))) (h17 : σ₀[17]? = some (some (natsD2 (placesN f m l (hoursN f m l + 1))))) (h18 : σ₀[18]? = some (some (.lst ((diariesN f m l).map .str)))) (h19 : σ₀[19]? = some none) (h23 : σ₀[23]? = some none) (h24 : σ₀[24]? = some none) (h30 : σ₀[30]? = some (some (.raw (.type "range")))) (h35 : σ₀[35]? = some (some (.raw (.ref a_idm))))
  (F : LF K b cs L cells σ₀ own g)
  (k : ∀ (g' : Gh), LF K b cs L cells σ₀ own g' → gwp K A (execs ((bodyOf st_law).drop 20) (lawEnv L cells)) Q g') :
  gwp K A (execs ((bodyOf st_law).drop 19) (lawEnv L cells)) Q g := by
 have hh := Z42 hf hm hl1 hl
 have hN : f + m + l ≤ 12 := by lia
 have get : ∀ {i : Nat} {v : Option D} {a b c d : Option D}, i ≠ 8 → i ≠ 19 → i ≠ 23 → i ≠ 24 → σ₀[i]? = some v → ((((σ₀.set 8 a).set 19 b).set 24 c).set 23 d)[i]? = some v := fun i1 i2 i3 i4 e => by
  rw [List.getElem?_set_ne (Ne.symm i3), List.getElem?_set_ne (Ne.symm i4), List.getElem?_set_ne (Ne.symm i2), List.getElem?_set_ne (Ne.symm i1)]; exact e
 have get8 : ∀ {i : Nat} {v : Option D} {a : Option D}, i ≠ 8 → σ₀[i]? = some v → (σ₀.set 8 a)[i]? = some v := fun i1 e => by
  rw [List.getElem?_set_ne (Ne.symm i1)]; exact e
 have get19 : ∀ {i : Nat} {v : Option D} {a b : Option D}, i ≠ 8 → i ≠ 19 → σ₀[i]? = some v → ((σ₀.set 8 a).set 19 b)[i]? = some v := fun i1 i2 e => by
  rw [List.getElem?_set_ne (Ne.symm i2), List.getElem?_set_ne (Ne.symm i1)]; exact e
 have hlen : ∀ {i : Nat} {v : Option D}, σ₀[i]? = some v → i < σ₀.length := fun e => (List.getElem?_eq_some_iff.mp e).1
 refine Z143 (X := Unit) F (fun _ _ => σ₀) (fun _ _ => own) (fun rest _ => ∀ d ∈ rest, ∃ j : Nat, j < f + m + l ∧ d = .int j) (ds := rgD 0 (f + m + l)) () r (Z47 (k := (f + m + l : Nat)) (Z6 F (i := 30) rfl h30) (Z6 F (i := 5) rfl h5) (by lia) (by lia)) F (fun d hd => Z177 hd) ?_ (fun _ g' _ F' => k g' F')
 intro d rest _ ms g v hP F rv
 refine E1_2 (hP d (by exact .head _)) ?_
 rintro j hj rfl
 refine Z12 (F.storeLocal (i := 8) rfl rv fun g₆ l₆ F => ?_)
 have g8 : ∀ {a : Option D}, (σ₀.set 8 a)[8]? = some a := fun {a} => by rw [List.getElem?_set_self (hlen h8)]
 refine E1_2 (Z99 ((j : Int) + d3) (k := hoursN f m l + 1) (by exact Nat.le_add_left _ _)) fun hr hrlt ehr => ?_
 refine Z88 (i := 19) (d := .int hr) F r rfl ((Z8 (Z8 (Z6 F (i := 8) rfl g8) (Z63 (l := [.int d0, .int d1, .int d2, .int d3]) (i := 3) (d := .int d3) (Z6 F (i := 1) rfl (get8 (by decide) h1)) Z11 rfl) Z32) (Z8 (Z6 F (i := 15) rfl (get8 (by decide) h15)) Z11 Z32) (Z225 (by lia))).is (by rw [← ehr]; rfl)) fun g₇ l₇ F => ?_
 have g19a : ∀ {a b : Option D}, ((σ₀.set 8 a).set 19 b)[19]? = some b := fun {a b} => by rw [List.getElem?_set_self (by rw [List.length_set]; exact hlen h19)]
 have g19b : ∀ {a b : Option D}, ((σ₀.set 8 a).set 19 b)[8]? = some a := fun {a b} => (List.getElem?_set_ne (by decide)).trans (g8)
 have pd : ∀ {pos1 pos2 pos3 pos4 pos5 pos6 : Pos}, Pe K (n + 300) g₇ (eval (.Subscript (.Subscript (.Name "diaries" pos1) (.Name "k" pos2) pos3) (.Slice none (some (.Name "hour" pos4)) none pos5) pos6) (lawEnv L cells)) (.str ((diaryK f m l j).take hr)) := fun {_ _ _ _ _ _} =>
  pe_sliceToS (Z63 (l := (diariesN f m l).map D.str) (i := (j : Int)) (d := .str (diaryK f m l j)) (Z6 F (i := 18) rfl (get19 (by decide) (by decide) h18)) (Z6 F (i := 8) rfl g19b) (Z96 (diaryK_at hj)) (by simp [diariesN, placesN]; lia)) (Z6 F (i := 19) rfl g19a) (by rw [Z281]; lia) (by rw [Z281]; exact le_sl (by lia))
 refine gx_swap2 (i := 23) (j := 24) (d₁ := .int (overN f m l j hr 98)) (d₂ := .int (overN f m l j hr 99)) F r rfl rfl (Z38 (Z2 (Z71 (T := "str") (id := "str.count") PySem.F.plainAttrs_str PySem.F.slot_str_count PySem.F.type_str_count pd (Z2 (Z31 (l := [98]) rfl) Z5) cs_count) (Z2 (Z71 (T := "str") (id := "str.count") PySem.F.plainAttrs_str PySem.F.slot_str_count PySem.F.type_str_count pd (Z2 (Z31 (l := [99]) rfl) Z5) cs_count) Z5))) fun g₈ l₈ F => ?_
 refine E0_2 (p6 j hj hr (by lia)) fun q1 q2 => ?_
 have gg : ∀ {i : Nat} {v : Option D}, i ≠ 8 → i ≠ 19 → i ≠ 23 → i ≠ 24 → σ₀[i]? = some v → ((((σ₀.set 8 (some (.int (j : Int)))).set 19 (some (.int (hr : Int)))).set 24 (some (.int (overN f m l j hr 99)))).set 23 (some (.int (overN f m l j hr 98))))[i]? = some v := fun i1 i2 i3 i4 e => get i1 i2 i3 i4 e
 have e8 : ((((σ₀.set 8 (some (.int (j : Int)))).set 19 (some (.int (hr : Int)))).set 24 (some (.int (overN f m l j hr 99)))).set 23 (some (.int (overN f m l j hr 98))))[8]? = some (some (.int (j : Int))) := by
  rw [List.getElem?_set_ne (by decide), List.getElem?_set_ne (by decide)]; exact g19b
 have e19 : ((((σ₀.set 8 (some (.int (j : Int)))).set 19 (some (.int (hr : Int)))).set 24 (some (.int (overN f m l j hr 99)))).set 23 (some (.int (overN f m l j hr 98))))[19]? = some (some (.int (hr : Int))) := by
  rw [List.getElem?_set_ne (by decide), List.getElem?_set_ne (by decide)]; exact g19a
 have e23 : ((((σ₀.set 8 (some (.int (j : Int)))).set 19 (some (.int (hr : Int)))).set 24 (some (.int (overN f m l j hr 99)))).set 23 (some (.int (overN f m l j hr 98))))[23]? = some (some (.int (overN f m l j hr 98))) := by
  rw [List.getElem?_set_self (by simp only [List.length_set]; exact hlen h23)]
 have e24 : ((((σ₀.set 8 (some (.int (j : Int)))).set 19 (some (.int (hr : Int)))).set 24 (some (.int (overN f m l j hr 99)))).set 23 (some (.int (overN f m l j hr 98))))[24]? = some (some (.int (overN f m l j hr 99))) := by
  rw [List.getElem?_set_ne (by decide), List.getElem?_set_self (by simp only [List.length_set]; exact hlen h24)]
 have hpl : (placesN f m l (hoursN f m l + 1))[j]? = some ((List.range (hoursN f m l + 1)).map fun h => placeN f m l j h) := by simp [placesN, hj]
 have hpj := placeN_lt (h := hr) hj
 have hob := overN_le f m l j hr 98
 have hprod : (hr + overN f m l j hr 98) * (m + l) ≤ 312 * 8 := Nat.mul_le_mul (by lia) (by lia)
 have ediv := Z84 X (g := g₈) (n := n + 8) (a := (placeN f m l j hr : Int) - ((hr : Int) + overN f m l j hr 98) * (m + l : Nat)) (b := ((f + m + l + m : Nat) : Int)) (by
  have : ((hr : Int) + overN f m l j hr 98) * (m + l : Nat) = (((hr + overN f m l j hr 98) * (m + l) : Nat) : Int) := by exact rfl
  rw [this]; lia) (by lia) (by rw [Int.natAbs_natCast]; lia)
 rw [q1, q2] at ediv
 refine gx_if (v := false) r (Z30 (v := false) (Z45 (Z6 F (i := 35) rfl (gg (by decide) (by decide) (by decide) (by decide) h35)) X.f_idm (Z2 (Z8 (Z63 (l := ((List.range (hoursN f m l + 1)).map fun h => placeN f m l j h).map fun q : Nat => D.int q) (i := (hr : Int)) (d := .int (placeN f m l j hr)) (Z63 (l := (placesN f m l (hoursN f m l + 1)).map natsD) (i := (j : Int)) (d := natsD ((List.range (hoursN f m l + 1)).map fun h => placeN f m l j h)) (Z6 F (i := 17) rfl (gg (by decide) (by decide) (by decide) (by decide) h17)) (Z6 F (i := 8) rfl e8) (Z96 (by rw [List.getElem?_map, hpl]; rfl)) (by simp [placesN]; lia)) (Z6 F (i := 19) rfl e19) (Z96 (by simp [hrlt])) (by simp; lia)) (Z8 (Z8 (Z6 F (i := 19) rfl e19) (Z6 F (i := 23) rfl e23) Z32) (Z6 F (i := 6) rfl (gg (by decide) (by decide) (by decide) (by decide) h6)) (Z224 ?_)) Z155) (Z2 ((Z8 (Z6 F (i := 5) rfl (gg (by decide) (by decide) (by decide) (by decide) h5)) (Z6 F (i := 3) rfl (gg (by decide) (by decide) (by decide) (by decide) h3)) Z32).is (by rw [← Int.natCast_add])) Z5)) ediv) (Z38 (Z2 (Z8 (pe_un (Z6 F (i := 23) rfl e23) Z156) (Z6 F (i := 24) rfl e24) Z155) (Z2 (Z6 F (i := 8) rfl e8) Z5))) (Z272 (lk_tup (k := 0) (Z67 Z64 (Z67 Z64 Z180))) (by lia))) (fun z => by cases z) fun _ g₉ l₉ => Z57 (Z43 ⟨(), fun d hd => hP d (List.mem_cons_of_mem _ hd), ?_⟩)
 ·refine IntMulOk.of_right (Nat.le_trans (Z118 (k := 8) (by lia)) (by exact Nat.le_add_left _ _))
 ·refine (F.up l₉).unset σ₀ [8, 19, 23, 24] (fun i hi d e => ?_) fun i hi => ?_
  ·simp only [List.mem_cons, List.not_mem_nil, or_false] at hi
   rcases hi with rfl | rfl | rfl | rfl
   ·cases ((h8).symm.trans e)
   ·cases ((h19).symm.trans e)
   ·cases ((h23).symm.trans e)
   ·cases ((h24).symm.trans e)
  ·simp only [List.mem_cons, List.not_mem_nil, or_false, not_or] at hi
   refine E0_4 hi fun i1 i2 i3 i4 => ?_
   rw [List.getElem?_set_ne (Ne.symm i3), List.getElem?_set_ne (Ne.symm i4), List.getElem?_set_ne (Ne.symm i2), List.getElem?_set_ne (Ne.symm i1)]
noncomputable def ringF (N : Nat) (p : List Nat) : List Nat := (List.range N).filter fun q => decide (q ∈ p)
noncomputable def ringsN (f m l : Nat) : List (List Nat) := (placesN f m l (hoursN f m l + 1)).map (ringF (f + m + l))
theorem ringF_len (N : Nat) (p : List Nat) : (ringF N p).length ≤ N := by
 refine Nat.le_trans (List.length_filter_le _ _) ?_
 simp
noncomputable def restQ (f m l k : Nat) : Int := (((f + m + l : Nat) : Int) - k).fdiv (-(measN f m l : Int))
noncomputable def restR (f m l k : Nat) : Int := (((f + m + l : Nat) : Int) - k).fmod (-(measN f m l : Int))
noncomputable def restD (f m l k : Nat) : D := .tup [.int (restQ f m l k), .int (restR f m l k)]
noncomputable def restsD (f m l : Nat) : List D := (List.range (f + m + l)).map (restD f m l)
theorem law_15 (X : WX K) {f m l : Nat} {L : Addr} {cells : List (Str × Addr)} {Q : Flow → Gh → Prop} (hf : f < 5) (hm : m < 5) (hl1 : 1 ≤ l) (hl : l ≤ 4) (r : Room A (n + 300)) {σ₀ : List (Option D)}
  (h17 : σ₀[17]? = some (some (natsD2 (placesN f m l (hoursN f m l + 1)))))
  (F : LF K b cs L cells σ₀ own g)
  (k : ∀ (g' : Gh), LF K b cs L cells (σ₀.set 25 (some (natsD2 (ringsN f m l)))) own g' → gwp K A (execs ((bodyOf st_law).drop 21) (lawEnv L cells)) Q g') :
  gwp K A (execs ((bodyOf st_law).drop 20) (lawEnv L cells)) Q g := by
 have hh := Z42 hf hm hl1 hl
 have hN : f + m + l ≤ 12 := by lia
 have heq : D.lst ((((placesN f m l (hoursN f m l + 1)).map natsD).filter fun _ => true).map fun d => natsD (ringF (f + m + l) (natsOf d))) = natsD2 (ringsN f m l) := by
  rw [List.filter_eq_self.mpr (fun _ _ => rfl), natsD2, ringsN, List.map_map, List.map_map]
  congr 1
  refine List.map_congr_left fun p hp => ?_
  show natsD (ringF _ (natsOf (natsD p))) = _
  rw [Z36]; rfl
 refine Z65 (i := 25) (p := fun _ => true) (f := fun d => natsD (ringF (f + m + l) (natsOf d))) F r rfl (Z50 (ds := (placesN f m l (hoursN f m l + 1)).map natsD) (Z6 F (i := 17) rfl h17)).pit (by exact all0)
  (CompP.name (mkSrcs GT [.no, .no, .glob 26, .glob 29]) 1 (by decide +kernel) (Z3 X.gt (by decide +kernel)) (.inl (by decide +kernel)) rfl fun d hd b g' env' cs' lb lb' F1 _ _ henv => ?_) (by simp [placesN]; exact le_sl (by lia)) (fun g₁ l₁ F => ?_) rfl (by decide +kernel)
 ·obtain ⟨L', cells', rfl⟩ := henv
  obtain ⟨p, hp, rfl⟩ := List.mem_map.mp hd
  obtain ⟨hpl, hpq⟩ := Z138 hp
  rw [Z36]
  refine ⟨Z21, fun _ => (pe_sortedSet (ns := p.map fun q : Nat => (q : Int)) (rs := (ringF (f + m + l) p).map fun q : Nat => (q : Int)) (pn F1 2) (pn F1 3) ((pn F1 1).is (by rw [natsD, List.map_map]; rfl)) (by rw [List.length_map, hpl]; lia) (by rw [List.length_map]; have := ringF_len (f + m + l) p; lia) ?_ fun k => ?_).is (by rw [natsD, List.map_map]; rfl)⟩
  ·rw [List.pairwise_map]
   exact (List.pairwise_lt_range.sublist List.filter_sublist).imp fun {a b} h => Int.ofNat_lt.mpr h
  ·simp only [List.mem_map, ringF, List.mem_filter, List.mem_range, decide_eq_true_eq]
   exact ⟨fun z₀ => E1_2 z₀ fun q w01 e => E0_2 w01 fun _ h2 => ⟨q, h2, e⟩, fun z₀ => E1_2 z₀ fun q h2 e => ⟨q, ⟨hpq q h2, h2⟩, e⟩⟩
 ·rw [heq] at F
  exact k g₁ F
theorem law_16 (X : WX K) {f m l : Nat} {L : Addr} {cells : List (Str × Addr)} {Q : Flow → Gh → Prop} (hf : f < 5) (hm : m < 5) (hl1 : 1 ≤ l) (hl : l ≤ 4) (r : Room A (n + 300)) {σ₀ : List (Option D)}
  (h5 : σ₀[5]? = some (some (.int (f + m + l : Nat)))) (h12 : σ₀[12]? = some (some (.int (measN f m l)))) (h30 : σ₀[30]? = some (some (.raw (.type "range"))))
  (F : LF K b cs L cells σ₀ own g)
  (k : ∀ (g' : Gh), LF K b cs L cells (σ₀.set 26 (some (.lst (restsD f m l)))) own g' → gwp K A (execs ((bodyOf st_law).drop 22) (lawEnv L cells)) Q g') :
  gwp K A (execs ((bodyOf st_law).drop 21) (lawEnv L cells)) Q g := by
 have hN : f + m + l ≤ 12 := by lia
 have hg1 := measN_pos (f := f) (m := m) hl1
 have hg8 := measN_le (f := f) hm hl1 hl
 refine Z182 (i := 26) (d := .lst (restsD f m l)) F r rfl (by decide) ((Z51 (p := fun _ => true) (f := fun d => restD f m l (natOf d)) F (Z47 (k := (f + m + l : Nat)) (Z6 F (i := 30) rfl h30) (Z6 F (i := 5) rfl h5) (by lia) (by lia)).pit (by exact all0)
  (CompP.name (mkSrcs GT [.no, .no, .glob 9, .outer 12, .outer 5]) 1 (by decide +kernel) (Z3 X.gt (by decide +kernel)) (.inl (by decide +kernel)) rfl fun d hd b g' env' cs' lb lb' F1 _ _ henv => ?_) (by rw [Z80]; exact le_sl (by lia))).is ?_) fun g₁ l₁ F => k g₁ F
 ·obtain ⟨L', cells', rfl⟩ := henv
  obtain ⟨j, hj, rfl⟩ := Z177 hd
  have e1 : ((srcSt σ₀ (mkSrcs GT [.no, .no, .glob 9, .outer 12, .outer 5])).set 1 (some (.int (j : Int))))[3]? = some (some (.int (measN f m l))) := by show some ((σ₀[12]?).getD none) = _; rw [h12]; rfl
  have e2 : ((srcSt σ₀ (mkSrcs GT [.no, .no, .glob 9, .outer 12, .outer 5])).set 1 (some (.int (j : Int))))[4]? = some (some (.int (f + m + l : Nat))) := by show some ((σ₀[5]?).getD none) = _; rw [h5]; rfl
  have hj' : j < f + m + l := by rw [Int.toNat_natCast] at hj; exact hj
  have hn : natOf (D.int (j : Int)) = j := rfl
  rw [hn]
  refine ⟨Z21, fun _ => Z45 (pn F1 2) X.f_idm (Z2 (Z8 (Z6 F1 (i := 4) (k := .cell) (by decide +kernel) e2) (pn F1 1) Z155) (Z2 (pe_un (Z6 F1 (i := 3) (k := .cell) (by decide +kernel) e1) Z156) Z5)) (Z84 X (n := n + 8) (by lia) (by lia) (by lia))⟩
 ·rw [List.filter_eq_self.mpr (fun _ _ => rfl), rgD_map]
  rfl
noncomputable def toldK (f m l : Nat) (r : Int) : List Nat := (List.range (f + m + l)).filter fun q => restR f m l q == r
noncomputable def toldD (f m l k : Nat) : D := .tup [restD f m l k, natsD (toldK f m l (restR f m l k))]
noncomputable def toldsD (f m l : Nat) : List D := (List.range (f + m + l)).map (toldD f m l)
noncomputable def toldOf (f m l : Nat) (d : D) : D := match d with | .tup [a, .int r] => .tup [d, natsD (toldK f m l r)] | d => d
theorem law_17 (X : WX K) {f m l : Nat} {L : Addr} {cells : List (Str × Addr)} {Q : Flow → Gh → Prop} (hf : f < 5) (hm : m < 5) (hl1 : 1 ≤ l) (hl : l ≤ 4) (r : Room A (n + 300)) {σ₀ : List (Option D)}
  (h5 : σ₀[5]? = some (some (.int (f + m + l : Nat)))) (h26 : σ₀[26]? = some (some (.lst (restsD f m l))))
  (F : LF K b cs L cells σ₀ own g)
  (k : ∀ (g' : Gh), LF K b cs L cells (σ₀.set 27 (some (.lst (toldsD f m l)))) own g' → gwp K A (execs ((bodyOf st_law).drop 23) (lawEnv L cells)) Q g') :
  gwp K A (execs ((bodyOf st_law).drop 22) (lawEnv L cells)) Q g := by
 have hN : f + m + l ≤ 12 := by lia
 have heq : D.lst (((restsD f m l).filter fun _ => true).map (toldOf f m l)) = .lst (toldsD f m l) := by
  rw [List.filter_eq_self.mpr (fun _ _ => rfl), restsD, List.map_map]
  rfl
 have hrl : (restsD f m l).length = f + m + l := by simp [restsD]
 refine Z65 (i := 27) (p := fun _ => true) (f := toldOf f m l) F r rfl (Z50 (Z6 F (i := 26) rfl h26)).pit (by exact all0)
  (CompP.name (mkSrcs GT [.no, .no, .glob 24, .outer 26, .outer 5]) 1 (by decide +kernel) (Z3 X.gt (by decide +kernel)) (.inr ⟨by decide +kernel, by decide +kernel⟩) rfl fun d hd b g' env' cs' lb lb' F1 _ _ henv => ?_) (by rw [hrl]; exact le_sl (by lia)) (fun g₁ l₁ F => ?_) rfl (by decide +kernel)
 ·refine E2_1 henv ?_
  rintro L' cells' rfl
  refine E1_2 (List.mem_map.mp hd) ?_
  rintro j hj rfl
  have e1 : ((srcSt σ₀ (mkSrcs GT [.no, .no, .glob 24, .outer 26, .outer 5])).set 1 (some (restD f m l j)))[3]? = some (some (.lst (restsD f m l))) := by show some ((σ₀[26]?).getD none) = _; rw [h26]; rfl
  have e2 : ((srcSt σ₀ (mkSrcs GT [.no, .no, .glob 24, .outer 26, .outer 5])).set 1 (some (restD f m l j)))[4]? = some (some (.int (f + m + l : Nat))) := by show some ((σ₀[5]?).getD none) = _; rw [h5]; rfl
  refine ⟨Z21, fun _ => Z38 (Z2 (pn F1 1) (Z2 (d := natsD (toldK f m l (restR f m l j))) ?_ Z5))⟩
  refine (Z51 (p := fun d => restR f m l (natOf d) == restR f m l j) (f := id) F1 (Z47 (k := (f + m + l : Nat)) (pn F1 2) (Z6 F1 (i := 4) (k := .cell) (by decide +kernel) e2) (by lia) (by lia)).pit (by exact all0)
   (CompP.name (mkSrcs GT [.no, .no, .outer 1, .outer 3]) 1 (by decide +kernel) (Z3 X.gt (by decide +kernel)) (.inl (by decide +kernel)) rfl fun d hd b g' env' cs' lb lb' F2 _ _ henv => ?_) (by rw [Z80, Int.toNat_natCast]; exact le_sl (by lia))).is ?_
  ·refine E2_1 henv ?_
   rintro L'' cells'' rfl
   refine E1_2 (Z177 hd) ?_
   rintro q hq rfl
   rw [Int.toNat_natCast] at hq
   have e3 : ((srcSt ((srcSt σ₀ (mkSrcs GT [.no, .no, .glob 24, .outer 26, .outer 5])).set 1 (some (restD f m l j))) (mkSrcs GT [.no, .no, .outer 1, .outer 3])).set 1 (some (.int (q : Int))))[3]? = some (some (.lst (restsD f m l))) := by show some ((((srcSt σ₀ (mkSrcs GT [.no, .no, .glob 24, .outer 26, .outer 5])).set 1 (some (restD f m l j)))[3]?).getD none) = _; rw [e1]; rfl
   have hn : natOf (D.int (q : Int)) = q := rfl
   rw [hn]
   refine ⟨Z178 (Z30 (pe_itemT (l := [.int (restQ f m l q), .int (restR f m l q)]) (i := 1) (d := .int (restR f m l q)) (Z63 (l := restsD f m l) (i := (q : Int)) (d := restD f m l q) (Z6 F2 (i := 3) (k := .cell) (by decide +kernel) e3) (pn F2 1) (Z96 (by simp [restsD, hq])) (by rw [hrl]; lia)) Z11 rfl) (pe_itemT (l := [.int (restQ f m l j), .int (restR f m l j)]) (i := 1) (d := .int (restR f m l j)) (pn F2 2) Z11 rfl) op_eq), fun _ => pn F2 1⟩
  ·rw [List.map_id, Int.toNat_natCast, natsD, toldK]
   show D.lst ((rgD 0 (f + m + l)).filter _) = _
   rw [rgD, ← List.range_eq_range', List.filter_map]
   rfl
 ·rw [heq] at F
  exact k g₁ F
theorem pit_enum {func e : Expr} {pos : Pos} {ds : List D} (hf : Pe K n g (eval func env) (.raw (.type "enumerate"))) (he : Pe K n g (eval e env) (.lst ds))
  (hst : starEach [e] env = (false, eval e env) :: starEach [] env := by rfl) (hp : (backTo pos (starEach [e] env)).any (·.1) = false := by rfl)
  (hc : eval (.Call func [e] [] pos) env = (do callWith pos (← eval func env) [] (backTo pos (starEach [e] env)) (backToKw pos (keywordEach [] env))) := by rfl) : PIt K n g (.Call func [e] [] pos) env [] (enumD 0 ds) := fun A r g₁ l => by
 refine Z33 ((hf.le l).useR r fun g₂ l₂ => ?_) hc
 refine Z19 (fun a z => by cases z) hp (Z7 hp (Z13 (((he.le l).le l₂).use r fun v g₃ l₃ hv => Z17 ?_) hst))
 refine Z9 (gwp_enumerate hv) fun it g₄ hi => ?_
 obtain ⟨l₄, T, St, I, st, hT⟩ := hi
 have l23 : Le g₁ g₃ := l₂.trans l₃
 have l' : Le g₁ g₄ := l23.trans l₄
 exact I.self st ⟨l', T, St, I, st, fun a ha => ⟨l23.nomu (hT a ha).1, (hT a ha).2⟩⟩
theorem Z249 {d : D} : ∀ {ds : List D} {i : Nat}, d ∈ enumD i ds → ∃ (j : Nat) (e : D), e ∈ ds ∧ d = .tup [.int j, e]
 | [], _, h => by cases h
 | x :: ds, i, h => by
  rcases List.mem_cons.mp h with rfl | h
  ·exact ⟨i, x, by exact .head _, rfl⟩
  ·refine E2_2 (Z249 h) fun j e h1 h2 => ?_
   exact ⟨j, e, List.mem_cons_of_mem _ h1, h2⟩
theorem enumD_map (F : D → D) : ∀ (ds : List D) (i : Nat), (enumD i ds).map F = (List.range ds.length).map fun j : Nat => F (.tup [.int ((i + j : Nat) : Int), ds.getD j .none])
 | [], _ => rfl
 | x :: ds, i => by
  rw [enumD, List.map_cons, enumD_map F ds (i + 1), List.length_cons, List.range_succ_eq_map, List.map_cons, List.map_map]
  congr 1
  refine List.map_congr_left fun j hj => ?_
  show F _ = F _
  congr 4
  rw [show i + 1 + j = i + (j + 1) by lia]
theorem enumD_len : ∀ (ds : List D) (i : Nat), (enumD i ds).length = ds.length
 | [], _ => rfl
 | x :: ds, i => by rw [enumD, List.length_cons, enumD_len ds, List.length_cons]
noncomputable def ringK (f m l k : Nat) : List Nat := ringF (f + m + l) ((List.range (hoursN f m l + 1)).map fun h => placeN f m l k h)
noncomputable def dueF (f m l : Nat) (i : Int) (p : List Nat) : D := .tup [.int (-(((p.filter fun q : Nat => decide ((q : Int) ≥ i)).length : Nat) : Int)), .int (((f + m + l : Nat) : Int) - measN f m l - (p.getLastD 0 : Nat))]
noncomputable def dueOf (f m l : Nat) (d : D) : D := match d with | .tup [.int i, r] => dueF f m l i (natsOf r) | d => d
noncomputable def duesD (f m l : Nat) : List D := (List.range (f + m + l)).map fun k : Nat => dueF f m l k (ringK f m l k)
theorem atInt_lastD {q : List Nat} (h : 1 ≤ q.length) : atInt (q.map fun k : Nat => D.int k) (-1) = some (.int (q.getLastD 0 : Nat)) := by
 have := Z284 h
 unfold atInt at this ⊢
 rw [if_neg (by decide), if_pos (by lia)] at this
 rw [if_neg (by decide), if_pos (by rw [List.length_map]; lia), List.length_map, List.getElem?_map, this]
 rfl
theorem law_18 (X : WX K) {f m l : Nat} {L : Addr} {cells : List (Str × Addr)} {Q : Flow → Gh → Prop} (hf : f < 5) (hm : m < 5) (hl1 : 1 ≤ l) (hl : l ≤ 4) (r : Room A (n + 300)) {σ₀ : List (Option D)}
  (p7 : ∀ p ∈ ringsN f m l, 1 ≤ p.length)
  (h5 : σ₀[5]? = some (some (.int (f + m + l : Nat)))) (h12 : σ₀[12]? = some (some (.int (measN f m l)))) (h25 : σ₀[25]? = some (some (natsD2 (ringsN f m l)))) (h39 : σ₀[39]? = some (some (.raw (.type "enumerate"))))
  (F : LF K b cs L cells σ₀ own g)
  (k : ∀ (g' : Gh), LF K b cs L cells (σ₀.set 28 (some (.lst (duesD f m l)))) own g' → gwp K A (execs ((bodyOf st_law).drop 24) (lawEnv L cells)) Q g') :
  gwp K A (execs ((bodyOf st_law).drop 23) (lawEnv L cells)) Q g := by
 have hN : f + m + l ≤ 12 := by lia
 have hrl : (ringsN f m l).length = f + m + l := by simp [ringsN, placesN]
 have heq : D.lst (((enumD 0 ((ringsN f m l).map natsD)).filter fun _ => true).map (dueOf f m l)) = .lst (duesD f m l) := by
  rw [List.filter_eq_self.mpr (fun _ _ => rfl), enumD_map, List.length_map, hrl, duesD]
  congr 1
  refine List.map_congr_left fun j hj => ?_
  have hj' : j < f + m + l := by exact List.mem_range.mp hj
  have e : ((ringsN f m l).map natsD).getD j .none = natsD (ringK f m l j) := by
   rw [List.getD_eq_getElem?_getD, List.getElem?_map]
   simp [ringsN, placesN, hj', ringK]
  rw [e, Nat.zero_add]
  show dueF f m l j (natsOf (natsD _)) = _
  rw [Z36]
 refine Z65 (i := 28) (p := fun _ => true) (f := dueOf f m l) F r rfl (pit_enum (ds := (ringsN f m l).map natsD) (Z6 F (i := 39) rfl h39) (Z6 F (i := 25) rfl h25)) (by exact all0)
  (CompP.pair (mkSrcs GT [.no, .no, .no, .glob 19, .outer 12, .outer 5]) 1 2 (by decide) (by decide +kernel) (Z3 X.gt (by decide +kernel)) (.inr ⟨by decide +kernel, by decide +kernel⟩) rfl (.inl (by decide +kernel)) rfl (fun d hd => ?_) fun e1 e2 hd b g' env' cs' lb lb' F1 henv => ?_) (by rw [enumD_len, List.length_map, hrl]; exact le_sl (by lia)) (fun g₁ l₁ F => ?_) rfl (by decide +kernel)
 ·refine E2_2 (Z249 hd) ?_
  rintro j e h1 rfl
  exact ⟨_, _, rfl⟩
 ·refine E2_1 henv ?_
  rintro L' cells' rfl
  refine E2_2 (Z249 hd) fun j e h1 h2 => ?_
  cases h2
  refine E1_2 (List.mem_map.mp h1) ?_
  rintro p hp rfl
  have hpl := p7 p hp
  have hpN : p.length ≤ 12 := by
   refine E1_2 (List.mem_map.mp hp) ?_
   rintro q hq rfl
   have := ringF_len (f + m + l) q; lia
  have e1 : (((srcSt σ₀ (mkSrcs GT [.no, .no, .no, .glob 19, .outer 12, .outer 5])).set 1 (some (.int (j : Int)))).set 2 (some (natsD p)))[4]? = some (some (.int (measN f m l))) := by show some ((σ₀[12]?).getD none) = _; rw [h12]; rfl
  have e2 : (((srcSt σ₀ (mkSrcs GT [.no, .no, .no, .glob 19, .outer 12, .outer 5])).set 1 (some (.int (j : Int)))).set 2 (some (natsD p)))[5]? = some (some (.int (f + m + l : Nat))) := by show some ((σ₀[5]?).getD none) = _; rw [h5]; rfl
  have hd' : dueOf f m l (.tup [.int (j : Int), natsD p]) = dueF f m l j p := by
   show dueF f m l j (natsOf (natsD p)) = _
   rw [Z36]
  rw [hd']
  refine ⟨Z21, fun _ => Z38 (Z2 (pe_un ((Z73 (pn F1 3) (fun a z => by cases z) (Z2 (d := natsD (p.filter fun q : Nat => decide ((q : Int) ≥ j))) ?_ Z5) (Z127 (by rw [List.length_map]; have := List.length_filter_le (fun q : Nat => decide ((q : Int) ≥ j)) p; lia))).is (by rw [List.length_map])) Z156) (Z2 (Z8 (Z8 (Z6 F1 (i := 5) (k := .cell) (by decide +kernel) e2) (Z6 F1 (i := 4) (k := .cell) (by decide +kernel) e1) Z155) (Z63 (l := p.map fun q : Nat => D.int q) (i := -1) (d := .int (p.getLastD 0 : Nat)) (pn F1 2) (pe_un Z11 Z156) (atInt_lastD hpl) (by rw [List.length_map]; lia)) Z155) Z5))⟩
  refine (Z51 (p := fun d => decide ((natOf d : Int) ≥ j)) (f := id) F1 (Z50 (ds := p.map fun q : Nat => D.int q) (pn F1 2)).pit (by exact all0)
   (CompP.name (mkSrcs GT [.no, .no, .outer 1]) 1 (by decide +kernel) (Z3 X.gt (by decide +kernel)) (.inl (by decide +kernel)) rfl fun d hd b g' env' cs' lb lb' F2 _ _ henv => ?_) (by rw [List.length_map]; exact le_sl (by lia))).is ?_
  ·refine E2_1 henv ?_
   rintro L'' cells'' rfl
   refine E1_2 (List.mem_map.mp hd) ?_
   rintro q hq rfl
   have hn : natOf (D.int (q : Int)) = q := rfl
   rw [hn]
   exact ⟨Z178 (Z30 (pn F2 1) (pn F2 2) op_ge), fun _ => pn F2 1⟩
  ·rw [List.map_id, natsD, List.filter_map]
   rfl
 ·rw [heq] at F
  exact k g₁ F
theorem zipD_len : ∀ (a b : List D), (zipD a b).length = min a.length b.length := fun a b => by simp [zipD]
theorem pe_listZip {f1 f2 e1 e2 : Expr} {p1 p2 : Pos} {ds1 ds2 : List D} (h1 : Pe K n g (eval f1 env) (.raw (.type "list"))) (h2 : Pe K n g (eval f2 env) (.raw (.type "zip"))) (ha : Pe K n g (eval e1 env) (.lst ds1)) (hb : Pe K n g (eval e2 env) (.lst ds2)) (hlen : ds1.length = ds2.length) (hsz : ds1.length ≤ 10000)
  (ht1 : starEach [.Call f2 [e1, e2] [] p2] env = (false, eval (.Call f2 [e1, e2] [] p2) env) :: starEach [] env := by rfl)
  (hp1 : (backTo p1 (starEach [.Call f2 [e1, e2] [] p2] env)).any (·.1) = false := by rfl) (hp2 : (backTo p2 (starEach [e1, e2] env)).any (·.1) = false := by rfl)
  (hst : starEach [e1, e2] env = (false, eval e1 env) :: starEach [e2] env := by rfl) (hst2 : starEach [e2] env = (false, eval e2 env) :: starEach [] env := by rfl)
  (hc1 : eval (.Call f1 [.Call f2 [e1, e2] [] p2] [] p1) env = (do callWith p1 (← eval f1 env) [] (backTo p1 (starEach [.Call f2 [e1, e2] [] p2] env)) (backToKw p1 (keywordEach [] env))) := by rfl)
  (hc2 : eval (.Call f2 [e1, e2] [] p2) env = (do callWith p2 (← eval f2 env) [] (backTo p2 (starEach [e1, e2] env)) (backToKw p2 (keywordEach [] env))) := by rfl) :
  Pe K n g (eval (.Call f1 [.Call f2 [e1, e2] [] p2] [] p1) env) (.lst (zipD ds1 ds2)) := fun A r g₁ l₁ => by
 refine Z33 ((h1.le l₁).useR r fun g₂ l₂ => ?_) hc1
 refine Z19 (fun a z => by cases z) hp1 (Z7 hp1 (Z13 ?_ ht1))
 have l12 := l₁.trans l₂
 refine Z33 ((h2.le l12).useR r fun g₃ l₃ => ?_) hc2
 have l13 := l12.trans l₃
 refine Z19 (fun a z => by cases z) hp2 (Z7 hp2 (Z13 ((ha.le l13).use r fun v g₄ l₄ hv => Z13 ((hb.le (l13.trans l₄)).use r fun w g₅ l₅ hw => Z17 ?_) hst2) hst))
 refine gM0_2 (gwp_zip2 (hv.le l₅) hw hlen) fun it g₆ w00 v00 => E2_3 v00 fun z o e1 hz ho => E0_2 w00 fun l₆ v10 => E2_3 v10 fun T St I st hT => Z17 ?_
 subst e1
 have l26 : Le g₁ g₅ := l₂.trans (l₃.trans (l₄.trans l₅))
 have l16 : Le g₁ g₆ := l26.trans l₆
 refine gwp_post (gwp_listZip I st hz ho r.1 (by rw [zipD_len]; lia) (by exact all0) fun S its m g₇ l₇ i1 i2 hS hr z₀ => E1_1 z₀ fun s ok => ?_)
 have hi : g₇.im S = none := by
  cases e : g₇.im S with
  | none => rfl
  | some o => exact (ok.dis _ _ _ e hS).elim
 refine ⟨g₇.fix S (sq "list" its m), fun s ok => ok.fix hS, ?_, Z16.mpr ⟨S, its, m, rfl, Gh.fix_self, hr.mono (LeX.fix hi).im⟩⟩
 refine LeX.forget (T := S :: T) ((LeX.of l16).trans (l₇.trans ((LeX.fix hi).sub (by exact all1 (.head _))))) fun a ha => .inr ?_
 rcases List.mem_cons.mp ha with rfl | ha
 ·exact l16.nomu i2
 ·exact l26.nomu (hT a ha).1
structure TellOk (f m l k : Nat) : Prop where
 q : restQ f m l k = -((((ringK f m l k).filter fun q : Nat => decide ((q : Int) ≥ k)).length : Nat) : Int)
 r : restR f m l k = ((f + m + l : Nat) : Int) - measN f m l - ((ringK f m l k).getLastD 0 : Nat)
 t : toldK f m l (restR f m l k) = ringK f m l k
theorem told_zip {f m l : Nat} (p8 : ∀ k, k < f + m + l → TellOk f m l k) : toldsD f m l = zipD (duesD f m l) ((ringsN f m l).map natsD) := by
 have e : (ringsN f m l).map natsD = (List.range (f + m + l)).map fun k => natsD (ringK f m l k) := by
  rw [ringsN, placesN, List.map_map, List.map_map]
  rfl
 rw [e, duesD, zipD, List.zipWith_map, toldsD]
 have : ∀ L : List Nat, (∀ k ∈ L, k < f + m + l) → L.map (toldD f m l) = List.zipWith (fun (a : Nat) (b : Nat) => D.tup [dueF f m l a (ringK f m l a), natsD (ringK f m l b)]) L L := by
  intro L
  induction L with
  | nil => intro _; rfl
  | cons a L ih =>
   intro h
   rw [List.map_cons, List.zipWith_cons_cons, ih fun k hk => h k (List.mem_cons_of_mem _ hk)]
   congr 1
   have p := p8 a (h a (by exact .head _))
   rw [toldD, p.t, restD, p.q, p.r]
   rfl
 exact this _ fun k hk => by exact List.mem_range.mp hk
theorem law_19 (X : WX K) {f m l : Nat} {L : Addr} {cells : List (Str × Addr)} {Q : Flow → Gh → Prop} (hf : f < 5) (hm : m < 5) (hl1 : 1 ≤ l) (hl : l ≤ 4) (r : Room A (n + 300)) {σ₀ : List (Option D)}
  (p8 : ∀ k, k < f + m + l → TellOk f m l k)
  (h25 : σ₀[25]? = some (some (natsD2 (ringsN f m l)))) (h27 : σ₀[27]? = some (some (.lst (toldsD f m l)))) (h28 : σ₀[28]? = some (some (.lst (duesD f m l)))) (h33 : σ₀[33]? = some (some (.raw (.type "list")))) (h40 : σ₀[40]? = some (some (.raw (.type "zip"))))
  (F : LF K b cs L cells σ₀ own g)
  (k : ∀ v g', g'.gs = b.gs → Rep g'.im (.bool true) v → Q (.ret v) g') :
  gwp K A (execs ((bodyOf st_law).drop 24) (lawEnv L cells)) Q g := by
 have hdl : (duesD f m l).length = f + m + l := by simp [duesD]
 have hrl : ((ringsN f m l).map natsD).length = f + m + l := by simp [ringsN, placesN]
 have hz := told_zip p8
 refine Z46 r (pe_cmp (d := .bool true) (Z6 F (i := 27) rfl h27) (pe_listZip (ds1 := duesD f m l) (ds2 := (ringsN f m l).map natsD) (Z6 F (i := 33) rfl h33) (Z6 F (i := 40) rfl h40) (Z6 F (i := 28) rfl h28) (Z6 F (i := 25) rfl h25) (by rw [hdl, hrl]) (by lia)) (hz ▸ op_eqD (Z232 (k := 2) (Z181 fun _ => lk_tup (Z67 (lk_tup (Z67 Z64 (Z67 Z64 Z180))) (Z67 (lk_nats _) Z180)))) (by lia))) fun v g' l p => k v g' (l.gs.trans F.le.gs) p
end
end Mine
namespace Mine
section
noncomputable abbrev PlainOk (f m l : Nat) : Prop :=
 (diariesN f m l).Pairwise (· ≤ ·) ∧ (diariesN f m l).map (fun d => d.getLastD 0) = (stretchL f m l).reverse ∧ 1 ≤ hoursN f m l ∧
 (∀ h, h < hoursN f m l + 1 → (rowAt f m (List.range (f + m + l)) h = List.range (f + m + l) ↔ (h = 0 ∨ h = hoursN f m l))) ∧
 (seenN f m l).map (fun p => p.take (hoursN f m l + 1)) = placesN f m l (hoursN f m l + 1) ∧
 (∀ k, k < f + m + l → ∀ h, h < hoursN f m l + 1 → ((placeN f m l k h : Int) - ((h : Int) + overN f m l k h 98) * (m + l : Nat)).fdiv (f + m + l + m : Nat) = -(overN f m l k h 98 : Int) - overN f m l k h 99 ∧ ((placeN f m l k h : Int) - ((h : Int) + overN f m l k h 98) * (m + l : Nat)).fmod (f + m + l + m : Nat) = k) ∧
 (∀ p ∈ ringsN f m l, 1 ≤ p.length) ∧
 (∀ k, k < f + m + l → restQ f m l k = -((((ringK f m l k).filter fun q : Nat => decide ((q : Int) ≥ k)).length : Nat) : Int) ∧ restR f m l k = ((f + m + l : Nat) : Int) - measN f m l - ((ringK f m l k).getLastD 0 : Nat) ∧ toldK f m l (restR f m l k) = ringK f m l k)
set_option synthInstance.maxSize 100000 in
set_option synthInstance.maxHeartbeats 4000000 in
theorem plain_0 : ∀ m, m < 5 → ∀ l, l < 4 → PlainOk 0 m (l + 1) := by decide +kernel
set_option synthInstance.maxSize 100000 in
set_option synthInstance.maxHeartbeats 4000000 in
theorem plain_1 : ∀ m, m < 5 → ∀ l, l < 4 → PlainOk 1 m (l + 1) := by decide +kernel
set_option synthInstance.maxSize 100000 in
set_option synthInstance.maxHeartbeats 4000000 in
theorem plain_2 : ∀ m, m < 5 → ∀ l, l < 4 → PlainOk 2 m (l + 1) := by decide +kernel
set_option synthInstance.maxSize 100000 in
set_option synthInstance.maxHeartbeats 4000000 in
theorem plain_3 : ∀ m, m < 5 → ∀ l, l < 4 → PlainOk 3 m (l + 1) := by decide +kernel
set_option synthInstance.maxSize 100000 in
set_option synthInstance.maxHeartbeats 4000000 in
theorem plain_4 : ∀ m, m < 5 → ∀ l, l < 4 → PlainOk 4 m (l + 1) := by decide +kernel
theorem plain_all {f m l : Nat} (hf : f < 5) (hm : m < 5) (hl1 : 1 ≤ l) (hl : l ≤ 4) : PlainOk f m l := by
 obtain ⟨j, rfl⟩ : ∃ j, l = j + 1 := ⟨l - 1, by lia⟩
 rcases f with _ | _ | _ | _ | _ | f
 ·exact plain_0 m hm j (by assumption)
 ·exact plain_1 m hm j (by assumption)
 ·exact plain_2 m hm j (by assumption)
 ·exact plain_3 m hm j (by assumption)
 ·exact plain_4 m hm j (by assumption)
 ·lia
end
end Mine
namespace Mine
section
open PySem PySem.Spec PySem.Calls PyProof.Rows PySem.W PySem.SeqAt
variable {K : Wd} {A : Around} {g : Gh} {n : Nat} {env : Env} {α : Type}
variable {b : Gh} {S' : List Addr} {fn : List Nat} {cs : List Addr} {nm : List (Str × NameKind)} {σ σ' : List (Option D)} {own : List (Addr × MO)}
theorem w_law (X : WX K) {ds : List Int} (hds : ds.length ≤ 63) {v : Value} (hv : Rep g.im (.lst (ds.map .int)) v) (r : Room A (n + 302)) : gwp K A (call (.ref a_law) [v]) (fun u g' => u = .bool true ∧ g'.gs = g.gs) g := by
 refine Z14 (n := n + 300) (fn := lawFn) (S' := []) (binds := [("script", v)]) (bi := [(0, .lst (ds.map .int))]) X.f_law r (Z15 (by rfl)) ok_law so_law (Z3 X.gt gi_law)
  ⟨.inl rfl, hv, trivial⟩ fun A' L cells cs g' r' H => ?_
 have r20 : Room A' (n + 280 + 20) := r'
 have fin : ∀ v (g' : Gh), g'.gs = g.gs → Rep g'.im (.bool true) v → RetQ (fun u g' => u = .bool true ∧ g'.gs = g.gs) (.ret v) g' := fun v g' hg h => by
  simp only [Rep] at h; subst h; exact ⟨rfl, hg⟩
 refine law_1 (n := n + 298) X hds H r' fun d0 d1 d2 d3 f m l g₁ hf hm hl1 hl F => ?_
 refine E0_8 (plain_all hf hm hl1 hl) fun p1 p2 p3 p4 p5 p6 p7 p8 => ?_
 have hN : f + m + l ≤ 12 := by lia
 refine law_2 (n := n + 280) X hf hm hl1 hl r20 F fun g₂ F => ?_
 have hT : (textL d3 (f + m + l)).length ≤ 10000 := by
  have := Z217 d3 (f + m + l)
  rw [textL, List.length_flatten]; exact Nat.le_trans this (by lia)
 refine law_3 (n := n + 280) X hT r20 rfl rfl rfl rfl F fun x dx pb lf fs g₃ hnd hst F => ?_
 refine law_4 (n := n + 280) X hN r20 hnd hst rfl rfl rfl rfl rfl F fun ln chars g₄ F => ?_
 refine law_5 (n := n) X (d0 := d0) (d1 := d1) (d2 := d2) (d3 := d3) (x := x) (dx := dx) (pb := pb) (lf := lf) (fs := fs) (ln := ln) (chars := chars) hf hm hl1 hl r' (F.lessL (by repeat (first | exact trivial | refine And.intro rfl ?_))) fun g₅ F => ?_
 refine law_6 (n := n) X hf hm hl1 hl r' F fun g₆ F => ?_
 refine law_7 (n := n) X hf hm hl1 hl r' F fun g₇ F => ?_
 refine law_8 (n := n) X (d0 := d0) (d1 := d1) (d2 := d2) (d3 := d3) (x := x) hf hm hl1 hl r' p1 p2 p3 rfl rfl rfl F fun g₈ F => ?_
 refine law_9 (n := n) X (d0 := d0) (d1 := d1) (d2 := d2) (d3 := d3) (x := x) hf hm hl1 hl r' rfl rfl rfl F fun g₉ F => ?_
 refine law_10 (n := n) X (d0 := d0) (d1 := d1) (d2 := d2) (d3 := d3) (x := x) hf hm hl1 hl r' (fun h hh => p4 h (by lia)) rfl rfl rfl F fun g₁₀ F => ?_
 refine law_11 (n := n) X (d0 := d0) (d1 := d1) (d2 := d2) (d3 := d3) (x := x) (dx := dx) (pb := pb) (lf := lf) (fs := fs) (ln := ln) (chars := chars) hf hm hl1 hl r' hnd rfl rfl rfl rfl rfl rfl F fun pbs g₁₁ F => ?_
 refine law_12 (n := n) X (d0 := d0) (d1 := d1) (d2 := d2) (d3 := d3) hf hm hl1 hl r' rfl rfl rfl F fun g₁₂ F => ?_
 refine law_13 (n := n) X hf hm hl1 hl r' p5 rfl rfl rfl F fun g₁₃ F => ?_
 refine law_14 (n := n) X (d0 := d0) (d1 := d1) (d2 := d2) (d3 := d3) hf hm hl1 hl r' (fun k hk h hh => p6 k hk h (by lia)) rfl rfl rfl rfl rfl rfl rfl rfl rfl rfl rfl rfl rfl F fun g₁₄ F => ?_
 refine law_15 (n := n) X hf hm hl1 hl r' rfl F fun g₁₅ F => ?_
 refine law_16 (n := n) X hf hm hl1 hl r' rfl rfl rfl F fun g₁₆ F => ?_
 refine law_17 (n := n) X hf hm hl1 hl r' rfl rfl F fun g₁₇ F => ?_
 refine law_18 (n := n) X hf hm hl1 hl r' p7 rfl rfl rfl rfl F fun g₁₈ F => ?_
 exact law_19 (n := n) X hf hm hl1 hl r' (fun k hk => ⟨(p8 k hk).1, (p8 k hk).2.1, (p8 k hk).2.2⟩) rfl rfl rfl rfl rfl F fin
end
end Mine
namespace Mine
section
open PySem PySem.Spec PySem.Calls PyProof.Rows PySem.W
noncomputable def imOf (h : Heap) : Im := fun a => if a ∈ TABS.map (·.2) then none else h.get? a
noncomputable def qnF (l c : Nat) : Option Str := (QN.find? fun x => x.1 == l && x.2.1 == c).map (·.2.2)
theorem Z41 {h : Heap} {a : Addr} {o : Obj} (e : h.get? a = some o) (ha : a ∉ TABS.map (·.2)) : imOf h a = some o := by
 unfold imOf; rw [if_neg ha]; exact e
theorem imOf_get {h : Heap} {a : Addr} {o : Obj} (e : imOf h a = some o) : h.get? a = some o := by
 unfold imOf at e; split at e
 ·cases e
 ·exact e
noncomputable def baseOf (h : Heap) (os : OsState) (hl : h.NoLimit) (ht : ∃ o, h.get? 226 = some o ∧ h.objs.size = 227) : Base where
 h₀ := h
 os := os
 im := imOf h
 tabs := TABS
 qn := qnF
 lim := E1_2 hl fun mc w01 h5 => E3_4 w01 fun o es ep h1 h2 h3 h4 => ⟨o, es, ep, Z41 h1 (by decide), h2, h3, by rw [h4]; exact h5⟩
 top := E1_2 ht fun o h1 h2 => ⟨226, o, Z41 h1 (by decide), h2⟩
noncomputable def gh0 (h : Heap) (gs : Array GenState) : Gh := { im := imOf h, mu := fun _ => none, gs := gs }
theorem gh0_ok {s : Shared} (hl : s.heap.NoLimit) (ht : ∃ o, s.heap.get? 226 = some o ∧ s.heap.objs.size = 227) (hg : s.gens = #[])
  (htab : ∀ c P, (c, P) ∈ TABS → ∃ ps, s.heap.IsCode c P ps ∧ s.heap.TableAt c P ps ∧ TabFit qnF (imOf s.heap) ps) : (gh0 s.heap #[]).Ok (baseOf s.heap s.os hl ht) s where
 im := fun a o e => imOf_get e
 mu := fun a o e => by cases e
 dis := fun a o o' _ e => by cases e
 base := fun a o e => e
 new := fun a o e => by cases e
 size := Nat.le_refl _
 old := OldK.refl _
 os := rfl
 gens := ⟨#[], by rw [hg]; rfl, fun x hx => by simp at hx⟩
 tabs := fun c P hm => by
  replace hm : (c, P) ∈ TABS := hm
  refine E1_3 (htab c P hm) fun ps h1 h2 h3 => ?_
  have hP : P ∈ TABS.map (·.2) := List.mem_map.mpr ⟨(c, P), hm, rfl⟩
  have hc : c ∉ TABS.map (·.2) := by
   simp only [TABS, List.mem_cons, Prod.mk.injEq, List.not_mem_nil, or_false] at hm
   rcases hm with ⟨rfl, _⟩ | ⟨rfl, _⟩ | ⟨rfl, _⟩ | ⟨rfl, _⟩ | ⟨rfl, _⟩ <;> decide
  refine ⟨by show imOf s.heap P = none; unfold imOf; rw [if_pos hP], ?_, ?_, ?_, ⟨ps, h2⟩, ps, h1, h2, h3⟩
  ·exact Heap.lt_size h2.2
  ·refine E0_2 h2 ?_
   rintro ⟨o, vs, e, _⟩ _
   exact ⟨o, Z41 e hc⟩
  ·simp only [TABS, List.mem_cons, Prod.mk.injEq, List.not_mem_nil, or_false] at hm
   rcases hm with ⟨_, rfl⟩ | ⟨_, rfl⟩ | ⟨_, rfl⟩ | ⟨_, rfl⟩ | ⟨_, rfl⟩ <;> decide
 apart := by show (TABS.map (·.2)).Nodup; decide
theorem imOf_ns {h : Heap} {a : Addr} {m : Str → Option Value} (hn : h.Ns a m) (ha : a ∉ TABS.map (·.2)) : ∃ o, imOf h a = some o ∧ NsObj o m :=
 E3_4 hn fun o es ep h1 h2 h3 h4 => ⟨o, Z41 h1 ha, es, ep, h2, h3, h4⟩
theorem gt_of {h : Heap} {os : OsState} {hl ht} {mg mb : Str → Option Value} (hg : h.Ns mainGlobals mg) (hb : h.Ns builtinsNs mb) (h1 : ∀ x v, (x, v) ∈ GT.take 17 → mg x = some v) (h2 : ∀ x v, (x, v) ∈ GT.drop 17 → mg x = none ∧ mb x = some v) : GtOk (baseOf h os hl ht) GT := fun j x v e => by
 refine E1_2 (imOf_ns hg (by decide)) fun o e1 e2 => ?_
 refine E1_2 (imOf_ns hb (by decide)) fun o' e1' e2' => ?_
 have hm := List.mem_of_getElem? e
 rw [← List.take_append_drop 17 GT] at hm
 rcases List.mem_append.mp hm with hm | hm
 ·exact .inl ⟨o, mg, e1, e2, h1 x v hm⟩
 ·exact .inr ⟨o, mg, o', mb, e1, e2, (h2 x v hm).1, e1', e2', (h2 x v hm).2⟩
noncomputable def strOf : Option Value → Option Str
 | some (.str x _) => some x
 | _ => none
theorem Z268 {v : Option Value} {x : Str} (h : strOf v = some x) : ∃ t, v = some (.str x t) := by
 unfold strOf at h; split at h
 ·cases h; exact ⟨_, rfl⟩
 ·cases h
noncomputable def isInt : Value → Bool
 | .int _ _ => true
 | _ => false
theorem isInt_eq {v : Value} (h : isInt v = true) : ∃ i t, v = .int i t := by cases v <;> first | exact ⟨_, _, rfl⟩ | cases h
noncomputable def isBoo : Value → Bool
 | .bool _ => true
 | _ => false
theorem isBoo_eq {v : Value} (h : isBoo v = true) : ∃ i, v = .bool i := by cases v <;> first | exact ⟨_, rfl⟩ | cases h
noncomputable def isStrV : Value → Bool
 | .str _ _ => true
 | _ => false
theorem isStrV_eq {v : Value} (h : isStrV v = true) : ∃ i t, v = .str i t := by cases v <;> first | exact ⟨_, _, rfl⟩ | cases h
noncomputable def keysB (es : Array DictEntry) : Bool := es.toList.all fun e => isStrV e.key
theorem Z175 {es : Array DictEntry} (h : keysB es = true) : StrKeys es := fun e he => isStrV_eq (List.all_eq_true.mp h e (by simpa using he))
noncomputable def kv (e : DictEntry) : Str × Value := (match e.key with | .str n _ => n | _ => "", e.val)
theorem nsFind_kv {es : Array DictEntry} (hs : StrKeys es) {l : List (Str × Value)} (h : es.toList.map kv = l) (x : Str) : nsFind es x = l.lookup x := by
 subst h
 obtain ⟨es⟩ := es
 replace hs : ∀ e ∈ es, ∃ n t, e.key = .str n t := fun e he => hs e (by simpa using he)
 show ((Array.mk es).find? fun e => e.key.isStr x).map (·.val) = _
 rw [List.find?_toArray]
 induction es with
 | nil => rfl
 | cons e es ih =>
  refine E2_1 (hs e (List.mem_cons_self ..)) fun n t hk => ?_
  have e1 : kv e = (n, e.val) := by unfold kv; rw [hk]
  have ih' := ih fun e' he' => hs e' (List.mem_cons_of_mem _ he')
  rw [List.find?_cons, List.map_cons, List.lookup_cons, e1]
  have e2 : e.key.isStr x = (x == n) := by rw [hk]; show (n == x) = _; exact BEq.comm
  rw [e2]
  cases (x == n) with
  | true => rfl
  | false => exact ih'
noncomputable def lookF (h : Heap) (a : Addr) : Option (Value × Data) := (h.get? a).map fun o => (o.cls, o.data)
noncomputable def codeV (h : Heap) (c : Addr) : Option (Option Str × Option Str) := (h.get? c).bind fun o => match o.data with
 | .fields vs => some (strOf vs[1]?, strOf vs[2]?)
 | _ => none
noncomputable def nsV (h : Heap) (a : Addr) (ns : List Str) : Option (Bool × List (Option Value)) := (h.get? a).bind fun o => match o.data with
 | .dict es _ => some (keysB es, ns.map (nsFind es))
 | _ => none
noncomputable def kvV (h : Heap) (a : Addr) : Option (Bool × List (Str × Value)) := (h.get? a).bind fun o => match o.data with
 | .dict es _ => some (keysB es, es.toList.map kv)
 | _ => none
noncomputable def tabV (h : Heap) (c : Addr) : Option (Value × Option Value × Bool × Bool × Bool × Bool) := (h.get? c).bind fun o => match o.data with
 | .fields vs => some (o.cls, vs[11]?, isStrV (vs.getD 18 .none), isInt (vs.getD 7 .none), isBoo (vs.getD 9 .none), isInt (vs.getD 10 .none))
 | _ => none
noncomputable def oneV (h : Heap) (a : Addr) : Option Nat := (h.get? a).bind fun o => match o.data with
 | .seq vs _ => some vs.size
 | _ => none
noncomputable def FL : List (Addr × Addr × FuncData) := [(a_Ac_init, c_Ac_init, fd_Ac_init), (a_Ac_push, c_Ac_push, fd_Ac_push), (a_Ac_pf, c_Ac_pf, fd_Ac_pf), (a_Ac_pop, c_Ac_pop, fd_Ac_pop), (a_Ac_len, c_Ac_len, fd_Ac_len), (a_Ac_str, c_Ac_str, fd_Ac_str), (a_Ac_reset, c_Ac_reset, fd_Ac_reset), (a_Ac_pc, c_Ac_pc, fd_Ac_pc), (a_d21, c_d21, fd_d21), (a_d32, c_d32, fd_d32), (a_i2d, c_i2d, fd_i2d), (a_d2i, c_d2i, fd_d2i), (a_dmp, c_dmp, fd_dmp), (a_idm, c_idm, fd_idm), (a_nl_init, c_nl_init, fd_nl_init), (a_nl_rc, c_nl_rc, fd_nl_rc), (a_nl_gt, c_nl_gt, fd_nl_gt), (a_nl_pt, c_nl_pt, fd_nl_pt), (a_ls, c_ls, fd_ls), (a_lw, c_lw, fd_lw), (a_lm, c_lm, fd_lm), (a_lr, c_lr, fd_lr), (a_ll, c_ll, fd_ll), (a_law, c_law, fd_law)]
noncomputable def headY (s : Shared) := (FL.map (fun x => lookF s.heap x.1), FL.map (fun x => codeV s.heap x.2.1), nsV s.heap mainGlobals ("__builtins__" :: GT.map (·.1)), nsV s.heap builtinsNs ((GT.drop 17).map (·.1)), nsV s.heap cStatics ["thirdparty.any"],
 s.heap.get? 4, [C_Ac, C_nl, 25].map s.heap.get?, kvV s.heap N_Ac, kvV s.heap N_nl, ([(30 : Addr), (46 : Addr), (76 : Addr)]).map (oneV s.heap), TABS.map (fun x => tabV s.heap x.1), TABS.map (fun x => s.heap.get? x.2), s.heap.objs.size)
noncomputable def ob_Ac : Obj := excClassObj "_Accumulator" "_Accumulator" 101 100 [.type "list"] [.type "list", .type "object"] true [] [] false none none (some (.ref 22)) none (some (.str "_Accumulator" 198)) (some (.str "_Accumulator" 206)) (some (.bool true)) "list.__new__"
noncomputable def ob_nl : Obj := excClassObj "_netrclex" "_netrclex" 185 184 [.type "object"] [.type "object"] true [] [] false none none none none (some (.str "_netrclex" 378)) (some (.str "_netrclex" 386)) (some (.bool true)) "object.__new__"
noncomputable def headA (_ : World) := (FL.map (fun x => some (Value.type "function", Data.func x.2.2)), FL.map (fun x => some (some x.2.2.qualname, some PySem.Challenge.pw_sc0063_02.main.file)), some (true, some (Value.ref 4) :: (GT.take 17).map (fun p => some p.2) ++ (GT.drop 17).map fun _ => (none : Option Value)), some (true, (GT.drop 17).map fun p => some p.2), some (true, [(none : Option Value)]),
 some ({ cls := .type "module", dict := some builtinsNs } : Obj), [some ob_Ac, some ob_nl, some ({ cls := .type "cell", data := .cell (some (.ref C_Ac)) } : Obj)], some (true, CN_Ac), some (true, CN_nl), ([(30 : Addr), (46 : Addr), (76 : Addr)]).map (fun _ => some 1), TABS.map (fun x => some (Value.type "code", some (Value.ref x.2), true, true, true, true)), TABS.map (fun _ => some ({ cls := .none, data := .fields #[] } : Obj)), 226)
theorem Z195 {α β : Type} {f g : α → β} {l : List α} (h : l.map f = l.map g) {a : α} (ha : a ∈ l) : f a = g a := by
 obtain ⟨i, hi, rfl⟩ := List.getElem_of_mem ha
 have := congrArg (fun l => l[i]?) h
 simpa [hi] using this
theorem lookF_at {h : Heap} {a : Addr} {c : Value} {d : Data} (e : lookF h a = some (c, d)) : ∃ o, h.get? a = some o ∧ o.data = d ∧ o.cls = c := by
 unfold lookF at e
 cases z : h.get? a with
 | none => rw [z] at e; cases e
 | some o => rw [z] at e; cases e; exact ⟨o, rfl, rfl, rfl⟩
theorem codeV_at {h : Heap} {c : Addr} {q f : Str} (e : codeV h c = some (some q, some f)) : ∃ o vs t t', h.get? c = some o ∧ o.data = .fields vs ∧ vs[1]? = some (.str q t) ∧ vs[2]? = some (.str f t') := by
 unfold codeV at e
 cases z : h.get? c with
 | none => rw [z] at e; cases e
 | some o =>
  rw [z] at e
  simp only [Option.bind_some] at e
  split at e
  ·rename_i vs hd
   simp only [Option.some.injEq, Prod.mk.injEq] at e
   refine E1_1 (Z268 e.1) fun t h1 => ?_
   refine E1_1 (Z268 e.2) fun t' h2 => ?_
   exact ⟨o, vs, t, t', rfl, hd, h1, h2⟩
  ·cases e
theorem nsV_at {h : Heap} {a : Addr} {ns : List Str} {l : List (Option Value)} (e : nsV h a ns = some (true, l)) : ∃ o es ep, h.get? a = some o ∧ o.data = .dict es ep ∧ StrKeys es ∧ ns.map (nsFind es) = l := by
 unfold nsV at e
 cases z : h.get? a with
 | none => rw [z] at e; cases e
 | some o =>
  rw [z] at e
  simp only [Option.bind_some] at e
  split at e
  ·rename_i es ep hd
   simp only [Option.some.injEq, Prod.mk.injEq] at e
   exact ⟨o, es, ep, rfl, hd, Z175 e.1, e.2⟩
  ·cases e
theorem kvV_at {h : Heap} {a : Addr} {l : List (Str × Value)} (e : kvV h a = some (true, l)) : ∃ o es ep, h.get? a = some o ∧ o.data = .dict es ep ∧ StrKeys es ∧ ∀ x, nsFind es x = l.lookup x := by
 unfold kvV at e
 cases z : h.get? a with
 | none => rw [z] at e; cases e
 | some o =>
  rw [z] at e
  simp only [Option.bind_some] at e
  split at e
  ·rename_i es ep hd
   simp only [Option.some.injEq, Prod.mk.injEq] at e
   exact ⟨o, es, ep, rfl, hd, Z175 e.1, nsFind_kv (Z175 e.1) e.2⟩
  ·cases e
theorem tabV_at {h : Heap} {c P : Addr} (e : tabV h c = some (.type "code", some (.ref P), true, true, true, true)) (eP : h.get? P = some { cls := .none, data := .fields #[] }) (ne : c ≠ P) : ∃ ps, h.IsCode c P ps ∧ h.TableAt c P ps ∧ TabFit qnF (imOf h) ps := by
 unfold tabV at e
 cases z : h.get? c with
 | none => rw [z] at e; cases e
 | some o =>
  rw [z] at e
  simp only [Option.bind_some] at e
  split at e
  ·rename_i vs hd
   simp only [Option.some.injEq, Prod.mk.injEq] at e
   refine E0_6 e fun e1 e2 e3 e4 e5 e6 => ?_
   refine E2_1 (isStrV_eq e3) fun f tf g3 => ?_
   refine E2_1 (isInt_eq e4) fun fl tg g4 => ?_
   refine E1_1 (isBoo_eq e5) fun inF g5 => ?_
   refine E2_1 (isInt_eq e6) fun tx tt g6 => ?_
   have g2 : vs.getD 11 .none = .ref P := by rw [Array.getD_eq_getD_getElem?, e2]; rfl
   exact ⟨#[], ⟨o, vs, f, tf, fl, tg, inF, tx, tt, _, z, hd, g2, g3, g4, g5, g6, eP, rfl, by simp [TriplesOk], ne⟩, ⟨⟨o, vs, z, e1, hd, e2⟩, eP⟩, fun pos q c _ e => by cases e⟩
  ·cases e
theorem oneV_at {h : Heap} {a : Addr} (e : oneV h a = some 1) : ∃ o v n, h.get? a = some o ∧ o.data = .seq #[v] n := by
 unfold oneV at e
 cases z : h.get? a with
 | none => rw [z] at e; cases e
 | some o =>
  rw [z] at e
  simp only [Option.bind_some] at e
  split at e
  ·rename_i vs n hd
   simp only [Option.some.injEq] at e
   exact E1_1 (Array.size_eq_one_iff.mp e) fun v hv => ⟨o, v, n, rfl, hv ▸ hd⟩
  ·cases e
section
variable {h : Heap} {os : OsState} {hl : h.NoLimit} {ht : ∃ o, h.get? 226 = some o ∧ h.objs.size = 227}
theorem fn_at (h1 : ∀ x ∈ FL, lookF h x.1 = some (.type "function", .func x.2.2)) (h2 : ∀ x ∈ FL, codeV h x.2.1 = some (some x.2.2.qualname, some PySem.Challenge.pw_sc0063_02.main.file)) {a c : Addr} {fd : FuncData} (hm : (a, c, fd) ∈ FL) (hc : fd.code = .ref c) (ha : a ∉ TABS.map (·.2)) (hn : c ∉ TABS.map (·.2)) : FnB (baseOf h os hl ht) a fd := by
 refine E1_3 (lookF_at (h1 _ hm)) fun o e1 e2 e3 => ?_
 refine E4_4 (codeV_at (h2 _ hm)) fun oc vs t t' f1 f2 f3 f4 => ?_
 exact ⟨⟨o, Z41 e1 ha, e2, e3⟩, c, oc, vs, t, hc, Z41 f1 hn, f2, f3⟩
end
structure HeadOk (h : Heap) : Prop where
 fns : ∀ x ∈ FL, lookF h x.1 = some (.type "function", .func x.2.2)
 codes : ∀ x ∈ FL, codeV h x.2.1 = some (some x.2.2.qualname, some PySem.Challenge.pw_sc0063_02.main.file)
 mg : nsV h mainGlobals ("__builtins__" :: GT.map (·.1)) = some (true, some (Value.ref 4) :: (GT.take 17).map (fun p => some p.2) ++ (GT.drop 17).map fun _ => (none : Option Value))
 mb : nsV h builtinsNs ((GT.drop 17).map (·.1)) = some (true, (GT.drop 17).map fun p => some p.2)
 st : nsV h cStatics ["thirdparty.any"] = some (true, [(none : Option Value)])
 bm : h.get? 4 = some { cls := .type "module", dict := some builtinsNs }
 cA : h.get? C_Ac = some ob_Ac
 cN : h.get? C_nl = some ob_nl
 cc : h.get? 25 = some { cls := .type "cell", data := .cell (some (.ref C_Ac)) }
 nA : kvV h N_Ac = some (true, CN_Ac)
 nN : kvV h N_nl = some (true, CN_nl)
 dv : ∀ a ∈ [(30 : Addr), (46 : Addr), (76 : Addr)], oneV h a = some 1
 tb : ∀ x ∈ TABS, tabV h x.1 = some (Value.type "code", some (Value.ref x.2), true, true, true, true)
 tp : ∀ x ∈ TABS, h.get? x.2 = some { cls := .none, data := .fields #[] }
theorem headOk {s : Shared} {w : World} (e : headY s = headA w) : HeadOk s.heap ∧ s.heap.objs.size = 226 := by
 refine E0_2 (Prod.mk.inj e) fun e1 e => ?_
 refine E0_2 (Prod.mk.inj e) fun e2 e => ?_
 refine E0_2 (Prod.mk.inj e) fun e3 e => ?_
 refine E0_2 (Prod.mk.inj e) fun e4 e => ?_
 refine E0_2 (Prod.mk.inj e) fun e5 e => ?_
 refine E0_2 (Prod.mk.inj e) fun e6 e => ?_
 refine E0_2 (Prod.mk.inj e) fun e7 e => ?_
 refine E0_2 (Prod.mk.inj e) fun e8 e => ?_
 refine E0_2 (Prod.mk.inj e) fun e9 e => ?_
 refine E0_2 (Prod.mk.inj e) fun e10 e => ?_
 refine E0_2 (Prod.mk.inj e) fun e11 e => ?_
 refine E0_2 (Prod.mk.inj e) fun e12 e13 => ?_
 refine E0_2 (List.cons.inj e7) fun c1 e7 => ?_
 refine E0_2 (List.cons.inj e7) fun c2 e7 => ?_
 refine E0_2 (List.cons.inj e7) fun c3 e7 => ?_
 exact ⟨⟨fun x hx => Z195 e1 hx, fun x hx => Z195 e2 hx, e3, e4, e5, e6, c1, c2, c3, e8, e9, fun a ha => Z195 e10 ha, fun x hx => Z195 e11 hx, fun x hx => Z195 e12 hx⟩, e13⟩
theorem Z69 {h h' : Heap} {α : Type} {f : Obj → Option α} {a : Addr} {x : α} (k : ∀ b o, h.get? b = some o → h'.get? b = some o) (e : (h.get? a).bind f = some x) : (h'.get? a).bind f = some x := by
 cases z : h.get? a with
 | none => rw [z] at e; cases e
 | some o => rw [z] at e; rw [k _ _ z]; exact e
theorem HeadOk.keep {h h' : Heap} (H : HeadOk h) (k : ∀ b o, h.get? b = some o → h'.get? b = some o) : HeadOk h' where
 fns := fun x hx => by obtain ⟨o, e, r, r'⟩ := lookF_at (H.fns x hx); unfold lookF; rw [k _ _ e, ← r, ← r']; rfl
 codes := fun x hx => Z69 k (H.codes x hx)
 mg := Z69 k H.mg
 mb := Z69 k H.mb
 st := Z69 k H.st
 bm := k _ _ H.bm
 cA := k _ _ H.cA
 cN := k _ _ H.cN
 cc := k _ _ H.cc
 nA := Z69 k H.nA
 nN := Z69 k H.nN
 dv := fun a ha => Z69 k (H.dv a ha)
 tb := fun x hx => Z69 k (H.tb x hx)
 tp := fun x hx => k _ _ (H.tp x hx)
theorem HeadOk.tab {h : Heap} (H : HeadOk h) (c P : Addr) (hm : (c, P) ∈ TABS) : ∃ ps, h.IsCode c P ps ∧ h.TableAt c P ps ∧ TabFit qnF (imOf h) ps := by
 refine tabV_at (H.tb _ hm) (H.tp _ hm) ?_
 have : ∀ x ∈ TABS, x.1 ≠ x.2 := by decide
 exact this _ hm
theorem wx_of {h : Heap} {os : OsState} {hl : h.NoLimit} {ht : ∃ o, h.get? 226 = some o ∧ h.objs.size = 227} (H : HeadOk h) (w : World) : WX ⟨PySem.Challenge.pw_sc0063_02, w, baseOf h os hl ht⟩ where
 gt := by
  refine E3_4 (nsV_at H.mg) fun o es ep a1 a2 a3 a4 => ?_
  refine E3_4 (nsV_at H.mb) fun o' es' ep' b1 b2 b3 b4 => ?_
  rw [List.map_map] at b4
  have a4 := (List.cons.inj a4).2
  rw [List.append_eq] at a4
  have a5 : (GT.take 17).map (fun p => nsFind es p.1) ++ (GT.drop 17).map (fun p => nsFind es p.1) = (GT.take 17).map (fun p => some p.2) ++ (GT.drop 17).map fun _ => (none : Option Value) := by
   rw [← a4, ← List.map_append, List.take_append_drop, List.map_map]; rfl
  refine E0_2 (List.append_inj a5 (by simp only [List.length_map])) fun a6 a7 => ?_
  exact gt_of (hl := hl) (ht := ht) ⟨o, es, ep, a1, a2, a3, fun _ => rfl⟩ ⟨o', es', ep', b1, b2, b3, fun _ => rfl⟩ (fun x v hm => Z195 a6 hm) fun x v hm => ⟨Z195 a7 hm, Z195 b4 hm⟩
 md := by
  refine E3_4 (nsV_at H.mg) fun o es ep a1 a2 a3 a4 => ?_
  exact ⟨o, nsFind es, 4, _, Z41 a1 (by decide), ⟨es, ep, a2, a3, fun _ => rfl⟩, (List.cons.inj a4).1, by decide, Z41 H.bm (by decide), rfl, rfl, rfl⟩
 qn := fun l c q hm => by
  show qnF l c = some q
  have : ∀ p ∈ QN, qnF p.1 p.2.1 = some p.2.2 := by decide +kernel
  exact this _ hm
 tab := fun p hp => hp
 f_Ac_init := fn_at (hl := hl) (ht := ht) H.fns H.codes (List.mem_of_getElem? (i := 0) rfl) rfl (by decide) (by decide)
 f_Ac_push := fn_at (hl := hl) (ht := ht) H.fns H.codes (List.mem_of_getElem? (i := 1) rfl) rfl (by decide) (by decide)
 f_Ac_pf := fn_at (hl := hl) (ht := ht) H.fns H.codes (List.mem_of_getElem? (i := 2) rfl) rfl (by decide) (by decide)
 f_Ac_pop := fn_at (hl := hl) (ht := ht) H.fns H.codes (List.mem_of_getElem? (i := 3) rfl) rfl (by decide) (by decide)
 f_Ac_len := fn_at (hl := hl) (ht := ht) H.fns H.codes (List.mem_of_getElem? (i := 4) rfl) rfl (by decide) (by decide)
 f_Ac_str := fn_at (hl := hl) (ht := ht) H.fns H.codes (List.mem_of_getElem? (i := 5) rfl) rfl (by decide) (by decide)
 f_Ac_reset := fn_at (hl := hl) (ht := ht) H.fns H.codes (List.mem_of_getElem? (i := 6) rfl) rfl (by decide) (by decide)
 f_Ac_pc := fn_at (hl := hl) (ht := ht) H.fns H.codes (List.mem_of_getElem? (i := 7) rfl) rfl (by decide) (by decide)
 f_d21 := fn_at (hl := hl) (ht := ht) H.fns H.codes (List.mem_of_getElem? (i := 8) rfl) rfl (by decide) (by decide)
 f_d32 := fn_at (hl := hl) (ht := ht) H.fns H.codes (List.mem_of_getElem? (i := 9) rfl) rfl (by decide) (by decide)
 f_i2d := fn_at (hl := hl) (ht := ht) H.fns H.codes (List.mem_of_getElem? (i := 10) rfl) rfl (by decide) (by decide)
 f_d2i := fn_at (hl := hl) (ht := ht) H.fns H.codes (List.mem_of_getElem? (i := 11) rfl) rfl (by decide) (by decide)
 f_dmp := fn_at (hl := hl) (ht := ht) H.fns H.codes (List.mem_of_getElem? (i := 12) rfl) rfl (by decide) (by decide)
 f_idm := fn_at (hl := hl) (ht := ht) H.fns H.codes (List.mem_of_getElem? (i := 13) rfl) rfl (by decide) (by decide)
 f_nl_init := fn_at (hl := hl) (ht := ht) H.fns H.codes (List.mem_of_getElem? (i := 14) rfl) rfl (by decide) (by decide)
 f_nl_rc := fn_at (hl := hl) (ht := ht) H.fns H.codes (List.mem_of_getElem? (i := 15) rfl) rfl (by decide) (by decide)
 f_nl_gt := fn_at (hl := hl) (ht := ht) H.fns H.codes (List.mem_of_getElem? (i := 16) rfl) rfl (by decide) (by decide)
 f_nl_pt := fn_at (hl := hl) (ht := ht) H.fns H.codes (List.mem_of_getElem? (i := 17) rfl) rfl (by decide) (by decide)
 f_ls := fn_at (hl := hl) (ht := ht) H.fns H.codes (List.mem_of_getElem? (i := 18) rfl) rfl (by decide) (by decide)
 f_lw := fn_at (hl := hl) (ht := ht) H.fns H.codes (List.mem_of_getElem? (i := 19) rfl) rfl (by decide) (by decide)
 f_lm := fn_at (hl := hl) (ht := ht) H.fns H.codes (List.mem_of_getElem? (i := 20) rfl) rfl (by decide) (by decide)
 f_lr := fn_at (hl := hl) (ht := ht) H.fns H.codes (List.mem_of_getElem? (i := 21) rfl) rfl (by decide) (by decide)
 f_ll := fn_at (hl := hl) (ht := ht) H.fns H.codes (List.mem_of_getElem? (i := 22) rfl) rfl (by decide) (by decide)
 f_law := fn_at (hl := hl) (ht := ht) H.fns H.codes (List.mem_of_getElem? (i := 23) rfl) rfl (by decide) (by decide)
 k_Ac := E3_4 (kvV_at H.nA) fun o es ep e1 e2 e3 e4 => ⟨⟨_, _, _, _, _, _, _, _, _, _, _, _, Z41 H.cA (by decide)⟩, o, Z41 e1 (by decide), es, ep, e2, e3, e4⟩
 k_nl := E3_4 (kvV_at H.nN) fun o es ep e1 e2 e3 e4 => ⟨⟨_, _, _, _, _, _, _, _, _, _, _, _, Z41 H.cN (by decide)⟩, o, Z41 e1 (by decide), es, ep, e2, e3, e4⟩
 low := by obtain ⟨o, h1, h2⟩ := ht; show 200 < h.objs.size; lia
 cc := Z41 H.cc (by decide)
 pr := rfl
 cf := fun c hc => by
  have : ∃ x ∈ FL, x.2.1 = c := by
   simp only [List.mem_cons, List.not_mem_nil, or_false] at hc
   rcases hc with rfl | rfl | rfl <;> first | exact ⟨_, List.mem_of_getElem? (i := 0) rfl, rfl⟩ | exact ⟨_, List.mem_of_getElem? (i := 3) rfl, rfl⟩ | exact ⟨_, List.mem_of_getElem? (i := 7) rfl, rfl⟩
  refine E1_2 this ?_
  clear this; rintro x hx rfl
  refine E4_4 (codeV_at (H.codes x hx)) fun oc vs t t' e1 e2 e3 e4 => ?_
  refine ⟨oc, vs, t', Z41 e1 ?_, e2, e4⟩
  simp only [List.mem_cons, List.not_mem_nil, or_false] at hc
  rcases hc with h | h | h <;> rw [h] <;> decide
 stt := by
  refine E3_4 (nsV_at H.st) fun o es ep e1 e2 e3 e4 => ?_
  exact ⟨o, nsFind es, Z41 e1 (by decide), ⟨es, ep, e2, e3, fun _ => rfl⟩, (List.cons.inj e4).1⟩
 dv := fun a ha => by
  refine E3_2 (oneV_at (H.dv a ha)) fun o v n e1 e2 => ?_
  refine ⟨o, v, n, Z41 e1 ?_, e2⟩
  simp only [List.mem_cons, List.not_mem_nil, or_false] at ha
  rcases ha with rfl | rfl | rfl <;> decide
theorem well_ints {P : Params} {h : Heap} {im : Im} : ∀ {vs : List Value} {ns : List Int}, WellAll P h vs (ofPys (ns.map PyData.int)) → Reps im (ns.map .int) vs
 | vs, [], w => by
  simp only [List.map_nil, ofPys] at w
  cases w; exact Reps.nil
 | vs, n :: ns, w => by
  simp only [List.map_cons, ofPys] at w
  cases w with
  | cons a b =>
   simp only [ofPy] at a
   cases a
   exact Reps.cons Z25 (well_ints b)
theorem well_rep {P : Params} {h : Heap} {im : Im} {a : Addr} {ns : List Int} (w : Well P h (.ref a) (ofPy (.list (ns.map PyData.int)))) (hi : ∀ o, h.get? a = some o → im a = some o) : Rep im (.lst (ns.map .int)) (.ref a) := by
 simp only [ofPy] at w
 cases w with
 | list h1 h2 => exact Z16.mpr ⟨_, _, 0, rfl, hi _ h1, well_ints h2⟩
theorem room_caller : Room callerA (0 + 302) := ⟨rfl, by decide +kernel, by decide +kernel⟩
theorem fin_of {s : Shared} (H : HeadOk s.heap) (hl : s.heap.NoLimit) {P : Params} {ns : List Int} (W : Well P s.heap (.ref 226) (ofPy (.list (ns.map PyData.int)))) (hsz : s.heap.objs.size = 226 + 1) (hg : s.gens = #[]) (hds : ¬ ((63 : Int) < (ns.length : Int))) {w : World} {Q : Value → Shared → Prop} {E : Value → Shared → Prop}
  (hQ : ∀ s', OldK s.heap s'.heap → s'.os = s.os → AllBare s'.gens → Q (.bool true) s') : wpAny (model PySem.Challenge.pw_sc0063_02 w) callerA (call (.ref a_law) [.ref 226]) Q E s := by
 have ht : ∃ o, s.heap.get? 226 = some o ∧ s.heap.objs.size = 227 := by
  simp only [ofPy] at W
  cases W with
  | list h1 h2 => exact ⟨_, h1, hsz⟩
 have Wx := wx_of (os := s.os) H w (hl := hl) (ht := ht)
 have ok := gh0_ok hl ht hg H.tab
 have hr : Rep (gh0 s.heap #[]).im (.lst (ns.map .int)) (.ref 226) := well_rep W fun o e => Z41 e (by decide)
 have := w_law (K := ⟨PySem.Challenge.pw_sc0063_02, w, baseOf s.heap s.os hl ht⟩) (A := callerA) (n := 0) (g := gh0 s.heap #[]) Wx (ds := ns) (by lia) hr room_caller
 refine wM1_3 (this s E ok) (fun v s' g' ok' e eg => ?_)
 subst e
 refine hQ s' ok'.old ok'.os ?_
 refine E1_2 ok'.gens fun ex e1 e2 => ?_
 rw [e1, eg, show (gh0 s.heap #[]).gs = #[] from rfl, Array.empty_append]; exact e2
theorem law_addr {h : Heap} (H : HeadOk h) {mg : Str → Option Value} (hn : h.Ns mainGlobals mg) {fa : Addr} (hm : mg "law" = some (.ref fa)) : fa = a_law := by
 refine E3_4 hn fun o es ep e1 e2 e3 e4 => ?_
 refine E3_4 (nsV_at H.mg) fun o' es' ep' b1 b2 b3 b4 => ?_
 rw [e1] at b1; cases b1
 clear e1; rw [e2] at b2; cases b2
 have z : some (nsFind es "law") = some (some (Value.ref a_law)) := congrArg (fun l => l[17]?) b4
 rw [Option.some.injEq, e4, hm] at z
 clear b4 e4 hm; cases z; rfl
noncomputable def viewL : Program := { PySem.Challenge.pw_sc0063_02 with main := { PySem.Challenge.pw_sc0063_02.main with body := PB.drop 20 } }
noncomputable def looseL : List Str := (GT.take 16).map (·.1)
end
end Mine
namespace Mine
open PySem PySem.Spec PySem.Calls PyProof.Rows PySem.W
theorem left_law : LeftO PySem.Challenge.pw_sc0063_02 viewL looseL (fun _ => true) headY headA 2720 := fun w => by kernel_rfl
theorem said_law : PySem.Challenge.rw_sc0063_02.wellSaid = true := by kernel_rfl
end Mine
open PySem PySem.W PySem.W.X PyProof.Rows
set_option maxHeartbeats 4000000 in
theorem PySem.Challenge.cw_sc0063_02_holds : PySem.Challenge.rw_sc0063_02.Holds := by
 w_on
 refine holds_law Mine.said_law fun said => ?_
 refine holds_openX (q := Mine.viewL) (loose := Mine.looseL) (Xt := fun _ => true) (XP := fun _ _ => True) (Yf := Mine.headY) (Ya := Mine.headA) Mine.left_law (fun _ _ => trivial) (fun _ _ _ _ _ => trivial) (by rfl) (by rfl) (by rfl) (fun s _ => recFacts_nil rfl) (by rfl) said (by decide +kernel) ⟨rfl, rfl, rfl, rfl, rfl, by decide +kernel⟩ ?hw ?hc
 case hw => w_witness2
 case hc =>
  intro w s₀ s₁ mg mb G y fa o pm cd doc dV kV ho hd hcd hD hmg hg args vals as L hpre hlay hrd hwl hlo
  obtain ⟨H, hn⟩ := Mine.headOk y
  have H1 := H.keep L.keeps
  refine Ground.open G ?_
  intro T B D TE TW
  have hfa : fa = Mine.a_law := Mine.law_addr H1 T.g hmg
  subst hfa
  wrow_args hpre hlay hrd hwl hlo
  obtain ⟨hat, hsz⟩ := script_at L
  rw [hn] at hat hsz
  subst hat
  all_lens
  exact Mine.fin_of H1 T.nolimit (ns := ‹List Int›) (by assumption) hsz hg (by first | assumption | lia) fun s' h1 h2 h3 => ⟨.inl ⟨_, _, [], rfl, fun _ => rfl, .bool true, by kernel_rfl, fun _ => ⟨List.nodup_nil, fun _ h => nomatch h⟩⟩, h1, h2, h3⟩
