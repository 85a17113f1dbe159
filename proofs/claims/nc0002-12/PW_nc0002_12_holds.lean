import PyProof.Rows.All
import Wide.All
import OpenK.AllK
import Wide.FinOn
import PySem.Challenge.RW_nc0002_12
open PySem PySem.W PySem.W.X PyProof.Rows
set_option compiler.extract_closed false
set_option genSizeOf false
set_option Elab.async false
set_option maxRecDepth 100000
set_option maxHeartbeats 0
set_option linter.unusedVariables false
set_option linter.unusedSimpArgs false
namespace AC
theorem aux0 (h : True := by rfl) : True := h
theorem aux1 (h : True := by decide) : True := h
theorem aux2 (h : True := by with_unfolding_all rfl) : True := h
theorem aux3 (h : True := by intro u; simp) : True := h
theorem aux4 (h : True := by intro zu; rfl) : True := h
theorem aux5 (h : True := by intro h; first | rfl | cases h) : True := h
theorem aux6 (h : True := by exact fun zu zu => KeepOk_plain (by intro a; simp)) : True := h
theorem aux7 (h : True := by exact cscope_of (by rfl)) : True := h
theorem aux8 (h : True := by exact OwnOk.nil) : True := h
theorem aux9 (h : True := by exact ⟨rfl, rfl⟩) : True := h
theorem cps {G : Prop} (h : ∀ P : Prop, (G → P) → P) : G := h G id
universe u1 u2 u3 u4 u5 u6 u7 u8 u9
theorem xa0_2 {p1 p2 : Prop} {P : Prop} (h : p1 ∧ p2) (k : p1 → p2 → P) : P := k h.1 h.2
theorem xa0_3 {p1 p2 p3 : Prop} {P : Prop} (h : p1 ∧ p2 ∧ p3) (k : p1 → p2 → p3 → P) : P := k h.1 h.2.1 h.2.2
theorem xa0_4 {p1 p2 p3 p4 : Prop} {P : Prop} (h : p1 ∧ p2 ∧ p3 ∧ p4) (k : p1 → p2 → p3 → p4 → P) : P := k h.1 h.2.1 h.2.2.1 h.2.2.2
theorem xa0_5 {p1 p2 p3 p4 p5 : Prop} {P : Prop} (h : p1 ∧ p2 ∧ p3 ∧ p4 ∧ p5) (k : p1 → p2 → p3 → p4 → p5 → P) : P := k h.1 h.2.1 h.2.2.1 h.2.2.2.1 h.2.2.2.2
theorem xa0_6 {p1 p2 p3 p4 p5 p6 : Prop} {P : Prop} (h : p1 ∧ p2 ∧ p3 ∧ p4 ∧ p5 ∧ p6) (k : p1 → p2 → p3 → p4 → p5 → p6 → P) : P := k h.1 h.2.1 h.2.2.1 h.2.2.2.1 h.2.2.2.2.1 h.2.2.2.2.2
theorem xa0_7 {p1 p2 p3 p4 p5 p6 p7 : Prop} {P : Prop} (h : p1 ∧ p2 ∧ p3 ∧ p4 ∧ p5 ∧ p6 ∧ p7) (k : p1 → p2 → p3 → p4 → p5 → p6 → p7 → P) : P := k h.1 h.2.1 h.2.2.1 h.2.2.2.1 h.2.2.2.2.1 h.2.2.2.2.2.1 h.2.2.2.2.2.2
theorem xa0_8 {p1 p2 p3 p4 p5 p6 p7 p8 : Prop} {P : Prop} (h : p1 ∧ p2 ∧ p3 ∧ p4 ∧ p5 ∧ p6 ∧ p7 ∧ p8) (k : p1 → p2 → p3 → p4 → p5 → p6 → p7 → p8 → P) : P := k h.1 h.2.1 h.2.2.1 h.2.2.2.1 h.2.2.2.2.1 h.2.2.2.2.2.1 h.2.2.2.2.2.2.1 h.2.2.2.2.2.2.2
theorem xa0_9 {p1 p2 p3 p4 p5 p6 p7 p8 p9 : Prop} {P : Prop} (h : p1 ∧ p2 ∧ p3 ∧ p4 ∧ p5 ∧ p6 ∧ p7 ∧ p8 ∧ p9) (k : p1 → p2 → p3 → p4 → p5 → p6 → p7 → p8 → p9 → P) : P := k h.1 h.2.1 h.2.2.1 h.2.2.2.1 h.2.2.2.2.1 h.2.2.2.2.2.1 h.2.2.2.2.2.2.1 h.2.2.2.2.2.2.2.1 h.2.2.2.2.2.2.2.2
theorem xa0_10 {p1 p2 p3 p4 p5 p6 p7 p8 p9 p10 : Prop} {P : Prop} (h : p1 ∧ p2 ∧ p3 ∧ p4 ∧ p5 ∧ p6 ∧ p7 ∧ p8 ∧ p9 ∧ p10) (k : p1 → p2 → p3 → p4 → p5 → p6 → p7 → p8 → p9 → p10 → P) : P := k h.1 h.2.1 h.2.2.1 h.2.2.2.1 h.2.2.2.2.1 h.2.2.2.2.2.1 h.2.2.2.2.2.2.1 h.2.2.2.2.2.2.2.1 h.2.2.2.2.2.2.2.2.1 h.2.2.2.2.2.2.2.2.2
theorem xa0_11 {p1 p2 p3 p4 p5 p6 p7 p8 p9 p10 p11 : Prop} {P : Prop} (h : p1 ∧ p2 ∧ p3 ∧ p4 ∧ p5 ∧ p6 ∧ p7 ∧ p8 ∧ p9 ∧ p10 ∧ p11) (k : p1 → p2 → p3 → p4 → p5 → p6 → p7 → p8 → p9 → p10 → p11 → P) : P := k h.1 h.2.1 h.2.2.1 h.2.2.2.1 h.2.2.2.2.1 h.2.2.2.2.2.1 h.2.2.2.2.2.2.1 h.2.2.2.2.2.2.2.1 h.2.2.2.2.2.2.2.2.1 h.2.2.2.2.2.2.2.2.2.1 h.2.2.2.2.2.2.2.2.2.2
theorem xa0_12 {p1 p2 p3 p4 p5 p6 p7 p8 p9 p10 p11 p12 : Prop} {P : Prop} (h : p1 ∧ p2 ∧ p3 ∧ p4 ∧ p5 ∧ p6 ∧ p7 ∧ p8 ∧ p9 ∧ p10 ∧ p11 ∧ p12) (k : p1 → p2 → p3 → p4 → p5 → p6 → p7 → p8 → p9 → p10 → p11 → p12 → P) : P := k h.1 h.2.1 h.2.2.1 h.2.2.2.1 h.2.2.2.2.1 h.2.2.2.2.2.1 h.2.2.2.2.2.2.1 h.2.2.2.2.2.2.2.1 h.2.2.2.2.2.2.2.2.1 h.2.2.2.2.2.2.2.2.2.1 h.2.2.2.2.2.2.2.2.2.2.1 h.2.2.2.2.2.2.2.2.2.2.2
theorem xa1_1 {α1 : Sort u1} {p1 : α1 → Prop} {P : Prop} (h : ∃ a1, p1 a1) (k : ∀ a1, p1 a1 → P) : P := h.elim fun a1 h => k a1 h
theorem xa1_2 {α1 : Sort u1} {p1 p2 : α1 → Prop} {P : Prop} (h : ∃ a1, p1 a1 ∧ p2 a1) (k : ∀ a1, p1 a1 → p2 a1 → P) : P := h.elim fun a1 h => k a1 h.1 h.2
theorem xa1_3 {α1 : Sort u1} {p1 p2 p3 : α1 → Prop} {P : Prop} (h : ∃ a1, p1 a1 ∧ p2 a1 ∧ p3 a1) (k : ∀ a1, p1 a1 → p2 a1 → p3 a1 → P) : P := h.elim fun a1 h => k a1 h.1 h.2.1 h.2.2
theorem xa1_4 {α1 : Sort u1} {p1 p2 p3 p4 : α1 → Prop} {P : Prop} (h : ∃ a1, p1 a1 ∧ p2 a1 ∧ p3 a1 ∧ p4 a1) (k : ∀ a1, p1 a1 → p2 a1 → p3 a1 → p4 a1 → P) : P := h.elim fun a1 h => k a1 h.1 h.2.1 h.2.2.1 h.2.2.2
theorem xa1_5 {α1 : Sort u1} {p1 p2 p3 p4 p5 : α1 → Prop} {P : Prop} (h : ∃ a1, p1 a1 ∧ p2 a1 ∧ p3 a1 ∧ p4 a1 ∧ p5 a1) (k : ∀ a1, p1 a1 → p2 a1 → p3 a1 → p4 a1 → p5 a1 → P) : P := h.elim fun a1 h => k a1 h.1 h.2.1 h.2.2.1 h.2.2.2.1 h.2.2.2.2
theorem xa1_6 {α1 : Sort u1} {p1 p2 p3 p4 p5 p6 : α1 → Prop} {P : Prop} (h : ∃ a1, p1 a1 ∧ p2 a1 ∧ p3 a1 ∧ p4 a1 ∧ p5 a1 ∧ p6 a1) (k : ∀ a1, p1 a1 → p2 a1 → p3 a1 → p4 a1 → p5 a1 → p6 a1 → P) : P := h.elim fun a1 h => k a1 h.1 h.2.1 h.2.2.1 h.2.2.2.1 h.2.2.2.2.1 h.2.2.2.2.2
theorem xa1_7 {α1 : Sort u1} {p1 p2 p3 p4 p5 p6 p7 : α1 → Prop} {P : Prop} (h : ∃ a1, p1 a1 ∧ p2 a1 ∧ p3 a1 ∧ p4 a1 ∧ p5 a1 ∧ p6 a1 ∧ p7 a1) (k : ∀ a1, p1 a1 → p2 a1 → p3 a1 → p4 a1 → p5 a1 → p6 a1 → p7 a1 → P) : P := h.elim fun a1 h => k a1 h.1 h.2.1 h.2.2.1 h.2.2.2.1 h.2.2.2.2.1 h.2.2.2.2.2.1 h.2.2.2.2.2.2
theorem xa1_8 {α1 : Sort u1} {p1 p2 p3 p4 p5 p6 p7 p8 : α1 → Prop} {P : Prop} (h : ∃ a1, p1 a1 ∧ p2 a1 ∧ p3 a1 ∧ p4 a1 ∧ p5 a1 ∧ p6 a1 ∧ p7 a1 ∧ p8 a1) (k : ∀ a1, p1 a1 → p2 a1 → p3 a1 → p4 a1 → p5 a1 → p6 a1 → p7 a1 → p8 a1 → P) : P := h.elim fun a1 h => k a1 h.1 h.2.1 h.2.2.1 h.2.2.2.1 h.2.2.2.2.1 h.2.2.2.2.2.1 h.2.2.2.2.2.2.1 h.2.2.2.2.2.2.2
theorem xa1_9 {α1 : Sort u1} {p1 p2 p3 p4 p5 p6 p7 p8 p9 : α1 → Prop} {P : Prop} (h : ∃ a1, p1 a1 ∧ p2 a1 ∧ p3 a1 ∧ p4 a1 ∧ p5 a1 ∧ p6 a1 ∧ p7 a1 ∧ p8 a1 ∧ p9 a1) (k : ∀ a1, p1 a1 → p2 a1 → p3 a1 → p4 a1 → p5 a1 → p6 a1 → p7 a1 → p8 a1 → p9 a1 → P) : P := h.elim fun a1 h => k a1 h.1 h.2.1 h.2.2.1 h.2.2.2.1 h.2.2.2.2.1 h.2.2.2.2.2.1 h.2.2.2.2.2.2.1 h.2.2.2.2.2.2.2.1 h.2.2.2.2.2.2.2.2
theorem xa1_10 {α1 : Sort u1} {p1 p2 p3 p4 p5 p6 p7 p8 p9 p10 : α1 → Prop} {P : Prop} (h : ∃ a1, p1 a1 ∧ p2 a1 ∧ p3 a1 ∧ p4 a1 ∧ p5 a1 ∧ p6 a1 ∧ p7 a1 ∧ p8 a1 ∧ p9 a1 ∧ p10 a1) (k : ∀ a1, p1 a1 → p2 a1 → p3 a1 → p4 a1 → p5 a1 → p6 a1 → p7 a1 → p8 a1 → p9 a1 → p10 a1 → P) : P := h.elim fun a1 h => k a1 h.1 h.2.1 h.2.2.1 h.2.2.2.1 h.2.2.2.2.1 h.2.2.2.2.2.1 h.2.2.2.2.2.2.1 h.2.2.2.2.2.2.2.1 h.2.2.2.2.2.2.2.2.1 h.2.2.2.2.2.2.2.2.2
theorem xa1_11 {α1 : Sort u1} {p1 p2 p3 p4 p5 p6 p7 p8 p9 p10 p11 : α1 → Prop} {P : Prop} (h : ∃ a1, p1 a1 ∧ p2 a1 ∧ p3 a1 ∧ p4 a1 ∧ p5 a1 ∧ p6 a1 ∧ p7 a1 ∧ p8 a1 ∧ p9 a1 ∧ p10 a1 ∧ p11 a1) (k : ∀ a1, p1 a1 → p2 a1 → p3 a1 → p4 a1 → p5 a1 → p6 a1 → p7 a1 → p8 a1 → p9 a1 → p10 a1 → p11 a1 → P) : P := h.elim fun a1 h => k a1 h.1 h.2.1 h.2.2.1 h.2.2.2.1 h.2.2.2.2.1 h.2.2.2.2.2.1 h.2.2.2.2.2.2.1 h.2.2.2.2.2.2.2.1 h.2.2.2.2.2.2.2.2.1 h.2.2.2.2.2.2.2.2.2.1 h.2.2.2.2.2.2.2.2.2.2
theorem xa1_12 {α1 : Sort u1} {p1 p2 p3 p4 p5 p6 p7 p8 p9 p10 p11 p12 : α1 → Prop} {P : Prop} (h : ∃ a1, p1 a1 ∧ p2 a1 ∧ p3 a1 ∧ p4 a1 ∧ p5 a1 ∧ p6 a1 ∧ p7 a1 ∧ p8 a1 ∧ p9 a1 ∧ p10 a1 ∧ p11 a1 ∧ p12 a1) (k : ∀ a1, p1 a1 → p2 a1 → p3 a1 → p4 a1 → p5 a1 → p6 a1 → p7 a1 → p8 a1 → p9 a1 → p10 a1 → p11 a1 → p12 a1 → P) : P := h.elim fun a1 h => k a1 h.1 h.2.1 h.2.2.1 h.2.2.2.1 h.2.2.2.2.1 h.2.2.2.2.2.1 h.2.2.2.2.2.2.1 h.2.2.2.2.2.2.2.1 h.2.2.2.2.2.2.2.2.1 h.2.2.2.2.2.2.2.2.2.1 h.2.2.2.2.2.2.2.2.2.2.1 h.2.2.2.2.2.2.2.2.2.2.2
theorem xa2_1 {α1 : Sort u1} {α2 : Sort u2} {p1 : α1 → α2 → Prop} {P : Prop} (h : ∃ a1 a2, p1 a1 a2) (k : ∀ a1 a2, p1 a1 a2 → P) : P := h.elim fun a1 h => h.elim fun a2 h => k a1 a2 h
theorem xa2_2 {α1 : Sort u1} {α2 : Sort u2} {p1 p2 : α1 → α2 → Prop} {P : Prop} (h : ∃ a1 a2, p1 a1 a2 ∧ p2 a1 a2) (k : ∀ a1 a2, p1 a1 a2 → p2 a1 a2 → P) : P := h.elim fun a1 h => h.elim fun a2 h => k a1 a2 h.1 h.2
theorem xa2_3 {α1 : Sort u1} {α2 : Sort u2} {p1 p2 p3 : α1 → α2 → Prop} {P : Prop} (h : ∃ a1 a2, p1 a1 a2 ∧ p2 a1 a2 ∧ p3 a1 a2) (k : ∀ a1 a2, p1 a1 a2 → p2 a1 a2 → p3 a1 a2 → P) : P := h.elim fun a1 h => h.elim fun a2 h => k a1 a2 h.1 h.2.1 h.2.2
theorem xa2_4 {α1 : Sort u1} {α2 : Sort u2} {p1 p2 p3 p4 : α1 → α2 → Prop} {P : Prop} (h : ∃ a1 a2, p1 a1 a2 ∧ p2 a1 a2 ∧ p3 a1 a2 ∧ p4 a1 a2) (k : ∀ a1 a2, p1 a1 a2 → p2 a1 a2 → p3 a1 a2 → p4 a1 a2 → P) : P := h.elim fun a1 h => h.elim fun a2 h => k a1 a2 h.1 h.2.1 h.2.2.1 h.2.2.2
theorem xa2_5 {α1 : Sort u1} {α2 : Sort u2} {p1 p2 p3 p4 p5 : α1 → α2 → Prop} {P : Prop} (h : ∃ a1 a2, p1 a1 a2 ∧ p2 a1 a2 ∧ p3 a1 a2 ∧ p4 a1 a2 ∧ p5 a1 a2) (k : ∀ a1 a2, p1 a1 a2 → p2 a1 a2 → p3 a1 a2 → p4 a1 a2 → p5 a1 a2 → P) : P := h.elim fun a1 h => h.elim fun a2 h => k a1 a2 h.1 h.2.1 h.2.2.1 h.2.2.2.1 h.2.2.2.2
theorem xa2_6 {α1 : Sort u1} {α2 : Sort u2} {p1 p2 p3 p4 p5 p6 : α1 → α2 → Prop} {P : Prop} (h : ∃ a1 a2, p1 a1 a2 ∧ p2 a1 a2 ∧ p3 a1 a2 ∧ p4 a1 a2 ∧ p5 a1 a2 ∧ p6 a1 a2) (k : ∀ a1 a2, p1 a1 a2 → p2 a1 a2 → p3 a1 a2 → p4 a1 a2 → p5 a1 a2 → p6 a1 a2 → P) : P := h.elim fun a1 h => h.elim fun a2 h => k a1 a2 h.1 h.2.1 h.2.2.1 h.2.2.2.1 h.2.2.2.2.1 h.2.2.2.2.2
theorem xa2_7 {α1 : Sort u1} {α2 : Sort u2} {p1 p2 p3 p4 p5 p6 p7 : α1 → α2 → Prop} {P : Prop} (h : ∃ a1 a2, p1 a1 a2 ∧ p2 a1 a2 ∧ p3 a1 a2 ∧ p4 a1 a2 ∧ p5 a1 a2 ∧ p6 a1 a2 ∧ p7 a1 a2) (k : ∀ a1 a2, p1 a1 a2 → p2 a1 a2 → p3 a1 a2 → p4 a1 a2 → p5 a1 a2 → p6 a1 a2 → p7 a1 a2 → P) : P := h.elim fun a1 h => h.elim fun a2 h => k a1 a2 h.1 h.2.1 h.2.2.1 h.2.2.2.1 h.2.2.2.2.1 h.2.2.2.2.2.1 h.2.2.2.2.2.2
theorem xa2_8 {α1 : Sort u1} {α2 : Sort u2} {p1 p2 p3 p4 p5 p6 p7 p8 : α1 → α2 → Prop} {P : Prop} (h : ∃ a1 a2, p1 a1 a2 ∧ p2 a1 a2 ∧ p3 a1 a2 ∧ p4 a1 a2 ∧ p5 a1 a2 ∧ p6 a1 a2 ∧ p7 a1 a2 ∧ p8 a1 a2) (k : ∀ a1 a2, p1 a1 a2 → p2 a1 a2 → p3 a1 a2 → p4 a1 a2 → p5 a1 a2 → p6 a1 a2 → p7 a1 a2 → p8 a1 a2 → P) : P := h.elim fun a1 h => h.elim fun a2 h => k a1 a2 h.1 h.2.1 h.2.2.1 h.2.2.2.1 h.2.2.2.2.1 h.2.2.2.2.2.1 h.2.2.2.2.2.2.1 h.2.2.2.2.2.2.2
theorem xa2_9 {α1 : Sort u1} {α2 : Sort u2} {p1 p2 p3 p4 p5 p6 p7 p8 p9 : α1 → α2 → Prop} {P : Prop} (h : ∃ a1 a2, p1 a1 a2 ∧ p2 a1 a2 ∧ p3 a1 a2 ∧ p4 a1 a2 ∧ p5 a1 a2 ∧ p6 a1 a2 ∧ p7 a1 a2 ∧ p8 a1 a2 ∧ p9 a1 a2) (k : ∀ a1 a2, p1 a1 a2 → p2 a1 a2 → p3 a1 a2 → p4 a1 a2 → p5 a1 a2 → p6 a1 a2 → p7 a1 a2 → p8 a1 a2 → p9 a1 a2 → P) : P := h.elim fun a1 h => h.elim fun a2 h => k a1 a2 h.1 h.2.1 h.2.2.1 h.2.2.2.1 h.2.2.2.2.1 h.2.2.2.2.2.1 h.2.2.2.2.2.2.1 h.2.2.2.2.2.2.2.1 h.2.2.2.2.2.2.2.2
theorem xa2_10 {α1 : Sort u1} {α2 : Sort u2} {p1 p2 p3 p4 p5 p6 p7 p8 p9 p10 : α1 → α2 → Prop} {P : Prop} (h : ∃ a1 a2, p1 a1 a2 ∧ p2 a1 a2 ∧ p3 a1 a2 ∧ p4 a1 a2 ∧ p5 a1 a2 ∧ p6 a1 a2 ∧ p7 a1 a2 ∧ p8 a1 a2 ∧ p9 a1 a2 ∧ p10 a1 a2) (k : ∀ a1 a2, p1 a1 a2 → p2 a1 a2 → p3 a1 a2 → p4 a1 a2 → p5 a1 a2 → p6 a1 a2 → p7 a1 a2 → p8 a1 a2 → p9 a1 a2 → p10 a1 a2 → P) : P := h.elim fun a1 h => h.elim fun a2 h => k a1 a2 h.1 h.2.1 h.2.2.1 h.2.2.2.1 h.2.2.2.2.1 h.2.2.2.2.2.1 h.2.2.2.2.2.2.1 h.2.2.2.2.2.2.2.1 h.2.2.2.2.2.2.2.2.1 h.2.2.2.2.2.2.2.2.2
theorem xa2_11 {α1 : Sort u1} {α2 : Sort u2} {p1 p2 p3 p4 p5 p6 p7 p8 p9 p10 p11 : α1 → α2 → Prop} {P : Prop} (h : ∃ a1 a2, p1 a1 a2 ∧ p2 a1 a2 ∧ p3 a1 a2 ∧ p4 a1 a2 ∧ p5 a1 a2 ∧ p6 a1 a2 ∧ p7 a1 a2 ∧ p8 a1 a2 ∧ p9 a1 a2 ∧ p10 a1 a2 ∧ p11 a1 a2) (k : ∀ a1 a2, p1 a1 a2 → p2 a1 a2 → p3 a1 a2 → p4 a1 a2 → p5 a1 a2 → p6 a1 a2 → p7 a1 a2 → p8 a1 a2 → p9 a1 a2 → p10 a1 a2 → p11 a1 a2 → P) : P := h.elim fun a1 h => h.elim fun a2 h => k a1 a2 h.1 h.2.1 h.2.2.1 h.2.2.2.1 h.2.2.2.2.1 h.2.2.2.2.2.1 h.2.2.2.2.2.2.1 h.2.2.2.2.2.2.2.1 h.2.2.2.2.2.2.2.2.1 h.2.2.2.2.2.2.2.2.2.1 h.2.2.2.2.2.2.2.2.2.2
theorem xa2_12 {α1 : Sort u1} {α2 : Sort u2} {p1 p2 p3 p4 p5 p6 p7 p8 p9 p10 p11 p12 : α1 → α2 → Prop} {P : Prop} (h : ∃ a1 a2, p1 a1 a2 ∧ p2 a1 a2 ∧ p3 a1 a2 ∧ p4 a1 a2 ∧ p5 a1 a2 ∧ p6 a1 a2 ∧ p7 a1 a2 ∧ p8 a1 a2 ∧ p9 a1 a2 ∧ p10 a1 a2 ∧ p11 a1 a2 ∧ p12 a1 a2) (k : ∀ a1 a2, p1 a1 a2 → p2 a1 a2 → p3 a1 a2 → p4 a1 a2 → p5 a1 a2 → p6 a1 a2 → p7 a1 a2 → p8 a1 a2 → p9 a1 a2 → p10 a1 a2 → p11 a1 a2 → p12 a1 a2 → P) : P := h.elim fun a1 h => h.elim fun a2 h => k a1 a2 h.1 h.2.1 h.2.2.1 h.2.2.2.1 h.2.2.2.2.1 h.2.2.2.2.2.1 h.2.2.2.2.2.2.1 h.2.2.2.2.2.2.2.1 h.2.2.2.2.2.2.2.2.1 h.2.2.2.2.2.2.2.2.2.1 h.2.2.2.2.2.2.2.2.2.2.1 h.2.2.2.2.2.2.2.2.2.2.2
theorem xa3_1 {α1 : Sort u1} {α2 : Sort u2} {α3 : Sort u3} {p1 : α1 → α2 → α3 → Prop} {P : Prop} (h : ∃ a1 a2 a3, p1 a1 a2 a3) (k : ∀ a1 a2 a3, p1 a1 a2 a3 → P) : P := h.elim fun a1 h => h.elim fun a2 h => h.elim fun a3 h => k a1 a2 a3 h
theorem xa3_2 {α1 : Sort u1} {α2 : Sort u2} {α3 : Sort u3} {p1 p2 : α1 → α2 → α3 → Prop} {P : Prop} (h : ∃ a1 a2 a3, p1 a1 a2 a3 ∧ p2 a1 a2 a3) (k : ∀ a1 a2 a3, p1 a1 a2 a3 → p2 a1 a2 a3 → P) : P := h.elim fun a1 h => h.elim fun a2 h => h.elim fun a3 h => k a1 a2 a3 h.1 h.2
theorem xa3_3 {α1 : Sort u1} {α2 : Sort u2} {α3 : Sort u3} {p1 p2 p3 : α1 → α2 → α3 → Prop} {P : Prop} (h : ∃ a1 a2 a3, p1 a1 a2 a3 ∧ p2 a1 a2 a3 ∧ p3 a1 a2 a3) (k : ∀ a1 a2 a3, p1 a1 a2 a3 → p2 a1 a2 a3 → p3 a1 a2 a3 → P) : P := h.elim fun a1 h => h.elim fun a2 h => h.elim fun a3 h => k a1 a2 a3 h.1 h.2.1 h.2.2
theorem xa3_4 {α1 : Sort u1} {α2 : Sort u2} {α3 : Sort u3} {p1 p2 p3 p4 : α1 → α2 → α3 → Prop} {P : Prop} (h : ∃ a1 a2 a3, p1 a1 a2 a3 ∧ p2 a1 a2 a3 ∧ p3 a1 a2 a3 ∧ p4 a1 a2 a3) (k : ∀ a1 a2 a3, p1 a1 a2 a3 → p2 a1 a2 a3 → p3 a1 a2 a3 → p4 a1 a2 a3 → P) : P := h.elim fun a1 h => h.elim fun a2 h => h.elim fun a3 h => k a1 a2 a3 h.1 h.2.1 h.2.2.1 h.2.2.2
theorem xa3_5 {α1 : Sort u1} {α2 : Sort u2} {α3 : Sort u3} {p1 p2 p3 p4 p5 : α1 → α2 → α3 → Prop} {P : Prop} (h : ∃ a1 a2 a3, p1 a1 a2 a3 ∧ p2 a1 a2 a3 ∧ p3 a1 a2 a3 ∧ p4 a1 a2 a3 ∧ p5 a1 a2 a3) (k : ∀ a1 a2 a3, p1 a1 a2 a3 → p2 a1 a2 a3 → p3 a1 a2 a3 → p4 a1 a2 a3 → p5 a1 a2 a3 → P) : P := h.elim fun a1 h => h.elim fun a2 h => h.elim fun a3 h => k a1 a2 a3 h.1 h.2.1 h.2.2.1 h.2.2.2.1 h.2.2.2.2
theorem xa3_6 {α1 : Sort u1} {α2 : Sort u2} {α3 : Sort u3} {p1 p2 p3 p4 p5 p6 : α1 → α2 → α3 → Prop} {P : Prop} (h : ∃ a1 a2 a3, p1 a1 a2 a3 ∧ p2 a1 a2 a3 ∧ p3 a1 a2 a3 ∧ p4 a1 a2 a3 ∧ p5 a1 a2 a3 ∧ p6 a1 a2 a3) (k : ∀ a1 a2 a3, p1 a1 a2 a3 → p2 a1 a2 a3 → p3 a1 a2 a3 → p4 a1 a2 a3 → p5 a1 a2 a3 → p6 a1 a2 a3 → P) : P := h.elim fun a1 h => h.elim fun a2 h => h.elim fun a3 h => k a1 a2 a3 h.1 h.2.1 h.2.2.1 h.2.2.2.1 h.2.2.2.2.1 h.2.2.2.2.2
theorem xa3_7 {α1 : Sort u1} {α2 : Sort u2} {α3 : Sort u3} {p1 p2 p3 p4 p5 p6 p7 : α1 → α2 → α3 → Prop} {P : Prop} (h : ∃ a1 a2 a3, p1 a1 a2 a3 ∧ p2 a1 a2 a3 ∧ p3 a1 a2 a3 ∧ p4 a1 a2 a3 ∧ p5 a1 a2 a3 ∧ p6 a1 a2 a3 ∧ p7 a1 a2 a3) (k : ∀ a1 a2 a3, p1 a1 a2 a3 → p2 a1 a2 a3 → p3 a1 a2 a3 → p4 a1 a2 a3 → p5 a1 a2 a3 → p6 a1 a2 a3 → p7 a1 a2 a3 → P) : P := h.elim fun a1 h => h.elim fun a2 h => h.elim fun a3 h => k a1 a2 a3 h.1 h.2.1 h.2.2.1 h.2.2.2.1 h.2.2.2.2.1 h.2.2.2.2.2.1 h.2.2.2.2.2.2
theorem xa3_8 {α1 : Sort u1} {α2 : Sort u2} {α3 : Sort u3} {p1 p2 p3 p4 p5 p6 p7 p8 : α1 → α2 → α3 → Prop} {P : Prop} (h : ∃ a1 a2 a3, p1 a1 a2 a3 ∧ p2 a1 a2 a3 ∧ p3 a1 a2 a3 ∧ p4 a1 a2 a3 ∧ p5 a1 a2 a3 ∧ p6 a1 a2 a3 ∧ p7 a1 a2 a3 ∧ p8 a1 a2 a3) (k : ∀ a1 a2 a3, p1 a1 a2 a3 → p2 a1 a2 a3 → p3 a1 a2 a3 → p4 a1 a2 a3 → p5 a1 a2 a3 → p6 a1 a2 a3 → p7 a1 a2 a3 → p8 a1 a2 a3 → P) : P := h.elim fun a1 h => h.elim fun a2 h => h.elim fun a3 h => k a1 a2 a3 h.1 h.2.1 h.2.2.1 h.2.2.2.1 h.2.2.2.2.1 h.2.2.2.2.2.1 h.2.2.2.2.2.2.1 h.2.2.2.2.2.2.2
theorem xa3_9 {α1 : Sort u1} {α2 : Sort u2} {α3 : Sort u3} {p1 p2 p3 p4 p5 p6 p7 p8 p9 : α1 → α2 → α3 → Prop} {P : Prop} (h : ∃ a1 a2 a3, p1 a1 a2 a3 ∧ p2 a1 a2 a3 ∧ p3 a1 a2 a3 ∧ p4 a1 a2 a3 ∧ p5 a1 a2 a3 ∧ p6 a1 a2 a3 ∧ p7 a1 a2 a3 ∧ p8 a1 a2 a3 ∧ p9 a1 a2 a3) (k : ∀ a1 a2 a3, p1 a1 a2 a3 → p2 a1 a2 a3 → p3 a1 a2 a3 → p4 a1 a2 a3 → p5 a1 a2 a3 → p6 a1 a2 a3 → p7 a1 a2 a3 → p8 a1 a2 a3 → p9 a1 a2 a3 → P) : P := h.elim fun a1 h => h.elim fun a2 h => h.elim fun a3 h => k a1 a2 a3 h.1 h.2.1 h.2.2.1 h.2.2.2.1 h.2.2.2.2.1 h.2.2.2.2.2.1 h.2.2.2.2.2.2.1 h.2.2.2.2.2.2.2.1 h.2.2.2.2.2.2.2.2
theorem xa3_10 {α1 : Sort u1} {α2 : Sort u2} {α3 : Sort u3} {p1 p2 p3 p4 p5 p6 p7 p8 p9 p10 : α1 → α2 → α3 → Prop} {P : Prop} (h : ∃ a1 a2 a3, p1 a1 a2 a3 ∧ p2 a1 a2 a3 ∧ p3 a1 a2 a3 ∧ p4 a1 a2 a3 ∧ p5 a1 a2 a3 ∧ p6 a1 a2 a3 ∧ p7 a1 a2 a3 ∧ p8 a1 a2 a3 ∧ p9 a1 a2 a3 ∧ p10 a1 a2 a3) (k : ∀ a1 a2 a3, p1 a1 a2 a3 → p2 a1 a2 a3 → p3 a1 a2 a3 → p4 a1 a2 a3 → p5 a1 a2 a3 → p6 a1 a2 a3 → p7 a1 a2 a3 → p8 a1 a2 a3 → p9 a1 a2 a3 → p10 a1 a2 a3 → P) : P := h.elim fun a1 h => h.elim fun a2 h => h.elim fun a3 h => k a1 a2 a3 h.1 h.2.1 h.2.2.1 h.2.2.2.1 h.2.2.2.2.1 h.2.2.2.2.2.1 h.2.2.2.2.2.2.1 h.2.2.2.2.2.2.2.1 h.2.2.2.2.2.2.2.2.1 h.2.2.2.2.2.2.2.2.2
theorem xa3_11 {α1 : Sort u1} {α2 : Sort u2} {α3 : Sort u3} {p1 p2 p3 p4 p5 p6 p7 p8 p9 p10 p11 : α1 → α2 → α3 → Prop} {P : Prop} (h : ∃ a1 a2 a3, p1 a1 a2 a3 ∧ p2 a1 a2 a3 ∧ p3 a1 a2 a3 ∧ p4 a1 a2 a3 ∧ p5 a1 a2 a3 ∧ p6 a1 a2 a3 ∧ p7 a1 a2 a3 ∧ p8 a1 a2 a3 ∧ p9 a1 a2 a3 ∧ p10 a1 a2 a3 ∧ p11 a1 a2 a3) (k : ∀ a1 a2 a3, p1 a1 a2 a3 → p2 a1 a2 a3 → p3 a1 a2 a3 → p4 a1 a2 a3 → p5 a1 a2 a3 → p6 a1 a2 a3 → p7 a1 a2 a3 → p8 a1 a2 a3 → p9 a1 a2 a3 → p10 a1 a2 a3 → p11 a1 a2 a3 → P) : P := h.elim fun a1 h => h.elim fun a2 h => h.elim fun a3 h => k a1 a2 a3 h.1 h.2.1 h.2.2.1 h.2.2.2.1 h.2.2.2.2.1 h.2.2.2.2.2.1 h.2.2.2.2.2.2.1 h.2.2.2.2.2.2.2.1 h.2.2.2.2.2.2.2.2.1 h.2.2.2.2.2.2.2.2.2.1 h.2.2.2.2.2.2.2.2.2.2
theorem xa3_12 {α1 : Sort u1} {α2 : Sort u2} {α3 : Sort u3} {p1 p2 p3 p4 p5 p6 p7 p8 p9 p10 p11 p12 : α1 → α2 → α3 → Prop} {P : Prop} (h : ∃ a1 a2 a3, p1 a1 a2 a3 ∧ p2 a1 a2 a3 ∧ p3 a1 a2 a3 ∧ p4 a1 a2 a3 ∧ p5 a1 a2 a3 ∧ p6 a1 a2 a3 ∧ p7 a1 a2 a3 ∧ p8 a1 a2 a3 ∧ p9 a1 a2 a3 ∧ p10 a1 a2 a3 ∧ p11 a1 a2 a3 ∧ p12 a1 a2 a3) (k : ∀ a1 a2 a3, p1 a1 a2 a3 → p2 a1 a2 a3 → p3 a1 a2 a3 → p4 a1 a2 a3 → p5 a1 a2 a3 → p6 a1 a2 a3 → p7 a1 a2 a3 → p8 a1 a2 a3 → p9 a1 a2 a3 → p10 a1 a2 a3 → p11 a1 a2 a3 → p12 a1 a2 a3 → P) : P := h.elim fun a1 h => h.elim fun a2 h => h.elim fun a3 h => k a1 a2 a3 h.1 h.2.1 h.2.2.1 h.2.2.2.1 h.2.2.2.2.1 h.2.2.2.2.2.1 h.2.2.2.2.2.2.1 h.2.2.2.2.2.2.2.1 h.2.2.2.2.2.2.2.2.1 h.2.2.2.2.2.2.2.2.2.1 h.2.2.2.2.2.2.2.2.2.2.1 h.2.2.2.2.2.2.2.2.2.2.2
theorem xa4_1 {α1 : Sort u1} {α2 : Sort u2} {α3 : Sort u3} {α4 : Sort u4} {p1 : α1 → α2 → α3 → α4 → Prop} {P : Prop} (h : ∃ a1 a2 a3 a4, p1 a1 a2 a3 a4) (k : ∀ a1 a2 a3 a4, p1 a1 a2 a3 a4 → P) : P := h.elim fun a1 h => h.elim fun a2 h => h.elim fun a3 h => h.elim fun a4 h => k a1 a2 a3 a4 h
theorem xa4_2 {α1 : Sort u1} {α2 : Sort u2} {α3 : Sort u3} {α4 : Sort u4} {p1 p2 : α1 → α2 → α3 → α4 → Prop} {P : Prop} (h : ∃ a1 a2 a3 a4, p1 a1 a2 a3 a4 ∧ p2 a1 a2 a3 a4) (k : ∀ a1 a2 a3 a4, p1 a1 a2 a3 a4 → p2 a1 a2 a3 a4 → P) : P := h.elim fun a1 h => h.elim fun a2 h => h.elim fun a3 h => h.elim fun a4 h => k a1 a2 a3 a4 h.1 h.2
theorem xa4_3 {α1 : Sort u1} {α2 : Sort u2} {α3 : Sort u3} {α4 : Sort u4} {p1 p2 p3 : α1 → α2 → α3 → α4 → Prop} {P : Prop} (h : ∃ a1 a2 a3 a4, p1 a1 a2 a3 a4 ∧ p2 a1 a2 a3 a4 ∧ p3 a1 a2 a3 a4) (k : ∀ a1 a2 a3 a4, p1 a1 a2 a3 a4 → p2 a1 a2 a3 a4 → p3 a1 a2 a3 a4 → P) : P := h.elim fun a1 h => h.elim fun a2 h => h.elim fun a3 h => h.elim fun a4 h => k a1 a2 a3 a4 h.1 h.2.1 h.2.2
theorem xa4_4 {α1 : Sort u1} {α2 : Sort u2} {α3 : Sort u3} {α4 : Sort u4} {p1 p2 p3 p4 : α1 → α2 → α3 → α4 → Prop} {P : Prop} (h : ∃ a1 a2 a3 a4, p1 a1 a2 a3 a4 ∧ p2 a1 a2 a3 a4 ∧ p3 a1 a2 a3 a4 ∧ p4 a1 a2 a3 a4) (k : ∀ a1 a2 a3 a4, p1 a1 a2 a3 a4 → p2 a1 a2 a3 a4 → p3 a1 a2 a3 a4 → p4 a1 a2 a3 a4 → P) : P := h.elim fun a1 h => h.elim fun a2 h => h.elim fun a3 h => h.elim fun a4 h => k a1 a2 a3 a4 h.1 h.2.1 h.2.2.1 h.2.2.2
theorem xa4_5 {α1 : Sort u1} {α2 : Sort u2} {α3 : Sort u3} {α4 : Sort u4} {p1 p2 p3 p4 p5 : α1 → α2 → α3 → α4 → Prop} {P : Prop} (h : ∃ a1 a2 a3 a4, p1 a1 a2 a3 a4 ∧ p2 a1 a2 a3 a4 ∧ p3 a1 a2 a3 a4 ∧ p4 a1 a2 a3 a4 ∧ p5 a1 a2 a3 a4) (k : ∀ a1 a2 a3 a4, p1 a1 a2 a3 a4 → p2 a1 a2 a3 a4 → p3 a1 a2 a3 a4 → p4 a1 a2 a3 a4 → p5 a1 a2 a3 a4 → P) : P := h.elim fun a1 h => h.elim fun a2 h => h.elim fun a3 h => h.elim fun a4 h => k a1 a2 a3 a4 h.1 h.2.1 h.2.2.1 h.2.2.2.1 h.2.2.2.2
theorem xa4_6 {α1 : Sort u1} {α2 : Sort u2} {α3 : Sort u3} {α4 : Sort u4} {p1 p2 p3 p4 p5 p6 : α1 → α2 → α3 → α4 → Prop} {P : Prop} (h : ∃ a1 a2 a3 a4, p1 a1 a2 a3 a4 ∧ p2 a1 a2 a3 a4 ∧ p3 a1 a2 a3 a4 ∧ p4 a1 a2 a3 a4 ∧ p5 a1 a2 a3 a4 ∧ p6 a1 a2 a3 a4) (k : ∀ a1 a2 a3 a4, p1 a1 a2 a3 a4 → p2 a1 a2 a3 a4 → p3 a1 a2 a3 a4 → p4 a1 a2 a3 a4 → p5 a1 a2 a3 a4 → p6 a1 a2 a3 a4 → P) : P := h.elim fun a1 h => h.elim fun a2 h => h.elim fun a3 h => h.elim fun a4 h => k a1 a2 a3 a4 h.1 h.2.1 h.2.2.1 h.2.2.2.1 h.2.2.2.2.1 h.2.2.2.2.2
theorem xa4_7 {α1 : Sort u1} {α2 : Sort u2} {α3 : Sort u3} {α4 : Sort u4} {p1 p2 p3 p4 p5 p6 p7 : α1 → α2 → α3 → α4 → Prop} {P : Prop} (h : ∃ a1 a2 a3 a4, p1 a1 a2 a3 a4 ∧ p2 a1 a2 a3 a4 ∧ p3 a1 a2 a3 a4 ∧ p4 a1 a2 a3 a4 ∧ p5 a1 a2 a3 a4 ∧ p6 a1 a2 a3 a4 ∧ p7 a1 a2 a3 a4) (k : ∀ a1 a2 a3 a4, p1 a1 a2 a3 a4 → p2 a1 a2 a3 a4 → p3 a1 a2 a3 a4 → p4 a1 a2 a3 a4 → p5 a1 a2 a3 a4 → p6 a1 a2 a3 a4 → p7 a1 a2 a3 a4 → P) : P := h.elim fun a1 h => h.elim fun a2 h => h.elim fun a3 h => h.elim fun a4 h => k a1 a2 a3 a4 h.1 h.2.1 h.2.2.1 h.2.2.2.1 h.2.2.2.2.1 h.2.2.2.2.2.1 h.2.2.2.2.2.2
theorem xa4_8 {α1 : Sort u1} {α2 : Sort u2} {α3 : Sort u3} {α4 : Sort u4} {p1 p2 p3 p4 p5 p6 p7 p8 : α1 → α2 → α3 → α4 → Prop} {P : Prop} (h : ∃ a1 a2 a3 a4, p1 a1 a2 a3 a4 ∧ p2 a1 a2 a3 a4 ∧ p3 a1 a2 a3 a4 ∧ p4 a1 a2 a3 a4 ∧ p5 a1 a2 a3 a4 ∧ p6 a1 a2 a3 a4 ∧ p7 a1 a2 a3 a4 ∧ p8 a1 a2 a3 a4) (k : ∀ a1 a2 a3 a4, p1 a1 a2 a3 a4 → p2 a1 a2 a3 a4 → p3 a1 a2 a3 a4 → p4 a1 a2 a3 a4 → p5 a1 a2 a3 a4 → p6 a1 a2 a3 a4 → p7 a1 a2 a3 a4 → p8 a1 a2 a3 a4 → P) : P := h.elim fun a1 h => h.elim fun a2 h => h.elim fun a3 h => h.elim fun a4 h => k a1 a2 a3 a4 h.1 h.2.1 h.2.2.1 h.2.2.2.1 h.2.2.2.2.1 h.2.2.2.2.2.1 h.2.2.2.2.2.2.1 h.2.2.2.2.2.2.2
theorem xa4_9 {α1 : Sort u1} {α2 : Sort u2} {α3 : Sort u3} {α4 : Sort u4} {p1 p2 p3 p4 p5 p6 p7 p8 p9 : α1 → α2 → α3 → α4 → Prop} {P : Prop} (h : ∃ a1 a2 a3 a4, p1 a1 a2 a3 a4 ∧ p2 a1 a2 a3 a4 ∧ p3 a1 a2 a3 a4 ∧ p4 a1 a2 a3 a4 ∧ p5 a1 a2 a3 a4 ∧ p6 a1 a2 a3 a4 ∧ p7 a1 a2 a3 a4 ∧ p8 a1 a2 a3 a4 ∧ p9 a1 a2 a3 a4) (k : ∀ a1 a2 a3 a4, p1 a1 a2 a3 a4 → p2 a1 a2 a3 a4 → p3 a1 a2 a3 a4 → p4 a1 a2 a3 a4 → p5 a1 a2 a3 a4 → p6 a1 a2 a3 a4 → p7 a1 a2 a3 a4 → p8 a1 a2 a3 a4 → p9 a1 a2 a3 a4 → P) : P := h.elim fun a1 h => h.elim fun a2 h => h.elim fun a3 h => h.elim fun a4 h => k a1 a2 a3 a4 h.1 h.2.1 h.2.2.1 h.2.2.2.1 h.2.2.2.2.1 h.2.2.2.2.2.1 h.2.2.2.2.2.2.1 h.2.2.2.2.2.2.2.1 h.2.2.2.2.2.2.2.2
theorem xa4_10 {α1 : Sort u1} {α2 : Sort u2} {α3 : Sort u3} {α4 : Sort u4} {p1 p2 p3 p4 p5 p6 p7 p8 p9 p10 : α1 → α2 → α3 → α4 → Prop} {P : Prop} (h : ∃ a1 a2 a3 a4, p1 a1 a2 a3 a4 ∧ p2 a1 a2 a3 a4 ∧ p3 a1 a2 a3 a4 ∧ p4 a1 a2 a3 a4 ∧ p5 a1 a2 a3 a4 ∧ p6 a1 a2 a3 a4 ∧ p7 a1 a2 a3 a4 ∧ p8 a1 a2 a3 a4 ∧ p9 a1 a2 a3 a4 ∧ p10 a1 a2 a3 a4) (k : ∀ a1 a2 a3 a4, p1 a1 a2 a3 a4 → p2 a1 a2 a3 a4 → p3 a1 a2 a3 a4 → p4 a1 a2 a3 a4 → p5 a1 a2 a3 a4 → p6 a1 a2 a3 a4 → p7 a1 a2 a3 a4 → p8 a1 a2 a3 a4 → p9 a1 a2 a3 a4 → p10 a1 a2 a3 a4 → P) : P := h.elim fun a1 h => h.elim fun a2 h => h.elim fun a3 h => h.elim fun a4 h => k a1 a2 a3 a4 h.1 h.2.1 h.2.2.1 h.2.2.2.1 h.2.2.2.2.1 h.2.2.2.2.2.1 h.2.2.2.2.2.2.1 h.2.2.2.2.2.2.2.1 h.2.2.2.2.2.2.2.2.1 h.2.2.2.2.2.2.2.2.2
theorem xa4_11 {α1 : Sort u1} {α2 : Sort u2} {α3 : Sort u3} {α4 : Sort u4} {p1 p2 p3 p4 p5 p6 p7 p8 p9 p10 p11 : α1 → α2 → α3 → α4 → Prop} {P : Prop} (h : ∃ a1 a2 a3 a4, p1 a1 a2 a3 a4 ∧ p2 a1 a2 a3 a4 ∧ p3 a1 a2 a3 a4 ∧ p4 a1 a2 a3 a4 ∧ p5 a1 a2 a3 a4 ∧ p6 a1 a2 a3 a4 ∧ p7 a1 a2 a3 a4 ∧ p8 a1 a2 a3 a4 ∧ p9 a1 a2 a3 a4 ∧ p10 a1 a2 a3 a4 ∧ p11 a1 a2 a3 a4) (k : ∀ a1 a2 a3 a4, p1 a1 a2 a3 a4 → p2 a1 a2 a3 a4 → p3 a1 a2 a3 a4 → p4 a1 a2 a3 a4 → p5 a1 a2 a3 a4 → p6 a1 a2 a3 a4 → p7 a1 a2 a3 a4 → p8 a1 a2 a3 a4 → p9 a1 a2 a3 a4 → p10 a1 a2 a3 a4 → p11 a1 a2 a3 a4 → P) : P := h.elim fun a1 h => h.elim fun a2 h => h.elim fun a3 h => h.elim fun a4 h => k a1 a2 a3 a4 h.1 h.2.1 h.2.2.1 h.2.2.2.1 h.2.2.2.2.1 h.2.2.2.2.2.1 h.2.2.2.2.2.2.1 h.2.2.2.2.2.2.2.1 h.2.2.2.2.2.2.2.2.1 h.2.2.2.2.2.2.2.2.2.1 h.2.2.2.2.2.2.2.2.2.2
theorem xa4_12 {α1 : Sort u1} {α2 : Sort u2} {α3 : Sort u3} {α4 : Sort u4} {p1 p2 p3 p4 p5 p6 p7 p8 p9 p10 p11 p12 : α1 → α2 → α3 → α4 → Prop} {P : Prop} (h : ∃ a1 a2 a3 a4, p1 a1 a2 a3 a4 ∧ p2 a1 a2 a3 a4 ∧ p3 a1 a2 a3 a4 ∧ p4 a1 a2 a3 a4 ∧ p5 a1 a2 a3 a4 ∧ p6 a1 a2 a3 a4 ∧ p7 a1 a2 a3 a4 ∧ p8 a1 a2 a3 a4 ∧ p9 a1 a2 a3 a4 ∧ p10 a1 a2 a3 a4 ∧ p11 a1 a2 a3 a4 ∧ p12 a1 a2 a3 a4) (k : ∀ a1 a2 a3 a4, p1 a1 a2 a3 a4 → p2 a1 a2 a3 a4 → p3 a1 a2 a3 a4 → p4 a1 a2 a3 a4 → p5 a1 a2 a3 a4 → p6 a1 a2 a3 a4 → p7 a1 a2 a3 a4 → p8 a1 a2 a3 a4 → p9 a1 a2 a3 a4 → p10 a1 a2 a3 a4 → p11 a1 a2 a3 a4 → p12 a1 a2 a3 a4 → P) : P := h.elim fun a1 h => h.elim fun a2 h => h.elim fun a3 h => h.elim fun a4 h => k a1 a2 a3 a4 h.1 h.2.1 h.2.2.1 h.2.2.2.1 h.2.2.2.2.1 h.2.2.2.2.2.1 h.2.2.2.2.2.2.1 h.2.2.2.2.2.2.2.1 h.2.2.2.2.2.2.2.2.1 h.2.2.2.2.2.2.2.2.2.1 h.2.2.2.2.2.2.2.2.2.2.1 h.2.2.2.2.2.2.2.2.2.2.2
theorem xa5_1 {α1 : Sort u1} {α2 : Sort u2} {α3 : Sort u3} {α4 : Sort u4} {α5 : Sort u5} {p1 : α1 → α2 → α3 → α4 → α5 → Prop} {P : Prop} (h : ∃ a1 a2 a3 a4 a5, p1 a1 a2 a3 a4 a5) (k : ∀ a1 a2 a3 a4 a5, p1 a1 a2 a3 a4 a5 → P) : P := h.elim fun a1 h => h.elim fun a2 h => h.elim fun a3 h => h.elim fun a4 h => h.elim fun a5 h => k a1 a2 a3 a4 a5 h
theorem xa5_2 {α1 : Sort u1} {α2 : Sort u2} {α3 : Sort u3} {α4 : Sort u4} {α5 : Sort u5} {p1 p2 : α1 → α2 → α3 → α4 → α5 → Prop} {P : Prop} (h : ∃ a1 a2 a3 a4 a5, p1 a1 a2 a3 a4 a5 ∧ p2 a1 a2 a3 a4 a5) (k : ∀ a1 a2 a3 a4 a5, p1 a1 a2 a3 a4 a5 → p2 a1 a2 a3 a4 a5 → P) : P := h.elim fun a1 h => h.elim fun a2 h => h.elim fun a3 h => h.elim fun a4 h => h.elim fun a5 h => k a1 a2 a3 a4 a5 h.1 h.2
theorem xa5_3 {α1 : Sort u1} {α2 : Sort u2} {α3 : Sort u3} {α4 : Sort u4} {α5 : Sort u5} {p1 p2 p3 : α1 → α2 → α3 → α4 → α5 → Prop} {P : Prop} (h : ∃ a1 a2 a3 a4 a5, p1 a1 a2 a3 a4 a5 ∧ p2 a1 a2 a3 a4 a5 ∧ p3 a1 a2 a3 a4 a5) (k : ∀ a1 a2 a3 a4 a5, p1 a1 a2 a3 a4 a5 → p2 a1 a2 a3 a4 a5 → p3 a1 a2 a3 a4 a5 → P) : P := h.elim fun a1 h => h.elim fun a2 h => h.elim fun a3 h => h.elim fun a4 h => h.elim fun a5 h => k a1 a2 a3 a4 a5 h.1 h.2.1 h.2.2
theorem xa5_4 {α1 : Sort u1} {α2 : Sort u2} {α3 : Sort u3} {α4 : Sort u4} {α5 : Sort u5} {p1 p2 p3 p4 : α1 → α2 → α3 → α4 → α5 → Prop} {P : Prop} (h : ∃ a1 a2 a3 a4 a5, p1 a1 a2 a3 a4 a5 ∧ p2 a1 a2 a3 a4 a5 ∧ p3 a1 a2 a3 a4 a5 ∧ p4 a1 a2 a3 a4 a5) (k : ∀ a1 a2 a3 a4 a5, p1 a1 a2 a3 a4 a5 → p2 a1 a2 a3 a4 a5 → p3 a1 a2 a3 a4 a5 → p4 a1 a2 a3 a4 a5 → P) : P := h.elim fun a1 h => h.elim fun a2 h => h.elim fun a3 h => h.elim fun a4 h => h.elim fun a5 h => k a1 a2 a3 a4 a5 h.1 h.2.1 h.2.2.1 h.2.2.2
theorem xa5_5 {α1 : Sort u1} {α2 : Sort u2} {α3 : Sort u3} {α4 : Sort u4} {α5 : Sort u5} {p1 p2 p3 p4 p5 : α1 → α2 → α3 → α4 → α5 → Prop} {P : Prop} (h : ∃ a1 a2 a3 a4 a5, p1 a1 a2 a3 a4 a5 ∧ p2 a1 a2 a3 a4 a5 ∧ p3 a1 a2 a3 a4 a5 ∧ p4 a1 a2 a3 a4 a5 ∧ p5 a1 a2 a3 a4 a5) (k : ∀ a1 a2 a3 a4 a5, p1 a1 a2 a3 a4 a5 → p2 a1 a2 a3 a4 a5 → p3 a1 a2 a3 a4 a5 → p4 a1 a2 a3 a4 a5 → p5 a1 a2 a3 a4 a5 → P) : P := h.elim fun a1 h => h.elim fun a2 h => h.elim fun a3 h => h.elim fun a4 h => h.elim fun a5 h => k a1 a2 a3 a4 a5 h.1 h.2.1 h.2.2.1 h.2.2.2.1 h.2.2.2.2
theorem xa5_6 {α1 : Sort u1} {α2 : Sort u2} {α3 : Sort u3} {α4 : Sort u4} {α5 : Sort u5} {p1 p2 p3 p4 p5 p6 : α1 → α2 → α3 → α4 → α5 → Prop} {P : Prop} (h : ∃ a1 a2 a3 a4 a5, p1 a1 a2 a3 a4 a5 ∧ p2 a1 a2 a3 a4 a5 ∧ p3 a1 a2 a3 a4 a5 ∧ p4 a1 a2 a3 a4 a5 ∧ p5 a1 a2 a3 a4 a5 ∧ p6 a1 a2 a3 a4 a5) (k : ∀ a1 a2 a3 a4 a5, p1 a1 a2 a3 a4 a5 → p2 a1 a2 a3 a4 a5 → p3 a1 a2 a3 a4 a5 → p4 a1 a2 a3 a4 a5 → p5 a1 a2 a3 a4 a5 → p6 a1 a2 a3 a4 a5 → P) : P := h.elim fun a1 h => h.elim fun a2 h => h.elim fun a3 h => h.elim fun a4 h => h.elim fun a5 h => k a1 a2 a3 a4 a5 h.1 h.2.1 h.2.2.1 h.2.2.2.1 h.2.2.2.2.1 h.2.2.2.2.2
theorem xa5_7 {α1 : Sort u1} {α2 : Sort u2} {α3 : Sort u3} {α4 : Sort u4} {α5 : Sort u5} {p1 p2 p3 p4 p5 p6 p7 : α1 → α2 → α3 → α4 → α5 → Prop} {P : Prop} (h : ∃ a1 a2 a3 a4 a5, p1 a1 a2 a3 a4 a5 ∧ p2 a1 a2 a3 a4 a5 ∧ p3 a1 a2 a3 a4 a5 ∧ p4 a1 a2 a3 a4 a5 ∧ p5 a1 a2 a3 a4 a5 ∧ p6 a1 a2 a3 a4 a5 ∧ p7 a1 a2 a3 a4 a5) (k : ∀ a1 a2 a3 a4 a5, p1 a1 a2 a3 a4 a5 → p2 a1 a2 a3 a4 a5 → p3 a1 a2 a3 a4 a5 → p4 a1 a2 a3 a4 a5 → p5 a1 a2 a3 a4 a5 → p6 a1 a2 a3 a4 a5 → p7 a1 a2 a3 a4 a5 → P) : P := h.elim fun a1 h => h.elim fun a2 h => h.elim fun a3 h => h.elim fun a4 h => h.elim fun a5 h => k a1 a2 a3 a4 a5 h.1 h.2.1 h.2.2.1 h.2.2.2.1 h.2.2.2.2.1 h.2.2.2.2.2.1 h.2.2.2.2.2.2
theorem xa5_8 {α1 : Sort u1} {α2 : Sort u2} {α3 : Sort u3} {α4 : Sort u4} {α5 : Sort u5} {p1 p2 p3 p4 p5 p6 p7 p8 : α1 → α2 → α3 → α4 → α5 → Prop} {P : Prop} (h : ∃ a1 a2 a3 a4 a5, p1 a1 a2 a3 a4 a5 ∧ p2 a1 a2 a3 a4 a5 ∧ p3 a1 a2 a3 a4 a5 ∧ p4 a1 a2 a3 a4 a5 ∧ p5 a1 a2 a3 a4 a5 ∧ p6 a1 a2 a3 a4 a5 ∧ p7 a1 a2 a3 a4 a5 ∧ p8 a1 a2 a3 a4 a5) (k : ∀ a1 a2 a3 a4 a5, p1 a1 a2 a3 a4 a5 → p2 a1 a2 a3 a4 a5 → p3 a1 a2 a3 a4 a5 → p4 a1 a2 a3 a4 a5 → p5 a1 a2 a3 a4 a5 → p6 a1 a2 a3 a4 a5 → p7 a1 a2 a3 a4 a5 → p8 a1 a2 a3 a4 a5 → P) : P := h.elim fun a1 h => h.elim fun a2 h => h.elim fun a3 h => h.elim fun a4 h => h.elim fun a5 h => k a1 a2 a3 a4 a5 h.1 h.2.1 h.2.2.1 h.2.2.2.1 h.2.2.2.2.1 h.2.2.2.2.2.1 h.2.2.2.2.2.2.1 h.2.2.2.2.2.2.2
theorem xa5_9 {α1 : Sort u1} {α2 : Sort u2} {α3 : Sort u3} {α4 : Sort u4} {α5 : Sort u5} {p1 p2 p3 p4 p5 p6 p7 p8 p9 : α1 → α2 → α3 → α4 → α5 → Prop} {P : Prop} (h : ∃ a1 a2 a3 a4 a5, p1 a1 a2 a3 a4 a5 ∧ p2 a1 a2 a3 a4 a5 ∧ p3 a1 a2 a3 a4 a5 ∧ p4 a1 a2 a3 a4 a5 ∧ p5 a1 a2 a3 a4 a5 ∧ p6 a1 a2 a3 a4 a5 ∧ p7 a1 a2 a3 a4 a5 ∧ p8 a1 a2 a3 a4 a5 ∧ p9 a1 a2 a3 a4 a5) (k : ∀ a1 a2 a3 a4 a5, p1 a1 a2 a3 a4 a5 → p2 a1 a2 a3 a4 a5 → p3 a1 a2 a3 a4 a5 → p4 a1 a2 a3 a4 a5 → p5 a1 a2 a3 a4 a5 → p6 a1 a2 a3 a4 a5 → p7 a1 a2 a3 a4 a5 → p8 a1 a2 a3 a4 a5 → p9 a1 a2 a3 a4 a5 → P) : P := h.elim fun a1 h => h.elim fun a2 h => h.elim fun a3 h => h.elim fun a4 h => h.elim fun a5 h => k a1 a2 a3 a4 a5 h.1 h.2.1 h.2.2.1 h.2.2.2.1 h.2.2.2.2.1 h.2.2.2.2.2.1 h.2.2.2.2.2.2.1 h.2.2.2.2.2.2.2.1 h.2.2.2.2.2.2.2.2
theorem xa5_10 {α1 : Sort u1} {α2 : Sort u2} {α3 : Sort u3} {α4 : Sort u4} {α5 : Sort u5} {p1 p2 p3 p4 p5 p6 p7 p8 p9 p10 : α1 → α2 → α3 → α4 → α5 → Prop} {P : Prop} (h : ∃ a1 a2 a3 a4 a5, p1 a1 a2 a3 a4 a5 ∧ p2 a1 a2 a3 a4 a5 ∧ p3 a1 a2 a3 a4 a5 ∧ p4 a1 a2 a3 a4 a5 ∧ p5 a1 a2 a3 a4 a5 ∧ p6 a1 a2 a3 a4 a5 ∧ p7 a1 a2 a3 a4 a5 ∧ p8 a1 a2 a3 a4 a5 ∧ p9 a1 a2 a3 a4 a5 ∧ p10 a1 a2 a3 a4 a5) (k : ∀ a1 a2 a3 a4 a5, p1 a1 a2 a3 a4 a5 → p2 a1 a2 a3 a4 a5 → p3 a1 a2 a3 a4 a5 → p4 a1 a2 a3 a4 a5 → p5 a1 a2 a3 a4 a5 → p6 a1 a2 a3 a4 a5 → p7 a1 a2 a3 a4 a5 → p8 a1 a2 a3 a4 a5 → p9 a1 a2 a3 a4 a5 → p10 a1 a2 a3 a4 a5 → P) : P := h.elim fun a1 h => h.elim fun a2 h => h.elim fun a3 h => h.elim fun a4 h => h.elim fun a5 h => k a1 a2 a3 a4 a5 h.1 h.2.1 h.2.2.1 h.2.2.2.1 h.2.2.2.2.1 h.2.2.2.2.2.1 h.2.2.2.2.2.2.1 h.2.2.2.2.2.2.2.1 h.2.2.2.2.2.2.2.2.1 h.2.2.2.2.2.2.2.2.2
theorem xa5_11 {α1 : Sort u1} {α2 : Sort u2} {α3 : Sort u3} {α4 : Sort u4} {α5 : Sort u5} {p1 p2 p3 p4 p5 p6 p7 p8 p9 p10 p11 : α1 → α2 → α3 → α4 → α5 → Prop} {P : Prop} (h : ∃ a1 a2 a3 a4 a5, p1 a1 a2 a3 a4 a5 ∧ p2 a1 a2 a3 a4 a5 ∧ p3 a1 a2 a3 a4 a5 ∧ p4 a1 a2 a3 a4 a5 ∧ p5 a1 a2 a3 a4 a5 ∧ p6 a1 a2 a3 a4 a5 ∧ p7 a1 a2 a3 a4 a5 ∧ p8 a1 a2 a3 a4 a5 ∧ p9 a1 a2 a3 a4 a5 ∧ p10 a1 a2 a3 a4 a5 ∧ p11 a1 a2 a3 a4 a5) (k : ∀ a1 a2 a3 a4 a5, p1 a1 a2 a3 a4 a5 → p2 a1 a2 a3 a4 a5 → p3 a1 a2 a3 a4 a5 → p4 a1 a2 a3 a4 a5 → p5 a1 a2 a3 a4 a5 → p6 a1 a2 a3 a4 a5 → p7 a1 a2 a3 a4 a5 → p8 a1 a2 a3 a4 a5 → p9 a1 a2 a3 a4 a5 → p10 a1 a2 a3 a4 a5 → p11 a1 a2 a3 a4 a5 → P) : P := h.elim fun a1 h => h.elim fun a2 h => h.elim fun a3 h => h.elim fun a4 h => h.elim fun a5 h => k a1 a2 a3 a4 a5 h.1 h.2.1 h.2.2.1 h.2.2.2.1 h.2.2.2.2.1 h.2.2.2.2.2.1 h.2.2.2.2.2.2.1 h.2.2.2.2.2.2.2.1 h.2.2.2.2.2.2.2.2.1 h.2.2.2.2.2.2.2.2.2.1 h.2.2.2.2.2.2.2.2.2.2
theorem xa6_1 {α1 : Sort u1} {α2 : Sort u2} {α3 : Sort u3} {α4 : Sort u4} {α5 : Sort u5} {α6 : Sort u6} {p1 : α1 → α2 → α3 → α4 → α5 → α6 → Prop} {P : Prop} (h : ∃ a1 a2 a3 a4 a5 a6, p1 a1 a2 a3 a4 a5 a6) (k : ∀ a1 a2 a3 a4 a5 a6, p1 a1 a2 a3 a4 a5 a6 → P) : P := h.elim fun a1 h => h.elim fun a2 h => h.elim fun a3 h => h.elim fun a4 h => h.elim fun a5 h => h.elim fun a6 h => k a1 a2 a3 a4 a5 a6 h
theorem xa6_2 {α1 : Sort u1} {α2 : Sort u2} {α3 : Sort u3} {α4 : Sort u4} {α5 : Sort u5} {α6 : Sort u6} {p1 p2 : α1 → α2 → α3 → α4 → α5 → α6 → Prop} {P : Prop} (h : ∃ a1 a2 a3 a4 a5 a6, p1 a1 a2 a3 a4 a5 a6 ∧ p2 a1 a2 a3 a4 a5 a6) (k : ∀ a1 a2 a3 a4 a5 a6, p1 a1 a2 a3 a4 a5 a6 → p2 a1 a2 a3 a4 a5 a6 → P) : P := h.elim fun a1 h => h.elim fun a2 h => h.elim fun a3 h => h.elim fun a4 h => h.elim fun a5 h => h.elim fun a6 h => k a1 a2 a3 a4 a5 a6 h.1 h.2
theorem xa6_3 {α1 : Sort u1} {α2 : Sort u2} {α3 : Sort u3} {α4 : Sort u4} {α5 : Sort u5} {α6 : Sort u6} {p1 p2 p3 : α1 → α2 → α3 → α4 → α5 → α6 → Prop} {P : Prop} (h : ∃ a1 a2 a3 a4 a5 a6, p1 a1 a2 a3 a4 a5 a6 ∧ p2 a1 a2 a3 a4 a5 a6 ∧ p3 a1 a2 a3 a4 a5 a6) (k : ∀ a1 a2 a3 a4 a5 a6, p1 a1 a2 a3 a4 a5 a6 → p2 a1 a2 a3 a4 a5 a6 → p3 a1 a2 a3 a4 a5 a6 → P) : P := h.elim fun a1 h => h.elim fun a2 h => h.elim fun a3 h => h.elim fun a4 h => h.elim fun a5 h => h.elim fun a6 h => k a1 a2 a3 a4 a5 a6 h.1 h.2.1 h.2.2
theorem xa6_4 {α1 : Sort u1} {α2 : Sort u2} {α3 : Sort u3} {α4 : Sort u4} {α5 : Sort u5} {α6 : Sort u6} {p1 p2 p3 p4 : α1 → α2 → α3 → α4 → α5 → α6 → Prop} {P : Prop} (h : ∃ a1 a2 a3 a4 a5 a6, p1 a1 a2 a3 a4 a5 a6 ∧ p2 a1 a2 a3 a4 a5 a6 ∧ p3 a1 a2 a3 a4 a5 a6 ∧ p4 a1 a2 a3 a4 a5 a6) (k : ∀ a1 a2 a3 a4 a5 a6, p1 a1 a2 a3 a4 a5 a6 → p2 a1 a2 a3 a4 a5 a6 → p3 a1 a2 a3 a4 a5 a6 → p4 a1 a2 a3 a4 a5 a6 → P) : P := h.elim fun a1 h => h.elim fun a2 h => h.elim fun a3 h => h.elim fun a4 h => h.elim fun a5 h => h.elim fun a6 h => k a1 a2 a3 a4 a5 a6 h.1 h.2.1 h.2.2.1 h.2.2.2
theorem xa6_5 {α1 : Sort u1} {α2 : Sort u2} {α3 : Sort u3} {α4 : Sort u4} {α5 : Sort u5} {α6 : Sort u6} {p1 p2 p3 p4 p5 : α1 → α2 → α3 → α4 → α5 → α6 → Prop} {P : Prop} (h : ∃ a1 a2 a3 a4 a5 a6, p1 a1 a2 a3 a4 a5 a6 ∧ p2 a1 a2 a3 a4 a5 a6 ∧ p3 a1 a2 a3 a4 a5 a6 ∧ p4 a1 a2 a3 a4 a5 a6 ∧ p5 a1 a2 a3 a4 a5 a6) (k : ∀ a1 a2 a3 a4 a5 a6, p1 a1 a2 a3 a4 a5 a6 → p2 a1 a2 a3 a4 a5 a6 → p3 a1 a2 a3 a4 a5 a6 → p4 a1 a2 a3 a4 a5 a6 → p5 a1 a2 a3 a4 a5 a6 → P) : P := h.elim fun a1 h => h.elim fun a2 h => h.elim fun a3 h => h.elim fun a4 h => h.elim fun a5 h => h.elim fun a6 h => k a1 a2 a3 a4 a5 a6 h.1 h.2.1 h.2.2.1 h.2.2.2.1 h.2.2.2.2
theorem xa6_6 {α1 : Sort u1} {α2 : Sort u2} {α3 : Sort u3} {α4 : Sort u4} {α5 : Sort u5} {α6 : Sort u6} {p1 p2 p3 p4 p5 p6 : α1 → α2 → α3 → α4 → α5 → α6 → Prop} {P : Prop} (h : ∃ a1 a2 a3 a4 a5 a6, p1 a1 a2 a3 a4 a5 a6 ∧ p2 a1 a2 a3 a4 a5 a6 ∧ p3 a1 a2 a3 a4 a5 a6 ∧ p4 a1 a2 a3 a4 a5 a6 ∧ p5 a1 a2 a3 a4 a5 a6 ∧ p6 a1 a2 a3 a4 a5 a6) (k : ∀ a1 a2 a3 a4 a5 a6, p1 a1 a2 a3 a4 a5 a6 → p2 a1 a2 a3 a4 a5 a6 → p3 a1 a2 a3 a4 a5 a6 → p4 a1 a2 a3 a4 a5 a6 → p5 a1 a2 a3 a4 a5 a6 → p6 a1 a2 a3 a4 a5 a6 → P) : P := h.elim fun a1 h => h.elim fun a2 h => h.elim fun a3 h => h.elim fun a4 h => h.elim fun a5 h => h.elim fun a6 h => k a1 a2 a3 a4 a5 a6 h.1 h.2.1 h.2.2.1 h.2.2.2.1 h.2.2.2.2.1 h.2.2.2.2.2
theorem xa6_7 {α1 : Sort u1} {α2 : Sort u2} {α3 : Sort u3} {α4 : Sort u4} {α5 : Sort u5} {α6 : Sort u6} {p1 p2 p3 p4 p5 p6 p7 : α1 → α2 → α3 → α4 → α5 → α6 → Prop} {P : Prop} (h : ∃ a1 a2 a3 a4 a5 a6, p1 a1 a2 a3 a4 a5 a6 ∧ p2 a1 a2 a3 a4 a5 a6 ∧ p3 a1 a2 a3 a4 a5 a6 ∧ p4 a1 a2 a3 a4 a5 a6 ∧ p5 a1 a2 a3 a4 a5 a6 ∧ p6 a1 a2 a3 a4 a5 a6 ∧ p7 a1 a2 a3 a4 a5 a6) (k : ∀ a1 a2 a3 a4 a5 a6, p1 a1 a2 a3 a4 a5 a6 → p2 a1 a2 a3 a4 a5 a6 → p3 a1 a2 a3 a4 a5 a6 → p4 a1 a2 a3 a4 a5 a6 → p5 a1 a2 a3 a4 a5 a6 → p6 a1 a2 a3 a4 a5 a6 → p7 a1 a2 a3 a4 a5 a6 → P) : P := h.elim fun a1 h => h.elim fun a2 h => h.elim fun a3 h => h.elim fun a4 h => h.elim fun a5 h => h.elim fun a6 h => k a1 a2 a3 a4 a5 a6 h.1 h.2.1 h.2.2.1 h.2.2.2.1 h.2.2.2.2.1 h.2.2.2.2.2.1 h.2.2.2.2.2.2
theorem xa6_8 {α1 : Sort u1} {α2 : Sort u2} {α3 : Sort u3} {α4 : Sort u4} {α5 : Sort u5} {α6 : Sort u6} {p1 p2 p3 p4 p5 p6 p7 p8 : α1 → α2 → α3 → α4 → α5 → α6 → Prop} {P : Prop} (h : ∃ a1 a2 a3 a4 a5 a6, p1 a1 a2 a3 a4 a5 a6 ∧ p2 a1 a2 a3 a4 a5 a6 ∧ p3 a1 a2 a3 a4 a5 a6 ∧ p4 a1 a2 a3 a4 a5 a6 ∧ p5 a1 a2 a3 a4 a5 a6 ∧ p6 a1 a2 a3 a4 a5 a6 ∧ p7 a1 a2 a3 a4 a5 a6 ∧ p8 a1 a2 a3 a4 a5 a6) (k : ∀ a1 a2 a3 a4 a5 a6, p1 a1 a2 a3 a4 a5 a6 → p2 a1 a2 a3 a4 a5 a6 → p3 a1 a2 a3 a4 a5 a6 → p4 a1 a2 a3 a4 a5 a6 → p5 a1 a2 a3 a4 a5 a6 → p6 a1 a2 a3 a4 a5 a6 → p7 a1 a2 a3 a4 a5 a6 → p8 a1 a2 a3 a4 a5 a6 → P) : P := h.elim fun a1 h => h.elim fun a2 h => h.elim fun a3 h => h.elim fun a4 h => h.elim fun a5 h => h.elim fun a6 h => k a1 a2 a3 a4 a5 a6 h.1 h.2.1 h.2.2.1 h.2.2.2.1 h.2.2.2.2.1 h.2.2.2.2.2.1 h.2.2.2.2.2.2.1 h.2.2.2.2.2.2.2
theorem xa6_9 {α1 : Sort u1} {α2 : Sort u2} {α3 : Sort u3} {α4 : Sort u4} {α5 : Sort u5} {α6 : Sort u6} {p1 p2 p3 p4 p5 p6 p7 p8 p9 : α1 → α2 → α3 → α4 → α5 → α6 → Prop} {P : Prop} (h : ∃ a1 a2 a3 a4 a5 a6, p1 a1 a2 a3 a4 a5 a6 ∧ p2 a1 a2 a3 a4 a5 a6 ∧ p3 a1 a2 a3 a4 a5 a6 ∧ p4 a1 a2 a3 a4 a5 a6 ∧ p5 a1 a2 a3 a4 a5 a6 ∧ p6 a1 a2 a3 a4 a5 a6 ∧ p7 a1 a2 a3 a4 a5 a6 ∧ p8 a1 a2 a3 a4 a5 a6 ∧ p9 a1 a2 a3 a4 a5 a6) (k : ∀ a1 a2 a3 a4 a5 a6, p1 a1 a2 a3 a4 a5 a6 → p2 a1 a2 a3 a4 a5 a6 → p3 a1 a2 a3 a4 a5 a6 → p4 a1 a2 a3 a4 a5 a6 → p5 a1 a2 a3 a4 a5 a6 → p6 a1 a2 a3 a4 a5 a6 → p7 a1 a2 a3 a4 a5 a6 → p8 a1 a2 a3 a4 a5 a6 → p9 a1 a2 a3 a4 a5 a6 → P) : P := h.elim fun a1 h => h.elim fun a2 h => h.elim fun a3 h => h.elim fun a4 h => h.elim fun a5 h => h.elim fun a6 h => k a1 a2 a3 a4 a5 a6 h.1 h.2.1 h.2.2.1 h.2.2.2.1 h.2.2.2.2.1 h.2.2.2.2.2.1 h.2.2.2.2.2.2.1 h.2.2.2.2.2.2.2.1 h.2.2.2.2.2.2.2.2
theorem xa6_10 {α1 : Sort u1} {α2 : Sort u2} {α3 : Sort u3} {α4 : Sort u4} {α5 : Sort u5} {α6 : Sort u6} {p1 p2 p3 p4 p5 p6 p7 p8 p9 p10 : α1 → α2 → α3 → α4 → α5 → α6 → Prop} {P : Prop} (h : ∃ a1 a2 a3 a4 a5 a6, p1 a1 a2 a3 a4 a5 a6 ∧ p2 a1 a2 a3 a4 a5 a6 ∧ p3 a1 a2 a3 a4 a5 a6 ∧ p4 a1 a2 a3 a4 a5 a6 ∧ p5 a1 a2 a3 a4 a5 a6 ∧ p6 a1 a2 a3 a4 a5 a6 ∧ p7 a1 a2 a3 a4 a5 a6 ∧ p8 a1 a2 a3 a4 a5 a6 ∧ p9 a1 a2 a3 a4 a5 a6 ∧ p10 a1 a2 a3 a4 a5 a6) (k : ∀ a1 a2 a3 a4 a5 a6, p1 a1 a2 a3 a4 a5 a6 → p2 a1 a2 a3 a4 a5 a6 → p3 a1 a2 a3 a4 a5 a6 → p4 a1 a2 a3 a4 a5 a6 → p5 a1 a2 a3 a4 a5 a6 → p6 a1 a2 a3 a4 a5 a6 → p7 a1 a2 a3 a4 a5 a6 → p8 a1 a2 a3 a4 a5 a6 → p9 a1 a2 a3 a4 a5 a6 → p10 a1 a2 a3 a4 a5 a6 → P) : P := h.elim fun a1 h => h.elim fun a2 h => h.elim fun a3 h => h.elim fun a4 h => h.elim fun a5 h => h.elim fun a6 h => k a1 a2 a3 a4 a5 a6 h.1 h.2.1 h.2.2.1 h.2.2.2.1 h.2.2.2.2.1 h.2.2.2.2.2.1 h.2.2.2.2.2.2.1 h.2.2.2.2.2.2.2.1 h.2.2.2.2.2.2.2.2.1 h.2.2.2.2.2.2.2.2.2
theorem xa7_1 {α1 : Sort u1} {α2 : Sort u2} {α3 : Sort u3} {α4 : Sort u4} {α5 : Sort u5} {α6 : Sort u6} {α7 : Sort u7} {p1 : α1 → α2 → α3 → α4 → α5 → α6 → α7 → Prop} {P : Prop} (h : ∃ a1 a2 a3 a4 a5 a6 a7, p1 a1 a2 a3 a4 a5 a6 a7) (k : ∀ a1 a2 a3 a4 a5 a6 a7, p1 a1 a2 a3 a4 a5 a6 a7 → P) : P := h.elim fun a1 h => h.elim fun a2 h => h.elim fun a3 h => h.elim fun a4 h => h.elim fun a5 h => h.elim fun a6 h => h.elim fun a7 h => k a1 a2 a3 a4 a5 a6 a7 h
theorem xa7_2 {α1 : Sort u1} {α2 : Sort u2} {α3 : Sort u3} {α4 : Sort u4} {α5 : Sort u5} {α6 : Sort u6} {α7 : Sort u7} {p1 p2 : α1 → α2 → α3 → α4 → α5 → α6 → α7 → Prop} {P : Prop} (h : ∃ a1 a2 a3 a4 a5 a6 a7, p1 a1 a2 a3 a4 a5 a6 a7 ∧ p2 a1 a2 a3 a4 a5 a6 a7) (k : ∀ a1 a2 a3 a4 a5 a6 a7, p1 a1 a2 a3 a4 a5 a6 a7 → p2 a1 a2 a3 a4 a5 a6 a7 → P) : P := h.elim fun a1 h => h.elim fun a2 h => h.elim fun a3 h => h.elim fun a4 h => h.elim fun a5 h => h.elim fun a6 h => h.elim fun a7 h => k a1 a2 a3 a4 a5 a6 a7 h.1 h.2
theorem xa7_3 {α1 : Sort u1} {α2 : Sort u2} {α3 : Sort u3} {α4 : Sort u4} {α5 : Sort u5} {α6 : Sort u6} {α7 : Sort u7} {p1 p2 p3 : α1 → α2 → α3 → α4 → α5 → α6 → α7 → Prop} {P : Prop} (h : ∃ a1 a2 a3 a4 a5 a6 a7, p1 a1 a2 a3 a4 a5 a6 a7 ∧ p2 a1 a2 a3 a4 a5 a6 a7 ∧ p3 a1 a2 a3 a4 a5 a6 a7) (k : ∀ a1 a2 a3 a4 a5 a6 a7, p1 a1 a2 a3 a4 a5 a6 a7 → p2 a1 a2 a3 a4 a5 a6 a7 → p3 a1 a2 a3 a4 a5 a6 a7 → P) : P := h.elim fun a1 h => h.elim fun a2 h => h.elim fun a3 h => h.elim fun a4 h => h.elim fun a5 h => h.elim fun a6 h => h.elim fun a7 h => k a1 a2 a3 a4 a5 a6 a7 h.1 h.2.1 h.2.2
theorem xa7_4 {α1 : Sort u1} {α2 : Sort u2} {α3 : Sort u3} {α4 : Sort u4} {α5 : Sort u5} {α6 : Sort u6} {α7 : Sort u7} {p1 p2 p3 p4 : α1 → α2 → α3 → α4 → α5 → α6 → α7 → Prop} {P : Prop} (h : ∃ a1 a2 a3 a4 a5 a6 a7, p1 a1 a2 a3 a4 a5 a6 a7 ∧ p2 a1 a2 a3 a4 a5 a6 a7 ∧ p3 a1 a2 a3 a4 a5 a6 a7 ∧ p4 a1 a2 a3 a4 a5 a6 a7) (k : ∀ a1 a2 a3 a4 a5 a6 a7, p1 a1 a2 a3 a4 a5 a6 a7 → p2 a1 a2 a3 a4 a5 a6 a7 → p3 a1 a2 a3 a4 a5 a6 a7 → p4 a1 a2 a3 a4 a5 a6 a7 → P) : P := h.elim fun a1 h => h.elim fun a2 h => h.elim fun a3 h => h.elim fun a4 h => h.elim fun a5 h => h.elim fun a6 h => h.elim fun a7 h => k a1 a2 a3 a4 a5 a6 a7 h.1 h.2.1 h.2.2.1 h.2.2.2
theorem xa7_5 {α1 : Sort u1} {α2 : Sort u2} {α3 : Sort u3} {α4 : Sort u4} {α5 : Sort u5} {α6 : Sort u6} {α7 : Sort u7} {p1 p2 p3 p4 p5 : α1 → α2 → α3 → α4 → α5 → α6 → α7 → Prop} {P : Prop} (h : ∃ a1 a2 a3 a4 a5 a6 a7, p1 a1 a2 a3 a4 a5 a6 a7 ∧ p2 a1 a2 a3 a4 a5 a6 a7 ∧ p3 a1 a2 a3 a4 a5 a6 a7 ∧ p4 a1 a2 a3 a4 a5 a6 a7 ∧ p5 a1 a2 a3 a4 a5 a6 a7) (k : ∀ a1 a2 a3 a4 a5 a6 a7, p1 a1 a2 a3 a4 a5 a6 a7 → p2 a1 a2 a3 a4 a5 a6 a7 → p3 a1 a2 a3 a4 a5 a6 a7 → p4 a1 a2 a3 a4 a5 a6 a7 → p5 a1 a2 a3 a4 a5 a6 a7 → P) : P := h.elim fun a1 h => h.elim fun a2 h => h.elim fun a3 h => h.elim fun a4 h => h.elim fun a5 h => h.elim fun a6 h => h.elim fun a7 h => k a1 a2 a3 a4 a5 a6 a7 h.1 h.2.1 h.2.2.1 h.2.2.2.1 h.2.2.2.2
theorem xa7_6 {α1 : Sort u1} {α2 : Sort u2} {α3 : Sort u3} {α4 : Sort u4} {α5 : Sort u5} {α6 : Sort u6} {α7 : Sort u7} {p1 p2 p3 p4 p5 p6 : α1 → α2 → α3 → α4 → α5 → α6 → α7 → Prop} {P : Prop} (h : ∃ a1 a2 a3 a4 a5 a6 a7, p1 a1 a2 a3 a4 a5 a6 a7 ∧ p2 a1 a2 a3 a4 a5 a6 a7 ∧ p3 a1 a2 a3 a4 a5 a6 a7 ∧ p4 a1 a2 a3 a4 a5 a6 a7 ∧ p5 a1 a2 a3 a4 a5 a6 a7 ∧ p6 a1 a2 a3 a4 a5 a6 a7) (k : ∀ a1 a2 a3 a4 a5 a6 a7, p1 a1 a2 a3 a4 a5 a6 a7 → p2 a1 a2 a3 a4 a5 a6 a7 → p3 a1 a2 a3 a4 a5 a6 a7 → p4 a1 a2 a3 a4 a5 a6 a7 → p5 a1 a2 a3 a4 a5 a6 a7 → p6 a1 a2 a3 a4 a5 a6 a7 → P) : P := h.elim fun a1 h => h.elim fun a2 h => h.elim fun a3 h => h.elim fun a4 h => h.elim fun a5 h => h.elim fun a6 h => h.elim fun a7 h => k a1 a2 a3 a4 a5 a6 a7 h.1 h.2.1 h.2.2.1 h.2.2.2.1 h.2.2.2.2.1 h.2.2.2.2.2
theorem xa7_7 {α1 : Sort u1} {α2 : Sort u2} {α3 : Sort u3} {α4 : Sort u4} {α5 : Sort u5} {α6 : Sort u6} {α7 : Sort u7} {p1 p2 p3 p4 p5 p6 p7 : α1 → α2 → α3 → α4 → α5 → α6 → α7 → Prop} {P : Prop} (h : ∃ a1 a2 a3 a4 a5 a6 a7, p1 a1 a2 a3 a4 a5 a6 a7 ∧ p2 a1 a2 a3 a4 a5 a6 a7 ∧ p3 a1 a2 a3 a4 a5 a6 a7 ∧ p4 a1 a2 a3 a4 a5 a6 a7 ∧ p5 a1 a2 a3 a4 a5 a6 a7 ∧ p6 a1 a2 a3 a4 a5 a6 a7 ∧ p7 a1 a2 a3 a4 a5 a6 a7) (k : ∀ a1 a2 a3 a4 a5 a6 a7, p1 a1 a2 a3 a4 a5 a6 a7 → p2 a1 a2 a3 a4 a5 a6 a7 → p3 a1 a2 a3 a4 a5 a6 a7 → p4 a1 a2 a3 a4 a5 a6 a7 → p5 a1 a2 a3 a4 a5 a6 a7 → p6 a1 a2 a3 a4 a5 a6 a7 → p7 a1 a2 a3 a4 a5 a6 a7 → P) : P := h.elim fun a1 h => h.elim fun a2 h => h.elim fun a3 h => h.elim fun a4 h => h.elim fun a5 h => h.elim fun a6 h => h.elim fun a7 h => k a1 a2 a3 a4 a5 a6 a7 h.1 h.2.1 h.2.2.1 h.2.2.2.1 h.2.2.2.2.1 h.2.2.2.2.2.1 h.2.2.2.2.2.2
theorem xa7_8 {α1 : Sort u1} {α2 : Sort u2} {α3 : Sort u3} {α4 : Sort u4} {α5 : Sort u5} {α6 : Sort u6} {α7 : Sort u7} {p1 p2 p3 p4 p5 p6 p7 p8 : α1 → α2 → α3 → α4 → α5 → α6 → α7 → Prop} {P : Prop} (h : ∃ a1 a2 a3 a4 a5 a6 a7, p1 a1 a2 a3 a4 a5 a6 a7 ∧ p2 a1 a2 a3 a4 a5 a6 a7 ∧ p3 a1 a2 a3 a4 a5 a6 a7 ∧ p4 a1 a2 a3 a4 a5 a6 a7 ∧ p5 a1 a2 a3 a4 a5 a6 a7 ∧ p6 a1 a2 a3 a4 a5 a6 a7 ∧ p7 a1 a2 a3 a4 a5 a6 a7 ∧ p8 a1 a2 a3 a4 a5 a6 a7) (k : ∀ a1 a2 a3 a4 a5 a6 a7, p1 a1 a2 a3 a4 a5 a6 a7 → p2 a1 a2 a3 a4 a5 a6 a7 → p3 a1 a2 a3 a4 a5 a6 a7 → p4 a1 a2 a3 a4 a5 a6 a7 → p5 a1 a2 a3 a4 a5 a6 a7 → p6 a1 a2 a3 a4 a5 a6 a7 → p7 a1 a2 a3 a4 a5 a6 a7 → p8 a1 a2 a3 a4 a5 a6 a7 → P) : P := h.elim fun a1 h => h.elim fun a2 h => h.elim fun a3 h => h.elim fun a4 h => h.elim fun a5 h => h.elim fun a6 h => h.elim fun a7 h => k a1 a2 a3 a4 a5 a6 a7 h.1 h.2.1 h.2.2.1 h.2.2.2.1 h.2.2.2.2.1 h.2.2.2.2.2.1 h.2.2.2.2.2.2.1 h.2.2.2.2.2.2.2
theorem xa7_9 {α1 : Sort u1} {α2 : Sort u2} {α3 : Sort u3} {α4 : Sort u4} {α5 : Sort u5} {α6 : Sort u6} {α7 : Sort u7} {p1 p2 p3 p4 p5 p6 p7 p8 p9 : α1 → α2 → α3 → α4 → α5 → α6 → α7 → Prop} {P : Prop} (h : ∃ a1 a2 a3 a4 a5 a6 a7, p1 a1 a2 a3 a4 a5 a6 a7 ∧ p2 a1 a2 a3 a4 a5 a6 a7 ∧ p3 a1 a2 a3 a4 a5 a6 a7 ∧ p4 a1 a2 a3 a4 a5 a6 a7 ∧ p5 a1 a2 a3 a4 a5 a6 a7 ∧ p6 a1 a2 a3 a4 a5 a6 a7 ∧ p7 a1 a2 a3 a4 a5 a6 a7 ∧ p8 a1 a2 a3 a4 a5 a6 a7 ∧ p9 a1 a2 a3 a4 a5 a6 a7) (k : ∀ a1 a2 a3 a4 a5 a6 a7, p1 a1 a2 a3 a4 a5 a6 a7 → p2 a1 a2 a3 a4 a5 a6 a7 → p3 a1 a2 a3 a4 a5 a6 a7 → p4 a1 a2 a3 a4 a5 a6 a7 → p5 a1 a2 a3 a4 a5 a6 a7 → p6 a1 a2 a3 a4 a5 a6 a7 → p7 a1 a2 a3 a4 a5 a6 a7 → p8 a1 a2 a3 a4 a5 a6 a7 → p9 a1 a2 a3 a4 a5 a6 a7 → P) : P := h.elim fun a1 h => h.elim fun a2 h => h.elim fun a3 h => h.elim fun a4 h => h.elim fun a5 h => h.elim fun a6 h => h.elim fun a7 h => k a1 a2 a3 a4 a5 a6 a7 h.1 h.2.1 h.2.2.1 h.2.2.2.1 h.2.2.2.2.1 h.2.2.2.2.2.1 h.2.2.2.2.2.2.1 h.2.2.2.2.2.2.2.1 h.2.2.2.2.2.2.2.2
theorem xa8_1 {α1 : Sort u1} {α2 : Sort u2} {α3 : Sort u3} {α4 : Sort u4} {α5 : Sort u5} {α6 : Sort u6} {α7 : Sort u7} {α8 : Sort u8} {p1 : α1 → α2 → α3 → α4 → α5 → α6 → α7 → α8 → Prop} {P : Prop} (h : ∃ a1 a2 a3 a4 a5 a6 a7 a8, p1 a1 a2 a3 a4 a5 a6 a7 a8) (k : ∀ a1 a2 a3 a4 a5 a6 a7 a8, p1 a1 a2 a3 a4 a5 a6 a7 a8 → P) : P := h.elim fun a1 h => h.elim fun a2 h => h.elim fun a3 h => h.elim fun a4 h => h.elim fun a5 h => h.elim fun a6 h => h.elim fun a7 h => h.elim fun a8 h => k a1 a2 a3 a4 a5 a6 a7 a8 h
theorem xa8_2 {α1 : Sort u1} {α2 : Sort u2} {α3 : Sort u3} {α4 : Sort u4} {α5 : Sort u5} {α6 : Sort u6} {α7 : Sort u7} {α8 : Sort u8} {p1 p2 : α1 → α2 → α3 → α4 → α5 → α6 → α7 → α8 → Prop} {P : Prop} (h : ∃ a1 a2 a3 a4 a5 a6 a7 a8, p1 a1 a2 a3 a4 a5 a6 a7 a8 ∧ p2 a1 a2 a3 a4 a5 a6 a7 a8) (k : ∀ a1 a2 a3 a4 a5 a6 a7 a8, p1 a1 a2 a3 a4 a5 a6 a7 a8 → p2 a1 a2 a3 a4 a5 a6 a7 a8 → P) : P := h.elim fun a1 h => h.elim fun a2 h => h.elim fun a3 h => h.elim fun a4 h => h.elim fun a5 h => h.elim fun a6 h => h.elim fun a7 h => h.elim fun a8 h => k a1 a2 a3 a4 a5 a6 a7 a8 h.1 h.2
theorem xa8_3 {α1 : Sort u1} {α2 : Sort u2} {α3 : Sort u3} {α4 : Sort u4} {α5 : Sort u5} {α6 : Sort u6} {α7 : Sort u7} {α8 : Sort u8} {p1 p2 p3 : α1 → α2 → α3 → α4 → α5 → α6 → α7 → α8 → Prop} {P : Prop} (h : ∃ a1 a2 a3 a4 a5 a6 a7 a8, p1 a1 a2 a3 a4 a5 a6 a7 a8 ∧ p2 a1 a2 a3 a4 a5 a6 a7 a8 ∧ p3 a1 a2 a3 a4 a5 a6 a7 a8) (k : ∀ a1 a2 a3 a4 a5 a6 a7 a8, p1 a1 a2 a3 a4 a5 a6 a7 a8 → p2 a1 a2 a3 a4 a5 a6 a7 a8 → p3 a1 a2 a3 a4 a5 a6 a7 a8 → P) : P := h.elim fun a1 h => h.elim fun a2 h => h.elim fun a3 h => h.elim fun a4 h => h.elim fun a5 h => h.elim fun a6 h => h.elim fun a7 h => h.elim fun a8 h => k a1 a2 a3 a4 a5 a6 a7 a8 h.1 h.2.1 h.2.2
theorem xa8_4 {α1 : Sort u1} {α2 : Sort u2} {α3 : Sort u3} {α4 : Sort u4} {α5 : Sort u5} {α6 : Sort u6} {α7 : Sort u7} {α8 : Sort u8} {p1 p2 p3 p4 : α1 → α2 → α3 → α4 → α5 → α6 → α7 → α8 → Prop} {P : Prop} (h : ∃ a1 a2 a3 a4 a5 a6 a7 a8, p1 a1 a2 a3 a4 a5 a6 a7 a8 ∧ p2 a1 a2 a3 a4 a5 a6 a7 a8 ∧ p3 a1 a2 a3 a4 a5 a6 a7 a8 ∧ p4 a1 a2 a3 a4 a5 a6 a7 a8) (k : ∀ a1 a2 a3 a4 a5 a6 a7 a8, p1 a1 a2 a3 a4 a5 a6 a7 a8 → p2 a1 a2 a3 a4 a5 a6 a7 a8 → p3 a1 a2 a3 a4 a5 a6 a7 a8 → p4 a1 a2 a3 a4 a5 a6 a7 a8 → P) : P := h.elim fun a1 h => h.elim fun a2 h => h.elim fun a3 h => h.elim fun a4 h => h.elim fun a5 h => h.elim fun a6 h => h.elim fun a7 h => h.elim fun a8 h => k a1 a2 a3 a4 a5 a6 a7 a8 h.1 h.2.1 h.2.2.1 h.2.2.2
theorem xa8_5 {α1 : Sort u1} {α2 : Sort u2} {α3 : Sort u3} {α4 : Sort u4} {α5 : Sort u5} {α6 : Sort u6} {α7 : Sort u7} {α8 : Sort u8} {p1 p2 p3 p4 p5 : α1 → α2 → α3 → α4 → α5 → α6 → α7 → α8 → Prop} {P : Prop} (h : ∃ a1 a2 a3 a4 a5 a6 a7 a8, p1 a1 a2 a3 a4 a5 a6 a7 a8 ∧ p2 a1 a2 a3 a4 a5 a6 a7 a8 ∧ p3 a1 a2 a3 a4 a5 a6 a7 a8 ∧ p4 a1 a2 a3 a4 a5 a6 a7 a8 ∧ p5 a1 a2 a3 a4 a5 a6 a7 a8) (k : ∀ a1 a2 a3 a4 a5 a6 a7 a8, p1 a1 a2 a3 a4 a5 a6 a7 a8 → p2 a1 a2 a3 a4 a5 a6 a7 a8 → p3 a1 a2 a3 a4 a5 a6 a7 a8 → p4 a1 a2 a3 a4 a5 a6 a7 a8 → p5 a1 a2 a3 a4 a5 a6 a7 a8 → P) : P := h.elim fun a1 h => h.elim fun a2 h => h.elim fun a3 h => h.elim fun a4 h => h.elim fun a5 h => h.elim fun a6 h => h.elim fun a7 h => h.elim fun a8 h => k a1 a2 a3 a4 a5 a6 a7 a8 h.1 h.2.1 h.2.2.1 h.2.2.2.1 h.2.2.2.2
theorem xa8_6 {α1 : Sort u1} {α2 : Sort u2} {α3 : Sort u3} {α4 : Sort u4} {α5 : Sort u5} {α6 : Sort u6} {α7 : Sort u7} {α8 : Sort u8} {p1 p2 p3 p4 p5 p6 : α1 → α2 → α3 → α4 → α5 → α6 → α7 → α8 → Prop} {P : Prop} (h : ∃ a1 a2 a3 a4 a5 a6 a7 a8, p1 a1 a2 a3 a4 a5 a6 a7 a8 ∧ p2 a1 a2 a3 a4 a5 a6 a7 a8 ∧ p3 a1 a2 a3 a4 a5 a6 a7 a8 ∧ p4 a1 a2 a3 a4 a5 a6 a7 a8 ∧ p5 a1 a2 a3 a4 a5 a6 a7 a8 ∧ p6 a1 a2 a3 a4 a5 a6 a7 a8) (k : ∀ a1 a2 a3 a4 a5 a6 a7 a8, p1 a1 a2 a3 a4 a5 a6 a7 a8 → p2 a1 a2 a3 a4 a5 a6 a7 a8 → p3 a1 a2 a3 a4 a5 a6 a7 a8 → p4 a1 a2 a3 a4 a5 a6 a7 a8 → p5 a1 a2 a3 a4 a5 a6 a7 a8 → p6 a1 a2 a3 a4 a5 a6 a7 a8 → P) : P := h.elim fun a1 h => h.elim fun a2 h => h.elim fun a3 h => h.elim fun a4 h => h.elim fun a5 h => h.elim fun a6 h => h.elim fun a7 h => h.elim fun a8 h => k a1 a2 a3 a4 a5 a6 a7 a8 h.1 h.2.1 h.2.2.1 h.2.2.2.1 h.2.2.2.2.1 h.2.2.2.2.2
theorem xa8_7 {α1 : Sort u1} {α2 : Sort u2} {α3 : Sort u3} {α4 : Sort u4} {α5 : Sort u5} {α6 : Sort u6} {α7 : Sort u7} {α8 : Sort u8} {p1 p2 p3 p4 p5 p6 p7 : α1 → α2 → α3 → α4 → α5 → α6 → α7 → α8 → Prop} {P : Prop} (h : ∃ a1 a2 a3 a4 a5 a6 a7 a8, p1 a1 a2 a3 a4 a5 a6 a7 a8 ∧ p2 a1 a2 a3 a4 a5 a6 a7 a8 ∧ p3 a1 a2 a3 a4 a5 a6 a7 a8 ∧ p4 a1 a2 a3 a4 a5 a6 a7 a8 ∧ p5 a1 a2 a3 a4 a5 a6 a7 a8 ∧ p6 a1 a2 a3 a4 a5 a6 a7 a8 ∧ p7 a1 a2 a3 a4 a5 a6 a7 a8) (k : ∀ a1 a2 a3 a4 a5 a6 a7 a8, p1 a1 a2 a3 a4 a5 a6 a7 a8 → p2 a1 a2 a3 a4 a5 a6 a7 a8 → p3 a1 a2 a3 a4 a5 a6 a7 a8 → p4 a1 a2 a3 a4 a5 a6 a7 a8 → p5 a1 a2 a3 a4 a5 a6 a7 a8 → p6 a1 a2 a3 a4 a5 a6 a7 a8 → p7 a1 a2 a3 a4 a5 a6 a7 a8 → P) : P := h.elim fun a1 h => h.elim fun a2 h => h.elim fun a3 h => h.elim fun a4 h => h.elim fun a5 h => h.elim fun a6 h => h.elim fun a7 h => h.elim fun a8 h => k a1 a2 a3 a4 a5 a6 a7 a8 h.1 h.2.1 h.2.2.1 h.2.2.2.1 h.2.2.2.2.1 h.2.2.2.2.2.1 h.2.2.2.2.2.2
theorem xa8_8 {α1 : Sort u1} {α2 : Sort u2} {α3 : Sort u3} {α4 : Sort u4} {α5 : Sort u5} {α6 : Sort u6} {α7 : Sort u7} {α8 : Sort u8} {p1 p2 p3 p4 p5 p6 p7 p8 : α1 → α2 → α3 → α4 → α5 → α6 → α7 → α8 → Prop} {P : Prop} (h : ∃ a1 a2 a3 a4 a5 a6 a7 a8, p1 a1 a2 a3 a4 a5 a6 a7 a8 ∧ p2 a1 a2 a3 a4 a5 a6 a7 a8 ∧ p3 a1 a2 a3 a4 a5 a6 a7 a8 ∧ p4 a1 a2 a3 a4 a5 a6 a7 a8 ∧ p5 a1 a2 a3 a4 a5 a6 a7 a8 ∧ p6 a1 a2 a3 a4 a5 a6 a7 a8 ∧ p7 a1 a2 a3 a4 a5 a6 a7 a8 ∧ p8 a1 a2 a3 a4 a5 a6 a7 a8) (k : ∀ a1 a2 a3 a4 a5 a6 a7 a8, p1 a1 a2 a3 a4 a5 a6 a7 a8 → p2 a1 a2 a3 a4 a5 a6 a7 a8 → p3 a1 a2 a3 a4 a5 a6 a7 a8 → p4 a1 a2 a3 a4 a5 a6 a7 a8 → p5 a1 a2 a3 a4 a5 a6 a7 a8 → p6 a1 a2 a3 a4 a5 a6 a7 a8 → p7 a1 a2 a3 a4 a5 a6 a7 a8 → p8 a1 a2 a3 a4 a5 a6 a7 a8 → P) : P := h.elim fun a1 h => h.elim fun a2 h => h.elim fun a3 h => h.elim fun a4 h => h.elim fun a5 h => h.elim fun a6 h => h.elim fun a7 h => h.elim fun a8 h => k a1 a2 a3 a4 a5 a6 a7 a8 h.1 h.2.1 h.2.2.1 h.2.2.2.1 h.2.2.2.2.1 h.2.2.2.2.2.1 h.2.2.2.2.2.2.1 h.2.2.2.2.2.2.2
theorem xa9_1 {α1 : Sort u1} {α2 : Sort u2} {α3 : Sort u3} {α4 : Sort u4} {α5 : Sort u5} {α6 : Sort u6} {α7 : Sort u7} {α8 : Sort u8} {α9 : Sort u9} {p1 : α1 → α2 → α3 → α4 → α5 → α6 → α7 → α8 → α9 → Prop} {P : Prop} (h : ∃ a1 a2 a3 a4 a5 a6 a7 a8 a9, p1 a1 a2 a3 a4 a5 a6 a7 a8 a9) (k : ∀ a1 a2 a3 a4 a5 a6 a7 a8 a9, p1 a1 a2 a3 a4 a5 a6 a7 a8 a9 → P) : P := h.elim fun a1 h => h.elim fun a2 h => h.elim fun a3 h => h.elim fun a4 h => h.elim fun a5 h => h.elim fun a6 h => h.elim fun a7 h => h.elim fun a8 h => h.elim fun a9 h => k a1 a2 a3 a4 a5 a6 a7 a8 a9 h
theorem xa9_2 {α1 : Sort u1} {α2 : Sort u2} {α3 : Sort u3} {α4 : Sort u4} {α5 : Sort u5} {α6 : Sort u6} {α7 : Sort u7} {α8 : Sort u8} {α9 : Sort u9} {p1 p2 : α1 → α2 → α3 → α4 → α5 → α6 → α7 → α8 → α9 → Prop} {P : Prop} (h : ∃ a1 a2 a3 a4 a5 a6 a7 a8 a9, p1 a1 a2 a3 a4 a5 a6 a7 a8 a9 ∧ p2 a1 a2 a3 a4 a5 a6 a7 a8 a9) (k : ∀ a1 a2 a3 a4 a5 a6 a7 a8 a9, p1 a1 a2 a3 a4 a5 a6 a7 a8 a9 → p2 a1 a2 a3 a4 a5 a6 a7 a8 a9 → P) : P := h.elim fun a1 h => h.elim fun a2 h => h.elim fun a3 h => h.elim fun a4 h => h.elim fun a5 h => h.elim fun a6 h => h.elim fun a7 h => h.elim fun a8 h => h.elim fun a9 h => k a1 a2 a3 a4 a5 a6 a7 a8 a9 h.1 h.2
theorem xa9_3 {α1 : Sort u1} {α2 : Sort u2} {α3 : Sort u3} {α4 : Sort u4} {α5 : Sort u5} {α6 : Sort u6} {α7 : Sort u7} {α8 : Sort u8} {α9 : Sort u9} {p1 p2 p3 : α1 → α2 → α3 → α4 → α5 → α6 → α7 → α8 → α9 → Prop} {P : Prop} (h : ∃ a1 a2 a3 a4 a5 a6 a7 a8 a9, p1 a1 a2 a3 a4 a5 a6 a7 a8 a9 ∧ p2 a1 a2 a3 a4 a5 a6 a7 a8 a9 ∧ p3 a1 a2 a3 a4 a5 a6 a7 a8 a9) (k : ∀ a1 a2 a3 a4 a5 a6 a7 a8 a9, p1 a1 a2 a3 a4 a5 a6 a7 a8 a9 → p2 a1 a2 a3 a4 a5 a6 a7 a8 a9 → p3 a1 a2 a3 a4 a5 a6 a7 a8 a9 → P) : P := h.elim fun a1 h => h.elim fun a2 h => h.elim fun a3 h => h.elim fun a4 h => h.elim fun a5 h => h.elim fun a6 h => h.elim fun a7 h => h.elim fun a8 h => h.elim fun a9 h => k a1 a2 a3 a4 a5 a6 a7 a8 a9 h.1 h.2.1 h.2.2
theorem xa9_4 {α1 : Sort u1} {α2 : Sort u2} {α3 : Sort u3} {α4 : Sort u4} {α5 : Sort u5} {α6 : Sort u6} {α7 : Sort u7} {α8 : Sort u8} {α9 : Sort u9} {p1 p2 p3 p4 : α1 → α2 → α3 → α4 → α5 → α6 → α7 → α8 → α9 → Prop} {P : Prop} (h : ∃ a1 a2 a3 a4 a5 a6 a7 a8 a9, p1 a1 a2 a3 a4 a5 a6 a7 a8 a9 ∧ p2 a1 a2 a3 a4 a5 a6 a7 a8 a9 ∧ p3 a1 a2 a3 a4 a5 a6 a7 a8 a9 ∧ p4 a1 a2 a3 a4 a5 a6 a7 a8 a9) (k : ∀ a1 a2 a3 a4 a5 a6 a7 a8 a9, p1 a1 a2 a3 a4 a5 a6 a7 a8 a9 → p2 a1 a2 a3 a4 a5 a6 a7 a8 a9 → p3 a1 a2 a3 a4 a5 a6 a7 a8 a9 → p4 a1 a2 a3 a4 a5 a6 a7 a8 a9 → P) : P := h.elim fun a1 h => h.elim fun a2 h => h.elim fun a3 h => h.elim fun a4 h => h.elim fun a5 h => h.elim fun a6 h => h.elim fun a7 h => h.elim fun a8 h => h.elim fun a9 h => k a1 a2 a3 a4 a5 a6 a7 a8 a9 h.1 h.2.1 h.2.2.1 h.2.2.2
theorem xa9_5 {α1 : Sort u1} {α2 : Sort u2} {α3 : Sort u3} {α4 : Sort u4} {α5 : Sort u5} {α6 : Sort u6} {α7 : Sort u7} {α8 : Sort u8} {α9 : Sort u9} {p1 p2 p3 p4 p5 : α1 → α2 → α3 → α4 → α5 → α6 → α7 → α8 → α9 → Prop} {P : Prop} (h : ∃ a1 a2 a3 a4 a5 a6 a7 a8 a9, p1 a1 a2 a3 a4 a5 a6 a7 a8 a9 ∧ p2 a1 a2 a3 a4 a5 a6 a7 a8 a9 ∧ p3 a1 a2 a3 a4 a5 a6 a7 a8 a9 ∧ p4 a1 a2 a3 a4 a5 a6 a7 a8 a9 ∧ p5 a1 a2 a3 a4 a5 a6 a7 a8 a9) (k : ∀ a1 a2 a3 a4 a5 a6 a7 a8 a9, p1 a1 a2 a3 a4 a5 a6 a7 a8 a9 → p2 a1 a2 a3 a4 a5 a6 a7 a8 a9 → p3 a1 a2 a3 a4 a5 a6 a7 a8 a9 → p4 a1 a2 a3 a4 a5 a6 a7 a8 a9 → p5 a1 a2 a3 a4 a5 a6 a7 a8 a9 → P) : P := h.elim fun a1 h => h.elim fun a2 h => h.elim fun a3 h => h.elim fun a4 h => h.elim fun a5 h => h.elim fun a6 h => h.elim fun a7 h => h.elim fun a8 h => h.elim fun a9 h => k a1 a2 a3 a4 a5 a6 a7 a8 a9 h.1 h.2.1 h.2.2.1 h.2.2.2.1 h.2.2.2.2
theorem xa9_6 {α1 : Sort u1} {α2 : Sort u2} {α3 : Sort u3} {α4 : Sort u4} {α5 : Sort u5} {α6 : Sort u6} {α7 : Sort u7} {α8 : Sort u8} {α9 : Sort u9} {p1 p2 p3 p4 p5 p6 : α1 → α2 → α3 → α4 → α5 → α6 → α7 → α8 → α9 → Prop} {P : Prop} (h : ∃ a1 a2 a3 a4 a5 a6 a7 a8 a9, p1 a1 a2 a3 a4 a5 a6 a7 a8 a9 ∧ p2 a1 a2 a3 a4 a5 a6 a7 a8 a9 ∧ p3 a1 a2 a3 a4 a5 a6 a7 a8 a9 ∧ p4 a1 a2 a3 a4 a5 a6 a7 a8 a9 ∧ p5 a1 a2 a3 a4 a5 a6 a7 a8 a9 ∧ p6 a1 a2 a3 a4 a5 a6 a7 a8 a9) (k : ∀ a1 a2 a3 a4 a5 a6 a7 a8 a9, p1 a1 a2 a3 a4 a5 a6 a7 a8 a9 → p2 a1 a2 a3 a4 a5 a6 a7 a8 a9 → p3 a1 a2 a3 a4 a5 a6 a7 a8 a9 → p4 a1 a2 a3 a4 a5 a6 a7 a8 a9 → p5 a1 a2 a3 a4 a5 a6 a7 a8 a9 → p6 a1 a2 a3 a4 a5 a6 a7 a8 a9 → P) : P := h.elim fun a1 h => h.elim fun a2 h => h.elim fun a3 h => h.elim fun a4 h => h.elim fun a5 h => h.elim fun a6 h => h.elim fun a7 h => h.elim fun a8 h => h.elim fun a9 h => k a1 a2 a3 a4 a5 a6 a7 a8 a9 h.1 h.2.1 h.2.2.1 h.2.2.2.1 h.2.2.2.2.1 h.2.2.2.2.2
theorem xa9_7 {α1 : Sort u1} {α2 : Sort u2} {α3 : Sort u3} {α4 : Sort u4} {α5 : Sort u5} {α6 : Sort u6} {α7 : Sort u7} {α8 : Sort u8} {α9 : Sort u9} {p1 p2 p3 p4 p5 p6 p7 : α1 → α2 → α3 → α4 → α5 → α6 → α7 → α8 → α9 → Prop} {P : Prop} (h : ∃ a1 a2 a3 a4 a5 a6 a7 a8 a9, p1 a1 a2 a3 a4 a5 a6 a7 a8 a9 ∧ p2 a1 a2 a3 a4 a5 a6 a7 a8 a9 ∧ p3 a1 a2 a3 a4 a5 a6 a7 a8 a9 ∧ p4 a1 a2 a3 a4 a5 a6 a7 a8 a9 ∧ p5 a1 a2 a3 a4 a5 a6 a7 a8 a9 ∧ p6 a1 a2 a3 a4 a5 a6 a7 a8 a9 ∧ p7 a1 a2 a3 a4 a5 a6 a7 a8 a9) (k : ∀ a1 a2 a3 a4 a5 a6 a7 a8 a9, p1 a1 a2 a3 a4 a5 a6 a7 a8 a9 → p2 a1 a2 a3 a4 a5 a6 a7 a8 a9 → p3 a1 a2 a3 a4 a5 a6 a7 a8 a9 → p4 a1 a2 a3 a4 a5 a6 a7 a8 a9 → p5 a1 a2 a3 a4 a5 a6 a7 a8 a9 → p6 a1 a2 a3 a4 a5 a6 a7 a8 a9 → p7 a1 a2 a3 a4 a5 a6 a7 a8 a9 → P) : P := h.elim fun a1 h => h.elim fun a2 h => h.elim fun a3 h => h.elim fun a4 h => h.elim fun a5 h => h.elim fun a6 h => h.elim fun a7 h => h.elim fun a8 h => h.elim fun a9 h => k a1 a2 a3 a4 a5 a6 a7 a8 a9 h.1 h.2.1 h.2.2.1 h.2.2.2.1 h.2.2.2.2.1 h.2.2.2.2.2.1 h.2.2.2.2.2.2
theorem ou_add {a m r : Nat} (h : a + m < r) : a < r := Nat.lt_of_le_of_lt (Nat.le_add_right a m) h
theorem ou_le {a b : Nat} (h : a < b) : a ≤ b := Nat.le_of_lt h
theorem ou_sl {a b : Nat} (h : a < b) : a + 1 ≤ b := h
theorem ou_ls {a b : Nat} (h : a ≤ b) : a < b + 1 := Nat.lt_succ_of_le h
theorem ou_pos {a b : Nat} (h : a < b) : 1 ≤ b := Nat.lt_of_le_of_lt (Nat.zero_le a) h
theorem od_le {a b c : Nat} (h : a ≤ b) (k : b ≤ c) : a ≤ c := Nat.le_trans h k
theorem od_eq {a b c : Nat} (h : a = b) (k : b ≤ c) : a ≤ c := h ▸ k
theorem od_lt {a b c : Nat} (h : a < b) (k : b ≤ c) : a < c := Nat.lt_of_lt_of_le h k
theorem od_lelt {a b c : Nat} (h : a ≤ b) (k : b < c) : a < c := Nat.lt_of_le_of_lt h k
theorem od_ltle {a b c : Nat} (h : a < b) (k : b ≤ c) : a ≤ c := Nat.le_of_lt (Nat.lt_of_lt_of_le h k)
theorem od_add {a m k r : Nat} (h : a + m < r) (d : k ≤ m) : a + k < r := Nat.lt_of_le_of_lt (Nat.add_le_add_left d a) h
theorem od_add2 {a m k r : Nat} (h : a + m < r) (d : k + 1 ≤ m) : a + k + 1 < r := Nat.lt_of_le_of_lt (Nat.add_le_add_left d a) h
theorem od_ne {a b c : Nat} (h : a = b) (k : b ≠ c) : a ≠ c := h ▸ k
theorem oa_trans {a b c : Nat} (h : a ≤ b) (k : b ≤ c) : a ≤ c := Nat.le_trans h k
theorem oa_ltle {a b c : Nat} (h : a < b) (k : b ≤ c) : a < c := Nat.lt_of_lt_of_le h k
theorem oa_lelt {a b c : Nat} (h : a ≤ b) (k : b < c) : a < c := Nat.lt_of_le_of_lt h k
theorem oa_lt {a b c : Nat} (h : a < b) (k : b < c) : a < c := Nat.lt_trans h k
theorem oa_ne {a b : Nat} (h : a ≤ b + 1) (k : ¬ a = b + 1) : a ≤ b := Nat.le_of_lt_succ (Nat.lt_of_le_of_ne h k)
theorem ns_ne {α : Type} {a : α} {P : Prop} (h : none = some a) : P := nomatch h
theorem sn_ne {α : Type} {a : α} {P : Prop} (h : some a = none) : P := nomatch h
theorem tf_ne {P : Prop} (h : true = false) : P := nomatch h
theorem ft_ne {P : Prop} (h : false = true) : P := nomatch h
local macro_rules
  | `(tactic| obtain ⟨$ps,*⟩ := $t:term) => do
    let n := ps.getElems.size
    if n < 2 || n > 16 then Lean.Macro.throwUnsupported
    let y := Lean.mkIdent `zq
    let mut seq ← match t with
      | `($x:ident) => `(tactic| try clear $x)
      | _ => `(tactic| skip)
    for p in ps.getElems do
      match p with
      | `(Lean.Parser.Tactic.rcasesPatLo| $x:ident) =>
        if x.getId == `rfl then seq ← `(tactic| ($seq <;> (intro $y:ident; rcases $y:ident with $p)))
        else seq ← `(tactic| ($seq <;> intro $x:ident))
      | `(Lean.Parser.Tactic.rcasesPatLo| ⟨$qs,*⟩) => seq ← `(tactic| ($seq <;> (intro $y:ident; obtain ⟨$qs,*⟩ := $y:ident)))
      | _ => seq ← `(tactic| ($seq <;> (intro $y:ident; rcases $y:ident with $p)))
    let P := Lean.mkIdent `zP
    let k := Lean.mkIdent `zk
    let mut r ← `(tactic| (refine cps fun $P:ident $k:ident => ?_; (rcases $t:term with ⟨$ps,*⟩) <;> (refine $k:ident ?_; clear $k $P)))
    for j in [0:n] do
      let i := n - 1 - j
      let J := n - i
      let lem := Lean.mkIdent (Lean.Name.mkSimple s!"xa{i}_{J}")
      r ← `(tactic| first | (refine $lem $t ?_; $seq) | ($r:tactic))
    return r
section
noncomputable abbrev FH := Addr → Option Obj
noncomputable def Ext (F F' : FH) : Prop := ∀ b o, F b = some o → F' b = some o
theorem Ext.refl (F : FH) : Ext F F := fun zu zu e => e
theorem Ext.trans {F F' F'' : FH} (x : Ext F F') (y : Ext F' F'') : Ext F F'' := fun b o e => y b o (x b o e)
inductive AV where
  | none
  | bool (b : Bool)
  | int (i : Int)
  | str (s : Str)
  | bytes (b : Array UInt8)
  | tup (l : List AV)
  | lst (l : List AV)
  | ref (a : Addr)
  | val (v : Value)
  deriving Inhabited
mutual
inductive VR (F : FH) : AV → Value → Prop
  | none : VR F .none .none
  | bool (b) : VR F (.bool b) (.bool b)
  | int (i t) : VR F (.int i) (.int i t)
  | str (s t) : VR F (.str s) (.str s t)
  | bytes (b t) : VR F (.bytes b) (.bytes b t)
  | tup {l vs a o n} : F a = some o → o.cls = .type "tuple" → o.data = .seq vs.toArray n → VRs F l vs → VR F (.tup l) (.ref a)
  | lst {l vs a o n} : F a = some o → o.cls = .type "list" → o.data = .seq vs.toArray n → VRs F l vs → VR F (.lst l) (.ref a)
  | ref (a) : VR F (.ref a) (.ref a)
  | val (v) : VR F (.val v) v
inductive VRs (F : FH) : List AV → List Value → Prop
  | nil : VRs F [] []
  | cons {x xs v vs} : VR F x v → VRs F xs vs → VRs F (x :: xs) (v :: vs)
end
theorem VR.mono {F F' : FH} (e : Ext F F') {x : AV} {v : Value} (h : VR F x v) : VR F' x v :=
  VR.rec (motive_1 := fun x v zu => VR F' x v) (motive_2 := fun x v zu => VRs F' x v) .none (fun b => .bool b) (fun i t => .int i t) (fun s t => .str s t) (fun b t => .bytes b t) (fun a b c zu d => .tup (e _ _ a) b c d) (fun a b c zu d => .lst (e _ _ a) b c d) (fun a => .ref a) (fun v => .val v) .nil (fun zu zu a b => .cons a b) h
theorem VRs.ind {F : FH} {M : List AV → List Value → Prop} (hn : M [] []) (hc : ∀ {x xs v vs}, VR F x v → VRs F xs vs → M xs vs → M (x :: xs) (v :: vs)) {xs : List AV} {vs : List Value} (h : VRs F xs vs) : M xs vs :=
  VRs.rec (motive_1 := fun zu zu zu => True) (motive_2 := fun xs vs zu => M xs vs) trivial (fun zu => trivial) (fun zu zu => trivial) (fun zu zu => trivial) (fun zu zu => trivial) (fun zu zu zu zu zu => trivial) (fun zu zu zu zu zu => trivial) (fun zu => trivial) (fun zu => trivial) hn (fun a b zu ih => hc a b ih) h
theorem VRs.mono {F F' : FH} (e : Ext F F') {x : List AV} {v : List Value} (h : VRs F x v) : VRs F' x v := VRs.ind (M := fun x v => VRs F' x v) .nil (fun a zu ih => .cons (a.mono e) ih) h
noncomputable def VR.Sh (F : FH) (v : Value) : AV → Prop
  | .none => v = .none
  | .bool b => v = .bool b
  | .int i => ∃ t, v = .int i t
  | .str x => ∃ t, v = .str x t
  | .bytes b => ∃ t, v = .bytes b t
  | .tup l => ∃ a o vs n, v = .ref a ∧ F a = some o ∧ o.cls = .type "tuple" ∧ o.data = .seq (List.toArray vs) n ∧ VRs F l vs
  | .lst l => ∃ a o vs n, v = .ref a ∧ F a = some o ∧ o.cls = .type "list" ∧ o.data = .seq (List.toArray vs) n ∧ VRs F l vs
  | .ref a => v = .ref a
  | .val u => v = u
theorem VR.inv {F : FH} {x : AV} {v : Value} (h : VR F x v) : VR.Sh F v x :=
  VR.casesOn (motive_1 := fun x v zu => VR.Sh F v x) h rfl (fun b => rfl) (fun i t => ⟨t, rfl⟩) (fun i t => ⟨t, rfl⟩) (fun i t => ⟨t, rfl⟩) (fun a b c d => ⟨_, _, _, _, rfl, a, b, c, d⟩) (fun a b c d => ⟨_, _, _, _, rfl, a, b, c, d⟩) (fun a => rfl) (fun v => rfl)
noncomputable def VRs.Sh (F : FH) (vs : List Value) : List AV → Prop
  | [] => vs = []
  | x :: xs => ∃ v us, vs = v :: us ∧ VR F x v ∧ VRs F xs us
theorem VRs.invS {F : FH} {x : List AV} {v : List Value} (h : VRs F x v) : VRs.Sh F v x :=
  VRs.casesOn (motive_2 := fun x v zu => VRs.Sh F v x) h rfl (fun a b => ⟨_, _, rfl, a, b⟩)
theorem VR.noneI {F : FH} {v : Value} (h : VR F .none v) : v = .none := h.inv
theorem VR.boolI {F : FH} {v : Value} {b : Bool} (h : VR F (.bool b) v) : v = .bool b := h.inv
theorem VR.refI {F : FH} {v : Value} {a : Addr} (h : VR F (.ref a) v) : v = .ref a := h.inv
theorem VR.valI {F : FH} {v u : Value} (h : VR F (.val u) v) : v = u := h.inv
theorem VR.intI {F : FH} {v : Value} {i : Int} (h : VR F (.int i) v) : ∃ t, v = .int i t := h.inv
theorem VR.strI {F : FH} {v : Value} {i : Str} (h : VR F (.str i) v) : ∃ t, v = .str i t := h.inv
theorem VR.lstInv {F : FH} {l : List AV} {v : Value} (h : VR F (.lst l) v) : ∃ a o vs n, v = .ref a ∧ F a = some o ∧ o.cls = .type "list" ∧ o.data = .seq (List.toArray vs) n ∧ VRs F l vs := h.inv
theorem VR.tupInv {F : FH} {l : List AV} {v : Value} (h : VR F (.tup l) v) : ∃ a o vs n, v = .ref a ∧ F a = some o ∧ o.cls = .type "tuple" ∧ o.data = .seq (List.toArray vs) n ∧ VRs F l vs := h.inv
theorem VR.tupC {F : FH} {l : List AV} {v : Value} {P : Prop} (h : VR F (.tup l) v) (k : ∀ (vs : List Value) (a : Addr) (o : Obj) (n : Nat) (zo : v = .ref a) (za : F a = some o) (zb : o.cls = .type "tuple") (zc : o.data = .seq vs.toArray n) (zd : VRs F l vs), P) : P := by
  obtain ⟨a, o, vs, n, q1, q2, q3, q4, q5⟩ := h.inv; exact k vs a o n q1 q2 q3 q4 q5
theorem VRs.nilI {F : FH} {vs : List Value} (h : VRs F [] vs) : vs = [] := h.invS
theorem VRs.consC {F : FH} {x : AV} {xs : List AV} {vs : List Value} {P : Prop} (h : VRs F (x :: xs) vs) (k : ∀ (v : Value) (us : List Value) (zo : vs = v :: us) (za : VR F x v) (zb : VRs F xs us), P) : P := by
  obtain ⟨v, us, q1, q2, q3⟩ := h.invS; exact k v us q1 q2 q3
theorem VRs.length {F : FH} {xs : List AV} {vs : List Value} (h : VRs F xs vs) : vs.length = xs.length := VRs.ind (M := fun xs vs => vs.length = xs.length) rfl (fun zu zu ih => congrArg (· + 1) ih) h
theorem VRs.get {F : FH} {xs : List AV} {vs : List Value} {i : Nat} {x : AV} (h : VRs F xs vs) (e : xs[i]? = some x) : ∃ v, vs[i]? = some v ∧ VR F x v :=
  VRs.ind (M := fun xs vs => ∀ i, xs[i]? = some x → ∃ v, vs[i]? = some v ∧ VR F x v) (fun zu e => ns_ne e) (fun {y ys v vs} a zu ih i => Nat.casesOn (motive := fun i => (y :: ys)[i]? = some x → ∃ u, (v :: vs)[i]? = some u ∧ VR F x u) i (fun e => ⟨v, rfl, Option.some.inj e ▸ a⟩) (fun i e => ih i e)) h i e
theorem VRs.append {F : FH} {xs ys : List AV} {vs us : List Value} (h : VRs F xs vs) (k : VRs F ys us) : VRs F (xs ++ ys) (vs ++ us) := VRs.ind (M := fun xs vs => VRs F (xs ++ ys) (vs ++ us)) k (fun a zu ih => .cons a ih) h
theorem VRs.none {F : FH} {xs vs} {i : Nat} (h : VRs F xs vs) (e : xs[i]? = Option.none) : vs[i]? = Option.none := by
  rw [List.getElem?_eq_none_iff] at e ⊢
  rw [h.length]; exact e
theorem VRs.take {F : FH} {xs : List AV} {vs : List Value} (n : Nat) (h : VRs F xs vs) : VRs F (xs.take n) (vs.take n) :=
  VRs.ind (M := fun xs vs => ∀ n, VRs F (xs.take n) (vs.take n)) (fun n => by rw [List.take_nil, List.take_nil]; exact .nil) (fun {y ys v vs} a zu ih n => Nat.casesOn (motive := fun n => VRs F ((y :: ys).take n) ((v :: vs).take n)) n .nil (fun n => .cons a (ih n))) h n
theorem VRs.drop {F : FH} {xs : List AV} {vs : List Value} (n : Nat) (h : VRs F xs vs) : VRs F (xs.drop n) (vs.drop n) :=
  VRs.ind (M := fun xs vs => ∀ n, VRs F (xs.drop n) (vs.drop n)) (fun n => by rw [List.drop_nil, List.drop_nil]; exact .nil) (fun {y ys v vs} a b ih n => Nat.casesOn (motive := fun n => VRs F ((y :: ys).drop n) ((v :: vs).drop n)) n (.cons a b) (fun n => ih n)) h n
inductive VRo (F : FH) : Option AV → Option Value → Prop
  | none : VRo F Option.none Option.none
  | some {x v} : VR F x v → VRo F (Option.some x) (Option.some v)
inductive VRos (F : FH) : List (Option AV) → List (Option Value) → Prop
  | nil : VRos F [] []
  | cons {x xs v vs} : VRo F x v → VRos F xs vs → VRos F (x :: xs) (v :: vs)
theorem VRo.mono {F F' : FH} (e : Ext F F') {x v} (h : VRo F x v) : VRo F' x v := by
  cases h with
  | none => exact .none
  | some a => exact .some (a.mono e)
theorem VRos.mono {F F' : FH} (e : Ext F F') {x v} (h : VRos F x v) : VRos F' x v := by
  induction h with
  | nil => exact .nil
  | cons a zu ih => exact .cons (a.mono e) ih
theorem VRos.length {F : FH} {xs vs} (h : VRos F xs vs) : vs.length = xs.length := by
  induction h with
  | nil => rfl
  | cons zu zu2 ih => simp [ih]
theorem VRos.get {F : FH} {xs vs} (h : VRos F xs vs) {i : Nat} {x} (e : xs[i]? = some (some x)) : ∃ v, vs[i]? = some (some v) ∧ VR F x v := by
  induction h generalizing i with
  | nil => simp at e
  | cons a zu ih =>
    cases i with
    | zero => simp at e; subst e; cases a with | some a => exact ⟨_, rfl, a⟩
    | succ i => simpa using ih (by simpa using e)
theorem VRos.set {F : FH} {xs vs} (h : VRos F xs vs) (i : Nat) {x v} (hv : VRo F x v) : VRos F (xs.set i x) (vs.set i v) := by
  induction h generalizing i with
  | nil => simpa using VRos.nil
  | cons a b ih =>
    cases i with
    | zero => simpa using VRos.cons hv b
    | succ i => simpa using VRos.cons a (ih i)
inductive Sym where
  | i (k : Int)
  | s (x : Str)
  deriving DecidableEq, Inhabited
noncomputable def Sym.av : Sym → AV
  | .i k => .int k
  | .s x => .str x
noncomputable def Sym.is : Sym → Value → Bool
  | .i k, .int j _ => j == k
  | .s x, .str y _ => y == x
  | _, _ => false
noncomputable def Sym.hash (w : World) : Sym → Int
  | .i k => hashInt k
  | .s x => hashStr w x
theorem Sym.is_shape {k : Sym} {v : Value} (h : k.is v = true) : (∃ i t, k = .i i ∧ v = .int i t) ∨ ∃ x t, k = .s x ∧ v = .str x t := by
  cases k <;> cases v <;> simp_all [Sym.is]
noncomputable def symKind (prog : Program) (w : World) : KeyKind prog w Sym where
  is := Sym.is
  hash := Sym.hash w
  inj := fun v a b ha hb => by
    rcases Sym.is_shape ha with ⟨i, t, rfl, rfl⟩ | ⟨x, t, rfl, rfl⟩
    · rcases Sym.is_shape hb with ⟨j, u, rfl, h⟩ | ⟨y, u, rfl, h⟩ <;> cases h; rfl
    · rcases Sym.is_shape hb with ⟨j, u, rfl, h⟩ | ⟨y, u, rfl, h⟩ <;> cases h; rfl
  byValue := fun k v h => by rcases Sym.is_shape h with ⟨i, t, rfl, rfl⟩ | ⟨x, t, rfl, rfl⟩ <;> rfl
  pyHash := fun hv h => by
    rcases Sym.is_shape hv with ⟨i, t, rfl, rfl⟩ | ⟨x, t, rfl, rfl⟩
    · exact wpAny_pyHash_int h
    · exact wpAny_pyHash_str h
  eqBool := fun hu hv h => by
    rcases Sym.is_shape hu with ⟨i, t, rfl, rfl⟩ | ⟨x, t, rfl, rfl⟩
    · rcases Sym.is_shape hv with ⟨j, u, rfl, rfl⟩ | ⟨y, u, rfl, rfl⟩
      · refine wpAny_eqBool_int ?_
        have : (i == j) = decide (Sym.i i = Sym.i j) := by
          by_cases q : i = j
          · subst q; simp
          · simp [q]
        rw [this]; exact h
      · have e : PySem.eqBool (.int i t) (.str y u) = (do truthOfDropped (← richCompare .Eq (.int i t) (.str y u))) := by rfl
        rw [e]
        refine wpAny_bind (EqMixed.eq_int_str (wpAny_truthy_bool ?_))
        simpa using h
    · rcases Sym.is_shape hv with ⟨j, u, rfl, rfl⟩ | ⟨y, u, rfl, rfl⟩
      · have e : PySem.eqBool (.str x t) (.int j u) = (do truthOfDropped (← richCompare .Eq (.str x t) (.int j u))) := by rfl
        rw [e]
        refine wpAny_bind (EqMixed.eq_str_int (wpAny_truthy_bool ?_))
        simpa using h
      · refine wpAny_eqBool_str ?_
        have : decide (x = y) = decide (Sym.s x = Sym.s y) := by
          by_cases q : x = y
          · subst q; simp
          · simp [q]
        rw [this]; exact h
  «strs» := fun k x t v h => by
    rcases Sym.is_shape h with ⟨i, u, rfl, h'⟩ | ⟨y, u, rfl, h'⟩
    · cases h'
    · cases h'
      cases v <;> rfl
inductive SV (F : FH) : List (Sym × AV) → List (Sym × Value) → Prop
  | nil : SV F [] []
  | cons {k x v xs vs} : VR F x v → SV F xs vs → SV F ((k, x) :: xs) ((k, v) :: vs)
theorem SV.mono {F F' : FH} (e : Ext F F') {x v} (h : SV F x v) : SV F' x v := by
  induction h with
  | nil => exact .nil
  | cons a zu ih => exact .cons (a.mono e) ih
theorem SV.keys {F : FH} {x v} (h : SV F x v) : v.map (·.1) = x.map (·.1) := by
  induction h with
  | nil => rfl
  | cons a zu ih => simp [ih]
theorem SV.length {F : FH} {x v} (h : SV F x v) : v.length = x.length := by
  induction h with
  | nil => rfl
  | cons a zu ih => simp [ih]
inductive NR (P : Params) (F : FH) : List (Str × AV) → List DictEntry → Prop
  | nil : NR P F [] []
  | cons {k v es e ds t} : e.hash = PyData.keyHash P k → e.key = .str k t → VR F v e.val → NR P F es ds → NR P F ((k, v) :: es) (e :: ds)
theorem NR.mono {P : Params} {F F' : FH} (e : Ext F F') {x v} (h : NR P F x v) : NR P F' x v := by
  induction h with
  | nil => exact .nil
  | cons a b c zu ih => exact .cons a b (c.mono e) ih
inductive AO where
  | list (xs : List AV)
  | dict (l : List (Sym × AV)) (ep : Nat)
  | iset (S : Int → Bool) (n : Nat)
  | ns (fs : List (Str × AV))
  | inst (C d : Addr)
  | slot (C : Addr) (vs : List (Option AV))
  | fields (cls : String) (vs : List AV)
  | itr (cls : String) (vs : List AV)
  | frame (loc : List (Str × AV))
  | gen (g : Nat) (gs : GenState)
theorem oList {a b : List AV} (h : some (AO.list a) = some (AO.list b)) : a = b := AO.list.inj (Option.some.inj h)
theorem oNs {a b : List (Str × AV)} (h : some (AO.ns a) = some (AO.ns b)) : a = b := AO.ns.inj (Option.some.inj h)
theorem oFrame {a b : List (Str × AV)} (h : some (AO.frame a) = some (AO.frame b)) : a = b := AO.frame.inj (Option.some.inj h)
theorem oDict {a b : List (Sym × AV)} {m n : Nat} (h : some (AO.dict a m) = some (AO.dict b n)) : a = b ∧ m = n := AO.dict.inj (Option.some.inj h)
theorem oInst {a b c d : Addr} (h : some (AO.inst a b) = some (AO.inst c d)) : a = c ∧ b = d := AO.inst.inj (Option.some.inj h)
theorem oSlot {a b : Addr} {c d : List (Option AV)} (h : some (AO.slot a c) = some (AO.slot b d)) : a = b ∧ c = d := AO.slot.inj (Option.some.inj h)
theorem oItr {a b : String} {c d : List AV} (h : some (AO.itr a c) = some (AO.itr b d)) : a = b ∧ c = d := AO.itr.inj (Option.some.inj h)
theorem oGen {a b : Nat} {c d : GenState} (h : some (AO.gen a c) = some (AO.gen b d)) : a = b ∧ c = d := AO.gen.inj (Option.some.inj h)
structure Cf where
  prog : Program
  w : World
  h0 : Heap
  os : OsState
inductive OR (C : Cf) (F : FH) (gens : Array GenState) : AO → Obj → Prop
  | list {xs o vs n} : o.cls = .type "list" → o.dict = none → o.slots = #[] → o.data = .seq vs.toArray n → VRs F xs vs → OR C F gens (.list xs) o
  | dict {l ep o es kvs} : o.ExactDict → o.data = .dict es ep → KeysOf (symKind C.prog C.w) es → Pairs (symKind C.prog C.w) es.toList kvs → (kvs.map (·.1)).Nodup → SV F l kvs → OR C F gens (.dict l ep) o
  | iset {S n o es ep t} : o.ExactSet → o.data = .set es ep t → ElemsOf (intKind C.prog C.w) es.toList → (∀ k, S k = true ↔ ∃ e ∈ es.toList, (intKind C.prog C.w).is k e.2 = true) →
      es.size < scanBound → t.fits es.size = true → es.size = n → OR C F gens (.iset S n) o
  | ns {fs o ds n} : o.ExactDict → o.data = .dict ds.toArray n → NR C.w.params F fs ds → OR C F gens (.ns fs) o
  | inst {K d} : OR C F gens (.inst K d) { cls := .ref K, dict := some d, data := .plain }
  | slot {K vs us d} : F d = some emptyDict → VRos F vs us → OR C F gens (.slot K vs) { cls := .ref K, dict := some d, data := .plain, slots := us.toArray }
  | fields {c vs o us} : o.cls = .type c → o.dict = none → o.slots = #[] → o.data = .fields us.toArray → VRs F vs us → OR C F gens (.fields c vs) o
  | itr {c vs o us} : o.cls = .type c → o.data = .fields us.toArray → VRs F vs us → OR C F gens (.itr c vs) o
  | frame {loc o es ep} : o.data = .dict es ep → StrKeys es → (∀ x av, loc.lookup x = some av → ∃ v, nsFind es x = some v ∧ VR F av v) → OR C F gens (.frame loc) o
  | gen {g gs o n q t u} : o.cls = .type "generator" → o.dict = none → o.slots = #[] → o.data = .fields #[.int g 0, .str n t, .str q u] → gens[g]? = some gs → OR C F gens (.gen g gs) o
noncomputable def OR.Sh (C : Cf) (F : FH) (gens : Array GenState) (o : Obj) : AO → Prop
  | .list xs => ∃ vs n, o.cls = .type "list" ∧ o.dict = none ∧ o.slots = #[] ∧ o.data = .seq vs.toArray n ∧ VRs F xs vs
  | .dict l ep => ∃ es kvs, o.ExactDict ∧ o.data = .dict es ep ∧ KeysOf (symKind C.prog C.w) es ∧ Pairs (symKind C.prog C.w) es.toList kvs ∧ (kvs.map (·.1)).Nodup ∧ SV F l kvs
  | .iset S n => ∃ es ep t, o.ExactSet ∧ o.data = .set es ep t ∧ ElemsOf (intKind C.prog C.w) es.toList ∧ (∀ k, S k = true ↔ ∃ e ∈ es.toList, (intKind C.prog C.w).is k e.2 = true) ∧ es.size < scanBound ∧ t.fits es.size = true ∧ es.size = n
  | .ns fs => ∃ ds n, o.ExactDict ∧ o.data = .dict (List.toArray ds) n ∧ NR C.w.params F fs ds
  | .inst K d => o = { cls := .ref K, dict := some d, data := .plain }
  | .slot K vs => ∃ us d, o = { cls := .ref K, dict := some d, data := .plain, slots := List.toArray us } ∧ F d = some emptyDict ∧ VRos F vs us
  | .fields c vs => ∃ us, o.cls = .type c ∧ o.dict = none ∧ o.slots = #[] ∧ o.data = .fields (List.toArray us) ∧ VRs F vs us
  | .itr c vs => ∃ us, o.cls = .type c ∧ o.data = .fields (List.toArray us) ∧ VRs F vs us
  | .frame loc => ∃ es ep, o.data = .dict es ep ∧ StrKeys es ∧ ∀ x av, loc.lookup x = some av → ∃ v, nsFind es x = some v ∧ VR F av v
  | .gen g gs => ∃ n q t u, o.cls = .type "generator" ∧ o.dict = none ∧ o.slots = #[] ∧ o.data = .fields #[.int g 0, .str n t, .str q u] ∧ gens[g]? = some gs
theorem OR.inv {C : Cf} {F : FH} {gens : Array GenState} {x : AO} {o : Obj} (h : OR C F gens x o) : OR.Sh C F gens o x :=
  OR.casesOn (motive := fun x o zu => OR.Sh C F gens o x) h (fun a b c d e => ⟨_, _, a, b, c, d, e⟩) (fun a b c d e f => ⟨_, _, a, b, c, d, e, f⟩) (fun a b c d e f g => ⟨_, _, _, a, b, c, d, e, f, g⟩) (fun a b c => ⟨_, _, a, b, c⟩)
    rfl (fun a b => ⟨_, _, rfl, a, b⟩) (fun a b c d e => ⟨_, a, b, c, d, e⟩) (fun a b c => ⟨_, a, b, c⟩) (fun a b c => ⟨_, _, a, b, c⟩) (fun a b c d e => ⟨_, _, _, _, a, b, c, d, e⟩)
section
variable {C : Cf} {F : FH} {gens : Array GenState} {o : Obj} {P : Prop}
theorem OR.listC {xs : List AV} (h : OR C F gens (.list xs) o) (k : ∀ (vs : List Value) (n : Nat) (za : o.cls = .type "list") (zb : o.dict = none) (zc : o.slots = #[]) (zd : o.data = .seq vs.toArray n) (ze : VRs F xs vs), P) : P := by
  obtain ⟨vs, n, a, b, c, d, e⟩ := h.inv; exact k vs n a b c d e
theorem OR.dictC {l : List (Sym × AV)} {ep : Nat} (h : OR C F gens (.dict l ep) o) (k : ∀ (es : Array DictEntry) (kvs : List (Sym × Value)) (za : o.ExactDict) (zb : o.data = .dict es ep) (zc : KeysOf (symKind C.prog C.w) es) (zd : Pairs (symKind C.prog C.w) es.toList kvs) (ze : (kvs.map (·.1)).Nodup) (zf : SV F l kvs), P) : P := by
  obtain ⟨vs, n, a, b, c, d, e, f⟩ := h.inv; exact k vs n a b c d e f
theorem OR.isetC {S : Int → Bool} {n : Nat} (h : OR C F gens (.iset S n) o) (k : ∀ (es ep t) (za : o.ExactSet) (zb : o.data = .set es ep t) (zc : ElemsOf (intKind C.prog C.w) es.toList) (zd : ∀ k, S k = true ↔ ∃ e ∈ es.toList, (intKind C.prog C.w).is k e.2 = true) (ze : es.size < scanBound) (zf : t.fits es.size = true) (zg : es.size = n), P) : P := by
  obtain ⟨vs, m, t, a, b, c, d, e, f, g⟩ := h.inv; exact k vs m t a b c d e f g
theorem OR.nsC {fs : List (Str × AV)} (h : OR C F gens (.ns fs) o) (k : ∀ (ds : List DictEntry) (n : Nat) (za : o.ExactDict) (zb : o.data = .dict ds.toArray n) (zc : NR C.w.params F fs ds), P) : P := by
  obtain ⟨vs, n, a, b, c⟩ := h.inv; exact k vs n a b c
theorem OR.instC {K d : Addr} (h : OR C F gens (.inst K d) o) (k : ∀ zo : o = { cls := .ref K, dict := some d, data := .plain }, P) : P := k h.inv
theorem OR.slotC {K : Addr} {vs : List (Option AV)} (h : OR C F gens (.slot K vs) o) (k : ∀ (us : List (Option Value)) (d : Addr) (zo : o = { cls := .ref K, dict := some d, data := .plain, slots := us.toArray }) (za : F d = some emptyDict) (zb : VRos F vs us), P) : P := by
  obtain ⟨us, d, a, b, c⟩ := h.inv; exact k us d a b c
theorem OR.fieldsC {c : String} {vs : List AV} (h : OR C F gens (.fields c vs) o) (k : ∀ (us : List Value) (za : o.cls = .type c) (zb : o.dict = none) (zc : o.slots = #[]) (zd : o.data = .fields us.toArray) (ze : VRs F vs us), P) : P := by
  obtain ⟨us, a, b, c, d, e⟩ := h.inv; exact k us a b c d e
theorem OR.itrC {c : String} {vs : List AV} (h : OR C F gens (.itr c vs) o) (k : ∀ (us : List Value) (za : o.cls = .type c) (zb : o.data = .fields us.toArray) (zc : VRs F vs us), P) : P := by
  obtain ⟨us, a, b, c⟩ := h.inv; exact k us a b c
theorem OR.frameC {loc : List (Str × AV)} (h : OR C F gens (.frame loc) o) (k : ∀ (es : Array DictEntry) (ep : Nat) (za : o.data = .dict es ep) (zb : StrKeys es) (zc : ∀ x av, loc.lookup x = some av → ∃ v, nsFind es x = some v ∧ VR F av v), P) : P := by
  obtain ⟨es, ep, a, b, c⟩ := h.inv; exact k es ep a b c
theorem OR.genC {g : Nat} {gs : GenState} (h : OR C F gens (.gen g gs) o) (k : ∀ (n q t u) (za : o.cls = .type "generator") (zb : o.dict = none) (zc : o.slots = #[]) (zd : o.data = .fields #[.int g 0, .str n t, .str q u]) (ze : gens[g]? = some gs), P) : P := by
  obtain ⟨n, q, t, u, a, b, c, d, e⟩ := h.inv; exact k n q t u a b c d e
end
end
section
noncomputable abbrev HP := Addr → Option AO
noncomputable def upd (hp : HP) (a : Addr) (x : AO) : HP := fun b => if b = a then some x else hp b
@[simp] theorem upd_self (hp : HP) (a : Addr) (x : AO) : upd hp a x a = some x := by simp [upd]
theorem upd_ne (hp : HP) {a b : Addr} (x : AO) (h : b ≠ a) : upd hp a x b = hp b := by simp [upd, h]
theorem OR.mono {C : Cf} {F F' : FH} {gens : Array GenState} (e : Ext F F') {x : AO} {o : Obj} (h : OR C F gens x o) : OR C F' gens x o := by
  cases h with
  | list a a1 a2 b c => exact .list a a1 a2 b (c.mono e)
  | dict a b c d f g => exact .dict a b c d f (g.mono e)
  | iset a b c d f g i => exact .iset a b c d f g i
  | ns a b c => exact .ns a b (c.mono e)
  | inst => exact .inst
  | slot d a => exact .slot (e _ _ d) (a.mono e)
  | fields a a1 a2 b c => exact .fields a a1 a2 b (c.mono e)
  | itr a b c => exact .itr a b (c.mono e)
  | frame a b c => exact .frame a b fun x av h => let ⟨v, q, r⟩ := c x av h; ⟨v, q, r.mono e⟩
  | gen a a1 a2 b c => exact .gen a a1 a2 b c
theorem ne_of_none {α : Type} {m : Addr → Option α} {c : Addr} (hm : m c = none) {b : Addr} {o : α} (e : m b = some o) : b ≠ c := by rintro rfl; rw [hm] at e; exact ns_ne e
noncomputable def GEq (o o' : Obj) : Prop := o' = o ∨ ((∃ es ep, o.data = .dict es ep) ∧ ∃ sl, o' = { o with slots := sl })
theorem GEq.rfl' (o : Obj) : GEq o o := .inl rfl
theorem GEq.data {o o' : Obj} (h : GEq o o') : o'.data = o.data := by
  rcases h with rfl | ⟨zu, sl, rfl⟩ <;> rfl
theorem GEq.exact {o o' : Obj} (h : GEq o o') (hd : ∀ es ep, o.data ≠ .dict es ep) : o' = o := by
  rcases h with rfl | ⟨⟨es, ep, e⟩, zu⟩
  · rfl
  · exact absurd e (hd es ep)
structure Wd (C : Cf) (F G : FH) (hp : HP) (s : Shared) : Prop where
  base : ∀ b o, C.h0.get? b = some o → F b = some o
  fz : ∀ b o, F b = some o → s.heap.get? b = some o
  gz : ∀ b o, G b = some o → ∃ o', s.heap.get? b = some o' ∧ GEq o o'
  ob : ∀ a x, hp a = some x → F a = none ∧ G a = none ∧ ∃ o, s.heap.get? a = some o ∧ OR C F s.gens x o
  os : s.os = C.os
  bare : AllBare s.gens
  gi : ∀ a b g gs gs', hp a = some (.gen g gs) → hp b = some (.gen g gs') → a = b
  fg : ∀ b o, F b = some o → G b = none
noncomputable def isGen : AO → Bool
  | .gen .. => true
  | _ => false
theorem OR.gens {C : Cf} {F : FH} {g g' : Array GenState} {x : AO} {o : Obj} (hx : isGen x = false) (h : OR C F g x o) : OR C F g' x o := by
  cases h with
  | list a a1 a2 b c => exact .list a a1 a2 b c
  | dict a b c d f g => exact .dict a b c d f g
  | iset a b c d f g i => exact .iset a b c d f g i
  | ns a b c => exact .ns a b c
  | inst => exact .inst
  | slot d a => exact .slot d a
  | fields a a1 a2 b c => exact .fields a a1 a2 b c
  | itr a b c => exact .itr a b c
  | frame a b c => exact .frame a b c
  | gen a b c => exact tf_ne hx
section
variable {C : Cf} {F G : FH} {hp : HP} {s : Shared}
theorem Wd.lt (W : Wd C F G hp s) {b : Addr} (h : s.heap.objs.size ≤ b) : F b = none ∧ G b = none ∧ hp b = none := by
  refine ⟨?_, ?_, ?_⟩
  · cases e : F b with
    | none => rfl
    | some o => exact absurd (Heap.lt_size (W.fz b o e)) (Nat.not_lt.mpr h)
  · cases e : G b with
    | none => rfl
    | some o => obtain ⟨o', ho, zu⟩ := W.gz b o e; exact absurd (Heap.lt_size ho) (Nat.not_lt.mpr h)
  · cases e : hp b with
    | none => rfl
    | some x =>
      obtain ⟨zu, zu, o, ho, zu⟩ := W.ob b x e
      exact absurd (Heap.lt_size ho) (Nat.not_lt.mpr h)
theorem Wd.keep (W : Wd C F G hp s) {h' : Heap} {t : Nat} (k : ∀ b o, s.heap.get? b = some o → h'.get? b = some o) : Wd C F G hp ⟨h', s.gens, s.drawn, t, s.os⟩ :=
  ⟨W.base, fun b o e => k _ _ (W.fz b o e), fun b o e => let ⟨o', q, r⟩ := W.gz b o e; ⟨o', k _ _ q, r⟩, fun a x e => let ⟨p, q, o, ho, r⟩ := W.ob a x e; ⟨p, q, o, k _ _ ho, r⟩, W.os, W.bare, W.gi, W.fg⟩
theorem Wd.keepBut (W : Wd C F G hp s) {h' : Heap} {t : Nat} {c : Addr} (hF : F c = none) (hG : G c = none) (hh : hp c = none) (k : ∀ b o, b ≠ c → s.heap.get? b = some o → h'.get? b = some o) : Wd C F G hp ⟨h', s.gens, s.drawn, t, s.os⟩ := by
  exact ⟨W.base, fun b o e => k _ _ (ne_of_none hF e) (W.fz b o e), fun b o e => let ⟨o', q, r⟩ := W.gz b o e; ⟨o', k _ _ (ne_of_none hG e) q, r⟩, fun a x e => let ⟨p, q, o, ho, r⟩ := W.ob a x e; ⟨p, q, o, k _ _ (ne_of_none hh e) ho, r⟩, W.os, W.bare, W.gi, W.fg⟩
theorem Wd.change (W : Wd C F G hp s) {h' : Heap} {t : Nat} {c : Addr} {x x' : AO} {o' : Obj} (e : hp c = some x) (hx : isGen x' = false) (ho : h'.get? c = some o') (r : OR C F s.gens x' o')
    (k : ∀ b o, b ≠ c → s.heap.get? b = some o → h'.get? b = some o) : Wd C F G (upd hp c x') ⟨h', s.gens, s.drawn, t, s.os⟩ := by
  obtain ⟨hF, hG, zu⟩ := W.ob c x e
  refine ⟨W.base, fun b o e => k _ _ (ne_of_none hF e) (W.fz b o e), fun b o e => let ⟨o', q, r⟩ := W.gz b o e; ⟨o', k _ _ (ne_of_none hG e) q, r⟩, fun a y e' => ?_, W.os, W.bare, fun a b g gs gs' ea eb => ?_, W.fg⟩
  · by_cases h : a = c
    · subst h
      rw [upd_self] at e'; (have zc := Option.some.inj e'; clear e'; subst zc)
      exact ⟨hF, hG, o', ho, r⟩
    · rw [upd_ne _ _ h] at e'
      obtain ⟨p, q, o, ho', r'⟩ := W.ob a y e'
      exact ⟨p, q, o, k _ _ h ho', r'⟩
  · have na : a ≠ c := by rintro rfl; rw [upd_self] at ea; (have zc := Option.some.inj ea; clear ea; subst zc); exact tf_ne hx
    have nb : b ≠ c := by rintro rfl; rw [upd_self] at eb; (have zc := Option.some.inj eb; clear eb; subst zc); exact tf_ne hx
    rw [upd_ne _ _ na] at ea
    rw [upd_ne _ _ nb] at eb
    exact W.gi _ _ _ _ _ ea eb
theorem Wd.alloc (W : Wd C F G hp s) {t : Nat} {x' : AO} {o' : Obj} (hx : isGen x' = false) (hf : o'.isFreed = false) (r : OR C F s.gens x' o') :
    Wd C F G (upd hp s.heap.objs.size x') ⟨s.heap.push o', s.gens, s.drawn, t, s.os⟩ := by
  obtain ⟨hF, hG, hh⟩ := W.lt (Nat.le_refl _)
  have k : ∀ b o, s.heap.get? b = some o → (s.heap.push o').get? b = some o := fun b o e => Heap.get?_push_of_some _ e
  refine ⟨W.base, fun b o e => k _ _ (W.fz b o e), fun b o e => let ⟨o', q, r⟩ := W.gz b o e; ⟨o', k _ _ q, r⟩, fun a y e' => ?_, W.os, W.bare, fun a b g gs gs' ea eb => ?_, W.fg⟩
  · by_cases h : a = s.heap.objs.size
    · subst h
      rw [upd_self] at e'; (have zc := Option.some.inj e'; clear e'; subst zc)
      exact ⟨hF, hG, o', Heap.get?_push_size _ hf, r⟩
    · rw [upd_ne _ _ h] at e'
      obtain ⟨p, q, o, ho', r'⟩ := W.ob a y e'
      exact ⟨p, q, o, k _ _ ho', r'⟩
  · have na : a ≠ s.heap.objs.size := by rintro rfl; rw [upd_self] at ea; (have zc := Option.some.inj ea; clear ea; subst zc); exact tf_ne hx
    have nb : b ≠ s.heap.objs.size := by rintro rfl; rw [upd_self] at eb; (have zc := Option.some.inj eb; clear eb; subst zc); exact tf_ne hx
    rw [upd_ne _ _ na] at ea
    rw [upd_ne _ _ nb] at eb
    exact W.gi _ _ _ _ _ ea eb
noncomputable def fput (F : FH) (a : Addr) (o : Obj) : FH := fun b => if b = a then some o else F b
theorem fput_self (F : FH) (a : Addr) (o : Obj) : fput F a o a = some o := by simp [fput]
theorem fput_ext {F : FH} {a : Addr} (o : Obj) (h : F a = none) : Ext F (fput F a o) := fun b ob e => by
  have : b ≠ a := by rintro rfl; rw [h] at e; exact ns_ne e
  simp [fput, this, e]
theorem Wd.freeze (W : Wd C F G hp s) {t : Nat} {o' : Obj} (hf : o'.isFreed = false) :
    Wd C (fput F s.heap.objs.size o') G hp ⟨s.heap.push o', s.gens, s.drawn, t, s.os⟩ ∧ Ext F (fput F s.heap.objs.size o') := by
  obtain ⟨hF, hG, hh⟩ := W.lt (Nat.le_refl _)
  have k : ∀ b o, s.heap.get? b = some o → (s.heap.push o').get? b = some o := fun b o e => Heap.get?_push_of_some _ e
  have ex := fput_ext o' hF
  refine ⟨⟨fun b o e => ex _ _ (W.base b o e), fun b o e => ?_, fun b o e => let ⟨o', q, r⟩ := W.gz b o e; ⟨o', k _ _ q, r⟩, fun a y e' => ?_, W.os, W.bare, W.gi, fun b o e => ?_⟩, ex⟩
  · by_cases h : b = s.heap.objs.size
    · subst h
      rw [fput_self] at e; (have zc := Option.some.inj e; clear e; subst zc)
      exact Heap.get?_push_size _ hf
    · simp only [fput, h, if_false] at e
      exact k _ _ (W.fz b o e)
  · obtain ⟨p, q, o, ho', r'⟩ := W.ob a y e'
    have h : a ≠ s.heap.objs.size := by rintro rfl; rw [hh] at e'; exact ns_ne e'
    exact ⟨by simp [fput, h, p], q, o, k _ _ ho', r'.mono ex⟩
  · by_cases h : b = s.heap.objs.size
    · subst h; exact hG
    · simp only [fput, h, if_false] at e
      exact W.fg b o e
end
structure Fm (F G : FH) (hp : HP) (env : Env) (loc : List (Str × AV)) (h : Heap) : Prop where
  kind : env.scope.kind = .function
  ns : ∃ m, h.Ns env.locals m ∧ ∀ x av, loc.lookup x = some av → env.kindOf x = some .local → ∃ v, m x = some v ∧ VR F av v
  lo : F env.locals = none ∧ G env.locals = none ∧ hp env.locals = none
  co : ∀ x, env.kindOf x = some .cell → ∃ c, env.cells.lookup x = some c ∧ F c = none ∧ G c = none ∧ hp c = none ∧ c ≠ env.locals ∧ (∃ v, h.IsCell c v)
  ci : ∀ x y c, env.kindOf x = some .cell → env.kindOf y = some .cell → env.cells.lookup x = some c → env.cells.lookup y = some c → x = y
  cv : ∀ x av c, loc.lookup x = some av → env.kindOf x = some .cell → env.cells.lookup x = some c → ∃ v, h.IsCell c (some v) ∧ VR F av v
  fv : ∀ x av, loc.lookup x = some av → env.kindOf x = some .free → ∃ c v o, env.cells.lookup x = some c ∧ G c = some o ∧ o.data = .cell (some v) ∧ VR F av v
structure ASt where
  loc : List (Str × AV)
  hp : HP
noncomputable def FrG (G : FH) (e : Env) : Prop := e.scope.kind ≠ .module ∧ ∃ L o, e.frame = some L ∧ G L = some o ∧ ∃ es ep, o.data = .dict es ep
theorem FrG.mono {G G' : FH} {e : Env} (x : Ext G G') (h : FrG G e) : FrG G' e := let ⟨a, L, o, b, c, d⟩ := h; ⟨a, L, o, b, x _ _ c, d⟩
noncomputable def Fs (A : Around) (G : FH) : Prop := ∃ l, A.frames = some l ∧ ∀ e ∈ l, FrG G e
noncomputable def FsE (A : Around) (G : FH) (env : Env) : Prop := ∃ e l, A.frames = some (e :: l) ∧ e.scope.kind ≠ .module ∧ e.frame = env.frame ∧ ((e = env ∧ env.frame = some env.locals) ∨ FrG G e) ∧ ∀ e' ∈ l, FrG G e'
theorem FsE.mono {A : Around} {G G' : FH} {env : Env} (x : Ext G G') (h : FsE A G env) : FsE A G' env :=
  let ⟨e, l, a, b, c, d, f⟩ := h; ⟨e, l, a, b, c, d.imp id (FrG.mono x), fun e' h' => (f e' h').mono x⟩
structure Rp (C : Cf) (A : Around) (F G : FH) (env : Env) (σ : ASt) (s : Shared) : Prop where
  wd : Wd C F G σ.hp s
  fm : Fm F G σ.hp env σ.loc s.heap
  fs : FsE A G env
section
variable {C : Cf} {F F' G : FH} {hp : HP} {env : Env} {loc : List (Str × AV)} {h h' : Heap}
theorem Fm.keep (M : Fm F G hp env loc h) {F' : FH} {hp' : HP} (e : Ext F F') (k : ∀ b o, h.get? b = some o → F b = none → G b = none → hp b = none → h'.get? b = some o ∧ F' b = none ∧ hp' b = none) : Fm F' G hp' env loc h' := by
  obtain ⟨kd, ⟨m, hm, hv⟩, ⟨l1, l2, l3⟩, co, ci, cv, fv⟩ := M
  obtain ⟨o, es, ep, ho, r⟩ := id hm
  obtain ⟨z1, z2, z3⟩ := k _ _ ho l1 l2 l3
  refine ⟨kd, ⟨m, ⟨o, es, ep, z1, r⟩, fun x av h1 h2 => let ⟨v, a, b⟩ := hv x av h1 h2; ⟨v, a, b.mono e⟩⟩, ⟨z2, l2, z3⟩, fun x hx => ?_, ci, fun x av c h1 h2 h3 => ?_, fun x av h1 h2 => ?_⟩
  · obtain ⟨c, hc, c1, c2, c3, c4, v, o, ho, hd⟩ := co x hx
    obtain ⟨y1, y2, y3⟩ := k _ _ ho c1 c2 c3
    exact ⟨c, hc, y2, c2, y3, c4, v, o, y1, hd⟩
  · obtain ⟨v, ⟨o, ho, hd⟩, hvr⟩ := cv x av c h1 h2 h3
    obtain ⟨c', hc', c1, c2, c3, zu⟩ := co x h2
    rw [h3] at hc'; (have zc := Option.some.inj hc'; clear hc'; subst zc)
    exact ⟨v, ⟨o, (k _ _ ho c1 c2 c3).1, hd⟩, hvr.mono e⟩
  · obtain ⟨c, v, o, a1, a2, a3, a4⟩ := fv x av h1 h2
    exact ⟨c, v, o, a1, a2, a3, a4.mono e⟩
end
section
variable {C : Cf} {A : Around} {F G : FH} {env : Env} {σ : ASt} {s : Shared}
theorem Rp.keep (R : Rp C A F G env σ s) {h' : Heap} {t : Nat} (k : ∀ b o, s.heap.get? b = some o → h'.get? b = some o) : Rp C A F G env σ ⟨h', s.gens, s.drawn, t, s.os⟩ :=
  ⟨R.wd.keep k, R.fm.keep (Ext.refl F) fun b o e a b' c => ⟨k _ _ e, a, c⟩, R.fs⟩
theorem Rp.tok (R : Rp C A F G env σ s) (t : Nat) : Rp C A F G env σ { s with toks := t } := R.keep fun zu zu e => e
theorem Rp.change (R : Rp C A F G env σ s) {h' : Heap} {t : Nat} {c : Addr} {x x' : AO} {o' : Obj} (e : σ.hp c = some x) (hx : isGen x' = false) (ho : h'.get? c = some o') (r : OR C F s.gens x' o')
    (k : ∀ b o, b ≠ c → s.heap.get? b = some o → h'.get? b = some o) : Rp C A F G env { σ with hp := upd σ.hp c x' } ⟨h', s.gens, s.drawn, t, s.os⟩ :=
  ⟨R.wd.change e hx ho r k, R.fm.keep (Ext.refl F) fun b o e' a b' c' => by
    have ne : b ≠ c := by rintro rfl; rw [e] at c'; exact sn_ne c'
    exact ⟨k _ _ ne e', a, by show upd σ.hp c x' b = none; rw [upd_ne _ _ ne]; exact c'⟩, R.fs⟩
theorem Rp.alloc (R : Rp C A F G env σ s) {t : Nat} {x' : AO} {o' : Obj} (hx : isGen x' = false) (hf : o'.isFreed = false) (r : OR C F s.gens x' o') :
    Rp C A F G env { σ with hp := upd σ.hp s.heap.objs.size x' } ⟨s.heap.push o', s.gens, s.drawn, t, s.os⟩ :=
  ⟨R.wd.alloc hx hf r, R.fm.keep (Ext.refl F) fun b o e' a b' c' => by
    have ne : b ≠ s.heap.objs.size := Nat.ne_of_lt (Heap.lt_size e')
    exact ⟨Heap.get?_push_of_some _ e', a, by show upd σ.hp _ x' b = none; rw [upd_ne _ _ ne]; exact c'⟩, R.fs⟩
theorem Rp.freeze (R : Rp C A F G env σ s) {t : Nat} {o' : Obj} (hf : o'.isFreed = false) :
    Rp C A (fput F s.heap.objs.size o') G env σ ⟨s.heap.push o', s.gens, s.drawn, t, s.os⟩ ∧ Ext F (fput F s.heap.objs.size o') := by
  obtain ⟨a, e⟩ := R.wd.freeze (t := t) hf
  refine ⟨⟨a, R.fm.keep e fun b o e' a b' c' => ?_, R.fs⟩, e⟩
  have ne : b ≠ s.heap.objs.size := Nat.ne_of_lt (Heap.lt_size e')
  exact ⟨Heap.get?_push_of_some _ e', by simp [fput, ne, a], c'⟩
theorem Rp.lt (R : Rp C A F G env σ s) : σ.hp s.heap.objs.size = none := (R.wd.lt (Nat.le_refl _)).2.2
end
inductive Post {α β : Type} (C : Cf) (A : Around) (G : FH) (env : Env) (R : FH → β → α → Prop) (Q : β → ASt → Prop) (F : FH) (v : α) (s' : Shared) : Prop
  | intro (F' : FH) (b : β) (σ' : ASt) (e : Ext F F') (r : R F' b v) (hR : Rp C A F' G env σ' s') (q : Q b σ')
noncomputable def Tr {α β : Type} (C : Cf) (A : Around) (E : Value → Shared → Prop) (env : Env) (R : FH → β → α → Prop) (t : Sem α) (σ : ASt) (Q : β → ASt → Prop) : Prop :=
  ∀ F G s, Rp C A F G env σ s → wpAny (model C.prog C.w) A t (Post C A G env R Q F) E s
inductive AFlow where
  | next | brk | cont
  | ret (v : AV)
inductive FlR (F : FH) : AFlow → Flow → Prop
  | next : FlR F .next .next
  | brk : FlR F .brk .brk
  | cont : FlR F .cont .cont
  | ret {a v} : VR F a v → FlR F (.ret a) (.ret v)
noncomputable abbrev Ev (C : Cf) (A : Around) (E : Value → Shared → Prop) (env : Env) (e : Expr) (σ : ASt) (Q : AV → ASt → Prop) : Prop := Tr C A E env VR (eval e env) σ Q
noncomputable abbrev Ex (C : Cf) (A : Around) (E : Value → Shared → Prop) (env : Env) (e : Stmt) (σ : ASt) (Q : AFlow → ASt → Prop) : Prop := Tr C A E env FlR (exec e env) σ Q
noncomputable abbrev Exs (C : Cf) (A : Around) (E : Value → Shared → Prop) (env : Env) (e : List Stmt) (σ : ASt) (Q : AFlow → ASt → Prop) : Prop := Tr C A E env FlR (execs e env) σ Q
noncomputable abbrev Et (C : Cf) (A : Around) (E : Value → Shared → Prop) (env : Env) (e : Expr) (σ : ASt) (Q : Bool → ASt → Prop) : Prop := Tr C A E env (fun zu b b' => b = b') (isTrue e env (eval e env)) σ Q
section
variable {C : Cf} {A : Around} {E : Value → Shared → Prop} {env : Env} {σ : ASt}
theorem Tr.mono {α β : Type} {R : FH → β → α → Prop} {t : Sem α} {Q Q' : β → ASt → Prop} (h : Tr C A E env R t σ Q) (k : ∀ b σ', Q b σ' → Q' b σ') : Tr C A E env R t σ Q' :=
  fun F G s hR => wpAny_mono (h F G s hR) (fun _ _ ⟨F', b, σ', a1, a2, a3, a4⟩ => ⟨F', b, σ', a1, a2, a3, k _ _ a4⟩) fun zu zu x => x
theorem Tr.gen {α β : Type} {R : FH → β → α → Prop} {t : Sem α} {Q : β → ASt → Prop} (h : ∀ K : β → ASt → Prop, (∀ b σ', Q b σ' → K b σ') → Tr C A E env R t σ K) : Tr C A E env R t σ Q :=
  h Q fun zu zu x => x
theorem Exs_nil {Q : AFlow → ASt → Prop} (h : Q .next σ) : Exs C A E env [] σ Q :=
  fun F G s hR => wpAny_execs_nil ⟨F, .next, σ, Ext.refl F, .next, hR, h⟩
noncomputable def seqK (C : Cf) (A : Around) (E : Value → Shared → Prop) (env : Env) (rest : List Stmt) (Q : AFlow → ASt → Prop) (f : AFlow) (σ : ASt) : Prop :=
  match f with
  | .next => Exs C A E env rest σ Q
  | f => Q f σ
theorem Exs_cons {st : Stmt} {rest : List Stmt} {Q : AFlow → ASt → Prop}
    (h : Ex C A E env st σ (seqK C A E env rest Q)) : Exs C A E env (st :: rest) σ Q := by
  intro F G s hR
  refine wpAny_execs_cons (wpAny_mono (h F G s hR) ?_ fun zu zu x => x)
  (rintro f s'; intro zr; obtain ⟨F', b, σ', e1, r, hR', hQ⟩ := zr)
  cases r with
  | next => exact wpAny_mono (hQ F' G s' hR') (fun _ _ ⟨F'', b, σ', a1, a2, a3, a4⟩ => ⟨F'', b, σ', e1.trans a1, a2, a3, a4⟩) fun zu zu x => x
  | brk => exact ⟨F', _, σ', e1, .brk, hR', hQ⟩
  | cont => exact ⟨F', _, σ', e1, .cont, hR', hQ⟩
  | ret r => exact ⟨F', _, σ', e1, .ret r, hR', hQ⟩
theorem Ex_If {test : Expr} {body orelse : List Stmt} {pos : Pos} {Q : AFlow → ASt → Prop}
    (h : Et C A E env test σ (fun b σ' => if b then Exs C A E env body σ' Q else Exs C A E env orelse σ' Q)) : Ex C A E env (.If test body orelse pos) σ Q := by
  intro F G s hR
  refine wpAny_If (wpAny_mono (h F G s hR) ?_ fun zu zu x => x)
  (rintro f s'; intro zr; obtain ⟨F', b, σ', e1, rfl, hR', hQ⟩ := zr)
  cases b with
  | true => exact wpAny_mono (hQ F' G s' hR') (fun _ _ ⟨F'', b, σ', a1, a2, a3, a4⟩ => ⟨F'', b, σ', e1.trans a1, a2, a3, a4⟩) fun zu zu x => x
  | false => exact wpAny_mono (hQ F' G s' hR') (fun _ _ ⟨F'', b, σ', a1, a2, a3, a4⟩ => ⟨F'', b, σ', e1.trans a1, a2, a3, a4⟩) fun zu zu x => x
end
end
section
noncomputable def setL : List (Str × AV) → Str → AV → List (Str × AV)
  | [], x, v => [(x, v)]
  | (y, u) :: r, x, v => if y == x then (x, v) :: r else (y, u) :: setL r x v
theorem lookup_setL (l : List (Str × AV)) (x y : Str) (v : AV) : (setL l x v).lookup y = if y = x then some v else l.lookup y := by
  induction l with
  | nil =>
    simp only [setL, List.lookup]
    by_cases h : y = x
    · subst h; simp
    · simp [h, beq_eq_false_iff_ne.mpr h]
  | cons p r ih =>
    obtain ⟨k, u⟩ := p
    simp only [setL]
    by_cases hk : k = x
    · subst hk
      simp only [beq_self_eq_true, if_true, List.lookup]
      by_cases h : y = k
      · subst h; simp
      · simp [h, beq_eq_false_iff_ne.mpr h]
    · simp only [beq_eq_false_iff_ne.mpr hk, Bool.false_eq_true, if_false, List.lookup]
      by_cases h : y = k
      · subst h; simp [hk]
      · simp only [beq_eq_false_iff_ne.mpr h, ih]
@[reducible] noncomputable def ASt.set (σ : ASt) (x : Str) (v : AV) : ASt := { σ with loc := setL σ.loc x v }
@[reducible] noncomputable def ASt.put (σ : ASt) (a : Addr) (x : AO) : ASt := { σ with hp := upd σ.hp a x }
section
variable {C : Cf} {A : Around} {E : Value → Shared → Prop} {env : Env} {σ : ASt} {F G : FH} {s : Shared}
theorem Post.of {α β : Type} {R : FH → β → α → Prop} {Q : β → ASt → Prop} {v : α} {b : β} (hr : R F b v) (hR : Rp C A F G env σ s) (q : Q b σ) : Post C A G env R Q F v s :=
  ⟨F, b, σ, Ext.refl F, hr, hR, q⟩
theorem Post.ext {α β : Type} {R : FH → β → α → Prop} {Q : β → ASt → Prop} {v : α} {F₁ : FH} (e : Ext F F₁) (h : Post C A G env R Q F₁ v s) : Post C A G env R Q F v s := by
  obtain ⟨F', b, σ', a1, a2, a3, a4⟩ := h
  exact ⟨F', b, σ', e.trans a1, a2, a3, a4⟩
theorem Tr.use {α β : Type} {R : FH → β → α → Prop} {t : Sem α} {Q : β → ASt → Prop} (h : Tr C A E env R t σ Q) (hR : Rp C A F G env σ s) {P : α → Shared → Prop}
    (k : ∀ F' b σ' v s', Ext F F' → R F' b v → Rp C A F' G env σ' s' → Q b σ' → P v s') : wpAny (model C.prog C.w) A t P E s :=
  wpAny_mono (h F G s hR) (fun v s' ⟨F', b, σ', a1, a2, a3, a4⟩ => k F' b σ' v s' a1 a2 a3 a4) fun zu zu x => x
theorem Tr.go {α β : Type} {R : FH → β → α → Prop} {t : Sem α} {Q : β → ASt → Prop} {F₀ : FH} (h : Tr C A E env R t σ Q) (hR : Rp C A F G env σ s) (e : Ext F₀ F) : wpAny (model C.prog C.w) A t (Post C A G env R Q F₀) E s :=
  wpAny_mono (h F G s hR) (fun v s' z => Post.ext e z) fun zu zu x => x
theorem Ev_none {k pos} {Q : AV → ASt → Prop} (h : Q .none σ) : Ev C A E env (.Constant .none k pos) σ Q := fun F G s hR => wpAny_pure (Post.of .none hR h)
theorem Ev_bool {b k pos} {Q : AV → ASt → Prop} (h : Q (.bool b) σ) : Ev C A E env (.Constant (.bool b) k pos) σ Q := fun F G s hR => wpAny_pure (Post.of (.bool b) hR h)
theorem Ev_int {i k pos} {Q : AV → ASt → Prop} (h : Q (.int i) σ) : Ev C A E env (.Constant (.int i) k pos) σ Q := fun F G s hR => wpAny_Constant_int (Post.of (.int i _) (hR.tok _) h)
theorem Ev_str {x k pos} {Q : AV → ASt → Prop} (h : Q (.str x) σ) : Ev C A E env (.Constant (.str x) k pos) σ Q := fun F G s hR => wpAny_mkText (Post.of (.str x _) (hR.tok _) h)
theorem Wd.gzx {hp : HP} (W : Wd C F G hp s) {b : Addr} {o : Obj} (e : G b = some o) (hd : ∀ es ep, o.data ≠ .dict es ep) : s.heap.get? b = some o := by
  obtain ⟨o', h1, h2⟩ := W.gz b o e
  rw [← h2.exact hd]; exact h1
noncomputable def isVar : Option NameKind → Bool
  | some .local => true
  | some .cell => true
  | some .free => true
  | _ => false
theorem load_var {x : Str} {av : AV} {Q : Value → Shared → Prop} (hR : Rp C A F G env σ s) (hv : σ.loc.lookup x = some av) (hk : isVar (env.kindOf x) = true) (hn : (x == ("__classdict__" : Str)) = false)
    (h : ∀ v, VR F av v → Q v s) : wpAny (model C.prog C.w) A (loadName env x) Q E s := by
  cases q : env.kindOf x with
  | none => rw [q] at hk; exact ft_ne hk
  | some kd =>
    rw [q] at hk
    cases kd <;> first | (first | exact ft_ne hk | cases hk) | skip
    · obtain ⟨m, hm, hv'⟩ := hR.fm.ns
      obtain ⟨v, h1, h2⟩ := hv' x av hv q
      exact wpAny_loadName_local hR.fm.kind q hm h1 (h v h2)
    · obtain ⟨c, hc, zu⟩ := hR.fm.co x q
      obtain ⟨v, h1, h2⟩ := hR.fm.cv x av c hv q hc
      exact wpAny_loadName_cell hR.fm.kind q hc h1 (h v h2)
    · obtain ⟨c, v, o, h1, h2, h3, h4⟩ := hR.fm.fv x av hv q
      exact wpAny_loadName_free hR.fm.kind q h1 ⟨o, hR.wd.gzx h2 (by intro es ep z; rw [h3] at z; cases z), h3⟩ (h v h4) hn
theorem Ev_Name {x pos av} {Q : AV → ASt → Prop} (hv : σ.loc.lookup x = some av) (h : Q av σ) (hk : autoParam (isVar (env.kindOf x) = true) AC.aux0._auto_1)
    (hd : autoParam ((x == ("__debug__" : Str)) = false) AC.aux1._auto_1) (hn : autoParam ((x == ("__classdict__" : Str)) = false) AC.aux1._auto_1) : Ev C A E env (.Name x pos) σ Q :=
  fun F G s hR => wpAny_Name (load_var hR hv hk hn fun v hv => Post.of hv hR h) hd
noncomputable def GL (C : Cf) (x : Str) (v : Value) : Prop := ∀ env : Env, env.globals = mainGlobals → env.builtins = builtinsNs → Looks (model C.prog C.w) C.h0 (loadGlobal env x) v
theorem Wd.old {hp : HP} (W : Wd C F G hp s) : ∀ b o, C.h0.get? b = some o → s.heap.get? b = some o := fun b o e => W.fz _ _ (W.base _ _ e)
theorem load_glob {env : Env} {x : Str} (hs : env.scope.kind = .function) (hk : env.kindOf x = some .globalImplicit) : loadName env x = loadGlobal env x := by
  unfold loadName
  simp only [Env.blockKind, hs, hk, ScopeKind.isAnnotationScope, Bool.false_and, Bool.false_eq_true, if_false]
theorem Ev_Global {x pos v} {Q : AV → ASt → Prop} (av : AV) (hg : GL C x v) (ha : ∀ F, VR F av v) (h : Q av σ) (hk : autoParam (env.kindOf x = some .globalImplicit) AC.aux0._auto_1) (hs : autoParam (env.scope.kind = .function) AC.aux0._auto_1) (h1 : autoParam (env.globals = mainGlobals) AC.aux0._auto_1) (h2 : autoParam (env.builtins = builtinsNs) AC.aux0._auto_1)
    (hd : autoParam ((x == ("__debug__" : Str)) = false) AC.aux1._auto_1) : Ev C A E env (.Name x pos) σ Q := by
  intro F G s hR
  refine wpAny_Name ?_ hd
  rw [load_glob hs hk]
  exact hg env h1 h2 A _ E s hR.wd.old (Post.of (ha F) hR h)
theorem Ev_GRef {x pos a} {Q : AV → ASt → Prop} (hg : GL C x (.ref a)) (h : Q (.ref a) σ) (hk : autoParam (env.kindOf x = some .globalImplicit) AC.aux0._auto_1) (hs : autoParam (env.scope.kind = .function) AC.aux0._auto_1) (h1 : autoParam (env.globals = mainGlobals) AC.aux0._auto_1) (h2 : autoParam (env.builtins = builtinsNs) AC.aux0._auto_1)
    (hd : autoParam ((x == ("__debug__" : Str)) = false) AC.aux1._auto_1) : Ev C A E env (.Name x pos) σ Q := Ev_Global _ hg (fun F => .ref a) h hk hs h1 h2 hd
theorem Ev_GVal {x pos v} {Q : AV → ASt → Prop} (hg : GL C x v) (h : Q (.val v) σ) (hk : autoParam (env.kindOf x = some .globalImplicit) AC.aux0._auto_1) (hs : autoParam (env.scope.kind = .function) AC.aux0._auto_1) (h1 : autoParam (env.globals = mainGlobals) AC.aux0._auto_1) (h2 : autoParam (env.builtins = builtinsNs) AC.aux0._auto_1)
    (hd : autoParam ((x == ("__debug__" : Str)) = false) AC.aux1._auto_1) : Ev C A E env (.Name x pos) σ Q := Ev_Global _ hg (fun F => .val v) h hk hs h1 h2 hd
theorem store_var {x : Str} {av : AV} {v : Value} {Q : Unit → Shared → Prop} (hR : Rp C A F G env σ s) (hv : VR F av v) (hk : env.kindOf x = some .local ∨ env.kindOf x = some .cell)
    (h : ∀ s', Rp C A F G env (σ.set x av) s' → Q () s') : wpAny (model C.prog C.w) A (storeName env x v) Q E s := by
  obtain ⟨kd, ⟨m, hm, hmv⟩, ⟨l1, l2, l3⟩, co, ci, cv, fv⟩ := hR.fm
  have hfs := hR.fs
  rcases hk with hk | hk
  · refine wpAny_storeName_local hk hm (fun h' hn hs => h _ ⟨?_, ?_, hfs⟩) (by rw [kd]; rfl)
    · exact hR.wd.keepBut l1 l2 l3 fun b o ne e => (hs.2 b ne).trans e
    · refine ⟨kd, ⟨_, hn, fun y aw hl hy => ?_⟩, ⟨l1, l2, l3⟩, fun y hy => ?_, ci, fun y aw c hl hy hc => ?_, fun y aw hl hy => ?_⟩
      · rw [lookup_setL] at hl
        by_cases e : y = x
        · subst e; simp only [if_true] at hl ⊢; (have zc := Option.some.inj hl; clear hl; subst zc); exact ⟨v, rfl, hv⟩
        · simp only [e, if_false] at hl ⊢; exact hmv y aw hl hy
      · obtain ⟨c, h1, h2, h3, h4, h5, u, h6⟩ := co y hy
        exact ⟨c, h1, h2, h3, h4, h5, u, h6.sameBut hs h5⟩
      · have e : y ≠ x := by rintro rfl; rw [hk] at hy; cases hy
        rw [lookup_setL, if_neg e] at hl
        obtain ⟨u, h1, h2⟩ := cv y aw c hl hy hc
        obtain ⟨c', g1, zu, zu, zu, g5, zu⟩ := co y hy
        rw [hc] at g1; (have zc := Option.some.inj g1; clear g1; subst zc)
        exact ⟨u, h1.sameBut hs g5, h2⟩
      · have e : y ≠ x := by rintro rfl; rw [hk] at hy; cases hy
        rw [lookup_setL, if_neg e] at hl
        exact fv y aw hl hy
  · obtain ⟨c, h1, h2, h3, h4, h5, u, h6⟩ := co x hk
    refine wpAny_storeName_cell kd hk h1 h6 fun h' hc' hs => h _ ⟨?_, ?_, hfs⟩
    · exact hR.wd.keepBut h2 h3 h4 fun b o ne e => (hs.2 b ne).trans e
    · refine ⟨kd, ⟨m, hm.sameBut hs h5.symm, fun y aw hl hy => ?_⟩, ⟨l1, l2, l3⟩, fun y hy => ?_, ci, fun y aw d hl hy hd => ?_, fun y aw hl hy => ?_⟩
      · have e : y ≠ x := by rintro rfl; rw [hk] at hy; cases hy
        rw [lookup_setL, if_neg e] at hl
        exact hmv y aw hl hy
      · obtain ⟨d, g1, g2, g3, g4, g5, u', g6⟩ := co y hy
        by_cases e : d = c
        · subst e; exact ⟨d, g1, g2, g3, g4, g5, _, hc'⟩
        · exact ⟨d, g1, g2, g3, g4, g5, u', g6.sameBut hs e⟩
      · rw [lookup_setL] at hl
        by_cases e : y = x
        · subst e
          simp only [if_true] at hl; (have zc := Option.some.inj hl; clear hl; subst zc)
          rw [h1] at hd; (have zc := Option.some.inj hd; clear hd; subst zc)
          exact ⟨v, hc', hv⟩
        · rw [if_neg e] at hl
          obtain ⟨u', g1, g2⟩ := cv y aw d hl hy hd
          have ne : d ≠ c := by rintro rfl; exact e (ci y x d hy hk hd h1)
          exact ⟨u', g1.sameBut hs ne, g2⟩
      · have e : y ≠ x := by rintro rfl; rw [hk] at hy; cases hy
        rw [lookup_setL, if_neg e] at hl
        exact fv y aw hl hy
noncomputable def isOwn : Option NameKind → Bool
  | some .local => true
  | some .cell => true
  | _ => false
theorem isOwn_or {k : Option NameKind} (h : isOwn k = true) : k = some .local ∨ k = some .cell := by
  cases k with
  | none => exact ft_ne h
  | some k => cases k <;> first | exact .inl rfl | exact .inr rfl | (first | exact ft_ne h | cases h)
theorem Ex_Assign_Name {x pos' value pos} {Q : AFlow → ASt → Prop} (h : Ev C A E env value σ (fun v σ' => Q .next (σ'.set x v))) (hk : autoParam (isOwn (env.kindOf x) = true) AC.aux0._auto_1)
    (hs : autoParam (swapsWith value (some (.Name x pos')) pos.line env = pure false) AC.aux0._auto_1) : Ex C A E env (.Assign [.Name x pos'] value pos) σ Q := by
  intro F G s hR
  refine wpAny_Assign_Name (h.use hR fun F' b σ' v s' e hv hR' hQ => ?_) hs
  exact store_var hR' hv (isOwn_or hk) fun s'' hR'' => Post.ext e (Post.of .next hR'' hQ)
theorem Ex_Return {e pos} {Q : AFlow → ASt → Prop} (h : Ev C A E env e σ (fun v σ' => Q (.ret v) σ')) : Ex C A E env (.Return (some e) pos) σ Q := by
  intro F G s hR
  exact wpAny_Return_some (h.use hR fun F' b σ' v s' e hv hR' hQ => Post.ext e (Post.of (.ret hv) hR' hQ))
theorem Ex_Return_none {pos} {Q : AFlow → ASt → Prop} (h : Q (.ret .none) σ) : Ex C A E env (.Return none pos) σ Q :=
  fun F G s hR => wpAny_Return_none (Post.of (.ret .none) hR h)
theorem Ex_Break {pos} {Q : AFlow → ASt → Prop} (h : Q .brk σ) : Ex C A E env (.Break pos) σ Q := fun F G s hR => wpAny_Break (Post.of .brk hR h)
theorem Ex_Continue {pos} {Q : AFlow → ASt → Prop} (h : Q .cont σ) : Ex C A E env (.Continue pos) σ Q := fun F G s hR => wpAny_Continue (Post.of .cont hR h)
end
end
section
section
variable {C : Cf} {A : Around} {E : Value → Shared → Prop} {env : Env} {σ : ASt} {F G : FH} {s : Shared}
noncomputable def Op1 {α β : Type} (C : Cf) (A : Around) (E : Value → Shared → Prop) (env : Env) (R : FH → β → α → Prop) (f : Value → Sem α) (x : AV) (σ : ASt) (Q : β → ASt → Prop) : Prop :=
  ∀ F G s v, Rp C A F G env σ s → VR F x v → wpAny (model C.prog C.w) A (f v) (Post C A G env R Q F) E s
noncomputable def Op2 {α β : Type} (C : Cf) (A : Around) (E : Value → Shared → Prop) (env : Env) (R : FH → β → α → Prop) (f : Value → Value → Sem α) (x y : AV) (σ : ASt) (Q : β → ASt → Prop) : Prop :=
  ∀ F G s v u, Rp C A F G env σ s → VR F x v → VR F y u → wpAny (model C.prog C.w) A (f v u) (Post C A G env R Q F) E s
theorem Op1.at {α β : Type} {R : FH → β → α → Prop} {f : Value → Sem α} {x : AV} {Q : β → ASt → Prop} (h : Op1 C A E env R f x σ Q) {F₀ : FH} (e : Ext F₀ F) (hR : Rp C A F G env σ s) {v : Value} (hv : VR F x v) :
    wpAny (model C.prog C.w) A (f v) (Post C A G env R Q F₀) E s := wpAny_mono (h F G s v hR hv) (fun zu zu z => Post.ext e z) fun zu zu x => x
theorem Op2.at {α β : Type} {R : FH → β → α → Prop} {f : Value → Value → Sem α} {x y : AV} {Q : β → ASt → Prop} (h : Op2 C A E env R f x y σ Q) {F₀ : FH} (e : Ext F₀ F) (hR : Rp C A F G env σ s) {v u : Value} (hv : VR F x v) (hu : VR F y u) :
    wpAny (model C.prog C.w) A (f v u) (Post C A G env R Q F₀) E s := wpAny_mono (h F G s v u hR hv hu) (fun zu zu z => Post.ext e z) fun zu zu x => x
theorem Ev_Attr {value : Expr} {attr : Str} {pos : Pos} {Q : AV → ASt → Prop} (h : Ev C A E env value σ (fun o σ' => Op1 C A E env VR (fun v => getAttr v attr true) o σ' Q))
    (hb : autoParam (attributeBase value attr env (eval value env) = eval value env) AC.aux0._auto_1) : Ev C A E env (.Attribute value attr pos) σ Q := by
  intro F G s hR
  rw [arm_eval_Attribute, hb]
  refine wpAny_bind (h.use hR fun F' b σ' v s' e hv hR' hQ => wpAny_bind (wpAny_standAt (wpAny_bind (wpAny_holding (wpAny_mono (hQ.at e hR' hv) (fun r s₂ z => ?_) fun zu zu x => x)))))
  exact wpAny_bind (wpAny_letTemporaryGo (wpAny_pure z))
theorem Ev_Bin {l r : Expr} {op : Operator} {pos : Pos} {Q : AV → ASt → Prop} (h : Ev C A E env l σ (fun a σ₁ => Ev C A E env r σ₁ (fun b σ₂ => Op2 C A E env VR (binaryOp op) a b σ₂ Q))) : Ev C A E env (.BinOp l op r pos) σ Q := by
  intro F G s hR
  refine wpAny_BinOp (h.use hR fun F₁ a σ₁ va s₁ e₁ ha hR₁ h₁ => h₁.use hR₁ fun F₂ b σ₂ vb s₂ e₂ hb hR₂ h₂ => ?_)
  exact h₂.at (e₁.trans e₂) hR₂ (ha.mono e₂) hb
theorem Et_Cmp {l r : Expr} {op : CmpOp} {pos : Pos} {Q : Bool → ASt → Prop} (h : Ev C A E env l σ (fun a σ₁ => Ev C A E env r σ₁ (fun b σ₂ => Op2 C A E env VR (compareOp op) a b σ₂ (fun c σ₃ => ∃ t, c = .bool t ∧ Q t σ₃))))
    (hm : autoParam (behindInMarks op r = false) AC.aux2._auto_1) : Et C A E env (.Compare l [op] [r] pos) σ Q := by
  intro F G s hR
  refine wpAny_isTrue_Compare1 (h.use hR fun F₁ a σ₁ va s₁ e₁ ha hR₁ h₁ => h₁.use hR₁ fun F₂ b σ₂ vb s₂ e₂ hb hR₂ h₂ => ?_) hm
  refine wpAny_mono (h₂.at (e₁.trans e₂) hR₂ (ha.mono e₂) hb) (fun c s₃ z => ?_) fun zu zu x => x
  obtain ⟨F', b, σ', a1, a2, a3, t, rfl, a4⟩ := z
  (have zc := VR.boolI a2; clear a2; subst zc)
  exact wpAny_truthy_bool ⟨F', t, σ', a1, rfl, a3, a4⟩
theorem Et_not {x : Expr} {pos : Pos} {Q : Bool → ASt → Prop} (h : Et C A E env x σ (fun b σ' => Q (!b) σ')) : Et C A E env (.UnaryOp .Not x pos) σ Q := by
  intro F G s hR
  show wpAny _ _ (do return !(← isTrue x env (eval x env))) _ _ _
  exact wpAny_bind (h.use hR fun F₁ b σ₁ v s₁ e₁ ha hR₁ h₁ => wpAny_pure ⟨F₁, _, σ₁, e₁, by rw [ha], hR₁, h₁⟩)
theorem Et_and {x y : Expr} {pos : Pos} {Q : Bool → ASt → Prop} (h : Et C A E env x σ (fun b σ' => match b with | true => Et C A E env y σ' Q | false => Q false σ')) : Et C A E env (.BoolOp .And [x, y] pos) σ Q := by
  intro F G s hR
  show wpAny _ _ (do match BoolOp.And, ← isTrue x env (eval x env) with | .And, false => pure false | .Or, true => pure true | _, _ => (do match BoolOp.And, ← isTrue y env (eval y env) with | .And, false => pure false | .Or, true => pure true | _, _ => pure (BoolOp.And == BoolOp.And))) _ _ _
  refine wpAny_bind (h.use hR fun F₁ b σ₁ v s₁ e₁ ha hR₁ h₁ => ?_)
  subst ha
  cases b with
  | false => exact wpAny_pure ⟨F₁, _, σ₁, e₁, rfl, hR₁, h₁⟩
  | true =>
    refine wpAny_bind (h₁.use hR₁ fun F₂ b σ₂ v s₂ e₂ ha hR₂ h₂ => ?_)
    subst ha
    cases b <;> exact wpAny_pure ⟨F₂, _, σ₂, e₁.trans e₂, rfl, hR₂, h₂⟩
noncomputable def plainTest : Expr → Bool
  | .UnaryOp .Not .. => false
  | .BoolOp .. => false
  | .IfExp .. => false
  | .Compare .. => false
  | _ => true
theorem isTrue_plain {x : Expr} (hp : plainTest x = true) : isTrue x env (eval x env) = (do let v ← eval x env; standAt x.pos; holding [v] (truthy v)) := by
  cases x <;> first | rfl | (first | exact ft_ne hp | cases hp) | (rename_i op _ _; cases op <;> first | rfl | (first | exact ft_ne hp | cases hp))
theorem Et_plain {x : Expr} {Q : Bool → ASt → Prop} (h : Ev C A E env x σ (fun v σ' => Op1 C A E env (fun zu b b' => b = b') truthy v σ' Q)) (hp : autoParam (plainTest x = true) AC.aux0._auto_1) : Et C A E env x σ Q := by
  intro F G s hR
  rw [isTrue_plain hp]
  exact wpAny_bind (h.use hR fun F₁ a σ₁ va s₁ e₁ ha hR₁ h₁ => wpAny_bind (wpAny_standAt (wpAny_holding (h₁.at e₁ hR₁ ha))))
theorem truthy_bool {b : Bool} {Q : Bool → ASt → Prop} (h : Q b σ) : Op1 C A E env (fun zu b b' => b = b') truthy (.bool b) σ Q := by
  intro F G s v hR hv
  (have zc := VR.boolI hv; clear hv; subst zc)
  exact wpAny_truthy_bool (Post.of rfl hR h)
theorem is_none {x : AV} {Q : AV → ASt → Prop} (hx : ∃ a, x = .ref a) (h : Q (.bool false) σ) : Op2 C A E env VR (compareOp .Is) x .none σ Q := by
  intro F G s v u hR hv hu
  obtain ⟨a, rfl⟩ := hx
  (have zc := VR.refI hv; clear hv; subst zc); (have zc := VR.noneI hu; clear hu; subst zc)
  exact is_ref_none (Post.of (.bool _) hR h)
theorem is_none_none {Q : AV → ASt → Prop} (h : Q (.bool true) σ) : Op2 C A E env VR (compareOp .Is) .none .none σ Q := by
  intro F G s v u hR hv hu
  (have zc := VR.noneI hv; clear hv; subst zc); (have zc := VR.noneI hu; clear hu; subst zc)
  exact wpAny_is_self rfl (Post.of (.bool _) hR h)
theorem cls_ne_tuple {gens} {x : AO} {o : Obj} (h : OR C F gens x o) (hx : ∀ loc, x ≠ .frame loc) (hf : ∀ c vs, (x = .fields c vs ∨ x = .itr c vs) → c ≠ "tuple") : o.cls ≠ .type "tuple" := by
  cases h with
  | list a => rw [a]; simp
  | dict a => rw [a.1]; simp
  | iset a => rw [a.1]; simp
  | ns a => rw [a.1]; simp
  | inst => simp
  | slot => simp
  | fields a => rw [a]; simpa using hf _ _ (.inl rfl)
  | itr a => rw [a]; simpa using hf _ _ (.inr rfl)
  | frame => exact absurd rfl (hx _)
  | gen a => rw [a]; simp
theorem is_ref {a b : Addr} {x y : AO} {Q : AV → ASt → Prop} (ha : σ.hp a = some x) (hb : σ.hp b = some y) (hx : (∃ K vs, x = .slot K vs) ∨ ∃ K d, x = .inst K d) (h : Q (.bool (decide (a = b))) σ) : Op2 C A E env VR (compareOp .Is) (.ref a) (.ref b) σ Q := by
  intro F G s v u hR hv hu
  (have zc := VR.refI hv; clear hv; subst zc); (have zc := VR.refI hu; clear hu; subst zc)
  by_cases e : a = b
  · subst e
    exact wpAny_is_ref_self (Post.of (.bool _) hR (by simpa using h))
  · obtain ⟨zu, zu, o, ho, r⟩ := hR.wd.ob a x ha
    obtain ⟨zu, zu, o', ho', r'⟩ := hR.wd.ob b y hb
    exact wpAny_is_ref_other e ho ho' (cls_ne_tuple r (by rcases hx with ⟨zu, zu, rfl⟩ | ⟨zu, zu, rfl⟩ <;> simp) (by rcases hx with ⟨zu, zu, rfl⟩ | ⟨zu, zu, rfl⟩ <;> simp)) (Post.of (.bool _) hR (by simpa [e] using h))
theorem isNot_ref {a b : Addr} {x y : AO} {Q : AV → ASt → Prop} (ha : σ.hp a = some x) (hb : σ.hp b = some y) (hx : (∃ K vs, x = .slot K vs) ∨ ∃ K d, x = .inst K d) (h : Q (.bool (!decide (a = b))) σ) : Op2 C A E env VR (compareOp .IsNot) (.ref a) (.ref b) σ Q := by
  intro F G s v u hR hv hu
  (have zc := VR.refI hv; clear hv; subst zc); (have zc := VR.refI hu; clear hu; subst zc)
  by_cases e : a = b
  · subst e
    exact wpAny_isNot_ref_self (Post.of (.bool _) hR (by simpa using h))
  · obtain ⟨zu, zu, o, ho, r⟩ := hR.wd.ob a x ha
    obtain ⟨zu, zu, o', ho', r'⟩ := hR.wd.ob b y hb
    exact wpAny_isNot_ref_other e ho ho' (cls_ne_tuple r (by rcases hx with ⟨zu, zu, rfl⟩ | ⟨zu, zu, rfl⟩ <;> simp) (by rcases hx with ⟨zu, zu, rfl⟩ | ⟨zu, zu, rfl⟩ <;> simp)) (Post.of (.bool _) hR (by simpa [e] using h))
end
end
section
noncomputable def SlotAt (C : Cf) (Cl : Addr) (name : Str) (i : Nat) : Prop := ∃ (K : Frag) (p : Addr), K.In C.h0 ∧
  findIn K (.ref Cl) "__getattribute__" = some (some (.builtin "object.__getattribute__")) ∧ findIn K (.ref Cl) "__getattr__" = some none ∧
  findObj K Cl (some emptyDict) name = some (.bind (.builtin "member_descriptor.__get__") (.ref p)) ∧ slotIn K p Cl = some i ∧
  findIn K (.ref Cl) "__setattr__" = some (some (.builtin "object.__setattr__")) ∧ plainOver K Cl = true ∧ takerIn K Cl name = some (some (.ref p)) ∧
  typeIn K (.ref p) = some (.type "member_descriptor") ∧ i < 1000
noncomputable def NsAt (C : Cf) (Cl : Addr) (name : Str) : Prop := ∃ (K : Frag) (cd : ClassData), K.In C.h0 ∧
  findIn K (.ref Cl) "__getattribute__" = some (some (.builtin "object.__getattribute__")) ∧ findIn K (.ref Cl) "__getattr__" = some none ∧
  clsIn K Cl = some cd ∧ cd.hasDict = true ∧ findIn K (.ref Cl) name = some none ∧
  findIn K (.ref Cl) "__setattr__" = some (some (.builtin "object.__setattr__")) ∧ plainOver K Cl = true ∧ takerIn K Cl name = some none
section
variable {C : Cf} {A : Around} {E : Value → Shared → Prop} {env : Env} {σ : ASt} {F G : FH} {s : Shared}
theorem VR.handed {x : AV} {v : Value} (h : VR F x v) (hx : ∀ u, x ≠ .val u) : handedIn v = true := by
  cases h <;> first | rfl | exact absurd rfl (hx _)
theorem VRos.join {xs vs} (h : VRos F xs vs) {i : Nat} {x} (e : xs[i]? = some (some x)) : ∃ v, (vs.toArray[i]?).join = some v ∧ VR F x v := by
  obtain ⟨v, h1, h2⟩ := h.get e
  exact ⟨v, by rw [List.getElem?_toArray, h1]; rfl, h2⟩
theorem get_slot {a Cl : Addr} {name : Str} {i : Nat} {vs : List (Option AV)} {x : AV} {Q : AV → ASt → Prop} (hs : SlotAt C Cl name i) (ha : σ.hp a = some (.slot Cl vs)) (hx : vs[i]? = some (some x)) (h : Q x σ)
    (hv : autoParam (∀ u, x ≠ .val u) AC.aux3._auto_1) : Op1 C A E env VR (fun v => getAttr v name true) (.ref a) σ Q := by
  intro F G s v hR hv'
  (have zc := VR.refI hv'; clear hv'; subst zc)
  obtain ⟨K, p, X, g1, g2, g3, g4, zu⟩ := hs
  obtain ⟨zu, zu, o, ho, r⟩ := hR.wd.ob a _ ha
  (refine OR.slotC r fun zv zv zo hd zs => ?_; clear r; subst zo)
  obtain ⟨v, j, hvr⟩ := zs.join hx
  have X' := X.keeps hR.wd.old
  have I : InstAt s.heap a _ Cl (some emptyDict) := ⟨ho, rfl, rfl, hR.wd.fz _ _ hd⟩
  refine get_bind X' I g1 g3 g2 (wpAny_call (slot_get (s := { s with toks := s.toks + 1 }) (od := some emptyDict) X' ⟨ho, rfl, rfl, hR.wd.fz _ _ hd⟩ g4 j ?_))
  show wpAny _ _ (handedOut v) _ _ _
  rw [handedOut_of (hvr.handed hv)]
  exact wpAny_pure (Post.of hvr (hR.tok _) h)
theorem NR.look {P : Params} {fs : List (Str × AV)} {ds : List DictEntry} (h : NR P F fs ds) {name : Str} {x : AV} (e : fs.lookup name = some x) : ∃ en, ds.find? (·.key.isStr name) = some en ∧ VR F x en.val := by
  induction h with
  | nil => exact ns_ne e
  | @cons k v es en ds t a b c zu ih =>
    simp only [List.lookup] at e
    by_cases q : name = k
    · subst q
      simp only [beq_self_eq_true] at e; (have zc := Option.some.inj e; clear e; subst zc)
      exact ⟨en, by simp [b, Value.isStr], c⟩
    · simp only [beq_eq_false_iff_ne.mpr q] at e
      obtain ⟨en', h1, h2⟩ := ih e
      refine ⟨en', ?_, h2⟩
      rw [List.find?_cons, b]
      have : (Value.str k t).isStr name = false := by simp [Value.isStr, Ne.symm q]
      rw [this]; exact h1
theorem NR.noRef {P : Params} {fs : List (Str × AV)} {ds : List DictEntry} (h : NR P F fs ds) : ds.any (·.refKey) = false := by
  induction h with
  | nil => rfl
  | cons a b c zu ih => rw [List.any_cons, ih]; simp [DictEntry.refKey, b]
theorem get_ns {a d Cl : Addr} {name : Str} {fs : List (Str × AV)} {x : AV} {Q : AV → ASt → Prop} (hs : NsAt C Cl name) (ha : σ.hp a = some (.inst Cl d)) (hd : σ.hp d = some (.ns fs)) (hx : fs.lookup name = some x) (h : Q x σ)
    (hv : autoParam (∀ u, x ≠ .val u) AC.aux3._auto_1) : Op1 C A E env VR (fun v => getAttr v name true) (.ref a) σ Q := by
  intro F G s v hR hv'
  (have zc := VR.refI hv'; clear hv'; subst zc)
  obtain ⟨K, cd, X, g1, g2, g3, g4, g5, zu⟩ := hs
  obtain ⟨zu, zu, o, ho, r⟩ := hR.wd.ob a _ ha
  obtain ⟨zu, zu, od, hod, rd⟩ := hR.wd.ob d _ hd
  (refine OR.instC r fun zo => ?_; clear r; subst zo)
  (refine OR.nsC rd fun zv zv hex hda hnr => ?_; clear rd)
  obtain ⟨en, h1, h2⟩ := hnr.look hx
  have X' := X.keeps hR.wd.old
  have I : InstAt s.heap a _ Cl (some od) := ⟨ho, rfl, rfl, hod⟩
  have hf : findObj K Cl (some od) name = some (.value en.val) := by
    unfold findObj
    rw [g3, Option.bind_some, g5]
    simp only [Option.bind_some, PySem.W.ownOf, g4, if_true, lookIn, hda, h1]
  exact get_value X' I g1 hf (h2.handed hv) (Post.of h2 (hR.tok _) h)
theorem Ex_Assign_Attr {o value : Expr} {attr : Str} {pos' pos : Pos} {Q : AFlow → ASt → Prop}
    (h : Ev C A E env value σ (fun v σ₁ => Ev C A E env o σ₁ (fun b σ₂ => Op2 C A E env (fun zu (zu : Unit) (zu : Unit) => True) (fun u w => setAttr w attr u) v b σ₂ (fun zu σ₃ => Q .next σ₃))))
    (hs : autoParam (swapsWith value (some (.Attribute o attr pos')) pos.line env = pure false) AC.aux0._auto_1) : Ex C A E env (.Assign [.Attribute o attr pos'] value pos) σ Q := by
  intro F G s hR
  refine plainObj_wpAny_Assign_Attribute (h.use hR fun F₁ a σ₁ va s₁ e₁ ha hR₁ h₁ => h₁.use hR₁ fun F₂ b σ₂ vb s₂ e₂ hb hR₂ h₂ => ?_) hs
  refine wpAny_mono (h₂.at (e₁.trans e₂) hR₂ (ha.mono e₂) hb) (fun c s₃ z => ?_) fun zu zu x => x
  obtain ⟨F', b, σ', a1, zu, a3, a4⟩ := z
  exact ⟨F', .next, σ', a1, .next, a3, a4⟩
noncomputable def setSlot (vs : List (Option AV)) (i : Nat) (x : AV) : List (Option AV) := (vs ++ List.replicate (i + 1 - vs.length) none).set i (some x)
theorem VRos.append {xs vs ys us} (h : VRos F xs vs) (k : VRos F ys us) : VRos F (xs ++ ys) (vs ++ us) := by
  induction h with
  | nil => exact k
  | cons a zu ih => exact .cons a ih
theorem VRos.nones (n : Nat) : VRos F (List.replicate n none) (List.replicate n none) := by
  induction n with
  | zero => exact .nil
  | succ n ih => exact .cons .none ih
theorem VRos.setSlot {xs vs} (h : VRos F xs vs) (i : Nat) {x v} (hv : VR F x v) :
    VRos F (setSlot xs i x) ((vs ++ List.replicate (i + 1 - vs.length) none).set i (some v)) := by
  unfold AC.setSlot
  rw [h.length]
  exact (h.append (.nones _)).set i (.some hv)
theorem slots_eq (us : List (Option Value)) (i : Nat) (v : Value) : (us.toArray ++ Array.replicate (i + 1 - us.toArray.size) none).setIfInBounds i (some v) = ((us ++ List.replicate (i + 1 - us.length) none).set i (some v)).toArray := by
  apply Array.ext'
  simp [Array.toList_setIfInBounds]
theorem Rp.changeN (R : Rp C A F G env σ s) {h' : Heap} {t : Nat} {c : Addr} {x x' : AO} {o' : Obj} (e : σ.hp c = some x) (hx : isGen x' = false) (ho : h'.get? c = some o') (r : OR C F s.gens x' o')
    (k : ∀ b o, b ≠ c → b ≠ env.locals → s.heap.get? b = some o → h'.get? b = some o) (kn : ∀ m, s.heap.Ns env.locals m → h'.Ns env.locals m) : Rp C A F G env { σ with hp := upd σ.hp c x' } ⟨h', s.gens, s.drawn, t, s.os⟩ := by
  obtain ⟨kd, ⟨m, hm, hv⟩, ⟨l1, l2, l3⟩, co, ci, cv, fv⟩ := R.fm
  obtain ⟨hF, hG, zu⟩ := R.wd.ob c x e
  have nc : env.locals ≠ c := by rintro q; rw [q, e] at l3; exact sn_ne l3
  refine ⟨⟨R.wd.base, fun b o q => k _ _ (ne_of_none hF q) (ne_of_none l1 q) (R.wd.fz b o q), fun b o q => let ⟨o', z, r⟩ := R.wd.gz b o q; ⟨o', k _ _ (ne_of_none hG q) (ne_of_none l2 q) z, r⟩, fun a y e' => ?_, R.wd.os, R.wd.bare, fun a b g gs gs' ea eb => ?_, R.wd.fg⟩, ?_, R.fs⟩
  · dsimp only at e'
    by_cases h : a = c
    · subst h
      rw [upd_self] at e'; (have zc := Option.some.inj e'; clear e'; subst zc)
      exact ⟨hF, hG, o', ho, r⟩
    · rw [upd_ne _ _ h] at e'
      obtain ⟨p, q, o, ho', r'⟩ := R.wd.ob a y e'
      exact ⟨p, q, o, k _ _ h (ne_of_none l3 e') ho', r'⟩
  · dsimp only at ea eb
    have na : a ≠ c := by rintro rfl; rw [upd_self] at ea; (have zc := Option.some.inj ea; clear ea; subst zc); exact tf_ne hx
    have nb : b ≠ c := by rintro rfl; rw [upd_self] at eb; (have zc := Option.some.inj eb; clear eb; subst zc); exact tf_ne hx
    rw [upd_ne _ _ na] at ea
    rw [upd_ne _ _ nb] at eb
    exact R.wd.gi _ _ _ _ _ ea eb
  · refine ⟨kd, ⟨m, kn m hm, hv⟩, ⟨l1, l2, by show upd σ.hp c x' _ = none; rw [upd_ne _ _ nc]; exact l3⟩, fun y hy => ?_, ci, fun y av d h1 h2 h3 => ?_, fv⟩
    · obtain ⟨d, g1, g2, g3, g4, g5, v, o, g6, g7⟩ := co y hy
      have nd : d ≠ c := by rintro q; rw [q, e] at g4; exact sn_ne g4
      exact ⟨d, g1, g2, g3, by show upd σ.hp c x' _ = none; rw [upd_ne _ _ nd]; exact g4, g5, v, o, k _ _ nd g5 g6, g7⟩
    · obtain ⟨d', g1, g2, g3, g4, g5, zu⟩ := co y h2
      rw [h3] at g1; (have zc := Option.some.inj g1; clear g1; subst zc)
      have nd : d ≠ c := by rintro q; rw [q, e] at g4; exact sn_ne g4
      obtain ⟨v, ⟨o, g6, g7⟩, g8⟩ := cv y av d h1 h2 h3
      exact ⟨v, ⟨o, k _ _ nd g5 g6, g7⟩, g8⟩
theorem ledger (hR : Rp C A F G env σ s) {a : Addr} {x : AO} {o : Obj} (ha : σ.hp a = some x) (ho : s.heap.get? a = some o) :
    ∃ m oth, Fr {} env.locals s.heap m ∧ News {} env.locals s.heap ([] ++ (a, o) :: oth) ∧ (∀ q ∈ oth, q.1 ≠ a) ∧
      ∀ h' o', Fr {} env.locals h' m → News {} env.locals h' ([] ++ (a, o') :: oth) →
        h'.get? a = some o' ∧ (∀ m', s.heap.Ns env.locals m' → h'.Ns env.locals m') ∧ ∀ b ob, b ≠ a → b ≠ env.locals → s.heap.get? b = some ob → h'.get? b = some ob := by
  obtain ⟨m, hm, zu⟩ := hR.fm.ns
  have hne : a ≠ env.locals := by rintro rfl; rw [hR.fm.lo.2.2] at ha; exact ns_ne ha
  let oth : List (Addr × Obj) := (List.range s.heap.objs.size).filterMap fun b => if b = a ∨ b = env.locals then none else (s.heap.get? b).map fun o => (b, o)
  have hoth : ∀ q ∈ oth, q.1 ≠ a ∧ q.1 ≠ env.locals ∧ s.heap.get? q.1 = some q.2 := by
    intro q hq
    obtain ⟨b, zu, hb⟩ := List.mem_filterMap.mp hq
    split at hb
    · exact ns_ne hb
    · rename_i hn
      obtain ⟨o', ho', rfl⟩ := Option.map_eq_some_iff.mp hb
      simp only [not_or] at hn
      exact ⟨hn.1, hn.2, ho'⟩
  have hin : ∀ b o', s.heap.get? b = some o' → b ≠ a → b ≠ env.locals → (b, o') ∈ oth := by
    intro b o' e h1 h2
    refine List.mem_filterMap.mpr ⟨b, List.mem_range.mpr (Heap.lt_size e), ?_⟩
    rw [if_neg (by simp [h1, h2]), e]; rfl
  refine ⟨m, oth, ⟨hm, fun b o' e => by simp [Heap.get?] at e, Nat.zero_le _⟩, ?_, fun q hq => (hoth q hq).1, fun h' o' F' N' => ⟨(N' (a, o') (List.mem_cons_self)).1, fun m' hm' => ?_, fun b ob h1 h2 e => (N' (b, ob) (List.mem_cons_of_mem _ (hin b ob e h1 h2))).1⟩⟩
  · intro q hq
    rcases List.mem_cons.mp hq with rfl | hq
    · exact ⟨ho, hne, by simp [Heap.get?]⟩
    · obtain ⟨h1, h2, h3⟩ := hoth q hq
      exact ⟨h3, h2, by simp [Heap.get?]⟩
  · have : m' = m := by
      obtain ⟨o1, es1, ep1, a1, a2, a3, a4⟩ := hm
      obtain ⟨o2, es2, ep2, b1, b2, b3, b4⟩ := hm'
      rw [a1] at b1; (have zc := Option.some.inj b1; clear b1; subst zc)
      rw [a2] at b2; cases b2
      funext n; rw [← a4, ← b4]
    rw [this]; exact F'.ns
theorem set_slot {a Cl : Addr} {name : Str} {i : Nat} {vs : List (Option AV)} {x : AV} {Q : Unit → ASt → Prop} (hs : SlotAt C Cl name i) (ha : σ.hp a = some (.slot Cl vs)) (h : Q () (σ.put a (.slot Cl (setSlot vs i x)))) :
    Op2 C A E env (fun zu (zu : Unit) (zu : Unit) => True) (fun u w => setAttr w name u) x (.ref a) σ Q := by
  intro F G s v u hR hv hu
  (have zc := VR.refI hu; clear hu; subst zc)
  obtain ⟨K, p, X, g1, g2, g3, g4, g5, g6, g7, g8, g9⟩ := hs
  obtain ⟨hF, hG, o, ho, r⟩ := hR.wd.ob a _ ha
  (refine OR.slotC r fun us d zo hd zs => ?_; clear r; subst zo)
  have X' := X.keeps hR.wd.old
  have I : InstAt s.heap a _ Cl (some emptyDict) := ⟨ho, rfl, rfl, hR.wd.fz _ _ hd⟩
  refine set_plain X' I g5 (osa_descr KF.slot_mset (s := { s with toks := s.toks + 1 }) (od := some emptyDict) X' ⟨ho, rfl, rfl, hR.wd.fz _ _ hd⟩ g6 g7 g8 ?_)
  obtain ⟨m, oth, Fr0, N0, h1, back⟩ := ledger hR ha ho
  refine slot_set (s := { s with toks := s.toks + 1 }) (od := some emptyDict) Fr0 N0 X' ⟨ho, rfl, rfl, hR.wd.fz _ _ hd⟩ g4 g9 (fun zu hq => nomatch hq) h1 rfl rfl fun h' F' N' => ?_
  obtain ⟨b1, b2, b3⟩ := back h' _ F' N'
  refine ⟨F, (), _, Ext.refl F, trivial, hR.changeN ha rfl b1 ?_ b3 b2, h⟩
  rw [slots_eq]
  exact .slot hd (zs.setSlot i hv)
theorem NR.put {P : Params} {fs : List (Str × AV)} {ds : List DictEntry} (h : NR P F fs ds) {name : Str} {x : AV} {v : Value} (hv : VR F x v) (t : Tok) (f : Option DictEntry → DictEntry) (h1 : ∀ e, f (some e) = { e with val := v }) (h2 : f none = ⟨PyData.keyHash P name, .str name t, v⟩) :
    NR P F (setL fs name x) (nsPutIn name.cps.size name.cps.toList f ds).1 ∧ (nsPutIn name.cps.size name.cps.toList f ds).1.length ≤ ds.length + 1 := by
  induction h with
  | nil => exact ⟨by simp only [nsPutIn, setL, h2]; exact .cons rfl rfl hv .nil, Nat.le_refl _⟩
  | @cons k u es en ds t' a b c r ih =>
    simp only [setL, nsPutIn, Value.isStrByCps_eq, b, Value.isStr]
    by_cases q : k = name
    · subst q
      simp only [beq_self_eq_true, if_true, h1]
      exact ⟨.cons a b hv r, Nat.le_succ _⟩
    · simp only [beq_eq_false_iff_ne.mpr q, Bool.false_eq_true, if_false]
      exact ⟨.cons a b c ih.1, Nat.succ_le_succ ih.2⟩
theorem NR.length {P : Params} {fs : List (Str × AV)} {ds : List DictEntry} (h : NR P F fs ds) : ds.length = fs.length := by
  induction h with
  | nil => rfl
  | cons zu zu2 zu3 zu4 ih => simp [ih]
theorem putName_data {P : Params} {fs : List (Str × AV)} {name : Str} {t : Tok} {x : AV} {v : Value} {o : Obj} {ds : List DictEntry} {n : Nat} (hd : o.data = .dict ds.toArray n) (hex : o.ExactDict) (h : NR P F fs ds) (hv : VR F x v) :
    ∃ es' n', (Obj.putName name (PyData.keyHash P name) (.str name t) v o).data = .dict (es' : List DictEntry).toArray n' ∧ (Obj.putName name (PyData.keyHash P name) (.str name t) v o).ExactDict ∧ NR P F (setL fs name x) es' ∧ es'.length ≤ ds.length + 1 := by
  obtain ⟨c, d, dt, sl⟩ := o
  dsimp only at hd
  subst hd
  unfold Obj.putName
  dsimp only
  split
  · rename_i es' q
    have z := h.put (name := name) hv t (fun | some e => { e with val := v } | none => ⟨PyData.keyHash P name, .str name t, v⟩) (fun zu => rfl) rfl
    have q' : nsPutIn name.cps.size name.cps.toList (fun | some e => { e with val := v } | none => ⟨PyData.keyHash P name, .str name t, v⟩) ds = (es', false) := q
    rw [q'] at z
    exact ⟨_, _, rfl, hex, z⟩
  · rename_i es' q
    have z := h.put (name := name) hv t (fun | some e => { e with val := v } | none => ⟨PyData.keyHash P name, .str name t, v⟩) (fun zu => rfl) rfl
    have q' : nsPutIn name.cps.size name.cps.toList (fun | some e => { e with val := v } | none => ⟨PyData.keyHash P name, .str name t, v⟩) ds = (es', true) := q
    rw [q'] at z
    exact ⟨_, _, rfl, hex, z⟩
theorem set_ns {a d Cl : Addr} {name : Str} {fs : List (Str × AV)} {x : AV} {Q : Unit → ASt → Prop} (hs : NsAt C Cl name) (ha : σ.hp a = some (.inst Cl d)) (hd : σ.hp d = some (.ns fs))
    (h : Q () (σ.put d (.ns (setL fs name x)))) (hz : autoParam (fs.length ≤ 900) AC.aux1._auto_1) :
    Op2 C A E env (fun zu (zu : Unit) (zu : Unit) => True) (fun u w => setAttr w name u) x (.ref a) σ Q := by
  intro F G s v u hR hv hu
  (have zc := VR.refI hu; clear hu; subst zc)
  obtain ⟨K, cd, X, g1, g2, g3, g4, g5, g6, g7, g8⟩ := hs
  obtain ⟨hF, hG, o, ho, r⟩ := hR.wd.ob a _ ha
  obtain ⟨zu, zu, od, hod, rd⟩ := hR.wd.ob d _ hd
  (refine OR.instC r fun zo => ?_; clear r; subst zo)
  (refine OR.nsC rd fun ds n hex hda hnr => ?_; clear rd)
  have X' := X.keeps hR.wd.old
  have I : InstAt s.heap a _ Cl (some od) := ⟨ho, rfl, rfl, hod⟩
  obtain ⟨m, oth, Fr0, N0, h1, back⟩ := ledger hR hd hod
  obtain ⟨es', n', e', hex', r', rl⟩ := putName_data (name := name) (t := s.toks + 1) hda hex hnr hv
  refine set_plain X' I g6 (osa_dict (s := { s with toks := s.toks + 1 }) Fr0 N0 X' ⟨ho, rfl, rfl, hod⟩ rfl g7 g8 (by rw [g3]; exact g4) ?_ (fun zu hq => nomatch hq) h1 rfl e' ?_ fun h' F' N' => ?_)
  · unfold lookIn
    rw [hda]
    dsimp only
    cases ds.find? (·.key.isStr name) with
    | some e => rfl
    | none => rw [hnr.noRef]; rfl
  · have := hnr.length; omega
  obtain ⟨b1, b2, b3⟩ := back h' _ F' N'
  exact ⟨F, (), _, Ext.refl F, trivial, hR.changeN hd rfl b1 (.ns hex' e' r') b3 b2, h⟩
noncomputable def EvL (C : Cf) (A : Around) (E : Value → Shared → Prop) (env : Env) (es : List (Bool × Sem Value)) (σ : ASt) (Q : List AV → ASt → Prop) : Prop := Tr C A E env VRs (spliced es) σ Q
theorem EvL_nil {Q : List AV → ASt → Prop} (h : Q [] σ) : EvL C A E env [] σ Q := fun F G s hR => wpAny_pure (Post.of .nil hR h)
theorem EvL_cons {t : Sem Value} {r : List (Bool × Sem Value)} {Q : List AV → ASt → Prop} (h : Tr C A E env VR t σ (fun v σ₁ => EvL C A E env r σ₁ (fun vs σ₂ => Q (v :: vs) σ₂))) : EvL C A E env ((false, t) :: r) σ Q := by
  intro F G s hR
  show wpAny _ _ (do let v ← t; let here ← pure [v]; return here ++ (← holding here (spliced r))) _ _ _
  refine wpAny_bind (h.use hR fun F₁ a σ₁ va s₁ e₁ ha hR₁ h₁ => wpAny_bind (wpAny_pure (wpAny_bind (wpAny_holding (h₁.use hR₁ fun F₂ vs σ₂ us s₂ e₂ hb hR₂ h₂ => ?_)))))
  exact wpAny_pure (Post.ext (e₁.trans e₂) (Post.of (.cons (ha.mono e₂) hb) hR₂ h₂))
noncomputable def EvA (C : Cf) (A : Around) (E : Value → Shared → Prop) (env : Env) (es : List (Sem Value)) (σ : ASt) (Q : List AV → ASt → Prop) : Prop := Tr C A E env VRs (evalAll es) σ Q
theorem EvA_nil {Q : List AV → ASt → Prop} (h : Q [] σ) : EvA C A E env [] σ Q := fun F G s hR => wpAny_pure (Post.of .nil hR h)
theorem EvA_cons {t : Sem Value} {p : Pos} {r : List (Sem Value)} {Q : List AV → ASt → Prop} (h : Tr C A E env VR t σ (fun v σ₁ => EvA C A E env r σ₁ (fun vs σ₂ => Q (v :: vs) σ₂))) : EvA C A E env ((do let v ← t; standAt p; pure v) :: r) σ Q := by
  intro F G s hR
  show wpAny _ _ (do let v ← (do let v ← t; standAt p; pure v); return v :: (← holding [v] (evalAll r))) _ _ _
  refine wpAny_bind (wpAny_bind (h.use hR fun F₁ a σ₁ va s₁ e₁ ha hR₁ h₁ => wpAny_bind (wpAny_standAt (wpAny_pure (wpAny_bind (wpAny_holding (h₁.use hR₁ fun F₂ vs σ₂ us s₂ e₂ hb hR₂ h₂ => ?_)))))))
  exact wpAny_pure (Post.ext (e₁.trans e₂) (Post.of (.cons (ha.mono e₂) hb) hR₂ h₂))
end
end
section
inductive KVRs (F : FH) : List (Str × AV) → List (Str × Value) → Prop
  | nil : KVRs F [] []
  | cons {k x v xs vs} : VR F x v → KVRs F xs vs → KVRs F ((k, x) :: xs) ((k, v) :: vs)
theorem KVRs.mono {F F' : FH} (e : Ext F F') {x v} (h : KVRs F x v) : KVRs F' x v := by
  induction h with
  | nil => exact .nil
  | cons a zu ih => exact .cons (a.mono e) ih
theorem KVRs.zip {F : FH} : ∀ {names : List Str} {xs : List AV} {vs : List Value}, VRs F xs vs → KVRs F (names.zip xs) (names.zip vs)
  | [], _, _, _ => .nil
  | _ :: _, _, _, .nil => .nil
  | _ :: _, _, _, .cons a b => .cons a (KVRs.zip b)
noncomputable def RetQ (C : Cf) (G : FH) (Q : AV → HP → Prop) (F : FH) (r : Result) (s' : Shared) : Prop := ∃ F' v av hp', r = .ok (.ret v) ∧ Ext F F' ∧ VR F' av v ∧ Wd C F' G hp' s' ∧ Q av hp'
noncomputable def Fn (C : Cf) (A : Around) (f : Value) (args : List AV) (kw : List (Str × AV)) (hp : HP) (Q : AV → HP → Prop) : Prop :=
  ∀ F G s vs kvs, Fs A G → Wd C F G hp s → VRs F args vs → KVRs F kw kvs → codeAny (model C.prog C.w) A (.call f ⟨vs, kvs⟩) (RetQ C G Q F) s
theorem Fn.mono {C : Cf} {A : Around} {f : Value} {args : List AV} {kw : List (Str × AV)} {hp : HP} {Q Q' : AV → HP → Prop} (h : Fn C A f args kw hp Q) (k : ∀ v hp', Q v hp' → Q' v hp') : Fn C A f args kw hp Q' :=
  fun F G s vs kvs fs W a b => codeAny_mono (h F G s vs kvs fs W a b) fun r s' ⟨F', v, av, hp', x1, x2, x3, x4, x5⟩ => ⟨F', v, av, hp', x1, x2, x3, x4, k _ _ x5⟩
open Classical in
noncomputable def frz (G : FH) (env : Env) (h : Heap) : FH := fun b => if b = env.locals ∨ (∃ x, env.kindOf x = some .cell ∧ env.cells.lookup x = some b) then h.get? b else G b
section
variable {C : Cf} {A : Around} {E : Value → Shared → Prop} {env : Env} {σ : ASt} {F G : FH} {s : Shared}
theorem frz_ext (hR : Rp C A F G env σ s) : Ext G (frz G env s.heap) := by
  intro b o e
  have h1 : b ≠ env.locals := ne_of_none hR.fm.lo.2.1 e
  have h2 : ¬ ∃ x, env.kindOf x = some .cell ∧ env.cells.lookup x = some b := by
    (intro zr; obtain ⟨x, hx, hc⟩ := zr)
    obtain ⟨c, g1, zu, g3, zu⟩ := hR.fm.co x hx
    rw [hc] at g1; (have zc := Option.some.inj g1; clear g1; subst zc)
    rw [g3] at e; exact ns_ne e
  unfold frz
  rw [if_neg (by simp only [h1, h2, or_self, not_false_eq_true])]
  exact e
theorem frz_fs (hR : Rp C A F G env σ s) : Fs A (frz G env s.heap) := by
  have ex := frz_ext hR
  obtain ⟨e, l, h1, h2, h3, h4, h5⟩ := hR.fs
  refine ⟨e :: l, h1, fun e' he' => ?_⟩
  rcases List.mem_cons.mp he' with rfl | he'
  · rcases h4 with h4 | h4
    · obtain ⟨m, ⟨oL, es, ep, hL, r, zu⟩, zu⟩ := hR.fm.ns
      exact ⟨h2, env.locals, oL, h3.trans h4.2, by unfold frz; rw [if_pos (.inl rfl)]; exact hL, es, ep, r⟩
    · exact h4.mono ex
  · exact (h5 e' he').mono ex
theorem frz_in (hR : Rp C A F G env σ s) (hfr : Wd C F (frz G env s.heap) σ.hp s → True := fun zu => trivial) : Wd C F (frz G env s.heap) σ.hp s := by
  have W := hR.wd
  have own : ∀ b, (b = env.locals ∨ ∃ x, env.kindOf x = some .cell ∧ env.cells.lookup x = some b) → F b = none ∧ σ.hp b = none := by
    rintro b (rfl | ⟨x, hx, hc⟩)
    · exact ⟨hR.fm.lo.1, hR.fm.lo.2.2⟩
    · obtain ⟨c, g1, g2, g3, g4, zu⟩ := hR.fm.co x hx
      rw [hc] at g1; (have zc := Option.some.inj g1; clear g1; subst zc)
      exact ⟨g2, g4⟩
  refine ⟨W.base, W.fz, fun b o e => ?_, fun a x e => ?_, W.os, W.bare, W.gi, fun b o e => ?_⟩
  · unfold frz at e
    split at e
    · exact ⟨o, e, GEq.rfl' o⟩
    · exact W.gz b o e
  · obtain ⟨p, q, o, r⟩ := W.ob a x e
    refine ⟨p, ?_, o, r⟩
    unfold frz
    rw [if_neg]
    · exact q
    · intro h; have := (own a h).2; rw [e] at this; exact sn_ne this
  · unfold frz
    rw [if_neg]
    · exact W.fg b o e
    · intro h; have := (own b h).1; rw [e] at this; exact sn_ne this
theorem frz_out (hR : Rp C A F G env σ s) {F' : FH} {hp' : HP} {s' : Shared} (e : Ext F F') (W : Wd C F' (frz G env s.heap) hp' s') : Rp C A F' G env { σ with hp := hp' } s' := by
  have ex := frz_ext hR
  obtain ⟨kd, ⟨m, hm, hv⟩, ⟨l1, l2, l3⟩, co, ci, cv, fv⟩ := hR.fm
  have own : ∀ b o, (b = env.locals ∨ ∃ x, env.kindOf x = some .cell ∧ env.cells.lookup x = some b) → s.heap.get? b = some o → (∃ o', s'.heap.get? b = some o' ∧ GEq o o') ∧ F' b = none ∧ hp' b = none := by
    intro b o h e'
    have g : frz G env s.heap b = some o := by unfold frz; rw [if_pos h]; exact e'
    refine ⟨W.gz _ _ g, ?_, ?_⟩
    · cases q : F' b with
      | none => rfl
      | some o' => have := W.fg b o' q; rw [g] at this; exact sn_ne this
    · cases q : hp' b with
      | none => rfl
      | some x => have := (W.ob b x q).2.1; rw [g] at this; exact sn_ne this
  have noG : ∀ {b}, frz G env s.heap b = none → G b = none := by
    intro b h
    cases q : G b with
    | none => rfl
    | some o => rw [ex b o q] at h; exact sn_ne h
  refine ⟨⟨W.base, W.fz, fun b o q => W.gz _ _ (ex _ _ q), fun a x q => ?_, W.os, W.bare, W.gi, fun b o q => noG (W.fg b o q)⟩, ?_, hR.fs⟩
  · obtain ⟨p, r, o, t⟩ := W.ob a x q
    exact ⟨p, noG r, o, t⟩
  · obtain ⟨oL, es, ep, hL, r⟩ := id hm
    obtain ⟨⟨oL', z1, zg⟩, z2, z3⟩ := own _ _ (.inl rfl) hL
    refine ⟨kd, ⟨m, ⟨oL', es, ep, z1, zg.data.trans r.1, r.2⟩, fun x av h1 h2 => let ⟨v, a, b⟩ := hv x av h1 h2; ⟨v, a, b.mono e⟩⟩, ⟨z2, l2, z3⟩, fun x hx => ?_, ci, fun x av c h1 h2 h3 => ?_, fun x av h1 h2 => ?_⟩
    · obtain ⟨c, hc, c1, c2, c3, c4, v, o, ho, hd⟩ := co x hx
      obtain ⟨⟨o', y1, yg⟩, y2, y3⟩ := own _ _ (.inr ⟨x, hx, hc⟩) ho
      exact ⟨c, hc, y2, c2, y3, c4, v, o', y1, yg.data.trans hd⟩
    · obtain ⟨v, ⟨o, ho, hd⟩, hvr⟩ := cv x av c h1 h2 h3
      obtain ⟨⟨o', y1, yg⟩, zu⟩ := own _ _ (.inr ⟨x, h2, h3⟩) ho
      exact ⟨v, ⟨o', y1, yg.data.trans hd⟩, hvr.mono e⟩
    · obtain ⟨c, v, o, a1, a2, a3, a4⟩ := fv x av h1 h2
      exact ⟨c, v, o, a1, a2, a3, a4.mono e⟩
theorem Fn.call {f : Value} {args : List AV} {kw : List (Str × AV)} {Q : AV → HP → Prop} (h : Fn C A f args kw σ.hp Q) (hR : Rp C A F G env σ s) {vs : List Value} {kvs : List (Str × Value)} (hv : VRs F args vs) (hk : KVRs F kw kvs) :
    wpAny (model C.prog C.w) A (PySem.call f vs kvs) (Post C A G env VR (fun v σ' => σ'.loc = σ.loc ∧ Q v σ'.hp) F) E s := by
  refine wpAny_call (codeAny_mono (h F _ s vs kvs (frz_fs hR) (frz_in hR) hv hk) fun r s' z => ?_)
  obtain ⟨F', v, av, hp', rfl, e, hvr, W, q⟩ := z
  exact ⟨F', av, _, e, hvr, frz_out hR e W, rfl, q⟩
noncomputable def KeepOk (C : Cf) (h : Heap) (f : Value) : Prop := ∃ kp, Looks (model C.prog C.w) h (keeperOf f) kp
noncomputable def CallA (C : Cf) (A : Around) (E : Value → Shared → Prop) (env : Env) (f : AV) (first args : List AV) (kw : List (Str × AV)) (σ : ASt) (Q : AV → ASt → Prop) : Prop :=
  ∀ F G s fv us vs kvs, Rp C A F G env σ s → VR F f fv → VRs F first us → VRs F args vs → KVRs F kw kvs → KeepOk C s.heap fv ∧ wpAny (model C.prog C.w) A (PySem.call fv (us ++ vs) kvs) (Post C A G env VR Q F) E s
theorem evalArgs_plain {f : Value} {args : List (Bool × Sem Value)} {kws : List (Option Str × Sem Value)} (ha : args.all (!·.1) = true) (hk : kws.all (·.1.isSome) = true) {Q : Args → Shared → Prop}
    (h : wpAny (model C.prog C.w) A (spliced args) (fun vs s₁ => wpAny (model C.prog C.w) A (evalAll (kws.map (·.2))) (fun ks s₂ => Q ⟨vs, (kws.filterMap (·.1)).zip ks⟩ s₂) E s₁) E s) :
    wpAny (model C.prog C.w) A (evalArgs f true args kws) Q E s := by
  match args with
  | [] =>
    refine evalArgs_kw_nil hk ?_
    intro Γ p hΓ
    have z := h Γ p hΓ
    exact z Γ p hΓ
  | (false, t) :: r => exact evalArgs_kw hk h
  | (true, t) :: r => exact ft_ne ha
theorem wpAny_keep {α : Type} {M : Model} {vs : List Value} {m : Sem α} {Q : α → Shared → Prop} (h : wpAny M A m Q E s) : wpAny M A (m.keep vs) Q E s := fun Γ p hΓ => by rw [Sem.wp_keep]; exact h Γ p hΓ
theorem wpAny_operate {M : Model} {vs : List Value} {m : Sem Value} {Q : Value → Shared → Prop} (h : wpAny M A m Q E s) : wpAny M A (operate vs m) Q E s := fun Γ p hΓ => by rw [Sem.wp_operate]; exact h Γ p hΓ
theorem callWith_any {pos : Pos} {f : Value} {first : List Value} {args : List (Bool × Sem Value)} {kws : List (Option Str × Sem Value)} {Q : Value → Shared → Prop}
    (h : wpAny (model C.prog C.w) A (evalArgs f true args kws) (fun a s₁ => KeepOk C s₁.heap f ∧ wpAny (model C.prog C.w) A (PySem.call f (first ++ a.pos) a.kw) Q E s₁) E s) :
    wpAny (model C.prog C.w) A (callWith pos f first args kws) Q E s := by
  unfold callWith
  refine wpAny_bind (wpAny_holding (wpAny_mono h (fun a s₁ z => ?_) fun zu zu x => x))
  obtain ⟨⟨kp, hk⟩, hc⟩ := z
  refine wpAny_bind (wpAny_standAt ?_)
  dsimp only
  refine wpAny_bind (hk.here ?_)
  have fin : wpAny (model C.prog C.w) A (PySem.call f (first ++ a.pos) a.kw) (fun r s' => wpAny (model C.prog C.w) A (do holding [r] point; pure r) Q E s') E s₁ :=
    wpAny_mono hc (fun r s' q => wpAny_bind (wpAny_holding (wpAny_point (wpAny_pure q)))) fun zu zu x => x
  split
  · exact wpAny_bind (wpAny_keep fin)
  · split
    · exact wpAny_bind fin
    · exact wpAny_bind (wpAny_keep fin)
  · split
    · exact wpAny_bind fin
    · exact wpAny_bind (wpAny_keep fin)
  · exact wpAny_bind fin
  · exact wpAny_bind (wpAny_operate fin)
theorem Ev_Call {func : Expr} {args : List Expr} {kws : List Keyword} {pos : Pos} {Q : AV → ASt → Prop}
    (h : Ev C A E env func σ (fun f σ₁ => EvL C A E env (backTo pos (starEach args env)) σ₁ (fun vs σ₂ => EvA C A E env ((backToKw pos (keywordEach kws env)).map (·.2)) σ₂ (fun ks σ₃ => CallA C A E env f [] vs (((backToKw pos (keywordEach kws env)).filterMap (·.1)).zip ks) σ₃ Q))))
    (he : autoParam (eval (.Call func args kws pos) env = (do callWith pos (← eval func env) [] (backTo pos (starEach args env)) (backToKw pos (keywordEach kws env)))) AC.aux0._auto_1)
    (ha : autoParam ((backTo pos (starEach args env)).all (!·.1) = true) AC.aux0._auto_1) (hk : autoParam ((backToKw pos (keywordEach kws env)).all (·.1.isSome) = true) AC.aux0._auto_1) : Ev C A E env (.Call func args kws pos) σ Q := by
  intro F G s hR
  rw [he]
  refine wpAny_bind (h.use hR fun F₁ f σ₁ vf s₁ e₁ hf hR₁ h₁ => callWith_any (evalArgs_plain ha hk (h₁.use hR₁ fun F₂ vs σ₂ us s₂ e₂ hvs hR₂ h₂ => h₂.use hR₂ fun F₃ ks σ₃ ws s₃ e₃ hks hR₃ h₃ => ?_)))
  obtain ⟨a, b⟩ := h₃ F₃ G s₃ vf [] us _ hR₃ (hf.mono (e₂.trans e₃)) .nil (hvs.mono e₃) (KVRs.zip hks)
  exact ⟨a, wpAny_mono b (fun zu zu z => Post.ext (e₁.trans (e₂.trans e₃)) z) fun zu zu x => x⟩
noncomputable def MethA (C : Cf) (A : Around) (E : Value → Shared → Prop) (env : Env) (o : AV) (name : Str) (σ : ASt) (Q : AV → List AV → ASt → Prop) : Prop :=
  ∀ F G s v (pl : Sem Bool), Rp C A F G env σ s → VR F o v → wpAny (model C.prog C.w) A (getMethod v name pl) (fun r s' => ∃ F' f first σ', Ext F F' ∧ VR F' f r.1 ∧ VRs F' first r.2 ∧ Rp C A F' G env σ' s' ∧ Q f first σ') E s
theorem Ev_Meth {o : Expr} {name : Str} {apos pos : Pos} {args : List Expr} {kws : List Keyword} {Q : AV → ASt → Prop}
    (h : Ev C A E env o σ (fun ov σ₀ => MethA C A E env ov name σ₀ (fun f first σ₁ => EvL C A E env (backTo pos (starEach args env)) σ₁ (fun vs σ₂ => EvA C A E env ((backToKw pos (keywordEach kws env)).map (·.2)) σ₂ (fun ks σ₃ => CallA C A E env f first vs (((backToKw pos (keywordEach kws env)).filterMap (·.1)).zip ks) σ₃ Q)))))
    (hb : autoParam (attributeBase o name env (eval o env) = eval o env) AC.aux0._auto_1) (hl : autoParam (apos.endLine = pos.line) AC.aux0._auto_1)
    (hf : autoParam (methodCallForm (args.length + kws.length) (backTo pos (starEach args env)) (backToKw pos (keywordEach kws env)) = true) AC.aux0._auto_1)
    (ha : autoParam ((backTo pos (starEach args env)).all (!·.1) = true) AC.aux0._auto_1) (hk : autoParam ((backToKw pos (keywordEach kws env)).all (·.1.isSome) = true) AC.aux0._auto_1) : Ev C A E env (.Call (.Attribute o name apos) args kws pos) σ Q := by
  intro F G s hR
  show wpAny _ _ (do
    let ov ← attributeBase o name env (eval o env)
    standAt apos.atName
    methodCall o name apos pos env ov (args.length + kws.length) (backTo pos (starEach args env)) (backToKw pos (keywordEach kws env))) _ _ _
  rw [hb]
  refine wpAny_bind (h.use hR fun F₀ ov σ₀ vo s₀ e₀ ho hR₀ h₀ => wpAny_bind (wpAny_standAt ?_))
  unfold methodCall calleeOf methodCallPos
  rw [hf]
  simp only [if_true, Bool.not_true, Bool.false_or, hl, beq_self_eq_true]
  refine wpAny_bind (wpAny_holding (wpAny_mono (h₀ F₀ G s₀ vo _ hR₀ ho) (fun r s₁ z => ?_) fun zu zu x => x))
  obtain ⟨F₁, f, first, σ₁, e₁, hf', hfi, hR₁, h₁⟩ := z
  obtain ⟨rf, rfi⟩ := r
  refine wpAny_bind (wpAny_pure (callWith_any (evalArgs_plain ha hk (h₁.use hR₁ fun F₂ vs σ₂ us s₂ e₂ hvs hR₂ h₂ => h₂.use hR₂ fun F₃ ks σ₃ ws s₃ e₃ hks hR₃ h₃ => ?_))))
  obtain ⟨a, b⟩ := h₃ F₃ G s₃ rf rfi us _ hR₃ (hf'.mono (e₂.trans e₃)) (hfi.mono (e₂.trans e₃)) (hvs.mono e₃) (KVRs.zip hks)
  exact ⟨a, wpAny_mono b (fun zu zu z => Post.ext (e₀.trans (e₁.trans (e₂.trans e₃))) z) fun zu zu x => x⟩
structure FnAt (C : Cf) (f : Addr) (fd : FuncData) : Prop where
  at_ : ∃ o, C.h0.get? f = some o ∧ o.data = .func fd
  code : C.h0.CodeRec fd.code fd.qualname
  lim : C.h0.NoLimit
theorem FnAt.keep {f : Addr} {fd : FuncData} (h : FnAt C f fd) {h' : Heap} (k : ∀ b o, C.h0.get? b = some o → h'.get? b = some o) : KeepOk C h' (.ref f) := by
  obtain ⟨o, ho, hd⟩ := h.at_
  refine ⟨.frame, fun A Q E s k' q => ?_⟩
  unfold keeperOf
  refine wpAny_bind (wpAny_load (k' _ _ (k _ _ ho)) ?_)
  rw [hd]
  exact wpAny_pure q
inductive BR (F : FH) : List (Str × AV) → List (Str × Value) → Prop
  | nil : BR F [] []
  | cons {k x v xs vs} : VR F x v → BR F xs vs → BR F ((k, x) :: xs) ((k, v) :: vs)
theorem BR.append {xs vs ys us} (h : BR F xs vs) (k : BR F ys us) : BR F (xs ++ ys) (vs ++ us) := by
  induction h with
  | nil => exact k
  | cons a zu ih => exact .cons a ih
theorem BR.reverse {xs vs} (h : BR F xs vs) : BR F xs.reverse vs.reverse := by
  induction h with
  | nil => exact .nil
  | cons a zu ih => rw [List.reverse_cons, List.reverse_cons]; exact ih.append (.cons a .nil)
theorem BR.look {xs vs} (h : BR F xs vs) {n : Str} {x : AV} (e : xs.lookup n = some x) : ∃ v, vs.lookup n = some v ∧ VR F x v := by
  induction h with
  | nil => exact ns_ne e
  | @cons k y v xs vs a zu ih =>
    simp only [List.lookup] at e ⊢
    cases q : n == k with
    | true => rw [q] at e; (have zc := Option.some.inj e; clear e; subst zc); exact ⟨v, rfl, a⟩
    | false => rw [q] at e; exact ih e
noncomputable def Binds (C : Cf) (fd : FuncData) (args : List AV) (kw : List (Str × AV)) (loc : List (Str × AV)) : Prop :=
  ∀ F vs kvs, VRs F args vs → KVRs F kw kvs → ∃ bs, Looks (model C.prog C.w) C.h0 (bindArgs fd ⟨vs, kvs⟩) bs ∧ BR F loc bs ∧ (bs.all fun x => decide (fd.scope.names.lookup x.1 = some .local)) = true
theorem Fn_def {f : Addr} {fd : FuncData} {body : List Stmt} {args : List AV} {kw loc : List (Str × AV)} {hp : HP} {Q : AV → HP → Prop} (hf : FnAt C f fd) (hb : Binds C fd args kw loc)
    (h : ∀ L, Exs C (A.deeper (callEnv fd L f)) (fun zu zu => False) (callEnv fd L f) body ⟨loc.reverse, hp⟩ (fun fl σ' => match fl with | .ret v => Q v σ'.hp | .next => Q .none σ'.hp | _ => False))
    (hroom : A.depth < recursionLimit) (hbody : autoParam (fd.body = .stmts body) AC.aux0._auto_1) (hcell : autoParam ((fd.scope.names.all fun x => x.2 != .cell && x.2 != .free) = true) AC.aux0._auto_1)
    (hco : autoParam (fd.scope.isCoroutine = false) AC.aux0._auto_1) (hgen : autoParam (fd.scope.isGenerator = false) AC.aux0._auto_1) (hk : autoParam (fd.scope.kind = .function) AC.aux0._auto_1) :
    Fn C A (.ref f) args kw hp Q := by
  intro F G s vs kvs fs W hv hkv
  obtain ⟨o, ho, hd⟩ := hf.at_
  obtain ⟨bs, hB, hbr, hl⟩ := hb F vs kvs hv hkv
  have hc : ∀ x ∈ fd.scope.names, x.2 ≠ .cell ∧ x.2 ≠ .free := fun x hx => by
    have := List.all_eq_true.mp hcell x hx
    simpa using this
  have noK : ∀ L x, (callEnv fd L f).kindOf x ≠ some .cell ∧ (callEnv fd L f).kindOf x ≠ some .free := by
    intro L x
    have key : ∀ kd, fd.scope.names.lookup x = some kd → (x, kd) ∈ fd.scope.names := fun kd e => by
      obtain ⟨l1, l2, e1, zu⟩ := List.lookup_eq_some_iff.mp e
      rw [e1]; simp
    constructor
    · intro e; exact (hc _ (key _ e)).1 rfl
    · intro e; exact (hc _ (key _ e)).2 rfl
  refine codeAny_call_function hroom (W.old _ _ ho) hd hco hgen hbody (hf.code.keeps W.old) ?_
  refine hB _ _ _ s W.old (wpAny_newFunctionEnv (fun x hx => (hc x hx).1) (fun x hx => of_decide_eq_true (List.all_eq_true.mp hl x hx)) (fun h' hns hsb => ?_) hk)
  have kp : ∀ b o, s.heap.get? b = some o → h'.get? b = some o := fun b o e => hsb.extBut b o (Nat.ne_of_lt (Heap.lt_size e)) (Heap.get?_push_of_some _ e)
  refine ⟨hf.lim.keeps fun b o e => kp _ _ (W.old _ _ e), codeAny_func ?_⟩
  obtain ⟨z1, z2, z3⟩ := W.lt (Nat.le_refl s.heap.objs.size)
  obtain ⟨fl, fs1, fs2⟩ := fs
  have hfs : FsE (A.deeper (callEnv fd s.heap.objs.size f)) G (callEnv fd s.heap.objs.size f) :=
    ⟨callEnv fd s.heap.objs.size f, fl, by simp only [Around.deeper, fs1, Option.map_some], by show fd.scope.kind ≠ _; rw [hk]; decide, rfl, .inl ⟨rfl, rfl⟩, fs2⟩
  have hR : Rp C (A.deeper (callEnv fd s.heap.objs.size f)) F G (callEnv fd s.heap.objs.size f) ⟨loc.reverse, hp⟩ { s with heap := h', toks := s.toks + bs.length } := by
    refine ⟨W.keep kp, ⟨hk, ⟨_, hns, fun x av hx zu => hbr.reverse.look hx⟩, ⟨z1, z2, z3⟩, fun x hx => absurd hx (noK _ x).1, fun x zu zu hx => absurd hx (noK _ x).1, fun x zu zu zu hx => absurd hx (noK _ x).1, fun x zu zu hx => absurd hx (noK _ x).2⟩, hfs⟩
  refine wpAny_mono ((h s.heap.objs.size).go hR (Ext.refl F)) (fun fl s' z => ?_) fun zu zu x => x.elim
  obtain ⟨F', b, σ', e1, r, hR', q⟩ := z
  cases r with
  | next => exact ⟨F', _, .none, σ'.hp, rfl, e1, .none, hR'.wd, q⟩
  | brk => exact q.elim
  | cont => exact q.elim
  | ret hvr => exact ⟨F', _, _, σ'.hp, rfl, e1, hvr, hR'.wd, q⟩
theorem CallA_fn {f : Addr} {fd : FuncData} {first args : List AV} {kw : List (Str × AV)} {Q : AV → ASt → Prop} (hf : FnAt C f fd) (h : Fn C A (.ref f) (first ++ args) kw σ.hp (fun v hp' => Q v { σ with hp := hp' })) :
    CallA C A E env (.ref f) first args kw σ Q := by
  intro F G s fv us vs kvs hR hfv hus hvs hk
  (have zc := VR.refI hfv; clear hfv; subst zc)
  refine ⟨hf.keep hR.wd.old, wpAny_mono (h.call hR (hus.append hvs) hk) (fun v s' z => ?_) fun zu zu x => x⟩
  obtain ⟨F', av, ⟨l, h'⟩, e, hv, hR', hl, q⟩ := z
  dsimp only at hl
  subst hl
  exact ⟨F', av, _, e, hv, hR', q⟩
end
end
section
noncomputable def MethAt (C : Cf) (Cl : Addr) (name : Str) (f : Addr) : Prop := ∃ K : Frag, K.In C.h0 ∧
  findIn K (.ref Cl) "__getattribute__" = some (some (.builtin "object.__getattribute__")) ∧ findIn K (.ref Cl) "__getattr__" = some none ∧
  findIn K (.ref Cl) name = some (some (.ref f)) ∧ typeIn K (.ref f) = some (.type "function")
noncomputable def MakeAt (C : Cf) (Cl fI : Addr) : Prop := ∃ K : Frag, K.In C.h0 ∧ makesIn K Cl = true ∧ findIn K (.ref Cl) "__init__" = some (some (.ref fI)) ∧ typeIn K (.ref fI) = some (.type "function")
section
variable {C : Cf} {A : Around} {E : Value → Shared → Prop} {env : Env} {σ : ASt} {F G : FH} {s : Shared}
theorem NR.noName {P : Params} {fs : List (Str × AV)} {ds : List DictEntry} (h : NR P F fs ds) {name : Str} (e : fs.lookup name = none) : ds.find? (·.key.isStr name) = none := by
  induction h with
  | nil => rfl
  | @cons k v es en ds t a b c zu ih =>
    simp only [List.lookup] at e
    cases q : name == k with
    | true => rw [q] at e; exact sn_ne e
    | false =>
      rw [q] at e
      rw [List.find?_cons, b]
      have : (Value.str k t).isStr name = false := by
        simp only [Value.isStr, beq_eq_false_iff_ne, ne_eq]
        exact fun z => (beq_eq_false_iff_ne.mp q) z.symm
      rw [this]; exact ih e
theorem MethA_own {a d Cl f : Addr} {name : Str} {fs : List (Str × AV)} {Q : AV → List AV → ASt → Prop} (hm : MethAt C Cl name f) (ha : σ.hp a = some (.inst Cl d)) (hd : σ.hp d = some (.ns fs)) (hn : fs.lookup name = none)
    (h : Q (.ref f) [.ref a] σ) : MethA C A E env (.ref a) name σ Q := by
  intro F G s v pl hR hv
  (have zc := VR.refI hv; clear hv; subst zc)
  obtain ⟨K, X, g1, g2, g3, g4⟩ := hm
  obtain ⟨zu, zu, o, ho, r⟩ := hR.wd.ob a _ ha
  obtain ⟨zu, zu, od, hod, rd⟩ := hR.wd.ob d _ hd
  (refine OR.instC r fun zo => ?_; clear r; subst zo)
  (refine OR.nsC rd fun ds n hex hda hnr => ?_; clear rd)
  refine method_fn (od := some od) (X.keeps hR.wd.old) ⟨ho, rfl, rfl, hod⟩ g1 g2 g3 g4 ?_ ⟨F, .ref f, [.ref a], σ, Ext.refl F, .ref f, .cons (.ref a) .nil, hR, h⟩
  simp only [shadowIn, lookIn, hda, hnr.noName hn, hnr.noRef, Bool.false_eq_true, if_false, Option.map_some, Option.isSome_none]
theorem KeepOk_cls {Cl fI : Addr} (h : MakeAt C Cl fI) {h' : Heap} (k : ∀ b o, C.h0.get? b = some o → h'.get? b = some o) : KeepOk C h' (.ref Cl) := by
  obtain ⟨K, X, g1, zu⟩ := h
  have Y := makes_of (M := model C.prog C.w) (X.keeps k) g1
  obtain ⟨oc, od, cd, sl, ho, zu⟩ := Y.obj
  refine ⟨.machine, fun A Q E s k' q => ?_⟩
  unfold keeperOf
  refine wpAny_bind (wpAny_load (k' _ _ ho) ?_)
  refine wpAny_bind (Y.call A _ E s k' ?_)
  exact wpAny_pure q
theorem Fn_makeS {Cl fI : Addr} {args : List AV} {kw : List (Str × AV)} {hp : HP} {Q : AV → HP → Prop} (hm : MakeAt C Cl fI)
    (h : ∀ x vs kvs, hp x = none → Fn C (A.under (.builtin "type.__call__" ⟨.ref Cl :: vs, kvs⟩)) (.ref fI) (.ref x :: args) kw (upd hp x (.slot Cl [])) (fun v hp' => v = .none ∧ Q (.ref x) hp')) :
    Fn C A (.ref Cl) args kw hp Q := by
  intro F G s vs kvs fs W hv hk
  obtain ⟨K, X, g1, g2, g3⟩ := hm
  obtain ⟨hh, g, d, t, os⟩ := s
  have X' := X.keeps W.old
  refine make_core (makes_of X' g1) (looks_findIn X' g2) (fun self => bind_fn X' self g3) (.inl rfl) ?_
  obtain ⟨W1, e1⟩ := W.freeze (t := t) (o' := emptyDict) rfl
  have W2 := W1.alloc (t := t) (x' := .slot Cl []) (o' := instObj Cl hh.objs.size) rfl rfl (.slot (us := []) (fput_self F _ _) .nil)
  have z : hp (hh.objs.size + 1) = none := (W.lt (Nat.le_succ _)).2.2
  dsimp only at W2
  rw [Heap.size_push] at W2
  refine codeAny_mono (h (hh.objs.size + 1) vs kvs z _ _ _ (.ref (hh.objs.size + 1) :: vs) kvs fs W2 (.cons (.ref _) (hv.mono e1)) (hk.mono e1)) fun r s' q => ?_
  obtain ⟨F', v, av, hp', rfl, e2, hvr, W', rfl, q⟩ := q
  (have zc := VR.noneI hvr; clear hvr; subst zc)
  exact ⟨rfl, F', _, .ref _, hp', rfl, e1.trans e2, .ref _, W', q⟩
theorem Fn_makeD {Cl fI : Addr} {args : List AV} {kw : List (Str × AV)} {hp : HP} {Q : AV → HP → Prop} (hm : MakeAt C Cl fI)
    (h : ∀ x d vs kvs, hp x = none → hp d = none → x ≠ d → Fn C (A.under (.builtin "type.__call__" ⟨.ref Cl :: vs, kvs⟩)) (.ref fI) (.ref x :: args) kw (upd (upd hp d (.ns [])) x (.inst Cl d)) (fun v hp' => v = .none ∧ Q (.ref x) hp')) :
    Fn C A (.ref Cl) args kw hp Q := by
  intro F G s vs kvs fs W hv hk
  obtain ⟨K, X, g1, g2, g3⟩ := hm
  obtain ⟨hh, g, d, t, os⟩ := s
  have X' := X.keeps W.old
  refine make_core (makes_of X' g1) (looks_findIn X' g2) (fun self => bind_fn X' self g3) (.inl rfl) ?_
  have W1 := W.alloc (t := t) (x' := .ns []) (o' := emptyDict) rfl rfl (.ns (ds := []) (n := 0) ⟨rfl, rfl, rfl⟩ rfl .nil)
  have W2 := W1.alloc (t := t) (x' := .inst Cl hh.objs.size) (o' := instObj Cl hh.objs.size) rfl rfl .inst
  have z : hp (hh.objs.size + 1) = none := (W.lt (Nat.le_succ _)).2.2
  have z' : hp hh.objs.size = none := (W.lt (Nat.le_refl _)).2.2
  dsimp only at W2
  rw [Heap.size_push] at W2
  refine codeAny_mono (h (hh.objs.size + 1) hh.objs.size vs kvs z z' (Nat.succ_ne_self _) _ _ _ (.ref (hh.objs.size + 1) :: vs) kvs fs W2 (.cons (.ref _) hv) hk) fun r s' q => ?_
  obtain ⟨F', v, av, hp', rfl, e2, hvr, W', rfl, q⟩ := q
  (have zc := VR.noneI hvr; clear hvr; subst zc)
  exact ⟨rfl, F', _, .ref _, hp', rfl, e2, .ref _, W', q⟩
theorem CallA_cls {Cl fI : Addr} {args : List AV} {kw : List (Str × AV)} {Q : AV → ASt → Prop} (hm : MakeAt C Cl fI) (h : Fn C A (.ref Cl) args kw σ.hp (fun v hp' => Q v { σ with hp := hp' })) :
    CallA C A E env (.ref Cl) [] args kw σ Q := by
  intro F G s fv us vs kvs hR hfv hus hvs hk
  (have zc := VR.refI hfv; clear hfv; subst zc)
  (have zc := VRs.nilI hus; clear hus; subst zc)
  refine ⟨KeepOk_cls hm hR.wd.old, wpAny_mono (h.call hR hvs hk) (fun v s' z => ?_) fun zu zu x => x⟩
  obtain ⟨F', av, ⟨l, h'⟩, e, hv, hR', hl, q⟩ := z
  dsimp only at hl
  subst hl
  exact ⟨F', av, _, e, hv, hR', q⟩
theorem KeepOk_plain {h' : Heap} {f : Value} (hf : ∀ a, f ≠ .ref a) : KeepOk C h' f := by
  refine ⟨.machine, fun A Q E s k' q => ?_⟩
  unfold keeperOf
  cases f <;> first | exact wpAny_pure q | exact absurd rfl (hf _)
end
end
section
section
variable {C : Cf} {A : Around} {E : Value → Shared → Prop} {env : Env} {σ : ASt} {F G : FH} {s : Shared}
theorem Ev_Sub {value slice : Expr} {pos : Pos} {Q : AV → ASt → Prop} (h : Ev C A E env value σ (fun a σ₁ => Ev C A E env slice σ₁ (fun b σ₂ => Op2 C A E env VR (subscriptTail value slice) a b σ₂ Q))) : Ev C A E env (.Subscript value slice pos) σ Q := by
  intro F G s hR
  refine Subscript_ (h.use hR fun F₁ a σ₁ va s₁ e₁ ha hR₁ h₁ => h₁.use hR₁ fun F₂ b σ₂ vb s₂ e₂ hb hR₂ h₂ => ?_)
  exact h₂.at (e₁.trans e₂) hR₂ (ha.mono e₂) hb
theorem subscripted_false (slice : Expr) (o i : Value) : ∃ ops, subscripted slice false o i = operate ops (getItem o i) := by
  unfold subscripted
  split
  · exact ⟨_, rfl⟩
  · rename_i h; exact ft_ne h
  · exact ⟨_, rfl⟩
theorem tail_of {value slice : Expr} {o i : Value} {T id : String} {Q : Value → Shared → Prop} (hT : s.TypeIs o T) (hl : typeLookup (.type T) "__getitem__" = pure (some (.builtin id)))
    (hg : wpAny (model C.prog C.w) A (getItem o i) Q E s) : wpAny (model C.prog C.w) A (subscriptTail value slice o i) Q E s := by
  obtain ⟨ops, h⟩ := subscripted_false slice o i
  exact tail_any hT hl hg h
theorem Rp.list (hR : Rp C A F G env σ s) {a : Addr} {xs : List AV} (ha : σ.hp a = some (.list xs)) : ∃ vs n, IsL s.heap a vs.toArray n ∧ VRs F xs vs := by
  obtain ⟨zu, zu, o, ho, r⟩ := hR.wd.ob a _ ha
  (refine OR.listC r fun vs n h1 h2 h3 h4 h5 => ?_; clear r)
  refine ⟨vs, n, ?_, h5⟩
  obtain ⟨c, d, dt, sl⟩ := o
  dsimp only at h1 h2 h3 h4
  subst h1 h2 h3 h4
  exact ho
theorem OR.ofL {gens} {xs : List AV} {vs : List Value} {n : Nat} (h : VRs F xs vs) : OR C F gens (.list xs) { cls := .type "list", dict := none, data := .seq vs.toArray n, slots := #[] } := .list rfl rfl rfl rfl h
theorem Rp.dictOf (hR : Rp C A F G env σ s) {a : Addr} {l : List (Sym × AV)} {ep : Nat} (ha : σ.hp a = some (.dict l ep)) : ∃ kvs, s.heap.DictOf (symKind C.prog C.w) a kvs ∧ SV F l kvs := by
  obtain ⟨zu, zu, o, ho, r⟩ := hR.wd.ob a _ ha
  (refine OR.dictC r fun zv zv a1 a2 a3 a4 a5 a6 => ?_; clear r)
  exact ⟨_, ⟨_, _, _, ho, a1, a2, a3, a4, a5⟩, a6⟩
theorem DictOf.or {gens} {h' : Heap} {a : Addr} {kvs : List (Sym × Value)} {l : List (Sym × AV)} (hd : h'.DictOf (symKind C.prog C.w) a kvs) (hv : SV F l kvs) : ∃ o ep, h'.get? a = some o ∧ OR C F gens (.dict l ep) o := by
  obtain ⟨o, es, ep, ho, a1, a2, a3, a4, a5⟩ := hd
  exact ⟨o, ep, ho, .dict a1 a2 a3 a4 a5 hv⟩
noncomputable def at? (l : List (Sym × AV)) (k : Sym) : Option AV := (l.find? fun p => p.1 = k).map (·.2)
theorem SV.at {l : List (Sym × AV)} {kvs : List (Sym × Value)} (h : SV F l kvs) (k : Sym) : (∃ x v, at? l k = some x ∧ valueAt kvs k = some v ∧ VR F x v) ∨ (at? l k = none ∧ valueAt kvs k = none) := by
  induction h with
  | nil => exact .inr ⟨rfl, rfl⟩
  | @cons k' x v xs vs a zu ih =>
    by_cases q : k' = k
    · subst q; exact .inl ⟨x, v, by simp [at?], by simp [valueAt], a⟩
    · have e1 : at? ((k', x) :: xs) k = at? xs k := by simp [at?, q]
      have e2 : valueAt ((k', v) :: vs) k = valueAt vs k := by simp [valueAt, q]
      rw [e1, e2]; exact ih
noncomputable def store (l : List (Sym × AV)) (k : Sym) (x : AV) : List (Sym × AV) := if l.any (fun p => p.1 = k) then l.map (fun p => if p.1 = k then (p.1, x) else p) else l ++ [(k, x)]
theorem SV.append {x v y u} (h : SV F x v) (k : SV F y u) : SV F (x ++ y) (v ++ u) := by
  induction h with
  | nil => exact k
  | cons a zu ih => exact .cons a ih
theorem SV.stored {l : List (Sym × AV)} {kvs : List (Sym × Value)} (h : SV F l kvs) {k : Sym} {x : AV} {v : Value} (hv : VR F x v) : SV F (store l k x) (PySem.stored kvs k v) := by
  have e : l.any (fun p => decide (p.1 = k)) = kvs.any (fun p => decide (p.1 = k)) := by
    have z : ∀ {α : Type} (m : List (Sym × α)), m.any (fun p => decide (p.1 = k)) = (m.map (·.1)).any (fun q => decide (q = k)) := fun m => by rw [List.any_map]; rfl
    rw [z, z, h.keys]
  unfold store PySem.stored
  rw [e]
  split
  · rename_i z; clear z e
    induction h with
    | nil => exact .nil
    | @cons k' y u xs vs a zu ih =>
      simp only [List.map_cons]
      split
      · exact .cons hv ih
      · exact .cons a ih
  · exact h.append (.cons hv .nil)
theorem mapOf_of {knd : KeyKind C.prog C.w Sym} {h : Heap} {a : Addr} {kvs : List (Sym × Value)} (hd : h.DictOf knd a kvs) : h.MapOf knd a (valueAt kvs) := by
  obtain ⟨o, es, ep, ho, a1, a2, a3, a4, a5⟩ := hd
  exact ⟨o, es, ep, ho, a1, a2, a3, fun k => by rw [← a4.find k]; unfold findBy; rw [Array.find?_toList]⟩
theorem Sym.is_of {k : Sym} {v : Value} (h : VR F k.av v) : k.is v = true := by
  cases k <;> (first | (have zc := VR.intI h; clear h; rcases zc with ⟨zu, zc⟩; subst zc) | (have zc := VR.strI h; clear h; rcases zc with ⟨zu, zc⟩; subst zc) | cases h) <;> simp [Sym.is]
theorem Rp.low (hR : Rp C A F G env σ s) {a : Addr} {x : AO} (ha : σ.hp a = some x) (hs : (C.h0.get? sysModules).isSome = true) : (a == sysModules) = false := by
  simp only [beq_eq_false_iff_ne, ne_eq]
  rintro rfl
  obtain ⟨o, ho⟩ := Option.isSome_iff_exists.mp hs
  have := (hR.wd.ob _ _ ha).1
  rw [hR.wd.base _ _ ho] at this; exact sn_ne this
variable (hs : (C.h0.get? sysModules).isSome = true)
theorem dict_item {value slice : Expr} {a : Addr} {l : List (Sym × AV)} {ep : Nat} {k : Sym} {x : AV} {Q : AV → ASt → Prop} (ha : σ.hp a = some (.dict l ep)) (hx : at? l k = some x) (h : Q x σ) : Op2 C A E env VR (subscriptTail value slice) (.ref a) k.av σ Q := by
  intro F G s v u hR hv hu
  (have zc := VR.refI hv; clear hv; subst zc)
  obtain ⟨kvs, hd, sv⟩ := hR.dictOf ha
  rcases sv.at k with ⟨x', v', h1, h2, h3⟩ | ⟨h1, zu⟩
  · rw [hx] at h1; (have zc := Option.some.inj h1; clear h1; subst zc)
    have hm := mapOf_of hd
    exact tail_of hm.typeIs slot_dict_getitem.lookup (wpAny_getItem_of (Sym.is_of hu) hm h2 (Post.of h3 (hR.tok _) h))
  · rw [hx] at h1; exact sn_ne h1
include hs in
theorem dict_in {a : Addr} {l : List (Sym × AV)} {ep : Nat} {k : Sym} {Q : AV → ASt → Prop} (ha : σ.hp a = some (.dict l ep)) (h : Q (.bool (at? l k).isSome) σ) : Op2 C A E env VR (compareOp .In) k.av (.ref a) σ Q := by
  intro F G s v u hR hv hu
  (have zc := VR.refI hu; clear hu; subst zc)
  obtain ⟨kvs, hd, sv⟩ := hR.dictOf ha
  refine wpAny_in_of (Sym.is_of hv) (hR.low ha hs) (mapOf_of hd) (Post.of ?_ (hR.tok _) h)
  rcases sv.at k with ⟨x', v', h1, h2, h3⟩ | ⟨h1, h2⟩
  · rw [h1, h2]; exact .bool _
  · rw [h1, h2]; exact .bool _
theorem notIn_of {a b : Value} {Q : Value → Shared → Prop} (h : wpAny (model C.prog C.w) A (compareOp .In a b) (fun v s' => ∃ t, v = .bool t ∧ Q (.bool (!t)) s') E s) : wpAny (model C.prog C.w) A (compareOp .NotIn a b) Q E s := by
  have h' : wpAny (model C.prog C.w) A (do return Value.bool (← contains b a)) (fun v s' => ∃ t, v = .bool t ∧ Q (.bool (!t)) s') E s := h
  show wpAny _ _ (do return Value.bool (!(← contains b a))) _ _ _
  intro Γ p hΓ
  have z := h' Γ p hΓ
  rw [Sem.wp_bind'] at z ⊢
  refine Sem.wp_mono _ _ _ (fun t p' s' q => ?_) (fun zu zu zu q => q) _ _ z
  obtain ⟨t', e, q⟩ := q
  cases e
  exact q
theorem notIn_Op {x y : AV} {Q : AV → ASt → Prop} (h : Op2 C A E env VR (compareOp .In) x y σ (fun v σ' => ∃ t, v = .bool t ∧ Q (.bool (!t)) σ')) : Op2 C A E env VR (compareOp .NotIn) x y σ Q := by
  intro F G s v u hR hv hu
  refine notIn_of (wpAny_mono (h F G s v u hR hv hu) (fun r s' z => ?_) fun zu zu x => x)
  obtain ⟨F', b, σ', e, hb, hR', t, rfl, q⟩ := z
  (have zc := VR.boolI hb; clear hb; subst zc)
  exact ⟨t, rfl, F', _, σ', e, .bool _, hR', q⟩
theorem Ex_Assign_Sub {o i value : Expr} {pos' pos : Pos} {Q : AFlow → ASt → Prop}
    (h : Ev C A E env value σ (fun v σ₁ => Ev C A E env o σ₁ (fun b σ₂ => Ev C A E env i σ₂ (fun k σ₃ => ∀ F G s vv vb vk, Rp C A F G env σ₃ s → VR F v vv → VR F b vb → VR F k vk →
      wpAny (model C.prog C.w) A (setItem vb vk vv) (fun zu s' => ∃ F' σ', Ext F F' ∧ Rp C A F' G env σ' s' ∧ Q .next σ') E s))))
    (hs : autoParam (swapsWith value (some (.Subscript o i pos')) pos.line env = pure false) AC.aux0._auto_1) : Ex C A E env (.Assign [.Subscript o i pos'] value pos) σ Q := by
  intro F G s hR
  refine wpAny_Assign_Subscript (h.use hR fun F₁ a σ₁ va s₁ e₁ ha hR₁ h₁ => h₁.use hR₁ fun F₂ b σ₂ vb s₂ e₂ hb hR₂ h₂ => h₂.use hR₂ fun F₃ k σ₃ vk s₃ e₃ hk hR₃ h₃ => ?_) hs
  refine wpAny_mono (h₃ F₃ G s₃ va vb vk hR₃ (ha.mono (e₂.trans e₃)) (hb.mono e₃) hk) (fun zu s' z => ?_) fun zu zu x => x
  obtain ⟨F', σ', e, hR', q⟩ := z
  exact ⟨F', .next, σ', e₁.trans (e₂.trans (e₃.trans e)), .next, hR', q⟩
theorem SameBut.rest {h h' : Heap} {a : Addr} (hs : Heap.SameBut a h h') : ∀ b o, b ≠ a → h.get? b = some o → h'.get? b = some o := fun b o ne e => (hs.2 b ne).trans e
theorem dict_set {a : Addr} {l : List (Sym × AV)} {ep : Nat} {k : Sym} {x : AV} {Q : ASt → Prop} (ha : σ.hp a = some (.dict l ep)) (hz : l.length ≤ 4096) (h : ∀ ep', Q (σ.put a (.dict (store l k x) ep'))) :
    ∀ F G s vv vb vk, Rp C A F G env σ s → VR F x vv → VR F (.ref a) vb → VR F k.av vk → wpAny (model C.prog C.w) A (setItem vb vk vv) (fun zu s' => ∃ F' σ', Ext F F' ∧ Rp C A F' G env σ' s' ∧ Q σ') E s := by
  intro F G s vv vb vk hR hv hb hk
  (have zc := VR.refI hb; clear hb; subst zc)
  obtain ⟨kvs, hd, sv⟩ := hR.dictOf ha
  refine wpAny_setItem_pairs (Sym.is_of hk) hd (fun h' hd' hsb => ?_) (by rw [sv.length, sizeLine_eq]; with_reducible exact od_le ‹_› (by decide))
  obtain ⟨o, ep', ho, r⟩ := DictOf.or (C := C) (gens := s.gens) hd' (sv.stored hv)
  exact ⟨F, _, Ext.refl F, hR.change ha rfl ho r (SameBut.rest hsb), h ep'⟩
theorem CallA_builtin {id : String} {first args : List AV} {Q : AV → ASt → Prop} (h : ∀ F G s us vs, Rp C A F G env σ s → VRs F first us → VRs F args vs → wpAny (model C.prog C.w) A (PySem.call (.builtin id) (us ++ vs)) (Post C A G env VR Q F) E s) :
    CallA C A E env (.val (.builtin id)) first args [] σ Q := by
  intro F G s fv us vs kvs hR hf hus hvs hk
  (have zc := VR.valI hf; clear hf; subst zc); cases hk
  exact ⟨KeepOk_plain (by intro a; simp), h F G s us vs hR hus hvs⟩
theorem CallA_type {T : String} {args : List AV} {Q : AV → ASt → Prop} (h : ∀ F G s vs, Rp C A F G env σ s → VRs F args vs → wpAny (model C.prog C.w) A (PySem.call (.type T) vs) (Post C A G env VR Q F) E s) :
    CallA C A E env (.val (.type T)) [] args [] σ Q := by
  intro F G s fv us vs kvs hR hf hus hvs hk
  (have zc := VR.valI hf; clear hf; subst zc); cases hk; (have zc := VRs.nilI hus; clear hus; subst zc)
  exact ⟨KeepOk_plain (by intro a; simp), h F G s vs hR hvs⟩
theorem MethA_builtin {a : Addr} {x : AO} {T : String} {name : Str} {id : String} {Q : AV → List AV → ASt → Prop} (ha : σ.hp a = some x) (hT : ∀ F gens o, OR C F gens x o → o.cls = .type T ∧ o.dict = none) (pa : PlainAttrs T) (slot : Slot T name id)
    (hty : typeOf (.builtin id) = pure (.type "method_descriptor")) (h : Q (.val (.builtin id)) [.ref a] σ) : MethA C A E env (.ref a) name σ Q := by
  intro F G s v pl hR hv
  (have zc := VR.refI hv; clear hv; subst zc)
  obtain ⟨zu, zu, o, ho, r⟩ := hR.wd.ob a _ ha
  obtain ⟨h1, h2⟩ := hT _ _ _ r
  exact getMethod_builtin ⟨o, ho, h1⟩ pa slot hty (fun b e => by cases e; exact ⟨o, ho, h2⟩) ⟨F, _, _, σ, Ext.refl F, .val _, .cons (.ref a) .nil, hR, h⟩
theorem OR.clsL {xs : List AV} : ∀ F gens o, OR C F gens (.list xs) o → o.cls = .type "list" ∧ o.dict = none := by
  intro F gens o r; (refine OR.listC r fun zv zv a b zv zv zv => ?_; clear r); exact ⟨a, b⟩
theorem OR.clsD {l : List (Sym × AV)} {ep : Nat} : ∀ F gens o, OR C F gens (.dict l ep) o → o.cls = .type "dict" ∧ o.dict = none := by
  intro F gens o r; (refine OR.dictC r fun zv zv a zv zv zv zv zv => ?_; clear r); exact ⟨a.1, a.2.1⟩
theorem list_append {a : Addr} {xs : List AV} {x : AV} {Q : AV → ASt → Prop} (ha : σ.hp a = some (.list xs)) (hz : xs.length ≤ 100000) (h : Q .none (σ.put a (.list (xs ++ [x])))) : CallA C A E env (.val (.builtin "list.append")) [.ref a] [x] [] σ Q := by
  refine CallA_builtin fun F G s us vs hR hus hvs => ?_
  refine VRs.consC hus fun zv zw zo q r => ?_; clear hus; subst zo; (have zc := VR.refI q; clear q; subst zc); (have zc := VRs.nilI r; clear r; subst zc); refine VRs.consC hvs fun v zw zo q2 r2 => ?_; clear hvs; subst zo
  (have zc := VRs.nilI r2; clear r2; subst zc)
  obtain ⟨ws, n, hl, hv⟩ := hR.list ha
  refine call_meets PySem.F.slot_list_append ⟨_, hl, rfl⟩ PySem.F.entry_list_append (PySem.F.args_list_append_2 _ _) (PySem.list_append a ws.toArray n v (by rw [List.size_toArray, hv.length, sizeLine_eq]; with_reducible exact od_le ‹_› (by decide))) ⟨hl, ?_⟩
  have hl' := hl.update (fun x => x.push v)
  refine ⟨F, .none, _, Ext.refl F, .none, hR.change ha rfl hl' ?_ (SameBut.rest (Heap.SameBut.update ..)), h⟩
  rw [List.push_toArray]
  exact OR.ofL (hv.append (.cons q2 .nil))
theorem list_pop {a : Addr} {xs : List AV} {x : AV} {Q : AV → ASt → Prop} (ha : σ.hp a = some (.list (xs ++ [x]))) (hz : xs.length ≤ 100000) (h : Q x (σ.put a (.list xs))) : CallA C A E env (.val (.builtin "list.pop")) [.ref a] [] [] σ Q := by
  refine CallA_builtin fun F G s us vs hR hus hvs => ?_
  obtain rfl : us = [Value.ref a] := by refine VRs.consC hus fun zv zw zo q r => ?_; clear hus; subst zo; (have zc := VR.refI q; clear q; subst zc); (have zc := VRs.nilI r; clear r; subst zc); rfl
  obtain rfl : vs = [] := by (have zc := VRs.nilI hvs; clear hvs; subst zc); rfl
  obtain ⟨ws, n, hl, hv⟩ := hR.list ha
  have hlen := hv.length
  rw [List.length_append, List.length_singleton] at hlen
  obtain ⟨w, hw, hwv⟩ := hv.get (i := xs.length) (x := x) (by simp)
  have hd : ws.take xs.length ++ [w] = ws := by
    have e1 : ws.drop xs.length = [w] := by
      have : (ws.drop xs.length).length = 1 := by rw [List.length_drop]; omega
      obtain ⟨y, hy⟩ := List.length_eq_one_iff.mp this
      have : (ws.drop xs.length)[0]? = some w := by rw [List.getElem?_drop, Nat.add_zero]; exact hw
      rw [hy] at this ⊢; simpa using this
    rw [← e1]; exact List.take_append_drop _ _
  refine call_meets PySem.F.slot_list_pop ⟨_, hl, rfl⟩ PySem.F.entry_list_pop (PySem.F.args_list_pop_1 _) (MeetsSeq.list_pop_last a ws.toArray n w (by rw [List.size_toArray, List.getElem?_toArray, hlen]; exact hw) (by rw [List.size_toArray, hlen, sizeLine_eq]; omega)) ⟨hl, ?_⟩
  have hl' := hl.update (fun y => y.eraseIdxIfInBounds (ws.toArray.size - 1))
  have ee : (ws.toArray.eraseIdxIfInBounds (ws.toArray.size - 1)) = (ws.take xs.length).toArray := by
    apply Array.ext'
    simp only [List.size_toArray, hlen, Nat.add_sub_cancel]
    rw [Array.toList_eraseIdxIfInBounds]
    show ws.eraseIdx xs.length = _
    conv => lhs; rw [← hd]
    rw [List.eraseIdx_append_of_length_le (by rw [List.length_take]; omega)]
    simp [List.length_take, hlen]
  refine ⟨F, x, _, Ext.refl F, hwv, hR.change ha rfl hl' ?_ (SameBut.rest (Heap.SameBut.update ..)), h⟩
  rw [ee]
  have := hv.take xs.length
  rw [List.take_left] at this
  exact OR.ofL this
theorem truthy_list {a : Addr} {xs : List AV} {Q : Bool → ASt → Prop} (ha : σ.hp a = some (.list xs)) (hz : xs.length ≤ 100000) (h : Q (!xs.isEmpty) σ) : Op1 C A E env (fun zu b b' => b = b') truthy (.ref a) σ Q := by
  intro F G s v hR hv
  (have zc := VR.refI hv; clear hv; subst zc)
  obtain ⟨ws, n, hl, hv⟩ := hR.list ha
  refine wpAny_truthy_list hl.isList (by rw [List.size_toArray, hv.length]; omega) (Post.of ?_ (hR.tok _) h)
  rw [List.isEmpty_toArray]
  cases hv <;> rfl
end
end
section
section
variable {C : Cf} {A : Around} {E : Value → Shared → Prop} {env : Env} {σ : ASt} {F G : FH} {s : Shared}
theorem int_add {a b : Int} {Q : AV → ASt → Prop} (h : Q (.int (a + b)) σ) : Op2 C A E env VR (binaryOp .Add) (.int a) (.int b) σ Q := by
  intro F G s v u hR hv hu; (have zc := VR.intI hv; clear hv; rcases zc with ⟨zu, zc⟩; subst zc); (have zc := VR.intI hu; clear hu; rcases zc with ⟨zu, zc⟩; subst zc); exact add_int (Post.of (.int _ _) (hR.tok _) h)
theorem int_sub {a b : Int} {Q : AV → ASt → Prop} (h : Q (.int (a - b)) σ) : Op2 C A E env VR (binaryOp .Sub) (.int a) (.int b) σ Q := by
  intro F G s v u hR hv hu; (have zc := VR.intI hv; clear hv; rcases zc with ⟨zu, zc⟩; subst zc); (have zc := VR.intI hu; clear hu; rcases zc with ⟨zu, zc⟩; subst zc); exact PyProof.Rows.sub_int (Post.of (.int _ _) (hR.tok _) h)
theorem int_le {a b : Int} {Q : AV → ASt → Prop} (h : Q (.bool (decide (a ≤ b))) σ) : Op2 C A E env VR (compareOp .LtE) (.int a) (.int b) σ Q := by
  intro F G s v u hR hv hu; (have zc := VR.intI hv; clear hv; rcases zc with ⟨zu, zc⟩; subst zc); (have zc := VR.intI hu; clear hu; rcases zc with ⟨zu, zc⟩; subst zc); exact le_int (Post.of (.bool _) hR h)
theorem Ev_Tuple {elts : List Expr} {k : Nat} {pos : Pos} {Q : AV → ASt → Prop} (h : EvL C A E env (backTo pos (starEach elts env)) σ (fun vs σ' => vs.length ≤ 100000 ∧ Q (.tup vs) σ')) : Ev C A E env (.Tuple elts k pos) σ Q := by
  intro F G s hR
  refine Tuple_ (h.use hR fun F₁ vs σ₁ us s₁ e₁ hv hR₁ h₁ => ?_)
  have hz : us.length ≤ sizeLine := by rw [hv.length, sizeLine_eq]; omega
  unfold newTuple
  refine wpAny_newObj_type ?_ (by show us.toArray.size ≤ sizeLine; rw [List.size_toArray]; exact hz)
  obtain ⟨hR₂, e₂⟩ := hR₁.freeze (t := s₁.toks) (o' := { cls := .type "tuple", data := .seq us.toArray }) rfl
  exact Post.ext (e₁.trans e₂) (Post.of (.tup (fput_self _ _ _) rfl rfl (hv.mono e₂)) hR₂ h₁.2)
theorem Ev_List {elts : List Expr} {pos : Pos} {Q : AV → ASt → Prop} (h : EvL C A E env (backTo pos (starEach elts env)) σ (fun vs σ' => vs.length ≤ 100000 ∧ ∀ a, σ'.hp a = none → Q (.ref a) (σ'.put a (.list vs)))) : Ev C A E env (.List elts pos) σ Q := by
  intro F G s hR
  refine List_ (h.use hR fun F₁ vs σ₁ us s₁ e₁ hv hR₁ h₁ => ?_)
  have hz : us.length ≤ sizeLine := by rw [hv.length, sizeLine_eq]; omega
  unfold newList
  refine wpAny_newObj_type ?_ (by show us.toArray.size ≤ sizeLine; rw [List.size_toArray]; exact hz)
  exact Post.ext e₁ (Post.of (.ref _) (hR₁.alloc (t := s₁.toks) rfl rfl (OR.ofL (n := 0) hv)) (h₁.2 _ hR₁.lt))
theorem Ev_Dict0 {pos : Pos} {Q : AV → ASt → Prop} (h : ∀ a, σ.hp a = none → Q (.ref a) (σ.put a (.dict [] 0))) : Ev C A E env (.Dict [] [] pos) σ Q := by
  intro F G s hR
  refine wpAny_Dict_empty ?_
  exact Post.of (.ref _) (hR.alloc (t := s.toks) rfl rfl (.dict (es := #[]) (kvs := []) ⟨rfl, rfl, rfl⟩ rfl (fun zu he => by simp at he) .nil (by simp) .nil)) (h _ hR.lt)
theorem Rp.setOf (hR : Rp C A F G env σ s) {a : Addr} {S : Int → Bool} {n : Nat} (ha : σ.hp a = some (.iset S n)) : s.heap.SetOf (intKind C.prog C.w) a S n := by
  obtain ⟨zu, zu, o, ho, r⟩ := hR.wd.ob a _ ha
  (refine OR.isetC r fun zv zv zv a1 a2 a3 a4 a5 a6 a7 => ?_; clear r)
  exact ⟨_, _, _, _, ho, a1, a2, a3, a4, a5, a6, a7⟩
theorem SetOf.or {gens} {h' : Heap} {a : Addr} {S : Int → Bool} {n : Nat} (hd : h'.SetOf (intKind C.prog C.w) a S n) : ∃ o, h'.get? a = some o ∧ OR C F gens (.iset S n) o := by
  obtain ⟨o, es, ep, t, ho, a1, a2, a3, a4, a5, a6, a7⟩ := hd
  exact ⟨o, ho, .iset a1 a2 a3 a4 a5 a6 a7⟩
theorem set_new {Q : AV → ASt → Prop} (h : ∀ a, σ.hp a = none → Q (.ref a) (σ.put a (.iset (fun zu => false) 0))) : CallA C A E env (.val (.type "set")) [] [] [] σ Q := by
  refine CallA_type fun F G s vs hR hvs => ?_
  obtain rfl : vs = [] := by (have zc := VRs.nilI hvs; clear hvs; subst zc); rfl
  refine call_set_0 fun led => Post.of (.ref _) (hR.alloc (t := s.toks) rfl rfl (.iset ⟨rfl, rfl, rfl⟩ rfl (fun e he => by simp at he) (fun k => by simp) (by simp; decide) (by rfl) rfl)) (h _ hR.lt)
theorem set_add {a : Addr} {S : Int → Bool} {n : Nat} {k : Int} {Q : AV → ASt → Prop} (ha : σ.hp a = some (.iset S n)) (hn : n + 1 < 4096) (h : Q .none (σ.put a (.iset (fun j => S j || decide (j = k)) (if S k then n else n + 1)))) :
    CallA C A E env (.val (.builtin "set.add")) [.ref a] [.int k] [] σ Q := by
  refine CallA_builtin fun F G s us vs hR hus hvs => ?_
  obtain rfl : us = [Value.ref a] := by refine VRs.consC hus fun zv zw zo q r => ?_; clear hus; subst zo; (have zc := VR.refI q; clear q; subst zc); (have zc := VRs.nilI r; clear r; subst zc); rfl
  obtain ⟨t, rfl⟩ : ∃ t, vs = [Value.int k t] := by refine VRs.consC hvs fun zv zw zo q r => ?_; clear hvs; subst zo; (have zc := VR.intI q; clear q; rcases zc with ⟨zu, zc⟩; subst zc); (have zc := VRs.nilI r; clear r; subst zc); exact ⟨_, rfl⟩
  refine call_set_add (knd := intKind C.prog C.w) (k := k) (by simp [intKind, Value.isInt]) rfl (hR.setOf ha) hn fun h' hsb hS => ?_
  obtain ⟨o, ho, r⟩ := SetOf.or (C := C) (F := F) (gens := s.gens) hS
  exact Post.of .none (hR.change ha rfl ho r (SameBut.rest hsb)) h
theorem set_in {a : Addr} {S : Int → Bool} {n : Nat} {k : Int} {Q : AV → ASt → Prop} (ha : σ.hp a = some (.iset S n)) (h : Q (.bool (S k)) σ) : Op2 C A E env VR (compareOp .In) (.int k) (.ref a) σ Q := by
  intro F G s v u hR hv hu
  (have zc := VR.intI hv; clear hv; rcases zc with ⟨zu, zc⟩; subst zc); (have zc := VR.refI hu; clear hu; subst zc)
  exact wpAny_inSet_of (knd := intKind C.prog C.w) (k := k) (by simp [intKind, Value.isInt]) rfl (hR.setOf ha) (Post.of (.bool _) (hR.tok _) h)
theorem OR.clsS {S : Int → Bool} {n : Nat} : ∀ F gens o, OR C F gens (.iset S n) o → o.cls = .type "set" ∧ o.dict = none := by
  intro F gens o r; (refine OR.isetC r fun zv zv zv a zv zv zv zv zv zv => ?_; clear r); exact ⟨a.1, a.2.1⟩
theorem tuple_list {a : Addr} {xs : List AV} {Q : AV → ASt → Prop} (ha : σ.hp a = some (.list xs)) (hz : xs.length ≤ 100000) (h : Q (.tup xs) σ) : CallA C A E env (.val (.type "tuple")) [] [.ref a] [] σ Q := by
  refine CallA_type fun F G s vs hR hvs => ?_
  obtain rfl : vs = [Value.ref a] := by refine VRs.consC hvs fun zv zw zo q r => ?_; clear hvs; subst zo; (have zc := VR.refI q; clear q; subst zc); (have zc := VRs.nilI r; clear r; subst zc); rfl
  obtain ⟨ws, n, hl, hv⟩ := hR.list ha
  refine call_tuple_list hl.isList (fun h' hk => ?_) (by rw [List.size_toArray, hv.length, sizeLine_eq]; with_reducible exact od_le ‹_› (by decide))
  obtain ⟨hR₂, e₂⟩ := (hR.keep (t := s.toks) hk).freeze (t := s.toks) (o' := { cls := .type "tuple", data := .seq ws.toArray }) rfl
  exact Post.ext e₂ (Post.of (.tup (fput_self _ _ _) rfl rfl (hv.mono e₂)) hR₂ h)
theorem len_tup {xs : List AV} {Q : AV → ASt → Prop} (hz : xs.length ≤ 100000) (h : Q (.int xs.length) σ) : CallA C A E env (.val (.builtin "len")) [] [.tup xs] [] σ Q := by
  refine CallA_builtin fun F G s us vs hR hus hvs => ?_
  obtain rfl : us = [] := by (have zc := VRs.nilI hus; clear hus; subst zc); rfl
  refine VRs.consC hvs fun zv zw zo q r => ?_; clear hvs; subst zo; (have zc := VRs.nilI r; clear r; subst zc); refine VR.tupC q fun zs za zw zn zo q1 q2 q3 q4 => ?_; clear q; subst zo
  refine PyProof.Rows.len_tuple ⟨_, hR.wd.fz _ _ q1, q2, _, q3⟩ (by rw [List.size_toArray, q4.length]; omega) (Post.of ?_ (hR.tok _) h)
  rw [List.size_toArray, q4.length]; exact .int _ _
theorem len_str' {x : Str} {Q : AV → ASt → Prop} (hz : x.length ≤ 100000) (h : Q (.int x.length) σ) : CallA C A E env (.val (.builtin "len")) [] [.str x] [] σ Q := by
  refine CallA_builtin fun F G s us vs hR hus hvs => ?_
  obtain rfl : us = [] := by (have zc := VRs.nilI hus; clear hus; subst zc); rfl
  obtain ⟨t, rfl⟩ : ∃ t, vs = [Value.str x t] := by refine VRs.consC hvs fun zv zw zo q r => ?_; clear hvs; subst zo; (have zc := VR.strI q; clear q; rcases zc with ⟨zu, zc⟩; subst zc); (have zc := VRs.nilI r; clear r; subst zc); exact ⟨_, rfl⟩
  exact PyProof.Rows.len_str (by omega) (Post.of (.int _ _) (hR.tok _) h)
theorem truthy_tup {xs : List AV} {Q : Bool → ASt → Prop} (hz : xs.length ≤ 100000) (h : Q (!xs.isEmpty) σ) : Op1 C A E env (fun zu b b' => b = b') truthy (.tup xs) σ Q := by
  intro F G s v hR hv
  refine VR.tupC hv fun zs za zw zn zo q1 q2 q3 q4 => ?_; clear hv; subst zo
  refine truthy_tuple ⟨_, hR.wd.fz _ _ q1, q2, _, q3⟩ (by rw [List.size_toArray, q4.length]; omega) (Post.of ?_ (hR.tok _) h)
  rw [List.isEmpty_toArray]
  cases q4 <;> rfl
theorem Ex_Expr {e : Expr} {pos : Pos} {Q : AFlow → ASt → Prop} (h : Ev C A E env e σ (fun zu σ' => Q .next σ')) (hi : autoParam (interactive env = false) AC.aux0._auto_1) (hs : autoParam (swapsWith e none pos.line env = pure false) AC.aux0._auto_1) : Ex C A E env (.Expr e pos) σ Q := by
  intro F G s hR
  rw [exec_Expr env e pos hi hs]
  exact wpAny_bind (wpAny_standAt (wpAny_bind (h.use hR fun F₁ v σ₁ vv s₁ e₁ hv hR₁ h₁ => wpAny_dropValue (Post.ext e₁ (Post.of .next hR₁ h₁)))))
theorem Ex_Aug_Attr {o value : Expr} {attr : Str} {tpos pos : Pos} {op : Operator} {Q : AFlow → ASt → Prop}
    (h : Ev C A E env o σ (fun ov σ₁ => Op1 C A E env VR (fun v => getAttr v attr true) ov σ₁ (fun old σ₂ => Ev C A E env value σ₂ (fun v σ₃ => Op2 C A E env VR (inplaceOp op) old v σ₃ (fun new σ₄ =>
      Op2 C A E env (fun zu (zu : Unit) (zu : Unit) => True) (fun u w => setAttr w attr u) new ov σ₄ (fun zu σ₅ => Q .next σ₅)))))) : Ex C A E env (.AugAssign (.Attribute o attr tpos) op value pos) σ Q := by
  intro F G s hR
  refine wpAny_AugAssign_AttributeAny (h.use hR fun F₁ ov σ₁ vo s₁ e₁ ho hR₁ h₁ => wpAny_mono (h₁ F₁ G s₁ vo hR₁ ho) (fun old s₂ z => ?_) fun zu zu x => x)
  obtain ⟨F₂, oldv, σ₂, e₂, hold, hR₂, h₂⟩ := z
  refine h₂.use hR₂ fun F₃ vv σ₃ v s₃ e₃ hv hR₃ h₃ => wpAny_mono (h₃ F₃ G s₃ old v hR₃ (hold.mono e₃) hv) (fun new s₄ z => ?_) fun zu zu x => x
  obtain ⟨F₄, nv, σ₄, e₄, hn, hR₄, h₄⟩ := z
  refine wpAny_mono (h₄ F₄ G s₄ new vo hR₄ hn (ho.mono (e₂.trans (e₃.trans e₄)))) (fun zu s₅ z => ?_) fun zu zu x => x
  obtain ⟨F₅, b, σ₅, e₅, zu, hR₅, h₅⟩ := z
  exact ⟨F₅, .next, σ₅, e₁.trans (e₂.trans (e₃.trans (e₄.trans e₅))), .next, hR₅, h₅⟩
theorem int_iadd {a b : Int} {Q : AV → ASt → Prop} (h : Q (.int (a + b)) σ) : Op2 C A E env VR (inplaceOp .Add) (.int a) (.int b) σ Q := by
  intro F G s v u hR hv hu; (have zc := VR.intI hv; clear hv; rcases zc with ⟨zu, zc⟩; subst zc); (have zc := VR.intI hu; clear hu; rcases zc with ⟨zu, zc⟩; subst zc); exact iadd_int (Post.of (.int _ _) (hR.tok _) h)
end
end
section
noncomputable abbrev NoE : Value → Shared → Prop := fun zu zu => False
section
variable {C : Cf} {A : Around} {E : Value → Shared → Prop} {env : Env} {σ : ASt} {F G : FH} {s : Shared}
theorem Ex_While {test : Expr} {body : List Stmt} {pos : Pos} {Q : AFlow → ASt → Prop} (I : Nat → ASt → Prop)
    (turn : ∀ n σ, I n σ → Et C A NoE env test σ (fun b σ₁ => match b with
      | true => Exs C A NoE env body σ₁ (fun f σ₂ => match f with
        | .next => ∃ m, m < n ∧ I m σ₂
        | .cont => ∃ m, m < n ∧ I m σ₂
        | .brk => Q .next σ₂
        | .ret v => Q (.ret v) σ₂)
      | false => Q .next σ₁)) (n : Nat) (h : I n σ) : Ex C A E env (.While test body [] pos) σ Q := by
  intro F G s hR
  refine wpAny_While (codeAny_whileLoop (fun n s' => ∃ F' σ', Ext F F' ∧ Rp C A F' G env σ' s' ∧ I n σ') (fun n s' hI => ?_) n ⟨F, σ, Ext.refl F, hR, h⟩)
  obtain ⟨F', σ', e, hR', hI⟩ := hI
  refine wpAny_mono (turn n σ' hI F' G s' hR') (fun b s₁ z => ?_) fun zu zu x => x.elim
  obtain ⟨F₁, b', σ₁, e₁, rfl, hR₁, h₁⟩ := z
  cases b' with
  | true =>
    refine wpAny_mono (h₁ F₁ G s₁ hR₁) (fun f s₂ z => ?_) fun zu zu x => x.elim
    obtain ⟨F₂, fl, σ₂, e₂, r, hR₂, h₂⟩ := z
    have ee := e.trans (e₁.trans e₂)
    cases r with
    | next => obtain ⟨m, hm, hi⟩ := h₂; exact ⟨m, hm, F₂, σ₂, ee, hR₂, hi⟩
    | cont => obtain ⟨m, hm, hi⟩ := h₂; exact ⟨m, hm, F₂, σ₂, ee, hR₂, hi⟩
    | brk => exact ⟨F₂, .next, σ₂, ee, .next, hR₂, h₂⟩
    | ret hv => exact ⟨F₂, _, σ₂, ee, .ret hv, hR₂, h₂⟩
  | false => exact wpAny_execs_nil ⟨F₁, .next, σ₁, e.trans e₁, .next, hR₁, h₁⟩
theorem fput_ne (F : FH) {a b : Addr} (o : Obj) (h : b ≠ a) : fput F a o b = F b := by simp [fput, h]
noncomputable def ovl (G m : FH) : FH := fun b => match m b with | some o => some o | none => G b
noncomputable def sg (a : Addr) (o : Obj) : FH := fun b => if b = a then some o else none
noncomputable def Inert (o : Obj) : Prop := (∀ v, o.data ≠ .cell v) ∧ ∀ es ep, o.data ≠ .dict es ep
noncomputable def Quiet (m : FH) : Prop := ∀ b o, m b = some o → Inert o
noncomputable def Disj (m G : FH) : Prop := ∀ b o, m b = some o → G b = none
theorem ovl_some {m : FH} {b : Addr} {o : Obj} (h : m b = some o) : ovl G m b = some o := by unfold ovl; rw [h]
theorem ovl_none {m : FH} {b : Addr} (h : m b = none) : ovl G m b = G b := by unfold ovl; rw [h]
theorem sg_self (a : Addr) (o : Obj) : sg a o a = some o := by simp [sg]
theorem sg_ne {a b : Addr} (o : Obj) (h : b ≠ a) : sg a o b = none := by simp [sg, h]
theorem sg_quiet {a : Addr} {o : Obj} (h : Inert o) : Quiet (sg a o) := fun b o' e => by
  unfold sg at e
  split at e
  · (have zc := Option.some.inj e; clear e; subst zc); exact h
  · exact ns_ne e
theorem sg_disj {a : Addr} {o : Obj} (h : G a = none) : Disj (sg a o) G := fun b o' e => by
  unfold sg at e
  split at e
  · rename_i q; subst q; exact h
  · exact ns_ne e
theorem ovl_ext {m : FH} (h : Disj m G) : Ext G (ovl G m) := fun b o e => by
  cases q : m b with
  | none => rw [ovl_none q]; exact e
  | some o' => rw [h b o' q] at e; exact ns_ne e
theorem ovl_no {m : FH} (h : Disj m G) {b : Addr} (e : ovl G m b = none) : G b = none ∧ m b = none := by
  cases q : m b with
  | none => rw [ovl_none q] at e; exact ⟨e, rfl⟩
  | some o' => rw [ovl_some q] at e; exact sn_ne e
theorem FrG.offM {m : FH} (hq : Quiet m) {e : Env} (h : FrG (ovl G m) e) : FrG G e := by
  obtain ⟨a, L, o, b, c, es, ep, d⟩ := h
  refine ⟨a, L, o, b, ?_, es, ep, d⟩
  cases q : m L with
  | none => rw [ovl_none q] at c; exact c
  | some o' => rw [ovl_some q] at c; (have zc := Option.some.inj c; clear c; subst zc); exact absurd d ((hq _ _ q).2 es ep)
theorem FsE.offM {m : FH} (hq : Quiet m) (h : FsE A (ovl G m) env) : FsE A G env :=
  let ⟨e, l, a, b, c, d, f⟩ := h
  ⟨e, l, a, b, c, d.imp id (fun z => z.offM hq), fun e' h' => (f e' h').offM hq⟩
theorem Rp.ochange {m m' : FH} (hR : Rp C A F (ovl G m) env σ s) (hq : Quiet m) (hq' : Quiet m') (hd : Disj m G) (hdom : ∀ b, m b = none → m' b = none) {h' : Heap} {t : Nat}
    (ho : ∀ b o, m' b = some o → h'.get? b = some o) (k : ∀ b ob, m b = none → s.heap.get? b = some ob → h'.get? b = some ob) : Rp C A F (ovl G m') env σ ⟨h', s.gens, s.drawn, t, s.os⟩ := by
  obtain ⟨⟨w1, w2, w3, w4, w5, w6, w7, w8⟩, ⟨kd, ⟨n, hn, hnv⟩, ⟨l1, l2, l3⟩, co, ci, cv, fv⟩, hfs⟩ := hR
  have hd' : Disj m' G := fun b o e => by
    cases q : m b with
    | none => rw [hdom b q] at e; exact ns_ne e
    | some o' => exact hd b o' q
  have mn : ∀ {b}, ovl G m b = none → m b = none := fun e => (ovl_no hd e).2
  have on : ∀ {b}, ovl G m b = none → ovl G m' b = none := fun e => by rw [ovl_none (hdom _ (mn e))]; exact (ovl_no hd e).1
  refine ⟨⟨w1, fun b ob e => k _ _ (mn (w8 b ob e)) (w2 b ob e), fun b ob e => ?_, fun b x e => ?_, w5, w6, w7, fun b ob e => on (w8 b ob e)⟩, ⟨kd, ⟨n, ?_, hnv⟩, ⟨l1, on l2, l3⟩, fun x hx => ?_, ci, fun x av c h1 h2 h3 => ?_, fun x av h1 h2 => ?_⟩, (hfs.offM hq).mono (ovl_ext hd')⟩
  · cases q : m' b with
    | some o' => rw [ovl_some q] at e; (have zc := Option.some.inj e; clear e; subst zc); exact ⟨_, ho _ _ q, GEq.rfl' _⟩
    | none =>
      rw [ovl_none q] at e
      have qm : m b = none := by
        cases q2 : m b with
        | none => rfl
        | some o2 => rw [hd b o2 q2] at e; exact ns_ne e
      obtain ⟨ob', z1, z2⟩ := w3 b ob (by rw [ovl_none qm]; exact e)
      exact ⟨ob', k _ _ qm z1, z2⟩
  · obtain ⟨p, q, ob, hob, r⟩ := w4 b x e
    exact ⟨p, on q, ob, k _ _ (mn q) hob, r⟩
  · obtain ⟨oL, es, ep, hL, r⟩ := hn
    exact ⟨oL, es, ep, k _ _ (mn l2) hL, r⟩
  · obtain ⟨c, g1, g2, g3, g4, g5, v, ob, g6, g7⟩ := co x hx
    exact ⟨c, g1, g2, on g3, g4, g5, v, ob, k _ _ (mn g3) g6, g7⟩
  · obtain ⟨c', g1, g2, g3, zu⟩ := co x h2
    rw [h3] at g1; (have zc := Option.some.inj g1; clear g1; subst zc)
    obtain ⟨v, ⟨ob, g6, g7⟩, g8⟩ := cv x av c h1 h2 h3
    exact ⟨v, ⟨ob, k _ _ (mn g3) g6, g7⟩, g8⟩
  · obtain ⟨c, v, ob, a1, a2, a3, a4⟩ := fv x av h1 h2
    refine ⟨c, v, ob, a1, ?_, a3, a4⟩
    cases q : m c with
    | none => rw [ovl_none q] at a2; rw [ovl_none (hdom _ q)]; exact a2
    | some o' => rw [ovl_some q] at a2; (have zc := Option.some.inj a2; clear a2; subst zc); exact absurd a3 ((hq _ _ q).1 _)
theorem ovl_nil : ovl G (fun zu => none) = G := rfl
theorem Rp.odrop {m : FH} (hR : Rp C A F (ovl G m) env σ s) (hq : Quiet m) (hd : Disj m G) {h' : Heap} {t : Nat} (k : ∀ b ob, m b = none → s.heap.get? b = some ob → h'.get? b = some ob) : Rp C A F G env σ ⟨h', s.gens, s.drawn, t, s.os⟩ := by
  have := Rp.ochange (m' := fun zu => none) (t := t) hR hq (fun zu zu e => by exact ns_ne e) hd (fun zu zu => rfl) (fun zu zu e => by exact ns_ne e) k
  rwa [ovl_nil] at this
theorem Rp.odrop0 {m : FH} (hR : Rp C A F (ovl G m) env σ s) (hq : Quiet m) (hd : Disj m G) : Rp C A F G env σ s := hR.odrop hq hd (t := s.toks) fun zu zu zu e => e
theorem Rp.freezeAt (hR : Rp C A F G env σ s) {a : Addr} {o : Obj} (ho : s.heap.get? a = some o) (hF : F a = none) (hG : G a = none) (hp : σ.hp a = none) (hl : a ≠ env.locals) (hc : ∀ x c, env.kindOf x = some .cell → env.cells.lookup x = some c → a ≠ c) :
    Rp C A (fput F a o) G env σ s ∧ Ext F (fput F a o) := by
  have ex := fput_ext o hF
  obtain ⟨⟨w1, w2, w3, w4, w5, w6, w7, w8⟩, ⟨kd, ⟨m, hm, hmv⟩, ⟨l1, l2, l3⟩, co, ci, cv, fv⟩, hfs⟩ := hR
  refine ⟨⟨⟨fun b o e => ex _ _ (w1 b o e), fun b ob e => ?_, w3, fun b x e => ?_, w5, w6, w7, fun b ob e => ?_⟩, ⟨kd, ⟨m, hm, fun x av h1 h2 => let ⟨v, p, q⟩ := hmv x av h1 h2; ⟨v, p, q.mono ex⟩⟩, ⟨by rw [fput_ne _ _ hl.symm]; exact l1, l2, l3⟩, fun x hx => ?_, ci, fun x av c h1 h2 h3 => let ⟨v, p, q⟩ := cv x av c h1 h2 h3; ⟨v, p, q.mono ex⟩, fun x av h1 h2 => let ⟨c, v, o, p, q, r, t⟩ := fv x av h1 h2; ⟨c, v, o, p, q, r, t.mono ex⟩⟩, hfs⟩, ex⟩
  · by_cases q : b = a
    · subst q; rw [fput_self] at e; (have zc := Option.some.inj e; clear e; subst zc); exact ho
    · rw [fput_ne _ _ q] at e; exact w2 b ob e
  · obtain ⟨p, q, ob, hob, r⟩ := w4 b x e
    have n : b ≠ a := by rintro rfl; rw [hp] at e; exact ns_ne e
    exact ⟨by rw [fput_ne _ _ n]; exact p, q, ob, hob, r.mono ex⟩
  · by_cases q : b = a
    · subst q; exact hG
    · rw [fput_ne _ _ q] at e; exact w8 b ob e
  · obtain ⟨c, g1, g2, r⟩ := co x hx
    exact ⟨c, g1, by rw [fput_ne _ _ (hc x c hx g1).symm]; exact g2, r⟩
theorem Rp.oput {m : FH} (hR : Rp C A F G env σ s) (hm : ∀ b o, m b = some o → s.heap.objs.size ≤ b) {h' : Heap} {t : Nat} (ho : ∀ b o, m b = some o → h'.get? b = some o) (k : ∀ b ob, s.heap.get? b = some ob → h'.get? b = some ob) :
    Disj m G ∧ Rp C A F (ovl G m) env σ ⟨h', s.gens, s.drawn, t, s.os⟩ := by
  have lt := fun b o (e : m b = some o) => hR.wd.lt (hm b o e)
  have dj : Disj m G := fun b o e => (lt b o e).2.1
  have low : ∀ {b o}, s.heap.get? b = some o → ∀ x, ¬ m b = some x := fun e x q => Nat.not_lt.mpr (hm _ _ q) (Heap.lt_size e)
  have on : ∀ {b}, (∀ x, ¬ m b = some x) → G b = none → ovl G m b = none := fun {b} h e => by
    cases q : m b with
    | none => rw [ovl_none q]; exact e
    | some x => exact absurd q (h x)
  have hK := hR.keep (t := t) k
  refine ⟨dj, ⟨⟨hK.wd.base, hK.wd.fz, fun b o e => ?_, fun a x e => ?_, hK.wd.os, hK.wd.bare, hK.wd.gi, fun b o e => ?_⟩, ⟨hK.fm.kind, hK.fm.ns, ⟨hK.fm.lo.1, on ?_ hK.fm.lo.2.1, hK.fm.lo.2.2⟩, fun x hx => ?_, hK.fm.ci, hK.fm.cv, fun x av a b => ?_⟩, hR.fs.mono (ovl_ext dj)⟩⟩
  · cases q : m b with
    | none => rw [ovl_none q] at e; exact hK.wd.gz b o e
    | some x => rw [ovl_some q] at e; (have zc := Option.some.inj e; clear e; subst zc); exact ⟨_, ho _ _ q, GEq.rfl' _⟩
  · obtain ⟨p, q, o, w⟩ := hK.wd.ob a x e
    obtain ⟨zu, zu, o', h', zu⟩ := hR.wd.ob a x e
    exact ⟨p, on (low h') q, o, w⟩
  · exact on (low (hR.wd.fz b o e)) (hK.wd.fg b o e)
  · obtain ⟨m, ⟨oL, es, ep, hL, zu⟩, zu⟩ := hR.fm.ns
    exact low hL
  · obtain ⟨c, g1, g2, g3, g4, g5, g6⟩ := hK.fm.co x hx
    obtain ⟨c', g1', zu, zu, zu, zu, v, o', ho', zu⟩ := hR.fm.co x hx
    rw [g1] at g1'; (have zc := Option.some.inj g1'; clear g1'; subst zc)
    exact ⟨c, g1, g2, on (low ho') g3, g4, g5, g6⟩
  · obtain ⟨c, v, o', a1, a2, a3, a4⟩ := hK.fm.fv x av a b
    exact ⟨c, v, o', a1, ovl_ext dj _ _ a2, a3, a4⟩
theorem Rp.oat {m : FH} (hR : Rp C A F (ovl G m) env σ s) (hq : Quiet m) {b : Addr} {o : Obj} (e : m b = some o) : s.heap.get? b = some o := hR.wd.gzx (ovl_some e) (hq _ _ e).2
theorem sg_in {a b : Addr} {o o' : Obj} (h : sg a o b = some o') : b = a ∧ o' = o := by
  unfold sg at h
  split at h
  · (have zc := Option.some.inj h; clear h; subst zc); exact ⟨by assumption, rfl⟩
  · exact ns_ne h
theorem sg_dom {a b : Addr} {o o' : Obj} (h : sg a o b = none) : sg a o' b = none := by
  unfold sg at h ⊢
  split at h
  · exact sn_ne h
  · rename_i q; rw [if_neg q]
theorem inert_fields {o : Obj} {vs : Array Value} (h : o.data = .fields vs) : Inert o := ⟨fun v e => (by rw [h] at e; cases e), fun es ep e => (by rw [h] at e; cases e)⟩
theorem Rp.put1 (hR : Rp C A F G env σ s) {o : Obj} {t : Nat} (hf : o.isFreed = false) : G s.heap.objs.size = none ∧ Rp C A F (ovl G (sg s.heap.objs.size o)) env σ ⟨s.heap.push o, s.gens, s.drawn, t, s.os⟩ := by
  obtain ⟨a, b⟩ := hR.oput (m := sg s.heap.objs.size o) (t := t) (h' := s.heap.push o) (fun b o' e => by rw [(sg_in e).1]; exact Nat.le_refl _) (fun b o' e => by obtain ⟨rfl, rfl⟩ := sg_in e; exact Heap.get?_push_size _ hf) fun b ob e => Heap.get?_push_of_some _ e
  exact ⟨a _ _ (sg_self _ _), b⟩
theorem Rp.turn1 {a : Addr} {o o' : Obj} (hR : Rp C A F (ovl G (sg a o)) env σ s) (hg : G a = none) (hq : Inert o) (hq' : Inert o') {h' : Heap} {t : Nat} (ho : h'.get? a = some o') (k : ∀ b ob, b ≠ a → s.heap.get? b = some ob → h'.get? b = some ob) :
    Rp C A F (ovl G (sg a o')) env σ ⟨h', s.gens, s.drawn, t, s.os⟩ :=
  hR.ochange (sg_quiet hq) (sg_quiet hq') (sg_disj hg) (fun b e => sg_dom e) (fun b ob e => by obtain ⟨rfl, rfl⟩ := sg_in e; exact ho) fun b ob e => k b ob fun q => by subst q; rw [sg_self] at e; exact sn_ne e
theorem Rp.drop1 {a : Addr} {o : Obj} (hR : Rp C A F (ovl G (sg a o)) env σ s) (hg : G a = none) (hq : Inert o) {h' : Heap} {t : Nat} (k : Heap.ExtBut a s.heap h') : Rp C A F G env σ ⟨h', s.gens, s.drawn, t, s.os⟩ :=
  hR.odrop (sg_quiet hq) (sg_disj hg) fun b ob e => k b ob fun q => by subst q; rw [sg_self] at e; exact sn_ne e
noncomputable def AsgA (C : Cf) (A : Around) (env : Env) (target : Expr) (x : AV) (σ : ASt) (Q : ASt → Prop) : Prop :=
  ∀ F G s v, Rp C A F G env σ s → VR F x v → wpAny (model C.prog C.w) A (assign target env v) (fun zu s' => ∃ F' σ', Ext F F' ∧ Rp C A F' G env σ' s' ∧ Q σ') NoE s
theorem Asg_Name {x : Str} {pos : Pos} {v : AV} {Q : ASt → Prop} (h : Q (σ.set x v)) (hk : autoParam (isOwn (env.kindOf x) = true) AC.aux0._auto_1) : AsgA C A env (.Name x pos) v σ Q := by
  intro F G s u hR hu
  exact wpAny_assign_Name (store_var hR hu (isOwn_or hk) fun s' hR' => ⟨F, _, Ext.refl F, hR', h⟩)
inductive MoreQ (C : Cf) (A : Around) (F G m : FH) (env : Env) (σ : ASt) (x : AV) (xs : List AV) (P : FH → List AV → FH → Prop) (v : Value) (s₂ : Shared) : Prop
  | mk (F' m' : FH) (e : Ext F F') (hv : VR F' x v) (hP : P F' xs m') (dom : ∀ b, m b = none → m' b = none) (hR : Rp C A F' (ovl G m') env σ s₂)
structure IterM (C : Cf) (A : Around) (target : Expr) (it : Addr) (K : HP → Prop) (P : FH → List AV → FH → Prop) : Prop where
  quiet : ∀ F xs m, P F xs m → Quiet m
  mono : ∀ F F' xs m, Ext F F' → P F xs m → P F' xs m
  more : ∀ env F G s σ x xs m, Rp C A F (ovl G m) env σ s → Disj m G → K σ.hp → P F (x :: xs) m →
    wpAny (model C.prog C.w) A (pyNext (.ref it)) (fun r s₁ => ∃ v, r = some v ∧ wpAny (model C.prog C.w) A (letOwnedTupleGo target (.ref it) v) (fun zu s₂ => MoreQ C A F G m env σ x xs P v s₂) NoE s₁) NoE s
  done : ∀ env F G s σ m, Rp C A F (ovl G m) env σ s → Disj m G → K σ.hp → P F [] m →
    wpAny (model C.prog C.w) A (pyNext (.ref it)) (fun r s₁ => r = none ∧ Rp C A F G env σ s₁) NoE s
theorem IterM.weak {target : Expr} {it : Addr} {K K' : HP → Prop} {P : FH → List AV → FH → Prop} (h : IterM C A target it K P) (k : ∀ σ, K' σ → K σ) : IterM C A target it K' P :=
  ⟨h.quiet, h.mono, fun env F G s σ x xs m a b c d => h.more env F G s σ x xs m a b (k _ c) d, fun env F G s σ m a b c d => h.done env F G s σ m a b (k _ c) d⟩
noncomputable def turnK (Q : AFlow → ASt → Prop) (I : ASt → Prop) (f : AFlow) (σ : ASt) : Prop :=
  match f with
  | .next => I σ
  | .cont => I σ
  | .brk => Q .next σ
  | .ret v => Q (.ret v) σ
inductive LoopI (C : Cf) (A : Around) (F₀ G : FH) (env : Env) (P : FH → List AV → FH → Prop) (I : List AV → ASt → Prop) (n : Nat) (s : Shared) : Prop
  | mk (F : FH) (σ : ASt) (m : FH) (xs : List AV) (e : Ext F₀ F) (dj : Disj m G) (hR : Rp C A F (ovl G m) env σ s) (hP : P F xs m) (hI : I xs σ) (hl : xs.length = n)
theorem Disj.dom {m m' : FH} (h : Disj m G) (k : ∀ b, m b = none → m' b = none) : Disj m' G := fun b o e => by
  cases q : m b with
  | none => rw [k b q] at e; exact ns_ne e
  | some o' => exact h b o' q
theorem for_core {target : Expr} {it : Addr} {body : List Stmt} {K : HP → Prop} {P : FH → List AV → FH → Prop} (T : IterM C A target it K P) {Q : AFlow → ASt → Prop} (I : List AV → ASt → Prop) (hK : ∀ xs σ, I xs σ → K σ.hp)
    (turn : ∀ x xs σ, I (x :: xs) σ → AsgA C A env target x σ (fun σ₁ => Exs C A NoE env body σ₁ (turnK Q (I xs)))) (fin : ∀ σ, I [] σ → Q .next σ)
    {xs : List AV} {F₀ : FH} (h0 : LoopI C A F₀ G env P I xs.length s) {R : Result → Shared → Prop}
    (hQ : ∀ f s', Post C A G env FlR Q F₀ f s' → R (.ok f) s') : codeAny (model C.prog C.w) A (.forLoop target (.ref it) body [] env) R s := by
  refine codeAny_loop' rfl (LoopI C A F₀ G env P I) (fun n s' hI => ?_) xs.length h0
  obtain ⟨F', σ', m, xs', e, dj, hR', hP', hI', hl⟩ := hI
  show wpAny _ _ ((forTurn target (.ref it) body [] env).onRaise (fun x => do noteFrame x env; theTreesLotGoes x)) _ _ s'
  refine wpAny_onRaise ?_
  simp only [forTurn]
  refine wpAny_bind (wpAny_standAt (wpAny_bind (wpAny_onRaise ?_)))
  cases xs' with
  | nil =>
    refine wpAny_mono (T.done env F' G s' σ' m hR' dj (hK _ _ hI') hP') (fun r s₁ z => ?_) fun zu zu x => x.elim
    obtain ⟨rfl, hR₁⟩ := z
    exact wpAny_pure (.inr ⟨rfl, codeAny_block (wpAny_execs_nil (hQ _ _ ⟨F', .next, σ', e, .next, hR₁, fin _ hI'⟩))⟩)
  | cons x xs' =>
    refine wpAny_mono (T.more env F' G s' σ' x xs' m hR' dj (hK _ _ hI') hP') (fun r s₁ z => ?_) fun zu zu x => x.elim
    obtain ⟨v, rfl, z⟩ := z
    refine wpAny_bind (wpAny_mono z (fun zu s₂ z => ?_) fun zu zu x => x.elim)
    obtain ⟨F₂, m₂, e₂, hv, hP₂, dom, hR₂⟩ := z
    refine wpAny_bind (wpAny_mono (turn x xs' σ' hI' F₂ _ s₂ v hR₂ hv) (fun zu s₃ z => ?_) fun zu zu x => x.elim)
    obtain ⟨F₃, σ₃, e₃, hR₃, h₃⟩ := z
    refine wpAny_bind (wpAny_mono (h₃ F₃ _ s₃ hR₃) (fun f s₄ z => ?_) fun zu zu x => x.elim)
    obtain ⟨F₄, fl, σ₄, e₄, r, hR₄, h₄⟩ := z
    have ee := e.trans (e₂.trans (e₃.trans e₄))
    have hl' : xs'.length < n := by rw [← hl]; exact Nat.lt_succ_self _
    have hP₄ := T.mono _ _ _ _ (e₃.trans e₄) hP₂
    have dj₂ := dj.dom dom
    cases r with
    | next => exact wpAny_pure (.inl ⟨rfl, _, hl', F₄, σ₄, m₂, xs', ee, dj₂, hR₄, hP₄, h₄, rfl⟩)
    | cont => exact wpAny_pure (.inl ⟨rfl, _, hl', F₄, σ₄, m₂, xs', ee, dj₂, hR₄, hP₄, h₄, rfl⟩)
    | brk => exact wpAny_pure (hQ _ _ ⟨F₄, .next, σ₄, ee, .next, hR₄.odrop0 (T.quiet _ _ _ hP₂) dj₂, h₄⟩)
    | ret hv => exact wpAny_pure (hQ _ _ ⟨F₄, _, σ₄, ee, .ret hv, hR₄.odrop0 (T.quiet _ _ _ hP₂) dj₂, h₄⟩)
inductive HeldM (C : Cf) (A : Around) (F G : FH) (env : Env) (σ : ASt) (target : Expr) (xs : List AV) (K : HP → Prop) (iv : Value) (s : Shared) : Prop
  | mk (it : Addr) (m : FH) (P : FH → List AV → FH → Prop) (e : iv = .ref it) (dj : Disj m G) (hR : Rp C A F (ovl G m) env σ s) (hP : P F xs m) (T : IterM C A target it K P)
noncomputable def IterA (C : Cf) (A : Around) (E : Value → Shared → Prop) (env : Env) (target : Expr) (x : AV) (xs : List AV) (K : HP → Prop) (σ : ASt) : Prop :=
  ∀ F G s v, Rp C A F G env σ s → VR F x v → wpAny (model C.prog C.w) A (pyIter v) (HeldM C A F G env σ target xs K) E s
theorem IterA.weak {target : Expr} {x : AV} {xs : List AV} {K K' : HP → Prop} (h : IterA C A E env target x xs K σ) (k : ∀ σ, K' σ → K σ) : IterA C A E env target x xs K' σ := fun F G s v hR hv =>
  wpAny_mono (h F G s v hR hv) (fun _ _ ⟨it, m, P, h1, h2, h3, h4, h5⟩ => ⟨it, m, P, h1, h2, h3, h4, h5.weak k⟩) fun zu zu x => x
theorem Ex_For {target iter : Expr} {body : List Stmt} {pos : Pos} {Q : AFlow → ASt → Prop} (K : AV → ASt → HP → Prop) (I : AV → ASt → List AV → ASt → Prop)
    (h : Ev C A E env iter σ (fun a σ₁ => ∃ xs, IterA C A E env target a xs (K a σ₁) σ₁ ∧ I a σ₁ xs σ₁))
    (hK : ∀ a σ₁ xs σ, I a σ₁ xs σ → K a σ₁ σ.hp)
    (turn : ∀ a σ₁ x xs σ, I a σ₁ (x :: xs) σ → AsgA C A env target x σ (fun σ₂ => Exs C A NoE env body σ₂ (turnK Q (I a σ₁ xs)))) (fin : ∀ a σ₁ σ, I a σ₁ [] σ → Q .next σ)
    (hs : autoParam (∀ x, foldedSetIterable iter env x = pure x) AC.aux4._auto_1) : Ex C A E env (.For target iter body [] pos) σ Q := by
  intro F G s hR
  refine wpAny_For (h.use hR fun F₁ a σ₁ va s₁ e₁ ha hR₁ h₁ => ?_) hs
  obtain ⟨xs, hit, hI⟩ := h₁
  refine wpAny_mono (hit F₁ G s₁ va hR₁ ha) (fun iv s₂ z => ?_) fun zu zu x => x
  obtain ⟨it, m, P, rfl, dj, hR₂, hP, T⟩ := z
  exact for_core T (I a σ₁) (hK a σ₁) (turn a σ₁) (fin a σ₁) ⟨F₁, σ₁, m, xs, e₁, dj, hR₂, hP, hI, rfl⟩ fun f s' z => z
noncomputable def quietTarget (target : Expr) : Prop := ∀ it v, letOwnedTupleGo target it v = pure ()
theorem quiet_Name {x : Str} {pos : Pos} : quietTarget (.Name x pos) := fun zu zu => rfl
inductive DrawV (F : FH) (x : AV) (v : Value) (n : Nat) (h : Heap) : Prop
  | old (hv : VR F x v)
  | tup (T : Addr) (o : Obj) (vs : List Value) (k : Nat) (xs : List AV) (e : v = .ref T) (hT : n ≤ T) (ho : h.get? T = some o) (hc : o.cls = .type "tuple") (hd : o.data = .seq vs.toArray k) (hv : VRs F xs vs) (ex : x = .tup xs)
inductive WkQ (wr : List Addr) (F : FH) (x : AV) (St : Heap → Prop) (v : Value) (s s₂ : Shared) : Prop
  | mk (h' : Heap) (tk : Nat) (es : s₂ = ⟨h', s.gens, s.drawn, tk, s.os⟩) (st : St h') (k : ∀ b o, b ∉ wr → s.heap.get? b = some o → h'.get? b = some o) (hv : DrawV F x v s.heap.objs.size h')
structure Wk (C : Cf) (A : Around) (target : Expr) (I : Addr) (fp wr : List Addr) (St : Nat → Heap → Prop) (xs : List AV) (FK F : FH) : Prop where
  frame : ∀ i h h', St i h → (∀ b ∈ fp, ∀ o, h.get? b = some o → h'.get? b = some o) → St i h'
  frz : ∀ b ∈ fp, b ∈ wr ∨ ∃ o, FK b = some o
  inert : ∀ i h, St i h → ∀ b ∈ wr, ∃ o, h.get? b = some o ∧ Inert o
  more : ∀ i x (s : Shared), xs[i]? = some x → St i s.heap → wpAny (model C.prog C.w) A (pyNext (.ref I)) (fun r s₁ => ∃ v, r = some v ∧ wpAny (model C.prog C.w) A (letOwnedTupleGo target (.ref I) v) (fun zu s₂ => WkQ wr F x (St (i + 1)) v s s₂) NoE s₁) NoE s
  done : ∀ (s : Shared), St xs.length s.heap → wpAny (model C.prog C.w) A (pyNext (.ref I)) (fun r s₁ => r = none ∧ ∃ h' tk, s₁ = ⟨h', s.gens, s.drawn, tk, s.os⟩ ∧ ∀ b o, b ∉ wr → s.heap.get? b = some o → h'.get? b = some o) NoE s
  self : ∀ i (s : Shared) (Q : Value → Shared → Prop) (E : Value → Shared → Prop), St i s.heap → Q (.ref I) s → wpAny (model C.prog C.w) A (pyIter (.ref I)) Q E s
noncomputable def restrict (h : Heap) (wr : List Addr) : FH := fun b => if b ∈ wr then h.get? b else none
theorem restrict_in {h : Heap} {wr : List Addr} {b : Addr} {o : Obj} (e : restrict h wr b = some o) : b ∈ wr ∧ h.get? b = some o := by
  unfold restrict at e
  split at e
  · exact ⟨by assumption, e⟩
  · exact ns_ne e
theorem restrict_of {h : Heap} {wr : List Addr} {b : Addr} (hb : b ∈ wr) : restrict h wr b = h.get? b := if_pos hb
theorem restrict_off {h : Heap} {wr : List Addr} {b : Addr} (hb : b ∉ wr) : restrict h wr b = none := if_neg hb
inductive WkP (St : Nat → Heap → Prop) (wr : List Addr) (F₀ : FH) (xs : List AV) (F : FH) (ys : List AV) (m : FH) : Prop
  | mk (i : Nat) (h : Heap) (e : Ext F₀ F) (hF : ∀ b o, F₀ b = some o → h.get? b = some o) (st : St i h) (em : m = restrict h wr) (ey : ys = xs.drop i) (hi : i ≤ xs.length)
theorem Wk.quiet {target : Expr} {I : Addr} {fp wr : List Addr} {St : Nat → Heap → Prop} {xs : List AV} {F₀ : FH} (W : Wk C A target I fp wr St xs F₀ F₀) {i : Nat} {h : Heap} (st : St i h) : Quiet (restrict h wr) := fun b o e => by
  obtain ⟨hb, ho⟩ := restrict_in e
  obtain ⟨o', h1, h2⟩ := W.inert i h st b hb
  rw [ho] at h1; (have zc := Option.some.inj h1; clear h1; subst zc); exact h2
theorem Wk.at {target : Expr} {I : Addr} {fp wr : List Addr} {St : Nat → Heap → Prop} {xs : List AV} {F₀ : FH} (W : Wk C A target I fp wr St xs F₀ F₀) {i : Nat} {h : Heap} (st : St i h) (e : Ext F₀ F) (hF : ∀ b o, F₀ b = some o → h.get? b = some o) (hR : Rp C A F (ovl G (restrict h wr)) env σ s) : St i s.heap := by
  refine W.frame i h _ st fun b hb o ho => ?_
  rcases W.frz b hb with h1 | ⟨o', h1⟩
  · exact hR.oat (W.quiet st) ((restrict_of h1).trans ho)
  · have := hF b o' h1
    rw [ho] at this; (have zc := Option.some.inj this; clear this; subst zc)
    exact hR.wd.fz _ _ (e _ _ h1)
theorem drop_head {xs ys : List AV} {y : AV} {i : Nat} (h : y :: ys = xs.drop i) : xs[i]? = some y ∧ ys = xs.drop (i + 1) := by
  constructor
  · have := congrArg (fun l => l[0]?) h
    simp only [List.getElem?_cons_zero, List.getElem?_drop, Nat.add_zero] at this
    exact this.symm
  · have := congrArg List.tail h
    simp only [List.tail_cons, List.tail_drop] at this
    exact this
theorem drop_end {xs : List AV} {i : Nat} (h : [] = xs.drop i) : xs[i]? = none := by
  rw [List.getElem?_eq_none_iff]
  exact List.drop_eq_nil_iff.mp h.symm
theorem Rp.fresh (hR : Rp C A F G env σ s) {T : Addr} (hT : s.heap.objs.size ≤ T) : T ≠ env.locals ∧ ∀ x c, env.kindOf x = some .cell → env.cells.lookup x = some c → T ≠ c := by
  refine ⟨fun e => ?_, fun x c hx hc e => ?_⟩
  · obtain ⟨m, ⟨oL, es, ep, hL, zu⟩, zu⟩ := hR.fm.ns
    exact Nat.not_lt.mpr hT (e ▸ Heap.lt_size hL)
  · obtain ⟨c', g1, zu, zu, zu, zu, v', o', ho', zu⟩ := hR.fm.co x hx
    rw [hc] at g1; (have zc := Option.some.inj g1; clear g1; subst zc)
    exact Nat.not_lt.mpr hT (e ▸ Heap.lt_size ho')
theorem Wk.dom {target : Expr} {I : Addr} {fp wr : List Addr} {St : Nat → Heap → Prop} {xs : List AV} {F₀ : FH} (W : Wk C A target I fp wr St xs F₀ F₀) {i : Nat} {h : Heap} (st : St i h) {b : Addr} (e : restrict h wr b = none) : b ∉ wr := fun hb => by
  obtain ⟨o, h1, zu⟩ := W.inert i h st b hb
  rw [restrict_of hb, h1] at e; exact sn_ne e
theorem IterM.ofWk {target : Expr} {I : Addr} {fp wr : List Addr} {St : Nat → Heap → Prop} {xs : List AV} {F₀ : FH} (W : Wk C A target I fp wr St xs F₀ F₀) : IterM C A target I (fun zu => True) (WkP St wr F₀ xs) where
  quiet := by
    (rintro F ys m; intro zr; obtain ⟨i, h, e, hF, st, rfl, ey, hi⟩ := zr)
    exact W.quiet st
  mono := by
    (rintro F F' ys m ex; intro zr; obtain ⟨i, h, e, hF, st, rfl, ey, hi⟩ := zr)
    exact ⟨i, h, e.trans ex, hF, st, rfl, ey, hi⟩
  more := by
    (rintro env F G s σ x ys m hR dj -; intro zr; obtain ⟨i, h, e, hF, st, rfl, ey, hi⟩ := zr)
    obtain ⟨hx, ey2⟩ := drop_head ey
    clear ey
    refine wpAny_mono (W.more i x s hx (W.at st e hF hR)) (fun r s₁ z => ?_) fun zu zu x => x
    obtain ⟨v, rfl, z⟩ := z
    refine ⟨v, rfl, wpAny_mono z (fun zu s₂ z => ?_) fun zu zu x => x⟩
    obtain ⟨h', tk, rfl, st', k, hv⟩ := z
    have dom : ∀ b, restrict h wr b = none → restrict h' wr b = none := fun b q => restrict_off (W.dom st q)
    have hR' := hR.ochange (t := tk) (W.quiet st) (W.quiet st') dj dom (fun b o q => (restrict_in q).2) fun b ob q => k b ob (W.dom st q)
    have hi' : i + 1 ≤ xs.length := by obtain ⟨q, zu⟩ := List.getElem?_eq_some_iff.mp hx; exact q
    have hF2 : ∀ b o, F₀ b = some o → h'.get? b = some o := fun b o q => hR'.wd.fz b o (e b o q)
    cases hv with
    | old hv => exact ⟨F, _, Ext.refl F, hv.mono e, ⟨i + 1, h', e, hF2, st', rfl, ey2, hi'⟩, dom, hR'⟩
    | tup T o vs kk cs ev hT ho hc hd hv ex =>
      obtain ⟨z1, z2, z3⟩ := hR.wd.lt hT
      obtain ⟨z4, z5⟩ := hR.fresh hT
      obtain ⟨g1, g2⟩ := ovl_no dj z2
      obtain ⟨hR2, e2⟩ := hR'.freezeAt ho z1 (by rw [ovl_none (dom _ g2)]; exact g1) z3 z4 z5
      subst ev ex
      exact ⟨_, _, e2, .tup (fput_self _ _ _) hc hd ((hv.mono e).mono e2), ⟨i + 1, h', e.trans e2, hF2, st', rfl, ey2, hi'⟩, dom, hR2⟩
  done := by
    (rintro env F G s σ m hR dj -; intro zr; obtain ⟨i, h, e, hF, st, rfl, ey, hi⟩ := zr)
    have hx := drop_end ey
    have hi' : i = xs.length := Nat.le_antisymm hi (List.getElem?_eq_none_iff.mp hx)
    subst hi'
    refine wpAny_mono (W.done s (W.at st e hF hR)) (fun r s₁ z => ?_) fun zu zu x => x
    obtain ⟨rfl, h', tk, rfl, k⟩ := z
    exact ⟨rfl, hR.odrop (W.quiet st) dj fun b ob q => k b ob (W.dom st q)⟩
theorem HeldM.ofWk {target : Expr} {I : Addr} {fp wr : List Addr} {St : Nat → Heap → Prop} {xs : List AV} (W : Wk C A target I fp wr St xs F F) (hR : Rp C A F G env σ s) {h' : Heap} {t : Nat} (st : St 0 h') (hw : ∀ b ∈ wr, s.heap.objs.size ≤ b) (k : ∀ b ob, s.heap.get? b = some ob → h'.get? b = some ob) :
    HeldM C A F G env σ target xs (fun zu => True) (.ref I) ⟨h', s.gens, s.drawn, t, s.os⟩ := by
  obtain ⟨dj, hR'⟩ := hR.oput (m := restrict h' wr) (t := t) (fun b o e => hw b (restrict_in e).1) (fun b o e => (restrict_in e).2) k
  exact ⟨I, _, _, rfl, dj, hR', ⟨0, h', Ext.refl F, fun b o e => k _ _ (hR.wd.fz b o e), st, rfl, rfl, Nat.zero_le _⟩, IterM.ofWk W⟩
noncomputable def owners7 : List String := ["enumerate", "zip", "dict_itemiterator", "dict_reverseitemiterator", "odict_iterator", "itertools.zip_longest", "itertools.pairwise"]
theorem lg_plain {M : Model} {target : Expr} {it : Addr} {v : Value} {o : Obj} {n : String} {Q : Unit → Shared → Prop} (ho : s.heap.get? it = some o) (hc : o.cls = .type n) (hn : owners7.contains n = false) (h : Q () s) :
    wpAny M A (letOwnedTupleGo target (.ref it) v) Q E s := by
  have key : ∀ t, (∃ a b c, t = Expr.Tuple a b c) ∨ (∃ a b, t = Expr.List a b) → wpAny M A (letOwnedTupleGo t (.ref it) v) Q E s := by
    intro t ht
    cases v with
    | ref a =>
      have e : letOwnedTupleGo t (.ref it) (.ref a) = (do
          let o ← load it
          match o.cls, o.data with
          | .type n, .fields vs =>
            if owners7.contains n && vs[0]? == some (rawInt a) then
              rule "for.unpacks-the-owned-tuple"
              updateField it 0 .none
          | _, _ => pure ()) := by
        rcases ht with ⟨zu, zu, zu, rfl⟩ | ⟨zu, zu, rfl⟩ <;> rfl
      rw [e]
      refine wpAny_bind (wpAny_load ho ?_)
      rw [hc]
      cases q : o.data with
      | fields vs =>
        show wpAny _ _ (if (_ : Bool) = true then _ else _) _ _ _
        rw [if_neg (by rw [hn]; simp)]
        exact wpAny_pure h
      | _ => exact wpAny_pure h
    | _ => rcases ht with ⟨zu, zu, zu, rfl⟩ | ⟨zu, zu, rfl⟩ <;> exact wpAny_pure h
  cases target with
  | Tuple a b c => exact key _ (.inl ⟨_, _, _, rfl⟩)
  | List a b => exact key _ (.inr ⟨_, _, rfl⟩)
  | _ => exact wpAny_pure h
theorem Wk.ofWalks {FK : FH} {target : Expr} {I : Addr} {fp wr : List Addr} {n : Nat} {P : Nat → Value → Prop} {St : Nat → Heap → Prop} {xs : List AV} (W : Walks C.prog C.w A I fp wr n P St) (hn : xs.length = n) (hv : ∀ i x v, xs[i]? = some x → P i v → VR F x v)
    (frz : ∀ b ∈ fp, b ∈ wr ∨ ∃ o, FK b = some o) (inert : ∀ i h, St i h → ∀ b ∈ wr, ∃ o, h.get? b = some o ∧ Inert o) (c : String) (hc : owners7.contains c = false) (cls : ∀ i h, St i h → ∃ o, h.get? I = some o ∧ o.cls = .type c) : Wk C A target I fp wr St xs FK F where
  frame := W.frame
  frz := frz
  inert := inert
  more := fun i x s hx st => W.item i s _ _ (by subst hn; exact (List.getElem?_eq_some_iff.mp hx).1) st fun v h' tk hP st' k => ⟨v, rfl, by
    obtain ⟨o, ho, h1⟩ := cls _ _ st'
    exact lg_plain (s := ⟨h', s.gens, s.drawn, tk, s.os⟩) ho h1 hc ⟨h', tk, rfl, st', k, .old (hv i x v hx hP)⟩⟩
  done := fun s st => W.done s _ _ (by subst hn; exact st) fun h' tk k => ⟨rfl, h', tk, rfl, k⟩
  self := W.self
theorem VRs.arr {xs : List AV} {vs : List Value} (h : VRs F xs vs) : ∀ (i : Nat) x v, xs[i]? = some x → vs.toArray[i]? = some v → VR F x v := fun i x v hx hv => by
  obtain ⟨u, hu, hr⟩ := h.get hx
  rw [List.getElem?_toArray, hu] at hv; (have zc := Option.some.inj hv; clear hv; subst zc); exact hr
inductive OneP (it : Addr) (ST : Nat → Obj → Prop) (L : List AV) (F : FH) (xs : List AV) (m : FH) : Prop
  | mk (i : Nat) (o : Obj) (st : ST i o) (ex : xs = L.drop i) (em : m = sg it o)
inductive OneQ (it : Addr) (F : FH) (x : AV) (ST : Obj → Prop) (s : Shared) (r : Option Value) (s₁ : Shared) : Prop
  | mk (v : Value) (h' : Heap) (t : Nat) (o' : Obj) (er : r = some v) (hv : VR F x v) (es : s₁ = ⟨h', s.gens, s.drawn, t, s.os⟩) (ho : h'.get? it = some o') (st : ST o') (k : ∀ b ob, b ≠ it → s.heap.get? b = some ob → h'.get? b = some ob)
theorem IterM.one {target : Expr} {it : Addr} {K : HP → Prop} (ht : quietTarget target) (ST : Nat → Obj → Prop) (L : List AV) (inert : ∀ i o, ST i o → Inert o)
    (more : ∀ env F G s σ i x o, Rp C A F G env σ s → K σ.hp → L[i]? = some x → ST i o → s.heap.get? it = some o → wpAny (model C.prog C.w) A (pyNext (.ref it)) (OneQ it F x (ST (i + 1)) s) NoE s)
    (done : ∀ env F G s σ i o, Rp C A F G env σ s → K σ.hp → L[i]? = none → ST i o → s.heap.get? it = some o → wpAny (model C.prog C.w) A (pyNext (.ref it)) (fun r s₁ => r = none ∧ ∃ h', s₁ = { s with heap := h' } ∧ Heap.ExtBut it s.heap h') NoE s) : IterM C A target it K (OneP it ST L) where
  quiet := by
    (rintro F xs m; intro zr; obtain ⟨i, o, st, ex, rfl⟩ := zr)
    exact sg_quiet (inert _ _ st)
  mono := by
    (rintro F F' xs m e; intro zr; obtain ⟨i, o, st, ex, em⟩ := zr)
    exact ⟨i, o, st, ex, em⟩
  more := by
    (rintro env F G s σ x xs m hR dj hK; intro zr; obtain ⟨i, o, st, ex, rfl⟩ := zr)
    obtain ⟨hx, ex2⟩ := drop_head ex
    have hg := dj _ _ (sg_self it o)
    refine wpAny_mono (more env F _ s σ i x o hR hK hx st (hR.oat (sg_quiet (inert _ _ st)) (sg_self _ _))) (fun r s₁ z => ?_) fun zu zu x => x
    obtain ⟨v, h', t, o', rfl, hv, rfl, ho, st', k⟩ := z
    refine ⟨v, rfl, ?_⟩
    rw [ht]
    exact wpAny_pure ⟨F, _, Ext.refl F, hv, ⟨i + 1, o', st', ex2, rfl⟩, fun b q => sg_dom q, hR.turn1 hg (inert _ _ st) (inert _ _ st') ho k⟩
  done := by
    (rintro env F G s σ m hR dj hK; intro zr; obtain ⟨i, o, st, ex, rfl⟩ := zr)
    refine wpAny_mono (done env F _ s σ i o hR hK (drop_end ex) st (hR.oat (sg_quiet (inert _ _ st)) (sg_self _ _))) (fun r s₁ z => ?_) fun zu zu x => x
    obtain ⟨rfl, h', rfl, k⟩ := z
    exact ⟨rfl, hR.drop1 (dj _ _ (sg_self it o)) (inert _ _ st) k⟩
theorem HeldM.one {target : Expr} {K : HP → Prop} {ST : Nat → Obj → Prop} {L : List AV} (T : IterM C A target s.heap.objs.size K (OneP s.heap.objs.size ST L)) (hR : Rp C A F G env σ s) {o : Obj} {t : Nat} (hf : o.isFreed = false) (st : ST 0 o) : HeldM C A F G env σ target L K (.ref s.heap.objs.size) ⟨s.heap.push o, s.gens, s.drawn, t, s.os⟩ := by
  obtain ⟨hg, hR'⟩ := hR.put1 (t := t) hf
  exact ⟨_, _, _, rfl, sg_disj hg, hR', ⟨0, o, st, rfl, rfl⟩, T⟩
theorem Rp.dictAt (hR : Rp C A F G env σ s) {a : Addr} {l : List (Sym × AV)} {ep : Nat} (ha : σ.hp a = some (.dict l ep)) : ∃ kvs, s.heap.DictAt (symKind C.prog C.w) a kvs ep ∧ SV F l kvs := by
  obtain ⟨zu, zu, o, ho, r⟩ := hR.wd.ob a _ ha
  (refine OR.dictC r fun zv zv a1 a2 a3 a4 a5 a6 => ?_; clear r)
  exact ⟨_, ⟨_, _, ho, a1, a2, a3, a4, a5⟩, a6⟩
theorem Rp.fields (hR : Rp C A F G env σ s) {a : Addr} {c : String} {vs : List AV} (ha : σ.hp a = some (.fields c vs)) : ∃ o us, s.heap.get? a = some o ∧ o.cls = .type c ∧ o.data = .fields us.toArray ∧ VRs F vs us := by
  obtain ⟨zu, zu, o, ho, r⟩ := hR.wd.ob a _ ha
  (refine OR.fieldsC r fun zv a1 a2 as a3 a4 => ?_; clear r)
  exact ⟨o, _, ho, a1, a3, a4⟩
theorem SV.get {l : List (Sym × AV)} {kvs : List (Sym × Value)} (h : SV F l kvs) : ∀ {i : Nat}, (∀ {k x}, l[i]? = some (k, x) → ∃ v, kvs[i]? = some (k, v) ∧ VR F x v) ∧ (l[i]? = none → kvs[i]? = none) := by
  induction h with
  | nil => intro i; exact ⟨fun e => by simp at e, fun zu => by simp⟩
  | cons a zu ih =>
    intro i
    cases i with
    | zero => exact ⟨fun e => by simp at e; obtain ⟨rfl, rfl⟩ := e; exact ⟨_, rfl, a⟩, fun e => by simp at e⟩
    | succ i => exact ⟨fun e => by simpa using ih.1 (by simpa using e), fun e => by simpa using ih.2 (by simpa using e)⟩
theorem dict_values {d : Addr} {l : List (Sym × AV)} {ep : Nat} {Q : AV → ASt → Prop} (hs : (C.h0.get? sysModules).isSome = true) (hd : σ.hp d = some (.dict l ep)) (h : ∀ v, σ.hp v = none → Q (.ref v) (σ.put v (.fields "dict_values" [.ref d]))) :
    CallA C A E env (.val (.builtin "dict.values")) [.ref d] [] [] σ Q := by
  refine CallA_builtin fun F G s us vs hR hus hvs => ?_
  obtain rfl : us = [Value.ref d] := by refine VRs.consC hus fun zv zw zo q r => ?_; clear hus; subst zo; (have zc := VR.refI q; clear q; subst zc); (have zc := VRs.nilI r; clear r; subst zc); rfl
  obtain rfl : vs = [] := by (have zc := VRs.nilI hvs; clear hvs; subst zc); rfl
  obtain ⟨kvs, hm, zu⟩ := hR.dictOf hd
  exact call_meetsIn PySem.F.slot_dict_values hm.typeIs PySem.F.entry_dict_values (PySem.F.args_dict_values_1 _) (meets_dict_values (symKind C.prog C.w) d (hR.low hd hs)) ⟨⟨kvs, hm⟩,
    Post.of (.ref _) (hR.alloc (t := s.toks) rfl rfl (.fields (us := [.ref d]) rfl rfl rfl rfl (.cons (.ref d) .nil))) (h _ hR.lt)⟩
theorem dict_items {d : Addr} {l : List (Sym × AV)} {ep : Nat} {Q : AV → ASt → Prop} (hs : (C.h0.get? sysModules).isSome = true) (hd : σ.hp d = some (.dict l ep)) (h : ∀ v, σ.hp v = none → Q (.ref v) (σ.put v (.fields "dict_items" [.ref d]))) :
    CallA C A E env (.val (.builtin "dict.items")) [.ref d] [] [] σ Q := by
  refine CallA_builtin fun F G s us vs hR hus hvs => ?_
  obtain rfl : us = [Value.ref d] := by refine VRs.consC hus fun zv zw zo q r => ?_; clear hus; subst zo; (have zc := VR.refI q; clear q; subst zc); (have zc := VRs.nilI r; clear r; subst zc); rfl
  obtain rfl : vs = [] := by (have zc := VRs.nilI hvs; clear hvs; subst zc); rfl
  obtain ⟨kvs, hm, zu⟩ := hR.dictOf hd
  exact call_meetsIn PySem.F.slot_dict_items hm.typeIs PySem.F.entry_dict_items (PySem.F.args_dict_items_1 _) (meets_dict_items (symKind C.prog C.w) d (hR.low hd hs)) ⟨⟨kvs, hm⟩,
    Post.of (.ref _) (hR.alloc (t := s.toks) rfl rfl (.fields (us := [.ref d]) rfl rfl rfl rfl (.cons (.ref d) .nil))) (h _ hR.lt)⟩
theorem iter_values {target : Expr} {v d : Addr} {l : List (Sym × AV)} {ep : Nat} (ht : quietTarget target) (hA : A.handled = none) (hv : σ.hp v = some (.fields "dict_values" [.ref d])) (hd : σ.hp d = some (.dict l ep)) :
    IterA C A E env target (.ref v) (l.map (·.2)) (fun hp => hp d = some (.dict l ep)) σ := by
  intro F G s v' hR hv'
  obtain rfl := hv'.refI
  obtain ⟨ov, us, hov, hc, hda, hus⟩ := hR.fields hv
  obtain rfl : us = [Value.ref d] := by refine VRs.consC hus fun zv zw zo q r => ?_; clear hus; subst zo; (have zc := VR.refI q; clear q; subst zc); (have zc := VRs.nilI r; clear r; subst zc); rfl
  obtain ⟨kvs, hm, sv⟩ := hR.dictAt hd
  refine wpAny_pyIter_values ⟨ov, hov, hc, hda⟩ hm (HeldM.one (ST := fun i o => o.cls = .type "dict_valueiterator" ∧ o.data = .fields #[.ref d, .int (i : Nat) 0, .int l.length 0, .int ep 0])
    (IterM.one ht _ _ (fun i o h => inert_fields h.2) (fun env F G s σ i x o hR hK hx st ho => ?_) (fun env F G s σ i o hR hK hx st ho => ?_)) hR rfl ⟨rfl, by rw [sv.length]; rfl⟩)
  · obtain ⟨kvs, hm, sv⟩ := hR.dictAt hK
    rw [List.getElem?_map] at hx
    obtain ⟨⟨k, x⟩, hk, rfl⟩ := Option.map_eq_some_iff.mp hx
    obtain ⟨u, hu, hxu⟩ := sv.get.1 hk
    rw [← sv.length] at st
    refine wpAny_pyNext_values_item ⟨o, ho, st⟩ hm hu fun h' hit hsb => ?_
    obtain ⟨o', ho', st'⟩ := hit
    exact ⟨u, h', s.toks, o', rfl, hxu, rfl, ho', by rw [← sv.length]; exact st', SameBut.rest hsb⟩
  · obtain ⟨kvs, hm, sv⟩ := hR.dictAt hK
    rw [List.getElem?_map, Option.map_eq_none_iff] at hx
    rw [← sv.length] at st
    exact wpAny_pyNext_values_end hA ⟨o, ho, st⟩ hm (sv.get.2 hx) fun h' hx => ⟨rfl, h', rfl, hx⟩
inductive ItemP (it d : Addr) (l : List (Sym × AV)) (ep : Nat) (F : FH) (xs : List AV) (m : FH) : Prop
  | mk (i : Nat) (ok ov : Value) (ex : xs = (l.map fun p => AV.tup [p.1.av, p.2]).drop i) (em : m = sg it { cls := .type "dict_itemiterator", dict := none, data := .fields #[.none, .bool false, .ref d, .int i 0, .int l.length 0, .int ep 0, ok, ov], slots := #[] })
theorem iter_items {elts : List Expr} {tn : Nat} {tpos : Pos} {v d : Addr} {l : List (Sym × AV)} {ep : Nat} (hA : A.handled = none) (hv : σ.hp v = some (.fields "dict_items" [.ref d])) (hd : σ.hp d = some (.dict l ep)) :
    IterA C A E env (.Tuple elts tn tpos) (.ref v) (l.map fun p => .tup [p.1.av, p.2]) (fun hp => hp d = some (.dict l ep)) σ := by
  intro F G s v' hR hv'
  obtain rfl := hv'.refI
  obtain ⟨ov, us, hov, hc, hda, hus⟩ := hR.fields hv
  obtain rfl : us = [Value.ref d] := by refine VRs.consC hus fun zv zw zo q r => ?_; clear hus; subst zo; (have zc := VR.refI q; clear q; subst zc); (have zc := VRs.nilI r; clear r; subst zc); rfl
  obtain ⟨kvs, hm, sv⟩ := hR.dictAt hd
  refine wpAny_pyIter_items ⟨ov, hov, hc, hda⟩ hm ?_
  obtain ⟨hg, hR'⟩ := hR.put1 (t := s.toks) (o := { cls := .type "dict_itemiterator", data := .fields #[.none, .bool false, .ref d, .int 0 0, .int kvs.length 0, .int ep 0, .none, .none] }) rfl
  refine ⟨_, _, ItemP s.heap.objs.size d l ep, rfl, sg_disj hg, hR', ⟨0, .none, .none, rfl, by rw [sv.length]; rfl⟩, ?_⟩
  clear hR' hg sv hm hov hda hus hc hv hd hR
  generalize s.heap.objs.size = IT
  refine ⟨?_, ?_, ?_, ?_⟩
  · (rintro F xs m; intro zr; obtain ⟨i, ok, ov, ex, rfl⟩ := zr); exact sg_quiet (inert_fields rfl)
  · (rintro F F' xs m e; intro zr; obtain ⟨i, ok, ov, ex, em⟩ := zr); exact ⟨i, ok, ov, ex, em⟩
  · (rintro env F G s σ y ys m hR dj hK; intro zr; obtain ⟨i, ok, ov, ex, rfl⟩ := zr)
    obtain ⟨hx, ex2⟩ := drop_head ex
    have hg := dj _ _ (sg_self IT _)
    obtain ⟨kvs, hm, sv⟩ := hR.dictAt hK
    rw [List.getElem?_map] at hx
    obtain ⟨⟨k, x⟩, hk, rfl⟩ := Option.map_eq_some_iff.mp hx
    obtain ⟨u, hu, hxu⟩ := sv.get.1 hk
    have hat := hR.oat (sg_quiet (inert_fields rfl)) (sg_self IT _)
    have hit : IsItemIter s.heap IT d i kvs.length ep ok ov := by rw [sv.length]; exact hat
    refine wpAny_pyNext_items_item hit hm hu fun key h' hkey hout hnew hsz hkp => ⟨_, rfl, ?_⟩
    refine wpAny_letOwnedTupleGo_items (s := { s with heap := h' }) hout fun h'' hit' hsb => ?_
    -- the pair is frozen
    have nit : s.heap.objs.size ≠ IT := (Nat.ne_of_lt (Heap.lt_size hat)).symm
    have hp2 : h''.get? s.heap.objs.size = some { cls := .type "tuple", data := .seq #[key, u] } := (hsb.2 _ nit).trans hnew
    have hR2 := hR.turn1 (t := s.toks) hg (inert_fields rfl) (inert_fields rfl) hit' fun b ob n e => (hsb.2 b n).trans (hkp b ob n e)
    obtain ⟨z1, z2, z3⟩ := hR.wd.lt (Nat.le_refl s.heap.objs.size)
    obtain ⟨z4, z5⟩ := hR.fresh (Nat.le_refl s.heap.objs.size)
    obtain ⟨hR3, e3⟩ := hR2.freezeAt hp2 z1 (by rw [ovl_none (sg_ne _ nit)] at z2 ⊢; exact z2) z3 z4 z5
    have hkv : VR F k.av key := by
      rcases Sym.is_shape hkey with ⟨j, t, rfl, rfl⟩ | ⟨w, t, rfl, rfl⟩
      · exact .int _ _
      · exact .str _ _
    exact ⟨_, _, e3, .tup (vs := [key, u]) (fput_self _ _ _) rfl rfl (.cons (hkv.mono e3) (.cons (hxu.mono e3) .nil)), ⟨i + 1, key, u, ex2, by rw [sv.length]⟩, fun b q => sg_dom q, hR3⟩
  · (rintro env F G s σ m hR dj hK; intro zr; obtain ⟨i, ok, ov, ex, rfl⟩ := zr)
    obtain ⟨kvs, hm, sv⟩ := hR.dictAt hK
    have hx := drop_end ex
    rw [List.getElem?_map, Option.map_eq_none_iff] at hx
    have hit : IsItemIter s.heap IT d i kvs.length ep ok ov := by rw [sv.length]; exact hR.oat (sg_quiet (inert_fields rfl)) (sg_self IT _)
    exact wpAny_pyNext_items_end hA hit hm (sv.get.2 hx) fun h' hx => ⟨rfl, hR.drop1 (dj _ _ (sg_self IT _)) (inert_fields rfl) hx⟩
theorem Asg_Pair {x y : Str} {p1 p2 pos : Pos} {tn : Nat} {a b : AV} {Q : ASt → Prop} (hA : A.handled = none) (h : Q ((σ.set x a).set y b)) (hx : autoParam (isOwn (env.kindOf x) = true) AC.aux0._auto_1) (hy : autoParam (isOwn (env.kindOf y) = true) AC.aux0._auto_1) :
    AsgA C A env (.Tuple [.Name x p1, .Name y p2] tn pos) (.tup [a, b]) σ Q := by
  intro F G s v hR hv
  refine VR.tupC hv fun vs t ot n zo q1 q2 q3 q4 => ?_; clear hv; subst zo
  refine VRs.consC q4 fun v1 zw zo r1 q4_a => ?_; clear q4; subst zo; refine VRs.consC q4_a fun v2 zw zo r2 q4_b => ?_; clear q4_a; subst zo
  (have zc := VRs.nilI q4_b; clear q4_b; subst zc)
  refine wpAny_assign_Tuple hA ⟨ot, hR.wd.fz _ _ q1, q2, n, q3⟩ rfl rfl fun h' hk => ?_
  have hR' : Rp C A F G env σ { s with heap := h' } := hR.keep (t := s.toks) fun b o e => hk b o (Nat.ne_of_lt (Heap.lt_size e)) e
  show wpAny _ _ (do holding [v2] (assign (.Name x p1) env v1); do holding [] (assign (.Name y p2) env v2); pure ()) _ _ _
  refine wpAny_bind (wpAny_holding (wpAny_assign_Name (store_var hR' r1 (isOwn_or hx) fun s₁ hR₁ => wpAny_bind (wpAny_holding (wpAny_assign_Name (store_var hR₁ r2 (isOwn_or hy) fun s₂ hR₂ => ?_))))))
  exact wpAny_pure ⟨F, _, Ext.refl F, hR₂, h⟩
end
end
section
noncomputable def freeAt (h : Heap) (S : List Addr) : Heap := { h with objs := h.objs.mapIdx fun i o => if i ∈ S then { o with data := .freed } else o }
theorem freeAt_get (h : Heap) (S : List Addr) (b : Addr) : (freeAt h S).get? b = if b ∈ S then none else h.get? b := by
  unfold freeAt Heap.get?
  simp only [Array.getElem?_mapIdx]
  by_cases q : b ∈ S
  · simp only [q, if_true]
    cases h.objs[b]? <;> rfl
  · simp only [q, if_false]
    cases h.objs[b]? <;> rfl
theorem sub_base_KeyError : isSubtype (.type "KeyError") (.type "BaseException") = pure true := by rw [isSubtype_type]; kernel_rfl
theorem sub_self_KeyError : isSubtype (.type "KeyError") (.type "KeyError") = pure true := by rw [isSubtype_type]; kernel_rfl
theorem notTuple_KeyError : isSubtype (.type ((Manifest.find? "KeyError").elim "type" fun y => y.metatype)) (.type "tuple") = pure false := by
  rw [find?_eq_fast]
  have e : (fastFind? "KeyError").elim "type" (fun y => y.metatype) = "type" := by kernel_rfl
  rw [e, isSubtype_type]; kernel_rfl
section
variable {C : Cf} {A : Around} {E : Value → Shared → Prop} {env : Env} {σ : ASt} {F G : FH} {s : Shared}
theorem Rp.mark (hR : Rp C A F G env σ s) (h : Option Value) : Rp C (A.mark h) F G env σ s := ⟨hR.wd, hR.fm, hR.fs⟩
theorem Rp.unmark {h : Option Value} (hR : Rp C (A.mark h) F G env σ s) : Rp C A F G env σ s := ⟨hR.wd, hR.fm, hR.fs⟩
structure Loose (F G : FH) (σ : ASt) (env : Env) (a : Addr) : Prop where
  f : F a = none
  g : G a = none
  h : σ.hp a = none
  l : a ≠ env.locals
  c : ∀ x, env.kindOf x = some .cell → env.cells.lookup x ≠ some a
theorem Rp.loose (hR : Rp C A F G env σ s) {a : Addr} (ha : s.heap.get? a = none) : Loose F G σ env a := by
  refine ⟨?_, ?_, ?_, ?_, fun x hx hc => ?_⟩
  · cases e : F a with
    | none => rfl
    | some o => rw [hR.wd.fz a o e] at ha; exact sn_ne ha
  · cases e : G a with
    | none => rfl
    | some o => obtain ⟨o', h, zu⟩ := hR.wd.gz a o e; rw [h] at ha; exact sn_ne ha
  · cases e : σ.hp a with
    | none => rfl
    | some x => obtain ⟨zu, zu, o, h, zu⟩ := hR.wd.ob a x e; rw [h] at ha; exact sn_ne ha
  · rintro rfl
    obtain ⟨m, ⟨oL, es, ep, hL, zu⟩, zu⟩ := hR.fm.ns
    rw [hL] at ha; exact sn_ne ha
  · obtain ⟨c, h1, zu, zu, zu, zu, v, o, ho, zu⟩ := hR.fm.co x hx
    rw [hc] at h1; (have zc := Option.some.inj h1; clear h1; subst zc)
    rw [ho] at ha; exact sn_ne ha
theorem Rp.noted (hR : Rp C A F G env σ s) {h' : Heap} {t : Nat} {S : List Addr} (hS : ∀ b ∈ S, Loose F G σ env b ∨ (b = env.locals ∨ ∃ o es ep, G b = some o ∧ o.data = .dict es ep))
    (k : ∀ b o, b ∉ S → s.heap.get? b = some o → h'.get? b = some o) (kd : ∀ b o es ep, s.heap.get? b = some o → o.data = .dict es ep → ∃ sl, h'.get? b = some { o with slots := sl }) :
    Rp C A F G env σ ⟨h', s.gens, s.drawn, t, s.os⟩ := by
  obtain ⟨⟨w1, w2, w3, w4, w5, w6, w7, w8⟩, ⟨kk, ⟨m, hm, hmv⟩, ⟨l1, l2, l3⟩, co, ci, cv, fv⟩, hfs⟩ := hR
  have nF : ∀ {b o}, F b = some o → b ∉ S := fun {b o} e hb => by
    rcases hS b hb with h | rfl | ⟨og, es, ep, h, zu⟩
    · rw [h.f] at e; exact ns_ne e
    · rw [l1] at e; exact ns_ne e
    · rw [w8 b o e] at h; exact ns_ne h
  have nH : ∀ {b x}, σ.hp b = some x → b ∉ S := fun {b x} e hb => by
    rcases hS b hb with h | rfl | ⟨og, es, ep, h, zu⟩
    · rw [h.h] at e; exact ns_ne e
    · rw [l3] at e; exact ns_ne e
    · have := (w4 b x e).2.1; rw [h] at this; exact sn_ne this
  have nC : ∀ {x c}, env.kindOf x = some .cell → env.cells.lookup x = some c → c ∉ S := fun {x c} hx hc hb => by
    obtain ⟨c', g1, g2, g3, g4, g5, zu⟩ := co x hx
    rw [hc] at g1; (have zc := Option.some.inj g1; clear g1; subst zc)
    rcases hS c hb with h | h | ⟨og, es, ep, h, zu⟩
    · exact h.c x hx hc
    · exact g5 h
    · rw [g3] at h; exact ns_ne h
  refine ⟨⟨w1, fun b o e => k _ _ (nF e) (w2 b o e), fun b o e => ?_, fun a x e => ?_, w5, w6, w7, w8⟩, ⟨kk, ⟨m, ?_, hmv⟩, ⟨l1, l2, l3⟩, fun x hx => ?_, ci, fun x av c h1 h2 h3 => ?_, fv⟩, hfs⟩
  · obtain ⟨o', h1, h2⟩ := w3 b o e
    by_cases hb : b ∈ S
    · rcases hS b hb with h | rfl | ⟨og, es, ep, h, hd⟩
      · rw [h.g] at e; exact ns_ne e
      · rw [l2] at e; exact ns_ne e
      · rw [e] at h; (have zc := Option.some.inj h; clear h; subst zc)
        obtain ⟨sl, z⟩ := kd b o' es ep h1 (h2.data.trans hd)
        refine ⟨_, z, .inr ⟨⟨es, ep, hd⟩, sl, ?_⟩⟩
        rcases h2 with rfl | ⟨zu, sl', rfl⟩ <;> rfl
    · exact ⟨o', k _ _ hb h1, h2⟩
  · obtain ⟨p, q, o, ho, r⟩ := w4 a x e
    exact ⟨p, q, o, k _ _ (nH e) ho, r⟩
  · obtain ⟨oL, es, ep, hL, r1, r2⟩ := hm
    obtain ⟨sl, z⟩ := kd _ oL es ep hL r1
    exact ⟨_, es, ep, z, r1, r2⟩
  · obtain ⟨c, g1, g2, g3, g4, g5, v, o, ho, hd⟩ := co x hx
    exact ⟨c, g1, g2, g3, g4, g5, v, o, k _ _ (nC hx g1) ho, hd⟩
  · obtain ⟨v, ⟨o, ho, hd⟩, r⟩ := cv x av c h1 h2 h3
    exact ⟨v, ⟨o, k _ _ (nC h2 h3) ho, hd⟩, r⟩
theorem Rp.looseTurn (hR : Rp C A F G env σ s) {h' : Heap} {t : Nat} {a : Addr} (ha : Loose F G σ env a) (hd : ∀ o es ep, s.heap.get? a = some o → o.data ≠ .dict es ep) (hs : ∀ b o, b ≠ a → s.heap.get? b = some o → h'.get? b = some o) : Rp C A F G env σ ⟨h', s.gens, s.drawn, t, s.os⟩ := by
  refine hR.noted (S := [a]) (fun b hb => ?_) (fun b o hb e => hs b o (by simpa using hb) e) fun b o es ep e hd' => ?_
  · obtain rfl : b = a := by simpa using hb
    exact .inl ha
  · have n : b ≠ a := by rintro rfl; exact hd o es ep e hd'
    exact ⟨o.slots, hs b o n e⟩
theorem caught {e : Addr} {X T : String} {oe : Obj} {vs : Array Value} {x : Str} {xp pos : Pos} {b₀ : Stmt} {suite : List Stmt} {rest : List ExceptHandler} {Q : AFlow → ASt → Prop}
    (hR : Rp C A F G env σ s) (hl : Loose F G σ env e) (he : s.heap.get? e = some oe) (hc : oe.cls = .type X) (hd : oe.data = .fields vs) (h1 : vs[1]? = some .none) (hfr : env.frame = some env.locals)
    (hexc : isSubtype (.type T) (.type "BaseException") = pure true) (hnt : isSubtype (.type ((Manifest.find? T).elim "type" fun y => y.metatype)) (.type "tuple") = pure false) (hsub : isSubtype (.type X) (.type T) = pure true)
    (hg : GL C x (.type T)) (h : Exs C (A.mark (some (.ref e))) NoE env (b₀ :: suite) σ Q)
    (hk : env.kindOf x = some .globalImplicit) (hs : env.scope.kind = .function) (hgl : env.globals = mainGlobals) (hbl : env.builtins = builtinsNs) (hdbg : (x == ("__debug__" : Str)) = false) :
    wpAny (model C.prog C.w) A (noteFrame (.ref e) env) (fun zu s₂ => wpAny (model C.prog C.w) A (setFlight (.ref e) none) (fun zu s₃ =>
      wpAny (model C.prog C.w) A (handleBy (.ref e) env (.ExceptHandler (some (.Name x xp)) none (b₀ :: suite) pos :: rest)) (Post C A G env FlR Q F) E s₃) E s₂) E s := by
  obtain ⟨e', l, f1, f2, f3, f4, f5⟩ := hR.fs
  have : e' = env := by
    rcases f4 with f4 | ⟨zu, L, o, g1, g2, zu⟩
    · exact f4.1
    · rw [f3, hfr] at g1; (have zc := Option.some.inj g1; clear g1; subst zc)
      rw [hR.fm.lo.2.1] at g2; exact ns_ne g2
  subst this
  -- the heap without the frames and the exception
  let S : List Addr := e :: (e' :: l).filterMap (·.frame)
  have hSf : ∀ b ∈ (e' :: l).filterMap (·.frame), b = e'.locals ∨ ∃ o es ep, G b = some o ∧ o.data = .dict es ep := by
    intro b hb
    obtain ⟨en, hen, hfe⟩ := List.mem_filterMap.mp hb
    rcases List.mem_cons.mp hen with rfl | hen
    · rw [hfr] at hfe; (have zc := Option.some.inj hfe; clear hfe; subst zc); exact .inl rfl
    · obtain ⟨zu, L, o, g1, g2, es, ep, g3⟩ := f5 en hen
      rw [g1] at hfe; (have zc := Option.some.inj hfe; clear hfe; subst zc)
      exact .inr ⟨o, es, ep, g2, g3⟩
  have hS : ∀ b ∈ S, Loose F G σ e' b ∨ (b = e'.locals ∨ ∃ o es ep, G b = some o ∧ o.data = .dict es ep) := by
    intro b hb
    rcases List.mem_cons.mp hb with rfl | hb
    · exact .inl hl
    · exact .inr (hSf b hb)
  have hfun : ∀ b ∈ (e' :: l).filterMap (·.frame), ∃ o, s.heap.get? b = some o ∧ ∃ es ep, o.data = .dict es ep := by
    intro b hb
    rcases hSf b hb with rfl | ⟨o, es, ep, g1, g2⟩
    · obtain ⟨m, ⟨oL, es, ep, hL, r, zu⟩, zu⟩ := hR.fm.ns
      exact ⟨oL, hL, es, ep, r⟩
    · obtain ⟨o', g3, g4⟩ := hR.wd.gz _ _ g1
      exact ⟨o', g3, es, ep, g4.data.trans g2⟩
  have base_none : ∀ b ∈ S, (freeAt s.heap S).get? b = none := fun b hb => by rw [freeAt_get, if_pos hb]
  have hff : s.heap.FunFrames (freeAt s.heap S) (e' :: l) := by
    have all : ∀ ll : List Env, (∀ en ∈ ll, en ∈ e' :: l) → s.heap.FunFrames (freeAt s.heap S) ll := by
      intro ll
      induction ll with
      | nil => intro zu; trivial
      | cons en ll ih =>
        intro hsub'
        have hen := hsub' en List.mem_cons_self
        obtain ⟨kd, L, hL⟩ : en.scope.kind ≠ .module ∧ ∃ L, en.frame = some L := by
          rcases List.mem_cons.mp hen with rfl | hen
          · exact ⟨f2, _, hfr⟩
          · obtain ⟨g0, L, o, g1, zu⟩ := f5 en hen
            exact ⟨g0, L, g1⟩
        have hm : L ∈ (e' :: l).filterMap (·.frame) := List.mem_filterMap.mpr ⟨en, hen, hL⟩
        obtain ⟨o, ho, es, ep, hdd⟩ := hfun L hm
        exact ⟨kd, ⟨L, o, hL, base_none _ (List.mem_cons_of_mem _ hm), ho, fun vs q => by rw [hdd] at q; cases q⟩, ih fun en' h' => hsub' en' (List.mem_cons_of_mem _ h')⟩
    exact all _ fun zu h => h
  have hkb : (freeAt s.heap S).StaysIn s.heap := fun b o e => by
    rw [freeAt_get] at e
    split at e
    · exact ns_ne e
    · exact e
  unfold noteFrame
  simp only [hfr]
  refine wpAny_bind (wpAny_field he hd h1 ?_)
  rw [if_neg (by decide)]
  refine wpAny_newEntry f1 hff hfr he hkb (base_none e List.mem_cons_self) hd (Array.getElem?_eq_some_iff.mp h1).1 fun h' hL => ?_
  obtain ⟨k1, k2, ⟨oe', vs', T', oT, ts, t1, t2, t3, t4, t5, t6, t7, t8, t9⟩, k4⟩ := hL
  have hR₁ : Rp C A F G e' σ { s with heap := h' } := hR.noted (t := s.toks) hS (fun b o hb q => k1 b o (by rw [freeAt_get, if_neg hb]; exact q)) fun b o es ep q hdd => k4 b o q fun vs z => by rw [hdd] at z; cases z
  -- the traceback is new
  have hT' : s.heap.get? T' = none := by
    rw [freeAt_get] at t5
    split at t5
    · rename_i hm
      rcases List.mem_cons.mp hm with q | hm
      · exact absurd q t6
      · obtain ⟨o, ho, es, ep, hdd⟩ := hfun T' hm
        obtain ⟨sl, z⟩ := k4 T' o ho fun vs z => by rw [hdd] at z; cases z
        rw [t7] at z; (have zc := Option.some.inj z; clear z; subst zc)
        rw [hdd] at t8; cases t8
    · exact t5
  have lT : Loose F G σ e' T' := hR.loose hT'
  refine wpAny_handleBy_builtin (X := X) (T := T) (b := true) hexc hnt hsub ?_
  refine wpAny_Name ?_ hdbg
  rw [load_glob hs hk]
  refine hg e' hgl hbl _ _ _ _ hR₁.wd.old ⟨rfl, ⟨oe', t1, t2.trans hc⟩, ?_⟩
  rw [if_pos rfl]
  refine wpAny_setFlight_none t1 t3 t4 t7 t8 (Array.getElem?_eq_some_iff.mp t9).1 ?_
  have hR₂ : Rp C A F G e' σ { s with heap := h'.update T' (Obj.mapFields (·.setIfInBounds 3 .none)) } := hR₁.looseTurn (t := s.toks) lT (fun o es ep q z => by dsimp only at q; rw [t7] at q; (have zc := Option.some.inj q; clear q; subst zc); rw [t8] at z; cases z) fun b o n q => (Heap.get?_update_ne _ _ _ _ n).trans q
  refine wpAny_mono (h F G _ (hR₂.mark _)) (fun f s' z => ?_) fun zu zu x => x.elim
  obtain ⟨F', b, σ', e1, r, hR', q⟩ := z
  exact ⟨F', b, σ', e1, r, hR'.unmark, q⟩
theorem Ex_Try_sub {x : Str} {px ps pa pos hpos kp : Pos} {value slice : Expr} {b₀ : Stmt} {suite : List Stmt} {Q : AFlow → ASt → Prop} (hs : (C.h0.get? sysModules).isSome = true) (hA : A.handled = none)
    (hg : GL C "KeyError" (.type "KeyError"))
    (h : Ev C A NoE env value σ (fun a σ₁ => Ev C A NoE env slice σ₁ (fun k σ₂ => ∃ d l ep ky, a = .ref d ∧ σ₂.hp d = some (.dict l ep) ∧ k = Sym.av ky ∧
      (∀ v, at? l ky = some v → Q .next (σ₂.set x v)) ∧ (at? l ky = none → ∀ e, Exs C (A.mark (some (.ref e))) NoE env (b₀ :: suite) σ₂ Q))))
    (hkx : autoParam (isOwn (env.kindOf x) = true) AC.aux0._auto_1) (hfr : autoParam (env.frame = some env.locals) AC.aux0._auto_1) (hk : autoParam (env.kindOf "KeyError" = some .globalImplicit) AC.aux0._auto_1) (hsc : autoParam (env.scope.kind = .function) AC.aux0._auto_1) (hgl : autoParam (env.globals = mainGlobals) AC.aux0._auto_1) (hbl : autoParam (env.builtins = builtinsNs) AC.aux0._auto_1)
    (hsw : autoParam (swapsWith (.Subscript value slice ps) (some (.Name x px)) pa.line env = pure false) AC.aux0._auto_1) :
    Ex C A E env (.Try [.Assign [.Name x px] (.Subscript value slice ps) pa] [.ExceptHandler (some (.Name "KeyError" kp)) none (b₀ :: suite) hpos] [] [] pos) σ Q := by
  intro F G s hR
  refine wpAny_Try_except (wpAny_execs_cons (wpAny_Assign_Name (Subscript_ (wpAny_mono (h F G s hR) (fun va s₁ z => ?_) fun zu zu x => x.elim)) hsw))
  obtain ⟨F₁, a, σ₁, e₁, ha, hR₁, h₁⟩ := z
  refine wpAny_mono (h₁ F₁ G s₁ hR₁) (fun vk s₂ z => ?_) fun zu zu x => x.elim
  obtain ⟨F₂, k, σ₂, e₂, hkv, hR₂, d, l, ep, ky, rfl, hd, rfl, hyes, hno⟩ := z
  (have zc := VR.refI ha; clear ha; subst zc)
  obtain ⟨kvs, hdo, sv⟩ := hR₂.dictOf hd
  have hm := mapOf_of hdo
  refine tail_of hm.typeIs slot_dict_getitem.lookup ?_
  rcases sv.at ky with ⟨xv, v, g1, g2, g3⟩ | ⟨g1, g2⟩
  · refine wpAny_getItem_of (Sym.is_of hkv) hm g2 (store_var (hR₂.tok _) g3 (isOwn_or hkx) fun s₃ hR₃ => ?_)
    exact wpAny_execs_nil (wpAny_execs_nil ⟨F₂, .next, _, e₁.trans e₂, .next, hR₃, hyes _ g1⟩)
  · refine wpAny_getItem_missing_of (Sym.is_of hkv) (hR₂.low hd hs) hA hm g2 fun h' e hx => ?_
    obtain ⟨oe, t, he, hc, hdt⟩ := hx.there
    have hR₃ : Rp C A F₂ G env σ₂ { s₂ with heap := h', toks := s₂.toks + 1 } := hR₂.keep hx.keeps
    have z := caught (E := E) (T := "KeyError") (xp := kp) (pos := hpos) (rest := []) hR₃ (hR₂.loose hx.new) he hc hdt rfl hfr sub_base_KeyError notTuple_KeyError sub_self_KeyError hg (hno g1 e) hk hsc hgl hbl (by decide)
    exact wpAny_mono z (fun zu zu z => wpAny_mono z (fun zu zu z => wpAny_mono z (fun zu zu z => Post.ext (e₁.trans e₂) z) fun zu zu x => x) fun zu zu x => x) fun zu zu x => x
end
end
section
noncomputable abbrev thePw : Program := PySem.Challenge.pw_nc0002_12
structure DefP where
  params : Arguments
  body : List Stmt
  scope : Scope
noncomputable def DefP.nil : DefP := ⟨⟨[], [], none, [], [], none, []⟩, [], default⟩
noncomputable def defIn (n : Str) : List Stmt → DefP
  | [] => .nil
  | .FunctionDef m a b _ _ _ sc _ _ _ :: r => if m == n then ⟨a, b, sc⟩ else defIn n r
  | _ :: r => defIn n r
noncomputable def clsIn' (n : Str) : List Stmt → List Stmt
  | [] => []
  | .ClassDef m _ _ b _ _ _ _ _ _ _ :: r => if m == n then b else clsIn' n r
  | _ :: r => clsIn' n r
noncomputable def methP (c m : Str) : DefP := defIn m (clsIn' c thePw.main.body)
noncomputable def defP (m : Str) : DefP := defIn m thePw.main.body
structure FdRest where
  name : Str
  qual : Str
  kwd : Value
  doc : Value
  pm : Value
  ann : Option Addr
  code : Value
  ct : Value
noncomputable def FdRest.fd (r : FdRest) (d : DefP) (dflt : Value) : FuncData :=
  { name := r.name, qualname := r.qual, params := d.params, body := .stmts d.body, scope := d.scope, globals := mainGlobals, closure := [], defaults := dflt, kwdefaults := r.kwd, doc := r.doc, pyModule := r.pm, annotations := r.ann, code := r.code, closureTuple := r.ct, builtins := builtinsNs }
noncomputable abbrev addP : DefP := methP "KeywordTree" "add"
theorem VRs.inv {F : FH} {x : AV} {xs : List AV} {vs : List Value} (h : VRs F (x :: xs) vs) : ∃ v us, vs = v :: us ∧ VR F x v ∧ VRs F xs us := by
  cases h with
  | cons a b => exact ⟨_, _, rfl, a, b⟩
theorem VRs.inv0 {F : FH} {vs : List Value} (h : VRs F [] vs) : vs = [] := by (have zc := VRs.nilI h; clear h; subst zc); rfl
theorem KVRs.inv {F : FH} {k : Str} {x : AV} {xs : List (Str × AV)} {vs : List (Str × Value)} (h : KVRs F ((k, x) :: xs) vs) : ∃ v us, vs = (k, v) :: us ∧ VR F x v ∧ KVRs F xs us := by
  cases h with
  | cons a b => exact ⟨_, _, rfl, a, b⟩
theorem KVRs.inv0 {F : FH} {vs : List (Str × Value)} (h : KVRs F [] vs) : vs = [] := by cases h; rfl
theorem binds_add (C : Cf) (r : FdRest) (x y : AV) : Binds C (r.fd addP .none) [x, y] [] [("self", x), ("keyword", y)] := by
  intro F vs kvs hv hk
  obtain rfl := hk.inv0
  obtain ⟨v1, zu, rfl, a, hv⟩ := hv.inv
  obtain ⟨v2, zu, rfl, b, hv⟩ := hv.inv
  obtain rfl := hv.inv0
  exact ⟨[("self", v1), ("keyword", v2)], Looks.of_pure (by kernel_rfl), .cons a (.cons b .nil), by kernel_rfl⟩
noncomputable abbrev sInitP : DefP := methP "State" "__init__"
noncomputable def tupObj (vs : List Value) : Obj := { cls := .type "tuple", data := .seq vs.toArray }
theorem look1 {C : Cf} {α : Type} {a : Addr} {o : Obj} (h : C.h0.get? a = some o) {t : Sem α} {r : α} (e : peek [(a, o)] ⟨C.prog, C.w.params⟩ t = some r) : Looks (model C.prog C.w) C.h0 t r := by
  refine Looks.of_peek (K := [(a, o)]) (fun b ob hb => ?_) e
  simp only [List.lookup] at hb
  split at hb
  · rename_i q
    (have zc := Option.some.inj hb; clear hb; subst zc)
    rw [beq_iff_eq.mp q]; exact h
  · exact ns_ne hb
theorem binds_sInit (C : Cf) (r : FdRest) (hd : C.h0.get? 23 = some (tupObj [.none, .none, .bool false])) (x i p s : AV) :
    Binds C (r.fd sInitP (.ref 23)) [x, i] [("parent", p), ("symbol", s)] [("self", x), ("identifier", i), ("symbol", s), ("parent", p), ("success", .bool false)] := by
  intro F vs kvs hv hk
  obtain ⟨v3, zu, rfl, a3, hk⟩ := hk.inv
  obtain ⟨v4, zu, rfl, a4, hk⟩ := hk.inv
  obtain rfl := hk.inv0
  obtain ⟨v1, zu, rfl, a, hv⟩ := hv.inv
  obtain ⟨v2, zu, rfl, b, hv⟩ := hv.inv
  obtain rfl := hv.inv0
  exact ⟨[("self", v1), ("identifier", v2), ("symbol", v4), ("parent", v3), ("success", .bool false)], look1 hd (by kernel_rfl), .cons a (.cons b (.cons a4 (.cons a3 (.cons (.bool false) .nil)))), by kernel_rfl⟩
theorem binds_sInit1 (C : Cf) (r : FdRest) (hd : C.h0.get? 23 = some (tupObj [.none, .none, .bool false])) (x i : AV) :
    Binds C (r.fd sInitP (.ref 23)) [x, i] [] [("self", x), ("identifier", i), ("symbol", .none), ("parent", .none), ("success", .bool false)] := by
  intro F vs kvs hv hk
  obtain rfl := hk.inv0
  obtain ⟨v1, zu, rfl, a, hv⟩ := hv.inv
  obtain ⟨v2, zu, rfl, b, hv⟩ := hv.inv
  obtain rfl := hv.inv0
  exact ⟨[("self", v1), ("identifier", v2), ("symbol", .none), ("parent", .none), ("success", .bool false)], look1 hd (by kernel_rfl), .cons a (.cons b (.cons .none (.cons .none (.cons (.bool false) .nil)))), by kernel_rfl⟩
noncomputable abbrev tInitP : DefP := methP "KeywordTree" "__init__"
noncomputable abbrev searchP : DefP := methP "KeywordTree" "search"
noncomputable abbrev oneP : DefP := methP "KeywordTree" "search_one"
noncomputable abbrev allP : DefP := methP "KeywordTree" "search_all"
noncomputable abbrev genP : DefP := methP "KeywordTree" "_search_all_generic"
noncomputable abbrev finP : DefP := methP "KeywordTree" "finalize"
noncomputable abbrev preP : DefP := methP "KeywordTree" "_precompute_outputs"
noncomputable abbrev kidsP : DefP := methP "KeywordTree" "search_lss_for_children"
noncomputable abbrev lssP : DefP := methP "KeywordTree" "search_lss"
theorem binds_tInit0 (C : Cf) (r : FdRest) (hd : C.h0.get? 52 = some (tupObj [.bool false])) (x : AV) :
    Binds C (r.fd tInitP (.ref 52)) [x] [] [("self", x), ("case_insensitive", .bool false)] := by
  intro F vs kvs hv hk
  obtain rfl := hk.inv0
  obtain ⟨v1, zu, rfl, a, hv⟩ := hv.inv
  obtain rfl := hv.inv0
  exact ⟨[("self", v1), ("case_insensitive", .bool false)], look1 hd (by kernel_rfl), .cons a (.cons (.bool false) .nil), by kernel_rfl⟩
theorem binds_tInit1 (C : Cf) (r : FdRest) (hd : C.h0.get? 52 = some (tupObj [.bool false])) (x y : AV) :
    Binds C (r.fd tInitP (.ref 52)) [x] [("case_insensitive", y)] [("self", x), ("case_insensitive", y)] := by
  intro F vs kvs hv hk
  obtain ⟨v3, zu, rfl, a3, hk⟩ := hk.inv
  obtain rfl := hk.inv0
  obtain ⟨v1, zu, rfl, a, hv⟩ := hv.inv
  obtain rfl := hv.inv0
  exact ⟨[("self", v1), ("case_insensitive", v3)], look1 hd (by kernel_rfl), .cons a (.cons a3 .nil), by kernel_rfl⟩
theorem binds2 (C : Cf) (d : DefP) (x1 x2 : Str) (h : ∀ (r : FdRest) (S : Setting) (v1 v2 : Value), peek [] S (bindArgs (r.fd d .none) ⟨[v1, v2], []⟩) = some [(x1, v1), (x2, v2)])
    (hl : ([x1, x2].all fun x => decide (d.scope.names.lookup x = some .local)) = true) (r : FdRest) (x y : AV) : Binds C (r.fd d .none) [x, y] [] [(x1, x), (x2, y)] := by
  intro F vs kvs hv hk
  obtain rfl := hk.inv0
  obtain ⟨v1, zu, rfl, a, hv⟩ := hv.inv
  obtain ⟨v2, zu, rfl, b, hv⟩ := hv.inv
  obtain rfl := hv.inv0
  refine ⟨[(x1, v1), (x2, v2)], Looks.of_peek (K := []) (fun zu zu h => by exact ns_ne h) (h r _ v1 v2), .cons a (.cons b .nil), ?_⟩
  exact hl
theorem binds1 (C : Cf) (d : DefP) (x1 : Str) (h : ∀ (r : FdRest) (S : Setting) (v1 : Value), peek [] S (bindArgs (r.fd d .none) ⟨[v1], []⟩) = some [(x1, v1)])
    (hl : ([x1].all fun x => decide (d.scope.names.lookup x = some .local)) = true) (r : FdRest) (x : AV) : Binds C (r.fd d .none) [x] [] [(x1, x)] := by
  intro F vs kvs hv hk
  obtain rfl := hk.inv0
  obtain ⟨v1, zu, rfl, a, hv⟩ := hv.inv
  obtain rfl := hv.inv0
  refine ⟨[(x1, v1)], Looks.of_peek (K := []) (fun zu zu h => by exact ns_ne h) (h r _ v1), .cons a .nil, ?_⟩
  exact hl
theorem binds_one (C : Cf) : ∀ (r : FdRest) x y, Binds C (r.fd oneP .none) [x, y] [] [("self", x), ("text", y)] := binds2 C oneP "self" "text" (fun zu zu zu zu => by kernel_rfl) (by kernel_rfl)
theorem binds_all (C : Cf) : ∀ (r : FdRest) x y, Binds C (r.fd allP .none) [x, y] [] [("self", x), ("text", y)] := binds2 C allP "self" "text" (fun zu zu zu zu => by kernel_rfl) (by kernel_rfl)
theorem binds_gen (C : Cf) : ∀ (r : FdRest) x y, Binds C (r.fd genP .none) [x, y] [] [("self", x), ("text", y)] := binds2 C genP "self" "text" (fun zu zu zu zu => by kernel_rfl) (by kernel_rfl)
theorem binds_fin (C : Cf) : ∀ (r : FdRest) x, Binds C (r.fd finP .none) [x] [] [("self", x)] := binds1 C finP "self" (fun zu zu zu => by kernel_rfl) (by kernel_rfl)
theorem binds_pre (C : Cf) : ∀ (r : FdRest) x, Binds C (r.fd preP .none) [x] [] [("self", x)] := binds1 C preP "self" (fun zu zu zu => by kernel_rfl) (by kernel_rfl)
theorem binds_kids (C : Cf) : ∀ (r : FdRest) x y, Binds C (r.fd kidsP .none) [x, y] [] [("self", x), ("zero_state", y)] := binds2 C kidsP "self" "zero_state" (fun zu zu zu zu => by kernel_rfl) (by kernel_rfl)
theorem binds_lss (C : Cf) : ∀ (r : FdRest) x y, Binds C (r.fd lssP .none) [x, y] [] [("self", x), ("state", y)] := binds2 C lssP "self" "state" (fun zu zu zu zu => by kernel_rfl) (by kernel_rfl)
structure Tp (C : Cf) : Prop where
  sysm : (C.h0.get? sysModules).isSome = true
  g_State : GL C "State" (.ref 34)
  g_VE : GL C "ValueError" (.type "ValueError")
  g_KE : GL C "KeyError" (.type "KeyError")
  g_SI : GL C "StopIteration" (.type "StopIteration")
  g_len : GL C "len" (.builtin "len")
  g_set : GL C "set" (.type "set")
  g_tuple : GL C "tuple" (.type "tuple")
  g_enum : GL C "enumerate" (.type "enumerate")
  g_next : GL C "next" (.builtin "next")
  s_id : SlotAt C 34 "identifier" 0
  s_lss : SlotAt C 34 "longest_strict_suffix" 1
  s_mk : SlotAt C 34 "matched_keyword" 2
  s_out : SlotAt C 34 "outputs" 3
  s_par : SlotAt C 34 "parent" 4
  s_suc : SlotAt C 34 "success" 5
  s_sym : SlotAt C 34 "symbol" 6
  s_tr : SlotAt C 34 "transitions" 7
  mkS : MakeAt C 34 30
  mkT : MakeAt C 125 59
  n_zero : NsAt C 125 "_zero_state"
  n_cnt : NsAt C 125 "_counter"
  n_fin : NsAt C 125 "_finalized"
  n_ci : NsAt C 125 "_case_insensitive"
  n_sp : NsAt C 125 "_skip_pattern"
  n_spt : NsAt C 125 "_skip_pattern_type"
  d23 : C.h0.get? 23 = some (tupObj [.none, .none, .bool false])
  d52 : C.h0.get? 52 = some (tupObj [.bool false])
  f_sInit : ∃ r : FdRest, FnAt C 30 (r.fd sInitP (.ref 23))
  f_tInit : ∃ r : FdRest, FnAt C 59 (r.fd tInitP (.ref 52))
  f_add : ∃ r : FdRest, FnAt C 66 (r.fd addP .none)
  f_search : ∃ r : FdRest, FnAt C 73 (r.fd searchP .none)
  f_one : ∃ r : FdRest, FnAt C 80 (r.fd oneP .none)
  f_all : ∃ r : FdRest, FnAt C 87 (r.fd allP .none)
  f_gen : ∃ r : FdRest, FnAt C 94 (r.fd genP .none)
  f_fin : ∃ r : FdRest, FnAt C 101 (r.fd finP .none)
  f_pre : ∃ r : FdRest, FnAt C 108 (r.fd preP .none)
  f_kids : ∃ r : FdRest, FnAt C 115 (r.fd kidsP .none)
  f_lss : ∃ r : FdRest, FnAt C 122 (r.fd lssP .none)
  m_add : MethAt C 125 "add" 66
  m_search : MethAt C 125 "search" 73
  m_one : MethAt C 125 "search_one" 80
  m_all : MethAt C 125 "search_all" 87
  m_gen : MethAt C 125 "_search_all_generic" 94
  m_fin : MethAt C 125 "finalize" 101
  m_pre : MethAt C 125 "_precompute_outputs" 108
  m_kids : MethAt C 125 "search_lss_for_children" 115
  m_lss : MethAt C 125 "search_lss" 122
end
section
variable {C : Cf} {A : Around} {E : Value → Shared → Prop}
theorem EvL_e {env : Env} {σ : ASt} {e : Expr} {r : List Expr} {pos : Pos} {Q : List AV → ASt → Prop} (h : Ev C A E env e σ (fun v σ₁ => EvL C A E env (backTo pos (starEach r env)) σ₁ (fun vs σ₂ => Q (v :: vs) σ₂)))
    (hs : autoParam (starEach (e :: r) env = (false, eval e env) :: starEach r env) AC.aux0._auto_1) : EvL C A E env (backTo pos (starEach (e :: r) env)) σ Q := by
  rw [hs]; exact EvL_cons h
theorem EvL_0 {env : Env} {σ : ASt} {pos : Pos} {Q : List AV → ASt → Prop} (h : Q [] σ) : EvL C A E env (backTo pos (starEach [] env)) σ Q := EvL_nil h
theorem EvA_e {env : Env} {σ : ASt} {n : Option Str} {e : Expr} {kp : Pos} {r : List Keyword} {pos : Pos} {Q : List AV → ASt → Prop} (h : Ev C A E env e σ (fun v σ₁ => EvA C A E env ((backToKw pos (keywordEach r env)).map (·.2)) σ₁ (fun vs σ₂ => Q (v :: vs) σ₂))) :
    EvA C A E env ((backToKw pos (keywordEach (⟨n, e, kp⟩ :: r) env)).map (·.2)) σ Q := EvA_cons h
theorem EvA_0 {env : Env} {σ : ASt} {pos : Pos} {Q : List AV → ASt → Prop} (h : Q [] σ) : EvA C A E env ((backToKw pos (keywordEach [] env)).map (·.2)) σ Q := EvA_nil h
noncomputable def node (id : Int) (lss mk : AV) (out : Option AV) (par : AV) (suc : Bool) (sym : AV) (t : Addr) : AO :=
  .slot 34 [some (.int id), some lss, some mk, out, some par, some (.bool suc), some sym, some (.ref t)]
theorem state_init (T : Tp C) (hroom : A.depth < recursionLimit) {hp : HP} {x : Addr} {i : Int} {p s : AV} {kw : List (Str × AV)} {Q : AV → HP → Prop} (hx : hp x = some (.slot 34 []))
    (hkw : (kw = ([("parent", p), ("symbol", s)] : List (Str × AV))) ∨ (kw = [] ∧ p = .none ∧ s = .none))
    (h : ∀ d hp', hp d = none → d ≠ x → hp' x = some (node i .none .none none p false s d) → hp' d = some (.dict [] 0) → (∀ b, b ≠ x → b ≠ d → hp' b = hp b) → Q .none hp') :
    Fn C A (.ref 30) [.ref x, .int i] kw hp Q := by
  obtain ⟨r, hf⟩ := T.f_sInit
  have hb : Binds C (r.fd sInitP (.ref 23)) [.ref x, .int i] kw [("self", .ref x), ("identifier", .int i), ("symbol", s), ("parent", p), ("success", .bool false)] := by
    rcases hkw with rfl | ⟨rfl, rfl, rfl⟩
    · exact binds_sInit C r T.d23 _ _ _ _
    · exact binds_sInit1 C r T.d23 _ _
  refine Fn_def (body := sInitP.body) hf hb (fun L => ?_) hroom (by kernel_rfl) (by kernel_rfl) (by kernel_rfl) (by kernel_rfl) (by kernel_rfl)
  refine Exs_cons (Ex_Assign_Attr (Ev_Name rfl (Ev_Name rfl (set_slot T.s_sym hx ?_))))
  refine Exs_cons (Ex_Assign_Attr (Ev_Name rfl (Ev_Name rfl (set_slot T.s_id (upd_self _ _ _) ?_))))
  refine Exs_cons (Ex_Assign_Attr (Ev_Dict0 (fun d hd => Ev_Name rfl (set_slot (a := x) (vs := setSlot (setSlot [] 6 s) 0 (.int i)) T.s_tr ?_ ?_))))
  · have : x ≠ d := by rintro rfl; simp at hd
    simp [upd, this]
  have hdx : d ≠ x := by rintro rfl; simp at hd
  have hd0 : hp d = none := by simpa [upd, hdx] using hd
  refine Exs_cons (Ex_Assign_Attr (Ev_Name rfl (Ev_Name rfl (set_slot T.s_par (upd_self _ _ _) ?_))))
  refine Exs_cons (Ex_Assign_Attr (Ev_Name rfl (Ev_Name rfl (set_slot T.s_suc (upd_self _ _ _) ?_))))
  refine Exs_cons (Ex_Assign_Attr (Ev_none (Ev_Name rfl (set_slot T.s_mk (upd_self _ _ _) ?_))))
  refine Exs_cons (Ex_Assign_Attr (Ev_none (Ev_Name rfl (set_slot T.s_lss (upd_self _ _ _) ?_))))
  refine Exs_nil ?_
  refine h d _ hd0 hdx ?_ ?_ ?_
  · refine (upd_self _ _ _).trans ?_
    simp [setSlot, node, List.replicate]
  · simp [upd, hdx]
  · intro b h1 h2
    simp [upd, h1, h2]
theorem under_depth (A : Around) (Cl : Addr) (vs : List Value) (kvs : List (Str × Value)) : (A.under (.builtin "type.__call__" ⟨.ref Cl :: vs, kvs⟩)).depth = A.depth + 1 := rfl
theorem new_state (T : Tp C) (hroom : A.depth + 1 < recursionLimit) {hp : HP} {i : Int} {p s : AV} {kw : List (Str × AV)} {Q : AV → HP → Prop}
    (hkw : (kw = ([("parent", p), ("symbol", s)] : List (Str × AV))) ∨ (kw = [] ∧ p = .none ∧ s = .none))
    (h : ∀ x d hp', hp x = none → hp d = none → d ≠ x → hp' x = some (node i .none .none none p false s d) → hp' d = some (.dict [] 0) → (∀ b, b ≠ x → b ≠ d → hp' b = hp b) → Q (.ref x) hp') :
    Fn C A (.ref 34) [.int i] kw hp Q := by
  refine Fn_makeS T.mkS (fun x vs kvs hx => ?_)
  refine state_init T (by rw [under_depth]; exact hroom) (upd_self _ _ _) hkw (fun d hp' h1 h2 h3 h4 h5 => ⟨rfl, h x d hp' hx ?_ h2 h3 h4 (fun b b1 b2 => ?_)⟩)
  · simpa [upd, h2] using h1
  · rw [h5 b b1 b2]; simp [upd, b1]
noncomputable def treeNs (z : Addr) (n : Int) (fin ci : Bool) : List (Str × AV) :=
  [("_zero_state", .ref z), ("_counter", .int n), ("_finalized", .bool fin), ("_case_insensitive", .bool ci), ("_skip_pattern", .none), ("_skip_pattern_type", .none)]
theorem new_tree (T : Tp C) (hroom : A.depth + 4 < recursionLimit) {hp : HP} {ci : Bool} {kw : List (Str × AV)} {Q : AV → HP → Prop}
    (hkw : (kw = ([("case_insensitive", .bool ci)] : List (Str × AV))) ∨ (kw = [] ∧ ci = false))
    (h : ∀ t d z e hp', [t, d, z, e].Nodup → hp t = none → hp d = none → hp z = none → hp e = none → hp' t = some (.inst 125 d) → hp' d = some (.ns (treeNs z 1 false ci)) →
      hp' z = some (node 0 .none .none none .none false .none e) → hp' e = some (.dict [] 0) → (∀ b, b ≠ t → b ≠ d → b ≠ z → b ≠ e → hp' b = hp b) → Q (.ref t) hp') :
    Fn C A (.ref 125) [] kw hp Q := by
  refine Fn_makeD T.mkT (fun t d vs kvs ht hd htd => ?_)
  obtain ⟨r, hf⟩ := T.f_tInit
  have hb : Binds C (r.fd tInitP (.ref 52)) [.ref t] kw [("self", .ref t), ("case_insensitive", .bool ci)] := by
    rcases hkw with rfl | ⟨rfl, rfl⟩
    · exact binds_tInit1 C r T.d52 _ _
    · exact binds_tInit0 C r T.d52 _
  refine Fn_def (body := tInitP.body) hf hb (fun L => ?_) (by rw [under_depth]; with_reducible exact od_add ‹_› (by decide)) (by kernel_rfl) (by kernel_rfl) (by kernel_rfl) (by kernel_rfl) (by kernel_rfl)
  have hdt : d ≠ t := fun e => htd e.symm
  refine Exs_cons (Ex_Assign_Attr (Ev_Call (Ev_GRef T.g_State (EvL_e (Ev_int (EvL_0 (EvA_0 (CallA_cls T.mkS (new_state T ?_ (Or.inr ⟨rfl, rfl, rfl⟩) ?_)))))))))
  · show A.depth + 1 + 1 + 1 < recursionLimit
    with_reducible exact od_add2 ‹_› (by decide)
  intro z e hp' hz he hez h1 h2 h3
  have hzt : z ≠ t := by rintro rfl; simp [upd] at hz
  have hzd : z ≠ d := by rintro rfl; simp [upd, hdt] at hz
  have het : e ≠ t := by rintro rfl; simp [upd] at he
  have hed : e ≠ d := by rintro rfl; simp [upd, hdt] at he
  have ht' : hp' t = some (.inst 125 d) := by rw [h3 t hzt.symm het.symm]; simp [upd]
  have hd' : hp' d = some (.ns []) := by rw [h3 d hzd.symm hed.symm]; simp [upd, hdt]
  refine Ev_Name rfl (set_ns T.n_zero ht' hd' ?_)
  refine Exs_cons (Ex_Assign_Attr (Ev_int (Ev_Name rfl (set_ns T.n_cnt (a := t) (d := d) ?_ (upd_self _ _ _) ?_ (hz := Nat.le_of_ble_eq_true (by rfl))))))
  · simp [upd, htd, ht']
  refine Exs_cons (Ex_Assign_Attr (Ev_bool (Ev_Name rfl (set_ns T.n_fin (a := t) (d := d) ?_ (upd_self _ _ _) ?_ (hz := Nat.le_of_ble_eq_true (by rfl))))))
  · simp [upd, htd, ht']
  refine Exs_cons (Ex_Assign_Attr (Ev_Name rfl (Ev_Name rfl (set_ns T.n_ci (a := t) (d := d) ?_ (upd_self _ _ _) ?_ (hz := Nat.le_of_ble_eq_true (by rfl))))))
  · simp [upd, htd, ht']
  refine Exs_cons (Ex_Assign_Attr (Ev_none (Ev_Name rfl (set_ns T.n_sp (a := t) (d := d) ?_ (upd_self _ _ _) ?_ (hz := Nat.le_of_ble_eq_true (by rfl))))))
  · simp [upd, htd, ht']
  refine Exs_cons (Ex_Assign_Attr (Ev_none (Ev_Name rfl (set_ns T.n_spt (a := t) (d := d) ?_ (upd_self _ _ _) ?_ (hz := Nat.le_of_ble_eq_true (by rfl))))))
  · simp [upd, htd, ht']
  refine Exs_nil ⟨rfl, ?_⟩
  refine h t d z e _ ?_ ht hd ?_ ?_ ?_ ?_ ?_ ?_ ?_
  · simp [htd, hzt.symm, het.symm, hzd.symm, hed.symm, hez.symm]
  · simpa [upd, hzt, hzd] using hz
  · simpa [upd, het, hed] using he
  · simp [upd, htd, ht']
  · refine (upd_self _ _ _).trans ?_
    rfl
  · simp [upd, hzd, h1]
  · simp [upd, hed, h2]
  · intro b b1 b2 b3 b4
    simp [upd, b2]
    rw [h3 b b3 b4]; simp [upd, b1, b2]
end
section
theorem nodup_len {α : Type} [DecidableEq α] : ∀ {l m : List α}, l.Nodup → (∀ x ∈ l, x ∈ m) → l.length ≤ m.length
  | [], _, _, _ => Nat.zero_le _
  | x :: l, m, hn, hs => by
    have hx := hs x (List.mem_cons_self ..)
    have hn' := List.nodup_cons.mp hn
    have := nodup_len (l := l) (m := m.erase x) hn'.2 (fun y hy => by
      have hne : y ≠ x := fun e => hn'.1 (e ▸ hy)
      exact (List.mem_erase_of_ne hne).mpr (hs y (List.mem_cons_of_mem _ hy)))
    rw [List.length_erase_of_mem hx] at this
    have hpos : 0 < m.length := List.length_pos_of_mem hx
    simp only [List.length_cons]; omega
noncomputable abbrev Path := List Sym
structure Trie where
  D : List Path
  A : Path → Addr
  T : Path → Addr
  key : Path → Option AV
  tr : Path → List (Sym × Path)
  lss : Path → Option Path
  out : Path → Option AV
noncomputable def Trie.parv (X : Trie) (p : Path) : AV := if p = [] then .none else .ref (X.A p.dropLast)
noncomputable def symv (p : Path) : AV := match p.getLast? with | some c => c.av | none => .none
noncomputable def Trie.lssv (X : Trie) (p : Path) : AV := match X.lss p with | some q => .ref (X.A q) | none => .none
noncomputable def Trie.nodeAO (X : Trie) (p : Path) : AO := node (X.D.idxOf p) (X.lssv p) ((X.key p).getD .none) (X.out p) (X.parv p) (X.key p).isSome (symv p) (X.T p)
noncomputable def Trie.trv (X : Trie) (p : Path) : List (Sym × AV) := (X.tr p).map fun e => (e.1, .ref (X.A e.2))
noncomputable def lookT (l : List (Sym × Path)) (c : Sym) : Option Path := (l.find? fun e => e.1 = c).map (·.2)
noncomputable def Trie.look (X : Trie) (p : Path) (c : Sym) : Option Path := lookT (X.tr p) c
theorem at_map (l : List (Sym × Path)) (f : Path → Addr) (c : Sym) : at? (l.map fun e => (e.1, AV.ref (f e.2))) c = (lookT l c).map fun q => .ref (f q) := by
  induction l with
  | nil => rfl
  | cons e l ih =>
    simp only [at?, lookT, List.map_cons, List.find?_cons] at ih ⊢
    by_cases h : e.1 = c
    · simp [h]
    · simp only [h, decide_false]; exact ih
theorem Trie.at_trv (X : Trie) (p : Path) (c : Sym) : at? (X.trv p) c = (X.look p c).map fun q => .ref (X.A q) := at_map _ _ _
theorem lookT_mem {l : List (Sym × Path)} {c : Sym} {q : Path} (h : lookT l c = some q) : (c, q) ∈ l := by
  obtain ⟨e, he, rfl⟩ := Option.map_eq_some_iff.mp h
  have h1 := List.find?_some he
  have := List.mem_of_find?_eq_some he
  simp at h1; subst h1; exact this
theorem lookT_of {l : List (Sym × Path)} (hn : (l.map (·.1)).Nodup) {c : Sym} {q : Path} (h : (c, q) ∈ l) : lookT l c = some q := by
  induction l with
  | nil => cases h
  | cons e l ih =>
    simp only [List.map_cons, List.nodup_cons] at hn
    simp only [lookT, List.find?_cons]
    rcases List.mem_cons.mp h with rfl | h'
    · simp
    · have : e.1 ≠ c := fun x => hn.1 (by rw [x]; exact List.mem_map_of_mem (f := (·.1)) h')
      simp only [this, decide_false]; exact ih hn.2 h'
theorem lookT_none {l : List (Sym × Path)} {c : Sym} (h : lookT l c = none) : ∀ e ∈ l, e.1 ≠ c := by
  intro e he x
  have := List.find?_eq_none.mp (Option.map_eq_none_iff.mp h) e he
  simp [x] at this
theorem lookT_append (l m : List (Sym × Path)) (c : Sym) : lookT (l ++ m) c = (lookT l c).or (lookT m c) := by
  simp only [lookT, List.find?_append]
  cases l.find? fun e => decide (e.1 = c) <;> simp
structure Trie.Wf (X : Trie) : Prop where
  root : [] ∈ X.D
  nodup : X.D.Nodup
  closed : ∀ p c, p ++ [c] ∈ X.D → p ∈ X.D
  ti : ∀ p ∈ X.D, ∀ q ∈ X.D, X.T p = X.T q → p = q
  trD : ∀ p ∈ X.D, ∀ e ∈ X.tr p, e.2 ∈ X.D
  trN : ∀ p ∈ X.D, ((X.tr p).map (·.1)).Nodup
  trL : ∀ p ∈ X.D, ∀ e ∈ X.tr p, e.2.getLast? = some e.1
  mkD : ∀ p, p ∉ X.D → X.key p = none
  mkV : ∀ p v, X.key p = some v → ∀ u, v ≠ .val u
structure Rep (X : Trie) (t d : Addr) (fin ci : Bool) (hp : HP) : Prop where
  tree : hp t = some (.inst 125 d)
  ns : hp d = some (.ns (treeNs (X.A []) X.D.length fin ci))
  nd : ∀ p ∈ X.D, hp (X.A p) = some (X.nodeAO p)
  td : ∀ p ∈ X.D, ∃ ep, hp (X.T p) = some (.dict (X.trv p) ep)
noncomputable def Fp (X : Trie) (t d a : Addr) : Prop := a = t ∨ a = d ∨ ∃ p ∈ X.D, a = X.A p ∨ a = X.T p
structure Fr' (P : Addr → Prop) (h : HP) (P' : Addr → Prop) (h' : HP) : Prop where
  keep : ∀ a, h a ≠ none → ¬ P a → h' a = h a
  grow : ∀ a, P' a → P a ∨ h a = none
theorem Fr'.refl (P : Addr → Prop) (h : HP) : Fr' P h P h := ⟨fun zu zu zu => rfl, fun zu x => .inl x⟩
theorem Fr'.trans {P P' P'' : Addr → Prop} {h h' h'' : HP} (a : Fr' P h P' h') (b : Fr' P' h' P'' h'') : Fr' P h P'' h'' where
  keep := fun x hx np => by
    have e := a.keep x hx np
    rw [← e]
    refine b.keep x (by rw [e]; exact hx) (fun p' => ?_)
    rcases a.grow x p' with q | q
    · exact np q
    · exact hx q
  grow := fun x p'' => by
    rcases b.grow x p'' with q | q
    · exact a.grow x q
    · by_cases hx : h x = none
      · exact .inr hx
      · by_cases np : P x
        · exact .inl np
        · rw [a.keep x hx np] at q; exact absurd q hx
theorem Trie.Wf.dist {X : Trie} {t d : Addr} {fin ci : Bool} {hp : HP} (hr : Rep X t d fin ci hp) {p : Path} (hp' : p ∈ X.D) {q : Path} (hq : q ∈ X.D) :
    X.A p ≠ X.T q ∧ X.A p ≠ t ∧ X.A p ≠ d ∧ X.T p ≠ t ∧ X.T p ≠ d ∧ t ≠ d := by
  have h1 := hr.nd p hp'
  obtain ⟨ep, h2⟩ := hr.td q hq
  obtain ⟨ep', h3⟩ := hr.td p hp'
  have h4 := hr.tree
  have h5 := hr.ns
  refine ⟨?_, ?_, ?_, ?_, ?_, ?_⟩ <;> intro e
  · rw [e, h2] at h1; exact AO.noConfusion (Option.some.inj h1)
  · rw [e, h4] at h1; exact AO.noConfusion (Option.some.inj h1)
  · rw [e, h5] at h1; exact AO.noConfusion (Option.some.inj h1)
  · rw [e, h4] at h3; exact AO.noConfusion (Option.some.inj h3)
  · rw [e, h5] at h3; exact AO.noConfusion (Option.some.inj h3)
  · rw [e, h5] at h4; exact AO.noConfusion (Option.some.inj h4)
theorem idx_inj {D : List Path} {p q : Path} (hp : p ∈ D) (h : D.idxOf p = D.idxOf q) : p = q := by
  have h1 : D.idxOf p < D.length := List.idxOf_lt_length_of_mem hp
  have h2 : D.idxOf q < D.length := h ▸ h1
  have e1 := List.getElem_idxOf h1
  have e2 := List.getElem_idxOf h2
  rw [← e1, ← e2]; congr 1
theorem Rep.ai {X : Trie} {t d : Addr} {fin ci : Bool} {hp : HP} (hr : Rep X t d fin ci hp) {p q : Path} (h1 : p ∈ X.D) (h2 : q ∈ X.D) (e : X.A p = X.A q) : p = q := by
  have a := hr.nd p h1
  rw [e, hr.nd q h2] at a
  simp only [Trie.nodeAO, node, Option.some.injEq, AO.slot.injEq, List.cons.injEq, AV.int.injEq] at a
  refine idx_inj h1 ?_
  have := a.2.1
  omega
theorem Trie.Wf.trlen {X : Trie} (w : X.Wf) {p : Path} (h : p ∈ X.D) : (X.tr p).length ≤ X.D.length := by
  have : ((X.tr p).map (·.2)).Nodup := by
    have hn := w.trN p h
    have hl := w.trL p h
    generalize X.tr p = l at hn hl
    induction l with
    | nil => simp
    | cons e l ih =>
      simp only [List.map_cons, List.nodup_cons] at hn ⊢
      refine ⟨fun hm => hn.1 ?_, ih hn.2 (fun e' he' => hl e' (List.mem_cons_of_mem _ he'))⟩
      obtain ⟨e', he', x⟩ := List.mem_map.mp hm
      have l1 := hl e (List.mem_cons_self ..)
      have l2 := hl e' (List.mem_cons_of_mem _ he')
      rw [x, l1] at l2
      rw [Option.some.injEq] at l2
      rw [l2]; exact List.mem_map_of_mem (f := (·.1)) he'
  have := nodup_len this (m := X.D) (fun x hx => by obtain ⟨e, he, rfl⟩ := List.mem_map.mp hx; exact w.trD p h e he)
  simpa using this
structure Trie.Ph1 (X : Trie) : Prop where
  wf : X.Wf
  kid1 : ∀ p ∈ X.D, ∀ c, p ++ [c] ∈ X.D → X.look p c = some (p ++ [c])
  kid0 : ∀ p ∈ X.D, ∀ c, p ++ [c] ∉ X.D → X.look p c = none
  lss : ∀ p ∈ X.D, X.lss p = none
  out : ∀ p ∈ X.D, X.out p = none
noncomputable def Trie.grow (X : Trie) (u : Path) (c : Sym) (a b : Addr) : Trie where
  D := X.D ++ [u ++ [c]]
  A := fun p => if p = u ++ [c] then a else X.A p
  T := fun p => if p = u ++ [c] then b else X.T p
  key := X.key
  tr := fun p => if p = u ++ [c] then [] else if p = u then X.tr u ++ [(c, u ++ [c])] else X.tr p
  lss := fun p => if p = u ++ [c] then none else X.lss p
  out := fun p => if p = u ++ [c] then none else X.out p
theorem ne_snoc (u : Path) (c : Sym) : u ≠ u ++ [c] := fun e => by
  have := congrArg List.length e
  simp at this
theorem Trie.grow_ph1 {X : Trie} (h : X.Ph1) {u : Path} {c : Sym} {a b : Addr} (hu : u ∈ X.D) (hn : u ++ [c] ∉ X.D) (hb : ∀ p ∈ X.D, X.T p ≠ b) : (X.grow u c a b).Ph1 := by
  have hne : ∀ p ∈ X.D, p ≠ u ++ [c] := fun p hp e => hn (e ▸ hp)
  have hl0 : X.look u c = none := h.kid0 u hu c hn
  refine ⟨⟨?_, ?_, ?_, ?_, ?_, ?_, ?_, ?_, ?_⟩, ?_, ?_, ?_, ?_⟩
  · exact List.mem_append_left _ h.wf.root
  · refine List.nodup_append.mpr ⟨h.wf.nodup, by simp, ?_⟩
    intro x hx y hy
    simp at hy; subst hy; exact hne x hx
  · intro p c' hp
    rcases List.mem_append.mp hp with h1 | h1
    · exact List.mem_append_left _ (h.wf.closed p c' h1)
    · simp at h1
      obtain ⟨rfl, zu⟩ := h1
      exact List.mem_append_left _ hu
  · intro p hp q hq e
    simp only [Trie.grow] at e hp hq
    rcases List.mem_append.mp hp with h1 | h1 <;> rcases List.mem_append.mp hq with h2 | h2
    · rw [if_neg (hne p h1), if_neg (hne q h2)] at e; exact h.wf.ti p h1 q h2 e
    · simp at h2; subst h2
      rw [if_neg (hne p h1), if_pos rfl] at e; exact absurd e (hb p h1)
    · simp at h1; subst h1
      rw [if_neg (hne q h2), if_pos rfl] at e; exact absurd e.symm (hb q h2)
    · simp at h1 h2; rw [h1, h2]
  · intro p hp e he
    simp only [Trie.grow] at he hp ⊢
    by_cases e1 : p = u ++ [c]
    · simp [e1] at he
    · rw [if_neg e1] at he
      have h1 : p ∈ X.D := by
        rcases List.mem_append.mp hp with x | x
        · exact x
        · simp at x; exact absurd x e1
      by_cases e2 : p = u
      · rw [if_pos e2] at he
        rcases List.mem_append.mp he with x | x
        · exact List.mem_append_left _ (h.wf.trD u hu e x)
        · simp at x; subst x; simp
      · rw [if_neg e2] at he
        exact List.mem_append_left _ (h.wf.trD p h1 e he)
  · intro p hp
    simp only [Trie.grow] at hp ⊢
    by_cases e1 : p = u ++ [c]
    · simp [e1]
    · rw [if_neg e1]
      have h1 : p ∈ X.D := by
        rcases List.mem_append.mp hp with x | x
        · exact x
        · simp at x; exact absurd x e1
      by_cases e2 : p = u
      · rw [if_pos e2, List.map_append]
        refine List.nodup_append.mpr ⟨h.wf.trN u hu, by simp, ?_⟩
        intro x hx y hy
        simp at hy; subst hy
        obtain ⟨e, he, rfl⟩ := List.mem_map.mp hx
        exact lookT_none hl0 e he
      · rw [if_neg e2]; exact h.wf.trN p h1
  · intro p hp e he
    simp only [Trie.grow] at he hp ⊢
    by_cases e1 : p = u ++ [c]
    · simp [e1] at he
    · rw [if_neg e1] at he
      have h1 : p ∈ X.D := by
        rcases List.mem_append.mp hp with x | x
        · exact x
        · simp at x; exact absurd x e1
      by_cases e2 : p = u
      · rw [if_pos e2] at he
        rcases List.mem_append.mp he with x | x
        · exact h.wf.trL u hu e x
        · simp at x; subst x; simp
      · rw [if_neg e2] at he
        exact h.wf.trL p h1 e he
  · intro p hp
    exact h.wf.mkD p (fun x => hp (List.mem_append_left _ x))
  · exact h.wf.mkV
  · intro p hp c' hm
    simp only [Trie.grow, Trie.look] at hp hm ⊢
    by_cases e1 : p = u ++ [c]
    · exfalso
      rcases List.mem_append.mp hm with x | x
      · exact hn (e1 ▸ h.wf.closed _ _ x)
      · simp [e1] at x
    · rw [if_neg e1]
      have h1 : p ∈ X.D := by
        rcases List.mem_append.mp hp with x | x
        · exact x
        · simp at x; exact absurd x e1
      by_cases e2 : p = u
      · subst e2
        rw [if_pos rfl, lookT_append]
        by_cases e3 : p ++ [c'] ∈ X.D
        · have := h.kid1 p h1 c' e3
          simp only [Trie.look] at this
          rw [this]; rfl
        · have := h.kid0 p h1 c' e3
          simp only [Trie.look] at this
          rw [this]
          rcases List.mem_append.mp hm with x | x
          · exact absurd x e3
          · simp at x; subst x; simp [lookT]
      · rw [if_neg e2]
        rcases List.mem_append.mp hm with x | x
        · exact h.kid1 p h1 c' x
        · simp at x
          exact absurd x.1 e2
  · intro p hp c' hm
    simp only [Trie.grow, Trie.look] at hp hm ⊢
    by_cases e1 : p = u ++ [c]
    · rw [if_pos e1]; rfl
    · rw [if_neg e1]
      have h1 : p ∈ X.D := by
        rcases List.mem_append.mp hp with x | x
        · exact x
        · simp at x; exact absurd x e1
      have e3 : p ++ [c'] ∉ X.D := fun x => hm (List.mem_append_left _ x)
      have := h.kid0 p h1 c' e3
      simp only [Trie.look] at this
      by_cases e2 : p = u
      · subst e2
        rw [if_pos rfl, lookT_append, this]
        have : c ≠ c' := fun e => hm (by simp [e])
        simp [lookT, this]
      · rw [if_neg e2, this]
  · intro p hp
    simp only [Trie.grow] at hp ⊢
    split
    · rfl
    · rename_i e1
      rcases List.mem_append.mp hp with x | x
      · exact h.lss p x
      · simp at x; exact absurd x e1
  · intro p hp
    simp only [Trie.grow] at hp ⊢
    split
    · rfl
    · rename_i e1
      rcases List.mem_append.mp hp with x | x
      · exact h.out p x
      · simp at x; exact absurd x e1
end
section
variable {C : Cf} {A : Around} {E : Value → Shared → Prop}
theorem lk_eq {l : List (Str × AV)} {x : Str} {v : AV} : (setL l x v).lookup x = some v := by rw [lookup_setL]; simp
theorem lk_ne {l : List (Str × AV)} {x y : Str} {v : AV} {r : Option AV} (h : l.lookup y = r) (hn : autoParam (y ≠ x) AC.aux1._auto_1) : (setL l x v).lookup y = r := by rw [lookup_setL, if_neg hn]; exact h
noncomputable def chars (x : Str) : List AV := x.cps.toList.map fun c => .str ⟨#[c]⟩
theorem chars_get {x : Str} {i : Nat} {y : AV} (h : (chars x)[i]? = some y) : ∃ c, x.cps[i]? = some c ∧ y = .str ⟨#[c]⟩ := by
  unfold chars at h
  rw [List.getElem?_map, Option.map_eq_some_iff] at h
  obtain ⟨c, h1, h2⟩ := h
  exact ⟨c, by rw [← h1]; simp, h2.symm⟩
theorem chars_len (x : Str) : (chars x).length = x.cps.size := by simp [chars]
theorem strIt_cases (x : Str) : (strIterType x = "str_ascii_iterator") ∨ strIterType x = "str_iterator" := by
  unfold strIterType; split <;> simp
theorem iter_str {σ : ASt} {env : Env} {target : Expr} {x : Str} (hA : A.handled = none) : IterA C A E env target (.str x) (chars x) (fun zu => True) σ := by
  intro F G s v hR hv
  obtain ⟨t, rfl⟩ := hv.strI
  refine wpAny_pyIter_strU ?_
  have key : ∀ c, strIterType x = c → owners7.contains c = false → Walks C.prog C.w A s.heap.objs.size [s.heap.objs.size] [s.heap.objs.size] x.cps.size (SignAt x) (fun i h => h.IsStrIter s.heap.objs.size c x t i) →
      HeldM C A F G env σ target (chars x) (fun zu => True) (.ref s.heap.objs.size) ⟨s.heap.push { cls := .type (strIterType x), data := .fields #[.str x t, .int 0 0] }, s.gens, s.drawn, s.toks, s.os⟩ := fun c hc hn W => by
    refine HeldM.ofWk (Wk.ofWalks W (chars_len x) (fun i y v hy hP => ?_) (fun b hb => .inl hb) (fun i h st b hb => ?_) c hn fun i h st => ?_) hR ⟨_, Heap.get?_push_size _ rfl, by rw [hc], rfl⟩ (fun b hb => ?_) fun b ob e => Heap.get?_push_of_some _ e
    · obtain ⟨c, hc, rfl⟩ := chars_get hy
      obtain ⟨c', u, hc', rfl⟩ := hP
      rw [hc] at hc'; (have zc := Option.some.inj hc'; clear hc'; subst zc)
      exact .str _ _
    · obtain ⟨o, ho, h1, h2⟩ := st
      rw [List.mem_singleton.mp hb]
      exact ⟨o, ho, inert_fields h2⟩
    · obtain ⟨o, ho, h1, h2⟩ := st
      exact ⟨o, ho, h1⟩
    · rw [List.mem_singleton.mp hb]; exact Nat.le_refl _
  rcases strIt_cases x with e | e
  · exact key _ e (by decide) (Walks.strAscii hA _ x t)
  · exact key _ e (by decide) (Walks.strWide hA _ x t)
inductive SeqV : AV → List AV → HP → Prop
  | str {x hp} : x.length ≤ 100000 → SeqV (.str x) (chars x) hp
theorem SeqV.fr {P P' : Addr → Prop} {hp hp' : HP} {kw : AV} {xs : List AV} (h : SeqV kw xs hp) (sep : ∀ a, kw = .ref a → ¬ P a) (f : Fr' P hp P' hp') : SeqV kw xs hp' := by
  cases h with
  | str h => exact .str h
theorem iter_seq {env : Env} {target : Expr} {kw : AV} {xs : List AV} {σ : ASt} (h : SeqV kw xs σ.hp) (ht : quietTarget target) (hA : A.handled = none) :
    IterA C A E env target kw xs (fun hp => SeqV kw xs hp) σ := by
  cases h with
  | str h => exact (iter_str hA).weak fun zu zu => trivial
theorem len_seq {env : Env} {kw : AV} {xs : List AV} {σ : ASt} {Q : AV → ASt → Prop} (h : SeqV kw xs σ.hp) (q : Q (.int xs.length) σ) : CallA C A E env (.val (.builtin "len")) [] [kw] [] σ Q := by
  cases h with
  | str h => exact len_str' h (by rw [chars_len] at q; exact q)
noncomputable def AddPost (X : Trie) (w : Path) (kw : AV) (t d : Addr) (ci : Bool) (hp hp' : HP) : Prop :=
  ∃ X' : Trie, X'.Ph1 ∧ Rep X' t d false ci hp' ∧ Fr' (Fp X t d) hp (Fp X' t d) hp' ∧ (∀ p, p ∈ X'.D ↔ p ∈ X.D ∨ p <+: w) ∧
    (∀ p, X'.key p = if w ≠ [] ∧ p = w then some kw else X.key p) ∧ X'.D.length ≤ X.D.length + w.length ∧ X'.A [] = X.A []
theorem grow_rep {X : Trie} {t d : Addr} {ci : Bool} {hp hp' : HP} (h : X.Ph1) (hr : Rep X t d false ci hp) {u : Path} {c : Sym} (hu : u ∈ X.D) (hn : u ++ [c] ∉ X.D) {a b : Addr} (ha : hp a = none) (hb : hp b = none) (hab : b ≠ a)
    (h1 : hp' a = some (node X.D.length .none .none none (.ref (X.A u)) false c.av b)) (h2 : hp' b = some (.dict [] 0))
    (h3 : hp' d = some (.ns (treeNs (X.A []) (X.D.length + 1) false ci))) (h4 : ∃ ep, hp' (X.T u) = some (.dict (X.trv u ++ [(c, .ref a)]) ep))
    (h5 : ∀ x, x ≠ a → x ≠ b → x ≠ d → x ≠ X.T u → hp' x = hp x) :
    (X.grow u c a b).Ph1 ∧ Rep (X.grow u c a b) t d false ci hp' ∧ Fr' (Fp X t d) hp (Fp (X.grow u c a b) t d) hp' := by
  have hne : ∀ p ∈ X.D, p ≠ u ++ [c] := fun p hp e => hn (e ▸ hp)
  have hAa : ∀ p ∈ X.D, X.A p ≠ a := fun p h e => by rw [← e, hr.nd p h] at ha; exact sn_ne ha
  have hAb : ∀ p ∈ X.D, X.A p ≠ b := fun p h e => by rw [← e, hr.nd p h] at hb; exact sn_ne hb
  have hTa : ∀ p ∈ X.D, X.T p ≠ a := fun p h e => by obtain ⟨ep, x⟩ := hr.td p h; rw [← e, x] at ha; exact sn_ne ha
  have hTb : ∀ p ∈ X.D, X.T p ≠ b := fun p h e => by obtain ⟨ep, x⟩ := hr.td p h; rw [← e, x] at hb; exact sn_ne hb
  have hdl : ∀ p ∈ X.D, p.dropLast ∈ X.D := fun p hp => by
    rcases List.eq_nil_or_concat p with rfl | ⟨q, e, rfl⟩
    · exact hp
    · simp only [List.concat_eq_append, List.dropLast_concat] at hp ⊢; exact h.wf.closed q e hp
  have hA : ∀ p ∈ X.D, (X.grow u c a b).A p = X.A p := fun p hp => if_neg (hne p hp)
  have hT : ∀ p ∈ X.D, (X.grow u c a b).T p = X.T p := fun p hp => if_neg (hne p hp)
  have hnd : ∀ p ∈ X.D, (X.grow u c a b).nodeAO p = X.nodeAO p := fun p hp => by
    have e1 : (X.grow u c a b).D.idxOf p = X.D.idxOf p := by
      simp only [Trie.grow]; rw [List.idxOf_append, if_pos hp]
    have e2 : (X.grow u c a b).lssv p = X.lssv p := by
      have : (X.grow u c a b).lss p = X.lss p := if_neg (hne p hp)
      simp only [Trie.lssv, this, h.lss p hp]
    have e3 : (X.grow u c a b).parv p = X.parv p := by
      simp only [Trie.parv]
      rw [hA _ (hdl p hp)]
    have e4 : (X.grow u c a b).out p = X.out p := if_neg (hne p hp)
    simp only [Trie.nodeAO, e1, e2, e3, e4, hT p hp]
    rfl
  have htr : ∀ p ∈ X.D, p ≠ u → (X.grow u c a b).trv p = X.trv p := fun p hp hpu => by
    have : (X.grow u c a b).tr p = X.tr p := by simp only [Trie.grow]; rw [if_neg (hne p hp), if_neg hpu]
    simp only [Trie.trv, this]
    exact List.map_congr_left (fun e he => by rw [hA _ (h.wf.trD p hp e he)])
  refine ⟨Trie.grow_ph1 h hu hn hTb, ⟨?_, ?_, ?_, ?_⟩, ⟨?_, ?_⟩⟩
  · rw [h5 t]
    · exact hr.tree
    · rintro rfl; rw [hr.tree] at ha; exact sn_ne ha
    · rintro rfl; rw [hr.tree] at hb; exact sn_ne hb
    · exact (Trie.Wf.dist hr hu hu).2.2.2.2.2
    · exact (Trie.Wf.dist hr hu hu).2.2.2.1.symm
  · rw [h3, hA _ h.wf.root]
    simp only [Trie.grow, List.length_append, List.length_singleton]
    rfl
  · intro p hp
    rcases List.mem_append.mp hp with hp | hp
    · rw [hA p hp, hnd p hp, h5 _ (hAa p hp) (hAb p hp) (Trie.Wf.dist hr hp hp).2.2.1 (Trie.Wf.dist hr hp hu).1]
      exact hr.nd p hp
    · simp at hp; subst hp
      have e0 : (X.grow u c a b).A (u ++ [c]) = a := if_pos rfl
      rw [e0, h1]
      have e1 : (X.grow u c a b).D.idxOf (u ++ [c]) = X.D.length := by
        simp only [Trie.grow]; rw [List.idxOf_append, if_neg hn]; simp
      have e2 : (X.grow u c a b).lssv (u ++ [c]) = .none := by
        have : (X.grow u c a b).lss (u ++ [c]) = none := if_pos rfl
        simp only [Trie.lssv, this]
      have e3 : (X.grow u c a b).parv (u ++ [c]) = .ref (X.A u) := by
        simp only [Trie.parv]
        rw [if_neg (by simp), List.dropLast_concat, hA u hu]
      have e4 : (X.grow u c a b).out (u ++ [c]) = none := if_pos rfl
      have e5 : (X.grow u c a b).T (u ++ [c]) = b := if_pos rfl
      have e6 : (X.grow u c a b).key (u ++ [c]) = none := h.wf.mkD _ hn
      simp only [Trie.nodeAO, e1, e2, e3, e4, e5, e6, symv, List.getLast?_concat]
      rfl
  · intro p hp
    rcases List.mem_append.mp hp with hp | hp
    · rw [hT p hp]
      by_cases e : p = u
      · subst e
        obtain ⟨ep, x⟩ := h4
        refine ⟨ep, ?_⟩
        rw [x]
        have : (X.grow p c a b).tr p = X.tr p ++ [(c, p ++ [c])] := by simp only [Trie.grow]; rw [if_neg (ne_snoc p c)]; simp
        simp only [Trie.trv, this, List.map_append]
        have e0 : (X.grow p c a b).A (p ++ [c]) = a := if_pos rfl
        have : (X.tr p).map (fun e => (e.1, AV.ref ((X.grow p c a b).A e.2))) = (X.tr p).map (fun e => (e.1, AV.ref (X.A e.2))) :=
          List.map_congr_left (fun e he => by rw [hA _ (h.wf.trD p hu e he)])
        rw [this]
        simp only [List.map_cons, List.map_nil, e0]
      · obtain ⟨ep, x⟩ := hr.td p hp
        refine ⟨ep, ?_⟩
        rw [htr p hp e, h5 _ (hTa p hp) (hTb p hp) (Trie.Wf.dist hr hp hp).2.2.2.2.1 (fun q => e (h.wf.ti p hp u hu q))]
        exact x
    · simp at hp; subst hp
      have e5 : (X.grow u c a b).T (u ++ [c]) = b := if_pos rfl
      have : (X.grow u c a b).tr (u ++ [c]) = [] := if_pos rfl
      refine ⟨0, ?_⟩
      rw [e5, h2]; simp only [Trie.trv, this]; rfl
  · intro x hx hP
    refine h5 x ?_ ?_ ?_ ?_
    · rintro rfl; exact hx ha
    · rintro rfl; exact hx hb
    · rintro rfl; exact hP (.inr (.inl rfl))
    · rintro rfl; exact hP (.inr (.inr ⟨u, hu, .inr rfl⟩))
  · rintro x (rfl | rfl | ⟨p, hp, e⟩)
    · exact .inl (.inl rfl)
    · exact .inl (.inr (.inl rfl))
    · rcases List.mem_append.mp hp with hp | hp
      · rw [hA p hp, hT p hp] at e
        exact .inl (.inr (.inr ⟨p, hp, e⟩))
      · simp at hp; subst hp
        have e0 : (X.grow u c a b).A (u ++ [c]) = a := if_pos rfl
        have e5 : (X.grow u c a b).T (u ++ [c]) = b := if_pos rfl
        rw [e0, e5] at e
        rcases e with rfl | rfl
        · exact .inr ha
        · exact .inr hb
noncomputable def Trie.setKey (X : Trie) (w : Path) (kw : AV) : Trie := { X with key := fun p => if p = w then some kw else X.key p }
theorem setKey_rep {X : Trie} {t d : Addr} {ci : Bool} {hp : HP} (h : X.Ph1) (hr : Rep X t d false ci hp) {w : Path} (hw : w ∈ X.D) {kw : AV} (hk : ∀ u, kw ≠ .val u) :
    (X.setKey w kw).Ph1 ∧ Rep (X.setKey w kw) t d false ci (upd hp (X.A w) ((X.setKey w kw).nodeAO w)) := by
  refine ⟨⟨⟨h.wf.root, h.wf.nodup, h.wf.closed, h.wf.ti, h.wf.trD, h.wf.trN, h.wf.trL, ?_, ?_⟩, h.kid1, h.kid0, h.lss, h.out⟩, ⟨?_, ?_, ?_, ?_⟩⟩
  · intro p hp
    simp only [Trie.setKey] at hp ⊢
    rw [if_neg (by rintro rfl; exact hp hw)]; exact h.wf.mkD p hp
  · intro p v hv
    simp only [Trie.setKey] at hv
    split at hv
    · (have zc := Option.some.inj hv; clear hv; subst zc); exact hk
    · exact h.wf.mkV p v hv
  · rw [upd_ne _ _ (Trie.Wf.dist hr hw hw).2.1.symm]; exact hr.tree
  · rw [upd_ne _ _ (Trie.Wf.dist hr hw hw).2.2.1.symm]; exact hr.ns
  · intro p hp
    by_cases e : p = w
    · subst e; exact upd_self _ _ _
    · have : (X.setKey w kw).nodeAO p = X.nodeAO p := by
        have : (X.setKey w kw).key p = X.key p := if_neg e
        simp only [Trie.nodeAO, this]; rfl
      rw [this]
      exact (upd_ne _ _ (fun q => e (hr.ai hp hw q))).trans (hr.nd p hp)
  · intro p hp
    obtain ⟨ep, x⟩ := hr.td p hp
    exact ⟨ep, (upd_ne _ _ (Trie.Wf.dist hr hw hp).1.symm).trans x⟩
end
section
/-! pure code: no old object changes; what is tracked (hp) stays as told -/
theorem GEq.trans {a b c : Obj} (h : GEq a b) (k : GEq b c) : GEq a c := by
  rcases h with rfl | ⟨⟨es, ep, e⟩, sl, rfl⟩
  · exact k
  · rcases k with rfl | ⟨zu, sl', rfl⟩
    · exact .inr ⟨⟨es, ep, e⟩, sl, rfl⟩
    · exact .inr ⟨⟨es, ep, e⟩, sl', rfl⟩
theorem get_top (h : Heap) : h.get? h.objs.size = none := by
  cases q : h.get? h.objs.size with
  | none => rfl
  | some o => exact absurd (Heap.lt_size q) (Nat.lt_irrefl _)
noncomputable def FrP (hp : HP) (F : FH) (h : Heap) (e : Env) : Prop := e.scope.kind ≠ .module ∧ ∃ L, e.frame = some L ∧ F L = none ∧ hp L = none ∧ ∃ o, h.get? L = some o ∧ ∃ es ep, o.data = .dict es ep
structure Wp (C : Cf) (A : Around) (hp : HP) (F : FH) (s : Shared) : Prop where
  base : ∀ b o, C.h0.get? b = some o → F b = some o
  fz : ∀ b o, F b = some o → s.heap.get? b = some o
  ob : ∀ a x, hp a = some x → F a = none ∧ ∃ o, s.heap.get? a = some o ∧ OR C F s.gens x o
  os : s.os = C.os
  bare : AllBare s.gens
  gi : ∀ a b g gs gs', hp a = some (.gen g gs) → hp b = some (.gen g gs') → a = b
  fr : ∃ l, A.frames = some l ∧ ∀ e ∈ l, FrP hp F s.heap e
section
variable {C : Cf} {A : Around} {hp : HP} {s s' : Shared} {env : Env} {F F' : FH}
theorem Wp.old (w : Wp C A hp F s) : ∀ b o, C.h0.get? b = some o → s.heap.get? b = some o := fun b o e => w.fz _ _ (w.base _ _ e)
theorem Wp.dead (w : Wp C A hp F s) {a : Addr} (hn : s.heap.get? a = none) : F a = none ∧ hp a = none := by
  refine ⟨?_, ?_⟩
  · cases q : F a with
    | none => rfl
    | some o' => have := w.fz _ _ q; rw [hn] at this; exact ns_ne this
  · cases q : hp a with
    | none => rfl
    | some x => obtain ⟨zu, o, h, zu⟩ := w.ob _ _ q; rw [hn] at h; exact ns_ne h
theorem Wp.turn (w : Wp C A hp F s) {h' : Heap} {t : Nat} {X : Addr → Prop} (e : Ext F F') (hi : ∀ b o, F' b = some o → h'.get? b = some o) (hX : ∀ b x, X b → hp b ≠ some x) (hfr : ∀ b o, s.heap.get? b = some o → F b = none → F' b = none)
    (hf : ∀ l, A.frames = some l → ∀ e ∈ l, ∀ L, e.frame = some L → ¬ X L) (k : ∀ b o, ¬ X b → s.heap.get? b = some o → h'.get? b = some o) : Wp C A hp F' ⟨h', s.gens, s.drawn, t, s.os⟩ :=
  ⟨fun b o q => e _ _ (w.base b o q), hi, fun a x q => let ⟨p, o, ho, r⟩ := w.ob a x q; ⟨hfr _ _ ho p, o, k _ _ (fun z => hX a x z q) ho, r.mono e⟩, w.os, w.bare, w.gi,
    let ⟨l, a, b⟩ := w.fr; ⟨l, a, fun y hy => let ⟨p, L, q1, q2, q3, o, q4, q5⟩ := b y hy; ⟨p, L, q1, hfr _ _ q4 q2, q3, o, k _ _ (hf l a y hy L q1) q4, q5⟩⟩⟩
theorem Wp.frOff (w : Wp C A hp F s) {X : Addr → Prop} (hX : ∀ b, X b → s.heap.get? b = none) : ∀ l, A.frames = some l → ∀ e ∈ l, ∀ L, e.frame = some L → ¬ X L := fun l hl e he L hL hx => by
  obtain ⟨l', a, b⟩ := w.fr
  rw [hl] at a; (have zc := Option.some.inj a; clear a; subst zc)
  obtain ⟨zu, L', q1, zu, zu, o, q4, zu⟩ := b e he
  rw [hL] at q1; (have zc := Option.some.inj q1; clear q1; subst zc)
  rw [hX L hx] at q4; exact ns_ne q4
noncomputable abbrev PV := AV × Bool
inductive PVR (hp : HP) (F : FH) : PV → Value → Prop
  | val {a v} (r : VR F a v) : PVR hp F (a, false) v
  | own {xs a} (ho : hp a = some (.list xs)) : PVR hp F (.lst xs, true) (.ref a)
theorem PVR.out {a : AV} {v : Value} (r : PVR hp F (a, false) v) : VR F a v := by
  cases r with | val r => exact r
theorem PVR.mono {pv : PV} {v : Value} (r : PVR hp F pv v) (e : Ext F F') : PVR hp F' pv v := by
  cases r with
  | val r => exact .val (r.mono e)
  | own ho => exact .own ho
inductive PVRs (hp : HP) (F : FH) : List PV → List Value → Prop
  | nil : PVRs hp F [] []
  | cons {x xs v vs} (a : PVR hp F x v) (b : PVRs hp F xs vs) : PVRs hp F (x :: xs) (v :: vs)
structure Stp (C : Cf) (A : Around) (hp : HP) (F : FH) (s : Shared) (F' : FH) (s' : Shared) : Prop where
  w : Wp C A hp F s
  w' : Wp C A hp F' s'
  e : Ext F F'
  kg : ∀ b o, s.heap.get? b = some o → hp b = none → ∃ o', s'.heap.get? b = some o' ∧ GEq o o'
  new : ∀ b o, F' b = some o → F b = some o ∨ s.heap.get? b = none
theorem Stp.live (st : Stp C A hp F s F' s') {b : Addr} {o : Obj} (h : s.heap.get? b = some o) : ∃ o', s'.heap.get? b = some o' := by
  cases q : hp b with
  | none => obtain ⟨o', h, zu⟩ := st.kg b o h q; exact ⟨o', h⟩
  | some x => obtain ⟨zu, o', h, zu⟩ := st.w'.ob b x q; exact ⟨o', h⟩
theorem Stp.dead (st : Stp C A hp F s F' s') {b : Addr} (h : s'.heap.get? b = none) : s.heap.get? b = none := by
  cases q : s.heap.get? b with
  | none => rfl
  | some o => obtain ⟨o', z⟩ := st.live q; rw [h] at z; exact ns_ne z
theorem Stp.k (st : Stp C A hp F s F' s') {b : Addr} {o : Obj} (h : s.heap.get? b = some o) (hb : hp b = none) (hd : ∀ es ep, o.data ≠ .dict es ep) : s'.heap.get? b = some o := by
  obtain ⟨o', h, g⟩ := st.kg b o h hb
  rw [h, g.exact hd]
theorem Stp.trans {F₁ F₂ : FH} {s₁ s₂ : Shared} (a : Stp C A hp F s F₁ s₁) (b : Stp C A hp F₁ s₁ F₂ s₂) : Stp C A hp F s F₂ s₂ := by
  refine ⟨a.w, b.w', a.e.trans b.e, fun x o e q => ?_, fun x o e => ?_⟩
  · obtain ⟨o', h, g⟩ := a.kg x o e q
    obtain ⟨o2, h, g2⟩ := b.kg x o' h q
    exact ⟨o2, h, g.trans g2⟩
  · rcases b.new x o e with q | q
    · exact a.new x o q
    · exact .inr (a.dead q)
theorem Stp.mk' (w : Wp C A hp F s) {h' : Heap} {t : Nat} (e : Ext F F') (k : ∀ b o, s.heap.get? b = some o → h'.get? b = some o) (new : ∀ b o, F' b = some o → F b = some o ∨ s.heap.get? b = none) (inn : ∀ b o, F' b = some o → h'.get? b = some o) : Stp C A hp F s F' ⟨h', s.gens, s.drawn, t, s.os⟩ :=
  ⟨w, w.turn (X := fun zu => False) e inn (fun zu zu z => z.elim) (fun b o ho hb => by
    cases q : F' b with
    | none => rfl
    | some o' =>
      rcases new b o' q with z | z
      · rw [hb] at z; exact ns_ne z
      · rw [ho] at z; exact sn_ne z) (fun zu zu zu zu zu zu => id) (fun b o zu => k b o), e, fun b o h zu => ⟨o, k _ _ h, .inl rfl⟩, new⟩
theorem Stp.keep (w : Wp C A hp F s) {h' : Heap} {t : Nat} (k : ∀ b o, s.heap.get? b = some o → h'.get? b = some o) : Stp C A hp F s F ⟨h', s.gens, s.drawn, t, s.os⟩ :=
  .mk' w (Ext.refl F) k (fun zu zu e => .inl e) (fun b o e => k _ _ (w.fz _ _ e))
theorem Stp.refl (w : Wp C A hp F s) : Stp C A hp F s F s := ⟨w, w, Ext.refl F, fun zu o h zu => ⟨o, h, .inl rfl⟩, fun zu zu e => .inl e⟩
theorem Stp.put (w : Wp C A hp F s) {h' : Heap} {t : Nat} {a : Addr} {o : Obj} (k : ∀ b o, s.heap.get? b = some o → h'.get? b = some o) (ho : h'.get? a = some o) (hn : s.heap.get? a = none) : Stp C A hp F s (fput F a o) ⟨h', s.gens, s.drawn, t, s.os⟩ := by
  refine .mk' w (fput_ext o (w.dead hn).1) k (fun b o' e => ?_) (fun b o' e => ?_)
  · by_cases q : b = a
    · exact .inr (q ▸ hn)
    · rw [fput_ne _ _ q] at e; exact .inl e
  · by_cases q : b = a
    · subst q; rw [fput_self] at e; (have zc := Option.some.inj e; clear e; subst zc); exact ho
    · rw [fput_ne _ _ q] at e; exact k _ _ (w.fz _ _ e)
theorem Stp.push (w : Wp C A hp F s) {t : Nat} {o : Obj} (hf : o.isFreed = false) : Stp C A hp F s (fput F s.heap.objs.size o) ⟨s.heap.push o, s.gens, s.drawn, t, s.os⟩ :=
  .put w (fun zu zu e => Heap.get?_push_of_some _ e) (Heap.get?_push_size _ hf) (get_top _)
theorem PVR.step {pv : PV} {v : Value} (r : PVR hp F pv v) (st : Stp C A hp F s F' s') : PVR hp F' pv v := r.mono st.e
theorem Ns.geq {h h' : Heap} {L : Addr} {m : Str → Option Value} (n : h.Ns L m) (k : ∀ o, h.get? L = some o → ∃ o', h'.get? L = some o' ∧ GEq o o') : h'.Ns L m := by
  obtain ⟨o, es, ep, ho, hd, r⟩ := n
  obtain ⟨o', ho', g⟩ := k o ho
  exact ⟨o', es, ep, ho', g.data.trans hd, r⟩
inductive NmAt (hp : HP) (h : Heap) (env : Env) (x : Str) (v : Value) : Prop
  | loc {m} (hk : env.kindOf x = some .local) (hn : h.Ns env.locals m) (e : m x = some v) (ho : hp env.locals = none)
  | cell {c} (hk : env.kindOf x = some .cell) (hc : env.cells.lookup x = some c) (hi : h.IsCell c (some v)) (ho : hp c = none)
  | free {c} (hk : env.kindOf x = some .free) (hc : env.cells.lookup x = some c) (hi : h.IsCell c (some v)) (ho : hp c = none)
theorem NmAt.step {x : Str} {v : Value} (n : NmAt hp s.heap env x v) (st : Stp C A hp F s F' s') : NmAt hp s'.heap env x v := by
  cases n with
  | loc hk hn e ho => exact .loc hk (Ns.geq hn fun o h => st.kg _ o h ho) e ho
  | cell hk hc hi ho => obtain ⟨o, h, r⟩ := hi; exact .cell hk hc ⟨o, st.k h ho (fun es ep q => by rw [r] at q; cases q), r⟩ ho
  | free hk hc hi ho => obtain ⟨o, h, r⟩ := hi; exact .free hk hc ⟨o, st.k h ho (fun es ep q => by rw [r] at q; cases q), r⟩ ho
noncomputable abbrev PL := List (Str × PV)
structure PCtx (C : Cf) (A : Around) (hp : HP) (F : FH) (s : Shared) (env : Env) (loc : PL) : Prop where
  wp : Wp C A hp F s
  kind : env.scope.kind = .function
  glob : env.globals = mainGlobals ∧ env.builtins = builtinsNs
  cells : ∀ x, env.kindOf x = some .cell → (env.cells.lookup x).isSome = true
  nm : ∀ x pv, loc.lookup x = some pv → ∃ v, PVR hp F pv v ∧ NmAt hp s.heap env x v
theorem PCtx.step {loc : PL} (c : PCtx C A hp F s env loc) (st : Stp C A hp F s F' s') : PCtx C A hp F' s' env loc :=
  ⟨st.w', c.kind, c.glob, c.cells, fun x pv e => let ⟨v, a, b⟩ := c.nm x pv e; ⟨v, a.step st, b.step st⟩⟩
inductive PuQ {α : Type} (C : Cf) (A : Around) (hp : HP) (F : FH) (s : Shared) (R : FH → α → Prop) (v : α) (s' : Shared) : Prop
  | mk (F' : FH) (st : Stp C A hp F s F' s') (r : R F' v)
theorem PuQ.pre {α : Type} {R : FH → α → Prop} {v : α} {F₁ : FH} {s₁ : Shared} (st : Stp C A hp F s F₁ s₁) (q : PuQ C A hp F₁ s₁ R v s') : PuQ C A hp F s R v s' := by
  obtain ⟨F', st', r⟩ := q
  exact ⟨F', st.trans st', r⟩
structure PT {α β : Type} (C : Cf) (A : Around) (hp : HP) (env : Env) (loc : PL) (R : FH → β → α → Prop) (t : Sem α) (b : β) : Prop where
  go : ∀ F s (E : Value → Shared → Prop), PCtx C A hp F s env loc → wpAny (model C.prog C.w) A t (PuQ C A hp F s fun F' v => R F' b v) E s
theorem PT.use {α β : Type} {loc : PL} {R : FH → β → α → Prop} {t : Sem α} {b : β} (h : PT C A hp env loc R t b) (c : PCtx C A hp F s env loc) {E : Value → Shared → Prop} {P : α → Shared → Prop}
    (k : ∀ F' s' v, Stp C A hp F s F' s' → PCtx C A hp F' s' env loc → R F' b v → P v s') : wpAny (model C.prog C.w) A t P E s :=
  wpAny_mono (h.go F s E c) (fun v s' ⟨F', st, r⟩ => k F' s' v st (c.step st) r) fun zu zu x => x
noncomputable abbrev PE (C : Cf) (A : Around) (hp : HP) (env : Env) (loc : PL) (e : Expr) (pv : PV) : Prop := PT C A hp env loc (PVR hp) (eval e env) pv
noncomputable abbrev PB (C : Cf) (A : Around) (hp : HP) (env : Env) (loc : PL) (e : Expr) (b : Bool) : Prop := PT C A hp env loc (fun zu b b' => b = b') (isTrue e env (eval e env)) b
noncomputable def PO1 {α β : Type} (C : Cf) (A : Around) (hp : HP) (R : FH → β → α → Prop) (f : Value → Sem α) (x : PV) (b : β) : Prop :=
  ∀ F s (E : Value → Shared → Prop) v, Wp C A hp F s → PVR hp F x v → wpAny (model C.prog C.w) A (f v) (PuQ C A hp F s fun F' v => R F' b v) E s
noncomputable def PO2 {α β : Type} (C : Cf) (A : Around) (hp : HP) (R : FH → β → α → Prop) (f : Value → Value → Sem α) (x y : PV) (b : β) : Prop :=
  ∀ F s (E : Value → Shared → Prop) v u, Wp C A hp F s → PVR hp F x v → PVR hp F y u → wpAny (model C.prog C.w) A (f v u) (PuQ C A hp F s fun F' v => R F' b v) E s
section
variable {loc : PL}
theorem PuQ.here {α : Type} {R : FH → α → Prop} {v : α} (w : Wp C A hp F s) {t : Nat} (r : R F v) : PuQ C A hp F s R v { s with toks := t } := ⟨F, .keep (t := t) w fun zu zu e => e, r⟩
theorem PE_bool {b k pos} : PE C A hp env loc (.Constant (.bool b) k pos) (.bool b, false) := .mk fun F s E c => wpAny_pure (PuQ.here (t := s.toks) c.wp (.val (.bool b)))
theorem PE_int {i k pos} : PE C A hp env loc (.Constant (.int i) k pos) (.int i, false) := .mk fun F s E c => wpAny_Constant_int (PuQ.here c.wp (.val (.int i _)))
theorem PE_str {x k pos} : PE C A hp env loc (.Constant (.str x) k pos) (.str x, false) := .mk fun F s E c => wpAny_mkText (PuQ.here c.wp (.val (.str x _)))
theorem PE_Name {x pos pv} (h : loc.lookup x = some pv) (hd : autoParam ((x == ("__debug__" : Str)) = false) AC.aux1._auto_1) (hn : autoParam ((x == ("__classdict__" : Str)) = false) AC.aux1._auto_1) : PE C A hp env loc (.Name x pos) pv := .mk fun F s E c => by
  obtain ⟨v, r, n⟩ := c.nm x pv h
  have q : PuQ C A hp F s (fun F' v => PVR hp F' pv v) v s := PuQ.here (t := s.toks) c.wp r
  refine wpAny_Name ?_ hd
  cases n with
  | loc hk hn e zu => exact wpAny_loadName_local c.kind hk hn e q
  | cell hk hc hi zu => exact wpAny_loadName_cell c.kind hk hc hi q
  | free hk hc hi zu => exact wpAny_loadName_free c.kind hk hc hi q hn
theorem PE_Glob {x pos v} {av : AV} (hg : GL C x v) (ha : VR (fun b => C.h0.get? b) av v) (hk : autoParam (env.kindOf x = some .globalImplicit) AC.aux0._auto_1) (hd : autoParam ((x == ("__debug__" : Str)) = false) AC.aux1._auto_1) : PE C A hp env loc (.Name x pos) (av, false) := .mk fun F s E c => by
  refine wpAny_Name ?_ hd
  rw [load_glob c.kind hk]
  exact hg env c.glob.1 c.glob.2 A _ E s c.wp.old (PuQ.here (t := s.toks) c.wp (.val (ha.mono c.wp.base)))
theorem PE_Bin {l r : Expr} {op : Operator} {pos : Pos} {a b x : PV} (h1 : PE C A hp env loc l a) (h2 : PE C A hp env loc r b) (h : PO2 C A hp (PVR hp) (binaryOp op) a b x) : PE C A hp env loc (.BinOp l op r pos) x := .mk fun F s E c =>
  wpAny_BinOp (h1.use c fun F₁ s₁ v₁ st₁ c₁ r₁ => h2.use c₁ fun F₂ s₂ v₂ st₂ c₂ r₂ => wpAny_mono (h F₂ s₂ E v₁ v₂ c₂.wp (r₁.step st₂) r₂) (fun zu zu q => q.pre (st₁.trans st₂)) fun zu zu x => x)
theorem PE_Cmp {l r : Expr} {op : CmpOp} {pos : Pos} {a b x : PV} (h1 : PE C A hp env loc l a) (h2 : PE C A hp env loc r b) (h : PO2 C A hp (PVR hp) (compareOp op) a b x) (hm : autoParam (behindInMarks op r = false) AC.aux2._auto_1) : PE C A hp env loc (.Compare l [op] [r] pos) x := .mk fun F s E c =>
  wpAny_Compare1 (h1.use c fun F₁ s₁ v₁ st₁ c₁ r₁ => h2.use c₁ fun F₂ s₂ v₂ st₂ c₂ r₂ => wpAny_mono (h F₂ s₂ E v₁ v₂ c₂.wp (r₁.step st₂) r₂) (fun zu zu q => q.pre (st₁.trans st₂)) fun zu zu x => x) hm
theorem PB_Cmp {l r : Expr} {op : CmpOp} {pos : Pos} {a b : PV} {x : Bool} (h1 : PE C A hp env loc l a) (h2 : PE C A hp env loc r b) (h : PO2 C A hp (PVR hp) (compareOp op) a b (.bool x, false)) (hm : autoParam (behindInMarks op r = false) AC.aux2._auto_1) : PB C A hp env loc (.Compare l [op] [r] pos) x := .mk fun F s E c =>
  wpAny_isTrue_Compare1 (h1.use c fun F₁ s₁ v₁ st₁ c₁ r₁ => h2.use c₁ fun F₂ s₂ v₂ st₂ c₂ r₂ => wpAny_mono (h F₂ s₂ E v₁ v₂ c₂.wp (r₁.step st₂) r₂) (fun v s₃ q => by
    obtain ⟨F₃, st₃, r₃⟩ := q
    obtain rfl := r₃.out.boolI
    exact wpAny_truthy_bool ⟨F₃, (st₁.trans st₂).trans st₃, rfl⟩) fun zu zu x => x) hm
theorem PE_Sub {value slice : Expr} {pos : Pos} {a b x : PV} (h1 : PE C A hp env loc value a) (h2 : PE C A hp env loc slice b) (h : PO2 C A hp (PVR hp) (subscriptTail value slice) a b x) : PE C A hp env loc (.Subscript value slice pos) x := .mk fun F s E c =>
  Subscript_ (h1.use c fun F₁ s₁ v₁ st₁ c₁ r₁ => h2.use c₁ fun F₂ s₂ v₂ st₂ c₂ r₂ => wpAny_mono (h F₂ s₂ E v₁ v₂ c₂.wp (r₁.step st₂) r₂) (fun zu zu q => q.pre (st₁.trans st₂)) fun zu zu x => x)
theorem PB_not {x : Expr} {pos : Pos} {b : Bool} (h : PB C A hp env loc x b) : PB C A hp env loc (.UnaryOp .Not x pos) (!b) := .mk fun F s E c => by
  show wpAny _ _ (do return !(← isTrue x env (eval x env))) _ _ _
  exact wpAny_bind (h.use c fun F₁ s₁ v st c₁ r => wpAny_pure ⟨F₁, st, by rw [r]⟩)
theorem PB_and {x y : Expr} {pos : Pos} {a b : Bool} (h1 : PB C A hp env loc x a) (h2 : a = true → PB C A hp env loc y b) (hb : autoParam (a = false → b = false) AC.aux5._auto_1) : PB C A hp env loc (.BoolOp .And [x, y] pos) b := .mk fun F s E c => by
  show wpAny _ _ (do match BoolOp.And, ← isTrue x env (eval x env) with | .And, false => pure false | .Or, true => pure true | _, _ => (do match BoolOp.And, ← isTrue y env (eval y env) with | .And, false => pure false | .Or, true => pure true | _, _ => pure (BoolOp.And == BoolOp.And))) _ _ _
  refine wpAny_bind (h1.use c fun F₁ s₁ v st c₁ r => ?_)
  subst r
  cases a with
  | false => exact wpAny_pure ⟨F₁, st, hb rfl⟩
  | true =>
    refine wpAny_bind ((h2 rfl).use c₁ fun F₂ s₂ v st₂ c₂ r => ?_)
    subst r
    cases b <;> exact wpAny_pure ⟨F₂, st.trans st₂, rfl⟩
theorem PB_plain {x : Expr} {pv : PV} {b : Bool} (h : PE C A hp env loc x pv) (ht : PO1 C A hp (fun zu b b' => b = b') truthy pv b) (hpl : autoParam (plainTest x = true) AC.aux0._auto_1) : PB C A hp env loc x b := .mk fun F s E c => by
  rw [isTrue_plain hpl]
  exact wpAny_bind (h.use c fun F₁ s₁ v st c₁ r => wpAny_bind (wpAny_standAt (wpAny_holding (wpAny_mono (ht F₁ s₁ E v c₁.wp r) (fun zu zu q => q.pre st) fun zu zu x => x))))
noncomputable abbrev PEs (C : Cf) (A : Around) (hp : HP) (env : Env) (loc : PL) (es : List (Bool × Sem Value)) (pvs : List PV) : Prop := PT C A hp env loc (PVRs hp) (spliced es) pvs
theorem PEs_nil : PEs C A hp env loc [] [] := .mk fun F s E c => wpAny_pure (PuQ.here (t := s.toks) c.wp .nil)
theorem PEs_cons {t : Sem Value} {r : List (Bool × Sem Value)} {x : PV} {xs : List PV} (h : PT C A hp env loc (PVR hp) t x) (h2 : PEs C A hp env loc r xs) : PEs C A hp env loc ((false, t) :: r) (x :: xs) := .mk fun F s E c => by
  show wpAny _ _ (do let v ← t; let here ← pure [v]; return here ++ (← holding here (spliced r))) _ _ _
  exact wpAny_bind (h.use c fun F₁ s₁ v st c₁ r₁ => wpAny_bind (wpAny_pure (wpAny_bind (wpAny_holding (h2.use c₁ fun F₂ s₂ vs st₂ c₂ r₂ => wpAny_pure ⟨F₂, st.trans st₂, .cons (r₁.step st₂) r₂⟩)))))
noncomputable abbrev argsOf (env : Env) (es : List Expr) : List (Bool × Sem Value) := es.map fun e => (false, eval e env)
theorem argsOf_plain (env : Env) : ∀ es, (argsOf env es).all (!·.1) = true
  | [] => rfl
  | _ :: es => argsOf_plain env es
inductive PEl (C : Cf) (A : Around) (hp : HP) (env : Env) (loc : PL) : List Expr → List PV → Prop
  | nil : PEl C A hp env loc [] []
  | cons {e es x xs} (h : PE C A hp env loc e x) (k : PEl C A hp env loc es xs) : PEl C A hp env loc (e :: es) (x :: xs)
theorem PEl.pes {es : List Expr} {xs : List PV} (h : PEl C A hp env loc es xs) : PEs C A hp env loc (argsOf env es) xs := by
  induction h with
  | nil => exact PEs_nil
  | cons h zu ih => exact PEs_cons h ih
end
end
end
section
section
variable {C : Cf} {A : Around} {hp : HP} {s s' : Shared} {env : Env} {F F' : FH} {E : Value → Shared → Prop}
theorem lookMem {α : Type} : ∀ {l : List (Str × α)} {x : Str} {v : α}, l.lookup x = some v → (x, v) ∈ l
  | [], _, _, h => by exact ns_ne h
  | (y, u) :: l, x, v, h => by
    simp only [List.lookup] at h
    split at h
    · rename_i q; (have zc := Option.some.inj h; clear h; subst zc); rw [beq_iff_eq.mp q]; exact List.mem_cons_self ..
    · exact List.mem_cons_of_mem _ (lookMem h)
theorem lookApp {α : Type} : ∀ (l m : List (Str × α)) (x : Str), (l ++ m).lookup x = (l.lookup x).or (m.lookup x)
  | [], m, x => by simp
  | (y, u) :: l, m, x => by
    simp only [List.cons_append, List.lookup]
    split
    · simp
    · exact lookApp l m x
noncomputable def clFold (env : Env) : List (Str × NameKind) → List (Str × Addr) → List (Str × Addr)
  | [], acc => acc
  | (n, k) :: r, acc => if k == .free then clFold env r ((n, (env.cells.lookup n).getD 0) :: acc) else clFold env r acc
theorem clFold_look (env : Env) : ∀ (names : List (Str × NameKind)) (acc : List (Str × Addr)) (x : Str), ((x, NameKind.free) ∈ names ∨ acc.lookup x = some ((env.cells.lookup x).getD 0)) → (clFold env names acc).lookup x = some ((env.cells.lookup x).getD 0)
  | [], acc, x, h => by
    rcases h with h | h
    · cases h
    · exact h
  | (y, k) :: r, acc, x, h => by
    unfold clFold
    split
    · rename_i hk
      refine clFold_look env r _ x ?_
      by_cases e : x = y
      · subst e; right; simp [List.lookup]
      · rcases h with h | h
        · rcases List.mem_cons.mp h with q | q
          · cases q; exact absurd rfl e
          · exact .inl q
        · right
          simp only [List.lookup, beq_eq_false_iff_ne.mpr e]; exact h
    · rename_i hk
      refine clFold_look env r _ x ?_
      rcases h with h | h
      · rcases List.mem_cons.mp h with q | q
        · cases q; simp at hk
        · exact .inl q
      · exact .inr h
theorem closure_loop (env : Env) (f : Str × NameKind → List (Str × Addr) → Sem (ForInStep (List (Str × Addr)))) (hf : ∀ n k cs, f (n, k) cs = if (k == NameKind.free) = true then (do let c ← cellOf env n; pure (.yield ((n, c) :: cs))) else pure (.yield cs)) :
    ∀ (names : List (Str × NameKind)) (acc : List (Str × Addr)), (∀ p ∈ names, p.2 = .free → (env.cells.lookup p.1).isSome = true) → (forIn names acc f : Sem _) = pure (clFold env names acc)
  | [], acc, _ => by rw [List.forIn_nil]; rfl
  | (n, k) :: r, acc, h => by
    rw [List.forIn_cons, hf]
    unfold clFold
    have hr := closure_loop env f hf r
    split
    · rename_i hk
      have hk' : k = .free := by simpa using hk
      obtain ⟨c, hc⟩ := Option.isSome_iff_exists.mp (h (n, k) List.mem_cons_self hk')
      have : cellOf env n = pure c := by unfold cellOf; simp only at hc; rw [hc]
      rw [this, hc]
      exact hr _ (fun p hp => h p (List.mem_cons_of_mem _ hp))
    · exact hr _ (fun p hp => h p (List.mem_cons_of_mem _ hp))
theorem closureFor_eq {scope : Scope} (h : ∀ p ∈ scope.names, p.2 = .free → (env.cells.lookup p.1).isSome = true) : closureFor scope env = pure (clFold env scope.names []) := by
  unfold closureFor
  dsimp only
  rw [closure_loop env _ (fun n k cs => ?_) scope.names [] h]
  · rfl
  · rfl
noncomputable def md (scope : Scope) : Bool := scope.names.any fun p => p.2 == .cell
theorem cellsFrom_none : ∀ (names : List (Str × NameKind)) (n : Nat) (acc : List (Str × Addr)), (∀ p ∈ names, p.2 ≠ .cell) → cellsFrom n names acc = acc
  | [], _, _, _ => rfl
  | (y, k) :: r, n, acc, h => by
    have h1 : ¬ (k == NameKind.cell) = true := by simpa using h (y, k) (by simp)
    unfold cellsFrom
    rw [if_neg h1]
    exact cellsFrom_none r n acc fun p hp => h p (List.mem_cons_of_mem _ hp)
theorem cellsFrom_one {y : Str} : ∀ (names : List (Str × NameKind)) (n : Nat) (acc : List (Str × Addr)), (names.filter fun p => p.2 == .cell) = [(y, .cell)] → cellsFrom n names acc = (y, n) :: acc
  | [], _, _, h => by cases h
  | (x, k) :: r, n, acc, h => by
    unfold cellsFrom
    rw [List.filter_cons] at h
    split at h
    · rename_i q
      dsimp only at q
      rw [if_pos q]
      have h1 := List.cons.inj h
      obtain ⟨h2, h3⟩ := h1
      cases h2
      exact cellsFrom_none r _ _ fun p hp q => by
        have := List.filter_eq_nil_iff.mp h3 p hp
        simp [q] at this
    · rename_i q
      dsimp only at q
      rw [if_neg q]
      exact cellsFrom_one r n acc h
structure CScope (env : Env) (scope : Scope) : Prop where
  kind : scope.kind = .function
  ekind : env.scope.kind = .function
  fr : (scope.names.all fun p => p.2 != .free || decide (env.kindOf p.1 = some .cell)) = true
  nc : (scope.names.filter fun p => p.2 == .cell).length ≤ 1
  nf : (scope.names.all fun p => p.2 != .cell || scope.names.all fun q => q.2 != .free || q.1 != p.1) = true
  lo : (scope.names.all fun p => p.2 != .local || decide (scope.names.lookup p.1 = some .local)) = true
theorem cscope_of {scope : Scope} (h : (decide (scope.kind = .function) && decide (env.scope.kind = .function) && (scope.names.all fun p => p.2 != .free || decide (env.kindOf p.1 = some .cell)) && decide ((scope.names.filter fun p => p.2 == .cell).length ≤ 1) && (scope.names.all fun p => p.2 != .cell || scope.names.all fun q => q.2 != .free || q.1 != p.1) && (scope.names.all fun p => p.2 != .local || decide (scope.names.lookup p.1 = some .local))) = true) : CScope env scope := by
  simp only [Bool.and_eq_true, decide_eq_true_eq] at h
  obtain ⟨⟨⟨⟨⟨a, b⟩, c⟩, d⟩, f⟩, e⟩ := h
  exact ⟨a, b, c, d, f, e⟩
noncomputable abbrev LA := Addr × Bool
noncomputable abbrev cenvOf (env : Env) (scope : Scope) (Lc : LA) : Env := compEnvC scope (cellsFrom (Lc.1 + 1) scope.names (clFold env scope.names [])) Lc.1 env
theorem CScope.one {scope : Scope} (h : CScope env scope) {y : Str} (hy : (y, NameKind.cell) ∈ scope.names) (n : Nat) (acc : List (Str × Addr)) : cellsFrom n scope.names acc = (y, n) :: acc := by
  refine cellsFrom_one _ n acc ?_
  have hm : (y, NameKind.cell) ∈ scope.names.filter fun p => p.2 == .cell := List.mem_filter.mpr ⟨hy, by rfl⟩
  have hl := h.nc
  generalize (scope.names.filter fun p => p.2 == .cell) = l at hm hl ⊢
  match l, hm, hl with
  | [p], hm, _ => rw [List.mem_singleton.mp hm]
  | p :: q :: r, _, hl => simp at hl
theorem CScope.none {scope : Scope} (h : md scope = false) (n : Nat) (acc : List (Str × Addr)) : cellsFrom n scope.names acc = acc := by
  refine cellsFrom_none _ n acc fun p hp q => ?_
  have := List.any_eq_false.mp h p hp
  simp [q] at this
theorem CScope.freeCell {scope : Scope} (h : CScope env scope) {x : Str} (hx : (x, NameKind.free) ∈ scope.names) (Lc : LA) : (cenvOf env scope Lc).cells.lookup x = some ((env.cells.lookup x).getD 0) := by
  show (cellsFrom (Lc.1 + 1) scope.names (clFold env scope.names [])).lookup x = _
  have hl := clFold_look env scope.names [] x (.inl hx)
  cases hm : md scope with
  | false => rw [CScope.none hm]; exact hl
  | true =>
    obtain ⟨⟨y, k⟩, hy, hk⟩ := List.any_eq_true.mp hm
    have hk : k = .cell := by simpa using hk
    subst hk
    rw [h.one hy]
    have := List.all_eq_true.mp h.nf _ hy
    have this2 : (scope.names.all fun q => q.2 != .free || q.1 != y) = true := by simpa using this
    have := List.all_eq_true.mp this2 _ hx
    have hne : x ≠ y := by simpa using this
    rw [List.lookup, beq_eq_false_iff_ne.mpr hne]
    exact hl
theorem CScope.cell {scope : Scope} (h : CScope env scope) {Lc : LA} {x : Str} (hx : (cenvOf env scope Lc).kindOf x = some .cell) : ((cenvOf env scope Lc).cells.lookup x).isSome = true := by
  have hm := lookMem (show (relabel scope env).names.lookup x = some .cell from hx)
  obtain ⟨⟨n, k⟩, hnk, e⟩ := List.mem_map.mp hm
  dsimp only at e
  split at e
  · rename_i hk
    cases e
    simp only [Bool.and_eq_true, beq_iff_eq] at hk
    obtain ⟨⟨rfl, zu⟩, h3⟩ := hk
    rw [h.freeCell hnk]; rfl
  · cases e
    show ((cellsFrom (Lc.1 + 1) scope.names (clFold env scope.names [])).lookup x).isSome = true
    rw [h.one hnk, List.lookup, beq_self_eq_true]; rfl
theorem CScope.ownCell {scope : Scope} (h : CScope env scope) {Lc : LA} {x : Str} (hx : (x, NameKind.cell) ∈ scope.names) : (cenvOf env scope Lc).cells.lookup x = some (Lc.1 + 1) := by
  show (cellsFrom (Lc.1 + 1) scope.names (clFold env scope.names [])).lookup x = _
  rw [h.one hx, List.lookup, beq_self_eq_true]
theorem CScope.closure {scope : Scope} (h : CScope env scope) (hc : ∀ x, env.kindOf x = some .cell → (env.cells.lookup x).isSome = true) : closureFor scope env = pure (clFold env scope.names []) := by
  refine closureFor_eq fun p hp hf => hc _ ?_
  have := List.all_eq_true.mp h.fr _ hp
  rw [hf] at this
  simpa using this
noncomputable abbrev testsOf (ifs : List Expr) (env : Env) : Sem Bool := forIn ifs true fun c r => if r = true then do let ok ← isTrue c env (eval c env); pure (ForInStep.yield ok) else pure (ForInStep.yield r)
noncomputable abbrev emitOf (elt : Expr) (acc : Value) (env : Env) : Sem Unit := (eval elt env >>= fun x => call (.builtin "list.append") [acc, x] >>= fun zu => pure ())
noncomputable def TurnEq (e : Expr) (d : Nat) (it acc : Value) (env : Env) (target iter : Expr) (ifs : List Expr) (rest : Sem Fin → Sem Fin) : Prop :=
  compTurn e d it acc env = (standAt iter.pos >>= fun zu => pyNext it >>= fun r => match r with
      | none => pure (.done .next)
      | some v => letOwnedTupleGo target it v >>= fun zu => assign target env v >>= fun zu => testsOf ifs env >>= fun ok =>
        if ok = true then rest (again (.compLoop e d it acc env)) else again (.compLoop e d it acc env))
noncomputable abbrev emitK (elt : Expr) (acc : Value) (env : Env) (k : Sem Fin) : Sem Fin := emitOf elt acc env >>= fun zu => k
theorem turn1 (elt target iter : Expr) (ifs : List Expr) (scope : Scope) (pos : Pos) (it acc : Value) (env : Env) : TurnEq (.ListComp elt [⟨target, iter, ifs, 0⟩] scope pos) 0 it acc env target iter ifs (emitK elt acc env) := rfl
theorem Stp.mod {F₀ : FH} {s₀ : Shared} (st : Stp C A hp F₀ s₀ F s) {X : Addr → Prop} (hX : ∀ b, X b → s₀.heap.get? b = none ∧ F b = none) {h' : Heap} {t : Nat} (k : ∀ b o, ¬ X b → s.heap.get? b = some o → h'.get? b = some o) : Stp C A hp F₀ s₀ F ⟨h', s.gens, s.drawn, t, s.os⟩ := by
  refine ⟨st.w, st.w'.turn (X := X) (Ext.refl F) (fun b o e => k b o (fun hb => ?_) (st.w'.fz _ _ e)) (fun b x hb q => ?_) (fun zu zu zu => id) (st.w.frOff fun b hb => (hX b hb).1) k, st.e, fun b o e q => ?_, st.new⟩
  · rw [(hX b hb).2] at e; exact ns_ne e
  · rw [(st.w.dead (hX b hb).1).2] at q; exact ns_ne q
  · obtain ⟨o', h1, g⟩ := st.kg b o e q
    exact ⟨o', k b o' (fun hb => by rw [(hX b hb).1] at e; exact ns_ne e) h1, g⟩
theorem Stp.off (st : Stp C A hp F s F' s') {b : Addr} {o : Obj} (hb : F b = none) (ho : s.heap.get? b = some o) : F' b = none := by
  cases q : F' b with
  | none => rfl
  | some o' =>
    rcases st.new b o' q with h | h
    · rw [hb] at h; exact ns_ne h
    · rw [ho] at h; exact sn_ne h
inductive ItQ (C : Cf) (A : Around) (hp : HP) (F : FH) (s : Shared) (target : Expr) (xs : List AV) (iv : Value) (s' : Shared) : Prop
  | mk (F' : FH) (I : Addr) (fp wr : List Addr) (St : Nat → Heap → Prop) (st : Stp C A hp F s F' s') (e : iv = .ref I) (W : Wk C A target I fp wr St xs F' F') (h0 : St 0 s'.heap) (hw : ∀ b ∈ wr, s.heap.get? b = none ∧ F' b = none)
noncomputable def PI (C : Cf) (A : Around) (hp : HP) (env : Env) (loc : PL) (target iter : Expr) (xs : List AV) : Prop :=
  ∀ F s (E : Value → Shared → Prop), PCtx C A hp F s env loc → wpAny (model C.prog C.w) A (eval iter env) (fun v s₁ => wpAny (model C.prog C.w) A (pyIter v) (ItQ C A hp F s target xs) E s₁) E s
noncomputable def AccAt (F : FH) (h : Heap) (acc : Addr) (ys : List AV) : Prop := ∃ (vs : List Value) (n : Nat), h.get? acc = some { cls := .type "list", dict := none, data := .seq vs.toArray n, slots := #[] } ∧ VRs F ys vs
noncomputable abbrev BL := List (Str × AV)
noncomputable def Bnd (F : FH) (h : Heap) (Lc : LA) (bl : BL) : Prop := ∃ m c, h.Ns Lc.1 m ∧ (Lc.2 = true → h.IsCell (Lc.1 + 1) c) ∧ ∀ x a, bl.lookup x = some a → ∃ v, (if Lc.2 = true then c = some v else m x = some v) ∧ VR F a v
noncomputable def XL (Lc : LA) (b : Addr) : Prop := b = Lc.1 ∨ (Lc.2 = true ∧ b = Lc.1 + 1)
theorem IsCell.geq {h h' : Heap} {a : Addr} {v : Option Value} (n : h.IsCell a v) (k : ∀ o, h.get? a = some o → ∃ o', h'.get? a = some o' ∧ GEq o o') : h'.IsCell a v := by
  obtain ⟨o, h1, h2⟩ := n
  obtain ⟨o', h3, g⟩ := k o h1
  exact ⟨o', h3, g.data.trans h2⟩
theorem Bnd.keepG {h h' : Heap} {Lc : LA} {bl : BL} (b : Bnd F h Lc bl) (e : Ext F F') (k : ∀ a, XL Lc a → ∀ o, h.get? a = some o → ∃ o', h'.get? a = some o' ∧ GEq o o') : Bnd F' h' Lc bl := by
  obtain ⟨m, c, hn, hc, hb⟩ := b
  exact ⟨m, c, Ns.geq hn (k _ (.inl rfl)), fun q => IsCell.geq (hc q) (k _ (.inr ⟨q, rfl⟩)), fun x a q => let ⟨v, z1, z2⟩ := hb x a q; ⟨v, z1, z2.mono e⟩⟩
theorem Bnd.keep {h h' : Heap} {Lc : LA} {bl : BL} (b : Bnd F h Lc bl) (e : Ext F F') (k : ∀ a, XL Lc a → ∀ o, h.get? a = some o → h'.get? a = some o) : Bnd F' h' Lc bl := b.keepG e fun a x o q => ⟨o, k a x o q, .inl rfl⟩
structure CS (C : Cf) (A : Around) (hp : HP) (F₀ : FH) (s₀ : Shared) (acc : Addr) (Lc : LA) (bl : BL) (ys : List AV) (F : FH) (s : Shared) : Prop where
  st : Stp C A hp F₀ s₀ F s
  ac : AccAt F s.heap acc ys
  fr : Bnd F s.heap Lc bl
  oa : F acc = none
  oL : ∀ b, XL Lc b → F b = none
  na : s₀.heap.get? acc = none
  nL : ∀ b, XL Lc b → s₀.heap.get? b = none
  ne : ¬ XL Lc acc
structure Kept (C : Cf) (A : Around) (hp : HP) (X : Addr → Prop) (F : FH) (s : Shared) (F' : FH) (s' : Shared) : Prop where
  w' : Wp C A hp F' s'
  e : Ext F F'
  kg : ∀ b o, ¬ X b → s.heap.get? b = some o → hp b = none → ∃ o', s'.heap.get? b = some o' ∧ GEq o o'
  new : ∀ b o, F' b = some o → F b = some o ∨ s.heap.get? b = none
theorem Stp.kept (st : Stp C A hp F s F' s') (X : Addr → Prop) : Kept C A hp X F s F' s' := ⟨st.w', st.e, fun b o zu e => st.kg b o e, st.new⟩
theorem Kept.off {X : Addr → Prop} (st : Kept C A hp X F s F' s') {b : Addr} {o : Obj} (hb : F b = none) (ho : s.heap.get? b = some o) : F' b = none := by
  cases q : F' b with
  | none => rfl
  | some o' =>
    rcases st.new b o' q with h | h
    · rw [hb] at h; exact ns_ne h
    · rw [ho] at h; exact sn_ne h
theorem Kept.k {X : Addr → Prop} (st : Kept C A hp X F s F' s') {b : Addr} {o : Obj} (hx : ¬ X b) (h : s.heap.get? b = some o) (hb : hp b = none) (hd : ∀ es ep, o.data ≠ .dict es ep) : s'.heap.get? b = some o := by
  obtain ⟨o', h, g⟩ := st.kg b o hx h hb
  rw [h, g.exact hd]
theorem Kept.dead {X : Addr → Prop} (a : Kept C A hp X F s F' s') {b : Addr} (hx : ¬ X b) (h : s'.heap.get? b = none) : s.heap.get? b = none := by
  cases z : s.heap.get? b with
  | none => rfl
  | some o =>
    obtain ⟨o', q, zu⟩ := a.kg b o hx z (a.w'.dead h).2
    rw [h] at q; exact ns_ne q
theorem Kept.trans {X : Addr → Prop} {F₁ F₂ : FH} {s₁ s₂ : Shared} (a : Kept C A hp X F s F₁ s₁) (b : Kept C A hp X F₁ s₁ F₂ s₂) (hX : ∀ b, X b → F₂ b = none) : Kept C A hp X F s F₂ s₂ := by
  refine ⟨b.w', a.e.trans b.e, fun x o hx e q => ?_, fun x o e => ?_⟩
  · obtain ⟨o', h, g⟩ := a.kg x o hx e q
    obtain ⟨o2, h, g2⟩ := b.kg x o' hx h q
    exact ⟨o2, h, g.trans g2⟩
  · rcases b.new x o e with q | q
    · exact a.new x o q
    · exact .inr (a.dead (fun hx => by rw [hX x hx] at e; exact ns_ne e) q)
noncomputable abbrev XP (acc : Addr) (Lc : LA) : Addr → Prop := fun b => b = acc ∨ XL Lc b
noncomputable def capP (scope : Scope) (loc : PL) : PL := loc.filter fun p => decide (scope.names.lookup p.1 = some .free)
noncomputable abbrev cloc (scope : Scope) (loc : PL) (bl : BL) : PL := bl.map (fun p => (p.1, (p.2, false))) ++ capP scope loc
theorem capP_look {scope : Scope} : ∀ {loc : PL} {x : Str} {pv : PV}, (capP scope loc).lookup x = some pv → scope.names.lookup x = some .free ∧ loc.lookup x = some pv
  | [], _, _, h => by exact ns_ne h
  | (y, u) :: l, x, pv, h => by
    unfold capP at h
    simp only [List.filter, List.lookup] at h ⊢
    split at h
    · rename_i q
      simp only [List.lookup] at h
      split at h
      · rename_i z
        (have zc := Option.some.inj h; clear h; subst zc)
        rw [beq_iff_eq.mp z]
        exact ⟨of_decide_eq_true q, rfl⟩
      · rename_i z
        exact capP_look h
    · rename_i q
      have hx := capP_look (loc := l) h
      have : (x == y) = false := by
        apply beq_eq_false_iff_ne.mpr
        rintro rfl
        exact absurd hx.1 (of_decide_eq_false q)
      rw [this]; exact hx
theorem relabel_free {names : List (Str × NameKind)} {x : Str} (h1 : env.scope.kind = .function) (h2 : env.kindOf x = some .cell) : names.lookup x = some .free →
    (names.map fun (n, k) => if (k == NameKind.free && env.scope.kind == .function && env.kindOf n == some .cell) then (n, NameKind.cell) else (n, k)).lookup x = some .cell := by
  induction names with
  | nil => intro h; exact ns_ne h
  | cons p r ih =>
    obtain ⟨n, k⟩ := p
    intro h
    simp only [List.lookup] at h
    split at h
    · rename_i q
      (have zc := Option.some.inj h; clear h; subst zc)
      have := beq_iff_eq.mp q
      subst this
      simp [h1, h2]
    · rename_i q
      rw [List.map_cons]
      by_cases z : (k == NameKind.free && env.scope.kind == .function && env.kindOf n == some .cell) = true
      · simp only [z, if_true, List.lookup, q]; exact ih h
      · have z' := Bool.eq_false_iff.mpr z
        simp only [z', Bool.false_eq_true, if_false, List.lookup, q]; exact ih h
theorem bl_look : ∀ {bl : BL} {x : Str}, (bl.map fun p => (p.1, ((p.2, false) : PV))).lookup x = (bl.lookup x).map fun a => (a, false)
  | [], _ => rfl
  | (y, a) :: bl, x => by
    simp only [List.map_cons, List.lookup]
    split
    · rfl
    · exact bl_look
noncomputable def BOk (env : Env) (scope : Scope) (Lc : LA) (bl : BL) : Prop := ∀ x a, bl.lookup x = some a → (Lc.2 = false ∧ (cenvOf env scope Lc).kindOf x = some .local) ∨ (Lc.2 = true ∧ (x, NameKind.cell) ∈ scope.names ∧ (cenvOf env scope Lc).kindOf x = some .cell)
theorem CS.ctx {scope : Scope} {loc : PL} {F₀ : FH} {s₀ : Shared} {acc : Addr} {Lc : LA} {bl : BL} {ys : List AV} (c : PCtx C A hp F₀ s₀ env loc) (cs : CScope env scope) (h : CS C A hp F₀ s₀ acc Lc bl ys F s) (hk : BOk env scope Lc bl) : PCtx C A hp F s (cenvOf env scope Lc) (cloc scope loc bl) := by
  have c' := c.step h.st
  refine ⟨c'.wp, cs.kind, c.glob, fun x hx => cs.cell hx, fun x pv e => ?_⟩
  rw [lookApp, bl_look] at e
  cases q : bl.lookup x with
  | some a =>
    rw [q] at e; (have zc := Option.some.inj e; clear e; subst zc)
    obtain ⟨m, cv, hm, hc, hb⟩ := h.fr
    obtain ⟨v, h1, h2⟩ := hb x a q
    rcases hk x a q with ⟨z1, z2⟩ | ⟨z1, z2, z3⟩
    · rw [if_neg (by rw [z1]; exact Bool.false_ne_true)] at h1
      exact ⟨v, .val h2, .loc z2 hm h1 (h.st.w.dead (h.nL _ (.inl rfl))).2⟩
    · rw [if_pos z1] at h1
      subst h1
      exact ⟨v, .val h2, .cell z3 (cs.ownCell z2) (hc z1) (h.st.w.dead (h.nL _ (.inr ⟨z1, rfl⟩))).2⟩
  | none =>
    rw [q] at e
    obtain ⟨h1, h2⟩ := capP_look e
    obtain ⟨v, r, n⟩ := c'.nm x pv h2
    have hm := lookMem h1
    have hcell : env.kindOf x = some .cell := by
      have := List.all_eq_true.mp cs.fr _ hm
      simpa using this
    cases n with
    | loc hk zu zu2 zu3 => rw [hcell] at hk; cases hk
    | free hk zu zu2 zu3 => rw [hcell] at hk; cases hk
    | cell hk hc hi hh =>
      refine ⟨v, r, .cell (relabel_free cs.ekind hcell h1) ?_ hi hh⟩
      have := cs.freeCell hm Lc
      rw [hc] at this; exact this
noncomputable def PRest (C : Cf) (A : Around) (hp : HP) (F₀ : FH) (s₀ : Shared) (acc : Addr) (Lc : LA) (bl : BL) (rest : Sem Fin → Sem Fin) (zs : List AV) : Prop :=
  ∀ F s ys (k : Sem Fin) (R : Fin → Shared → Prop), CS C A hp F₀ s₀ acc Lc bl ys F s → ys.length + zs.length ≤ 100000 →
    (∀ F' s', CS C A hp F₀ s₀ acc Lc bl (ys ++ zs) F' s' → Kept C A hp (XP acc Lc) F s F' s' → wpAny (model C.prog C.w) A k R NoE s') → wpAny (model C.prog C.w) A (rest k) R NoE s
noncomputable def PAsg (C : Cf) (A : Around) (cenv : Env) (Lc : LA) (target : Expr) (x : AV) (bl bl' : BL) : Prop :=
  ∀ F s v, (∀ b o, F b = some o → s.heap.get? b = some o) → Bnd F s.heap Lc bl → VR F x v → wpAny (model C.prog C.w) A (assign target cenv v) (fun zu s' => ∃ h' t, s' = ⟨h', s.gens, s.drawn, t, s.os⟩ ∧ Bnd F h' Lc bl' ∧ ∀ b o, ¬ XL Lc b → s.heap.get? b = some o → h'.get? b = some o) NoE s
theorem PAsg_Name' {cenv : Env} {Lc : LA} {x : Str} {px : Pos} {a : AV} {bl : BL} (hf : cenv.scope.kind = .function) (hL : cenv.locals = Lc.1) (h2 : Lc.2 = false) (hk : cenv.kindOf x = some .local) (F : FH) (s : Shared) (v : Value) (b : Bnd F s.heap Lc bl) (hv : VR F a v) :
    wpAny (model C.prog C.w) A (assign (.Name x px) cenv v) (fun zu s' => ∃ h' t, s' = ⟨h', s.gens, s.drawn, t, s.os⟩ ∧ Bnd F h' Lc ((x, a) :: bl) ∧ ∀ b o, ¬ XL Lc b → s.heap.get? b = some o → h'.get? b = some o) NoE s := by
  obtain ⟨m, c, hm, hc, hb⟩ := b
  rw [← hL] at hm
  have hn2 : ¬ Lc.2 = true := by rw [h2]; exact Bool.false_ne_true
  refine wpAny_assign_Name (wpAny_storeName_local hk hm (fun h' hn hs => ⟨h', s.toks + 1, rfl, ⟨_, c, hL ▸ hn, fun q => absurd q hn2, fun y a' e => ?_⟩, fun b o n q => SameBut.rest hs b o (fun z => n (.inl (z.trans hL))) q⟩) (by rw [hf]; rfl))
  simp only [List.lookup] at e
  split at e
  · rename_i q
    (have zc := Option.some.inj e; clear e; subst zc)
    exact ⟨v, by rw [if_neg hn2]; exact if_pos (beq_iff_eq.mp q), hv⟩
  · rename_i q
    obtain ⟨v', z1, z2⟩ := hb y a' e
    rw [if_neg hn2] at z1
    exact ⟨v', by rw [if_neg hn2]; exact (if_neg (beq_eq_false_iff_ne.mp q)).trans z1, z2⟩
theorem PAsg_Name {cenv : Env} {Lc : LA} {x : Str} {px : Pos} {a : AV} {bl : BL} (hf : cenv.scope.kind = .function) (hL : cenv.locals = Lc.1) (h2 : Lc.2 = false) (hk : cenv.kindOf x = some .local) : PAsg C A cenv Lc (.Name x px) a bl ((x, a) :: bl) := fun F s v zu b hv => PAsg_Name' hf hL h2 hk F s v b hv
theorem VRs.inv' {x : AV} {xs : List AV} {vs : List Value} (h : VRs F (x :: xs) vs) : ∃ v us, vs = v :: us ∧ VR F x v ∧ VRs F xs us := by
  cases h with
  | cons a b => exact ⟨_, _, rfl, a, b⟩
theorem PAsg_Pair {cenv : Env} {Lc : LA} {x y : Str} {p1 p2 pos : Pos} {tn : Nat} {a b : AV} {bl : BL} (hA : A.handled = none) (hf : cenv.scope.kind = .function) (hL : cenv.locals = Lc.1) (h2 : Lc.2 = false) (hx : cenv.kindOf x = some .local) (hy : cenv.kindOf y = some .local) :
    PAsg C A cenv Lc (.Tuple [.Name x p1, .Name y p2] tn pos) (.tup [a, b]) bl ((y, b) :: (x, a) :: bl) := fun F s v hin bd hv => by
  obtain ⟨t, ot, vs, n, rfl, q1, q2, q3, q4⟩ := hv.tupInv
  obtain ⟨v1, us, rfl, r1, q4⟩ := q4.inv'
  obtain ⟨v2, us, rfl, r2, q4⟩ := q4.inv'
  obtain rfl := q4.nilI
  refine wpAny_assign_Tuple hA ⟨ot, hin _ _ q1, q2, n, q3⟩ rfl rfl fun h' hk => ?_
  have kp : ∀ b o, s.heap.get? b = some o → h'.get? b = some o := fun b o e => hk b o (Nat.ne_of_lt (Heap.lt_size e)) e
  show wpAny _ _ (do holding [v2] (assign (.Name x p1) cenv v1); do holding [] (assign (.Name y p2) cenv v2); pure ()) _ _ _
  refine wpAny_bind (wpAny_holding (wpAny_mono (PAsg_Name' (C := C) (A := A) (px := p1) (bl := bl) hf hL h2 hx F { s with heap := h' } v1 (bd.keep (Ext.refl F) fun _ _ o e => kp _ _ e) r1) (fun zu s₁ z => ?_) fun zu zu x => x))
  obtain ⟨h1, t1, rfl, b1, k1⟩ := z
  refine wpAny_bind (wpAny_holding (wpAny_mono (PAsg_Name' (C := C) (A := A) (px := p2) hf hL h2 hy F ⟨h1, s.gens, s.drawn, t1, s.os⟩ v2 b1 r2) (fun zu s₂ z => ?_) fun zu zu x => x))
  obtain ⟨h2', t2, rfl, b2, k2⟩ := z
  exact wpAny_pure ⟨h2', t2, rfl, b2, fun b o n e => k2 b o n (k1 b o n (kp _ _ e))⟩
end
end
section
section
variable {C : Cf} {A : Around} {hp : HP} {s s' : Shared} {env : Env} {F F' : FH} {E : Value → Shared → Prop}
section
variable {F₀ : FH} {s₀ : Shared} {acc : Addr} {Lc : LA} {bl bl' : BL} {ys zs : List AV}
theorem Stp.add (st : Stp C A hp F₀ s₀ F s) {T : Addr} {o : Obj} (ho : s.heap.get? T = some o) (hF : F T = none) (hn : s₀.heap.get? T = none) : Stp C A hp F₀ s₀ (fput F T o) s := by
  have hi : ∀ b o', fput F T o b = some o' → s.heap.get? b = some o' := fun b o' e => by
    by_cases q : b = T
    · subst q; rw [fput_self] at e; (have zc := Option.some.inj e; clear e; subst zc); exact ho
    · rw [fput_ne _ _ q] at e; exact st.w'.fz b o' e
  have ex := fput_ext o hF
  have off : ∀ {b}, s₀.heap.get? b ≠ none → F b = none → fput F T o b = none := fun {b} h1 h2 => by rw [fput_ne]; exact h2; rintro rfl; exact h1 hn
  refine ⟨st.w, ⟨fun b o q => ex _ _ (st.w'.base b o q), hi, fun a x q => ?_, st.w'.os, st.w'.bare, st.w'.gi, ?_⟩, st.e.trans ex, st.kg, fun b o' e => ?_⟩
  · obtain ⟨p, o, ho', r⟩ := st.w'.ob a x q
    obtain ⟨zu, o2, h2, zu⟩ := st.w.ob a x q
    exact ⟨off (by rw [h2]; exact fun z => nomatch z) p, o, ho', r.mono ex⟩
  · obtain ⟨l, a, b⟩ := st.w'.fr
    refine ⟨l, a, fun y hy => ?_⟩
    obtain ⟨p, L, q1, q2, q3, q4⟩ := b y hy
    refine ⟨p, L, q1, off (fun z => st.w.frOff (X := (· = L)) (fun b hb => by rw [hb]; exact z) l a y hy L q1 rfl) q2, q3, q4⟩
  · by_cases q : b = T
    · exact .inr (q ▸ hn)
    · rw [fput_ne _ _ q] at e; exact st.new b o' e
theorem AccAt.live {h : Heap} (a : AccAt F h acc ys) : ∃ o, h.get? acc = some o := let ⟨_, _, e, _⟩ := a; ⟨_, e⟩
theorem AccAt.keep {h h' : Heap} (a : AccAt F h acc ys) (e : Ext F F') (k : ∀ o, h.get? acc = some o → h'.get? acc = some o) : AccAt F' h' acc ys := by
  obtain ⟨vs, n, h1, h2⟩ := a
  exact ⟨vs, n, k _ h1, h2.mono e⟩
theorem AccAt.keepG {h h' : Heap} (a : AccAt F h acc ys) (e : Ext F F') (k : ∀ o, h.get? acc = some o → ∃ o', h'.get? acc = some o' ∧ GEq o o') : AccAt F' h' acc ys := a.keep e fun o ho => by
  obtain ⟨vs, n, h1, h2⟩ := a
  rw [ho] at h1; (have zc := Option.some.inj h1; clear h1; subst zc)
  obtain ⟨o', q, g⟩ := k _ ho
  rw [q, g.exact (fun zu zu z => nomatch z)]
theorem Bnd.live {h : Heap} (b : Bnd F h Lc bl) : ∀ a, XL Lc a → ∃ o, h.get? a = some o := fun a hx => by
  obtain ⟨m, c, hn, hc, _⟩ := b
  rcases hx with rfl | ⟨q, rfl⟩
  · obtain ⟨o, _, _, e, _⟩ := hn; exact ⟨o, e⟩
  · obtain ⟨o, e, _⟩ := hc q; exact ⟨o, e⟩
theorem CS.step (h : CS C A hp F₀ s₀ acc Lc bl ys F s) (st : Stp C A hp F s F' s') : CS C A hp F₀ s₀ acc Lc bl ys F' s' := by
  obtain ⟨oa, ha⟩ := h.ac.live
  exact ⟨h.st.trans st, h.ac.keepG st.e fun o e => st.kg _ o e (h.st.w.dead h.na).2, h.fr.keepG st.e fun a x o e => st.kg _ o e (h.st.w.dead (h.nL a x)).2, st.off h.oa ha, fun b x => let ⟨_, hL⟩ := h.fr.live b x; st.off (h.oL b x) hL, h.na, h.nL, h.ne⟩
theorem CS.modw (h : CS C A hp F₀ s₀ acc Lc bl ys F s) {wr : List Addr} (hw : ∀ b ∈ wr, s₀.heap.get? b = none ∧ F b = none ∧ ¬ XP acc Lc b) {h' : Heap} {t : Nat} (k : ∀ b o, b ∉ wr → s.heap.get? b = some o → h'.get? b = some o) : CS C A hp F₀ s₀ acc Lc bl ys F ⟨h', s.gens, s.drawn, t, s.os⟩ :=
  ⟨h.st.mod (X := (· ∈ wr)) (fun b hb => ⟨(hw b hb).1, (hw b hb).2.1⟩) k, h.ac.keep (Ext.refl F) fun o => k _ o fun hb => (hw _ hb).2.2 (.inl rfl), h.fr.keep (Ext.refl F) fun a x o => k _ o fun hb => (hw _ hb).2.2 (.inr x), h.oa, h.oL, h.na, h.nL, h.ne⟩
theorem CS.add (h : CS C A hp F₀ s₀ acc Lc bl ys F s) {T : Addr} {o : Obj} (ho : s.heap.get? T = some o) (hF : F T = none) (hn : s₀.heap.get? T = none) (hx : ¬ XP acc Lc T) : CS C A hp F₀ s₀ acc Lc bl ys (fput F T o) s :=
  ⟨h.st.add ho hF hn, h.ac.keep (fput_ext o hF) fun zu e => e, h.fr.keep (fput_ext o hF) fun zu zu zu e => e, by rw [fput_ne _ _ (fun q => hx (.inl q.symm))]; exact h.oa, fun b x => by rw [fput_ne _ _ (fun q => hx (.inr (by rw [← q]; exact x)))]; exact h.oL b x, h.na, h.nL, h.ne⟩
theorem CS.asg (h : CS C A hp F₀ s₀ acc Lc bl ys F s) {h' : Heap} {t : Nat} (b : Bnd F h' Lc bl') (k : ∀ b o, ¬ XL Lc b → s.heap.get? b = some o → h'.get? b = some o) : CS C A hp F₀ s₀ acc Lc bl' ys F ⟨h', s.gens, s.drawn, t, s.os⟩ :=
  ⟨h.st.mod (X := XL Lc) (fun b hb => ⟨h.nL b hb, h.oL b hb⟩) k, h.ac.keep (Ext.refl F) fun o => k _ o h.ne, b, h.oa, h.oL, h.na, h.nL, h.ne⟩
noncomputable def LeB (bl bl' : BL) : Prop := ∀ y a, bl.lookup y = some a → bl'.lookup y = some a
theorem CS.weak (h : CS C A hp F₀ s₀ acc Lc bl' ys F s) (k : LeB bl bl') : CS C A hp F₀ s₀ acc Lc bl ys F s :=
  ⟨h.st, h.ac, let ⟨m, c, hm, hc, hb⟩ := h.fr; ⟨m, c, hm, hc, fun x a e => hb x a (k x a e)⟩, h.oa, h.oL, h.na, h.nL, h.ne⟩
theorem CS.off (h : CS C A hp F₀ s₀ acc Lc bl ys F s) : ∀ b, XP acc Lc b → F b = none := by
  rintro b (rfl | hx)
  · exact h.oa
  · exact h.oL b hx
inductive Turn (C : Cf) (A : Around) (hp : HP) (env : Env) (scope : Scope) (loc : PL) (F₀ : FH) (s₀ : Shared) (acc : Addr) (Lc : LA) (target : Expr) (ifs : List Expr) (rest : Sem Fin → Sem Fin) (bl : BL) (x : AV) (zs : List AV) : Prop
  | mk (bl' : BL) (ok : Bool) (ha : PAsg C A (cenvOf env scope Lc) Lc target x bl bl') (hl : LeB bl bl') (hk : BOk env scope Lc bl')
      (ht : PT C A hp (cenvOf env scope Lc) (cloc scope loc bl') (fun zu b b' => b = b') (testsOf ifs (cenvOf env scope Lc)) ok) (h1 : ok = true → PRest C A hp F₀ s₀ acc Lc bl' rest zs) (h0 : ok = false → zs = [])
inductive CLp (C : Cf) (A : Around) (hp : HP) (F₀ : FH) (s₀ : Shared) (acc : Addr) (Lc : LA) (bl : BL) (wr : List Addr) (St : Nat → Heap → Prop) (F₁ Fe : FH) (se : Shared) (xs : List AV) (out : Nat → List AV) (n : Nat) (s : Shared) : Prop
  | mk (i : Nat) (F : FH) (cs : CS C A hp F₀ s₀ acc Lc bl (out i) F s) (e : Ext F₁ F) (st : St i s.heap) (hn : i + n = xs.length) (hw : ∀ b ∈ wr, F b = none) (kp : Kept C A hp (XP acc Lc) Fe se F s)
theorem Kept.step {X : Addr → Prop} (a : Kept C A hp X F s F' s') {F₂ : FH} {s₂ : Shared} (b : Stp C A hp F' s' F₂ s₂) (hX : ∀ b, X b → F₂ b = none) : Kept C A hp X F s F₂ s₂ := a.trans (b.kept X) hX
theorem Kept.mod {X : Addr → Prop} (a : Kept C A hp X F s F' s') {h' : Heap} {t : Nat} (w : Wp C A hp F' ⟨h', s'.gens, s'.drawn, t, s'.os⟩) (k : ∀ b o o', ¬ X b → s.heap.get? b = some o → s'.heap.get? b = some o' → h'.get? b = some o') : Kept C A hp X F s F' ⟨h', s'.gens, s'.drawn, t, s'.os⟩ :=
  ⟨w, a.e, fun b o hb e q => let ⟨o', h, g⟩ := a.kg b o hb e q; ⟨o', k b o o' hb e h, g⟩, a.new⟩
theorem comp_loopP {elt : Expr} {gens : List Comprehension} {scope : Scope} {pos : Pos} {d : Nat} {target iter : Expr} {ifs : List Expr} {rest : Sem Fin → Sem Fin} {I : Addr} {loc : PL} {fp wr : List Addr} {St : Nat → Heap → Prop} {F₁ Fe : FH} {se : Shared} {α : Type} {l : List α} {g : α → AV}
    (teq : TurnEq (.ListComp elt gens scope pos) d (.ref I) (.ref acc) (cenvOf env scope Lc) target iter ifs rest) (W : Wk C A target I fp wr St (l.map g) F₁ F₁) (c : PCtx C A hp F₀ s₀ env loc) (cs : CScope env scope) (em : α → List AV)
    (turn : ∀ a ∈ l, Turn C A hp env scope loc F₀ s₀ acc Lc target ifs rest bl (g a) (em a)) (hz : ys.length + (l.flatMap em).length ≤ 100000) (hw : ∀ b ∈ wr, s₀.heap.get? b = none ∧ se.heap.get? b = none ∧ ¬ XP acc Lc b)
    (h0 : CLp C A hp F₀ s₀ acc Lc bl wr St F₁ Fe se (l.map g) (fun i => ys ++ (l.take i).flatMap em) l.length s) {R : Result → Shared → Prop}
    (hQ : ∀ F' s', CS C A hp F₀ s₀ acc Lc bl (ys ++ l.flatMap em) F' s' → Kept C A hp (XP acc Lc) Fe se F' s' → R (.ok .next) s') : codeAny (model C.prog C.w) A (.compLoop (.ListComp elt gens scope pos) d (.ref I) (.ref acc) (cenvOf env scope Lc)) R s := by
  refine codeAny_loop' rfl (CLp C A hp F₀ s₀ acc Lc bl wr St F₁ Fe se (l.map g) (fun i => ys ++ (l.take i).flatMap em)) (fun n s' hI => ?_) l.length h0
  obtain ⟨i, F, hcs, e, st, hn, hwF, kp⟩ := hI
  show wpAny _ _ ((compTurn (.ListComp elt gens scope pos) d (.ref I) (.ref acc) (cenvOf env scope Lc)).onRaise (fun x => do noteFrame x (cenvOf env scope Lc); theTreesLotGoes x)) _ _ s'
  refine wpAny_onRaise ?_
  rw [teq]
  refine wpAny_bind (wpAny_standAt (wpAny_bind ?_))
  have hw3 : ∀ b ∈ wr, s₀.heap.get? b = none ∧ F b = none ∧ ¬ XP acc Lc b := fun b hb => ⟨(hw b hb).1, hwF b hb, (hw b hb).2.2⟩
  rw [List.length_map] at hn
  cases hx : l[i]? with
  | none =>
    have hi : i = l.length := Nat.le_antisymm (by omega) (List.getElem?_eq_none_iff.mp hx)
    subst hi
    refine wpAny_mono (W.done s' (by rw [List.length_map]; exact st)) (fun r s₁ z => ?_) fun zu zu x => x.elim
    obtain ⟨rfl, h', tk, rfl, k⟩ := z
    have hcs' := hcs.modw (t := tk) hw3 k
    simp only [List.take_length] at hcs'
    exact wpAny_pure (hQ F _ hcs' (kp.mod hcs'.st.w' fun b o o' zu e1 e2 => k b o' (fun hb => by rw [(hw b hb).2.1] at e1; exact ns_ne e1) e2))
  | some a =>
    have hlt := (List.getElem?_eq_some_iff.mp hx).1
    have hxm : a ∈ l := List.mem_of_getElem? hx
    have hx2 : (l.map g)[i]? = some (g a) := by rw [List.getElem?_map, hx]; rfl
    refine wpAny_mono (W.more i (g a) s' hx2 st) (fun r s₁ z => ?_) fun zu zu x => x.elim
    obtain ⟨v, rfl, z⟩ := z
    refine wpAny_bind (wpAny_mono z (fun zu s₂ z => ?_) fun zu zu x => x.elim)
    obtain ⟨h', tk, rfl, st', k, hv⟩ := z
    have key : ∃ F₂, Ext F F₂ ∧ VR F₂ (g a) v ∧ CS C A hp F₀ s₀ acc Lc bl (ys ++ (l.take i).flatMap em) F₂ ⟨h', s'.gens, s'.drawn, tk, s'.os⟩ ∧ (∀ b ∈ wr, F₂ b = none) ∧ Kept C A hp (XP acc Lc) Fe se F₂ ⟨h', s'.gens, s'.drawn, tk, s'.os⟩ := by
      have hcs' := hcs.modw (t := tk) hw3 k
      have kp' := kp.mod (t := tk) hcs'.st.w' fun b o o' zu e1 e2 => k b o' (fun hb => by rw [(hw b hb).2.1] at e1; exact ns_ne e1) e2
      cases hv with
      | old hv => exact ⟨F, Ext.refl F, hv.mono e, hcs', hwF, kp'⟩
      | tup T o vs kk cs ev hT ho hc hd hv ex =>
        have hT' : s'.heap.get? T = none := by
          cases q : s'.heap.get? T with
          | none => rfl
          | some o' => exact absurd (Heap.lt_size q) (Nat.not_lt.mpr hT)
        have hFT : F T = none := (hcs.st.w'.dead hT').1
        have hX : ¬ XP acc Lc T := by
          rintro (rfl | hx)
          · obtain ⟨o', h1⟩ := hcs.ac.live; rw [hT'] at h1; exact ns_ne h1
          · obtain ⟨o', h1⟩ := hcs.fr.live _ hx; rw [hT'] at h1; exact ns_ne h1
        subst ev
        rw [ex]
        refine ⟨_, fput_ext o hFT, .tup (fput_self _ _ _) hc hd ((hv.mono e).mono (fput_ext o hFT)), hcs'.add ho hFT (hcs.st.dead hT') hX, fun b hb => ?_, ⟨(hcs'.add ho hFT (hcs.st.dead hT') hX).st.w', kp'.e.trans (fput_ext o hFT), kp'.kg, fun b o' q => ?_⟩⟩
        · rw [fput_ne]
          · exact hwF b hb
          · rintro rfl
            obtain ⟨o', h1, zu⟩ := W.inert i _ st b hb
            rw [hT'] at h1; exact ns_ne h1
        · by_cases z : b = T
          · subst z
            exact .inr (kp.dead hX hT')
          · rw [fput_ne _ _ z] at q; exact kp'.new b o' q
    clear hv kp hcs hw3
    obtain ⟨F₂, e₂, hv, hcs, hwF, kp⟩ := key
    obtain ⟨bl', ok, ha, hl, hk, ht, h1, h2⟩ := turn a hxm
    refine wpAny_bind (wpAny_mono (ha F₂ _ v hcs.st.w'.fz hcs.fr hv) (fun zu s₃ z => ?_) fun zu zu x => x.elim)
    obtain ⟨h3, t3, rfl, b3, k3⟩ := z
    have hcs3 := hcs.asg (t := t3) b3 k3
    have wL : ∀ b ∈ wr, ¬ XL Lc b := fun b hb q => (hw b hb).2.2 (.inr q)
    have fpk : ∀ {F4 : FH} {s4 : Shared}, Ext F₂ F4 → Wp C A hp F4 s4 → (∀ b ∈ wr, ∀ o, h'.get? b = some o → s4.heap.get? b = some o) → St (i + 1) s4.heap := fun {F4 s4} e4 w4 hwk => W.frame _ _ _ st' fun b hb o ho => by
      rcases W.frz b hb with q | ⟨o', q⟩
      · exact hwk b q o ho
      · have q3 := hcs.st.w'.fz b o' (e₂ _ _ (e _ _ q))
        dsimp only at q3
        rw [ho] at q3; (have zc := Option.some.inj q3; clear q3; subst zc)
        exact w4.fz _ _ (e4 _ _ (e₂ _ _ (e _ _ q)))
    have kp3 := kp.mod (h' := h3) (t := t3) hcs3.st.w' fun b o o' hb zu e2 => k3 b o' (fun q => hb (.inr q)) e2
    have wh : ∀ b ∈ wr, hp b = none := fun b hb => (hcs.st.w.dead (hw b hb).1).2
    refine wpAny_bind (ht.use (hcs3.ctx c cs hk) fun F₃ s₄ ok' st4 c4 r4 => ?_)
    subst r4
    have hcs4 := hcs3.step st4
    have kp4 := kp3.step st4 hcs4.off
    have ind : ∀ b ∈ wr, ∀ o, h'.get? b = some o → ∀ es ep, o.data ≠ .dict es ep := fun b hb o ho => by
      obtain ⟨o', h1, h2⟩ := W.inert _ _ st' b hb
      rw [ho] at h1; (have zc := Option.some.inj h1; clear h1; subst zc); exact h2.2
    have wr4 : ∀ b ∈ wr, ∀ o, h'.get? b = some o → s₄.heap.get? b = some o := fun b hb o ho => st4.k (k3 b o (wL b hb) ho) (wh b hb) (ind b hb o ho)
    have hwF4 : ∀ b ∈ wr, F₃ b = none := fun b hb => by
      obtain ⟨o, ho, zu⟩ := W.inert _ _ st' b hb
      exact st4.off (hwF b hb) (k3 b o (wL b hb) ho)
    have out : (ys ++ (l.take i).flatMap em) ++ em a = ys ++ (l.take (i + 1)).flatMap em := by
      rw [List.take_add_one, hx]; simp
    cases ok with
    | false =>
      simp only [Bool.false_eq_true, if_false]
      have : ys ++ (l.take (i + 1)).flatMap em = ys ++ (l.take i).flatMap em := by rw [← out, h2 rfl, List.append_nil]
      exact wpAny_pure (.inl ⟨rfl, n - 1, by omega, i + 1, F₃, by rw [this]; exact hcs4.weak hl, e.trans (e₂.trans st4.e), fpk st4.e hcs4.st.w' wr4, by rw [List.length_map]; omega, hwF4, kp4⟩)
    | true =>
      simp only [if_true]
      refine wpAny_mono (h1 rfl F₃ s₄ _ _ _ hcs4 ?_ fun F₅ s₅ hcs5 kp5 => ?_) (fun zu zu z => z) fun zu zu x => x.elim
      · have e1 : (ys ++ l.flatMap em) = ((ys ++ (l.take i).flatMap em) ++ em a) ++ (l.drop (i + 1)).flatMap em := by
          rw [out, List.append_assoc, ← List.flatMap_append, List.take_append_drop]
        have := congrArg List.length e1
        simp only [List.length_append] at this hz ⊢
        omega
      · rw [out] at hcs5
        have wr5 : ∀ b ∈ wr, ∀ o, h'.get? b = some o → s₅.heap.get? b = some o := fun b hb o ho => kp5.k (hw b hb).2.2 (wr4 b hb o ho) (wh b hb) (ind b hb o ho)
        exact wpAny_pure (.inl ⟨rfl, n - 1, by omega, i + 1, F₅, hcs5.weak hl, e.trans (e₂.trans (st4.e.trans kp5.e)), fpk (st4.e.trans kp5.e) hcs5.st.w' wr5, by rw [List.length_map]; omega, fun b hb => by
          obtain ⟨o, ho, zu⟩ := W.inert _ _ st' b hb
          exact kp5.off (hwF4 b hb) (wr4 b hb o ho), kp4.trans kp5 hcs5.off⟩)
end
end
end
section
section
variable {C : Cf} {A : Around} {hp : HP} {s s' : Shared} {env : Env} {F F' : FH} {E : Value → Shared → Prop}
theorem newCompEnv {scope : Scope} {globals : Addr} {cl : List (Str × Addr)} {qual : Str} {M : Model} {Q : Env → Shared → Prop}
    (h : Q { scope, locals := s.heap.objs.size, globals, cells := cellsFrom (s.heap.objs.size + 1) scope.names cl, qual, func := none, code := env.code, frame := env.frame, builtins := env.builtins } { s with heap := pushCells (s.heap.push { cls := .type "dict", data := .dict #[] }) scope.names }) :
    wpAny M A (newFunctionEnv scope globals cl [] qual none .none (some env)) Q E s := by
  simp only [newFunctionEnv, Option.isSome_some, if_true]
  refine wpAny_bind (wpAny_alloc ?_)
  refine wpAny_bind (wpAny_layCells _ (fun name kind cells => by cases hkc : kind == NameKind.cell <;> simp [hkc]) _ _ _ _ ?_)
  rw [show ({ s with heap := s.heap.push { cls := .type "dict", data := .dict #[] } } : Shared).heap.objs.size = s.heap.objs.size + 1 from Heap.size_push ..]
  exact wpAny_bind (wpAny_pure (wpAny_pure h))
theorem comp_start {elt : Expr} {gens : List Comprehension} {scope : Scope} {pos : Pos} {d : Nat} {target iter : Expr} {ifs : List Expr} {it : Addr} {acc : Value} {cenv : Env} {R : Result → Shared → Prop} (hg : gens[d]? = some ⟨target, iter, ifs, 0⟩)
    (hself : ∀ (Q : Value → Shared → Prop) (E : Value → Shared → Prop), Q (.ref it) s → wpAny (model C.prog C.w) A (pyIter (.ref it)) Q E s)
    (h0 : codeAny (model C.prog C.w) A (.compLoop (.ListComp elt gens scope pos) d (.ref it) acc cenv) R s) : codeAny (model C.prog C.w) A (.compStart (.ListComp elt gens scope pos) d (.ref it) acc cenv) R s := by
  refine codeAny_of_tree ?_
  show wpAny _ _ ((compStart (.ListComp elt gens scope pos) d (.ref it) acc cenv).onRaise (fun x => do noteFrame x cenv; standAt theWindowsPlace)) _ _ s
  refine wpAny_notedAt ?_
  have hc : (clausesOf (.ListComp elt gens scope pos))[d]? = some ⟨target, iter, ifs, 0⟩ := hg
  unfold compStart
  rw [hc]
  show wpAny _ _ (ask >>= _) _ _ s
  refine wpAny_bind (wpAny_askSetting (wpAny_ite ?_))
  split
  · first
      | exact wpAny_bind (wpAny_pure (wpAny_pure (And.intro rfl h0)))
      | exact wpAny_pure (And.intro rfl h0)
  · first
      | exact wpAny_bind (wpAny_rule (wpAny_bind (wpAny_standAt (wpAny_bind (hself _ _ (wpAny_pure (And.intro rfl h0)))))))
      | (refine wpAny_bind (wpAny_rule ?_); show wpAny _ _ (standAt iter.pos >>= _) _ _ s; exact wpAny_bind (wpAny_standAt (wpAny_bind (hself _ _ (wpAny_pure (And.intro rfl h0))))))
theorem CS.app {F₀ : FH} {s₀ : Shared} {acc : Addr} {Lc : LA} {bl : BL} {ys zs : List AV} (h : CS C A hp F₀ s₀ acc Lc bl ys F s) {h' : Heap} {t : Nat} (a : AccAt F h' acc zs) (k : ∀ b o, b ≠ acc → s.heap.get? b = some o → h'.get? b = some o) : CS C A hp F₀ s₀ acc Lc bl zs F ⟨h', s.gens, s.drawn, t, s.os⟩ :=
  ⟨h.st.mod (X := (· = acc)) (fun b hb => by subst hb; exact ⟨h.na, h.oa⟩) k, a, h.fr.keep (Ext.refl F) fun a x o => k _ o (fun q => h.ne (by rw [← q]; exact x)), h.oa, h.oL, h.na, h.nL, h.ne⟩
theorem PRest_emit {scope : Scope} {loc : PL} {F₀ : FH} {s₀ : Shared} {acc : Addr} {Lc : LA} {bl : BL} {elt : Expr} {v : AV} (c : PCtx C A hp F₀ s₀ env loc) (cs : CScope env scope) (hk : BOk env scope Lc bl)
    (h : PE C A hp (cenvOf env scope Lc) (cloc scope loc bl) elt (v, false)) : PRest C A hp F₀ s₀ acc Lc bl (emitK elt (.ref acc) (cenvOf env scope Lc)) [v] := by
  intro F s ys k R hcs hlen hgo
  refine wpAny_bind (wpAny_bind (h.use (hcs.ctx c cs hk) fun F₁ s₁ vv st c₁ r => wpAny_bind ?_))
  have hcs₁ := hcs.step st
  obtain ⟨ws, n, hl, hv⟩ := hcs₁.ac
  refine call_meets PySem.F.slot_list_append ⟨_, hl, rfl⟩ PySem.F.entry_list_append (PySem.F.args_list_append_2 _ _) (PySem.list_append acc ws.toArray n vv (by rw [List.size_toArray, hv.length, sizeLine_eq]; simp at hlen; with_reducible exact od_le ‹_› (by decide))) ⟨hl, wpAny_pure ?_⟩
  have hl2 : IsL s₁.heap acc ws.toArray n := hl
  have hl' := hl2.update (fun x => x.push vv)
  rw [List.push_toArray] at hl'
  have kk := SameBut.rest (Heap.SameBut.update s₁.heap acc (Obj.mapSeq fun x => x.push vv))
  have hcs2 := hcs₁.app (t := s₁.toks) ⟨_, _, hl', hv.append (.cons r.out .nil)⟩ kk
  exact hgo F₁ _ hcs2 ((st.kept _).mod hcs2.st.w' fun b o o' hb zu e => kk b o' (fun q => hb (.inl q)) e)
theorem comp_runP {elt : Expr} {gens gs : List Comprehension} {scope : Scope} {pos : Pos} {target iter : Expr} {ifs : List Expr} {rest : Addr → Env → Sem Fin → Sem Fin} (hgens : gens = ⟨target, iter, ifs, 0⟩ :: gs)
    (teq : ∀ it acc cenv, TurnEq (.ListComp elt gens scope pos) 0 (.ref it) (.ref acc) cenv target iter ifs (rest acc cenv)) (cs : CScope env scope) {loc : PL} {α : Type} {l : List α} {g : α → AV} (hi : PI C A hp env loc target iter (l.map g)) (em : α → List AV) (c : PCtx C A hp F s env loc)
    (turn : ∀ acc L, ∀ a ∈ l, Turn C A hp env scope loc F s acc (L, md scope) target ifs (rest acc (cenvOf env scope (L, md scope))) [] (g a) (em a)) (hz : (l.flatMap em).length ≤ 100000) {use : Option (Value → Sem Unit)} {Q : Value → Shared → Prop}
    (hQ : ∀ F' s' acc Lc, CS C A hp F s acc Lc [] (l.flatMap em) F' s' → compPost (model C.prog C.w) A E use Q (.ref acc) Lc.1 (.ok .next) s')
    (hs : autoParam (∀ x, foldedSetIterable iter env x = pure x) AC.aux4._auto_1) :
    wpAny (model C.prog C.w) A (comprehension (.ListComp elt gens scope pos) scope env (firstIterPos gens pos) (newList []) (firstAsync gens) (firstIter gens env) use) Q E s := by
  subst hgens
  refine wpAny_comprehension_free (use := use) (g := ⟨target, iter, ifs, 0⟩) (gs := gs) rfl hs (cs.closure fun x hx => c.cells x hx) cs.kind (fun x hx hl => ?_) ?_
  · have := List.all_eq_true.mp cs.lo _ hx
    rw [hl] at this
    simpa using this
  show wpAny _ A (eval iter env) _ _ s
  refine wpAny_mono (hi F s E c) (fun v s₁ z => wpAny_mono z (fun iv s₂ z => ?_) fun zu zu x => x) fun zu zu x => x
  obtain ⟨F₂, I, fp, wr, St, st, rfl, W, h0, hw⟩ := z
  refine wpAny_newList ?_
  generalize hacc : s₂.heap.objs.size = acc
  have a0 : s₂.heap.get? acc = none := by rw [← hacc]; exact get_top _
  refine newCompEnv ?_
  have hL0 : (s₂.heap.push { cls := .type "list", data := .seq ([] : List Value).toArray }).objs.size = acc + 1 := by rw [← hacc, Heap.size_push]
  generalize hh0 : s₂.heap.push { cls := .type "list", data := .seq ([] : List Value).toArray } = h₀' at hL0 ⊢
  dsimp only
  have kh0 : ∀ b o, s₂.heap.get? b = some o → h₀'.get? b = some o := fun b o e => by rw [← hh0]; exact Heap.get?_push_of_some _ e
  have hacc' : h₀'.get? acc = some { cls := .type "list", data := .seq ([] : List Value).toArray } := by rw [← hh0, ← hacc]; exact Heap.get?_push_size _ rfl
  rw [hL0]
  generalize hh1 : pushCells (h₀'.push { cls := .type "dict", data := .dict #[] }) scope.names = h₁
  have k₁ : ∀ b o, h₀'.get? b = some o → h₁.get? b = some o := fun b o e => by rw [← hh1]; exact pushCells_keeps _ _ _ _ (Heap.get?_push_of_some _ e)
  have k₂ : ∀ b o, s₂.heap.get? b = some o → h₁.get? b = some o := fun b o e => k₁ b o (kh0 b o e)
  have dead : ∀ b, acc < b → s₂.heap.get? b = none := fun b hb => by
    cases q : s₂.heap.get? b with
    | none => rfl
    | some o => have := Heap.lt_size q; rw [hacc] at this; exact absurd this (Nat.not_lt.mpr (Nat.le_of_lt hb))
  have dX : ∀ b, XL (acc + 1, md scope) b → acc < b := fun b hb => by
    rcases hb with rfl | ⟨_, rfl⟩
    · exact Nat.lt_succ_self _
    · exact Nat.lt_succ_of_lt (Nat.lt_succ_self _)
  have hns : h₁.Ns (acc + 1) (fun _ => none) := by
    rw [← hh1, ← hL0]
    exact (Heap.Ns.new h₀' (.type "dict")).keeps (pushCells_keeps _ _)
  have hcl : md scope = true → h₁.IsCell (acc + 1 + 1) none := fun hm => by
    obtain ⟨⟨y, kd⟩, hy, hk⟩ := List.any_eq_true.mp hm
    have hk : kd = .cell := by simpa using hk
    subst hk
    have ok := cellsFrom_ok scope.names (h₀'.push { cls := .type "dict", data := .dict #[] }) (acc + 1) [] ⟨fun _ _ hm => (nomatch hm), List.Pairwise.nil⟩ (by rw [Heap.size_push, hL0]; exact Nat.le_succ _)
    rw [Heap.size_push, hL0] at ok
    rw [← hh1]
    exact (ok.empty y (acc + 1 + 1) (by rw [cs.one hy]; simp)).1
  generalize hs4 : (⟨h₁, s₂.gens, s₂.drawn, s₂.toks, s₂.os⟩ : Shared) = s₄
  have st4 : Stp C A hp F₂ s₂ F₂ s₄ := hs4 ▸ Stp.keep (t := s₂.toks) st.w' k₂
  have hcs : CS C A hp F s acc (acc + 1, md scope) [] [] F₂ s₄ := by
    refine ⟨st.trans st4, ⟨[], 0, ?_, .nil⟩, ⟨_, none, by rw [← hs4]; exact hns, fun q => by rw [← hs4]; exact hcl q, fun x a e => by exact ns_ne e⟩, (st.w'.dead a0).1, fun b hb => (st.w'.dead (dead b (dX b hb))).1, st.dead a0, fun b hb => st.dead (dead b (dX b hb)), fun q => absurd (dX _ q) (Nat.lt_irrefl _)⟩
    rw [← hs4]
    exact k₁ _ _ hacc'
  have hw' : ∀ b ∈ wr, s.heap.get? b = none ∧ s.heap.get? b = none ∧ ¬ XP acc (acc + 1, md scope) b := fun b hb => ⟨(hw b hb).1, (hw b hb).1, by
    obtain ⟨o, ho, zu⟩ := W.inert _ _ h0 b hb
    rintro (rfl | hx)
    · rw [a0] at ho; exact ns_ne ho
    · rw [dead b (dX b hx)] at ho; exact ns_ne ho⟩
  have st0 : St 0 s₄.heap := W.frame _ _ _ h0 fun b zu o e => by rw [← hs4]; exact k₂ b o e
  show codeAny _ A (.compStart _ 0 (.ref I) (.ref acc) (cenvOf env scope (acc + 1, md scope))) _ _
  refine comp_start (d := 0) (target := target) (iter := iter) (ifs := ifs) rfl (fun Q E q => W.self 0 s₄ Q E st0 q) ?_
  refine comp_loopP (teq _ _ _) W c cs em (turn acc (acc + 1)) (ys := []) (by simpa using hz) hw' ⟨0, F₂, by simpa using hcs, Ext.refl F₂, st0, by simp, fun b hb => (hw b hb).2, (st.trans st4).kept _⟩ fun F' s' h' kp => hQ F' s' acc (acc + 1, md scope) (by simpa using h')
theorem comp_out {F₀ : FH} {s₀ : Shared} {acc : Addr} {Lc : LA} {bl : BL} {ys : List AV} (h : CS C A hp F₀ s₀ acc Lc bl ys F s) : compPost (model C.prog C.w) A E none (PuQ C A hp F₀ s₀ fun F' v => PVR hp F' (.lst ys, false) v) (.ref acc) Lc.1 (.ok .next) s := by
  obtain ⟨m, c, hm, zu⟩ := h.fr
  refine ⟨m, hm, fun h' hs' => ?_⟩
  have k := SameBut.rest hs'
  obtain ⟨vs, n, hl, hv⟩ := h.ac
  have ha := k _ _ (fun q => h.ne (.inl q)) hl
  have st := (h.st.mod (X := (· = Lc.1)) (fun b hb => by subst hb; exact ⟨h.nL _ (.inl rfl), h.oL _ (.inl rfl)⟩) k (t := s.toks)).add ha h.oa h.na
  exact ⟨_, st, .val (.lst (fput_self _ _ _) rfl rfl (hv.mono (fput_ext _ h.oa)))⟩
noncomputable def PCm (C : Cf) (A : Around) (hp : HP) (env : Env) (loc : PL) (elt : Expr) (gens : List Comprehension) (scope : Scope) (pos : Pos) (res : List AV) : Prop :=
  ∀ F s (E : Value → Shared → Prop) (use : Option (Value → Sem Unit)) (Q : Value → Shared → Prop), PCtx C A hp F s env loc → (∀ F' s' acc Lc, CS C A hp F s acc Lc [] res F' s' → compPost (model C.prog C.w) A E use Q (.ref acc) Lc.1 (.ok .next) s') →
    wpAny (model C.prog C.w) A (comprehension (.ListComp elt gens scope pos) scope env (firstIterPos gens pos) (newList []) (firstAsync gens) (firstIter gens env) use) Q E s
theorem PE_LC {loc : PL} {elt : Expr} {gens : List Comprehension} {scope : Scope} {pos : Pos} {res : List AV} (h : PCm C A hp env loc elt gens scope pos res) : PE C A hp env loc (.ListComp elt gens scope pos) (.lst res, false) := .mk fun F s E c => by
  rw [eval_ListComp]
  exact h F s E none _ c fun F' s' acc Lc h => comp_out h
theorem PCm_1 {elt target iter : Expr} {ifs : List Expr} {scope : Scope} {pos : Pos} {loc : PL} {α : Type} {l : List α} {g : α → AV} (cs : CScope env scope) (hi : PI C A hp env loc target iter (l.map g)) (em : α → List AV)
    (turn : ∀ F s acc L, PCtx C A hp F s env loc → ∀ a ∈ l, Turn C A hp env scope loc F s acc (L, md scope) target ifs (emitK elt (.ref acc) (cenvOf env scope (L, md scope))) [] (g a) (em a)) (hz : (l.flatMap em).length ≤ 100000)
    (hs : autoParam (∀ x, foldedSetIterable iter env x = pure x) AC.aux4._auto_1) : PCm C A hp env loc elt [⟨target, iter, ifs, 0⟩] scope pos (l.flatMap em) := by
  intro F s E use Q c hQ
  exact comp_runP (gs := []) (rest := fun acc cenv => emitK elt (.ref acc) cenv) rfl (fun it acc cenv => turn1 ..) cs hi em c (fun acc L => turn F s acc L c) hz hQ hs
end
end
section
section
variable {C : Cf} {A : Around} {hp : HP} {s s' : Shared} {env : Env} {F F' : FH} {E : Value → Shared → Prop} {loc : PL}
theorem call_cps {x : Str} {px pos : Pos} {args : List Expr} {f : Value} {pvs : List PV} {Q : Value → Shared → Prop} (hg : GL C x f) (hf : ∀ h' : Heap, (∀ b o, C.h0.get? b = some o → h'.get? b = some o) → KeepOk C h' f) (hv : PEl C A hp env loc args pvs) (c : PCtx C A hp F s env loc)
    (k : ∀ F₁ s₁ us, Stp C A hp F s F₁ s₁ → PCtx C A hp F₁ s₁ env loc → PVRs hp F₁ pvs us → wpAny (model C.prog C.w) A (PySem.call f us) Q E s₁) (hk : autoParam (env.kindOf x = some .globalImplicit) AC.aux0._auto_1)
    (he : autoParam (eval (.Call (.Name x px) args [] pos) env = (do callWith pos (← eval (.Name x px) env) [] (argsOf env args) [])) AC.aux0._auto_1) (hd : autoParam ((x == ("__debug__" : Str)) = false) AC.aux1._auto_1) : wpAny (model C.prog C.w) A (eval (.Call (.Name x px) args [] pos) env) Q E s := by
  rw [he]
  refine wpAny_bind (wpAny_Name ?_ hd)
  rw [load_glob c.kind hk]
  refine hg env c.glob.1 c.glob.2 A _ E s c.wp.old (callWith_any (evalArgs_plain (argsOf_plain env args) rfl (hv.pes.use c fun F₁ s₁ us st c₁ r => ?_)))
  exact wpAny_pure ⟨hf _ c₁.wp.old, k F₁ s₁ us st c₁ r⟩
noncomputable def PK (C : Cf) (A : Around) (hp : HP) (f : Value) (pvs : List PV) (pv : PV) : Prop :=
  ∀ F s (E : Value → Shared → Prop) us, Wp C A hp F s → PVRs hp F pvs us → wpAny (model C.prog C.w) A (PySem.call f us) (PuQ C A hp F s fun F' v => PVR hp F' pv v) E s
theorem PE_Call {x : Str} {px pos : Pos} {args : List Expr} {f : Value} {pvs : List PV} {pv : PV} (hg : GL C x f) (hv : PEl C A hp env loc args pvs) (h : PK C A hp f pvs pv) (hf : autoParam (∀ h' : Heap, (∀ b o, C.h0.get? b = some o → h'.get? b = some o) → KeepOk C h' f) AC.aux6._auto_1) (hk : autoParam (env.kindOf x = some .globalImplicit) AC.aux0._auto_1)
    (he : autoParam (eval (.Call (.Name x px) args [] pos) env = (do callWith pos (← eval (.Name x px) env) [] (argsOf env args) [])) AC.aux0._auto_1) (hd : autoParam ((x == ("__debug__" : Str)) = false) AC.aux1._auto_1) : PE C A hp env loc (.Call (.Name x px) args [] pos) pv := .mk fun F s E c =>
  call_cps hg hf hv c (fun F₁ s₁ us st c₁ r => wpAny_mono (h F₁ s₁ E us c₁.wp r) (fun zu zu q => q.pre st) fun zu zu x => x) hk he hd
theorem PVR.lstI {xs : List AV} {b : Bool} {v : Value} (r : PVR hp F (.lst xs, b) v) (w : Wp C A hp F s) : ∃ a o vs n, v = .ref a ∧ s.heap.get? a = some o ∧ o.cls = .type "list" ∧ o.data = .seq vs.toArray n ∧ VRs F xs vs ∧ (b = false → F a = some o) := by
  cases r with
  | val r =>
    obtain ⟨a, o, vs, n, rfl, h1, h2, h3, h4⟩ := r.lstInv
    exact ⟨a, o, vs, n, rfl, w.fz _ _ h1, h2, h3, h4, fun zu => h1⟩
  | own h1 =>
    obtain ⟨zu, o, h2, r⟩ := w.ob _ _ h1
    (refine OR.listC r fun zv zv q1 q2 q3 q4 q5 => ?_; clear r)
    exact ⟨_, o, _, _, rfl, h2, q1, q4, q5, fun q => nomatch q⟩
theorem PVR.tupI {xs : List AV} {v : Value} (r : PVR hp F (.tup xs, false) v) (w : Wp C A hp F s) : ∃ a o vs n, v = .ref a ∧ s.heap.get? a = some o ∧ o.cls = .type "tuple" ∧ o.data = .seq vs.toArray n ∧ VRs F xs vs ∧ F a = some o := by
  obtain ⟨a, o, vs, n, rfl, h1, h2, h3, h4⟩ := r.out.tupInv
  exact ⟨a, o, vs, n, rfl, w.fz _ _ h1, h2, h3, h4, h1⟩
theorem ItQ.one {target : Expr} {xs : List AV} {fp : List Addr} {n : Nat} {P : Nat → Value → Prop} {St : Nat → Heap → Prop} {c : String} (w : Wp C A hp F s) (W : Walks C.prog C.w A s.heap.objs.size fp [s.heap.objs.size] n P St) (hn : xs.length = n) (hv : ∀ i x v, xs[i]? = some x → P i v → VR F x v) (hc : owners7.contains c = false)
    (cls : ∀ i h, St i h → ∃ o vs, h.get? s.heap.objs.size = some o ∧ o.cls = .type c ∧ o.data = .fields vs) {o : Obj} {t : Nat} (hf : o.isFreed = false) (h0 : St 0 (s.heap.push o)) (hfp : ∀ b ∈ fp, b = s.heap.objs.size ∨ ∃ o, F b = some o) :
    ItQ C A hp F s target xs (.ref s.heap.objs.size) ⟨s.heap.push o, s.gens, s.drawn, t, s.os⟩ := by
  refine ⟨F, _, fp, _, St, .keep w fun b ob e => Heap.get?_push_of_some _ e, rfl, Wk.ofWalks W hn hv (fun b hb => ?_) (fun i h st b hb => ?_) c hc (fun i h st => let ⟨o, vs, h1, h2, _⟩ := cls i h st; ⟨o, h1, h2⟩), h0, fun b hb => ?_⟩
  · rcases hfp b hb with rfl | h1
    · exact .inl (List.mem_singleton_self _)
    · exact .inr h1
  · obtain ⟨o, vs, h1, zu, h3⟩ := cls i h st
    rw [List.mem_singleton.mp hb]
    exact ⟨o, h1, inert_fields h3⟩
  · rw [List.mem_singleton.mp hb]
    exact ⟨get_top _, (w.dead (get_top _)).1⟩
inductive SeqP : PV → List AV → Prop
  | lst {xs b} : SeqP (.lst xs, b) xs
  | tup {xs} : SeqP (.tup xs, false) xs
  | str {x} : SeqP (.str x, false) (chars x)
inductive SeqV3 (F : FH) (h : Heap) (xs : List AV) (q : Bool) (v : Value) : Prop
  | lst (a : Addr) (o : Obj) (vs : List Value) (n : Nat) (e : v = .ref a) (h1 : h.get? a = some o) (h2 : o.cls = .type "list") (h3 : o.data = .seq vs.toArray n) (h4 : VRs F xs vs) (hq : q = false → F a = some o)
  | tup (a : Addr) (o : Obj) (vs : List Value) (n : Nat) (e : v = .ref a) (h1 : h.get? a = some o) (h2 : o.cls = .type "tuple") (h3 : o.data = .seq vs.toArray n) (h4 : VRs F xs vs) (hq : q = false → F a = some o)
  | str (x : Str) (t : Tok) (e : v = .str x t) (ex : xs = chars x)
theorem SeqP.at {pv : PV} {xs : List AV} {v : Value} (hs : SeqP pv xs) (r : PVR hp F pv v) (w : Wp C A hp F s) : SeqV3 F s.heap xs pv.2 v := by
  cases hs with
  | lst =>
    obtain ⟨a, o, vs, n, rfl, h1, h2, h3, h4, h5⟩ := r.lstI w
    exact .lst a o vs n rfl h1 h2 h3 h4 h5
  | tup =>
    obtain ⟨a, o, vs, n, rfl, h1, h2, h3, h4, h5⟩ := r.tupI w
    exact .tup a o vs n rfl h1 h2 h3 h4 fun zu => h5
  | str =>
    obtain ⟨t, rfl⟩ := r.out.strI
    exact .str _ t rfl rfl
theorem ItQ.pre {target : Expr} {xs : List AV} {F₁ : FH} {s₁ : Shared} {iv : Value} (st : Stp C A hp F s F₁ s₁) (z : ItQ C A hp F₁ s₁ target xs iv s') : ItQ C A hp F s target xs iv s' := by
  obtain ⟨F', I, fp, wr, St, st', e, W, h0, hw⟩ := z
  exact ⟨F', I, fp, wr, St, st.trans st', e, W, h0, fun b hb => ⟨st.dead (hw b hb).1, (hw b hb).2⟩⟩
theorem PI_val {target iter : Expr} {pv : PV} {xs : List AV} (hA : A.handled = none) (h : PE C A hp env loc iter pv) (hs : SeqP pv xs) (hb : autoParam (pv.2 = false) AC.aux0._auto_1) : PI C A hp env loc target iter xs := fun F s E c => by
  refine h.use c fun F₁ s₁ v st₁ c₁ r => ?_
  have ntop : ∀ {a o}, s₁.heap.get? a = some o → a ≠ s₁.heap.objs.size := fun e => Nat.ne_of_lt (Heap.lt_size e)
  cases hs.at r c₁.wp with
  | lst a o vs n e h1 h2 h3 h4 hq =>
    subst e
    refine wpAny_pyIter_list ⟨o, h1, h2, n, h3⟩ ((ItQ.one c₁.wp (Walks.list hA s₁.heap.objs.size a (ntop h1) vs.toArray) (by rw [List.size_toArray, h4.length]) h4.arr (c := "list_iterator") (by decide) (fun i h st => ?_) rfl ⟨⟨_, Heap.get?_push_size _ rfl, rfl, rfl⟩, ⟨o, Heap.get?_push_of_some _ h1, h2, n, h3⟩⟩ fun b hb' => ?_).pre st₁)
    · obtain ⟨⟨o, q1, q2, q3⟩, zu⟩ := st; exact ⟨o, _, q1, q2, q3⟩
    · rcases List.mem_cons.mp hb' with rfl | hb'
      · exact .inl rfl
      · rw [List.mem_singleton.mp hb']; exact .inr ⟨_, hq hb⟩
  | tup a o vs n e h1 h2 h3 h4 hq =>
    subst e
    refine wpAny_pyIter_tuple ⟨o, h1, h2, n, h3⟩ ((ItQ.one c₁.wp (Walks.tuple hA s₁.heap.objs.size a (ntop h1) vs.toArray) (by rw [List.size_toArray, h4.length]) h4.arr (c := "tuple_iterator") (by decide) (fun i h st => ?_) rfl ⟨⟨_, Heap.get?_push_size _ rfl, rfl, rfl⟩, ⟨o, Heap.get?_push_of_some _ h1, h2, n, h3⟩⟩ fun b hb' => ?_).pre st₁)
    · obtain ⟨⟨o, q1, q2, q3⟩, zu⟩ := st; exact ⟨o, _, q1, q2, q3⟩
    · rcases List.mem_cons.mp hb' with rfl | hb'
      · exact .inl rfl
      · rw [List.mem_singleton.mp hb']; exact .inr ⟨_, hq hb⟩
  | str x t e ex =>
    subst e ex
    refine wpAny_pyIter_strU ?_
    have key : ∀ c, strIterType x = c → owners7.contains c = false → Walks C.prog C.w A s₁.heap.objs.size [s₁.heap.objs.size] [s₁.heap.objs.size] x.cps.size (SignAt x) (fun i h => h.IsStrIter s₁.heap.objs.size c x t i) →
        ItQ C A hp F₁ s₁ target (chars x) (.ref s₁.heap.objs.size) ⟨s₁.heap.push { cls := .type (strIterType x), data := .fields #[.str x t, .int 0 0] }, s₁.gens, s₁.drawn, s₁.toks, s₁.os⟩ := fun c hc hn W => by
      refine ItQ.one c₁.wp W (chars_len x) (fun i y v hy hP => ?_) hn (fun i h st => ?_) rfl ⟨_, Heap.get?_push_size _ rfl, by rw [hc], rfl⟩ fun b hb => .inl (List.mem_singleton.mp hb)
      · obtain ⟨c, hc, rfl⟩ := chars_get hy
        obtain ⟨c', u, hc', rfl⟩ := hP
        rw [hc] at hc'; (have zc := Option.some.inj hc'; clear hc'; subst zc)
        exact .str _ _
      · obtain ⟨o, q1, q2, q3⟩ := st; exact ⟨o, _, q1, q2, q3⟩
    rcases strIt_cases x with e | e
    · exact (key _ e (by decide) (Walks.strAscii hA _ x t)).pre st₁
    · exact (key _ e (by decide) (Walks.strWide hA _ x t)).pre st₁
end
end
section
section
variable {C : Cf} {A : Around} {hp : HP} {s s' : Shared} {env : Env} {F F' : FH} {E : Value → Shared → Prop} {loc : PL}
noncomputable def rangeL (a c : Int) (n : Nat) : List AV := (List.range n).map fun (i : Nat) => .int (a + (i : Int) * c)
theorem rangeL_get {a c : Int} {n i : Nat} {y : AV} (h : (rangeL a c n)[i]? = some y) : i < n ∧ y = .int (a + i * c) := by
  unfold rangeL at h
  rw [List.getElem?_map, Option.map_eq_some_iff] at h
  obtain ⟨j, h1, h2⟩ := h
  obtain ⟨h3, h4⟩ := List.getElem?_eq_some_iff.mp h1
  simp at h3 h4
  subst h4; exact ⟨h3, h2.symm⟩
theorem iter_range {target : Expr} {r : Addr} {a b c : Int} {t u v : Tok} {n : Nat} (hA : A.handled = none) (w : Wp C A hp F s) (hr : s.heap.get? r = some { cls := .type "range", data := .fields #[.int a t, .int b u, .int c v] }) (hsm : Builtin.Range.small a b c = true) (hn : Builtin.Range.rangeSize a b c = n) :
    wpAny (model C.prog C.w) A (pyIter (.ref r)) (ItQ C A hp F s target (rangeL a c n)) E s := by
  refine wpAny_pyIter_range (t := t) (u := u) (v := v) hr hsm ?_
  rw [hn]
  refine ItQ.one w (Walks.range hA s.heap.objs.size a c n) (by simp [rangeL]) (fun i x v hx hP => ?_) (c := "range_iterator") (by decide) (fun i h st => ⟨_, _, st, rfl, rfl⟩) rfl ?_ fun b hb => .inl (List.mem_singleton.mp hb)
  · obtain ⟨zu, rfl⟩ := rangeL_get hx
    obtain ⟨t, rfl⟩ := hP
    exact .int _ _
  · have e1 : a + ((0 : Nat) : Int) * c = a := by simp
    have e2 : (n : Int) - ((0 : Nat) : Int) = n := by simp
    show IsRangeIter _ _ _ _ _
    rw [e1, e2]
    exact Heap.get?_push_size _ rfl
theorem PVRs.inv {x : PV} {xs : List PV} {vs : List Value} (r : PVRs hp F (x :: xs) vs) : ∃ v us, vs = v :: us ∧ PVR hp F x v ∧ PVRs hp F xs us := by
  cases r with
  | cons a b => exact ⟨_, _, rfl, a, b⟩
theorem PVRs.nilI {vs : List Value} (r : PVRs hp F [] vs) : vs = [] := by cases (r); rfl
theorem PI_range2 {target : Expr} {x : Str} {px pos : Pos} {args : List Expr} {a b : Int} {n : Nat} (hA : A.handled = none) (hg : GL C x (.type "range")) (hv : PEl C A hp env loc args [(.int a, false), (.int b, false)]) (hsm : Builtin.Range.small a b 1 = true) (hn : Builtin.Range.rangeSize a b 1 = n) (hk : autoParam (env.kindOf x = some .globalImplicit) AC.aux0._auto_1)
    (he : autoParam (eval (.Call (.Name x px) args [] pos) env = (do callWith pos (← eval (.Name x px) env) [] (argsOf env args) [])) AC.aux0._auto_1) (hd : autoParam ((x == ("__debug__" : Str)) = false) AC.aux1._auto_1) : PI C A hp env loc target (.Call (.Name x px) args [] pos) (rangeL a 1 n) := fun F s E c =>
  call_cps hg (fun zu zu => KeepOk_plain (by intro a; simp)) hv c (fun F₁ s₁ us st c₁ r => by
    obtain ⟨v, us, rfl, r1, r⟩ := r.inv
    obtain ⟨v2, us, rfl, r2, r⟩ := r.inv
    obtain rfl := r.nilI
    obtain ⟨t, rfl⟩ := r1.out.intI
    obtain ⟨t2, rfl⟩ := r2.out.intI
    refine call_range_2 (wpAny_mono (iter_range (F := F₁) hA (Stp.keep c₁.wp fun zu zu e => Heap.get?_push_of_some _ e).w' (Heap.get?_push_size _ rfl) hsm hn) (fun zu zu q => (q.pre (.keep c₁.wp fun zu zu e => Heap.get?_push_of_some _ e)).pre st) fun zu zu x => x)) hk he hd
theorem PI_range3 {target : Expr} {x : Str} {px pos : Pos} {args : List Expr} {a b d : Int} {n : Nat} (hA : A.handled = none) (hg : GL C x (.type "range")) (hv : PEl C A hp env loc args [(.int a, false), (.int b, false), (.int d, false)]) (hc : d ≠ 0) (hpy : Builtin.divisionGoesByPylong (b - a) d = false) (hsm : Builtin.Range.small a b d = true) (hn : Builtin.Range.rangeSize a b d = n) (hk : autoParam (env.kindOf x = some .globalImplicit) AC.aux0._auto_1)
    (he : autoParam (eval (.Call (.Name x px) args [] pos) env = (do callWith pos (← eval (.Name x px) env) [] (argsOf env args) [])) AC.aux0._auto_1) (hd : autoParam ((x == ("__debug__" : Str)) = false) AC.aux1._auto_1) : PI C A hp env loc target (.Call (.Name x px) args [] pos) (rangeL a d n) := fun F s E c =>
  call_cps hg (fun zu zu => KeepOk_plain (by intro a; simp)) hv c (fun F₁ s₁ us st c₁ r => by
    obtain ⟨v, us, rfl, r1, r⟩ := r.inv
    obtain ⟨v2, us, rfl, r2, r⟩ := r.inv
    obtain ⟨v3, us, rfl, r3, r⟩ := r.inv
    obtain rfl := r.nilI
    obtain ⟨t, rfl⟩ := r1.out.intI
    obtain ⟨t2, rfl⟩ := r2.out.intI
    obtain ⟨t3, rfl⟩ := r3.out.intI
    refine call_range_3 hc (wpAny_mono (iter_range (F := F₁) hA (Stp.keep c₁.wp fun zu zu e => Heap.get?_push_of_some _ e).w' (Heap.get?_push_size _ rfl) hsm hn) (fun zu zu q => (q.pre (.keep c₁.wp fun zu zu e => Heap.get?_push_of_some _ e)).pre st) fun zu zu x => x) (.inl hpy)) hk he hd
end
end
section
section
variable {prog : Program} {w : World} {A : Around} {E : Value → Shared → Prop} {s : Shared}
end
end
section
section
variable {C : Cf} {A : Around} {hp : HP} {s s' : Shared} {env : Env} {F F' : FH} {E : Value → Shared → Prop} {loc : PL}
end
end
section
section
variable {C : Cf} {A : Around} {hp : HP} {s s' : Shared} {env : Env} {F F' : FH} {E : Value → Shared → Prop} {loc : PL}
noncomputable abbrev PTs (C : Cf) (A : Around) (hp : HP) (cenv : Env) (l : PL) (ifs : List Expr) (ok : Bool) : Prop := PT C A hp cenv l (fun zu b b' => b = b') (testsOf ifs cenv) ok
theorem PTs_nil {cenv : Env} {l : PL} : PTs C A hp cenv l [] true := .mk fun F s E c => wpAny_tests_nil (PuQ.here (t := s.toks) c.wp rfl)
theorem PTs_one {cenv : Env} {l : PL} {e : Expr} {b : Bool} (h : PB C A hp cenv l e b) : PTs C A hp cenv l [e] b := .mk fun F s E c => wpAny_tests_one (h.go F s E c)
theorem bl_one {cenv : Env} {x : Str} {v : AV} {bl : BL} (hk : cenv.kindOf x = some .local) (h : ∀ y a, bl.lookup y = some a → cenv.kindOf y = some .local) : ∀ y a, ((x, v) :: bl).lookup y = some a → cenv.kindOf y = some .local := fun y a e => by
  simp only [List.lookup] at e
  split at e
  · rename_i q; rw [beq_iff_eq.mp q]; exact hk
  · exact h y a e
theorem le_one {x : Str} {v : AV} {bl : BL} (h : bl.lookup x = none) : LeB bl ((x, v) :: bl) := fun y a e => by
  simp only [List.lookup]
  split
  · rename_i q; rw [beq_iff_eq.mp q, h] at e; exact ns_ne e
  · exact e
theorem LeB.trans {a b c : BL} (h : LeB a b) (k : LeB b c) : LeB a c := fun y v e => k y v (h y v e)
theorem bl_nil {cenv : Env} : ∀ y a, ([] : BL).lookup y = some a → cenv.kindOf y = some .local := fun y a e => by exact ns_ne e
inductive Bind (A : Around) (cenv : Env) : Expr → AV → BL → BL → Prop
  | name {x px v bl} (hk : cenv.kindOf x = some .local) (hn : bl.lookup x = none) : Bind A cenv (.Name x px) v bl ((x, v) :: bl)
  | pair {x y p1 p2 tn pos a b bl} (hA : A.handled = none) (hx : cenv.kindOf x = some .local) (hy : cenv.kindOf y = some .local) (hn : bl.lookup x = none) (hn2 : ((x, a) :: bl).lookup y = none) : Bind A cenv (.Tuple [.Name x p1, .Name y p2] tn pos) (.tup [a, b]) bl ((y, b) :: (x, a) :: bl)
theorem Bind.asg {cenv : Env} {target : Expr} {v : AV} {bl bl' : BL} (h : Bind A cenv target v bl bl') {Lc : LA} (hf : cenv.scope.kind = .function) (hL : cenv.locals = Lc.1) (h2 : Lc.2 = false) : PAsg C A cenv Lc target v bl bl' := by
  cases h with
  | name hk hn => exact PAsg_Name hf hL h2 hk
  | pair hA hx hy hn hn2 => exact PAsg_Pair hA hf hL h2 hx hy
theorem Bind.le {cenv : Env} {target : Expr} {v : AV} {bl bl' : BL} (h : Bind A cenv target v bl bl') : LeB bl bl' := by
  cases h with
  | name hk hn => exact le_one hn
  | pair hA hx hy hn hn2 => exact (le_one hn).trans (le_one hn2)
theorem Bind.ok {cenv : Env} {target : Expr} {v : AV} {bl bl' : BL} (h : Bind A cenv target v bl bl') (k : ∀ y a, bl.lookup y = some a → cenv.kindOf y = some .local) : ∀ y a, bl'.lookup y = some a → cenv.kindOf y = some .local := by
  cases h with
  | name hk hn => exact bl_one hk k
  | pair hA hx hy hn hn2 => exact bl_one hy (bl_one hx k)
theorem bok {scope : Scope} {Lc : LA} {bl : BL} (h2 : Lc.2 = false) (h : ∀ y a, bl.lookup y = some a → (cenvOf env scope Lc).kindOf y = some .local) : BOk env scope Lc bl := fun x a q => .inl ⟨h2, h x a q⟩
theorem PCm_comp {elt target iter : Expr} {ifs : List Expr} {scope : Scope} {pos : Pos} {α : Type} (l : List α) (g f : α → AV) (p : α → Bool) (B : α → BL) (hi : PI C A hp env loc target iter (l.map g)) (hz : l.length ≤ 100000)
    (hb : ∀ Lc a, a ∈ l → Bind A (cenvOf env scope Lc) target (g a) [] (B a)) (ht : ∀ Lc a, a ∈ l → PTs C A hp (cenvOf env scope Lc) (cloc scope loc (B a)) ifs (p a)) (h : ∀ Lc a, a ∈ l → p a = true → PE C A hp (cenvOf env scope Lc) (cloc scope loc (B a)) elt (f a, false))
    (cs : autoParam (CScope env scope) AC.aux7._auto_1) (hs : autoParam (∀ x, foldedSetIterable iter env x = pure x) AC.aux4._auto_1) (hmd : autoParam (md scope = false) AC.aux0._auto_1) : PCm C A hp env loc elt [⟨target, iter, ifs, 0⟩] scope pos ((l.filter p).map f) := by
  have e : ∀ l : List α, (l.filter p).map f = l.flatMap fun a => if p a = true then [f a] else [] := fun l => by
    induction l with
    | nil => rfl
    | cons a l ih => rw [List.flatMap_cons, List.filter_cons, ← ih]; split <;> rfl
  have hz' : (l.flatMap fun a => if p a = true then [f a] else []).length ≤ 100000 := by
    rw [← e, List.length_map]; exact Nat.le_trans (List.length_filter_le _ _) hz
  rw [e]
  exact PCm_1 cs hi _ (fun F s acc L c a ha => ⟨B a, p a, (hb (L, md scope) a ha).asg cs.kind rfl hmd, (hb (L, md scope) a ha).le, bok hmd ((hb (L, md scope) a ha).ok bl_nil), ht _ a ha, fun z => by
    rw [if_pos z]; exact PRest_emit c cs (bok hmd ((hb (L, md scope) a ha).ok bl_nil)) (h _ a ha z), fun z => by rw [z]; rfl⟩) hz' hs
theorem PCm_map {elt iter : Expr} {scope : Scope} {pos px : Pos} {x : Str} {α : Type} (l : List α) (g f : α → AV) (hi : PI C A hp env loc (.Name x px) iter (l.map g)) (hz : l.length ≤ 100000)
    (h : ∀ Lc a, a ∈ l → PE C A hp (cenvOf env scope Lc) (cloc scope loc [(x, g a)]) elt (f a, false)) (hk : autoParam (∀ Lc, (cenvOf env scope Lc).kindOf x = some .local) AC.aux4._auto_1)
    (cs : autoParam (CScope env scope) AC.aux7._auto_1) (hs : autoParam (∀ x, foldedSetIterable iter env x = pure x) AC.aux4._auto_1) (hmd : autoParam (md scope = false) AC.aux0._auto_1) : PCm C A hp env loc elt [⟨.Name x px, iter, [], 0⟩] scope pos (l.map f) := by
  have := PCm_comp (pos := pos) l g f (fun zu => true) (fun a => [(x, g a)]) hi hz (fun Lc a zu => .name (hk Lc) rfl) (fun Lc a ha => PTs_nil) (fun Lc a ha zu => h Lc a ha) cs hs hmd
  rwa [(List.filter_eq_self.mpr fun zu zu => rfl : l.filter (fun zu => true) = l)] at this
end
end
section
section
variable {hp : HP} {C : Cf} {A : Around} {s s' : Shared} {env : Env} {F F' : FH} {E : Value → Shared → Prop} {loc : PL}
/-! whole numbers -/
theorem b_add {a b : Int} : PO2 C A hp (PVR hp) (binaryOp .Add) (.int a, false) (.int b, false) (.int (a + b), false) := fun F s E v u hin hv hu => by
  obtain ⟨t, rfl⟩ := hv.out.intI; obtain ⟨t', rfl⟩ := hu.out.intI; exact add_int (PuQ.here hin (.val (.int _ _)))
theorem b_sub {a b : Int} : PO2 C A hp (PVR hp) (binaryOp .Sub) (.int a, false) (.int b, false) (.int (a - b), false) := fun F s E v u hin hv hu => by
  obtain ⟨t, rfl⟩ := hv.out.intI; obtain ⟨t', rfl⟩ := hu.out.intI; exact PyProof.Rows.sub_int (PuQ.here hin (.val (.int _ _)))
theorem b_mod {a b : Int} (hb : b ≠ 0) : PO2 C A hp (PVR hp) (binaryOp .Mod) (.int a, false) (.int b, false) (.int (a.fmod b), false) := fun F s E v u hin hv hu => by
  obtain ⟨t, rfl⟩ := hv.out.intI; obtain ⟨t', rfl⟩ := hu.out.intI; exact mod_int hb (PuQ.here hin (.val (.int _ _)))
noncomputable def PlA (C : Cf) (A : Around) : Prop := ∀ s : Shared, (∃ l, A.frames = some l) → (∀ b o, C.h0.get? b = some o → s.heap.get? b = some o) → PylongRoom (model C.prog C.w) A s
theorem b_fdiv {a b : Int} (pl : PlA C A) (hb : b ≠ 0) : PO2 C A hp (PVR hp) (binaryOp .FloorDiv) (.int a, false) (.int b, false) (.int (a.fdiv b), false) := fun F s E v u hin hv hu => by
  obtain ⟨t, rfl⟩ := hv.out.intI; obtain ⟨t', rfl⟩ := hu.out.intI; exact floordiv_int hb (PuQ.here hin (.val (.int _ _))) (.inr (pl s (let ⟨l, a, _⟩ := hin.fr; ⟨l, a⟩) hin.old))
theorem c_ge {a b : Int} : PO2 C A hp (PVR hp) (compareOp .GtE) (.int a, false) (.int b, false) (.bool (decide (b ≤ a)), false) := fun F s E v u hin hv hu => by
  obtain ⟨t, rfl⟩ := hv.out.intI; obtain ⟨t', rfl⟩ := hu.out.intI; exact PyProof.Rows.ge_int (PuQ.here (t := s.toks) hin (.val (.bool _)))
theorem PE_neg {x : Expr} {pos : Pos} {a : Int} (h : PE C A hp env loc x (.int a, false)) : PE C A hp env loc (.UnaryOp .USub x pos) (.int (-a), false) := .mk fun F s E c =>
  UnaryOp_ (h.use c fun F₁ s₁ v st c₁ r => by obtain ⟨t, rfl⟩ := r.out.intI; exact PyProof.Rows.neg_int ((PuQ.here c₁.wp (.val (.int _ _))).pre st))
theorem t_bool {b : Bool} : PO1 C A hp (fun zu b b' => b = b') truthy (.bool b, false) b := fun F s E v hin hv => by
  obtain rfl := hv.out.boolI; exact wpAny_truthy_bool (PuQ.here (t := s.toks) hin rfl)
/-! sequences -/
theorem PuQ.newL {xs : List AV} {vs : List Value} {t n : Nat} (hin : Wp C A hp F s) (hv : VRs F xs vs) : PuQ C A hp F s (fun F' v => PVR hp F' (.lst xs, false) v) (.ref s.heap.objs.size) ⟨s.heap.push { cls := .type "list", data := .seq vs.toArray n }, s.gens, s.drawn, t, s.os⟩ := by
  have st := Stp.push (t := t) hin (o := { cls := .type "list", data := .seq vs.toArray n }) rfl
  exact ⟨_, st, .val (.lst (fput_self _ _ _) rfl rfl (hv.mono st.e))⟩
theorem PuQ.newT {xs : List AV} {vs : List Value} {t n : Nat} (hin : Wp C A hp F s) (hv : VRs F xs vs) : PuQ C A hp F s (fun F' v => PVR hp F' (.tup xs, false) v) (.ref s.heap.objs.size) ⟨s.heap.push { cls := .type "tuple", data := .seq vs.toArray n }, s.gens, s.drawn, t, s.os⟩ := by
  have st := Stp.push (t := t) hin (o := { cls := .type "tuple", data := .seq vs.toArray n }) rfl
  exact ⟨_, st, .val (.tup (fput_self _ _ _) rfl rfl (hv.mono st.e))⟩
noncomputable abbrev vals (xs : List AV) : List PV := xs.map fun x => (x, false)
theorem PVRs.outs {xs : List AV} {vs : List Value} (r : PVRs hp F (vals xs) vs) : VRs F xs vs := by
  induction xs generalizing vs with
  | nil => rw [r.nilI]; exact .nil
  | cons x xs ih =>
    obtain ⟨v, us, rfl, a, b⟩ := r.inv
    exact .cons a.out (ih b)
theorem PE_Tuple {elts : List Expr} {k : Nat} {pos : Pos} (xs : List AV) (h : PEl C A hp env loc elts (vals xs)) (hz : xs.length ≤ 100000) (ht : autoParam (backTo pos (starEach elts env) = argsOf env elts) AC.aux0._auto_1) : PE C A hp env loc (.Tuple elts k pos) (.tup xs, false) := .mk fun F s E c =>
  Tuple_ (ht ▸ h.pes.use c fun F₁ s₁ us st c₁ r => by
    have hv := r.outs
    unfold newTuple
    exact wpAny_newObj_type ((PuQ.newT c₁.wp hv).pre st) (by show us.toArray.size ≤ sizeLine; rw [List.size_toArray, hv.length, sizeLine_eq]; with_reducible exact od_le ‹_› (by decide)))
theorem PE_List {elts : List Expr} {pos : Pos} (xs : List AV) (h : PEl C A hp env loc elts (vals xs)) (hz : xs.length ≤ 100000) (ht : autoParam (backTo pos (starEach elts env) = argsOf env elts) AC.aux0._auto_1) : PE C A hp env loc (.List elts pos) (.lst xs, false) := .mk fun F s E c =>
  List_ (ht ▸ h.pes.use c fun F₁ s₁ us st c₁ r => by
    have hv := r.outs
    unfold newList
    exact wpAny_newObj_type ((PuQ.newL c₁.wp hv).pre st) (by show us.toArray.size ≤ sizeLine; rw [List.size_toArray, hv.length, sizeLine_eq]; with_reducible exact od_le ‹_› (by decide)))
theorem b_addL {xs ys : List AV} {p q : Bool} (hz : xs.length + ys.length ≤ 100000) : PO2 C A hp (PVR hp) (binaryOp .Add) (.lst xs, p) (.lst ys, q) (.lst (xs ++ ys), false) := fun F s E v u hin hv hu => by
  obtain ⟨a, ⟨cls, dd, data, sl⟩, vs, n, rfl, ho, hc, hd, hvs, zu⟩ := hv.lstI hin
  obtain ⟨b, ⟨cls2, dd2, data2, sl2⟩, us, n2, rfl, ho2, hc2, hd2, hus, zu⟩ := hu.lstI hin
  dsimp only at hc hd hc2 hd2
  subst hc hd hc2 hd2
  have e : vs.toArray ++ us.toArray = (vs ++ us).toArray := by simp
  refine concat_meets ⟨_, ho, rfl⟩ ⟨_, ho2, rfl⟩ noFill_list_add seq_list_add PySem.F.slot_list_add PySem.F.entry_list_add (PySem.F.args_list_add_2 _ _) (list_addW a b vs.toArray us.toArray n n2 dd dd2 sl sl2 (by simp only [List.size_toArray, hvs.length, hus.length, sizeLine_eq]; with_reducible exact od_le ‹_› (by decide))) ⟨ho, ho2, ?_⟩
  rw [e]
  exact PuQ.newL hin (hvs.append hus)
noncomputable abbrev PPart (C : Cf) (A : Around) (hp : HP) (env : Env) (loc : PL) (x : Option Expr) (o : Option Int) : Prop := PT C A hp env loc (fun zu o v => IsPart v o) (evalPart x env) o
theorem part_no : PPart C A hp env loc none none := .mk fun F s E c => by rw [evalPart_none]; exact wpAny_pure (PuQ.here (t := s.toks) c.wp .none)
theorem part_int {e : Expr} {i : Int} (h : PE C A hp env loc e (.int i, false)) : PPart C A hp env loc (some e) (some i) := .mk fun F s E c => h.use c fun F₁ s₁ v st c₁ r => by
  obtain ⟨t, rfl⟩ := r.out.intI
  exact (PuQ.here (t := s₁.toks) c₁.wp (.int _ _)).pre st
noncomputable def PSl (C : Cf) (A : Around) (hp : HP) (pv : PV) (lo hi st : Option Int) (res : PV) : Prop :=
  ∀ F s (E : Value → Shared → Prop) v (a : Addr) (l u w : Value), Wp C A hp F s → PVR hp F pv v → s.heap.IsSliceOf a l u w → IsPart l lo → IsPart u hi → IsPart w st → ∀ value slice, wpAny (model C.prog C.w) A (subscriptTail value slice v (.ref a)) (PuQ C A hp F s fun F' v => PVR hp F' res v) E s
theorem PE_Slice {value : Expr} {lower upper step : Option Expr} {p pos : Pos} {pv res : PV} {lo hi st : Option Int} (h : PE C A hp env loc value pv) (h1 : PPart C A hp env loc lower lo) (h2 : PPart C A hp env loc upper hi) (h3 : PPart C A hp env loc step st) (hs : PSl C A hp pv lo hi st res) :
    PE C A hp env loc (.Subscript value (.Slice lower upper step p) pos) res := .mk fun F s E c =>
  Subscript_ (h.use c fun F₁ s₁ v st₁ c₁ r => wpAny_Slice (h1.use c₁ fun F₂ s₂ l st₂ c₂ r1 => h2.use c₂ fun F₃ s₃ u st₃ c₃ r2 => h3.use c₃ fun F₄ s₄ w st₄ c₄ r3 => by
    have st5 : Stp C A hp F₄ s₄ F₄ { s₄ with heap := s₄.heap.push { cls := .type "slice", data := .fields #[l, u, w] } } := .keep c₄.wp fun zu zu e => Heap.get?_push_of_some _ e
    exact wpAny_mono (hs F₄ _ E v _ l u w st5.w' ((((r.step st₂).step st₃).step st₄).step st5) ⟨_, Heap.get?_push_size _ rfl, rfl, rfl⟩ r1 r2 r3 _ _) (fun zu zu q => q.pre (st₁.trans (st₂.trans (st₃.trans (st₄.trans st5))))) fun zu zu x => x))
noncomputable def cutL {α : Type} (xs : List α) (lo hi : Option Int) : List α := (xs.drop (lo.elim 0 (clipAt xs.length))).take (hi.elim xs.length (clipAt xs.length) - lo.elim 0 (clipAt xs.length))
theorem cutL_map {α β : Type} (f : α → β) (xs : List α) (lo hi : Option Int) : cutL (xs.map f) lo hi = (cutL xs lo hi).map f := by
  unfold cutL; simp [List.map_take, List.map_drop]
theorem cutL_len {α : Type} (xs : List α) (lo hi : Option Int) : (cutL xs lo hi).length ≤ xs.length := by
  unfold cutL; simp; omega
theorem cutL_from {α : Type} (xs : List α) (a : Nat) : cutL xs (some a) none = xs.drop a := by
  unfold cutL
  simp only [Option.elim, clipAt_nat]
  rcases Nat.le_total a xs.length with h | h
  · rw [Nat.min_eq_left h, List.take_of_length_le (by simp)]
  · rw [Nat.min_eq_right h, List.drop_of_length_le (by simp), List.drop_of_length_le h]; simp
theorem cutL_upto {α : Type} (xs : List α) (b : Nat) : cutL xs none (some b) = xs.take b := by
  unfold cutL
  simp only [Option.elim, clipAt_nat, List.drop_zero, Nat.sub_zero]
  rcases Nat.le_total b xs.length with h | h
  · rw [Nat.min_eq_left h]
  · rw [Nat.min_eq_right h, List.take_of_length_le (by simp), List.take_of_length_le h]
theorem VRs.cut {xs : List AV} {vs : List Value} (h : VRs F xs vs) (lo hi : Option Int) : VRs F (cutL xs lo hi) (cutL vs lo hi) := by
  unfold cutL
  rw [h.length]
  exact (h.drop _).take _
theorem pick_cut (vs : List Value) (lo hi : Option Int) : slicePick vs.toArray lo hi none = (cutL vs lo hi).toArray := by
  rw [slicePick_plain]; simp [cutL]
theorem PSl_lst {xs : List AV} {p : Bool} {lo hi : Option Int} (hz : xs.length ≤ 100000) : PSl C A hp (.lst xs, p) lo hi none (.lst (cutL xs lo hi), false) := fun F s E v a l u w hin hv hs pl pu pw value slice => by
  obtain ⟨b, o, vs, n, rfl, ho, hc, hd, hvs, zu⟩ := hv.lstI hin
  have ha : s.heap.IsList b vs.toArray := ⟨o, ho, hc, n, hd⟩
  refine tail_of ha.typeIs list_getitem_lookup (wpAny_getItem_list_slice ha hs pl pu pw (by simp) ?_ (by rw [List.size_toArray, hvs.length, sizeLine_eq]; with_reducible exact od_le ‹_› (by decide)))
  rw [pick_cut]
  exact PuQ.newL hin (hvs.cut lo hi)
theorem s_item {value slice : Expr} {xs : List AV} {p : Bool} {k : Int} {x : AV} (h0 : 0 ≤ k) (hx : xs[k.toNat]? = some x) (hz : xs.length ≤ 100000) : PO2 C A hp (PVR hp) (subscriptTail value slice) (.lst xs, p) (.int k, false) (x, false) := fun F s E v w hin hv hw => by
  obtain ⟨t, rfl⟩ := hw.out.intI
  obtain ⟨a, o, vs, n, rfl, ho, hc, hd, hvs, zu⟩ := hv.lstI hin
  obtain ⟨u, hu, hvu⟩ := hvs.get hx
  have ha : s.heap.IsList a vs.toArray := ⟨o, ho, hc, n, hd⟩
  have hlt := (List.getElem?_eq_some_iff.mp hx).1
  exact tail_of ha.typeIs list_getitem_lookup (wpAny_getItem_list ha h0 (by omega) (by rw [List.getElem?_toArray]; exact hu) (PuQ.here (t := s.toks) hin (.val hvu)))
theorem s_tup {value slice : Expr} {xs : List AV} {k : Nat} {x : AV} (hx : xs[k]? = some x) (hz : xs.length ≤ 100000) : PO2 C A hp (PVR hp) (subscriptTail value slice) (.tup xs, false) (.int k, false) (x, false) := fun F s E v w hin hv hw => by
  obtain ⟨t, rfl⟩ := hw.out.intI
  obtain ⟨a, ⟨oc, od, odt, osl⟩, vs, n, rfl, ho, hc, hdt, hvs, zu⟩ := hv.tupI hin
  obtain ⟨u, hu, hvu⟩ := hvs.get hx
  have hlt := (List.getElem?_eq_some_iff.mp hx).1
  have e := hvs.length
  dsimp only at hc hdt
  subst hc hdt
  refine tail_of ⟨_, ho, rfl⟩ PySem.F.slot_tuple_getitem.lookup (getItem_tuple (j := k) ⟨_, ho, rfl, n, rfl⟩ (by omega) (by omega) ?_ (by rw [List.getElem?_toArray]; exact hu) (PuQ.here (t := s.toks) hin (.val hvu)))
  rw [seqIndex_of (by exact Int.natCast_nonneg _) (by simp only [List.size_toArray, e]; omega)]
  simp
/-! calls -/
theorem k_len {xs : List AV} {p : Bool} (hz : xs.length ≤ 100000) : PK C A hp (.builtin "len") [(.lst xs, p)] (.int xs.length, false) := fun F s E us hin r => by
  obtain ⟨v, us, rfl, r1, r⟩ := r.inv
  obtain rfl := r.nilI
  obtain ⟨a, o, vs, n, rfl, ho, hc, hd, hvs, zu⟩ := r1.lstI hin
  refine PyProof.Rows.len_list ⟨o, ho, hc, n, hd⟩ (by rw [List.size_toArray, hvs.length]; omega) (PuQ.here hin (.val ?_))
  rw [List.size_toArray, hvs.length]; exact .int _ _
theorem k_lenS {x : Str} (hz : x.length ≤ 100000) : PK C A hp (.builtin "len") [(.str x, false)] (.int x.length, false) := fun F s E us hin r => by
  obtain ⟨v, us, rfl, r1, r⟩ := r.inv
  obtain rfl := r.nilI
  obtain ⟨t, rfl⟩ := r1.out.strI
  exact PyProof.Rows.len_str (by omega) (PuQ.here hin (.val (.int _ _)))
end
end
section
section
variable {G : FH} {σ : ASt} {C : Cf} {A : Around} {s s' : Shared} {env : Env} {F F' : FH} {E : Value → Shared → Prop} {loc : PL}
theorem Wd.dead {hp : HP} (W : Wd C F G hp s) {b : Addr} (h : s.heap.get? b = none) : F b = none ∧ G b = none ∧ hp b = none := by
  refine ⟨?_, ?_, ?_⟩
  · cases e : F b with
    | none => rfl
    | some o => rw [W.fz b o e] at h; exact sn_ne h
  · cases e : G b with
    | none => rfl
    | some o => obtain ⟨o', ho, zu⟩ := W.gz b o e; rw [ho] at h; exact sn_ne h
  · cases e : hp b with
    | none => rfl
    | some x => obtain ⟨zu, zu, o, ho, zu⟩ := W.ob b x e; rw [ho] at h; exact sn_ne h
theorem Wd.frp {hp : HP} (W : Wd C F G hp s) {e : Env} (h : FrG G e) : FrP hp F s.heap e := by
  obtain ⟨p, L, o, a, b, es, ep, d⟩ := h
  obtain ⟨o', h1, g⟩ := W.gz _ _ b
  refine ⟨p, L, a, ?_, ?_, o', h1, es, ep, g.data.trans d⟩
  · cases q : F L with
    | none => rfl
    | some o2 => rw [W.fg _ _ q] at b; exact ns_ne b
  · cases q : hp L with
    | none => rfl
    | some x => rw [(W.ob _ _ q).2.1] at b; exact ns_ne b
theorem Rp.wp (hR : Rp C A F G env σ s) : Wp C A σ.hp F s := by
  refine ⟨hR.wd.base, hR.wd.fz, fun a x q => ⟨(hR.wd.ob a x q).1, (hR.wd.ob a x q).2.2⟩, hR.wd.os, hR.wd.bare, hR.wd.gi, ?_⟩
  obtain ⟨e, l, a, b, c, d, f⟩ := hR.fs
  refine ⟨e :: l, a, fun y hy => ?_⟩
  rcases List.mem_cons.mp hy with rfl | hy
  · rcases d with ⟨rfl, d⟩ | d
    · obtain ⟨m, ⟨o, es, ep, h1, h2, zu⟩, zu⟩ := hR.fm.ns
      exact ⟨b, y.locals, d, hR.fm.lo.1, hR.fm.lo.2.2, o, h1, es, ep, h2⟩
    · exact hR.wd.frp d
  · exact hR.wd.frp (f y hy)
theorem Rp.pure (hR : Rp C A F G env σ s) (st : Stp C A σ.hp F s F' s') : Rp C A F' G env σ s' := by
  have dead : ∀ {b o}, s.heap.get? b = some o → F b = none → F' b = none := fun {b o} e q => st.off q e
  have ghp : ∀ {b o}, G b = some o → σ.hp b = none := fun {b o} e => by
    cases q : σ.hp b with
    | none => rfl
    | some x => rw [(hR.wd.ob _ _ q).2.1] at e; exact ns_ne e
  have ck : ∀ {c v}, σ.hp c = none → s.heap.IsCell c v → s'.heap.IsCell c v := fun {c v} e ⟨o, h1, h2⟩ => ⟨o, st.k h1 e (fun es ep q => by rw [h2] at q; cases q), h2⟩
  refine ⟨⟨st.w'.base, st.w'.fz, fun b o e => ?_, fun a x e => ⟨(st.w'.ob a x e).1, (hR.wd.ob a x e).2.1, (st.w'.ob a x e).2⟩, st.w'.os, st.w'.bare, st.w'.gi, fun b o e => ?_⟩, ⟨hR.fm.kind, ?_, ⟨?_, hR.fm.lo.2⟩, fun x hx => ?_, hR.fm.ci, fun x av c a b d => ?_, fun x av a b => ?_⟩, hR.fs⟩
  · obtain ⟨o', h1, g⟩ := hR.wd.gz b o e
    obtain ⟨o2, h2, g2⟩ := st.kg b o' h1 (ghp e)
    exact ⟨o2, h2, g.trans g2⟩
  · rcases st.new b o e with q | q
    · exact hR.wd.fg b o q
    · exact (hR.wd.dead q).2.1
  · obtain ⟨m, hm, hv⟩ := hR.fm.ns
    exact ⟨m, Ns.geq hm fun o h => st.kg _ o h hR.fm.lo.2.2, fun x av a b => let ⟨v, p, q⟩ := hv x av a b; ⟨v, p, q.mono st.e⟩⟩
  · obtain ⟨m, ⟨oL, es, ep, hL, zu⟩, zu⟩ := hR.fm.ns
    exact dead hL hR.fm.lo.1
  · obtain ⟨c, g1, g2, g3, g4, g5, v, g6⟩ := hR.fm.co x hx
    obtain ⟨o', ho', zu⟩ := g6
    exact ⟨c, g1, dead ho' g2, g3, g4, g5, v, ck g4 ⟨o', ho', by assumption⟩⟩
  · obtain ⟨v, p, q⟩ := hR.fm.cv x av c a b d
    obtain ⟨c', g1, zu, zu, g4, zu⟩ := hR.fm.co x b
    rw [d] at g1; (have zc := Option.some.inj g1; clear g1; subst zc)
    exact ⟨v, ck g4 p, q.mono st.e⟩
  · obtain ⟨c, v, o, a1, a2, a3, a4⟩ := hR.fm.fv x av a b
    exact ⟨c, v, o, a1, a2, a3, a4.mono st.e⟩
noncomputable def locP (own : List (Str × List AV)) (l : List (Str × AV)) : PL := own.map (fun p => (p.1, (.lst p.2, true))) ++ l.map fun p => (p.1, (p.2, false))
noncomputable def OwnOk (σ : ASt) (own : List (Str × List AV)) : Prop := ∀ p ∈ own, ∃ a, σ.loc.lookup p.1 = some (.ref a) ∧ σ.hp a = some (.list p.2)
theorem OwnOk.nil : OwnOk σ [] := fun p h => by cases h
theorem OwnOk.cons {x : Str} {xs : List AV} {a : Addr} {own : List (Str × List AV)} (h1 : σ.loc.lookup x = some (.ref a)) (h2 : σ.hp a = some (.list xs)) (h : OwnOk σ own) : OwnOk σ ((x, xs) :: own) := fun p hp => by
  rcases List.mem_cons.mp hp with rfl | hp
  · exact ⟨a, h1, h2⟩
  · exact h p hp
theorem map_look {α β : Type} (f : α → β) : ∀ {l : List (Str × α)} {x : Str}, (l.map fun p => (p.1, f p.2)).lookup x = (l.lookup x).map f
  | [], _ => rfl
  | (y, a) :: l, x => by
    simp only [List.map_cons, List.lookup]
    split
    · rfl
    · exact map_look f
theorem Fm.nmAt {hp : HP} {l : List (Str × AV)} (M : Fm F G hp env l s.heap) (hG : ∀ b o, G b = some o → (∀ es ep, o.data ≠ .dict es ep) → s.heap.get? b = some o) (hGh : ∀ b o, G b = some o → hp b = none) {x : Str} {av : AV} (h : l.lookup x = some av) (hk : isVar (env.kindOf x) = true) : ∃ v, VR F av v ∧ NmAt hp s.heap env x v := by
  cases q : env.kindOf x with
  | none => rw [q] at hk; exact ft_ne hk
  | some kd =>
    rw [q] at hk
    cases kd <;> first | (first | exact ft_ne hk | cases hk) | skip
    · obtain ⟨m, hm, hv⟩ := M.ns
      obtain ⟨v, h1, h2⟩ := hv x av h q
      exact ⟨v, h2, .loc q hm h1 M.lo.2.2⟩
    · obtain ⟨c, hc, zu, zu, hh, zu⟩ := M.co x q
      obtain ⟨v, h1, h2⟩ := M.cv x av c h q hc
      exact ⟨v, h2, .cell q hc h1 hh⟩
    · obtain ⟨c, v, o, h1, h2, h3, h4⟩ := M.fv x av h q
      exact ⟨v, h4, .free q h1 ⟨o, hG _ _ h2 (by intro es ep z; rw [h3] at z; cases z), h3⟩ (hGh _ _ h2)⟩
theorem Rp.pctx {own : List (Str × List AV)} (hR : Rp C A F G env σ s) (ho : OwnOk σ own) (hk : (σ.loc.all fun p => isVar (env.kindOf p.1)) = true) (hg : env.globals = mainGlobals ∧ env.builtins = builtinsNs) : PCtx C A σ.hp F s env (locP own σ.loc) := by
  have var : ∀ {x av}, σ.loc.lookup x = some av → isVar (env.kindOf x) = true := fun {x av} e => List.all_eq_true.mp hk _ (lookMem e)
  have gz := fun b o e hd => hR.wd.gzx (b := b) (o := o) e hd
  have gh : ∀ b o, G b = some o → σ.hp b = none := fun b o e => by
    cases q : σ.hp b with
    | none => rfl
    | some x => rw [(hR.wd.ob _ _ q).2.1] at e; exact ns_ne e
  refine ⟨hR.wp, hR.fm.kind, hg, fun x hx => let ⟨c, hc, _⟩ := hR.fm.co x hx; by rw [hc]; rfl, fun x pv e => ?_⟩
  unfold locP at e
  rw [lookApp, map_look (fun a => ((.lst a, true) : PV)), map_look (fun a => ((a, false) : PV))] at e
  cases q : own.lookup x with
  | some xs =>
    rw [q] at e; (have zc := Option.some.inj e; clear e; subst zc)
    obtain ⟨a, h1, h2⟩ := ho _ (lookMem q)
    obtain ⟨v, hv, n⟩ := hR.fm.nmAt gz gh h1 (var h1)
    obtain rfl := hv.refI
    exact ⟨_, .own h2, n⟩
  | none =>
    rw [q] at e
    obtain ⟨av, h1, rfl⟩ := Option.map_eq_some_iff.mp e
    obtain ⟨v, hv, n⟩ := hR.fm.nmAt gz gh h1 (var h1)
    exact ⟨v, .val hv, n⟩
theorem Ev_pure {E : Value → Shared → Prop} {e : Expr} {Q : AV → ASt → Prop} (own : List (Str × List AV)) (v : AV) (h : PE C A σ.hp env (locP own σ.loc) e (v, false)) (q : Q v σ) (ho : autoParam (OwnOk σ own) AC.aux8._auto_1) (hk : autoParam ((σ.loc.all fun p => isVar (env.kindOf p.1)) = true) AC.aux0._auto_1)
    (hg : autoParam (env.globals = mainGlobals ∧ env.builtins = builtinsNs) AC.aux9._auto_1) : Ev C A E env e σ Q := fun F G s hR =>
  h.use (hR.pctx ho hk hg) fun F' s' w st c r => ⟨F', v, σ, st.e, r.out, hR.pure st, q⟩
theorem Et_pure {E : Value → Shared → Prop} {e : Expr} {b : Bool} {Q : Bool → ASt → Prop} (own : List (Str × List AV)) (h : PB C A σ.hp env (locP own σ.loc) e b) (q : Q b σ) (ho : autoParam (OwnOk σ own) AC.aux8._auto_1) (hk : autoParam ((σ.loc.all fun p => isVar (env.kindOf p.1)) = true) AC.aux0._auto_1)
    (hg : autoParam (env.globals = mainGlobals ∧ env.builtins = builtinsNs) AC.aux9._auto_1) : Et C A E env e σ Q := fun F G s hR =>
  h.use (hR.pctx ho hk hg) fun F' s' w st c r => ⟨F', b, σ, st.e, r, hR.pure st, q⟩
theorem Ex_let {E : Value → Shared → Prop} {x : Str} {px pos : Pos} {e : Expr} {Q : AFlow → ASt → Prop} (own : List (Str × List AV)) (v : AV) (h : PE C A σ.hp env (locP own σ.loc) e (v, false)) (q : Q .next (σ.set x v)) (ho : autoParam (OwnOk σ own) AC.aux8._auto_1) (hk : autoParam ((σ.loc.all fun p => isVar (env.kindOf p.1)) = true) AC.aux0._auto_1)
    (hg : autoParam (env.globals = mainGlobals ∧ env.builtins = builtinsNs) AC.aux9._auto_1) (hx : autoParam (isOwn (env.kindOf x) = true) AC.aux0._auto_1) (hs : autoParam (swapsWith e (some (.Name x px)) pos.line env = Pure.pure false) AC.aux0._auto_1) : Ex C A E env (.Assign [.Name x px] e pos) σ Q :=
  Ex_Assign_Name (Ev_pure own v h q ho hk hg) hx hs
theorem Ex_ret {E : Value → Shared → Prop} {pos : Pos} {e : Expr} {Q : AFlow → ASt → Prop} (own : List (Str × List AV)) (v : AV) (h : PE C A σ.hp env (locP own σ.loc) e (v, false)) (q : Q (.ret v) σ) (ho : autoParam (OwnOk σ own) AC.aux8._auto_1) (hk : autoParam ((σ.loc.all fun p => isVar (env.kindOf p.1)) = true) AC.aux0._auto_1)
    (hg : autoParam (env.globals = mainGlobals ∧ env.builtins = builtinsNs) AC.aux9._auto_1) : Ex C A E env (.Return (some e) pos) σ Q := Ex_Return (Ev_pure own v h q ho hk hg)
theorem Ex_if {E : Value → Shared → Prop} {test : Expr} {body orelse : List Stmt} {pos : Pos} {b : Bool} {Q : AFlow → ASt → Prop} (own : List (Str × List AV)) (h : PB C A σ.hp env (locP own σ.loc) test b) (q1 : b = true → Exs C A E env body σ Q) (q2 : b = false → Exs C A E env orelse σ Q) (ho : autoParam (OwnOk σ own) AC.aux8._auto_1) (hk : autoParam ((σ.loc.all fun p => isVar (env.kindOf p.1)) = true) AC.aux0._auto_1)
    (hg : autoParam (env.globals = mainGlobals ∧ env.builtins = builtinsNs) AC.aux9._auto_1) : Ex C A E env (.If test body orelse pos) σ Q := Ex_If (Et_pure own h (by
  cases b with
  | true => exact q1 rfl
  | false => exact q2 rfl) ho hk hg)
theorem Rp.holdDict {Lc : Addr} {o : Obj} (hR : Rp C A F G env σ s) (ho : s.heap.get? Lc = some o) (h1 : F Lc = none) (h2 : G Lc = none) (h3 : σ.hp Lc = none) (h4 : Lc ≠ env.locals) (h5 : ∀ x c, env.kindOf x = some .cell → env.cells.lookup x = some c → Lc ≠ c) :
    Rp C A F (ovl G (sg Lc o)) env σ s := by
  have dj := sg_disj (o := o) h2
  have ex := ovl_ext dj
  have W := hR.wd
  have on : ∀ {b}, b ≠ Lc → G b = none → ovl G (sg Lc o) b = none := fun n e => by rw [ovl_none (sg_ne _ n)]; exact e
  refine ⟨⟨W.base, W.fz, fun b ob e => ?_, fun a x e => ?_, W.os, W.bare, W.gi, fun b ob e => ?_⟩, ⟨hR.fm.kind, hR.fm.ns, ⟨hR.fm.lo.1, on h4.symm hR.fm.lo.2.1, hR.fm.lo.2.2⟩, fun x hx => ?_, hR.fm.ci, hR.fm.cv, fun x av a b => ?_⟩, hR.fs.mono ex⟩
  · by_cases q : b = Lc
    · subst q; rw [ovl_some (sg_self _ _)] at e; (have zc := Option.some.inj e; clear e; subst zc); exact ⟨_, ho, GEq.rfl' _⟩
    · rw [ovl_none (sg_ne _ q)] at e; exact W.gz b ob e
  · obtain ⟨p, q, r⟩ := W.ob a x e
    exact ⟨p, on (by rintro rfl; rw [h3] at e; exact ns_ne e) q, r⟩
  · exact on (by rintro rfl; rw [h1] at e; exact ns_ne e) (W.fg b ob e)
  · obtain ⟨c, g1, g2, g3, g4⟩ := hR.fm.co x hx
    exact ⟨c, g1, g2, on (h5 x c hx g1).symm g3, g4⟩
  · obtain ⟨c, v, ob, a1, a2, a3, a4⟩ := hR.fm.fv x av a b
    exact ⟨c, v, ob, a1, ex _ _ a2, a3, a4⟩
theorem Rp.dropDict {Lc : Addr} {o : Obj} (hR : Rp C A F (ovl G (sg Lc o)) env σ s) (hf : FsE A G env) (h2 : G Lc = none) (hc : ∀ v, o.data ≠ .cell v) {h' : Heap} {t : Nat} (k : ∀ b ob, b ≠ Lc → s.heap.get? b = some ob → h'.get? b = some ob) : Rp C A F G env σ ⟨h', s.gens, s.drawn, t, s.os⟩ := by
  have dj := sg_disj (o := o) h2
  have ex := ovl_ext dj
  have W := hR.wd
  have nL : ∀ {b}, ovl G (sg Lc o) b = none → b ≠ Lc := fun e q => by subst q; rw [ovl_some (sg_self _ _)] at e; exact sn_ne e
  have no : ∀ {b}, ovl G (sg Lc o) b = none → G b = none := fun e => (ovl_no dj e).1
  refine ⟨⟨W.base, fun b ob e => k _ _ (nL (W.fg b ob e)) (W.fz b ob e), fun b ob e => ?_, fun a x e => ?_, W.os, W.bare, W.gi, fun b ob e => no (W.fg b ob e)⟩, ⟨hR.fm.kind, ?_, ⟨hR.fm.lo.1, no hR.fm.lo.2.1, hR.fm.lo.2.2⟩, fun x hx => ?_, hR.fm.ci, fun x av c a b d => ?_, fun x av a b => ?_⟩, hf⟩
  · obtain ⟨o', z1, z2⟩ := W.gz b ob (ex _ _ e)
    exact ⟨o', k _ _ (fun q => by subst q; rw [h2] at e; exact ns_ne e) z1, z2⟩
  · obtain ⟨p, q, o, ho, r⟩ := W.ob a x e
    exact ⟨p, no q, o, k _ _ (nL q) ho, r⟩
  · obtain ⟨m, ⟨oL, es, ep, hL, r⟩, hv⟩ := hR.fm.ns
    exact ⟨m, ⟨oL, es, ep, k _ _ (nL hR.fm.lo.2.1) hL, r⟩, hv⟩
  · obtain ⟨c, g1, g2, g3, g4, g5, v, ob, g6, g7⟩ := hR.fm.co x hx
    exact ⟨c, g1, g2, no g3, g4, g5, v, ob, k _ _ (nL g3) g6, g7⟩
  · obtain ⟨v, ⟨ob, g6, g7⟩, g8⟩ := hR.fm.cv x av c a b d
    obtain ⟨c', g1, zu, g3, zu⟩ := hR.fm.co x b
    rw [d] at g1; (have zc := Option.some.inj g1; clear g1; subst zc)
    exact ⟨v, ⟨ob, k _ _ (nL g3) g6, g7⟩, g8⟩
  · obtain ⟨c, v, ob, a1, a2, a3, a4⟩ := hR.fm.fv x av a b
    refine ⟨c, v, ob, a1, ?_, a3, a4⟩
    by_cases q : c = Lc
    · subst q; rw [ovl_some (sg_self _ _)] at a2; (have zc := Option.some.inj a2; clear a2; subst zc); exact absurd a3 (hc _)
    · rw [ovl_none (sg_ne _ q)] at a2; exact a2
theorem Ex_letC {E : Value → Shared → Prop} {y : Str} {py spos pos : Pos} {elt : Expr} {gens : List Comprehension} {scope : Scope} {Q : AFlow → ASt → Prop} (own : List (Str × List AV)) (res : List AV) (h : PCm C A σ.hp env (locP own σ.loc) elt gens scope pos res) (q : Q .next (σ.set y (.lst res))) (ho : autoParam (OwnOk σ own) AC.aux8._auto_1) (hk : autoParam ((σ.loc.all fun p => isVar (env.kindOf p.1)) = true) AC.aux0._auto_1)
    (hg : autoParam (env.globals = mainGlobals ∧ env.builtins = builtinsNs) AC.aux9._auto_1) (hy : autoParam (isOwn (env.kindOf y) = true) AC.aux0._auto_1) (hsw : autoParam (swapsWith (.ListComp elt gens scope pos) (some (.Name y py)) spos.line env = Pure.pure true) AC.aux0._auto_1) : Ex C A E env (.Assign [.Name y py] (.ListComp elt gens scope pos) spos) σ Q := by
  intro F G s hR
  rw [exec_Assign_Name_used _ _ _ _ hsw]
  refine wpAny_bind (wpAny_standAt (wpAny_bind ?_))
  show wpAny _ A (do let _ ← comprehension (.ListComp elt gens scope pos) scope env (firstIterPos gens pos) (newList []) (firstAsync gens) (firstIter gens env) (some (assign (.Name y py) env))) _ _ s
  refine wpAny_bind (wpAny_mono (h F s E (some (assign (.Name y py) env)) (fun zu s' => Post C A G env FlR Q F Flow.next s') (hR.pctx ho hk hg) fun F' s' acc Lc hcs => ?_) (fun zu s' hq => wpAny_pure (wpAny_pure hq)) fun zu zu x => x)
  obtain ⟨L, cm⟩ := Lc
  have nL := hcs.nL L (.inl rfl)
  have oL0 := hcs.oL L (.inl rfl)
  have ne0 : acc ≠ L := fun q => hcs.ne (.inl q)
  obtain ⟨vs, n, hl, hv⟩ := hcs.ac
  have st := hcs.st.add hl hcs.oa hcs.na
  have hR₂ := hR.pure st
  obtain ⟨m, _, hm, zu⟩ := hcs.fr
  obtain ⟨oL, es, ep, hL, hdL, hkL⟩ := hm
  dsimp only at hL
  obtain ⟨z1, z2, z3⟩ := hR.wd.dead nL
  have f2 : fput F' acc { cls := .type "list", dict := none, data := .seq vs.toArray n, slots := #[] } L = none := by rw [fput_ne _ _ ne0.symm]; exact oL0
  have a4 : L ≠ env.locals := by
    rintro rfl
    obtain ⟨m, ⟨o, zu, zu, hL, zu⟩, zu⟩ := hR.fm.ns
    rw [nL] at hL; exact ns_ne hL
  have a5 : ∀ x c, env.kindOf x = some .cell → env.cells.lookup x = some c → L ≠ c := by
    rintro x c hx hc rfl
    obtain ⟨c', g1, zu, zu, zu, zu, v, o, ho, zu⟩ := hR.fm.co x hx
    rw [hc] at g1; (have zc := Option.some.inj g1; clear g1; subst zc)
    rw [nL] at ho; exact ns_ne ho
  have hR₃ := hR₂.holdDict hL f2 z2 z3 a4 a5
  show wpAny _ A (assign (.Name y py) env (.ref acc)) _ E s'
  refine wpAny_mono (Asg_Name (x := y) (pos := py) (v := .lst res) (Q := fun σ₄ => σ₄ = σ.set y (.lst res)) rfl hy _ _ s' (.ref acc) hR₃ (.lst (fput_self _ _ _) rfl rfl (hv.mono (fput_ext _ hcs.oa)))) (fun zu s₄ z => ?_) fun zu zu x => x.elim
  obtain ⟨F₄, σ₄, e₄, hR₄, rfl⟩ := z
  obtain ⟨oL', g1, g2⟩ := hR₄.wd.gz L oL (ovl_some (sg_self _ _))
  refine ⟨m, ⟨oL', es, ep, g1, g2.data.trans hdL, hkL⟩, fun h' hs' => ?_⟩
  exact ⟨F₄, .next, _, st.e.trans e₄, .next, hR₄.dropDict (t := s₄.toks) hR.fs z2 (fun v => by rw [hdL]; simp) (SameBut.rest hs'), q⟩
end
end
section
section
variable {G : FH} {σ : ASt} {C : Cf} {A : Around} {s s' : Shared} {env : Env} {F F' : FH} {E : Value → Shared → Prop} {loc : PL}
theorem Rp.oput' {m : FH} (hR : Rp C A F G env σ s) (hm : ∀ b o, m b = some o → F b = none ∧ G b = none ∧ σ.hp b = none ∧ b ≠ env.locals ∧ ∀ x c, env.kindOf x = some .cell → env.cells.lookup x = some c → b ≠ c) (ho : ∀ b o, m b = some o → s.heap.get? b = some o) : Disj m G ∧ Rp C A F (ovl G m) env σ s := by
  have dj : Disj m G := fun b o e => (hm b o e).2.1
  have on : ∀ {b}, (∀ x, ¬ m b = some x) → G b = none → ovl G m b = none := fun {b} h e => by
    cases q : m b with
    | none => rw [ovl_none q]; exact e
    | some x => exact absurd q (h x)
  refine ⟨dj, ⟨⟨hR.wd.base, hR.wd.fz, fun b o e => ?_, fun a x e => ?_, hR.wd.os, hR.wd.bare, hR.wd.gi, fun b o e => ?_⟩, ⟨hR.fm.kind, hR.fm.ns, ⟨hR.fm.lo.1, on (fun x q => (hm _ _ q).2.2.2.1 rfl) hR.fm.lo.2.1, hR.fm.lo.2.2⟩, fun x hx => ?_, hR.fm.ci, hR.fm.cv, fun x av a b => ?_⟩, hR.fs.mono (ovl_ext dj)⟩⟩
  · cases q : m b with
    | none => rw [ovl_none q] at e; exact hR.wd.gz b o e
    | some x => rw [ovl_some q] at e; (have zc := Option.some.inj e; clear e; subst zc); exact ⟨_, ho _ _ q, GEq.rfl' _⟩
  · obtain ⟨p, q, o, w⟩ := hR.wd.ob a x e
    exact ⟨p, on (fun y z => by rw [(hm _ _ z).2.2.1] at e; exact ns_ne e) q, o, w⟩
  · exact on (fun y z => by rw [(hm _ _ z).1] at e; exact ns_ne e) (hR.wd.fg b o e)
  · obtain ⟨c, g1, g2, g3, g4, g5, g6⟩ := hR.fm.co x hx
    exact ⟨c, g1, g2, on (fun y z => (hm _ _ z).2.2.2.2 x c hx g1 rfl) g3, g4, g5, g6⟩
  · obtain ⟨c, v, o', a1, a2, a3, a4⟩ := hR.fm.fv x av a b
    exact ⟨c, v, o', a1, ovl_ext dj _ _ a2, a3, a4⟩
theorem Rp.deadApart (hR : Rp C A F G env σ s) {b : Addr} (h : s.heap.get? b = none) : b ≠ env.locals ∧ ∀ x c, env.kindOf x = some .cell → env.cells.lookup x = some c → b ≠ c := by
  refine ⟨?_, ?_⟩
  · rintro rfl
    obtain ⟨m, ⟨o, zu, zu, hL, zu⟩, zu⟩ := hR.fm.ns
    rw [h] at hL; exact ns_ne hL
  · rintro x c hx hc rfl
    obtain ⟨c', g1, zu, zu, zu, zu, v, o, ho, zu⟩ := hR.fm.co x hx
    rw [hc] at g1; (have zc := Option.some.inj g1; clear g1; subst zc)
    rw [h] at ho; exact ns_ne ho
theorem HeldM.ofItQ {target : Expr} {xs : List AV} {iv : Value} (hR : Rp C A F G env σ s) (z : ItQ C A σ.hp F s target xs iv s') : ∃ F', Ext F F' ∧ HeldM C A F' G env σ target xs (fun zu => True) iv s' := by
  obtain ⟨F', I, fp, wr, St, st, e, W, h0, hw⟩ := z
  have hR' := hR.pure st
  obtain ⟨dj, hR2⟩ := hR'.oput' (m := restrict s'.heap wr) (fun b o q => by
    obtain ⟨hb, zu⟩ := restrict_in q
    obtain ⟨d1, d2⟩ := hw b hb
    obtain ⟨zu, z2, z3⟩ := hR.wd.dead d1
    exact ⟨d2, z2, z3, hR.deadApart d1⟩) fun b o q => (restrict_in q).2
  exact ⟨F', st.e, I, _, _, e, dj, hR2, ⟨0, s'.heap, Ext.refl F', hR'.wd.fz, h0, rfl, rfl, Nat.zero_le _⟩, IterM.ofWk W⟩
noncomputable def LocLe (l l' : List (Str × AV)) : Prop := ∀ x av, l.lookup x = some av → l'.lookup x = some av
theorem LocLe.refl (l : List (Str × AV)) : LocLe l l := fun zu zu e => e
theorem Rp.weakLoc (hR : Rp C A F G env σ s) {loc : List (Str × AV)} (h : LocLe loc σ.loc) : Rp C A F G env ⟨loc, σ.hp⟩ s := by
  obtain ⟨W, ⟨kd, ⟨m, hm, hv⟩, lo, co, ci, cv, fv⟩, fs⟩ := hR
  exact ⟨W, ⟨kd, ⟨m, hm, fun x av a b => hv x av (h x av a) b⟩, lo, co, ci, fun x av c a => cv x av c (h x av a), fun x av a => fv x av (h x av a)⟩, fs⟩
noncomputable def Left (I : List (Str × AV) → HP → Prop) (σ : ASt) : Prop := ∃ loc, LocLe loc σ.loc ∧ I loc σ.hp
noncomputable def LeftK (Q : AFlow → ASt → Prop) (I : List (Str × AV) → HP → Prop) (f : AFlow) (σ : ASt) : Prop :=
  match f with
  | .next => Left I σ
  | .cont => Left I σ
  | .brk => ∃ loc, LocLe loc σ.loc ∧ Q .next ⟨loc, σ.hp⟩
  | .ret v => Q (.ret v) σ
theorem Ex_for {E : Value → Shared → Prop} {target iter : Expr} {body : List Stmt} {pos : Pos} {xs : List AV} {Q : AFlow → ASt → Prop} (own : List (Str × List AV)) (I : List AV → List (Str × AV) → HP → Prop) (h : PI C A σ.hp env (locP own σ.loc) target iter xs) (h0 : Left (I xs) σ)
    (turn : ∀ x xs loc hp, I (x :: xs) loc hp → AsgA C A env target x ⟨loc, hp⟩ (fun σ₁ => Exs C A NoE env body σ₁ (LeftK Q (I xs)))) (fin : ∀ loc hp, I [] loc hp → Q .next ⟨loc, hp⟩) (ho : autoParam (OwnOk σ own) AC.aux8._auto_1) (hk : autoParam ((σ.loc.all fun p => isVar (env.kindOf p.1)) = true) AC.aux0._auto_1)
    (hg : autoParam (env.globals = mainGlobals ∧ env.builtins = builtinsNs) AC.aux9._auto_1) (hs : autoParam (∀ x, foldedSetIterable iter env x = Pure.pure x) AC.aux4._auto_1) : Ex C A E env (.For target iter body [] pos) σ Q := by
  have key : Ex C A E env (.For target iter body [] pos) σ (fun f σ' => ∃ loc, LocLe loc σ'.loc ∧ Q f ⟨loc, σ'.hp⟩) := by
    intro F G s hR
    refine wpAny_For (wpAny_mono (h F s E (hR.pctx ho hk hg)) (fun v s₁ z => wpAny_mono z (fun iv s₂ z => ?_) fun zu zu x => x) fun zu zu x => x) hs
    obtain ⟨F', e, it, m, P, rfl, dj, hR₂, hP, T⟩ := HeldM.ofItQ hR z
    refine for_core T (fun xs σ => Left (I xs) σ) (fun zu zu zu => trivial) (fun x xs σ ⟨loc, hl, hi⟩ F G s v hR hv => ?_) (fun σ ⟨loc, hl, hi⟩ => ⟨loc, hl, fin _ _ hi⟩) ⟨F', σ, m, xs, e, dj, hR₂, hP, h0, rfl⟩ fun f s' z => z
    refine wpAny_mono (turn x xs loc σ.hp hi F G s v (hR.weakLoc hl) hv) (fun zu s' z => ?_) fun zu zu x => x
    obtain ⟨F', σ', e, hR', hb⟩ := z
    refine ⟨F', σ', e, hR', hb.mono fun f σ₃ hf => ?_⟩
    cases f with
    | next => exact hf
    | cont => exact hf
    | brk => exact hf
    | ret v => exact ⟨σ₃.loc, LocLe.refl _, hf⟩
  intro F G s hR
  refine wpAny_mono (key F G s hR) (fun v s' z => ?_) fun zu zu x => x
  obtain ⟨F', b, σ', e, r, hR', loc, hl, hq⟩ := z
  exact ⟨F', b, ⟨loc, σ'.hp⟩, e, r, hR'.weakLoc hl, hq⟩
end
end
section
section
variable {C : Cf} {A : Around} {hp : HP} {s s' : Shared} {env : Env} {F F' : FH} {E : Value → Shared → Prop} {loc : PL}
mutual
noncomputable def AV.pd : AV → PyData
  | .int i => .int i
  | .str s => .str s
  | .tup l => .tuple (pds l)
  | .lst l => .list (pds l)
  | .none => .none
  | .bool b => .bool b
  | .bytes _ => .none
  | .ref _ => .none
  | .val _ => .none
noncomputable def pds : List AV → List PyData
  | [] => []
  | x :: xs => x.pd :: pds xs
end
mutual
inductive Pln : AV → Prop
  | none : Pln .none
  | int (i) : Pln (.int i)
  | str {x} : PyData.strOk x = true → Pln (.str x)
  | tup {l} : Plns l → Pln (.tup l)
  | lst {l} : Plns l → Pln (.lst l)
inductive Plns : List AV → Prop
  | nil : Plns []
  | cons {x xs} : Pln x → Plns xs → Plns (x :: xs)
end
theorem Plns.of {l : List AV} (h : ∀ x ∈ l, Pln x) : Plns l := by
  induction l with
  | nil => exact .nil
  | cons x l ih => exact .cons (h x (by simp)) (ih fun y hy => h y (by simp [hy]))
theorem Pln.tupI {l : List AV} (h : Pln (.tup l)) : Plns l := by cases h with | tup h => exact h
theorem Pln.lstI {l : List AV} (h : Pln (.lst l)) : Plns l := by cases h with | lst h => exact h
theorem Pln.lay {x : AV} (h : Pln x) : x.pd.canLay0 = true :=
  Pln.rec (motive_1 := fun x zu => x.pd.canLay0 = true) (motive_2 := fun l zu => PyData.canLayAll0 (pds l) = true) rfl (fun zu => rfl) (fun h => h) (fun zu ih => ih) (fun zu ih => ih) rfl (fun {x xs} zu zu ih1 ih2 => show (x.pd.canLay0 && PyData.canLayAll0 (pds xs)) = true by rw [ih1, ih2]; rfl) h
noncomputable def EqvM (x : AV) : Prop := ∀ y, Pln y → (PyData.eqv x.pd y.pd = true ↔ x = y)
noncomputable def EqvMs (l : List AV) : Prop := ∀ m, Plns m → (PyData.eqvAll (pds l) (pds m) = true ↔ l = m)
theorem eqv_seq {l : List AV} (ih : EqvMs l) : EqvM (.tup l) ∧ EqvM (.lst l) := by
  refine ⟨fun y q => ?_, fun y q => ?_⟩
  · cases q with
    | tup q => simp only [AV.pd, PyData.eqv, AV.tup.injEq]; exact ih _ q
    | _ => simp [AV.pd, PyData.eqv]
  · cases q with
    | lst q => simp only [AV.pd, PyData.eqv, AV.lst.injEq]; exact ih _ q
    | _ => simp [AV.pd, PyData.eqv]
theorem Pln.eqvM {x : AV} (h : Pln x) : EqvM x :=
  Pln.rec (motive_1 := fun x zu => EqvM x) (motive_2 := fun l zu => EqvMs l) (fun y q => by cases (q) <;> simp [AV.pd, PyData.eqv]) (fun i y q => by cases (q) <;> simp [AV.pd, PyData.eqv]) (fun {x} zu y q => by cases (q) <;> simp [AV.pd, PyData.eqv])
    (fun zu ih => (eqv_seq ih).1) (fun zu ih => (eqv_seq ih).2) (fun m q => by cases (q) <;> simp [pds, PyData.eqvAll]) (fun {x xs} zu zu ih1 ih2 m q => by
      cases q with
      | nil => simp [pds, PyData.eqvAll]
      | cons c d =>
        simp only [pds, PyData.eqvAll, Bool.and_eq_true, List.cons.injEq]
        rw [ih1 _ c, ih2 _ d]) h
theorem Pln.eqv {x y : AV} (p : Pln x) (q : Pln y) : PyData.eqv x.pd y.pd = true ↔ x = y := p.eqvM y q
theorem Plns.inv {x : AV} {l : List AV} (h : Plns (x :: l)) : Pln x ∧ Plns l := by cases h with | cons a b => exact ⟨a, b⟩
theorem Pln.noBool {b : Bool} {P : Prop} (h : Pln (.bool b)) : P := by cases (h)
theorem Pln.noBytes {b : Array UInt8} {P : Prop} (h : Pln (.bytes b)) : P := by cases (h)
theorem Pln.noRef {b : Addr} {P : Prop} (h : Pln (.ref b)) : P := by cases (h)
theorem Pln.noVal {b : Value} {P : Prop} (h : Pln (.val b)) : P := by cases (h)
theorem VR.reads {h : Heap} (hF : ∀ b o, F b = some o → h.get? b = some o) {x : AV} {v : Value} (p : Pln x) (r : VR F x v) : ∃ as, Reads h v x.pd as :=
  VR.rec (motive_1 := fun x v zu => Pln x → ∃ as, Reads h v x.pd as) (motive_2 := fun l vs zu => Plns l → ∃ as, ReadsAll h vs (pds l) as) (fun zu => ⟨_, .none⟩) (fun zu p => p.noBool) (fun i t zu => ⟨_, .int i t⟩) (fun x t zu => ⟨_, .str x t⟩) (fun zu zu p => p.noBytes)
    (fun a b c zu ih p => (ih p.tupI).elim fun as r => ⟨_, .tuple (hF _ _ a) b c r⟩) (fun a b c zu ih p => (ih p.lstI).elim fun as r => ⟨_, .list (hF _ _ a) b c r⟩) (fun zu p => p.noRef) (fun zu p => p.noVal) (fun zu => ⟨_, .nil⟩) (fun zu zu i1 i2 p => (i1 p.inv.1).elim fun as r => (i2 p.inv.2).elim fun bs t => ⟨_, .cons r t⟩) r p
theorem VRs.reads {h : Heap} (hF : ∀ b o, F b = some o → h.get? b = some o) {x : List AV} {v : List Value} (p : Plns x) (r : VRs F x v) : ∃ as, ReadsAll h v (pds x) as :=
  VRs.ind (M := fun l vs => Plns l → ∃ as, ReadsAll h vs (pds l) as) (fun zu => ⟨_, .nil⟩) (fun a zu ih p => (VR.reads hF p.inv.1 a).elim fun as r => (ih p.inv.2).elim fun bs t => ⟨_, .cons r t⟩) r p
noncomputable def Dp (n : Nat) (x : AV) : Prop := x.pd.depth ≤ n
theorem dpAll {n : Nat} : ∀ {l : List AV}, (∀ x ∈ l, Dp n x) → PyData.depthAll (pds l) ≤ n
  | [], _ => by simp [pds, PyData.depthAll]
  | x :: l, h => by
    simp only [pds, PyData.depthAll]
    have h1 := h x (by simp)
    have h2 := dpAll (l := l) fun y hy => h y (by simp [hy])
    unfold Dp at h1
    omega
theorem Dp.int (n : Nat) (i : Int) : Dp n (.int i) := Nat.zero_le _
theorem Dp.str (n : Nat) (i : Str) : Dp n (.str i) := Nat.zero_le _
theorem Dp.tup {n : Nat} {l : List AV} (h : ∀ x ∈ l, Dp n x) : Dp (n + 1) (.tup l) := Nat.succ_le_succ (dpAll h)
theorem Dp.lst {n : Nat} {l : List AV} (h : ∀ x ∈ l, Dp n x) : Dp (n + 1) (.lst l) := Nat.succ_le_succ (dpAll h)
theorem PVR.reads {x : AV} {b : Bool} {v : Value} (r : PVR hp F (x, b) v) (p : Pln x) (w : Wp C A hp F s) : ∃ as, Reads s.heap v x.pd as := by
  cases r with
  | val r => exact r.reads w.fz p
  | own h1 =>
    cases p with | lst p =>
    obtain ⟨zu, o, h1, r⟩ := w.ob _ _ h1
    (refine OR.listC r fun zv zv q1 q2 q3 q4 q5 => ?_; clear r)
    obtain ⟨as, r⟩ := q5.reads w.fz p
    exact ⟨_, .list h1 q1 q4 r⟩
open Classical in
theorem c_eq {x y : AV} {a b : Bool} (p : Pln x) (q : Pln y) (hd : Dp 60 x) (hu : A.units ≤ 9000) : PO2 C A hp (PVR hp) (compareOp .Eq) (x, a) (y, b) (.bool (decide (x = y)), false) := fun F s E v u hin hv hw => by
  obtain ⟨as, ra⟩ := hv.reads p hin
  obtain ⟨bs, rb⟩ := hw.reads q hin
  refine SeqAt.compareEq_reads ra rb p.lay q.lay (by unfold Dp at hd; have : cLine = 9900 := rfl; omega) (PuQ.here (t := s.toks) hin (.val ?_))
  rw [show PyData.eqv x.pd y.pd = decide (x = y) from by rw [Bool.eq_iff_iff, p.eqv q, decide_eq_true_iff]]
  exact .bool _
open Classical in
theorem c_ne {x y : AV} {a b : Bool} (p : Pln x) (q : Pln y) (hd : Dp 60 x) (hu : A.units ≤ 9000) : PO2 C A hp (PVR hp) (compareOp .NotEq) (x, a) (y, b) (.bool (!decide (x = y)), false) := fun F s E v u hin hv hw => by
  obtain ⟨as, ra⟩ := hv.reads p hin
  obtain ⟨bs, rb⟩ := hw.reads q hin
  refine SeqAt.compareNe_reads ra rb p.lay q.lay (by unfold Dp at hd; have : cLine = 9900 := rfl; omega) (PuQ.here (t := s.toks) hin (.val ?_))
  rw [show PyData.eqv x.pd y.pd = decide (x = y) from by rw [Bool.eq_iff_iff, p.eqv q, decide_eq_true_iff]]
  exact .bool _
theorem k_min2 {a b : Int} (hA : A.handled = none) : PK C A hp (.builtin "min") [(.int a, false), (.int b, false)] (.int (min a b), false) := fun F s E us hin r => by
  obtain ⟨v, us, rfl, r1, r⟩ := r.inv
  obtain ⟨v2, us, rfl, r2, r⟩ := r.inv
  obtain rfl := r.nilI
  obtain ⟨t, rfl⟩ := r1.out.intI
  obtain ⟨t2, rfl⟩ := r2.out.intI
  refine min_two_ints hA fun h' tk hk => ?_
  have st := Stp.keep (t := tk) hin hk
  split
  · rename_i q; rw [Int.min_eq_right (by omega)]; exact ⟨F, st, .val (.int _ _)⟩
  · rename_i q; rw [Int.min_eq_left (by omega)]; exact ⟨F, st, .val (.int _ _)⟩
end
end
section
section
variable {C : Cf} {A : Around} {s : Shared} {F G : FH} {env : Env} {E : Value → Shared → Prop} {hp : HP} {loc : PL}
theorem PE_lower {o : Expr} {apos pos : Pos} {x : Str} (h : PE C A hp env loc o (.str x, false)) (hz : x.length ≤ 100000) (hb : autoParam (attributeBase o "lower" env (eval o env) = eval o env) AC.aux0._auto_1)
    (hfew : autoParam (((backTo pos (starEach [] env)).all (fun x => !x.1) && (backToKw pos (keywordEach [] env)).all (fun x => x.1.isSome) && decide (([] : List Expr).length + ([] : List Keyword).length + (if ([] : List Keyword).isEmpty then 0 else 1) < 30)) = true) AC.aux0._auto_1)
    (hl : autoParam ((apos.endLine == pos.line) = true) AC.aux0._auto_1) (ht : autoParam (backTo pos (starEach [] env) = []) AC.aux0._auto_1) : PE C A hp env loc (.Call (.Attribute o "lower" apos) [] [] pos) (.str (Txt.lower x), false) := .mk fun F s E c => by
  refine wpAny_Call_method_lateS hb hfew hl ?_
  rw [ht]
  refine h.use c fun F₁ s₁ v st₁ c₁ r => ?_
  obtain ⟨t, rfl⟩ := r.out.strI
  exact SB.lower (fit_lower (by omega)) ((PuQ.here (t := s₁.toks + 1) c₁.wp (.val (.str _ _))).pre st₁)
inductive LowR : Bool → AV → AV → Prop
  | no {v} : LowR false v v
  | yes {x} (h : x.length ≤ 100000) : LowR true (.str x) (.str (Txt.lower x))
end
end
section
variable {C : Cf} {A : Around} {E : Value → Shared → Prop}
@[reducible] noncomputable def ASt.v (σ : ASt) (x : Str) : Option AV := σ.loc.lookup x
theorem mem_lk {X : Trie} (h : X.Ph1) {u : Path} (hu : u ∈ X.D) {c : Sym} {q : Path} (e : X.look u c = some q) : q = u ++ [c] ∧ q ∈ X.D := by
  by_cases m : u ++ [c] ∈ X.D
  · rw [h.kid1 u hu c m] at e; (have zc := Option.some.inj e; clear e; subst zc); exact ⟨rfl, m⟩
  · rw [h.kid0 u hu c m] at e; exact ns_ne e
theorem add_core (T : Tp C) {r : FdRest} {L : Addr} {X : Trie} {t d : Addr} {ci : Bool} {kw kw' : AV} {w : Path} {σ : ASt} (hA : A.handled = none) (hroom : A.depth + 1 < recursionLimit)
    (hX : X.Ph1) (hr : Rep X t d false ci σ.hp) (hs : SeqV kw' (w.map Sym.av) σ.hp) (sep : ∀ a, kw' = .ref a → ¬ Fp X t d a) (hz : X.D.length + w.length ≤ 4000) (hk : ∀ u, kw ≠ .val u)
    (l1 : σ.v "self" = some (.ref t)) (l2 : σ.v "keyword" = some kw') (l3 : σ.v "original_keyword" = some kw) {Q : AFlow → ASt → Prop}
    (h1 : ∀ σ', AddPost X w kw t d ci σ.hp σ'.hp → Q .next σ') (h2 : ∀ σ', AddPost X w kw t d ci σ.hp σ'.hp → Q (.ret .none) σ') :
    Exs C A NoE (callEnv (r.fd addP .none) L 66) (addP.body.drop 3) σ Q := by
  have hw0 : (w.map Sym.av).length = w.length := List.length_map ..
  refine Exs_cons (Ex_If (Et_Cmp (Ev_Call (Ev_GVal T.g_len (EvL_e (Ev_Name l2 (EvL_0 (EvA_0 (len_seq hs (Ev_int (int_le ⟨_, rfl, ?_⟩)))))))))))
  rw [hw0]
  by_cases hwn : w = []
  · subst hwn
    rw [if_pos (by simp)]
    refine Exs_cons (Ex_Return_none ?_)
    refine h2 σ ⟨X, hX, hr, Fr'.refl _ _, fun p => ?_, fun p => ?_, Nat.le_refl _, rfl⟩
    · constructor
      · exact .inl
      · rintro (x | x)
        · exact x
        · simp at x; subst x; exact hX.wf.root
    · simp
  rw [if_neg (by
    have : 0 < w.length := List.length_pos_iff.mpr hwn
    simp; assumption)]
  refine Exs_nil ?_
  refine Exs_cons (Ex_Assign_Name (Ev_Attr (Ev_Name l1 (get_ns T.n_zero hr.tree hr.ns rfl ?_))))
  refine Exs_cons (Ex_For (fun zu zu hp => SeqV kw' (w.map Sym.av) hp)
    (fun zu zu xs σ' => ∃ (u rest : Path) (X' : Trie), xs = rest.map Sym.av ∧ w = u ++ rest ∧ X'.Ph1 ∧ Rep X' t d false ci σ'.hp ∧ Fr' (Fp X t d) σ.hp (Fp X' t d) σ'.hp ∧ (∀ p, p ∈ X'.D ↔ p ∈ X.D ∨ p <+: u) ∧
      X'.key = X.key ∧ X'.D.length ≤ X.D.length + u.length ∧ X'.A [] = X.A [] ∧ σ'.v "self" = some (.ref t) ∧ σ'.v "original_keyword" = some kw ∧ σ'.v "current_state" = some (.ref (X'.A u)))
    (Ev_Name (lk_ne l2) ⟨w.map Sym.av, iter_seq hs quiet_Name hA, ?_⟩) ?_ ?_ ?_)
  · exact ⟨[], w, X, rfl, rfl, hX, hr, Fr'.refl _ _, fun p => ⟨.inl, fun x => x.elim id (fun y => by simp at y; subst y; exact hX.wf.root)⟩, rfl, Nat.le_refl _, rfl, lk_ne l1, lk_ne l3, lk_eq⟩
  · (rintro zu zu xs σ'; intro zr; obtain ⟨u, rest, X', h⟩ := zr)
    exact hs.fr sep h.2.2.2.2.1
  · (rintro zu zu x xs σ'; intro zr; obtain ⟨u, rest, X', e1, e2, hX', hr', hf', hD', hk', hz', ha', m1, m3, m4⟩ := zr)
    obtain ⟨c, rest', rfl, rfl, rfl⟩ : ∃ c rest', rest = c :: rest' ∧ x = c.av ∧ xs = rest'.map Sym.av := by
      cases rest with
      | nil => cases e1
      | cons c rest' => simp only [List.map_cons, List.cons.injEq] at e1; exact ⟨c, rest', rfl, e1.1, e1.2⟩
    have hu : u ∈ X'.D := (hD' u).mpr (.inr (List.prefix_refl u))
    obtain ⟨ep, htd⟩ := hr'.td u hu
    refine Asg_Name ?_
    refine Tr.gen fun K hK => ?_
    refine Exs_cons (Ex_Try_sub T.sysm hA T.g_KE (Ev_Attr (Ev_Name (lk_ne m4) (get_slot T.s_tr (hr'.nd u hu) rfl (Ev_Name lk_eq ⟨_, _, ep, c, rfl, htd, rfl, ?_, ?_⟩)))))
    · intro v hv
      rw [Trie.at_trv] at hv
      obtain ⟨q, hq, rfl⟩ := Option.map_eq_some_iff.mp hv
      obtain ⟨rfl, hqD⟩ := mem_lk hX' hu hq
      refine Exs_nil (hK _ _ ?_)
      refine ⟨u ++ [c], rest', X', rfl, by simp [e2], hX', hr', hf', fun p => ?_, hk', ?_, ha', lk_ne (lk_ne m1), lk_ne (lk_ne m3), lk_eq⟩
      · rw [hD' p]
        constructor
        · exact Or.imp_right (fun x => x.trans (List.prefix_append ..))
        · rintro (x | x)
          · exact .inl x
          · rcases List.prefix_concat_iff.mp x with rfl | y
            · exact (hD' _).mp hqD
            · exact .inr y
      · simp; omega
    · intro hn e
      rw [Trie.at_trv] at hn
      have hlk := Option.map_eq_none_iff.mp hn
      have hnD : u ++ [c] ∉ X'.D := fun m => by rw [hX'.kid1 u hu c m] at hlk; exact sn_ne hlk
      refine Exs_cons (Ex_Assign_Name (Ev_Call (Ev_GRef T.g_State (EvL_e (Ev_Attr (Ev_Name (lk_ne m1) (get_ns T.n_cnt hr'.tree hr'.ns rfl (EvL_0 (EvA_e (Ev_Name (lk_ne m4) (EvA_e (Ev_Name lk_eq (EvA_0 (CallA_cls T.mkS (new_state T (by exact hroom) (.inl rfl) ?_)))))))))))))))
      intro a b hp1 ha hb hba q1 q2 q3
      have hta : t ≠ a := by rintro rfl; rw [show (σ'.set "char" c.av).hp = σ'.hp from rfl, hr'.tree] at ha; exact sn_ne ha
      have htb : t ≠ b := by rintro rfl; rw [show (σ'.set "char" c.av).hp = σ'.hp from rfl, hr'.tree] at hb; exact sn_ne hb
      have hda : d ≠ a := by rintro rfl; rw [show (σ'.set "char" c.av).hp = σ'.hp from rfl, hr'.ns] at ha; exact sn_ne ha
      have hdb : d ≠ b := by rintro rfl; rw [show (σ'.set "char" c.av).hp = σ'.hp from rfl, hr'.ns] at hb; exact sn_ne hb
      have hAa : X'.A u ≠ a := fun e => by rw [← e, show (σ'.set "char" c.av).hp = σ'.hp from rfl, hr'.nd u hu] at ha; exact sn_ne ha
      have hAb : X'.A u ≠ b := fun e => by rw [← e, show (σ'.set "char" c.av).hp = σ'.hp from rfl, hr'.nd u hu] at hb; exact sn_ne hb
      have hTa : X'.T u ≠ a := fun e => by rw [← e, show (σ'.set "char" c.av).hp = σ'.hp from rfl, htd] at ha; exact sn_ne ha
      have hTb : X'.T u ≠ b := fun e => by rw [← e, show (σ'.set "char" c.av).hp = σ'.hp from rfl, htd] at hb; exact sn_ne hb
      obtain ⟨d1, d2, d3, d4, d5, d6⟩ := Trie.Wf.dist hr' hu hu
      have g1 : hp1 t = some (.inst 125 d) := (q3 t hta htb).trans hr'.tree
      have g2 : hp1 d = some (.ns (treeNs (X'.A []) X'.D.length false ci)) := (q3 d hda hdb).trans hr'.ns
      have g3 : hp1 (X'.A u) = some (X'.nodeAO u) := (q3 _ hAa hAb).trans (hr'.nd u hu)
      have g4 : hp1 (X'.T u) = some (.dict (X'.trv u) ep) := (q3 _ hTa hTb).trans htd
      refine Exs_cons (Ex_Aug_Attr (Ev_Name (lk_ne (lk_ne m1)) (get_ns T.n_cnt g1 g2 rfl (Ev_int (int_iadd (set_ns T.n_cnt g1 g2 ?_ (hz := Nat.le_of_ble_eq_true (by rfl))))))))
      refine Exs_cons (Ex_Assign_Sub (Ev_Name lk_eq (Ev_Attr (Ev_Name (lk_ne (lk_ne m4)) (get_slot T.s_tr ((upd_ne _ _ d3).trans g3) rfl (Ev_Name (lk_ne lk_eq) (dict_set ((upd_ne _ _ d5).trans g4) ?_ ?_)))))))
      · have := hX'.wf.trlen hu
        simp only [Trie.trv, List.length_map]
        have : u.length ≤ w.length := by rw [e2]; simp
        omega
      intro ep'
      refine Exs_cons (Ex_Assign_Name (Ev_Name lk_eq (Exs_nil (Exs_nil (hK _ _ ?_)))))
      have hst : store (X'.trv u) c (.ref a) = X'.trv u ++ [(c, .ref a)] := by
        have : (X'.trv u).any (fun p => p.1 = c) = false := by
          rw [List.any_eq_false]
          intro p hp
          obtain ⟨e', he', rfl⟩ := List.mem_map.mp hp
          simpa using lookT_none hlk e' he'
        simp only [store, this]; rfl
      obtain ⟨w1, w2, w3⟩ := grow_rep (hp' := upd (upd hp1 d (.ns (treeNs (X'.A []) (X'.D.length + 1) false ci))) (X'.T u) (.dict (X'.trv u ++ [(c, .ref a)]) ep')) hX' hr' hu hnD ha hb hba
        (by rw [upd_ne _ _ hTa.symm, upd_ne _ _ hda.symm]; exact q1) (by rw [upd_ne _ _ hTb.symm, upd_ne _ _ hdb.symm]; exact q2) (by rw [upd_ne _ _ d5.symm, upd_self]) ⟨ep', upd_self _ _ _⟩
        (fun x x1 x2 x3 x4 => by rw [upd_ne _ _ x4, upd_ne _ _ x3]; exact q3 x x1 x2)
      refine ⟨u ++ [c], rest', X'.grow u c a b, rfl, by simp [e2], w1, ?_, hf'.trans ?_, fun p => ?_, hk', ?_, ?_, ?_, ?_, ?_⟩
      · rw [hst]; exact w2
      · rw [hst]; exact w3
      · simp only [Trie.grow, List.mem_append, List.mem_singleton, hD' p]
        constructor
        · rintro ((x | x) | x)
          · exact .inl x
          · exact .inr (x.trans (List.prefix_append ..))
          · rw [x]; exact .inr (List.prefix_refl _)
        · rintro (x | x)
          · exact .inl (.inl x)
          · rcases List.prefix_concat_iff.mp x with y | y
            · exact .inr y
            · exact .inl (.inr y)
      · simp only [Trie.grow, List.length_append, List.length_singleton]; omega
      · rw [← ha']; exact if_neg (by simp)
      · exact lk_ne (lk_ne (lk_ne m1))
      · exact lk_ne (lk_ne (lk_ne m3))
      · rw [show (X'.grow u c a b).A (u ++ [c]) = a from if_pos rfl]; exact lk_eq
  · (rintro zu zu σ'; intro zr; obtain ⟨u, rest, X', e1, e2, hX', hr', hf', hD', hk', hz', ha', m1, m3, m4⟩ := zr)
    have : rest = [] := by cases rest with | nil => rfl | cons => cases e1
    subst this
    simp at e2; subst e2
    have hw : w ∈ X'.D := (hD' w).mpr (.inr (List.prefix_refl w))
    refine Exs_cons (Ex_Assign_Attr (Ev_bool (Ev_Name m4 (set_slot T.s_suc (hr'.nd w hw) ?_))))
    refine Exs_cons (Ex_Assign_Attr (Ev_Name m3 (Ev_Name m4 (set_slot T.s_mk (upd_self _ _ _) ?_))))
    refine Exs_nil (h1 _ ?_)
    obtain ⟨w1, w2⟩ := setKey_rep hX' hr' hw hk
    have hn : AO.slot 34 (setSlot (setSlot [some (.int (X'.D.idxOf w)), some (X'.lssv w), some ((X'.key w).getD .none), X'.out w, some (X'.parv w), some (.bool (X'.key w).isSome), some (symv w), some (.ref (X'.T w))] 5 (.bool true)) 2 kw) = (X'.setKey w kw).nodeAO w := by
      have : (X'.setKey w kw).key w = some kw := if_pos rfl
      simp only [Trie.nodeAO, this]
      simp [setSlot, node, Trie.setKey, Trie.lssv, Trie.parv]
    refine ⟨X'.setKey w kw, w1, ?_, ⟨fun x hx hP => ?_, hf'.grow⟩, hD', fun p => ?_, hz', ha'⟩
    · have : upd (upd σ'.hp (X'.A w) (.slot 34 (setSlot [some (.int (X'.D.idxOf w)), some (X'.lssv w), some ((X'.key w).getD .none), X'.out w, some (X'.parv w), some (.bool (X'.key w).isSome), some (symv w), some (.ref (X'.T w))] 5 (.bool true)))) (X'.A w)
          (.slot 34 (setSlot (setSlot [some (.int (X'.D.idxOf w)), some (X'.lssv w), some ((X'.key w).getD .none), X'.out w, some (X'.parv w), some (.bool (X'.key w).isSome), some (symv w), some (.ref (X'.T w))] 5 (.bool true)) 2 kw)) = upd σ'.hp (X'.A w) ((X'.setKey w kw).nodeAO w) := by
        rw [hn]; funext b; simp only [upd]; split <;> rfl
      have w2 := w2
      rw [← this] at w2
      exact w2
    · have : x ≠ X'.A w := by
        rintro rfl
        rcases hf'.grow _ (.inr (.inr ⟨w, hw, .inl rfl⟩)) with q | q
        · exact hP q
        · exact hx q
      exact ((upd_ne _ _ this).trans (upd_ne _ _ this)).trans (hf'.keep x hx hP)
    · simp only [Trie.setKey, hk']
      simp [hwn]
theorem add_fn (T : Tp C) {X : Trie} {t d : Addr} {ci : Bool} {kw kw' : AV} {w : Path} {hp : HP} (hA : A.handled = none) (hroom : A.depth + 2 < recursionLimit)
    (hX : X.Ph1) (hr : Rep X t d false ci hp) (hlo : LowR ci kw kw') (hs : SeqV kw' (w.map Sym.av) hp) (sep : ∀ a, kw' = .ref a → ¬ Fp X t d a) (hz : X.D.length + w.length ≤ 4000) (hk : ∀ u, kw ≠ .val u) :
    Fn C A (.ref 66) [.ref t, kw] [] hp (fun v hp' => v = .none ∧ AddPost X w kw t d ci hp hp') := by
  obtain ⟨r, hf⟩ := T.f_add
  refine Fn_def (body := addP.body) hf (binds_add C r _ _) (fun L => ?_) (by with_reducible exact ou_add ‹_›) (by kernel_rfl) (by kernel_rfl) (by kernel_rfl) (by kernel_rfl) (by kernel_rfl)
  refine Exs_cons (Ex_If (Et_plain (Ev_Attr (Ev_Name rfl (get_ns T.n_fin hr.tree hr.ns rfl (truthy_bool (Exs_nil ?_)))))))
  refine Exs_cons (Ex_Assign_Name (Ev_Name rfl ?_))
  cases hlo with
  | no =>
    refine Exs_cons (Ex_If (Et_plain (Ev_Attr (Ev_Name rfl (get_ns T.n_ci hr.tree hr.ns rfl (truthy_bool (Exs_nil ?_)))))))
    show Exs C _ NoE _ (addP.body.drop 3) _ _
    refine add_core T ?_ ?_ hX hr hs sep hz hk ?_ ?_ ?_ (fun σ' h => ⟨rfl, h⟩) (fun σ' h => ⟨rfl, h⟩)
    · exact hA
    · exact hroom
    · rfl
    · rfl
    · rfl
  | @yes x hx =>
    refine Exs_cons (Ex_If (Et_plain (Ev_Attr (Ev_Name rfl (get_ns T.n_ci hr.tree hr.ns rfl (truthy_bool (Exs_cons (Ex_let [] (.str (Txt.lower x)) (PE_lower (PE_Name rfl) hx) (Exs_nil ?_)))))))))
    show Exs C _ NoE _ (addP.body.drop 3) _ _
    refine add_core T ?_ ?_ hX hr hs sep hz hk ?_ ?_ ?_ (fun σ' h => ⟨rfl, h⟩) (fun σ' h => ⟨rfl, h⟩)
    · exact hA
    · exact hroom
    · rfl
    · rfl
    · rfl
end
section
noncomputable def suf (D : List Path) : Path → Path
  | [] => []
  | c :: p => if (c :: p) ∈ D then c :: p else suf D p
noncomputable def sfx (D : List Path) (p : Path) : Path := suf D p.tail
noncomputable def fullN (D : List Path) : Path → Sym → Option Path
  | [], _ => none
  | x :: p, c => if (x :: p) ++ [c] ∈ D then some ((x :: p) ++ [c]) else fullN D p c
noncomputable def kidA (D : List Path) (p : Path) (c : Sym) : Option Path := if p ++ [c] ∈ D then some (p ++ [c]) else none
noncomputable def full (D : List Path) (p : Path) (c : Sym) : Option Path := if p = [] then kidA D [] c else fullN D p c
structure PC (D : List Path) : Prop where
  root : [] ∈ D
  closed : ∀ p c, p ++ [c] ∈ D → p ∈ D
theorem Trie.Wf.pc {X : Trie} (h : X.Wf) : PC X.D := ⟨h.root, h.closed⟩
variable {D : List Path}
theorem suf_mem (h : PC D) : ∀ p, suf D p ∈ D
  | [] => h.root
  | c :: p => by
    simp only [suf]; split
    · assumption
    · exact suf_mem h p
theorem suf_suffix : ∀ p, suf D p <:+ p
  | [] => List.suffix_refl _
  | c :: p => by
    simp only [suf]; split
    · exact List.suffix_refl _
    · exact (suf_suffix p).trans (List.suffix_cons ..)
theorem suf_max : ∀ p q, q ∈ D → q <:+ p → q <:+ suf D p
  | [], q, _, h => by simp at h; subst h; exact List.suffix_refl _
  | c :: p, q, hq, h => by
    simp only [suf]; split
    · exact h
    · rename_i hn
      rcases List.suffix_cons_iff.mp h with rfl | h'
      · exact absurd hq hn
      · exact suf_max p q hq h'
theorem suf_self {p : Path} (h : p ∈ D) : suf D p = p := by
  cases p with
  | nil => rfl
  | cons c p => simp [suf, h]
theorem fullN_suf (h : PC D) (c : Sym) : ∀ p, fullN D p c = fullN D (suf D p) c
  | [] => rfl
  | x :: p => by
    by_cases hm : (x :: p) ∈ D
    · rw [suf_self hm]
    · have : (x :: p) ++ [c] ∉ D := fun q => hm (h.closed _ _ q)
      rw [show suf D (x :: p) = suf D p by simp [suf, hm], ← fullN_suf h c p]
      simp only [fullN]; rw [if_neg this]
theorem suf_snoc (c : Sym) : ∀ p, suf D (p ++ [c]) = (fullN D p c).getD (if [c] ∈ D then [c] else [])
  | [] => by simp [suf, fullN]
  | x :: p => by
    have e : (x :: p) ++ [c] = x :: (p ++ [c]) := rfl
    simp only [fullN]
    by_cases hm : (x :: p) ++ [c] ∈ D
    · rw [if_pos hm, suf_self hm]; rfl
    · rw [if_neg hm, ← suf_snoc c p, e, suf, if_neg (by rw [← e]; exact hm)]
theorem suf_suf (h : PC D) (p : Path) (c : Sym) : suf D (p ++ [c]) = suf D (suf D p ++ [c]) := by
  rw [suf_snoc, suf_snoc, ← fullN_suf h]
theorem fullN_some {p : Path} {c : Sym} {q : Path} (h : fullN D p c = some q) : q ∈ D ∧ ∃ r, q = r ++ [c] ∧ r <:+ p ∧ r ≠ [] := by
  induction p with
  | nil => exact ns_ne h
  | cons x p ih =>
    simp only [fullN] at h
    split at h
    · (have zc := Option.some.inj h; clear h; subst zc); rename_i hm; exact ⟨hm, x :: p, rfl, List.suffix_refl _, by simp⟩
    · obtain ⟨a, r, b, d, e⟩ := ih h
      exact ⟨a, r, b, d.trans (List.suffix_cons ..), e⟩
theorem full_some {p : Path} {c : Sym} {q : Path} (h : full D p c = some q) : q ∈ D ∧ ∃ r, q = r ++ [c] ∧ r <:+ p := by
  simp only [full] at h
  split at h
  · simp only [kidA] at h
    split at h
    · (have zc := Option.some.inj h; clear h; subst zc); rename_i hm; exact ⟨hm, [], rfl, List.nil_suffix⟩
    · exact ns_ne h
  · obtain ⟨a, r, b, d, zu⟩ := fullN_some h
    exact ⟨a, r, b, d⟩
theorem full_step (h : PC D) {p : Path} (hp : p ≠ []) (c : Sym) : full D p c = (kidA D p c).or (if sfx D p = [] then none else full D (sfx D p) c) := by
  obtain ⟨x, q, rfl⟩ : ∃ x q, p = x :: q := by
    cases p with
    | nil => exact absurd rfl hp
    | cons x q => exact ⟨x, q, rfl⟩
  simp only [full, sfx, List.tail_cons, kidA, if_neg hp, fullN]
  by_cases hm : (x :: q) ++ [c] ∈ D
  · rw [if_pos hm]; simp only [if_pos hm]; rfl
  · rw [if_neg hm]; simp only [if_neg hm]
    rw [fullN_suf h]
    by_cases hs : suf D q = []
    · simp [hs, fullN]
    · simp [hs]
theorem sfx_suffix {p : Path} : sfx D p <:+ p := (suf_suffix p.tail).trans (List.tail_suffix p)
theorem sfx_len {p : Path} (hp : p ≠ []) : (sfx D p).length < p.length := by
  have h1 := (suf_suffix (D := D) p.tail).length_le
  have h2 : 0 < p.length := List.length_pos_iff.mpr hp
  simp only [sfx]
  rw [List.length_tail] at h1; omega
theorem sfx_max {p q : Path} (hq : q ∈ D) (h : q <:+ p) (hne : q ≠ p) : q <:+ sfx D p := by
  cases p with
  | nil => simp at h; exact absurd h hne
  | cons x p =>
    rcases List.suffix_cons_iff.mp h with e | e
    · exact absurd e hne
    · exact suf_max p q hq e
theorem lss_start (h : PC D) {q : Path} (hq : q ≠ []) (c : Sym) : sfx D (q ++ [c]) = suf D (sfx D q ++ [c]) := by
  obtain ⟨x, q, rfl⟩ : ∃ x q', q = x :: q' := by
    cases q with
    | nil => exact absurd rfl hq
    | cons x q => exact ⟨x, q, rfl⟩
  simp only [sfx, List.cons_append, List.tail_cons]
  exact suf_suf h q c
theorem lss_hit {r : Path} {c : Sym} {x : Path} (h : full D r c = some x) : suf D (r ++ [c]) = x := by
  rw [suf_snoc]
  simp only [full] at h
  split at h
  · rename_i e; subst e
    simp only [kidA] at h
    split at h
    · (have zc := Option.some.inj h; clear h; subst zc); rename_i hm; simp only [fullN, Option.getD_none]; exact if_pos hm
    · exact ns_ne h
  · rw [h]; rfl
theorem lss_root {c : Sym} (h : full D [] c = none) : suf D ([] ++ [c]) = [] := by
  rw [suf_snoc]
  simp only [full, kidA] at h
  simp only [fullN, Option.getD_none]
  rw [if_neg]
  intro hm
  simp [hm] at h
theorem lss_step (hc : PC D) {r : Path} {c : Sym} (hr : r ≠ []) (h : full D r c = none) : suf D (r ++ [c]) = suf D (sfx D r ++ [c]) := by
  obtain ⟨x, r, rfl⟩ : ∃ x r', r = x :: r' := by
    cases r with
    | nil => exact absurd rfl hr
    | cons x q => exact ⟨x, q, rfl⟩
  rw [suf_snoc, suf_snoc]
  simp only [sfx, List.tail_cons]
  rw [← fullN_suf hc]
  simp only [full, if_neg hr] at h
  rw [h]
  simp only [fullN] at h
  split at h
  · exact sn_ne h
  · rw [h]
noncomputable def Trie.UD (X : Trie) (p : Path) : Prop := X.lss p = none ∧ ∀ c, X.look p c = kidA X.D p c
noncomputable def Trie.DN (X : Trie) (p : Path) : Prop := X.lss p = some (sfx X.D p) ∧ ∀ c, X.look p c = full X.D p c
noncomputable def Trie.AD (X : Trie) (p : Path) : Prop := ∀ r, r <:+ p → r ∈ X.D → X.DN r
structure Trie.Same (X X' : Trie) : Prop where
  D : X'.D = X.D
  A : X'.A = X.A
  T : X'.T = X.T
  key : X'.key = X.key
  out : X'.out = X.out
theorem Trie.Same.refl (X : Trie) : X.Same X := ⟨rfl, rfl, rfl, rfl, rfl⟩
theorem Trie.Same.trans {X Y Z : Trie} (a : X.Same Y) (b : Y.Same Z) : X.Same Z := ⟨b.D.trans a.D, b.A.trans a.A, b.T.trans a.T, b.key.trans a.key, b.out.trans a.out⟩
theorem Trie.Same.fp {X Y : Trie} (a : X.Same Y) (t d : Addr) : Fp Y t d = Fp X t d := by
  funext x; simp only [Fp, a.D, a.A, a.T]
noncomputable def Trie.Stay (X X' : Trie) (x : Path) : Prop := X'.lss x = X.lss x ∧ X'.tr x = X.tr x
theorem Trie.Stay.dn {X X' : Trie} (s : X.Same X') {x : Path} (h : X.Stay X' x) (hd : X.DN x) : X'.DN x := by
  refine ⟨by rw [h.1, s.D]; exact hd.1, fun c => ?_⟩
  rw [s.D, ← hd.2 c]; simp only [Trie.look, h.2]
theorem Trie.Stay.ud {X X' : Trie} (s : X.Same X') {x : Path} (h : X.Stay X' x) (hd : X.UD x) : X'.UD x := by
  refine ⟨by rw [h.1]; exact hd.1, fun c => ?_⟩
  rw [s.D, ← hd.2 c]; simp only [Trie.look, h.2]
structure Trie.Step (X X' : Trie) : Prop where
  same : X.Same X'
  all : ∀ x ∈ X.D, X.Stay X' x ∨ X'.AD x
theorem Trie.Step.refl (X : Trie) : X.Step X := ⟨.refl X, fun zu zu => .inl ⟨rfl, rfl⟩⟩
theorem Trie.Step.dn {X X' : Trie} (s : X.Step X') {x : Path} (hx : x ∈ X.D) (h : X.DN x) : X'.DN x := by
  rcases s.all x hx with a | a
  · exact a.dn s.same h
  · exact a x (List.suffix_refl x) (s.same.D ▸ hx)
theorem Trie.Step.ad {X X' : Trie} (s : X.Step X') {x : Path} (h : X.AD x) : X'.AD x := fun r hr hD => by
  have hD' : r ∈ X.D := s.same.D ▸ hD
  exact s.dn hD' (h r hr hD')
theorem Trie.Step.trans {X Y Z : Trie} (a : X.Step Y) (b : Y.Step Z) : X.Step Z := by
  refine ⟨a.same.trans b.same, fun x hx => ?_⟩
  rcases b.all x (a.same.D ▸ hx) with h | h
  · rcases a.all x hx with h' | h'
    · exact .inl ⟨h.1.trans h'.1, h.2.trans h'.2⟩
    · exact .inr (b.ad h')
  · exact .inr h
noncomputable def Trie.setLss (X : Trie) (p q : Path) : Trie := { X with lss := fun x => if x = p then some q else X.lss x }
noncomputable def Trie.setTr (X : Trie) (p : Path) (m : List (Sym × Path)) : Trie := { X with tr := fun x => if x = p then m else X.tr x }
noncomputable def Trie.setOut (X : Trie) (p : Path) (v : AV) : Trie := { X with out := fun x => if x = p then some v else X.out x }
theorem nodeUpd {X X' : Trie} {t d : Addr} {fin ci : Bool} {hp : HP} (hr : Rep X t d fin ci hp) {p : Path} (hp' : p ∈ X.D) (hD : X'.D = X.D) (hA : X'.A = X.A) (hT : X'.T = X.T) (htr : X'.tr = X.tr)
    (hn : ∀ x ∈ X.D, x ≠ p → X'.nodeAO x = X.nodeAO x) : Rep X' t d fin ci (upd hp (X.A p) (X'.nodeAO p)) := by
  have ds := fun q hq => Trie.Wf.dist hr hp' (q := q) hq
  refine ⟨?_, ?_, ?_, ?_⟩
  · rw [upd_ne _ _ (ds p hp').2.1.symm]; exact hr.tree
  · rw [upd_ne _ _ (ds p hp').2.2.1.symm, hA, hD]; exact hr.ns
  · intro x hx
    rw [hD] at hx
    rw [hA]
    by_cases e : x = p
    · subst e; exact upd_self _ _ _
    · rw [upd_ne _ _ (fun q => e (hr.ai hx hp' q)), hn x hx e]; exact hr.nd x hx
  · intro x hx
    rw [hD] at hx
    obtain ⟨ep, q⟩ := hr.td x hx
    refine ⟨ep, ?_⟩
    rw [hT, upd_ne _ _ (ds x hx).1.symm, q]
    simp only [Trie.trv, htr, hA]
theorem setLss_rep {X : Trie} {t d : Addr} {fin ci : Bool} {hp : HP} (hr : Rep X t d fin ci hp) {p q : Path} (hp' : p ∈ X.D) : Rep (X.setLss p q) t d fin ci (upd hp (X.A p) ((X.setLss p q).nodeAO p)) := by
  refine nodeUpd hr hp' rfl rfl rfl rfl (fun x zu hx => ?_)
  have : (X.setLss p q).lss x = X.lss x := if_neg hx
  simp only [Trie.nodeAO, Trie.lssv, this]; rfl
theorem setOut_rep {X : Trie} {t d : Addr} {fin ci : Bool} {hp : HP} (hr : Rep X t d fin ci hp) {p : Path} {v : AV} (hp' : p ∈ X.D) : Rep (X.setOut p v) t d fin ci (upd hp (X.A p) ((X.setOut p v).nodeAO p)) := by
  refine nodeUpd hr hp' rfl rfl rfl rfl (fun x zu hx => ?_)
  have : (X.setOut p v).out x = X.out x := if_neg hx
  simp only [Trie.nodeAO, this]; rfl
theorem setTr_rep {X : Trie} {t d : Addr} {fin ci : Bool} {hp : HP} (hw : X.Wf) (hr : Rep X t d fin ci hp) {p : Path} {m : List (Sym × Path)} {ep : Nat} (hp' : p ∈ X.D) :
    Rep (X.setTr p m) t d fin ci (upd hp (X.T p) (.dict (m.map fun e => (e.1, .ref (X.A e.2))) ep)) := by
  have ds := fun q hq => Trie.Wf.dist hr (p := q) hq hp'
  refine ⟨?_, ?_, ?_, ?_⟩
  · rw [upd_ne _ _ (ds p hp').2.2.2.1.symm]; exact hr.tree
  · rw [upd_ne _ _ (ds p hp').2.2.2.2.1.symm]; exact hr.ns
  · intro x hx
    exact (upd_ne _ _ (ds x hx).1).trans (hr.nd x hx)
  · intro x hx
    by_cases e : x = p
    · subst e
      refine ⟨ep, (upd_self _ _ _).trans ?_⟩
      simp only [Trie.trv, Trie.setTr, if_true]
    · obtain ⟨ep', q⟩ := hr.td x hx
      refine ⟨ep', ((upd_ne _ _ (fun q => e (hw.ti x hx p hp' q))).trans q).trans ?_⟩
      simp only [Trie.trv, Trie.setTr, if_neg e]
theorem Fr'.upd {P : Addr → Prop} {h : HP} {a : Addr} (x : AO) (ha : P a) : Fr' P h P (AC.upd h a x) := ⟨fun b zu hb => upd_ne _ _ (by rintro rfl; exact hb ha), fun zu q => .inl q⟩
theorem Fr'.new {P : Addr → Prop} {h : HP} {a : Addr} (x : AO) (ha : h a = none) : Fr' P h P (AC.upd h a x) := ⟨fun b hb zu => upd_ne _ _ (by rintro rfl; exact hb ha), fun zu q => .inl q⟩
theorem Rep.new {X : Trie} {t d : Addr} {fin ci : Bool} {hp : HP} (hr : Rep X t d fin ci hp) {a : Addr} {x : AO} (ha : hp a = none) : Rep X t d fin ci (AC.upd hp a x) := by
  have ne : ∀ b y, hp b = some y → AC.upd hp a x b = some y := fun b y e => (upd_ne _ _ (by rintro rfl; rw [ha] at e; exact ns_ne e)).trans e
  exact ⟨ne _ _ hr.tree, ne _ _ hr.ns, fun p h => ne _ _ (hr.nd p h), fun p h => by obtain ⟨ep, q⟩ := hr.td p h; exact ⟨ep, ne _ _ q⟩⟩
theorem Rep.off {X : Trie} {t d : Addr} {fin ci : Bool} {hp hp' : HP} (hr : Rep X t d fin ci hp) (h : ∀ a, Fp X t d a → hp' a = hp a) : Rep X t d fin ci hp' :=
  ⟨(h _ (.inl rfl)).trans hr.tree, (h _ (.inr (.inl rfl))).trans hr.ns, fun p m => (h _ (.inr (.inr ⟨p, m, .inl rfl⟩))).trans (hr.nd p m), fun p m => by obtain ⟨ep, q⟩ := hr.td p m; exact ⟨ep, (h _ (.inr (.inr ⟨p, m, .inr rfl⟩))).trans q⟩⟩
theorem Rep.some {X : Trie} {t d : Addr} {fin ci : Bool} {hp : HP} (hr : Rep X t d fin ci hp) {a : Addr} (h : Fp X t d a) : hp a ≠ none := by
  rcases h with rfl | rfl | ⟨p, m, rfl | rfl⟩
  · rw [hr.tree]; simp
  · rw [hr.ns]; simp
  · rw [hr.nd p m]; simp
  · obtain ⟨ep, q⟩ := hr.td p m; rw [q]; simp
theorem Wf_setTr {X : Trie} (h : X.Wf) {p : Path} {m : List (Sym × Path)} (h1 : ∀ e ∈ m, e.2 ∈ X.D) (h2 : (m.map (·.1)).Nodup) (h3 : ∀ e ∈ m, e.2.getLast? = some e.1) : (X.setTr p m).Wf := by
  refine ⟨h.root, h.nodup, h.closed, h.ti, ?_, ?_, ?_, h.mkD, h.mkV⟩
  · intro x hx e he
    simp only [Trie.setTr] at he
    split at he
    · exact h1 e he
    · exact h.trD x hx e he
  · intro x hx
    simp only [Trie.setTr]
    split
    · exact h2
    · exact h.trN x hx
  · intro x hx e he
    simp only [Trie.setTr] at he
    split at he
    · exact h3 e he
    · exact h.trL x hx e he
theorem Wf_setLss {X : Trie} (h : X.Wf) {p q : Path} : (X.setLss p q).Wf := ⟨h.root, h.nodup, h.closed, h.ti, h.trD, h.trN, h.trL, h.mkD, h.mkV⟩
end
section
variable {C : Cf} {A : Around} {E : Value → Shared → Prop} {env : Env} {σ : ASt}
theorem m_items {a : Addr} {l : List (Sym × AV)} {ep : Nat} {Q : AV → List AV → ASt → Prop} (hd : σ.hp a = some (.dict l ep)) (h : Q (.val (.builtin "dict.items")) [.ref a] σ) : MethA C A E env (.ref a) "items" σ Q :=
  MethA_builtin hd OR.clsD F.plainAttrs_dict F.slot_dict_items F.type_dict_items h
theorem m_values {a : Addr} {l : List (Sym × AV)} {ep : Nat} {Q : AV → List AV → ASt → Prop} (hd : σ.hp a = some (.dict l ep)) (h : Q (.val (.builtin "dict.values")) [.ref a] σ) : MethA C A E env (.ref a) "values" σ Q :=
  MethA_builtin hd OR.clsD F.plainAttrs_dict F.slot_dict_values F.type_dict_values h
theorem m_append {a : Addr} {l : List AV} {Q : AV → List AV → ASt → Prop} (hd : σ.hp a = some (.list l)) (h : Q (.val (.builtin "list.append")) [.ref a] σ) : MethA C A E env (.ref a) "append" σ Q :=
  MethA_builtin hd OR.clsL F.plainAttrs_list F.slot_list_append F.type_list_append h
theorem m_pop {a : Addr} {l : List AV} {Q : AV → List AV → ASt → Prop} (hd : σ.hp a = some (.list l)) (h : Q (.val (.builtin "list.pop")) [.ref a] σ) : MethA C A E env (.ref a) "pop" σ Q :=
  MethA_builtin hd OR.clsL F.plainAttrs_list F.slot_list_pop F.type_list_pop h
theorem m_sadd {a : Addr} {S : Int → Bool} {n : Nat} {Q : AV → List AV → ASt → Prop} (hd : σ.hp a = some (.iset S n)) (h : Q (.val (.builtin "set.add")) [.ref a] σ) : MethA C A E env (.ref a) "add" σ Q :=
  MethA_builtin hd OR.clsS F.plainAttrs_set F.slot_set_add F.type_set_add h
section node
variable {X : Trie} {t d : Addr} {fin ci : Bool} {p : Path}
theorem ng_id {Q : AV → ASt → Prop} (T : Tp C) (hr : Rep X t d fin ci σ.hp) (hp : p ∈ X.D) (h : Q (.int (X.D.idxOf p)) σ) : Op1 C A E env VR (fun v => getAttr v "identifier" true) (.ref (X.A p)) σ Q := get_slot T.s_id (hr.nd p hp) rfl h
theorem ng_tr {Q : AV → ASt → Prop} (T : Tp C) (hr : Rep X t d fin ci σ.hp) (hp : p ∈ X.D) (h : Q (.ref (X.T p)) σ) : Op1 C A E env VR (fun v => getAttr v "transitions" true) (.ref (X.A p)) σ Q := get_slot T.s_tr (hr.nd p hp) rfl h
theorem ng_lss {Q : AV → ASt → Prop} (T : Tp C) (hr : Rep X t d fin ci σ.hp) (hp : p ∈ X.D) (h : Q (X.lssv p) σ) : Op1 C A E env VR (fun v => getAttr v "longest_strict_suffix" true) (.ref (X.A p)) σ Q :=
  get_slot T.s_lss (hr.nd p hp) rfl h (by intro u; simp only [Trie.lssv]; split <;> simp)
theorem ng_par {Q : AV → ASt → Prop} (T : Tp C) (hr : Rep X t d fin ci σ.hp) (hp : p ∈ X.D) (h : Q (X.parv p) σ) : Op1 C A E env VR (fun v => getAttr v "parent" true) (.ref (X.A p)) σ Q :=
  get_slot T.s_par (hr.nd p hp) rfl h (by intro u; simp only [Trie.parv]; split <;> simp)
theorem ng_sym {Q : AV → ASt → Prop} (T : Tp C) (hr : Rep X t d fin ci σ.hp) (hp : p ∈ X.D) (h : Q (symv p) σ) : Op1 C A E env VR (fun v => getAttr v "symbol" true) (.ref (X.A p)) σ Q :=
  get_slot T.s_sym (hr.nd p hp) rfl h (by
    intro u; simp only [symv]; split
    · rename_i c _; cases c <;> simp [Sym.av]
    · simp)
theorem ng_suc {Q : AV → ASt → Prop} (T : Tp C) (hr : Rep X t d fin ci σ.hp) (hp : p ∈ X.D) (h : Q (.bool (X.key p).isSome) σ) : Op1 C A E env VR (fun v => getAttr v "success" true) (.ref (X.A p)) σ Q := get_slot T.s_suc (hr.nd p hp) rfl h
theorem ng_key {Q : AV → ASt → Prop} (T : Tp C) (hw : X.Wf) (hr : Rep X t d fin ci σ.hp) (hp : p ∈ X.D) {v : AV} (hv : X.key p = some v) (h : Q v σ) : Op1 C A E env VR (fun v => getAttr v "matched_keyword" true) (.ref (X.A p)) σ Q :=
  get_slot (x := v) T.s_mk (hr.nd p hp) (by simp [hv]) h (hw.mkV p v hv)
theorem ng_out {Q : AV → ASt → Prop} (T : Tp C) (hr : Rep X t d fin ci σ.hp) (hp : p ∈ X.D) {v : AV} (hv : X.out p = some v) (h : Q v σ) (hu : ∀ u, v ≠ .val u) : Op1 C A E env VR (fun v => getAttr v "outputs" true) (.ref (X.A p)) σ Q :=
  get_slot (x := v) T.s_out (hr.nd p hp) (by simp [hv]) h hu
theorem nset_lss {q : Path} {Q : Unit → ASt → Prop} (T : Tp C) (hr : Rep X t d fin ci σ.hp) (hp : p ∈ X.D) (h : Q () (σ.put (X.A p) ((X.setLss p q).nodeAO p))) :
    Op2 C A E env (fun zu (zu : Unit) (zu : Unit) => True) (fun u w => setAttr w "longest_strict_suffix" u) (.ref (X.A q)) (.ref (X.A p)) σ Q := by
  refine set_slot T.s_lss (hr.nd p hp) ?_
  have : AO.slot 34 (setSlot [some (.int (X.D.idxOf p)), some (X.lssv p), some ((X.key p).getD .none), X.out p, some (X.parv p), some (.bool (X.key p).isSome), some (symv p), some (.ref (X.T p))] 1 (.ref (X.A q))) = (X.setLss p q).nodeAO p := by
    have e : (X.setLss p q).lss p = some q := if_pos rfl
    simp only [Trie.nodeAO, Trie.lssv, e]
    simp [setSlot, node, Trie.setLss, Trie.parv]
  rw [this]; exact h
theorem nset_out {v : AV} {Q : Unit → ASt → Prop} (T : Tp C) (hr : Rep X t d fin ci σ.hp) (hp : p ∈ X.D) (h : Q () (σ.put (X.A p) ((X.setOut p v).nodeAO p))) :
    Op2 C A E env (fun zu (zu : Unit) (zu : Unit) => True) (fun u w => setAttr w "outputs" u) v (.ref (X.A p)) σ Q := by
  refine set_slot T.s_out (hr.nd p hp) ?_
  have : AO.slot 34 (setSlot [some (.int (X.D.idxOf p)), some (X.lssv p), some ((X.key p).getD .none), X.out p, some (X.parv p), some (.bool (X.key p).isSome), some (symv p), some (.ref (X.T p))] 3 v) = (X.setOut p v).nodeAO p := by
    have e : (X.setOut p v).out p = some v := if_pos rfl
    simp only [Trie.nodeAO, e]
    simp [setSlot, node, Trie.setOut, Trie.lssv, Trie.parv]
  rw [this]; exact h
theorem n_is {q : Path} {Q : AV → ASt → Prop} (hr : Rep X t d fin ci σ.hp) (hp : p ∈ X.D) (hq : q ∈ X.D) (h : Q (.bool (decide (p = q))) σ) : Op2 C A E env VR (compareOp .Is) (.ref (X.A p)) (.ref (X.A q)) σ Q := by
  refine is_ref (hr.nd p hp) (hr.nd q hq) (.inl ⟨_, _, rfl⟩) ?_
  have : decide (X.A p = X.A q) = decide (p = q) := by
    by_cases e : p = q
    · simp [e]
    · have : X.A p ≠ X.A q := fun x => e (hr.ai hp hq x)
      simp [e, this]
  rw [this]; exact h
theorem n_isNot {q : Path} {Q : AV → ASt → Prop} (hr : Rep X t d fin ci σ.hp) (hp : p ∈ X.D) (hq : q ∈ X.D) (h : Q (.bool (!decide (p = q))) σ) : Op2 C A E env VR (compareOp .IsNot) (.ref (X.A p)) (.ref (X.A q)) σ Q := by
  refine isNot_ref (hr.nd p hp) (hr.nd q hq) (.inl ⟨_, _, rfl⟩) ?_
  have : decide (X.A p = X.A q) = decide (p = q) := by
    by_cases e : p = q
    · simp [e]
    · have : X.A p ≠ X.A q := fun x => e (hr.ai hp hq x)
      simp [e, this]
  rw [this]; exact h
end node
theorem lss_loop (T : Tp C) {r₀ : FdRest} {L : Addr} {X : Trie} {t d : Addr} {ci : Bool} {q : Path} {c : Sym} (hw : X.Wf) (hr : Rep X t d false ci σ.hp) (hp : q ++ [c] ∈ X.D) (had : X.AD q)
    {test : Expr} {body : List Stmt} {pos : Pos} (hst : (lssP.body.drop 3).head? = some (.While test body [] pos)) (l1 : σ.v "self" = some (.ref t)) (l2 : σ.v "state" = some (.ref (X.A (q ++ [c])))) (l3 : σ.v "zero_state" = some (.ref (X.A []))) (l4 : σ.v "traversed" = some (.ref (X.A (sfx X.D q)))) :
    Ex C A NoE (callEnv (r₀.fd lssP .none) L 122) (.While test body [] pos) σ (fun f σ' => f = .next ∧ σ'.hp = upd σ.hp (X.A (q ++ [c])) ((X.setLss (q ++ [c]) (sfx X.D (q ++ [c]))).nodeAO (q ++ [c])) ∧
      σ'.v "self" = some (.ref t) ∧ σ'.v "state" = some (.ref (X.A (q ++ [c]))) ∧ σ'.v "zero_state" = some (.ref (X.A []))) := by
  have hq : q ∈ X.D := hw.closed q c hp
  have hsym : symv (q ++ [c]) = c.av := by simp [symv]
  cases hst
  refine Ex_While (fun n σ' => σ'.hp = σ.hp ∧ σ'.v "self" = some (.ref t) ∧ σ'.v "state" = some (.ref (X.A (q ++ [c]))) ∧ σ'.v "zero_state" = some (.ref (X.A [])) ∧
    ∃ r, r ∈ X.D ∧ n = r.length ∧ r <:+ q ∧ σ'.v "traversed" = some (.ref (X.A r)) ∧ ((q = [] ∧ r = []) ∨ (r.length < q.length ∧ sfx X.D (q ++ [c]) = suf X.D (r ++ [c])))) ?_ (sfx X.D q).length ?_
  · (rintro n σ'; intro zr; obtain ⟨he, m1, m2, m3, r, hrD, rfl, hrq, m4, hcase⟩ := zr)
    have hr' : Rep X t d false ci σ'.hp := he ▸ hr
    obtain ⟨ep, htd⟩ := hr'.td r hrD
    have hdn := had r hrq hrD
    refine Et_plain (Ev_bool (truthy_bool ?_))
    refine Tr.gen fun K hK => ?_
    have hat : at? (X.trv r) c = (full X.D r c).map fun x => .ref (X.A x) := by rw [Trie.at_trv, hdn.2 c]
    refine Exs_cons (Ex_If (Et_and (Et_Cmp (Ev_Attr (Ev_Name m2 (ng_sym T hr' hp (Ev_Attr (Ev_Name m4 (ng_tr T hr' hrD ?_)))))))))
    rw [hsym]
    refine dict_in T.sysm htd ⟨_, rfl, ?_⟩
    rw [hat]
    cases hf : full X.D r c with
    | some x =>
      obtain ⟨hxD, r', rfl, hr'r⟩ := full_some hf
      simp only [Option.map_some, Option.isSome_some]
      refine Et_Cmp (Ev_Sub (Ev_Attr (Ev_Name m4 (ng_tr T hr' hrD (Ev_Attr (Ev_Name m2 (ng_sym T hr' hp ?_)))))))
      rw [hsym]
      refine dict_item (x := .ref (X.A (r' ++ [c]))) htd (by rw [hat, hf]; rfl) (Ev_Name m2 (n_isNot hr' hxD hp ⟨_, rfl, ?_⟩))
      by_cases hx : r' ++ [c] = q ++ [c]
      · rw [hx]
        simp only [decide_true, Bool.not_true]
        have hr'q : r' = q := List.append_cancel_right hx
        subst hr'q
        have h1 := hr'r.length_le
        rcases hcase with ⟨rfl, rfl⟩ | ⟨h2, zu⟩
        · refine Exs_cons (Ex_If (Et_Cmp (Ev_Name m4 (Ev_Name m3 (n_is hr' hrD hw.root ⟨_, rfl, ?_⟩)))))
          simp only [decide_true, if_true]
          refine Exs_cons (Ex_Assign_Attr (Ev_Name m3 (Ev_Name m2 (nset_lss T hr' hp ?_))))
          refine Exs_cons (Ex_Break (hK _ _ ?_))
          have e : sfx X.D ([] ++ [c]) = [] := rfl
          rw [e]
          exact ⟨rfl, by rw [← he], m1, m2, m3⟩
        · omega
      · simp only [hx, decide_false, Bool.not_false]
        refine Exs_cons (Ex_Assign_Attr (Ev_Sub (Ev_Attr (Ev_Name m4 (ng_tr T hr' hrD (Ev_Attr (Ev_Name m2 (ng_sym T hr' hp ?_))))))))
        rw [hsym]
        refine dict_item (x := .ref (X.A (r' ++ [c]))) htd (by rw [hat, hf]; rfl) (Ev_Name m2 (nset_lss T hr' hp ?_))
        refine Exs_cons (Ex_Break (hK _ _ ?_))
        have e : sfx X.D (q ++ [c]) = r' ++ [c] := by
          rcases hcase with ⟨rfl, rfl⟩ | ⟨zu, h2⟩
          · simp at hr'r; subst hr'r; exact absurd rfl hx
          · rw [h2, lss_hit hf]
        rw [e]
        exact ⟨rfl, by rw [← he], m1, m2, m3⟩
    | none =>
      simp only [Option.map_none, Option.isSome_none]
      refine Exs_cons (Ex_If (Et_Cmp (Ev_Name m4 (Ev_Name m3 (n_is hr' hrD hw.root ⟨_, rfl, ?_⟩)))))
      by_cases hr0 : r = []
      · subst hr0
        simp only [decide_true, if_true]
        refine Exs_cons (Ex_Assign_Attr (Ev_Name m3 (Ev_Name m2 (nset_lss T hr' hp ?_))))
        refine Exs_cons (Ex_Break (hK _ _ ?_))
        have e : sfx X.D (q ++ [c]) = [] := by
          rcases hcase with ⟨rfl, zu⟩ | ⟨zu, h2⟩
          · rfl
          · rw [h2, lss_root hf]
        rw [e]
        exact ⟨rfl, by rw [← he], m1, m2, m3⟩
      · simp only [hr0, decide_false]
        refine Exs_cons (Ex_Assign_Name (Ev_Attr (Ev_Name m4 (ng_lss T hr' hrD ?_))))
        refine Exs_nil (Exs_nil (Exs_nil (hK _ _ ?_)))
        have hl : X.lssv r = .ref (X.A (sfx X.D r)) := by simp only [Trie.lssv, hdn.1]
        rw [hl]
        refine ⟨(sfx X.D r).length, sfx_len hr0, he, lk_ne m1, lk_ne m2, lk_ne m3, sfx X.D r, suf_mem hw.pc _, rfl, sfx_suffix.trans hrq, lk_eq, .inr ?_⟩
        rcases hcase with ⟨zu, rfl⟩ | ⟨h1, h2⟩
        · exact absurd rfl hr0
        · exact ⟨Nat.lt_trans (sfx_len hr0) h1, h2.trans (lss_step hw.pc hr0 hf)⟩
  · refine ⟨rfl, l1, l2, l3, sfx X.D q, suf_mem hw.pc _, rfl, sfx_suffix, l4, ?_⟩
    by_cases hq0 : q = []
    · subst hq0; exact .inl ⟨rfl, rfl⟩
    · exact .inr ⟨sfx_len hq0, lss_start hw.pc hq0 c⟩
end
section
variable {C : Cf} {A : Around} {E : Value → Shared → Prop} {env : Env} {σ : ASt}
theorem setTr_self (X : Trie) (p : Path) : X.setTr p (X.tr p) = X := by
  have : (fun x => if x = p then X.tr p else X.tr x) = X.tr := by funext x; split <;> simp_all
  simp only [Trie.setTr, this]
theorem setTr_setTr (X : Trie) (p : Path) (m m' : List (Sym × Path)) : (X.setTr p m).setTr p m' = X.setTr p m' := by
  have : (fun x => if x = p then m' else if x = p then m else X.tr x) = fun x => if x = p then m' else X.tr x := by funext x; split <;> rfl
  simp only [Trie.setTr, this]
theorem store_new {l : List (Sym × Path)} {f : Path → Addr} {c : Sym} {a : Addr} (h : lookT l c = none) : store (l.map fun e => (e.1, AV.ref (f e.2))) c (.ref a) = (l.map fun e => (e.1, AV.ref (f e.2))) ++ [(c, .ref a)] := by
  have : (l.map fun e => (e.1, AV.ref (f e.2))).any (fun p => p.1 = c) = false := by
    rw [List.any_eq_false]
    intro p hp
    obtain ⟨e', he', rfl⟩ := List.mem_map.mp hp
    simpa using lookT_none h e' he'
  simp only [store, this]; rfl
theorem Fr'.wide {P Q : Addr → Prop} {h h' : HP} (f : Fr' P h P h') (w : ∀ a, P a → Q a) : Fr' Q h Q h' := ⟨fun a x n => f.keep a x (fun p => n (w a p)), fun zu q => .inl q⟩
theorem lss_merge (T : Tp C) {r₀ : FdRest} {L : Addr} {X : Trie} {t d : Addr} {ci : Bool} {p s : Path} (hA : A.handled = none) (hw : X.Wf) (hr : Rep X t d false ci σ.hp) (hp : p ∈ X.D) (hs : s ∈ X.D) (hps : p ≠ s) (hz : X.D.length ≤ 4000)
    {target iter : Expr} {body : List Stmt} {pos : Pos} (hst : (lssP.body.drop 7).head? = some (.For target iter body [] pos)) (l2 : σ.v "state" = some (.ref (X.A p))) (l3 : σ.v "suffix" = some (.ref (X.A s))) :
    Ex C A NoE (callEnv (r₀.fd lssP .none) L 122) (.For target iter body [] pos) σ (fun f σ' => f = .next ∧ ∃ m, (X.setTr p m).Wf ∧ Rep (X.setTr p m) t d false ci σ'.hp ∧ Fr' (· = X.T p) σ.hp (· = X.T p) σ'.hp ∧
      ∀ c, lookT m c = (X.look p c).or (X.look s c)) := by
  obtain ⟨ep, htd⟩ := hr.td s hs
  cases hst
  refine Ex_For (fun zu zu hp => hp (X.T s) = some (.dict (X.trv s) ep))
    (fun zu zu xs σ' => ∃ dn rest m, X.tr s = dn ++ rest ∧ xs = rest.map (fun e => AV.tup [e.1.av, .ref (X.A e.2)]) ∧ (X.setTr p m).Wf ∧ Rep (X.setTr p m) t d false ci σ'.hp ∧ Fr' (· = X.T p) σ.hp (· = X.T p) σ'.hp ∧
      (∀ c, lookT m c = (X.look p c).or (lookT dn c)) ∧ σ'.v "state" = some (.ref (X.A p)) ∧ σ'.hp (X.T s) = some (.dict (X.trv s) ep))
    (Ev_Meth (Ev_Attr (Ev_Name l3 (ng_tr T hr hs (m_items htd (EvL_0 (EvA_0 (dict_items T.sysm htd (fun v hv => ⟨_, iter_items hA (upd_self _ _ _) ?_, ?_⟩))))))))) ?_ ?_ ?_
  · exact (upd_ne _ _ (by rintro e; rw [← e, htd] at hv; exact sn_ne hv)).trans htd
  · refine ⟨[], X.tr s, X.tr p, rfl, ?_, by rw [setTr_self]; exact hw, by rw [setTr_self]; exact hr.new hv, Fr'.new _ hv, fun c => by simp [lookT, Trie.look], l2, (upd_ne _ _ (by rintro e; rw [← e, htd] at hv; exact sn_ne hv)).trans htd⟩
    simp [Trie.trv]
  · (rintro zu zu xs σ'; intro zr; obtain ⟨zu, zu, zu, zu, zu, zu, zu, zu, zu, zu, h⟩ := zr)
    exact h
  · (rintro zu zu x xs σ'; intro zr; obtain ⟨dn, rest, m, e1, e2, hw', hr', hf', hl', m2, m5⟩ := zr)
    obtain ⟨c, y, rest', rfl, rfl, rfl⟩ : ∃ c y rest', rest = (c, y) :: rest' ∧ x = .tup [c.av, .ref (X.A y)] ∧ xs = rest'.map (fun e => AV.tup [e.1.av, .ref (X.A e.2)]) := by
      cases rest with
      | nil => cases e2
      | cons e rest' => simp only [List.map_cons, List.cons.injEq] at e2; exact ⟨e.1, e.2, rest', rfl, e2.1, e2.2⟩
    have hcy : (c, y) ∈ X.tr s := by rw [e1]; simp
    have hyD := hw.trD s hs _ hcy
    have hyL := hw.trL s hs _ hcy
    have hdn : lookT dn c = none := by
      have hn := hw.trN s hs
      rw [e1, List.map_append, List.nodup_append] at hn
      cases h : lookT dn c with
      | none => rfl
      | some z =>
        have := lookT_mem h
        exact absurd rfl (hn.2.2 c (List.mem_map_of_mem (f := (·.1)) this) c (by simp))
    obtain ⟨ep', htp⟩ := hr'.td p hp
    have htp : σ'.hp (X.T p) = some (.dict (m.map fun e => (e.1, AV.ref (X.A e.2))) ep') := by
      rw [show (X.setTr p m).trv p = m.map fun e => (e.1, AV.ref (X.A e.2)) by simp only [Trie.trv, Trie.setTr, if_true]] at htp
      exact htp
    refine Asg_Pair hA ?_
    refine Tr.gen fun K hK => ?_
    refine Exs_cons (Ex_If (Et_Cmp (Ev_Name (lk_ne lk_eq) (Ev_Attr (Ev_Name (lk_ne (lk_ne m2)) (ng_tr (X := X.setTr p m) T hr' hp (notIn_Op (dict_in T.sysm htp ⟨_, rfl, _, rfl, ?_⟩))))))))
    rw [at_map]
    cases hm : lookT m c with
    | some z =>
      simp only [Option.map_some, Option.isSome_some, Bool.not_true]
      refine Exs_nil (Exs_nil (hK _ _ ?_))
      refine ⟨dn ++ [(c, y)], rest', m, by simp [e1], rfl, hw', hr', hf', fun c' => ?_, lk_ne (lk_ne m2), m5⟩
      rw [hl' c', lookT_append]
      by_cases e : c' = c
      · subst e
        rw [hl' c', hdn] at hm
        cases hx : X.look p c' with
        | none => rw [hx] at hm; exact ns_ne hm
        | some zu => rfl
      · have : lookT [(c, y)] c' = none := by
          have e' : ¬ c = c' := fun x => e x.symm
          simp [lookT, e']
        rw [this]; simp
    | none =>
      simp only [Option.map_none, Option.isSome_none, Bool.not_false, if_true]
      refine Exs_cons (Ex_Assign_Sub (Ev_Name lk_eq (Ev_Attr (Ev_Name (lk_ne (lk_ne m2)) (ng_tr (X := X.setTr p m) T hr' hp (Ev_Name (lk_ne lk_eq) (dict_set htp ?_ ?_)))))))
      · have := hw'.trlen hp
        have e : (X.setTr p m).tr p = m := if_pos rfl
        rw [e] at this
        simp only [List.length_map]
        exact Nat.le_trans this (Nat.le_trans hz (by omega))
      intro ep''
      refine Exs_nil (Exs_nil (hK _ _ ?_))
      rw [store_new hm]
      have hmap : (m.map fun e => (e.1, AV.ref (X.A e.2))) ++ [(c, .ref (X.A y))] = (m ++ [(c, y)]).map fun e => (e.1, AV.ref (X.A e.2)) := by simp
      rw [hmap]
      have hmW : ∀ e ∈ m, e.2 ∈ X.D := fun e he => hw'.trD p hp e (by rw [show (X.setTr p m).tr p = m from if_pos rfl]; exact he)
      have hmN : (m.map (·.1)).Nodup := by have := hw'.trN p hp; rw [show (X.setTr p m).tr p = m from if_pos rfl] at this; exact this
      have hmL : ∀ e ∈ m, e.2.getLast? = some e.1 := fun e he => hw'.trL p hp e (by rw [show (X.setTr p m).tr p = m from if_pos rfl]; exact he)
      refine ⟨dn ++ [(c, y)], rest', m ++ [(c, y)], by simp [e1], rfl, Wf_setTr hw ?_ ?_ ?_, ?_, hf'.trans (Fr'.upd _ rfl), fun c' => ?_, lk_ne (lk_ne m2), ?_⟩
      · intro e he
        rcases List.mem_append.mp he with q | q
        · exact hmW e q
        · simp at q; subst q; exact hyD
      · rw [List.map_append, List.nodup_append]
        refine ⟨hmN, by simp, ?_⟩
        intro a ha b hb
        simp at hb; subst hb
        obtain ⟨e, he, rfl⟩ := List.mem_map.mp ha
        exact lookT_none hm e he
      · intro e he
        rcases List.mem_append.mp he with q | q
        · exact hmL e q
        · simp at q; subst q; exact hyL
      · have := setTr_rep (p := p) (m := m ++ [(c, y)]) (ep := ep'') hw' hr' hp
        rw [setTr_setTr] at this
        exact this
      · rw [lookT_append, lookT_append, hl' c']
        cases X.look p c' <;> simp
      · exact (upd_ne _ _ (fun e => hps (hw.ti s hs p hp e).symm)).trans m5
  · (rintro zu zu σ'; intro zr; obtain ⟨dn, rest, m, e1, e2, hw', hr', hf', hl', m2, m5⟩ := zr)
    have : rest = [] := by cases rest with | nil => rfl | cons => cases e2
    subst this
    simp at e1; subst e1
    exact ⟨rfl, m, hw', hr', hf', hl'⟩
theorem suffix_snoc {s q : Path} {c : Sym} (h : s <:+ q ++ [c]) (hs : s ≠ []) : ∃ q', s = q' ++ [c] ∧ q' <:+ q := by
  obtain ⟨z, hz⟩ := h
  rcases List.eq_nil_or_concat s with rfl | ⟨s', x, rfl⟩
  · exact absurd rfl hs
  · rw [List.concat_eq_append] at hz ⊢
    rw [← List.append_assoc] at hz
    have h1 := List.append_inj' hz rfl
    obtain ⟨h2, h3⟩ := h1
    simp at h3; subst h3
    exact ⟨s', rfl, z, h2⟩
noncomputable def LssPost (X : Trie) (p : Path) (t d : Addr) (ci : Bool) (hp hp' : HP) : Prop :=
  ∃ X' : Trie, X'.Wf ∧ Rep X' t d false ci hp' ∧ Fr' (Fp X t d) hp (Fp X t d) hp' ∧ X.Step X' ∧ X'.AD p ∧ (∀ x ∈ X.D, p.length < x.length → X.Stay X' x) ∧ ∀ x ∈ X.D, x ≠ p → X.lss x ≠ none → hp' (X.T x) = hp (X.T x)
theorem lss_fn (T : Tp C) : ∀ (n : Nat) (A : Around) (X : Trie) (t d : Addr) (ci : Bool) (hp : HP) (q : Path) (c : Sym), (q ++ [c]).length ≤ n → A.handled = none → A.depth + n < recursionLimit → X.Wf → Rep X t d false ci hp →
    q ++ [c] ∈ X.D → X.AD q → (∀ x ∈ X.D, x.length < (q ++ [c]).length → X.UD x ∨ X.AD x) → (X.UD (q ++ [c]) ∨ X.DN (q ++ [c])) → X.D.length ≤ 4000 →
    Fn C A (.ref 122) [.ref t, .ref (X.A (q ++ [c]))] [] hp (fun v hp' => v = .none ∧ LssPost X (q ++ [c]) t d ci hp hp') := by
  intro n
  induction n with
  | zero => intro A X t d ci hp q c hn; simp at hn
  | succ n ih =>
    intro A X t d ci hp q c hn hA hroom hw hr hpD had hsh hcur hz
    obtain ⟨r₀, hf⟩ := T.f_lss
    have hq : q ∈ X.D := hw.closed q c hpD
    have hne : q ++ [c] ≠ [] := by simp
    refine Fn_def (body := lssP.body) hf (binds_lss C r₀ _ _) (fun L => ?_) (by with_reducible exact ou_add ‹_›) (by kernel_rfl) (by kernel_rfl) (by kernel_rfl) (by kernel_rfl) (by kernel_rfl)
    have hpar : X.parv (q ++ [c]) = .ref (X.A q) := by simp only [Trie.parv]; rw [if_neg hne, List.dropLast_concat]
    have hdq := had q (List.suffix_refl q) hq
    have hlq : X.lssv q = .ref (X.A (sfx X.D q)) := by simp only [Trie.lssv, hdq.1]
    refine Exs_cons (Ex_Assign_Name (Ev_Attr (Ev_Name rfl (get_ns T.n_zero hr.tree hr.ns rfl ?_))))
    refine Exs_cons (Ex_Assign_Name (Ev_Attr (Ev_Name rfl (ng_par T hr hpD ?_))))
    rw [hpar]
    refine Exs_cons (Ex_Assign_Name (Ev_Attr (Ev_Name rfl (ng_lss T hr hq ?_))))
    rw [hlq]
    refine Exs_cons (Tr.mono (lss_loop (σ := (ASt.set (ASt.set (ASt.set ⟨_, hp⟩ "zero_state" _) "parent" _) "traversed" _)) T hw hr hpD had rfl rfl rfl rfl rfl) ?_)
    (rintro f σ₁; intro zr; obtain ⟨rfl, e₁, m1, m2, m3⟩ := zr)
    have hsD : sfx X.D (q ++ [c]) ∈ X.D := suf_mem hw.pc _
    have hslt : (sfx X.D (q ++ [c])).length < (q ++ [c]).length := sfx_len hne
    have hw1 : (X.setLss (q ++ [c]) (sfx X.D (q ++ [c]))).Wf := Wf_setLss hw
    have hr1 : Rep (X.setLss (q ++ [c]) (sfx X.D (q ++ [c]))) t d false ci σ₁.hp := e₁ ▸ setLss_rep hr hpD
    have hfr1 : Fr' (Fp X t d) hp (Fp X t d) σ₁.hp := by rw [e₁]; exact Fr'.upd _ (.inr (.inr ⟨q ++ [c], hpD, .inl rfl⟩))
    have hlp : (X.setLss (q ++ [c]) (sfx X.D (q ++ [c]))).lss (q ++ [c]) = some (sfx X.D (q ++ [c])) := if_pos rfl
    have same1 : X.Same (X.setLss (q ++ [c]) (sfx X.D (q ++ [c]))) := ⟨rfl, rfl, rfl, rfl, rfl⟩
    have stay1 : ∀ x, x ≠ q ++ [c] → X.Stay (X.setLss (q ++ [c]) (sfx X.D (q ++ [c]))) x := fun x hx => ⟨if_neg hx, rfl⟩
    have hlook : ∀ c', (X.setLss (q ++ [c]) (sfx X.D (q ++ [c]))).look (q ++ [c]) c' = X.look (q ++ [c]) c' := fun zu => rfl
    have hT1 : ∀ x ∈ X.D, σ₁.hp (X.T x) = hp (X.T x) := fun x hx => by
      rw [e₁]; exact upd_ne _ _ (Trie.Wf.dist hr hpD hx).1.symm
    generalize hs : sfx X.D (q ++ [c]) = s at *
    have hlv : (X.setLss (q ++ [c]) s).lssv (q ++ [c]) = .ref (X.A s) := by simp only [Trie.lssv, hlp]; rfl
    refine Exs_cons (Ex_Assign_Name (Ev_Attr (Ev_Name m2 (ng_lss (X := X.setLss (q ++ [c]) s) T hr1 hpD ?_))))
    rw [hlv]
    have hfull : ∀ c', (kidA X.D (q ++ [c]) c').or (if s = [] then none else full X.D s c') = full X.D (q ++ [c]) c' := fun c' => by rw [full_step hw.pc hne, hs]
    -- the last loop
    have rest : ∀ (σ₂ : ASt) (X2 : Trie), s ≠ [] → X2.Wf → Rep X2 t d false ci σ₂.hp → Fr' (Fp X t d) hp (Fp X t d) σ₂.hp → (X.setLss (q ++ [c]) s).Step X2 → X2.AD s → (∀ x ∈ X.D, s.length < x.length → (X.setLss (q ++ [c]) s).Stay X2 x) → (∀ x ∈ X.D, x ≠ q ++ [c] → X.lss x ≠ none → σ₂.hp (X.T x) = hp (X.T x)) →
        σ₂.v "state" = some (.ref (X.A (q ++ [c]))) → σ₂.v "suffix" = some (.ref (X.A s)) →
        Exs C (A.deeper (callEnv (r₀.fd lssP .none) L 122)) NoE (callEnv (r₀.fd lssP .none) L 122) (lssP.body.drop 7) σ₂ (fun fl σ' => match fl with | .ret v => v = .none ∧ LssPost X (q ++ [c]) t d ci hp σ'.hp | .next => True ∧ LssPost X (q ++ [c]) t d ci hp σ'.hp | _ => False) := by
      intro σ₂ X2 hs0 hw2 hr2 hfr2 st2 ad2 lo2 kt2 k2 k3
      have hD2 : X2.D = X.D := st2.same.D
      have hA2 : X2.A = X.A := st2.same.A
      have hfp : Fp X2 t d = Fp X t d := st2.same.fp t d
      have hsp : q ++ [c] ≠ s := fun e => by rw [← e] at hslt; omega
      refine Exs_cons (Tr.mono (lss_merge T (by exact hA) hw2 hr2 (hD2 ▸ hpD) (hD2 ▸ hsD) hsp (by rw [hD2]; exact hz) rfl (by rw [hA2]; exact k2) (by rw [hA2]; exact k3)) ?_)
      (rintro f σ₃; intro zr; obtain ⟨rfl, m, hw3, hr3, hfr3, hm⟩ := zr)
      refine Exs_nil ⟨trivial, X2.setTr (q ++ [c]) m, hw3, hr3, hfr2.trans (hfr3.wide (fun a e => .inr (.inr ⟨q ++ [c], hpD, .inr (by rw [e, st2.same.T]; rfl)⟩))), ?_⟩
      have same3 : X2.Same (X2.setTr (q ++ [c]) m) := ⟨rfl, rfl, rfl, rfl, rfl⟩
      have stay3 : ∀ x, x ≠ q ++ [c] → X2.Stay (X2.setTr (q ++ [c]) m) x := fun x hx => ⟨rfl, if_neg hx⟩
      have hstp := lo2 _ hpD hslt
      have dn3 : (X2.setTr (q ++ [c]) m).DN (q ++ [c]) := by
        refine ⟨?_, fun c' => ?_⟩
        · show X2.lss (q ++ [c]) = some (sfx X2.D (q ++ [c]))
          rw [hstp.1, hlp, hD2, hs]
        · show lookT (if q ++ [c] = q ++ [c] then m else X2.tr (q ++ [c])) c' = full X2.D (q ++ [c]) c'
          rw [if_pos rfl, hm c', hD2]
          have e1 : X2.look (q ++ [c]) c' = X.look (q ++ [c]) c' := by simp only [Trie.look, hstp.2]; rfl
          have e2 : X2.look s c' = full X.D s c' := by rw [(ad2 s (List.suffix_refl s) (hD2 ▸ hsD)).2 c', hD2]
          rw [e1, e2]
          have hfu := hfull c'
          rw [if_neg hs0] at hfu
          rcases hcur with u | u
          · rw [u.2 c', hfu]
          · rw [u.2 c']
            cases hx : full X.D (q ++ [c]) c' with
            | some zu => rfl
            | none =>
              rw [hx] at hfu
              cases hk : kidA X.D (q ++ [c]) c' with
              | some zu => rw [hk] at hfu; exact sn_ne hfu
              | none => rw [hk] at hfu; simpa using hfu
      have ad3 : (X2.setTr (q ++ [c]) m).AD (q ++ [c]) := by
        intro r hrs hrD
        by_cases e : r = q ++ [c]
        · subst e; exact dn3
        · have hrD' : r ∈ X.D := hD2 ▸ hrD
          have h2 := sfx_max hrD' hrs e
          rw [hs] at h2
          exact (stay3 r e).dn same3 (ad2 r h2 hrD)
      refine ⟨⟨same1.trans (st2.same.trans same3), fun x hx => ?_⟩, ad3, fun x hx hl => ?_, fun x hx hxp hxl => ?_⟩
      · by_cases e : x = q ++ [c]
        · subst e; exact .inr ad3
        · rcases st2.all x hx with a | a
          · exact .inl ⟨(a.1.trans (stay1 x e).1), (stay3 x e).2.trans (a.2.trans (stay1 x e).2)⟩
          · by_cases hl : x.length ≤ s.length
            · refine .inr (fun r hrs hrD => ?_)
              refine (stay3 r ?_).dn same3 (a r hrs hrD)
              rintro rfl
              have := hrs.length_le
              omega
            · have a := lo2 x hx (by omega)
              exact .inl ⟨(a.1.trans (stay1 x e).1), (stay3 x e).2.trans (a.2.trans (stay1 x e).2)⟩
      · have e : x ≠ q ++ [c] := by rintro rfl; omega
        have a := lo2 x hx (by with_reducible exact oa_lt ‹_› ‹_›)
        exact ⟨(a.1.trans (stay1 x e).1), (stay3 x e).2.trans (a.2.trans (stay1 x e).2)⟩
      · rw [← kt2 x hx hxp hxl]
        have hT2 : X2.T = X.T := st2.same.T
        obtain ⟨ep, hx2⟩ := hr2.td x (hD2 ▸ hx)
        rw [hT2] at hx2
        refine hfr3.keep _ (by rw [hx2]; simp) (fun e => hxp (hw2.ti x (hD2 ▸ hx) _ (hD2 ▸ hpD) ?_))
        rw [← e, hT2]
    refine Exs_cons (Ex_If (Et_Cmp (Ev_Name lk_eq (Ev_Name (lk_ne m3) (n_is (X := X.setLss (q ++ [c]) s) hr1 hsD hw.root ⟨_, rfl, ?_⟩)))))
    by_cases hs0 : s = []
    · subst hs0
      simp only [decide_true, if_true]
      refine Exs_cons (Ex_Return_none ⟨rfl, X.setLss (q ++ [c]) [], hw1, hr1, hfr1, ?_⟩)
      have dn1 : (X.setLss (q ++ [c]) []).DN (q ++ [c]) := by
        refine ⟨hlp.trans (congrArg some hs.symm), fun c' => ?_⟩
        show X.look (q ++ [c]) c' = full X.D (q ++ [c]) c'
        have hfu := hfull c'
        rw [if_pos rfl] at hfu
        rcases hcur with u | u
        · rw [u.2 c', ← hfu]; simp
        · exact u.2 c'
      have ad1 : (X.setLss (q ++ [c]) []).AD (q ++ [c]) := by
        intro r hrs hrD
        by_cases e : r = q ++ [c]
        · subst e; exact dn1
        · have h2 := sfx_max hrD hrs e
          rw [show sfx (X.setLss (q ++ [c]) []).D (q ++ [c]) = [] from hs] at h2
          simp at h2; subst h2
          exact (stay1 [] e).dn same1 (had [] List.nil_suffix hw.root)
      refine ⟨⟨same1, fun x hx => ?_⟩, ad1, fun x hx hl => stay1 x (by rintro rfl; omega), fun x hx zu zu => hT1 x hx⟩
      by_cases e : x = q ++ [c]
      · subst e; exact .inr ad1
      · exact .inl (stay1 x e)
    · simp only [hs0, decide_false]
      refine Exs_nil ?_
      have hsx : s <:+ q ++ [c] := hs ▸ sfx_suffix
      obtain ⟨q', hq', hq'q⟩ := suffix_snoc hsx hs0
      have hnp : s ≠ q ++ [c] := by rintro rfl; omega
      have stay1' : ∀ x, x.length ≤ s.length → X.Stay (X.setLss (q ++ [c]) s) x := fun x hx => stay1 x (by rintro rfl; omega)
      have ad1 : ∀ x, x.length ≤ s.length → X.AD x → (X.setLss (q ++ [c]) s).AD x := fun x hx h r hrs hrD => by
        have := hrs.length_le
        exact (stay1' r (by with_reducible exact oa_trans ‹_› ‹_›)).dn same1 (h r hrs hrD)
      refine Exs_cons (Ex_If (Et_Cmp (Ev_Attr (Ev_Name lk_eq (ng_lss (X := X.setLss (q ++ [c]) s) T hr1 hsD (Ev_none ?_))))))
      rcases hsh s hsD hslt with u | u
      · have e : (X.setLss (q ++ [c]) s).lssv s = .none := by
          have : (X.setLss (q ++ [c]) s).lss s = none := (stay1 s hnp).1.trans u.1
          simp only [Trie.lssv, this]
        rw [e]
        refine is_none_none ⟨_, rfl, ?_⟩
        simp only [if_true]
        refine Exs_cons (Ex_Expr (Ev_Meth (Ev_Name (lk_ne m1) (MethA_own T.m_lss hr1.tree hr1.ns rfl (EvL_e (Ev_Name lk_eq (EvL_0 (EvA_0 (CallA_fn hf (Fn.mono (Q := fun v hp' => v = .none ∧ LssPost (X.setLss (q ++ [c]) s) s t d ci σ₁.hp hp') ?_ ?_))))))))))
        · have hlen : q'.length < s.length := by rw [hq']; simp
          have := ih (A.deeper (callEnv (r₀.fd lssP .none) L 122)) (X.setLss (q ++ [c]) s) t d ci σ₁.hp q' c (by rw [← hq']; omega) hA (by show A.depth + 1 + n < recursionLimit; omega) hw1 hr1 (by rw [← hq']; exact hsD)
            (ad1 q' (by with_reducible exact ou_le ‹_›) (fun r hrs hrD => had r (hrs.trans hq'q) hrD))
            (fun x hx hl => by
              rw [← hq'] at hl
              rcases hsh x hx (by with_reducible exact oa_lt ‹_› ‹_›) with v | v
              · exact .inl ((stay1' x (by with_reducible exact ou_le ‹_›)).ud same1 v)
              · exact .inr (ad1 x (by with_reducible exact ou_le ‹_›) v))
            (by rw [← hq']; exact .inl ((stay1 s hnp).ud same1 u)) hz
          rw [← hq'] at this
          exact this
        · (rintro v hp'; intro zr; obtain ⟨zu, X2, hw2, hr2, hfr2, st2, ad2, lo2, kt2⟩ := zr)
          refine Exs_nil ?_
          show Exs C _ NoE _ (lssP.body.drop 7) _ _
          refine rest _ X2 hs0 hw2 ?_ ?_ st2 ad2 lo2 ?_ ?_ ?_
          · exact hr2
          · exact hfr1.trans hfr2
          · intro x hx hxp hxl
            rw [← hT1 x hx]
            exact kt2 x hx (by rintro rfl; exact hxl u.1) (by rw [(stay1 x hxp).1]; exact hxl)
          · exact lk_ne m2
          · exact lk_eq
      · have e : (X.setLss (q ++ [c]) s).lssv s = .ref (X.A (sfx X.D s)) := by
          have : (X.setLss (q ++ [c]) s).lss s = some (sfx X.D s) := (stay1 s hnp).1.trans (u s (List.suffix_refl s) hsD).1
          simp only [Trie.lssv, this]; rfl
        rw [e]
        refine is_none ⟨_, rfl⟩ ⟨_, rfl, ?_⟩
        refine Exs_nil ?_
        show Exs C _ NoE _ (lssP.body.drop 7) _ _
        refine rest _ _ hs0 hw1 ?_ ?_ (.refl _) (ad1 s (Nat.le_refl _) u) (fun zu zu zu => ⟨rfl, rfl⟩) ?_ ?_ ?_
        · exact hr1
        · exact hfr1
        · exact fun x hx zu zu => hT1 x hx
        · exact lk_ne m2
        · exact lk_eq
end
section
noncomputable def Ch (D : List Path) (x y : Path) : Prop := ∃ c, full D x c = some y
structure Dfs (D st pl : List Path) (x : Path) (ys : List Path) : Prop where
  sD : ∀ z ∈ st, z ∈ D
  pD : ∀ z ∈ pl, z ∈ D
  pn : pl.Nodup
  rt : [] ∈ pl ∨ [] ∈ st
  cl : ∀ z ∈ pl, ∀ y, Ch D z y → y ∈ pl ∨ y ∈ st ∨ (z = x ∧ y ∈ ys)
  tp : ∀ l z r, st = l ++ z :: r → z ∈ pl → ∀ y, Ch D z y → y ∈ pl ∨ y ∈ r ∨ (z = x ∧ y ∈ ys)
noncomputable def ins (pl : List Path) (x : Path) : List Path := if x ∈ pl then pl else pl ++ [x]
theorem mem_ins {pl : List Path} {x z : Path} : z ∈ ins pl x ↔ z ∈ pl ∨ z = x := by
  simp only [ins]; split
  · rename_i h
    constructor
    · exact .inl
    · rintro (q | rfl)
      · exact q
      · exact h
  · simp
variable {D st pl : List Path} {x : Path} {ys : List Path}
theorem Dfs.init (h : [] ∈ D) (x : Path) : Dfs D [[]] [] x [] := ⟨by simpa using h, by simp, List.nodup_nil, .inr (by simp), by simp, by simp⟩
theorem Dfs.pop {x₀ : Path} (h : Dfs D (st ++ [x]) pl x₀ []) (hy : ∀ y, Ch D x y → y ∈ ys) : Dfs D st (ins pl x) x ys where
  sD := fun z hz => h.sD z (List.mem_append_left _ hz)
  pD := fun z hz => by
    rcases mem_ins.mp hz with q | rfl
    · exact h.pD z q
    · exact h.sD z (by simp)
  pn := by
    simp only [ins]; split
    · exact h.pn
    · rename_i hn
      refine List.nodup_append.mpr ⟨h.pn, by simp, ?_⟩
      intro a ha b hb e
      simp at hb; subst hb; subst e; exact hn ha
  rt := by
    rcases h.rt with q | q
    · exact .inl (mem_ins.mpr (.inl q))
    · rcases List.mem_append.mp q with q | q
      · exact .inr q
      · simp at q; exact .inl (mem_ins.mpr (.inr q.symm))
  cl := fun z hz y hc => by
    rcases mem_ins.mp hz with q | rfl
    · rcases h.cl z q y hc with a | a | a
      · exact .inl (mem_ins.mpr (.inl a))
      · rcases List.mem_append.mp a with a | a
        · exact .inr (.inl a)
        · simp at a; exact .inl (mem_ins.mpr (.inr a))
      · simp at a
    · exact .inr (.inr ⟨rfl, hy y hc⟩)
  tp := fun l z r e hz y hc => by
    rcases mem_ins.mp hz with q | rfl
    · rcases h.tp l z (r ++ [x]) (by rw [e]; simp) q y hc with a | a | a
      · exact .inl (mem_ins.mpr (.inl a))
      · rcases List.mem_append.mp a with a | a
        · exact .inr (.inl a)
        · simp at a; exact .inl (mem_ins.mpr (.inr a))
      · simp at a
    · exact .inr (.inr ⟨rfl, hy y hc⟩)
theorem Dfs.known {x₀ : Path} (h : Dfs D (st ++ [x]) pl x₀ []) (hx : x ∈ pl) : ∀ y, Ch D x y → y ∈ pl := fun y hc => by
  rcases h.tp st x [] rfl hx y hc with a | a | a
  · exact a
  · simp at a
  · simp at a
theorem Dfs.skip {y : Path} (h : Dfs D st pl x (y :: ys)) (hy : y ∈ pl) : Dfs D st pl x ys where
  sD := h.sD
  pD := h.pD
  pn := h.pn
  rt := h.rt
  cl := fun z hz y' hc => by
    rcases h.cl z hz y' hc with a | a | ⟨a, b⟩
    · exact .inl a
    · exact .inr (.inl a)
    · rcases List.mem_cons.mp b with rfl | b
      · exact .inl hy
      · exact .inr (.inr ⟨a, b⟩)
  tp := fun l z r e hz y' hc => by
    rcases h.tp l z r e hz y' hc with a | a | ⟨a, b⟩
    · exact .inl a
    · exact .inr (.inl a)
    · rcases List.mem_cons.mp b with rfl | b
      · exact .inl hy
      · exact .inr (.inr ⟨a, b⟩)
theorem Dfs.push {y : Path} (h : Dfs D st pl x (y :: ys)) (hy : y ∉ pl) (hD : y ∈ D) : Dfs D (st ++ [y]) pl x ys where
  sD := fun z hz => by
    rcases List.mem_append.mp hz with q | q
    · exact h.sD z q
    · simp at q; subst q; exact hD
  pD := h.pD
  pn := h.pn
  rt := h.rt.imp_right (List.mem_append_left _)
  cl := fun z hz y' hc => by
    rcases h.cl z hz y' hc with a | a | ⟨a, b⟩
    · exact .inl a
    · exact .inr (.inl (List.mem_append_left _ a))
    · rcases List.mem_cons.mp b with rfl | b
      · exact .inr (.inl (by simp))
      · exact .inr (.inr ⟨a, b⟩)
  tp := fun l z r e hz y' hc => by
    rcases List.eq_nil_or_concat r with rfl | ⟨r', w, rfl⟩
    · have := List.append_inj' (s₁ := st) (t₁ := [y]) (s₂ := l) (t₂ := [z]) e rfl
      simp at this
      exact absurd (this.2 ▸ hz) hy
    · rw [List.concat_eq_append] at e ⊢
      have e' : st ++ [y] = (l ++ z :: r') ++ [w] := by rw [e]; simp
      obtain ⟨e1, e2⟩ := List.append_inj' e' rfl
      simp at e2; subst e2
      rcases h.tp l z r' e1 hz y' hc with a | a | ⟨a, b⟩
      · exact .inl a
      · exact .inr (.inl (List.mem_append_left _ a))
      · rcases List.mem_cons.mp b with rfl | b
        · exact .inr (.inl (by simp))
        · exact .inr (.inr ⟨a, b⟩)
theorem Ch.kid {q : Path} {c : Sym} (h : q ++ [c] ∈ D) : Ch D q (q ++ [c]) := by
  refine ⟨c, ?_⟩
  cases q with
  | nil => simp only [full, kidA, if_true]; rw [if_pos h]
  | cons a q =>
    simp only [full, fullN]; rw [if_neg (by simp), if_pos h]
theorem Dfs.all (h : Dfs D [] pl x []) (hc : PC D) : ∀ p ∈ D, p ∈ pl := by
  intro p
  have : ∀ n (p : Path), p.length = n → p ∈ D → p ∈ pl := by
    intro n
    induction n with
    | zero =>
      intro p hn hp
      have : p = [] := List.length_eq_zero_iff.mp hn
      subst this
      exact h.rt.resolve_right (by simp)
    | succ n ih =>
      intro p hn hp
      rcases List.eq_nil_or_concat p with rfl | ⟨q, c, rfl⟩
      · cases hn
      · rw [List.concat_eq_append] at hn hp ⊢
        have hq := ih q (by simpa using hn) (hc.closed q c hp)
        rcases h.cl q hq _ (Ch.kid hp) with a | a | a
        · exact a
        · simp at a
        · simp at a
  exact this p.length p rfl
noncomputable def Marks (D pl : List Path) (S : Int → Bool) : Prop := ∀ p ∈ D, S (D.idxOf p) = true ↔ p ∈ pl
theorem Marks.add {S : Int → Bool} (h : Marks D pl S) (hx : x ∈ D) : Marks D (ins pl x) (fun j => S j || decide (j = (D.idxOf x : Int))) := by
  intro p hp
  rw [mem_ins, Bool.or_eq_true, h p hp, decide_eq_true_iff]
  constructor
  · exact Or.imp_right (fun e => idx_inj hp (by omega))
  · exact Or.imp_right (fun e => by rw [e])
theorem ins_len (pl : List Path) (x : Path) {S : Int → Bool} (h : Marks D pl S) (hx : x ∈ D) : (if S (D.idxOf x) then pl.length else pl.length + 1) = (ins pl x).length := by
  by_cases e : x ∈ pl
  · rw [if_pos ((h x hx).mpr e)]; simp [ins, e]
  · rw [if_neg (fun q => e ((h x hx).mp q))]; simp [ins, e]
theorem dfs_measure {N a b c c' : Nat} (h1 : a + 1 ≤ N) (h2 : c' ≤ c + N) : (N - (a + 1)) * (N + 1) + c' < (N - a) * (N + 1) + (c + 1) := by
  obtain ⟨k, rfl⟩ : ∃ k, N = a + 1 + k := ⟨N - (a + 1), by omega⟩
  have e1 : a + 1 + k - (a + 1) = k := by omega
  have e2 : a + 1 + k - a = k + 1 := by omega
  rw [e1, e2, Nat.succ_mul]; omega
theorem Fr'.upd0 {P : Addr → Prop} {h h' : HP} {a : Addr} (x : AO) (f : Fr' P h P h') (ha : h a = none) : Fr' P h P (AC.upd h' a x) :=
  ⟨fun b hb nb => (upd_ne _ _ (by rintro rfl; exact hb ha)).trans (f.keep b hb nb), fun zu q => .inl q⟩
theorem Rep.updOff {X : Trie} {t d : Addr} {fin ci : Bool} {hp : HP} (hr : Rep X t d fin ci hp) {a : Addr} {x : AO} (ha : ¬ Fp X t d a) : Rep X t d fin ci (AC.upd hp a x) :=
  hr.off (fun b hb => upd_ne _ _ (by rintro rfl; exact ha hb))
end
section
variable {C : Cf} {A : Around} {E : Value → Shared → Prop} {env : Env} {σ : ASt}
theorem HPne {hp : HP} {a b : Addr} {x : AO} (h1 : hp a = some x) (h2 : hp b = none) : a ≠ b := by rintro rfl; rw [h1] at h2; exact sn_ne h2
theorem AD_of {X : Trie} {p q : Path} (h : X.AD p) (hs : q <:+ p) : X.AD q := fun r hr hD => h r (hr.trans hs) hD
structure KidsI (X : Trie) (t d : Addr) (ci : Bool) (hp : HP) (pa wa : Addr) (st pl : List Path) (x : Path) (ys : List Path) (X' : Trie) (σ : ASt) : Prop where
  wf : X'.Wf
  rep : Rep X' t d false ci σ.hp
  fr : Fr' (Fp X t d) hp (Fp X t d) σ.hp
  step : X.Step X'
  all : ∀ p ∈ X'.D, X'.UD p ∨ X'.AD p
  sad : ∀ p ∈ st, X'.AD p
  pad : ∀ p ∈ pl, X'.AD p
  dfs : Dfs X'.D st pl x ys
  set : ∃ S, σ.hp pa = some (.iset S pl.length) ∧ Marks X'.D pl S
  stk : σ.hp wa = some (.list (st.map fun p => .ref (X'.A p)))
  l1 : σ.v "self" = some (.ref t)
  l2 : σ.v "processed" = some (.ref pa)
  l3 : σ.v "to_process" = some (.ref wa)
theorem kids_fn (T : Tp C) {X : Trie} {t d : Addr} {ci : Bool} {hp : HP} {N : Nat} (hA : A.handled = none) (hroom : A.depth + N + 2 < recursionLimit) (hw : X.Wf) (hr : Rep X t d false ci hp) (had : X.AD []) (hall : ∀ p ∈ X.D, X.UD p ∨ X.AD p)
    (hz : X.D.length ≤ 300) (hN : ∀ p ∈ X.D, p.length ≤ N) :
    Fn C A (.ref 115) [.ref t, .ref (X.A [])] [] hp (fun v hp' => v = .none ∧ ∃ X', X'.Wf ∧ Rep X' t d false ci hp' ∧ Fr' (Fp X t d) hp (Fp X t d) hp' ∧ X.Step X' ∧ ∀ p ∈ X.D, X'.DN p) := by
  obtain ⟨r₀, hf⟩ := T.f_kids
  obtain ⟨r₁, hfl⟩ := T.f_lss
  refine Fn_def (body := kidsP.body) hf (binds_kids C r₀ _ _) (fun L => ?_) (by omega) (by kernel_rfl) (by kernel_rfl) (by kernel_rfl) (by kernel_rfl) (by kernel_rfl)
  refine Tr.gen fun K0 hK0 => ?_
  refine Exs_cons (Ex_Assign_Name (Ev_Call (Ev_GVal T.g_set (EvL_0 (EvA_0 (set_new (fun pa hpa => ?_)))))))
  refine Exs_cons (Ex_Assign_Name (Ev_List (EvL_e (Ev_Name rfl (EvL_0 ⟨by simp, fun wa hwa => ?_⟩)))))
  have hwp : wa ≠ pa := by rintro rfl; simp at hwa
  have hwa0 : hp wa = none := by simpa [upd, hwp] using hwa
  have hpa0 : hp pa = none := hpa
  have npa : ¬ Fp X t d pa := fun h => hr.some h hpa0
  have nwa : ¬ Fp X t d wa := fun h => hr.some h hwa0
  refine Exs_cons (Ex_While (fun m σ' => ∃ st pl X', m = (X.D.length - pl.length) * (X.D.length + 1) + st.length ∧ st.length ≤ pl.length * X.D.length + 1 ∧ KidsI X t d ci hp pa wa st pl [] [] X' σ') ?_ ((X.D.length - 0) * (X.D.length + 1) + 1) ?_)
  · (rintro m σ'; intro zr; obtain ⟨st, pl, X', rfl, hlen0, I⟩ := zr)
    have hD' : X'.D = X.D := I.step.same.D
    have hfp : Fp X' t d = Fp X t d := I.step.same.fp t d
    have hpc : PC X'.D := I.wf.pc
    rw [← hD'] at hz hN hlen0 ⊢
    have hplD : pl.length ≤ X'.D.length := nodup_len I.dfs.pn I.dfs.pD
    have hlen : (st.map fun p => AV.ref (X'.A p)).length ≤ 100000 := by
      have h2 : pl.length * X'.D.length ≤ 300 * 300 := Nat.mul_le_mul (by with_reducible exact oa_trans ‹_› ‹_›) hz
      simp; omega
    refine Et_plain (Ev_Name I.l3 (truthy_list I.stk hlen ?_))
    rcases List.eq_nil_or_concat st with rfl | ⟨st, x, rfl⟩
    · simp only [List.map_nil, List.isEmpty_nil, Bool.not_true]
      exact Exs_nil (hK0 _ _ ⟨rfl, X', I.wf, I.rep, I.fr, I.step, fun p hp => I.pad p (I.dfs.all hpc p (hD'.symm ▸ hp)) p (List.suffix_refl p) (hD'.symm ▸ hp)⟩)
    · rw [List.concat_eq_append] at *
      simp only [List.map_append, List.map_cons, List.map_nil] at hlen ⊢
      have hne : (!(st.map (fun p => AV.ref (X'.A p)) ++ [AV.ref (X'.A x)]).isEmpty) = true := by simp
      rw [hne]
      refine Tr.gen fun K1 hK1 => ?_
      have hstk := I.stk
      simp only [List.map_append, List.map_cons, List.map_nil] at hstk
      have hxD : x ∈ X'.D := I.dfs.sD x (by simp)
      have hx : X'.AD x := I.sad x (by simp)
      have hxn : X'.DN x := hx x (List.suffix_refl x) hxD
      obtain ⟨S, hS, hM⟩ := I.set
      refine Exs_cons (Ex_Assign_Name (Ev_Meth (Ev_Name I.l3 (m_pop hstk (EvL_0 (EvA_0 (list_pop hstk (by simp at hlen ⊢; with_reducible exact od_le ‹_› (by decide)) ?_)))))))
      have hr1 : Rep X' t d false ci (upd σ'.hp wa (.list (st.map fun p => .ref (X'.A p)))) := I.rep.updOff (by rw [hfp]; exact nwa)
      refine Exs_cons (Ex_Expr (Ev_Meth (Ev_Name (lk_ne I.l2) (m_sadd ((upd_ne _ _ hwp.symm).trans hS) (EvL_e (Ev_Attr (Ev_Name lk_eq (ng_id (X := X') T hr1 hxD (EvL_0 (EvA_0 (set_add ((upd_ne _ _ hwp.symm).trans hS) (by omega) ?_)))))))))))
      have hr2 : Rep X' t d false ci (upd (upd σ'.hp wa (.list (st.map fun p => .ref (X'.A p)))) pa (.iset (fun j => S j || decide (j = (X'.D.idxOf x : Int))) (if S (X'.D.idxOf x) then pl.length else pl.length + 1))) := hr1.updOff (by rw [hfp]; exact npa)
      obtain ⟨ep, htd⟩ := hr2.td x hxD
      have hkeep : ∀ a, Fp X' t d a → a ≠ wa ∧ a ≠ pa := fun a ha => ⟨by rintro rfl; exact nwa (hfp ▸ ha), by rintro rfl; exact npa (hfp ▸ ha)⟩
      have htx : Fp X' t d (X'.T x) := .inr (.inr ⟨x, hxD, .inr rfl⟩)
      refine Exs_cons (Ex_For (fun zu zu hp => hp (X'.T x) = some (.dict (X'.trv x) ep))
        (fun zu zu xs σ'' => ∃ st' ys X'', xs = ys.map (fun y => AV.ref (X'.A y)) ∧ X'.Step X'' ∧ KidsI X t d ci hp pa wa st' (ins pl x) x ys X'' σ'' ∧ (∀ y ∈ ys, Ch X'.D x y) ∧ (x ∈ pl → st' = st) ∧ st'.length + ys.length ≤ st.length + X'.D.length ∧ σ''.hp (X'.T x) = some (.dict (X'.trv x) ep))
        (Ev_Meth (Ev_Attr (Ev_Name lk_eq (ng_tr (X := X') T hr2 hxD (m_values htd (EvL_0 (EvA_0 (dict_values T.sysm htd (fun v hv => ⟨_, iter_values quiet_Name hA (upd_self _ _ _) ?_, ?_⟩))))))))) ?_ ?_ ?_)
      · exact (upd_ne _ _ (HPne htd hv)).trans htd
      · have hvw : v ≠ wa := by rintro rfl; simp [upd, hwp] at hv
        have hvp : v ≠ pa := by rintro rfl; simp [upd] at hv
        have hv0 : σ'.hp v = none := by simpa [upd, hvw, hvp] using hv
        have hvh : hp v = none := by
          cases e : hp v with
          | none => rfl
          | some o =>
            have nf : ¬ Fp X t d v := fun q => I.rep.some (hfp ▸ q) hv0
            rw [I.fr.keep v (by rw [e]; simp) nf, e] at hv0; exact sn_ne hv0
        refine ⟨st, (X'.tr x).map (·.2), X', by simp [Trie.trv], .refl X', ⟨I.wf, hr2.new hv, ((I.fr.upd0 _ hwa0).upd0 _ hpa0).upd0 _ hvh, I.step, I.all, fun p hp => I.sad p (by simp [hp]), fun p hp => ?_, I.dfs.pop (fun y hc => ?_), ?_, ?_, lk_ne I.l1, lk_ne I.l2, lk_ne I.l3⟩, ?_, fun zu => rfl, ?_, ?_⟩
        · rcases mem_ins.mp hp with q | rfl
          · exact I.pad p q
          · exact hx
        · obtain ⟨c, hc⟩ := hc
          rw [← hxn.2 c] at hc
          exact List.mem_map.mpr ⟨(c, y), lookT_mem hc, rfl⟩
        · refine ⟨_, ?_, hM.add hxD⟩
          rw [← ins_len pl x hM hxD]
          exact (upd_ne _ _ hvp.symm).trans (upd_self _ _ _)
        · exact (upd_ne _ _ hvw.symm).trans ((upd_ne _ _ hwp).trans (upd_self _ _ _))
        · intro y hy
          obtain ⟨e, he, rfl⟩ := List.mem_map.mp hy
          exact ⟨e.1, by rw [← hxn.2 e.1]; exact lookT_of (I.wf.trN x hxD) he⟩
        · have := I.wf.trlen hxD
          simp; assumption
        · exact (upd_ne _ _ (HPne htd hv)).trans htd
      · (rintro zu zu xs σ''; intro zr; obtain ⟨zu, zu, zu, zu, zu, zu, zu, zu, zu, h⟩ := zr)
        exact h
      · (rintro zu zu z xs σ''; intro zr; obtain ⟨st', ys, X'', e1, hst, J, hch, hnp, hln, htk⟩ := zr)
        obtain ⟨y, ys, rfl, rfl, rfl⟩ : ∃ y ys', ys = y :: ys' ∧ z = .ref (X'.A y) ∧ xs = ys'.map (fun y => AV.ref (X'.A y)) := by
          cases ys with
          | nil => cases e1
          | cons y ys' => simp only [List.map_cons, List.cons.injEq] at e1; exact ⟨y, ys', rfl, e1.1, e1.2⟩
        have hD2 : X''.D = X'.D := hst.same.D
        have hA2 : X''.A = X'.A := hst.same.A
        have hT2 : X''.T = X'.T := hst.same.T
        have hfp2 : Fp X'' t d = Fp X t d := (hst.same.fp t d).trans hfp
        obtain ⟨c, hc⟩ := hch y (by simp)
        obtain ⟨hyD, r', rfl, hr'x⟩ := full_some hc
        rw [← hA2]
        rw [← hD2] at hyD
        obtain ⟨S2, hS2, hM2⟩ := J.set
        refine Asg_Name ?_
        refine Tr.gen fun K2 hK2 => ?_
        refine Exs_cons (Ex_If (Et_Cmp (Ev_Attr (Ev_Name lk_eq (ng_id (X := X'') T J.rep hyD (Ev_Name (lk_ne J.l2) (notIn_Op (set_in hS2 ⟨_, rfl, _, rfl, ?_⟩))))))))
        have hlen2 : (st'.map fun p => AV.ref (X''.A p)).length ≤ 100000 := by
          have h2 : pl.length * X'.D.length ≤ 300 * 300 := Nat.mul_le_mul (by with_reducible exact oa_trans ‹_› ‹_›) hz
          simp at hlen0 hln ⊢; omega
        by_cases hy : r' ++ [c] ∈ ins pl x
        · rw [(hM2 _ hyD).mpr hy]
          simp only [Bool.not_true]
          exact Exs_nil (Exs_nil (hK2 _ _ ⟨st', ys, X'', by rw [hA2], hst, ⟨J.wf, J.rep, J.fr, J.step, J.all, J.sad, J.pad, J.dfs.skip hy, ⟨S2, hS2, hM2⟩, J.stk, lk_ne J.l1, lk_ne J.l2, lk_ne J.l3⟩, fun y' hy' => hch y' (by simp [hy']), hnp, by simp at hln; omega, htk⟩))
        · have hSf : S2 (X''.D.idxOf (r' ++ [c])) = false := by
            cases e : S2 (X''.D.idxOf (r' ++ [c])) with
            | false => rfl
            | true => exact absurd ((hM2 _ hyD).mp e) hy
          rw [hSf]
          simp only [Bool.not_false, if_true]
          have hxJ : X''.AD x := J.pad x (mem_ins.mpr (.inr rfl))
          have hxD2 : x ∈ X''.D := hD2 ▸ hxD
          have hcur : X''.UD (r' ++ [c]) ∨ X''.DN (r' ++ [c]) := (J.all _ hyD).imp_right (fun a => a _ (List.suffix_refl _) hyD)
          refine Exs_cons (Ex_Expr (Ev_Meth (Ev_Name (lk_ne J.l1) (MethA_own T.m_lss J.rep.tree J.rep.ns rfl (EvL_e (Ev_Name lk_eq (EvL_0 (EvA_0 (CallA_fn hfl (Fn.mono
            (lss_fn T N (A.deeper (callEnv (r₀.fd kidsP .none) L 115)) X'' t d ci σ''.hp r' c (hN _ (hD2 ▸ hyD)) hA (by show A.depth + 1 + N < recursionLimit; omega) J.wf J.rep hyD (AD_of hxJ hr'x) (fun p hp zu => J.all p hp) hcur (by rw [hD2]; with_reducible exact od_le ‹_› (by decide))) ?_))))))))))
          (rintro v hp3; intro zr; obtain ⟨zu, X3, hw3, hr3, hfr3, st3, ad3, zu, kt3⟩ := zr)
          have hD3 : X3.D = X''.D := st3.same.D
          have hA3 : X3.A = X''.A := st3.same.A
          have hfp3 : Fp X3 t d = Fp X t d := (st3.same.fp t d).trans hfp2
          have hwk : hp3 wa = some (.list (st'.map fun p => .ref (X''.A p))) := (hfr3.keep wa (by rw [J.stk]; simp) (by rw [hfp2]; exact nwa)).trans J.stk
          have hpk : hp3 pa = some (.iset S2 (ins pl x).length) := (hfr3.keep pa (by rw [hS2]; simp) (by rw [hfp2]; exact npa)).trans hS2
          refine Exs_cons (Ex_Expr (Ev_Meth (Ev_Name (lk_ne J.l3) (m_append hwk (EvL_e (Ev_Name lk_eq (EvL_0 (EvA_0 (list_append hwk hlen2 ?_)))))))))
          refine Exs_nil (Exs_nil (hK2 _ _ ⟨st' ++ [r' ++ [c]], ys, X3, by rw [hA2], hst.trans st3, ⟨hw3, Rep.updOff hr3 (by rw [hfp3]; exact nwa), (J.fr.trans (hfp2 ▸ hfr3)).upd0 _ hwa0, J.step.trans st3, ?_, ?_, fun p hp => st3.ad (J.pad p hp), ?_, ?_, ?_, lk_ne J.l1, lk_ne J.l2, lk_ne J.l3⟩, fun y' hy' => hch y' (by simp [hy']), ?_, ?_, ?_⟩))
          · intro p hp
            rw [hD3] at hp
            rcases st3.all p hp with a | a
            · rcases J.all p hp with b | b
              · exact .inl (a.ud st3.same b)
              · exact .inr (st3.ad b)
            · exact .inr a
          · intro p hp
            rcases List.mem_append.mp hp with q | q
            · exact st3.ad (J.sad p q)
            · simp at q; subst q; exact ad3
          · rw [hD3]; exact J.dfs.push hy hyD
          · exact ⟨S2, (upd_ne _ _ hwp.symm).trans hpk, by rw [hD3]; exact hM2⟩
          · rw [hA3]; refine (upd_self _ _ _).trans ?_; simp
          · intro q
            exact absurd (mem_ins.mpr (.inl (I.dfs.known q _ ⟨c, hc⟩))) hy
          · simp at hln ⊢; omega
          · have hxy : x ≠ r' ++ [c] := by rintro rfl; exact hy (mem_ins.mpr (.inr rfl))
            have := kt3 x hxD2 hxy (by rw [(hxJ x (List.suffix_refl x) hxD2).1]; simp)
            rw [hT2] at this
            exact (upd_ne _ _ (hkeep _ htx).1).trans (this.trans htk)
      · (rintro zu zu σ''; intro zr; obtain ⟨st', ys, X'', e1, hst, J, hch, hnp, hln, htk⟩ := zr)
        have : ys = [] := by cases ys with | nil => rfl | cons => cases e1
        subst this
        have hD2 : X''.D = X'.D := hst.same.D
        refine Exs_nil (hK1 _ _ ?_)
        by_cases hxp : x ∈ pl
        · have e := hnp hxp
          subst e
          have hi : ins pl x = pl := by simp [ins, hxp]
          rw [hi] at J
          refine ⟨_, ?_, st', pl, X'', rfl, ?_, ⟨J.wf, J.rep, J.fr, J.step, J.all, J.sad, J.pad, ⟨J.dfs.sD, J.dfs.pD, J.dfs.pn, J.dfs.rt, fun z hz y hc => ?_, fun l z r e hz y hc => ?_⟩, J.set, J.stk, J.l1, J.l2, J.l3⟩⟩
          · simp
          · simp at hlen0; omega
          · rcases J.dfs.cl z hz y hc with a | a | a
            · exact .inl a
            · exact .inr (.inl a)
            · simp at a
          · rcases J.dfs.tp l z r e hz y hc with a | a | a
            · exact .inl a
            · exact .inr (.inl a)
            · simp at a
        · have hi : (ins pl x).length = pl.length + 1 := by simp [ins, hxp]
          have hle : (ins pl x).length ≤ X'.D.length := by rw [← hD2]; exact nodup_len J.dfs.pn J.dfs.pD
          refine ⟨_, ?_, st', ins pl x, X'', rfl, ?_, ⟨J.wf, J.rep, J.fr, J.step, J.all, J.sad, J.pad, ⟨J.dfs.sD, J.dfs.pD, J.dfs.pn, J.dfs.rt, fun z hz y hc => ?_, fun l z r e hz y hc => ?_⟩, J.set, J.stk, J.l1, J.l2, J.l3⟩⟩
          · rw [hi, List.length_append]
            exact dfs_measure (b := 0) (by omega) (by simpa using hln)
          · rw [hi, Nat.succ_mul]
            simp at hln hlen0; omega
          · rcases J.dfs.cl z hz y hc with a | a | a
            · exact .inl a
            · exact .inr (.inl a)
            · simp at a
          · rcases J.dfs.tp l z r e hz y hc with a | a | a
            · exact .inl a
            · exact .inr (.inl a)
            · simp at a
  · refine ⟨[[]], [], X, by simp, by simp, ⟨hw, (hr.new hpa0).updOff nwa, ((Fr'.new _ hpa0).upd0 _ hwa0), .refl X, hall, ?_, by simp, Dfs.init hw.root [], ⟨fun zu => false, (upd_ne _ _ hwp.symm).trans (upd_self _ _ _), fun p zu => by simp⟩, upd_self _ _ _, rfl, rfl, rfl⟩⟩
    intro p hp; simp at hp; subst hp; exact had
end
section
variable {C : Cf} {A : Around} {E : Value → Shared → Prop} {env : Env} {σ : ASt}
noncomputable def outs (key : Path → Option AV) : Path → List AV
  | [] => []
  | c :: p => (match key (c :: p) with | some v => [.tup [v, .int ((c :: p).length : Nat)]] | none => []) ++ outs key p
theorem outs_len (key : Path → Option AV) : ∀ p, (outs key p).length ≤ p.length
  | [] => Nat.le_refl _
  | c :: p => by
    have := outs_len key p
    simp only [outs, List.length_append, List.length_cons]
    split <;> simp <;> omega
theorem outs_suf {D : List Path} {key : Path → Option AV} (hk : ∀ p, p ∉ D → key p = none) : ∀ p, outs key p = outs key (suf D p)
  | [] => rfl
  | c :: p => by
    by_cases h : (c :: p) ∈ D
    · rw [suf_self h]
    · rw [show suf D (c :: p) = suf D p by simp [suf, h], ← outs_suf hk p]
      simp [outs, hk _ h]
theorem outs_step {D : List Path} {key : Path → Option AV} (hk : ∀ p, p ∉ D → key p = none) {p : Path} (hp : p ≠ []) :
    outs key p = (match key p with | some v => [.tup [v, .int (p.length : Nat)]] | none => []) ++ outs key (sfx D p) := by
  cases p with
  | nil => exact absurd rfl hp
  | cons c p => simp only [outs, sfx, List.tail_cons, ← outs_suf hk p]
noncomputable def Trie.wo (X : Trie) (o : Path → Option AV) : Trie := { X with out := o }
theorem Wf_wo {X : Trie} (h : X.Wf) (o : Path → Option AV) : (X.wo o).Wf := ⟨h.root, h.nodup, h.closed, h.ti, h.trD, h.trN, h.trL, h.mkD, h.mkV⟩
noncomputable def KeyL (X : Trie) (t d : Addr) (hp : HP) : Prop := ∀ p v, X.key p = some v → ∃ xs, xs.length = p.length ∧ SeqV v xs hp ∧ ∀ a, v = .ref a → ¬ Fp X t d a
structure PreI (X : Trie) (t d : Addr) (ci : Bool) (hp : HP) (pa wa : Addr) (st pl : List Path) (x : Path) (ys : List Path) (o : Path → Option AV) (σ : ASt) : Prop where
  rep : Rep (X.wo o) t d false ci σ.hp
  fr : Fr' (Fp X t d) hp (Fp X t d) σ.hp
  sad : ∀ p ∈ st, o p = some (.tup (outs X.key p))
  pad : ∀ p ∈ pl, o p = some (.tup (outs X.key p))
  dfs : Dfs X.D st pl x ys
  set : ∃ S, σ.hp pa = some (.iset S pl.length) ∧ Marks X.D pl S
  stk : σ.hp wa = some (.list (st.map fun p => .ref (X.A p)))
  l1 : σ.v "zero_state" = some (.ref (X.A []))
  l2 : σ.v "processed" = some (.ref pa)
  l3 : σ.v "to_process" = some (.ref wa)
theorem pre_fn (T : Tp C) {X : Trie} {t d : Addr} {ci : Bool} {hp : HP} {N : Nat} (hA : A.handled = none) (hroom : A.depth + 2 < recursionLimit) (hw : X.Wf) (hr : Rep X t d false ci hp) (hdn : ∀ p ∈ X.D, X.DN p)
    (hz : X.D.length ≤ 300) (hN : ∀ p ∈ X.D, p.length ≤ 1000) (hk : KeyL X t d hp) :
    Fn C A (.ref 108) [.ref t] [] hp (fun v hp' => v = .none ∧ ∃ o, Rep (X.wo o) t d false ci hp' ∧ Fr' (Fp X t d) hp (Fp X t d) hp' ∧ ∀ p ∈ X.D, o p = some (.tup (outs X.key p))) := by
  obtain ⟨r₀, hf⟩ := T.f_pre
  refine Fn_def (body := preP.body) hf (binds_pre C r₀ _) (fun L => ?_) (by with_reducible exact ou_add ‹_›) (by kernel_rfl) (by kernel_rfl) (by kernel_rfl) (by kernel_rfl) (by kernel_rfl)
  refine Tr.gen fun K0 hK0 => ?_
  refine Exs_cons (Ex_Assign_Name (Ev_Attr (Ev_Name rfl (get_ns T.n_zero hr.tree hr.ns rfl ?_))))
  refine Exs_cons (Ex_Assign_Attr (Ev_Tuple (EvL_0 ⟨by decide, Ev_Name rfl (nset_out T hr hw.root ?_)⟩)))
  have hr0 : Rep (X.wo (fun x => if x = [] then some (.tup []) else X.out x)) t d false ci (upd hp (X.A []) ((X.setOut [] (.tup [])).nodeAO [])) := setOut_rep hr hw.root
  have hf0 : Fr' (Fp X t d) hp (Fp X t d) (upd hp (X.A []) ((X.setOut [] (.tup [])).nodeAO [])) := Fr'.upd _ (.inr (.inr ⟨[], hw.root, .inl rfl⟩))
  generalize hp0e : upd hp (X.A []) ((X.setOut [] (.tup [])).nodeAO []) = hp0 at hr0 hf0
  show Exs C _ NoE _ (preP.body.drop 2) ⟨_, upd hp (X.A []) ((X.setOut [] (.tup [])).nodeAO [])⟩ _
  rw [hp0e]
  refine Exs_cons (Ex_Assign_Name (Ev_Call (Ev_GVal T.g_set (EvL_0 (EvA_0 (set_new (fun pa hpa => ?_)))))))
  refine Exs_cons (Ex_Assign_Name (Ev_List (EvL_e (Ev_Name rfl (EvL_0 ⟨by simp, fun wa hwa => ?_⟩)))))
  have hwp : wa ≠ pa := by rintro rfl; simp at hwa
  have hwa1 : hp0 wa = none := by simpa [upd, hwp] using hwa
  have hpa1 : hp0 pa = none := hpa
  have npa : ¬ Fp X t d pa := fun h => hr0.some h hpa1
  have nwa : ¬ Fp X t d wa := fun h => hr0.some h hwa1
  have hpa0 : hp pa = none := by
    cases e : hp pa with
    | none => rfl
    | some o => rw [hf0.keep pa (by rw [e]; simp) npa, e] at hpa1; exact sn_ne hpa1
  have hwa0 : hp wa = none := by
    cases e : hp wa with
    | none => rfl
    | some o => rw [hf0.keep wa (by rw [e]; simp) nwa, e] at hwa1; exact sn_ne hwa1
  refine Exs_cons (Ex_While (fun m σ' => ∃ st pl o, m = (X.D.length - pl.length) * (X.D.length + 1) + st.length ∧ st.length ≤ pl.length * X.D.length + 1 ∧ PreI X t d ci hp pa wa st pl [] [] o σ') ?_ ((X.D.length - 0) * (X.D.length + 1) + 1) ?_)
  · (rintro m σ'; intro zr; obtain ⟨st, pl, o, rfl, hlen0, I⟩ := zr)
    have hplD : pl.length ≤ X.D.length := nodup_len I.dfs.pn I.dfs.pD
    have hlen : (st.map fun p => AV.ref (X.A p)).length ≤ 100000 := by
      have h2 : pl.length * X.D.length ≤ 300 * 300 := Nat.mul_le_mul (by with_reducible exact oa_trans ‹_› ‹_›) hz
      simp; omega
    refine Et_plain (Ev_Name I.l3 (truthy_list I.stk hlen ?_))
    rcases List.eq_nil_or_concat st with rfl | ⟨st, x, rfl⟩
    · simp only [List.map_nil, List.isEmpty_nil, Bool.not_true]
      exact Exs_nil (hK0 _ _ ⟨rfl, o, I.rep, I.fr, fun p hp => I.pad p (I.dfs.all hw.pc p hp)⟩)
    · rw [List.concat_eq_append] at *
      simp only [List.map_append, List.map_cons, List.map_nil] at hlen ⊢
      have hne : (!(st.map (fun p => AV.ref (X.A p)) ++ [AV.ref (X.A x)]).isEmpty) = true := by simp
      rw [hne]
      refine Tr.gen fun K1 hK1 => ?_
      have hstk := I.stk
      simp only [List.map_append, List.map_cons, List.map_nil] at hstk
      have hxD : x ∈ X.D := I.dfs.sD x (by simp)
      have hxn : X.DN x := hdn x hxD
      obtain ⟨S, hS, hM⟩ := I.set
      refine Exs_cons (Ex_Assign_Name (Ev_Meth (Ev_Name I.l3 (m_pop hstk (EvL_0 (EvA_0 (list_pop hstk (by simp at hlen ⊢; with_reducible exact od_le ‹_› (by decide)) ?_)))))))
      have hr1 : Rep (X.wo o) t d false ci (upd σ'.hp wa (.list (st.map fun p => .ref (X.A p)))) := I.rep.updOff nwa
      refine Exs_cons (Ex_Expr (Ev_Meth (Ev_Name (lk_ne I.l2) (m_sadd ((upd_ne _ _ hwp.symm).trans hS) (EvL_e (Ev_Attr (Ev_Name lk_eq (ng_id (X := X.wo o) T hr1 hxD (EvL_0 (EvA_0 (set_add ((upd_ne _ _ hwp.symm).trans hS) (by omega) ?_)))))))))))
      have hr2 : Rep (X.wo o) t d false ci (upd (upd σ'.hp wa (.list (st.map fun p => .ref (X.A p)))) pa (.iset (fun j => S j || decide (j = (X.D.idxOf x : Int))) (if S (X.D.idxOf x) then pl.length else pl.length + 1))) := hr1.updOff npa
      obtain ⟨ep, htd⟩ := hr2.td x hxD
      have hkeep : ∀ a, Fp X t d a → a ≠ wa ∧ a ≠ pa := fun a ha => ⟨by rintro rfl; exact nwa ha, by rintro rfl; exact npa ha⟩
      have htx : Fp X t d (X.T x) := .inr (.inr ⟨x, hxD, .inr rfl⟩)
      refine Exs_cons (Ex_For (fun zu zu hp => hp (X.T x) = some (.dict (X.trv x) ep))
        (fun zu zu xs σ'' => ∃ st' ys o', xs = ys.map (fun y => AV.ref (X.A y)) ∧ PreI X t d ci hp pa wa st' (ins pl x) x ys o' σ'' ∧ (∀ y ∈ ys, Ch X.D x y) ∧ (x ∈ pl → st' = st) ∧ st'.length + ys.length ≤ st.length + X.D.length ∧ σ''.hp (X.T x) = some (.dict (X.trv x) ep))
        (Ev_Meth (Ev_Attr (Ev_Name lk_eq (ng_tr (X := X.wo o) T hr2 hxD (m_values htd (EvL_0 (EvA_0 (dict_values T.sysm htd (fun v hv => ⟨_, iter_values quiet_Name hA (upd_self _ _ _) ?_, ?_⟩))))))))) ?_ ?_ ?_)
      · exact (upd_ne _ _ (HPne htd hv)).trans htd
      · have hvw : v ≠ wa := by rintro rfl; simp [upd, hwp] at hv
        have hvp : v ≠ pa := by rintro rfl; simp [upd] at hv
        have hv0 : σ'.hp v = none := by simpa [upd, hvw, hvp] using hv
        have hvh : hp v = none := by
          cases e : hp v with
          | none => rfl
          | some ob =>
            have nf : ¬ Fp X t d v := fun q => I.rep.some q hv0
            rw [I.fr.keep v (by rw [e]; simp) nf, e] at hv0; exact sn_ne hv0
        refine ⟨st, (X.tr x).map (·.2), o, by simp [Trie.trv, Trie.wo], ⟨hr2.new hv, ((I.fr.upd0 _ hwa0).upd0 _ hpa0).upd0 _ hvh, fun p hp => I.sad p (by simp [hp]), fun p hp => ?_, I.dfs.pop (fun y hc => ?_), ?_, ?_, lk_ne I.l1, lk_ne I.l2, lk_ne I.l3⟩, ?_, fun zu => rfl, ?_, ?_⟩
        · rcases mem_ins.mp hp with q | rfl
          · exact I.pad p q
          · exact I.sad p (by simp)
        · obtain ⟨c, hc⟩ := hc
          rw [← hxn.2 c] at hc
          exact List.mem_map.mpr ⟨(c, y), lookT_mem hc, rfl⟩
        · refine ⟨_, ?_, hM.add hxD⟩
          rw [← ins_len pl x hM hxD]
          exact (upd_ne _ _ hvp.symm).trans (upd_self _ _ _)
        · exact (upd_ne _ _ hvw.symm).trans ((upd_ne _ _ hwp).trans (upd_self _ _ _))
        · intro y hy
          obtain ⟨e, he, rfl⟩ := List.mem_map.mp hy
          exact ⟨e.1, by rw [← hxn.2 e.1]; exact lookT_of (hw.trN x hxD) he⟩
        · have := hw.trlen hxD
          simp; assumption
        · exact (upd_ne _ _ (HPne htd hv)).trans htd
      · (rintro zu zu xs σ''; intro zr; obtain ⟨zu, zu, zu, zu, zu, zu, zu, zu, h⟩ := zr)
        exact h
      · (rintro zu zu z xs σ''; intro zr; obtain ⟨st', ys, o', e1, J, hch, hnp, hln, htk⟩ := zr)
        obtain ⟨y, ys, rfl, rfl, rfl⟩ : ∃ y ys', ys = y :: ys' ∧ z = .ref (X.A y) ∧ xs = ys'.map (fun y => AV.ref (X.A y)) := by
          cases ys with
          | nil => cases e1
          | cons y ys' => simp only [List.map_cons, List.cons.injEq] at e1; exact ⟨y, ys', rfl, e1.1, e1.2⟩
        obtain ⟨c, hc⟩ := hch y (by simp)
        obtain ⟨hyD, r', hyr, hr'x⟩ := full_some hc
        obtain ⟨S2, hS2, hM2⟩ := J.set
        refine Asg_Name ?_
        refine Tr.gen fun K2 hK2 => ?_
        refine Exs_cons (Ex_If (Et_Cmp (Ev_Attr (Ev_Name lk_eq (ng_id (X := X.wo o') T J.rep hyD (Ev_Name (lk_ne J.l2) (notIn_Op (set_in hS2 ⟨_, rfl, _, rfl, ?_⟩))))))))
        have hlen2 : (st'.map fun p => AV.ref (X.A p)).length ≤ 100000 := by
          have h2 : pl.length * X.D.length ≤ 300 * 300 := Nat.mul_le_mul (by with_reducible exact oa_trans ‹_› ‹_›) hz
          simp at hlen0 hln ⊢; omega
        by_cases hy : y ∈ ins pl x
        · have hSt : S2 ((X.wo o').D.idxOf y) = true := (hM2 _ hyD).mpr hy
          rw [hSt]
          simp only [Bool.not_true]
          exact Exs_nil (Exs_nil (hK2 _ _ ⟨st', ys, o', rfl, ⟨J.rep, J.fr, J.sad, J.pad, J.dfs.skip hy, ⟨S2, hS2, hM2⟩, J.stk, lk_ne J.l1, lk_ne J.l2, lk_ne J.l3⟩, fun y' hy' => hch y' (by simp [hy']), hnp, by simp at hln; omega, htk⟩))
        · have hSf : S2 ((X.wo o').D.idxOf y) = false := by
            cases e : S2 ((X.wo o').D.idxOf y) with
            | false => rfl
            | true => exact absurd ((hM2 _ hyD).mp e) hy
          rw [hSf]
          simp only [Bool.not_false, if_true]
          refine Exs_cons (Ex_Assign_Name (Ev_List (EvL_0 ⟨by decide, fun oa hoa => ?_⟩)))
          have hoa' : σ''.hp oa = none := hoa
          have nof : ¬ Fp X t d oa := fun q => J.rep.some q hoa'
          have hoh : hp oa = none := by
            cases e : hp oa with
            | none => rfl
            | some ob => rw [J.fr.keep oa (by rw [e]; simp) nof, e] at hoa'; exact sn_ne hoa'
          have hop : oa ≠ pa := by rintro rfl; rw [hS2] at hoa'; exact sn_ne hoa'
          have how : oa ≠ wa := by rintro rfl; rw [J.stk] at hoa'; exact sn_ne hoa'
          refine Exs_cons (Ex_Assign_Name (Ev_Name (lk_ne lk_eq) ?_))
          refine Exs_cons (Tr.mono (Ex_While (Q := fun f σ₃ => f = .next ∧ σ₃.hp = upd σ''.hp oa (.list (outs X.key y)) ∧ σ₃.v "zero_state" = some (.ref (X.A [])) ∧ σ₃.v "processed" = some (.ref pa) ∧ σ₃.v "to_process" = some (.ref wa) ∧ σ₃.v "child" = some (.ref (X.A y)) ∧ σ₃.v "outputs" = some (.ref oa))
            (fun n σ₃ => ∃ s acc, s ∈ X.D ∧ n = s.length ∧ outs X.key y = acc ++ outs X.key s ∧ σ₃.hp = upd σ''.hp oa (.list acc) ∧ σ₃.v "zero_state" = some (.ref (X.A [])) ∧ σ₃.v "processed" = some (.ref pa) ∧ σ₃.v "to_process" = some (.ref wa) ∧ σ₃.v "child" = some (.ref (X.A y)) ∧ σ₃.v "outputs" = some (.ref oa) ∧ σ₃.v "suffix" = some (.ref (X.A s))) ?_ y.length ?_) ?_)
          · (rintro n σ₃; intro zr; obtain ⟨s, acc, hsD, rfl, hacc, he, k1, k2, k3, k4, k5, k6⟩ := zr)
            have hr3 : Rep (X.wo o') t d false ci σ₃.hp := he ▸ J.rep.updOff nof
            have hacl : acc.length ≤ 100000 := by
              have h1 := outs_len X.key y
              rw [hacc, List.length_append] at h1
              have := hN y hyD
              omega
            refine Et_Cmp (Ev_Name k6 (Ev_Name k1 (n_isNot (X := X.wo o') hr3 hsD hw.root ⟨_, rfl, ?_⟩)))
            by_cases hs0 : s = []
            · subst hs0
              simp only [decide_true, Bool.not_true]
              have : acc = outs X.key y := by rw [hacc]; simp [outs]
              exact ⟨trivial, this ▸ he, k1, k2, k3, k4, k5⟩
            · simp only [hs0, decide_false, Bool.not_false]
              refine Tr.gen fun K3 hK3 => ?_
              have hsn := hdn s hsD
              have hlv : (X.wo o').lssv s = .ref (X.A (sfx X.D s)) := by
                have : (X.wo o').lss s = some (sfx X.D s) := hsn.1
                simp only [Trie.lssv, this]; rfl
              have hst := outs_step hw.mkD hs0
              refine Exs_cons (Ex_If (Et_plain (Ev_Attr (Ev_Name k6 (ng_suc (X := X.wo o') T hr3 hsD (truthy_bool ?_))))))
              cases hkey : X.key s with
              | none =>
                have : ((X.wo o').key s).isSome = false := by show (X.key s).isSome = false; rw [hkey]; rfl
                rw [this]
                refine Exs_nil ?_
                refine Exs_cons (Ex_Assign_Name (Ev_Attr (Ev_Name k6 (ng_lss (X := X.wo o') T hr3 hsD ?_))))
                rw [hlv]
                refine Exs_nil (hK3 _ _ ⟨(sfx X.D s).length, sfx_len hs0, sfx X.D s, acc, suf_mem hw.pc _, rfl, ?_, he, lk_ne k1, lk_ne k2, lk_ne k3, lk_ne k4, lk_ne k5, lk_eq⟩)
                rw [hacc, hst, hkey]; rfl
              | some v =>
                have : ((X.wo o').key s).isSome = true := by show (X.key s).isSome = true; rw [hkey]; rfl
                rw [this]
                obtain ⟨xs, hxl, hsv, hsep⟩ := hk s v hkey
                have hsv3 : SeqV v xs σ₃.hp := hsv.fr hsep (he ▸ J.fr.upd0 _ hoh)
                have hoc : σ₃.hp oa = some (.list acc) := by rw [he]; exact upd_self _ _ _
                simp only [if_true]
                refine Exs_cons (Ex_Assign_Name (Ev_Attr (Ev_Name k6 (ng_key (X := X.wo o') T (Wf_wo hw o') hr3 hsD hkey ?_))))
                refine Exs_cons (Ex_Expr (Ev_Meth (Ev_Name (lk_ne k5) (m_append hoc (EvL_e (Ev_Tuple (EvL_e (Ev_Name lk_eq (EvL_e (Ev_Call (Ev_GVal T.g_len (EvL_e (Ev_Name lk_eq (EvL_0 (EvA_0 (len_seq hsv3 (EvL_0 ⟨by simp, EvL_0 (EvA_0 (list_append hoc hacl ?_))⟩)))))))))))))))))
                refine Exs_nil ?_
                refine Exs_cons (Ex_Assign_Name (Ev_Attr (Ev_Name (lk_ne k6) (ng_lss (X := X.wo o') T (Rep.updOff hr3 nof) hsD ?_))))
                rw [hlv, hxl]
                refine Exs_nil (hK3 _ _ ⟨(sfx X.D s).length, sfx_len hs0, sfx X.D s, acc ++ [.tup [v, .int (s.length : Nat)]], suf_mem hw.pc _, rfl, ?_, ?_, lk_ne (lk_ne k1), lk_ne (lk_ne k2), lk_ne (lk_ne k3), lk_ne (lk_ne k4), lk_ne (lk_ne k5), lk_eq⟩)
                · rw [hacc, hst, hkey]; simp
                · show upd σ₃.hp oa _ = _
                  rw [he]; funext b; simp only [upd]; split <;> rfl
          · exact ⟨y, [], hyD, rfl, rfl, rfl, lk_ne (lk_ne (lk_ne J.l1)), lk_ne (lk_ne (lk_ne J.l2)), lk_ne (lk_ne (lk_ne J.l3)), lk_ne (lk_ne lk_eq), lk_ne lk_eq, lk_eq⟩
          · (rintro f σ₃; intro zr; obtain ⟨rfl, he, k1, k2, k3, k4, k5⟩ := zr)
            have hr3 : Rep (X.wo o') t d false ci σ₃.hp := he ▸ J.rep.updOff nof
            have hoc : σ₃.hp oa = some (.list (outs X.key y)) := by rw [he]; exact upd_self _ _ _
            have hol : (outs X.key y).length ≤ 100000 := by
              have h1 := outs_len X.key y
              have := hN y hyD
              omega
            refine Exs_cons (Ex_Assign_Attr (Ev_Call (Ev_GVal T.g_tuple (EvL_e (Ev_Name k5 (EvL_0 (EvA_0 (tuple_list hoc hol (Ev_Name k4 (nset_out (X := X.wo o') T hr3 hyD ?_))))))))))
            have hAy : X.A y ≠ wa := (hkeep _ (.inr (.inr ⟨y, hyD, .inl rfl⟩))).1
            have hAp : X.A y ≠ pa := (hkeep _ (.inr (.inr ⟨y, hyD, .inl rfl⟩))).2
            have hwk : (upd σ₃.hp (X.A y) (((X.wo o').setOut y (.tup (outs X.key y))).nodeAO y)) wa = some (.list (st'.map fun p => .ref (X.A p))) := by
              rw [upd_ne _ _ hAy.symm, he, upd_ne _ _ how.symm]; exact J.stk
            refine Exs_cons (Ex_Expr (Ev_Meth (Ev_Name k3 (m_append hwk (EvL_e (Ev_Name k4 (EvL_0 (EvA_0 (list_append hwk hlen2 ?_)))))))))
            refine Exs_nil (Exs_nil (hK2 _ _ ⟨st' ++ [y], ys, fun z => if z = y then some (.tup (outs X.key y)) else o' z, rfl, ⟨Rep.updOff (setOut_rep hr3 hyD) nwa, ?_, ?_, ?_, J.dfs.push hy hyD, ?_, ?_, k1, k2, k3⟩, fun y' hy' => hch y' (by simp [hy']), ?_, ?_, ?_⟩))
            · refine Fr'.upd0 _ ?_ hwa0
              refine Fr'.trans (he ▸ J.fr.upd0 _ hoh) (Fr'.upd _ (.inr (.inr ⟨y, hyD, .inl rfl⟩)))
            · intro p hp
              rcases List.mem_append.mp hp with q | q
              · show (if p = y then _ else o' p) = _
                split
                · rename_i e; rw [e]
                · exact J.sad p q
              · simp at q; subst q; exact if_pos rfl
            · intro p hp
              show (if p = y then _ else o' p) = _
              split
              · rename_i e; rw [e]
              · exact J.pad p hp
            · refine ⟨S2, ?_, hM2⟩
              exact (upd_ne _ _ hwp.symm).trans ((upd_ne _ _ hAp.symm).trans (by rw [he]; exact (upd_ne _ _ hop.symm).trans hS2))
            · refine (upd_self _ _ _).trans ?_; simp
            · intro q
              exact absurd (mem_ins.mpr (.inl (I.dfs.known q _ ⟨c, hc⟩))) hy
            · simp at hln ⊢; omega
            · refine (upd_ne _ _ (hkeep _ htx).1).trans ((upd_ne _ _ (Trie.Wf.dist J.rep hyD hxD).1.symm).trans ?_)
              rw [he]
              exact (upd_ne _ _ (by rintro e; exact nof (e ▸ htx))).trans htk
      · (rintro zu zu σ''; intro zr; obtain ⟨st', ys, o', e1, J, hch, hnp, hln, htk⟩ := zr)
        have : ys = [] := by cases ys with | nil => rfl | cons => cases e1
        subst this
        refine Exs_nil (hK1 _ _ ?_)
        by_cases hxp : x ∈ pl
        · have e := hnp hxp
          subst e
          have hi : ins pl x = pl := by simp [ins, hxp]
          rw [hi] at J
          refine ⟨_, ?_, st', pl, o', rfl, ?_, ⟨J.rep, J.fr, J.sad, J.pad, ⟨J.dfs.sD, J.dfs.pD, J.dfs.pn, J.dfs.rt, fun z hz y hc => ?_, fun l z r e hz y hc => ?_⟩, J.set, J.stk, J.l1, J.l2, J.l3⟩⟩
          · simp
          · simp at hlen0; omega
          · rcases J.dfs.cl z hz y hc with a | a | a
            · exact .inl a
            · exact .inr (.inl a)
            · simp at a
          · rcases J.dfs.tp l z r e hz y hc with a | a | a
            · exact .inl a
            · exact .inr (.inl a)
            · simp at a
        · have hi : (ins pl x).length = pl.length + 1 := by simp [ins, hxp]
          have hle : (ins pl x).length ≤ X.D.length := nodup_len J.dfs.pn J.dfs.pD
          refine ⟨_, ?_, st', ins pl x, o', rfl, ?_, ⟨J.rep, J.fr, J.sad, J.pad, ⟨J.dfs.sD, J.dfs.pD, J.dfs.pn, J.dfs.rt, fun z hz y hc => ?_, fun l z r e hz y hc => ?_⟩, J.set, J.stk, J.l1, J.l2, J.l3⟩⟩
          · rw [hi, List.length_append]
            exact dfs_measure (b := 0) (by omega) (by simpa using hln)
          · rw [hi, Nat.succ_mul]
            simp at hln hlen0; omega
          · rcases J.dfs.cl z hz y hc with a | a | a
            · exact .inl a
            · exact .inr (.inl a)
            · simp at a
          · rcases J.dfs.tp l z r e hz y hc with a | a | a
            · exact .inl a
            · exact .inr (.inl a)
            · simp at a
  · refine ⟨[[]], [], _, by simp, by simp, ⟨(hr0.new hpa1).updOff nwa, ((hf0.upd0 _ hpa0).upd0 _ hwa0), ?_, by simp, Dfs.init hw.root [], ⟨fun zu => false, (upd_ne _ _ hwp.symm).trans (upd_self _ _ _), fun p zu => by simp⟩, upd_self _ _ _, rfl, rfl, rfl⟩⟩
    intro p hp; simp at hp; subst hp; rfl
end
section
variable {C : Cf} {A : Around} {E : Value → Shared → Prop} {env : Env} {σ : ASt}
structure Trie.Ph3 (X : Trie) : Prop where
  wf : X.Wf
  dn : ∀ p ∈ X.D, X.DN p
  out : ∀ p ∈ X.D, X.out p = some (.tup (outs X.key p))
noncomputable def FinPost (X : Trie) (t d : Addr) (ci : Bool) (hp hp' : HP) : Prop :=
  ∃ X' : Trie, X'.Ph3 ∧ Rep X' t d true ci hp' ∧ Fr' (Fp X t d) hp (Fp X t d) hp' ∧ X'.D = X.D ∧ X'.A = X.A ∧ X'.T = X.T ∧ X'.key = X.key
theorem fin_fn (T : Tp C) {X : Trie} {t d : Addr} {ci : Bool} {hp : HP} {N : Nat} (hA : A.handled = none) (hroom : A.depth + N + 4 < recursionLimit) (hX : X.Ph1) (hr : Rep X t d false ci hp)
    (hz : X.D.length ≤ 300) (hN : ∀ p ∈ X.D, p.length ≤ N) (hk : KeyL X t d hp) :
    Fn C A (.ref 101) [.ref t] [] hp (fun v hp' => v = .none ∧ FinPost X t d ci hp hp') := by
  obtain ⟨r₀, hf⟩ := T.f_fin
  obtain ⟨r₁, hf1⟩ := T.f_kids
  obtain ⟨r₂, hf2⟩ := T.f_pre
  have hw := hX.wf
  refine Fn_def (body := finP.body) hf (binds_fin C r₀ _) (fun L => ?_) (by omega) (by kernel_rfl) (by kernel_rfl) (by kernel_rfl) (by kernel_rfl) (by kernel_rfl)
  refine Exs_cons (Ex_If (Et_plain (Ev_Attr (Ev_Name rfl (get_ns T.n_fin hr.tree hr.ns rfl (truthy_bool (Exs_nil ?_)))))))
  refine Exs_cons (Ex_Assign_Attr (Ev_Attr (Ev_Name rfl (get_ns T.n_zero hr.tree hr.ns rfl (Ev_Attr (Ev_Name rfl (get_ns T.n_zero hr.tree hr.ns rfl (nset_lss T hr hw.root ?_))))))))
  have hr1 : Rep (X.setLss [] []) t d false ci (upd hp (X.A []) ((X.setLss [] []).nodeAO [])) := setLss_rep hr hw.root
  have hf1' : Fr' (Fp X t d) hp (Fp X t d) (upd hp (X.A []) ((X.setLss [] []).nodeAO [])) := Fr'.upd _ (.inr (.inr ⟨[], hw.root, .inl rfl⟩))
  have hw1 : (X.setLss [] []).Wf := Wf_setLss hw
  have hkid : ∀ p ∈ X.D, ∀ c, X.look p c = kidA X.D p c := fun p hp c => by
    by_cases m : p ++ [c] ∈ X.D
    · rw [hX.kid1 p hp c m]; simp [kidA, m]
    · rw [hX.kid0 p hp c m]; simp [kidA, m]
  have had : (X.setLss [] []).AD [] := by
    intro r hrs hrD
    simp at hrs; subst hrs
    refine ⟨rfl, fun c => ?_⟩
    show X.look [] c = full X.D [] c
    rw [hkid [] hw.root c]; simp [full]
  have hall : ∀ p ∈ X.D, (X.setLss [] []).UD p ∨ (X.setLss [] []).AD p := fun p hp => by
    by_cases e : p = []
    · subst e; exact .inr had
    · refine .inl ⟨?_, fun c => hkid p hp c⟩
      show (if p = [] then some [] else X.lss p) = none
      rw [if_neg e]; exact hX.lss p hp
  have c1 := kids_fn (A := A.deeper (callEnv (r₀.fd finP .none) L 101)) (N := N) T (by exact hA) (by show A.depth + 1 + N + 2 < recursionLimit; omega) hw1 hr1 had hall hz hN
  refine Exs_cons (Ex_Expr (Ev_Meth (Ev_Name rfl (MethA_own T.m_kids hr1.tree hr1.ns rfl (EvL_e (Ev_Attr (Ev_Name rfl (get_ns T.n_zero hr1.tree hr1.ns rfl (EvL_0 (EvA_0 (CallA_fn hf1 (Fn.mono c1 ?_))))))))))))
  (rintro v hp2; intro zr; obtain ⟨rfl, X2, hw2, hr2, hfr2, st2, hd2⟩ := zr)
  have hD2 : X2.D = X.D := st2.same.D
  have hA2 : X2.A = X.A := st2.same.A
  have hT2 : X2.T = X.T := st2.same.T
  have hk2 : X2.key = X.key := st2.same.key
  have hfp2 : Fp X2 t d = Fp X t d := st2.same.fp t d
  have hF2 : Fr' (Fp X t d) hp (Fp X t d) hp2 := hf1'.trans hfr2
  have hkl : KeyL X2 t d hp2 := by
    intro p v hv
    rw [hk2] at hv
    obtain ⟨xs, h1, h2, h3⟩ := hk p v hv
    exact ⟨xs, h1, h2.fr h3 hF2, fun a e => by rw [hfp2]; exact h3 a e⟩
  have c2 := pre_fn (A := A.deeper (callEnv (r₀.fd finP .none) L 101)) (N := N) T (by exact hA) (by show A.depth + 1 + 2 < recursionLimit; omega) hw2 hr2 (by rw [hD2]; exact hd2) (by rw [hD2]; exact hz) (fun p hp => by
    have h1 := hN p (hD2 ▸ hp)
    have : recursionLimit = 1000 := rfl
    omega) hkl
  refine Exs_cons (Ex_Expr (Ev_Meth (Ev_Name rfl (MethA_own T.m_pre hr2.tree hr2.ns rfl (EvL_0 (EvA_0 (CallA_fn hf2 (Fn.mono c2 ?_))))))))
  (rintro v hp3; intro zr; obtain ⟨rfl, o, hr3, hfr3, ho⟩ := zr)
  refine Exs_cons (Ex_Assign_Attr (Ev_bool (Ev_Name rfl (set_ns T.n_fin hr3.tree hr3.ns ?_ (hz := Nat.le_of_ble_eq_true (by rfl))))))
  refine Exs_nil ⟨rfl, X2.wo o, ⟨Wf_wo hw2 o, fun p hp => ?_, ho⟩, ?_, ?_, hD2, hA2, hT2, hk2⟩
  · have := hd2 p (hD2 ▸ hp)
    exact this
  · have hd : ∀ p ∈ X2.D, X2.A p ≠ d ∧ X2.T p ≠ d := fun p hp => ⟨(Trie.Wf.dist hr3 hp hp).2.2.1, (Trie.Wf.dist hr3 hp hp).2.2.2.2.1⟩
    have htd : t ≠ d := (Trie.Wf.dist hr3 (p := []) hw2.root hw2.root).2.2.2.2.2
    refine ⟨(upd_ne _ _ htd).trans hr3.tree, (upd_self _ _ _).trans rfl, fun p hp => (upd_ne _ _ (hd p hp).1).trans (hr3.nd p hp), fun p hp => ?_⟩
    obtain ⟨ep, e⟩ := hr3.td p hp
    exact ⟨ep, (upd_ne _ _ (hd p hp).2).trans e⟩
  · exact (hF2.trans (hfp2 ▸ hfr3)).trans (Fr'.upd _ (.inr (.inl rfl)))
end
section
variable {C : Cf} {A : Around} {c : Code} {fs : List Frame} {P : End → Shared → Prop} {s : Shared} {env : Env} {σ : ASt} {F G : FH}
  {K : Flow → Sem Fin} {H : Value → Sem Fin} {gd : Bool → Bool} {lv : List Value → List Value}
theorem sx_wrap {α : Type} {m : Sem α} {K : α → Sem Fin} {H : Value → Sem Fin}
    (h : wpAny (model C.prog C.w) (A.over c fs) m (fun a s' => SegX (model C.prog C.w) A c (K a) fs s' P) (fun x s' => SegX (model C.prog C.w) A c (H x) fs s' P) s) : SegX (model C.prog C.w) A c (m.wrap K H gd lv) fs s P := by
  rintro Γ p rfl hΓ
  obtain ⟨e, s', hr, hq⟩ := runs_wrap_of_wp (Φ := fun e s' => e.quiet = true ∧ P e s') K H gd lv m (h (Γ.over fs) p (hΓ.over fs)) (fun a p' s' h' => h' Γ p' rfl hΓ) (fun x p' s' h' => h' Γ p' rfl hΓ)
  exact ⟨e, s', hr, hq⟩
theorem sx_tr {α β : Type} {R : FH → β → α → Prop} {m : Sem α} {K : α → Sem Fin} {H : Value → Sem Fin} {Q : β → ASt → Prop} (h : Tr C (A.over c fs) NoE env R m σ Q) (hR : Rp C (A.over c fs) F G env σ s)
    (k : ∀ F' b σ' v s', Ext F F' → R F' b v → Rp C (A.over c fs) F' G env σ' s' → Q b σ' → SegX (model C.prog C.w) A c (K v) fs s' P) : SegX (model C.prog C.w) A c (m.wrap K H gd lv) fs s P := by
  refine sx_wrap (wpAny_mono (h F G s hR) (fun v s' z => ?_) fun zu zu x => x.elim)
  obtain ⟨F', b, σ', e, r, hR', q⟩ := z
  exact k F' b σ' v s' e r hR' q
theorem sx_cons {st : Stmt} {rest : List Stmt} (h : SegX (model C.prog C.w) A c ((exec st env).wrap (fun f => match f with | .next => (execs rest env).wrap K H gd lv | f => K f) H gd lv) fs s P) :
    SegX (model C.prog C.w) A c ((execs (st :: rest) env).wrap K H gd lv) fs s P := by rw [execs_cons_wrap]; exact h
theorem sx_at {p' : Pos} {k : Unit → Sem Fin} (h : SegX (model C.prog C.w) A c (k ()) fs s P) : SegX (model C.prog C.w) A c (.at p' k) fs s P :=
  sx_wrap (m := standAt p') (K := k) (H := .raise) (gd := id) (lv := id) (wpAny_standAt h)
theorem sx_point {l : List Value} {k : Unit → Sem Fin} (h : SegX (model C.prog C.w) A c (k ()) fs s P) : SegX (model C.prog C.w) A c (.point l k) fs s P :=
  sx_wrap (m := point) (K := k) (H := .raise) (gd := id) (lv := fun zu => l) (wpAny_point h)
theorem sx_If {test : Expr} {body orelse : List Stmt} {pos : Pos} {Q : Bool → ASt → Prop} (h : Et C (A.over c fs) NoE env test σ Q) (hR : Rp C (A.over c fs) F G env σ s)
    (k : ∀ F' b σ' s', Ext F F' → Rp C (A.over c fs) F' G env σ' s' → Q b σ' → SegX (model C.prog C.w) A c ((execs (if b then body else orelse) env).wrap K H gd lv) fs s' P) :
    SegX (model C.prog C.w) A c ((exec (.If test body orelse pos) env).wrap K H gd lv) fs s P := by
  show SegX _ A c (.at pos fun zu => ((isTrue test env (eval test env)) >>= fun b => if b = true then execs body env else execs orelse env).wrap K H gd lv) fs s P
  refine sx_at ?_
  rw [Sem.bind_eq_wrap', Sem.wrap_wrap]
  refine sx_tr h hR (fun F' b σ' v s' e r hR' q => ?_)
  subst r
  have := k F' b σ' s' e hR' q
  cases b
  · exact this
  · exact this
theorem sx_func {body : List Stmt}
    (h : SegX (model C.prog C.w) A (.func body env) ((execs body env).wrap (fun f => .pure (.done (.ret (match f with | .ret v => v | _ => .none)))) (fun e => (leaving env e).wrap (fun zu => .raise e) .raise id id) id id) fs s P) :
    SegX (model C.prog C.w) A (.func body env) (denote table (.func body env)) fs s P := by
  show SegX _ A _ (.point [] fun zu => ((execs body env).onRaise (leaving env)) >>= _) fs s P
  refine sx_point ?_
  rw [Sem.onRaise_eq_wrap, Sem.bind_eq_wrap', Sem.wrap_wrap]
  rw [Sem.wrap_congr (execs body env) _ _ (K' := fun f => .pure (.done (.ret (match f with | .ret v => v | _ => .none))))
    (H' := fun e => (leaving env e).wrap (fun zu => .raise e) .raise id id) (fun f => by cases f <;> rfl)
    (fun e => by rw [Sem.bind_eq_wrap, Sem.wrap_wrap]; rfl)]
  exact h
theorem sx_For {target iter : Expr} {body : List Stmt} {pos : Pos} {Q : AV → ASt → Prop} (h : Ev C (A.over c fs) NoE env iter σ Q) (hR : Rp C (A.over c fs) F G env σ s) (J : FH → AV → ASt → Value → Shared → Prop)
    (hi : ∀ F' a σ' v s', Ext F F' → VR F' a v → Rp C (A.over c fs) F' G env σ' s' → Q a σ' → wpAny (model C.prog C.w) (A.over c fs) (pyIter v) (fun it s'' => J F' a σ' it s'') NoE s')
    (k : ∀ F' a σ' it s', Ext F F' → J F' a σ' it s' → ∀ kf l p, (∀ f, kf (.ok f) = K f) → SegX (model C.prog C.w) A (.forLoop target it body [] env) (denote table (.forLoop target it body [] env)) (.ret kf none (gd false) l c p [] :: fs) s' P)
    (hs : autoParam (∀ x, foldedSetIterable iter env x = pure x) AC.aux4._auto_1) : SegX (model C.prog C.w) A c ((exec (.For target iter body [] pos) env).wrap K H gd lv) fs s P := by
  rw [exec_For]
  show SegX _ A c (.at pos fun zu => (eval iter env >>= fun x => foldedSetIterable iter env x >>= fun x => standAt iter.pos >>= fun zu => holding [x] (pyIter x) >>= fun it => runOwn (.forLoop target it body [] env) env).wrap K H gd lv) fs s P
  refine sx_at ?_
  rw [Sem.bind_eq_wrap', Sem.wrap_wrap]
  refine sx_tr h hR (fun F' a σ' v s' e hv hR' q => ?_)
  rw [hs v]
  show SegX _ A c (.at iter.pos fun zu => (holding [v] (pyIter v) >>= fun it => runOwn (.forLoop target it body [] env) env).wrap K H gd lv) fs s' P
  refine sx_at ?_
  rw [Sem.bind_eq_wrap', Sem.wrap_wrap]
  refine sx_wrap (wpAny_holding (wpAny_mono (hi F' a σ' v s' e hv hR' q) (fun it s'' z => ?_) fun zu zu x => x.elim))
  refine s_call C.prog C.w A c fs P s'' _ _ _ _ _ (fun p => ?_)
  exact k F' a σ' it s'' e z _ _ p (fun f => rfl)
theorem sx_forLoop {target : Expr} {it : Value} {body : List Stmt}
    (h : wpAny (model C.prog C.w) (A.over (.forLoop target it body [] env) fs) (pyNext it) (fun r s₁ => match r with
      | none => SegX (model C.prog C.w) A (.block [] env) (.pure (.done .next)) fs s₁ P
      | some v => wpAny (model C.prog C.w) (A.over (.forLoop target it body [] env) fs) (letOwnedTupleGo target it v) (fun zu s₂ => wpAny (model C.prog C.w) (A.over (.forLoop target it body [] env) fs) (assign target env v) (fun zu s₃ =>
          SegX (model C.prog C.w) A (.forLoop target it body [] env) ((execs body env).wrap (fun f => match f with
            | .next | .cont => .pure (.again (.forLoop target it body [] env))
            | .brk => .pure (.done .next)
            | .ret v => .pure (.done (.ret v))) (fun e => (do noteFrame e env; theTreesLotGoes e : Sem Unit).wrap (fun zu => .raise e) .raise id id) id id) fs s₃ P) NoE s₂) NoE s₁) NoE s) :
    SegX (model C.prog C.w) A (.forLoop target it body [] env) (denote table (.forLoop target it body [] env)) fs s P := by
  show SegX _ A _ ((forTurn target it body [] env).onRaise (fun x => do noteFrame x env; theTreesLotGoes x)) fs s P
  unfold forTurn
  rw [Sem.onRaise_eq_wrap]
  show SegX _ A _ (.at target.pos fun zu => (((pyNext it).onRaise (fun zu => standAt { target.pos with line := 0 })) >>= _).wrap _ _ _ _) fs s P
  refine sx_at ?_
  rw [Sem.bind_eq_wrap', Sem.wrap_wrap]
  refine sx_wrap (wpAny_onRaise (wpAny_mono h (fun r s₁ z => ?_) fun zu zu x => x.elim))
  cases r with
  | none =>
    refine s_again C.prog C.w A _ fs P s₁ (.block [] env) rfl ?_
    exact z
  | some v =>
    show SegX _ A _ ((letOwnedTupleGo target it v >>= fun zu => assign target env v >>= fun zu => execs body env >>= _).wrap _ _ _ _) fs s₁ P
    rw [Sem.bind_eq_wrap', Sem.wrap_wrap]
    refine sx_wrap (wpAny_mono z (fun zu s₂ z => ?_) fun zu zu x => x.elim)
    rw [Sem.bind_eq_wrap', Sem.wrap_wrap]
    refine sx_wrap (wpAny_mono z (fun zu s₃ z => ?_) fun zu zu x => x.elim)
    rw [Sem.bind_eq_wrap', Sem.wrap_wrap]
    rw [Sem.wrap_congr (execs body env) _ _ (K' := fun f => match f with
            | .next | .cont => .pure (.again (.forLoop target it body [] env))
            | .brk => .pure (.done .next)
            | .ret v => .pure (.done (.ret v))) (H' := (fun e => (do noteFrame e env; theTreesLotGoes e : Sem Unit).wrap (fun zu => .raise e) .raise id id))
        (fun f => by cases f <;> rfl)
        (fun e => by first | exact Sem.bind_eq_wrap _ _ | (show (do noteFrame e env; theTreesLotGoes e : Sem Unit).bind (fun zu => .raise e) = _; rw [Sem.bind_eq_wrap]))]
    exact z
theorem sx_yield {e : Expr} {ypos pos : Pos} {Q : AV → ASt → Prop} (hfs : splitAtGen fs = none) (hgd : gd false = false) (hfg : fs.any Frame.guarded = false) (h : Ev C (A.over c fs) NoE env e σ Q) (hR : Rp C (A.over c fs) F G env σ s)
    (k : ∀ F' a σ' v s', Ext F F' → VR F' a v → Rp C (A.over c fs) F' G env σ' s' → Q a σ' → ∀ kf l p, (∀ A' s'' P', SegX (model C.prog C.w) A' c (K .next) fs s'' P' → SegX (model C.prog C.w) A' c (kf (.send .none)) fs s'' P') → P (.susp v false l kf c p fs) s')
    (hco : autoParam (env.scope.isCoroutine = false) AC.aux0._auto_1) (hi : autoParam (interactive env = false) AC.aux0._auto_1) : SegX (model C.prog C.w) A c ((exec (.Expr (.Yield (some e) ypos) pos) env).wrap K H gd lv) fs s P := by
  rw [exec_Expr env _ pos hi rfl]
  show SegX _ A c (.at pos fun zu => ((eval e env >>= fun v => (standAt ypos >>= fun zu => yieldOut env v)) >>= fun x => dropValue (.Yield (some e) ypos) pos x).wrap K H gd lv) fs s P
  have hy : ∀ v, yieldOut env v = yieldValue v := fun v => by simp only [yieldOut, hco, Bool.false_eq_true, if_false]
  simp only [hy]
  refine sx_at ?_
  rw [Sem.bind_eq_wrap', Sem.bind_eq_wrap', Sem.wrap_wrap, Sem.wrap_wrap]
  refine sx_tr h hR (fun F' a σ' v s' e' hv hR' q => ?_)
  refine sx_at ?_
  show SegX _ A c (.yield v (gd false) _ _) fs s' P
  rw [hgd]
  refine s_yield C.prog C.w A c fs P s' v _ _ hfs hfg (fun p => ?_)
  refine k F' a σ' v s' e' hv hR' q _ _ p (fun A' s'' P' hx => ?_)
  exact hx
end
section
variable {C : Cf} {A : Around} {s : Shared} {env : Env} {σ : ASt} {F G : FH} {hp : HP}
theorem OR.gensOf {g' : Array GenState} {gens : Array GenState} {x : AO} {o : Obj} (h : OR C F gens x o) (hg : ∀ g gs, x = .gen g gs → gens[g]? = some gs → g'[g]? = some gs) : OR C F g' x o := by
  by_cases hx : isGen x = false
  · exact h.gens hx
  · cases h with
    | gen a a1 a2 b c => exact .gen a a1 a2 b (hg _ _ rfl c)
    | _ => exact absurd rfl hx
theorem Wd.gen (W : Wd C F G hp s) {ga : Addr} {g : Nat} {gs : GenState} (e : hp ga = some (.gen g gs)) : s.gens[g]? = some gs ∧ s.heap.IsGen ga g := by
  obtain ⟨zu, zu, o, ho, r⟩ := W.ob ga _ e
  (refine OR.genC r fun zv zv zv zv a a1 a2 b c => ?_; clear r)
  exact ⟨c, o, _, _, ho, a, b, a2⟩
theorem Wd.setGen (W : Wd C F G hp s) {ga : Addr} {g : Nat} {gs gs' : GenState} (e : hp ga = some (.gen g gs)) (hb : gs'.bare = true) : Wd C F G (upd hp ga (.gen g gs')) (s.setGen g gs') := by
  have hg := (W.gen e).1
  have hlt : g < s.gens.size := by
    rcases Nat.lt_or_ge g s.gens.size with h | h
    · exact h
    · rw [Array.getElem?_eq_none h] at hg; exact ns_ne hg
  refine ⟨W.base, W.fz, W.gz, fun a x hx => ?_, W.os, fun y hy => ?_, fun a b g1 gs1 gs2 h1 h2 => ?_, W.fg⟩
  · by_cases ha : a = ga
    · subst ha
      rw [upd_self] at hx; (have zc := Option.some.inj hx; clear hx; subst zc)
      obtain ⟨p, q, o, ho, r⟩ := W.ob a _ e
      refine ⟨p, q, o, ho, ?_⟩
      (refine OR.genC r fun zv zv zv zv a a1 a2 b c => ?_; clear r)
      exact .gen a a1 a2 b (by simp [Shared.setGen, hlt])
    · rw [upd_ne _ _ ha] at hx
      obtain ⟨p, q, o, ho, r⟩ := W.ob a _ hx
      refine ⟨p, q, o, ho, r.gensOf (fun g1 gs1 e1 h1 => ?_)⟩
      subst e1
      have hne : g ≠ g1 := by rintro rfl; exact ha (W.gi _ _ _ _ _ hx e)
      simp only [Shared.setGen, Array.getElem?_setIfInBounds_ne hne]; exact h1
  · simp only [Shared.setGen] at hy
    rcases Array.mem_or_eq_of_mem_setIfInBounds hy with h | h
    · exact W.bare y h
    · rw [h]; exact hb
  · by_cases ha : a = ga <;> by_cases hbq : b = ga
    · rw [ha, hbq]
    · subst ha
      rw [upd_self] at h1; (have zc := oGen h1; clear h1; rcases zc with ⟨zc, zd⟩; subst zc; subst zd)
      rw [upd_ne _ _ hbq] at h2
      exact absurd (W.gi _ _ _ _ _ h2 e) hbq
    · subst hbq
      rw [upd_self] at h2; (have zc := oGen h2; clear h2; rcases zc with ⟨zc, zd⟩; subst zc; subst zd)
      rw [upd_ne _ _ ha] at h1
      exact absurd (W.gi _ _ _ _ _ h1 e) ha
    · rw [upd_ne _ _ ha] at h1; rw [upd_ne _ _ hbq] at h2
      exact W.gi _ _ _ _ _ h1 h2
noncomputable def NoCells (env : Env) : Prop := ∀ x, env.kindOf x ≠ some .cell ∧ env.kindOf x ≠ some .free
theorem Wd.thaw (W : Wd C F G hp s) {loc : List (Str × AV)} (e : hp env.locals = some (.frame loc)) (hk : env.scope.kind = .function) (hn : NoCells env) (hfs : FsE A G env) :
    Rp C A F G env ⟨loc, fun b => if b = env.locals then none else hp b⟩ s := by
  obtain ⟨p, q, o, ho, r⟩ := W.ob _ _ e
  refine ⟨⟨W.base, W.fz, W.gz, fun a x hx => ?_, W.os, W.bare, fun a b g1 gs1 gs2 h1 h2 => ?_, W.fg⟩, ⟨hk, ?_, ⟨p, q, if_pos rfl⟩, fun x hx => absurd hx (hn x).1, fun x zu zu hx => absurd hx (hn x).1, fun x zu zu zu hx => absurd hx (hn x).1, fun x zu zu hx => absurd hx (hn x).2⟩, hfs⟩
  · dsimp only at hx
    split at hx
    · exact ns_ne hx
    · exact W.ob a x hx
  · dsimp only at h1 h2
    split at h1
    · exact ns_ne h1
    · split at h2
      · exact ns_ne h2
      · exact W.gi _ _ _ _ _ h1 h2
  · (refine OR.frameC r fun es ep a b c => ?_; clear r)
    refine ⟨fun x => nsFind es x, ⟨o, es, ep, ho, a, b, fun zu => rfl⟩, fun x av hx zu => c x av hx⟩
theorem Rp.susp (hR : Rp C A F G env σ s) {loc : List (Str × AV)} (hl : ∀ x av, loc.lookup x = some av → σ.loc.lookup x = some av ∧ env.kindOf x = some .local) : Wd C F G (upd σ.hp env.locals (.frame loc)) s := by
  have W := hR.wd
  obtain ⟨m, ⟨o, es, ep, ho, hd, hs, hm⟩, hmv⟩ := hR.fm.ns
  obtain ⟨l1, l2, l3⟩ := hR.fm.lo
  refine ⟨W.base, W.fz, W.gz, fun a x hx => ?_, W.os, W.bare, fun a b g1 gs1 gs2 h1 h2 => ?_, W.fg⟩
  · by_cases ha : a = env.locals
    · subst ha
      rw [upd_self] at hx; (have zc := Option.some.inj hx; clear hx; subst zc)
      refine ⟨l1, l2, o, ho, .frame hd hs (fun x av hx => ?_)⟩
      obtain ⟨h1, h2⟩ := hl x av hx
      obtain ⟨v, hv, r⟩ := hmv x av h1 h2
      exact ⟨v, by rw [hm]; exact hv, r⟩
    · rw [upd_ne _ _ ha] at hx; exact W.ob a x hx
  · have ne : ∀ c g gs, upd σ.hp env.locals (.frame loc) c = some (.gen g gs) → σ.hp c = some (.gen g gs) := fun c g gs e => by
      by_cases hc : c = env.locals
      · subst hc; rw [upd_self] at e; exact AO.noConfusion (Option.some.inj e)
      · rw [upd_ne _ _ hc] at e; exact e
    exact W.gi _ _ _ _ _ (ne _ _ _ h1) (ne _ _ _ h2)
theorem Wd.newGen (W : Wd C F G hp s) {c : Code} {n q : Str} {t u : Tok} {tk : Nat} :
    Wd C F G (upd hp s.heap.objs.size (.gen s.gens.size (.fresh c))) ⟨s.heap.push { cls := .type "generator", data := .fields #[.int s.gens.size 0, .str n t, .str q u] }, s.gens.push (.fresh c), s.drawn, tk, s.os⟩ := by
  have kp : ∀ b o, s.heap.get? b = some o → (s.heap.push { cls := .type "generator", data := .fields #[.int s.gens.size 0, .str n t, .str q u] }).get? b = some o := fun b o e => Heap.get?_push_of_some _ e
  obtain ⟨z1, z2, z3⟩ := W.lt (Nat.le_refl s.heap.objs.size)
  have lt : ∀ a g gs, hp a = some (.gen g gs) → g < s.gens.size := fun a g gs e => by
    have := (W.gen e).1
    rcases Nat.lt_or_ge g s.gens.size with h | h
    · exact h
    · rw [Array.getElem?_eq_none h] at this; exact ns_ne this
  refine ⟨W.base, fun b o e => kp _ _ (W.fz b o e), fun b o e => ?_, fun a x hx => ?_, W.os, W.bare.push rfl, fun a b g1 gs1 gs2 h1 h2 => ?_, W.fg⟩
  · obtain ⟨o', a, b'⟩ := W.gz b o e
    exact ⟨o', kp _ _ a, b'⟩
  · by_cases ha : a = s.heap.objs.size
    · subst ha
      rw [upd_self] at hx; (have zc := Option.some.inj hx; clear hx; subst zc)
      exact ⟨z1, z2, _, Heap.get?_push_size _ rfl, .gen rfl rfl rfl rfl (by simp)⟩
    · rw [upd_ne _ _ ha] at hx
      obtain ⟨p, q, o, ho, r⟩ := W.ob a x hx
      refine ⟨p, q, o, kp _ _ ho, r.gensOf (fun g gs e1 h1 => ?_)⟩
      subst e1
      have := lt _ _ _ hx
      dsimp only
      rw [Array.getElem?_push_lt this]
      rw [Array.getElem?_eq_getElem this] at h1
      exact h1
  · by_cases ha : a = s.heap.objs.size <;> by_cases hb : b = s.heap.objs.size
    · rw [ha, hb]
    · subst ha
      rw [upd_self] at h1; (have zc := oGen h1; clear h1; rcases zc with ⟨zc, zd⟩; subst zc; subst zd)
      rw [upd_ne _ _ hb] at h2
      have := lt _ _ _ h2; omega
    · subst hb
      rw [upd_self] at h2; (have zc := oGen h2; clear h2; rcases zc with ⟨zc, zd⟩; subst zc; subst zd)
      rw [upd_ne _ _ ha] at h1
      have := lt _ _ _ h1; omega
    · rw [upd_ne _ _ ha] at h1; rw [upd_ne _ _ hb] at h2
      exact W.gi _ _ _ _ _ h1 h2
theorem Fn_gen {f : Addr} {fd : FuncData} {body : List Stmt} {args : List AV} {kw loc : List (Str × AV)} {Q : AV → HP → Prop} (hf : FnAt C f fd) (hb : Binds C fd args kw loc)
    (h : ∀ L ga g, hp L = none → hp ga = none → L ≠ ga → NoCells (callEnv fd L f) → Q (.ref ga) (upd (upd hp L (.frame loc.reverse)) ga (.gen g (.fresh (.func body (callEnv fd L f))))))
    (hroom : A.depth < recursionLimit) (hbody : autoParam (fd.body = .stmts body) AC.aux0._auto_1) (hcell : autoParam ((fd.scope.names.all fun x => x.2 != .cell && x.2 != .free) = true) AC.aux0._auto_1)
    (hco : autoParam (fd.scope.isCoroutine = false) AC.aux0._auto_1) (hgen : autoParam (fd.scope.isGenerator = true) AC.aux0._auto_1) (hk : autoParam (fd.scope.kind = .function) AC.aux0._auto_1) :
    Fn C A (.ref f) args kw hp Q := by
  intro F G s vs kvs fs W hv hkv
  obtain ⟨o, ho, hd⟩ := hf.at_
  obtain ⟨bs, hB, hbr, hl⟩ := hb F vs kvs hv hkv
  have hc : ∀ x ∈ fd.scope.names, x.2 ≠ .cell ∧ x.2 ≠ .free := fun x hx => by
    have := List.all_eq_true.mp hcell x hx
    simpa using this
  have noK : ∀ L, NoCells (callEnv fd L f) := by
    intro L x
    have key : ∀ kd, fd.scope.names.lookup x = some kd → (x, kd) ∈ fd.scope.names := fun kd e => by
      obtain ⟨l1, l2, e1, zu⟩ := List.lookup_eq_some_iff.mp e
      rw [e1]; simp
    constructor
    · intro e; exact (hc _ (key _ e)).1 rfl
    · intro e; exact (hc _ (key _ e)).2 rfl
  refine codeAny_call_generator hroom (W.old _ _ ho) hd hco hgen hbody (hf.code.keeps W.old) ?_
  refine hB _ _ _ s W.old (wpAny_newFunctionEnv (fun x hx => (hc x hx).1) (fun x hx => of_decide_eq_true (List.all_eq_true.mp hl x hx)) (fun h' hns hsb => ?_) hk)
  have kp : ∀ b o, s.heap.get? b = some o → h'.get? b = some o := fun b o e => hsb.extBut b o (Nat.ne_of_lt (Heap.lt_size e)) (Heap.get?_push_of_some _ e)
  refine ⟨hf.lim.keeps fun b o e => kp _ _ (W.old _ _ e), ?_⟩
  obtain ⟨z1, z2, z3⟩ := W.lt (Nat.le_refl s.heap.objs.size)
  have W1 : Wd C F G (upd hp s.heap.objs.size (.frame loc.reverse)) { s with heap := h', toks := s.toks + bs.length } := by
    have W0 := W.keep (t := s.toks + bs.length) kp
    refine ⟨W0.base, W0.fz, W0.gz, fun a x hx => ?_, W0.os, W0.bare, fun a b g1 gs1 gs2 h1 h2 => ?_, W0.fg⟩
    · by_cases ha : a = s.heap.objs.size
      · subst ha
        rw [upd_self] at hx; (have zc := Option.some.inj hx; clear hx; subst zc)
        obtain ⟨o, es, ep, ho, hd, hs, hm⟩ := hns
        refine ⟨z1, z2, o, ho, .frame hd hs (fun x av hx => ?_)⟩
        obtain ⟨v, hv, r⟩ := hbr.reverse.look hx
        exact ⟨v, by rw [hm]; exact hv, r⟩
      · rw [upd_ne _ _ ha] at hx; exact W0.ob a x hx
    · have ne : ∀ c g gs, upd hp s.heap.objs.size (.frame loc.reverse) c = some (.gen g gs) → hp c = some (.gen g gs) := fun c g gs e => by
        by_cases hc : c = s.heap.objs.size
        · subst hc; rw [upd_self] at e; exact AO.noConfusion (Option.some.inj e)
        · rw [upd_ne _ _ hc] at e; exact e
      exact W.gi _ _ _ _ _ (ne _ _ _ h1) (ne _ _ _ h2)
  have hlt : s.heap.objs.size < h'.objs.size := hns.lt
  refine ⟨F, _, .ref h'.objs.size, _, rfl, Ext.refl F, .ref _, W1.newGen, ?_⟩
  have z4 := (W1.lt (Nat.le_refl h'.objs.size)).2.2
  rw [upd_ne _ _ (Nat.ne_of_gt hlt)] at z4
  exact h _ _ _ z3 z4 (Nat.ne_of_lt hlt) (noK _)
end
section
section
variable {C : Cf} {A : Around} {s : Shared} {env : Env} {σ : ASt} {F G : FH} {hp : HP} {E : Value → Shared → Prop}
theorem Rp.loosen (hR : Rp C A F G env σ s) (S : List Addr) (hS : ∀ a ∈ S, ∃ x, σ.hp a = some x) {h' : Heap} {t : Nat} (k : ∀ b o, b ∉ S → s.heap.get? b = some o → h'.get? b = some o) :
    Rp C A F G env { σ with hp := fun b => if b ∈ S then none else σ.hp b } ⟨h', s.gens, s.drawn, t, s.os⟩ := by
  obtain ⟨⟨w1, w2, w3, w4, w5, w6, w7, w8⟩, ⟨kd, ⟨m, hm, hmv⟩, ⟨l1, l2, l3⟩, co, ci, cv, fv⟩, hfs⟩ := hR
  have nF : ∀ {b o}, F b = some o → b ∉ S := fun e hb => by
    obtain ⟨x, hx⟩ := hS _ hb
    rw [(w4 _ _ hx).1] at e; exact ns_ne e
  have nG : ∀ {b o}, G b = some o → b ∉ S := fun e hb => by
    obtain ⟨x, hx⟩ := hS _ hb
    rw [(w4 _ _ hx).2.1] at e; exact ns_ne e
  have nH : ∀ {b}, σ.hp b = none → b ∉ S := fun e hb => by
    obtain ⟨x, hx⟩ := hS _ hb
    rw [hx] at e; exact sn_ne e
  refine ⟨⟨w1, fun b o e => k _ _ (nF e) (w2 b o e), fun b o e => ?_, fun b x e => ?_, w5, w6, fun a b g gs gs' h1 h2 => ?_, w8⟩, ⟨kd, ⟨m, ?_, hmv⟩, ⟨l1, l2, ?_⟩, fun x hx => ?_, ci, fun x av c h1 h2 h3 => ?_, fv⟩, hfs⟩
  · obtain ⟨o', z1, z2⟩ := w3 b o e
    exact ⟨o', k _ _ (nG e) z1, z2⟩
  · dsimp only at e
    split at e
    · exact ns_ne e
    · rename_i hb
      obtain ⟨p, q, o, ho, r⟩ := w4 b x e
      exact ⟨p, q, o, k _ _ hb ho, r⟩
  · dsimp only at h1 h2
    split at h1
    · exact ns_ne h1
    · split at h2
      · exact ns_ne h2
      · exact w7 _ _ _ _ _ h1 h2
  · obtain ⟨oL, es, ep, hL, r⟩ := hm
    exact ⟨oL, es, ep, k _ _ (nH l3) hL, r⟩
  · dsimp only; split
    · rfl
    · exact l3
  · obtain ⟨c, g1, g2, g3, g4, g5, v, o, g6, g7⟩ := co x hx
    refine ⟨c, g1, g2, g3, ?_, g5, v, o, k _ _ (nH g4) g6, g7⟩
    dsimp only; split
    · rfl
    · exact g4
  · obtain ⟨v, ⟨o, g6, g7⟩, g8⟩ := cv x av c h1 h2 h3
    obtain ⟨c', z1, z2, z3, z4, zu⟩ := co x h2
    rw [h3] at z1; (have zc := Option.some.inj z1; clear z1; subst zc)
    exact ⟨v, ⟨o, k _ _ (nH z4) g6, g7⟩, g8⟩
theorem Rp.track (hR : Rp C A F G env σ s) {a : Addr} {x : AO} {o : Obj} (ho : s.heap.get? a = some o) (hF : F a = none) (hG : G a = none) (hp : σ.hp a = none) (hl : a ≠ env.locals) (hc : ∀ x c, env.kindOf x = some .cell → env.cells.lookup x = some c → a ≠ c)
    (hx : isGen x = false) (r : OR C F s.gens x o) : Rp C A F G env { σ with hp := upd σ.hp a x } s := by
  obtain ⟨⟨w1, w2, w3, w4, w5, w6, w7, w8⟩, ⟨kd, ⟨m, hm, hmv⟩, ⟨l1, l2, l3⟩, co, ci, cv, fv⟩, hfs⟩ := hR
  have ne : ∀ c g gs, upd σ.hp a x c = some (.gen g gs) → σ.hp c = some (.gen g gs) := fun c g gs e => by
    by_cases hc : c = a
    · subst hc; rw [upd_self] at e; (have zc := Option.some.inj e; clear e; subst zc); exact tf_ne hx
    · rw [upd_ne _ _ hc] at e; exact e
  refine ⟨⟨w1, w2, w3, fun b y e => ?_, w5, w6, fun b b' g gs gs' h1 h2 => w7 _ _ _ _ _ (ne _ _ _ h1) (ne _ _ _ h2), w8⟩, ⟨kd, ⟨m, hm, hmv⟩, ⟨l1, l2, (upd_ne _ _ (Ne.symm hl)).trans l3⟩, fun y hy => ?_, ci, cv, fv⟩, hfs⟩
  · dsimp only at e
    by_cases hb : b = a
    · subst hb; rw [upd_self] at e; (have zc := Option.some.inj e; clear e; subst zc); exact ⟨hF, hG, o, ho, r⟩
    · rw [upd_ne _ _ hb] at e; exact w4 b y e
  · obtain ⟨c, g1, g2, g3, g4, g5⟩ := co y hy
    exact ⟨c, g1, g2, g3, (upd_ne _ _ (Ne.symm (hc y c hy g1))).trans g4, g5⟩
theorem Rp.apart (hR : Rp C A F G env σ s) {a : Addr} {x : AO} (ha : σ.hp a = some x) : F a = none ∧ G a = none ∧ a ≠ env.locals ∧ (∀ y c, env.kindOf y = some .cell → env.cells.lookup y = some c → a ≠ c) := by
  obtain ⟨p, q, zu⟩ := hR.wd.ob a x ha
  refine ⟨p, q, ?_, fun y c hy hc e => ?_⟩
  · rintro rfl; rw [hR.fm.lo.2.2] at ha; exact ns_ne ha
  · subst e
    obtain ⟨c', g1, zu, zu, g4, zu⟩ := hR.fm.co y hy
    rw [hc] at g1; (have zc := Option.some.inj g1; clear g1; subst zc)
    rw [g4] at ha; exact ns_ne ha
inductive Src : Addr → Nat → List AV → HP → Prop
  | str {ia i x hp} : hp ia = some (.itr (strIterType x) [.str x, .val (.int i 0)]) → i ≤ x.cps.size → Src ia i ((chars x).drop i) hp
noncomputable def NxI (hp : HP) (ia : Addr) (i : Nat) (y : AO) : Prop := (∃ c vs, y = .itr c vs) ∧ ∀ c u, hp ia = some (.itr c [u, .val (.int i 0)]) → y = .itr c [u, .val (.int (i + 1 : Nat) 0)]
structure Drw (C : Cf) (A : Around) (F : FH) (G : FH) (ia : Addr) (i : Nat) (rest : List AV) (hp : HP) (s : Shared) : Prop where
  ex : ∃ fp n P St, Draws C.prog C.w A ia fp n P St ∧ St i s.heap ∧ i + rest.length = n ∧ ia ∈ fp ∧ (∀ b ∈ fp, b = ia ∨ (F b).isSome = true ∨ ∃ xs, hp b = some (.list xs)) ∧
    ∀ v h' gens, P i v → St (i + 1) h' → ∃ x xs o' y, rest = x :: xs ∧ VR F x v ∧ h'.get? ia = some o' ∧ OR C F gens y o' ∧ isGen y = false ∧ NxI hp ia i y ∧ ∀ hp', hp' ia = some y → (∀ l zs, hp l = some (.list zs) → hp' l = some (.list zs)) → Src ia (i + 1) xs hp'
theorem Src.drw {ia : Addr} {i : Nat} {rest : List AV} (h : Src ia i rest σ.hp) (hA : A.handled = none) (hR : Rp C A F G env σ s) : Drw C A.in1 F G ia i rest σ.hp s := by
  generalize hhp : σ.hp = hp at h
  cases h with
  | str e hle =>
    rename_i x
    subst hhp
    obtain ⟨p, q, o, ho, r⟩ := hR.wd.ob _ _ e
    (refine OR.itrC r fun us r1 r2 r3 => ?_; clear r)
    refine VRs.consC r3 fun zv zw zo a1 a2 => ?_; clear r3; subst zo
    refine VRs.consC a2 fun zv zw zo b1 b2 => ?_; clear a2; subst zo
    (have zc := VRs.nilI b2; clear b2; subst zc); (have zc := VR.valI b1; clear b1; subst zc)
    obtain ⟨t, zo⟩ := a1.strI; clear a1; subst zo
    have hD : Draws C.prog C.w A.in1 ia [ia] x.cps.size (fun i v => ∃ c u, x.cps[i]? = some c ∧ v = .str ⟨#[c]⟩ u) (fun i h => h.IsStrIter ia (strIterType x) x t i) := by
      cases ha : x.cps.all (· < 128)
      · have : strIterType x = "str_iterator" := by simp [strIterType, ha]
        rw [this]; exact Draws.strWide (A := A.in1) hA ia x t
      · have : strIterType x = "str_ascii_iterator" := by simp [strIterType, ha]
        rw [this]; exact Draws.strAscii (A := A.in1) hA ia x t
    refine ⟨[ia], _, _, _, hD, ⟨o, ho, r1, r2⟩, ?_, by simp, ?_, ?_⟩
    · simp [chars]; omega
    · intro b hb
      simp at hb; exact .inl hb
    · (rintro v h' gens; intro zr; obtain ⟨c, u, hc, rfl⟩ := zr; intro zr; obtain ⟨o', ho', c1, c2⟩ := zr)
      have hlt : i < x.cps.size := by
        rcases Nat.lt_or_ge i x.cps.size with h | h
        · exact h
        · rw [Array.getElem?_eq_none h] at hc; exact ns_ne hc
      have hlt' : i < (chars x).length := by simp [chars, hlt]
      have hci : (chars x)[i] = .str ⟨#[c]⟩ := by
        rw [Array.getElem?_eq_getElem hlt] at hc; (have zc := Option.some.inj hc; clear hc; subst zc)
        simp [chars]
      refine ⟨(chars x)[i], (chars x).drop (i + 1), o', .itr (strIterType x) [.str x, .val (.int (i + 1 : Nat) 0)], (List.drop_eq_getElem_cons hlt'), ?_, ho', .itr (us := [.str x t, .int (i + 1 : Nat) 0]) c1 c2 (.cons (.str x t) (.cons (.val _) .nil)), rfl, ⟨⟨_, _, rfl⟩, fun c u q => by rw [e] at q; cases q; rfl⟩, fun hp' e' zu => .str e' hlt⟩
      rw [hci]; exact .str _ _
end
end
section
variable {C : Cf} {A : Around} {s : Shared} {env : Env} {σ : ASt} {F G : FH} {hp : HP} {E : Value → Shared → Prop}
noncomputable def enumO (ia : Addr) (i : Nat) (old : AV) : AO := .fields "enumerate" [.none, .bool false, .ref ia, .val (rawInt i), .none, old]
theorem Src.at {ia : Addr} {i : Nat} {rest : List AV} (h : Src ia i rest hp) : ∃ c vs, hp ia = some (.itr c vs) := by
  cases h with
  | str e zu => exact ⟨_, _, e⟩
theorem Rp.isEnum (hR : Rp C A F G env σ s) {ea ia : Addr} {i : Nat} {old : AV} (he : σ.hp ea = some (enumO ia i old)) : ∃ ov, IsEnum s.heap ea ia i ov ∧ VR F old ov := by
  obtain ⟨zu, zu, o, ho, r⟩ := hR.wd.ob _ _ he
  (refine OR.fieldsC r fun us r1 r2 r3 r4 r5 => ?_; clear r)
  refine VRs.consC r5 fun zv zw zo a1 r5_a => ?_; clear r5; subst zo
  refine VRs.consC r5_a fun zv zw zo a2 r5_b => ?_; clear r5_a; subst zo
  refine VRs.consC r5_b fun zv zw zo a3 r5_c => ?_; clear r5_b; subst zo
  refine VRs.consC r5_c fun zv zw zo a4 r5_d => ?_; clear r5_c; subst zo
  refine VRs.consC r5_d fun zv zw zo a5 r5_e => ?_; clear r5_d; subst zo
  refine VRs.consC r5_e fun zv zw zo a6 r5_f => ?_; clear r5_e; subst zo
  (have zc := VRs.nilI r5_f; clear r5_f; subst zc); (have zc := VR.noneI a1; clear a1; subst zc); (have zc := VR.boolI a2; clear a2; subst zc); (have zc := VR.refI a3; clear a3; subst zc); (have zc := VR.valI a4; clear a4; subst zc); (have zc := VR.noneI a5; clear a5; subst zc)
  obtain ⟨c, dd, da, sl⟩ := o
  dsimp only at r1 r2 r3 r4
  subst r1 r2 r3 r4
  exact ⟨_, ho, a6⟩
theorem Rp.top (hR : Rp C A F G env σ s) : F s.heap.objs.size = none ∧ G s.heap.objs.size = none ∧ σ.hp s.heap.objs.size = none ∧ s.heap.objs.size ≠ env.locals ∧ (∀ y c, env.kindOf y = some .cell → env.cells.lookup y = some c → s.heap.objs.size ≠ c) := by
  obtain ⟨z1, z2, z3⟩ := hR.wd.lt (Nat.le_refl s.heap.objs.size)
  refine ⟨z1, z2, z3, Nat.ne_of_gt (by obtain ⟨m, ⟨oL, es, ep', hL, zu⟩, zu⟩ := hR.fm.ns; exact Heap.lt_size hL), fun x c hx hc => ?_⟩
  obtain ⟨c', g1, zu, zu, zu, zu, v', o', ho', zu⟩ := hR.fm.co x hx
  rw [hc] at g1; (have zc := Option.some.inj g1; clear g1; subst zc)
  exact Nat.ne_of_gt (Heap.lt_size ho')
theorem enum_turn' (hA : A.handled = none) (hR : Rp C A F G env σ s) {ea ia : Addr} {i : Nat} {old x : AV} {rest : List AV} (he : σ.hp ea = some (enumO ia i old)) (hs : Src ia i (x :: rest) σ.hp) {elts : List Expr} {tn : Nat} {tpos : Pos} :
    wpAny (model C.prog C.w) A (pyNext (.ref ea)) (fun r s₁ => ∃ v, r = some v ∧ wpAny (model C.prog C.w) A (letOwnedTupleGo (.Tuple elts tn tpos) (.ref ea) v) (fun zu s₂ =>
      ∃ F' y, Ext F F' ∧ VR F' (.tup [.int i, x]) v ∧ NxI σ.hp ia i y ∧ Src ia (i + 1) rest (upd (upd σ.hp ia y) ea (enumO ia (i + 1) x)) ∧ Rp C A F' G env { σ with hp := upd (upd σ.hp ia y) ea (enumO ia (i + 1) x) } s₂) NoE s₁) NoE s := by
  obtain ⟨fp, n, P, St, D, hst, hn, hifp, hfp, hfin⟩ := (hs.drw hA hR).ex
  obtain ⟨ci, vi, hia⟩ := hs.at
  obtain ⟨ov, hE, hov⟩ := hR.isEnum he
  have hne : ea ≠ ia := by rintro rfl; rw [he] at hia; exact AO.noConfusion (Option.some.inj hia)
  have hef : ea ∉ fp := fun hb => by
    rcases hfp ea hb with h | h | ⟨xs, h⟩
    · exact hne h
    · rw [(hR.apart he).1] at h; exact ft_ne h
    · rw [he] at h; exact AO.noConfusion (Option.some.inj h)
  refine wpAny_pyNext_enum_itemD D hE hst (by rw [← hn]; simp) hne hef (fun xv h' tk hP hout hst' htup hsz hk => ⟨_, rfl, ?_⟩)
  refine wpAny_letOwnedTupleGo_enum (s := { s with heap := h', toks := tk + 1 }) hout (fun h'' hen hsb => ?_)
  obtain ⟨x', xs', o', y, e1, hxv, ho', hor, hng, hy, hsrc⟩ := hfin xv h' s.gens hP hst'
  cases e1
  have ho'' : h''.get? ia = some o' := (hsb.2 ia hne.symm).trans ho'
  have hall : ∀ b o, b ∉ [ia, ea] → s.heap.get? b = some o → h''.get? b = some o := fun b o hb e => by
    simp at hb
    exact (hsb.2 b hb.2).trans (hk b o hb.2 hb.1 e)
  have hR1 := hR.loosen [ia, ea] (fun a ha => by
    simp at ha
    rcases ha with rfl | rfl
    · exact ⟨_, hia⟩
    · exact ⟨_, he⟩) (h' := h'') (t := tk + 1) hall
  obtain ⟨i1, i2, i3, i4⟩ := hR.apart hia
  obtain ⟨e1, e2, e3, e4⟩ := hR.apart he
  have hR2 := hR1.track (a := ia) (x := y) ho'' i1 i2 (by simp) i3 i4 hng hor
  have hR3 := hR2.track (a := ea) (x := enumO ia (i + 1) x) hen e1 e2 (by
    show upd _ ia y ea = none
    rw [upd_ne _ _ hne]; simp) e3 e4 rfl (.fields (us := [.none, .bool false, .ref ia, rawInt (i + 1 : Nat), .none, xv]) rfl rfl rfl rfl (.cons .none (.cons (.bool _) (.cons (.ref _) (.cons (.val _) (.cons .none (.cons hxv .nil)))))))
  obtain ⟨t1, t2, t3, t4, t5⟩ := hR.top
  have nta : s.heap.objs.size ≠ ia := by rintro e; rw [e, hia] at t3; exact sn_ne t3
  have nte : s.heap.objs.size ≠ ea := by rintro e; rw [e, he] at t3; exact sn_ne t3
  have htup' : h''.get? s.heap.objs.size = some { cls := .type "tuple", data := .seq #[.int i tk, xv] } := (hsb.2 _ nte).trans htup
  have hpe : upd (upd (fun b => if b ∈ [ia, ea] then none else σ.hp b) ia y) ea (enumO ia (i + 1) x) = upd (upd σ.hp ia y) ea (enumO ia (i + 1) x) := by
    funext b
    by_cases h1 : b = ea
    · subst h1; rw [upd_self, upd_self]
    · rw [upd_ne _ _ h1, upd_ne _ _ h1]
      by_cases h2 : b = ia
      · subst h2; rw [upd_self, upd_self]
      · rw [upd_ne _ _ h2, upd_ne _ _ h2]; simp [h1, h2]
  have hR3 : Rp C A F G env { σ with hp := upd (upd σ.hp ia y) ea (enumO ia (i + 1) x) } ⟨h'', s.gens, s.drawn, tk + 1, s.os⟩ := hpe ▸ hR3
  obtain ⟨hR4, ex⟩ := hR3.freezeAt (a := s.heap.objs.size) htup' t1 t2 (by
    show upd _ ea _ _ = none
    rw [upd_ne _ _ nte, upd_ne _ _ nta]; exact t3) t4 t5
  refine ⟨_, y, ex, .tup (vs := [.int i tk, xv]) (fput_self _ _ _) rfl rfl (.cons (.int _ _) (.cons (hxv.mono ex) .nil)), hy, hsrc _ ?_ ?_, hR4⟩
  · rw [upd_ne _ _ hne.symm, upd_self]
  · intro l zs hl
    have h1 : l ≠ ea := by rintro rfl; rw [he] at hl; exact AO.noConfusion (Option.some.inj hl)
    have h2 : l ≠ ia := by rintro rfl; rw [hia] at hl; exact AO.noConfusion (Option.some.inj hl)
    rw [upd_ne _ _ h1, upd_ne _ _ h2]; exact hl
theorem enum_turn (hA : A.handled = none) (hR : Rp C A F G env σ s) {ea ia : Addr} {i : Nat} {old x : AV} {rest : List AV} (he : σ.hp ea = some (enumO ia i old)) (hs : Src ia i (x :: rest) σ.hp) {elts : List Expr} {tn : Nat} {tpos : Pos} :
    wpAny (model C.prog C.w) A (pyNext (.ref ea)) (fun r s₁ => ∃ v, r = some v ∧ wpAny (model C.prog C.w) A (letOwnedTupleGo (.Tuple elts tn tpos) (.ref ea) v) (fun zu s₂ =>
      ∃ F' y, Ext F F' ∧ VR F' (.tup [.int i, x]) v ∧ (∃ c vs, y = .itr c vs) ∧ Src ia (i + 1) rest (upd (upd σ.hp ia y) ea (enumO ia (i + 1) x)) ∧ Rp C A F' G env { σ with hp := upd (upd σ.hp ia y) ea (enumO ia (i + 1) x) } s₂) NoE s₁) NoE s := by
  refine wpAny_mono (enum_turn' hA hR he hs (elts := elts) (tn := tn) (tpos := tpos)) (fun r s₁ z => ?_) fun zu zu x => x
  obtain ⟨v, h1, h2⟩ := z
  refine ⟨v, h1, wpAny_mono h2 (fun zu s₂ z => ?_) fun zu zu x => x⟩
  obtain ⟨F', y, a, b, c, d, e⟩ := z
  exact ⟨F', y, a, b, c.1, d, e⟩
theorem enum_end (hA : A.handled = none) (hR : Rp C A F G env σ s) {ea ia : Addr} {i : Nat} {old : AV} (he : σ.hp ea = some (enumO ia i old)) (hs : Src ia i [] σ.hp) :
    wpAny (model C.prog C.w) A (pyNext (.ref ea)) (fun r s₁ => r = none ∧ Rp C A F G env { σ with hp := fun b => if b ∈ [ia] then none else σ.hp b } s₁) NoE s := by
  obtain ⟨fp, n, P, St, D, hst, hn, hifp, hfp, hfin⟩ := (hs.drw hA hR).ex
  obtain ⟨ci, vi, hia⟩ := hs.at
  obtain ⟨ov, hE, hov⟩ := hR.isEnum he
  simp at hn; subst hn
  refine wpAny_pyNext_enum_endD D hE hst (fun h' hx => ⟨rfl, ?_⟩)
  refine hR.loosen [ia] (fun a ha => by simp at ha; subst ha; exact ⟨_, hia⟩) (h' := h') (t := s.toks) (fun b o hb e => hx b o (by simpa using hb) e)
theorem tupit_turn (hA : A.handled = none) (hR : Rp C A F G env σ s) {ja : Addr} {i : Nat} {xs : List AV} {x : AV} (he : σ.hp ja = some (.itr "tuple_iterator" [.tup xs, .val (.int i 0)])) (hx : xs[i]? = some x) {elts : List Expr} {tn : Nat} {tpos : Pos} :
    wpAny (model C.prog C.w) A (pyNext (.ref ja)) (fun r s₁ => ∃ v, r = some v ∧ wpAny (model C.prog C.w) A (letOwnedTupleGo (.Tuple elts tn tpos) (.ref ja) v) (fun zu s₂ =>
      VR F x v ∧ Rp C A F G env (σ.put ja (.itr "tuple_iterator" [.tup xs, .val (.int (i + 1 : Nat) 0)])) s₂) NoE s₁) NoE s := by
  obtain ⟨p, q, o, ho, r⟩ := hR.wd.ob _ _ he
  (refine OR.itrC r fun us r1 r2 r3 => ?_; clear r)
  refine VRs.consC r3 fun zv zw zo a1 a2 => ?_; clear r3; subst zo
  refine VRs.consC a2 fun zv zw zo b1 b2 => ?_; clear a2; subst zo
  (have zc := VRs.nilI b2; clear b2; subst zc); (have zc := VR.valI b1; clear b1; subst zc)
  refine VR.tupC a1 fun vs l ol n zo q1 q2 q3 q4 => ?_; clear a1; subst zo
  obtain ⟨u, hu, hr⟩ := q4.get hx
  refine wpAny_pyNext_tuple_item (x := u) ⟨o, ho, r1, r2⟩ ⟨ol, hR.wd.fz _ _ q1, q2, n, q3⟩ (by rw [List.getElem?_toArray]; exact hu) fun h' hit hsb => ⟨u, rfl, ?_⟩
  obtain ⟨o', ho', c1, c2⟩ := hit
  have hR' : Rp C A F G env (σ.put ja (.itr "tuple_iterator" [.tup xs, .val (.int (i + 1 : Nat) 0)])) ⟨h', s.gens, s.drawn, s.toks, s.os⟩ :=
    hR.change he rfl ho' (.itr (us := [.ref l, .int (i + 1 : Nat) 0]) c1 c2 (.cons (.tup q1 q2 q3 q4) (.cons (.val _) .nil))) (SameBut.rest hsb)
  cases u with
  | ref a =>
    unfold letOwnedTupleGo
    refine wpAny_bind (wpAny_load (s := { s with heap := h' }) ho' ?_)
    rw [c1, c2]
    show wpAny _ _ (if (_ : Bool) = true then _ else _) _ _ _
    rw [if_neg (by simp)]
    exact wpAny_pure ⟨hr, hR'⟩
  | _ => exact wpAny_pure ⟨hr, hR'⟩
theorem tupit_end (hA : A.handled = none) (hR : Rp C A F G env σ s) {ja : Addr} {i : Nat} {xs : List AV} (he : σ.hp ja = some (.itr "tuple_iterator" [.tup xs, .val (.int i 0)])) (hx : xs[i]? = none) :
    wpAny (model C.prog C.w) A (pyNext (.ref ja)) (fun r s₁ => r = none ∧ Rp C A F G env { σ with hp := fun b => if b ∈ [ja] then none else σ.hp b } s₁) NoE s := by
  obtain ⟨p, q, o, ho, r⟩ := hR.wd.ob _ _ he
  (refine OR.itrC r fun us r1 r2 r3 => ?_; clear r)
  refine VRs.consC r3 fun zv zw zo a1 a2 => ?_; clear r3; subst zo
  refine VRs.consC a2 fun zv zw zo b1 b2 => ?_; clear a2; subst zo
  (have zc := VRs.nilI b2; clear b2; subst zc); (have zc := VR.valI b1; clear b1; subst zc)
  refine VR.tupC a1 fun vs l ol n zo q1 q2 q3 q4 => ?_; clear a1; subst zo
  refine wpAny_pyNext_tuple_end hA ⟨o, ho, r1, r2⟩ ⟨ol, hR.wd.fz _ _ q1, q2, n, q3⟩ (by rw [List.getElem?_toArray]; exact q4.none hx) fun h' hxx => ⟨rfl, ?_⟩
  exact hR.loosen [ja] (fun a ha => by simp at ha; subst ha; exact ⟨_, he⟩) (h' := h') (t := s.toks) (fun b o hb e => hxx b o (by simpa using hb) e)
theorem tupit_new (hR : Rp C A F G env σ s) {xs : List AV} {v : Value} (hv : VR F (.tup xs) v) :
    wpAny (model C.prog C.w) A (pyIter v) (fun it s' => ∃ ja, it = .ref ja ∧ σ.hp ja = none ∧ Rp C A F G env (σ.put ja (.itr "tuple_iterator" [.tup xs, .val (.int 0 0)])) s') NoE s := by
  refine VR.tupC hv fun vs t ot n zo q1 q2 q3 q4 => ?_; clear hv; subst zo
  refine wpAny_pyIter_tuple ⟨ot, hR.wd.fz _ _ q1, q2, n, q3⟩ ⟨_, rfl, hR.lt, ?_⟩
  exact hR.alloc (t := s.toks) rfl rfl (.itr (us := [.ref t, .int 0 0]) rfl rfl (.cons (.tup q1 q2 q3 q4) (.cons (.val _) .nil)))
theorem SeqV.keep {hp hp' : HP} {v : AV} {xs : List AV} (h : SeqV v xs hp) (k : ∀ l zs, hp l = some (.list zs) → hp' l = some (.list zs)) : SeqV v xs hp' := by
  cases h with
  | str a => exact .str a
theorem enum_new' {v : AV} {xs : List AV} {Q : AV → ASt → Prop} (hv : SeqV v xs σ.hp)
    (h : ∀ ea ia y, σ.hp ea = none → σ.hp ia = none → ea ≠ ia → (∃ c u, y = .itr c [u, .val (.int (0 : Nat) 0)]) → (∀ hp', hp' ia = some y → SeqV v xs hp' → Src ia 0 xs hp') → Q (.ref ea) { σ with hp := upd (upd σ.hp ia y) ea (enumO ia 0 .none) }) :
    CallA C A E env (.val (.type "enumerate")) [] [v] [] σ Q := by
  refine CallA_type (fun F G s vs hR hvs => ?_)
  refine VRs.consC hvs fun zv zw zo a b => ?_; clear hvs; subst zo
  (have zc := VRs.nilI b; clear b; subst zc)
  obtain ⟨t1, t2, t3, t4, t5⟩ := hR.top
  have z := hR.wd.lt (Nat.le_succ s.heap.objs.size)
  have key : ∀ (v' : Value) (y : AO) (o : Obj), (∀ (h' : Heap), IsEnum h' (s.heap.objs.size + 1) s.heap.objs.size 0 .none → h'.get? s.heap.objs.size = some o → OR C F s.gens y o → isGen y = false → (∃ c u, y = .itr c [u, .val (.int (0 : Nat) 0)]) →
      (∀ hp', hp' s.heap.objs.size = some y → SeqV v xs hp' → Src s.heap.objs.size 0 xs hp') → (∀ b o, s.heap.get? b = some o → h'.get? b = some o) →
      Post C A G env VR Q F (.ref (s.heap.objs.size + 1)) { s with heap := h' }) := by
    intro v' y o h' hE ho hor hng hy hsrc hk
    have hlt : ∀ x c, env.kindOf x = some .cell → env.cells.lookup x = some c → c < s.heap.objs.size := fun x c hx hc => by
      obtain ⟨c', g1, zu, zu, zu, zu, v', o', ho', zu⟩ := hR.fm.co x hx
      rw [hc] at g1; (have zc := Option.some.inj g1; clear g1; subst zc)
      exact Heap.lt_size ho'
    have hL : env.locals < s.heap.objs.size := by obtain ⟨m, ⟨oL, es, ep', hL, zu⟩, zu⟩ := hR.fm.ns; exact Heap.lt_size hL
    have hR1 := hR.keep (t := s.toks) hk
    have hR2 := hR1.track (a := s.heap.objs.size) (x := y) ho t1 t2 t3 t4 t5 hng hor
    have hR3 := hR2.track (a := s.heap.objs.size + 1) (x := enumO s.heap.objs.size 0 .none) hE z.1 z.2.1 ((upd_ne _ _ (Nat.succ_ne_self _)).trans z.2.2) (Nat.ne_of_gt (Nat.lt_succ_of_lt hL)) (fun x c hx hc => Nat.ne_of_gt (Nat.lt_succ_of_lt (hlt x c hx hc))) rfl
      (.fields (us := [.none, .bool false, .ref s.heap.objs.size, rawInt 0, .none, .none]) rfl rfl rfl rfl (.cons .none (.cons (.bool _) (.cons (.ref _) (.cons (.val _) (.cons .none (.cons .none .nil)))))))
    refine Post.of (.ref _) hR3 (h _ _ y z.2.2 t3 (Nat.succ_ne_self _) hy hsrc)
  cases hv with
  | @str x zu hz =>
    obtain ⟨t, zo⟩ := a.strI; clear a; subst zo
    refine call_enumerate_str (fun h' hE hit hsz hk => ?_)
    obtain ⟨o, ho, c1, c2⟩ := hit
    refine key (.str x t) (.itr (strIterType x) [.str x, .val (.int 0 0)]) o h' hE ho (.itr (us := [.str x t, .int 0 0]) c1 c2 (.cons (.str x t) (.cons (.val _) .nil))) rfl ⟨_, _, rfl⟩ (fun hp' e zu => ?_) hk
    have := Src.str (i := 0) (x := x) e (Nat.zero_le _)
    simpa using this
theorem enum_new {v : AV} {xs : List AV} {Q : AV → ASt → Prop} (hv : SeqV v xs σ.hp)
    (h : ∀ ea ia y, σ.hp ea = none → σ.hp ia = none → ea ≠ ia → (∃ c vs, y = .itr c vs) → Src ia 0 xs (upd (upd σ.hp ia y) ea (enumO ia 0 .none)) → Q (.ref ea) { σ with hp := upd (upd σ.hp ia y) ea (enumO ia 0 .none) }) :
    CallA C A E env (.val (.type "enumerate")) [] [v] [] σ Q := by
  refine enum_new' hv (fun ea ia y h1 h2 h3 h4 h5 => h ea ia y h1 h2 h3 (let ⟨c, u, e⟩ := h4; ⟨c, _, e⟩) (h5 _ (by rw [upd_ne _ _ h3.symm, upd_self]) (hv.keep fun l zs hl => ?_)))
  have n1 : l ≠ ea := by rintro rfl; rw [h1] at hl; exact ns_ne hl
  have n2 : l ≠ ia := by rintro rfl; rw [h2] at hl; exact ns_ne hl
  rw [upd_ne _ _ n1, upd_ne _ _ n2]; exact hl
end
section
theorem md_get_lookup : typeLookup (.type "method_descriptor") "__get__" = pure (some (.builtin "method_descriptor.__get__")) := by rw [typeLookup_type, builtinLookup_eq_fast]; kernel_rfl
theorem md_set_lookup : typeLookup (.type "method_descriptor") "__set__" = pure none := by rw [typeLookup_type, builtinLookup_eq_fast]; kernel_rfl
theorem md_del_lookup : typeLookup (.type "method_descriptor") "__delete__" = pure none := by rw [typeLookup_type, builtinLookup_eq_fast]; kernel_rfl
theorem md_get_type : typeOf (.builtin "dict.get") = pure (.type "method_descriptor") := F.type_dict_get
theorem md_slot : Slot "method_descriptor" "__get__" "method_descriptor.__get__" :=
  .of (owner := "method_descriptor") (n := "__get__") md_get_lookup (by decide +kernel) (by decide +kernel) (by decide +kernel)
    (by first | exact .inl (by decide +kernel) | exact .inr (by decide +kernel)) (by rw [isSubtype_type]; kernel_rfl)
theorem md_entry : entryFor table "method_descriptor.__get__" = some Builtin.«method_descriptor.__get__» := entryFor_of_tree (by kernel_rfl)
theorem md_args (a b c : Value) : argsOk "method_descriptor.__get__" ⟨[a, b, c], []⟩ := by unfold argsOk; kernel_rfl
theorem meets_md (a : Addr) (es : Array DictEntry) (k : Nat) (sl : Array (Option Value)) :
    Meets (Builtin.«method_descriptor.__get__» ⟨[.builtin "dict.get", .ref a, .type "dict"], []⟩) (fun A R s => s.heap.get? a = some { cls := .type "dict", dict := none, data := .dict es k, slots := sl } ∧
      R (.ok (.ret (.ref s.heap.objs.size))) { s with heap := s.heap.push { cls := .type "builtin_function_or_method", data := .fields #[.builtin "dict.get", .ref a] } }) :=
  Meets.of_wp fun prog w A R s hs => by
    obtain ⟨hp, g, d, tk, os⟩ := s
    obtain ⟨hx, hs⟩ := hs
    have hT : (⟨hp, g, d, tk, os⟩ : Shared).TypeIs (.ref a) "dict" := ⟨_, hx, rfl⟩
    have f1 : isSubtype (.type "dict") (.type "dict") = pure true := by rw [isSubtype_type]; kernel_rfl
    unfold Builtin.«method_descriptor.__get__»
    repeat (any_goals (first | assumption | k_node | wp_step))
    exact ⟨_, rfl, hs⟩
theorem meets_ga_get (a : Addr) (es : Array DictEntry) (k : Nat) (sl : Array (Option Value)) (u : Tok) :
    Meets (Builtin.«object.__getattribute__» ⟨[.ref a, .str "get" u], []⟩) (fun A R s => s.heap.get? a = some { cls := .type "dict", dict := none, data := .dict es k, slots := sl } ∧
      R (.ok (.ret (.ref s.heap.objs.size))) { s with heap := s.heap.push { cls := .type "builtin_function_or_method", data := .fields #[.builtin "dict.get", .ref a] } }) :=
  Meets.of_wp fun prog w A R s hs => by
    obtain ⟨hp, g, d, tk, os⟩ := s
    obtain ⟨hx, hs⟩ := hs
    have hT : (⟨hp, g, d, tk, os⟩ : Shared).TypeIs (.ref a) "dict" := ⟨_, hx, rfl⟩
    have f1 := F.slot_dict_get.lookup
    have f2 := md_get_lookup
    have f3 := md_set_lookup
    have f4 := md_del_lookup
    have f5 := md_get_type
    unfold Builtin.«object.__getattribute__»
    repeat (any_goals (first | assumption | wp_step))
    have key : ∀ (A' : Around) (R' : Result → Shared → Prop), R' (.ok (.ret (.ref hp.objs.size))) ⟨hp.push { cls := .type "builtin_function_or_method", data := .fields #[.builtin "dict.get", .ref a] }, g, d, tk, os⟩ →
        codeAny (model prog w) A' (.call (.builtin "method_descriptor.__get__") ⟨[.builtin "dict.get", .ref a, .type "dict"], []⟩) R' ⟨hp, g, d, tk, os⟩ := fun A' R' h' =>
      codeAny_call_builtin md_slot.plain md_entry (md_slot.check _ _ _ _ _ _ _ _ (show Shared.TypeIs _ (.builtin "dict.get") "method_descriptor" from md_get_type) (md_args _ _ _) (meets_md a es k sl prog w A' R' _ ⟨hx, h'⟩))
    exact key _ _ (wpAny_pure ⟨_, rfl, hs⟩)
section
variable {prog : Program} {w : World} {A : Around} {E : Value → Shared → Prop} {s : Shared}
theorem getAttr_dict_get {a : Addr} {o : Obj} {es : Array DictEntry} {k : Nat} {Q : Value → Shared → Prop}
    (hx : s.heap.get? a = some o) (hc : o.cls = .type "dict") (hdat : o.data = .dict es k) (hd : o.dict = none)
    (h : Q (.ref s.heap.objs.size) { s with heap := s.heap.push { cls := .type "builtin_function_or_method", data := .fields #[.builtin "dict.get", .ref a] }, toks := s.toks + 1 }) :
    wpAny (model prog w) A (getAttr (.ref a) "get" true) Q E s := by
  obtain ⟨c, dct, dat, sl⟩ := o
  simp only at hc hdat hd
  subst hc hdat hd
  obtain ⟨hp, g, d, tk, os⟩ := s
  have hT : ∀ tk', (⟨hp, g, d, tk', os⟩ : Shared).TypeIs (.ref a) "dict" := fun zu => ⟨_, hx, rfl⟩
  have f3 := F.slot_dict_getattribute.lookup
  have f4 := F.slot_dict_getattribute.bind (.ref a)
  have f5 := am_dict_getattr_none
  unfold getAttr getAttrBy
  repeat (any_goals (first | assumption | exact hT _ | ((with_reducible show wpAny _ _ (call (Value.builtin "dict.__getattribute__") _ _) _ _ _); refine call_meets F.slot_dict_getattribute (hT _) am_entry_dict_getattribute (F.args_dict_getattribute_2 _ _) (meets_ga_get a es k sl _) ⟨hx, ?_⟩) | wp_step))
  show wpAny _ _ (handedOut (.ref _)) Q E _
  rw [handedOut_of rfl]; exact wpAny_pure h
theorem call_bound_get {b d : Addr} {o od : Obj} {k : Value} {R : Result → Shared → Prop} (ho : s.heap.get? b = some o) (hc : o.cls = .type "builtin_function_or_method") (hdt : o.data = .fields #[.builtin "dict.get", .ref d])
    (hd : s.heap.get? d = some od) (hcd : od.cls = .type "dict") {es : Array DictEntry} {ep : Nat} (hdd : od.data = .dict es ep)
    (h : codeAny (model prog w) A (.builtin "dict.get" ⟨[.ref d, k], []⟩) R s) : codeAny (model prog w) A (.call (.ref b) ⟨[k], []⟩) R s := by
  obtain ⟨c, dct, dat, sl⟩ := o
  simp only at hc hdt
  subst hc hdt
  obtain ⟨c, dct', dat', sl'⟩ := od
  simp only at hcd hdd
  subst hcd hdd
  obtain ⟨hp, g, dr, t, os⟩ := s
  have hT : (⟨hp, g, dr, t, os⟩ : Shared).TypeIs (.ref d) "dict" := ⟨_, hd, rfl⟩
  have f1 : isSubtype (.type "dict") (.type "module") = pure false := by rw [isSubtype_type]; kernel_rfl
  have f2 : isSubtype (.type "dict") (.type "type") = pure false := by rw [isSubtype_type]; kernel_rfl
  refine codeAny_of_tree ?_
  show wpAny _ _ (callAny (.ref b) _) _ _ _
  dsimp only at ho hd
  refine nd_load ho ?_
  show wpAny _ _ (checkBoundCall "dict.get" ⟨[.ref d, k], []⟩ >>= fun zu => _) _ _ _
  unfold checkBoundCall
  repeat (any_goals (first | assumption | k_node | wp_step))
  exact ⟨rfl, h⟩
end
section
variable {C : Cf} {A : Around} {E : Value → Shared → Prop} {env : Env} {σ : ASt} {F G : FH} {s : Shared}
noncomputable def bget (d : Addr) : AO := .fields "builtin_function_or_method" [.val (.builtin "dict.get"), .ref d]
theorem OR.dictObj {gens : Array GenState} {l : List (Sym × AV)} {ep : Nat} {o : Obj} (r : OR C F gens (.dict l ep) o) : o.cls = .type "dict" ∧ o.dict = none ∧ ∃ es, o.data = .dict es ep := by
  have h := OR.clsD F gens o r
  (refine OR.dictC r fun zv zv a b zv zv zv zv => ?_; clear r)
  exact ⟨h.1, h.2, _, b⟩
theorem m_get {a : Addr} {l : List (Sym × AV)} {ep : Nat} {Q : AV → List AV → ASt → Prop} (hd : σ.hp a = some (.dict l ep)) (h : Q (.val (.builtin "dict.get")) [.ref a] σ) : MethA C A E env (.ref a) "get" σ Q :=
  MethA_builtin hd OR.clsD F.plainAttrs_dict F.slot_dict_get F.type_dict_get h
theorem get_val {l : List (Sym × AV)} {kvs : List (Sym × Value)} (sv : SV F l kvs) (k : Sym) : VR F ((at? l k).getD .none) ((valueAt kvs k).getD .none) := by
  rcases sv.at k with ⟨x, v, h1, h2, h3⟩ | ⟨h1, h2⟩
  · rw [h1, h2]; exact h3
  · rw [h1, h2]; exact .none
theorem dict_get (hs : (C.h0.get? sysModules).isSome = true) {d : Addr} {l : List (Sym × AV)} {ep : Nat} {k : Sym} {Q : AV → ASt → Prop} (hd : σ.hp d = some (.dict l ep)) (h : Q ((at? l k).getD .none) σ) :
    CallA C A E env (.val (.builtin "dict.get")) [.ref d] [k.av] [] σ Q := by
  refine CallA_builtin fun F G s us vs hR hus hvs => ?_
  obtain rfl : us = [Value.ref d] := by refine VRs.consC hus fun zv zw zo q r => ?_; clear hus; subst zo; (have zc := VR.refI q; clear q; subst zc); (have zc := VRs.nilI r; clear r; subst zc); rfl
  refine VRs.consC hvs fun zv zw zo q r => ?_; clear hvs; subst zo
  (have zc := VRs.nilI r; clear r; subst zc)
  obtain ⟨kvs, hm, sv⟩ := hR.dictOf hd
  exact call_meetsIn PySem.F.slot_dict_get hm.typeIs PySem.F.entry_dict_get (PySem.F.args_dict_get_2 _ _) (meets_dict_get (symKind C.prog C.w) d (Sym.is_of q) (hR.low hd hs)) ⟨_, mapOf_of hm, Post.of (get_val sv k) (hR.tok _) h⟩
theorem get_bound {d : Addr} {l : List (Sym × AV)} {ep : Nat} {Q : AV → ASt → Prop} (hd : σ.hp d = some (.dict l ep)) (h : ∀ b, σ.hp b = none → Q (.ref b) (σ.put b (bget d))) :
    Op1 C A E env VR (fun v => getAttr v "get" true) (.ref d) σ Q := by
  intro F G s v hR hv
  (have zc := VR.refI hv; clear hv; subst zc)
  obtain ⟨zu, zu, o, ho, r⟩ := hR.wd.ob _ _ hd
  obtain ⟨h1, h2, es, h3⟩ := r.dictObj
  refine getAttr_dict_get ho h1 h3 h2 ?_
  exact Post.of (.ref _) (hR.alloc (t := s.toks + 1) rfl rfl (.fields (us := [.builtin "dict.get", .ref d]) rfl rfl rfl rfl (.cons (.val _) (.cons (.ref d) .nil)))) (h _ hR.lt)
theorem call_bget (hs : (C.h0.get? sysModules).isSome = true) {b d : Addr} {l : List (Sym × AV)} {ep : Nat} {k : Sym} {Q : AV → ASt → Prop} (hb : σ.hp b = some (bget d)) (hd : σ.hp d = some (.dict l ep)) (h : Q ((at? l k).getD .none) σ) :
    CallA C A E env (.ref b) [] [k.av] [] σ Q := by
  intro F G s fv us vs kvs hR hf hus hvs hk
  (have zc := VR.refI hf; clear hf; subst zc); (have zc := VRs.nilI hus; clear hus; subst zc); cases hk
  refine VRs.consC hvs fun zv zw zo q r => ?_; clear hvs; subst zo
  (have zc := VRs.nilI r; clear r; subst zc)
  obtain ⟨zu, zu, o, ho, r⟩ := hR.wd.ob _ _ hb
  obtain ⟨zu, zu, od, hod, rd⟩ := hR.wd.ob _ _ hd
  obtain ⟨kvs, hm, sv⟩ := hR.dictOf hd
  obtain ⟨h1, h2, es, h3⟩ := rd.dictObj
  (refine OR.fieldsC r fun us r1 r2 r3 r4 r5 => ?_; clear r)
  refine VRs.consC r5 fun zv zw zo a1 r5_a => ?_; clear r5; subst zo
  refine VRs.consC r5_a fun zv zw zo a2 r5_b => ?_; clear r5_a; subst zo
  (have zc := VRs.nilI r5_b; clear r5_b; subst zc); (have zc := VR.valI a1; clear a1; subst zc); (have zc := VR.refI a2; clear a2; subst zc)
  refine ⟨⟨.machine, ?_⟩, ?_⟩
  · obtain ⟨c, dct, dat, sl⟩ := o
    dsimp only at r1 r2 r3 r4
    subst r1 r2 r3 r4
    exact (Looks.ld ho).andThen (Looks.of_pure rfl)
  · refine wpAny_call (call_bound_get ho r1 r4 hod h1 h3 ?_)
    have key : ∀ R' : Result → Shared → Prop, R' (.ok (.ret ((valueAt kvs k).getD .none))) { s with toks := s.toks + 1 } → codeAny (model C.prog C.w) A (.builtin "dict.get" ⟨[.ref d, _], []⟩) R' s := fun R' h' =>
      codeAny_builtin PySem.F.entry_dict_get (by
        rw [Around.under_plainId (show plainId "dict.get" = true by decide +kernel)]
        exact meets_dict_get (symKind C.prog C.w) d (Sym.is_of q) (hR.low hd hs) A R' s ⟨_, mapOf_of hm, h'⟩)
    exact key _ (Post.of (get_val sv k) (hR.tok _) h)
end
end
section
noncomputable abbrev genE (r : FdRest) (L : Addr) : Env := callEnv (r.fd genP .none) L 94
variable {C : Cf} {A : Around} {s : Shared} {env : Env} {σ : ASt} {F G : FH} {hp : HP}
noncomputable def pos0 : Pos := ⟨0, 0, 0, 0⟩
noncomputable def forParts : List Stmt → Expr × List Stmt
  | .For t _ b _ _ :: _ => (t, b)
  | _ => (.Name "x" pos0, [])
noncomputable def lastIf : List Stmt → List Stmt
  | [.If _ b _ _] => b
  | _ :: r => lastIf r
  | [] => []
noncomputable def outTB : Expr × List Stmt := forParts (genP.body.drop 3)
noncomputable def innTB : Expr × List Stmt := forParts (lastIf outTB.2)
noncomputable def outC (env : Env) (ea : Addr) : Code := .forLoop outTB.1 (.ref ea) outTB.2 [] env
noncomputable def innC (env : Env) (ja : Addr) : Code := .forLoop innTB.1 (.ref ja) innTB.2 [] env
noncomputable def funC (env : Env) : Code := .func genP.body env
noncomputable def shiftF (n : Int) : AV → AV
  | .tup [v, .int len] => .tup [v, .int (n - len)]
  | x => x
theorem outs_mem {key : Path → Option AV} {x : AV} : ∀ {p : Path}, x ∈ outs key p → ∃ v len, x = .tup [v, .int len]
  | [], h => by simp [outs] at h
  | c :: p, h => by
    simp only [outs, List.mem_append] at h
    rcases h with h | h
    · split at h
      · simp at h; exact ⟨_, _, h⟩
      · simp at h
    · exact outs_mem h
noncomputable def fnds (key : Path → Option AV) (u : Path) : Path → List AV
  | [] => []
  | c :: r => (outs key (u ++ [c])).map (shiftF (u ++ [c]).length) ++ fnds key (u ++ [c]) r
noncomputable def remn (key : Path → Option AV) (u : Path) (k : Nat) (rest : Path) : List AV := ((outs key u).drop k).map (shiftF u.length) ++ fnds key u rest
theorem Rp.around {A' : Around} (hR : Rp C A F G env σ s) (h : FsE A' G env) : Rp C A' F G env σ s := ⟨hR.wd, hR.fm, h⟩
noncomputable def Fr2 (env : Env) (f : Frame) : Prop := ∃ kf l p, f = .ret kf none false l (funC env) p [] ∧ kf (.ok .next) = .pure (.done (.ret .none))
noncomputable def Fr1 (env : Env) (ea : Addr) (f : Frame) : Prop := ∃ kf l p, f = .ret kf none false l (outC env ea) p [] ∧ kf (.ok .next) = .pure (.again (outC env ea))
theorem over2 (A : Around) {ea : Addr} {f : Frame} (h : Fr2 env f) : (A.over (outC env ea) [f]).handled = A.handled ∧ (A.over (outC env ea) [f]).depth = A.depth + 1 ∧ (A.over (outC env ea) [f]).frames = A.frames.map (env :: ·) := by
  obtain ⟨kf, l, p, rfl, zu⟩ := h
  refine ⟨rfl, ?_, ?_⟩
  · rfl
  · obtain ⟨hd, dp, fr, gu, un⟩ := A; cases fr <;> rfl
theorem over1 (A : Around) {ea ja : Addr} {f f' : Frame} (h1 : Fr1 env ea f) (h : Fr2 env f') : (A.over (innC env ja) [f, f']).handled = A.handled ∧ (A.over (innC env ja) [f, f']).depth = A.depth + 1 ∧ (A.over (innC env ja) [f, f']).frames = A.frames.map (env :: ·) := by
  obtain ⟨kf, l, p, rfl, zu⟩ := h
  obtain ⟨kf1, l1, p1, rfl, zu⟩ := h1
  refine ⟨rfl, ?_, ?_⟩
  · rfl
  · obtain ⟨hd, dp, fr, gu, un⟩ := A; cases fr <;> rfl
theorem over0 (A : Around) : (A.over (funC env) []).handled = A.handled ∧ (A.over (funC env) []).depth = A.depth + 1 ∧ (A.over (funC env) []).frames = A.frames.map (env :: ·) := by
  refine ⟨rfl, ?_, ?_⟩
  · rfl
  · obtain ⟨hd, dp, fr, gu, un⟩ := A; cases fr <;> rfl
theorem FsE.mk {A' : Around} (h : A'.frames = A.frames.map (env :: ·)) (hf : Fs A G) (hk : env.scope.kind = .function) (hl : env.frame = some env.locals) : FsE A' G env := by
  obtain ⟨l, h1, h2⟩ := hf
  exact ⟨env, l, by rw [h, h1]; rfl, by rw [hk]; decide, rfl, .inl ⟨rfl, hl⟩, h2⟩
noncomputable def Shape (C : Cf) (env : Env) (ea ja : Addr) (gs : GenState) : Prop :=
  ∃ k l p f1 f2, gs = .suspended k l (innC env ja) p [f1, f2] false ∧ Fr1 env ea f1 ∧ Fr2 env f2 ∧
    ∀ A s P, SegX (model C.prog C.w) A (innC env ja) (.pure (.again (innC env ja))) [f1, f2] s P → SegX (model C.prog C.w) A (innC env ja) (k (.send .none)) [f1, f2] s P
structure GSus (C : Cf) (X : Trie) (env : Env) (hp : HP) (ga ea ia ba ja : Addr) (g : Nat) (u : Path) (k : Nat) (rest : Path) : Prop where
  gen : ∃ gs, hp ga = some (.gen g gs) ∧ Shape C env ea ja gs
  frm : hp env.locals = some (.frame [("zero_state", .ref (X.A [])), ("zero_transitions_get", .ref ba), ("current_state", .ref (X.A (suf X.D u))), ("idx", .int ((u.length : Int) - 1))])
  bnd : hp ba = some (bget (X.T []))
  enm : ∃ old, hp ea = some (enumO ia u.length old)
  src : Src ia u.length (rest.map Sym.av) hp
  itr : hp ja = some (.itr "tuple_iterator" [.tup (outs X.key u), .val (.int k 0)])
  nji : ja ≠ ia
noncomputable def GPost (C : Cf) (X : Trie) (env : Env) (G F₀ : FH) (hp₀ : HP) (ga ea ia ba jx : Addr) (g : Nat) (rem : List AV) (e : End) (s' : Shared) : Prop :=
  ∃ F' hp', Ext F₀ F' ∧ Wd C F' G hp' (s'.setGen g e.genState) ∧ (∀ a, hp₀ a ≠ none → a ≠ ga → a ≠ ea → a ≠ ia → a ≠ env.locals → a ≠ jx → hp' a = hp₀ a) ∧
    match rem with
    | [] => e = .ret (.ok (.ret .none))
    | y :: ys => ∃ v u k rest ja, e.result = .yielded v ∧ VR F' y v ∧ GSus C X env hp' ga ea ia ba ja g u k rest ∧ ys = remn X.key u k rest ∧ (hp₀ ja = none ∨ ja = jx)
theorem auto_step (T : Tp C) {r : FdRest} {L : Addr} {X : Trie} {t d : Addr} {ci : Bool} {ba : Addr} {u : Path} {c : Sym} (hX : X.Ph3) (hr : Rep X t d true ci σ.hp) (hb : σ.hp ba = some (bget (X.T [])))
    (l1 : σ.v "zero_state" = some (.ref (X.A []))) (l2 : σ.v "zero_transitions_get" = some (.ref ba)) (l3 : σ.v "current_state" = some (.ref (X.A (suf X.D u)))) (l4 : σ.v "symbol" = some c.av)
    {Q : AFlow → ASt → Prop} {st : Stmt} (hst : outTB.2.head? = some st)
    (h1 : ∀ σ', σ'.hp = σ.hp → σ'.v "zero_state" = some (.ref (X.A [])) → σ'.v "zero_transitions_get" = some (.ref ba) → σ'.v "idx" = σ.v "idx" → σ'.v "current_state" = some (.ref (X.A [])) → suf X.D (u ++ [c]) = [] → Q .cont σ')
    (h2 : ∀ σ', σ'.hp = σ.hp → σ'.v "zero_state" = some (.ref (X.A [])) → σ'.v "zero_transitions_get" = some (.ref ba) → σ'.v "idx" = σ.v "idx" → σ'.v "next_state" = some (.ref (X.A (suf X.D (u ++ [c])))) → Q .next σ') :
    Ex C A NoE (genE r L) st σ Q := by
  have hw := hX.wf
  have hpD := suf_mem hw.pc u
  have hroot := hX.dn [] hw.root
  obtain ⟨ep0, ht0⟩ := hr.td [] hw.root
  have hz : at? (X.trv []) c = (full X.D [] c).map fun q => .ref (X.A q) := by rw [Trie.at_trv, hroot.2 c]
  have hsuf : suf X.D (u ++ [c]) = suf X.D (suf X.D u ++ [c]) := suf_suf hw.pc u c
  generalize hp : suf X.D u = p at *
  (have zc := Option.some.inj hst; clear hst; subst zc)
  refine Ex_If (Et_Cmp (Ev_Name l3 (Ev_Name l1 (n_is hr hpD hw.root ⟨_, rfl, ?_⟩))))
  by_cases h0 : p = []
  · subst h0
    simp only [decide_true, if_true]
    refine Exs_cons (Ex_Assign_Name (Ev_Call (Ev_Name l2 (EvL_e (Ev_Name l4 (EvL_0 (EvA_0 (call_bget T.sysm hb ht0 ?_))))))))
    rw [hz]
    cases hf : full X.D [] c with
    | none =>
      refine Exs_cons (Ex_If (Et_Cmp (Ev_Name lk_eq (Ev_none (is_none_none ⟨_, rfl, ?_⟩)))))
      simp only [if_true]
      exact Exs_cons (Ex_Continue (h1 _ rfl (lk_ne l1) (lk_ne l2) (lk_ne rfl) (lk_ne l3) (by rw [hsuf]; exact lss_root hf)))
    | some q =>
      refine Exs_cons (Ex_If (Et_Cmp (Ev_Name lk_eq (Ev_none (is_none ⟨_, rfl⟩ ⟨_, rfl, ?_⟩)))))
      refine Exs_nil (Exs_nil (h2 _ rfl (lk_ne l1) (lk_ne l2) (lk_ne rfl) ?_))
      rw [hsuf, lss_hit hf]; exact lk_eq
  · simp only [h0, decide_false]
    obtain ⟨ep, htp⟩ := hr.td p hpD
    have hat : at? (X.trv p) c = (full X.D p c).map fun q => .ref (X.A q) := by rw [Trie.at_trv, (hX.dn p hpD).2 c]
    refine Exs_cons (Ex_Assign_Name (Ev_Meth (Ev_Attr (Ev_Name l3 (ng_tr T hr hpD (m_get htp (EvL_e (Ev_Name l4 (EvL_0 (EvA_0 (dict_get T.sysm htp ?_)))))))))))
    rw [hat]
    cases hf : full X.D p c with
    | some q =>
      refine Exs_cons (Ex_If (Et_Cmp (Ev_Name lk_eq (Ev_none (is_none ⟨_, rfl⟩ ⟨_, rfl, ?_⟩)))))
      refine Exs_nil (Exs_nil (h2 _ rfl (lk_ne l1) (lk_ne l2) (lk_ne rfl) ?_))
      rw [hsuf, lss_hit hf]; exact lk_eq
    | none =>
      refine Exs_cons (Ex_If (Et_Cmp (Ev_Name lk_eq (Ev_none (is_none_none ⟨_, rfl, ?_⟩)))))
      simp only [if_true]
      refine Exs_cons (Ex_Assign_Name (Ev_Call (Ev_Name (lk_ne l2) (EvL_e (Ev_Name (lk_ne l4) (EvL_0 (EvA_0 (call_bget T.sysm hb ht0 ?_))))))))
      rw [hz]
      have hN : fullN X.D p c = none := by simpa [full, h0] using hf
      cases hg : full X.D [] c with
      | none =>
        refine Exs_cons (Ex_If (Et_Cmp (Ev_Name lk_eq (Ev_none (is_none_none ⟨_, rfl, ?_⟩)))))
        simp only [if_true]
        refine Exs_cons (Ex_Assign_Name (Ev_Name (lk_ne (lk_ne l1)) ?_))
        have : [c] ∉ X.D := by
          intro hm
          simp [full, kidA, hm] at hg
        exact Exs_cons (Ex_Continue (h1 _ rfl (lk_ne (lk_ne (lk_ne l1))) (lk_ne (lk_ne (lk_ne l2))) (lk_ne (lk_ne (lk_ne rfl))) lk_eq (by rw [hsuf, suf_snoc, hN]; simp [this])))
      | some q =>
        have hm : [c] ∈ X.D ∧ q = [c] := by
          simp only [full, kidA, if_true, List.nil_append] at hg
          split at hg
          · (have zc := Option.some.inj hg; clear hg; subst zc); rename_i hm; exact ⟨hm, rfl⟩
          · exact ns_ne hg
        refine Exs_cons (Ex_If (Et_Cmp (Ev_Name lk_eq (Ev_none (is_none ⟨_, rfl⟩ ⟨_, rfl, ?_⟩)))))
        refine Exs_nil (Exs_nil (Exs_nil (h2 _ rfl (lk_ne (lk_ne l1)) (lk_ne (lk_ne l2)) (lk_ne (lk_ne rfl)) ?_)))
        rw [hsuf, suf_snoc, hN, Option.getD_none, if_pos hm.1, hm.2]; exact lk_eq
theorem Src.keep {ia : Addr} {i : Nat} {rest : List AV} {hp' : HP} (h : Src ia i rest hp) (e : hp' ia = hp ia) (k : ∀ l zs, hp l = some (.list zs) → hp' l = some (.list zs)) : Src ia i rest hp' := by
  cases h with
  | str a b => exact .str (e.trans a) b
theorem lookup_mem : ∀ {l : List (Str × AV)} {x : Str} {v : AV}, l.lookup x = some v → (x, v) ∈ l
  | [], _, _, h => by exact ns_ne h
  | (y, u) :: l, x, v, h => by
    simp only [List.lookup] at h
    split at h
    · rename_i q; (have zc := Option.some.inj h; clear h; subst zc); rw [beq_iff_eq.mp q]; exact List.mem_cons_self ..
    · exact List.mem_cons_of_mem _ (lookup_mem h)
theorem remn_step {key : Path → Option AV} {u : Path} {k : Nat} {rest : Path} {x : AV} (h : (outs key u)[k]? = some x) : remn key u k rest = shiftF u.length x :: remn key u (k + 1) rest := by
  obtain ⟨hlt, rfl⟩ := List.getElem?_eq_some_iff.mp h
  simp only [remn]
  rw [List.drop_eq_getElem_cons hlt]; rfl
theorem inn_shape : ∃ p1 p2 tn tp b, innTB = (Expr.Tuple [.Name "keyword" p1, .Name "keyword_length" p2] tn tp, b) := ⟨_, _, _, _, _, rfl⟩
theorem out_shape : ∃ p1 p2 tn tp b, outTB = (Expr.Tuple [.Name "idx" p1, .Name "symbol" p2] tn tp, b) := ⟨_, _, _, _, _, rfl⟩
structure GIn (X : Trie) (t d : Addr) (ci : Bool) (env : Env) (hp₀ : HP) (ga ea ia ba jx : Addr) (g : Nat) (u rest : Path) (σ : ASt) : Prop where
  rep : Rep X t d true ci σ.hp
  gen : σ.hp ga = some (.gen g .running)
  bnd : σ.hp ba = some (bget (X.T []))
  enm : ∃ old, σ.hp ea = some (enumO ia u.length old)
  src : Src ia u.length (rest.map Sym.av) σ.hp
  l1 : σ.v "zero_state" = some (.ref (X.A []))
  l2 : σ.v "zero_transitions_get" = some (.ref ba)
  l3 : σ.v "current_state" = some (.ref (X.A (suf X.D u)))
  fr : ∀ a, hp₀ a ≠ none → a ≠ ga → a ≠ ea → a ≠ ia → a ≠ env.locals → a ≠ jx → σ.hp a = hp₀ a
theorem gen_yield (T : Tp C) {r : FdRest} {L : Addr} {X : Trie} {t d : Addr} {ci : Bool} {hp₀ : HP} {F₀ : FH} {ga ea ia ba ja jx : Addr} {g : Nat} {u rest : Path} {k : Nat} {x : AV} {f1 f2 : Frame} (hA : A.handled = none)
    (hf1 : Fr1 (genE r L) ea f1) (hf2 : Fr2 (genE r L) f2) (e₀ : Ext F₀ F) (hR : Rp C (A.over (innC (genE r L) ja) [f1, f2]) F G (genE r L) σ s)
    (I : GIn X t d ci (genE r L) hp₀ ga ea ia ba jx g u rest σ) (hi : σ.v "idx" = some (.int ((u.length : Int) - 1))) (hja : σ.hp ja = some (.itr "tuple_iterator" [.tup (outs X.key u), .val (.int k 0)])) (hx : (outs X.key u)[k]? = some x) (hj0 : hp₀ ja = none ∨ ja = jx) (hji : ja ≠ ia) :
    SegX (model C.prog C.w) A (innC (genE r L) ja) (denote table (innC (genE r L) ja)) [f1, f2] s (GPost C X (genE r L) G F₀ hp₀ ga ea ia ba jx g (remn X.key u k rest)) := by
  obtain ⟨o1, o2, o3⟩ := over1 (env := genE r L) (ea := ea) (ja := ja) A hf1 hf2
  have hA' : (A.over (innC (genE r L) ja) [f1, f2]).handled = none := o1.trans hA
  obtain ⟨v, len, rfl⟩ := outs_mem (List.mem_of_getElem? hx)
  obtain ⟨p1, p2, tn, tp, b, hsh⟩ := inn_shape
  have hlt : ∀ it v, letOwnedTupleGo innTB.1 it v = letOwnedTupleGo (.Tuple [.Name "keyword" p1, .Name "keyword_length" p2] tn tp) it v := fun zu zu => by rw [hsh]
  have has : ∀ env v, assign innTB.1 env v = assign (.Tuple [.Name "keyword" p1, .Name "keyword_length" p2] tn tp) env v := fun zu zu => by rw [hsh]
  refine sx_forLoop (wpAny_mono (tupit_turn (elts := [.Name "keyword" p1, .Name "keyword_length" p2]) (tn := tn) (tpos := tp) hA' hR hja hx) (fun res s₁ z => ?_) fun zu zu x => x.elim)
  obtain ⟨pv, rfl, z⟩ := z
  dsimp only
  rw [hlt]
  refine wpAny_mono z (fun zu s₂ z => ?_) fun zu zu x => x.elim
  obtain ⟨hpv, hR2⟩ := z
  rw [has]
  have hasg : AsgA C (A.over (innC (genE r L) ja) [f1, f2]) (genE r L) (.Tuple [.Name "keyword" p1, .Name "keyword_length" p2] tn tp) (.tup [v, .int len]) (σ.put ja (.itr "tuple_iterator" [.tup (outs X.key u), .val (.int (k + 1 : Nat) 0)]))
    (fun σ' => σ' = (ASt.set (ASt.set (σ.put ja (.itr "tuple_iterator" [.tup (outs X.key u), .val (.int (k + 1 : Nat) 0)])) "keyword" v) "keyword_length" (.int len))) := Asg_Pair hA' rfl
  refine wpAny_mono (hasg F G s₂ pv hR2 hpv) (fun zu s₃ z => ?_) fun zu zu x => x.elim
  obtain ⟨F3, σ3, e3, hR3, rfl⟩ := z
  have hgl : ga ≠ L := HPne I.gen (show σ.hp L = none from hR.fm.lo.2.2)
  have hsplit : splitAtGen [f1, f2] = none := by
    obtain ⟨kf, l, p, rfl, zu⟩ := hf2
    obtain ⟨kf1, l1, p1, rfl, zu⟩ := hf1
    rfl
  have hgd : [f1, f2].any Frame.guarded = false := by
    obtain ⟨kf, l, p, rfl, zu⟩ := hf2
    obtain ⟨kf1, l1, p1, rfl, zu⟩ := hf1
    rfl
  have hσ3 : GIn X t d ci (genE r L) hp₀ ga ea ia ba jx g u rest (ASt.set (ASt.set (σ.put ja (.itr "tuple_iterator" [.tup (outs X.key u), .val (.int (k + 1 : Nat) 0)])) "keyword" v) "keyword_length" (.int len)) := by
    have hne : ∀ {a y}, σ.hp a = some y → (∀ c vs, y ≠ .itr c vs) → a ≠ ja := fun e h => by rintro rfl; rw [hja] at e; (have zc := Option.some.inj e; clear e; subst zc); exact h _ _ rfl
    have hjF : ¬ Fp X t d ja := fun hF => by
      rcases hF with e | e | ⟨p, hp, e | e⟩
      · rw [e, I.rep.tree] at hja; exact AO.noConfusion (Option.some.inj hja)
      · rw [e, I.rep.ns] at hja; exact AO.noConfusion (Option.some.inj hja)
      · rw [e, I.rep.nd p hp] at hja; exact AO.noConfusion (Option.some.inj hja)
      · obtain ⟨ep, q⟩ := I.rep.td p hp
        rw [e, q] at hja; exact AO.noConfusion (Option.some.inj hja)
    obtain ⟨old, he⟩ := I.enm
    refine ⟨I.rep.updOff hjF, ?_, ?_, ⟨old, ?_⟩, ?_, lk_ne (lk_ne I.l1), lk_ne (lk_ne I.l2), lk_ne (lk_ne I.l3), ?_⟩
    · exact (upd_ne _ _ (hne I.gen (by simp))).trans I.gen
    · exact (upd_ne _ _ (hne I.bnd (by simp [bget]))).trans I.bnd
    · exact (upd_ne _ _ (hne he (by simp [enumO]))).trans he
    · obtain ⟨ci', vs', hia⟩ := I.src.at
      exact I.src.keep (upd_ne _ _ hji.symm) (fun l zs hl => (upd_ne _ _ (hne hl (by simp))).trans hl)
    · intro a h1 h2 h3 h4 h5 h6
      have : a ≠ ja := by
        rintro rfl
        rcases hj0 with q | q
        · exact h1 q
        · exact h6 q
      exact (upd_ne _ _ this).trans (I.fr a h1 h2 h3 h4 h5 h6)
  refine sx_cons (sx_yield (Q := fun a σ' => a = .tup [v, .int ((u.length : Int) - len)] ∧ σ' = (ASt.set (ASt.set (σ.put ja (.itr "tuple_iterator" [.tup (outs X.key u), .val (.int (k + 1 : Nat) 0)])) "keyword" v) "keyword_length" (.int len))) hsplit rfl hgd ?_ hR3 ?_)
  · refine Ev_Tuple (EvL_e (Ev_Name (lk_ne lk_eq) (EvL_e (Ev_Bin (Ev_Bin (Ev_Name (lk_ne (lk_ne hi)) (Ev_int (int_add (Ev_Name lk_eq (int_sub (EvL_0 ⟨by simp, ?_, rfl⟩)))))))))))
    rw [show (u.length : Int) - 1 + 1 - len = u.length - len by omega]
  rintro F4 a σ4 vy s4 e4 hvy hR4 ⟨rfl, rfl⟩ kf l p hk
  have W1 := hR4.susp (loc := [("zero_state", .ref (X.A [])), ("zero_transitions_get", .ref ba), ("current_state", .ref (X.A (suf X.D u))), ("idx", .int ((u.length : Int) - 1))]) (fun x av hx => by
    have := lookup_mem hx
    simp only [List.mem_cons, Prod.mk.injEq, List.not_mem_nil, or_false] at this
    rcases this with ⟨rfl, rfl⟩ | ⟨rfl, rfl⟩ | ⟨rfl, rfl⟩ | ⟨rfl, rfl⟩
    · exact ⟨hσ3.l1, by rfl⟩
    · exact ⟨hσ3.l2, by rfl⟩
    · exact ⟨hσ3.l3, by rfl⟩
    · exact ⟨lk_ne (lk_ne hi), by rfl⟩)
  have hge : (End.susp vy false l kf (innC (genE r L) ja) p [f1, f2]).genState = .suspended kf l (innC (genE r L) ja) p [f1, f2] false := by
    simp only [End.genState, hgd, Bool.or_false]
  have W2 := W1.setGen (ga := ga) (g := g) (gs' := .suspended kf l (innC (genE r L) ja) p [f1, f2] false) ((upd_ne _ _ hgl).trans hσ3.gen) rfl
  have hLn : ∀ {a y}, (ASt.set (ASt.set (σ.put ja (.itr "tuple_iterator" [.tup (outs X.key u), .val (.int (k + 1 : Nat) 0)])) "keyword" v) "keyword_length" (.int len)).hp a = some y → a ≠ L := fun e => HPne e (show _ = none from hR3.fm.lo.2.2)
  refine ⟨F4, _, e₀.trans (e3.trans e4), (congrArg (fun z => Wd C F4 G _ (s4.setGen g z)) hge).mpr W2, ?_, ?_⟩
  · intro a h1 h2 h3 h4 h5 h6
    rw [upd_ne _ _ h2, upd_ne _ _ h5]
    exact hσ3.fr a h1 h2 h3 h4 h5 h6
  · rw [remn_step hx]
    refine ⟨vy, u, k + 1, rest, ja, rfl, hvy, ⟨⟨_, upd_self _ _ _, kf, l, p, f1, f2, rfl, hf1, hf2, hk⟩, ?_, ?_, ?_, ?_, ?_, hji⟩, rfl, hj0⟩
    · exact (upd_ne _ _ hgl.symm).trans (upd_self _ _ _)
    · have h1 : ba ≠ ga := by rintro rfl; have := hσ3.bnd; rw [hσ3.gen] at this; exact AO.noConfusion (Option.some.inj this)
      exact (upd_ne _ _ h1).trans ((upd_ne _ _ (hLn hσ3.bnd)).trans hσ3.bnd)
    · obtain ⟨old, he⟩ := hσ3.enm
      have h1 : ea ≠ ga := by rintro rfl; rw [hσ3.gen] at he; exact AO.noConfusion (Option.some.inj he)
      exact ⟨old, (upd_ne _ _ h1).trans ((upd_ne _ _ (hLn he)).trans he)⟩
    · obtain ⟨c', vs', hia⟩ := hσ3.src.at
      have h1 : ia ≠ ga := by rintro rfl; rw [hσ3.gen] at hia; exact AO.noConfusion (Option.some.inj hia)
      refine hσ3.src.keep ((upd_ne _ _ h1).trans (upd_ne _ _ (hLn hia))) (fun l zs hl => ?_)
      have h2 : l ≠ ga := by rintro rfl; rw [hσ3.gen] at hl; exact AO.noConfusion (Option.some.inj hl)
      exact (upd_ne _ _ h2).trans ((upd_ne _ _ (hLn hl)).trans hl)
    · have hj : (ASt.set (ASt.set (σ.put ja (.itr "tuple_iterator" [.tup (outs X.key u), .val (.int (k + 1 : Nat) 0)])) "keyword" v) "keyword_length" (.int len)).hp ja = some (.itr "tuple_iterator" [.tup (outs X.key u), .val (.int (k + 1 : Nat) 0)]) := upd_self _ _ _
      have h1 : ja ≠ ga := by rintro rfl; rw [hσ3.gen] at hj; exact AO.noConfusion (Option.some.inj hj)
      exact (upd_ne _ _ h1).trans ((upd_ne _ _ (hLn hj)).trans hj)
end
section
variable {C : Cf} {A : Around} {s : Shared} {σ : ASt} {F G : FH}
theorem gen_outer (T : Tp C) {r : FdRest} {L : Addr} {X : Trie} {t d : Addr} {ci : Bool} {hp₀ : HP} {F₀ : FH} {ga ea ia ba jx : Addr} {g : Nat} {f2 : Frame} (hA : A.handled = none) (hFs : Fs A G) (hX : X.Ph3) (hz : ∀ p ∈ X.D, p.length ≤ 1000)
    (hf2 : Fr2 (genE r L) f2) : ∀ (rest u : Path) (F : FH) (σ : ASt) (s : Shared), Ext F₀ F → Rp C (A.over (outC (genE r L) ea) [f2]) F G (genE r L) σ s →
    GIn X t d ci (genE r L) hp₀ ga ea ia ba jx g u rest σ →
    SegX (model C.prog C.w) A (outC (genE r L) ea) (denote table (outC (genE r L) ea)) [f2] s (GPost C X (genE r L) G F₀ hp₀ ga ea ia ba jx g (fnds X.key u rest)) := by
  obtain ⟨o1, o2, o3⟩ := over2 (env := genE r L) (ea := ea) A hf2
  have hA' : (A.over (outC (genE r L) ea) [f2]).handled = none := o1.trans hA
  have hfsO : FsE (A.over (outC (genE r L) ea) [f2]) G (genE r L) := FsE.mk o3 hFs (by rfl) (by rfl)
  obtain ⟨p1, p2, tn, tp, b, hsh⟩ := out_shape
  have hlt : ∀ it v, letOwnedTupleGo outTB.1 it v = letOwnedTupleGo (.Tuple [.Name "idx" p1, .Name "symbol" p2] tn tp) it v := fun zu zu => by rw [hsh]
  have has : ∀ env v, assign outTB.1 env v = assign (.Tuple [.Name "idx" p1, .Name "symbol" p2] tn tp) env v := fun zu zu => by rw [hsh]
  intro rest
  induction rest with
  | nil =>
    intro u F σ s e₀ hR I
    obtain ⟨old, he⟩ := I.enm
    refine sx_forLoop (wpAny_mono (enum_end hA' hR he I.src) (fun res s₁ z => ?_) fun zu zu x => x.elim)
    obtain ⟨rfl, hR1⟩ := z
    obtain ⟨ci', vi', hia⟩ := I.src.at
    have hgi : ga ≠ ia := by rintro rfl; rw [I.gen] at hia; exact AO.noConfusion (Option.some.inj hia)
    obtain ⟨kf, l, p, rfl, hk⟩ := hf2
    refine s_pop C.prog C.w A _ [] _ s₁ (.ok .next) _ rfl kf none false l _ p [] ?_
    rw [hk]
    refine s_end C.prog C.w A _ _ s₁ (.ok (.ret .none)) _ rfl ?_
    refine ⟨F, _, e₀, hR1.wd.setGen (ga := ga) (g := g) (gs' := .finished) (show (if ga ∈ [ia] then none else σ.hp ga) = _ by rw [if_neg (by simpa using hgi)]; exact I.gen) rfl, ?_, rfl⟩
    intro a h1 h2 h3 h4 h5 h6
    rw [upd_ne _ _ h2]
    show (if a ∈ [ia] then none else σ.hp a) = _
    rw [if_neg (by simpa using h4)]
    exact I.fr a h1 h2 h3 h4 h5 h6
  | cons c rest ih =>
    intro u F σ s e₀ hR I
    obtain ⟨old, he⟩ := I.enm
    obtain ⟨ci', vi', hia⟩ := I.src.at
    have hgi : ga ≠ ia := by rintro rfl; rw [I.gen] at hia; exact AO.noConfusion (Option.some.inj hia)
    have hge : ga ≠ ea := by rintro rfl; rw [I.gen] at he; exact AO.noConfusion (Option.some.inj he)
    have hbe : ba ≠ ea := by rintro rfl; have := I.bnd; rw [he] at this; simp [enumO, bget] at this
    have hbi : ba ≠ ia := by rintro rfl; have := I.bnd; rw [hia] at this; exact AO.noConfusion (Option.some.inj this)
    have hul : (u ++ [c]).length = u.length + 1 := by simp
    refine sx_forLoop (wpAny_mono (enum_turn (elts := [.Name "idx" p1, .Name "symbol" p2]) (tn := tn) (tpos := tp) hA' hR he (x := c.av) (rest := rest.map Sym.av) I.src) (fun res s₁ z => ?_) fun zu zu x => x.elim)
    obtain ⟨pv, rfl, z⟩ := z
    dsimp only
    rw [hlt]
    refine wpAny_mono z (fun zu s₂ z => ?_) fun zu zu x => x.elim
    obtain ⟨F2, y, e2, hpv, ⟨yc, yv, rfl⟩, hsrc, hR2⟩ := z
    rw [has]
    generalize hhp : upd (upd σ.hp ia (.itr yc yv)) ea (enumO ia (u.length + 1) c.av) = hp2 at hR2 hsrc
    have hasg : AsgA C (A.over (outC (genE r L) ea) [f2]) (genE r L) (.Tuple [.Name "idx" p1, .Name "symbol" p2] tn tp) (.tup [.int u.length, c.av]) { σ with hp := hp2 }
      (fun σ' => σ' = (ASt.set (ASt.set { σ with hp := hp2 } "idx" (.int u.length)) "symbol" c.av)) := Asg_Pair hA' rfl
    refine wpAny_mono (hasg F2 G s₂ pv hR2 hpv) (fun zu s₃ z => ?_) fun zu zu x => x.elim
    obtain ⟨F3, σ3, e3, hR3, rfl⟩ := z
    have nF : ∀ {a}, Fp X t d a → a ≠ ia ∧ a ≠ ea := fun {a} hF => by
      have hs := I.rep
      constructor <;> rintro rfl
      · rcases hF with e | e | ⟨p, hp, e | e⟩
        · rw [e, hs.tree] at hia; exact AO.noConfusion (Option.some.inj hia)
        · rw [e, hs.ns] at hia; exact AO.noConfusion (Option.some.inj hia)
        · rw [e, hs.nd p hp] at hia; exact AO.noConfusion (Option.some.inj hia)
        · obtain ⟨ep, q⟩ := hs.td p hp
          rw [e, q] at hia; exact AO.noConfusion (Option.some.inj hia)
      · rcases hF with e | e | ⟨p, hp, e | e⟩
        · rw [e, hs.tree] at he; exact AO.noConfusion (Option.some.inj he)
        · rw [e, hs.ns] at he; exact AO.noConfusion (Option.some.inj he)
        · rw [e, hs.nd p hp] at he; exact AO.noConfusion (Option.some.inj he)
        · obtain ⟨ep, q⟩ := hs.td p hp
          rw [e, q] at he; exact AO.noConfusion (Option.some.inj he)
    have hr2 : Rep X t d true ci hp2 := hhp ▸ I.rep.off (fun a hF => (upd_ne _ _ (nF hF).2).trans (upd_ne _ _ (nF hF).1))
    have hg2 : hp2 ga = some (.gen g .running) := hhp ▸ (upd_ne _ _ hge).trans ((upd_ne _ _ hgi).trans I.gen)
    have hb2 : hp2 ba = some (bget (X.T [])) := hhp ▸ (upd_ne _ _ hbe).trans ((upd_ne _ _ hbi).trans I.bnd)
    have he2 : hp2 ea = some (enumO ia (u ++ [c]).length c.av) := by rw [hul]; exact hhp ▸ upd_self _ _ _
    have hs2 : Src ia (u ++ [c]).length (rest.map Sym.av) hp2 := by rw [hul]; exact hsrc
    have hfr2 : ∀ a, hp₀ a ≠ none → a ≠ ga → a ≠ ea → a ≠ ia → a ≠ L → a ≠ jx → hp2 a = hp₀ a := fun a h1 h2 h3 h4 h5 h6 => hhp ▸ (upd_ne _ _ h3).trans ((upd_ne _ _ h4).trans (I.fr a h1 h2 h3 h4 h5 h6))
    have hou : outs X.key (u ++ [c]) = outs X.key (suf X.D (u ++ [c])) := outs_suf hX.wf.mkD _
    have again : ∀ (σ' : ASt) (F' : FH) (s' : Shared), Ext F₀ F' → Rp C (A.over (outC (genE r L) ea) [f2]) F' G (genE r L) σ' s' → σ'.hp = hp2 → σ'.v "zero_state" = some (.ref (X.A [])) → σ'.v "zero_transitions_get" = some (.ref ba) →
        σ'.v "current_state" = some (.ref (X.A (suf X.D (u ++ [c])))) → outs X.key (u ++ [c]) = [] →
        SegX (model C.prog C.w) A (outC (genE r L) ea) (.pure (.again (outC (genE r L) ea))) [f2] s' (GPost C X (genE r L) G F₀ hp₀ ga ea ia ba jx g (fnds X.key u (c :: rest))) := by
      intro σ' F' s' e' hR' eh k1 k2 k3 ho
      refine s_again C.prog C.w A _ [f2] _ s' _ rfl ?_
      have : fnds X.key u (c :: rest) = fnds X.key (u ++ [c]) rest := by simp only [fnds, ho, List.map_nil, List.nil_append]
      rw [this]
      exact ih (u ++ [c]) F' σ' s' e' hR' ⟨eh ▸ hr2, eh ▸ hg2, eh ▸ hb2, ⟨_, eh ▸ he2⟩, eh ▸ hs2, k1, k2, k3, eh ▸ hfr2⟩
    refine sx_cons (sx_tr (auto_step (σ := (ASt.set (ASt.set { σ with hp := hp2 } "idx" (.int u.length)) "symbol" c.av)) (Q := fun f σ' => (f = .cont ∧ σ'.hp = hp2 ∧ σ'.v "zero_state" = some (.ref (X.A [])) ∧ σ'.v "zero_transitions_get" = some (.ref ba) ∧ σ'.v "current_state" = some (.ref (X.A [])) ∧ suf X.D (u ++ [c]) = []) ∨
        (f = .next ∧ σ'.hp = hp2 ∧ σ'.v "zero_state" = some (.ref (X.A [])) ∧ σ'.v "zero_transitions_get" = some (.ref ba) ∧ σ'.v "idx" = some (.int u.length) ∧ σ'.v "next_state" = some (.ref (X.A (suf X.D (u ++ [c]))))))
      T (ba := ba) (u := u) (c := c) hX hr2 hb2 (lk_ne (lk_ne I.l1)) (lk_ne (lk_ne I.l2)) (lk_ne (lk_ne I.l3)) lk_eq rfl (fun σ' a1 a2 a3 zu a4 a5 => .inl ⟨rfl, a1, a2, a3, a4, a5⟩) (fun σ' a1 a2 a3 a4 a5 => .inr ⟨rfl, a1, a2, a3, a4.trans (lk_ne lk_eq), a5⟩)) hR3 ?_)
    rintro F4 f σ4 v4 s4 e4 hfl hR4 q
    have ex4 := e₀.trans (e2.trans (e3.trans e4))
    rcases q with ⟨rfl, a1, a2, a3, a4, a5⟩ | ⟨rfl, a1, a2, a3, a4, a5⟩
    · cases hfl
      exact again σ4 F4 s4 ex4 hR4 a1 a2 a3 (by rw [a5]; exact a4) (by rw [hou, a5]; rfl)
    · cases hfl
      have hsD := suf_mem hX.wf.pc (u ++ [c])
      have hout : X.out (suf X.D (u ++ [c])) = some (.tup (outs X.key (u ++ [c]))) := by rw [hX.out _ hsD, ← hou]
      have hol : (outs X.key (u ++ [c])).length ≤ 100000 := by
        rw [hou]
        have h1 := outs_len X.key (suf X.D (u ++ [c]))
        have h2 := hz _ hsD
        omega
      have hr4 : Rep X t d true ci σ4.hp := a1 ▸ hr2
      refine sx_cons (sx_tr (Ex_Assign_Name (Q := fun f σ' => f = .next ∧ σ' = σ4.set "current_state" (.ref (X.A (suf X.D (u ++ [c]))))) (Ev_Name a5 ⟨rfl, rfl⟩)) hR4 ?_)
      (rintro F5 f σ5 v5 s5 e5 hfl hR5; intro zr; obtain ⟨rfl, rfl⟩ := zr)
      cases hfl
      refine sx_cons (sx_tr (Ex_Assign_Name (Q := fun f σ' => f = .next ∧ σ' = ASt.set (σ4.set "current_state" (.ref (X.A (suf X.D (u ++ [c]))))) "outputs" (.tup (outs X.key (u ++ [c])))) (Ev_Attr (Ev_Name lk_eq (ng_out (σ := σ4.set "current_state" (.ref (X.A (suf X.D (u ++ [c]))))) T hr4 hsD hout ⟨rfl, rfl⟩ (by simp))))) hR5 ?_)
      (rintro F6 f σ6 v6 s6 e6 hfl hR6; intro zr; obtain ⟨rfl, rfl⟩ := zr)
      cases hfl
      have ex6 := ex4.trans (e5.trans e6)
      refine sx_cons (sx_If (Q := fun b σ' => b = (!(outs X.key (u ++ [c])).isEmpty) ∧ σ' = ASt.set (σ4.set "current_state" (.ref (X.A (suf X.D (u ++ [c]))))) "outputs" (.tup (outs X.key (u ++ [c])))) (Et_plain (Ev_Name lk_eq (truthy_tup hol ⟨rfl, rfl⟩))) hR6 ?_)
      (rintro F7 bb σ7 s7 e7 hR7; intro zr; obtain ⟨rfl, rfl⟩ := zr)
      have ex7 := ex6.trans e7
      cases hO : outs X.key (u ++ [c]) with
      | nil =>
        rw [hO] at hR7
        exact again _ F7 s7 ex7 hR7 a1 (lk_ne (lk_ne a2)) (lk_ne (lk_ne a3)) (lk_ne lk_eq) hO
      | cons x os =>
        have hx0 : (outs X.key (u ++ [c]))[0]? = some x := by rw [hO]; rfl
        show SegX _ A _ ((execs _ _).wrap _ _ _ _) _ _ _
        refine sx_cons (sx_For (Q := fun a σ' => a = .tup (outs X.key (u ++ [c])) ∧ σ' = ASt.set (σ4.set "current_state" (.ref (X.A (suf X.D (u ++ [c]))))) "outputs" (.tup (outs X.key (u ++ [c])))) (Ev_Name lk_eq ⟨rfl, rfl⟩) hR7
          (fun F' a σ' it s' => ∃ ja, it = .ref ja ∧ hp2 ja = none ∧ Rp C (A.over (outC (genE r L) ea) [f2]) F' G (genE r L) (ASt.put (ASt.set (σ4.set "current_state" (.ref (X.A (suf X.D (u ++ [c]))))) "outputs" (.tup (outs X.key (u ++ [c])))) ja (.itr "tuple_iterator" [.tup (outs X.key (u ++ [c])), .val (.int 0 0)])) s') ?_ ?_)
        · (rintro F8 a σ8 v8 s8 e8 hv8 hR8; intro zr; obtain ⟨rfl, rfl⟩ := zr)
          refine wpAny_mono (tupit_new hR8 hv8) (fun it s9 z => ?_) fun zu zu x => x.elim
          obtain ⟨ja, h1, h2, h3⟩ := z
          exact ⟨ja, h1, by rw [← a1]; exact h2, h3⟩
        · rintro F8 a σ8 it s8 e8 ⟨ja, rfl, hj2, hR8⟩ kf l p hk
          have hj8 : (ASt.put (ASt.set (σ4.set "current_state" (.ref (X.A (suf X.D (u ++ [c]))))) "outputs" (.tup (outs X.key (u ++ [c])))) ja (.itr "tuple_iterator" [.tup (outs X.key (u ++ [c])), .val (.int 0 0)])).hp ja = some (.itr "tuple_iterator" [.tup (outs X.key (u ++ [c])), .val (.int 0 0)]) := upd_self _ _ _
          have hjL : ja ≠ L := HPne hj8 (show _ = none from hR8.fm.lo.2.2)
          have hjg : ja ≠ ga := (HPne hg2 hj2).symm
          have hje : ja ≠ ea := (HPne he2 hj2).symm
          obtain ⟨c9, v9, hi2⟩ := hs2.at
          have hji : ja ≠ ia := (HPne hi2 hj2).symm
          have hjb : ja ≠ ba := (HPne hb2 hj2).symm
          have hjF : ¬ Fp X t d ja := fun hF => hr2.some hF hj2
          have hj0 : hp₀ ja = none ∨ ja = jx := by
            by_cases hjx : ja = jx
            · exact .inr hjx
            cases e : hp₀ ja with
            | none => exact .inl rfl
            | some o => rw [hfr2 ja (by rw [e]; simp) hjg hje hji hjL hjx, e] at hj2; exact sn_ne hj2
          have hF1 : Fr1 (genE r L) ea (.ret kf none false l (outC (genE r L) ea) p []) := ⟨kf, l, p, rfl, (hk .next).trans rfl⟩
          obtain ⟨q1, q2, q3⟩ := over1 (env := genE r L) (ea := ea) (ja := ja) A hF1 hf2
          have hrem : fnds X.key u (c :: rest) = remn X.key (u ++ [c]) 0 rest := by simp only [fnds, remn, List.drop_zero]
          rw [hrem]
          refine gen_yield T (t := t) (d := d) (ci := ci) (k := 0) (x := x) hA hF1 hf2 (ex7.trans e8) (hR8.around (FsE.mk q3 hFs (by rfl) (by rfl))) ⟨?_, ?_, ?_, ⟨c.av, ?_⟩, ?_, lk_ne (lk_ne a2), lk_ne (lk_ne a3), lk_ne lk_eq, ?_⟩ ?_ hj8 hx0 hj0 hji
          · exact Rep.updOff hr4 hjF
          · exact (upd_ne _ _ hjg.symm).trans (a1 ▸ hg2)
          · exact (upd_ne _ _ hjb.symm).trans (a1 ▸ hb2)
          · exact (upd_ne _ _ hje.symm).trans (a1 ▸ he2)
          · refine hs2.keep ((upd_ne _ _ hji.symm).trans (by rw [a1])) (fun l zs hl => (upd_ne _ _ (HPne hl hj2)).trans (by rw [a1]; exact hl))
          · intro a h1 h2 h3 h4 h5 h6
            exact (upd_ne _ _ (by
              rintro rfl
              rcases hj0 with q | q
              · exact h1 q
              · exact h6 q)).trans (a1 ▸ hfr2 a h1 h2 h3 h4 h5 h6)
          · have : ((u ++ [c]).length : Int) - 1 = u.length := by simp
            rw [this]; exact lk_ne (lk_ne a4)
end
section
variable {C : Cf} {A : Around} {s : Shared} {σ : ASt} {F G : FH}
theorem gen_inner (T : Tp C) {r : FdRest} {L : Addr} {X : Trie} {t d : Addr} {ci : Bool} {hp₀ : HP} {F₀ : FH} {ga ea ia ba ja : Addr} {g : Nat} {u rest : Path} {k : Nat} {f1 f2 : Frame} (hA : A.handled = none) (hFs : Fs A G) (hX : X.Ph3) (hz : ∀ p ∈ X.D, p.length ≤ 1000)
    (hf1 : Fr1 (genE r L) ea f1) (hf2 : Fr2 (genE r L) f2) (e₀ : Ext F₀ F) (hR : Rp C (A.over (innC (genE r L) ja) [f1, f2]) F G (genE r L) σ s)
    (I : GIn X t d ci (genE r L) hp₀ ga ea ia ba ja g u rest σ) (hi : σ.v "idx" = some (.int ((u.length : Int) - 1))) (hja : σ.hp ja = some (.itr "tuple_iterator" [.tup (outs X.key u), .val (.int k 0)])) (hji : ja ≠ ia) :
    SegX (model C.prog C.w) A (innC (genE r L) ja) (denote table (innC (genE r L) ja)) [f1, f2] s (GPost C X (genE r L) G F₀ hp₀ ga ea ia ba ja g (remn X.key u k rest)) := by
  cases hx : (outs X.key u)[k]? with
  | some x => exact gen_yield T hA hf1 hf2 e₀ hR I hi hja hx (.inr rfl) hji
  | none =>
    have hrem : remn X.key u k rest = fnds X.key u rest := by
      have : (outs X.key u).drop k = [] := List.drop_eq_nil_iff.mpr (List.getElem?_eq_none_iff.mp hx)
      simp only [remn, this, List.map_nil, List.nil_append]
    rw [hrem]
    obtain ⟨o1, o2, o3⟩ := over1 (env := genE r L) (ea := ea) (ja := ja) A hf1 hf2
    obtain ⟨q1, q2, q3⟩ := over2 (env := genE r L) (ea := ea) A hf2
    refine sx_forLoop (wpAny_mono (tupit_end (o1.trans hA) hR hja hx) (fun res s₁ z => ?_) fun zu zu x => x.elim)
    obtain ⟨rfl, hR1⟩ := z
    obtain ⟨kf, l, p, rfl, hk⟩ := hf1
    refine s_pop C.prog C.w A _ [f2] _ s₁ (.ok .next) _ rfl kf none false l _ p [] ?_
    rw [hk]
    refine s_again C.prog C.w A _ [f2] _ s₁ _ rfl ?_
    have hne : ∀ {a y}, σ.hp a = some y → (∀ c vs, y ≠ .itr c vs) → a ≠ ja := fun e h => by rintro rfl; rw [hja] at e; (have zc := Option.some.inj e; clear e; subst zc); exact h _ _ rfl
    have hjF : ¬ Fp X t d ja := fun hF => by
      rcases hF with e | e | ⟨p, hp, e | e⟩
      · rw [e, I.rep.tree] at hja; exact AO.noConfusion (Option.some.inj hja)
      · rw [e, I.rep.ns] at hja; exact AO.noConfusion (Option.some.inj hja)
      · rw [e, I.rep.nd p hp] at hja; exact AO.noConfusion (Option.some.inj hja)
      · obtain ⟨ep, q⟩ := I.rep.td p hp
        rw [e, q] at hja; exact AO.noConfusion (Option.some.inj hja)
    have off : ∀ a, a ≠ ja → (if a ∈ [ja] then none else σ.hp a) = σ.hp a := fun a h => if_neg (by simpa using h)
    obtain ⟨old, he⟩ := I.enm
    refine gen_outer T (t := t) (d := d) (ci := ci) hA hFs hX hz hf2 rest u F _ s₁ e₀ (hR1.around (FsE.mk q3 hFs (by rfl) (by rfl))) ⟨?_, ?_, ?_, ⟨old, ?_⟩, ?_, I.l1, I.l2, I.l3, ?_⟩
    · exact I.rep.off (fun a hF => off a (by rintro rfl; exact hjF hF))
    · exact (off _ (hne I.gen (by simp))).trans I.gen
    · exact (off _ (hne I.bnd (by simp [bget]))).trans I.bnd
    · exact (off _ (hne he (by simp [enumO]))).trans he
    · exact I.src.keep (off _ hji.symm) (fun l zs hl => (off _ (hne hl (by simp))).trans hl)
    · intro a h1 h2 h3 h4 h5 h6
      exact (off _ h6).trans (I.fr a h1 h2 h3 h4 h5 h6)
theorem resumeX {α : Type} {Q : α → Shared → Prop} {E : Value → Shared → Prop} {g : Nat} {gs : GenState} {rr : Resume} {l : List Value} {kk : GenResult → Sem α} {c₀ : Code} {t₀ : Sem Fin} {fs₀ : List Frame} (hg : s.gens[g]? = some gs)
    (hgs : (gs = .fresh c₀ ∧ rr = .send .none ∧ t₀ = denote table c₀ ∧ fs₀ = []) ∨ (∃ k₀ l₀ p₀ cl, gs = .suspended k₀ l₀ c₀ p₀ fs₀ cl ∧ t₀ = k₀ rr))
    (x : SegX (model C.prog C.w) A c₀ t₀ fs₀ (s.setGen g .running) (fun e s₁ => wpAny (model C.prog C.w) A (kk e.result) Q E (s₁.setGen g e.genState))) : wpAny (model C.prog C.w) A (.resume g rr l kk) Q E s :=
  fun Γ p hΓ => wake_any α C.prog C.w hg hgs (fun Γ => Γ.In A) (fun zu h => h) (x.mono fun zu zu h Γ p hC => h Γ p hC) Γ p hΓ
theorem pyNextX {ga : Addr} {g : Nat} {gs : GenState} {E : Value → Shared → Prop} {Q : Option Value → Shared → Prop} (hh : A.handled = none) (hl : s.heap.NoLimit) (hroom : A.depth < recursionLimit) (hg : s.heap.IsGen ga g) (hgs : s.gens[g]? = some gs) {c₀ : Code} {t₀ : Sem Fin} {fs₀ : List Frame}
    (hst : (gs = .fresh c₀ ∧ t₀ = denote table c₀ ∧ fs₀ = []) ∨ (∃ k₀ l₀ p₀ cl, gs = .suspended k₀ l₀ c₀ p₀ fs₀ cl ∧ t₀ = k₀ (.send .none)))
    (x : SegX (model C.prog C.w) A.in1 c₀ t₀ fs₀ (s.setGen g .running) (fun (e : End) (s₁ : Shared) => match e with
      | .ret r => r = .ok (.ret .none) ∧ ∀ h' : Heap, (∀ b o, s₁.heap.get? b = some o → h'.get? b = some o) → Q none { s₁.setGen g .finished with heap := h' }
      | .susp v _ _ _ _ _ _ => Q (some v) (s₁.setGen g e.genState))) : wpAny (model C.prog C.w) A (pyNext (.ref ga)) Q E s := by
  unfold pyNext
  refine wpAny_bind (wpAny_attempt (wpAny_callSpecial?_slot (name := Str.ofString "__next__") hg.typeIs slot_gen_next
    (wpAny_call_entry slot_gen_next hg.typeIs entry_gen_next ?_ (args_gen_next _))))
  show wpAny _ _ (Builtin.Generator.genWake (.ref ga) (.send .none)) _ _ s
  unfold Builtin.Generator.genWake
  refine wpAny_bind (wpAny_holding (wpAny_genNumber hg (wpAny_bind (wpAny_genState hgs ?_))))
  have hst' : (gs = .fresh c₀ ∧ Resume.send Value.none = .send .none ∧ t₀ = denote table c₀ ∧ fs₀ = []) ∨ (∃ k₀ l₀ p₀ cl, gs = .suspended k₀ l₀ c₀ p₀ fs₀ cl ∧ t₀ = k₀ (.send .none)) := hst.imp_left (fun ⟨a, b, c⟩ => ⟨a, rfl, b, c⟩)
  have fin : ∀ (kk : GenResult → Sem Fin) (Q' : Fin → Shared → Prop) (E' : Value → Shared → Prop), (∀ v s', Q (some v) s' → wpAny (model C.prog C.w) A.in1 (kk (.yielded v)) Q' E' s') →
      (∀ (s₁ : Shared), (∀ h' : Heap, (∀ b o, s₁.heap.get? b = some o → h'.get? b = some o) → Q none { s₁.setGen g .finished with heap := h' }) → wpAny (model C.prog C.w) A.in1 (kk (.returned .none)) Q' E' (s₁.setGen g .finished)) → wpAny (model C.prog C.w) A.in1 (.resume g (.send .none) [] kk) Q' E' s := by
    intro kk Q' E' h1 h2
    refine resumeX hgs hst' (x.mono fun e s₁ h => ?_)
    cases e with
    | ret r => obtain ⟨rfl, h⟩ := h; exact h2 s₁ h
    | susp v a b c d e f => exact h1 v _ h
  rcases hst with ⟨rfl, zu, zu⟩ | ⟨k₀, l₀, p₀, cl, rfl, zu⟩
  all_goals
    refine wpAny_bind (wpAny_roomToWake hl hroom ?_)
    show wpAny _ _ (.resume g (.send .none) [] _) _ _ s
    refine fin _ _ _ (fun v s' h => wpAny_pure ⟨v, rfl, wpAny_pure h⟩) (fun s₁ hp => ?_)
    show wpAny _ _ (newExc (.type "StopIteration") [] >>= _) _ _ _
    refine wpAny_bind ?_
    simp only [newExc, newTuple]
    refine wpAny_bind (wpAny_newObj_type ?_ (by size_fits))
    refine wpAny_bind (m := firstArgMember _ _) (wpAny_of_eq (a := Value.none) (by first | rfl | (simp only [firstArgMember]; rfl)) ?_)
    refine wpAny_newObj_type ?_ (by size_fits)
    simp only [raiseNew]
    refine wpAny_bind (wpAny_bind (wpAny_handled ?_))
    rw [show A.in1.handled = none from hh]
    refine wpAny_throw ?_
    refine wpAny_bind (wpAny_isInstance (T := "StopIteration") (b := true) ⟨_, Heap.get?_push_size _ rfl, rfl⟩ isSubtype_stop ?_)
    exact wpAny_pure (hp _ fun b o hb => Heap.get?_push_of_some _ (Heap.get?_push_of_some _ hb))
end
section
variable {C : Cf} {A : Around} {s : Shared} {F G : FH} {hp : HP}
noncomputable def NextQ (C : Cf) (F G : FH) (hp : HP) (X : Trie) (genv : Env) (ga : Addr) (g : Nat) (Pd : Addr → Addr → Addr → Addr → Prop) (rem : List AV) (r : Option Value) (s₁ : Shared) : Prop :=
  ∃ F' hp' ea ia ba jx, Pd ea ia ba jx ∧ Ext F F' ∧ Wd C F' G hp' s₁ ∧ (∀ a, hp a ≠ none → a ≠ ga → a ≠ ea → a ≠ ia → a ≠ genv.locals → a ≠ jx → hp' a = hp a) ∧
    match rem with
    | [] => r = none
    | y :: ys => ∃ v u k rest ja, r = some v ∧ VR F' y v ∧ GSus C X genv hp' ga ea ia ba ja g u k rest ∧ ys = remn X.key u k rest ∧ (hp ja = none ∨ ja = jx)
theorem next_of {ga : Addr} {g : Nat} {gs : GenState} {X : Trie} {genv : Env} {Pd : Addr → Addr → Addr → Addr → Prop} {rem : List AV} (hh : A.handled = none) (hl : C.h0.NoLimit) (hroom : A.depth < recursionLimit) (W : Wd C F G hp s) (hga : hp ga = some (.gen g gs)) {c₀ : Code} {t₀ : Sem Fin} {fs₀ : List Frame}
    (hst : (gs = .fresh c₀ ∧ t₀ = denote table c₀ ∧ fs₀ = []) ∨ (∃ k₀ l₀ p₀ cl, gs = .suspended k₀ l₀ c₀ p₀ fs₀ cl ∧ t₀ = k₀ (.send .none)))
    (x : SegX (model C.prog C.w) A.in1 c₀ t₀ fs₀ (s.setGen g .running) (fun e s' => ∃ ea ia ba jx, Pd ea ia ba jx ∧ GPost C X genv G F hp ga ea ia ba jx g rem e s')) :
    wpAny (model C.prog C.w) A (pyNext (.ref ga)) (NextQ C F G hp X genv ga g Pd rem) NoE s := by
  obtain ⟨hgg, hig⟩ := W.gen hga
  refine pyNextX hh (hl.keeps W.old) hroom hig hgg hst (x.mono fun e s₁ h => ?_)
  obtain ⟨ea, ia, ba, jx, hpd, F', hp', ex, W', hfr, hm⟩ := h
  cases rem with
  | nil =>
    dsimp only at hm
    subst hm
    refine ⟨rfl, fun h' hk => ⟨F', hp', ea, ia, ba, jx, hpd, ex, ?_, hfr, rfl⟩⟩
    exact W'.keep hk
  | cons y ys =>
    dsimp only at hm
    obtain ⟨v, u, k, rest, ja, hv, h1, h2, h3⟩ := hm
    cases e with
    | ret r =>
      rcases r with e | f
      · cases hv
      · cases f <;> cases hv
    | susp v' a b c d e f =>
      cases hv
      exact ⟨F', hp', ea, ia, ba, jx, hpd, ex, W', hfr, v, u, k, rest, ja, rfl, h1, h2, h3⟩
theorem gen_next (T : Tp C) {r : FdRest} {L : Addr} {X : Trie} {t d : Addr} {ci : Bool} {ga ea ia ba ja : Addr} {g : Nat} {u rest : Path} {k : Nat} (hA : A.handled = none) (hl : C.h0.NoLimit) (hroom : A.depth < recursionLimit) (W : Wd C F G hp s) (hFs : Fs A G)
    (hX : X.Ph3) (hz : ∀ p ∈ X.D, p.length ≤ 1000) (hr : Rep X t d true ci hp) (hnc : NoCells (genE r L)) (hS : GSus C X (genE r L) hp ga ea ia ba ja g u k rest) :
    wpAny (model C.prog C.w) A (pyNext (.ref ga)) (NextQ C F G hp X (genE r L) ga g (fun a b c d => a = ea ∧ b = ia ∧ c = ba ∧ d = ja) (remn X.key u k rest)) NoE s := by
  obtain ⟨gs, hga, kk, l, p, f1, f2, rfl, hf1, hf2, hk⟩ := hS.gen
  refine next_of hA hl hroom W hga (.inr ⟨kk, l, p, false, rfl, rfl⟩) ?_
  refine (hk A.in1 _ _ (s_again C.prog C.w A.in1 _ [f1, f2] _ _ _ rfl (SegX.mono ?_ (fun e s' h => ⟨ea, ia, ba, ja, ⟨rfl, rfl, rfl, rfl⟩, h⟩))))
  have W1 := W.setGen (ga := ga) (g := g) (gs' := .running) hga rfl
  have hLg : L ≠ ga := by
    have := hS.frm
    rintro rfl
    rw [show (genE r L).locals = L from rfl, hga] at this; exact AO.noConfusion (Option.some.inj this)
  obtain ⟨o1, o2, o3⟩ := over1 (env := genE r L) (ea := ea) (ja := ja) A.in1 hf1 hf2
  have hR1 := W1.thaw (A := A.in1.over (innC (genE r L) ja) [f1, f2]) (env := genE r L) ((upd_ne _ _ hLg).trans hS.frm) (by rfl) hnc (FsE.mk o3 (show Fs A.in1 G from hFs) (by rfl) (by rfl))
  have hne : ∀ {a y}, hp a = some y → (∀ l, y ≠ .frame l) → a ≠ L := fun {a y} e h => by
    have := hS.frm
    rintro rfl
    rw [show (callEnv (r.fd genP .none) a 94).locals = a from rfl, e] at this; (have zc := Option.some.inj this; clear this; subst zc); exact h _ rfl
  have hng : ∀ {a y}, hp a = some y → isGen y = false → a ≠ ga := fun {a y} e h => by rintro rfl; rw [hga] at e; (have zc := Option.some.inj e; clear e; subst zc); exact tf_ne h
  have at' : ∀ {a}, a ≠ L → a ≠ ga → (if a = (genE r L).locals then none else upd hp ga (.gen g .running) a) = hp a := fun {a} h1 h2 => by
    show (if a = L then none else upd hp ga (.gen g .running) a) = hp a
    rw [if_neg h1, upd_ne _ _ h2]
  obtain ⟨old, he⟩ := hS.enm
  obtain ⟨c', vs', hia⟩ := hS.src.at
  have hFp : ∀ a, Fp X t d a → a ≠ L ∧ a ≠ ga := fun a hF => by
    rcases hF with rfl | rfl | ⟨p, hpD, rfl | rfl⟩
    · exact ⟨hne hr.tree (by simp), hng hr.tree rfl⟩
    · exact ⟨hne hr.ns (by simp), hng hr.ns rfl⟩
    · exact ⟨hne (hr.nd p hpD) (by simp [Trie.nodeAO, node]), hng (hr.nd p hpD) rfl⟩
    · obtain ⟨ep, q⟩ := hr.td p hpD
      exact ⟨hne q (by simp), hng q rfl⟩
  refine gen_inner T (t := t) (d := d) (ci := ci) hA (show Fs A.in1 G from hFs) hX hz hf1 hf2 (Ext.refl F) hR1 ⟨?_, ?_, ?_, ⟨old, ?_⟩, ?_, rfl, rfl, rfl, ?_⟩ rfl ?_ hS.nji
  · exact hr.off (fun a hF => at' (hFp a hF).1 (hFp a hF).2)
  · show (if ga = L then none else upd hp ga (.gen g .running) ga) = _
    rw [if_neg hLg.symm, upd_self]
  · exact (at' (hne hS.bnd (by simp [bget])) (hng hS.bnd rfl)).trans hS.bnd
  · exact (at' (hne he (by simp [enumO])) (hng he rfl)).trans he
  · exact hS.src.keep (at' (hne hia (by simp)) (hng hia rfl)) (fun l zs hl => (at' (hne hl (by simp)) (hng hl rfl)).trans hl)
  · intro a h1 h2 h3 h4 h5 h6
    exact at' h5 h2
  · exact (at' (hne hS.itr (by simp)) (hng hS.itr rfl)).trans hS.itr
end
section
variable {C : Cf} {A : Around} {s : Shared} {σ : ASt} {F G : FH} {env : Env}
theorem first_seg (T : Tp C) {r : FdRest} {L : Addr} {X : Trie} {t d : Addr} {ci : Bool} {ga : Addr} {g : Nat} {w : Path} {tv : AV} {hp : HP} (hA : A.handled = none) (W : Wd C F G hp s) (hFs : Fs A G)
    (hX : X.Ph3) (hz : ∀ p ∈ X.D, p.length ≤ 1000) (hr : Rep X t d true ci hp) (hnc : NoCells (genE r L)) (hga : hp ga = some (.gen g (.fresh (funC (genE r L)))))
    (hfm : hp L = some (.frame [("text", tv), ("self", .ref t)])) (hsq : SeqV tv (w.map Sym.av) hp) :
    SegX (model C.prog C.w) A (funC (genE r L)) (denote table (funC (genE r L))) [] (s.setGen g .running)
      (fun e s' => ∃ ea ia ba jx, (hp ea = none ∧ hp ia = none ∧ hp ba = none ∧ jx = ga) ∧ GPost C X (genE r L) G F hp ga ea ia ba jx g (fnds X.key [] w) e s') := by
  have W1 := W.setGen (ga := ga) (g := g) (gs' := .running) hga rfl
  have hLg : L ≠ ga := by rintro rfl; rw [hga] at hfm; exact AO.noConfusion (Option.some.inj hfm)
  obtain ⟨o1, o2, o3⟩ := over0 (env := genE r L) A
  have hR1 := W1.thaw (A := A.over (funC (genE r L)) []) (env := genE r L) ((upd_ne _ _ hLg).trans hfm) (by rfl) hnc (FsE.mk o3 hFs (by rfl) (by rfl))
  have hne : ∀ {a y}, hp a = some y → (∀ l, y ≠ .frame l) → a ≠ L := fun {a y} e h => by rintro rfl; rw [e] at hfm; (have zc := Option.some.inj hfm; clear hfm; subst zc); exact h _ rfl
  have hng : ∀ {a y}, hp a = some y → isGen y = false → a ≠ ga := fun {a y} e h => by rintro rfl; rw [hga] at e; (have zc := Option.some.inj e; clear e; subst zc); exact tf_ne h
  generalize hhp1 : (fun b => if b = (genE r L).locals then none else upd hp ga (.gen g .running) b) = hp1 at hR1
  have at' : ∀ {a}, a ≠ L → a ≠ ga → hp1 a = hp a := fun {a} h1 h2 => by
    rw [← hhp1]
    show (if a = L then none else upd hp ga (.gen g .running) a) = hp a
    rw [if_neg h1, upd_ne _ _ h2]
  have hg1 : hp1 ga = some (.gen g .running) := by
    rw [← hhp1]
    show (if ga = L then none else upd hp ga (.gen g .running) ga) = _
    rw [if_neg hLg.symm, upd_self]
  have hFp : ∀ a, Fp X t d a → a ≠ L ∧ a ≠ ga := fun a hF => by
    rcases hF with rfl | rfl | ⟨p, hp, rfl | rfl⟩
    · exact ⟨hne hr.tree (by simp), hng hr.tree rfl⟩
    · exact ⟨hne hr.ns (by simp), hng hr.ns rfl⟩
    · exact ⟨hne (hr.nd p hp) (by simp [Trie.nodeAO, node]), hng (hr.nd p hp) rfl⟩
    · obtain ⟨ep, q⟩ := hr.td p hp
      exact ⟨hne q (by simp), hng q rfl⟩
  have hr1 : Rep X t d true ci hp1 := hr.off (fun a hF => at' (hFp a hF).1 (hFp a hF).2)
  have hw := hX.wf
  have fresh : ∀ b, hp1 b = none → b ≠ L → hp b = none := fun b hb hL => by
    by_cases e : b = ga
    · subst e; rw [hg1] at hb; exact sn_ne hb
    · rw [← at' hL e]; exact hb
  refine sx_func ?_
  refine sx_cons (sx_tr (Ex_Assign_Name (Q := fun f σ' => f = .next ∧ σ' = ASt.set ⟨[("text", tv), ("self", .ref t)], hp1⟩ "zero_state" (.ref (X.A []))) (Ev_Attr (Ev_Name rfl (get_ns (σ := ⟨[("text", tv), ("self", .ref t)], hp1⟩) T.n_zero hr1.tree hr1.ns rfl ⟨rfl, rfl⟩)))) hR1 ?_)
  (rintro F2 f σ2 v2 s2 e2 hfl hR2; intro zr; obtain ⟨rfl, rfl⟩ := zr)
  cases hfl
  obtain ⟨ep, htd⟩ := hr1.td [] hw.root
  refine sx_cons (sx_tr (Ex_Assign_Name (Q := fun f σ' => f = .next ∧ ∃ b, hp1 b = none ∧ σ' = ASt.set (ASt.put (ASt.set ⟨[("text", tv), ("self", .ref t)], hp1⟩ "zero_state" (.ref (X.A []))) b (bget (X.T []))) "zero_transitions_get" (.ref b))
    (Ev_Attr (Ev_Attr (Ev_Name lk_eq (ng_tr (σ := ASt.set ⟨[("text", tv), ("self", .ref t)], hp1⟩ "zero_state" (.ref (X.A []))) T hr1 hw.root (get_bound htd (fun b hb => ⟨rfl, b, hb, rfl⟩))))))) hR2 ?_)
  (rintro F3 f σ3 v3 s3 e3 hfl hR3; intro zr; obtain ⟨rfl, ba, hb1, rfl⟩ := zr)
  cases hfl
  have hbL : ba ≠ L := HPne (hp := (ASt.set (ASt.put (ASt.set ⟨[("text", tv), ("self", .ref t)], hp1⟩ "zero_state" (.ref (X.A []))) ba (bget (X.T []))) "zero_transitions_get" (.ref ba)).hp) (upd_self _ _ _) (show _ = none from hR3.fm.lo.2.2)
  refine sx_cons (sx_tr (Ex_Assign_Name (Q := fun f σ' => f = .next ∧ σ' = ASt.set (ASt.set (ASt.put (ASt.set ⟨[("text", tv), ("self", .ref t)], hp1⟩ "zero_state" (.ref (X.A []))) ba (bget (X.T []))) "zero_transitions_get" (.ref ba)) "current_state" (.ref (X.A [])))
    (Ev_Name (lk_ne lk_eq) ⟨rfl, rfl⟩)) hR3 ?_)
  (rintro F4 f σ4 v4 s4 e4 hfl hR4; intro zr; obtain ⟨rfl, rfl⟩ := zr)
  cases hfl
  have hsq4 : SeqV tv (w.map Sym.av) (upd hp1 ba (bget (X.T []))) := hsq.keep (fun l zs hl => by
    have h1 : hp1 l = some (.list zs) := (at' (hne hl (by simp)) (hng hl rfl)).trans hl
    exact (upd_ne _ _ (HPne h1 hb1)).trans h1)
  refine sx_cons (sx_For (Q := fun a σ' => ∃ ea ia y, a = .ref ea ∧ upd hp1 ba (bget (X.T [])) ea = none ∧ upd hp1 ba (bget (X.T [])) ia = none ∧ ea ≠ ia ∧ (∃ c vs, y = .itr c vs) ∧ Src ia 0 (w.map Sym.av) (upd (upd (upd hp1 ba (bget (X.T []))) ia y) ea (enumO ia 0 .none)) ∧
      σ' = { ASt.set (ASt.set (ASt.put (ASt.set ⟨[("text", tv), ("self", .ref t)], hp1⟩ "zero_state" (.ref (X.A []))) ba (bget (X.T []))) "zero_transitions_get" (.ref ba)) "current_state" (.ref (X.A [])) with hp := upd (upd (upd hp1 ba (bget (X.T []))) ia y) ea (enumO ia 0 .none) })
    (Ev_Call (Ev_GVal T.g_enum (EvL_e (Ev_Name rfl (EvL_0 (EvA_0 (enum_new hsq4 (fun ea ia y h1 h2 h3 h4 h5 => ⟨ea, ia, y, rfl, h1, h2, h3, h4, h5, rfl⟩)))))))) hR4
    (fun F' a σ' it s' => ∃ ea ia y, it = .ref ea ∧ upd hp1 ba (bget (X.T [])) ea = none ∧ upd hp1 ba (bget (X.T [])) ia = none ∧ ea ≠ ia ∧ (∃ c vs, y = .itr c vs) ∧ Src ia 0 (w.map Sym.av) (upd (upd (upd hp1 ba (bget (X.T []))) ia y) ea (enumO ia 0 .none)) ∧
      Rp C (A.over (funC (genE r L)) []) F' G (genE r L) { ASt.set (ASt.set (ASt.put (ASt.set ⟨[("text", tv), ("self", .ref t)], hp1⟩ "zero_state" (.ref (X.A []))) ba (bget (X.T []))) "zero_transitions_get" (.ref ba)) "current_state" (.ref (X.A [])) with hp := upd (upd (upd hp1 ba (bget (X.T []))) ia y) ea (enumO ia 0 .none) } s') ?_ ?_)
  · (rintro F5 a σ5 v5 s5 e5 hv5 hR5; intro zr; obtain ⟨ea, ia, y, rfl, h1, h2, h3, h4, h5, rfl⟩ := zr)
    (have zc := VR.refI hv5; clear hv5; subst zc)
    obtain ⟨ov, hE, zu⟩ := hR5.isEnum (ea := ea) (upd_self _ _ _)
    exact wpAny_pyIter_enum hE ⟨ea, ia, y, rfl, h1, h2, h3, h4, h5, hR5⟩
  · rintro F5 a σ5 it s5 e5 ⟨ea, ia, y, rfl, h1, h2, h3, ⟨yc, yv, rfl⟩, h5, hR5⟩ kf l p hk
    have hF2 : Fr2 (genE r L) (.ret kf none false l (funC (genE r L)) p []) := ⟨kf, l, p, rfl, (hk .next).trans rfl⟩
    obtain ⟨q1, q2, q3⟩ := over2 (env := genE r L) (ea := ea) A hF2
    have hbb : upd hp1 ba (bget (X.T [])) ba = some (bget (X.T [])) := upd_self _ _ _
    have heb : ea ≠ ba := (HPne hbb h1).symm
    have hib : ia ≠ ba := (HPne hbb h2).symm
    have he1 : hp1 ea = none := (upd_ne _ _ heb).symm.trans h1
    have hi1 : hp1 ia = none := (upd_ne _ _ hib).symm.trans h2
    have hL5 : upd (upd (upd hp1 ba (bget (X.T []))) ia (.itr yc yv)) ea (enumO ia 0 .none) L = none := hR5.fm.lo.2.2
    have heL : ea ≠ L := HPne (upd_self _ _ _) hL5
    have hiL : ia ≠ L := HPne ((upd_ne _ _ h3.symm).trans (upd_self _ _ _)) hL5
    have old : ∀ {a y}, hp1 a = some y → upd (upd (upd hp1 ba (bget (X.T []))) ia (.itr yc yv)) ea (enumO ia 0 .none) a = some y := fun {a y} e =>
      (upd_ne _ _ (HPne e he1)).trans ((upd_ne _ _ (HPne e hi1)).trans ((upd_ne _ _ (HPne e hb1)).trans e))
    refine SegX.mono (gen_outer (A := A) T (t := t) (d := d) (ci := ci) (ga := ga) (ea := ea) (ia := ia) (ba := ba) (jx := ga) (hp₀ := hp) (F₀ := F) (g := g) hA hFs hX hz hF2 w [] F5 _ s5 (e2.trans (e3.trans (e4.trans e5))) (hR5.around (FsE.mk q3 hFs (by rfl) (by rfl))) ⟨?_, ?_, ?_, ⟨.none, ?_⟩, ?_, ?_, ?_, ?_, ?_⟩) (fun e s' h => ⟨ea, ia, ba, ga, ⟨fresh _ he1 heL, fresh _ hi1 hiL, fresh _ hb1 hbL, rfl⟩, h⟩)
    · exact hr1.off (fun a hF => by
        cases e : hp1 a with
        | none => exact absurd e (hr1.some hF)
        | some y => exact old e)
    · exact old hg1
    · exact (upd_ne _ _ heb.symm).trans ((upd_ne _ _ hib.symm).trans hbb)
    · exact upd_self _ _ _
    · exact h5
    · exact lk_ne (lk_ne lk_eq)
    · exact lk_ne lk_eq
    · exact lk_eq
    · intro a g1 g2 g3 g4 g5 g6
      have := at' (a := a) g5 g2
      cases e : hp a with
      | none => exact absurd e g1
      | some y => rw [e] at this; exact old this
theorem gen_first (T : Tp C) {r : FdRest} {L : Addr} {X : Trie} {t d : Addr} {ci : Bool} {ga : Addr} {g : Nat} {w : Path} {tv : AV} {hp : HP} (hA : A.handled = none) (hl : C.h0.NoLimit) (hroom : A.depth < recursionLimit) (W : Wd C F G hp s) (hFs : Fs A G)
    (hX : X.Ph3) (hz : ∀ p ∈ X.D, p.length ≤ 1000) (hr : Rep X t d true ci hp) (hnc : NoCells (genE r L)) (hga : hp ga = some (.gen g (.fresh (funC (genE r L)))))
    (hfm : hp L = some (.frame [("text", tv), ("self", .ref t)])) (hsq : SeqV tv (w.map Sym.av) hp) :
    wpAny (model C.prog C.w) A (pyNext (.ref ga)) (NextQ C F G hp X (genE r L) ga g (fun a b c d => hp a = none ∧ hp b = none ∧ hp c = none ∧ d = ga) (fnds X.key [] w)) NoE s :=
  next_of hA hl hroom W hga (.inl ⟨rfl, rfl, rfl⟩) (first_seg T hA W (show Fs A.in1 G from hFs) hX hz hr hnc hga hfm hsq)
end
section
variable {C : Cf} {A : Around} {s : Shared} {σ : ASt} {F G : FH} {env : Env}
structure GFre (r : FdRest) (L : Addr) (t : Addr) (tv : AV) (hp : HP) (ga : Addr) (g : Nat) : Prop where
  gen : hp ga = some (.gen g (.fresh (funC (genE r L))))
  frm : hp L = some (.frame [("text", tv), ("self", .ref t)])
  nc : NoCells (genE r L)
theorem gen_fn (T : Tp C) {t : Addr} {tv : AV} {hp : HP} (hroom : A.depth < recursionLimit) :
    Fn C A (.ref 94) [.ref t, tv] [] hp (fun v hp' => ∃ r L ga g, v = .ref ga ∧ GFre r L t tv hp' ga g ∧ hp L = none ∧ hp ga = none ∧ (∀ a, hp a ≠ none → hp' a = hp a)) := by
  obtain ⟨r, hf⟩ := T.f_gen
  refine Fn_gen (body := genP.body) hf (binds_gen C r _ _) (fun L ga g h1 h2 h3 h4 => ⟨r, L, ga, g, rfl, ⟨upd_self _ _ _, (upd_ne _ _ h3).trans (upd_self _ _ _), h4⟩, h1, h2, fun a ha => ?_⟩) hroom (by kernel_rfl) (by kernel_rfl) (by kernel_rfl) (by kernel_rfl) (by kernel_rfl)
  exact (upd_ne _ _ (by rintro rfl; exact ha h2)).trans (upd_ne _ _ (by rintro rfl; exact ha h1))
theorem all_fn (T : Tp C) {X : Trie} {t d : Addr} {ci : Bool} {tv tv2 : AV} {hp : HP} (hroom : A.depth + 1 < recursionLimit) (hr : Rep X t d true ci hp) (hlo : LowR ci tv tv2) :
    Fn C A (.ref 87) [.ref t, tv] [] hp (fun v hp' => ∃ r L ga g, v = .ref ga ∧ GFre r L t tv2 hp' ga g ∧ hp L = none ∧ hp ga = none ∧ (∀ a, hp a ≠ none → hp' a = hp a)) := by
  obtain ⟨r, hf⟩ := T.f_all
  obtain ⟨r', hf'⟩ := T.f_gen
  refine Fn_def (body := allP.body) hf (binds_all C r _ _) (fun L => ?_) (by with_reducible exact ou_add ‹_›) (by kernel_rfl) (by kernel_rfl) (by kernel_rfl) (by kernel_rfl) (by kernel_rfl)
  refine Exs_cons (Ex_If (Et_not (Et_plain (Ev_Attr (Ev_Name rfl (get_ns T.n_fin hr.tree hr.ns rfl (truthy_bool (Exs_nil ?_))))))))
  have c1 := gen_fn (A := A.deeper (callEnv (r.fd allP .none) L 87)) (t := t) (tv := tv2) (hp := hp) T (by exact hroom)
  cases hlo with
  | no =>
    refine Exs_cons (Ex_If (Et_plain (Ev_Attr (Ev_Name rfl (get_ns T.n_ci hr.tree hr.ns rfl (truthy_bool (Exs_nil ?_)))))))
    refine Exs_cons (Ex_Return (Ev_Meth (Ev_Name rfl (MethA_own T.m_gen hr.tree hr.ns rfl (EvL_e (Ev_Name rfl (EvL_0 (EvA_0 (CallA_fn hf' (Fn.mono c1 ?_))))))))))
    exact fun v hp' h => h
  | @yes x hx =>
    refine Exs_cons (Ex_If (Et_plain (Ev_Attr (Ev_Name rfl (get_ns T.n_ci hr.tree hr.ns rfl (truthy_bool (Exs_cons (Ex_let [] (.str (Txt.lower x)) (PE_lower (PE_Name rfl) hx) (Exs_nil ?_)))))))))
    refine Exs_cons (Ex_Return (Ev_Meth (Ev_Name rfl (MethA_own T.m_gen hr.tree hr.ns rfl (EvL_e (Ev_Name rfl (EvL_0 (EvA_0 (CallA_fn hf' (Fn.mono c1 ?_))))))))))
    exact fun v hp' h => h
end
section
variable {C : Cf} {A : Around} {s : Shared} {σ : ASt} {F G : FH} {env : Env}
theorem sub_base_SI : isSubtype (.type "StopIteration") (.type "BaseException") = pure true := by rw [isSubtype_type]; kernel_rfl
theorem sub_self_SI : isSubtype (.type "StopIteration") (.type "StopIteration") = pure true := by rw [isSubtype_type]; kernel_rfl
theorem notTuple_SI : isSubtype (.type ((Manifest.find? "StopIteration").elim "type" fun y => y.metatype)) (.type "tuple") = pure false := by
  rw [find?_eq_fast]
  have e : (fastFind? "StopIteration").elim "type" (fun y => y.metatype) = "type" := by kernel_rfl
  rw [e, isSubtype_type]; kernel_rfl
theorem get_none {h : Heap} {e : Addr} (hle : h.objs.size ≤ e) : h.get? e = none := by
  cases x : h.get? e with
  | none => rfl
  | some o => exact absurd (Heap.lt_size x) (Nat.not_lt.mpr hle)
theorem nextCallX {ga : Addr} {g : Nat} {gs : GenState} {E : Value → Shared → Prop} {Q : Value → Shared → Prop} (hh : A.handled = none) (hl : s.heap.NoLimit) (hroom : A.depth < recursionLimit) (hg : s.heap.IsGen ga g) (hgs : s.gens[g]? = some gs) {c₀ : Code} {t₀ : Sem Fin} {fs₀ : List Frame}
    (hst : (gs = .fresh c₀ ∧ t₀ = denote table c₀ ∧ fs₀ = []) ∨ (∃ k₀ l₀ p₀ cl, gs = .suspended k₀ l₀ c₀ p₀ fs₀ cl ∧ t₀ = k₀ (.send .none)))
    (x : SegX (model C.prog C.w) A.in1.in1 c₀ t₀ fs₀ (s.setGen g .running) (fun (e : End) (s₁ : Shared) => match e with
      | .ret r => r = .ok (.ret .none) ∧ ∀ (h' : Heap) (e : Addr), (∀ b o, s₁.heap.get? b = some o → h'.get? b = some o) → s₁.heap.get? e = none → (∃ oe vs, h'.get? e = some oe ∧ oe.cls = .type "StopIteration" ∧ oe.data = .fields vs ∧ vs[1]? = some .none) → E (.ref e) { s₁.setGen g .finished with heap := h' }
      | .susp v _ _ _ _ _ _ => Q v (s₁.setGen g e.genState))) : wpAny (model C.prog C.w) A (call (.builtin "next") [.ref ga]) Q E s := by
  refine PySem.Calls.call_function_entry (by decide +kernel) (by decide +kernel) PySem.W.kdk_entry_next (PySem.W.kdk_args_next _) ?_
  unfold Builtin.«next»
  refine wpAny_bind (m := someArgs "next" 1 2 _) (wpAny_of_eq (a := [Value.ref ga]) (by first | rfl | kernel_rfl!) ?_)
  dsimp only
  refine wpAny_bind (wpAny_specialOf (name := Str.ofString "__next__") hg.typeIs slot_gen_next.lookup ?_)
  refine wpAny_ite_split (fun hab => absurd hab (by decide)) (fun zu => ?_)
  refine wpAny_bind (wpAny_callSpecial?_slot (name := Str.ofString "__next__") hg.typeIs slot_gen_next
    (wpAny_call_entry slot_gen_next hg.typeIs entry_gen_next ?_ (args_gen_next _)))
  show wpAny _ _ (Builtin.Generator.genWake (.ref ga) (.send .none)) _ _ s
  unfold Builtin.Generator.genWake
  refine wpAny_bind (wpAny_holding (wpAny_genNumber hg (wpAny_bind (wpAny_genState hgs ?_))))
  have hst' : (gs = .fresh c₀ ∧ Resume.send Value.none = .send .none ∧ t₀ = denote table c₀ ∧ fs₀ = []) ∨ (∃ k₀ l₀ p₀ cl, gs = .suspended k₀ l₀ c₀ p₀ fs₀ cl ∧ t₀ = k₀ (.send .none)) := hst.imp_left (fun ⟨a, b, c⟩ => ⟨a, rfl, b, c⟩)
  have fin : ∀ (kk : GenResult → Sem Fin) (Q' : Fin → Shared → Prop) (E' : Value → Shared → Prop), (∀ v s', Q v s' → wpAny (model C.prog C.w) A.in1.in1 (kk (.yielded v)) Q' E' s') →
      (∀ (s₁ : Shared), (∀ (h' : Heap) (e : Addr), (∀ b o, s₁.heap.get? b = some o → h'.get? b = some o) → s₁.heap.get? e = none → (∃ oe vs, h'.get? e = some oe ∧ oe.cls = .type "StopIteration" ∧ oe.data = .fields vs ∧ vs[1]? = some .none) → E (.ref e) { s₁.setGen g .finished with heap := h' }) → wpAny (model C.prog C.w) A.in1.in1 (kk (.returned .none)) Q' E' (s₁.setGen g .finished)) → wpAny (model C.prog C.w) A.in1.in1 (.resume g (.send .none) [] kk) Q' E' s := by
    intro kk Q' E' h1 h2
    refine resumeX hgs hst' (x.mono fun e s₁ h => ?_)
    cases e with
    | ret r => obtain ⟨rfl, h⟩ := h; exact h2 s₁ h
    | susp v a b c d e f => exact h1 v _ h
  rcases hst with ⟨rfl, zu, zu⟩ | ⟨k₀, l₀, p₀, cl, rfl, zu⟩
  all_goals
    refine wpAny_bind (wpAny_roomToWake (A := A.in1.in1) hl hroom ?_)
    show wpAny _ _ (.resume g (.send .none) [] _) _ _ s
    refine fin _ _ _ (fun v s' h => wpAny_pure ⟨v, rfl, wpAny_pure ⟨v, rfl, h⟩⟩) (fun s₁ hp => ?_)
    show wpAny _ _ (newExc (.type "StopIteration") [] >>= _) _ _ _
    refine wpAny_bind ?_
    simp only [newExc, newTuple]
    refine wpAny_bind (wpAny_newObj_type ?_ (by size_fits))
    refine wpAny_bind (m := firstArgMember _ _) (wpAny_of_eq (a := Value.none) (by first | rfl | (simp only [firstArgMember]; rfl)) ?_)
    refine wpAny_newObj_type ?_ (by size_fits)
    simp only [raiseNew]
    refine wpAny_bind (wpAny_bind (wpAny_handled ?_))
    rw [show A.in1.in1.handled = none from hh]
    refine wpAny_throw ?_
    refine hp _ _ (fun b o hb => Heap.get?_push_of_some _ (Heap.get?_push_of_some _ hb)) ?_ ⟨_, _, Heap.get?_push_size _ rfl, rfl, rfl, rfl⟩
    refine get_none ?_
    rw [Heap.size_push]; exact Nat.le_succ _
end
section
variable {C : Cf} {A : Around} {s : Shared} {hp : HP} {F G : FH}
theorem Wd.free (W : Wd C F G hp s) {b : Addr} (h : s.heap.get? b = none) : F b = none ∧ G b = none ∧ hp b = none := by
  refine ⟨?_, ?_, ?_⟩
  · cases e : F b with
    | none => rfl
    | some o => rw [W.fz b o e] at h; exact sn_ne h
  · cases e : G b with
    | none => rfl
    | some o => obtain ⟨o', ho, zu⟩ := W.gz b o e; rw [ho] at h; exact sn_ne h
  · cases e : hp b with
    | none => rfl
    | some x => obtain ⟨zu, zu, o, ho, zu⟩ := W.ob b x e; rw [ho] at h; exact sn_ne h
noncomputable def NextE (C : Cf) (F G : FH) (hp : HP) (genv : Env) (ga : Addr) (Pd : Addr → Addr → Addr → Addr → Prop) (e : Value) (s₁ : Shared) : Prop :=
  ∃ x F' hp' ea ia ba jx, e = .ref x ∧ Pd ea ia ba jx ∧ Ext F F' ∧ Wd C F' G hp' s₁ ∧ (F' x = none ∧ G x = none ∧ hp' x = none) ∧ (∃ oe vs, s₁.heap.get? x = some oe ∧ oe.cls = .type "StopIteration" ∧ oe.data = .fields vs ∧ vs[1]? = some .none) ∧
    (∀ a, hp a ≠ none → a ≠ ga → a ≠ ea → a ≠ ia → a ≠ genv.locals → a ≠ jx → hp' a = hp a)
theorem nextCall_of {ga : Addr} {g : Nat} {gs : GenState} {X : Trie} {genv : Env} {Pd : Addr → Addr → Addr → Addr → Prop} {rem : List AV} (hh : A.handled = none) (hl : C.h0.NoLimit) (hroom : A.depth < recursionLimit) (W : Wd C F G hp s) (hga : hp ga = some (.gen g gs)) {c₀ : Code} {t₀ : Sem Fin} {fs₀ : List Frame}
    (hst : (gs = .fresh c₀ ∧ t₀ = denote table c₀ ∧ fs₀ = []) ∨ (∃ k₀ l₀ p₀ cl, gs = .suspended k₀ l₀ c₀ p₀ fs₀ cl ∧ t₀ = k₀ (.send .none)))
    (x : SegX (model C.prog C.w) A.in1.in1 c₀ t₀ fs₀ (s.setGen g .running) (fun e s' => ∃ ea ia ba jx, Pd ea ia ba jx ∧ GPost C X genv G F hp ga ea ia ba jx g rem e s')) :
    wpAny (model C.prog C.w) A (call (.builtin "next") [.ref ga]) (fun v s₁ => (∃ y ys, rem = y :: ys) ∧ NextQ C F G hp X genv ga g Pd rem (some v) s₁) (fun e s₁ => rem = [] ∧ NextE C F G hp genv ga Pd e s₁) s := by
  obtain ⟨hgg, hig⟩ := W.gen hga
  refine nextCallX hh (hl.keeps W.old) hroom hig hgg hst (x.mono fun e s₁ h => ?_)
  obtain ⟨ea, ia, ba, jx, hpd, F', hp', ex, W', hfr, hm⟩ := h
  cases rem with
  | nil =>
    dsimp only at hm
    subst hm
    exact ⟨rfl, fun h' x hk hx hox => ⟨rfl, x, F', hp', ea, ia, ba, jx, rfl, hpd, ex, W'.keep hk, W'.free hx, hox, hfr⟩⟩
  | cons y ys =>
    dsimp only at hm
    obtain ⟨v, u, k, rest, ja, hv, h1, h2, h3⟩ := hm
    cases e with
    | ret r =>
      rcases r with e | f
      · cases hv
      · cases f <;> cases hv
    | susp v' a b c d e f =>
      cases hv
      exact ⟨⟨y, ys, rfl⟩, F', hp', ea, ia, ba, jx, hpd, ex, W', hfr, v, u, k, rest, ja, rfl, h1, h2, h3⟩
end
section
variable {C : Cf} {A : Around} {s : Shared} {σ : ASt} {F G : FH} {env : Env}
noncomputable def firstOf : List AV → AV
  | [] => .none
  | y :: _ => y
theorem frz_loose {env : Env} {σ : ASt} {F F' G : FH} {s : Shared} {hp' : HP} (hR : Rp C A F G env σ s) {x : Addr} (h : F' x = none ∧ frz G env s.heap x = none ∧ hp' x = none) : Loose F' G { σ with hp := hp' } env x := by
  obtain ⟨h1, h2, h3⟩ := h
  refine ⟨h1, ?_, h3, ?_, ?_⟩
  · cases q : G x with
    | none => rfl
    | some o => rw [frz_ext hR x o q] at h2; exact sn_ne h2
  · rintro rfl
    obtain ⟨m, ⟨o, zu, zu, hL, zu⟩, zu⟩ := hR.fm.ns
    unfold frz at h2
    rw [if_pos (.inl rfl), hL] at h2; exact sn_ne h2
  · intro y hy hc
    obtain ⟨c', g1, zu, zu, zu, zu, v, o, ho, zu⟩ := hR.fm.co y hy
    rw [hc] at g1; (have zc := Option.some.inj g1; clear g1; subst zc)
    unfold frz at h2
    rw [if_pos (.inr ⟨y, hy, hc⟩), ho] at h2; exact sn_ne h2
theorem one_fn (T : Tp C) {X : Trie} {t d : Addr} {ci : Bool} {tv tv2 : AV} {w : Path} {hp : HP} (hA : A.handled = none) (hl : C.h0.NoLimit) (hroom : A.depth + 3 < recursionLimit) (hX : X.Ph3) (hz : ∀ p ∈ X.D, p.length ≤ 1000) (hr : Rep X t d true ci hp) (hlo : LowR ci tv tv2) (hsq : SeqV tv2 (w.map Sym.av) hp) :
    Fn C A (.ref 80) [.ref t, tv] [] hp (fun v hp' => v = firstOf (fnds X.key [] w) ∧ ∀ a, hp a ≠ none → hp' a = hp a) := by
  obtain ⟨r, hf⟩ := T.f_one
  obtain ⟨r', hf'⟩ := T.f_all
  refine Fn_def (body := oneP.body) hf (binds_one C r _ _) (fun L => ?_) (by with_reducible exact ou_add ‹_›) (by kernel_rfl) (by kernel_rfl) (by kernel_rfl) (by kernel_rfl) (by kernel_rfl)
  have c1 := all_fn (A := A.deeper (callEnv (r.fd oneP .none) L 80)) (tv := tv) T (by show A.depth + 1 + 1 < recursionLimit; with_reducible exact od_add2 ‹_› (by decide)) hr hlo
  refine Exs_cons (Ex_Assign_Name (Ev_Meth (Ev_Name rfl (MethA_own T.m_all hr.tree hr.ns rfl (EvL_e (Ev_Name rfl (EvL_0 (EvA_0 (CallA_fn hf' (Fn.mono c1 ?_))))))))))
  (rintro v hp1; intro zr; obtain ⟨rg, Lg, ga, g, rfl, hG, hL0, hg0, hk1⟩ := zr)
  have hr1 : Rep X t d true ci hp1 := hr.off (fun a hF => hk1 a (hr.some hF))
  have hsq1 : SeqV tv2 (w.map Sym.av) hp1 := hsq.keep (fun l zs hl => (hk1 l (by rw [hl]; simp)).trans hl)
  refine Exs_cons ?_
  intro F G s hR
  have hgl : (ASt.set ⟨[("text", tv), ("self", .ref t)], hp1⟩ "result_gen" (.ref ga)).v "result_gen" = some (.ref ga) := lk_eq
  refine wpAny_Try_except (wpAny_execs_cons (wpAny_Return_some ?_))
  show wpAny _ _ (eval _ _ >>= fun f => callWith _ f [] _ _) _ _ _
  refine wpAny_bind (Tr.use (Ev_GVal (Q := fun v σ' => v = .val (.builtin "next") ∧ σ' = ASt.set ⟨[("text", tv), ("self", .ref t)], hp1⟩ "result_gen" (.ref ga)) T.g_next ⟨rfl, rfl⟩) hR (fun F1 b σ1 v1 s1 e1 hv hR1 q => ?_))
  obtain ⟨rfl, rfl⟩ := q
  (have zc := VR.valI hv; clear hv; subst zc)
  refine callWith_any (evalArgs_plain rfl rfl (Tr.use (EvL_e (Q := fun vs σ' => vs = [.ref ga] ∧ σ' = ASt.set ⟨[("text", tv), ("self", .ref t)], hp1⟩ "result_gen" (.ref ga)) (Ev_Name hgl (EvL_0 ⟨rfl, rfl⟩))) hR1 (fun F2 b σ2 vs s2 e2 hvs hR2 q => ?_)))
  obtain ⟨rfl, rfl⟩ := q
  obtain ⟨v3, zu, rfl, hv3, hvs⟩ := hvs.inv
  obtain rfl := hvs.inv0
  (have zc := VR.refI hv3; clear hv3; subst zc)
  refine Tr.use (EvA_0 (Q := fun ks σ' => ks = [] ∧ σ' = ASt.set ⟨[("text", tv), ("self", .ref t)], hp1⟩ "result_gen" (.ref ga)) ⟨rfl, rfl⟩) hR2 (fun F3 b σ3 ks s3 e3 hks hR3 q => ?_)
  obtain ⟨rfl, rfl⟩ := q
  obtain rfl := hks.inv0
  refine ⟨KeepOk_plain (by intro a; simp), ?_⟩
  have hfrm : ∀ {hp' : HP} {ea ia ba jx : Addr}, (hp1 ea = none ∧ hp1 ia = none ∧ hp1 ba = none ∧ jx = ga) → (∀ a, hp1 a ≠ none → a ≠ ga → a ≠ ea → a ≠ ia → a ≠ Lg → a ≠ jx → hp' a = hp1 a) → ∀ a, hp a ≠ none → hp' a = hp a := by
    intro hp' ea ia ba jx ⟨p1, p2, p3, p4⟩ h a ha
    have e := hk1 a ha
    have h1 : hp1 a ≠ none := by rw [e]; exact ha
    rw [← e]
    refine h a h1 ?_ ?_ ?_ ?_ ?_
    · rintro rfl; exact ha hg0
    · rintro rfl; exact h1 p1
    · rintro rfl; exact h1 p2
    · rintro rfl; exact ha hL0
    · rw [p4]; rintro rfl; exact ha hg0
  refine wpAny_mono (nextCall_of (X := X) (rem := fnds X.key [] w) (A := A.deeper (callEnv (r.fd oneP .none) L 80)) (by exact hA) hl (by show A.depth + 1 < recursionLimit; with_reducible exact od_add ‹_› (by decide)) (frz_in hR3) hG.gen (.inl ⟨rfl, rfl, rfl⟩) (first_seg T (by exact hA) (frz_in hR3) (show Fs (A.deeper _) _ from frz_fs hR3) hX hz hr1 hG.nc hG.gen hG.frm hsq1)) (fun v s4 z => ?_) (fun e s4 z => ?_)
  · obtain ⟨⟨y, ys, hrem⟩, F4, hp4, ea, ia, ba, jx, hpd, ex, W4, hfr, hm⟩ := z
    have hR4 := frz_out hR3 ex W4
    rw [hrem] at hm ⊢
    obtain ⟨v', u, k, rest, ja, hv', hvr, zu, zu⟩ := hm
    (have zc := Option.some.inj hv'; clear hv'; subst zc)
    exact ⟨F4, .ret y, _, e1.trans (e2.trans (e3.trans ex)), .ret hvr, hR4, rfl, hfrm hpd hfr⟩
  · obtain ⟨hrem, x, F4, hp4, ea, ia, ba, jx, rfl, hpd, ex, W4, hlo, ⟨oe, vs, hoe, hc, hd, h1⟩, hfr⟩ := z
    have hR4 := frz_out hR3 ex W4
    replace hlo := frz_loose hR3 hlo
    have ee := e1.trans (e2.trans (e3.trans ex))
    have hq : AV.none = firstOf (fnds X.key [] w) := by rw [hrem]; rfl
    refine wpAny_mono (caught (E := NoE) (T := "StopIteration") (Q := fun fl σ' => match fl with | .ret v => v = firstOf (fnds X.key [] w) ∧ ∀ a, hp a ≠ none → σ'.hp a = hp a | _ => False) hR4 hlo hoe hc hd h1 (by rfl) sub_base_SI notTuple_SI sub_self_SI T.g_SI (Exs_cons (Ex_Return (Ev_none ⟨hq, hfrm hpd hfr⟩))) (by rfl) (by rfl) (by rfl) (by rfl) (by decide)) (fun zu zu z => wpAny_mono z (fun zu zu z => wpAny_mono z (fun fl s5 z => ?_) fun zu zu x => x) fun zu zu x => x) fun zu zu x => x
    obtain ⟨F5, b, σ5, e5, r5, hR5, q5⟩ := z
    refine ⟨F5, b, σ5, ee.trans e5, r5, hR5, ?_⟩
    cases b with
    | ret v => exact q5
    | _ => exact q5.elim
end
section
section
variable {C : Cf} {A : Around} {s : Shared} {hp : HP} {F G : FH} {E : Value → Shared → Prop}
/-! one object held back on its own -/
noncomputable abbrev lobj (vs : List Value) (n : Nat) : Obj := { cls := .type "list", dict := none, data := .seq vs.toArray n, slots := #[] }
theorem gput_ext {G : FH} {S : Addr} {o : Obj} (h : G S = none) : Ext G (fput G S o) := fput_ext o h
theorem Fs.put {S : Addr} {o : Obj} (h : Fs A G) (hG : G S = none) : Fs A (fput G S o) := let ⟨l, a, b⟩ := h; ⟨l, a, fun e he => (b e he).mono (gput_ext hG)⟩
theorem Wd.turnG {S : Addr} {o o' : Obj} (W : Wd C F (fput G S o) hp s) {h' : Heap} {t : Nat} (ho : h'.get? S = some o') (k : ∀ b ob, b ≠ S → s.heap.get? b = some ob → h'.get? b = some ob) : Wd C F (fput G S o') hp ⟨h', s.gens, s.drawn, t, s.os⟩ := by
  have hS : fput G S o S = some o := fput_self _ _ _
  have no : ∀ {b}, fput G S o b = none → b ≠ S ∧ fput G S o' b = none := fun {b} e => by
    have n : b ≠ S := by rintro rfl; rw [hS] at e; exact sn_ne e
    rw [fput_ne _ _ n] at e
    exact ⟨n, by rw [fput_ne _ _ n]; exact e⟩
  refine ⟨W.base, fun b ob e => k b ob (no (W.fg b ob e)).1 (W.fz b ob e), fun b ob e => ?_, fun a x e => ?_, W.os, W.bare, W.gi, fun b ob e => (no (W.fg b ob e)).2⟩
  · by_cases q : b = S
    · subst q; rw [fput_self] at e; (have zc := Option.some.inj e; clear e; subst zc); exact ⟨_, ho, .inl rfl⟩
    · rw [fput_ne _ _ q] at e
      obtain ⟨o2, h1, h2⟩ := W.gz b ob (by rw [fput_ne _ _ q]; exact e)
      exact ⟨o2, k _ _ q h1, h2⟩
  · obtain ⟨p, q, o2, h1, r⟩ := W.ob a x e
    exact ⟨p, (no q).2, o2, k _ _ (no q).1 h1, r⟩
theorem Wd.pushG (W : Wd C F G hp s) {t : Nat} {o : Obj} (hf : o.isFreed = false) : Wd C F (fput G s.heap.objs.size o) hp ⟨s.heap.push o, s.gens, s.drawn, t, s.os⟩ := by
  obtain ⟨z1, z2, z3⟩ := W.lt (Nat.le_refl _)
  have k : ∀ b ob, s.heap.get? b = some ob → (s.heap.push o).get? b = some ob := fun b ob e => Heap.get?_push_of_some _ e
  refine ⟨W.base, fun b ob e => k _ _ (W.fz b ob e), fun b ob e => ?_, fun a x e => ?_, W.os, W.bare, W.gi, fun b ob e => ?_⟩
  · by_cases q : b = s.heap.objs.size
    · subst q; rw [fput_self] at e; (have zc := Option.some.inj e; clear e; subst zc); exact ⟨_, Heap.get?_push_size _ hf, .inl rfl⟩
    · rw [fput_ne _ _ q] at e
      obtain ⟨o2, h1, h2⟩ := W.gz b ob e
      exact ⟨o2, k _ _ h1, h2⟩
  · obtain ⟨p, q, o2, h1, r⟩ := W.ob a x e
    exact ⟨p, (fput_ne _ _ (by rintro rfl; rw [z3] at e; exact ns_ne e)).trans q, o2, k _ _ h1, r⟩
  · rw [fput_ne]
    · exact W.fg b ob e
    · rintro rfl; rw [z1] at e; exact ns_ne e
theorem Wd.heldAt {S : Addr} {o : Obj} (W : Wd C F (fput G S o) hp s) (hd : ∀ es ep, o.data ≠ .dict es ep) : s.heap.get? S = some o := by
  obtain ⟨o', h1, g⟩ := W.gz S o (fput_self _ _ _)
  rw [h1, g.exact hd]
theorem Wd.heldOff {S : Addr} {o : Obj} (W : Wd C F (fput G S o) hp s) : F S = none ∧ hp S = none := by
  refine ⟨?_, ?_⟩
  · cases q : F S with
    | none => rfl
    | some o' => have := W.fg S o' q; rw [fput_self] at this; exact sn_ne this
  · cases q : hp S with
    | none => rfl
    | some o' => have := (W.ob S o' q).2.1; rw [fput_self] at this; exact sn_ne this
theorem Wd.sealG {S : Addr} {o : Obj} (W : Wd C F (fput G S o) hp s) (hG : G S = none) (hd : ∀ es ep, o.data ≠ .dict es ep) : Wd C (fput F S o) G hp s ∧ Ext F (fput F S o) := by
  obtain ⟨z1, z3⟩ := W.heldOff
  have ex := fput_ext o z1
  have no : ∀ {b}, fput G S o b = none → b ≠ S ∧ G b = none := fun {b} e => by
    have n : b ≠ S := by rintro rfl; rw [fput_self] at e; exact sn_ne e
    rw [fput_ne _ _ n] at e
    exact ⟨n, e⟩
  refine ⟨⟨fun b ob e => ex _ _ (W.base b ob e), fun b ob e => ?_, fun b ob e => W.gz b ob (gput_ext hG _ _ e), fun a x e => ?_, W.os, W.bare, W.gi, fun b ob e => ?_⟩, ex⟩
  · by_cases q : b = S
    · subst q; rw [fput_self] at e; (have zc := Option.some.inj e; clear e; subst zc); exact W.heldAt hd
    · rw [fput_ne _ _ q] at e; exact W.fz b ob e
  · obtain ⟨p, q, o2, h1, r⟩ := W.ob a x e
    exact ⟨by rw [fput_ne _ _ (no q).1]; exact p, (no q).2, o2, h1, r.mono ex⟩
  · by_cases q : b = S
    · subst q; exact hG
    · rw [fput_ne _ _ q] at e; exact (no (W.fg b ob e)).2
noncomputable def ClQ (C : Cf) (G F : FH) (Q : AV → HP → Prop) (v : Value) (s' : Shared) : Prop := ∃ F' av hp', Ext F F' ∧ VR F' av v ∧ Wd C F' G hp' s' ∧ Q av hp'
noncomputable def Cl (C : Cf) (A : Around) (f : Value) (args : List AV) (hp : HP) (Q : AV → HP → Prop) : Prop :=
  ∀ F G s vs (E : Value → Shared → Prop), Fs A G → Wd C F G hp s → VRs F args vs → wpAny (model C.prog C.w) A (PySem.call f vs) (ClQ C G F Q) E s
theorem Fn.cl {f : Value} {args : List AV} {Q : AV → HP → Prop} (h : Fn C A f args [] hp Q) : Cl C A f args hp Q := fun F G s vs E fs W hv =>
  wpAny_call (codeAny_mono (h F G s vs [] fs W hv .nil) fun r s' ⟨F', v, av, hp', a, b, c, d, q⟩ => by subst a; exact ⟨F', av, hp', b, c, d, q⟩)
theorem Cl.mono {f : Value} {args : List AV} {Q Q' : AV → HP → Prop} (h : Cl C A f args hp Q) (k : ∀ v hp', Q v hp' → Q' v hp') : Cl C A f args hp Q' := fun F G s vs E fs W hv =>
  wpAny_mono (h F G s vs E fs W hv) (fun v s' ⟨F', av, hp', b, c, d, q⟩ => ⟨F', av, hp', b, c, d, k _ _ q⟩) fun zu zu x => x
inductive Sch (C : Cf) (X : Trie) (t d : Addr) (hp : HP) (ga : Addr) : List AV → (Addr → Prop) → Prop
  | fresh {r : FdRest} {L : Addr} {tv : AV} {g : Nat} {w : Path} : GFre r L t tv hp ga g → SeqV tv (w.map Sym.av) hp → (∀ l, tv = .ref l → l ≠ ga ∧ l ≠ L) → ¬ Fp X t d ga → ¬ Fp X t d L → Sch C X t d hp ga (fnds X.key [] w) (fun a => a = ga ∨ a = L)
  | susp {r : FdRest} {L ea ia ba ja : Addr} {g : Nat} {u rest : Path} {k : Nat} : NoCells (genE r L) → GSus C X (genE r L) hp ga ea ia ba ja g u k rest →
      ¬ Fp X t d ga → ¬ Fp X t d L → ¬ Fp X t d ea → ¬ Fp X t d ia → ¬ Fp X t d ja → Sch C X t d hp ga (remn X.key u k rest) (fun a => a = ga ∨ a = L ∨ a = ea ∨ a = ia ∨ a = ba ∨ a = ja)
noncomputable def NxtQ (C : Cf) (F G : FH) (hp : HP) (X : Trie) (t d ga : Addr) (N : Addr → Prop) (rem : List AV) (r : Option Value) (s₁ : Shared) : Prop :=
  ∃ F' hp', Ext F F' ∧ Wd C F' G hp' s₁ ∧ (∀ a, hp a ≠ none → ¬ N a → hp' a = hp a) ∧
    match rem with
    | [] => r = none
    | y :: ys => ∃ v N', r = some v ∧ VR F' y v ∧ Sch C X t d hp' ga ys N' ∧ ∀ a, N' a → N a ∨ hp a = none
theorem Sch.next (T : Tp C) {X : Trie} {t d ga : Addr} {ci : Bool} {rem : List AV} {N : Addr → Prop} (hA : A.handled = none) (hl : C.h0.NoLimit) (hroom : A.depth < recursionLimit) (W : Wd C F G hp s) (hFs : Fs A G) (hX : X.Ph3) (hz : ∀ p ∈ X.D, p.length ≤ 1000) (hr : Rep X t d true ci hp) (hS : Sch C X t d hp ga rem N) :
    wpAny (model C.prog C.w) A (pyNext (.ref ga)) (NxtQ C F G hp X t d ga N rem) NoE s := by
  cases hS with
  | @fresh r L tv g w hF hq hsep f1 f2 =>
    refine wpAny_mono (gen_first T hA hl hroom W hFs hX hz hr hF.nc hF.gen hF.frm hq) (fun res s₁ z => ?_) fun zu zu x => x
    obtain ⟨F', hp', ea, ia, ba, jx, ⟨p1, p2, p3, rfl⟩, e, W', fr, hm⟩ := z
    refine ⟨F', hp', e, W', fun a h1 h2 => fr a h1 (fun q => h2 (.inl q)) (fun q => h1 (q ▸ p1)) (fun q => h1 (q ▸ p2)) (fun q => h2 (.inr q)) (fun q => h2 (.inl q)), ?_⟩
    cases hrem : fnds X.key [] w with
    | nil => rw [hrem] at hm; exact hm
    | cons y ys =>
      rw [hrem] at hm
      obtain ⟨v, u, k, rest, ja, q1, q2, q3, q4, q5⟩ := hm
      have nf : ∀ {a}, hp a = none → ¬ Fp X t d a := fun h hf => hr.some hf h
      have fja : ¬ Fp X t d ja := by
        rcases q5 with q5 | q5
        · exact nf q5
        · rw [q5]; exact f1
      subst q4
      refine ⟨v, _, q1, q2, Sch.susp hF.nc q3 f1 f2 (nf p1) (nf p2) fja, fun a ha => ?_⟩
      rcases ha with rfl | rfl | rfl | rfl | rfl | rfl
      · exact .inl (.inl rfl)
      · exact .inl (.inr rfl)
      · exact .inr p1
      · exact .inr p2
      · exact .inr p3
      · rcases q5 with q5 | q5
        · exact .inr q5
        · exact .inl (.inl q5)
  | @susp r L ea ia ba ja g u rest k nc hG f1 f2 f3 f4 f5 =>
    refine wpAny_mono (gen_next T hA hl hroom W hFs hX hz hr nc hG) (fun res s₁ z => ?_) fun zu zu x => x
    obtain ⟨F', hp', ea', ia', ba', jx, ⟨rfl, rfl, rfl, rfl⟩, e, W', fr, hm⟩ := z
    refine ⟨F', hp', e, W', fun a h1 h2 => fr a h1 (fun q => h2 (.inl q)) (fun q => h2 (.inr (.inr (.inl q)))) (fun q => h2 (.inr (.inr (.inr (.inl q))))) (fun q => h2 (.inr (.inl q))) (fun q => h2 (.inr (.inr (.inr (.inr (.inr q)))))), ?_⟩
    cases hrem : remn X.key u k rest with
    | nil => rw [hrem] at hm; exact hm
    | cons y ys =>
      rw [hrem] at hm
      obtain ⟨v, u', k', rest', ja', q1, q2, q3, q4, q5⟩ := hm
      have nf : ∀ {a}, hp a = none → ¬ Fp X t d a := fun h hf => hr.some hf h
      have fja : ¬ Fp X t d ja' := by
        rcases q5 with q5 | q5
        · exact nf q5
        · rw [q5]; exact f5
      subst q4
      refine ⟨v, _, q1, q2, Sch.susp nc q3 f1 f2 f3 f4 fja, fun a ha => ?_⟩
      rcases ha with rfl | rfl | rfl | rfl | rfl | rfl
      · exact .inl (.inl rfl)
      · exact .inl (.inr (.inl rfl))
      · exact .inl (.inr (.inr (.inl rfl)))
      · exact .inl (.inr (.inr (.inr (.inl rfl))))
      · exact .inl (.inr (.inr (.inr (.inr (.inl rfl)))))
      · rcases q5 with q5 | q5
        · exact .inr q5
        · exact .inl (.inr (.inr (.inr (.inr (.inr q5)))))
theorem Sch.gen {X : Trie} {t d ga : Addr} {hp : HP} {rem : List AV} {N : Addr → Prop} (h : Sch C X t d hp ga rem N) : ∃ g gs, hp ga = some (.gen g gs) := by
  cases h with
  | fresh a => exact ⟨_, _, a.gen⟩
  | susp zu a => obtain ⟨gs, h, zu⟩ := a.gen; exact ⟨_, gs, h⟩
theorem Sch.sep {X : Trie} {t d ga : Addr} {ci : Bool} {hp : HP} {rem : List AV} {N : Addr → Prop} (hr : Rep X t d true ci hp) (h : Sch C X t d hp ga rem N) {a : Addr} (hf : Fp X t d a) : ¬ N a := by
  cases h with
  | fresh g q sp f1 f2 =>
    rintro (rfl | rfl)
    · exact f1 hf
    · exact f2 hf
  | susp nc g f1 f2 f3 f4 f5 =>
    rintro (rfl | rfl | rfl | rfl | rfl | rfl)
    · exact f1 hf
    · exact f2 hf
    · exact f3 hf
    · exact f4 hf
    · have hb := g.bnd
      rcases hf with rfl | rfl | ⟨p, hp', rfl | rfl⟩
      · rw [hr.tree] at hb; exact AO.noConfusion (Option.some.inj hb)
      · rw [hr.ns] at hb; exact AO.noConfusion (Option.some.inj hb)
      · rw [hr.nd p hp'] at hb; exact AO.noConfusion (Option.some.inj hb)
      · obtain ⟨ep, h⟩ := hr.td p hp'; rw [h] at hb; exact AO.noConfusion (Option.some.inj hb)
    · exact f5 hf
theorem ext_loop (T : Tp C) {X : Trie} {t d ga S : Addr} {ci : Bool} (hA : A.handled = none) (hl : C.h0.NoLimit) (hroom : A.depth + 1 < recursionLimit) (hFs : Fs A (fput G S (lobj [] 0))) (hG : G S = none) (hX : X.Ph3) (hz : ∀ p ∈ X.D, p.length ≤ 1000) {F₀ : FH} {hp₀ : HP} {N₀ : Addr → Prop} {R : Result → Shared → Prop} :
    ∀ (rem : List AV) (ys : List AV) (vs : List Value) (n : Nat) (F : FH) (hp : HP) (s : Shared) (N : Addr → Prop), ys.length + rem.length ≤ 100000 → Ext F₀ F → VRs F ys vs → Wd C F (fput G S (lobj vs n)) hp s → Rep X t d true ci hp → Sch C X t d hp ga rem N →
      (∀ a, hp₀ a ≠ none → ¬ N₀ a → hp a = hp₀ a) → (∀ a, N a → N₀ a ∨ hp₀ a = none) →
      (∀ F' hp' s' us m, Ext F₀ F' → VRs F' (ys ++ rem) us → Wd C F' (fput G S (lobj us m)) hp' s' → (∀ a, hp₀ a ≠ none → ¬ N₀ a → hp' a = hp₀ a) → R (.ok (.ret .none)) s') →
      codeAny (model C.prog C.w) A (.builtin "list.extend.loop" ⟨[.ref S, .ref ga, .none], []⟩) R s := by
  intro rem
  have fsn : ∀ vs n, Fs A.in1 (fput G S (lobj vs n)) := fun vs n => by
    obtain ⟨l, a, b⟩ := hFs
    refine ⟨l, a, fun e he => ?_⟩
    obtain ⟨p, L, o, h1, h2, es, ep, h3⟩ := b e he
    refine ⟨p, L, o, h1, ?_, es, ep, h3⟩
    by_cases q : L = S
    · subst q; rw [fput_self] at h2; (have zc := Option.some.inj h2; clear h2; subst zc); cases h3
    · rw [fput_ne _ _ q] at h2 ⊢; exact h2
  induction rem with
  | nil =>
    intro ys vs n F hp s N hlen e hv W hr hS hfr hN hR'
    refine codeAny_builtin PySem.F.entry_extend_loop ?_
    rw [Around.under_plainId PySem.F.plain_extend_loop _]
    show wpAny _ A.in1 (pyNext (.ref ga) >>= _) _ _ s
    refine wpAny_bind (wpAny_mono (Sch.next T (A := A.in1) hA hl (Nat.lt_of_succ_lt hroom) W (fsn _ _) hX hz hr hS) (fun r s₁ z => ?_) fun zu zu x => x.elim)
    obtain ⟨F', hp', e', W₁, fr, rfl⟩ := z
    refine wpAny_pure (hR' F' hp' s₁ vs n (e.trans e') (by rw [List.append_nil]; exact hv.mono e') W₁ (fun a h1 h2 => ?_))
    rw [fr a (by rw [hfr a h1 h2]; exact h1) (fun h => by rcases hN a h with q | q; exact h2 q; exact h1 q)]
    exact hfr a h1 h2
  | cons y rem ih =>
    intro ys vs n F hp s N hlen e hv W hr hS hfr hN hR'
    refine codeAny_builtin PySem.F.entry_extend_loop ?_
    rw [Around.under_plainId PySem.F.plain_extend_loop _]
    show wpAny _ A.in1 (pyNext (.ref ga) >>= _) _ _ s
    refine wpAny_bind (wpAny_mono (Sch.next T (A := A.in1) hA hl (Nat.lt_of_succ_lt hroom) W (fsn _ _) hX hz hr hS) (fun r s₁ z => ?_) fun zu zu x => x.elim)
    obtain ⟨F', hp', e', W₁, fr, v, N', rfl, hvy, hS', hN'⟩ := z
    show wpAny _ A.in1 (updateSeq S (·.push v) >>= _) _ _ _
    refine wpAny_bind ?_
    have hL := W₁.heldAt (fun zu zu z => nomatch z)
    have hvs := hv.mono e'
    have e1 := hvs.length
    have e2 : ys.length + (rem.length + 1) ≤ 100000 := hlen
    have z1 : vs.toArray.size < sizeLine := by simp only [List.size_toArray, e1, sizeLine_eq]; omega
    refine wpAny_updateSeq hL rfl (wpAny_pure ⟨plainId_quiet PySem.F.plain_extend_loop _, ?_⟩) (Nat.le_of_lt z1) (by show (vs.toArray.push v).size ≤ sizeLine + 1; rw [Array.size_push]; exact Nat.succ_le_succ (Nat.le_of_lt z1))
    have hL2 : IsL s₁.heap S vs.toArray n := hL
    have hL' := hL2.update (fun x => x.push v)
    rw [List.push_toArray] at hL'
    have W₂ := W₁.turnG (t := s₁.toks) hL' (SameBut.rest (Heap.SameBut.update ..))
    have hr' : Rep X t d true ci hp' := hr.off fun a ha => fr a (hr.some ha) (hS.sep hr ha)
    have hfr' : ∀ a, hp₀ a ≠ none → ¬ N₀ a → hp' a = hp₀ a := fun a h1 h2 => by
      rw [fr a (by rw [hfr a h1 h2]; exact h1) (fun h => by rcases hN a h with q | q; exact h2 q; exact h1 q)]
      exact hfr a h1 h2
    refine ih (ys ++ [y]) (vs ++ [v]) _ F' hp' _ N' (by rw [List.length_append, Nat.add_assoc, Nat.add_comm _ rem.length]; exact hlen) (e.trans e') (hvs.append (.cons hvy .nil)) W₂ hr' hS' hfr' (fun a ha => ?_) (fun F₅ hp₅ s₅ us m e₅ hv₅ W₅ hfr₅ => hR' F₅ hp₅ s₅ us m e₅ (by simpa using hv₅) W₅ hfr₅)
    rcases hN' a ha with h | h
    · exact hN a h
    · by_cases q : N₀ a
      · exact .inl q
      · right
        cases q2 : hp₀ a with
        | none => rfl
        | some x => rw [hfr a (by rw [q2]; exact fun z => nomatch z) q, q2] at h; exact sn_ne h
theorem list_sch (T : Tp C) {X : Trie} {t d ga : Addr} {ci : Bool} {rem : List AV} {N : Addr → Prop} (hA : A.handled = none) (hl : C.h0.NoLimit) (hroom : A.depth + 2 < recursionLimit) (hX : X.Ph3) (hz : ∀ p ∈ X.D, p.length ≤ 1000) (hr : Rep X t d true ci hp) (hS : Sch C X t d hp ga rem N)
    (hlen : rem.length ≤ 100000) : Cl C A (.type "list") [.ref ga] hp (fun v hp' => v = .lst rem ∧ ∀ a, hp a ≠ none → ¬ N a → hp' a = hp a) := by
  intro F G s vs E hFs W hvs
  obtain ⟨v2, us2, rfl, h3, h4⟩ := hvs.inv
  obtain rfl := h4.inv0
  obtain rfl := h3.refI
  refine callType_codes (Q₁ := fun obj s₁ => obj = .ref s.heap.objs.size ∧ s₁ = { s with heap := s.heap.push { cls := .type "list", data := .seq #[] } }) PySem.F.called_list (PySem.F.typeCall_list_1 _) PySem.F.entry_list_init
    (code_list_new _ ⟨rfl, rfl⟩) fun obj s₁ h₁ => ?_
  obtain ⟨rfl, rfl⟩ := h₁
  have hS0 : (s.heap.push { cls := .type "list", data := .seq #[] }).get? s.heap.objs.size = some { cls := .type "list", data := .seq #[] } := Heap.get?_push_size _ rfl
  have hG := (W.lt (Nat.le_refl s.heap.objs.size)).2.1
  have hd0 := (W.lt (Nat.le_refl s.heap.objs.size)).2.2
  have W1 := W.pushG (t := s.toks) (o := lobj [] 0) rfl
  obtain ⟨g0, gs0, hga⟩ := hS.gen
  generalize hSS : s.heap.objs.size = S at hS0 W1 hd0 hG ⊢
  have hne : S ≠ ga := by rintro rfl; rw [hd0] at hga; exact ns_ne hga
  refine ⟨⟨_, hS0, rfl⟩, PySem.F.args_list_init_2 _ _, ?_⟩
  show wpAny _ A.in1.in1 (do let old ← Builtin.List.listItems (.ref S); Builtin.List.listUpdate (.ref S) (fun zu => #[]); letGo old.toList.reverse; Builtin.List.listExtendWith (.ref S) (.ref ga) .none) _ _ _
  refine wpAny_bind ?_
  unfold Builtin.List.listItems
  refine wpAny_bind (wpAny_seqItems hS0 rfl (wpAny_pure ?_))
  show wpAny _ A.in1.in1 (updateSeq S (fun zu => #[]) >>= fun zu => letGo (#[] : Array Value).toList.reverse >>= fun zu => Builtin.List.listExtendWith (.ref S) (.ref ga) .none) _ _ _
  refine wpAny_bind (wpAny_updateSeq hS0 rfl ?_)
  have hS2 := Heap.get?_update_self (Obj.mapSeq (fun zu => (#[] : Array Value))) hS0 rfl
  have W2 := W1.turnG (t := s.toks) hS2 (SameBut.rest (Heap.SameBut.update ..))
  refine wpAny_bind (wpAny_letGo ?_)
  have hT : ∀ {s' : Shared} {G' : FH} {hp' : HP} {F' : FH}, Wd C F' G' hp' s' → hp' ga = hp ga → s'.TypeIs (.ref ga) "generator" := fun W' e => by
    obtain ⟨zu, zu, o, ho, r⟩ := W'.ob ga _ (e.trans hga)
    (refine OR.genC r fun zv zv zv zv a zv zv zv zv => ?_; clear r); exact ⟨o, ho, a⟩
  unfold Builtin.List.listExtendWith
  refine wpAny_bind (wpAny_typeOf (hT W2 rfl) ?_)
  have h1 : Builtin.List.listSameRef (.ref S) (.ref ga) = false := by simp [Builtin.List.listSameRef, hne]
  have h2 : (Value.type "generator" == Value.type "list") = false := by decide
  have h3 : (Value.type "generator" == Value.type "tuple") = false := by decide
  simp only [h1, h2, h3, Bool.or_false, Bool.false_eq_true, if_false]
  refine wpAny_bind (wpAny_pyIter_gen (W2.gen hga).2 ?_)
  refine wpAny_bind (wpAny_holding ?_)
  unfold Builtin.List.listLengthHint
  refine wpAny_bind (wpAny_specialOf (hT W2 rfl) PySem.F.gen_no_len ?_)
  show wpAny _ A.in1.in1 (specialOf (Value.ref ga) (Str.ofString "__length_hint__") >>= _) _ _ _
  refine wpAny_bind (wpAny_specialOf (hT W2 rfl) PySem.F.gen_no_hint ?_)
  refine wpAny_pure ?_
  show wpAny _ A.in1.in1 (rule "list.extend.makes-room" >>= fun zu => Builtin.List.listTouch (.ref S) >>= fun zu => again (.builtin "list.extend.loop" ⟨[.ref S, .ref ga, .none], []⟩)) _ _ _
  refine wpAny_bind (wpAny_rule ?_)
  refine wpAny_bind ?_
  show wpAny _ A.in1.in1 (updateSeq S (·.push .none) >>= fun zu => updateSeq S (·.pop)) _ _ _
  refine wpAny_bind (wpAny_updateSeq hS2 rfl ?_)
  have hS3 := Heap.get?_update_self (Obj.mapSeq (·.push Value.none)) hS2 rfl
  refine wpAny_updateSeq (hz := by seq_fits) hS3 rfl ?_
  have hS4 := Heap.get?_update_self (Obj.mapSeq (·.pop)) hS3 rfl
  have oth : ∀ (H : Heap) b o, b ≠ S → H.get? b = some o → ((H.update S (Obj.mapSeq (·.push Value.none))).update S (Obj.mapSeq (·.pop))).get? b = some o :=
    fun H b o hb e => (Heap.get?_update_other _ _ (Ne.symm hb)).trans ((Heap.get?_update_other _ _ (Ne.symm hb)).trans e)
  have W3 := W2.turnG (t := s.toks) hS4 (oth _)
  refine wpAny_pure ⟨plainId_quiet PySem.F.plain_extend_loop _, ?_⟩
  refine ext_loop T (A := A.in1) (G := G) (F₀ := F) (hp₀ := hp) (N₀ := N) hA hl (by exact Nat.lt_of_succ_lt hroom) (Fs.put hFs hG) hG hX hz rem [] [] _ F hp _ N (by simpa using hlen) (Ext.refl F) .nil W3 hr hS (fun zu zu zu => rfl) (fun a ha => .inl ha) (fun F' hp' s' us m e' hv' W' hfr => ?_)
  obtain ⟨W5, e5⟩ := W'.sealG hG (fun zu zu z => nomatch z)
  exact ⟨rfl, _, .lst rem, hp', e'.trans e5, .lst (fput_self _ _ _) rfl rfl (by simpa using hv'.mono e5), W5, rfl, hfr⟩
end
end
section
section
variable {C : Cf} {A : Around} {hp : HP} {s s' : Shared} {env : Env} {F F' : FH} {E : Value → Shared → Prop} {loc : PL}
noncomputable def Sub (hp hp' : HP) : Prop := ∀ a x, hp a = some x → hp' a = some x
theorem Sub.refl (hp : HP) : Sub hp hp := fun zu zu e => e
theorem Sub.of {hp hp' : HP} (h : ∀ a, hp a ≠ none → hp' a = hp a) : Sub hp hp' := fun a x e => by rw [h a (by rw [e]; exact fun z => nomatch z)]; exact e
noncomputable def restG (F : FH) (hp : HP) (h : Heap) : FH := fun b => match F b, hp b with | none, none => h.get? b | _, _ => none
theorem restG_in {h : Heap} {b : Addr} {o : Obj} (e : restG F hp h b = some o) : F b = none ∧ hp b = none ∧ h.get? b = some o := by
  unfold restG at e
  split at e
  · rename_i q1 q2; exact ⟨q1, q2, e⟩
  · exact ns_ne e
theorem restG_of {h : Heap} {b : Addr} (h1 : F b = none) (h2 : hp b = none) : restG F hp h b = h.get? b := by
  unfold restG
  rw [h1, h2]
theorem restG_no {h : Heap} {b : Addr} (k : F b = none → hp b = none → False) : restG F hp h b = none := by
  cases q : restG F hp h b with
  | none => rfl
  | some o => obtain ⟨h1, h2, zu⟩ := restG_in q; exact (k h1 h2).elim
theorem Wp.wd (w : Wp C A hp F s) : Wd C F (restG F hp s.heap) hp s :=
  ⟨w.base, w.fz, fun b o e => ⟨o, (restG_in e).2.2, .inl rfl⟩, fun a x e => ⟨(w.ob a x e).1, restG_no (fun zu q => by rw [e] at q; exact sn_ne q), (w.ob a x e).2⟩, w.os, w.bare, w.gi, fun b o e => restG_no (fun q zu => by rw [e] at q; exact sn_ne q)⟩
theorem Wp.fs (w : Wp C A hp F s) : Fs A (restG F hp s.heap) := by
  obtain ⟨l, a, b⟩ := w.fr
  refine ⟨l, a, fun e he => ?_⟩
  obtain ⟨p, L, q1, q2, q3, o, q4, q5⟩ := b e he
  exact ⟨p, L, o, q1, (restG_of q2 q3).trans q4, q5⟩
theorem Wp.back (w : Wp C A hp F s) {hp' : HP} (e : Ext F F') (W : Wd C F' (restG F hp s.heap) hp' s') (hs : Sub hp hp') : Stp C A hp F s F' s' := by
  have kg : ∀ b o, s.heap.get? b = some o → hp b = none → ∃ o', s'.heap.get? b = some o' ∧ GEq o o' := fun b o h1 h2 => by
    cases q : F b with
    | none => exact W.gz b o ((restG_of q h2).trans h1)
    | some o' =>
      have := w.fz _ _ q
      rw [h1] at this; (have zc := Option.some.inj this; clear this; subst zc)
      exact ⟨o, W.fz _ _ (e _ _ q), .inl rfl⟩
  have off : ∀ {b o}, s.heap.get? b = some o → F b = none → hp b = none → F' b = none := fun {b o} h1 h2 h3 => by
    cases q : F' b with
    | none => rfl
    | some o' => have := W.fg _ _ q; rw [restG_of h2 h3, h1] at this; exact sn_ne this
  refine ⟨w, ⟨W.base, W.fz, fun a x q => ⟨(W.ob a x (hs a x q)).1, (W.ob a x (hs a x q)).2.2⟩, W.os, W.bare, fun a b g gs gs' h1 h2 => W.gi a b g gs gs' (hs _ _ h1) (hs _ _ h2), ?_⟩, e, kg, fun b o q => ?_⟩
  · obtain ⟨l, a, b⟩ := w.fr
    refine ⟨l, a, fun y hy => ?_⟩
    obtain ⟨p, L, q1, q2, q3, o, q4, es, ep, q5⟩ := b y hy
    obtain ⟨o', z1, z2⟩ := kg L o q4 q3
    exact ⟨p, L, q1, off q4 q2 q3, q3, o', z1, es, ep, z2.data.trans q5⟩
  · cases z : s.heap.get? b with
    | none => exact .inr rfl
    | some o' =>
      left
      cases z2 : F b with
      | some o2 => have := e _ _ z2; rw [q] at this; exact this.symm
      | none =>
        cases z3 : hp b with
        | none => rw [off z z2 z3] at q; exact ns_ne q
        | some x => rw [(W.ob b x (hs _ _ z3)).1] at q; exact ns_ne q
inductive Args (hp : HP) : List PV → List AV → Prop
  | nil : Args hp [] []
  | val {x pvs xs} (h : Args hp pvs xs) : Args hp ((x, false) :: pvs) (x :: xs)
  | own {xs a pvs ys} (ho : hp a = some (.list xs)) (h : Args hp pvs ys) : Args hp ((.lst xs, true) :: pvs) (.ref a :: ys)
theorem PVRs.args {pvs : List PV} {us : List Value} (r : PVRs hp F pvs us) : ∃ xs, Args hp pvs xs ∧ VRs F xs us := by
  induction r with
  | nil => exact ⟨[], .nil, .nil⟩
  | cons a zu ih =>
    obtain ⟨ys, h1, h2⟩ := ih
    cases a with
    | val r => exact ⟨_, .val h1, .cons r h2⟩
    | own ho => exact ⟨_, .own ho h1, .cons (.ref _) h2⟩
noncomputable def PCw (C : Cf) (A : Around) (hp : HP) (f : Value) (pvs : List PV) (Q : AV → HP → Prop) : Prop := ∀ xs, Args hp pvs xs → Cl C A f xs hp Q
inductive PwQ (C : Cf) (A : Around) (hp : HP) (F : FH) (s : Shared) (Q : AV → HP → Prop) (v : Value) (s' : Shared) : Prop
  | mk (F₁ : FH) (s₁ : Shared) (st : Stp C A hp F s F₁ s₁) (h : ClQ C (restG F₁ hp s₁.heap) F₁ Q v s')
theorem PwQ.pu {v' : AV} {v : Value} (h : PwQ C A hp F s (fun v hp' => v = v' ∧ Sub hp hp') v s') : PuQ C A hp F s (fun F' v => PVR hp F' (v', false) v) v s' := by
  obtain ⟨F₁, s₁, st, F', av, hp', e, hv, W, rfl, hs⟩ := h
  exact ⟨F', st.trans (st.w'.back e W hs), .val hv⟩
theorem PCw.use {f : Value} {pvs : List PV} {Q : AV → HP → Prop} (h : PCw C A hp f pvs Q) (w : Wp C A hp F s) {us : List Value} (r : PVRs hp F pvs us) : wpAny (model C.prog C.w) A (PySem.call f us) (PwQ C A hp F s Q) E s := by
  obtain ⟨xs, h1, h2⟩ := r.args
  exact wpAny_mono (h xs h1 F _ s us E w.fs w.wd h2) (fun v s' z => ⟨F, s, .refl w, z⟩) fun zu zu x => x
theorem PCw.pc {f : Value} {pvs : List PV} {v : AV} (h : PCw C A hp f pvs (fun v' hp' => v' = v ∧ Sub hp hp')) : PK C A hp f pvs (v, false) := fun F s E us w r =>
  wpAny_mono (h.use w r) (fun zu zu z => z.pu) fun zu zu x => x
noncomputable def PW (C : Cf) (A : Around) (hp : HP) (env : Env) (loc : PL) (e : Expr) (Q : AV → HP → Prop) : Prop :=
  ∀ F s (E : Value → Shared → Prop), PCtx C A hp F s env loc → wpAny (model C.prog C.w) A (eval e env) (PwQ C A hp F s Q) E s
theorem PW.pe {e : Expr} {v : AV} (h : PW C A hp env loc e (fun v' hp' => v' = v ∧ Sub hp hp')) : PE C A hp env loc e (v, false) := .mk fun F s E c =>
  wpAny_mono (h F s E c) (fun zu zu z => z.pu) fun zu zu x => x
theorem PwQ.pre {F₁ : FH} {s₁ : Shared} {Q : AV → HP → Prop} {v : Value} (st : Stp C A hp F s F₁ s₁) (q : PwQ C A hp F₁ s₁ Q v s') : PwQ C A hp F s Q v s' := by
  obtain ⟨F2, s2, st2, h⟩ := q
  exact ⟨F2, s2, st.trans st2, h⟩
theorem PW_Meth {o : Expr} {name : Str} {apos pos : Pos} {args : List Expr} {pvs : List PV} {Q : AV → HP → Prop} {a d Cl f : Addr} {fd : FuncData} {fs : List (Str × AV)} (h : PE C A hp env loc o (.ref a, false)) (hm : MethAt C Cl name f) (hf : FnAt C f fd) (ha : hp a = some (.inst Cl d)) (hd : hp d = some (.ns fs)) (hn : fs.lookup name = none)
    (hv : PEl C A hp env loc args pvs) (hc : PCw C A hp (.ref f) ((.ref a, false) :: pvs) Q)
    (hb : autoParam (attributeBase o name env (eval o env) = eval o env) AC.aux0._auto_1) (hl : autoParam (apos.endLine = pos.line) AC.aux0._auto_1)
    (hform : autoParam (methodCallForm (args.length + 0) (backTo pos (starEach args env)) (backToKw pos (keywordEach [] env)) = true) AC.aux0._auto_1)
    (ht : autoParam (backTo pos (starEach args env) = argsOf env args) AC.aux0._auto_1) : PW C A hp env loc (.Call (.Attribute o name apos) args [] pos) Q := fun F s E c => by
  show wpAny _ _ (do
    let ov ← attributeBase o name env (eval o env)
    standAt apos.atName
    methodCall o name apos pos env ov (args.length + 0) (backTo pos (starEach args env)) (backToKw pos (keywordEach [] env))) _ _ _
  rw [hb]
  refine wpAny_bind (h.use c fun F₀ s₀ vo st₀ c₀ r₀ => wpAny_bind (wpAny_standAt ?_))
  obtain rfl := r₀.out.refI
  unfold methodCall calleeOf methodCallPos
  rw [hform]
  simp only [if_true, Bool.not_true, Bool.false_or, hl, beq_self_eq_true]
  rw [ht]
  refine wpAny_bind (wpAny_holding ?_)
  obtain ⟨K, X, g1, g2, g3, g4⟩ := hm
  obtain ⟨zu, o1, ho, r⟩ := c₀.wp.ob a _ ha
  obtain ⟨zu, od, hod, rd⟩ := c₀.wp.ob d _ hd
  (refine OR.instC r fun zo => ?_; clear r; subst zo)
  (refine OR.nsC rd fun ds n hex hda hnr => ?_; clear rd)
  refine method_fn (od := some od) (X.keeps c₀.wp.old) ⟨ho, rfl, rfl, hod⟩ g1 g2 g3 g4 (by simp only [shadowIn, lookIn, hda, hnr.noName hn, hnr.noRef, Bool.false_eq_true, if_false, Option.map_some, Option.isSome_none]) ?_
  refine wpAny_bind (wpAny_pure (callWith_any (evalArgs_plain (argsOf_plain env args) rfl (hv.pes.use c₀ fun F₂ s₂ us st₂ c₂ r₂ => wpAny_pure ⟨hf.keep c₂.wp.old, ?_⟩))))
  exact wpAny_mono (hc.use c₂.wp (.cons (.val (.ref a)) r₂)) (fun zu zu z => z.pre (st₀.trans st₂)) fun zu zu x => x
theorem PW_Call1 {x : Str} {px pos : Pos} {e : Expr} {f : Value} {Q Q' : AV → HP → Prop} (hg : GL C x f) (h : PW C A hp env loc e Q) (hc : ∀ av hp', Q av hp' → Cl C A f [av] hp' Q') (hf : autoParam (∀ h' : Heap, (∀ b o, C.h0.get? b = some o → h'.get? b = some o) → KeepOk C h' f) AC.aux6._auto_1) (hk : autoParam (env.kindOf x = some .globalImplicit) AC.aux0._auto_1)
    (he : autoParam (eval (.Call (.Name x px) [e] [] pos) env = (do callWith pos (← eval (.Name x px) env) [] [(false, eval e env)] [])) AC.aux0._auto_1) (hd : autoParam ((x == ("__debug__" : Str)) = false) AC.aux1._auto_1) : PW C A hp env loc (.Call (.Name x px) [e] [] pos) Q' := fun F s E c => by
  rw [he]
  refine wpAny_bind (wpAny_Name ?_ hd)
  rw [load_glob c.kind hk]
  refine hg env c.glob.1 c.glob.2 A _ E s c.wp.old (callWith_any (evalArgs_plain rfl rfl ?_))
  show wpAny _ _ (do let v ← eval e env; let here ← pure [v]; return here ++ (← holding here (spliced []))) _ _ _
  refine wpAny_bind (wpAny_mono (h F s E c) (fun v s' z => wpAny_bind (wpAny_pure (wpAny_bind (wpAny_holding (wpAny_pure (wpAny_pure (wpAny_pure ?_))))))) fun zu zu x => x)
  obtain ⟨F₁, s₁, st, F', av, hp', e1, hv, W, q⟩ := z
  refine ⟨hf _ W.old, wpAny_mono (hc av hp' q F' _ s' [v] E st.w'.fs W (.cons hv .nil)) (fun u s2 z => ?_) fun zu zu x => x⟩
  obtain ⟨F2, av2, hp2, e2, hv2, W2, q2⟩ := z
  exact ⟨F₁, s₁, st, F2, av2, hp2, e1.trans e2, hv2, W2, q2⟩
end
end
section
noncomputable def restIn (K : Frag) (f : Addr) : FdRest := match K.lookup f with
  | some o => (match o.data with | .func fd => ⟨fd.name, fd.qualname, fd.kwdefaults, fd.doc, fd.pyModule, fd.annotations, fd.code, fd.closureTuple⟩ | _ => ⟨"", "", .none, .none, .none, none, .none, .none⟩)
  | none => ⟨"", "", .none, .none, .none, none, .none, .none⟩
noncomputable def codeIn (K : Frag) (v : Value) (q : Str) : Bool := match v with
  | .ref c => (match K.lookup c with
    | some o => (match o.data with | .fields vs => (match (vs[1]? : Option Value) with | some (.str q' _) => q' == q | _ => false) | _ => false)
    | none => false)
  | _ => false
theorem fnAt_of {C : Cf} {K : Frag} (X : K.In C.h0) (lim : C.h0.NoLimit) {f : Addr} {d : DefP} {dflt : Value} (h : (K.lookup f).map (·.data) = some (.func ((restIn K f).fd d dflt))) (hc : codeIn K (restIn K f).code (restIn K f).qual = true) : ∃ r : FdRest, FnAt C f (r.fd d dflt) := by
  obtain ⟨o, ho, hd⟩ := Option.map_eq_some_iff.mp h
  refine ⟨restIn K f, ⟨o, X _ _ ho, hd⟩, ?_, lim⟩
  show C.h0.CodeRec (restIn K f).code (restIn K f).qual
  generalize (restIn K f).code = v at hc
  generalize (restIn K f).qual = q at hc
  unfold codeIn at hc
  split at hc
  · rename_i c
    split at hc
    · rename_i oc hoc
      split at hc
      · rename_i vs hvs
        split at hc
        · rename_i q' t hq
          exact ⟨c, oc, vs, t, rfl, X _ _ hoc, hvs, by rw [hq, beq_iff_eq.mp hc]⟩
        · exact ft_ne hc
      · exact ft_ne hc
    · exact ft_ne hc
  · exact ft_ne hc
noncomputable def env00 : Env := callEnv ((⟨"", "", .none, .none, .none, none, .none, .none⟩ : FdRest).fd addP .none) 0 66
theorem gl_of {C : Cf} {K : Frag} (X : K.In C.h0) {x : Str} {v : Value} (h : peek K ⟨C.prog, C.w.params⟩ (loadGlobal env00 x) = some v) : GL C x v := by
  intro env h1 h2
  have e : loadGlobal env x = loadGlobal env00 x := by
    unfold loadGlobal
    rw [h1, h2]; rfl
  rw [e]
  exact Looks.of_peek (M := model C.prog C.w) X h
noncomputable def limIn (K : Frag) : Bool := match K.lookup cStatics with
  | some o => (match o.data with | .dict es _ => (nsFind es "sys.recursionlimit").isNone && es.toList.all (fun e => match e.key with | .str .. => true | _ => false) | _ => false)
  | none => false
theorem lim_of {h : Heap} {K : Frag} (X : K.In h) (e : limIn K = true) : h.NoLimit := by
  unfold limIn at e
  split at e
  · rename_i o ho
    split at e
    · rename_i es ep hd
      rw [Bool.and_eq_true] at e
      refine ⟨fun x => nsFind es x, ⟨o, es, ep, X _ _ ho, hd, fun en hen => ?_, fun zu => rfl⟩, by simpa using e.1⟩
      have := List.all_eq_true.mp e.2 en (by simpa using hen)
      split at this
      · rename_i n t hk; exact ⟨n, t, hk⟩
      · exact ft_ne this
    · exact ft_ne e
  · exact ft_ne e
theorem ns_of {C : Cf} {K : Frag} (X : K.In C.h0) {Cl : Addr} {name : Str} (h1 : findIn K (.ref Cl) "__getattribute__" = some (some (.builtin "object.__getattribute__"))) (h2 : findIn K (.ref Cl) "__getattr__" = some none)
    (h3 : (clsIn K Cl).map (·.hasDict) = some true) (h4 : findIn K (.ref Cl) name = some none) (h5 : findIn K (.ref Cl) "__setattr__" = some (some (.builtin "object.__setattr__"))) (h6 : plainOver K Cl = true) (h7 : takerIn K Cl name = some none) : NsAt C Cl name := by
  obtain ⟨cd, hc, hh⟩ := Option.map_eq_some_iff.mp h3
  exact ⟨K, cd, X, h1, h2, hc, hh, h4, h5, h6, h7⟩
end
section
variable {C : Cf} {A : Around} {s : Shared} {σ : ASt} {F G : FH} {env : Env}
theorem cellsFrom_mem : ∀ (names : List (Str × NameKind)) (n : Nat) (acc : List (Str × Addr)) (x : Str), ((x, NameKind.cell) ∈ names ∨ (acc.lookup x).isSome = true) → ((cellsFrom n names acc).lookup x).isSome = true
  | [], _, acc, x, h => by
    rcases h with h | h
    · cases h
    · exact h
  | (y, k) :: r, n, acc, x, h => by
    unfold cellsFrom
    split
    · rename_i hk
      refine cellsFrom_mem r _ _ x ?_
      rcases h with h | h
      · rcases List.mem_cons.mp h with e | h
        · cases e; right; simp [List.lookup]
        · exact .inl h
      · right
        simp only [List.lookup]
        split
        · rfl
        · exact h
    · rename_i hk
      refine cellsFrom_mem r _ _ x ?_
      rcases h with h | h
      · rcases List.mem_cons.mp h with e | h
        · cases e; simp at hk
        · exact .inl h
      · exact .inr h
theorem lookup_mem' {α : Type} : ∀ {l : List (Str × α)} {x : Str} {v : α}, l.lookup x = some v → (x, v) ∈ l
  | [], _, _, h => by exact ns_ne h
  | (y, u) :: l, x, v, h => by
    simp only [List.lookup] at h
    split at h
    · rename_i q; (have zc := Option.some.inj h; clear h; subst zc); rw [beq_iff_eq.mp q]; exact List.mem_cons_self ..
    · exact List.mem_cons_of_mem _ (lookup_mem' h)
theorem look_append {α : Type} : ∀ (l m : List (Str × α)) (x : Str), (l ++ m).lookup x = (l.lookup x).or (m.lookup x)
  | [], m, x => by simp
  | (y, u) :: l, m, x => by
    simp only [List.cons_append, List.lookup]
    split
    · simp
    · exact look_append l m x
theorem bindL_none (ko : Str → Option NameKind) : ∀ (bs : List (Str × Value)) (m : Str → Option Value) (x : Str), bs.reverse.lookup x = none → bindL ko bs m x = m x
  | [], _, _, _ => rfl
  | (n, v) :: r, m, x, h => by
    rw [List.reverse_cons, look_append, Option.or_eq_none_iff] at h
    unfold bindL
    rw [bindL_none ko r _ x h.1]
    have hn : x ≠ n := by rintro rfl; simp [List.lookup] at h
    split
    · simp [hn]
    · rfl
theorem bindL_some (ko : Str → Option NameKind) : ∀ (bs : List (Str × Value)) (m : Str → Option Value) (x : Str) (v : Value), bs.reverse.lookup x = some v → ko x = some .local → bindL ko bs m x = some v
  | [], _, _, _, h, _ => by exact ns_ne h
  | (n, w) :: r, m, x, v, h, hk => by
    rw [List.reverse_cons, look_append] at h
    unfold bindL
    cases hr : r.reverse.lookup x with
    | some v' => rw [hr] at h; (have zc := Option.some.inj h; clear h; subst zc); exact bindL_some ko r _ x _ hr hk
    | none =>
      rw [hr, Option.none_or] at h
      simp only [List.lookup] at h
      split at h
      · rename_i q
        (have zc := Option.some.inj h; clear h; subst zc)
        rw [bindL_none ko r _ x hr]
        have := beq_iff_eq.mp q
        subst this
        rw [if_pos hk]; simp
      · exact ns_ne h
theorem bindC_none (ko : Str → Option NameKind) : ∀ (bs : List (Str × Value)) (m : Str → Option Value) (x : Str), bs.reverse.lookup x = none → bindC ko bs m x = m x
  | [], _, _, _ => rfl
  | (n, v) :: r, m, x, h => by
    rw [List.reverse_cons, look_append, Option.or_eq_none_iff] at h
    unfold bindC
    rw [bindC_none ko r _ x h.1]
    have hn : x ≠ n := by rintro rfl; simp [List.lookup] at h
    split
    · rfl
    · simp [hn]
theorem bindC_some (ko : Str → Option NameKind) : ∀ (bs : List (Str × Value)) (m : Str → Option Value) (x : Str) (v : Value), bs.reverse.lookup x = some v → ko x ≠ some .local → bindC ko bs m x = some v
  | [], _, _, _, h, _ => by exact ns_ne h
  | (n, w) :: r, m, x, v, h, hk => by
    rw [List.reverse_cons, look_append] at h
    unfold bindC
    cases hr : r.reverse.lookup x with
    | some v' => rw [hr] at h; (have zc := Option.some.inj h; clear h; subst zc); exact bindC_some ko r _ x _ hr hk
    | none =>
      rw [hr, Option.none_or] at h
      simp only [List.lookup] at h
      split at h
      · rename_i q
        (have zc := Option.some.inj h; clear h; subst zc)
        rw [bindC_none ko r _ x hr]
        have := beq_iff_eq.mp q
        subst this
        rw [if_neg hk]; simp
      · exact ns_ne h
noncomputable def BindsC (C : Cf) (fd : FuncData) (args : List AV) (kw : List (Str × AV)) (loc : List (Str × AV)) : Prop :=
  ∀ F vs kvs, VRs F args vs → KVRs F kw kvs → ∃ bs, Looks (model C.prog C.w) C.h0 (bindArgs fd ⟨vs, kvs⟩) bs ∧ BR F loc bs ∧ (bs.all fun x => decide (fd.scope.names.lookup x.1 = some .local) || decide (fd.scope.names.lookup x.1 = some .cell)) = true
theorem Fn_defC {f : Addr} {fd : FuncData} {body : List Stmt} {args : List AV} {kw loc : List (Str × AV)} {hp : HP} {Q : AV → HP → Prop} (hf : FnAt C f fd) (hb : BindsC C fd args kw loc)
    (h : ∀ L, Exs C (A.deeper (callEnvC fd L f)) (fun zu zu => False) (callEnvC fd L f) body ⟨loc.reverse, hp⟩ (fun fl σ' => match fl with | .ret v => Q v σ'.hp | .next => Q .none σ'.hp | _ => False))
    (hroom : A.depth < recursionLimit) (hbody : autoParam (fd.body = .stmts body) AC.aux0._auto_1) (hclo : autoParam (fd.closure = []) AC.aux0._auto_1) (hfree : autoParam ((fd.scope.names.all fun x => x.2 != .free) = true) AC.aux0._auto_1)
    (hco : autoParam (fd.scope.isCoroutine = false) AC.aux0._auto_1) (hgen : autoParam (fd.scope.isGenerator = false) AC.aux0._auto_1) (hk : autoParam (fd.scope.kind = .function) AC.aux0._auto_1) :
    Fn C A (.ref f) args kw hp Q := by
  intro F G s vs kvs fs W hv hkv
  obtain ⟨o, ho, hd⟩ := hf.at_
  obtain ⟨bs, hB, hbr, hl⟩ := hb F vs kvs hv hkv
  have noF : ∀ L x, (callEnvC fd L f).kindOf x ≠ some .free := by
    intro L x e
    have := List.all_eq_true.mp hfree _ (lookup_mem' (show fd.scope.names.lookup x = some .free from e))
    simp at this
  refine codeAny_call_function hroom (W.old _ _ ho) hd hco hgen hbody (hf.code.keeps W.old) ?_
  refine hB _ _ _ s W.old ?_
  rw [hclo]
  refine wpAny_newFunctionEnv_cells hk (fun x hx => ?_) (fun env he s' X => ?_)
  · have := List.all_eq_true.mp hl x hx
    rw [Bool.or_eq_true, decide_eq_true_iff, decide_eq_true_iff] at this
    refine this.imp_right (fun e => ⟨e, cellsFrom_mem _ _ _ _ (.inl (lookup_mem' e))⟩)
  · subst he
    refine ⟨hf.lim.keeps fun b o e => X.toInCall.keep _ _ (W.old _ _ e), codeAny_func ?_⟩
    obtain ⟨z1, z2, z3⟩ := W.lt (Nat.le_refl s.heap.objs.size)
    obtain ⟨fl, fs1, fs2⟩ := fs
    have hfs : FsE (A.deeper (callEnvC fd s.heap.objs.size f)) G (callEnvC fd s.heap.objs.size f) :=
      ⟨callEnvC fd s.heap.objs.size f, fl, by simp only [Around.deeper, fs1, Option.map_some], by show fd.scope.kind ≠ _; rw [hk]; decide, rfl, .inl ⟨rfl, rfl⟩, fs2⟩
    have hR : Rp C (A.deeper (callEnvC fd s.heap.objs.size f)) F G (callEnvC fd s.heap.objs.size f) ⟨loc.reverse, hp⟩ s' := by
      obtain ⟨⟨⟨h', tk, rfl⟩, hns, hkp, hfr⟩, hcell, hap, hab⟩ := X
      refine ⟨W.keep hkp, ⟨hk, ⟨_, hns, fun x av hx hkx => ?_⟩, ⟨z1, z2, z3⟩, fun x hx => ?_, fun x y c hx hy h1 h2 => ?_, fun x av c h1 h2 h3 => ?_, fun x zu zu hx => absurd hx (noF _ x)⟩, hfs⟩
      · obtain ⟨v, hv, hr⟩ := hbr.reverse.look hx
        exact ⟨v, bindL_some _ bs _ x v hv hkx, hr⟩
      · have hs := cellsFrom_mem fd.scope.names (s.heap.objs.size + 1) [] x (.inl (lookup_mem' (show fd.scope.names.lookup x = some .cell from hx)))
        obtain ⟨c, hc⟩ := Option.isSome_iff_exists.mp hs
        have hLc := hab x c (lookup_mem' hc)
        obtain ⟨w1, w2, w3⟩ := W.lt (Nat.le_of_lt hLc)
        exact ⟨c, hc, w1, w2, w3, Nat.ne_of_gt hLc, _, hcell x c hc⟩
      · exact name_of_addr hap (lookup_mem' h1) (lookup_mem' h2)
      · obtain ⟨v, hv, hr⟩ := hbr.reverse.look h1
        have := hcell x c h3
        rw [bindC_some _ bs _ x v hv (fun e => by have e2 := (show (callEnvC fd s.heap.objs.size f).kindOf x = some .local from e); rw [h2] at e2; cases e2)] at this
        exact ⟨v, this, hr⟩
    refine wpAny_mono ((h s.heap.objs.size).go hR (Ext.refl F)) (fun fl s' z => ?_) fun zu zu x => x.elim
    obtain ⟨F', b, σ', e1, r, hR', q⟩ := z
    cases r with
    | next => exact ⟨F', _, .none, σ'.hp, rfl, e1, .none, hR'.wd, q⟩
    | brk => exact q.elim
    | cont => exact q.elim
    | ret hvr => exact ⟨F', _, _, σ'.hp, rfl, e1, hvr, hR'.wd, q⟩
end
section
section
variable {C : Cf} {A : Around} {s : Shared} {σ : ASt} {F G : FH} {env : Env} {E : Value → Shared → Prop}
theorem upd_upd (hp : HP) (a : Addr) (x y : AO) : upd (upd hp a x) a y = upd hp a y := by funext b; simp only [upd]; split <;> rfl
theorem Rp.sub {hp : HP} (hR : Rp C A F G env σ s) (h : Sub hp σ.hp) : Rp C A F G env { σ with hp := hp } s := by
  have W := hR.wd
  have no : ∀ {b}, σ.hp b = none → hp b = none := fun {b} e => by
    cases q : hp b with
    | none => rfl
    | some x => rw [h b x q] at e; exact sn_ne e
  obtain ⟨kd, ns, ⟨l1, l2, l3⟩, co, ci, cv, fv⟩ := hR.fm
  refine ⟨⟨W.base, W.fz, W.gz, fun a x e => W.ob a x (h a x e), W.os, W.bare, fun a b g gs gs' ea eb => W.gi _ _ _ _ _ (h _ _ ea) (h _ _ eb), W.fg⟩, ⟨kd, ns, ⟨l1, l2, no l3⟩, fun x hx => ?_, ci, cv, fv⟩, hR.fs⟩
  obtain ⟨c, g1, g2, g3, g4, g5⟩ := co x hx
  exact ⟨c, g1, g2, g3, no g4, g5⟩
noncomputable def delA (hp : HP) (a : Addr) : HP := fun b => if b = a then none else hp b
theorem delA_sub {hp : HP} {a : Addr} : Sub (delA hp a) hp := fun b x e => by
  unfold delA at e
  split at e
  · exact ns_ne e
  · exact e
theorem delA_upd {hp : HP} {a : Addr} {x : AO} (h : hp a = none) : delA (upd hp a x) a = hp := by
  funext b
  simp only [upd, delA]
  by_cases q : b = a
  · simp [q, h]
  · simp [q]
theorem Rp.freezeL {a : Addr} {xs : List AV} (hR : Rp C A F G env σ s) (ha : σ.hp a = some (.list xs)) : ∃ F', Ext F F' ∧ VR F' (.lst xs) (.ref a) ∧ Rp C A F' G env ⟨σ.loc, delA σ.hp a⟩ s := by
  obtain ⟨p, q, o, ho, r⟩ := hR.wd.ob a _ ha
  obtain ⟨zu, zu, a3, a4⟩ := hR.apart ha
  obtain ⟨hR₂, ex⟩ := (hR.sub (delA_sub (a := a))).freezeAt ho p q (if_pos rfl) a3 a4
  (refine OR.listC r fun zv zv b1 b2 b3 b4 b5 => ?_; clear r)
  exact ⟨_, ex, .lst (fput_self _ _ _) b1 b4 (b5.mono ex), hR₂⟩
theorem Rp.relist {x : Str} {a : Addr} {xs : List AV} (hR : Rp C A F G env σ s) (hx : σ.loc.lookup x = some (.ref a)) (hv : VR F (.lst xs) (.ref a)) : Rp C A F G env (σ.set x (.lst xs)) s := by
  obtain ⟨W, ⟨kd, ⟨m, hm, hmv⟩, lo, co, ci, cv, fv⟩, fs⟩ := hR
  refine ⟨W, ⟨kd, ⟨m, hm, fun y av h1 h2 => ?_⟩, lo, co, ci, fun y av c h1 h2 h3 => ?_, fun y av h1 h2 => ?_⟩, fs⟩
  · rw [lookup_setL] at h1
    split at h1
    · rename_i q; subst q; (have zc := Option.some.inj h1; clear h1; subst zc)
      obtain ⟨v, a1, a2⟩ := hmv y _ hx h2
      (have zc := VR.refI a2; clear a2; subst zc); exact ⟨_, a1, hv⟩
    · exact hmv y av h1 h2
  · rw [lookup_setL] at h1
    split at h1
    · rename_i q; subst q; (have zc := Option.some.inj h1; clear h1; subst zc)
      obtain ⟨v, a1, a2⟩ := cv y _ c hx h2 h3
      (have zc := VR.refI a2; clear a2; subst zc); exact ⟨_, a1, hv⟩
    · exact cv y av c h1 h2 h3
  · rw [lookup_setL] at h1
    split at h1
    · rename_i q; subst q; (have zc := Option.some.inj h1; clear h1; subst zc)
      obtain ⟨c, v, o, a1, a2, a3, a4⟩ := fv y _ hx h2
      (have zc := VR.refI a4; clear a4; subst zc); exact ⟨c, _, o, a1, a2, a3, hv⟩
    · exact fv y av h1 h2
theorem Tr.freeze {α β : Type} {R : FH → β → α → Prop} {t : Sem α} {Q : β → ASt → Prop} (x : Str) (a : Addr) (xs : List AV) (ha : σ.hp a = some (.list xs)) (hx : σ.loc.lookup x = some (.ref a)) (h : Tr C A E env R t ⟨setL σ.loc x (.lst xs), delA σ.hp a⟩ Q) : Tr C A E env R t σ Q := by
  intro F G s hR
  obtain ⟨F', e, hv, hR₂⟩ := hR.freezeL ha
  exact h.go (hR₂.relist hx hv) e
theorem Exs_weak {body : List Stmt} {Q : AFlow → ASt → Prop} {loc : List (Str × AV)} (hl : LocLe loc σ.loc) (h : Exs C A E env body ⟨loc, σ.hp⟩ Q) : Exs C A E env body σ Q := fun F G s hR => h F G s (hR.weakLoc hl)
theorem locle_nil {l : List (Str × AV)} : LocLe [] l := fun x av h => by exact ns_ne h
theorem locle_cons {x : Str} {v : AV} {r l : List (Str × AV)} (h : l.lookup x = some v) (k : LocLe r l) : LocLe ((x, v) :: r) l := fun y av e => by
  simp only [List.lookup] at e
  split at e
  · rename_i q
    (have zc := Option.some.inj e; clear e; subst zc)
    rw [beq_iff_eq.mp q]; exact h
  · exact k y av e
theorem PlA.deeper {e : Env} (hN : C.h0.NoSeer) (hl : C.h0.NoLimit) (ht : C.prog.given.tree = none) (hd : A.depth + 1 + Builtin.pylongFrames < recursionLimit) (hgen : e.scope.isGenerator = false) (hco : e.scope.isCoroutine = false) (hb : e.builtins = builtinsNs) (hg : e.globals = mainGlobals) : PlA C (A.deeper e) := by
  intro s ⟨l, hfr⟩ hk
  obtain ⟨l', hl'⟩ : ∃ l', (A.deeper e).frames = some (e :: l') := by
    unfold Around.deeper at hfr ⊢
    dsimp only at hfr ⊢
    cases q : A.frames with
    | none => rw [q] at hfr; exact ns_ne hfr
    | some l' => exact ⟨l', by simp⟩
  refine PylongRoom.of (hl.keeps hk) (by simpa [Around.deeper] using hd) (SeerAt.of (hN.keeps hk) ht hl' hgen hco hb hg)
end
end
section
section
variable {C : Cf} {A : Around} {s : Shared} {σ : ASt} {F G : FH} {env : Env} {E : Value → Shared → Prop} {hp : HP} {loc : PL}
structure TpX (C : Cf) : Prop where
  t : Tp C
  lim : C.h0.NoLimit
  seer : C.h0.NoSeer
  tree : C.prog.given.tree = none
  g_range : GL C "range" (.type "range")
  g_list : GL C "list" (.type "list")
  g_min : GL C "min" (.builtin "min")
  g_max : GL C "max" (.builtin "max")
  g_Tree : GL C "KeywordTree" (.ref 125)
theorem meth_tree {t d f : Addr} {name : Str} {X : Trie} {fin ci : Bool} {Q : AV → List AV → ASt → Prop} (hm : MethAt C 125 name f) (hr : Rep X t d fin ci σ.hp) (h : Q (.ref f) [.ref t] σ) (hn : autoParam ((treeNs (X.A []) X.D.length fin ci).lookup name = none) AC.aux0._auto_1) : MethA C A E env (.ref t) name σ Q :=
  MethA_own hm hr.tree hr.ns hn h
noncomputable def Trie.zero (z e : Addr) : Trie := ⟨[[]], fun zu => z, fun zu => e, fun zu => none, fun zu => [], fun zu => none, fun zu => none⟩
theorem zero_ph1 (z e : Addr) : (Trie.zero z e).Ph1 where
  wf := by
    constructor
    · simp [Trie.zero]
    · simp [Trie.zero]
    · intro p c h; simp [Trie.zero] at h
    · intro p hp q hq zu; simp [Trie.zero] at hp hq; rw [hp, hq]
    · intro p hp x hx; simp [Trie.zero] at hx
    · intro p hp; simp [Trie.zero]
    · intro p hp x hx; simp [Trie.zero] at hx
    · intro p zu; rfl
    · intro p v h; exact ns_ne h
  kid1 := by intro p hp c h; simp [Trie.zero] at h
  kid0 := by intro p hp c h; rfl
  lss := fun zu zu => rfl
  out := fun zu zu => rfl
theorem newTree_fn (T : Tp C) (hroom : A.depth + 4 < recursionLimit) {hp : HP} {ci : Bool} {kw : List (Str × AV)} (hkw : (kw = ([("case_insensitive", .bool ci)] : List (Str × AV))) ∨ (kw = [] ∧ ci = false)) :
    Fn C A (.ref 125) [] kw hp (fun v hp' => ∃ t d z e, v = .ref t ∧ Rep (Trie.zero z e) t d false ci hp' ∧ Fr' (fun zu => False) hp (Fp (Trie.zero z e) t d) hp') := by
  refine new_tree T hroom hkw fun t d z e hp' hnd h1 h2 h3 h4 k1 k2 k3 k4 k5 => ⟨t, d, z, e, rfl, ⟨k1, k2, fun p hp => ?_, fun p hp => ?_⟩, ⟨fun a ha zu => k5 a (by rintro rfl; exact ha h1) (by rintro rfl; exact ha h2) (by rintro rfl; exact ha h3) (by rintro rfl; exact ha h4), fun a ha => ?_⟩⟩
  · have : p = [] := by simpa [Trie.zero] using hp
    subst this
    exact k3
  · exact ⟨0, k4⟩
  · rcases ha with rfl | rfl | ⟨p, zu, rfl | rfl⟩
    · exact .inr h1
    · exact .inr h2
    · exact .inr h3
    · exact .inr h4
noncomputable abbrev Wrd := Path × AV
structure Wok (e : Wrd) : Prop where
  seq : ∀ hp, SeqV e.2 (e.1.map Sym.av) hp
  nref : ∀ a, e.2 ≠ .ref a
  nval : ∀ u, e.2 ≠ .val u
structure WokC (ci : Bool) (e : Wrd) : Prop where
  low : ∀ hp, ∃ v2, LowR ci e.2 v2 ∧ SeqV v2 (e.1.map Sym.av) hp ∧ ∀ a, v2 ≠ .ref a
  len : ∀ hp, ∃ xs, SeqV e.2 xs hp ∧ xs.length = e.1.length
  nref : ∀ a, e.2 ≠ .ref a
  nval : ∀ v, e.2 ≠ .val v
theorem Wok.c {e : Wrd} (h : Wok e) : WokC false e := ⟨fun hp => ⟨e.2, .no, h.seq hp, h.nref⟩, fun hp => ⟨_, h.seq hp, by simp⟩, h.nref, h.nval⟩
theorem wok_low {x : Str} {w : Path} (hx : x.length ≤ 100000) (hw : w.map Sym.av = chars (Txt.lower x)) (hl : w.length = x.length) : WokC true (w, .str x) where
  low := fun hp => ⟨_, .yes hx, by rw [hw]; exact .str (by
    have := congrArg List.length hw
    rw [List.length_map] at this
    have h2 : (chars (Txt.lower x)).length = (Txt.lower x).length := by simp [chars]; rfl
    omega), fun a e => by cases e⟩
  len := fun hp => ⟨_, .str hx, by rw [hl]; simp [chars]; rfl⟩
  nref := fun a e => by cases e
  nval := fun v e => by cases e
noncomputable def keyOf (ws : List Wrd) (p : Path) : Option AV := if p = [] then none else (ws.reverse.find? fun e => e.1 = p).map (·.2)
theorem keyOf_add (ws : List Wrd) (w : Path) (v : AV) (p : Path) : keyOf (ws ++ [(w, v)]) p = if w ≠ [] ∧ p = w then some v else keyOf ws p := by
  unfold keyOf
  by_cases h : p = []
  · subst h
    simp only [if_true]
    split
    · rename_i q; exact absurd q.2.symm q.1
    · rfl
  · simp only [h, if_false, List.reverse_append, List.reverse_cons, List.reverse_nil, List.nil_append, List.cons_append, List.find?_cons]
    by_cases q : w = p
    · subst q; simp [h]
    · simp [q, Ne.symm q]
theorem keyOf_some {ws : List Wrd} {p : Path} {v : AV} (h : keyOf ws p = some v) : p ≠ [] ∧ (p, v) ∈ ws := by
  unfold keyOf at h
  split at h
  · exact ns_ne h
  · rename_i hp
    rw [Option.map_eq_some_iff] at h
    obtain ⟨⟨q, u⟩, h1, rfl⟩ := h
    have h2 := List.mem_of_find?_eq_some h1
    have h3 := List.find?_some h1
    simp at h2 h3
    subst h3
    exact ⟨hp, h2⟩
structure TI where
  X : Trie
  t : Addr
  d : Addr
  fin : Bool
  ws : List Wrd
  ci : Bool
noncomputable def TI.fp (e : TI) (a : Addr) : Prop := Fp e.X e.t e.d a
noncomputable def sumL (ws : List Wrd) : Nat := (ws.map fun e => e.1.length).sum
structure TI.ok (e : TI) (hp : HP) : Prop where
  rep : Rep e.X e.t e.d e.fin e.ci hp
  key : ∀ p, e.X.key p = keyOf e.ws p
  dom : ∀ p, p ∈ e.X.D ↔ p = [] ∨ ∃ w ∈ e.ws, p <+: w.1
  len : e.X.D.length ≤ 1 + sumL e.ws
  ph1 : e.fin = false → e.X.Ph1
  ph3 : e.fin = true → e.X.Ph3
  wok : ∀ w ∈ e.ws, WokC e.ci w
structure Forest (l : List TI) (hp : HP) : Prop where
  ok : ∀ e ∈ l, e.ok hp
  sep : ∀ (i j : Nat) (e e' : TI), l[i]? = some e → l[j]? = some e' → i ≠ j → ∀ a, e.fp a → ¬ e'.fp a
noncomputable def allFp (l : List TI) (a : Addr) : Prop := ∃ e ∈ l, e.fp a
theorem Forest.nil {hp : HP} : Forest [] hp := ⟨fun e h => (by cases h), fun i j e e' h => (by simp at h)⟩
theorem TI.ok.off {e : TI} {hp hp' : HP} (h : e.ok hp) (k : ∀ a, e.fp a → hp' a = hp a) : e.ok hp' := ⟨h.rep.off k, h.key, h.dom, h.len, h.ph1, h.ph3, h.wok⟩
theorem Forest.off {l : List TI} {hp hp' : HP} (h : Forest l hp) (k : ∀ a, allFp l a → hp' a = hp a) : Forest l hp' := ⟨fun e he => (h.ok e he).off fun a ha => k a ⟨e, he, ha⟩, h.sep⟩
theorem Forest.live {l : List TI} {hp : HP} (h : Forest l hp) {a : Addr} (ha : allFp l a) : hp a ≠ none := by
  obtain ⟨e, he, hf⟩ := ha
  exact (h.ok e he).rep.some hf
theorem Forest.turn {l : List TI} {hp hp' : HP} (h : Forest l hp) {j : Nat} {e e' : TI} (hj : l[j]? = some e) (fr : Fr' e.fp hp e'.fp hp') (ok : e'.ok hp') : Forest (l.set j e') hp' ∧ Fr' (allFp l) hp (allFp (l.set j e')) hp' := by
  have hlt : j < l.length := (List.getElem?_eq_some_iff.mp hj).1
  have he : e ∈ l := List.mem_of_getElem? hj
  have new : ∀ a, e'.fp a → ∀ (i : Nat) (o : TI), l[i]? = some o → i ≠ j → ¬ o.fp a := by
    intro a ha i o hi hne ho
    rcases fr.grow a ha with q | q
    · exact h.sep i j o e hi hj hne a ho q
    · exact (h.ok o (List.mem_of_getElem? hi)).rep.some ho q
  refine ⟨⟨fun o ho => ?_, fun i k o o' hi hk hne a ha hb => ?_⟩, ⟨fun a ha hn => fr.keep a ha (fun q => hn ⟨e, he, q⟩), fun a ha => ?_⟩⟩
  · obtain ⟨i, hi⟩ := List.mem_iff_getElem?.mp ho
    by_cases q : j = i
    · subst q
      rw [List.getElem?_set_self hlt] at hi; (have zc := Option.some.inj hi; clear hi; subst zc); exact ok
    · rw [List.getElem?_set_ne q] at hi
      have hoi := List.mem_of_getElem? hi
      exact (h.ok o hoi).off fun a ha => fr.keep a ((h.ok o hoi).rep.some ha) (h.sep i j o e hi hj (fun z => q z.symm) a ha)
  · by_cases q : j = i
    · subst q
      rw [List.getElem?_set_self hlt] at hi; (have zc := Option.some.inj hi; clear hi; subst zc)
      rw [List.getElem?_set_ne hne] at hk
      exact new a ha k o' hk (Ne.symm hne) hb
    · rw [List.getElem?_set_ne q] at hi
      by_cases q2 : j = k
      · subst q2
        rw [List.getElem?_set_self hlt] at hk; (have zc := Option.some.inj hk; clear hk; subst zc)
        exact new a hb i o hi (fun z => q z.symm) ha
      · rw [List.getElem?_set_ne q2] at hk
        exact h.sep i k o o' hi hk hne a ha hb
  · obtain ⟨o, ho, hf⟩ := ha
    obtain ⟨i, hi⟩ := List.mem_iff_getElem?.mp ho
    by_cases q : j = i
    · subst q
      rw [List.getElem?_set_self hlt] at hi; (have zc := Option.some.inj hi; clear hi; subst zc)
      rcases fr.grow a hf with q | q
      · exact .inl ⟨e, he, q⟩
      · exact .inr q
    · rw [List.getElem?_set_ne q] at hi
      exact .inl ⟨o, List.mem_of_getElem? hi, hf⟩
theorem forest_new (T : Tp C) (hroom : A.depth + 4 < recursionLimit) {l : List TI} {hp : HP} {ci : Bool} {kw : List (Str × AV)} (hkw : (kw = ([("case_insensitive", .bool ci)] : List (Str × AV))) ∨ (kw = [] ∧ ci = false)) (h : Forest l hp) :
    Fn C A (.ref 125) [] kw hp (fun v hp' => ∃ e : TI, v = .ref e.t ∧ e.fin = false ∧ e.ws = [] ∧ e.ci = ci ∧ Forest (l ++ [e]) hp' ∧ Fr' (allFp l) hp (allFp (l ++ [e])) hp') := by
  refine (newTree_fn T hroom hkw).mono fun v hp' hq => ?_
  obtain ⟨t, d, z, e, rfl, hr, hfr⟩ := hq
  have new : ∀ a, Fp (Trie.zero z e) t d a → hp a = none := fun a ha => (hfr.grow a ha).resolve_left (fun q => q)
  have old : ∀ a, allFp l a → hp' a = hp a := fun a ha => hfr.keep a (h.live ha) (fun q => q)
  refine ⟨⟨Trie.zero z e, t, d, false, [], ci⟩, rfl, rfl, rfl, rfl, ⟨fun o ho => ?_, fun i j o o' hi hj hne a ha hb => ?_⟩, ⟨fun a ha zu => hfr.keep a ha (fun q => q), fun a ha => ?_⟩⟩
  · rcases List.mem_append.mp ho with ho | ho
    · exact (h.off old).ok o ho
    · simp at ho; subst ho
      refine ⟨hr, fun p => by simp [Trie.zero, keyOf], fun p => by simp [Trie.zero], by simp [Trie.zero], fun zu => zero_ph1 z e, fun q => (by exact ft_ne q), fun w hw => (by cases hw)⟩
  · have sp : ∀ (i : Nat) (o : TI), (l ++ [(⟨Trie.zero z e, t, d, false, [], ci⟩ : TI)])[i]? = some o → l[i]? = some o ∨ (i = l.length ∧ o = ⟨Trie.zero z e, t, d, false, [], ci⟩) := by
      intro i o hi
      rcases Nat.lt_or_ge i l.length with q | q
      · rw [List.getElem?_append_left q] at hi; exact .inl hi
      · rw [List.getElem?_append_right q] at hi
        right
        have : i - l.length = 0 := by
          rcases Nat.eq_zero_or_pos (i - l.length) with z | z
          · exact z
          · rw [List.getElem?_eq_none (by simp; with_reducible exact ou_sl ‹_›)] at hi; exact ns_ne hi
        rw [this] at hi
        simp at hi
        exact ⟨by omega, hi.symm⟩
    rcases sp i o hi with h1 | ⟨h1, rfl⟩
    · rcases sp j o' hj with h2 | ⟨h2, rfl⟩
      · exact h.sep i j o o' h1 h2 hne a ha hb
      · exact (h.ok o (List.mem_of_getElem? h1)).rep.some ha (new a hb)
    · rcases sp j o' hj with h2 | ⟨h2, rfl⟩
      · exact (h.ok o' (List.mem_of_getElem? h2)).rep.some hb (new a ha)
      · exact hne (h1.trans h2.symm)
  · obtain ⟨o, ho, hf⟩ := ha
    rcases List.mem_append.mp ho with ho | ho
    · exact .inl ⟨o, ho, hf⟩
    · simp at ho; subst ho; exact .inr (new a hf)
theorem forest_add (T : Tp C) {l : List TI} {hp : HP} {j : Nat} {e : TI} {w : Wrd} (hA : A.handled = none) (hroom : A.depth + 2 < recursionLimit) (h : Forest l hp) (hj : l[j]? = some e) (hf : e.fin = false) (hw : WokC e.ci w) (hz : 1 + sumL e.ws + w.1.length ≤ 4000) :
    Fn C A (.ref 66) [.ref e.t, w.2] [] hp (fun v hp' => v = .none ∧ ∃ e' : TI, e'.t = e.t ∧ e'.fin = false ∧ e'.ws = e.ws ++ [w] ∧ e'.ci = e.ci ∧ Forest (l.set j e') hp' ∧ Fr' (allFp l) hp (allFp (l.set j e')) hp') := by
  have ok := h.ok e (List.mem_of_getElem? hj)
  have hr := ok.rep
  rw [hf] at hr
  have hlen := ok.len
  obtain ⟨v2, lo, sq, nr⟩ := hw.low hp
  refine (add_fn T (w := w.1) hA hroom (ok.ph1 hf) hr lo sq (fun a q => absurd q (nr a)) (by omega) hw.nval).mono fun v hp' hq => ?_
  obtain ⟨rfl, X', k1, k2, k3, k4, k5, k6, k7⟩ := hq
  refine ⟨rfl, ⟨X', e.t, e.d, false, e.ws ++ [w], e.ci⟩, rfl, rfl, rfl, rfl, h.turn hj k3 ⟨k2, fun p => ?_, fun p => ?_, ?_, fun zu => k1, fun q => (by exact ft_ne q), fun u hu => ?_⟩⟩
  · rw [k5 p, ok.key p, keyOf_add]
  · rw [k4 p, ok.dom p]
    simp only [List.mem_append, List.mem_singleton]
    constructor
    · rintro ((q | ⟨u, hu, q⟩) | q)
      · exact .inl q
      · exact .inr ⟨u, .inl hu, q⟩
      · exact .inr ⟨w, .inr rfl, q⟩
    · rintro (q | ⟨u, hu | rfl, q⟩)
      · exact .inl (.inl q)
      · exact .inl (.inr ⟨u, hu, q⟩)
      · exact .inr q
  · show X'.D.length ≤ 1 + sumL (e.ws ++ [w])
    have : sumL (e.ws ++ [w]) = sumL e.ws + w.1.length := by simp [sumL]
    omega
  · rcases List.mem_append.mp hu with q | q
    · exact ok.wok u q
    · simp at q; subst q; exact hw
theorem forest_fin (T : Tp C) {l : List TI} {hp : HP} {j : Nat} {e : TI} {N : Nat} (hA : A.handled = none) (hroom : A.depth + N + 4 < recursionLimit) (h : Forest l hp) (hj : l[j]? = some e) (hf : e.fin = false) (hz : 1 + sumL e.ws ≤ 300) (hN : ∀ w ∈ e.ws, w.1.length ≤ N) :
    Fn C A (.ref 101) [.ref e.t] [] hp (fun v hp' => v = .none ∧ ∃ e' : TI, e'.t = e.t ∧ e'.fin = true ∧ e'.ws = e.ws ∧ e'.ci = e.ci ∧ Forest (l.set j e') hp' ∧ Fr' (allFp l) hp (allFp (l.set j e')) hp') := by
  have ok := h.ok e (List.mem_of_getElem? hj)
  have hr := ok.rep
  rw [hf] at hr
  have hlen := ok.len
  have hle : ∀ p ∈ e.X.D, p.length ≤ N := fun p hp => by
    rcases (ok.dom p).mp hp with rfl | ⟨w, hw, q⟩
    · simp
    · exact Nat.le_trans q.length_le (hN w hw)
  refine (fin_fn T hA hroom (ok.ph1 hf) hr (by with_reducible exact oa_trans ‹_› ‹_›) hle (fun p v hv => ?_)).mono fun v hp' hq => ?_
  · rw [ok.key p] at hv
    have hm := (keyOf_some hv).2
    have wk := ok.wok _ hm
    obtain ⟨xs, z1, z2⟩ := wk.len hp
    exact ⟨xs, z2, z1, fun a q => absurd q (wk.nref a)⟩
  · obtain ⟨rfl, X', k1, k2, k3, k4, k5, k6, k7⟩ := hq
    have hfp : (⟨X', e.t, e.d, true, e.ws, e.ci⟩ : TI).fp = e.fp := by
      funext a
      simp only [TI.fp, Fp, k4, k5, k6]
    have fr : Fr' e.fp hp (⟨X', e.t, e.d, true, e.ws, e.ci⟩ : TI).fp hp' := by rw [hfp]; exact k3
    refine ⟨rfl, ⟨X', e.t, e.d, true, e.ws, e.ci⟩, rfl, rfl, rfl, rfl, h.turn hj fr ⟨k2, fun p => ?_, fun p => ?_, ?_, fun q => (by exact tf_ne q), fun zu => k1, ok.wok⟩⟩
    · show X'.key p = _
      rw [k7]; exact ok.key p
    · show p ∈ X'.D ↔ _
      rw [k4]; exact ok.dom p
    · show X'.D.length ≤ _
      rw [k4]; exact hlen
theorem key_fun {e : TI} {hp : HP} (h : e.ok hp) : e.X.key = keyOf e.ws := funext h.key
theorem TI.ok.words {e : TI} (h : e.ok hp) {N : Nat} (hN : ∀ w ∈ e.ws, w.1.length ≤ N) : ∀ p ∈ e.X.D, p.length ≤ N := fun p hp => by
  rcases (h.dom p).mp hp with rfl | ⟨w, hw, q⟩
  · exact Nat.zero_le _
  · exact Nat.le_trans q.length_le (hN w hw)
noncomputable def SeqW (hp : HP) (ci : Bool) (pv : PV) (xs : List AV) : Prop := ∀ x, Args hp [pv] [x] → ∃ x2, LowR ci x x2 ∧ SeqV x2 xs hp
theorem SeqW.str {x : Str} (hz : x.length ≤ 100000) : SeqW hp false (.str x, false) (chars x) := fun x h => by
  cases h with | val h => exact ⟨_, .no, .str hz⟩
theorem SeqW.low {x : Str} (hz : x.length ≤ 100000) (hz2 : (Txt.lower x).length ≤ 100000) : SeqW hp true (.str x, false) (chars (Txt.lower x)) := fun x h => by
  cases h with | val h => exact ⟨_, .yes hz, .str hz2⟩
theorem Args.inv2 {a : Addr} {pv : PV} {xs : List AV} (h : Args hp [(.ref a, false), pv] xs) : ∃ x, xs = [.ref a, x] ∧ Args hp [pv] [x] := by
  cases h with
  | val h =>
    cases h with
    | val h => cases h with | nil => exact ⟨_, rfl, .val .nil⟩
    | own ho h => cases h with | nil => exact ⟨_, rfl, .own ho .nil⟩
theorem PE_one (T : Tp C) {o arg : Expr} {apos pos : Pos} {e : TI} {pv : PV} {w : Path} (hA : A.handled = none) (hl : C.h0.NoLimit) (hroom : A.depth + 3 < recursionLimit) (ok : e.ok hp) (hf : e.fin = true) (hz : ∀ w ∈ e.ws, w.1.length ≤ 1000)
    (ho : PE C A hp env loc o (.ref e.t, false)) (hv : PE C A hp env loc arg pv) (hsq : SeqW hp e.ci pv (w.map Sym.av)) (hb : autoParam (attributeBase o "search_one" env (eval o env) = eval o env) AC.aux0._auto_1) (hl' : autoParam (apos.endLine = pos.line) AC.aux0._auto_1)
    (hform : autoParam (methodCallForm ([arg].length + 0) (backTo pos (starEach [arg] env)) (backToKw pos (keywordEach [] env)) = true) AC.aux0._auto_1)
    (ht : autoParam (backTo pos (starEach [arg] env) = argsOf env [arg]) AC.aux0._auto_1) : PE C A hp env loc (.Call (.Attribute o "search_one" apos) [arg] [] pos) (firstOf (fnds (keyOf e.ws) [] w), false) := by
  have hr := ok.rep
  rw [hf] at hr
  obtain ⟨r0, hfn⟩ := T.f_one
  refine PW.pe (PW_Meth ho T.m_one hfn hr.tree hr.ns rfl (.cons hv .nil) (fun xs h => ?_) hb hl' hform ht)
  obtain ⟨x, rfl, hx⟩ := h.inv2
  obtain ⟨x2, lo, sq⟩ := hsq x hx
  exact (one_fn T hA hl hroom (ok.ph3 hf) (ok.words hz) hr lo sq).cl.mono fun v hp' q => ⟨by rw [q.1, key_fun ok], Sub.of q.2⟩
theorem PE_listAll (T : Tp C) {o arg : Expr} {apos pos lp lpos : Pos} {e : TI} {pv : PV} {w : Path} (hA : A.handled = none) (hl : C.h0.NoLimit) (hroom : A.depth + 3 < recursionLimit) (ok : e.ok hp) (hf : e.fin = true) (hz : ∀ w ∈ e.ws, w.1.length ≤ 1000)
    (hg : GL C "list" (.type "list")) (ho : PE C A hp env loc o (.ref e.t, false)) (hv : PE C A hp env loc arg pv) (hsq : SeqW hp e.ci pv (w.map Sym.av)) (hlen : (fnds (keyOf e.ws) [] w).length ≤ 100000) (hb : autoParam (attributeBase o "search_all" env (eval o env) = eval o env) AC.aux0._auto_1) (hl' : autoParam (apos.endLine = pos.line) AC.aux0._auto_1)
    (hform : autoParam (methodCallForm ([arg].length + 0) (backTo pos (starEach [arg] env)) (backToKw pos (keywordEach [] env)) = true) AC.aux0._auto_1)
    (ht : autoParam (backTo pos (starEach [arg] env) = argsOf env [arg]) AC.aux0._auto_1) (hk : autoParam (env.kindOf "list" = some .globalImplicit) AC.aux0._auto_1)
    (he : autoParam (eval (.Call (.Name "list" lp) [.Call (.Attribute o "search_all" apos) [arg] [] pos] [] lpos) env = (do callWith lpos (← eval (.Name "list" lp) env) [] [(false, eval (.Call (.Attribute o "search_all" apos) [arg] [] pos) env)] [])) AC.aux0._auto_1) :
    PE C A hp env loc (.Call (.Name "list" lp) [.Call (.Attribute o "search_all" apos) [arg] [] pos] [] lpos) (.lst (fnds (keyOf e.ws) [] w), false) := by
  have hr := ok.rep
  rw [hf] at hr
  obtain ⟨r0, hfn⟩ := T.f_all
  have hX := ok.ph3 hf
  have hD := ok.words hz
  rw [← key_fun ok] at hlen ⊢
  refine PW.pe (PW_Call1 (Q := fun v hp' => ∃ ga N, v = .ref ga ∧ Sub hp hp' ∧ Rep e.X e.t e.d true e.ci hp' ∧ Sch C e.X e.t e.d hp' ga (fnds e.X.key [] w) N ∧ ∀ a, N a → hp a = none) hg (PW_Meth ho T.m_all hfn hr.tree hr.ns rfl (.cons hv .nil) (fun xs h => ?_) hb hl' hform ht) (fun av hp' q => ?_) (fun zu zu => KeepOk_plain (by intro a; simp)) hk he)
  · obtain ⟨x, rfl, hx⟩ := h.inv2
    obtain ⟨x2, lo, hsx⟩ := hsq x hx
    refine (all_fn T (tv := x) (Nat.lt_of_succ_lt (Nat.lt_of_succ_lt hroom)) hr lo).cl.mono fun v hp' hq => ?_
    obtain ⟨r, L, ga, g, rfl, hF, h1, h2, hk⟩ := hq
    have nf : ∀ {a}, hp a = none → ¬ Fp e.X e.t e.d a := fun e hf => hr.some hf e
    have hr' : Rep e.X e.t e.d true e.ci hp' := hr.off fun a ha => hk a (hr.some ha)
    refine ⟨ga, _, rfl, Sub.of hk, hr', Sch.fresh hF (hsx.keep fun l zs hl => (hk l (by rw [hl]; exact fun z => nomatch z)).trans hl) (fun l e => ?_) (nf h2) (nf h1), fun a ha => ?_⟩
    · subst e
      cases hsx
    · rcases ha with rfl | rfl
      · exact h2
      · exact h1
  · obtain ⟨ga, N, rfl, hs, hr', hS, hN⟩ := q
    exact (list_sch T hA hl (Nat.lt_of_succ_lt hroom) hX hD hr' hS hlen).mono fun v hp'' q => ⟨q.1, fun a x hx => by
      rw [← hs a x hx]
      exact q.2 a (by rw [hs a x hx]; exact fun z => nomatch z) fun hn => by rw [hN a hn] at hx; exact ns_ne hx⟩
end
end
section
section
variable {C : Cf} {A : Around} {s : Shared} {σ : ASt} {F G : FH} {env : Env} {E : Value → Shared → Prop} {hp : HP} {loc : PL}
theorem PT.eq {α β : Type} {R : FH → β → α → Prop} {t : Sem α} {b b' : β} (h : PT C A hp env loc R t b) (e : b = b') : PT C A hp env loc R t b' := e ▸ h
theorem PE.eqv {e : Expr} {a b : AV} (h : PE C A hp env loc e (a, false)) (q : a = b) : PE C A hp env loc e (b, false) := q ▸ h
theorem PI.eq {target iter : Expr} {xs ys : List AV} (h : PI C A hp env loc target iter xs) (e : xs = ys) : PI C A hp env loc target iter ys := e ▸ h
theorem PCm.eq {elt : Expr} {gens : List Comprehension} {scope : Scope} {pos : Pos} {xs ys : List AV} (h : PCm C A hp env loc elt gens scope pos xs) (e : xs = ys) : PCm C A hp env loc elt gens scope pos ys := e ▸ h
theorem rangeL_int (a : Int) (n : Nat) : rangeL a 1 n = (List.range n).map fun (i : Nat) => AV.int (a + (i : Int)) := by
  unfold rangeL
  apply List.map_congr_left
  intro i zu
  simp
theorem small_range {a b : Int} (h1 : -1000000 ≤ a) (h2 : a ≤ 1000000) (h3 : -1000000 ≤ b) (h4 : b ≤ 1000000) : Builtin.Range.small a b 1 = true := small_one (by omega) (by omega) (by omega) (by omega)
theorem rsize {a b : Int} {n : Nat} (h : (n : Int) = b - a ∨ (b ≤ a ∧ n = 0)) : Builtin.Range.rangeSize a b 1 = n := by rw [rangeSize_one]; split <;> omega
noncomputable abbrev lstI (l : List Int) : AV := .lst (l.map .int)
theorem PI_rng2 {target : Expr} {x : Str} {px pos : Pos} {e1 e2 : Expr} {a b : Int} {n : Nat} (hA : A.handled = none) (hg : GL C x (.type "range")) (hv : PE C A hp env loc e1 (.int a, false)) (hv2 : PE C A hp env loc e2 (.int b, false)) (h1 : -1000000 ≤ a) (h2 : a ≤ 1000000) (h3 : -1000000 ≤ b) (h4 : b ≤ 1000000) (hn : (n : Int) = b - a ∨ (b ≤ a ∧ n = 0)) (hk : autoParam (env.kindOf x = some .globalImplicit) AC.aux0._auto_1)
    (he : autoParam (eval (.Call (.Name x px) [e1, e2] [] pos) env = (do callWith pos (← eval (.Name x px) env) [] (argsOf env [e1, e2]) [])) AC.aux0._auto_1) (hd : autoParam ((x == ("__debug__" : Str)) = false) AC.aux1._auto_1) : PI C A hp env loc target (.Call (.Name x px) [e1, e2] [] pos) ((List.range n).map fun (i : Nat) => AV.int (a + (i : Int))) :=
  (PI_range2 (n := n) hA hg (.cons hv (.cons hv2 .nil)) (small_range h1 h2 h3 h4) (rsize hn) hk he hd).eq (rangeL_int a n)
theorem PE_Def {x : Str} {px pos : Pos} {args : List Expr} {f : Addr} {fd : FuncData} {pvs : List PV} {v : AV} (hf : FnAt C f fd) (hg : GL C x (.ref f)) (hv : PEl C A hp env loc args pvs) (h : ∀ xs, Args hp pvs xs → Fn C A (.ref f) xs [] hp (fun v' hp' => v' = v ∧ hp' = hp)) (hk : autoParam (env.kindOf x = some .globalImplicit) AC.aux0._auto_1)
    (he : autoParam (eval (.Call (.Name x px) args [] pos) env = (do callWith pos (← eval (.Name x px) env) [] (argsOf env args) [])) AC.aux0._auto_1) (hd : autoParam ((x == ("__debug__" : Str)) = false) AC.aux1._auto_1) : PE C A hp env loc (.Call (.Name x px) args [] pos) (v, false) :=
  PE_Call hg hv (PCw.pc fun xs hx => (h xs hx).cl.mono fun v' hp' q => ⟨q.1, by rw [q.2]; exact .refl _⟩) (fun zu k => hf.keep k) hk he hd
theorem Args.vals {xs ys : List AV} (h : Args hp (vals xs) ys) : ys = xs := by
  induction xs generalizing ys with
  | nil => cases h; rfl
  | cons x xs ih => cases h with | val h => rw [ih h]
end
end
section
section
variable {C : Cf} {A : Around} {s : Shared} {F G : FH} {env : Env} {E : Value → Shared → Prop} {hp : HP} {loc : PL}
noncomputable def cutN {α : Type} (xs : List α) (lo hi : Option Nat) : List α := (xs.drop (lo.getD 0)).take (hi.getD xs.length - lo.getD 0)
end
end
section
section
variable {C : Cf} {A : Around} {s : Shared} {F G : FH} {env : Env} {E : Value → Shared → Prop} {hp : HP} {loc : PL}
noncomputable abbrev sS (l : List Nat) : AV := .str ⟨l.toArray⟩
theorem strIdx (lo hi : Option Nat) (n : Nat) : Builtin.Str.strSliceIndices (lo.map Int.ofNat) (hi.map Int.ofNat) 1 n = (List.range (min (hi.getD n) n - min (lo.getD 0) n)).map (min (lo.getD 0) n + ·) := by
  rw [← sliceRange_one]
  unfold Builtin.Str.strSliceIndices
  have h1 : (1 : Int) > 0 := by omega
  cases lo <;> cases hi <;> simp only [Option.map_none, Option.map_some, Option.getD_none, Option.getD_some, h1, if_true] <;> congr 1 <;> simp <;> omega
theorem slice_eq (l : List Nat) (lo hi : Option Nat) : Txt.slice ⟨l.toArray⟩ (lo.map Int.ofNat) (hi.map Int.ofNat) = ⟨(cutN l lo hi).toArray⟩ := by
  have hn : (⟨l.toArray⟩ : Str).length = l.length := rfl
  have key : ((Builtin.Str.strSliceIndices (lo.map Int.ofNat) (hi.map Int.ofNat) 1 l.length).filterMap (l.toArray[·]?)) = cutN l lo hi := by
    rw [strIdx, pick_run l.toArray]
    show List.take _ (List.drop _ l) = _
    unfold cutN
    by_cases q : lo.getD 0 ≤ l.length
    · rw [Nat.min_eq_left q]
      by_cases q2 : hi.getD l.length ≤ l.length
      · rw [Nat.min_eq_left q2]
      · rw [Nat.min_eq_right (show l.length ≤ hi.getD l.length by omega), List.take_of_length_le (by simp), List.take_of_length_le (by simp; omega)]
    · rw [Nat.min_eq_right (show l.length ≤ lo.getD 0 by omega), List.drop_of_length_le (Nat.le_refl _), List.drop_of_length_le (show l.length ≤ lo.getD 0 by omega)]; simp
  unfold Txt.slice
  rw [hn]
  split
  · rename_i q
    simp only [beq_self_eq_true, Bool.true_and, beq_iff_eq] at q
    rw [strIdx, List.length_map, List.length_range] at q
    congr 2
    unfold cutN
    by_cases z : l.length = 0
    · rw [List.eq_nil_of_length_eq_zero z]; simp
    · have z1 : lo.getD 0 = 0 := by omega
      rw [z1, List.drop_zero, List.take_of_length_le (by omega)]
  · rw [key]
theorem PSl_str {l : List Nat} {lo hi : Option Nat} (hz : l.length ≤ 100000) : PSl C A hp (sS l, false) (lo.map Int.ofNat) (hi.map Int.ofNat) none (sS (cutN l lo hi), false) := fun F s E v a lv uv w hin hv hs pl pu pw value slice => by
  obtain ⟨t, rfl⟩ := hv.out.strI
  obtain rfl : w = .none := by cases pw; rfl
  have hsz : (⟨l.toArray⟩ : Str).length ≤ sizeLine := by rw [sizeLine_eq]; exact Nat.le_trans hz (by decide)
  have fin : ∀ t' k, PuQ C A hp F s (fun F' v => PVR hp F' (sS (cutN l lo hi), false) v) (.str (Txt.slice ⟨l.toArray⟩ (lo.map Int.ofNat) (hi.map Int.ofNat)) t') { s with toks := k } := fun t' k => by
    rw [slice_eq]; exact PuQ.here (t := k) hin (.val (.str _ _))
  obtain ⟨o, ho, hc, hd⟩ := hs
  cases lo with
  | none =>
    cases pl
    cases hi with
    | none =>
      cases pu
      exact tail_of (typeIs_str s _ t) PySem.F.slot_str_getitem.lookup (wpAny_getItem_str_slice (l := none) (u := none) (st := none) ⟨o, ho, hc, hd⟩ rfl (post_val_or_str ⟨Nat.le_trans (Txt.slice_le _ none none) hsz, fin⟩))
    | some j =>
      cases pu with
      | int _ ju => exact tail_of (typeIs_str s _ t) PySem.F.slot_str_getitem.lookup (wpAny_getItem_str_slice (l := none) (u := some (_, ju)) (st := none) ⟨o, ho, hc, hd⟩ rfl (post_val_or_str ⟨Nat.le_trans (Txt.slice_le _ none (some (Int.ofNat j))) hsz, fin⟩))
  | some i =>
    cases pl with
    | int _ iu =>
      cases hi with
      | none =>
        cases pu
        exact tail_of (typeIs_str s _ t) PySem.F.slot_str_getitem.lookup (wpAny_getItem_str_slice (l := some (_, iu)) (u := none) (st := none) ⟨o, ho, hc, hd⟩ rfl (post_val_or_str ⟨Nat.le_trans (Txt.slice_le _ (some (Int.ofNat i)) none) hsz, fin⟩))
      | some j =>
        cases pu with
        | int _ ju => exact tail_of (typeIs_str s _ t) PySem.F.slot_str_getitem.lookup (wpAny_getItem_str_slice (l := some (_, iu)) (u := some (_, ju)) (st := none) ⟨o, ho, hc, hd⟩ rfl (post_val_or_str ⟨Nat.le_trans (Txt.slice_le _ (some (Int.ofNat i)) (some (Int.ofNat j))) hsz, fin⟩))
theorem PSl_str_run {l : List Nat} {a b : Nat} (hz : l.length ≤ 100000) : PSl C A hp (sS l, false) (some (a : Int)) (some (b : Int)) none (sS ((l.drop a).take (b - a)), false) := PSl_str (lo := some a) (hi := some b) hz
theorem s_str {value slice : Expr} {l : List Nat} {k c : Nat} (hk : l[k]? = some c) (hz : l.length ≤ 100000) : PO2 C A hp (PVR hp) (subscriptTail value slice) (sS l, false) (.int (k : Int), false) (sS [c], false) := fun F s E v w hin hv hw => by
  obtain ⟨t, rfl⟩ := hv.out.strI
  obtain ⟨u, rfl⟩ := hw.out.intI
  have hlt : k < l.length := (List.getElem?_eq_some_iff.mp hk).1
  refine tail_of (typeIs_str s _ t) PySem.F.slot_str_getitem.lookup (P.getItem_str (c := c) ?_ ?_ (PuQ.here (t := s.toks + 1) hin (.val (.str _ _))))
  · simp; omega
  · have : seqIndex? (k : Int) (⟨l.toArray⟩ : Str).length = some k := by
      unfold seqIndex?
      have h2 : (⟨l.toArray⟩ : Str).length = l.length := rfl
      rw [h2]; simp; omega
    rw [this]
    show l.toArray[k]? = some c
    rw [List.getElem?_toArray]; exact hk
theorem VRs.strs : ∀ {ys : List Str} {vs : List Value}, VRs F (ys.map .str) vs → StrsAre vs ys
  | [], _, h => by obtain rfl := VRs.nilI h; exact .nil
  | y :: ys, _, h => by
    obtain ⟨v, us, rfl, h1, h2⟩ := h.inv
    obtain ⟨t, rfl⟩ := h1.strI
    exact .cons y t h2.strs
theorem join_eq (ls : List (List Nat)) : Txt.join ⟨#[]⟩ (ls.map fun l => ⟨l.toArray⟩) = ⟨ls.flatten.toArray⟩ := by
  have key : ∀ (ls : List (List Nat)) (a : List Nat), (ls.map fun l => (⟨l.toArray⟩ : Str)).foldl (fun acc p => acc ++ #[] ++ p.cps) a.toArray = (a ++ ls.flatten).toArray := by
    intro ls
    induction ls with
    | nil => intro a; simp
    | cons l ls ih =>
      intro a
      rw [List.map_cons, List.foldl_cons]
      have : a.toArray ++ #[] ++ (⟨l.toArray⟩ : Str).cps = (a ++ l).toArray := by simp
      rw [this, ih]; simp
  unfold Txt.join Builtin.Str.glued
  cases ls with
  | nil => rfl
  | cons l ls =>
    have := key ls l
    simp only [List.map_cons, List.drop_succ_cons, List.drop_zero, List.headD_cons, List.flatten_cons]
    rw [this]
theorem PE_join {sep arg : Expr} {apos pos : Pos} {ls : List (List Nat)} {p : Bool} (h : PE C A hp env loc sep (sS [], false)) (h2 : PE C A hp env loc arg (.lst (ls.map sS), p)) (hz : (ls.map List.length).sum ≤ 100000) (hb : autoParam (attributeBase sep "join" env (eval sep env) = eval sep env) AC.aux0._auto_1)
    (hfew : autoParam (((backTo pos (starEach [arg] env)).all (fun x => !x.1) && (backToKw pos (keywordEach [] env)).all (fun x => x.1.isSome) && decide ([arg].length + ([] : List Keyword).length + (if ([] : List Keyword).isEmpty then 0 else 1) < 30)) = true) AC.aux0._auto_1)
    (hl : autoParam ((apos.endLine == pos.line) = true) AC.aux0._auto_1) (ht : autoParam (backTo pos (starEach [arg] env) = argsOf env [arg]) AC.aux0._auto_1) : PE C A hp env loc (.Call (.Attribute sep "join" apos) [arg] [] pos) (sS ls.flatten, false) := .mk fun F s E c => by
  refine wpAny_Call_method_lateS hb hfew hl ?_
  rw [ht]
  refine h.use c fun F₁ s₁ v st₁ c₁ r => ?_
  obtain ⟨t, rfl⟩ := r.out.strI
  refine SB.join (h2.use c₁ fun F₂ s₂ v2 st₂ c₂ r2 => ?_)
  obtain ⟨a, o, vs, n, rfl, ho, hc, hd, hvs, _⟩ := r2.lstI c₂.wp
  have e : ls.map sS = (ls.map fun l => (⟨l.toArray⟩ : Str)).map AV.str := by rw [List.map_map]; rfl
  rw [e] at hvs
  obtain ⟨l, hv, hx⟩ := strsAre_values hvs.strs
  refine ⟨a, l, rfl, ⟨o, ho, hc, n, by rw [hd, hv]⟩, _, hx, joinOk_of ?_, fun t' k => ?_⟩
  · show ((ls.map fun l => (⟨l.toArray⟩ : Str)).map (·.length)).sum + _ * 0 ≤ _
    rw [List.map_map]
    have : ((fun x : Str => x.length) ∘ fun l : List Nat => (⟨l.toArray⟩ : Str)) = List.length := rfl
    rw [this]; omega
  · have hje : Txt.join ⟨([] : List Nat).toArray⟩ (ls.map fun l => ⟨l.toArray⟩) = ⟨ls.flatten.toArray⟩ := join_eq ls
    rw [hje]
    exact (PuQ.here (t := k) c₂.wp (.val (.str _ _))).pre (st₁.trans st₂)
end
end
section
section
variable {C : Cf} {A : Around} {s : Shared} {F G : FH} {env : Env} {E : Value → Shared → Prop} {hp : HP} {loc : PL}
noncomputable abbrev iN (n : Nat) : AV := .int (n : Int)
theorem b_addS {a b : List Nat} (hz : a.length + b.length ≤ 100000) : PO2 C A hp (PVR hp) (binaryOp .Add) (sS a, false) (sS b, false) (sS (a ++ b), false) := fun F s E v u hin hv hu => by
  obtain ⟨t, rfl⟩ := hv.out.strI
  obtain ⟨t2, rfl⟩ := hu.out.strI
  refine PyProof.Rows.add_str (fun t' tk => ?_) (by rw [sizeLine_eq]; show a.length + b.length ≤ _; exact Nat.le_trans hz (by decide))
  have e : (⟨a.toArray⟩ : Str) ++ ⟨b.toArray⟩ = ⟨(a ++ b).toArray⟩ := by
    show (⟨a.toArray ++ b.toArray⟩ : Str) = _
    simp
  rw [e]
  exact PuQ.here (t := tk) hin (.val (.str _ _))
theorem Wp.dictOf (w : Wp C A hp F s) {a : Addr} {l : List (Sym × AV)} {ep : Nat} (ha : hp a = some (.dict l ep)) : ∃ kvs, s.heap.DictOf (symKind C.prog C.w) a kvs ∧ SV F l kvs := by
  obtain ⟨_, o, ho, r⟩ := w.ob a _ ha
  (refine OR.dictC r fun es kvs a1 a2 a3 a4 a5 a6 => ?_; clear r)
  exact ⟨_, ⟨_, _, _, ho, a1, a2, a3, a4, a5⟩, a6⟩
theorem s_dict {value slice : Expr} {a : Addr} {l : List (Sym × AV)} {ep : Nat} {k : Sym} {x : AV} (ha : hp a = some (.dict l ep)) (hx : at? l k = some x) : PO2 C A hp (PVR hp) (subscriptTail value slice) (.ref a, false) (k.av, false) (x, false) := fun F s E v u hin hv hu => by
  obtain rfl := hv.out.refI
  obtain ⟨kvs, hd, sv⟩ := hin.dictOf ha
  rcases sv.at k with ⟨x', v', h1, h2, h3⟩ | ⟨h1, _⟩
  · rw [hx] at h1; (have zc := Option.some.inj h1; clear h1; subst zc)
    have hm := mapOf_of hd
    exact tail_of hm.typeIs slot_dict_getitem.lookup (wpAny_getItem_of (Sym.is_of hu.out) hm h2 (show PuQ C A hp F s (fun F' v => PVR hp F' (x, false) v) _ _ from PuQ.here (t := s.toks + 1) hin (PVR.val h3)))
  · rw [hx] at h1; exact sn_ne h1
theorem Wp.low (w : Wp C A hp F s) {a : Addr} {x : AO} (ha : hp a = some x) (hs : (C.h0.get? sysModules).isSome = true) : (a == sysModules) = false := by
  simp only [beq_eq_false_iff_ne, ne_eq]
  rintro rfl
  obtain ⟨o, ho⟩ := Option.isSome_iff_exists.mp hs
  have := (w.ob _ _ ha).1
  rw [w.base _ _ ho] at this
  exact sn_ne this
theorem c_inD (hs : (C.h0.get? sysModules).isSome = true) {a : Addr} {l : List (Sym × AV)} {ep : Nat} {k : Sym} (ha : hp a = some (.dict l ep)) : PO2 C A hp (PVR hp) (compareOp .In) (k.av, false) (.ref a, false) (.bool (at? l k).isSome, false) := fun F s E v u hin hv hu => by
  obtain rfl := hu.out.refI
  obtain ⟨kvs, hd, sv⟩ := hin.dictOf ha
  refine wpAny_in_of (Sym.is_of hv.out) (hin.low ha hs) (mapOf_of hd) (show PuQ C A hp F s (fun F' v => PVR hp F' (.bool (at? l k).isSome, false) v) _ _ from PuQ.here (t := s.toks + 1) hin (PVR.val ?_))
  rcases sv.at k with ⟨x', v', h1, h2, h3⟩ | ⟨h1, h2⟩
  · rw [h1, h2]; exact .bool _
  · rw [h1, h2]; exact .bool _
theorem CmpOf.strs_lt {prog : Program} {w : World} {A : Around} {P : Nat → Value → Prop} (val : Nat → Str) (hval : ∀ i v, P i v → ∃ t, v = .str (val i) t) : CmpOf prog w A .Lt P (fun i j => decide ((val i).cps.toList < (val j).cps.toList)) := by
  intro i j vi vj s Q E hi hj hQ
  obtain ⟨t, rfl⟩ := hval i vi hi
  obtain ⟨u, rfl⟩ := hval j vj hj
  exact richCompare_gives (op := .Lt) (typeIs_str s _ t) (typeIs_str s _ u) PySem.F.slot_str_lt PySem.F.entry_str_lt (PySem.F.args_str_lt_2 _ _) (gives_str_lt _ _ t u) (fun x => nomatch x) hQ
theorem min_two_strs {x y : Str} {t u : Tok} {Q : Value → Shared → Prop} (hh : A.handled = none)
    (h : ∀ h' tk, (∀ c o, s.heap.get? c = some o → h'.get? c = some o) → Q (if y.cps.toList < x.cps.toList then .str y u else .str x t) { s with heap := h', toks := tk }) :
    wpAny (model C.prog C.w) A (PySem.call (.builtin "min") [.str x t, .str y u]) Q E s := by
  have hT : (s.heap.push { cls := .type "tuple", data := .seq #[.str x t, .str y u] }).IsTuple s.heap.objs.size #[.str x t, .str y u] := ⟨_, Heap.get?_push_size _ rfl, rfl, 0, rfl⟩
  refine call_min_two (wpAny_pyIter_tuple hT ?_)
  have hsz : (s.heap.push { cls := .type "tuple", data := .seq #[.str x t, .str y u] }).objs.size = s.heap.objs.size + 1 := Heap.size_push ..
  refine ⟨_, [_, s.heap.objs.size], [_], _, _, _, _, rfl, Walks.tuple (A := A.in1) hh _ s.heap.objs.size (by rw [hsz]; exact Nat.ne_of_lt (Nat.lt_succ_self _)) #[.str x t, .str y u],
    ⟨⟨_, Heap.get?_push_size _ rfl, rfl, rfl⟩, hT.push _⟩, fun c hc => ?_, by simp, CmpOf.strs_lt (fun i => if i = 0 then x else y) (fun i v hi => ?_), fun v h' tk hP hk => ?_⟩
  · show c < ((s.heap.push _).push _).objs.size
    rw [Heap.size_push, hsz]
    rcases List.mem_cons.mp hc with rfl | hc
    · rw [hsz]; exact Nat.lt_succ_self _
    · rcases List.mem_cons.mp hc with rfl | hc
      · exact Nat.lt_succ_of_lt (Nat.lt_succ_self _)
      · cases hc
  · match i, hi with
    | 0, hi => exact ⟨t, (Option.some.inj hi).symm⟩
    | 1, hi => exact ⟨u, (Option.some.inj hi).symm⟩
  · have hold : ∀ c o, s.heap.get? c = some o → h'.get? c = some o := fun c o e => by
      refine hk c o (fun hm => ?_) (Heap.get?_push_of_some _ (Heap.get?_push_of_some _ e))
      rcases List.mem_cons.mp hm with e1 | hm
      · have := Heap.lt_size e; rw [e1, hsz] at this; exact Nat.lt_irrefl _ (Nat.lt_of_succ_lt this)
      · cases hm
    have := h h' tk hold
    have hv : v = if y.cps.toList < x.cps.toList then Value.str y u else Value.str x t := by
      have hP' : (#[.str x t, .str y u] : Array Value)[argBest (fun i j => decide ((if i = 0 then x else y).cps.toList < (if j = 0 then x else y).cps.toList)) 1]? = some v := hP
      by_cases hba : y.cps.toList < x.cps.toList
      · have e : argBest (fun i j => decide ((if i = 0 then x else y).cps.toList < (if j = 0 then x else y).cps.toList)) 1 = 1 := by simp [argBest, hba]
        rw [e] at hP'
        rw [if_pos hba]; exact (Option.some.inj hP').symm
      · have e : argBest (fun i j => decide ((if i = 0 then x else y).cps.toList < (if j = 0 then x else y).cps.toList)) 1 = 0 := by simp [argBest, hba]
        rw [e] at hP'
        rw [if_neg hba]; exact (Option.some.inj hP').symm
    rw [hv]; exact this
theorem k_minS {c d : Nat} (hA : A.handled = none) : PK C A hp (.builtin "min") [(sS [c], false), (sS [d], false)] (sS [min c d], false) := fun F s E us hin r => by
  obtain ⟨v, us, rfl, r1, r⟩ := r.inv
  obtain ⟨v2, us, rfl, r2, r⟩ := r.inv
  obtain rfl := r.nilI
  obtain ⟨t, rfl⟩ := r1.out.strI
  obtain ⟨t2, rfl⟩ := r2.out.strI
  refine min_two_strs hA fun h' tk hk => ?_
  have st := Stp.keep (t := tk) hin hk
  have hlt : ((⟨[d].toArray⟩ : Str).cps.toList < (⟨[c].toArray⟩ : Str).cps.toList) ↔ d < c := by
    show ([d] < [c]) ↔ _
    simp [List.cons_lt_cons_iff]
  by_cases q : d < c
  · rw [if_pos (hlt.mpr q), Nat.min_eq_right (Nat.le_of_lt q)]; exact ⟨F, st, .val (.str _ _)⟩
  · rw [if_neg (fun z => q (hlt.mp z)), Nat.min_eq_left (Nat.le_of_not_lt q)]; exact ⟨F, st, .val (.str _ _)⟩
end
end
section
section
variable {C : Cf} {A : Around} {s s' : Shared} {F F' G : FH} {env : Env} {E : Value → Shared → Prop} {hp hp' : HP} {loc : PL} {σ : ASt}
noncomputable abbrev lawP : DefP := defP "law"
noncomputable abbrev lenv (r : FdRest) (L f : Addr) : Env := callEnvC (r.fd lawP .none) L f
theorem binds_law (C : Cf) (r : FdRest) (x : AV) : BindsC C (r.fd lawP .none) [x] [] [("script", x)] := by
  intro F vs kvs h1 h2
  obtain ⟨v1, us1, rfl, hv1, h1⟩ := h1.inv
  obtain rfl := h1.inv0
  obtain rfl := h2.inv0
  exact ⟨[("script", v1)], Looks.of_pure (by kernel_rfl), .cons hv1 .nil, by kernel_rfl⟩
theorem VRs.ofInts {F : FH} : ∀ {vs : List Value} {ns : List Int}, IntsAre vs ns → VRs F (ns.map .int) vs
  | _, _, .nil => .nil
  | _, _, .cons n t h => .cons (.int n t) (VRs.ofInts h)
theorem finish {C : Cf} {f a : Addr} {vs : List Value} {ns : List Int} {s₁ : Shared} {P E : Value → Shared → Prop}
    (h : ∀ ns : List Int, ns.length ≤ 63 → Fn C callerA (.ref f) [.lst (ns.map .int)] [] (fun zu => none) (fun v zu => v = .bool true)) (hl : C.h0.IsList a vs.toArray) (hi : IntsAre vs ns) (hlen : ¬ ((63 : Nat) : Int) < (ns.length : Int))
    (hh : s₁.heap = C.h0) (hos : s₁.os = C.os) (hg : s₁.gens = #[]) (hP : ∀ s' : Shared, OldK s₁.heap s'.heap → s'.os = s₁.os → AllBare s'.gens → P (.bool true) s') : wpAny (model C.prog C.w) callerA (call (.ref f) [.ref a]) P E s₁ := by
  obtain ⟨o, ho, hc, n, hd⟩ := hl
  have W : Wd C (fun b => C.h0.get? b) (fun zu => none) (fun zu => none) s₁ := ⟨fun b o e => e, fun b o e => by rw [hh]; exact e, fun b o e => (by exact ns_ne e), fun b x e => (by exact ns_ne e), hos, by rw [hg]; exact .of_eq rfl, fun a b g gs gs' e => (by exact ns_ne e), fun b o e => rfl⟩
  refine wpAny_call (codeAny_mono (h ns (by omega) _ _ s₁ [.ref a] [] ⟨[], rfl, fun e he => (by cases he)⟩ W (.cons (.lst ho hc hd (VRs.ofInts hi)) .nil) .nil) fun r s' hr => ?_)
  obtain ⟨F', v, av, hp', rfl, e1, hv, W', rfl⟩ := hr
  (have zc := VR.boolI hv; clear hv; subst zc)
  exact hP s' (.of_keep fun b o e => W'.old b o (by rw [← hh]; exact e)) (by rw [W'.os, hos]) W'.bare
end
end
section
section
variable {C : Cf} {A : Around} {s : Shared} {F F' G : FH} {env : Env} {hp hp' : HP} {σ : ASt}
theorem SeqV.any {v : AV} {xs : List AV} (h : SeqV v xs hp) : SeqV v xs hp' := by
  cases h with
  | str a => exact .str a
theorem Src.off {ia : Addr} {i : Nat} {rest : List AV} (h : Src ia i rest hp) (e : hp' ia = hp ia) : Src ia i rest hp' := by
  cases h with
  | str a b => exact .str (e.trans a) b
theorem Sch.off {X : Trie} {t d ga : Addr} {rem : List AV} {N : Addr → Prop} (h : Sch C X t d hp ga rem N) (k : ∀ a, N a → hp' a = hp a) : Sch C X t d hp' ga rem N := by
  cases h with
  | fresh g q sp f1 f2 => exact .fresh ⟨(k _ (.inl rfl)).trans g.gen, (k _ (.inr rfl)).trans g.frm, g.nc⟩ q.any sp f1 f2
  | @susp r L ea ia ba ja gn u rest kk nc g f1 f2 f3 f4 f5 =>
    refine .susp (g := gn) nc ⟨?_, ?_, ?_, ?_, ?_, ?_, g.nji⟩ f1 f2 f3 f4 f5
    · obtain ⟨gs, h1, h2⟩ := g.gen
      exact ⟨gs, (k _ (.inl rfl)).trans h1, h2⟩
    · exact (k _ (.inr (.inl rfl))).trans g.frm
    · exact (k _ (.inr (.inr (.inr (.inr (.inl rfl)))))).trans g.bnd
    · obtain ⟨old, h1⟩ := g.enm
      exact ⟨old, (k _ (.inr (.inr (.inl rfl)))).trans h1⟩
    · exact g.src.off (k _ (.inr (.inr (.inr (.inl rfl)))))
    · exact (k _ (.inr (.inr (.inr (.inr (.inr rfl)))))).trans g.itr
inductive SLoop (C : Cf) (A : Around) (F₀ G : FH) (env : Env) (I : List AV → (Addr → Prop) → ASt → Prop) (n : Nat) (s : Shared) : Prop
  | mk (F : FH) (σ : ASt) (N : Addr → Prop) (xs : List AV) (e : Ext F₀ F) (hR : Rp C A F G env σ s) (hI : I xs N σ) (hl : xs.length = n)
theorem sch_core (T : Tp C) {target : Expr} {body : List Stmt} {X : Trie} {t d ga : Addr} {ci : Bool} (hA : A.handled = none) (hl : C.h0.NoLimit) (hroom : A.depth < recursionLimit) (hX : X.Ph3) (hz : ∀ p ∈ X.D, p.length ≤ 1000) (hq : quietTarget target) {Q : AFlow → ASt → Prop} (I : List AV → (Addr → Prop) → ASt → Prop)
    (hI : ∀ xs N σ, I xs N σ → Rep X t d true ci σ.hp ∧ Sch C X t d σ.hp ga xs N)
    (turn : ∀ x xs N σ hp' N', I (x :: xs) N σ → (∀ a, σ.hp a ≠ none → ¬ N a → hp' a = σ.hp a) → Rep X t d true ci hp' → Sch C X t d hp' ga xs N' → (∀ a, N' a → N a ∨ σ.hp a = none) → AsgA C A env target x ⟨σ.loc, hp'⟩ (fun σ₁ => Exs C A NoE env body σ₁ (turnK Q (fun σ' => ∃ N'', I xs N'' σ'))))
    (fin : ∀ N σ hp', I [] N σ → (∀ a, σ.hp a ≠ none → ¬ N a → hp' a = σ.hp a) → Q .next ⟨σ.loc, hp'⟩)
    {xs : List AV} {F₀ : FH} (h0 : SLoop C A F₀ G env I xs.length s) {R : Result → Shared → Prop}
    (hQ : ∀ f s', Post C A G env FlR Q F₀ f s' → R (.ok f) s') : codeAny (model C.prog C.w) A (.forLoop target (.ref ga) body [] env) R s := by
  refine codeAny_loop' rfl (SLoop C A F₀ G env I) (fun n s' h => ?_) xs.length h0
  obtain ⟨F', σ', N, xs', e, hR', hI', hl'⟩ := h
  show wpAny _ _ ((forTurn target (.ref ga) body [] env).onRaise (fun x => do noteFrame x env; theTreesLotGoes x)) _ _ s'
  refine wpAny_onRaise ?_
  simp only [forTurn]
  refine wpAny_bind (wpAny_standAt (wpAny_bind (wpAny_onRaise ?_)))
  obtain ⟨hr, hS⟩ := hI _ _ _ hI'
  refine wpAny_mono (Sch.next T hA hl hroom (frz_in hR') (frz_fs hR') hX hz hr hS) (fun r s₁ z => ?_) fun zu zu x => x.elim
  obtain ⟨F₁, hp₁, e₁, W₁, fr, hm⟩ := z
  have hR₁ := frz_out hR' e₁ W₁
  cases xs' with
  | nil =>
    subst hm
    exact wpAny_pure (.inr ⟨rfl, codeAny_block (wpAny_execs_nil (hQ _ _ ⟨F₁, .next, _, e.trans e₁, .next, hR₁, fin _ _ _ hI' fr⟩))⟩)
  | cons x xs' =>
    obtain ⟨v, N', rfl, hv, hS', hN'⟩ := hm
    have hr' : Rep X t d true ci hp₁ := hr.off fun a ha => fr a (hr.some ha) (hS.sep hr ha)
    show wpAny _ _ (letOwnedTupleGo target (.ref ga) v >>= _) _ _ _
    rw [hq]
    refine wpAny_bind (wpAny_pure ?_)
    refine wpAny_bind (wpAny_mono (turn x xs' N σ' hp₁ N' hI' fr hr' hS' hN' F₁ _ s₁ v hR₁ hv) (fun zu s₃ z => ?_) fun zu zu x => x.elim)
    obtain ⟨F₃, σ₃, e₃, hR₃, h₃⟩ := z
    refine wpAny_bind (wpAny_mono (h₃ F₃ _ s₃ hR₃) (fun f s₄ z => ?_) fun zu zu x => x.elim)
    obtain ⟨F₄, fl, σ₄, e₄, r, hR₄, h₄⟩ := z
    have ee := e.trans (e₁.trans (e₃.trans e₄))
    have hl2 : xs'.length < n := by rw [← hl']; exact Nat.lt_succ_self _
    cases r with
    | next => obtain ⟨N'', h₄⟩ := h₄; exact wpAny_pure (.inl ⟨rfl, _, hl2, F₄, σ₄, N'', xs', ee, hR₄, h₄, rfl⟩)
    | cont => obtain ⟨N'', h₄⟩ := h₄; exact wpAny_pure (.inl ⟨rfl, _, hl2, F₄, σ₄, N'', xs', ee, hR₄, h₄, rfl⟩)
    | brk => exact wpAny_pure (hQ _ _ ⟨F₄, .next, σ₄, ee, .next, hR₄, h₄⟩)
    | ret hv => exact wpAny_pure (hQ _ _ ⟨F₄, _, σ₄, ee, .ret hv, hR₄, h₄⟩)
theorem Ex_forS (T : Tp C) {E : Value → Shared → Prop} {target iter : Expr} {body : List Stmt} {pos : Pos} {X : Trie} {t d : Addr} {ci : Bool} (hA : A.handled = none) (hl : C.h0.NoLimit) (hroom : A.depth < recursionLimit) (hX : X.Ph3) (hz : ∀ p ∈ X.D, p.length ≤ 1000) (hq : quietTarget target) {Q : AFlow → ASt → Prop} (I : Addr → List AV → (Addr → Prop) → List (Str × AV) → HP → Prop)
    (h : Ev C A E env iter σ (fun a σ₁ => ∃ ga rem N, a = .ref ga ∧ Left (I ga rem N) σ₁))
    (hI : ∀ ga xs N loc hp, I ga xs N loc hp → Rep X t d true ci hp ∧ Sch C X t d hp ga xs N)
    (turn : ∀ ga x xs N loc hp hp' N', I ga (x :: xs) N loc hp → (∀ a, hp a ≠ none → ¬ N a → hp' a = hp a) → Rep X t d true ci hp' → Sch C X t d hp' ga xs N' → (∀ a, N' a → N a ∨ hp a = none) → AsgA C A env target x ⟨loc, hp'⟩ (fun σ₁ => Exs C A NoE env body σ₁ (LeftK Q (fun loc hp => ∃ N'', I ga xs N'' loc hp))))
    (fin : ∀ ga N loc hp hp', I ga [] N loc hp → (∀ a, hp a ≠ none → ¬ N a → hp' a = hp a) → Q .next ⟨loc, hp'⟩)
    (hs : autoParam (∀ x, foldedSetIterable iter env x = Pure.pure x) AC.aux4._auto_1) : Ex C A E env (.For target iter body [] pos) σ Q := by
  have key : Ex C A E env (.For target iter body [] pos) σ (fun f σ' => ∃ loc, LocLe loc σ'.loc ∧ Q f ⟨loc, σ'.hp⟩) := by
    intro F G s hR
    refine wpAny_For (h.use hR fun F₁ a σ₁ va s₁ e₁ ha hR₁ h₁ => ?_) hs
    obtain ⟨ga, rem, N, rfl, hI₁⟩ := h₁
    obtain rfl := ha.refI
    have hga : ∃ g gs, σ₁.hp ga = some (.gen g gs) := by
      obtain ⟨loc, _, hi⟩ := hI₁
      exact (hI _ _ _ _ _ hi).2.gen
    obtain ⟨g, gs, hga⟩ := hga
    refine wpAny_pyIter_gen (hR₁.wd.gen hga).2 ?_
    refine sch_core T hA hl hroom hX hz hq (fun xs N σ => Left (I ga xs N) σ) (fun xs N σ ⟨loc, hll, hi⟩ => hI _ _ _ _ _ hi) (fun x xs N σ hp' N' ⟨loc, hll, hi⟩ k1 k2 k3 k4 F G s v hR hv => ?_) (fun N σ hp' ⟨loc, hll, hi⟩ k => ⟨loc, hll, fin _ _ _ _ _ hi k⟩) ⟨F₁, σ₁, N, rem, e₁, hR₁, hI₁, rfl⟩ fun f s' z => z
    refine wpAny_mono (turn ga x xs N loc σ.hp hp' N' hi k1 k2 k3 k4 F G s v (hR.weakLoc hll) hv) (fun zu s' z => ?_) fun zu zu x => x
    obtain ⟨F', σ', e, hR', hb⟩ := z
    refine ⟨F', σ', e, hR', hb.mono fun f σ₃ hf => ?_⟩
    cases f with
    | next => obtain ⟨loc, hl1, N'', h1⟩ := hf; exact ⟨N'', loc, hl1, h1⟩
    | cont => obtain ⟨loc, hl1, N'', h1⟩ := hf; exact ⟨N'', loc, hl1, h1⟩
    | brk => exact hf
    | ret v => exact ⟨σ₃.loc, LocLe.refl _, hf⟩
  intro F G s hR
  refine wpAny_mono (key F G s hR) (fun v s' z => ?_) fun zu zu x => x
  obtain ⟨F', b, σ', e, r, hR', loc, hl, hq⟩ := z
  exact ⟨F', b, ⟨loc, σ'.hp⟩, e, r, hR'.weakLoc hl, hq⟩
end
end
section
section
noncomputable def symsS (w : List Nat) : Path := w.map fun c => Sym.s ⟨#[c]⟩
theorem symsS_len (w : List Nat) : (symsS w).length = w.length := by simp [symsS]
theorem symsS_av (w : List Nat) : (symsS w).map Sym.av = chars ⟨w.toArray⟩ := by simp [symsS, chars, Sym.av]
theorem charsS (w : List Nat) : chars ⟨w.toArray⟩ = w.map fun c => sS [c] := by simp [chars]
theorem symsS_inj {a b : List Nat} (h : symsS a = symsS b) : a = b := by
  refine (List.map_inj_right (fun x y e => ?_)).mp h
  have := Sym.s.inj e
  have := congrArg (fun s : Str => s.cps.toList) this
  simpa using this
noncomputable def desc : Nat → List Nat
  | 0 => []
  | m + 1 => (m + 1) :: desc m
noncomputable def pairS (e : List Nat × Nat) : AV := .tup [sS e.1, .int (e.2 : Nat)]
theorem fmap_congr {α β : Type} {l : List α} {f g : α → Option β} (h : ∀ a ∈ l, f a = g a) : l.filterMap f = l.filterMap g := by
  induction l with
  | nil => rfl
  | cons a l ih => rw [List.filterMap_cons, List.filterMap_cons, h a (by simp), ih fun b hb => h b (by simp [hb])]
noncomputable def Asc (w : List Nat) : Prop := ∀ c ∈ w, c < 128
noncomputable def turnC (c : Nat) : Nat := if 64 < c ∧ c < 91 then c + 32 else if 96 < c ∧ c < 123 then c - 32 else c
noncomputable def greatC (c : Nat) : Nat := min c (turnC c)
noncomputable def lowC (c : Nat) : Nat := if 64 < c ∧ c < 91 then c + 32 else c
theorem low_turn (c : Nat) : lowC (turnC c) = lowC c := by unfold lowC turnC; (repeat' split) <;> omega
theorem low_great (c : Nat) : lowC (greatC c) = lowC c := by
  unfold greatC
  rcases Nat.le_total c (turnC c) with h | h
  · rw [Nat.min_eq_left h]
  · rw [Nat.min_eq_right h]; exact low_turn c
theorem great_small : ∀ c, c < 128 → greatC (lowC c) = greatC c := by decide +kernel
theorem great_of_low (c : Nat) : greatC (lowC c) = greatC c := by
  by_cases h : c < 128
  · exact great_small c h
  · rw [show lowC c = c from if_neg fun q => h (Nat.lt_trans q.2 (by decide))]
theorem great_low {c d : Nat} : lowC c = lowC d ↔ greatC c = greatC d :=
  ⟨fun h => by rw [← great_of_low c, h, great_of_low d], fun h => by rw [← low_great c, h, low_great d]⟩
noncomputable abbrev lowL (w : List Nat) : List Nat := w.map lowC
noncomputable abbrev greatL (w : List Nat) : List Nat := w.map greatC
noncomputable abbrev turnL (w : List Nat) : List Nat := w.map turnC
theorem low_great_iff : ∀ {a b : List Nat}, lowL a = lowL b ↔ greatL a = greatL b
  | [], [] => by simp
  | [], _ :: _ => by simp
  | _ :: _, [] => by simp
  | c :: a, d :: b => by
    have := low_great_iff (a := a) (b := b)
    simp only [lowL, greatL, List.map_cons, List.cons.injEq] at this ⊢
    rw [great_low, this]
theorem lowerOf_asc {c : Nat} (h : c < 128) : PySem.Unicode.lowerOf c = [lowC c] := by
  have : ∀ c : Fin 128, PySem.Unicode.lowerOf c.val = [lowC c.val] := by decide +kernel
  exact this ⟨c, h⟩
theorem lower_asc {w : List Nat} (h : Asc w) : Txt.lower ⟨w.toArray⟩ = ⟨(lowL w).toArray⟩ := by
  unfold Txt.lower
  congr 1
  show (w.toArray.mapIdx fun i c => (PySem.Unicode.lowerAt w.toArray i).toArray).flatten = _
  have e : (w.toArray.mapIdx fun i c => (PySem.Unicode.lowerAt w.toArray i).toArray) = (w.map fun c => #[lowC c]).toArray := by
    apply Array.ext
    · simp
    · intro i h1 h2
      have hi : i < w.length := by simpa using h1
      simp only [Array.getElem_mapIdx, List.getElem_toArray, List.getElem_map]
      unfold PySem.Unicode.lowerAt
      have hc : w[i] < 128 := h _ (List.getElem_mem hi)
      have hg : w.toArray[i]? = some w[i] := by rw [List.getElem?_toArray, List.getElem?_eq_getElem hi]
      rw [hg]
      dsimp only
      have h3 : (w[i] == 0x3A3) = false := by rw [beq_eq_false_iff_ne]; omega
      rw [h3, Bool.false_and, if_neg Bool.false_ne_true, lowerOf_asc hc]
  rw [e]
  have key : ∀ w : List Nat, ((w.map fun c => #[lowC c]).toArray).flatten = (lowL w).toArray := by
    intro w
    induction w with
    | nil => rfl
    | cons c w ih =>
      rw [List.map_cons]
      apply Array.toList_inj.mp
      have ih := congrArg Array.toList ih
      simp at ih ⊢
      exact ih
  exact key w
noncomputable def lastW (ws : List (List Nat)) (f : List Nat → List Nat) (k : List Nat) : Option (List Nat) := ws.reverse.find? fun w => decide (f w = k)
noncomputable abbrev fL (f : Nat → Nat) (w : List Nat) : List Nat := w.map f
noncomputable def wrdF (f : Nat → Nat) (w : List Nat) : Wrd := (symsS (fL f w), sS w)
theorem keyOf_L (f : Nat → Nat) (ws : List (List Nat)) {p : List Nat} (hp : p ≠ []) : keyOf (ws.map (wrdF f)) (symsS p) = (lastW ws (fL f) p).map sS := by
  have h0 : symsS p ≠ [] := by simpa [symsS] using hp
  unfold keyOf lastW
  rw [if_neg h0, ← List.map_reverse, List.find?_map, Option.map_map]
  have e : ((fun e : Wrd => decide (e.1 = symsS p)) ∘ wrdF f) = fun w => decide (fL f w = p) := by
    funext w
    show decide (symsS (fL f w) = symsS p) = decide (fL f w = p)
    rw [decide_eq_decide]
    exact ⟨symsS_inj, fun h => by rw [h]⟩
  have e2 : ((fun e : Wrd => e.2) ∘ wrdF f) = sS := rfl
  rw [show ((fun e : Wrd => decide (e.1 = symsS p)) ∘ wrdF f) = fun w => decide (fL f w = p) from e]
  rfl
theorem last_mem {ws : List (List Nat)} {f : List Nat → List Nat} {k w : List Nat} (h : lastW ws f k = some w) : w ∈ ws ∧ f w = k := by
  unfold lastW at h
  have h1 := List.find?_some h
  have h2 := List.mem_of_find?_eq_some h
  exact ⟨List.mem_reverse.mp h2, by simpa using h1⟩
noncomputable def dueAt (f : Nat → Nat) (ws : List (List Nat)) (t : List Nat) (m e : Nat) : List (List Nat × Nat) := (desc m).filterMap fun L => (lastW ws (fL f) (fL f ((t.drop (e - L)).take L))).map fun w => (w, e - L)
theorem outs_L (f : Nat → Nat) (ws : List (List Nat)) : ∀ p : List Nat, outs (keyOf (ws.map (wrdF f))) (symsS p) = (desc p.length).filterMap fun L => (lastW ws (fL f) (p.drop (p.length - L))).map fun w => .tup [sS w, iN L]
  | [] => rfl
  | c :: p => by
    have ih := outs_L f ws p
    show outs (keyOf (ws.map (wrdF f))) (Sym.s ⟨#[c]⟩ :: symsS p) = _
    have e : Sym.s ⟨#[c]⟩ :: symsS p = symsS (c :: p) := rfl
    simp only [outs]
    rw [e, keyOf_L f ws (by simp), ih, List.length_cons, desc, List.filterMap_cons]
    have e3 : (c :: p).drop (p.length + 1 - (p.length + 1)) = c :: p := by rw [Nat.sub_self]; rfl
    have e4 : ((desc p.length).filterMap fun L => (lastW ws (fL f) (p.drop (p.length - L))).map fun w => (.tup [sS w, iN L] : AV)) = (desc p.length).filterMap fun L => (lastW ws (fL f) ((c :: p).drop (p.length + 1 - L))).map fun w => .tup [sS w, iN L] := by
      have hd : ∀ m L, L ∈ desc m → L ≤ m := by
        intro m
        induction m with
        | zero => intro L h; cases h
        | succ m ih => intro L h; rcases List.mem_cons.mp h with rfl | h
                       · exact Nat.le_refl _
                       · exact Nat.le_succ_of_le (ih L h)
      refine fmap_congr fun L hL => ?_
      have := hd _ _ hL
      have : p.length + 1 - L = (p.length - L) + 1 := by omega
      rw [this]; rfl
    rw [e4, e3]
    have hl : (symsS (c :: p)).length = p.length + 1 := by simp [symsS]
    cases lastW ws (fL f) (c :: p) with
    | none => rfl
    | some w => simp only [Option.map_some, hl]; rfl
theorem fnds_L (f : Nat → Nat) (ws : List (List Nat)) (t : List Nat) : ∀ (r u : List Nat), t = u ++ r → fnds (keyOf (ws.map (wrdF f))) (symsS (fL f u)) (symsS (fL f r)) = ((List.range r.length).flatMap fun i => dueAt f ws t (u.length + i + 1) (u.length + i + 1)).map pairS
  | [], u, _ => rfl
  | c :: r, u, ht => by
    have ih := fnds_L f ws t r (u ++ [c]) (by rw [ht]; simp)
    have e : symsS (fL f u) ++ [Sym.s ⟨#[f c]⟩] = symsS (fL f (u ++ [c])) := by simp [symsS]
    show (outs (keyOf (ws.map (wrdF f))) (symsS (fL f u) ++ [Sym.s ⟨#[f c]⟩])).map (shiftF (symsS (fL f u) ++ [Sym.s ⟨#[f c]⟩]).length) ++ fnds (keyOf (ws.map (wrdF f))) (symsS (fL f u) ++ [Sym.s ⟨#[f c]⟩]) (symsS (fL f r)) = _
    rw [e, ih, outs_L, List.length_cons, List.range_succ_eq_map, List.flatMap_cons, List.map_append, List.flatMap_map]
    have hul : (fL f (u ++ [c])).length = u.length + 1 := by simp [fL]
    have hsl : (symsS (fL f (u ++ [c]))).length = u.length + 1 := by simp [symsS, fL]
    congr 1
    · unfold dueAt
      rw [hul, hsl, List.map_filterMap, List.map_filterMap, Nat.add_zero]
      have hd : ∀ m L, L ∈ desc m → L ≤ m := by
        intro m
        induction m with
        | zero => intro L h; cases h
        | succ m ih => intro L h; rcases List.mem_cons.mp h with rfl | h
                       · exact Nat.le_refl _
                       · exact Nat.le_succ_of_le (ih L h)
      refine fmap_congr fun L hL => ?_
      have hL := hd _ _ hL
      have hs : (fL f (u ++ [c])).drop (u.length + 1 - L) = fL f ((t.drop (u.length + 1 - L)).take L) := by
        have : t = (u ++ [c]) ++ r := by rw [ht]; simp
        rw [this, List.drop_append_of_le_length (by simp <;> omega), List.take_append_of_le_length (by simp <;> omega), List.take_of_length_le (by simp <;> omega)]
        simp only [fL, List.map_drop]
      rw [hs]
      cases lastW ws (fL f) (fL f ((t.drop (u.length + 1 - L)).take L)) with
      | none => rfl
      | some w =>
        simp only [Option.map_some, shiftF, pairS, iN]
        congr 4
        exact congrArg AV.int (Int.ofNat_sub hL).symm
    · congr 2
      funext i
      simp only [List.length_append, List.length_cons, List.length_nil, Function.comp]
      rw [show u.length + (0 + 1) + i + 1 = u.length + (i + 1) + 1 by omega]
theorem due_cut {f : Nat → Nat} {m : Nat} {ws : List (List Nat)} (h4 : ∀ w ∈ ws, w.length ≤ m) (t : List Nat) {e : Nat} (he : e ≤ t.length) : dueAt f ws t e e = dueAt f ws t (min e m) e := by
  unfold dueAt
  by_cases q : e ≤ m
  · rw [Nat.min_eq_left q]
  · rw [Nat.min_eq_right (by omega)]
    obtain ⟨k, rfl⟩ : ∃ k, e = m + k := ⟨e - m, by omega⟩
    have : ∀ k, m + k ≤ m + k → ∀ E, m + k ≤ E → E ≤ t.length → ((desc (m + k)).filterMap fun L => (lastW ws (fL f) (fL f ((t.drop (E - L)).take L))).map fun w => (w, E - L)) = (desc m).filterMap fun L => (lastW ws (fL f) (fL f ((t.drop (E - L)).take L))).map fun w => (w, E - L) := by
      intro k
      induction k with
      | zero => intro _ E _ _; rfl
      | succ k ih =>
        intro _ E h1 h2
        show ((m + k + 1) :: desc (m + k)).filterMap _ = _
        rw [List.filterMap_cons]
        have hn : lastW ws (fL f) (fL f ((t.drop (E - (m + k + 1))).take (m + k + 1))) = none := by
          cases z : lastW ws (fL f) (fL f ((t.drop (E - (m + k + 1))).take (m + k + 1))) with
          | none => rfl
          | some w =>
            obtain ⟨z1, z2⟩ := last_mem z
            have := congrArg List.length z2
            simp only [fL, List.length_map, List.length_take, List.length_drop] at this
            have := h4 w z1
            omega
        rw [hn]
        exact ih (Nat.le_refl _) E (by omega) h2
    exact this k (Nat.le_refl _) (m + k) (Nat.le_refl _) he
noncomputable def dueL (f : Nat → Nat) (m : Nat) (ws : List (List Nat)) (t : List Nat) (n : Nat) : List (List Nat × Nat) := (List.range n).flatMap fun i => dueAt f ws t (min (i + 1) m) (i + 1)
theorem fnds_due {f : Nat → Nat} {m : Nat} {ws : List (List Nat)} (h4 : ∀ w ∈ ws, w.length ≤ m) {t t' : List Nat} (ht : fL f t' = fL f t) : fnds (keyOf (ws.map (wrdF f))) [] (symsS (fL f t')) = (dueL f m ws t t.length).map pairS := by
  have := fnds_L f ws t t [] rfl
  rw [ht]
  refine this.trans (congrArg (List.map pairS) ?_)
  unfold dueL
  rw [List.flatMap_def, List.flatMap_def]
  congr 1
  refine List.map_congr_left fun i hi => ?_
  have := List.mem_range.mp hi
  rw [show ([] : List Nat).length + i + 1 = i + 1 by simp]
  exact due_cut h4 t (by omega)
theorem due_asc {f : Nat → Nat} {m : Nat} {ws : List (List Nat)} (hw : ∀ w ∈ ws, Asc w) (t : List Nat) (n : Nat) : ∀ p ∈ dueL f m ws t n, Asc p.1 := fun p hp => by
  unfold dueL at hp
  obtain ⟨i, _, hp⟩ := List.mem_flatMap.mp hp
  unfold dueAt at hp
  obtain ⟨L, _, hp⟩ := List.mem_filterMap.mp hp
  cases z : lastW ws (fL f) (fL f ((t.drop (i + 1 - L)).take L)) with
  | none => rw [z] at hp; cases hp
  | some w =>
    rw [z] at hp
    cases hp
    exact hw _ (last_mem z).1
end
end
section
section
variable {C : Cf} {A : Around} {s s' : Shared} {F F' G : FH} {env : Env} {E : Value → Shared → Prop} {hp hp' : HP} {loc : PL} {σ : ASt}
theorem noPylong {x y : Int} (h : y.natAbs < 2 ^ 30) : Builtin.divisionGoesByPylong x y = false := by
  unfold Builtin.divisionGoesByPylong
  have h2 : ¬ ((if (y == 0) = true then 0 else y.natAbs.log2 / 30 + 1) > 300) := by
    split
    · omega
    · rename_i q
      have h0 : y.natAbs ≠ 0 := by simpa using q
      have := (Nat.log2_lt h0).mpr h
      omega
  simp only [h2, decide_false, Bool.false_and]
theorem desc_range : ∀ k, desc k = (List.range k).map fun i => k - i
  | 0 => rfl
  | k + 1 => by
    rw [desc, desc_range k, List.range_succ_eq_map, List.map_cons, List.map_map]
    congr 1
    exact List.map_congr_left fun i _ => by simp
theorem PI_rngD {target : Expr} {x : Str} {px pos : Pos} {args : List Expr} {k : Nat} (hA : A.handled = none) (hg : GL C x (.type "range")) (hv : PEl C A hp env loc args [(.int (k : Int), false), (.int 0, false), (.int (-1), false)]) (h1 : k ≤ 100000) (hk : autoParam (env.kindOf x = some .globalImplicit) AC.aux0._auto_1)
    (he : autoParam (eval (.Call (.Name x px) args [] pos) env = (do callWith pos (← eval (.Name x px) env) [] (argsOf env args) [])) AC.aux0._auto_1) (hd : autoParam ((x == ("__debug__" : Str)) = false) AC.aux1._auto_1) : PI C A hp env loc target (.Call (.Name x px) args [] pos) ((desc k).map fun (j : Nat) => AV.int (j : Int)) :=
  (PI_range3 (n := k) hA hg hv (by decide) (noPylong (by decide)) (small_down (by omega) (by omega) (by omega) (by omega)) (by rw [rangeSize_downNat]; omega) hk he hd).eq (by
    rw [desc_range, List.map_map]
    unfold rangeL
    exact List.map_congr_left fun i hi => congrArg AV.int (by have := List.mem_range.mp hi; show (k : Int) + (i : Int) * (-1) = ((k - i : Nat) : Int); omega))
theorem fmodN (v : Int) (m : Nat) (h : 1 ≤ m) : ∃ k : Nat, v.fmod (m : Int) = (k : Int) ∧ k < m := by
  have h1 := Int.fmod_nonneg_of_pos v (show (0 : Int) < m by omega)
  have h2 := Int.fmod_lt_of_pos v (show (0 : Int) < m by omega)
  exact ⟨(v.fmod m).toNat, by omega, by omega⟩
theorem sum_le {α : Type} (f : α → Nat) (m : Nat) : ∀ l : List α, (∀ a ∈ l, f a ≤ m) → (l.map f).sum ≤ l.length * m
  | [], _ => by simp
  | a :: l, h => by
    have h1 := h a (by simp)
    have h2 := sum_le f m l fun b hb => h b (by simp [hb])
    rw [List.map_cons, List.sum_cons, List.length_cons, Nat.succ_mul]; omega
theorem desc_len (m : Nat) : (desc m).length = m := by rw [desc_range]; simp
theorem desc_le {m j : Nat} (h : j ∈ desc m) : j ≤ m := by
  rw [desc_range] at h
  obtain ⟨i, _, rfl⟩ := List.mem_map.mp h
  omega
theorem k_lenL {w : List Nat} (hz : w.length ≤ 100000) : PK C A hp (.builtin "len") [(sS w, false)] (iN w.length, false) := k_lenS (x := ⟨w.toArray⟩) hz
theorem pln_S {w : List Nat} (h : Asc w) : Pln (sS w) := .str (by
  unfold PyData.strOk
  show w.toArray.all _ = true
  rw [List.all_toArray]
  exact List.all_eq_true.mpr fun c hc => decide_eq_true (Nat.lt_trans (h c hc) (by decide)))
theorem pln_pairs {l : List (List Nat × Nat)} (h : ∀ e ∈ l, Asc e.1) : Pln (.lst (l.map pairS)) := .lst (Plns.of (by
  intro x hx
  obtain ⟨e, he, rfl⟩ := List.mem_map.mp hx
  exact .tup (.cons (pln_S (h e he)) (.cons (.int _) .nil))))
theorem dp_pairs (l : List (List Nat × Nat)) : Dp 60 (.lst (l.map pairS)) := Nat.le_trans (Dp.lst (n := 1) (by
  intro x hx
  obtain ⟨e, _, rfl⟩ := List.mem_map.mp hx
  refine Dp.tup (n := 0) (fun y hy => ?_)
  rcases List.mem_cons.mp hy with rfl | hy
  · exact Dp.str 0 _
  · rw [List.mem_singleton.mp hy]; exact Dp.int 0 _)) (by decide)
theorem flat_sing {α β : Type} (l : List α) (f : α → β) : (l.map fun a => [f a]).flatten = l.map f := by
  induction l with
  | nil => rfl
  | cons a l ih => rw [List.map_cons, List.flatten_cons, ih]; rfl
theorem sum_sing {α β : Type} (l : List α) (f : α → β) : ((l.map fun a => [f a]).map List.length).sum = l.length := by
  induction l with
  | nil => rfl
  | cons a l ih => simp only [List.map_cons, List.sum_cons, ih, List.length_cons, List.length_nil]; omega
theorem PE_DefS {x : Str} {px pos : Pos} {args : List Expr} {f : Addr} {fd : FuncData} {pvs : List PV} {v : AV} (hf : FnAt C f fd) (hg : GL C x (.ref f)) (hv : PEl C A hp env loc args pvs) (h : ∀ xs, Args hp pvs xs → Fn C A (.ref f) xs [] hp (fun v' hp' => v' = v ∧ Sub hp hp')) (hk : autoParam (env.kindOf x = some .globalImplicit) AC.aux0._auto_1)
    (he : autoParam (eval (.Call (.Name x px) args [] pos) env = (do callWith pos (← eval (.Name x px) env) [] (argsOf env args) [])) AC.aux0._auto_1) (hd : autoParam ((x == ("__debug__" : Str)) = false) AC.aux1._auto_1) : PE C A hp env loc (.Call (.Name x px) args [] pos) (v, false) :=
  PE_Call hg hv (PCw.pc fun xs hx => (h xs hx).cl) (fun zu k => hf.keep k) hk he hd
noncomputable abbrev wsV (ws : List (List Nat)) : AV := .lst (ws.map sS)
theorem sS_inj {a b : List Nat} : sS a = sS b ↔ a = b := ⟨fun h => by
  have := AV.str.inj h
  have := congrArg (fun s : Str => s.cps.toList) this
  simpa using this, fun h => by rw [h]⟩
theorem at_mapS (k k' : Sym) (x : AV) : ∀ l : List (Sym × AV), at? (l.map (fun p => if p.1 = k then (p.1, x) else p)) k' = if k' = k then (if l.any (fun p => decide (p.1 = k)) = true then some x else none) else at? l k'
  | [] => by simp [at?]
  | p :: l => by
    have ih := at_mapS k k' x l
    unfold at? at ih ⊢
    by_cases q : p.1 = k
    · by_cases q2 : k' = k
      · subst q2; simp [q]
      · have q3 : ¬ k = k' := fun z => q2 z.symm
        simp [q, q2, q3] at ih ⊢; exact ih
    · by_cases q2 : k' = k
      · subst q2
        rw [if_pos rfl] at ih ⊢
        simp only [List.map_cons, if_neg q, List.find?_cons, decide_eq_false q, List.any_cons, Bool.false_or]
        exact ih
      · by_cases q3 : p.1 = k'
        · simp [q, q2, q3]
        · simp [q, q2, q3] at ih ⊢; exact ih
theorem at_store (l : List (Sym × AV)) (k k' : Sym) (x : AV) : at? (store l k x) k' = if k' = k then some x else at? l k' := by
  unfold store
  split
  · rename_i h
    rw [at_mapS, if_pos h]
  · rename_i h
    unfold at?
    rw [List.find?_append]
    by_cases q : k' = k
    · subst q
      have hn : l.find? (fun p => decide (p.1 = k')) = none := List.find?_eq_none.mpr fun p hp z => h (List.any_eq_true.mpr ⟨p, hp, z⟩)
      rw [hn, if_pos rfl]; simp
    · have q2 : ¬ k = k' := fun z => q z.symm
      rw [if_neg q]; simp [q2]
theorem store_len (l : List (Sym × AV)) (k : Sym) (x : AV) : (store l k x).length ≤ l.length + 1 := by
  unfold store; split <;> simp
noncomputable abbrev kyS (w : List Nat) : Sym := .s ⟨w.toArray⟩
theorem kyS_inj {a b : List Nat} (h : kyS a = kyS b) : a = b := sS_inj.mp (congrArg Sym.av h)
noncomputable def rdC (bl : Bool) : Nat → Nat := if bl then lowC else id
theorem fL_id (w : List Nat) : fL id w = w := List.map_id w
theorem sumL_F (f : Nat → Nat) (ws : List (List Nat)) : sumL (ws.map (wrdF f)) = (ws.map List.length).sum := by
  unfold sumL
  rw [List.map_map]
  congr 1
  exact List.map_congr_left fun w _ => (symsS_len _).trans (List.length_map ..)
theorem wok_F (bl : Bool) {w : List Nat} (h : Asc w) (hl : w.length ≤ 1000) : WokC bl (wrdF (rdC bl) w) := by
  cases bl with
  | true => exact wok_low (x := ⟨w.toArray⟩) (show w.length ≤ 100000 by omega) (by rw [lower_asc h]; exact symsS_av _) ((symsS_len _).trans (List.length_map ..))
  | false =>
    refine Wok.c (e := wrdF id w) ⟨?_, (fun a e => by cases e), (fun v e => by cases e)⟩
    intro hp
    show SeqV (sS w) ((symsS (fL id w)).map Sym.av) hp
    rw [fL_id, symsS_av]
    exact .str (show w.length ≤ 100000 by omega)
theorem seq_F (bl : Bool) {t : List Nat} (h : Asc t) (hl : t.length ≤ 1000) : SeqW hp bl (sS t, false) ((symsS (fL (rdC bl) t)).map Sym.av) := by
  cases bl with
  | true =>
    have q := SeqW.low (hp := hp) (x := ⟨t.toArray⟩) (show t.length ≤ 100000 by omega) (by rw [lower_asc h]; show (lowL t).length ≤ 100000; rw [List.length_map]; omega)
    rw [lower_asc h, ← symsS_av] at q
    exact q
  | false =>
    have q := SeqW.str (hp := hp) (x := ⟨t.toArray⟩) (show t.length ≤ 100000 by omega)
    rw [← symsS_av] at q
    show SeqW hp false (sS t, false) ((symsS (fL id t)).map Sym.av)
    rw [fL_id]
    exact q
theorem dueL_len (f : Nat → Nat) (ws : List (List Nat)) (t : List Nat) (n : Nat) : (dueL f 3 ws t n).length ≤ n * 3 := by
  induction n with
  | zero => simp [dueL]
  | succ n ih =>
    have e : dueL f 3 ws t (n + 1) = dueL f 3 ws t n ++ dueAt f ws t (min (n + 1) 3) (n + 1) := by unfold dueL; rw [List.range_succ, List.flatMap_append]; simp
    rw [e, List.length_append, Nat.succ_mul]
    have h1 : (dueAt f ws t (min (n + 1) 3) (n + 1)).length ≤ (desc (min (n + 1) 3)).length := List.length_filterMap_le _ _
    rw [desc_len] at h1
    omega
noncomputable def BD (C : Cf) (d : Addr) (l : List (Sym × AV)) : Prop := ∃ kvs, C.h0.DictOf (symKind C.prog C.w) d kvs ∧ SV (fun b => C.h0.get? b) l kvs
theorem s_dictB {value slice : Expr} {d : Addr} {l : List (Sym × AV)} {k : Sym} {x : AV} (hb : BD C d l) (hx : at? l k = some x) : PO2 C A hp (PVR hp) (subscriptTail value slice) (.ref d, false) (k.av, false) (x, false) := fun F s E v u hin hv hu => by
  obtain rfl := hv.out.refI
  obtain ⟨kvs, ⟨o, es, ep, ho, hd⟩, sv⟩ := hb
  rcases sv.at k with ⟨x', v', h1, h2, h3⟩ | ⟨h1, _⟩
  · rw [hx] at h1; (have zc := Option.some.inj h1; clear h1; subst zc)
    have hm := mapOf_of (show s.heap.DictOf (symKind C.prog C.w) d kvs from ⟨o, es, ep, hin.fz _ _ (hin.base _ _ ho), hd⟩)
    exact tail_of hm.typeIs slot_dict_getitem.lookup (wpAny_getItem_of (Sym.is_of hu.out) hm h2 (show PuQ C A hp F s (fun F' v => PVR hp F' (x, false) v) _ _ from PuQ.here (t := s.toks + 1) hin (PVR.val (h3.mono fun b o e => hin.base b o e))))
  · rw [hx] at h1; exact sn_ne h1
noncomputable def Ab (w : List Nat) : Prop := ∀ c ∈ w, c = 97 ∨ c = 98 ∨ c = 65 ∨ c = 66
theorem Ab.asc {w : List Nat} (h : Ab w) : Asc w := fun c hc => by rcases h c hc with e | e | e | e <;> rw [e] <;> decide
theorem Ab.cut {w : List Nat} (h : Ab w) (a k : Nat) : Ab ((w.drop a).take k) := fun c hc => h c (List.mem_of_mem_drop (List.mem_of_mem_take hc))
theorem Ab.turn {w : List Nat} (h : Ab w) : Ab (turnL w) := fun c hc => by
  obtain ⟨d, hd, rfl⟩ := List.mem_map.mp hc
  rcases h d hd with e | e | e | e <;> rw [e] <;> decide
noncomputable abbrev sgK (c : Nat) : Sym := kyS [c]
noncomputable def otherL : List (Sym × AV) := [(sgK 97, sS [65]), (sgK 65, sS [97]), (sgK 98, sS [66]), (sgK 66, sS [98])]
theorem other_at {c : Nat} (h : c = 97 ∨ c = 98 ∨ c = 65 ∨ c = 66) : at? otherL (sgK c) = some (sS [turnC c]) := by
  rcases h with e | e | e | e <;> subst e <;> rfl
structure TpK (C : Cf) : Prop where
  x : TpX C
  sm : (C.h0.get? sysModules).isSome = true
  g_other : ∃ d, GL C "_law_OTHER" (.ref d) ∧ BD C d otherL
theorem PE_other (T : TpK C) {e1 : Expr} {px pos : Pos} {c : Nat} (hc : c = 97 ∨ c = 98 ∨ c = 65 ∨ c = 66) (h1 : PE C A hp env loc e1 (sS [c], false)) (hk : autoParam (env.kindOf "_law_OTHER" = some .globalImplicit) AC.aux0._auto_1) : PE C A hp env loc (.Subscript (.Name "_law_OTHER" px) e1 pos) (sS [turnC c], false) := by
  obtain ⟨d, hg, hb⟩ := T.g_other
  exact PE_Sub (PE_Glob hg (.ref d) hk) h1 (s_dictB (k := sgK c) hb (other_at hc))
noncomputable def kyC (bl : Bool) : Nat → Nat := if bl then greatC else id
noncomputable abbrev keyP : DefP := defP "_law_key"
theorem binds_key (C : Cf) (r : FdRest) (x y : AV) : BindsC C (r.fd keyP .none) [x, y] [] [("text", x), ("blind", y)] := by
  intro F vs kvs h1 h2
  obtain ⟨v1, us1, rfl, hv1, h1⟩ := h1.inv
  obtain ⟨v2, us2, rfl, hv2, h1⟩ := h1.inv
  obtain rfl := h1.inv0
  obtain rfl := h2.inv0
  exact ⟨[("text", v1), ("blind", v2)], Looks.of_pure (by kernel_rfl), .cons hv1 (.cons hv2 .nil), by kernel_rfl⟩
theorem key_fn (T : TpK C) {f : Addr} {r : FdRest} (hf : FnAt C f (r.fd keyP .none)) {hp : HP} {bl : Bool} {w : List Nat} (hA : A.handled = none) (hroom : A.depth + 1 < recursionLimit) (hw : Ab w) (hl : w.length ≤ 1000) :
    Fn C A (.ref f) [sS w, .bool bl] [] hp (fun v hp' => v = sS (fL (kyC bl) w) ∧ hp' = hp) := by
  refine Fn_defC hf (binds_key C r _ _) (fun L => ?_) (by omega)
  have hA' : (A.deeper (callEnvC (r.fd keyP .none) L f)).handled = none := hA
  refine Exs_cons (Ex_if [] (b := bl) (PB_plain (PE_Name rfl) t_bool) (fun q => ?_) (fun q => ?_))
  · subst q
    exact Exs_cons (Ex_ret [] (sS (greatL w)) (PE.eqv (PE_join (ls := w.map fun c => [greatC c]) (PE.eqv PE_str (by kernel_rfl)) (PE.eqv (PE_LC (PCm_map w (fun c => sS [c]) (fun c => sS [greatC c]) ((PI_val hA' (PE_Name rfl) .str).eq (charsS w)) (by omega) fun Lc c hc => PE_Call T.x.g_min (.cons (PE_Name rfl) (.cons (PE_other T (hw c hc) (PE_Name rfl)) .nil)) (k_minS hA'))) (congrArg AV.lst (by rw [List.map_map]; rfl))) (by rw [sum_sing]; omega)) (by rw [flat_sing])) ⟨rfl, rfl⟩)
  · subst q
    refine Exs_nil (Exs_cons (Ex_ret [] (sS w) (PE_Name rfl) ⟨?_, rfl⟩))
    show sS w = sS (fL id w)
    rw [fL_id]
theorem PE_key (T : TpK C) {fk : Addr} {rk : FdRest} (hf : FnAt C fk (rk.fd keyP .none)) (hg : GL C "_law_key" (.ref fk)) (hA : A.handled = none) (hroom : A.depth + 1 < recursionLimit) {bl : Bool} {w : List Nat} (hw : Ab w) (hl : w.length ≤ 1000) {e1 e2 : Expr} {px pos : Pos} (h1 : PE C A hp env loc e1 (sS w, false)) (h2 : PE C A hp env loc e2 (.bool bl, false))
    (hk : autoParam (env.kindOf "_law_key" = some .globalImplicit) AC.aux0._auto_1) (he : autoParam (eval (.Call (.Name "_law_key" px) [e1, e2] [] pos) env = (do callWith pos (← eval (.Name "_law_key" px) env) [] (argsOf env [e1, e2]) [])) AC.aux0._auto_1) :
    PE C A hp env loc (.Call (.Name "_law_key" px) [e1, e2] [] pos) (sS (fL (kyC bl) w), false) :=
  PE_Def (pvs := vals [sS w, .bool bl]) hf hg (.cons h1 (.cons h2 .nil)) (fun xs hx => by
    obtain rfl := hx.vals
    exact key_fn T hf hA hroom hw hl) hk he
noncomputable def dOf (f : Nat → Nat) (ws : List (List Nat)) : List (Sym × AV) := ws.foldl (fun l w => store l (kyS (fL f w)) (sS w)) []
theorem dOf_snoc (f : Nat → Nat) (ws : List (List Nat)) (w : List Nat) : dOf f (ws ++ [w]) = store (dOf f ws) (kyS (fL f w)) (sS w) := by unfold dOf; rw [List.foldl_append]; rfl
theorem last_snoc (ws : List (List Nat)) (w : List Nat) (f : List Nat → List Nat) (k : List Nat) : lastW (ws ++ [w]) f k = if f w = k then some w else lastW ws f k := by
  unfold lastW
  rw [List.reverse_append, List.reverse_cons, List.reverse_nil, List.nil_append, List.singleton_append, List.find?_cons]
  by_cases q : f w = k
  · rw [decide_eq_true q, if_pos q]
  · rw [decide_eq_false q, if_neg q]
theorem dOf_at (f : Nat → Nat) (k : List Nat) : ∀ (n : Nat) (ws : List (List Nat)), ws.length = n → at? (dOf f ws) (kyS k) = (lastW ws (fL f) k).map sS ∧ (dOf f ws).length ≤ n
  | 0, ws, h => by
    have : ws = [] := List.length_eq_zero_iff.mp h
    subst this; exact ⟨rfl, Nat.le_refl _⟩
  | n + 1, ws, h => by
    obtain ⟨us, w, rfl⟩ : ∃ us w, ws = us ++ [w] := ⟨ws.dropLast, ws.getLast (by intro e; rw [e] at h; cases h), (List.dropLast_concat_getLast _).symm⟩
    obtain ⟨h1, h2⟩ := dOf_at f k n us (by simpa using h)
    rw [dOf_snoc, last_snoc, at_store, h1]
    refine ⟨?_, Nat.le_trans (store_len _ _ _) (Nat.succ_le_succ h2)⟩
    by_cases q : fL f w = k
    · rw [if_pos q, q, if_pos rfl]; rfl
    · rw [if_neg q, if_neg (fun z => q (kyS_inj z).symm)]
noncomputable abbrev dueP : DefP := defP "_law_due"
theorem binds_due (C : Cf) (r : FdRest) (x y z : AV) : BindsC C (r.fd dueP .none) [x, y, z] [] [("words", x), ("text", y), ("blind", z)] := by
  intro F vs kvs h1 h2
  obtain ⟨v1, us1, rfl, hv1, h1⟩ := h1.inv
  obtain ⟨v2, us2, rfl, hv2, h1⟩ := h1.inv
  obtain ⟨v3, us3, rfl, hv3, h1⟩ := h1.inv
  obtain rfl := h1.inv0
  obtain rfl := h2.inv0
  exact ⟨[("words", v1), ("text", v2), ("blind", v3)], Looks.of_pure (by kernel_rfl), .cons hv1 (.cons hv2 (.cons hv3 .nil)), by kernel_rfl⟩
noncomputable def dueQ (f : Nat → Nat) (ws : List (List Nat)) (t : List Nat) (e : Nat) (l : List Nat) : List (List Nat × Nat) := l.filterMap fun L => (lastW ws (fL f) (fL f ((t.drop (e - L)).take L))).map fun w => (w, e - L)
theorem dueQ_snoc (f : Nat → Nat) (ws : List (List Nat)) (t : List Nat) (e : Nat) (l : List Nat) (j : Nat) : dueQ f ws t e (l ++ [j]) = dueQ f ws t e l ++ ((lastW ws (fL f) (fL f ((t.drop (e - j)).take j))).map fun w => (w, e - j)).toList := by
  unfold dueQ
  rw [List.filterMap_append]
  congr 1
theorem dueQ_len (f : Nat → Nat) (ws : List (List Nat)) (t : List Nat) (e : Nat) (l : List Nat) : (dueQ f ws t e l).length ≤ l.length := List.length_filterMap_le _ _
theorem dueL_succ (f : Nat → Nat) (ws : List (List Nat)) (t : List Nat) (i : Nat) : dueL f 3 ws t (i + 1) = dueL f 3 ws t i ++ dueQ f ws t (i + 1) (desc (min (i + 1) 3)) := by
  unfold dueL; rw [List.range_succ, List.flatMap_append]; simp [dueAt, dueQ]
theorem due_fn (T : TpK C) {fk : Addr} {rk : FdRest} (hkf : FnAt C fk (rk.fd keyP .none)) (hgk : GL C "_law_key" (.ref fk)) {f : Addr} {r : FdRest} (hf : FnAt C f (r.fd dueP .none)) {hp : HP} {bl : Bool} {ws : List (List Nat)} {t : List Nat} (hA : A.handled = none) (hroom : A.depth + 3 < recursionLimit) (hw : ∀ w ∈ ws, Ab w ∧ w.length ≤ 1000) (hws : ws.length ≤ 100) (ht : Ab t) (htl : t.length ≤ 100) :
    Fn C A (.ref f) [wsV ws, sS t, .bool bl] [] hp (fun v hp' => v = .lst ((dueL (kyC bl) 3 ws t t.length).map pairS) ∧ Sub hp hp') := by
  refine Fn_defC hf (binds_due C r _ _ _) (fun L => ?_) (by omega)
  have hA' : (A.deeper (callEnvC (r.fd dueP .none) L f)).handled = none := hA
  have hr' : (A.deeper (callEnvC (r.fd dueP .none) L f)).depth + 1 < recursionLimit := by show A.depth + 1 + 1 < recursionLimit; omega
  have hgl : (fL (kyC bl) t).length ≤ 100000 := by rw [List.length_map]; omega
  refine Exs_cons (Ex_Assign_Name (Ev_Dict0 fun a ha => ?_))
  refine Exs_cons ?_
  refine Ex_for [] (fun xs loc hp' => ∃ done rest ep, ws = done ++ rest ∧ xs = rest.map sS ∧ loc = ([("words", wsV ws), ("text", sS t), ("blind", .bool bl), ("last", .ref a)] : List (Str × AV)) ∧ hp' = upd hp a (.dict (dOf (kyC bl) done) ep))
    (PI_val hA' (PE_Name rfl) .lst) ⟨[("words", wsV ws), ("text", sS t), ("blind", .bool bl), ("last", .ref a)], locle_cons rfl (locle_cons rfl (locle_cons rfl (locle_cons rfl (locle_nil)))), [], ws, 0, rfl, rfl, rfl, rfl⟩ ?_ ?_
  · (rintro x xs loc hp'; intro zr; obtain ⟨done, rest, ep, e1, e2, rfl, rfl⟩ := zr)
    cases rest with
    | nil => cases e2
    | cons w rest =>
      cases e2
      obtain ⟨h1, h2⟩ := hw w (by rw [e1]; simp)
      have hdl := (dOf_at (kyC bl) [] done.length done rfl).2
      have hdn : done.length ≤ 100 := by
        have := congrArg List.length e1
        rw [List.length_append] at this; omega
      refine Asg_Name (Exs_cons (Ex_Assign_Sub (Ev_Name rfl (Ev_Name rfl (Ev_pure [] (sS (fL (kyC bl) w)) (PE_key T hkf hgk hA' hr' h1 h2 (PE_Name rfl) (PE_Name rfl)) (dict_set (k := kyS (fL (kyC bl) w)) (upd_self _ _ _) (by omega) fun ep' => Exs_nil ⟨[("words", wsV ws), ("text", sS t), ("blind", .bool bl), ("last", .ref a)], locle_cons rfl (locle_cons rfl (locle_cons rfl (locle_cons rfl (locle_nil)))), done ++ [w], rest, ep', by rw [e1]; simp, rfl, rfl, ?_⟩))))))
      rw [dOf_snoc]; exact upd_upd hp a _ _
  · (rintro loc hp'; intro zr; obtain ⟨done, rest, ep, e1, e2, rfl, rfl⟩ := zr)
    have : rest = [] := by simpa using e2.symm
    subst this
    rw [List.append_nil] at e1
    subst e1
    have hdat := fun k => (dOf_at (kyC bl) k ws.length ws rfl).1
    refine Exs_cons (Ex_let [] (sS (fL (kyC bl) t)) (PE_key T hkf hgk hA' hr' ht (by omega) (PE_Name rfl) (PE_Name rfl)) ?_)
    refine Exs_cons (Ex_Assign_Name (Ev_List (EvL_0 ⟨by decide, fun b hb => ?_⟩)))
    have hb' : upd hp a (.dict (dOf (kyC bl) ws) ep) b = none := hb
    have hab : b ≠ a := by rintro rfl; rw [upd_self] at hb'; cases hb'
    refine Exs_cons ?_
    refine Ex_for [] (fun xs loc hp' => ∃ i, i ≤ t.length ∧ xs = ((List.range t.length).map fun j => iN (j + 1)).drop i ∧ loc = ([("words", wsV ws), ("text", sS t), ("blind", .bool bl), ("last", .ref a), ("plain", sS (fL (kyC bl) t)), ("due", .ref b)] : List (Str × AV)) ∧ hp' = upd (upd hp a (.dict (dOf (kyC bl) ws) ep)) b (.list ((dueL (kyC bl) 3 ws t i).map pairS)))
      ((PI_rng2 (n := t.length) hA' T.x.g_range PE_int (PE_Bin (PE_Call T.x.t.g_len (.cons (PE_Name rfl) .nil) (k_lenL (by omega))) PE_int b_add) (by decide) (by decide) (by show (-1000000 : Int) ≤ (t.length : Int) + 1; omega) (by show (t.length : Int) + 1 ≤ 1000000; omega) (by left; show (t.length : Int) = (t.length : Int) + 1 - 1; omega)).eq (List.map_congr_left fun i _ => congrArg AV.int (by omega)))
      ⟨[("words", wsV ws), ("text", sS t), ("blind", .bool bl), ("last", .ref a), ("plain", sS (fL (kyC bl) t)), ("due", .ref b)], locle_cons rfl (locle_cons rfl (locle_cons rfl (locle_cons rfl (locle_cons rfl (locle_cons rfl (locle_nil)))))), 0, Nat.zero_le _, rfl, rfl, rfl⟩ ?_ ?_
    · (rintro x xs loc hp'; intro zr; obtain ⟨i, hi, hxs, rfl, rfl⟩ := zr)
      obtain ⟨hx, hxs'⟩ := drop_head hxs
      have hi2 : i < t.length := by
        have := (List.getElem?_eq_some_iff.mp hx).1
        simpa using this
      obtain rfl : x = iN (i + 1) := by
        rw [List.getElem?_map, List.getElem?_range hi2] at hx
        exact (Option.some.inj hx).symm
      have hdl := dueL_len (kyC bl) ws t i
      refine Asg_Name (Exs_cons ?_)
      refine Ex_for [] (fun xs loc hp' => ∃ done rest, desc (min (i + 1) 3) = done ++ rest ∧ xs = rest.map iN ∧ loc = ([("words", wsV ws), ("text", sS t), ("blind", .bool bl), ("last", .ref a), ("plain", sS (fL (kyC bl) t)), ("due", .ref b), ("end", iN (i + 1))] : List (Str × AV)) ∧ hp' = upd (upd hp a (.dict (dOf (kyC bl) ws) ep)) b (.list ((dueL (kyC bl) 3 ws t i ++ dueQ (kyC bl) ws t (i + 1) done).map pairS)))
        (PI_rngD (k := min (i + 1) 3) hA' T.x.g_range (.cons (PE.eqv (PE_Call T.x.g_min (.cons (PE_Name rfl) (.cons PE_int .nil)) (k_min2 hA')) (congrArg AV.int (by omega))) (.cons PE_int (.cons (PE_neg PE_int) .nil))) (by omega))
        ⟨[("words", wsV ws), ("text", sS t), ("blind", .bool bl), ("last", .ref a), ("plain", sS (fL (kyC bl) t)), ("due", .ref b), ("end", iN (i + 1))], locle_cons rfl (locle_cons rfl (locle_cons rfl (locle_cons rfl (locle_cons rfl (locle_cons rfl (locle_cons rfl (locle_nil))))))), [], desc (min (i + 1) 3), rfl, rfl, rfl, by simp [dueQ]⟩ ?_ ?_
      · (rintro x xs loc hp'; intro zr; obtain ⟨done, rest, e1, e2, rfl, rfl⟩ := zr)
        cases rest with
        | nil => cases e2
        | cons j rest =>
          cases e2
          have hj : j ≤ min (i + 1) 3 := desc_le (by rw [e1]; simp)
          have hq : j ≤ i + 1 := by omega
          have hdl2 : done.length ≤ 3 := by
            have := congrArg List.length e1
            rw [desc_len, List.length_append] at this; omega
          have hql := dueQ_len (kyC bl) ws t (i + 1) done
          have hsub : (((i + 1 : Nat) : Int) - (j : Int)) = ((i + 1 - j : Nat) : Int) := (Int.ofNat_sub hq).symm
          have hda : (upd (upd hp a (.dict (dOf (kyC bl) ws) ep)) b (.list ((dueL (kyC bl) 3 ws t i ++ dueQ (kyC bl) ws t (i + 1) done).map pairS))) a = some (.dict (dOf (kyC bl) ws) ep) := (upd_ne _ _ hab.symm).trans (upd_self _ _ _)
          have hkey : fL (kyC bl) ((t.drop (i + 1 - j)).take j) = ((fL (kyC bl) t).drop (i + 1 - j)).take j := by simp only [fL, List.map_take, List.map_drop]
          cases hl : lastW ws (fL (kyC bl)) (fL (kyC bl) ((t.drop (i + 1 - j)).take j)) with
          | none =>
            refine Asg_Name (Exs_cons (Ex_if [] (PT.eq (PB_Cmp (PE.eqv (PE_Slice (PE_Name rfl) (part_int (PE.eqv (PE_Bin (PE_Name rfl) (PE_Name rfl) b_sub) (b := iN (i + 1 - j)) (congrArg AV.int hsub))) (part_int (PE_Name rfl)) part_no (PSl_str_run hgl)) (b := sS (fL (kyC bl) ((t.drop (i + 1 - j)).take j))) (by rw [Nat.sub_sub_self hq, hkey])) (PE_Name rfl) (c_inD (k := kyS (fL (kyC bl) ((t.drop (i + 1 - j)).take j))) T.sm hda)) (b' := false) (by rw [hdat, hl]; rfl)) (fun q => absurd q (by simp)) (fun _ => Exs_nil (Exs_nil ⟨[("words", wsV ws), ("text", sS t), ("blind", .bool bl), ("last", .ref a), ("plain", sS (fL (kyC bl) t)), ("due", .ref b), ("end", iN (i + 1))], locle_cons rfl (locle_cons rfl (locle_cons rfl (locle_cons rfl (locle_cons rfl (locle_cons rfl (locle_cons rfl (locle_nil))))))), done ++ [j], rest, by rw [e1]; simp, rfl, rfl, by rw [dueQ_snoc, hl]; simp⟩))))
          | some w =>
            refine Asg_Name (Exs_cons (Ex_if [] (PT.eq (PB_Cmp (PE.eqv (PE_Slice (PE_Name rfl) (part_int (PE.eqv (PE_Bin (PE_Name rfl) (PE_Name rfl) b_sub) (b := iN (i + 1 - j)) (congrArg AV.int hsub))) (part_int (PE_Name rfl)) part_no (PSl_str_run hgl)) (b := sS (fL (kyC bl) ((t.drop (i + 1 - j)).take j))) (by rw [Nat.sub_sub_self hq, hkey])) (PE_Name rfl) (c_inD (k := kyS (fL (kyC bl) ((t.drop (i + 1 - j)).take j))) T.sm hda)) (b' := true) (by rw [hdat, hl]; rfl)) (fun _ => ?_) (fun q => absurd q (by simp))))
            refine Exs_cons (Ex_Expr (Ev_Meth (Ev_Name rfl (m_append (upd_self _ _ _) (EvL_e (Ev_pure [] (pairS (w, i + 1 - j)) (PE_Tuple [sS w, iN (i + 1 - j)] (.cons (PE_Sub (PE_Name rfl) (PE.eqv (PE_Slice (PE_Name rfl) (part_int (PE.eqv (PE_Bin (PE_Name rfl) (PE_Name rfl) b_sub) (b := iN (i + 1 - j)) (congrArg AV.int hsub))) (part_int (PE_Name rfl)) part_no (PSl_str_run hgl)) (b := sS (fL (kyC bl) ((t.drop (i + 1 - j)).take j))) (by rw [Nat.sub_sub_self hq, hkey])) (s_dict (k := kyS (fL (kyC bl) ((t.drop (i + 1 - j)).take j))) hda (by rw [hdat, hl]; rfl))) (.cons (PE.eqv (PE_Bin (PE_Name rfl) (PE_Name rfl) b_sub) (congrArg AV.int hsub)) .nil)) (by simp)) (EvL_0 (EvA_0 (list_append (upd_self _ _ _) (by rw [List.length_map, List.length_append]; omega) (Exs_nil (Exs_nil ⟨[("words", wsV ws), ("text", sS t), ("blind", .bool bl), ("last", .ref a), ("plain", sS (fL (kyC bl) t)), ("due", .ref b), ("end", iN (i + 1))], locle_cons rfl (locle_cons rfl (locle_cons rfl (locle_cons rfl (locle_cons rfl (locle_cons rfl (locle_cons rfl (locle_nil))))))), done ++ [j], rest, by rw [e1]; simp, rfl, rfl, ?_⟩)))))))))))
            exact (upd_upd _ b _ _).trans (congrArg (fun z => upd (upd hp a (.dict (dOf (kyC bl) ws) ep)) b (AO.list z)) (by rw [dueQ_snoc, hl]; simp only [List.map_append, List.append_assoc]; rfl))
      · (rintro loc hp'; intro zr; obtain ⟨done, rest, e1, e2, rfl, rfl⟩ := zr)
        have : rest = [] := by simpa using e2.symm
        subst this
        rw [List.append_nil] at e1
        subst e1
        refine Exs_nil ⟨[("words", wsV ws), ("text", sS t), ("blind", .bool bl), ("last", .ref a), ("plain", sS (fL (kyC bl) t)), ("due", .ref b)], locle_cons rfl (locle_cons rfl (locle_cons rfl (locle_cons rfl (locle_cons rfl (locle_cons rfl (locle_nil)))))), i + 1, hi2, hxs', rfl, ?_⟩
        rw [dueL_succ]
    · (rintro loc hp'; intro zr; obtain ⟨i, hi, hxs, rfl, rfl⟩ := zr)
      have := drop_end hxs
      rw [List.getElem?_eq_none_iff, List.length_map, List.length_range] at this
      obtain rfl : i = t.length := by omega
      refine Tr.freeze "due" b ((dueL (kyC bl) 3 ws t t.length).map pairS) (upd_self _ _ _) rfl ?_
      rw [delA_upd hb]
      exact Exs_cons (Ex_ret [] (.lst ((dueL (kyC bl) 3 ws t t.length).map pairS)) (PE_Name rfl) ⟨rfl, Sub.of fun z hz => upd_ne _ _ (by rintro rfl; exact hz ha)⟩)
end
end
section
section
variable {C : Cf} {A : Around} {s s' : Shared} {F F' G : FH} {env : Env} {E : Value → Shared → Prop} {hp hp' : HP} {loc : PL} {σ : ASt}
theorem funFr (hR : Rp C A F G env σ s) (hfr : env.frame = some env.locals) : ∃ l, A.frames = some (env :: l) ∧ s.heap.FunFrames (freeAt s.heap ((env :: l).filterMap (·.frame))) (env :: l) ∧ ∀ b ∈ (env :: l).filterMap (·.frame), b = env.locals ∨ ∃ o es ep, G b = some o ∧ o.data = .dict es ep := by
  obtain ⟨e', l, f1, f2, f3, f4, f5⟩ := hR.fs
  have : e' = env := by
    rcases f4 with f4 | ⟨zu, L, o, g1, g2, zu⟩
    · exact f4.1
    · rw [f3, hfr] at g1; (have zc := Option.some.inj g1; clear g1; subst zc)
      rw [hR.fm.lo.2.1] at g2; exact ns_ne g2
  subst this
  have hSf : ∀ b ∈ (e' :: l).filterMap (·.frame), b = e'.locals ∨ ∃ o es ep, G b = some o ∧ o.data = .dict es ep := by
    intro b hb
    obtain ⟨en, hen, hfe⟩ := List.mem_filterMap.mp hb
    rcases List.mem_cons.mp hen with rfl | hen
    · rw [hfr] at hfe; (have zc := Option.some.inj hfe; clear hfe; subst zc); exact .inl rfl
    · obtain ⟨zu, L, o, g1, g2, es, ep, g3⟩ := f5 en hen
      rw [g1] at hfe; (have zc := Option.some.inj hfe; clear hfe; subst zc)
      exact .inr ⟨o, es, ep, g2, g3⟩
  refine ⟨l, f1, ?_, hSf⟩
  have hfun : ∀ b ∈ (e' :: l).filterMap (·.frame), ∃ o, s.heap.get? b = some o ∧ ∃ es ep, o.data = .dict es ep := by
    intro b hb
    rcases hSf b hb with rfl | ⟨o, es, ep, g1, g2⟩
    · obtain ⟨m, ⟨oL, es, ep, hL, r, zu⟩, zu⟩ := hR.fm.ns
      exact ⟨oL, hL, es, ep, r⟩
    · obtain ⟨o', g3, g4⟩ := hR.wd.gz _ _ g1
      exact ⟨o', g3, es, ep, g4.data.trans g2⟩
  have all : ∀ ll : List Env, (∀ en ∈ ll, en ∈ e' :: l) → s.heap.FunFrames (freeAt s.heap ((e' :: l).filterMap (·.frame))) ll := by
    intro ll
    induction ll with
    | nil => intro zu; trivial
    | cons en ll ih =>
      intro hsub'
      have hen := hsub' en List.mem_cons_self
      obtain ⟨kd, L, hL⟩ : en.scope.kind ≠ .module ∧ ∃ L, en.frame = some L := by
        rcases List.mem_cons.mp hen with rfl | hen
        · exact ⟨f2, _, hfr⟩
        · obtain ⟨g0, L, o, g1, zu⟩ := f5 en hen
          exact ⟨g0, L, g1⟩
      have hm : L ∈ (e' :: l).filterMap (·.frame) := List.mem_filterMap.mpr ⟨en, hen, hL⟩
      obtain ⟨o, ho, es, ep, hdd⟩ := hfun L hm
      exact ⟨kd, ⟨L, o, hL, by rw [freeAt_get, if_pos hm], ho, fun vs q => by rw [hdd] at q; cases q⟩, ih fun en' h' => hsub' en' (List.mem_cons_of_mem _ h')⟩
  exact all _ fun zu h => h
theorem newX {e : Addr} {oe : Obj} {vs : Array Value} {head : Value} {hadNext : Bool} {Q : Unit → Shared → Prop} (hR : Rp C A F G env σ s) (hfr : env.frame = some env.locals) (hl : Loose F G σ env e) (he : s.heap.get? e = some oe) (hd : oe.data = .fields vs) (hsz : 1 < vs.size)
    (k : ∀ h' T' oe', Rp C A F G env σ { s with heap := h' } → h'.get? e = some oe' → oe'.cls = oe.cls → oe'.data = .fields (vs.setIfInBounds 1 (.ref T')) → Loose F G σ env T' → T' ≠ e → (∃ oT ts, h'.get? T' = some oT ∧ oT.data = .fields ts ∧ ts[3]? = some .none) → Q () { s with heap := h' }) :
    wpAny (model C.prog C.w) A (do let a ← frameOf env; let pl ← entryPlaceOf env.locals hadNext; let b ← EntryCells.newEntry head a .none (rawInt env.locals) .none pl; setField (.ref e) 1 b) (fun _ s' => wpAny (model C.prog C.w) A (setFlight (.ref e) none) Q E s') E s := by
  obtain ⟨l, f1, hff, hSf⟩ := funFr hR hfr
  refine wpAny_bind (wpAny_frameOf_fun f1 hff hfr fun h₁ hs₁ => ?_)
  have hR₁ : Rp C A F G env σ { s with heap := h₁ } := hR.noted (t := s.toks) (S := (env :: l).filterMap (·.frame)) (fun b hb => .inr (hSf b hb)) (fun b o hb q => (hs₁.2.1 b hb).trans q) fun b o es ep q _ => hs₁.2.2 b o q
  have heS : e ∉ (env :: l).filterMap (·.frame) := fun hb => by
    rcases hSf e hb with q | ⟨o, es, ep, g, _⟩
    · exact hl.l q
    · rw [hl.g] at g; exact ns_ne g
  have he₁ : h₁.get? e = some oe := (hs₁.2.1 e heS).trans he
  refine wpAny_bind (wpAny_entryPlaceOf fun pl hpl => ?_)
  unfold EntryCells.newEntry newFields
  refine wpAny_bind (wpAny_newObj_type ?_ (hpl.sizeOk5 _ _ _ _ _))
  have hT0 : s.heap.get? h₁.objs.size = none := by rw [hs₁.1]; exact Heap.get?_none_of_le (Nat.le_refl _)
  have lT : Loose F G σ env h₁.objs.size := hR.loose hT0
  have hTe : h₁.objs.size ≠ e := Nat.ne_of_gt (Heap.lt_size he₁)
  refine wpAny_setField (Heap.get?_push_of_some _ he₁) hd hsz ?_
  have hR₂ := hR₁.keep (t := s.toks) (h' := h₁.push { cls := .type "traceback", dict := none, data := .fields ([head, .ref env.locals, .none, rawInt env.locals, .none] ++ (if pl.isEmpty then List.replicate 6 Value.none else pl)).toArray }) fun b o q => Heap.get?_push_of_some _ q
  generalize hO : ({ cls := .type "traceback", dict := none, data := .fields ([head, .ref env.locals, .none, rawInt env.locals, .none] ++ (if pl.isEmpty then List.replicate 6 Value.none else pl)).toArray } : Obj) = O at hR₂ ⊢
  have he₂ : (h₁.push O).get? e = some oe := Heap.get?_push_of_some _ he₁
  have hTp : (h₁.push O).get? h₁.objs.size = some O := by rw [← hO]; exact Heap.get?_push_size h₁ rfl
  have hOd : O.data = .fields ([head, .ref env.locals, .none, rawInt env.locals, .none] ++ (if pl.isEmpty then List.replicate 6 Value.none else pl)).toArray := by rw [← hO]
  have hOs : 3 < ([head, .ref env.locals, .none, rawInt env.locals, .none] ++ (if pl.isEmpty then List.replicate 6 Value.none else pl)).toArray.size := by
    simp only [List.size_toArray, List.length_append, List.length_cons, List.length_nil]; omega
  generalize ([head, .ref env.locals, .none, rawInt env.locals, .none] ++ (if pl.isEmpty then List.replicate 6 Value.none else pl)).toArray = ts at hOd hOs
  have hR₃ := hR₂.looseTurn (t := s.toks) (h' := (h₁.push O).update e (Obj.mapFields (·.setIfInBounds 1 (.ref h₁.objs.size)))) hl (fun o es ep q z => by dsimp only at q; rw [he₂] at q; (have zc := Option.some.inj q; clear q; subst zc); rw [hd] at z; cases z) fun b o n q => (Heap.get?_update_ne _ _ _ _ n).trans q
  have hd₃ := Obj.data_mapFields hd (·.setIfInBounds 1 (Value.ref h₁.objs.size))
  have he₃ := Heap.get?_update_self (Obj.mapFields (·.setIfInBounds 1 (Value.ref h₁.objs.size))) he₂ (Obj.isFreed_of_fields hd₃)
  have hT₃ := (Heap.get?_update_ne (h₁.push O) h₁.objs.size e (Obj.mapFields (·.setIfInBounds 1 (Value.ref h₁.objs.size))) hTe).trans hTp
  refine wpAny_setFlight_none he₃ hd₃ (by simp [hsz]) hT₃ hOd hOs ?_
  have hR₄ := hR₃.looseTurn (t := s.toks) (h' := ((h₁.push O).update e (Obj.mapFields (·.setIfInBounds 1 (.ref h₁.objs.size)))).update h₁.objs.size (Obj.mapFields (·.setIfInBounds 3 .none))) lT (fun o es ep q z => by dsimp only at q; rw [hT₃] at q; (have zc := Option.some.inj q; clear q; subst zc); rw [hOd] at z; cases z) fun b o n q => (Heap.get?_update_ne _ _ _ _ n).trans q
  refine k _ h₁.objs.size _ hR₄ ((Heap.get?_update_ne _ _ _ _ (Ne.symm hTe)).trans he₃) (Obj.cls_mapFields _ _) hd₃ lT hTe ⟨_, _, Heap.get?_update_self _ hT₃ (Obj.isFreed_of_fields (Obj.data_mapFields hOd _)), Obj.data_mapFields hOd _, by simp [hOs]⟩
structure TrE (h : Heap) (e : Addr) (X : String) (ctx : Value) (P : Addr → Prop) : Prop where
  ex : ∃ oe vs T oT ts, h.get? e = some oe ∧ oe.cls = .type X ∧ oe.data = .fields vs ∧ vs[1]? = some (.ref T) ∧ vs[2]? = some ctx ∧ T ≠ e ∧ P e ∧ P T ∧ h.get? T = some oT ∧ oT.data = .fields ts ∧ ts[3]? = some .none
theorem noteX {e : Addr} {oe : Obj} {vs : Array Value} {X : String} {ctx x1 : Value} {Q : Unit → Shared → Prop} (hR : Rp C A F G env σ s) (hfr : env.frame = some env.locals) (hl : Loose F G σ env e) (he : s.heap.get? e = some oe) (hc : oe.cls = .type X) (hd : oe.data = .fields vs) (h1 : vs[1]? = some x1) (h2 : vs[2]? = some ctx)
    (h3 : x1 = .none ∨ ∃ T oT ts, x1 = .ref T ∧ Loose F G σ env T ∧ T ≠ e ∧ s.heap.get? T = some oT ∧ oT.data = .fields ts ∧ ts[3]? = some .none)
    (k : ∀ h', Rp C A F G env σ { s with heap := h' } → TrE h' e X ctx (Loose F G σ env) → Q () { s with heap := h' }) :
    wpAny (model C.prog C.w) A (noteFrame (.ref e) env) (fun _ s' => wpAny (model C.prog C.w) A (setFlight (.ref e) none) Q E s') E s := by
  have hsz : 1 < vs.size := (Array.getElem?_eq_some_iff.mp h1).1
  have fin : ∀ h' T' oe', Rp C A F G env σ { s with heap := h' } → h'.get? e = some oe' → oe'.cls = oe.cls → oe'.data = .fields (vs.setIfInBounds 1 (.ref T')) → Loose F G σ env T' → T' ≠ e → (∃ oT ts, h'.get? T' = some oT ∧ oT.data = .fields ts ∧ ts[3]? = some .none) → Q () { s with heap := h' } :=
    fun h' T' oe' a b c d e1 e2 ⟨oT, ts, g1, g2, g3⟩ => k h' a ⟨oe', _, T', oT, ts, b, c.trans hc, d, by simp [hsz], by rw [Array.getElem?_setIfInBounds_ne (by decide)]; exact h2, e2, hl, e1, g1, g2, g3⟩
  unfold noteFrame
  simp only [hfr]
  refine wpAny_bind (wpAny_field he hd h1 ?_)
  rcases h3 with rfl | ⟨T, oT, ts, rfl, lT, nT, hT, dT, t3⟩
  · rw [if_neg (by decide)]
    exact newX hR hfr hl he hd hsz fin
  · rw [if_pos (show (Value.ref T != Value.none) = true from by simp)]
    refine wpAny_bind (wpAny_field hT dT t3 ?_)
    rw [if_neg (show ¬ ((Value.none == rawInt env.locals) = true) from by simp [rawInt])]
    refine wpAny_bind (wpAny_setField hT dT (Array.getElem?_eq_some_iff.mp t3).1 ?_)
    have hR₁ := hR.looseTurn (t := s.toks) (h' := s.heap.update T (Obj.mapFields (·.setIfInBounds 3 .none))) lT (fun o es ep q z => by rw [hT] at q; (have zc := Option.some.inj q; clear q; subst zc); rw [dT] at z; cases z) fun b o n q => (Heap.get?_update_ne _ _ _ _ n).trans q
    exact newX (s := { s with heap := s.heap.update T (Obj.mapFields (·.setIfInBounds 3 .none)) }) hR₁ hfr hl ((Heap.get?_update_ne _ _ _ _ (Ne.symm nT)).trans he) hd hsz fin
end
end
section
section
variable {C : Cf} {A : Around} {s s' : Shared} {F F' G : FH} {env : Env} {E : Value → Shared → Prop} {hp hp' : HP} {loc : PL} {σ : ASt}
structure FrE (h : Heap) (e : Addr) (X : String) (ctx : Value) (P : Addr → Prop) : Prop where
  ex : ∃ oe vs, h.get? e = some oe ∧ oe.cls = .type X ∧ oe.data = .fields vs ∧ vs[1]? = some .none ∧ vs[2]? = some ctx ∧ P e
noncomputable def HC (A : Around) (F : FH) : Prop := A.handled = none ∨ ∃ e o vs, A.handled = some (.ref e) ∧ F e = some o ∧ o.data = .fields vs ∧ vs[2]? = some .none
noncomputable def hctx (A : Around) : Value := A.handled.getD .none
theorem HC.mono (h : HC A F) (x : Ext F F') : HC A F' := h.imp id fun ⟨e, o, vs, a, b, c⟩ => ⟨e, o, vs, a, x _ _ b, c⟩
theorem entry_unchain : entryFor table "proto.unchain" = some Builtin.«proto.unchain» := entryFor_of_fast (by kernel_rfl)
theorem raiseNewX {e : Addr} {oe : Obj} {vs : Array Value} {α : Type} {Q : α → Shared → Prop} (hR : Rp C A F G env σ s) (hH : HC A F) (hl : Loose F G σ env e) (he : s.heap.get? e = some oe) (hc : oe.cls = .type "ValueError") (hd : oe.data = .fields vs) (hsz : 2 < vs.size) (h1 : vs[1]? = some .none) (h2 : vs[2]? = some .none)
    (k : ∀ s' , Rp C A F G env σ s' → FrE s'.heap e "ValueError" (hctx A) (Loose F G σ env) → E (.ref e) s') : wpAny (model C.prog C.w) A (raiseNew (.ref e) : Sem α) Q E s := by
  unfold raiseNew
  refine wpAny_bind (wpAny_handled ?_)
  rcases hH with hn | ⟨e1, o1, v1, hh, hF, hd1, hx⟩
  · rw [hn]
    first
      | exact wpAny_throw (k s hR ⟨oe, vs, he, hc, hd, h1, by unfold hctx; rw [hn]; exact h2, hl⟩)
      | exact wpAny_bind (wpAny_pure (wpAny_throw (k s hR ⟨oe, vs, he, hc, hd, h1, by unfold hctx; rw [hn]; exact h2, hl⟩)))
  · rw [hh]
    have ne : e1 ≠ e := by rintro rfl; rw [hl.f] at hF; exact ns_ne hF
    dsimp only
    rw [if_pos (by simpa using ne)]
    refine wpAny_bind (wpAny_holding (wpAny_runValue (codeAny_builtin entry_unchain ?_)))
    unfold Builtin.«proto.unchain»
    dsimp only
    refine wpAny_bind (wpAny_field (hR.wd.fz _ _ hF) hd1 hx ?_)
    rw [if_pos (by decide)]
    refine wpAny_bind (wpAny_pure ?_)
    refine wpAny_pure ?_
    dsimp only
    refine wpAny_bind ?_
    show wpAny _ _ (setField (.ref e) 2 (.ref e1)) _ _ _
    refine wpAny_setField he hd hsz ?_
    have hR₁ := hR.looseTurn (t := s.toks) (h' := s.heap.update e (Obj.mapFields (·.setIfInBounds 2 (.ref e1)))) hl (fun o es ep q z => by rw [he] at q; (have zc := Option.some.inj q; clear q; subst zc); rw [hd] at z; cases z) fun b o n q => (Heap.get?_update_ne _ _ _ _ n).trans q
    have hd₂ := Obj.data_mapFields hd (·.setIfInBounds 2 (Value.ref e1))
    exact wpAny_throw (k _ hR₁ ⟨_, _, Heap.get?_update_self _ he (Obj.isFreed_of_fields hd₂), (Obj.cls_mapFields _ _).trans hc, hd₂, by rw [Array.getElem?_setIfInBounds_ne (by decide)]; exact h1, by unfold hctx; rw [hh]; simp [hsz], hl⟩)
theorem raiseX {arg : Expr} {np cpos pos : Pos} {Q : Flow → Shared → Prop} (hg : GL C "ValueError" (.type "ValueError")) (hR : Rp C A F G env σ s) (hH : HC A F)
    (ha : EvL C A E env (backTo cpos (starEach [arg] env)) σ (fun us σ' => us.length ≤ 10 ∧ σ' = σ))
    (k : ∀ F' s' e, Ext F F' → Rp C A F' G env σ s' → FrE s'.heap e "ValueError" (hctx A) (Loose F' G σ env) → E (.ref e) s')
    (hk : autoParam (env.kindOf "ValueError" = some .globalImplicit) AC.aux0._auto_1) (hs : autoParam (env.scope.kind = .function) AC.aux0._auto_1) (hgl : autoParam (env.globals = mainGlobals) AC.aux0._auto_1) (hbl : autoParam (env.builtins = builtinsNs) AC.aux0._auto_1)
    (hp : autoParam ((backTo cpos (starEach [arg] env)).any (·.1) = false) AC.aux0._auto_1) (hp2 : autoParam ((backTo cpos (starEach [arg] env)).all (!·.1) = true) AC.aux0._auto_1) :
    wpAny (model C.prog C.w) A (exec (.Raise (some (.Call (.Name "ValueError" np) [arg] [] cpos)) none pos) env) Q E s := by
  rw [arm_exec_Raise]
  show wpAny _ _ (do standAt pos; raiseStmt env (some (do let v ← eval (.Call (.Name "ValueError" np) [arg] [] cpos) env; standAt pos; pure v)) none) _ _ _
  refine wpAny_bind (wpAny_standAt ?_)
  unfold raiseStmt
  refine wpAny_bind (wpAny_bind (wpAny_Call_ofName (wpAny_Name ?_ (by decide))))
  rw [load_glob hs hk]
  refine hg env hgl hbl _ _ _ _ hR.wd.old ?_
  refine callWith_excType hp (evalArgs_plain hp2 rfl (ha.use hR fun F₁ us σ₁ vs s₁ e₁ hvs hR₁ h₁ => ?_))
  obtain ⟨hlen, h₁⟩ := h₁
  subst h₁
  obtain ⟨hp₁, g₁, d₁, tk₁, os₁⟩ := s₁
  refine wpAny_evalAll_nil ?_
  refine wpAny_call_exc PySem.F.excCall_ValueError (fun h' e hm => ?_) (by show ([] ++ vs).length ≤ _; rw [List.nil_append, hvs.length, sizeLine_eq]; omega)
  have hR₂ := hR₁.keep (t := tk₁) hm.keeps
  have hl := hR₁.loose hm.new
  obtain ⟨t, he, zu⟩ := hm.there
  refine wpAny_bind (wpAny_standAt (wpAny_pure ?_))
  have hsub := PySem.F.excRaise_ValueError.isExc
  have hmeta := PySem.F.excRaise_ValueError.plainMeta
  repeat (first | refine wpAny_loadPart he ?_ | wp_step)
  refine raiseNewX (s := ⟨h', g₁, d₁, tk₁, os₁⟩) hR₂ (hH.mono e₁) hl he rfl rfl (Nat.le_of_ble_eq_true rfl) rfl rfl fun s' a b => k F₁ s' e e₁ a b
end
end
section
section
variable {C : Cf} {A : Around} {s s' : Shared} {F F' G : FH} {env : Env} {E : Value → Shared → Prop} {hp hp' : HP} {loc : PL} {σ : ASt}
noncomputable def Free3 (F G : FH) (hp : HP) (a : Addr) : Prop := F a = none ∧ G a = none ∧ hp a = none
theorem TrE.mono {h : Heap} {e : Addr} {X : String} {ctx : Value} {P P' : Addr → Prop} (x : TrE h e X ctx P) (k : ∀ a, P a → P' a) : TrE h e X ctx P' := by
  obtain ⟨oe, vs, T, oT, ts, a1, a2, a3, a4, a5, a6, a7, a8, a9⟩ := x
  exact ⟨oe, vs, T, oT, ts, a1, a2, a3, a4, a5, a6, k _ a7, k _ a8, a9⟩
noncomputable def FnX (C : Cf) (A : Around) (f : Value) (args : List AV) (hp : HP) (X : String) : Prop :=
  ∀ F G s vs, Fs A G → Wd C F G hp s → VRs F args vs → HC A F → codeAny (model C.prog C.w) A (.call f ⟨vs, []⟩) (fun r s' => ∃ F' e, r = .error (.ref e) ∧ Ext F F' ∧ Wd C F' G hp s' ∧ TrE s'.heap e X (hctx A) (Free3 F' G hp)) s
noncomputable def BodyX (C : Cf) (A : Around) (env : Env) (body : List Stmt) (σ : ASt) (X : String) : Prop :=
  ∀ F G s, Rp C A F G env σ s → HC A F → wpAny (model C.prog C.w) A (execs body env) (fun _ _ => False) (fun ev s' => ∃ F' e, ev = .ref e ∧ Ext F F' ∧ Rp C A F' G env σ s' ∧ FrE s'.heap e X (hctx A) (Loose F' G σ env)) s
theorem FnX_def {f : Addr} {fd : FuncData} {body : List Stmt} {args : List AV} {loc : List (Str × AV)} {hp : HP} {X : String} (hf : FnAt C f fd) (hb : Binds C fd args [] loc)
    (h : ∀ L, BodyX C (A.deeper (callEnv fd L f)) (callEnv fd L f) body ⟨loc.reverse, hp⟩ X)
    (hroom : A.depth < recursionLimit) (hbody : autoParam (fd.body = .stmts body) AC.aux0._auto_1) (hcell : autoParam ((fd.scope.names.all fun x => x.2 != .cell && x.2 != .free) = true) AC.aux0._auto_1)
    (hco : autoParam (fd.scope.isCoroutine = false) AC.aux0._auto_1) (hgen : autoParam (fd.scope.isGenerator = false) AC.aux0._auto_1) (hk : autoParam (fd.scope.kind = .function) AC.aux0._auto_1) :
    FnX C A (.ref f) args hp X := by
  intro F G s vs fs W hv hH
  obtain ⟨o, ho, hd⟩ := hf.at_
  obtain ⟨bs, hB, hbr, hl⟩ := hb F vs [] hv .nil
  have hc : ∀ x ∈ fd.scope.names, x.2 ≠ .cell ∧ x.2 ≠ .free := fun x hx => by
    have := List.all_eq_true.mp hcell x hx
    simpa using this
  have noK : ∀ L x, (callEnv fd L f).kindOf x ≠ some .cell ∧ (callEnv fd L f).kindOf x ≠ some .free := by
    intro L x
    have key : ∀ kd, fd.scope.names.lookup x = some kd → (x, kd) ∈ fd.scope.names := fun kd e => by
      obtain ⟨l1, l2, e1, zu⟩ := List.lookup_eq_some_iff.mp e
      rw [e1]; simp
    constructor
    · intro e; exact (hc _ (key _ e)).1 rfl
    · intro e; exact (hc _ (key _ e)).2 rfl
  refine codeAny_call_function hroom (W.old _ _ ho) hd hco hgen hbody (hf.code.keeps W.old) ?_
  refine hB _ _ _ s W.old (wpAny_newFunctionEnv (fun x hx => (hc x hx).1) (fun x hx => of_decide_eq_true (List.all_eq_true.mp hl x hx)) (fun h' hns hsb => ?_) hk)
  have kp : ∀ b o, s.heap.get? b = some o → h'.get? b = some o := fun b o e => hsb.extBut b o (Nat.ne_of_lt (Heap.lt_size e)) (Heap.get?_push_of_some _ e)
  refine ⟨hf.lim.keeps fun b o e => kp _ _ (W.old _ _ e), codeAny_func ?_⟩
  obtain ⟨z1, z2, z3⟩ := W.lt (Nat.le_refl s.heap.objs.size)
  obtain ⟨fl, fs1, fs2⟩ := fs
  have hfs : FsE (A.deeper (callEnv fd s.heap.objs.size f)) G (callEnv fd s.heap.objs.size f) :=
    ⟨callEnv fd s.heap.objs.size f, fl, by simp only [Around.deeper, fs1, Option.map_some], by show fd.scope.kind ≠ _; rw [hk]; decide, rfl, .inl ⟨rfl, rfl⟩, fs2⟩
  have hR : Rp C (A.deeper (callEnv fd s.heap.objs.size f)) F G (callEnv fd s.heap.objs.size f) ⟨loc.reverse, hp⟩ { s with heap := h', toks := s.toks + bs.length } := by
    refine ⟨W.keep kp, ⟨hk, ⟨_, hns, fun x av hx zu => hbr.reverse.look hx⟩, ⟨z1, z2, z3⟩, fun x hx => absurd hx (noK _ x).1, fun x zu zu hx => absurd hx (noK _ x).1, fun x zu zu zu hx => absurd hx (noK _ x).1, fun x zu zu hx => absurd hx (noK _ x).2⟩, hfs⟩
  refine wpAny_mono (h s.heap.objs.size F G _ hR hH) (fun zu zu x => x.elim) fun ev s' z => ?_
  obtain ⟨F', e, rfl, e1, hR', ⟨oe, vs', b1, b2, b3, b4, b5, b6⟩⟩ := z
  unfold leaving
  refine wpAny_bind (noteX hR' rfl b6 b1 b2 b3 b4 b5 (.inl rfl) fun h2 hR2 ht => ?_)
  exact ⟨F', e, rfl, e1, hR2.wd, ht.mono fun a l => ⟨l.f, l.g, l.h⟩⟩
noncomputable def Rsd (C : Cf) (A : Around) (F G : FH) (env : Env) (σ : ASt) (X : String) (ev : Value) (s' : Shared) : Prop :=
  ∃ F' e, ev = .ref e ∧ Ext F F' ∧ Rp C A F' G env σ s' ∧ TrE s'.heap e X (hctx A) (Loose F' G σ env)
theorem Rsd.ext {X : String} {ev : Value} {F₁ : FH} (x : Ext F F₁) (h : Rsd C A F₁ G env σ X ev s) : Rsd C A F G env σ X ev s :=
  let ⟨F', e, a, b, c⟩ := h; ⟨F', e, a, x.trans b, c⟩
theorem FnX.call {f : Value} {args : List AV} {X : String} (h : FnX C A f args σ.hp X) (hR : Rp C A F G env σ s) (hH : HC A F) {vs : List Value} (hv : VRs F args vs) :
    wpAny (model C.prog C.w) A (PySem.call f vs []) (fun _ _ => False) (Rsd C A F G env σ X) s := by
  refine wpAny_call (codeAny_mono (h F _ s vs (frz_fs hR) (frz_in hR) hv hH) fun r s' z => ?_)
  obtain ⟨F', e, rfl, e1, W, ht⟩ := z
  exact ⟨F', e, rfl, e1, frz_out hR e1 W, ht.mono fun a l => frz_loose (hp' := σ.hp) hR l⟩
theorem ExprX {o : Expr} {name : Str} {apos pos p2 : Pos} {args : List Expr} {ov : AV} {fa : Addr} {fd : FuncData} {first vs : List AV} {X : String}
    (ho : Ev C A (Rsd C A F G env σ X) env o σ (fun v σ' => v = ov ∧ σ' = σ)) (hm : MethA C A (Rsd C A F G env σ X) env ov name σ (fun f' first' σ' => f' = .ref fa ∧ first' = first ∧ σ' = σ))
    (ha : EvL C A (Rsd C A F G env σ X) env (backTo pos (starEach args env)) σ (fun us σ' => us = vs ∧ σ' = σ)) (hf : FnAt C fa fd) (h : FnX C A (.ref fa) (first ++ vs) σ.hp X) (hR : Rp C A F G env σ s) (hH : HC A F)
    (hb : autoParam (attributeBase o name env (eval o env) = eval o env) AC.aux0._auto_1) (hl : autoParam (apos.endLine = pos.line) AC.aux0._auto_1)
    (hfm : autoParam (methodCallForm args.length (backTo pos (starEach args env)) [] = true) AC.aux0._auto_1) (hp : autoParam ((backTo pos (starEach args env)).all (!·.1) = true) AC.aux0._auto_1)
    (hi : autoParam (interactive env = false) AC.aux0._auto_1) (hs : autoParam (swapsWith (.Call (.Attribute o name apos) args [] pos) none p2.line env = pure false) AC.aux0._auto_1) :
    wpAny (model C.prog C.w) A (exec (.Expr (.Call (.Attribute o name apos) args [] pos) p2) env) (fun _ _ => False) (Rsd C A F G env σ X) s := by
  rw [exec_Expr env _ p2 hi hs]
  refine wpAny_bind (wpAny_standAt (wpAny_bind ?_))
  show wpAny _ _ (do
    let ov ← attributeBase o name env (eval o env)
    standAt apos.atName
    methodCall o name apos pos env ov (args.length + 0) (backTo pos (starEach args env)) []) _ _ _
  rw [hb]
  refine wpAny_bind (ho.use hR fun F₀ ov' σ₀ vo s₀ e₀ hov hR₀ h₀ => wpAny_bind (wpAny_standAt ?_))
  obtain ⟨rfl, rfl⟩ := h₀
  unfold methodCall calleeOf methodCallPos
  rw [Nat.add_zero, hfm]
  simp only [if_true, Bool.not_true, Bool.false_or, hl, beq_self_eq_true]
  refine wpAny_bind (wpAny_holding (wpAny_mono (hm F₀ G s₀ vo _ hR₀ hov) (fun r s₁ z => ?_) fun zu zu x => x))
  obtain ⟨F₁, f, first', σ₁, e₁, hf', hfi, hR₁, g1, g2, g3⟩ := z
  subst g1; subst g2; subst g3
  obtain ⟨rf, rfi⟩ := r
  have hrf : rf = .ref fa := VR.refI hf'
  subst hrf
  refine wpAny_bind (wpAny_pure (callWith_any (evalArgs_plain hp rfl (ha.use hR₁ fun F₂ us σ₂ ws s₂ e₂ hvs hR₂ h₂ => wpAny_evalAll_nil ?_))))
  obtain ⟨rfl, rfl⟩ := h₂
  exact ⟨hf.keep hR₂.wd.old, wpAny_mono (h.call hR₂ (hH.mono (e₀.trans (e₁.trans e₂))) ((hfi.mono e₂).append hvs)) (fun zu zu x => x.elim) fun ev s' z => z.ext (e₀.trans (e₁.trans e₂))⟩
theorem Rp.hold (hR : Rp C A F G env σ s) {a : Addr} {o : Obj} (ha : Loose F G σ env a) (ho : s.heap.get? a = some o) : Rp C A (fput F a o) G env σ s ∧ Ext F (fput F a o) := by
  have x : Ext F (fput F a o) := fun b ob e => by
    have : b ≠ a := by rintro rfl; rw [ha.f] at e; exact ns_ne e
    unfold fput; rw [if_neg this]; exact e
  have off : ∀ b, b ≠ a → F b = none → fput F a o b = none := fun b n e => by unfold fput; rw [if_neg n]; exact e
  obtain ⟨⟨w1, w2, w3, w4, w5, w6, w7, w8⟩, ⟨kk, ⟨m, hm, hmv⟩, ⟨l1, l2, l3⟩, co, ci, cv, fv⟩, hfs⟩ := hR
  refine ⟨⟨⟨fun b ob e => x _ _ (w1 b ob e), fun b ob e => ?_, w3, fun b y e => ?_, w5, w6, w7, fun b ob e => ?_⟩, ⟨kk, ⟨m, hm, fun y av h1 h2 => let ⟨v, q, r⟩ := hmv y av h1 h2; ⟨v, q, r.mono x⟩⟩, ⟨off _ (Ne.symm ha.l) l1, l2, l3⟩, fun y hy => ?_, ci, fun y av c h1 h2 h3 => let ⟨v, q, r⟩ := cv y av c h1 h2 h3; ⟨v, q, r.mono x⟩, fun y av h1 h2 => let ⟨c, v, ob, q1, q2, q3, q4⟩ := fv y av h1 h2; ⟨c, v, ob, q1, q2, q3, q4.mono x⟩⟩, hfs⟩, x⟩
  · unfold fput at e
    split at e
    · rename_i q; subst q; (have zc := Option.some.inj e; clear e; subst zc); exact ho
    · exact w2 b ob e
  · obtain ⟨p, q, ob, ho', r⟩ := w4 b y e
    have n : b ≠ a := by rintro rfl; rw [ha.h] at e; exact ns_ne e
    exact ⟨off b n p, q, ob, ho', r.mono x⟩
  · unfold fput at e
    split at e
    · rename_i q; subst q; exact ha.g
    · exact w8 b ob e
  · obtain ⟨c, g1, g2, g3⟩ := co y hy
    exact ⟨c, g1, off c (by rintro rfl; exact ha.c y hy g1) g2, g3⟩
theorem catchX {e : Addr} {ctx : Value} {xp pos : Pos} {b₀ : Stmt} {suite : List Stmt} {rest : List ExceptHandler} {Q : AFlow → ASt → Prop}
    (hR : Rp C A F G env σ s) (ht : TrE s.heap e "ValueError" ctx (Loose F G σ env)) (hfr : env.frame = some env.locals) (hg : GL C "ValueError" (.type "ValueError"))
    (h : ∀ F' s', Ext F F' → (∃ o vs, F' e = some o ∧ o.data = .fields vs ∧ vs[2]? = some ctx) → Rp C (A.mark (some (.ref e))) F' G env σ s' → wpAny (model C.prog C.w) (A.mark (some (.ref e))) (execs (b₀ :: suite) env) (Post C (A.mark (some (.ref e))) G env FlR Q F') NoE s')
    (hk : env.kindOf "ValueError" = some .globalImplicit) (hs : env.scope.kind = .function) (hgl : env.globals = mainGlobals) (hbl : env.builtins = builtinsNs) :
    wpAny (model C.prog C.w) A (noteFrame (.ref e) env) (fun zu s₂ => wpAny (model C.prog C.w) A (setFlight (.ref e) none) (fun zu s₃ =>
      wpAny (model C.prog C.w) A (handleBy (.ref e) env (.ExceptHandler (some (.Name "ValueError" xp)) none (b₀ :: suite) pos :: rest)) (Post C A G env FlR Q F) E s₃) E s₂) E s := by
  obtain ⟨oe, vs, T, oT, ts, a1, a2, a3, a4, a5, a6, a7, a8, a9, a10, a11⟩ := ht
  refine noteX hR hfr a7 a1 a2 a3 a4 a5 (.inr ⟨T, oT, ts, rfl, a8, a6, a9, a10, a11⟩) fun h1 hR1 ht1 => ?_
  obtain ⟨oe, vs, T, oT, ts, b1, b2, b3, b4, b5, b6, b7, b8, b9, b10, b11⟩ := ht1
  refine wpAny_handleBy_builtin (X := "ValueError") (T := "ValueError") (b := true) PySem.F.excRaise_ValueError.isExc (by rw [isSubtype_type]; kernel_rfl) PySem.F.excCall_ValueError.sub ?_
  refine wpAny_Name ?_ (by decide)
  rw [load_glob hs hk]
  refine hg env hgl hbl _ _ _ _ hR1.wd.old ⟨rfl, ⟨oe, b1, b2⟩, ?_⟩
  rw [if_pos rfl]
  refine wpAny_setFlight_none b1 b3 b4 b9 b10 (Array.getElem?_eq_some_iff.mp b11).1 ?_
  have hR2 := hR1.looseTurn (t := s.toks) (h' := h1.update T (Obj.mapFields (·.setIfInBounds 3 .none))) b8 (fun o es ep q z => by dsimp only at q; rw [b9] at q; (have zc := Option.some.inj q; clear q; subst zc); rw [b10] at z; cases z) fun b o n q => (Heap.get?_update_ne _ _ _ _ n).trans q
  have he2 : (h1.update T (Obj.mapFields (·.setIfInBounds 3 .none))).get? e = some oe := (Heap.get?_update_ne _ _ _ _ (Ne.symm b6)).trans b1
  obtain ⟨hR3, x3⟩ := hR2.hold b7 he2
  refine wpAny_mono (h _ _ x3 ⟨oe, vs, by unfold fput; rw [if_pos rfl], b3, b5⟩ (hR3.mark _)) (fun f s' z => ?_) fun zu zu x => x.elim
  obtain ⟨F', b, σ', e1, r, hR', q⟩ := z
  exact ⟨F', b, σ', x3.trans e1, r, hR'.unmark, q⟩
end
end
section
section
variable {C : Cf} {A : Around} {s s' : Shared} {F F' G : FH} {env : Env} {E : Value → Shared → Prop} {hp hp' : HP} {loc : PL} {σ : ASt}
theorem b_addX {x y : Str} (hz : x.cps.size + y.cps.size ≤ 100000) : PO2 C A hp (PVR hp) (binaryOp .Add) (.str x, false) (.str y, false) (.str (x ++ y), false) := fun F s E v u hin hv hu => by
  obtain ⟨t, rfl⟩ := hv.out.strI
  obtain ⟨t2, rfl⟩ := hu.out.strI
  exact PyProof.Rows.add_str (fun t' tk => PuQ.here (t := tk) hin (.val (.str _ _))) (by rw [sizeLine_eq]; exact Nat.le_trans hz (by decide))
theorem bodyX (T : Tp C) {X : Trie} {t d : Addr} {ci : Bool} {arg : Expr} {np cpos rpos tp ip p : Pos} {rest : List Stmt} (hr : Rep X t d true ci σ.hp) (hn : σ.v "self" = some (.ref t))
    (ha : ∀ E, EvL C A E env (backTo cpos (starEach [arg] env)) σ (fun us σ' => us.length ≤ 10 ∧ σ' = σ))
    (hkn : autoParam (isVar (env.kindOf "self") = true) AC.aux0._auto_1)
    (hk : autoParam (env.kindOf "ValueError" = some .globalImplicit) AC.aux0._auto_1) (hs : autoParam (env.scope.kind = .function) AC.aux0._auto_1) (hgl : autoParam (env.globals = mainGlobals) AC.aux0._auto_1) (hbl : autoParam (env.builtins = builtinsNs) AC.aux0._auto_1)
    (hp : autoParam ((backTo cpos (starEach [arg] env)).any (·.1) = false) AC.aux0._auto_1) (hp2 : autoParam ((backTo cpos (starEach [arg] env)).all (!·.1) = true) AC.aux0._auto_1) :
    BodyX C A env (.If (.Attribute (.Name "self" p) "_finalized" tp) [.Raise (some (.Call (.Name "ValueError" np) [arg] [] cpos)) none rpos] [] ip :: rest) σ "ValueError" := by
  intro F G s hR hH
  have ht : Et C A NoE env (.Attribute (.Name "self" p) "_finalized" tp) σ (fun b σ' => b = true ∧ σ' = σ) := Et_plain (Ev_Attr (Ev_Name hn (get_ns T.n_fin hr.tree hr.ns rfl (truthy_bool ⟨rfl, rfl⟩)) hkn))
  refine wpAny_execs_cons (wpAny_If (wpAny_mono (ht F G s hR) (fun f s' z => ?_) fun zu zu x => x.elim))
  obtain ⟨F1, b, σ', e1, rfl, hR1, rfl, rfl⟩ := z
  refine wpAny_execs_cons ?_
  exact raiseX T.g_VE hR1 (hH.mono e1) (ha _) (fun F' s2 e x hR2 hf => ⟨F', e, rfl, e1.trans x, hR2, hf⟩) hk hs hgl hbl hp hp2
theorem add_refused (T : Tp C) {X : Trie} {t d : Addr} {ci : Bool} {kw : AV} {hp : HP} (hroom : A.depth < recursionLimit) (hr : Rep X t d true ci hp) : FnX C A (.ref 66) [.ref t, kw] hp "ValueError" := by
  obtain ⟨r, hf⟩ := T.f_add
  refine FnX_def (body := addP.body) hf (binds_add C r _ _) (fun L => ?_) hroom (by kernel_rfl) (by kernel_rfl) (by kernel_rfl) (by kernel_rfl) (by kernel_rfl)
  exact bodyX T hr rfl (fun E => EvL_e (Ev_pure [] _ (PE_Bin PE_str PE_str (b_addX (Nat.le_of_ble_eq_true rfl))) (EvL_0 ⟨by decide, rfl⟩)))
theorem fin_refused (T : Tp C) {X : Trie} {t d : Addr} {ci : Bool} {hp : HP} (hroom : A.depth < recursionLimit) (hr : Rep X t d true ci hp) : FnX C A (.ref 101) [.ref t] hp "ValueError" := by
  obtain ⟨r, hf⟩ := T.f_fin
  refine FnX_def (body := finP.body) hf (binds_fin C r _) (fun L => ?_) hroom (by kernel_rfl) (by kernel_rfl) (by kernel_rfl) (by kernel_rfl) (by kernel_rfl)
  exact bodyX T hr rfl (fun E => EvL_e (Ev_str (EvL_0 ⟨by decide, rfl⟩)))
theorem TryX {st : Stmt} {xp hpos pos : Pos} {b₀ : Stmt} {suite : List Stmt} {Q : AFlow → ASt → Prop} (hg : GL C "ValueError" (.type "ValueError")) (hH : HC A F)
    (h : wpAny (model C.prog C.w) A (exec st env) (fun _ _ => False) (Rsd C A F G env σ "ValueError") s)
    (hh : ∀ e F' s', Ext F F' → (∃ o vs, F' e = some o ∧ o.data = .fields vs ∧ vs[2]? = some (hctx A)) → Rp C (A.mark (some (.ref e))) F' G env σ s' → wpAny (model C.prog C.w) (A.mark (some (.ref e))) (execs (b₀ :: suite) env) (Post C (A.mark (some (.ref e))) G env FlR Q F') NoE s')
    (hfr : autoParam (env.frame = some env.locals) AC.aux0._auto_1) (hk : autoParam (env.kindOf "ValueError" = some .globalImplicit) AC.aux0._auto_1) (hs : autoParam (env.scope.kind = .function) AC.aux0._auto_1) (hgl : autoParam (env.globals = mainGlobals) AC.aux0._auto_1) (hbl : autoParam (env.builtins = builtinsNs) AC.aux0._auto_1) :
    wpAny (model C.prog C.w) A (exec (.Try [st] [.ExceptHandler (some (.Name "ValueError" xp)) none (b₀ :: suite) hpos] [] [] pos) env) (Post C A G env FlR Q F) E s := by
  refine wpAny_Try_except (wpAny_execs_cons (wpAny_mono h (fun zu zu x => x.elim) fun ev s1 z => ?_))
  obtain ⟨F1, e, rfl, x1, hR1, ht1⟩ := z
  have z := catchX (E := E) (xp := xp) (pos := hpos) (rest := []) hR1 ht1 hfr hg (fun F' s' x => hh e F' s' (x1.trans x)) hk hs hgl hbl
  exact wpAny_mono z (fun zu zu z => wpAny_mono z (fun zu zu z => wpAny_mono z (fun zu zu z => Post.ext x1 z) fun zu zu x => x) fun zu zu x => x) fun zu zu x => x
noncomputable abbrev closedP : DefP := defP "_law_closed"
theorem binds_closed (C : Cf) (r : FdRest) (x y : AV) : BindsC C (r.fd closedP .none) [x, y] [] [("tree", x), ("word", y)] := by
  intro F vs kvs h1 h2
  obtain ⟨v1, us1, rfl, hv1, h1⟩ := h1.inv
  obtain ⟨v2, us2, rfl, hv2, h1⟩ := h1.inv
  obtain rfl := h1.inv0
  obtain rfl := h2.inv0
  exact ⟨[("tree", v1), ("word", v2)], Looks.of_pure (by kernel_rfl), .cons hv1 (.cons hv2 .nil), by kernel_rfl⟩
theorem closed_fn (T : TpX C) {f : Addr} {r : FdRest} (hf : FnAt C f (r.fd closedP .none)) {X : Trie} {t d : Addr} {ci : Bool} {kw : AV} {hp : HP} (hA : A.handled = none) (hroom : A.depth + 3 < recursionLimit) (hr : Rep X t d true ci hp) :
    Fn C A (.ref f) [.ref t, kw] [] hp (fun v hp' => v = .bool true ∧ hp' = hp) := by
  refine Fn_defC hf (binds_closed C r _ _) (fun L => ?_) (by omega)
  have hA' : (A.deeper (callEnvC (r.fd closedP .none) L f)).handled = none := hA
  have hr' : (A.deeper (callEnvC (r.fd closedP .none) L f)).depth + 1 < recursionLimit := by show A.depth + 1 + 1 < recursionLimit; omega
  obtain ⟨ra, hfa⟩ := T.t.f_add
  obtain ⟨rf, hff⟩ := T.t.f_fin
  refine Exs_cons (fun F G s hR => ?_)
  refine TryX T.t.g_VE (.inl hA') (ExprX (first := [.ref t]) (vs := [kw]) (Ev_Name rfl ⟨rfl, rfl⟩) (meth_tree T.t.m_add hr ⟨rfl, rfl, rfl⟩) (EvL_e (Ev_Name rfl (EvL_0 ⟨rfl, rfl⟩))) hfa (add_refused T.t (by omega) hr) hR (.inl hA')) fun e1 F1 s1 x1 hx hR1 => ?_
  obtain ⟨o1, v1, hF1, hd1, hc1⟩ := hx
  have hH1 : HC ((A.deeper (callEnvC (r.fd closedP .none) L f)).mark (some (.ref e1))) F1 := .inr ⟨e1, o1, v1, rfl, hF1, hd1, by rw [hc1]; unfold hctx; rw [hA']; rfl⟩
  refine wpAny_execs_cons (wpAny_mono (TryX (Q := fun fl σ' => fl = .ret (.bool true) ∧ σ'.hp = hp) T.t.g_VE hH1 (ExprX (first := [.ref t]) (vs := []) (Ev_Name rfl ⟨rfl, rfl⟩) (meth_tree T.t.m_fin hr ⟨rfl, rfl, rfl⟩) (EvL_0 ⟨rfl, rfl⟩) hff (fin_refused T.t (by show A.depth + 1 < recursionLimit; omega) hr) hR1 hH1) fun e2 F2 s2 x2 hx2 hR2 => ?_) (fun fl s3 z => ?_) fun zu zu x => x)
  · refine Tr.go (Q := fun fl σ' => fl = AFlow.ret (.bool true) ∧ σ'.hp = hp) (Exs_cons (Ex_ret [] (.bool true) PE_bool ?_)) hR2 (Ext.refl F2)
    exact ⟨rfl, rfl⟩
  · obtain ⟨F3, b, σ', e3, rr, hR3, rfl, hz⟩ := z
    cases rr with
    | ret hv => exact ⟨F3, _, _, e3, .ret hv, hR3, rfl, hz⟩
theorem PE_closed (T : TpX C) {f : Addr} {r : FdRest} (hf : FnAt C f (r.fd closedP .none)) (hg : GL C "_law_closed" (.ref f)) {X : Trie} {t d : Addr} {ci : Bool} {kw : AV} (hA : A.handled = none) (hroom : A.depth + 3 < recursionLimit) (hr : Rep X t d true ci hp) {e1 e2 : Expr} {px pos : Pos} (h1 : PE C A hp env loc e1 (.ref t, false)) (h2 : PE C A hp env loc e2 (kw, false))
    (hk : autoParam (env.kindOf "_law_closed" = some .globalImplicit) AC.aux0._auto_1) (he : autoParam (eval (.Call (.Name "_law_closed" px) [e1, e2] [] pos) env = (do callWith pos (← eval (.Name "_law_closed" px) env) [] (argsOf env [e1, e2]) [])) AC.aux0._auto_1) :
    PE C A hp env loc (.Call (.Name "_law_closed" px) [e1, e2] [] pos) (.bool true, false) :=
  PE_Def (pvs := vals [.ref t, kw]) hf hg (.cons h1 (.cons h2 .nil)) (fun xs hx => by
    obtain rfl := hx.vals
    exact closed_fn T hf hA hroom hr) hk he
end
end
section
section
variable {C : Cf} {A : Around} {s s' : Shared} {F F' G : FH} {env : Env} {E : Value → Shared → Prop} {hp hp' : HP} {loc : PL} {σ : ASt}
theorem last_ky (bl : Bool) (ws : List (List Nat)) (p : List Nat) : lastW ws (fL (kyC bl)) (fL (kyC bl) p) = lastW ws (fL (rdC bl)) (fL (rdC bl) p) := by
  cases bl with
  | false => rfl
  | true =>
    unfold lastW
    congr 1
    funext w
    exact decide_eq_decide.mpr (low_great_iff (a := w) (b := p)).symm
theorem due_ky (bl : Bool) (ws : List (List Nat)) (t : List Nat) (n : Nat) : dueL (kyC bl) 3 ws t n = dueL (rdC bl) 3 ws t n := by
  unfold dueL dueAt
  congr 1
  funext i
  congr 1
  funext L
  rw [last_ky]
noncomputable def restD (D : List (List Nat × Nat)) (p : Nat) : List (List Nat × Nat) := (D.filter fun e => decide (p ≤ e.2)).map fun e => (e.1, e.2 - p)
theorem restD_append (a b : List (List Nat × Nat)) (p : Nat) : restD (a ++ b) p = restD a p ++ restD b p := by unfold restD; rw [List.filter_append, List.map_append]
theorem restD_flat {α : Type} (l : List α) (g : α → List (List Nat × Nat)) (p : Nat) : restD (l.flatMap g) p = l.flatMap fun a => restD (g a) p := by
  induction l with
  | nil => rfl
  | cons a l ih => rw [List.flatMap_cons, restD_append, ih, List.flatMap_cons]
theorem restD_none {D : List (List Nat × Nat)} {p : Nat} (h : ∀ e ∈ D, e.2 < p) : restD D p = [] := by
  unfold restD
  rw [List.filter_eq_nil_iff.mpr fun e he => by simpa using h e he]; rfl
theorem dueQ_place {f : Nat → Nat} {ws : List (List Nat)} {t : List Nat} {e : Nat} {l : List Nat} (h : ∀ L ∈ l, 1 ≤ L ∧ L ≤ e) {x : List Nat × Nat} (hx : x ∈ dueQ f ws t e l) : x.2 < e := by
  unfold dueQ at hx
  obtain ⟨L, hL, hx⟩ := List.mem_filterMap.mp hx
  obtain ⟨w, _, rfl⟩ := Option.map_eq_some_iff.mp hx
  obtain ⟨h1, h2⟩ := h L hL
  show e - L < e
  omega
theorem desc_ge {m j : Nat} (h : j ∈ desc m) : 1 ≤ j := by
  rw [desc_range] at h
  obtain ⟨i, hi, rfl⟩ := List.mem_map.mp h
  have := List.mem_range.mp hi
  omega
theorem desc_filter (m k : Nat) : (desc m).filter (fun j => decide (j ≤ k)) = desc (min m k) := by
  induction m with
  | zero => simp [desc]
  | succ m ih =>
    rw [desc, List.filter_cons]
    by_cases h : m + 1 ≤ k
    · rw [decide_eq_true h, if_pos rfl, ih, Nat.min_eq_left h, Nat.min_eq_left (Nat.le_of_succ_le h), desc]
    · rw [decide_eq_false h, if_neg (by simp), ih, Nat.min_eq_right (Nat.le_of_lt_succ (Nat.lt_of_not_le h)), Nat.min_eq_right (Nat.le_succ_of_le (Nat.le_of_lt_succ (Nat.lt_of_not_le h)))]
theorem dueQ_cut (f : Nat → Nat) (ws : List (List Nat)) (t : List Nat) (p e : Nat) : ∀ l : List Nat, (∀ L ∈ l, L ≤ p + e) → restD (dueQ f ws t (p + e) l) p = dueQ f ws (t.drop p) e (l.filter fun L => decide (L ≤ e))
  | [], _ => rfl
  | L :: l, h => by
    have ih := dueQ_cut f ws t p e l fun j hj => h j (List.mem_cons_of_mem _ hj)
    have h1 := h L List.mem_cons_self
    have hc : ∀ (t : List Nat) (e : Nat) (l : List Nat), dueQ f ws t e (L :: l) = ((lastW ws (fL f) (fL f ((t.drop (e - L)).take L))).map fun w => (w, e - L)).toList ++ dueQ f ws t e l := fun t e l => by
      unfold dueQ
      rw [List.filterMap_cons]
      cases lastW ws (fL f) (fL f ((t.drop (e - L)).take L)) <;> rfl
    rw [hc, restD_append, ih]
    by_cases q : L ≤ e
    · rw [List.filter_cons, decide_eq_true q, if_pos rfl, hc, List.drop_drop, ← Nat.add_sub_assoc q p]
      congr 1
      cases lastW ws (fL f) (fL f ((t.drop (p + e - L)).take L)) with
      | none => rfl
      | some w =>
        show restD [(w, p + e - L)] p = [(w, e - L)]
        unfold restD
        rw [List.filter_cons, decide_eq_true (show p ≤ p + e - L from (Nat.add_sub_assoc q p).symm ▸ Nat.le_add_right p (e - L)), if_pos rfl]
        show [(w, p + e - L - p)] = _
        rw [Nat.add_sub_assoc q p, Nat.add_sub_cancel_left]
    · rw [List.filter_cons, decide_eq_false q, if_neg (by simp)]
      have : restD ((lastW ws (fL f) (fL f ((t.drop (p + e - L)).take L))).map fun w => (w, p + e - L)).toList p = [] := restD_none fun x hx => by
        cases z : lastW ws (fL f) (fL f ((t.drop (p + e - L)).take L)) with
        | none => rw [z] at hx; cases hx
        | some w =>
          rw [z] at hx
          obtain rfl : x = (w, p + e - L) := List.mem_singleton.mp hx
          show p + e - L < p
          omega
      rw [this]; rfl
theorem due_rest (f : Nat → Nat) (ws : List (List Nat)) (t : List Nat) {p : Nat} (hp : p ≤ t.length) : dueL f 3 ws (t.drop p) (t.drop p).length = restD (dueL f 3 ws t t.length) p := by
  obtain ⟨n, hn⟩ : ∃ n, t.length = p + n := ⟨t.length - p, by omega⟩
  have e1 : (t.drop p).length = n := by rw [List.length_drop]; omega
  rw [e1, hn]
  have key : ∀ n, restD (dueL f 3 ws t (p + n)) p = dueL f 3 ws (t.drop p) n := by
    intro n
    induction n with
    | zero =>
      show restD (dueL f 3 ws t p) p = []
      unfold dueL
      rw [restD_flat]
      refine List.flatMap_eq_nil_iff.mpr fun i hi => restD_none fun x hx => ?_
      have hi := List.mem_range.mp hi
      have : x.2 < i + 1 := dueQ_place (f := f) (ws := ws) (t := t) (l := desc (min (i + 1) 3)) (fun L hL => ⟨desc_ge hL, by have := desc_le hL; omega⟩) hx
      omega
    | succ n ih =>
      rw [← Nat.add_assoc, dueL_succ, restD_append, ih, dueL_succ, Nat.add_assoc, dueQ_cut f ws t p (n + 1) _ (fun L hL => by have := desc_le hL; omega), desc_filter]
      rw [Nat.min_right_comm, Nat.min_eq_right (Nat.le_add_left (n + 1) p)]
  exact (key n).symm
theorem restD_map (D : List (List Nat × Nat)) (p : Nat) : (restD D p).map pairS = (D.filter fun e => decide (p ≤ e.2)).map fun e => .tup [sS e.1, iN (e.2 - p)] := by unfold restD; rw [List.map_map]; rfl
theorem restD_mem {D : List (List Nat × Nat)} {e : List Nat × Nat} (h : e ∈ D) : restD D e.2 ≠ [] := fun z => by
  have : (e.1, e.2 - e.2) ∈ restD D e.2 := List.mem_map.mpr ⟨e, List.mem_filter.mpr ⟨h, decide_eq_true (Nat.le_refl _)⟩, rfl⟩
  rw [z] at this; cases this
theorem restD_len (D : List (List Nat × Nat)) (p : Nat) : (restD D p).length ≤ D.length := by unfold restD; rw [List.length_map]; exact List.length_filter_le _ _
theorem due_place {f : Nat → Nat} {ws : List (List Nat)} {t : List Nat} {n : Nat} {x : List Nat × Nat} (hx : x ∈ dueL f 3 ws t n) : x.2 < n := by
  unfold dueL at hx
  obtain ⟨i, hi, hx⟩ := List.mem_flatMap.mp hx
  have hi := List.mem_range.mp hi
  have : x.2 < i + 1 := dueQ_place (f := f) (ws := ws) (t := t) (l := desc (min (i + 1) 3)) (fun L hL => ⟨desc_ge hL, by have := desc_le hL; omega⟩) hx
  omega
noncomputable def numsOf (d : List Int) (m : Nat) (ns : List Int) : List Int := (ns ++ d.drop ns.length).take m
theorem nums_len (d : List Int) (m : Nat) (ns : List Int) : (numsOf d m ns).length ≤ m := by unfold numsOf; rw [List.length_take]; omega
theorem nums_ge {d : List Int} {m : Nat} (ns : List Int) (h : d.length ≤ m) : d.length ≤ (numsOf d m ns).length := by unfold numsOf; rw [List.length_take, List.length_append, List.length_drop]; omega
theorem nums_cut (d : List Int) (m : Nat) (ns : List Int) : cutL (ns.map AV.int ++ cutL (d.map AV.int) (some ((ns.map AV.int).length : Int)) none) none (some (m : Int)) = (numsOf d m ns).map AV.int := by
  rw [cutL_from, cutL_upto, List.length_map]
  unfold numsOf
  rw [List.map_take, List.map_append, List.map_drop]
noncomputable def sgO (z : Int) : Nat := ([97, 98, 65, 66] : List Nat).getD (z.fmod 4).toNat 97
theorem sgO_ab (z : Int) : sgO z = 97 ∨ sgO z = 98 ∨ sgO z = 65 ∨ sgO z = 66 := by
  unfold sgO
  obtain ⟨k, h1, h2⟩ := fmodN z 4 (by decide)
  have h1 : z.fmod 4 = (k : Int) := h1
  rw [h1, Int.toNat_natCast]
  match k, h2 with
  | 0, _ => exact .inl rfl
  | 1, _ => exact .inr (.inl rfl)
  | 2, _ => exact .inr (.inr (.inl rfl))
  | 3, _ => exact .inr (.inr (.inr rfl))
theorem sgO_at (z : Int) : ∃ k : Nat, z.fmod 4 = (k : Int) ∧ ([97, 98, 65, 66] : List Nat)[k]? = some (sgO z) := by
  obtain ⟨k, h1, h2⟩ := fmodN z 4 (by decide)
  have h1 : z.fmod 4 = (k : Int) := h1
  refine ⟨k, h1, ?_⟩
  unfold sgO
  rw [h1, Int.toNat_natCast]
  match k, h2 with
  | 0, _ => rfl
  | 1, _ => rfl
  | 2, _ => rfl
  | 3, _ => rfl
noncomputable def textK (nl : List Int) : List Nat := ((nl.take 6).map fun n => [sgO n, sgO (n.fdiv 4)]).flatten
theorem textK_ab (nl : List Int) : Ab (textK nl) := fun c hc => by
  obtain ⟨l, hl, hc⟩ := List.mem_flatten.mp hc
  obtain ⟨n, _, rfl⟩ := List.mem_map.mp hl
  rcases List.mem_cons.mp hc with rfl | hc
  · exact sgO_ab _
  · rw [List.mem_singleton.mp hc]; exact sgO_ab _
theorem textK_len (nl : List Int) : (textK nl).length = 2 * (nl.take 6).length := by
  unfold textK
  induction nl.take 6 with
  | nil => rfl
  | cons n l ih => rw [List.map_cons, List.flatten_cons, List.length_append, ih, List.length_cons, List.length_cons, List.length_cons, List.length_nil]; omega
end
end
section
section
variable {C : Cf} {A : Around} {s s' : Shared} {F F' G : FH} {env : Env} {E : Value → Shared → Prop} {hp hp' : HP} {loc : PL} {σ : ASt}
theorem PE_sg {e2 : Expr} {k : Nat} {p0 p1 p2 p3 : Pos} {z : Int} (h2 : PE C A hp env loc e2 (.int z, false)) : PE C A hp env loc (.Subscript (.Constant (.str "abAB") k p0) (.BinOp e2 .Mod (.Constant (.int 4) k p1) p2) p3) (sS [sgO z], false) := by
  obtain ⟨i, h3, h4⟩ := sgO_at z
  exact PE_Sub (PE.eqv PE_str (b := sS [97, 98, 65, 66]) (by kernel_rfl)) (PE.eqv (PE_Bin h2 PE_int (b_mod (by decide))) (congrArg AV.int h3)) (s_str h4 (by decide))
open Classical in
theorem law12_a (T : TpK C) {r : FdRest} {L f : Addr} (hA : A.handled = none) (hu : A.units ≤ 9000) (pl : PlA C A) {ns : List Int} {Q : AFlow → ASt → Prop} (hlen : ns.length ≤ 63)
    (h : ∀ (nl : List Int) (bl : Bool) (t : List Nat), 6 ≤ nl.length → nl.length ≤ 12 → Ab t → t.length = 12 → Exs C A NoE (lenv r L f) (lawP.body.drop 3) ⟨[("numbers", lstI nl), ("blind", .bool bl), ("text", sS t)], hp⟩ Q) :
    Exs C A NoE (lenv r L f) lawP.body ⟨[("script", lstI ns)], hp⟩ Q := by
  have hz : (cutL [AV.int 4, AV.int 1, AV.int 20, AV.int 36, AV.int 49, AV.int 20] (some ((ns.map AV.int).length : Int)) none).length ≤ 6 := cutL_len _ _ _
  have hz1 : (ns.map AV.int).length ≤ 63 := by rw [List.length_map]; exact hlen
  have hl1 : 6 ≤ (numsOf [4, 1, 20, 36, 49, 20] 12 ns).length := nums_ge (d := [4, 1, 20, 36, 49, 20]) ns (by decide)
  have hl2 := nums_len [4, 1, 20, 36, 49, 20] 12 ns
  refine Exs_cons ?_
  refine Ex_let [] (lstI (numsOf [4, 1, 20, 36, 49, 20] 12 ns)) (PE.eqv (PE_Slice (PE_Bin (PE_Name rfl) (PE_Slice (PE_List [.int 4, .int 1, .int 20, .int 36, .int 49, .int 20] (.cons PE_int (.cons PE_int (.cons PE_int (.cons PE_int (.cons PE_int (.cons PE_int .nil)))))) (by decide)) (part_int (PE_Call T.x.t.g_len (.cons (PE_Name rfl) .nil) (k_len (by omega)))) part_no part_no (PSl_lst (by decide))) (b_addL (by omega))) part_no (part_int PE_int) part_no (PSl_lst (by rw [List.length_append]; omega))) (congrArg AV.lst (nums_cut [4, 1, 20, 36, 49, 20] 12 ns))) ?_
  generalize numsOf [4, 1, 20, 36, 49, 20] 12 ns = nl at hl1 hl2
  obtain ⟨n0, l, e3⟩ : ∃ n0 l, nl = n0 :: l := by
    cases nl with
    | nil => exact absurd hl1 (by decide)
    | cons a l => exact ⟨a, l, rfl⟩
  have lN : (nl.map AV.int).length ≤ 100000 := by rw [List.length_map]; omega
  have g0 : (nl.map AV.int)[(0 : Int).toNat]? = some (.int n0) := by rw [e3]; rfl
  refine Exs_cons (Ex_let [] (.bool (decide (AV.int (n0.fmod 2) = AV.int 1))) (PE_Cmp (PE_Bin (PE_Sub (PE_Name rfl) PE_int (s_item (by decide) g0 lN)) PE_int (b_mod (by decide))) PE_int (c_eq (.int _) (.int _) (Dp.int _ _) hu)) ?_)
  generalize decide (AV.int (n0.fmod 2) = AV.int 1) = bl
  have htk : (nl.take 6).length = 6 := by rw [List.length_take]; omega
  have htl : (textK nl).length = 12 := by rw [textK_len, htk]
  refine Exs_cons (Ex_let [] (sS (textK nl)) (PE_join (ls := (nl.take 6).map fun n => [sgO n, sgO (n.fdiv 4)]) (PE.eqv PE_str (by kernel_rfl)) (PE.eqv (PE_LC (PCm_map (nl.take 6) .int (fun n => sS [sgO n, sgO (n.fdiv 4)]) ((PI_val hA (PE_Slice (PE_Name rfl) part_no (part_int PE_int) part_no (PSl_lst lN)) .lst).eq (by rw [cutL_map]; exact congrArg (List.map AV.int) (cutL_upto nl 6))) (by omega) fun Lc n hn => PE_Bin (PE_sg (PE_Name rfl)) (PE_sg (PE_Bin (PE_Name rfl) PE_int (b_fdiv pl (by decide)))) (b_addS (Nat.le_of_ble_eq_true rfl)))) (congrArg AV.lst (by rw [List.map_map]; rfl))) (by rw [← List.length_flatten]; show (textK nl).length ≤ _; omega)) ?_)
  exact Exs_weak (locle_cons rfl (locle_cons rfl (locle_cons rfl (locle_nil)))) (h nl bl (textK nl) hl1 hl2 (textK_ab nl) htl)
noncomputable def wdO (t : List Nat) (n : Int) : List Nat := (t.drop (n.fmod 12).toNat).take (((n.fdiv 5).fmod 3).toNat + 1)
theorem wdO_ab {t : List Nat} (h : Ab t) (n : Int) : Ab (wdO t n) := h.cut _ _
theorem wdO_len (t : List Nat) (n : Int) : (wdO t n).length ≤ 3 := by
  obtain ⟨k, h1, h2⟩ := fmodN (n.fdiv 5) 3 (by decide)
  have h1 : (n.fdiv 5).fmod 3 = (k : Int) := h1
  unfold wdO
  rw [List.length_take, h1, Int.toNat_natCast]; omega
theorem cutN_from (t : List Nat) (a : Nat) : cutN t (some a) none = t.drop a := by
  unfold cutN
  show (t.drop a).take (t.length - a) = _
  rw [List.take_of_length_le (by rw [List.length_drop]; exact Nat.le_refl _)]
theorem cutN_upto (t : List Nat) (b : Nat) : cutN t none (some b) = t.take b := rfl
noncomputable def wsO (t : List Nat) (nl : List Int) : List (List Nat) := (nl.drop (nl.length - 3)).map (wdO t)
theorem law12_b (T : TpK C) {r : FdRest} {L f : Addr} (hA : A.handled = none) (pl : PlA C A) {nl : List Int} {bl : Bool} {t : List Nat} {Q : AFlow → ASt → Prop} (h1 : 6 ≤ nl.length) (h2 : nl.length ≤ 12) (h3 : Ab t) (h4 : t.length = 12)
    (h : ∀ ws : List (List Nat), (∀ w ∈ ws, Ab w ∧ w.length ≤ 3) → ws.length ≤ 4 → Exs C A NoE (lenv r L f) (lawP.body.drop 5) ⟨[("numbers", lstI nl), ("blind", .bool bl), ("text", sS t), ("words", wsV ws)], hp⟩ Q) :
    Exs C A NoE (lenv r L f) (lawP.body.drop 3) ⟨[("numbers", lstI nl), ("blind", .bool bl), ("text", sS t)], hp⟩ Q := by
  have lN : (nl.map AV.int).length ≤ 100000 := by rw [List.length_map]; omega
  have hz : t.length ≤ 100000 := by omega
  have hd3 : (nl.drop (nl.length - 3)).length = 3 := by rw [List.length_drop]; omega
  have hcut : cutL (nl.map AV.int) (some (-3)) none = (nl.drop (nl.length - 3)).map AV.int := by
    rw [cutL_map]
    unfold cutL
    rw [show (some (-3 : Int)).elim 0 (clipAt nl.length) = nl.length - 3 from clipAt_neg nl.length 3 (by decide)]
    show (List.take (nl.length - (nl.length - 3)) (nl.drop (nl.length - 3))).map AV.int = _
    rw [List.take_of_length_le (by rw [List.length_drop]; exact Nat.le_refl _)]
  refine Exs_cons (Ex_letC [] ((wsO t nl).map sS) (PCm.eq (PCm_map (nl.drop (nl.length - 3)) .int (fun n => sS (wdO t n)) ((PI_val hA (PE_Slice (PE_Name rfl) (part_int (PE_neg PE_int)) part_no part_no (PSl_lst lN)) .lst).eq hcut) (by omega) fun Lc n hn => ?_) (by unfold wsO; rw [List.map_map]; rfl)) ?_)
  · obtain ⟨a, ha1, ha2⟩ := fmodN n 12 (by decide)
    obtain ⟨k, hk1, hk2⟩ := fmodN (n.fdiv 5) 3 (by decide)
    have ha1 : n.fmod 12 = (a : Int) := ha1
    have hk1 : (n.fdiv 5).fmod 3 = (k : Int) := hk1
    refine PE.eqv (PE_Slice (PE_Slice (PE_Name rfl) (part_int (PE.eqv (PE_Bin (PE_Name rfl) PE_int (b_mod (by decide))) (congrArg AV.int ha1))) part_no part_no (PSl_str (lo := some a) (hi := none) hz)) part_no (part_int (PE.eqv (PE_Bin (PE_Bin (PE_Bin (PE_Name rfl) PE_int (b_fdiv pl (by decide))) PE_int (b_mod (by decide))) PE_int b_add) (b := iN (k + 1)) (congrArg AV.int (by rw [hk1]; simp)))) part_no (PSl_str (lo := none) (hi := some (k + 1)) ?_)) ?_
    · rw [cutN_from, List.length_drop]; omega
    · refine congrArg sS ?_
      unfold wdO
      rw [ha1, hk1, Int.toNat_natCast, Int.toNat_natCast, cutN_from, cutN_upto]
  have hwl : (wsO t nl).length = 3 := by unfold wsO; rw [List.length_map]; exact hd3
  have hw : ∀ w ∈ wsO t nl, Ab w ∧ w.length ≤ 3 := fun w hw' => by
    unfold wsO at hw'
    obtain ⟨n, _, rfl⟩ := List.mem_map.mp hw'
    exact ⟨wdO_ab h3 n, wdO_len t n⟩
  generalize wsO t nl = ws at hwl hw
  have hzw : (ws.map sS).length ≤ 100000 := by rw [List.length_map]; omega
  refine Exs_cons (Ex_if [] (b := bl) (PB_plain (PE_Name rfl) t_bool) (fun q => ?_) (fun q => ?_))
  · refine Exs_cons (Ex_let [] (wsV (ws.take 1 ++ ws.map turnL)) (PE.eqv (PE_Bin (PE_Slice (PE_Name rfl) part_no (part_int PE_int) part_no (PSl_lst (hi := some 1) hzw)) (PE_LC (PCm_map ws sS (fun w => sS (turnL w)) (PI_val hA (PE_Name rfl) .lst) (by omega) fun Lc w hw' => ?_)) (b_addL ?_)) ?_) (Exs_nil ?_))
    · exact PE.eqv (PE_join (ls := w.map fun c => [turnC c]) (PE.eqv PE_str (by kernel_rfl)) (PE.eqv (PE_LC (PCm_map w (fun c => sS [c]) (fun c => sS [turnC c]) ((PI_val hA (PE_Name rfl) .str).eq (charsS w)) (by have := (hw w hw').2; omega) fun Lc c hc => PE_other T ((hw w hw').1 c hc) (PE_Name rfl))) (congrArg AV.lst (by rw [List.map_map]; rfl))) (by rw [sum_sing]; have := (hw w hw').2; omega)) (congrArg sS (flat_sing _ _))
    · have := cutL_len (ws.map sS) none (some 1)
      rw [List.length_map] at this ⊢; omega
    · refine congrArg AV.lst ?_
      rw [show (some 1 : Option Int) = some ((1 : Nat) : Int) from rfl, cutL_upto, List.map_append, List.map_take, List.map_map]
      rfl
    · refine Exs_weak (locle_cons rfl (locle_cons rfl (locle_cons rfl (locle_cons rfl (locle_nil))))) (h _ (fun w hw' => ?_) ?_)
      · rcases List.mem_append.mp hw' with hw' | hw'
        · exact hw w (List.mem_of_mem_take hw')
        · obtain ⟨u, hu, rfl⟩ := List.mem_map.mp hw'
          exact ⟨(hw u hu).1.turn, by rw [List.length_map]; exact (hw u hu).2⟩
      · rw [List.length_append, List.length_take, List.length_map]; omega
  · exact Exs_nil (Exs_weak (locle_cons rfl (locle_cons rfl (locle_cons rfl (locle_cons rfl (locle_nil))))) (h ws hw (by omega)))
end
end
section
section
variable {C : Cf} {A : Around} {s s' : Shared} {F F' G : FH} {env : Env} {E : Value → Shared → Prop} {hp hp' : HP} {loc : PL} {σ : ASt}
theorem law12_t (T : TpX C) {rr : FdRest} {L f : Addr} (hA : A.handled = none) (hroom : A.depth + 40 < recursionLimit) {nl : List Int} {bl : Bool} {t : List Nat} {ws : List (List Nat)} {Q : AFlow → ASt → Prop} (hw : ∀ w ∈ ws, Ab w ∧ w.length ≤ 3) (hl : ws.length ≤ 4)
    (h : ∀ (e : TI) (hp' : HP), e.ok hp' → e.fin = true → e.ci = bl → e.ws = ws.map (wrdF (rdC bl)) → Exs C A NoE (lenv rr L f) (lawP.body.drop 8) ⟨([("numbers", lstI nl), ("blind", .bool bl), ("text", sS t), ("words", wsV ws), ("tree", .ref e.t)] : List (Str × AV)), hp'⟩ Q) :
    Exs C A NoE (lenv rr L f) (lawP.body.drop 5) ⟨([("numbers", lstI nl), ("blind", .bool bl), ("text", sS t), ("words", wsV ws)] : List (Str × AV)), hp⟩ Q := by
  refine Exs_cons (Ex_Assign_Name (Ev_Call (Ev_GRef T.g_Tree (EvL_0 (EvA_e (Ev_Name rfl (EvA_0 (CallA_cls T.t.mkT ((forest_new T.t (by omega) (.inl rfl) Forest.nil).mono fun v0 hp0 ⟨e0, q1, q2, q3, q4, q5, q6⟩ => ?_)))))))))
  subst q1
  refine Exs_cons ?_
  refine Ex_for [] (fun xs loc hp' => ∃ done rest e, ws = done ++ rest ∧ e.fin = false ∧ e.ci = bl ∧ e.ws = done.map (wrdF (rdC bl)) ∧ Forest [e] hp' ∧ xs = rest.map sS ∧ loc = ([("numbers", lstI nl), ("blind", .bool bl), ("text", sS t), ("words", wsV ws), ("tree", .ref e.t)] : List (Str × AV)))
    (PI_val hA (PE_Name rfl) .lst) ⟨([("numbers", lstI nl), ("blind", .bool bl), ("text", sS t), ("words", wsV ws), ("tree", .ref e0.t)] : List (Str × AV)), (locle_cons rfl (locle_cons rfl (locle_cons rfl (locle_cons rfl (locle_cons rfl (locle_nil)))))), [], ws, e0, rfl, q2, q4, q3, q5, rfl, rfl⟩ ?_ ?_
  · (rintro x xs loc hp'; intro zr; obtain ⟨done, rest, e, e1, e2, e3, e4, e5, e7, rfl⟩ := zr)
    cases rest with
    | nil => cases e7
    | cons w rest =>
      cases e7
      obtain ⟨hw1, hw2⟩ := hw w (by rw [e1]; simp)
      have hs : 1 + sumL e.ws + (wrdF (rdC bl) w).1.length ≤ 4000 := by
        have h1 := sum_le List.length 3 done (fun u hu => (hw u (by rw [e1]; exact List.mem_append_left _ hu)).2)
        have h2 := congrArg List.length e1
        rw [List.length_append] at h2
        rw [e4, sumL_F]
        show 1 + _ + (symsS (fL (rdC bl) w)).length ≤ 4000
        rw [symsS_len, List.length_map]; omega
      refine Asg_Name ?_
      refine Exs_cons (Ex_Expr (Ev_Meth (Ev_Name rfl ?_)))
      refine meth_tree T.t.m_add (e5.ok e (by simp)).rep ?_
      refine EvL_e (Ev_Name rfl (EvL_0 (EvA_0 ?_)))
      obtain ⟨ra, hfa⟩ := T.t.f_add
      refine CallA_fn hfa ((forest_add T.t (l := [e]) (j := 0) (w := wrdF (rdC bl) w) hA (by omega) e5 rfl e2 (by rw [e3]; exact wok_F bl hw1.asc (by omega)) hs).mono fun v hp2 hq => ?_)
      obtain ⟨_, e', k1, k2, k3, k4, k5, k6⟩ := hq
      exact Exs_nil ⟨([("numbers", lstI nl), ("blind", .bool bl), ("text", sS t), ("words", wsV ws), ("tree", .ref e.t)] : List (Str × AV)), (locle_cons rfl (locle_cons rfl (locle_cons rfl (locle_cons rfl (locle_cons rfl (locle_nil)))))), done ++ [w], rest, e', by rw [e1]; simp, k2, by rw [k4, e3], by rw [k3, e4]; simp, k5, rfl, by rw [k1]⟩
  · (rintro loc hp'; intro zr; obtain ⟨done, rest, e, e1, e2, e3, e4, e5, e7, rfl⟩ := zr)
    have hr0 : rest = [] := by simpa using e7.symm
    subst hr0
    rw [List.append_nil] at e1
    subst e1
    have hwl : ∀ w ∈ e.ws, w.1.length ≤ 3 := fun w hw' => by
      rw [e4] at hw'
      obtain ⟨u, hu, rfl⟩ := List.mem_map.mp hw'
      show (symsS (fL (rdC bl) u)).length ≤ 3
      rw [symsS_len, List.length_map]; exact (hw u hu).2
    refine Exs_cons (Ex_Expr (Ev_Meth (Ev_Name rfl ?_)))
    refine meth_tree T.t.m_fin (e5.ok e (by simp)).rep ?_
    refine EvL_0 (EvA_0 ?_)
    obtain ⟨ra, hfa⟩ := T.t.f_fin
    refine CallA_fn hfa ((forest_fin T.t (l := [e]) (j := 0) (N := 3) hA (by omega) e5 rfl e2 (by rw [e4, sumL_F]; have := sum_le List.length 3 ws (fun w h => (hw w h).2); omega) hwl).mono fun v hp2 hq => ?_)
    obtain ⟨_, e', k1, k2, k3, k4, k5, k6⟩ := hq
    rw [← k1]
    exact Exs_weak (locle_cons rfl (locle_cons rfl (locle_cons rfl (locle_cons rfl (locle_cons rfl (locle_nil)))))) (h e' hp2 (k5.ok e' (by simp)) k2 (by rw [k4, e3]) (by rw [k3, e4]))
theorem Ev_search (T : TpX C) {o arg : Expr} {apos pos : Pos} {e : TI} {x : AV} {w : Path} {Q : AV → ASt → Prop} (hroom : A.depth + 1 < recursionLimit) (ok : e.ok σ.hp) (hf : e.fin = true)
    (ho : ∀ Q', Q' (.ref e.t) σ → Ev C A E env o σ Q') (ha : ∀ Q', Q' [x] σ → EvL C A E env (backTo pos (starEach [arg] env)) σ Q') (hsq : SeqW σ.hp e.ci (x, false) (w.map Sym.av))
    (q : ∀ ga N hp', (∀ b, σ.hp b ≠ none → hp' b = σ.hp b) → Rep e.X e.t e.d true e.ci hp' → Sch C e.X e.t e.d hp' ga (fnds (keyOf e.ws) [] w) N → (∀ b, N b → σ.hp b = none) → Q (.ref ga) ⟨σ.loc, hp'⟩)
    (hb : autoParam (attributeBase o "search_all" env (eval o env) = eval o env) AC.aux0._auto_1) (hl' : autoParam (apos.endLine = pos.line) AC.aux0._auto_1)
    (hform : autoParam (methodCallForm ([arg].length + ([] : List Keyword).length) (backTo pos (starEach [arg] env)) (backToKw pos (keywordEach [] env)) = true) AC.aux0._auto_1) (hp2 : autoParam ((backTo pos (starEach [arg] env)).all (!·.1) = true) AC.aux0._auto_1) :
    Ev C A E env (.Call (.Attribute o "search_all" apos) [arg] [] pos) σ Q := by
  have hr := ok.rep
  rw [hf] at hr
  obtain ⟨r0, hfn⟩ := T.t.f_all
  obtain ⟨x2, lo, hsx⟩ := hsq x (.val .nil)
  refine Ev_Meth (ho _ (meth_tree T.t.m_all hr (ha _ (EvA_0 (CallA_fn hfn ((all_fn T.t (tv := x) hroom hr lo).mono fun v hp' hq => ?_)))))) hb hl' hform hp2
  obtain ⟨r, L, ga, g, rfl, hF, h1, h2, hk⟩ := hq
  have nf : ∀ {a}, σ.hp a = none → ¬ Fp e.X e.t e.d a := fun e hf => hr.some hf e
  rw [← key_fun ok] at q
  refine q ga _ hp' hk (hr.off fun a ha => hk a (hr.some ha)) (Sch.fresh hF (hsx.keep fun l zs hl => (hk l (by rw [hl]; exact fun z => nomatch z)).trans hl) (fun l e => ?_) (nf h2) (nf h1)) fun a ha => ?_
  · subst e
    cases hsx
  · rcases ha with rfl | rfl
    · exact h2
    · exact h1
end
end
section
section
variable {C : Cf} {A : Around} {s s' : Shared} {F F' G : FH} {env : Env} {E : Value → Shared → Prop} {hp hp' : HP} {loc : PL} {σ : ASt}
theorem PE_AndT {x y : Expr} {pos : Pos} {pv : PV} (h1 : PE C A hp env loc x (.bool true, false)) (h2 : PE C A hp env loc y pv) : PE C A hp env loc (.BoolOp .And [x, y] pos) pv := .mk fun F s E c => by
  refine BoolOp_and (h1.use c fun F₁ s₁ v st c₁ r => wpAny_mono (t_bool F₁ s₁ E v c₁.wp r) (fun b s₂ q => ?_) fun zu zu x => x)
  obtain ⟨F₂, st2, rfl⟩ := q
  exact BoolOp_one (wpAny_mono (h2.go F₂ s₂ E (c₁.step st2)) (fun zu zu q => (q.pre st2).pre st) fun zu zu x => x)
theorem fnds_ky {ws : List (List Nat)} {bl : Bool} (hw : ∀ w ∈ ws, Ab w ∧ w.length ≤ 3) (t : List Nat) : fnds (keyOf (ws.map (wrdF (rdC bl)))) [] (symsS (fL (rdC bl) t)) = (dueL (kyC bl) 3 ws t t.length).map pairS := by
  rw [due_ky]; exact fnds_due (fun w h => (hw w h).2) rfl
theorem law12_l (T : TpK C) {fk : Addr} {rk : FdRest} (hkf : FnAt C fk (rk.fd keyP .none)) (hgk : GL C "_law_key" (.ref fk)) {fd : Addr} {rd : FdRest} (hdf : FnAt C fd (rd.fd dueP .none)) (hgd : GL C "_law_due" (.ref fd)) {fc : Addr} {rc : FdRest} (hcf : FnAt C fc (rc.fd closedP .none)) (hgc : GL C "_law_closed" (.ref fc))
    {rr : FdRest} {L f : Addr} (hA : A.handled = none) (hu : A.units ≤ 9000) (hroom : A.depth + 40 < recursionLimit) {nl : List Int} {bl : Bool} {t : List Nat} {ws : List (List Nat)} {e : TI} {Q : AFlow → ASt → Prop} (hn1 : 6 ≤ nl.length) (hn2 : nl.length ≤ 12) (ht : Ab t) (htl : t.length = 12) (hw : ∀ w ∈ ws, Ab w ∧ w.length ≤ 3) (hl : ws.length ≤ 4) (ok : e.ok hp) (hf : e.fin = true) (hci : e.ci = bl) (hws : e.ws = ws.map (wrdF (rdC bl)))
    (h : ∀ σ, Q (.ret (.bool true)) σ) :
    Exs C A NoE (lenv rr L f) (lawP.body.drop 8) ⟨([("numbers", lstI nl), ("blind", .bool bl), ("text", sS t), ("words", wsV ws), ("tree", .ref e.t)] : List (Str × AV)), hp⟩ Q := by
  have hz : ∀ w ∈ e.ws, w.1.length ≤ 1000 := fun w hw' => by
    rw [hws] at hw'
    obtain ⟨u, hu', rfl⟩ := List.mem_map.mp hw'
    show (symsS (fL (rdC bl) u)).length ≤ 1000
    rw [symsS_len, List.length_map]
    have := (hw u hu').2
    omega
  have lN : (nl.map AV.int).length ≤ 100000 := by rw [List.length_map]; omega
  have hzt : t.length ≤ 100000 := by omega
  obtain ⟨n1, g1⟩ : ∃ n1, (nl.map AV.int)[(1 : Int).toNat]? = some (.int n1) := ⟨nl[1]'(by omega), by rw [List.getElem?_map]; show (nl[1]?).map _ = _; rw [List.getElem?_eq_getElem (by omega)]; rfl⟩
  have hfd : fnds (keyOf e.ws) [] (symsS (fL (rdC bl) t)) = (dueL (kyC bl) 3 ws t t.length).map pairS := by rw [hws]; exact fnds_ky hw t
  have hfr : ∀ p, p ≤ t.length → fnds (keyOf e.ws) [] (symsS (fL (rdC bl) (t.drop p))) = (restD (dueL (kyC bl) 3 ws t t.length) p).map pairS := fun p hp' => by
    rw [hws, fnds_ky hw (t.drop p), due_rest _ _ _ hp']
  have hdl := dueL_len (kyC bl) ws t t.length
  have hda := due_asc (f := kyC bl) (m := 3) (fun w hw' => (hw w hw').1.asc) t t.length
  have hpl' : ∀ x ∈ dueL (kyC bl) 3 ws t t.length, x.2 ≤ t.length := fun x hx => Nat.le_of_lt (due_place hx)
  refine Exs_cons (Ex_let [] (.lst ((dueL (kyC bl) 3 ws t t.length).map pairS)) (PE_DefS (pvs := vals [wsV ws, sS t, .bool bl]) hdf hgd (.cons (PE_Name rfl) (.cons (PE_Name rfl) (.cons (PE_Name rfl) .nil))) (fun xs hx => by obtain rfl := hx.vals; exact due_fn T hkf hgk hdf hA (by omega) (fun w hw' => ⟨(hw w hw').1, by have := (hw w hw').2; omega⟩) (by omega) ht (by omega))) ?_)
  generalize dueL (kyC bl) 3 ws t t.length = D at hfd hfr hdl hda hpl'
  have hdm : (D.map pairS).length ≤ 100000 := by rw [List.length_map]; omega
  have hpl := pln_pairs hda
  refine Exs_cons (Ex_Assign_Name (Ev_List (EvL_0 ⟨by decide, fun b hb => ?_⟩)))
  have hb : hp b = none := hb
  have nfp : ¬ e.fp b := fun q => ok.rep.some q hb
  have ok1 : e.ok (upd hp b (.list [])) := ok.off fun a ha => upd_ne _ _ (by rintro rfl; exact nfp ha)
  refine Exs_cons ?_
  refine Ex_forS T.x.t hA T.x.lim (by omega) (ok.ph3 hf) (ok.words hz) quiet_Name (ci := e.ci) (t := e.t) (d := e.d) (fun ga xs N loc hp => ∃ done : List (List Nat × Nat), D.map pairS = done.map pairS ++ xs ∧ loc = ([("numbers", lstI nl), ("text", sS t), ("tree", .ref e.t), ("due", .lst (D.map pairS)), ("found", .ref b)] : List (Str × AV)) ∧ e.ok hp ∧ Sch C e.X e.t e.d hp ga xs N ∧ hp b = some (.list (done.map pairS)) ∧ ¬ N b)
    (Ev_search T.x (by omega) ok1 hf (fun Q' q => Ev_Name rfl q) (fun Q' q => EvL_e (Ev_Name rfl (EvL_0 q))) (by rw [hci]; exact seq_F bl ht.asc (by omega)) fun ga N hp' k hr' hS hN => ⟨ga, _, N, rfl, ([("numbers", lstI nl), ("text", sS t), ("tree", .ref e.t), ("due", .lst (D.map pairS)), ("found", .ref b)] : List (Str × AV)), (locle_cons rfl (locle_cons rfl (locle_cons rfl (locle_cons rfl (locle_cons rfl (locle_nil)))))), [], hfd.symm, rfl, ok1.off fun a ha => k a (ok1.rep.some ha), hS, (k b (by show upd hp b (.list []) b ≠ none; rw [upd_self]; simp)).trans (upd_self _ _ _), fun q => by have := (upd_self hp b (.list [])).symm.trans (hN b q); cases this⟩) ?_ ?_ ?_
  · (rintro ga xs N loc hp; intro zr; obtain ⟨done, e1, rfl, ok2, hS, hb2, nb⟩ := zr)
    have hr := ok2.rep
    rw [hf] at hr
    exact ⟨hr, hS⟩
  · rintro ga x xs N loc hp hp' N' ⟨done, e1, rfl, ok2, hS, hb2, nb⟩ k1 k2 k3 k4
    obtain ⟨d1, d2, e2, e3, e4⟩ := List.map_eq_append_iff.mp e1
    cases d2 with
    | nil => cases e4
    | cons y d3 =>
    obtain ⟨e5, e6⟩ := List.cons.inj e4
    subst e5
    rw [← e3] at hb2
    obtain ⟨w, p⟩ := y
    have hy : (w, p) ∈ D := by rw [e2]; simp
    have hp12 : p ≤ t.length := hpl' _ hy
    have hr := ok2.rep
    rw [hf] at hr
    have ok3 : e.ok hp' := ok2.off fun a ha => k1 a (hr.some ha) (hS.sep hr ha)
    have hb3 : hp' b = some (.list (d1.map pairS)) := (k1 b (by rw [hb2]; simp) nb).trans hb2
    have nb' : ¬ N' b := fun q => (k4 b q).elim nb fun z => by rw [hb2] at z; cases z
    have hl1 : d1.length + 1 ≤ D.length := by rw [e2, List.length_append, List.length_cons]; omega
    have hD1 : 1 ≤ D.length := by omega
    have nfb : ∀ a, e.fp a → a ≠ b := fun a ha => by rintro rfl; exact nfp ha
    refine Asg_Name (Exs_cons (Ex_Expr (Ev_Meth (Ev_Name rfl (m_append hb3 (EvL_e (Ev_Name rfl (EvL_0 (EvA_0 (list_append hb3 (by rw [List.length_map]; omega) ?_))))))))))
    have hm : (d1.map pairS ++ [pairS (w, p)]) = (d1 ++ [(w, p)]).map pairS := by rw [List.map_append]; rfl
    rw [hm]
    have hml : ((d1 ++ [(w, p)]).map pairS).length = d1.length + 1 := by rw [List.length_map, List.length_append]; rfl
    have ok4 : e.ok (upd hp' b (.list ((d1 ++ [(w, p)]).map pairS))) := ok3.off fun a ha => upd_ne _ _ (nfb a ha)
    have hr4 := ok4.rep
    rw [hf] at hr4
    have hS4 : Sch C e.X e.t e.d (upd hp' b (.list ((d1 ++ [(w, p)]).map pairS))) ga xs N' := k3.off fun a ha => upd_ne _ _ (by rintro rfl; exact nb' ha)
    obtain ⟨c, hc1, hc2⟩ := fmodN ((d1.length + 1 : Nat) : Int) 12 (by decide)
    have hc1 : (((d1.length + 1 : Nat) : Int)).fmod 12 = (c : Int) := hc1
    refine Exs_cons (Ex_if [("found", (d1 ++ [(w, p)]).map pairS)] (b := false) (PB_not (PB_plain (PE_closed T.x hcf hgc (kw := sS (cutN (cutN t (some c) none) none (some 2))) hA (by omega) hr4 (PE_Name rfl) (PE_Slice (PE_Slice (PE_Name rfl) (part_int (PE.eqv (PE_Bin (PE_Call T.x.t.g_len (.cons (PE_Name rfl) .nil) (k_len (xs := (d1 ++ [(w, p)]).map pairS) (by omega))) PE_int (b_mod (by decide))) (congrArg AV.int (by rw [hml]; exact hc1)))) part_no part_no (PSl_str (lo := some c) (hi := none) hzt)) part_no (part_int PE_int) part_no (PSl_str (lo := none) (hi := some 2) (by rw [cutN_from, List.length_drop]; omega)))) t_bool)) (fun q => absurd q (by simp)) (fun _ => Exs_nil ?_) (OwnOk.cons rfl (upd_self _ _ _) OwnOk.nil))
    have hit : ∀ {hp : HP} {env : Env} {loc : PL} {e1 : Expr} {k : Nat} {p1 p2 : Pos}, PE C A hp env loc e1 (pairS (w, p), false) → PE C A hp env loc (.Subscript e1 (.Constant (.int 1) k p1) p2) (iN p, false) := fun h1 => PE_Sub h1 PE_int (s_tup (k := 1) (x := iN p) rfl (Nat.le_of_ble_eq_true rfl))
    refine Exs_cons (Ex_letC [] ((restD D p).map pairS) (PCm.eq (PCm_comp D pairS (fun y => pairS (y.1, y.2 - p)) (fun y => decide (p ≤ y.2)) (fun y => [("place", iN y.2), ("word", sS y.1)]) (PI_val hA (PE_Name rfl) .lst) (by omega) (fun Lc y hy' => .pair hA rfl rfl rfl rfl) (fun Lc y hy' => PTs_one (PT.eq (PB_Cmp (PE_Name rfl) (hit (PE_Name rfl)) c_ge) (decide_eq_decide.mpr Int.ofNat_le))) (fun Lc y hy' hq => PE_Tuple [sS y.1, iN (y.2 - p)] (.cons (PE_Name rfl) (.cons (PE.eqv (PE_Bin (PE_Name rfl) (hit (PE_Name rfl)) b_sub) (congrArg AV.int (by have := of_decide_eq_true hq; omega))) .nil)) (Nat.le_of_ble_eq_true rfl))) (restD_map D p).symm) ?_)
    have hfp := hfr p hp12
    have hrn := restD_mem hy
    have hra : ∀ y ∈ restD D p, Asc y.1 := fun y hy' => by
      unfold restD at hy'
      obtain ⟨z, hz', rfl⟩ := List.mem_map.mp hy'
      exact hda z ((List.mem_filter.mp hz').1)
    have hrl := restD_len D p
    have hrn : restD D p ≠ [] := hrn
    generalize restD D p = R at hfp hrn hra hrl
    cases R with
    | nil => exact absurd rfl hrn
    | cons z R =>
    have hdt : (t.drop p).length ≤ 100000 := by rw [List.length_drop]; omega
    have hp1 : Pln (.lst [pairS z]) := pln_pairs (l := [z]) fun y hy' => hra y (by rw [List.mem_singleton.mp hy']; simp)
    refine Exs_cons (Ex_if [] (b := false) (PT.eq (PB_Cmp (PE_List [pairS z] (.cons (PE.eqv (PE_one T.x.t (w := symsS (fL (rdC bl) (t.drop p))) hA T.x.lim (by omega) ok4 hf hz (PE_Name rfl) (PE.eqv (PE_Slice (PE_Name rfl) (part_int (hit (PE_Name rfl))) part_no part_no (PSl_str (lo := some p) (hi := none) hzt)) (congrArg sS (cutN_from t p))) (by rw [hci]; exact seq_F bl (fun c hc => ht.asc c (List.mem_of_mem_drop hc)) (by rw [List.length_drop]; omega))) (by rw [hfp]; rfl)) .nil) (Nat.le_of_ble_eq_true rfl)) (PE.eqv (PE_Slice (PE_Name rfl) part_no (part_int PE_int) part_no (PSl_lst (hi := some 1) (by rw [List.length_map]; omega))) (b := .lst [pairS z]) (congrArg AV.lst (cutL_upto _ 1))) (c_ne hp1 hp1 (dp_pairs [z]) hu)) (by simp)) (fun q => absurd q (by simp)) (fun _ => Exs_nil ?_))
    refine Exs_cons (Ex_if [("found", (d1 ++ [(w, p)]).map pairS)] (b := false) (PB_and (PB_Cmp (PE_Call T.x.t.g_len (.cons (PE_Name rfl) .nil) (k_len (xs := (d1 ++ [(w, p)]).map pairS) (by omega))) (PE_Bin (PE_Bin (PE_Sub (PE_Name rfl) PE_int (s_item (by decide) g1 lN)) (PE_Call T.x.t.g_len (.cons (PE_Name rfl) .nil) (k_len hdm)) (b_mod (by rw [List.length_map]; omega))) PE_int b_add) (c_eq (.int _) (.int _) (Dp.int _ _) hu)) (fun _ => PT.eq (PB_Cmp (PE.eqv (PE_listAll T.x.t (w := symsS (fL (rdC bl) t)) hA T.x.lim (by omega) ok4 hf hz T.x.g_list (PE_Name rfl) (PE_Name rfl) (by rw [hci]; exact seq_F bl ht.asc (by omega)) (by rw [hfd]; exact hdm)) (congrArg AV.lst hfd)) (PE_Name rfl) (c_ne hpl hpl (dp_pairs _) hu)) (b' := false) (by simp))) (fun q => absurd q (by simp)) (fun _ => Exs_nil (Exs_nil ⟨([("numbers", lstI nl), ("text", sS t), ("tree", .ref e.t), ("due", .lst (D.map pairS)), ("found", .ref b)] : List (Str × AV)), (locle_cons rfl (locle_cons rfl (locle_cons rfl (locle_cons rfl (locle_cons rfl (locle_nil)))))), N', d1 ++ [(w, p)], ?_, rfl, ok4, hS4, upd_self _ _ _, nb'⟩)) (OwnOk.cons rfl (upd_self _ _ _) OwnOk.nil))
    rw [← e6, ← List.map_append, e2, List.append_assoc]; rfl
  · rintro ga N loc hp hp' ⟨done, e1, rfl, ok2, hS, hb2, nb⟩ k1
    have hr := ok2.rep
    rw [hf] at hr
    have ok3 : e.ok hp' := ok2.off fun a ha => k1 a (hr.some ha) (hS.sep hr ha)
    rw [List.append_nil] at e1
    have hb3 : hp' b = some (.list (D.map pairS)) := by rw [k1 b (by rw [hb2]; simp) nb, hb2, e1]
    exact Exs_cons (Ex_ret [("found", D.map pairS)] (.bool true) (PE_AndT (PE.eqv (PE_Cmp (PE_Name rfl) (PE_Name rfl) (c_eq hpl hpl (dp_pairs _) hu)) (congrArg AV.bool (by simp))) (PE.eqv (PE_Cmp (PE.eqv (PE_listAll T.x.t (w := symsS (fL (rdC bl) t)) hA T.x.lim (by omega) ok3 hf hz T.x.g_list (PE_Name rfl) (PE_Name rfl) (by rw [hci]; exact seq_F bl ht.asc (by omega)) (by rw [hfd]; exact hdm)) (congrArg AV.lst hfd)) (PE_Name rfl) (c_eq hpl hpl (dp_pairs _) hu)) (congrArg AV.bool (by simp)))) (h _) (OwnOk.cons rfl hb3 OwnOk.nil))
theorem law12_fn (T : TpK C) {r : FdRest} {f : Addr} (hf : FnAt C f (r.fd lawP .none)) {fk : Addr} {rk : FdRest} (hkf : FnAt C fk (rk.fd keyP .none)) (hgk : GL C "_law_key" (.ref fk)) {fd : Addr} {rd : FdRest} (hdf : FnAt C fd (rd.fd dueP .none)) (hgd : GL C "_law_due" (.ref fd)) {fc : Addr} {rc : FdRest} (hcf : FnAt C fc (rc.fd closedP .none)) (hgc : GL C "_law_closed" (.ref fc)) (hA : A.handled = none) (hroom : A.depth + 70 + Builtin.pylongFrames < recursionLimit) (hu : A.units ≤ 8000)
    {ns : List Int} (hlen : ns.length ≤ 63) : Fn C A (.ref f) [lstI ns] [] hp (fun v zu => v = .bool true) := by
  refine Fn_defC hf (binds_law C r _) (fun L => ?_) (by omega)
  have hA' : (A.deeper (lenv r L f)).handled = none := hA
  have hd : (A.deeper (lenv r L f)).depth = A.depth + 1 := rfl
  have hu' : (A.deeper (lenv r L f)).units ≤ 8500 := by show A.units + 3 ≤ 8500; omega
  have hpf : 0 ≤ Builtin.pylongFrames := Nat.zero_le _
  have pl : PlA C (A.deeper (lenv r L f)) := PlA.deeper T.x.seer T.x.lim T.x.tree (by omega) (by rfl) (by rfl) (by rfl) (by rfl)
  show Exs C _ _ (lenv r L f) lawP.body ⟨[("script", lstI ns)], hp⟩ _
  refine law12_a T hA' (by omega) pl hlen fun nl bl t h1 h2 h3 h4 => ?_
  refine law12_b T hA' pl h1 h2 h3 h4 fun ws hw hl => ?_
  refine law12_t T.x hA' (by rw [hd]; omega) hw hl fun e hp1 ok hfi hci hws => ?_
  exact law12_l T hkf hgk hdf hgd hcf hgc hA' (by omega) (by rw [hd]; omega) h1 h2 h3 h4 hw hl ok hfi hci hws fun σ' => rfl
end
end
end AC
namespace AC
noncomputable def keepS : Stmt → Bool
  | .ClassDef .. => true
  | .FunctionDef .. => true
  | _ => false
noncomputable def theQ : Program := { thePw with main := { thePw.main with body := thePw.main.body.filter keepS } }
noncomputable def endOf' (w : World) : Option (Heap × Nat) := (openEnds treeTable thePw w 2016).map fun s => (s.heap, s.toks)
noncomputable def fragOf (n : Nat) : Option (Heap × Nat) → Frag
  | some (h, _) => (List.range n).filterMap fun a => (h.get? a).map fun o => (a, o)
  | none => []
theorem lookup_frag {h : Heap} {a : Addr} {o : Obj} : ∀ {l : List Nat}, (l.filterMap fun a => (h.get? a).map fun o => (a, o)).lookup a = some o → h.get? a = some o
  | [], e => by cases e
  | b :: l, e => by
    rw [List.filterMap_cons] at e
    cases q : h.get? b with
    | none => rw [q] at e; exact lookup_frag e
    | some ob =>
      rw [q] at e
      simp only [Option.map_some, List.lookup_cons] at e
      split at e
      · rename_i h1; cases e; rw [beq_iff_eq.mp h1]; exact q
      · exact lookup_frag e
theorem frag_in {h : Heap} {t n : Nat} {r : Option (Heap × Nat)} (e : some (h, t) = r) : (fragOf n r).In h := by
  subst e
  exact fun a o e => lookup_frag e
theorem some_of {C : Cf} {K : Frag} (X : K.In C.h0) {a : Addr} (e : (K.lookup a).isSome = true) : (C.h0.get? a).isSome = true := by
  obtain ⟨o, ho⟩ := Option.isSome_iff_exists.mp e
  rw [X _ _ ho]; rfl
noncomputable def otherEs (w : World) : Array DictEntry := #[⟨hashStr w ⟨#[97]⟩, .str ⟨#[97]⟩ 386, .str ⟨#[65]⟩ 387⟩, ⟨hashStr w ⟨#[65]⟩, .str ⟨#[65]⟩ 388, .str ⟨#[97]⟩ 389⟩, ⟨hashStr w ⟨#[98]⟩, .str ⟨#[98]⟩ 390, .str ⟨#[66]⟩ 391⟩, ⟨hashStr w ⟨#[66]⟩, .str ⟨#[66]⟩ 392, .str ⟨#[98]⟩ 393⟩]
theorem bd_of {C : Cf} {K : Frag} (X : K.In C.h0) (h : K.lookup 130 = some { cls := .type "dict", dict := none, data := .dict (otherEs C.w) 4, slots := #[] }) : BD C 130 otherL := by
  refine ⟨[(sgK 97, .str ⟨#[65]⟩ 387), (sgK 65, .str ⟨#[97]⟩ 389), (sgK 98, .str ⟨#[66]⟩ 391), (sgK 66, .str ⟨#[98]⟩ 393)], ⟨_, otherEs C.w, 4, X _ _ h, ⟨rfl, rfl, rfl⟩, rfl, fun e he => ?_, .cons rfl rfl (.cons rfl rfl (.cons rfl rfl (.cons rfl rfl .nil))), by decide⟩, .cons (.str _ _) (.cons (.str _ _) (.cons (.str _ _) (.cons (.str _ _) .nil)))⟩
  simp only [otherEs, List.mem_toArray, List.mem_cons, List.not_mem_nil, or_false] at he
  rcases he with rfl | rfl | rfl | rfl
  · exact ⟨sgK 97, rfl, rfl⟩
  · exact ⟨sgK 65, rfl, rfl⟩
  · exact ⟨sgK 98, rfl, rfl⟩
  · exact ⟨sgK 66, rfl, rfl⟩
theorem left_false (w : World) : (openEnds treeTable thePw (w.withFollow "special-get-raises" false) 2016).map (fun s => (openSeen theQ ["State", "KeywordTree", "_law_OTHER"] (importedModules thePw.main.body) (fun s => xlAt AC.theQ [] s && recOk [] s) true s, some (s.heap, s.toks))) = some (openGood theQ ["State", "KeywordTree", "_law_OTHER"], endOf' (w.withFollow "special-get-raises" false)) := by kernel_rfl
theorem left_true (w : World) : (openEnds treeTable thePw (w.withFollow "special-get-raises" true) 2016).map (fun s => (openSeen theQ ["State", "KeywordTree", "_law_OTHER"] (importedModules thePw.main.body) (fun s => xlAt AC.theQ [] s && recOk [] s) true s, some (s.heap, s.toks))) = some (openGood theQ ["State", "KeywordTree", "_law_OTHER"], endOf' (w.withFollow "special-get-raises" true)) := by kernel_rfl
theorem same12 (w : World) : endOf' (w.withFollow "special-get-raises" true) = endOf' (w.withFollow "special-get-raises" false) := by kernel_rfl
theorem end12 (w : World) : endOf' w = endOf' (w.withFollow "special-get-raises" false) := by
  have e := World.withFollow_self w "special-get-raises"
  cases hb : w.params.followText "special-get-raises" with
  | false => rw [hb] at e; rw [e]
  | true => rw [hb] at e; exact (congrArg endOf' e).symm.trans (same12 w)
theorem left12 : LeftO thePw theQ ["State", "KeywordTree", "_law_OTHER"] (fun s => xlAt AC.theQ [] s && recOk [] s) (fun s => some (s.heap, s.toks)) endOf' 2016 := fun w => by
  have e := World.withFollow_self w "special-get-raises"
  cases hb : w.params.followText "special-get-raises" with
  | false => rw [hb] at e; have z := left_false w; rw [e] at z; exact z
  | true => rw [hb] at e; have z := left_true w; rw [e] at z; exact z
end AC
theorem PySem.Challenge.cw_nc0002_12_holds : PySem.Challenge.rw_nc0002_12.Holds := by
  w_on
  refine holds_law (by decide +kernel) fun said => ?_
  refine holds_openX (q := AC.theQ) (loose := ["State", "KeywordTree", "_law_OTHER"]) (Xt := fun s => xlAt AC.theQ [] s && recOk [] s) (XP := XL AC.theQ []) (Yf := fun s => some (s.heap, s.toks)) (Ya := AC.endOf') (N := 2016) ?hl (fun s e => xl_of s (Bool.and_eq_true_iff.mp e).1) XL.keeps (by rfl) (by rfl) (by rfl) (fun s e => recFacts_of (Bool.and_eq_true_iff.mp e).2) (by rfl) (by first | assumption | decide +kernel) (by decide +kernel) ⟨rfl, rfl, rfl, rfl, rfl, by decide +kernel⟩ ?hw ?hc
  case hl => exact AC.left12
  case hw => w_witness2
  intro w s₀ s₁ mg mb G y fa o pm cd doc dV kV ho hd hcd hD hmg hg args vals as L hpre hlay hrd hwl hlo
  have KX : (AC.fragOf 160 (AC.endOf' (w.withFollow "special-get-raises" false))).In s₁.heap := Frag.In.keeps (AC.frag_in (y.trans (AC.end12 w))) L.keeps
  refine Ground.open G ?_; intro T B D TE TW
  have seer : s₁.heap.NoSeer := by first | exact PyProof.Rows.Glob.seer (by assumption) | exact PyProof.Rows.Top.seer (by assumption) (by decide +kernel)
  clear T B D TE TW
  obtain rfl : dV = .none := by rcases hD.pos with ⟨zu, e⟩ | ⟨e, zu⟩; exact e; exact absurd rfl e
  clear hD
  wrow_args hpre hlay hrd hwl hlo
  all_lens
  have lim : s₁.heap.NoLimit := AC.lim_of KX (by kernel_rfl)
  have TP : AC.Tp ⟨PySem.Challenge.pw_nc0002_12, w, s₁.heap, s₁.os⟩ := by
    constructor
    · show (s₁.heap.get? sysModules).isSome = true
      exact AC.some_of (C := ⟨PySem.Challenge.pw_nc0002_12, w, s₁.heap, s₁.os⟩) KX (by kernel_rfl)
    · exact AC.gl_of KX (by kernel_rfl)
    · exact AC.gl_of KX (by kernel_rfl)
    · exact AC.gl_of KX (by kernel_rfl)
    · exact AC.gl_of KX (by kernel_rfl)
    · exact AC.gl_of KX (by kernel_rfl)
    · exact AC.gl_of KX (by kernel_rfl)
    · exact AC.gl_of KX (by kernel_rfl)
    · exact AC.gl_of KX (by kernel_rfl)
    · exact AC.gl_of KX (by kernel_rfl)
    · exact ⟨_, 35, KX, by kernel_rfl, by kernel_rfl, by kernel_rfl, by kernel_rfl, by kernel_rfl, by kernel_rfl, by kernel_rfl, by kernel_rfl, by decide⟩
    · exact ⟨_, 36, KX, by kernel_rfl, by kernel_rfl, by kernel_rfl, by kernel_rfl, by kernel_rfl, by kernel_rfl, by kernel_rfl, by kernel_rfl, by decide⟩
    · exact ⟨_, 37, KX, by kernel_rfl, by kernel_rfl, by kernel_rfl, by kernel_rfl, by kernel_rfl, by kernel_rfl, by kernel_rfl, by kernel_rfl, by decide⟩
    · exact ⟨_, 38, KX, by kernel_rfl, by kernel_rfl, by kernel_rfl, by kernel_rfl, by kernel_rfl, by kernel_rfl, by kernel_rfl, by kernel_rfl, by decide⟩
    · exact ⟨_, 39, KX, by kernel_rfl, by kernel_rfl, by kernel_rfl, by kernel_rfl, by kernel_rfl, by kernel_rfl, by kernel_rfl, by kernel_rfl, by decide⟩
    · exact ⟨_, 40, KX, by kernel_rfl, by kernel_rfl, by kernel_rfl, by kernel_rfl, by kernel_rfl, by kernel_rfl, by kernel_rfl, by kernel_rfl, by decide⟩
    · exact ⟨_, 41, KX, by kernel_rfl, by kernel_rfl, by kernel_rfl, by kernel_rfl, by kernel_rfl, by kernel_rfl, by kernel_rfl, by kernel_rfl, by decide⟩
    · exact ⟨_, 42, KX, by kernel_rfl, by kernel_rfl, by kernel_rfl, by kernel_rfl, by kernel_rfl, by kernel_rfl, by kernel_rfl, by kernel_rfl, by decide⟩
    · exact ⟨_, KX, by kernel_rfl, by kernel_rfl, by kernel_rfl⟩
    · exact ⟨_, KX, by kernel_rfl, by kernel_rfl, by kernel_rfl⟩
    · exact AC.ns_of KX (by kernel_rfl) (by kernel_rfl) (by kernel_rfl) (by kernel_rfl) (by kernel_rfl) (by kernel_rfl) (by kernel_rfl)
    · exact AC.ns_of KX (by kernel_rfl) (by kernel_rfl) (by kernel_rfl) (by kernel_rfl) (by kernel_rfl) (by kernel_rfl) (by kernel_rfl)
    · exact AC.ns_of KX (by kernel_rfl) (by kernel_rfl) (by kernel_rfl) (by kernel_rfl) (by kernel_rfl) (by kernel_rfl) (by kernel_rfl)
    · exact AC.ns_of KX (by kernel_rfl) (by kernel_rfl) (by kernel_rfl) (by kernel_rfl) (by kernel_rfl) (by kernel_rfl) (by kernel_rfl)
    · exact AC.ns_of KX (by kernel_rfl) (by kernel_rfl) (by kernel_rfl) (by kernel_rfl) (by kernel_rfl) (by kernel_rfl) (by kernel_rfl)
    · exact AC.ns_of KX (by kernel_rfl) (by kernel_rfl) (by kernel_rfl) (by kernel_rfl) (by kernel_rfl) (by kernel_rfl) (by kernel_rfl)
    · exact KX 23 _ (by kernel_rfl)
    · exact KX 52 _ (by kernel_rfl)
    · exact AC.fnAt_of KX lim (by kernel_rfl) (by kernel_rfl)
    · exact AC.fnAt_of KX lim (by kernel_rfl) (by kernel_rfl)
    · exact AC.fnAt_of KX lim (by kernel_rfl) (by kernel_rfl)
    · exact AC.fnAt_of KX lim (by kernel_rfl) (by kernel_rfl)
    · exact AC.fnAt_of KX lim (by kernel_rfl) (by kernel_rfl)
    · exact AC.fnAt_of KX lim (by kernel_rfl) (by kernel_rfl)
    · exact AC.fnAt_of KX lim (by kernel_rfl) (by kernel_rfl)
    · exact AC.fnAt_of KX lim (by kernel_rfl) (by kernel_rfl)
    · exact AC.fnAt_of KX lim (by kernel_rfl) (by kernel_rfl)
    · exact AC.fnAt_of KX lim (by kernel_rfl) (by kernel_rfl)
    · exact AC.fnAt_of KX lim (by kernel_rfl) (by kernel_rfl)
    · exact ⟨_, KX, by kernel_rfl, by kernel_rfl, by kernel_rfl, by kernel_rfl⟩
    · exact ⟨_, KX, by kernel_rfl, by kernel_rfl, by kernel_rfl, by kernel_rfl⟩
    · exact ⟨_, KX, by kernel_rfl, by kernel_rfl, by kernel_rfl, by kernel_rfl⟩
    · exact ⟨_, KX, by kernel_rfl, by kernel_rfl, by kernel_rfl, by kernel_rfl⟩
    · exact ⟨_, KX, by kernel_rfl, by kernel_rfl, by kernel_rfl, by kernel_rfl⟩
    · exact ⟨_, KX, by kernel_rfl, by kernel_rfl, by kernel_rfl, by kernel_rfl⟩
    · exact ⟨_, KX, by kernel_rfl, by kernel_rfl, by kernel_rfl, by kernel_rfl⟩
    · exact ⟨_, KX, by kernel_rfl, by kernel_rfl, by kernel_rfl, by kernel_rfl⟩
    · exact ⟨_, KX, by kernel_rfl, by kernel_rfl, by kernel_rfl, by kernel_rfl⟩
  have TX : AC.TpX ⟨PySem.Challenge.pw_nc0002_12, w, s₁.heap, s₁.os⟩ := by
    refine ⟨TP, lim, ?_, by rfl, ?_, ?_, ?_, ?_, ?_⟩
    · exact seer
    · exact AC.gl_of KX (by kernel_rfl)
    · exact AC.gl_of KX (by kernel_rfl)
    · exact AC.gl_of KX (by kernel_rfl)
    · exact AC.gl_of KX (by kernel_rfl)
    · exact AC.gl_of KX (by kernel_rfl)
  have TK : AC.TpK ⟨PySem.Challenge.pw_nc0002_12, w, s₁.heap, s₁.os⟩ := ⟨TX, AC.some_of (C := ⟨PySem.Challenge.pw_nc0002_12, w, s₁.heap, s₁.os⟩) KX (by kernel_rfl), 130, AC.gl_of KX (by kernel_rfl), AC.bd_of (C := ⟨PySem.Challenge.pw_nc0002_12, w, s₁.heap, s₁.os⟩) KX (by kernel_rfl)⟩
  obtain ⟨r1, f1⟩ : ∃ r : AC.FdRest, AC.FnAt ⟨PySem.Challenge.pw_nc0002_12, w, s₁.heap, s₁.os⟩ 135 (r.fd AC.keyP .none) := AC.fnAt_of KX lim (by kernel_rfl) (by kernel_rfl)
  have g1 : AC.GL ⟨PySem.Challenge.pw_nc0002_12, w, s₁.heap, s₁.os⟩ "_law_key" (.ref 135) := AC.gl_of KX (by kernel_rfl)
  obtain ⟨r3, f3⟩ : ∃ r : AC.FdRest, AC.FnAt ⟨PySem.Challenge.pw_nc0002_12, w, s₁.heap, s₁.os⟩ 142 (r.fd AC.dueP .none) := AC.fnAt_of KX lim (by kernel_rfl) (by kernel_rfl)
  have g3 : AC.GL ⟨PySem.Challenge.pw_nc0002_12, w, s₁.heap, s₁.os⟩ "_law_due" (.ref 142) := AC.gl_of KX (by kernel_rfl)
  obtain ⟨r4, f4⟩ : ∃ r : AC.FdRest, AC.FnAt ⟨PySem.Challenge.pw_nc0002_12, w, s₁.heap, s₁.os⟩ 149 (r.fd AC.closedP .none) := AC.fnAt_of KX lim (by kernel_rfl) (by kernel_rfl)
  have g4 : AC.GL ⟨PySem.Challenge.pw_nc0002_12, w, s₁.heap, s₁.os⟩ "_law_closed" (.ref 149) := AC.gl_of KX (by kernel_rfl)
  obtain ⟨r2, f2⟩ : ∃ r : AC.FdRest, AC.FnAt ⟨PySem.Challenge.pw_nc0002_12, w, s₁.heap, s₁.os⟩ fa (r.fd AC.lawP .none) := ⟨⟨_, _, kV, doc, pm, _, cd, _⟩, ⟨o, ho, hd⟩, hcd, lim⟩
  refine AC.finish (C := ⟨PySem.Challenge.pw_nc0002_12, w, s₁.heap, s₁.os⟩) (fun ns hn => AC.law12_fn TK f2 f1 g1 f3 g3 f4 g4 rfl (by decide) (by decide) hn) (by assumption) (by assumption) (by assumption) rfl rfl hg ?_
  intro s' k1 k2 k3
  exact ⟨.inl ⟨.bool true, .bool true, [], rfl, fun cls => rfl, .bool true, (by first | with_unfolding_all rfl | kernel_rfl), unshared_nil⟩, k1, k2, k3⟩
