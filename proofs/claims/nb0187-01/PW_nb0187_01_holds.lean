import PyProof.Rows.All
import Wide.All
import OpenK.AllK
import Wide.FinOn
import PySem.Challenge.RW_nb0187_01
set_option Elab.async false
set_option linter.all false
set_option compiler.extract_closed false
namespace Mine
section
open PySem PySem.W PyProof.Rows
set_option maxRecDepth 100000 in
set_option maxHeartbeats 8000000 in
open_top hd for PySem.Challenge.rw_nb0187_01
end
section
theorem ee1 {α0 : Type} {p : α0 → Prop} {G : Prop} (H : ∃ x0, p x0) (k : ∀ x0, p x0 → G) : G := H.elim k
theorem ee2 {α0 : Type} {α1 : Type} {p : α0 → α1 → Prop} {G : Prop} (H : ∃ x0 x1, p x0 x1) (k : ∀ x0 x1, p x0 x1 → G) : G := H.elim fun x0 h => ee1 h (k x0)
theorem ee3 {α0 : Type} {α1 : Type} {α2 : Type} {p : α0 → α1 → α2 → Prop} {G : Prop} (H : ∃ x0 x1 x2, p x0 x1 x2) (k : ∀ x0 x1 x2, p x0 x1 x2 → G) : G := H.elim fun x0 h => ee2 h (k x0)
theorem ee4 {α0 : Type} {α1 : Type} {α2 : Type} {α3 : Type} {p : α0 → α1 → α2 → α3 → Prop} {G : Prop} (H : ∃ x0 x1 x2 x3, p x0 x1 x2 x3) (k : ∀ x0 x1 x2 x3, p x0 x1 x2 x3 → G) : G := H.elim fun x0 h => ee3 h (k x0)
theorem ee5 {α0 : Type} {α1 : Type} {α2 : Type} {α3 : Type} {α4 : Type} {p : α0 → α1 → α2 → α3 → α4 → Prop} {G : Prop} (H : ∃ x0 x1 x2 x3 x4, p x0 x1 x2 x3 x4) (k : ∀ x0 x1 x2 x3 x4, p x0 x1 x2 x3 x4 → G) : G := H.elim fun x0 h => ee4 h (k x0)
theorem ee6 {α0 : Type} {α1 : Type} {α2 : Type} {α3 : Type} {α4 : Type} {α5 : Type} {p : α0 → α1 → α2 → α3 → α4 → α5 → Prop} {G : Prop} (H : ∃ x0 x1 x2 x3 x4 x5, p x0 x1 x2 x3 x4 x5) (k : ∀ x0 x1 x2 x3 x4 x5, p x0 x1 x2 x3 x4 x5 → G) : G := H.elim fun x0 h => ee5 h (k x0)
theorem ee7 {α0 : Type} {α1 : Type} {α2 : Type} {α3 : Type} {α4 : Type} {α5 : Type} {α6 : Type} {p : α0 → α1 → α2 → α3 → α4 → α5 → α6 → Prop} {G : Prop} (H : ∃ x0 x1 x2 x3 x4 x5 x6, p x0 x1 x2 x3 x4 x5 x6) (k : ∀ x0 x1 x2 x3 x4 x5 x6, p x0 x1 x2 x3 x4 x5 x6 → G) : G := H.elim fun x0 h => ee6 h (k x0)
theorem ee8 {α0 : Type} {α1 : Type} {α2 : Type} {α3 : Type} {α4 : Type} {α5 : Type} {α6 : Type} {α7 : Type} {p : α0 → α1 → α2 → α3 → α4 → α5 → α6 → α7 → Prop} {G : Prop} (H : ∃ x0 x1 x2 x3 x4 x5 x6 x7, p x0 x1 x2 x3 x4 x5 x6 x7) (k : ∀ x0 x1 x2 x3 x4 x5 x6 x7, p x0 x1 x2 x3 x4 x5 x6 x7 → G) : G := H.elim fun x0 h => ee7 h (k x0)
theorem ee9 {α0 : Type} {α1 : Type} {α2 : Type} {α3 : Type} {α4 : Type} {α5 : Type} {α6 : Type} {α7 : Type} {α8 : Type} {p : α0 → α1 → α2 → α3 → α4 → α5 → α6 → α7 → α8 → Prop} {G : Prop} (H : ∃ x0 x1 x2 x3 x4 x5 x6 x7 x8, p x0 x1 x2 x3 x4 x5 x6 x7 x8) (k : ∀ x0 x1 x2 x3 x4 x5 x6 x7 x8, p x0 x1 x2 x3 x4 x5 x6 x7 x8 → G) : G := H.elim fun x0 h => ee8 h (k x0)
theorem ea0_2 {p0 p1 G : Prop} (h : p0 ∧ p1) (k : p0 → p1 → G) : G := k h.1 h.2
theorem ea0_3 {p0 p1 p2 G : Prop} (h : p0 ∧ p1 ∧ p2) (k : p0 → p1 → p2 → G) : G := ea0_2 h.2 (k h.1)
theorem ea0_4 {p0 p1 p2 p3 G : Prop} (h : p0 ∧ p1 ∧ p2 ∧ p3) (k : p0 → p1 → p2 → p3 → G) : G := ea0_3 h.2 (k h.1)
theorem ea0_5 {p0 p1 p2 p3 p4 G : Prop} (h : p0 ∧ p1 ∧ p2 ∧ p3 ∧ p4) (k : p0 → p1 → p2 → p3 → p4 → G) : G := ea0_4 h.2 (k h.1)
theorem ea0_6 {p0 p1 p2 p3 p4 p5 G : Prop} (h : p0 ∧ p1 ∧ p2 ∧ p3 ∧ p4 ∧ p5) (k : p0 → p1 → p2 → p3 → p4 → p5 → G) : G := ea0_5 h.2 (k h.1)
theorem ea0_7 {p0 p1 p2 p3 p4 p5 p6 G : Prop} (h : p0 ∧ p1 ∧ p2 ∧ p3 ∧ p4 ∧ p5 ∧ p6) (k : p0 → p1 → p2 → p3 → p4 → p5 → p6 → G) : G := ea0_6 h.2 (k h.1)
theorem ea0_8 {p0 p1 p2 p3 p4 p5 p6 p7 G : Prop} (h : p0 ∧ p1 ∧ p2 ∧ p3 ∧ p4 ∧ p5 ∧ p6 ∧ p7) (k : p0 → p1 → p2 → p3 → p4 → p5 → p6 → p7 → G) : G := ea0_7 h.2 (k h.1)
theorem ea0_9 {p0 p1 p2 p3 p4 p5 p6 p7 p8 G : Prop} (h : p0 ∧ p1 ∧ p2 ∧ p3 ∧ p4 ∧ p5 ∧ p6 ∧ p7 ∧ p8) (k : p0 → p1 → p2 → p3 → p4 → p5 → p6 → p7 → p8 → G) : G := ea0_8 h.2 (k h.1)
theorem ea1_1 {α0 : Type} {p0 : α0 → Prop} {G : Prop} (H : ∃ x0, p0 x0) (k : ∀ x0, p0 x0 → G) : G := ee1 H k
theorem ea1_2 {α0 : Type} {p0 p1 : α0 → Prop} {G : Prop} (H : ∃ x0, p0 x0 ∧ p1 x0) (k : ∀ x0, p0 x0 → p1 x0 → G) : G := ee1 H fun x0 h => ea0_2 h (k x0)
theorem ea1_3 {α0 : Type} {p0 p1 p2 : α0 → Prop} {G : Prop} (H : ∃ x0, p0 x0 ∧ p1 x0 ∧ p2 x0) (k : ∀ x0, p0 x0 → p1 x0 → p2 x0 → G) : G := ee1 H fun x0 h => ea0_3 h (k x0)
theorem ea1_4 {α0 : Type} {p0 p1 p2 p3 : α0 → Prop} {G : Prop} (H : ∃ x0, p0 x0 ∧ p1 x0 ∧ p2 x0 ∧ p3 x0) (k : ∀ x0, p0 x0 → p1 x0 → p2 x0 → p3 x0 → G) : G := ee1 H fun x0 h => ea0_4 h (k x0)
theorem ea2_1 {α0 : Type} {α1 : Type} {p0 : α0 → α1 → Prop} {G : Prop} (H : ∃ x0 x1, p0 x0 x1) (k : ∀ x0 x1, p0 x0 x1 → G) : G := ee2 H k
theorem ea2_2 {α0 : Type} {α1 : Type} {p0 p1 : α0 → α1 → Prop} {G : Prop} (H : ∃ x0 x1, p0 x0 x1 ∧ p1 x0 x1) (k : ∀ x0 x1, p0 x0 x1 → p1 x0 x1 → G) : G := ee2 H fun x0 x1 h => ea0_2 h (k x0 x1)
theorem ea2_3 {α0 : Type} {α1 : Type} {p0 p1 p2 : α0 → α1 → Prop} {G : Prop} (H : ∃ x0 x1, p0 x0 x1 ∧ p1 x0 x1 ∧ p2 x0 x1) (k : ∀ x0 x1, p0 x0 x1 → p1 x0 x1 → p2 x0 x1 → G) : G := ee2 H fun x0 x1 h => ea0_3 h (k x0 x1)
theorem ea2_4 {α0 : Type} {α1 : Type} {p0 p1 p2 p3 : α0 → α1 → Prop} {G : Prop} (H : ∃ x0 x1, p0 x0 x1 ∧ p1 x0 x1 ∧ p2 x0 x1 ∧ p3 x0 x1) (k : ∀ x0 x1, p0 x0 x1 → p1 x0 x1 → p2 x0 x1 → p3 x0 x1 → G) : G := ee2 H fun x0 x1 h => ea0_4 h (k x0 x1)
theorem ea3_2 {α0 : Type} {α1 : Type} {α2 : Type} {p0 p1 : α0 → α1 → α2 → Prop} {G : Prop} (H : ∃ x0 x1 x2, p0 x0 x1 x2 ∧ p1 x0 x1 x2) (k : ∀ x0 x1 x2, p0 x0 x1 x2 → p1 x0 x1 x2 → G) : G := ee3 H fun x0 x1 x2 h => ea0_2 h (k x0 x1 x2)
theorem ea3_3 {α0 : Type} {α1 : Type} {α2 : Type} {p0 p1 p2 : α0 → α1 → α2 → Prop} {G : Prop} (H : ∃ x0 x1 x2, p0 x0 x1 x2 ∧ p1 x0 x1 x2 ∧ p2 x0 x1 x2) (k : ∀ x0 x1 x2, p0 x0 x1 x2 → p1 x0 x1 x2 → p2 x0 x1 x2 → G) : G := ee3 H fun x0 x1 x2 h => ea0_3 h (k x0 x1 x2)
theorem ea3_4 {α0 : Type} {α1 : Type} {α2 : Type} {p0 p1 p2 p3 : α0 → α1 → α2 → Prop} {G : Prop} (H : ∃ x0 x1 x2, p0 x0 x1 x2 ∧ p1 x0 x1 x2 ∧ p2 x0 x1 x2 ∧ p3 x0 x1 x2) (k : ∀ x0 x1 x2, p0 x0 x1 x2 → p1 x0 x1 x2 → p2 x0 x1 x2 → p3 x0 x1 x2 → G) : G := ee3 H fun x0 x1 x2 h => ea0_4 h (k x0 x1 x2)
theorem ea3_5 {α0 : Type} {α1 : Type} {α2 : Type} {p0 p1 p2 p3 p4 : α0 → α1 → α2 → Prop} {G : Prop} (H : ∃ x0 x1 x2, p0 x0 x1 x2 ∧ p1 x0 x1 x2 ∧ p2 x0 x1 x2 ∧ p3 x0 x1 x2 ∧ p4 x0 x1 x2) (k : ∀ x0 x1 x2, p0 x0 x1 x2 → p1 x0 x1 x2 → p2 x0 x1 x2 → p3 x0 x1 x2 → p4 x0 x1 x2 → G) : G := ee3 H fun x0 x1 x2 h => ea0_5 h (k x0 x1 x2)
theorem ea3_6 {α0 : Type} {α1 : Type} {α2 : Type} {p0 p1 p2 p3 p4 p5 : α0 → α1 → α2 → Prop} {G : Prop} (H : ∃ x0 x1 x2, p0 x0 x1 x2 ∧ p1 x0 x1 x2 ∧ p2 x0 x1 x2 ∧ p3 x0 x1 x2 ∧ p4 x0 x1 x2 ∧ p5 x0 x1 x2) (k : ∀ x0 x1 x2, p0 x0 x1 x2 → p1 x0 x1 x2 → p2 x0 x1 x2 → p3 x0 x1 x2 → p4 x0 x1 x2 → p5 x0 x1 x2 → G) : G := ee3 H fun x0 x1 x2 h => ea0_6 h (k x0 x1 x2)
theorem ea3_8 {α0 : Type} {α1 : Type} {α2 : Type} {p0 p1 p2 p3 p4 p5 p6 p7 : α0 → α1 → α2 → Prop} {G : Prop} (H : ∃ x0 x1 x2, p0 x0 x1 x2 ∧ p1 x0 x1 x2 ∧ p2 x0 x1 x2 ∧ p3 x0 x1 x2 ∧ p4 x0 x1 x2 ∧ p5 x0 x1 x2 ∧ p6 x0 x1 x2 ∧ p7 x0 x1 x2) (k : ∀ x0 x1 x2, p0 x0 x1 x2 → p1 x0 x1 x2 → p2 x0 x1 x2 → p3 x0 x1 x2 → p4 x0 x1 x2 → p5 x0 x1 x2 → p6 x0 x1 x2 → p7 x0 x1 x2 → G) : G := ee3 H fun x0 x1 x2 h => ea0_8 h (k x0 x1 x2)
theorem ea3_9 {α0 : Type} {α1 : Type} {α2 : Type} {p0 p1 p2 p3 p4 p5 p6 p7 p8 : α0 → α1 → α2 → Prop} {G : Prop} (H : ∃ x0 x1 x2, p0 x0 x1 x2 ∧ p1 x0 x1 x2 ∧ p2 x0 x1 x2 ∧ p3 x0 x1 x2 ∧ p4 x0 x1 x2 ∧ p5 x0 x1 x2 ∧ p6 x0 x1 x2 ∧ p7 x0 x1 x2 ∧ p8 x0 x1 x2) (k : ∀ x0 x1 x2, p0 x0 x1 x2 → p1 x0 x1 x2 → p2 x0 x1 x2 → p3 x0 x1 x2 → p4 x0 x1 x2 → p5 x0 x1 x2 → p6 x0 x1 x2 → p7 x0 x1 x2 → p8 x0 x1 x2 → G) : G := ee3 H fun x0 x1 x2 h => ea0_9 h (k x0 x1 x2)
theorem ea4_2 {α0 : Type} {α1 : Type} {α2 : Type} {α3 : Type} {p0 p1 : α0 → α1 → α2 → α3 → Prop} {G : Prop} (H : ∃ x0 x1 x2 x3, p0 x0 x1 x2 x3 ∧ p1 x0 x1 x2 x3) (k : ∀ x0 x1 x2 x3, p0 x0 x1 x2 x3 → p1 x0 x1 x2 x3 → G) : G := ee4 H fun x0 x1 x2 x3 h => ea0_2 h (k x0 x1 x2 x3)
theorem ea4_3 {α0 : Type} {α1 : Type} {α2 : Type} {α3 : Type} {p0 p1 p2 : α0 → α1 → α2 → α3 → Prop} {G : Prop} (H : ∃ x0 x1 x2 x3, p0 x0 x1 x2 x3 ∧ p1 x0 x1 x2 x3 ∧ p2 x0 x1 x2 x3) (k : ∀ x0 x1 x2 x3, p0 x0 x1 x2 x3 → p1 x0 x1 x2 x3 → p2 x0 x1 x2 x3 → G) : G := ee4 H fun x0 x1 x2 x3 h => ea0_3 h (k x0 x1 x2 x3)
theorem ea4_4 {α0 : Type} {α1 : Type} {α2 : Type} {α3 : Type} {p0 p1 p2 p3 : α0 → α1 → α2 → α3 → Prop} {G : Prop} (H : ∃ x0 x1 x2 x3, p0 x0 x1 x2 x3 ∧ p1 x0 x1 x2 x3 ∧ p2 x0 x1 x2 x3 ∧ p3 x0 x1 x2 x3) (k : ∀ x0 x1 x2 x3, p0 x0 x1 x2 x3 → p1 x0 x1 x2 x3 → p2 x0 x1 x2 x3 → p3 x0 x1 x2 x3 → G) : G := ee4 H fun x0 x1 x2 x3 h => ea0_4 h (k x0 x1 x2 x3)
theorem ea4_8 {α0 : Type} {α1 : Type} {α2 : Type} {α3 : Type} {p0 p1 p2 p3 p4 p5 p6 p7 : α0 → α1 → α2 → α3 → Prop} {G : Prop} (H : ∃ x0 x1 x2 x3, p0 x0 x1 x2 x3 ∧ p1 x0 x1 x2 x3 ∧ p2 x0 x1 x2 x3 ∧ p3 x0 x1 x2 x3 ∧ p4 x0 x1 x2 x3 ∧ p5 x0 x1 x2 x3 ∧ p6 x0 x1 x2 x3 ∧ p7 x0 x1 x2 x3) (k : ∀ x0 x1 x2 x3, p0 x0 x1 x2 x3 → p1 x0 x1 x2 x3 → p2 x0 x1 x2 x3 → p3 x0 x1 x2 x3 → p4 x0 x1 x2 x3 → p5 x0 x1 x2 x3 → p6 x0 x1 x2 x3 → p7 x0 x1 x2 x3 → G) : G := ee4 H fun x0 x1 x2 x3 h => ea0_8 h (k x0 x1 x2 x3)
theorem ea5_3 {α0 : Type} {α1 : Type} {α2 : Type} {α3 : Type} {α4 : Type} {p0 p1 p2 : α0 → α1 → α2 → α3 → α4 → Prop} {G : Prop} (H : ∃ x0 x1 x2 x3 x4, p0 x0 x1 x2 x3 x4 ∧ p1 x0 x1 x2 x3 x4 ∧ p2 x0 x1 x2 x3 x4) (k : ∀ x0 x1 x2 x3 x4, p0 x0 x1 x2 x3 x4 → p1 x0 x1 x2 x3 x4 → p2 x0 x1 x2 x3 x4 → G) : G := ee5 H fun x0 x1 x2 x3 x4 h => ea0_3 h (k x0 x1 x2 x3 x4)
theorem ea5_4 {α0 : Type} {α1 : Type} {α2 : Type} {α3 : Type} {α4 : Type} {p0 p1 p2 p3 : α0 → α1 → α2 → α3 → α4 → Prop} {G : Prop} (H : ∃ x0 x1 x2 x3 x4, p0 x0 x1 x2 x3 x4 ∧ p1 x0 x1 x2 x3 x4 ∧ p2 x0 x1 x2 x3 x4 ∧ p3 x0 x1 x2 x3 x4) (k : ∀ x0 x1 x2 x3 x4, p0 x0 x1 x2 x3 x4 → p1 x0 x1 x2 x3 x4 → p2 x0 x1 x2 x3 x4 → p3 x0 x1 x2 x3 x4 → G) : G := ee5 H fun x0 x1 x2 x3 x4 h => ea0_4 h (k x0 x1 x2 x3 x4)
theorem ea5_6 {α0 : Type} {α1 : Type} {α2 : Type} {α3 : Type} {α4 : Type} {p0 p1 p2 p3 p4 p5 : α0 → α1 → α2 → α3 → α4 → Prop} {G : Prop} (H : ∃ x0 x1 x2 x3 x4, p0 x0 x1 x2 x3 x4 ∧ p1 x0 x1 x2 x3 x4 ∧ p2 x0 x1 x2 x3 x4 ∧ p3 x0 x1 x2 x3 x4 ∧ p4 x0 x1 x2 x3 x4 ∧ p5 x0 x1 x2 x3 x4) (k : ∀ x0 x1 x2 x3 x4, p0 x0 x1 x2 x3 x4 → p1 x0 x1 x2 x3 x4 → p2 x0 x1 x2 x3 x4 → p3 x0 x1 x2 x3 x4 → p4 x0 x1 x2 x3 x4 → p5 x0 x1 x2 x3 x4 → G) : G := ee5 H fun x0 x1 x2 x3 x4 h => ea0_6 h (k x0 x1 x2 x3 x4)
theorem ea6_4 {α0 : Type} {α1 : Type} {α2 : Type} {α3 : Type} {α4 : Type} {α5 : Type} {p0 p1 p2 p3 : α0 → α1 → α2 → α3 → α4 → α5 → Prop} {G : Prop} (H : ∃ x0 x1 x2 x3 x4 x5, p0 x0 x1 x2 x3 x4 x5 ∧ p1 x0 x1 x2 x3 x4 x5 ∧ p2 x0 x1 x2 x3 x4 x5 ∧ p3 x0 x1 x2 x3 x4 x5) (k : ∀ x0 x1 x2 x3 x4 x5, p0 x0 x1 x2 x3 x4 x5 → p1 x0 x1 x2 x3 x4 x5 → p2 x0 x1 x2 x3 x4 x5 → p3 x0 x1 x2 x3 x4 x5 → G) : G := ee6 H fun x0 x1 x2 x3 x4 x5 h => ea0_4 h (k x0 x1 x2 x3 x4 x5)
theorem ea6_5 {α0 : Type} {α1 : Type} {α2 : Type} {α3 : Type} {α4 : Type} {α5 : Type} {p0 p1 p2 p3 p4 : α0 → α1 → α2 → α3 → α4 → α5 → Prop} {G : Prop} (H : ∃ x0 x1 x2 x3 x4 x5, p0 x0 x1 x2 x3 x4 x5 ∧ p1 x0 x1 x2 x3 x4 x5 ∧ p2 x0 x1 x2 x3 x4 x5 ∧ p3 x0 x1 x2 x3 x4 x5 ∧ p4 x0 x1 x2 x3 x4 x5) (k : ∀ x0 x1 x2 x3 x4 x5, p0 x0 x1 x2 x3 x4 x5 → p1 x0 x1 x2 x3 x4 x5 → p2 x0 x1 x2 x3 x4 x5 → p3 x0 x1 x2 x3 x4 x5 → p4 x0 x1 x2 x3 x4 x5 → G) : G := ee6 H fun x0 x1 x2 x3 x4 x5 h => ea0_5 h (k x0 x1 x2 x3 x4 x5)
theorem ea6_7 {α0 : Type} {α1 : Type} {α2 : Type} {α3 : Type} {α4 : Type} {α5 : Type} {p0 p1 p2 p3 p4 p5 p6 : α0 → α1 → α2 → α3 → α4 → α5 → Prop} {G : Prop} (H : ∃ x0 x1 x2 x3 x4 x5, p0 x0 x1 x2 x3 x4 x5 ∧ p1 x0 x1 x2 x3 x4 x5 ∧ p2 x0 x1 x2 x3 x4 x5 ∧ p3 x0 x1 x2 x3 x4 x5 ∧ p4 x0 x1 x2 x3 x4 x5 ∧ p5 x0 x1 x2 x3 x4 x5 ∧ p6 x0 x1 x2 x3 x4 x5) (k : ∀ x0 x1 x2 x3 x4 x5, p0 x0 x1 x2 x3 x4 x5 → p1 x0 x1 x2 x3 x4 x5 → p2 x0 x1 x2 x3 x4 x5 → p3 x0 x1 x2 x3 x4 x5 → p4 x0 x1 x2 x3 x4 x5 → p5 x0 x1 x2 x3 x4 x5 → p6 x0 x1 x2 x3 x4 x5 → G) : G := ee6 H fun x0 x1 x2 x3 x4 x5 h => ea0_7 h (k x0 x1 x2 x3 x4 x5)
theorem ea7_3 {α0 : Type} {α1 : Type} {α2 : Type} {α3 : Type} {α4 : Type} {α5 : Type} {α6 : Type} {p0 p1 p2 : α0 → α1 → α2 → α3 → α4 → α5 → α6 → Prop} {G : Prop} (H : ∃ x0 x1 x2 x3 x4 x5 x6, p0 x0 x1 x2 x3 x4 x5 x6 ∧ p1 x0 x1 x2 x3 x4 x5 x6 ∧ p2 x0 x1 x2 x3 x4 x5 x6) (k : ∀ x0 x1 x2 x3 x4 x5 x6, p0 x0 x1 x2 x3 x4 x5 x6 → p1 x0 x1 x2 x3 x4 x5 x6 → p2 x0 x1 x2 x3 x4 x5 x6 → G) : G := ee7 H fun x0 x1 x2 x3 x4 x5 x6 h => ea0_3 h (k x0 x1 x2 x3 x4 x5 x6)
theorem ea7_6 {α0 : Type} {α1 : Type} {α2 : Type} {α3 : Type} {α4 : Type} {α5 : Type} {α6 : Type} {p0 p1 p2 p3 p4 p5 : α0 → α1 → α2 → α3 → α4 → α5 → α6 → Prop} {G : Prop} (H : ∃ x0 x1 x2 x3 x4 x5 x6, p0 x0 x1 x2 x3 x4 x5 x6 ∧ p1 x0 x1 x2 x3 x4 x5 x6 ∧ p2 x0 x1 x2 x3 x4 x5 x6 ∧ p3 x0 x1 x2 x3 x4 x5 x6 ∧ p4 x0 x1 x2 x3 x4 x5 x6 ∧ p5 x0 x1 x2 x3 x4 x5 x6) (k : ∀ x0 x1 x2 x3 x4 x5 x6, p0 x0 x1 x2 x3 x4 x5 x6 → p1 x0 x1 x2 x3 x4 x5 x6 → p2 x0 x1 x2 x3 x4 x5 x6 → p3 x0 x1 x2 x3 x4 x5 x6 → p4 x0 x1 x2 x3 x4 x5 x6 → p5 x0 x1 x2 x3 x4 x5 x6 → G) : G := ee7 H fun x0 x1 x2 x3 x4 x5 x6 h => ea0_6 h (k x0 x1 x2 x3 x4 x5 x6)
theorem ea7_7 {α0 : Type} {α1 : Type} {α2 : Type} {α3 : Type} {α4 : Type} {α5 : Type} {α6 : Type} {p0 p1 p2 p3 p4 p5 p6 : α0 → α1 → α2 → α3 → α4 → α5 → α6 → Prop} {G : Prop} (H : ∃ x0 x1 x2 x3 x4 x5 x6, p0 x0 x1 x2 x3 x4 x5 x6 ∧ p1 x0 x1 x2 x3 x4 x5 x6 ∧ p2 x0 x1 x2 x3 x4 x5 x6 ∧ p3 x0 x1 x2 x3 x4 x5 x6 ∧ p4 x0 x1 x2 x3 x4 x5 x6 ∧ p5 x0 x1 x2 x3 x4 x5 x6 ∧ p6 x0 x1 x2 x3 x4 x5 x6) (k : ∀ x0 x1 x2 x3 x4 x5 x6, p0 x0 x1 x2 x3 x4 x5 x6 → p1 x0 x1 x2 x3 x4 x5 x6 → p2 x0 x1 x2 x3 x4 x5 x6 → p3 x0 x1 x2 x3 x4 x5 x6 → p4 x0 x1 x2 x3 x4 x5 x6 → p5 x0 x1 x2 x3 x4 x5 x6 → p6 x0 x1 x2 x3 x4 x5 x6 → G) : G := ee7 H fun x0 x1 x2 x3 x4 x5 x6 h => ea0_7 h (k x0 x1 x2 x3 x4 x5 x6)
theorem ea8_3 {α0 : Type} {α1 : Type} {α2 : Type} {α3 : Type} {α4 : Type} {α5 : Type} {α6 : Type} {α7 : Type} {p0 p1 p2 : α0 → α1 → α2 → α3 → α4 → α5 → α6 → α7 → Prop} {G : Prop} (H : ∃ x0 x1 x2 x3 x4 x5 x6 x7, p0 x0 x1 x2 x3 x4 x5 x6 x7 ∧ p1 x0 x1 x2 x3 x4 x5 x6 x7 ∧ p2 x0 x1 x2 x3 x4 x5 x6 x7) (k : ∀ x0 x1 x2 x3 x4 x5 x6 x7, p0 x0 x1 x2 x3 x4 x5 x6 x7 → p1 x0 x1 x2 x3 x4 x5 x6 x7 → p2 x0 x1 x2 x3 x4 x5 x6 x7 → G) : G := ee8 H fun x0 x1 x2 x3 x4 x5 x6 x7 h => ea0_3 h (k x0 x1 x2 x3 x4 x5 x6 x7)
theorem ea9_2 {α0 : Type} {α1 : Type} {α2 : Type} {α3 : Type} {α4 : Type} {α5 : Type} {α6 : Type} {α7 : Type} {α8 : Type} {p0 p1 : α0 → α1 → α2 → α3 → α4 → α5 → α6 → α7 → α8 → Prop} {G : Prop} (H : ∃ x0 x1 x2 x3 x4 x5 x6 x7 x8, p0 x0 x1 x2 x3 x4 x5 x6 x7 x8 ∧ p1 x0 x1 x2 x3 x4 x5 x6 x7 x8) (k : ∀ x0 x1 x2 x3 x4 x5 x6 x7 x8, p0 x0 x1 x2 x3 x4 x5 x6 x7 x8 → p1 x0 x1 x2 x3 x4 x5 x6 x7 x8 → G) : G := ee9 H fun x0 x1 x2 x3 x4 x5 x6 x7 x8 h => ea0_2 h (k x0 x1 x2 x3 x4 x5 x6 x7 x8)
theorem ea9_7 {α0 : Type} {α1 : Type} {α2 : Type} {α3 : Type} {α4 : Type} {α5 : Type} {α6 : Type} {α7 : Type} {α8 : Type} {p0 p1 p2 p3 p4 p5 p6 : α0 → α1 → α2 → α3 → α4 → α5 → α6 → α7 → α8 → Prop} {G : Prop} (H : ∃ x0 x1 x2 x3 x4 x5 x6 x7 x8, p0 x0 x1 x2 x3 x4 x5 x6 x7 x8 ∧ p1 x0 x1 x2 x3 x4 x5 x6 x7 x8 ∧ p2 x0 x1 x2 x3 x4 x5 x6 x7 x8 ∧ p3 x0 x1 x2 x3 x4 x5 x6 x7 x8 ∧ p4 x0 x1 x2 x3 x4 x5 x6 x7 x8 ∧ p5 x0 x1 x2 x3 x4 x5 x6 x7 x8 ∧ p6 x0 x1 x2 x3 x4 x5 x6 x7 x8) (k : ∀ x0 x1 x2 x3 x4 x5 x6 x7 x8, p0 x0 x1 x2 x3 x4 x5 x6 x7 x8 → p1 x0 x1 x2 x3 x4 x5 x6 x7 x8 → p2 x0 x1 x2 x3 x4 x5 x6 x7 x8 → p3 x0 x1 x2 x3 x4 x5 x6 x7 x8 → p4 x0 x1 x2 x3 x4 x5 x6 x7 x8 → p5 x0 x1 x2 x3 x4 x5 x6 x7 x8 → p6 x0 x1 x2 x3 x4 x5 x6 x7 x8 → G) : G := ee9 H fun x0 x1 x2 x3 x4 x5 x6 x7 x8 h => ea0_7 h (k x0 x1 x2 x3 x4 x5 x6 x7 x8)
theorem ex2 {α0 : Type} {α1 : Type} {p : α0 → α1 → Prop} (x0 : α0) (x1 : α1) (h : p x0 x1) : ∃ x0 x1, p x0 x1 := ⟨x0, x1, h⟩
theorem ex3 {α0 : Type} {α1 : Type} {α2 : Type} {p : α0 → α1 → α2 → Prop} (x0 : α0) (x1 : α1) (x2 : α2) (h : p x0 x1 x2) : ∃ x0 x1 x2, p x0 x1 x2 := ⟨x0, x1, x2, h⟩
theorem ex4 {α0 : Type} {α1 : Type} {α2 : Type} {α3 : Type} {p : α0 → α1 → α2 → α3 → Prop} (x0 : α0) (x1 : α1) (x2 : α2) (x3 : α3) (h : p x0 x1 x2 x3) : ∃ x0 x1 x2 x3, p x0 x1 x2 x3 := ⟨x0, x1, x2, x3, h⟩
theorem ex5 {α0 : Type} {α1 : Type} {α2 : Type} {α3 : Type} {α4 : Type} {p : α0 → α1 → α2 → α3 → α4 → Prop} (x0 : α0) (x1 : α1) (x2 : α2) (x3 : α3) (x4 : α4) (h : p x0 x1 x2 x3 x4) : ∃ x0 x1 x2 x3 x4, p x0 x1 x2 x3 x4 := ⟨x0, x1, x2, x3, x4, h⟩
theorem ex6 {α0 : Type} {α1 : Type} {α2 : Type} {α3 : Type} {α4 : Type} {α5 : Type} {p : α0 → α1 → α2 → α3 → α4 → α5 → Prop} (x0 : α0) (x1 : α1) (x2 : α2) (x3 : α3) (x4 : α4) (x5 : α5) (h : p x0 x1 x2 x3 x4 x5) : ∃ x0 x1 x2 x3 x4 x5, p x0 x1 x2 x3 x4 x5 := ⟨x0, x1, x2, x3, x4, x5, h⟩
theorem ex7 {α0 : Type} {α1 : Type} {α2 : Type} {α3 : Type} {α4 : Type} {α5 : Type} {α6 : Type} {p : α0 → α1 → α2 → α3 → α4 → α5 → α6 → Prop} (x0 : α0) (x1 : α1) (x2 : α2) (x3 : α3) (x4 : α4) (x5 : α5) (x6 : α6) (h : p x0 x1 x2 x3 x4 x5 x6) : ∃ x0 x1 x2 x3 x4 x5 x6, p x0 x1 x2 x3 x4 x5 x6 := ⟨x0, x1, x2, x3, x4, x5, x6, h⟩
theorem ex8 {α0 : Type} {α1 : Type} {α2 : Type} {α3 : Type} {α4 : Type} {α5 : Type} {α6 : Type} {α7 : Type} {p : α0 → α1 → α2 → α3 → α4 → α5 → α6 → α7 → Prop} (x0 : α0) (x1 : α1) (x2 : α2) (x3 : α3) (x4 : α4) (x5 : α5) (x6 : α6) (x7 : α7) (h : p x0 x1 x2 x3 x4 x5 x6 x7) : ∃ x0 x1 x2 x3 x4 x5 x6 x7, p x0 x1 x2 x3 x4 x5 x6 x7 := ⟨x0, x1, x2, x3, x4, x5, x6, x7, h⟩
theorem ex9 {α0 : Type} {α1 : Type} {α2 : Type} {α3 : Type} {α4 : Type} {α5 : Type} {α6 : Type} {α7 : Type} {α8 : Type} {p : α0 → α1 → α2 → α3 → α4 → α5 → α6 → α7 → α8 → Prop} (x0 : α0) (x1 : α1) (x2 : α2) (x3 : α3) (x4 : α4) (x5 : α5) (x6 : α6) (x7 : α7) (x8 : α8) (h : p x0 x1 x2 x3 x4 x5 x6 x7 x8) : ∃ x0 x1 x2 x3 x4 x5 x6 x7 x8, p x0 x1 x2 x3 x4 x5 x6 x7 x8 := ⟨x0, x1, x2, x3, x4, x5, x6, x7, x8, h⟩
end
section
open PySem PySem.W PyProof.Rows PySem.Calls
/-! tokens never go down -/
theorem runs_toks {M : Model} {Γ : Ctx} {p : Pos} {t : Sem Fin} {fs : List Frame} {s s' : Shared} {e : End} (h : Runs M Γ p t fs s e s') : s.toks ≤ s'.toks := by
  induction h with
  | done => exact Nat.le_refl _
  | raise => exact Nat.le_refl _
  | yield => exact Nat.le_refl _
  | fresh _ ih => exact Nat.le_trans (Nat.le_succ _) ih
  | call _ _ i1 i2 => exact Nat.le_trans i1 i2
  | resumeFresh _ _ _ _ i1 i2 => exact Nat.le_trans i1 i2
  | resumeSuspended _ _ _ _ i1 i2 => exact Nat.le_trans i1 i2
  | segRet _ _ i1 i2 => exact Nat.le_trans i1 i2
  | segGen _ _ i1 i2 => exact Nat.le_trans i1 i2
  | segSuspGen _ _ _ _ i1 i2 => exact Nat.le_trans i1 i2
  | _ => assumption
theorem wakes_toks {M : Model} {Γ : Ctx} {p : Pos} {g : Nat} {r : Resume} {s s' : Shared} {res : GenResult} (h : Wakes M Γ p g r s res s') : s.toks ≤ s'.toks := by
  unfold Wakes at h
  split at h
  · exact h.elim
  · split at h
    · obtain ⟨e₁, s₁, h1, _, _, rfl⟩ := h; have h2 := runs_toks h1; exact h2
    · rw [h.2]; exact Nat.le_refl _
    · rw [h.2]; exact Nat.le_refl _
  · obtain ⟨e₁, s₁, h1, _, _, rfl⟩ := h; have h2 := runs_toks h1; exact h2
  · rw [h.2]; exact Nat.le_refl _
  · rw [h.2]; exact Nat.le_refl _
theorem wp_toks {α : Type} {M : Model} {Γ : Ctx} {t : Sem α} : ∀ {Q : α → Pos → Shared → Prop} {E : Value → Pos → Shared → Prop} {p : Pos} {s : Shared} (n : Nat), n ≤ s.toks → Sem.wp M Γ t Q E p s → Sem.wp M Γ t (fun a p' s' => n ≤ s'.toks ∧ Q a p' s') (fun e p' s' => n ≤ s'.toks ∧ E e p' s') p s := by
  induction t with
  | pure a => intro Q E p s n hn h; exact ⟨hn, h⟩
  | raise a => intro Q E p s n hn h; exact ⟨hn, h⟩
  | unsupported _ => intro Q E p s n hn h; exact h
  | finish _ => intro Q E p s n hn h; exact h
  | rule _ k ih => intro Q E p s n hn h; exact ih _ n hn h
  | «at» _ k ih => intro Q E p s n hn h; exact ih _ n hn h
  | load a _ k ih => intro Q E p s n hn h; obtain ⟨o, h1, h2⟩ := h; exact ⟨o, h1, ih _ n hn h2⟩
  | update a _ f k ih => intro Q E p s n hn h; exact ⟨h.1, ih _ n hn h.2⟩
  | loadIfAlive a k ih => intro Q E p s n hn h; exact ih _ n hn h
  | point _ k ih => intro Q E p s n hn h; exact ih _ n hn h
  | register _ _ _ => intro Q E p s n hn h; exact h
  | alloc o k ih => intro Q E p s n hn h; exact ih _ n hn h
  | fresh k ih => intro Q E p s n hn h; exact ih _ n (Nat.le_succ_of_le hn) h
  | ask k ih => intro Q E p s n hn h; exact ih _ n hn h
  | choose src m k ih => intro Q E p s n hn h; exact ⟨h.1, ih _ n hn h.2⟩
  | os q _ k ih => intro Q E p s n hn h; exact ih _ n hn h
  | call c h g l k ih => intro Q E p s n hn hh; obtain ⟨r, s', h1, h2⟩ := hh; exact ⟨r, s', h1, ih _ n (Nat.le_trans hn (runs_toks h1)) h2⟩
  | handled own k ih => intro Q E p s n hn h; exact ih _ n hn h
  | genState g k ih => intro Q E p s n hn h; obtain ⟨o, h1, h2⟩ := h; exact ⟨o, h1, ih _ n hn h2⟩
  | newGen c k ih => intro Q E p s n hn h; exact ih _ n hn h
  | resume g r _ k ih => intro Q E p s n hn h; obtain ⟨res, s', h1, h2⟩ := h; exact ⟨res, s', h1, ih _ n (Nat.le_trans hn (wakes_toks h1)) h2⟩
  | yield _ _ _ _ _ => intro Q E p s n hn h; exact h
  | stack k ih => intro Q E p s n hn h; exact ih _ n hn h
  | fork _ _ _ => intro Q E p s n hn h; exact h
  | thread k ih => intro Q E p s n hn h; exact ih _ n hn h
  | await _ _ _ _ _ _ => intro Q E p s n hn h; exact h
/-- where the count of tokens is above nought it stays so -/
theorem wp_pos {α : Type} {M : Model} {A : Around} {t : Sem α} {Q : α → Shared → Prop} {E : Value → Shared → Prop} {s : Shared} (hs : 0 < s.toks) (h : wpAny M A t (fun a s' => 0 < s'.toks → Q a s') (fun e s' => 0 < s'.toks → E e s') s) : wpAny M A t Q E s := fun Γ p hΓ =>
  Sem.wp_mono M Γ _ (fun _ _ _ h' => h'.2 h'.1) (fun _ _ _ h' => h'.2 h'.1) _ _ (wp_toks 1 hs (h Γ p hΓ))
theorem code_pos {M : Model} {A : Around} {c : Code} {R : Result → Shared → Prop} {s : Shared} (hs : 0 < s.toks) (h : codeAny M A c (fun r s' => 0 < s'.toks → R r s') s) : codeAny M A c R s := fun Γ p hc hΓ => by
  obtain ⟨r, s', h1, h2⟩ := h Γ p hc hΓ
  exact ⟨r, s', h1, h2 (Nat.lt_of_lt_of_le hs (runs_toks h1))⟩
end
section
open PySem PySem.W PyProof.Rows PySem.Calls

/-! The ledger: what is known of the heap. -/
inductive Cell where
  | obj (o : Obj)
  | ns (nm : List Str) (vs : List (Option Value))
  | seq (T : String) (vs : List Value)
  | exc (N : Addr → Prop) (tb ctx : Bool) (C : Value) (args : Value)
  | gen (g : Nat)
  | lst (vs : List Value)
  | cel (v : Option Value)

noncomputable def look : List Str → List (Option Value) → Str → Option Value
  | n :: ns, v :: vs, x => if x = n then v else look ns vs x
  | _, _, _ => none


/-- b has no such place -/
noncomputable def newIn (b : Shared) (t : Addr) : Prop := b.heap.get? t = none
noncomputable def TbOk (h : Heap) (N : Addr → Prop) (f : Bool) (tv : Value) : Prop :=
  (f = false ∧ tv = .none) ∨ ∃ t ot tvs, tv = .ref t ∧ N t ∧ h.get? t = some ot ∧ ot.cls = .type "traceback" ∧ ot.data = .fields tvs ∧ 3 < tvs.size

noncomputable def Cell.At (h : Heap) (a : Addr) : Cell → Prop
  | .obj o => h.get? a = some o
  | .ns nm vs => h.Ns a (look nm vs)
  | .seq T vs => ∃ n, h.get? a = some (seqObj T vs.toArray n)
  | .exc n f k C args => ∃ o vs tv, h.get? a = some o ∧ o.cls = C ∧ o.data = .fields vs ∧ 6 ≤ vs.size ∧ vs[0]? = some args ∧ vs[1]? = some tv ∧ (k = true → vs[2]? = some .none) ∧ TbOk h n f tv
  | .gen g => h.IsGen a g
  | .lst vs => h.IsList a vs.toArray
  | .cel v => h.IsCell a v

noncomputable def Cell.Plain : Cell → Prop
  | .obj o => o.cls ≠ .type "traceback"
  | .ns _ _ => True
  | .seq T _ => T ≠ "traceback"
  | .exc _ _ _ C _ => C ≠ .type "traceback"
  | .gen _ => True
  | .lst _ => True
  | .cel _ => True

/-- no listed object is a traceback -/
theorem Cell.At.notTb {h : Heap} {a : Addr} {c : Cell} (H : c.At h a) (p : c.Plain) {ot : Obj} {tvs : Array Value} (ht : h.get? a = some ot) (hc : ot.cls = .type "traceback") (hd : ot.data = .fields tvs) : False := by
  cases c with
  | obj o => have e : o = ot := Option.some.inj (H.symm.trans ht); subst e; exact p hc
  | ns nm vs =>
    refine ea3_3 H fun o es ep ho hod _ => ?_
    try clear H
    have e : o = ot := Option.some.inj (ho.symm.trans ht)
    subst e
    rw [hd] at hod; cases hod
  | seq T vs =>
    refine ea1_1 H fun n ho => ?_
    try clear H
    have e : seqObj T vs.toArray n = ot := Option.some.inj (ho.symm.trans ht)
    subst e
    exact p (by injection hc)
  | exc n f k C args =>
    refine ea3_3 H fun o vs tv ho hC _ => ?_
    try clear H
    have e : o = ot := Option.some.inj (ho.symm.trans ht)
    subst e
    exact p (hC.symm.trans hc)
  | gen g =>
    refine ea3_3 H fun o nm qn ho hC _ => ?_
    try clear H
    have e : o = ot := Option.some.inj (ho.symm.trans ht)
    subst e
    rw [hC] at hc
    injection hc with hc
    exact absurd hc (by decide)
  | lst vs =>
    refine ea1_3 H fun o ho hC _ => ?_
    try clear H
    have e : o = ot := Option.some.inj (ho.symm.trans ht)
    subst e
    rw [hC] at hc
    injection hc with hc
    exact absurd hc (by decide)
  | cel v =>
    refine ea1_2 H fun o ho hod => ?_
    try clear H
    have e : o = ot := Option.some.inj (ho.symm.trans ht)
    subst e
    rw [hd] at hod; cases hod

/-- h' keeps what h has at b, but for the one place a, that is no traceback in h -/
theorem Cell.At.move {h h' : Heap} {b : Addr} {c : Cell} (H : c.At h b) (hb : ∀ o, h.get? b = some o → h'.get? b = some o)
    (ht : ∀ t ot tvs, h.get? t = some ot → ot.cls = .type "traceback" → ot.data = .fields tvs → 3 < tvs.size → ∃ ot' tvs', h'.get? t = some ot' ∧ ot'.cls = .type "traceback" ∧ ot'.data = .fields tvs' ∧ 3 < tvs'.size) : c.At h' b := by
  cases c with
  | obj o => exact hb _ H
  | ns nm vs => obtain ⟨o, es, ep, ho, r⟩ := H; exact ⟨o, es, ep, hb _ ho, r⟩
  | seq T vs => obtain ⟨n, ho⟩ := H; exact ⟨n, hb _ ho⟩
  | exc n f k C args =>
    refine ea3_8 H fun o vs tv ho hC hd hs h0 h1 hk2 tb => ?_
    try clear H
    refine ex3 o vs tv ⟨hb _ ho, hC, hd, hs, h0, h1, hk2, ?_⟩
    rcases tb with tb | ⟨t, ot, tvs, e1, e0, e2, e3, e4, e5⟩
    · exact .inl tb
    · refine ea2_4 (ht _ _ _ e2 e3 e4 e5) fun ot' tvs' e2' e3' e4' e5' => ?_
      exact .inr ⟨t, ot', tvs', e1, e0, e2', e3', e4', e5'⟩
  | gen g =>
    refine ea3_2 H fun o nm qn ho r => ?_
    try clear H
    exact ex3 o nm qn ⟨hb _ ho, r⟩
  | lst vs =>
    refine ea1_2 H fun o ho r => ?_
    try clear H
    exact ⟨o, hb _ ho, r⟩
  | cel v =>
    refine ea1_2 H fun o ho r => ?_
    try clear H
    exact ⟨o, hb _ ho, r⟩

structure W (b : Shared) (X : List Addr) (l : List (Addr × Cell)) (lg : List (Nat × GenState)) (s : Shared) : Prop where
  keep : ∀ a o, b.heap.get? a = some o → a ∉ X → s.heap.get? a = some o
  xs : ∀ a ∈ X, ∃ o, s.heap.get? a = some o
  cells : ∀ p ∈ l, p.2.At s.heap p.1
  nd : (l.map (·.1)).Nodup
  own : ∀ p ∈ l, p.1 ∈ X ∨ newIn b p.1
  plain : ∀ p ∈ l, p.2.Plain
  gens : ∀ p ∈ lg, s.gens[p.1]? = some p.2
  gnd : (lg.map (·.1)).Nodup
  bare : AllBare s.gens
  os : s.os = b.os
  pos : 0 < s.toks

section
variable {b : Shared} {X : List Addr} {l l' : List (Addr × Cell)} {lg : List (Nat × GenState)} {s s' : Shared}

theorem W.of (H : W b X l lg s) (h1 : s'.heap = s.heap) (h2 : s'.gens = s.gens) (h3 : s'.os = s.os) (ht : 0 < s.toks → 0 < s'.toks := by first | exact fun h => h | exact fun _ => Nat.succ_pos _ | (intro h; omega)) : W b X l lg s' := by
  obtain ⟨a1, a2, a3, a4, a5, a6, a7, a8, a9, a10, a11⟩ := H
  exact ⟨by rw [h1]; exact a1, by rw [h1]; exact a2, by rw [h1]; exact a3, a4, a5, a6, by rw [h2]; exact a7, a8, by rw [h2]; exact a9, h3.trans a10, ht a11⟩
theorem W.tok (H : W b X l lg s) (t : Nat) (ht : 0 < s.toks → 0 < t := by first | exact fun h => h | exact fun _ => Nat.succ_pos _ | (intro h; omega)) : W b X l lg { s with toks := t } := H.of rfl rfl rfl ht

theorem W.lt (H : W b X l lg s) {p : Addr × Cell} (hp : p ∈ l) : p.1 < s.heap.objs.size := by
  have := H.cells p hp
  obtain ⟨a, c⟩ := p
  cases c with
  | obj o => exact Heap.lt_size this
  | ns nm vs => exact Heap.Ns.lt (show s.heap.Ns a (look nm vs) from this)
  | seq T vs => obtain ⟨n, ho⟩ := this; exact Heap.lt_size ho
  | exc n f k C x => obtain ⟨o, _, _, ho, _⟩ := this; exact Heap.lt_size ho
  | gen g => obtain ⟨o, _, _, ho, _⟩ := this; exact Heap.lt_size ho
  | lst vs => obtain ⟨o, ho, _⟩ := this; exact Heap.lt_size ho
  | cel v => obtain ⟨o, ho, _⟩ := this; exact Heap.lt_size ho

theorem Cell.At.live {h : Heap} {a : Addr} {c : Cell} (H : c.At h a) : ∃ o, h.get? a = some o := by
  cases c with
  | obj o => exact ⟨o, H⟩
  | ns nm vs => obtain ⟨o, _, _, ho, _⟩ := H; exact ⟨o, ho⟩
  | seq T vs => obtain ⟨n, ho⟩ := H; exact ⟨_, ho⟩
  | exc N f k C args => obtain ⟨o, _, _, ho, _⟩ := H; exact ⟨o, ho⟩
  | gen g => obtain ⟨o, _, _, ho, _⟩ := H; exact ⟨o, ho⟩
  | lst vs => obtain ⟨o, ho, _⟩ := H; exact ⟨o, ho⟩
  | cel v => obtain ⟨o, ho, _⟩ := H; exact ⟨o, ho⟩
/-- the next free place is new -/
theorem W.fresh (H : W b X l lg s) : newIn b s.heap.objs.size := by
  show b.heap.get? s.heap.objs.size = none
  cases q : b.heap.get? s.heap.objs.size with
  | none => rfl
  | some o =>
    by_cases hx : s.heap.objs.size ∈ X
    · refine ea1_1 (H.xs _ hx) fun o' ho' => ?_
      exact absurd (Heap.lt_size ho') (Nat.lt_irrefl _)
    · exact absurd (Heap.lt_size (H.keep _ _ q hx)) (Nat.lt_irrefl _)
/-- a ledger entry is changed; the heap elsewhere stands -/
theorem W.change {a : Addr} {c c' : Cell} {h' : Heap} {t' : Nat} {l₁ l₂ : List (Addr × Cell)} (H : W b X (l₁ ++ (a, c) :: l₂) lg s) (hs : Heap.SameBut a s.heap h') (hc : c'.At h' a) (hpl : c'.Plain) (ht : 0 < s.toks → 0 < t' := by first | exact fun h => h | exact fun _ => Nat.succ_pos _ | (intro h; omega)) :
    W b X (l₁ ++ (a, c') :: l₂) lg { s with heap := h', toks := t' } := by
  have hm : (a, c) ∈ l₁ ++ (a, c) :: l₂ := List.mem_append_right _ (.head _)
  have hnot : ∀ o, b.heap.get? a = some o → a ∈ X := fun o ho => (H.own _ hm).resolve_right fun q => by rw [show b.heap.get? a = none from q] at ho; cases ho
  have nd := H.nd
  rw [List.map_append, List.map_cons] at nd
  have na : ∀ p ∈ l₁ ++ l₂, p.1 ≠ a := by
    intro p hp e
    rcases List.mem_append.mp hp with q | q
    · exact (List.nodup_append.mp nd).2.2 p.1 (List.mem_map_of_mem q) a (.head _) e
    · have := (List.nodup_cons.mp (List.nodup_append.mp nd).2.1).1
      exact this (List.mem_map.mpr ⟨p, q, e⟩)
  have tb : ∀ t ot tvs, s.heap.get? t = some ot → ot.cls = .type "traceback" → ot.data = .fields tvs → 3 < tvs.size → ∃ ot' tvs', h'.get? t = some ot' ∧ ot'.cls = .type "traceback" ∧ ot'.data = .fields tvs' ∧ 3 < tvs'.size := fun t ot tvs e1 e2 e3 e4 => by
    have : t ≠ a := fun e => by subst e; exact (H.cells _ hm).notTb (H.plain _ hm) e1 e2 e3
    exact ex2 ot tvs ⟨(hs.2 t this).trans e1, e2, e3, e4⟩
  have mem' : ∀ p ∈ l₁ ++ (a, c') :: l₂, p = (a, c') ∨ (p ∈ l₁ ++ l₂ ∧ p ∈ l₁ ++ (a, c) :: l₂) := fun p hp => by
    rcases List.mem_append.mp hp with q | q
    · exact .inr ⟨List.mem_append_left _ q, List.mem_append_left _ q⟩
    · rcases List.mem_cons.mp q with q | q
      · exact .inl q
      · exact .inr ⟨List.mem_append_right _ q, List.mem_append_right _ (.tail _ q)⟩
  refine ⟨fun x o e nx => ?_, fun x hx => ?_, fun p hp => ?_, by rw [List.map_append, List.map_cons]; exact nd, fun p hp => ?_, fun p hp => ?_, H.gens, H.gnd, H.bare, H.os, ht H.pos⟩
  · have : x ≠ a := fun e' => by subst e'; exact nx (hnot o e)
    exact (hs.2 x this).trans (H.keep x o e nx)
  · by_cases e : x = a
    · subst e; exact hc.live
    · refine ea1_1 (H.xs x hx) fun o ho => ?_
      exact ⟨o, (hs.2 x e).trans ho⟩
  · rcases mem' p hp with rfl | ⟨q1, q2⟩
    · exact hc
    · exact (H.cells p q2).move (fun o e => (hs.2 _ (na p q1)).trans e) tb
  · rcases mem' p hp with rfl | ⟨_, q2⟩
    · exact H.own (a, c) hm
    · exact H.own p q2
  · rcases mem' p hp with rfl | ⟨_, q2⟩
    · exact hpl
    · exact H.plain p q2

/-- growth alone -/
theorem W.grow {h' : Heap} {t' : Nat} (H : W b X l lg s) (hk : ∀ a o, s.heap.get? a = some o → h'.get? a = some o) (ht : 0 < s.toks → 0 < t' := by first | exact fun h => h | exact fun _ => Nat.succ_pos _ | (intro h; omega)) : W b X l lg { s with heap := h', toks := t' } :=
  ⟨fun a o e nx => hk _ _ (H.keep a o e nx), fun a ha => let ⟨o, ho⟩ := H.xs a ha; ⟨o, hk _ _ ho⟩, fun p hp => (H.cells p hp).move (fun o e => hk _ _ e) (fun t ot tvs e e2 e3 e4 => ⟨ot, tvs, hk _ _ e, e2, e3, e4⟩), H.nd, H.own, H.plain, H.gens, H.gnd, H.bare, H.os, ht H.pos⟩

/-- a new object, at a place that the old heap has not -/
theorem W.cons {a : Addr} {c : Cell} (H : W b X l lg s) (hc : c.At s.heap a) (hp : c.Plain) (ho : newIn b a) (hn : ∀ p ∈ l, p.1 ≠ a) : W b X ((a, c) :: l) lg s :=
  ⟨H.keep, H.xs, fun p hp' => by
      rcases List.mem_cons.mp hp' with rfl | q
      · exact hc
      · exact H.cells p q,
    by
      rw [List.map_cons]
      refine List.nodup_cons.mpr ⟨fun hm => ?_, H.nd⟩
      refine ea1_2 (List.mem_map.mp hm) fun p hp' e => ?_
      exact hn p hp' e,
    fun p hp' => by
      rcases List.mem_cons.mp hp' with rfl | q
      · exact .inr ho
      · exact H.own p q,
    fun p hp' => by
      rcases List.mem_cons.mp hp' with rfl | q
      · exact hp
      · exact H.plain p q,
    H.gens, H.gnd, H.bare, H.os, H.pos⟩

theorem W.push {o : Obj} {c : Cell} {t' : Nat} (H : W b X l lg s) (hf : o.isFreed = false) (hc : ∀ h' : Heap, h'.get? s.heap.objs.size = some o → c.At h' s.heap.objs.size) (hp : c.Plain) (ht : 0 < s.toks → 0 < t' := by first | exact fun h => h | exact fun _ => Nat.succ_pos _ | (intro h; omega)) :
    W b X ((s.heap.objs.size, c) :: l) lg { s with heap := s.heap.push o, toks := t' } :=
  (H.grow (h' := s.heap.push o) (t' := t') (fun a o' e => Heap.get?_push_of_some _ e) ht).cons (hc _ (Heap.get?_push_size _ hf)) hp H.fresh
    fun p hp' e => absurd (H.lt hp') (by rw [e]; exact Nat.lt_irrefl _)

theorem W.sub (H : W b X l lg s) (hm : ∀ p ∈ l', p ∈ l) (hn : (l'.map (·.1)).Nodup) : W b X l' lg s :=
  ⟨H.keep, H.xs, fun p hp => H.cells p (hm p hp), hn, fun p hp => H.own p (hm p hp), fun p hp => H.plain p (hm p hp), H.gens, H.gnd, H.bare, H.os, H.pos⟩
theorem W.tail {p : Addr × Cell} (H : W b X (p :: l) lg s) : W b X l lg s :=
  H.sub (fun q hq => .tail _ hq) (by have := H.nd; rw [List.map_cons] at this; exact (List.nodup_cons.mp this).2)

/-- an old object that is not of those that may change -/
theorem W.old (H : W b X l lg s) {a : Addr} {o : Obj} (e : b.heap.get? a = some o) (nx : a ∉ X) : s.heap.get? a = some o := H.keep a o e nx
end

/-! The generators' states. -/
theorem getElem?_setG {gens : Array GenState} {g : Nat} {gs gs' : GenState} (h : gens[g]? = some gs) : (gens.setIfInBounds g gs')[g]? = some gs' := by
  obtain ⟨hl, _⟩ := Array.getElem?_eq_some_iff.mp h
  rw [Array.getElem?_setIfInBounds_self_of_lt hl]
theorem allBare_set {gens : Array GenState} {g : Nat} {gs' : GenState} (h : AllBare gens) (hb : gs'.bare = true) : AllBare (gens.setIfInBounds g gs') := by
  intro y hy
  rcases Array.mem_or_eq_of_mem_setIfInBounds hy with q | q
  · exact h y q
  · rw [q]; exact hb

/-! Places in lists, found by unification. -/
inductive Nth {α : Type} : List α → Nat → α → Prop
  | zero {a : α} {l : List α} : Nth (a :: l) 0 a
  | succ {a c : α} {l : List α} {n : Nat} : Nth l n c → Nth (a :: l) (n + 1) c
theorem Nth.mem {α : Type} {l : List α} {n : Nat} {a : α} (h : Nth l n a) : a ∈ l := by
  induction h with
  | zero => exact .head _
  | succ _ ih => exact .tail _ ih
/-- l with a in place of c is l' -/
inductive Put {α : Type} : List α → α → α → List α → Prop
  | zero {a c : α} {l : List α} : Put (a :: l) a c (c :: l)
  | succ {x a c : α} {l l' : List α} : Put l a c l' → Put (x :: l) a c (x :: l')
theorem Put.split {α : Type} {l l' : List α} {a c : α} (h : Put l a c l') : ∃ l₁ l₂, l = l₁ ++ a :: l₂ ∧ l' = l₁ ++ c :: l₂ := by
  induction h with
  | zero => exact ⟨[], _, rfl, rfl⟩
  | succ _ ih => obtain ⟨l₁, l₂, rfl, rfl⟩ := ih; exact ⟨_ :: l₁, l₂, rfl, rfl⟩
theorem W.put {b : Shared} {X : List Addr} {l l' : List (Addr × Cell)} {lg : List (Nat × GenState)} {s : Shared} {a : Addr} {c c' : Cell} {h' : Heap} {t' : Nat} (H : W b X l lg s) (hl : Put l (a, c) (a, c') l')
    (hs : Heap.SameBut a s.heap h') (hc : c'.At h' a) (hp : c'.Plain) (ht : 0 < s.toks → 0 < t' := by first | exact fun h => h | exact fun _ => Nat.succ_pos _ | (intro h; omega)) : W b X l' lg { s with heap := h', toks := t' } := by
  refine ea2_2 hl.split fun l₁ l₂ e_1 e_2 => ?_
  subst e_1
  subst e_2
  exact H.change hs hc hp ht

theorem W.setGen {b : Shared} {X : List Addr} {l : List (Addr × Cell)} {lg lg' : List (Nat × GenState)} {s : Shared} {g : Nat} {gs gs' : GenState} (H : W b X l lg s) (hl : Put lg (g, gs) (g, gs') lg') (hb : gs'.bare = true) : W b X l lg' (s.setGen g gs') := by
  refine ea2_2 hl.split fun l₁ l₂ e_3 e_4 => ?_
  subst e_3
  subst e_4
  have hm : (g, gs) ∈ l₁ ++ (g, gs) :: l₂ := List.mem_append_right _ (.head _)
  have nd := H.gnd
  rw [List.map_append, List.map_cons] at nd
  have na : ∀ p ∈ l₁ ++ l₂, p.1 ≠ g := by
    intro p hp e
    rcases List.mem_append.mp hp with q | q
    · exact (List.nodup_append.mp nd).2.2 p.1 (List.mem_map_of_mem q) g (.head _) e
    · have := (List.nodup_cons.mp (List.nodup_append.mp nd).2.1).1
      exact this (List.mem_map.mpr ⟨p, q, e⟩)
  refine ⟨H.keep, H.xs, H.cells, H.nd, H.own, H.plain, fun p hp => ?_, by rw [List.map_append, List.map_cons]; exact nd, allBare_set H.bare hb, H.os, H.pos⟩
  rcases List.mem_append.mp hp with q | q
  · exact (Array.getElem?_setIfInBounds_ne (Ne.symm (na p (List.mem_append_left _ q)))).trans (H.gens p (List.mem_append_left _ q))
  · rcases List.mem_cons.mp q with rfl | q
    · exact getElem?_setG (H.gens _ hm)
    · exact (Array.getElem?_setIfInBounds_ne (Ne.symm (na p (List.mem_append_right _ q)))).trans (H.gens p (List.mem_append_right _ (.tail _ q)))
theorem W.newGen {b : Shared} {X : List Addr} {l : List (Addr × Cell)} {lg : List (Nat × GenState)} {s : Shared} {c : Code} (H : W b X l lg s) : W b X l ((s.gens.size, .fresh c) :: lg) { s with gens := s.gens.push (.fresh c) } := by
  have lt : ∀ p ∈ lg, p.1 < s.gens.size := fun p hp => (Array.getElem?_eq_some_iff.mp (H.gens p hp)).1
  refine ⟨H.keep, H.xs, H.cells, H.nd, H.own, H.plain, fun p hp => ?_, ?_, fun y hy => ?_, H.os, H.pos⟩
  · rcases List.mem_cons.mp hp with rfl | q
    · exact Array.getElem?_push_size
    · exact (Array.getElem?_push_lt (lt p q)).trans (by rw [← Array.getElem?_eq_getElem (lt p q)]; exact H.gens p q)
  · rw [List.map_cons]
    refine List.nodup_cons.mpr ⟨fun hm => ?_, H.gnd⟩
    refine ea1_2 (List.mem_map.mp hm) fun p hp e => ?_
    exact absurd (lt p hp) (by rw [e]; exact Nat.lt_irrefl _)
  · rcases Array.mem_push.mp hy with q | q
    · exact H.bare y q
    · rw [q]; rfl

/-- a name's place in a frame -/
inductive Nth2 : List Str → List (Option Value) → Str → Option Value → Prop
  | zero {x : Str} {v : Option Value} {ns : List Str} {vs : List (Option Value)} : Nth2 (x :: ns) (v :: vs) x v
  | succ {y x : Str} {u v : Option Value} {ns : List Str} {vs : List (Option Value)} : Nth2 ns vs x v → Nth2 (y :: ns) (u :: vs) x v
inductive Put2 : List Str → List (Option Value) → Str → Value → List (Option Value) → Prop
  | zero {x : Str} {u : Option Value} {v : Value} {ns : List Str} {vs : List (Option Value)} : Put2 (x :: ns) (u :: vs) x v (some v :: vs)
  | succ {y x : Str} {u : Option Value} {v : Value} {ns : List Str} {vs vs' : List (Option Value)} : Put2 ns vs x v vs' → Put2 (y :: ns) (u :: vs) x v (u :: vs')
theorem Nth2.mem {ns : List Str} {vs : List (Option Value)} {x : Str} {v : Option Value} (h : Nth2 ns vs x v) : x ∈ ns := by
  induction h with
  | zero => exact .head _
  | succ _ ih => exact .tail _ ih
theorem Put2.mem {ns : List Str} {vs vs' : List (Option Value)} {x : Str} {v : Value} (h : Put2 ns vs x v vs') : x ∈ ns := by
  induction h with
  | zero => exact .head _
  | succ _ ih => exact .tail _ ih
theorem Nth2.look {ns : List Str} {vs : List (Option Value)} {x : Str} {v : Option Value} (h : Nth2 ns vs x v) (nd : ns.Nodup) : look ns vs x = v := by
  induction h with
  | zero => exact if_pos rfl
  | @succ y x u v ns vs q ih =>
    have nd' := List.nodup_cons.mp nd
    have : ¬ x = y := fun e => nd'.1 (e ▸ q.mem)
    exact (if_neg this).trans (ih nd'.2)
theorem Put2.look {ns : List Str} {vs vs' : List (Option Value)} {x : Str} {v : Value} (h : Put2 ns vs x v vs') (nd : ns.Nodup) : look ns vs' = fun y => if y = x then some v else look ns vs y := by
  induction h with
  | @zero x u v ns vs =>
    funext y
    show (if y = x then some v else Mine.look ns vs y) = if y = x then some v else (if y = x then u else Mine.look ns vs y)
    by_cases e : y = x
    · rw [if_pos e, if_pos e]
    · rw [if_neg e, if_neg e, if_neg e]
  | @succ y x u v ns vs vs' q ih =>
    have nd' := List.nodup_cons.mp nd
    have nyx : ¬ x = y := fun e => nd'.1 (e ▸ q.mem)
    funext z
    show (if z = y then u else Mine.look ns vs' z) = if z = x then some v else (if z = y then u else Mine.look ns vs z)
    rw [ih nd'.2]
    dsimp only
    by_cases e1 : z = y
    · have : ¬ z = x := fun e => nyx (e.symm.trans e1)
      rw [if_pos e1, if_neg this, if_pos e1]
    · rw [if_neg e1]
      by_cases e2 : z = x
      · rw [if_pos e2, if_pos e2]
      · rw [if_neg e2, if_neg e2, if_neg e1]
end
section
open PySem PySem.W PyProof.Rows PySem.Calls

noncomputable abbrev KK (w : World) : Frag := hd.heap_39 w.params
noncomputable abbrev prg : Program := PySem.Challenge.rw_nb0187_01.row.toRowW.prog

noncomputable def fdOf (w : World) (a : Addr) : FuncData := match (KK w).lookup a with
  | some ⟨_, _, .func fd, _⟩ => fd
  | _ => default
noncomputable def bodyOf (w : World) (a : Addr) : List Stmt := match (fdOf w a).body with
  | .stmts b => b
  | _ => []

structure Glob (w : World) (b : Shared) (X : List Addr) : Prop where
  kin : (KK w).In b.heap
  kx : ∀ a o, (KK w).lookup a = some o → a ∉ X
  gns : ∃ mg, b.heap.Ns mainGlobals mg
  gx : mainGlobals ∉ X
  bns : ∃ mb, b.heap.Ns builtinsNs mb ∧ ∀ x : Str, x ≠ "__name__" → mb x = bootBuiltins x
  bx : builtinsNs ∉ X
  lim : b.heap.NoLimit
  lx : cStatics ∉ X

section
variable {w : World} {b : Shared} {X : List Addr} {l : List (Addr × Cell)} {lg : List (Nat × GenState)} {s : Shared}
theorem W.ns (H : W b X l lg s) {a : Addr} {m : Str → Option Value} (e : b.heap.Ns a m) (nx : a ∉ X) : s.heap.Ns a m := by
  refine ea3_2 e fun o es ep ho r => ?_
  try clear e
  exact ex3 o es ep ⟨H.keep _ _ ho nx, r⟩
theorem Glob.at_ (G : Glob w b X) (H : W b X l lg s) {a : Addr} {o : Obj} (e : (KK w).lookup a = some o) : s.heap.get? a = some o := H.keep _ _ (G.kin _ _ e) (G.kx _ _ e)
theorem Glob.in_ (G : Glob w b X) (H : W b X l lg s) : (KK w).In s.heap := fun _ _ e => G.at_ H e
theorem Glob.nolimit (G : Glob w b X) (H : W b X l lg s) : s.heap.NoLimit := by
  refine ea1_2 G.lim fun mc hn hl => ?_
  exact ⟨mc, H.ns hn G.lx, hl⟩
theorem mg_none {K : Frag} {h : Heap} {mg : Str → Option Value} {n : Str} (X : K.In h) (G : h.Ns mainGlobals mg) (e : nsIn K mainGlobals n = some none) : mg n = none := ns_none_of X G e
theorem Glob.main (G : Glob w b X) (H : W b X l lg s) {x : Str} {v : Value} (e : nsIn (KK w) mainGlobals x = some (some v)) : ∃ mg, s.heap.Ns mainGlobals mg ∧ mg x = some v := by
  refine ea1_1 G.gns fun mg hg => ?_
  exact ⟨mg, H.ns hg G.gx, mg_of G.kin hg e⟩
theorem Glob.builtin (G : Glob w b X) (H : W b X l lg s) {x : Str} {v : Value} (e : nsIn (KK w) mainGlobals x = some none) (e' : bootBuiltins x = some v) (hx : x ≠ "__name__") :
    ∃ mg mb, s.heap.Ns mainGlobals mg ∧ mg x = none ∧ s.heap.Ns builtinsNs mb ∧ mb x = some v := by
  refine ea1_1 G.gns fun mg hg => ?_
  refine ea1_2 G.bns fun mb hb hv => ?_
  exact ex2 mg mb ⟨H.ns hg G.gx, mg_none G.kin hg e, H.ns hb G.bx, (hv x hx).trans e'⟩
end

/-! A def's frame. -/
structure EnvOk (env : Env) (L : Addr) (nm gl : List Str) : Prop where
  locals : env.locals = L
  frame : env.frame = some L
  kind : env.scope.kind = .function
  globals : env.globals = mainGlobals
  builtins : env.builtins = builtinsNs
  loc : ∀ x ∈ nm, env.kindOf x = some .local
  glo : ∀ x ∈ gl, env.kindOf x = some .globalImplicit
  nd : nm.Nodup
  dbg : ∀ x ∈ nm ++ gl, (x == ("__debug__" : Str)) = false

noncomputable def scopeOk (sc : Scope) (nm gl : List Str) : Bool :=
  sc.kind == .function && nm.all (fun x => sc.names.lookup x == some .local) && gl.all (fun x => sc.names.lookup x == some .globalImplicit) && decide nm.Nodup && (nm ++ gl).all (fun x => !(x == ("__debug__" : Str)))
noncomputable def noCells (sc : Scope) : Bool := sc.names.all (fun x => x.2 != .cell)

structure FnOk (w : World) (a : Addr) (nm gl : List Str) : Prop where
  at_ : ((KK w).lookup a).map Obj.data = some (.func (fdOf w a))
  code : codeIn (KK w) (fdOf w a).code (fdOf w a).qualname = true
  sc : scopeOk (fdOf w a).scope nm gl = true
  co : (fdOf w a).scope.isCoroutine = false
  cl : (fdOf w a).closure = []
  gl : (fdOf w a).globals = mainGlobals
  bl : (fdOf w a).builtins = builtinsNs
  body : (fdOf w a).body = .stmts (bodyOf w a)

theorem lookup_of_all {names : List (Str × NameKind)} {k : NameKind} {nm : List Str} (h : nm.all (fun x => names.lookup x == some k) = true) : ∀ x ∈ nm, names.lookup x = some k := fun x hx => by
  simpa using List.all_eq_true.mp h x hx

theorem look_none : ∀ (others : List Str) (x : Str), look others (others.map fun _ => none) x = none
  | [], _ => rfl
  | o :: r, x => by
    show (if x = o then none else look r (r.map fun _ => none) x) = none
    split
    · rfl
    · exact look_none r x
theorem look_binds : ∀ {ps others : List Str} {vals : List Value}, (ps ++ others).Nodup → ps.length = vals.length →
    look (ps ++ others) (vals.map some ++ others.map fun _ => none) = fun x => (ps.zip vals).reverse.lookup x
  | [], others, [], _, _ => by
    funext x
    exact look_none others x
  | p :: ps, others, v :: vals, nd, e => by
    have nd' := List.nodup_cons.mp (show (p :: (ps ++ others)).Nodup from nd)
    have ih := look_binds nd'.2 (by simpa using e)
    funext x
    show (if x = p then some v else look (ps ++ others) (vals.map some ++ others.map fun _ => none) x) = _
    rw [ih]
    have e1 : ((p :: ps).zip (v :: vals)).reverse = (ps.zip vals).reverse ++ [(p, v)] := by simp
    show _ = (((p :: ps).zip (v :: vals)).reverse).lookup x
    rw [e1, List.lookup_append]
    by_cases q : x = p
    · subst q
      have : (ps.zip vals).reverse.lookup x = none := by
        rw [List.lookup_eq_none_iff]
        intro y hy
        rw [List.mem_reverse] at hy
        have : y.1 ∈ ps := (List.of_mem_zip hy).1
        have ne : ¬ x = y.1 := fun e2 => nd'.1 (List.mem_append_left _ (e2 ▸ this))
        simpa using ne
      rw [if_pos rfl, this]
      simp
    · rw [if_neg q]
      have : (x == p) = false := by simpa using q
      have e2 : [(p, v)].lookup x = none := by simp [List.lookup, this]
      rw [e2, Option.or_none]

section
variable {w : World} {b : Shared} {X : List Addr} {l : List (Addr × Cell)} {lg : List (Nat × GenState)} {s : Shared} {A : Around} {Q E : Value → Shared → Prop}

/-- a plain function is called: its frame is the newest entry -/
theorem call_fn {a : Addr} {fd : FuncData} {body : List Stmt} {o : Obj} (ps others : List Str) {nm gl : List Str} {vals : List Value} {vs : List (Option Value)} (hnm : ps ++ others = nm) (hvs : (vals.map some ++ others.map fun _ => none) = vs) (G : Glob w b X) (H : W b X l lg s)
    (ho : s.heap.get? a = some o) (hod : o.data = .func fd) (hcode : s.heap.CodeRec fd.code fd.qualname) (hsc : scopeOk fd.scope nm gl = true) (hco : fd.scope.isCoroutine = false) (hgl : fd.globals = mainGlobals) (hbl : fd.builtins = builtinsNs) (hbody : fd.body = .stmts body)
    (hc : noCells fd.scope = true) (hg : fd.scope.isGenerator = false) (hb : bindArgs fd ⟨vals, []⟩ = pure (ps.zip vals)) (hlen : ps.length = vals.length) (hA : A.depth < recursionLimit)
    (h : ∀ L env s', EnvOk env L nm gl → env.scope = fd.scope → env.cells = fd.closure → newIn b L → W b X ((L, .ns nm vs) :: l) lg s' →
      wpAny (model prg w) (A.deeper env) (execs body env) (fun fl s'' => Q (match fl with | .ret v => v | _ => .none) s'')
        (fun e s'' => wpAny (model prg w) (A.deeper env) (leaving env e) (fun _ s3 => E e s3) (fun e' s3 => E e' s3) s'') s') :
    wpAny (model prg w) A (call (.ref a) vals) Q E s := by
  subst hnm hvs
  unfold scopeOk at hsc
  simp only [Bool.and_eq_true, beq_iff_eq, decide_eq_true_eq] at hsc
  refine ea0_2 hsc fun q_1 hdb => ?_
  try clear hsc
  obtain ⟨⟨⟨hk, hloc⟩, hgl'⟩, hnd⟩ := q_1
  have hloc' := lookup_of_all hloc
  refine wpAny_call (codeAny_call_def (fd := fd) (body := body) (binds := ps.zip vals) hA ho hod (G.nolimit H) hcode hbody (fun M A' E' Q' q => by rw [hb]; exact wpAny_pure q) (fun x hx => ?_) (fun x hx => ?_) (fun h₁ hns hkeep => ?_) hco hg hk)
  · have := List.all_eq_true.mp hc x hx
    simpa using this
  · exact hloc' x.1 (List.mem_append_left _ (List.of_mem_zip hx).1)
  · have H1 : W b X l lg { s with heap := h₁, toks := s.toks + (ps.zip vals).length } := H.grow hkeep
    have H2 : W b X ((s.heap.objs.size, .ns (ps ++ others) (vals.map some ++ others.map fun _ => none)) :: l) lg { s with heap := h₁, toks := s.toks + (ps.zip vals).length } :=
      H1.cons (by show h₁.Ns _ _; rw [look_binds hnd hlen]; exact hns) trivial H.fresh fun p hp e => absurd (H.lt hp) (by rw [e]; exact Nat.lt_irrefl _)
    have EO : EnvOk (callEnv fd s.heap.objs.size a) s.heap.objs.size (ps ++ others) gl :=
      ⟨rfl, rfl, hk, hgl, hbl, hloc', lookup_of_all hgl', hnd, fun x hx => by simpa using List.all_eq_true.mp hdb x hx⟩
    exact h _ _ _ EO rfl rfl H.fresh H2

/-- a def of the written part -/
theorem call_def {a : Addr} (ps others : List Str) {nm gl : List Str} {vals : List Value} {vs : List (Option Value)} (hnm : ps ++ others = nm) (hvs : (vals.map some ++ others.map fun _ => none) = vs) (G : Glob w b X) (H : W b X l lg s) (f : FnOk w a nm gl) (hc : noCells (fdOf w a).scope = true) (hg : (fdOf w a).scope.isGenerator = false)
    (hb : bindArgs (fdOf w a) ⟨vals, []⟩ = pure (ps.zip vals)) (hlen : ps.length = vals.length) (hA : A.depth < recursionLimit)
    (h : ∀ L env s', EnvOk env L nm gl → newIn b L → W b X ((L, .ns nm vs) :: l) lg s' →
      wpAny (model prg w) (A.deeper env) (execs (bodyOf w a) env) (fun fl s'' => Q (match fl with | .ret v => v | _ => .none) s'')
        (fun e s'' => wpAny (model prg w) (A.deeper env) (leaving env e) (fun _ s3 => E e s3) (fun e' s3 => E e' s3) s'') s') :
    wpAny (model prg w) A (call (.ref a) vals) Q E s := by
  refine ea1_2 (Option.map_eq_some_iff.mp f.at_) fun o ho hod => ?_
  exact call_fn ps others hnm hvs G H (G.at_ H ho) hod (codeRec_of (G.in_ H) f.code) f.sc f.co f.gl f.bl f.body hc hg hb hlen hA fun L env s' EV _ _ hn H' => h L env s' EV hn H'
end
end
section
open PySem PySem.W PyProof.Rows PySem.Calls
section
variable {w : World} {b : Shared} {X : List Addr} {l l' : List (Addr × Cell)} {lg : List (Nat × GenState)} {s : Shared} {A : Around} {Q E : Value → Shared → Prop} {env : Env} {L : Addr} {nm gl : List Str} {vs vs' : List (Option Value)} {i : Nat} {x : Str} {v : Value} {pos : Pos}

theorem r_loadLoc (EV : EnvOk env L nm gl) (H : W b X l lg s) (hi : Nth l i (L, .ns nm vs)) (hx : Nth2 nm vs x (some v)) (h : Q v s) : wpAny (model prg w) A (loadName env x) Q E s := by
  have hn : s.heap.Ns env.locals (look nm vs) := by rw [EV.locals]; exact H.cells _ hi.mem
  exact wpAny_loadName_local EV.kind (EV.loc x hx.mem) hn (hx.look EV.nd) h
theorem r_loc (EV : EnvOk env L nm gl) (H : W b X l lg s) (hi : Nth l i (L, .ns nm vs)) (hx : Nth2 nm vs x (some v)) (h : Q v s) : wpAny (model prg w) A (eval (.Name x pos) env) Q E s :=
  wpAny_Name (r_loadLoc EV H hi hx h) (EV.dbg x (List.mem_append_left _ hx.mem))
theorem r_store {Q : Unit → Shared → Prop} (EV : EnvOk env L nm gl) (H : W b X l lg s) (hi : Nth l i (L, .ns nm vs)) (hx : Put2 nm vs x v vs') (hl : Put l (L, .ns nm vs) (L, .ns nm vs') l') (h : ∀ s', W b X l' lg s' → Q () s') :
    wpAny (model prg w) A (storeName env x v) Q E s := by
  have hn : s.heap.Ns env.locals (look nm vs) := by rw [EV.locals]; exact H.cells _ hi.mem
  refine wpAny_storeName_local (EV.loc x hx.mem) hn (fun h' hn' hs => h _ (H.put hl (EV.locals ▸ hs) ?_ trivial)) (by rw [EV.kind]; rfl)
  show h'.Ns L (look nm vs')
  rw [hx.look EV.nd, ← EV.locals]
  exact hn'
theorem r_glob (G : Glob w b X) (EV : EnvOk env L nm gl) (H : W b X l lg s) (hx : Nth gl i x) (e : nsIn (KK w) mainGlobals x = some (some v)) (h : Q v s) : wpAny (model prg w) A (eval (.Name x pos) env) Q E s := by
  refine ea1_2 (G.main H e) fun mg h1 h2 => ?_
  exact Name_function_global EV.kind (EV.glo x hx.mem) (loadGlobal_global (by rw [EV.globals]; exact h1) h2 h) (EV.dbg x (List.mem_append_right _ hx.mem))
theorem r_blt (G : Glob w b X) (EV : EnvOk env L nm gl) (H : W b X l lg s) (hx : Nth gl i x) (e : nsIn (KK w) mainGlobals x = some none) (e' : bootBuiltins x = some v) (hn : x ≠ "__name__") (h : Q v s) : wpAny (model prg w) A (eval (.Name x pos) env) Q E s := by
  refine ea2_4 (G.builtin H e e' hn) fun mg mb h1 h2 h3 h4 => ?_
  exact Name_function_global EV.kind (EV.glo x hx.mem) (loadGlobal_builtin (by rw [EV.globals]; exact h1) h2 (by rw [EV.builtins]; exact h3) h4 h) (EV.dbg x (List.mem_append_right _ hx.mem))

theorem r_int {n : Int} {k : Nat} (H : W b X l lg s) (h : ∀ t s', W b X l lg s' → Q (.int n t) s') : wpAny (model prg w) A (eval (.Constant (.int n) k pos) env) Q E s := wpAny_Constant_int (h _ _ (H.tok _))
theorem r_str {n : Str} {k : Nat} (H : W b X l lg s) (h : ∀ t s', W b X l lg s' → Q (.str n t) s') : wpAny (model prg w) A (eval (.Constant (.str n) k pos) env) Q E s := Constant_str (h _ _ (H.tok _))

variable {p q : Int} {t u : Tok}
theorem r_add (H : W b X l lg s) (h : ∀ t s', W b X l lg s' → Q (.int (p + q) t) s') : wpAny (model prg w) A (binaryOp .Add (.int p t) (.int q u)) Q E s := add_int (h _ _ (H.tok _))
theorem r_iadd (H : W b X l lg s) (h : ∀ t s', W b X l lg s' → Q (.int (p + q) t) s') : wpAny (model prg w) A (inplaceOp .Add (.int p t) (.int q u)) Q E s := wpAny_iadd_int (h _ _ (H.tok _))
theorem r_sub (H : W b X l lg s) (h : ∀ t s', W b X l lg s' → Q (.int (p - q) t) s') : wpAny (model prg w) A (binaryOp .Sub (.int p t) (.int q u)) Q E s := sub_int (h _ _ (H.tok _))
theorem r_mod (H : W b X l lg s) (hq : 0 < q) (h : ∀ t s', W b X l lg s' → Q (.int (p % q) t) s') : wpAny (model prg w) A (binaryOp .Mod (.int p t) (.int q u)) Q E s := by
  refine mod_int' (by omega) ?_
  rw [Int.fmod_eq_emod_of_nonneg _ (by omega)]
  exact h _ _ (H.tok _)
theorem noPylong {p q : Int} (h : q.natAbs < 2 ^ 60) : Builtin.divisionGoesByPylong p q = false := by
  unfold Builtin.divisionGoesByPylong
  have : ¬ (if (q == 0) = true then 0 else q.natAbs.log2 / 30 + 1) > 300 := by
    split
    · omega
    · have : q.natAbs.log2 < 60 := by
        by_cases z : q.natAbs = 0
        · rw [z]; decide
        · exact (Nat.log2_lt z).mpr h
      omega
  simp only [this, decide_false, Bool.false_and]
theorem r_fdiv (H : W b X l lg s) (hq : 0 < q) (hs : q < 2 ^ 60) (h : ∀ t s', W b X l lg s' → Q (.int (p / q) t) s') : wpAny (model prg w) A (binaryOp .FloorDiv (.int p t) (.int q u)) Q E s := by
  refine floordiv_int (by omega) ?_ (.inl (noPylong (by omega)))
  rw [Int.fdiv_eq_ediv_of_nonneg _ (by omega)]
  exact h _ _ (H.tok _)
theorem r_ite {c : Bool} {P R : Prop} (h1 : c = true → P) (h2 : c = false → R) : if c = true then P else R := by
  cases c with
  | true => exact h1 rfl
  | false => exact h2 rfl
end
end
section
open PySem PySem.W PyProof.Rows PySem.Calls
section
variable {w : World} {b : Shared} {X : List Addr} {l l' : List (Addr × Cell)} {lg : List (Nat × GenState)} {s : Shared} {A : Around} {E : Value → Shared → Prop} {env : Env} {L e : Addr}

theorem W.same {a : Addr} {c : Cell} {h' : Heap} {t' : Nat} (H : W b X l lg s) (hm : (a, c) ∈ l) (hs : Heap.SameBut a s.heap h') (hc : c.At h' a) (ht : 0 < s.toks → 0 < t' := by first | exact fun h => h | exact fun _ => Nat.succ_pos _ | (intro h; omega)) : W b X l lg { s with heap := h', toks := t' } := by
  have hp := H.plain _ hm
  refine ea2_1 (List.append_of_mem hm) fun l₁ l₂ e_1 => ?_
  subst e_1
  exact H.change hs hc hp ht

/-- a traceback that is the call's own is written -/
theorem W.tb {t : Addr} {ot : Obj} {tvs : Array Value} {h' : Heap} {tvs' : Array Value} {ot' : Obj} {t' : Nat} (H : W b X l lg s) (hn : newIn b t) (h1 : s.heap.get? t = some ot) (h2 : ot.cls = .type "traceback") (h3 : ot.data = .fields tvs) (h4 : 3 < tvs.size)
    (hs : Heap.SameBut t s.heap h') (g1 : h'.get? t = some ot') (g2 : ot'.cls = .type "traceback") (g3 : ot'.data = .fields tvs') (g4 : 3 < tvs'.size) (ht : 0 < s.toks → 0 < t' := by first | exact fun h => h | exact fun _ => Nat.succ_pos _ | (intro h; omega)) : W b X l lg { s with heap := h', toks := t' } := by
  have na : ∀ p ∈ l, p.1 ≠ t := fun p hp e => by subst e; exact (H.cells p hp).notTb (H.plain p hp) h1 h2 h3
  refine ⟨fun x o e nx => (hs.2 x fun q => by subst q; rw [show b.heap.get? x = none from hn] at e; cases e).trans (H.keep x o e nx), fun x hx => ?_, fun p hp => ?_, H.nd, H.own, H.plain, H.gens, H.gnd, H.bare, H.os, ht H.pos⟩
  · by_cases q : x = t
    · subst q; exact ⟨_, g1⟩
    · refine ea1_1 (H.xs x hx) fun o ho => ?_
      exact ⟨o, (hs.2 x q).trans ho⟩
  refine (H.cells p hp).move (fun o e => (hs.2 _ (na p hp)).trans e) fun u ou uvs e1 e2 e3 e4 => ?_
  by_cases q : u = t
  · subst q; exact ⟨ot', tvs', g1, g2, g3, g4⟩
  · exact ex2 ou uvs ⟨(hs.2 u q).trans e1, e2, e3, e4⟩

/-- the frames of the stack are in the ledger -/
noncomputable def FrOk (l : List (Addr × Cell)) (fr : List Env) : Prop := ∀ env ∈ fr, env.scope.kind ≠ .module ∧ ∃ L nm vs, env.frame = some L ∧ (L, Cell.ns nm vs) ∈ l
theorem FrOk.nil : FrOk l [] := fun _ h => nomatch h
theorem FrOk.cons {nm : List Str} {vs : List (Option Value)} {fr : List Env} (hk : env.scope.kind = .function) (hf : env.frame = some L) (hm : (L, Cell.ns nm vs) ∈ l) (h : FrOk l fr) : FrOk l (env :: fr) := fun e he => by
  rcases List.mem_cons.mp he with rfl | he
  · exact ⟨by rw [hk]; decide, (ex3 L nm vs ⟨hf, hm⟩)⟩
  · exact h e he
theorem FrOk.sub {fr fr' : List Env} (h : FrOk l fr) (hs : ∀ e ∈ fr', e ∈ fr) : FrOk l fr' := fun e he => h e (hs e he)

theorem ns_slots {h : Heap} {a : Addr} {m : Str → Option Value} {f : Obj → Obj} (hn : h.Ns a m) (hf : ∀ o, (f o).data = o.data) : (h.update a f).Ns a m := by
  refine ea3_3 hn fun o es ep ho hd r => ?_
  try clear hn
  refine ex3 (f o) es ep ⟨Heap.get?_update_self f ho ?_, (hf o).trans hd, r⟩
  have : (f o).data = .dict es ep := (hf o).trans hd
  exact Obj.isFreed_of_dict this

theorem wp_ready : ∀ {fr : List Env} {s : Shared} {Q : Unit → Shared → Prop}, W b X l lg s → FrOk l fr → (∀ s', W b X l lg s' → Q () s') → wpAny (model prg w) A (readyFrames fr) Q E s
  | [], s, Q, H, _, h => wpAny_pure (h _ H)
  | env :: outer, s, Q, H, hf, h => by
    refine ea0_2 (hf env (.head _)) fun hk q_2 => ?_
    refine ea3_2 q_2 fun L nm vs hL hm => ?_
    have hns : s.heap.Ns L (look nm vs) := H.cells _ hm
    refine ea3_3 hns fun o es ep ho hd _ => ?_
    try clear hns
    simp only [readyFrames, hL]
    refine wpAny_bind (wpAny_load ho ?_)
    by_cases hr : ((o.slots.getD 3 none).isSome) = true
    · rw [if_pos hr]; exact wpAny_pure (h _ H)
    · rw [if_neg hr]
      refine wpAny_bind (wpAny_of_eq (a := false) (by simp [behindIsImport, hk]) ?_)
      have rest : ∀ v, wpAny (model prg w) A (do
          update L fun o => { o with slots := #[some env.code, some (.ref env.globals), o.slots.getD 2 none, some v, o.slots.getD 4 none, env.func.map Value.ref, some (.ref env.builtins)] ++ (env.cells.map fun c => some (.ref c.2)).toArray }
          readyFrames outer) Q E s := fun v => by
        refine wpAny_bind (wpAny_update ho ?_)
        have H' : W b X l lg { s with heap := s.heap.update L fun o => { o with slots := #[some env.code, some (.ref env.globals), o.slots.getD 2 none, some v, o.slots.getD 4 none, env.func.map Value.ref, some (.ref env.builtins)] ++ (env.cells.map fun c => some (.ref c.2)).toArray } } :=
          H.same (t' := s.toks) hm (.update ..) (ns_slots (H.cells _ hm) fun _ => rfl)
        exact wp_ready H' (hf.sub fun e he => .tail _ he) h
      cases outer with
      | nil => exact wpAny_bind (wpAny_keptBack_nil fun v => rest v)
      | cons c r => exact wpAny_bind (m := keptBack env false (c :: r)) (wpAny_pure (rest _))

theorem wp_frameOf {fr : List Env} {Q : Value → Shared → Prop} (H : W b X l lg s) (hA : A.frames = some fr) (hf : FrOk l fr) (hL : env.frame = some L) (he : ∃ e' ∈ fr, e'.frame = some L) (h : ∀ s', W b X l lg s' → Q (.ref L) s') :
    wpAny (model prg w) A (PySem.frameOf env) Q E s := by
  unfold PySem.frameOf
  refine wpAny_bind (wpAny_frameEnvs hA ?_)
  have hd : ∃ e' r, (fr.dropWhile fun x => x.frame != env.frame) = e' :: r ∧ e'.frame = some L := by
    rw [hL]
    clear hA hf
    induction fr with
    | nil => obtain ⟨_, h1, _⟩ := he; cases h1
    | cons x r ih =>
      rw [List.dropWhile_cons]
      by_cases q : x.frame = some L
      · rw [if_neg (by simp [q])]; exact ⟨x, r, rfl, q⟩
      · rw [if_pos (by simpa using q)]
        refine ea1_2 he fun e' h1 h2 => ?_
        try clear he
        rcases List.mem_cons.mp h1 with rfl | h1
        · exact absurd h2 q
        · exact ih ⟨e', h1, h2⟩
  refine ea2_2 hd fun e' r hd he' => ?_
  have hs : ∀ x ∈ e' :: r, x ∈ fr := fun x hx => by rw [← hd] at hx; exact (List.dropWhile_sublist _).subset hx
  rw [hd]
  unfold frameObject
  refine wpAny_bind (wpAny_bind (wp_ready H (hf.sub hs) fun s' H' => wpAny_pure ?_))
  rw [he']
  exact wpAny_pure (h _ H')

theorem mapFields_data {o : Obj} {vs : Array Value} (hd : o.data = .fields vs) (f : Array Value → Array Value) : (o.mapFields f).data = .fields (f vs) ∧ (o.mapFields f).cls = o.cls := by
  obtain ⟨c, d, dt, sl⟩ := o
  subst hd
  exact ⟨rfl, rfl⟩

/-- noteFrame: the exception has a traceback behind it -/
theorem wp_note {fr : List Env} {Q : Unit → Shared → Prop} {f k : Bool} {C args : Value} (H : W b X l lg s) (hl : Put l (e, .exc (newIn b) f k C args) (e, .exc (newIn b) true k C args) l')
    (hA : A.frames = some fr) (hf : FrOk l fr) (hL : env.frame = some L) (he : ∃ e' ∈ fr, e'.frame = some L) (h : ∀ s', W b X l' lg s' → Q () s') :
    wpAny (model prg w) A (noteFrame (.ref e) env) Q E s := by
  refine ea2_2 hl.split fun l₁ l₂ e_3 e_4 => ?_
  subst e_3
  subst e_4
  have hm : (e, Cell.exc (newIn b) f k C args) ∈ l₁ ++ (e, Cell.exc (newIn b) f k C args) :: l₂ := List.mem_append_right _ (.head _)
  have hC := H.plain _ hm
  refine ea3_8 (H.cells _ hm) fun o vs tv ho hc hd hz h0 h1 hk2 tb => ?_
  unfold noteFrame
  simp only [hL]
  refine wpAny_bind (wpAny_field ho hd h1 ?_)
  -- behind the look at the head
  have rest : ∀ (hn : Bool) (s₁ : Shared), W b X (l₁ ++ (e, Cell.exc (newIn b) f k C args) :: l₂) lg s₁ → wpAny (model prg w) A (do
      let fr ← PySem.frameOf env
      let pl ← entryPlaceOf L hn
      let t ← EntryCells.newEntry tv fr .none (rawInt L) .none pl
      setField (.ref e) 1 t) Q E s₁ := fun hn s₁ H₁ => by
    refine wpAny_bind (wp_frameOf H₁ hA hf hL he fun s₂ H₂ => ?_)
    refine wpAny_bind (wpAny_entryPlaceOf fun pl hpl => ?_)
    unfold EntryCells.newEntry newFields
    refine wpAny_bind (wpAny_newObj_type ?_ (hpl.sizeOk5 _ _ _ _ _))
    refine ea3_8 (H₂.cells _ hm) fun o2 vs2 tv2 ho2 hc2 hd2 hz2 h02 h12 hk22 _ => ?_
    have ho3 := Heap.get?_push_of_some (h := s₂.heap) { cls := .type "traceback", dict := none, data := .fields ([tv, .ref L, .none, rawInt L, .none] ++ (if pl.isEmpty then List.replicate 6 Value.none else pl)).toArray } ho2
    refine wpAny_setField ho3 hd2 (by omega) ?_
    have H3 := (H₂.grow (t' := s₂.toks) (h' := s₂.heap.push { cls := .type "traceback", dict := none, data := .fields ([tv, .ref L, .none, rawInt L, .none] ++ (if pl.isEmpty then List.replicate 6 Value.none else pl)).toArray }) (fun a o e => Heap.get?_push_of_some _ e))
    refine ea0_2 (mapFields_data hd2 (·.setIfInBounds 1 (.ref s₂.heap.objs.size))) fun m1 m2 => ?_
    have hne : s₂.heap.objs.size ≠ e := Nat.ne_of_gt (Heap.lt_size ho2)
    refine h _ (H3.change (t' := s₂.toks) (c' := .exc (newIn b) true k C args) (.update ..) ⟨_, _, .ref s₂.heap.objs.size, Heap.get?_update_self _ ho3 ?_, m2.trans hc2, m1, ?_, ?_, ?_, (fun hk => (Array.getElem?_setIfInBounds_ne (by decide)).trans (hk22 hk)), .inr ⟨s₂.heap.objs.size, { cls := .type "traceback", dict := none, data := .fields ([tv, .ref L, .none, rawInt L, .none] ++ (if pl.isEmpty then List.replicate 6 Value.none else pl)).toArray }, ([tv, .ref L, .none, rawInt L, .none] ++ (if pl.isEmpty then List.replicate 6 Value.none else pl)).toArray, rfl, H₂.fresh, ?_, rfl, rfl, ?_⟩⟩ hC)
    · exact Obj.isFreed_of_fields m1
    · rw [Array.size_setIfInBounds]; exact hz2
    · rw [Array.getElem?_setIfInBounds_ne (by decide)]; exact h02
    · rw [Array.getElem?_setIfInBounds_self_of_lt (by omega)]
    · show (Heap.update _ e _).get? s₂.heap.objs.size = _
      rw [Heap.get?_update_other _ _ (Ne.symm hne)]
      exact Heap.get?_push_size _ rfl
    · rcases hpl with rfl | ⟨_, _, _, _, _, _, _, rfl⟩ <;> simp
  rcases tb with ⟨rfl, rfl⟩ | ⟨t, ot, tvs, rfl, tn, ht, htc, htd, htz⟩
  · rw [if_neg (by decide)]
    exact rest _ _ H
  · rw [if_pos (show (Value.ref t != Value.none) = true from by simp)]
    obtain ⟨x3, hx3⟩ : ∃ x, tvs[3]? = some x := ⟨_, Array.getElem?_eq_getElem htz⟩
    refine wpAny_bind (wpAny_field ht htd hx3 ?_)
    by_cases q : (x3 == rawInt L) = true
    · rw [if_pos q]
      refine wpAny_pure (h _ ?_)
      exact (H.change (t' := s.toks) (c' := .exc (newIn b) true k C args) (.refl ..) ⟨o, vs, .ref t, ho, hc, hd, hz, h0, h1, hk2, .inr ⟨t, ot, tvs, rfl, tn, ht, htc, htd, htz⟩⟩ hC)
    · rw [if_neg q]
      refine wpAny_bind (wpAny_setField ht htd htz ?_)
      refine ea0_2 (mapFields_data htd (·.setIfInBounds 3 .none)) fun m1 m2 => ?_
      exact rest true _ (H.tb (t' := s.toks) tn ht htc htd htz (.update ..) (Heap.get?_update_self _ ht (Obj.isFreed_of_fields m1)) (m2.trans htc) m1 (by rw [Array.size_setIfInBounds]; exact htz))

theorem wp_setFlight {Q : Unit → Shared → Prop} {f k : Bool} {C args : Value} {fr : Option Addr} (H : W b X l lg s) (hm : (e, .exc (newIn b) f k C args) ∈ l) (h : ∀ s', W b X l lg s' → Q () s') : wpAny (model prg w) A (setFlight (.ref e) fr) Q E s := by
  refine ea3_8 (H.cells _ hm) fun o vs tv ho hc hd hz h0 h1 hk2 tb => ?_
  unfold setFlight
  refine wpAny_bind (wpAny_field ho hd h1 ?_)
  rcases tb with ⟨rfl, rfl⟩ | ⟨t, ot, tvs, rfl, tn, ht, htc, htd, htz⟩
  · rw [if_neg (by decide)]
    exact wpAny_pure (h _ H)
  · rw [if_pos (show (Value.ref t != Value.none) = true from by simp)]
    refine wpAny_setField ht htd htz ?_
    refine ea0_2 (mapFields_data htd (·.setIfInBounds 3 (fr.elim .none fun f => rawInt f))) fun m1 m2 => ?_
    exact h _ (H.tb (t' := s.toks) tn ht htc htd htz (.update ..) (Heap.get?_update_self _ ht (Obj.isFreed_of_fields m1)) (m2.trans htc) m1 (by rw [Array.size_setIfInBounds]; exact htz))

theorem wp_leaving {fr : List Env} {Q : Unit → Shared → Prop} {f k : Bool} {C args : Value} (H : W b X l lg s) (hl : Put l (e, .exc (newIn b) f k C args) (e, .exc (newIn b) true k C args) l')
    (hA : A.frames = some fr) (hf : FrOk l fr) (hL : env.frame = some L) (he : ∃ e' ∈ fr, e'.frame = some L) (h : ∀ s', W b X l' lg s' → Q () s') :
    wpAny (model prg w) A (leaving env (.ref e)) Q E s := by
  unfold leaving
  refine wpAny_bind (wp_note H hl hA hf hL he fun s' H' => wp_setFlight (f := true) (k := k) (C := C) (args := args) H' ?_ h)
  refine ea2_2 hl.split fun l₁ l₂ e_5 e_6 => ?_
  subst e_5
  subst e_6
  exact List.mem_append_right _ (.head _)

theorem wp_cameBack {k : Bool} {C args : Value} (H : W b X l lg s) (hm : (e, .exc (newIn b) true k C args) ∈ l) (h : ∀ s', W b X l lg s' → E (.ref e) s') : cameBackBy (model prg w) A env E (.ref e) s := by
  refine ea3_8 (H.cells _ hm) fun o vs tv ho hc hd hz h0 h1 hk2 tb => ?_
  unfold cameBackBy
  refine wpAny_bind (wpAny_field ho hd h1 ?_)
  rcases tb with ⟨q, _⟩ | ⟨t, ot, tvs, rfl, tn, ht, htc, htd, htz⟩
  · cases q
  · rw [if_neg (by simp)]
    first | exact wp_setFlight H hm h | exact wpAny_bind (wpAny_pure (wp_setFlight H hm h))
end
end
section
open PySem PySem.W PySem.W.X PyProof.Rows PySem.Calls
/-- a sleeping generator, woken by a plain next -/
noncomputable def Wk (M : Model) (A : Around) (gs : GenState) (s : Shared) (P : End → Shared → Prop) : Prop := match gs with
  | .fresh c => SegX M A c (M.den c) [] s P
  | .suspended k _ c _ fs _ => SegX M A c (k (.send .none)) fs s P
  | _ => False

section
variable {w : World} {A : Around} {c : Code} {fs : List Frame} {P : End → Shared → Prop} {s : Shared} {env : Env}
  {K : Flow → Sem PySem.Fin} {H : Value → Sem PySem.Fin} {gd : Bool → Bool} {lv : List Value → List Value}

theorem sx_wrap {α : Type} {m : Sem α} {K : α → Sem PySem.Fin} (h : wpAny (model prg w) (A.over c fs) m (fun a s' => SegX (model prg w) A c (K a) fs s' P) (fun x s' => SegX (model prg w) A c (H x) fs s' P) s) :
    SegX (model prg w) A c (m.wrap K H gd lv) fs s P := by
  rintro Γ p rfl hΓ
  refine ea2_2 (runs_wrap_of_wp (Φ := fun e s' => e.quiet = true ∧ P e s') K H gd lv m (h (Γ.over fs) p (hΓ.over fs)) (fun a p' s' h' => h' Γ p' rfl hΓ) (fun x p' s' h' => h' Γ p' rfl hΓ)) fun e s' hr hq => ?_
  exact ex2 e s' ⟨hr, hq⟩
theorem sx_at {p' : Pos} {k : Unit → Sem PySem.Fin} (h : SegX (model prg w) A c (k ()) fs s P) : SegX (model prg w) A c (.at p' k) fs s P :=
  sx_wrap (m := standAt p') (K := k) (H := .raise) (gd := id) (lv := id) (wpAny_standAt h)
theorem sx_point {l : List Value} {k : Unit → Sem PySem.Fin} (h : SegX (model prg w) A c (k ()) fs s P) : SegX (model prg w) A c (.point l k) fs s P :=
  sx_wrap (m := point) (K := k) (H := .raise) (gd := id) (lv := fun _ => l) (wpAny_point h)
theorem sx_call {c' : Code} {h g l} {k : Result → Sem PySem.Fin} (hc : ∀ p, SegX (model prg w) A c' (denote table c') (.ret k h g l c p [] :: fs) s P) : SegX (model prg w) A c (.call c' h g l k) fs s P := by
  rintro Γ p rfl hΓ
  refine ea2_2 (hc p (Γ.goto c') p rfl (hΓ.goto c')) fun e s' hr hq => ?_
  exact ex2 e s' ⟨runs_call_seg hr, hq⟩
theorem sx_pop {k h g l c₁ p₁ kp} (r : Result) (hk : SegX (model prg w) A c₁ (k r) fs s P) : SegX (model prg w) A c (leafOf r) (.ret k h g l c₁ p₁ kp :: fs) s P := by
  rintro Γ p rfl hΓ
  refine ea2_2 (hk (Γ.goto c₁) p₁ rfl (hΓ.goto c₁)) fun e s' hr hq => ?_
  exact ex2 e s' ⟨Runs.pop r hr, hq⟩
theorem sx_again {c' : Code} (hq : c'.quiet = true) (x : SegX (model prg w) A c' (denote table c') fs s P) : SegX (model prg w) A c (.pure (.again c')) fs s P := by
  rintro Γ p rfl hΓ
  refine ea2_2 (x (Γ.goto c') p rfl (hΓ.goto c')) fun e s' hr hq' => ?_
  exact ex2 e s' ⟨Runs.head (c₁ := c') (fun _ _ y => .again hq y) hr, hq'⟩
theorem sx_end (r : Result) (h : P (.ret r) s) : SegX (model prg w) A c (leafOf r) [] s P := by
  rintro Γ p rfl _
  exact ex2 (.ret r) s ⟨Runs.leaf r, rfl, h⟩

theorem sx_execs_nil (h : SegX (model prg w) A c (K .next) fs s P) : SegX (model prg w) A c ((execs [] env).wrap K H gd lv) fs s P := h
theorem sx_execs_cons {st : Stmt} {rest : List Stmt}
    (h : SegX (model prg w) A c ((exec st env).wrap (fun f => match f with | .next => (execs rest env).wrap K H gd lv | f => K f) H gd lv) fs s P) :
    SegX (model prg w) A c ((execs (st :: rest) env).wrap K H gd lv) fs s P := by rw [execs_cons_wrap]; exact h

/-- a yield: the sleeper wakes behind it -/
theorem sx_yield {e : Expr} {ypos pos : Pos} (hfs : splitAtGen fs = none) (hgd : gd false = false) (hfg : fs.any Frame.guarded = false)
    (h : wpAny (model prg w) (A.over c fs) (eval e env) (fun v s' => ∀ x : End, x.result = .yielded v → x.genState.bare = true →
        (∀ A' s'' P', SegX (model prg w) A' c (K .next) fs s'' P' → Wk (model prg w) A' x.genState s'' P') → P x s')
      (fun x s' => SegX (model prg w) A c (H x) fs s' P) s) (hco : env.scope.isCoroutine = false) (hi : interactive env = false) :
    SegX (model prg w) A c ((exec (.Expr (.Yield (some e) ypos) pos) env).wrap K H gd lv) fs s P := by
  rw [exec_Expr env _ pos hi rfl]
  show SegX (model prg w) A c (.at pos fun _ => ((eval e env >>= fun v => (standAt ypos >>= fun _ => yieldOut env v)) >>= fun x =>
    dropValue (.Yield (some e) ypos) pos x).wrap K H gd lv) fs s P
  have hy : ∀ v, yieldOut env v = yieldValue v := fun v => by simp only [yieldOut, hco, Bool.false_eq_true, if_false]
  simp only [hy]
  refine sx_at ?_
  rw [Sem.bind_eq_wrap', Sem.bind_eq_wrap', Sem.wrap_wrap, Sem.wrap_wrap]
  refine sx_wrap (wpAny_mono h (fun v s' h' => ?_) fun _ _ x => x)
  refine sx_at ?_
  rintro Γ p rfl _
  refine ex2 _ s' ⟨Runs.yield' fs hfs, by simp [End.quiet, hgd, hfg], ?_⟩
  refine h' _ rfl ?_ fun A' s'' P' q => ?_
  · simp [End.genState, GenState.bare, hgd, hfg]
  · show SegX (model prg w) A' _ _ fs s'' P'
    exact q

/-- how an error leaves a loop's own code -/
noncomputable abbrev HL (env : Env) : Value → Sem PySem.Fin := fun e => (do noteFrame e env; theTreesLotGoes e : Sem Unit).wrap (fun _ => .raise e) .raise id id
theorem sx_func {body : List Stmt}
    (h : SegX (model prg w) A (.func body env) ((execs body env).wrap (fun f => .pure (.done (.ret (match f with | .ret v => v | _ => .none))))
      (fun e => (leaving env e).wrap (fun _ => .raise e) .raise id id) id id) fs s P) :
    SegX (model prg w) A (.func body env) (denote table (.func body env)) fs s P := by
  show SegX _ A _ (.point [] fun _ => ((execs body env).onRaise (leaving env)) >>= _) fs s P
  refine sx_point ?_
  rw [Sem.onRaise_eq_wrap, Sem.bind_eq_wrap', Sem.wrap_wrap]
  rw [Sem.wrap_congr (execs body env) _ _ (K' := fun f => .pure (.done (.ret (match f with | .ret v => v | _ => .none))))
    (H' := fun e => (leaving env e).wrap (fun _ => .raise e) .raise id id) (fun f => by cases f <;> rfl)
    (fun e => by rw [Sem.bind_eq_wrap, Sem.wrap_wrap]; rfl)]
  exact h

/-- what the outer code does when a loop comes back -/
noncomputable abbrev backK (env : Env) (K : Flow → Sem PySem.Fin) (H : Value → Sem PySem.Fin) (gd : Bool → Bool) (lv : List Value → List Value) : Result → Sem PySem.Fin := fun r => ((match r with | .ok f => (.pure f : Sem Flow) | .error e => .raise e).onRaise fun (x : Value) => do
        if (← field x 1) == Value.none then unsupported "frame.own-activation:exception-without-traceback"
        setFlight x env.frame).wrap K H gd lv
theorem sx_While {test : Expr} {body orelse : List Stmt} {pos : Pos}
    (h : ∀ p, SegX (model prg w) A (.whileLoop test body orelse env) (denote table (.whileLoop test body orelse env)) (.ret (backK env K H gd lv) none (gd false) (lv []) c p [] :: fs) s P) :
    SegX (model prg w) A c ((exec (.While test body orelse pos) env).wrap K H gd lv) fs s P := sx_at (sx_call h)
theorem exec_For_arm {target iter : Expr} {body orelse : List Stmt} {pos : Pos} : exec (.For target iter body orelse pos) env = (do
    standAt pos
    let v ← eval iter env
    let x ← foldedSetIterable iter env v
    standAt iter.pos
    let it ← holding [x] (pyIter x)
    runOwn (.forLoop target it body orelse env) env) := rfl
theorem sx_For {target iter : Expr} {body orelse : List Stmt} {pos : Pos}
    (h : wpAny (model prg w) (A.over c fs) (do
        let v ← eval iter env
        let x ← foldedSetIterable iter env v
        standAt iter.pos
        holding [x] (pyIter x)) (fun it s' => ∀ p, SegX (model prg w) A (.forLoop target it body orelse env) (denote table (.forLoop target it body orelse env)) (.ret (backK env K H gd lv) none (gd false) (lv []) c p [] :: fs) s' P)
      (fun x s' => SegX (model prg w) A c (H x) fs s' P) s) :
    SegX (model prg w) A c ((exec (.For target iter body orelse pos) env).wrap K H gd lv) fs s P := by
  have e : exec (.For target iter body orelse pos) env = (do
      standAt pos
      let it ← (do
        let v ← eval iter env
        let x ← foldedSetIterable iter env v
        standAt iter.pos
        holding [x] (pyIter x))
      runOwn (.forLoop target it body orelse env) env) := by
    rw [exec_For_arm]
    simp only [bind_assoc]
  rw [e]
  refine sx_at ?_
  show SegX _ A c (Sem.wrap K H gd lv ((do
        let v ← eval iter env
        let x ← foldedSetIterable iter env v
        standAt iter.pos
        holding [x] (pyIter x)) >>= fun it => runOwn (.forLoop target it body orelse env) env)) fs s P
  rw [Sem.bind_eq_wrap', Sem.wrap_wrap]
  refine sx_wrap (wpAny_mono h (fun it s' h' => ?_) fun _ _ x => x)
  exact sx_call h'
theorem sx_popOk {p₁ : Pos} {g : Bool} {l : List Value} {c₁ : Code} {f : Flow} (h : SegX (model prg w) A c₁ (K f) fs s P) : SegX (model prg w) A c (.pure (.done f)) (.ret (backK env K H gd lv) none g l c₁ p₁ [] :: fs) s P :=
  sx_pop (.ok f) h
theorem sx_popErr {p₁ : Pos} {g : Bool} {l : List Value} {c₁ : Code} {e : Value}
    (h : wpAny (model prg w) (A.over c₁ fs) (do
        if (← field e 1) == Value.none then unsupported "frame.own-activation:exception-without-traceback"
        setFlight e env.frame : Sem Unit) (fun _ s' => SegX (model prg w) A c₁ (H e) fs s' P) (fun x s' => SegX (model prg w) A c₁ (H x) fs s' P) s) :
    SegX (model prg w) A c (.raise e) (.ret (backK env K H gd lv) none g l c₁ p₁ [] :: fs) s P := by
  refine sx_pop (.error e) ?_
  show SegX _ A c₁ (Sem.wrap K H gd lv (((do
        if (← field e 1) == Value.none then unsupported "frame.own-activation:exception-without-traceback"
        setFlight e env.frame : Sem Unit)).bind fun _ => .raise e)) fs s P
  rw [Sem.bind_eq_wrap, Sem.wrap_wrap]
  exact sx_wrap h

theorem sx_whileLoop {test : Expr} {body orelse : List Stmt}
    (h : wpAny (model prg w) (A.over (.whileLoop test body orelse env) fs) (isTrue test env (eval test env)) (fun b s' =>
        if b = true then
          SegX (model prg w) A (.whileLoop test body orelse env) ((execs body env).wrap (fun f => match f with
            | .next | .cont => .pure (.again (.whileLoop test body orelse env))
            | .brk => .pure (.done .next)
            | .ret v => .pure (.done (.ret v))) (HL env) id id) fs s' P
        else SegX (model prg w) A (.whileLoop test body orelse env) ((execs orelse env).wrap (fun f => .pure (.done f)) (HL env) id id) fs s' P)
      (fun x s' => SegX (model prg w) A (.whileLoop test body orelse env) (HL env x) fs s' P) s) :
    SegX (model prg w) A (.whileLoop test body orelse env) (denote table (.whileLoop test body orelse env)) fs s P := by
  show SegX _ A _ ((whileTurn test body orelse env).onRaise (fun x => do noteFrame x env; theTreesLotGoes x)) fs s P
  unfold whileTurn
  rw [Sem.onRaise_eq_wrap, Sem.bind_eq_wrap', Sem.wrap_wrap]
  refine sx_wrap (wpAny_mono h (fun b s' hb => ?_) fun x s' hx => ?_)
  · cases b with
    | true =>
      rw [if_pos rfl] at hb
      show SegX _ A _ (Sem.wrap _ _ _ _ (if true = true then _ else _)) fs s' P
      rw [if_pos rfl, Sem.bind_eq_wrap', Sem.wrap_wrap]
      rw [Sem.wrap_congr (execs body env) _ _ (K' := fun f => match f with
            | .next | .cont => .pure (.again (.whileLoop test body orelse env))
            | .brk => .pure (.done .next)
            | .ret v => .pure (.done (.ret v))) (H' := HL env)
        (fun f => by cases f <;> rfl)
        (fun e => by first | exact Sem.bind_eq_wrap _ _ | (show (do noteFrame e env; theTreesLotGoes e : Sem Unit).bind (fun _ => .raise e) = _; rw [Sem.bind_eq_wrap]))]
      exact hb
    | false =>
      rw [if_neg Bool.false_ne_true] at hb
      show SegX _ A _ (Sem.wrap _ _ _ _ (if false = true then _ else _)) fs s' P
      rw [if_neg Bool.false_ne_true, Sem.bind_eq_wrap', Sem.wrap_wrap]
      rw [Sem.wrap_congr (execs orelse env) _ _ (K' := fun f => (.pure (.done f) : Sem PySem.Fin)) (H' := HL env)
        (fun f => by rfl)
        (fun e => by first | exact Sem.bind_eq_wrap _ _ | (show (do noteFrame e env; theTreesLotGoes e : Sem Unit).bind (fun _ => .raise e) = _; rw [Sem.bind_eq_wrap]))]
      exact hb
  · show SegX _ A _ ((do noteFrame x env; theTreesLotGoes x : Sem Unit).bind fun _ => .raise x) fs s' P
    rw [Sem.bind_eq_wrap]; exact hx

theorem sx_forLoop {target : Expr} {it : Value} {body : List Stmt}
    (h : wpAny (model prg w) (A.over (.forLoop target it body [] env) fs) (pyNext it) (fun r s' => match r with
        | none => SegX (model prg w) A (.block [] env) (.pure (.done .next)) fs s' P
        | some v => wpAny (model prg w) (A.over (.forLoop target it body [] env) fs) (do letOwnedTupleGo target it v; assign target env v) (fun _ s'' =>
            SegX (model prg w) A (.forLoop target it body [] env) ((execs body env).wrap (fun f => match f with
              | .next | .cont => .pure (.again (.forLoop target it body [] env))
              | .brk => .pure (.done .next)
              | .ret v => .pure (.done (.ret v))) (HL env) id id) fs s'' P)
            (fun x s'' => SegX (model prg w) A (.forLoop target it body [] env) (HL env x) fs s'' P) s')
      (fun x s' => SegX (model prg w) A (.forLoop target it body [] env) (HL env x) fs s' P) s) :
    SegX (model prg w) A (.forLoop target it body [] env) (denote table (.forLoop target it body [] env)) fs s P := by
  show SegX _ A _ ((forTurn target it body [] env).onRaise (fun x => do noteFrame x env; theTreesLotGoes x)) fs s P
  have hH : ∀ e, (do noteFrame e env; theTreesLotGoes e : Sem Unit).bind (fun _ => (.raise e : Sem PySem.Fin)) = HL env e := fun e => by rw [Sem.bind_eq_wrap]
  unfold forTurn
  rw [Sem.onRaise_eq_wrap]
  refine sx_at ?_
  show SegX _ A _ (Sem.wrap _ _ _ _ (((pyNext it).onRaise (fun _ => standAt { target.pos with line := 0 })) >>= _)) fs s P
  rw [Sem.bind_eq_wrap', Sem.wrap_wrap]
  refine sx_wrap (wpAny_onRaise (wpAny_mono h (fun r s' h' => ?_) fun x s' h' => wpAny_standAt ?_))
  · cases r with
    | none => exact sx_again rfl h'
    | some v =>
      show SegX _ A _ (Sem.wrap _ _ _ _ (letOwnedTupleGo target it v >>= fun _ => assign target env v >>= fun _ => _)) fs s' P
      rw [← bind_assoc, Sem.bind_eq_wrap', Sem.wrap_wrap]
      refine sx_wrap (wpAny_mono h' (fun _ s'' h'' => ?_) fun x s'' h'' => ?_)
      · rw [Sem.bind_eq_wrap', Sem.wrap_wrap]
        rw [Sem.wrap_congr (execs body env) _ _ (K' := fun f => match f with
            | .next | .cont => .pure (.again (.forLoop target it body [] env))
            | .brk => .pure (.done .next)
            | .ret v => .pure (.done (.ret v))) (H' := HL env) (fun f => by cases f <;> rfl) (fun e => by first | exact Sem.bind_eq_wrap _ _ | (show (do noteFrame e env; theTreesLotGoes e : Sem Unit).bind (fun _ => .raise e) = _; rw [Sem.bind_eq_wrap]))]
        exact h''
      · show SegX _ A _ ((do noteFrame x env; theTreesLotGoes x : Sem Unit).bind fun _ => .raise x) fs s'' P
        rw [hH]; exact h''
  · show SegX _ A _ ((do noteFrame x env; theTreesLotGoes x : Sem Unit).bind fun _ => .raise x) fs s' P
    rw [hH]; exact h'
end
end
section
open PySem PySem.W PySem.W.X PyProof.Rows PySem.Calls
section
variable {w : World} {b : Shared} {X : List Addr} {l l' : List (Addr × Cell)} {lg lg' : List (Nat × GenState)} {s : Shared} {A : Around} {E : Value → Shared → Prop} {a e : Addr} {g : Nat} {gs : GenState}

/-- is the class a stop? -/
noncomputable def NotStop (w : World) (C : Value) : Prop := ∀ h, (KK w).In h → Looks (model prg w) h (isSubtype C (.type "StopIteration")) false
theorem notStop_value : NotStop w (.type "ValueError") := fun h x => Looks.of_pure (by rw [isSubtype_type]; kernel_rfl)
theorem notStop_type : NotStop w (.type "TypeError") := fun h x => Looks.of_pure (by rw [isSubtype_type]; kernel_rfl)
theorem notStop_stat : NotStop w (.ref 52) := fun h x => looks_subIn x (by kernel_rfl)

theorem exc_type {n : Addr → Prop} {f k : Bool} {C args : Value} (H : W b X l lg s) (hm : (e, .exc n f k C args) ∈ l) {Q : Value → Shared → Prop} (h : Q C s) : wpAny (model prg w) A (typeOf (.ref e)) Q E s := by
  obtain ⟨o, vs, tv, ho, hc, _⟩ := H.cells _ hm
  exact wpAny_typeOf_ref ho (by rw [hc]; exact h)
theorem exc_instance {n : Addr → Prop} {f k : Bool} {C args base : Value} {r : Bool} (G : Glob w b X) (H : W b X l lg s) (hm : (e, .exc n f k C args) ∈ l) (hn : ∀ h, (KK w).In h → Looks (model prg w) h (isSubtype C base) r) {Q : Bool → Shared → Prop} (h : Q r s) : wpAny (model prg w) A (isInstance (.ref e) base) Q E s := by
  unfold isInstance
  exact wpAny_bind (exc_type H hm ((hn _ (G.in_ H)) A Q E s (fun _ _ x => x) h))

theorem Wk.mono {M : Model} {P P' : End → Shared → Prop} (h : Wk M A gs s P) (q : ∀ x s', P x s' → P' x s') : Wk M A gs s P' := by
  cases gs with
  | fresh c => exact SegX.mono h q
  | suspended k l c p fs cl => exact SegX.mono h q
  | running => exact h
  | finished => exact h
theorem wk_resume {α : Type} {k : GenResult → Sem α} {lv : List Value} {Q : α → Shared → Prop} (hgs : s.gens[g]? = some gs)
    (hw : Wk (model prg w) A gs (s.setGen g .running) (fun x s₂ => wpAny (model prg w) A (k x.result) Q E (s₂.setGen g x.genState))) : wpAny (model prg w) A (.resume g (.send .none) lv k) Q E s := by
  intro Γ p hΓ
  cases gs with
  | fresh c => exact wake_any α prg w hgs (.inl ⟨rfl, rfl, rfl, rfl⟩) (fun Γ => Γ.In A) (fun Γ q => q) (SegX.mono hw fun x s₂ hx Γ p hΓ => hx Γ p hΓ) Γ p hΓ
  | suspended k₀ l₀ c₀ p₀ fs₀ cl => exact wake_any α prg w hgs (.inr ⟨_, _, _, _, rfl, rfl⟩) (fun Γ => Γ.In A) (fun Γ q => q) (SegX.mono hw fun x s₂ hx Γ p hΓ => hx Γ p hΓ) Γ p hΓ
  | running => exact hw.elim
  | finished => exact hw.elim

theorem End.fin_of {x : End} (h : ∀ v, x.result ≠ .yielded v) : x.genState = .finished := by
  cases x with
  | ret r => rfl
  | susp v => exact absurd rfl (h v)

/-- what a consumer is told -/
noncomputable def Told (w : World) (b : Shared) (X : List Addr) (a : Addr) (g : Nat) (Q : Option Value → Shared → Prop) (E : Value → Shared → Prop) (x : End) (s₂ : Shared) : Prop :=
  (∃ v, x.result = .yielded v ∧ Q (some v) (s₂.setGen g x.genState)) ∨
  (x.result = .returned .none ∧ ∀ s₃, (∀ b' X' m mg, W b' X' m mg (s₂.setGen g .finished) → W b' X' m mg s₃) → Q none s₃) ∨
  (∃ e m mg n f k C args, x.result = .raised (.ref e) ∧ W b X m mg (s₂.setGen g .finished) ∧ (a, Cell.gen g) ∈ m ∧ (e, Cell.exc n f k C args) ∈ m ∧ NotStop w C ∧ E (.ref e) (s₂.setGen g .finished))

/-- the next of a sleeping generator -/
theorem wp_next {Q : Option Value → Shared → Prop} (G : Glob w b X) (H : W b X l lg s) (ha : (a, .gen g) ∈ l) (hg : (g, gs) ∈ lg) (hl : Put lg (g, gs) (g, .running) lg') (hh : A.handled = none) (hA : A.depth < recursionLimit)
    (hw : ∀ s₁, W b X l lg' s₁ → Wk (model prg w) A.in1 gs s₁ (Told w b X a g Q E)) :
    wpAny (model prg w) A (pyNext (.ref a)) Q E s := by
  have hgen : s.heap.IsGen a g := H.cells _ ha
  have hgs' : s.gens[g]? = some gs := H.gens _ hg
  have H1 := H.setGen hl rfl
  have hw1 := hw _ H1
  unfold pyNext
  refine wpAny_bind (wpAny_attempt (wpAny_callSpecial?_slot (name := Str.ofString "__next__") hgen.typeIs slot_gen_next
    (wpAny_call_entry slot_gen_next hgen.typeIs entry_gen_next ?_ (args_gen_next _))))
  show wpAny _ _ (Builtin.Generator.genWake (.ref a) (.send .none)) _ _ s
  unfold Builtin.Generator.genWake
  refine wpAny_bind (wpAny_holding (wpAny_genNumber hgen (wpAny_bind (wpAny_genState hgs' ?_))))
  have hst : gs.status = .fresh ∨ gs.status = .suspended := by
    cases gs with
    | running => exact hw1.elim
    | finished => exact hw1.elim
    | fresh c => exact .inl rfl
    | suspended k l c p fs cl => exact .inr rfl
  rcases hst with hst | hst
  all_goals
    rw [hst]
    refine wpAny_bind (wpAny_roomToWake (G.nolimit H) hA ?_)
    show wpAny _ _ (.resume g (.send .none) [] _) _ _ s
    refine wk_resume hgs' (hw1.mono fun x s₂ hx => ?_)
    rcases hx with ⟨v, hv, hq⟩ | ⟨hv, hq⟩ | ⟨e, m, mg, n, f, k, C, args, hv, HE, hma, hme, hns, hq⟩
    · rw [hv]
      exact wpAny_pure ⟨v, rfl, wpAny_pure hq⟩
    · have hfin : x.genState = .finished := End.fin_of (by rw [hv]; intro v q; cases q)
      rw [hv, hfin]
      show wpAny _ _ (newExc (.type "StopIteration") [] >>= _) _ _ _
      refine wpAny_bind ?_
      simp only [newExc, newTuple]
      refine wpAny_bind (wpAny_newObj_type ?_ (by size_fits))
      refine wpAny_bind (m := firstArgMember _ _) (wpAny_of_eq (a := Value.none) (by first | rfl | (simp only [firstArgMember]; rfl)) ?_)
      refine wpAny_newObj_type ?_ (by size_fits)
      refine wpAny_bind (wpAny_raiseNew_none (show A.in1.handled = none from hh) ?_)
      refine wpAny_bind (wpAny_isInstance (T := "StopIteration") (b := true) ⟨_, Heap.get?_push_size _ rfl, rfl⟩ isSubtype_stop ?_)
      refine wpAny_pure (hq _ fun b' X' m mg HH => ?_)
      exact HH.grow (t' := s₂.toks) (fun b o hb => Heap.get?_push_of_some _ (Heap.get?_push_of_some _ hb))
    · have hfin : x.genState = .finished := End.fin_of (by rw [hv]; intro v q; cases q)
      rw [hv, hfin]
      show wpAny _ _ (Builtin.Generator.genLeft (.ref a) (.ref e)) _ _ _
      unfold Builtin.Generator.genLeft Builtin.Generator.madeByALambda
      obtain ⟨og, nmg, qng, hog, hogc, hogd, _⟩ := (show (s₂.setGen g .finished).heap.IsGen a g from HE.cells _ hma)
      refine wpAny_bind (wpAny_bind (wpAny_load hog (wpAny_pure ?_)))
      refine wpAny_bind (exc_instance G HE hme hns ?_)
      rw [Bool.and_false, if_neg Bool.false_ne_true]
      unfold Builtin.Generator.genEscaped
      refine wpAny_bind (exc_instance G HE hme hns ?_)
      refine wpAny_bind (wpAny_throw ?_)
      refine wpAny_bind (exc_instance G HE hme hns ?_)
      exact wpAny_throw hq
end
end
section
open PySem PySem.W PySem.W.X PyProof.Rows PySem.Calls
section
variable {w : World} {b : Shared} {X : List Addr} {l l' : List (Addr × Cell)} {lg lg' : List (Nat × GenState)} {s : Shared} {A : Around} {Q E : Value → Shared → Prop} {a : Addr} {env : Env} {pos : Pos} {x : Str} {v : Value} {vs : List Value} {t u : Tok}

theorem W.lst (H : W b X l lg s) (hm : (a, .lst vs) ∈ l) : s.heap.IsList a vs.toArray := H.cells _ hm
theorem W.seqL (H : W b X l lg s) (hm : (a, .seq "list" vs) ∈ l) : s.heap.IsList a vs.toArray := by
  refine ea1_1 (H.cells _ hm) fun n ho => ?_
  exact ⟨_, ho, rfl, n, rfl⟩

theorem r_len_bytes {y : Array UInt8} (H : W b X l lg s) (hz : y.size ≤ 1099511627776) (h : ∀ t s', W b X l lg s' → Q (.int y.size t) s') : wpAny (model prg w) A (call (.builtin "len") [.bytes y t]) Q E s :=
  len_bytes hz (h _ _ (H.tok _))
theorem r_truthy_bytes {y : Array UInt8} {Q : Bool → Shared → Prop} (H : W b X l lg s) (hz : y.size ≤ 1099511627776) (h : ∀ s', W b X l lg s' → Q ((y.size : Int) != 0) s') : wpAny (model prg w) A (truthy (.bytes y t)) Q E s :=
  truthy_bytes hz (h _ (H.tok _))
theorem r_min2 {p q : Int} (H : W b X l lg s) (hh : A.handled = none) (h : ∀ t s', W b X l lg s' → Q (.int (min p q) t) s') : wpAny (model prg w) A (call (.builtin "min") [.int p t, .int q u]) Q E s := by
  refine wp_pos H.pos (min_two_ints hh fun h' tk hk htk => ?_)
  have H' := H.grow (t' := tk) hk fun _ => htk
  have e : (if q < p then Value.int q u else Value.int p t) = .int (min p q) (if q < p then u else t) := by
    by_cases c : q < p
    · rw [if_pos c, if_pos c]; congr 1; omega
    · rw [if_neg c, if_neg c]; congr 1; omega
  rw [e]
  exact h _ _ H'

theorem W.perm (H : W b X l lg s) (hp : l'.Perm l) : W b X l' lg s := H.sub (fun p q => hp.mem_iff.mp q) ((hp.map _).nodup_iff.mpr H.nd)
theorem W.swap {p q : Addr × Cell} (H : W b X (p :: q :: l) lg s) : W b X (q :: p :: l) lg s := H.perm (.swap ..)
theorem W.del1 {p q : Addr × Cell} (H : W b X (p :: q :: l) lg s) : W b X (p :: l) lg s := H.swap.tail
theorem W.get2 {p q r : Addr × Cell} (H : W b X (p :: q :: r :: l) lg s) : W b X (r :: p :: q :: l) lg s := H.perm ((List.Perm.swap ..).trans ((List.Perm.swap ..).cons _))
theorem W.del2 {p q r : Addr × Cell} (H : W b X (p :: q :: r :: l) lg s) : W b X (p :: q :: l) lg s := H.get2.tail
theorem W.get3 {p q r r' : Addr × Cell} (H : W b X (p :: q :: r :: r' :: l) lg s) : W b X (r' :: p :: q :: r :: l) lg s := H.perm ((List.Perm.swap ..).trans (((List.Perm.swap ..).trans ((List.Perm.swap ..).cons _)).cons _))
theorem W.del3 {p q r r' : Addr × Cell} (H : W b X (p :: q :: r :: r' :: l) lg s) : W b X (p :: q :: r :: l) lg s := H.get3.tail
theorem FrOk.more {fr : List Env} {q : Addr × Cell} (h : FrOk l fr) : FrOk (q :: l) fr := fun e he => let ⟨h1, L, nm, vs, h2, h3⟩ := h e he; ⟨h1, L, nm, vs, h2, .tail _ h3⟩
theorem FrOk.less {fr : List Env} {q : Addr × Cell} (h : FrOk (q :: l) fr) (hq : ∀ nm vs, q.2 ≠ .ns nm vs) : FrOk l fr := fun e he => by
  refine ea0_2 (h e he) fun h1 q_1 => ?_
  refine ea3_2 q_1 fun L nm vs h2 h3 => ?_
  rcases List.mem_cons.mp h3 with h3 | h3
  · exact absurd (congrArg Prod.snd h3).symm (hq nm vs)
  · exact ⟨h1, (ex3 L nm vs ⟨h2, h3⟩)⟩
/-! items, slices -/
theorem r_item {value slice : Expr} {k : Int} (hl : s.heap.IsList a vs.toArray) (h0 : 0 ≤ k) (hhi : k < 2 ^ 63) (hx : vs[k.toNat]? = some v) (h : Q v s)
    (hs : subscripted slice false (.ref a) (.int k u) = operate [.ref a, .int k u] (getItem (.ref a) (.int k u)) := by with_unfolding_all rfl) :
    wpAny (model prg w) A (subscriptTail value slice (.ref a) (.int k u)) Q E s :=
  tail_any hl.typeIs slot_list_getitem.lookup (wpAny_getItem_list hl h0 hhi (by simpa using hx) h) hs
theorem r_bitem {value slice : Expr} {y : Array UInt8} {ks : List Int} {i : Int} (H : W b X l lg s) (hk : KBw.bInts y = ks) (hz : ks.length ≤ 1099511627776) (h0 : 0 ≤ i) (h1 : i < ks.length) (h : ∀ t s', W b X l lg s' → Q (.int (ks.getD i.toNat 0) t) s')
    (hs : subscripted slice false (.bytes y t) (.int i u) = operate [.bytes y t, .int i u] (getItem (.bytes y t) (.int i u)) := by with_unfolding_all rfl)
    (ht : ∀ r, letTemporaryGo value (.bytes y t) r = pure () := by intro _; with_unfolding_all rfl) :
    wpAny (model prg w) A (subscriptTail value slice (.bytes y t) (.int i u)) Q E s :=
  wp_pos H.pos (KBw.item_K hk hz h0 h1 (fun t' k _ _ htk => h _ _ (H.tok _ fun _ => htk)) hs ht)
theorem r_setlst {vs' : List Value} {k : Int} {Q : Unit → Shared → Prop} (H : W b X l lg s) (hm : (a, .lst vs) ∈ l) (h0 : 0 ≤ k) (hhi : k < 2 ^ 63) (hk : k < vs.length) (hv : vs.set k.toNat v = vs') (hp : Put l (a, .lst vs) (a, .lst vs') l') (h : ∀ s', W b X l' lg s' → Q () s') :
    wpAny (model prg w) A (setItem (.ref a) (.int k u) v) Q E s := by
  refine wpAny_setItem_list (H.lst hm) h0 hhi (by simpa using hk) fun h' hl hs => h _ (H.put hp hs ?_ trivial)
  show h'.IsList a vs'.toArray
  rw [← hv]
  simpa using hl
/-- a slice of bytes by two ints -/
theorem r_bslice {value lo hi : Expr} {pp : Pos} {y : Array UInt8}
    (h : wpAny (model prg w) A (eval lo env) (fun l1 s₁ => wpAny (model prg w) A (eval hi env) (fun u1 s₂ => ∃ m mg i k ti tk, W b X m mg s₂ ∧ l1 = .int i ti ∧ u1 = .int k tk ∧ (KBy.picked y (some i) (some k)).size ≤ sizeLine ∧
      ∀ t' s', W b X m mg s' → Q (.bytes (KBy.picked y (some i) (some k)) t') s') E s₁) E s)
    (ht : ∀ r, letTemporaryGo value (.bytes y t) r = pure () := by intro _; with_unfolding_all rfl) :
    wpAny (model prg w) A (eval (.Slice (some lo) (some hi) none pp) env) (fun i s₂ => wpAny (model prg w) A (subscriptTail value (.Slice (some lo) (some hi) none pp) (.bytes y t) i) Q E s₂) E s := by
  refine wpAny_Slice ?_
  show wpAny _ _ (eval lo env) _ _ _
  refine wpAny_mono h (fun l1 s₁ h₁ => ?_) fun _ _ x => x
  show wpAny _ _ (eval hi env) _ _ _
  refine wpAny_mono h₁ (fun u1 s₂ h₂ => ?_) fun _ _ x => x
  refine ea6_5 h₂ fun m mg i k ti tk H e_2 e_3 hz hQ => ?_
  try clear h₂
  subst e_2
  subst e_3
  refine wpAny_pure ?_
  refine wp_pos H.pos ?_
  exact tail_of_ItemOn ⟨"bytes", _, FB.slot_bytes_getitem.lookup, typeIs_bytes _ _ _, getItem_meets (typeIs_bytes _ _ _) (by decide) FB.slot_bytes_getitem FB.entry_bytes_getitem (FB.args_bytes_getitem_2 _ _) (KBc.meets_slice2 y t _ (.int i ti) (.int k tk))
    ⟨Heap.IsSliceOf.new _ _ _ _, hz, fun t' k' htk => hQ _ _ (H.grow (t' := k') (fun _ _ e => Heap.get?_push_of_some _ e) fun _ => htk)⟩⟩ (by with_unfolding_all rfl) ht

/-! names through cells -/
theorem r_cellname {c : Addr} {o : Obj} (hk : env.scope.kind = .function) (hx : env.kindOf x = some .free) (hc : env.cells.lookup x = some c) (ho : s.heap.get? c = some o) (hd : o.data = .cell (some v)) (hn : (x == ("__classdict__" : Str)) = false) (hb : (x == ("__debug__" : Str)) = false) (h : Q v s) :
    wpAny (model prg w) A (eval (.Name x pos) env) Q E s := by
  exact wpAny_Name (wpAny_loadName_free hk hx hc ⟨o, ho, hd⟩ h hn) hb

/-! calls -/
theorem r_Call {np : Pos} {args : List Expr} (h : wpAny (model prg w) A (eval (.Name x np) env) (fun f s₁ => wpAny (model prg w) A (callWith pos f [] (backTo pos (starEach args env)) []) Q E s₁) E s) :
    wpAny (model prg w) A (eval (.Call (.Name x np) args [] pos) env) Q E s := wpAny_Call_ofName h
theorem r_callB {id : String} {e : Expr} {rest : List Expr}
    (h : wpAny (model prg w) A (spliced (backTo pos (starEach (e :: rest) env))) (fun vs s₁ => wpAny (model prg w) A (call (.builtin id) vs) Q E s₁) E s)
    (he : starEach (e :: rest) env = (false, eval e env) :: starEach rest env := by rfl)
    (hplain : (backTo pos (starEach rest env)).any (·.1) = false := by rfl) :
    wpAny (model prg w) A (callWith pos (.builtin id) [] (backTo pos (starEach (e :: rest) env)) []) Q E s := callWith_method1 h he hplain
/-- a def by its address in the written part -/
theorem r_callF {fa : Addr} {fd : FuncData} {e : Expr} {rest : List Expr} (G : Glob w b X) (hf : ((KK w).lookup fa).map Obj.data = some (.func fd))
    (h : wpAny (model prg w) A (spliced (backTo pos (starEach (e :: rest) env))) (fun vs s₁ => (∃ m mg, W b X m mg s₁) ∧ wpAny (model prg w) A (call (.ref fa) vs) Q E s₁) E s)
    (he : starEach (e :: rest) env = (false, eval e env) :: starEach rest env := by rfl) :
    wpAny (model prg w) A (callWith pos (.ref fa) [] (backTo pos (starEach (e :: rest) env)) []) Q E s := by
  refine ea1_2 (Option.map_eq_some_iff.mp hf) fun o ho hod => ?_
  refine callWith_function (o := o) (fd := fd) ?_
  rw [he] at h ⊢
  refine evalArgs_plain (wpAny_mono h (fun vs s₁ h₁ => ?_) fun _ _ x => x)
  refine ea0_2 h₁ fun q_4 h₁ => ?_
  obtain ⟨m, mg, H⟩ := q_4
  exact ⟨⟨G.at_ H ho, hod⟩, h₁⟩
/-- a function that is an old object of the base -/
theorem r_callO {fa : Addr} {o : Obj} {fd : FuncData} {first : List Value} {e : Expr} {rest : List Expr} (ho : b.heap.get? fa = some o) (hx : fa ∉ X) (hod : o.data = .func fd)
    (h : wpAny (model prg w) A (spliced (backTo pos (starEach (e :: rest) env))) (fun vs s₁ => (∃ m mg, W b X m mg s₁) ∧ wpAny (model prg w) A (call (.ref fa) (first ++ vs)) Q E s₁) E s)
    (he : starEach (e :: rest) env = (false, eval e env) :: starEach rest env := by rfl) :
    wpAny (model prg w) A (callWith pos (.ref fa) first (backTo pos (starEach (e :: rest) env)) []) Q E s := by
  refine callWith_function (o := o) (fd := fd) ?_
  rw [he] at h ⊢
  refine evalArgs_plain (wpAny_mono h (fun vs s₁ h₁ => ?_) fun _ _ x => x)
  refine ea0_2 h₁ fun q_5 h₁ => ?_
  obtain ⟨m, mg, H⟩ := q_5
  exact ⟨⟨H.keep _ _ ho hx, hod⟩, h₁⟩

/-! exceptions made -/
theorem W.newOf (H : W b X l lg s) {c : Addr} (h : s.heap.get? c = none) : newIn b c := by
  show b.heap.get? c = none
  cases q : b.heap.get? c with
  | none => rfl
  | some o =>
    by_cases hx : c ∈ X
    · refine ea1_1 (H.xs _ hx) fun o' ho' => ?_
      rw [h] at ho'; cases ho'
    · rw [H.keep _ _ q hx] at h; cases h
theorem W.notIn (H : W b X l lg s) {c : Addr} (h : s.heap.get? c = none) : ∀ p ∈ l, p.1 ≠ c := fun p hp e => by
  refine ea1_1 ((H.cells p hp).live) fun o ho => ?_
  rw [e, h] at ho; cases ho
theorem W.made {h' : Heap} {e : Addr} {C : Value} {args : List Value} (H : W b X l lg s) (hC : C ≠ .type "traceback") (hm : Heap.MadeExcOf s.heap h' e C args) :
    ∃ t, W b X ((e, .exc (newIn b) false true C (.ref t)) :: (t, .seq "tuple" args) :: l) lg { s with heap := h' } := by
  refine ea1_3 hm.there fun t he ht0 ht => ?_
  have H1 : W b X l lg { s with heap := h' } := H.grow (t' := s.toks) hm.keeps
  have H2 : W b X ((t, .seq "tuple" args) :: l) lg { s with heap := h' } := H1.cons ⟨0, ht⟩ (by intro q; exact absurd q (by decide)) (H.newOf ht0) (H.notIn ht0)
  refine ⟨t, H2.cons ⟨_, _, .none, he, rfl, rfl, by simp, rfl, rfl, (fun _ => rfl), .inl ⟨rfl, rfl⟩⟩ hC (H.newOf hm.new) fun p hp => ?_⟩
  rcases List.mem_cons.mp hp with rfl | hp
  · intro q
    have q' : t = e := q
    rw [q'] at ht
    rw [he] at ht
    simp at ht
  · exact H.notIn hm.new p hp

/-- raise of a built-in exception by its name and arguments -/
theorem r_raiseV {e : Expr} {rest : List Expr} {np cpos pos : Pos} {Q : Flow → Shared → Prop} (G : Glob w b X) {L : Addr} {nm gl : List Str} {i : Nat} (EV : EnvOk env L nm gl) (H : W b X l lg s) (hx : Nth gl i (Str.ofString "ValueError")) (hn : nsIn (KK w) mainGlobals (Str.ofString "ValueError") = some none) (hb : bootBuiltins (Str.ofString "ValueError") = some (.type "ValueError")) (hh : A.handled = none)
    (h : wpAny (model prg w) A (spliced (backTo cpos (starEach (e :: rest) env))) (fun vs s₂ => ∃ m mg, W b X m mg s₂ ∧ vs.length ≤ sizeLine ∧ ∀ e a s', W b X ((e, .exc (newIn b) false true (.type "ValueError") (.ref a)) :: (a, .seq "tuple" vs) :: m) mg s' → E (.ref e) s') E s)
    (he : starEach (e :: rest) env = (false, eval e env) :: starEach rest env := by rfl) (hplain : (backTo cpos (starEach rest env)).any (·.1) = false := by rfl) :
    wpAny (model prg w) A (exec (.Raise (some (.Call (.Name (Str.ofString "ValueError") np) (e :: rest) [] cpos)) none pos) env) Q E s := by
  refine wpAny_Raise_call F.excCall_ValueError F.excRaise_ValueError hh (by rw [he]; show (false || (backTo cpos (starEach rest env)).any (·.1)) = false; rw [hplain]; rfl) (r_blt G EV H hx hn hb (by decide) ⟨rfl, ?_⟩)
  rw [he] at h ⊢
  refine evalArgs_plain (wpAny_mono h (fun vs s₂ h₂ => ?_) fun _ _ x => x)
  refine ea2_3 h₂ fun m mg H₂ hz hE => ?_
  try clear h₂
  refine ⟨rfl, hz, fun h' ee hm => ?_⟩
  refine ea1_1 (H₂.made (C := .type "ValueError") (by simp) hm.of) fun a Hm => ?_
  exact hE _ _ _ Hm
end
end
section
open PySem PySem.W PySem.W.X PyProof.Rows PySem.Calls
section
variable {w : World} {b : Shared} {X : List Addr} {l : List (Addr × Cell)} {lg : List (Nat × GenState)} {s : Shared} {A : Around} {Q E : Value → Shared → Prop} {env : Env} {L : Addr} {nm gl : List Str} {i : Nat} {pos : Pos}
/-- the value of a global or built-in name -/
noncomputable def NV (w : World) (x : Str) (v : Value) : Prop := nsIn (KK w) mainGlobals x = some (some v) ∨ (nsIn (KK w) mainGlobals x = some none ∧ bootBuiltins x = some v ∧ x ≠ "__name__")
noncomputable abbrev nvT : List (Str × Value) := [(Str.ofString "min", .builtin "min"), (Str.ofString "len", .builtin "len"), (Str.ofString "sum", .builtin "sum"), (Str.ofString "isinstance", .builtin "isinstance"), (Str.ofString "sorted", .builtin "sorted"), (Str.ofString "divmod", .builtin "divmod"), (Str.ofString "bytes", .type "bytes"), (Str.ofString "str", .type "str"), (Str.ofString "float", .type "float"), (Str.ofString "list", .type "list"), (Str.ofString "tuple", .type "tuple"), (Str.ofString "range", .type "range"), (Str.ofString "enumerate", .type "enumerate"), (Str.ofString "ValueError", .type "ValueError"), (Str.ofString "TypeError", .type "TypeError"), (Str.ofString "fsum", .builtin "math.fsum"), (Str.ofString "sumprod", .builtin "math.sumprod"), (Str.ofString "StatisticsError", .ref 52), (Str.ofString "_fail_neg", .ref 63), (Str.ofString "fmean", .ref 71), (Str.ofString "median", .ref 78), (Str.ofString "median_low", .ref 85), (Str.ofString "median_high", .ref 92), (Str.ofString "quantiles", .ref 100), (Str.ofString "read_uint1", .ref 107), (Str.ofString "_Example", .ref 124), (Str.ofString "_law_octet", .ref 135), (Str.ofString "_law_stream", .ref 142), (Str.ofString "_law_numbers", .ref 149), (Str.ofString "_law_weights", .ref 156), (Str.ofString "_law_deed", .ref 163), (Str.ofString "_law_order", .ref 170), (Str.ofString "_law_cuts", .ref 175), (Str.ofString "_law_answer", .ref 182), (Str.ofString "_law_due", .ref 187), (Str.ofString "_law_floats", .ref 192)]
theorem nvOk (w : World) : ∀ p ∈ nvT, NV w p.1 p.2 := by
  iterate 15 refine List.forall_mem_cons.mpr ⟨.inr ⟨by kernel_rfl, by kernel_rfl, by decide⟩, ?_⟩
  iterate 21 refine List.forall_mem_cons.mpr ⟨.inl (by kernel_rfl), ?_⟩
  exact fun p h => by cases h
theorem r_nm {x : Str} {v : Value} (G : Glob w b X) (EV : EnvOk env L nm gl) (H : W b X l lg s) (hx : Nth gl i x) (hv : (x, v) ∈ nvT) (h : Q v s) : wpAny (model prg w) A (eval (.Name x pos) env) Q E s := by
  rcases nvOk w _ hv with e | ⟨e, e', hn⟩
  · exact r_glob G EV H hx e h
  · exact r_blt G EV H hx e e' hn h
theorem ng_StatisticsError (G : Glob w b X) (EV : EnvOk env L nm gl) (H : W b X l lg s) (hx : Nth gl i (Str.ofString "StatisticsError")) (h : Q (.ref 52) s) : wpAny (model prg w) A (eval (.Name (Str.ofString "StatisticsError") pos) env) Q E s :=
  r_nm G EV H hx (List.mem_of_getElem? (i := 17) rfl) h
end
end
section
open PySem PySem.W PySem.W.X PyProof.Rows PySem.Calls
section
variable {w : World} {b : Shared} {X : List Addr} {l l' : List (Addr × Cell)} {lg lg' : List (Nat × GenState)} {s : Shared} {A : Around} {Q E : Value → Shared → Prop} {a c L : Addr} {vs : List Value} {env : Env} {pos : Pos} {t u : Tok} {x : Str} {v : Value} {nm gl : List Str}
theorem r_len (H : W b X l lg s) (hm : (a, .seq "list" vs) ∈ l) (hz : vs.length < 2 ^ 40) (h : ∀ t s', W b X l lg s' → Q (.int vs.length t) s') : wpAny (model prg w) A (call (.builtin "len") [.ref a]) Q E s :=
  len_list (H.seqL hm) (by simp; omega) (by simpa using h _ _ (H.tok _))
theorem r_callT {T : String} {e : Expr} {rest : List Expr} (h : wpAny (model prg w) A (spliced (backTo pos (starEach (e :: rest) env))) (fun vs s₁ => wpAny (model prg w) A (call (.type T) vs) Q E s₁) E s)
    (he : starEach (e :: rest) env = (false, eval e env) :: starEach rest env := by rfl) (hplain : (backTo pos (starEach rest env)).any (·.1) = false := by rfl) :
    wpAny (model prg w) A (callWith pos (.type T) [] (backTo pos (starEach (e :: rest) env)) []) Q E s := PyProof.Rows.callWith_type1 h he hplain
theorem r_list0 (H : W b X l lg s) (h : ∀ T s', newIn b T → W b X ((T, .seq "list" []) :: l) lg s' → Q (.ref T) s') : wpAny (model prg w) A (eval (.List [] pos) env) Q E s := by
  refine wpAny_List_spliced (wpAny_items_nil ⟨Nat.zero_le _, ?_⟩)
  exact h _ _ H.fresh (H.push (o := { cls := .type "list", data := .seq ([] : List Value).toArray }) (t' := s.toks) rfl (fun h' q => ⟨0, q⟩) (by show "list" ≠ _; decide))
theorem r_list {elts : List Expr} (G : Glob w b X) (h : wpAny (model prg w) A (spliced (backTo pos (starEach elts env))) (fun vs s₁ => ∃ m mg, W b X m mg s₁ ∧ vs.length ≤ 10000 ∧ ∀ T s', newIn b T → W b X ((T, .seq "list" vs) :: m) mg s' → Q (.ref T) s') E s) : wpAny (model prg w) A (eval (.List elts pos) env) Q E s := by
  refine wpAny_List_spliced (wpAny_mono h (fun vs s₁ h₁ => ?_) fun _ _ x => x)
  obtain ⟨m, mg, H, hz, h⟩ := h₁
  refine ⟨by rw [sizeLine_eq]; omega, ?_⟩
  exact h _ _ H.fresh (H.push (o := { cls := .type "list", data := .seq vs.toArray }) (t' := s₁.toks) rfl (fun h' q => ⟨0, q⟩) (by show "list" ≠ _; decide))
theorem r_mul {p q : Int} (H : W b X l lg s) (hp : -(2 ^ 60) < p) (hp' : p < 2 ^ 60) (h : ∀ t s', W b X l lg s' → Q (.int (p * q) t) s') : wpAny (model prg w) A (binaryOp .Mult (.int p t) (.int q u)) Q E s :=
  PyProof.Rows.mul_int (h _ _ (H.tok _)) (IntMulOk.of_left (intBits_le_64 (by omega) (by omega)))

theorem r_cell (hk : env.scope.kind = .function) (hx : env.kindOf x = some .cell) (hc : env.cells.lookup x = some c) (H : W b X l lg s) (hm : (c, .cel (some v)) ∈ l) (hd : (x == ("__debug__" : Str)) = false) (h : Q v s) :
    wpAny (model prg w) A (eval (.Name x pos) env) Q E s := wpAny_Name (wpAny_loadName_cell hk hx hc (H.cells _ hm) h) hd
theorem r_cellE (EV : EnvOk env L nm gl) (hx : env.kindOf x = some .cell) (hc : env.cells.lookup x = some c) (H : W b X l lg s) (hm : (c, .cel (some v)) ∈ l) (hd : (x == ("__debug__" : Str)) = false) (h : Q v s) :
    wpAny (model prg w) A (eval (.Name x pos) env) Q E s := r_cell EV.kind hx hc H hm hd h
end
end
section
open PySem PySem.W PySem.W.X PyProof.Rows PySem.Calls
theorem dep {a n m r : Nat} (h : a + n < r) (hm : m ≤ n) : a + m < r := Nat.lt_of_le_of_lt (Nat.add_le_add_left hm a) h
theorem dep0 {a n r : Nat} (h : a + n < r) : a < r := Nat.lt_of_le_of_lt (Nat.le_add_right a n) h
theorem dep1 {a n m r : Nat} (h : a + n < r) (hm : 1 + m ≤ n) : a + 1 + m < r := by rw [Nat.add_assoc]; exact dep h hm
theorem dep2 {a n r : Nat} (h : a + n < r) (hm : 1 ≤ n) : a + 1 < r := dep h hm
theorem dep3 {a n m r : Nat} (h : a + n < r) (hm : 3 + m ≤ n) : a + 3 + m < r := by rw [Nat.add_assoc]; exact dep h hm
theorem dep4 {a n k m r : Nat} (h : a + n < r) (hm : k + m ≤ n) : a + k + m < r := by rw [Nat.add_assoc]; exact dep h hm
theorem ite_t {c : Prop} [Decidable c] {P R : Prop} (h : c) (k : P) : if c then P else R := (if_pos h).mpr k
theorem ite_n {c : Prop} [Decidable c] {P R : Prop} (h : ¬ c) (k : R) : if c then P else R := (if_neg h).mpr k
theorem cmin (a b : Nat) : min (a : Int) (b : Int) = ((min a b : Nat) : Int) := by
  rcases Nat.le_total a b with h | h
  · rw [Nat.min_eq_left h, Int.min_eq_left (Int.ofNat_le.mpr h)]
  · rw [Nat.min_eq_right h, Int.min_eq_right (Int.ofNat_le.mpr h)]
theorem clip_le {p n : Nat} (h : p ≤ n) : (max 0 (min (p : Int) n)).toNat = p := by rw [Int.min_eq_left (Int.ofNat_le.mpr h), Int.max_eq_right (Int.natCast_nonneg p)]; rfl
theorem half1 (r : Nat) : ((r : Int) / 2).toNat = r / 2 := rfl
theorem half2 (r : Nat) : ((r : Int) / 2 - 1).toNat = r / 2 - 1 := Int.toNat_sub' _ _
theorem half3 {r : Nat} (h : 0 < r) : (((r : Int) - 1) / 2).toNat = (r - 1) / 2 := by
  rw [show (r : Int) - 1 = ((r - 1 : Nat) : Int) from (Int.ofNat_sub h).symm]
  rfl
theorem lt6 : ∀ {k : Nat}, k < 6 → k = 0 ∨ k = 1 ∨ k = 2 ∨ k = 3 ∨ k = 4 ∨ k = 5
  | 0, _ => .inl rfl
  | 1, _ => .inr (.inl rfl)
  | 2, _ => .inr (.inr (.inl rfl))
  | 3, _ => .inr (.inr (.inr (.inl rfl)))
  | 4, _ => .inr (.inr (.inr (.inr (.inl rfl))))
  | 5, _ => .inr (.inr (.inr (.inr (.inr rfl))))
  | n + 6, h => absurd h (Nat.not_lt.mpr (Nat.le_add_left 6 n))
theorem io1 {a b c : Nat} (h : b = c) (k : a < b) : a < c := h ▸ k
theorem io2 {a b c : Nat} (h : b = c) (k : a < c) : a < b := h ▸ k
theorem io3 {a : Int} {n m : Nat} (h : a.natAbs < n) (k : n ≤ m) : a.natAbs < m := Nat.lt_of_lt_of_le h k
section
variable {w : World} {s : Shared} {A : Around} {E : Value → Shared → Prop} {env : Env} {st : Stmt} {rest : List Stmt} {Q K : Flow → Shared → Prop}
/-- a statement, what comes behind it being out of sight -/
theorem execs_cut (h : ∀ K : Flow → Shared → Prop, (∀ s', wpAny (model prg w) A (execs rest env) Q E s' → K .next s') → (∀ v s', Q (.ret v) s' → K (.ret v) s') → wpAny (model prg w) A (exec st env) K E s) :
    wpAny (model prg w) A (execs (st :: rest) env) Q E s := wpAny_execs_cons (h _ (fun _ h => h) (fun _ _ h => h))
theorem k_next {P : Shared → Prop} (hK : ∀ s', P s' → K .next s') (h : P s) : K .next s := hK s h
theorem k_ret {P : Value → Shared → Prop} {v : Value} (hK : ∀ v s', P v s' → K (.ret v) s') (h : P v s) : K (.ret v) s := hK v s h
/-- a def's body, what comes behind it being out of sight -/
theorem body_cut {M : Model} {m : Sem Flow} {Q : Value → Shared → Prop} (h : ∀ (K : Flow → Shared → Prop) (F : Value → Shared → Prop), (∀ v s', Q v s' → K (.ret v) s') → wpAny M A m K F s) : wpAny M A m (fun fl s'' => Q (match fl with | .ret v => v | _ => .none) s'') E s := h _ _ fun _ _ h => h
theorem body_cut2 {M : Model} {m : Sem Flow} {Q : Value → Shared → Prop} (h : ∀ (K : Flow → Shared → Prop) (F : Value → Shared → Prop), (∀ v s', Q v s' → K (.ret v) s') → (∀ e s', E e s' → F e s') → wpAny M A m K F s) : wpAny M A m (fun fl s'' => Q (match fl with | .ret v => v | _ => .none) s'') E s := h _ _ (fun _ _ h => h) fun _ _ h => h
/-- two ways to a value, what comes behind being one -/
theorem ite_cut {c : Bool} {M : Model} {e1 e2 : Sem Value} {R F : Value → Shared → Prop} (P : Value → Shared → Prop) (h1 : c = true → wpAny M A e1 P (fun _ _ => False) s) (h2 : c = false → wpAny M A e2 P (fun _ _ => False) s) (hk : ∀ v s', P v s' → R v s') : if c = true then wpAny M A e1 R F s else wpAny M A e2 R F s := by
  cases c with
  | true => exact wpAny_mono (h1 rfl) (fun v s' h => hk v s' h) fun _ _ x => x.elim
  | false => exact wpAny_mono (h2 rfl) (fun v s' h => hk v s' h) fun _ _ x => x.elim
end
end
open PySem PySem.W PySem.W.X PyProof.Rows PySem.Calls
local macro_rules | `(tactic| ktn_no "nth") => `(tactic| first | with_reducible exact Nth.zero | ((with_reducible apply Nth.succ); ktn_no "nth"))
local macro_rules | `(tactic| ktn_no "nth2") => `(tactic| first | with_reducible exact Nth2.zero | ((with_reducible apply Nth2.succ); ktn_no "nth2"))
local macro_rules | `(tactic| ktn_no "put2") => `(tactic| first | with_reducible exact Put2.zero | ((with_reducible apply Put2.succ); ktn_no "put2"))
local macro_rules | `(tactic| ktn_no "put") => `(tactic| first | with_reducible exact Put.zero | ((with_reducible apply Put.succ); ktn_no "put"))
local macro_rules | `(tactic| ktn_no "mem") => `(tactic| first | with_reducible exact List.mem_cons_self | ((with_reducible apply List.mem_cons_of_mem); ktn_no "mem"))
local macro_rules | `(tactic| ktn_no "z") => `(tactic| first | assumption | ktn_no "nth" | ktn_no "nth2" | ktn_no "put2" | ktn_no "put" | ktn_no "mem" | decide)
local macro_rules | `(tactic| ktn_no "go1") => `(tactic| first | (with_reducible show wpAny _ _ (execs ..) ..; first | refine wpAny_execs_cons ?_ | refine wpAny_execs_nil ?_) | ((with_reducible show wpAny _ _ (exec ..) ..); first | (with_reducible first | refine wpAny_If ?_ | refine wpAny_Return_some ?_ | refine wpAny_AugAssign_Name ?_) | (with_reducible first | refine wpAny_Assign_Name ?_ ?y | refine wpAny_Assign_Subscript ?_ ?y); (case y => rfl)) | (with_reducible show wpAny _ _ (eval (PySem.Expr.Name ..) _) ..; first | (apply r_loc; iterate 4 ktn_no "z") | (apply r_nm; iterate 5 ktn_no "z") | (apply r_cellE; iterate 6 ktn_no "z")) | (with_reducible show wpAny _ _ (eval ..) ..; first | refine wpAny_BinOp ?_ | refine r_Call ?_ | refine Subscript_ ?_ | refine wpAny_UnaryOp ?_ | refine wpAny_IfExp ?_ | refine wpAny_Compare1 ?_ | refine wpAny_Constant_none ?_ | refine wpAny_Constant_bool ?_ | (first | apply r_int | apply r_str); ktn_no "as"; intro _ _ _ | apply r_list0; ktn_no "as"; intro _ _ _ _ | apply r_list; ktn_no "as") | ((with_reducible show wpAny _ _ (PySem.isTrue ..) ..); first | (with_reducible first | refine wpAny_isTrue_Compare1 ?_ | refine wpAny_isTrue_BoolOp ?_ | refine wpAny_isTrue_Not ?_) | (with_reducible refine wpAny_isTrue_value ?_ ?y); (case y => rfl)) | (with_reducible show wpAny _ _ (allTrue ..) ..; first | refine wpAny_allTrue_And_cons ?_ | refine wpAny_allTrue_Or_cons ?_ | refine wpAny_allTrue_And_nil ?_ | refine wpAny_allTrue_Or_nil ?_) | (with_reducible show wpAny _ _ (binaryOp ..) ..; (first | (apply r_add; iterate 1 ktn_no "z") | (apply r_sub; iterate 1 ktn_no "z") | (apply r_mod; iterate 2 ktn_no "z") | (apply r_fdiv; iterate 3 ktn_no "z") | (apply r_mul; ktn_no "as"; omega; omega)); intro _ _ _) | (with_reducible show wpAny _ _ (compareOp ..) ..; first | refine eq_int ?_ | refine ne_int ?_ | refine wpAny_lt_int ?_ | refine gt_int ?_ | refine le_int ?_ | refine eq_str ?_ | refine ne_str ?_) | ((with_reducible show wpAny _ _ (spliced ..) ..); first | (with_reducible refine wpAny_items_nil ?_) | (with_reducible refine wpAny_items_cons ?_ ?y); (case y => rfl)) | ((with_reducible show wpAny _ _ (callWith ..) ..); (with_reducible first | refine r_callB ?_ ?y ?y1 | refine r_callT ?_ ?y ?y1); (case y => rfl); (case y1 => rfl)) | (with_reducible show wpAny _ _ (call _ _ _) ..; (first | (apply r_min2; iterate 2 ktn_no "z") | (apply r_len; (iterate 2 ktn_no "z"); omega)); intro _ _ _) | (with_reducible first | refine wpAny_truthy_bool ?_ | refine truthy_int ?_) | (with_reducible show wpAny _ _ (storeName ..) ..; apply r_store; (iterate 5 ktn_no "z"); intro _ _) | (with_reducible show wpAny _ _ (loadName ..) ..; apply r_loadLoc; iterate 4 ktn_no "z") | (with_reducible show wpAny _ _ (inplaceOp ..) ..; apply r_iadd; ktn_no "as"; intro _ _ _))
local macro_rules | `(tactic| ktn_no "as") => `(tactic| assumption)
local macro_rules | `(tactic| ktn_no "om") => `(tactic| first | assumption | exact dep (by assumption) (Nat.le_of_ble_eq_true rfl) | exact dep0 (by assumption) | exact dep4 (by assumption) (Nat.le_of_ble_eq_true rfl) | exact dep2 (by assumption) (Nat.le_of_ble_eq_true rfl) | exact Nat.lt_of_lt_of_le (by assumption) (Nat.le_of_ble_eq_true rfl) | exact Nat.le_trans (by assumption) (Nat.le_of_ble_eq_true rfl) | exact Int.natCast_nonneg _ | exact Int.ofNat.inj (by assumption) | exact Int.ofNat_lt.mpr (by assumption) | exact Int.ofNat_le.mpr (by assumption) | exact Nat.le_of_lt (by assumption) | exact io1 (by assumption) (by assumption) | exact io2 (by assumption) (by assumption) | exact io3 (by assumption) (Nat.le_of_ble_eq_true rfl) | omega)
local macro_rules | `(tactic| ktn_no "go") => `(tactic| repeat ktn_no "go1")
local macro_rules | `(tactic| ktn_no "hs") => `(tactic| first | ((with_reducible refine execs_cut ?_); intro _ _ _) | (with_reducible refine k_next (by assumption) ?_) | (with_reducible refine k_ret (by assumption) ?_))
local macro_rules | `(tactic| ktn_no "ho") => `(tactic| repeat (first | ktn_no "hs" | ktn_no "go1"))
section
open PySem PySem.W PySem.W.X PyProof.Rows PySem.Calls
/-! the stream -/
noncomputable def rdStmt (w : World) : Stmt := (bodyOf w 142).getD 1 (.Pass ⟨0, 0, 0, 0⟩)
noncomputable def rdP (w : World) : Arguments := match rdStmt w with | .FunctionDef _ a _ _ _ _ _ _ _ _ => a | _ => default
noncomputable def rdB (w : World) : List Stmt := match rdStmt w with | .FunctionDef _ _ b _ _ _ _ _ _ _ => b | _ => []
noncomputable def rdS (w : World) : Scope := match rdStmt w with | .FunctionDef _ _ _ _ _ _ s _ _ _ => s | _ => default
noncomputable def rdFd (w : World) (q : Str) (cl : List (Str × Addr)) (ct cd pm : Value) : FuncData :=
  { name := "read", qualname := q, params := rdP w, body := .stmts (rdB w), scope := rdS w, globals := mainGlobals, closure := cl, defaults := .none, kwdefaults := .none, doc := .none, pyModule := pm, annotations := none, code := cd, closureTuple := ct, builtins := builtinsNs }
theorem rd_scope (w : World) : scopeOk (rdS w) ["size", "start"] ["min", "len"] = true := by kernel_rfl
theorem rd_co (w : World) : (rdS w).isCoroutine = false := by kernel_rfl
theorem rd_gen (w : World) : (rdS w).isGenerator = false := by kernel_rfl
theorem rd_cells (w : World) : noCells (rdS w) = true := by kernel_rfl
theorem rd_free (w : World) : (rdS w).names.lookup (Str.ofString "octets") = some .free ∧ (rdS w).names.lookup (Str.ofString "place") = some .free := ⟨by kernel_rfl, by kernel_rfl⟩
theorem rd_bind (w : World) (q : Str) (cl : List (Str × Addr)) (ct cd pm v : Value) : bindArgs (rdFd w q cl ct cd pm) ⟨[v], []⟩ = pure ((["size"] : List Str).zip [v]) := by kernel_rfl

structure Strm (w : World) (b : Shared) (X : List Addr) (o : List Int) (P S : Addr) (y : Array UInt8) : Prop where
  bi : KBw.bInts y = o
  rng : ∀ x ∈ o, 0 ≤ x ∧ x < 256
  len : o.length ≤ 100
  obj : ∃ D R Co Cp q cl ct cd pm es n ty oo op, b.heap.get? S = some { cls := .ref 124, dict := some D } ∧ S ∉ X ∧ b.heap.get? D = some (dictOf es n) ∧ D ∉ X ∧ findObj (KK w) 124 (some (dictOf es n)) "read" = some (.value (.ref R)) ∧
    b.heap.get? R = some { cls := .type "function", data := .func (rdFd w q cl ct cd pm) } ∧ R ∉ X ∧ (b.heap.CodeRec cd q ∧ ∀ c, cd = .ref c → c ∉ X) ∧
    cl.lookup (Str.ofString "octets") = some Co ∧ cl.lookup (Str.ofString "place") = some Cp ∧ (b.heap.get? Co = some oo ∧ oo.data = .cell (some (.bytes y ty))) ∧ Co ∉ X ∧ (b.heap.get? Cp = some op ∧ op.data = .cell (some (.ref P))) ∧ Cp ∉ X

section
variable {w : World} {b : Shared} {X : List Addr} {l l' : List (Addr × Cell)} {lg : List (Nat × GenState)} {s : Shared} {A : Around} {Q E : Value → Shared → Prop}
set_option maxRecDepth 10000 in
set_option maxHeartbeats 4000000 in
theorem ok_read {o : List Int} {P : Addr} {y : Array UInt8} {R Co Cp : Addr} {q : Str} {cl : List (Str × Addr)} {ct cd pm : Value} {ty t1 tp : Tok} {p : Nat} {oo op : Obj} (G : Glob w b X) (H : W b X ((P, .lst [.int p tp]) :: l) lg s) (hA : A.depth < recursionLimit) (hh : A.handled = none)
    (hbi : KBw.bInts y = o) (hlen : o.length ≤ 100) (hp : p ≤ o.length)
    (hR : b.heap.get? R = some { cls := .type "function", data := .func (rdFd w q cl ct cd pm) }) (hRX : R ∉ X) (hcd : b.heap.CodeRec cd q) (hcdX : ∀ c, cd = .ref c → c ∉ X) (ho : cl.lookup (Str.ofString "octets") = some Co) (hpl : cl.lookup (Str.ofString "place") = some Cp)
    (hCo' : b.heap.get? Co = some oo ∧ oo.data = .cell (some (.bytes y ty))) (hCoX : Co ∉ X) (hCp' : b.heap.get? Cp = some op ∧ op.data = .cell (some (.ref P))) (hCpX : Cp ∉ X)
    (h : ∀ z t t' s', KBw.bInts z = (o.drop p).take 1 → W b X ((P, .lst [.int (min (p + 1) o.length : Nat) t']) :: l) lg s' → Q (.bytes z t) s') : wpAny (model prg w) A (call (.ref R) [.int 1 t1]) Q E s := by
  refine ea0_2 hCo' fun hCo hCod => ?_
  try clear hCo'
  refine ea0_2 hCp' fun hCp hCpd => ?_
  try clear hCp'
  have hcode : s.heap.CodeRec cd q := by
    refine ea4_3 hcd fun c oc vs tq e_1 hoc r => ?_
    try clear hcd
    subst e_1
    exact ex4 c oc vs tq ⟨rfl, H.keep _ _ hoc (hcdX _ rfl), r⟩
  refine call_fn (fd := rdFd w q cl ct cd pm) (body := rdB w) ["size"] ["start"] (nm := ["size", "start"]) (gl := ["min", "len"]) (vs := [some (.int 1 t1), none]) rfl rfl G H (H.keep _ _ hR hRX) rfl hcode (rd_scope w) (rd_co w) rfl rfl rfl (rd_cells w) (rd_gen w) (rd_bind w q cl ct cd pm _) rfl hA ?_
  intro L env s₁ EV hes hec hnew H₁
  have ysz : y.size = o.length := by rw [← hbi]; simp [KBw.bInts]
  have hko : env.kindOf (Str.ofString "octets") = some .free := by unfold Env.kindOf; rw [hes]; exact (rd_free w).1
  have hkp : env.kindOf (Str.ofString "place") = some .free := by unfold Env.kindOf; rw [hes]; exact (rd_free w).2
  have hco : env.cells.lookup (Str.ofString "octets") = some Co := by rw [hec]; exact ho
  have hcp : env.cells.lookup (Str.ofString "place") = some Cp := by rw [hec]; exact hpl
  have hh' : (A.deeper env).handled = none := hh
  -- start = place[0]
  refine wpAny_execs_cons ?_
  ktn_no "go"
  refine r_cellname EV.kind hkp hcp (H₁.keep _ _ hCp hCpX) hCpd (by decide) (by decide) ?_
  ktn_no "go"
  refine r_item (W.lst (by assumption) (.tail _ (.head _))) (by decide) (by decide) rfl ?_
  ktn_no "go"
  -- place[0] = min(start + size, len(octets))
  refine r_cellname EV.kind hko hco (W.keep (by assumption) _ _ hCo hCoX) hCod (by decide) (by decide) ?_
  ktn_no "go"
  refine r_len_bytes (by assumption) (by omega) ?_
  intro _ _ _
  ktn_no "go"
  refine r_cellname EV.kind hkp hcp (W.keep (by assumption) _ _ hCp hCpX) hCpd (by decide) (by decide) ?_
  ktn_no "go"
  refine r_setlst (by assumption) (.tail _ (.head _)) (by decide) (by decide) (by simp) rfl (by ktn_no "put") ?_
  intro _ _
  ktn_no "go"
  refine r_cellname EV.kind hko hco (W.keep (by assumption) _ _ hCo hCoX) hCod (by decide) (by decide) ?_
  refine r_bslice (b := b) (X := X) ?_
  ktn_no "go"
  refine r_cellname EV.kind hkp hcp (W.keep (by assumption) _ _ hCp hCpX) hCpd (by decide) (by decide) ?_
  ktn_no "go"
  refine r_item (W.lst (by assumption) (.tail _ (.head _))) (by decide) (by decide) rfl ?_
  refine ex6 _ _ _ _ _ _ ⟨by assumption, rfl, rfl, ?_, fun t' s' H' => ?_⟩
  · exact Nat.le_trans (KBc.size_picked_le _ _ _) (by rw [sizeLine_eq]; omega)
  · have e : (min ((p : Int) + 1) (y.size : Int)) = ((min (p + 1) o.length : Nat) : Int) := by rw [ysz]; exact cmin (p + 1) _
    rw [e] at H' ⊢
    refine h _ _ _ _ ?_ H'.tail
    rw [KBc.ints_picked hbi]
    have c1 : clipAt o.length (p : Int) = p := by unfold clipAt; rw [if_neg (Int.not_lt.mpr (Int.natCast_nonneg _))]; exact clip_le hp
    have c2 : clipAt o.length ((min (p + 1) o.length : Nat) : Int) = min (p + 1) o.length := by unfold clipAt; rw [if_neg (Int.not_lt.mpr (Int.natCast_nonneg _))]; exact clip_le (Nat.min_le_right _ _)
    show List.take (clipAt o.length _ - clipAt o.length _) (List.drop (clipAt o.length _) o) = _
    rw [c1, c2]
    by_cases hpe : p < o.length
    · rw [Nat.min_eq_left hpe, Nat.succ_sub (Nat.le_refl p), Nat.sub_self]
    · have : o.drop p = [] := List.drop_eq_nil_of_le (Nat.not_lt.mp hpe)
      rw [this]; simp
end
end
section
open PySem PySem.W PySem.W.X PyProof.Rows PySem.Calls
theorem fn_uint (w : World) : FnOk w 107 ["f", "data"] ["ValueError"] := ⟨by kernel_rfl, by kernel_rfl, by kernel_rfl, by kernel_rfl, by kernel_rfl, by kernel_rfl, by kernel_rfl, by kernel_rfl⟩
theorem bd_uint (w : World) (v : Value) : bindArgs (fdOf w 107) ⟨[v], []⟩ = pure ((["f"] : List Str).zip [v]) := by kernel_rfl
theorem nc_uint (w : World) : noCells (fdOf w 107).scope = true := by kernel_rfl
theorem ng_uint (w : World) : (fdOf w 107).scope.isGenerator = false := by kernel_rfl
theorem k124_ga (w : World) : findIn (KK w) (.ref 124) (Str.ofString "__getattribute__") = some (some (.builtin "object.__getattribute__")) := by kernel_rfl
theorem k124_gx (w : World) : findIn (KK w) (.ref 124) (Str.ofString "__getattr__") = some none := by kernel_rfl
theorem k124_rd (w : World) : findIn (KK w) (.ref 124) (Str.ofString "read") = some none := by kernel_rfl
section
variable {w : World} {b : Shared} {X : List Addr} {l l' : List (Addr × Cell)} {lg : List (Nat × GenState)} {s : Shared} {A : Around} {E : Value → Shared → Prop}

theorem wp_getRead {Q : Value × List Value → Shared → Prop} {S D R : Addr} {es : List DictEntry} {n : Nat} {pl : Sem Bool} (G : Glob w b X) (H : W b X l lg s)
    (hS : b.heap.get? S = some { cls := .ref 124, dict := some D }) (hSX : S ∉ X) (hD : b.heap.get? D = some (dictOf es n)) (hDX : D ∉ X) (hf : findObj (KK w) 124 (some (dictOf es n)) (Str.ofString "read") = some (.value (.ref R)))
    (h : ∀ s', W b X l lg s' → Q (.ref R, []) s') : wpAny (model prg w) A (getMethod (.ref S) (Str.ofString "read") pl) Q E s := by
  have I : PySem.W.InstAt s.heap S { cls := .ref 124, dict := some D } 124 (some (dictOf es n)) := ⟨H.keep _ _ hS hSX, rfl, rfl, H.keep _ _ hD hDX⟩
  have X₀ := G.in_ H
  have T := I.type (M := model prg w)
  have L1 : Looks (model prg w) s.heap (specialOf (.ref S) (Str.ofString "__getattribute__")) (some (.builtin "object.__getattribute__")) := T.andThen (looks_findIn X₀ (k124_ga w))
  have L2 : Looks (model prg w) s.heap (specialOf (.ref S) (Str.ofString "__getattr__")) none := T.andThen (looks_findIn X₀ (k124_gx w))
  have L3 : Looks (model prg w) s.heap (specialOf (.ref S) (Str.ofString "read")) none := T.andThen (looks_findIn X₀ (k124_rd w))
  unfold getMethod
  refine wpAny_bind (L1.here ?_)
  show wpAny _ _ (if (Manifest.canonical "object.__getattribute__" != "object.__getattribute__") = true then _ else _) _ _ _
  rw [if_neg (by decide +kernel)]
  refine wpAny_bind (L2.here ?_)
  refine wpAny_bind (L3.here ?_)
  refine wpAny_bind (get_value X₀ I (k124_ga w) hf rfl ?_)
  exact wpAny_pure (h _ (H.tok _))

noncomputable def eofMsg : Str := Str.ofString "not enough data in stream to read uint1"
set_option maxRecDepth 10000 in
set_option maxHeartbeats 4000000 in
theorem ok_uint {Q : Value → Shared → Prop} {o : List Int} {P S : Addr} {y : Array UInt8} {p : Nat} {tp : Tok} {fr : List Env} (G : Glob w b X) (ST : Strm w b X o P S y) (H : W b X ((P, .lst [.int p tp]) :: l) lg s) (hp : p ≤ o.length)
    (hA : A.depth + 2 < recursionLimit) (hh : A.handled = none) (hfr : A.frames = some fr) (hF : FrOk l fr)
    (h1 : ∀ x, o[p]? = some x → ∀ t t' s', W b X ((P, .lst [.int (p + 1 : Nat) t']) :: l) lg s' → Q (.int x t) s')
    (h2 : p = o.length → ∀ e a t' tm s', W b X ((e, .exc (newIn b) true true (.type "ValueError") (.ref a)) :: (a, .seq "tuple" [.str eofMsg tm]) :: (P, .lst [.int p t']) :: l) lg s' → E (.ref e) s') :
    wpAny (model prg w) A (call (.ref 107) [.ref S]) Q E s := by
  refine call_def ["f"] ["data"] (nm := ["f", "data"]) (vs := [some (.ref S), none]) rfl rfl G H (fn_uint w) (nc_uint w) (ng_uint w) (bd_uint w _) rfl (by ktn_no "om") ?_
  intro L env s₁ EV hnew H₁
  obtain ⟨D, R, Co, Cp, q, cl, ct, cd, pm, es, n, ty, oo, op, hS, hSX, hD, hDX, hf, hR, hRX, ⟨hcd, hcdX⟩, ho, hpl, hCo, hCoX, hCp, hCpX⟩ := ST.obj
  have hh' : (A.deeper env).handled = none := hh
  have hA' : (A.deeper env).depth < recursionLimit := by show A.depth + 1 < _; omega
  refine wpAny_execs_cons ?_
  ktn_no "go"
  refine MethodCall_ ?_
  ktn_no "go"
  refine wp_getRead G (by assumption) hS hSX hD hDX hf ?_
  intro s₂ H₂
  refine r_callO hR hRX rfl ?_
  ktn_no "go"
  refine ⟨⟨_, _, by assumption⟩, ?_⟩
  refine ok_read G (W.swap (by assumption)) hA' hh' ST.bi ST.len hp hR hRX hcd hcdX ho hpl hCo hCoX hCp hCpX ?_
  intro z t t' s₃ hz H₃
  have H₃ := H₃.swap
  have zsz : z.size = ((o.drop p).take 1).length := by rw [← hz]; simp [KBw.bInts]
  by_cases hlt : p < o.length
  · have hm : min (p + 1) o.length = p + 1 := Nat.min_eq_left hlt
    rw [hm] at H₃
    ktn_no "go"
    refine r_truthy_bytes (by assumption) (by rw [zsz, List.length_take]; exact Nat.le_trans (Nat.min_le_left _ _) (by decide)) ?_
    intro _ _
    have z1 : z.size = 1 := by rw [List.length_take, List.length_drop] at zsz; exact zsz.trans (Nat.min_eq_left (Nat.sub_pos_of_lt hlt))
    refine ite_t (by rw [z1]; decide) ?_
    have hz1 : (o.drop p).take 1 = [o[p]] := by rw [List.drop_eq_getElem_cons hlt]; rfl
    rw [hz1] at hz zsz
    ktn_no "go"
    refine r_bitem (by assumption) hz (by simp) (by decide) (by simp) ?_
    intro t₅ s₅ H₅
    exact h1 _ (List.getElem?_eq_getElem hlt) _ _ _ H₅.tail
  · have hm : min (p + 1) o.length = p := (Nat.min_eq_right (Nat.le_succ_of_le (Nat.not_lt.mp hlt))).trans (Nat.le_antisymm (Nat.not_lt.mp hlt) hp)
    rw [hm] at H₃
    ktn_no "go"
    refine r_truthy_bytes (by assumption) (by rw [zsz, List.length_take]; exact Nat.le_trans (Nat.min_le_left _ _) (by decide)) ?_
    intro _ _
    have z1 : z.size = 0 := by rw [List.length_take, List.length_drop] at zsz; exact zsz.trans (by rw [Nat.sub_eq_zero_of_le (Nat.not_lt.mp hlt)]; rfl)
    refine ite_n (by rw [z1]; decide) ?_
    ktn_no "go"
    refine r_raiseV G EV (by assumption) (by ktn_no "nth") (by kernel_rfl) (by kernel_rfl) hh' ?_
    ktn_no "go"
    refine ex2 _ _ ⟨by assumption, by rw [sizeLine_eq]; simp, fun e a s' He => ?_⟩
    refine wp_leaving (fr := env :: fr) He (by ktn_no "put") (by show A.frames.map (env :: ·) = _; rw [hfr]; rfl) (FrOk.cons EV.kind EV.frame (by ktn_no "mem") hF.more.more.more.more) EV.frame ⟨env, .head _, EV.frame⟩ ?_
    intro s'' H''
    exact h2 (Nat.le_antisymm hp (Nat.not_lt.mp hlt)) _ _ _ _ _ H''.del2
end
end
section
open PySem PySem.W PySem.W.X PyProof.Rows PySem.Calls
section
variable {w : World} {b : Shared} {X : List Addr} {l l' : List (Addr × Cell)} {lg : List (Nat × GenState)} {s : Shared} {A : Around} {Q E : Value → Shared → Prop}

/-- a generator function is called -/
theorem call_genfn {a : Addr} {fd : FuncData} {body : List Stmt} {o : Obj} (ps others : List Str) {nm gl : List Str} {vals : List Value} {vs : List (Option Value)} {args : Args} (hnm : ps ++ others = nm) (hvs : (vals.map some ++ others.map fun _ => none) = vs) (G : Glob w b X) (H : W b X l lg s)
    (ho : s.heap.get? a = some o) (hod : o.data = .func fd) (hcode : s.heap.CodeRec fd.code fd.qualname) (hsc : scopeOk fd.scope nm gl = true) (hco : fd.scope.isCoroutine = false) (hgl : fd.globals = mainGlobals) (hbl : fd.builtins = builtinsNs) (hbody : fd.body = .stmts body)
    (hc : noCells fd.scope = true) (hg : fd.scope.isGenerator = true) (hb : BindsTo s fd args (ps.zip vals)) (hlen : ps.length = vals.length) (hA : A.depth < recursionLimit)
    (h : ∀ L env ga g s', EnvOk env L nm gl → env.scope = fd.scope → env.cells = fd.closure → newIn b L → W b X ((ga, .gen g) :: (L, .ns nm vs) :: l) ((g, .fresh (.func body env)) :: lg) s' → Q (.ref ga) s') :
    wpAny (model prg w) A (call (.ref a) args.pos args.kw) Q E s := by
  subst hnm hvs
  unfold scopeOk at hsc
  simp only [Bool.and_eq_true, beq_iff_eq, decide_eq_true_eq] at hsc
  refine ea0_2 hsc fun q_1 hdb => ?_
  try clear hsc
  obtain ⟨⟨⟨hk, hloc⟩, hgl'⟩, hnd⟩ := q_1
  have hloc' := lookup_of_all hloc
  refine wpAny_call (codeAny_call_generator hA ho hod hco hg hbody hcode (hb _ _ _ _ ?_))
  refine wpAny_newFunctionEnv (fun x hx => ?_) (fun x hx => ?_) (fun h₁ hns hsb => ?_) hk
  · have := List.all_eq_true.mp hc x hx
    simpa using this
  · exact hloc' x.1 (List.mem_append_left _ (List.of_mem_zip hx).1)
  · have hkeep : ∀ c o, s.heap.get? c = some o → h₁.get? c = some o := fun c o e => by
      have := Heap.get?_push_of_some (h := s.heap) { cls := .type "frame", data := .dict #[] } e
      have ne : c ≠ s.heap.objs.size := Nat.ne_of_lt (Heap.lt_size e)
      exact (hsb.2 c ne).trans this
    have H1 : W b X l lg { s with heap := h₁, toks := s.toks + (ps.zip vals).length } := H.grow hkeep
    have H2 : W b X ((s.heap.objs.size, .ns (ps ++ others) (vals.map some ++ others.map fun _ => none)) :: l) lg { s with heap := h₁, toks := s.toks + (ps.zip vals).length } :=
      H1.cons (by show h₁.Ns _ _; rw [look_binds hnd hlen]; exact hns) trivial H.fresh fun p hp e => absurd (H.lt hp) (by rw [e]; exact Nat.lt_irrefl _)
    have EO : EnvOk (callEnv fd s.heap.objs.size a) s.heap.objs.size (ps ++ others) gl :=
      ⟨rfl, rfl, hk, hgl, hbl, hloc', lookup_of_all hgl', hnd, fun x hx => by simpa using List.all_eq_true.mp hdb x hx⟩
    refine ⟨G.nolimit H2, ?_⟩
    have H3 := (H2.newGen (c := .func body (callEnv fd s.heap.objs.size a)))
    have H4 := H3.push (o := { cls := .type "generator", data := .fields #[.int (s.gens.size : Nat) 0, .str fd.name (s.toks + (ps.zip vals).length), .str fd.qualname (s.toks + (ps.zip vals).length + 1)] }) (c := .gen s.gens.size) (t' := s.toks + (ps.zip vals).length + 1 + 1) rfl (fun h' e => ⟨_, _, _, e, rfl, rfl, rfl⟩) trivial
    exact h _ _ _ _ _ EO rfl rfl H.fresh H4
end
end
section
open PySem PySem.W PySem.W.X PyProof.Rows PySem.Calls
noncomputable abbrev nmN : List Str := ["stream", "octet"]
theorem fn_numbers (w : World) : FnOk w 149 nmN ["read_uint1"] := ⟨by kernel_rfl, by kernel_rfl, by kernel_rfl, by kernel_rfl, by kernel_rfl, by kernel_rfl, by kernel_rfl, by kernel_rfl⟩
noncomputable def nW (w : World) : Expr × List Stmt := match (bodyOf w 149).getD 1 (.Pass ⟨0, 0, 0, 0⟩) with | .While t b _ _ => (t, b) | _ => (default, [])

/-- the frames that a generator's own code stands in -/
structure OvOk (A' : Around) (A : Around) (env : Env) (fr : List Env) : Prop where
  handled : A'.handled = A.handled
  depth : A'.depth ≤ A.depth + 1
  frames : A'.frames = some (env :: fr)
theorem over_func {A : Around} {body : List Stmt} {env : Env} {fr : List Env} (h : A.frames = some fr) : OvOk (A.over (.func body env) []) A env fr :=
  ⟨rfl, Nat.le_refl _, by show pushEnvs [env] (pushEnvs [] A.frames) = _; rw [h]; rfl⟩
theorem over_while {A : Around} {test : Expr} {b o : List Stmt} {body : List Stmt} {env : Env} {fr : List Env} {k : Result → Sem PySem.Fin} {g : Bool} {lv : List Value} {p : Pos} (h : A.frames = some fr) : OvOk (A.over (.whileLoop test b o env) [.ret k none g lv (.func body env) p []]) A env fr :=
  ⟨rfl, Nat.le_refl _, by show pushEnvs [] (pushEnvs [env] A.frames) = _; rw [h]; rfl⟩
theorem over_for {A : Around} {target : Expr} {it : Value} {b o : List Stmt} {body : List Stmt} {env : Env} {fr : List Env} {k : Result → Sem PySem.Fin} {g : Bool} {lv : List Value} {p : Pos} (h : A.frames = some fr) : OvOk (A.over (.forLoop target it b o env) [.ret k none g lv (.func body env) p []]) A env fr :=
  ⟨rfl, Nat.le_refl _, by show pushEnvs [] (pushEnvs [env] A.frames) = _; rw [h]; rfl⟩

section
variable {w : World} {b : Shared} {X : List Addr} {l l' : List (Addr × Cell)} {lg : List (Nat × GenState)} {s : Shared} {A : Around} {env : Env} {L : Addr} {fr : List Env} {P : End → Shared → Prop}

/-- an error leaves the generator's own code -/
theorem sx_leave {e : Addr} {f k : Bool} {C args : Value} {body : List Stmt} (H : W b X l lg s) (hl : Put l (e, .exc (newIn b) f k C args) (e, .exc (newIn b) true k C args) l') (hfr : A.frames = some fr) (hF : FrOk l (env :: fr)) (hL : env.frame = some L)
    (h : ∀ x s', x.result = .raised (.ref e) → W b X l' lg s' → P x s') : SegX (model prg w) A (.func body env) ((leaving env (.ref e)).wrap (fun _ => .raise (.ref e)) .raise id id) [] s P := by
  refine sx_wrap (wp_leaving H hl (over_func hfr).frames hF hL ⟨env, .head _, hL⟩ fun s' H' => ?_)
  exact sx_end (.error (.ref e)) (h _ _ rfl H')
/-- an error leaves a loop, then the generator's own code -/
theorem sx_leaveLoop {c : Code} {e : Addr} {f k : Bool} {C args : Value} {body : List Stmt} {K : Flow → Sem PySem.Fin} {g : Bool} {lv : List Value} {p : Pos} (H : W b X l lg s) (hl : Put l (e, .exc (newIn b) f k C args) (e, .exc (newIn b) true k C args) l') (hfr : A.frames = some fr)
    (hO : (A.over c [.ret (backK env K (fun e => (leaving env e).wrap (fun _ => .raise e) .raise id id) id id) none g lv (.func body env) p []]).frames = some (env :: fr)) (hF : FrOk l (env :: fr)) (hF' : FrOk l' (env :: fr)) (hL : env.frame = some L)
    (h : ∀ x s', x.result = .raised (.ref e) → W b X l' lg s' → P x s') :
    SegX (model prg w) A c (HL env (.ref e)) [.ret (backK env K (fun e => (leaving env e).wrap (fun _ => .raise e) .raise id id) id id) none g lv (.func body env) p []] s P := by
  have hm : (e, Cell.exc (newIn b) true k C args) ∈ l' := by
    refine ea2_2 hl.split fun l₁ l₂ e_1 e_2 => ?_
    subst e_1
    subst e_2
    exact List.mem_append_right _ (.head _)
  have hl' : Put l' (e, .exc (newIn b) true k C args) (e, .exc (newIn b) true k C args) l' := by
    have : ∀ {l l' : List (Addr × Cell)} {p q : Addr × Cell}, Put l p q l' → Put l' q q l' := fun {l l' p q} h => by
      induction h with
      | zero => exact .zero
      | succ _ ih => exact .succ ih
    exact this hl
  refine sx_wrap (wpAny_bind (wp_note H hl hO hF hL ⟨env, .head _, hL⟩ fun s' H' => wpAny_theTreesLotGoes ?_))
  refine sx_popErr ?_
  have := wp_cameBack (w := w) (A := A.over (.func body env) []) (env := env) (E := fun x s' => SegX (model prg w) A (.func body env) ((leaving env x).wrap (fun _ => .raise x) .raise id id) [] s' P) H' hm fun s'' H'' => sx_leave H'' hl' hfr hF' hL h
  unfold cameBackBy at this
  exact this
end
end
section
open PySem PySem.W PySem.W.X PyProof.Rows PySem.Calls
/-- what the numbers' generator does when it is woken: P's place p, its frame LN, n more wakings are spoken of -/
noncomputable def NG (w : World) (b : Shared) (X : List Addr) (o : List Int) (P S LN : Addr) : Nat → GenState → Prop
  | 0, _ => True
  | n + 1, gs => ∀ (A : Around) (s : Shared) (p : Nat) (tp : Tok) (ov : Option Value) (l : List (Addr × Cell)) (lg : List (Nat × GenState)) (fr : List Env) (R : End → Shared → Prop), p ≤ o.length →
      W b X ((P, .lst [.int p tp]) :: (LN, .ns nmN [some (.ref S), ov]) :: l) lg s → A.depth + 5 < recursionLimit → A.handled = none → A.frames = some fr → FrOk l fr →
      (∀ x s' t' ov', o[p]? = some 0 → x.result = .returned .none → W b X ((P, .lst [.int (p + 1 : Nat) t']) :: (LN, .ns nmN [some (.ref S), ov']) :: l) lg s' → R x s') →
      (∀ x s' t' ov' v tk, o[p]? = some v → v ≠ 0 → x.result = .yielded (.int (v - 100) tk) → x.genState.bare = true → NG w b X o P S LN n x.genState → W b X ((P, .lst [.int (p + 1 : Nat) t']) :: (LN, .ns nmN [some (.ref S), ov']) :: l) lg s' → R x s') →
      (∀ x s' t' ov' e a tm, p = o.length → x.result = .raised (.ref e) → W b X ((e, .exc (newIn b) true true (.type "ValueError") (.ref a)) :: (a, .seq "tuple" [.str eofMsg tm]) :: (P, .lst [.int p t']) :: (LN, .ns nmN [some (.ref S), ov']) :: l) lg s' → R x s') →
      Wk (model prg w) A gs s R

section
variable {w : World} {b : Shared} {X : List Addr} {l l' : List (Addr × Cell)} {lg : List (Nat × GenState)} {s : Shared} {A : Around} {env : Env} {L : Addr} {fr : List Env} {R : End → Shared → Prop}
noncomputable abbrev kN : Flow → Sem PySem.Fin := fun f => .pure (.done (.ret (match f with | .ret v => v | _ => .none)))
noncomputable abbrev hN (env : Env) : Value → Sem PySem.Fin := fun e => (leaving env e).wrap (fun _ => .raise e) .raise id id
/-- behind the loop, nothing -/
noncomputable abbrev kN1 (env : Env) : Flow → Sem PySem.Fin := fun f => match f with | .next => (execs [] env).wrap kN (hN env) id id | f => kN f
noncomputable abbrev fsN (w : World) (env : Env) (p : Pos) : List Frame := [.ret (backK env (kN1 env) (hN env) id id) none false [] (.func (bodyOf w 149) env) p []]
noncomputable abbrev cN (w : World) (env : Env) : Code := .whileLoop (nW w).1 (nW w).2 [] env
noncomputable abbrev kL (c : Code) : Flow → Sem PySem.Fin := fun f => match f with
  | .next | .cont => .pure (.again c)
  | .brk => .pure (.done .next)
  | .ret v => .pure (.done (.ret v))

set_option maxRecDepth 10000 in
set_option maxHeartbeats 4000000 in
/-- the loop's head, an octet at hand -/
theorem headN {o : List Int} {P S : Addr} {y : Array UInt8} {n p : Nat} {v : Int} {tv t' : Tok} {pp : Pos} (G : Glob w b X) (ST : Strm w b X o P S y) (EV : EnvOk env L nmN ["read_uint1"]) (hco : env.scope.isCoroutine = false)
    (IH : ∀ gs : GenState, gs.bare = true → (∀ A' s'' P', SegX (model prg w) A' (cN w env) ((execs ((nW w).2.tail) env).wrap (kL (cN w env)) (HL env) id id) (fsN w env pp) s'' P' → Wk (model prg w) A' gs s'' P') → NG w b X o P S L n gs)
    (H : W b X ((P, .lst [.int (p + 1 : Nat) t']) :: (L, .ns nmN [some (.ref S), some (.int v tv)]) :: l) lg s) (hA : A.depth + 5 < recursionLimit) (hh : A.handled = none) (hfr : A.frames = some fr) (hv : o[p]? = some v)
    (h1 : ∀ x s' t' ov', o[p]? = some 0 → x.result = .returned .none → W b X ((P, .lst [.int (p + 1 : Nat) t']) :: (L, .ns nmN [some (.ref S), ov']) :: l) lg s' → R x s')
    (h2 : ∀ x s' t' ov' v tk, o[p]? = some v → v ≠ 0 → x.result = .yielded (.int (v - 100) tk) → x.genState.bare = true → NG w b X o P S L n x.genState → W b X ((P, .lst [.int (p + 1 : Nat) t']) :: (L, .ns nmN [some (.ref S), ov']) :: l) lg s' → R x s') :
    SegX (model prg w) A (cN w env) (denote table (cN w env)) (fsN w env pp) s R := by
  have O : OvOk (A.over (cN w env) (fsN w env pp)) A env fr := over_while hfr
  refine sx_whileLoop ?_
  refine wpAny_isTrue_Compare1 ?_
  ktn_no "go"
  refine r_ite (fun hc => ?_) (fun hc => ?_)
  · have hv0 : v ≠ 0 := by simpa using hc
    refine sx_execs_cons ?_
    refine sx_yield rfl rfl rfl ?_ hco (by unfold interactive; rw [EV.kind]; rfl)
    ktn_no "go"
    intro x hx hb hwk
    exact h2 x _ _ _ v _ hv hv0 hx hb (IH _ hb hwk) (by assumption)
  · have hv0 : v = 0 := by simpa using hc
    subst hv0
    refine sx_popOk ?_
    exact sx_end (.ok (.ret .none)) (h1 _ _ _ _ hv rfl (by assumption))
end
end
section
open PySem PySem.W PySem.W.X PyProof.Rows PySem.Calls
section
variable {w : World} {b : Shared} {X : List Addr} {l l' : List (Addr × Cell)} {lg : List (Nat × GenState)} {s : Shared} {A : Around} {env : Env} {L : Addr} {fr : List Env} {R : End → Shared → Prop}
theorem Put.self {α : Type} {l l' : List α} {p q : α} (h : Put l p q l') : Put l' q q l' := by
  induction h with
  | zero => exact .zero
  | succ _ ih => exact .succ ih
set_option maxRecDepth 10000 in
set_option maxHeartbeats 4000000 in
theorem ngLoop {o : List Int} {P S : Addr} {y : Array UInt8} {pp : Pos} (G : Glob w b X) (ST : Strm w b X o P S y) (EV : EnvOk env L nmN ["read_uint1"]) (hco : env.scope.isCoroutine = false) : ∀ (n : Nat) (gs : GenState), gs.bare = true →
    (∀ A' s'' P', SegX (model prg w) A' (cN w env) ((execs ((nW w).2.tail) env).wrap (kL (cN w env)) (HL env) id id) (fsN w env pp) s'' P' → Wk (model prg w) A' gs s'' P') → NG w b X o P S L n gs
  | 0, _, _, _ => trivial
  | n + 1, gs, hb, hwk => by
    intro A s p tp ov l lg fr R hp H hA hh hfr hF h1 h2 h3
    have O : OvOk (A.over (cN w env) (fsN w env pp)) A env fr := over_while hfr
    have hF' : FrOk ((L, .ns nmN [some (.ref S), ov]) :: l) (env :: fr) := FrOk.cons EV.kind EV.frame (.head _) hF.more
    refine hwk A s R ?_
    refine sx_execs_cons ?_
    refine sx_wrap ?_
    ktn_no "go"
    refine r_callF G (fn_uint w).at_ ?_
    ktn_no "go"
    refine ⟨⟨_, _, H⟩, ?_⟩
    refine ok_uint G ST H hp (by have := O.depth; ktn_no "om") (O.handled.trans hh) O.frames hF' ?_ ?_
    · intro v hv t t' s₂ H₂
      ktn_no "go"
      refine sx_again rfl ?_
      exact headN G ST EV hco (fun gs' hb' hw' => ngLoop G ST EV hco n gs' hb' hw') (by assumption) hA hh hfr hv h1 h2
    · intro hpe e a t' tm s₂ H₂
      refine sx_leaveLoop H₂ (by ktn_no "put") hfr O.frames hF'.more.more.more hF'.more.more.more EV.frame ?_
      intro x s' hx H'
      exact h3 x s' _ _ e a tm hpe hx H'

set_option maxRecDepth 10000 in
set_option maxHeartbeats 4000000 in
theorem ngFresh {o : List Int} {P S : Addr} {y : Array UInt8} (G : Glob w b X) (ST : Strm w b X o P S y) (EV : EnvOk env L nmN ["read_uint1"]) (hco : env.scope.isCoroutine = false) (n : Nat) : NG w b X o P S L n (.fresh (.func (bodyOf w 149) env)) := by
  cases n with
  | zero => trivial
  | succ n =>
    intro A s p tp ov l lg fr R hp H hA hh hfr hF h1 h2 h3
    have O : OvOk (A.over (.func (bodyOf w 149) env) []) A env fr := over_func hfr
    have hF' : FrOk ((L, .ns nmN [some (.ref S), ov]) :: l) (env :: fr) := FrOk.cons EV.kind EV.frame (.head _) hF.more
    refine sx_func ?_
    refine sx_execs_cons ?_
    refine sx_wrap ?_
    ktn_no "go"
    refine r_callF G (fn_uint w).at_ ?_
    ktn_no "go"
    refine ⟨⟨_, _, H⟩, ?_⟩
    refine ok_uint G ST H hp (by have := O.depth; ktn_no "om") (O.handled.trans hh) O.frames hF' ?_ ?_
    · intro v hv t t' s₂ H₂
      ktn_no "go"
      refine sx_execs_cons (sx_While fun pp => ?_)
      exact headN (pp := pp) G ST EV hco (fun gs' hb' hw' => ngLoop G ST EV hco n gs' hb' hw') (by assumption) hA hh hfr hv h1 h2
    · intro hpe e a t' tm s₂ H₂
      refine sx_leave H₂ (by ktn_no "put") hfr hF'.more.more.more EV.frame ?_
      intro x s' hx H'
      exact h3 x s' _ _ e a tm hpe hx H'
end
end
section
open PySem PySem.W PySem.W.X PyProof.Rows PySem.Calls
theorem k52 (w : World) : ∃ nm q bs hdct sn sub ab col dd k0 k1 k2 k3 k5, (KK w).lookup 52 = some (excClassObj nm q 52 51 bs [.type "ValueError", .type "Exception", .type "BaseException", .type "object"] hdct sn sub ab col dd k0 k1 k2 k3 k5 "ValueError.__new__") :=
  ⟨_, _, _, _, _, _, _, _, _, _, _, _, _, _, rfl⟩
theorem k51 (w : World) : ∃ o es ep, (KK w).lookup 51 = some o ∧ o.data = .dict es ep ∧ (es.toList.all fun e => match e.key with | .str _ _ => true | _ => false) = true ∧ nsFind es (Str.ofString "__init__") = none :=
  ⟨_, _, _, rfl, rfl, rfl, by kernel_rfl⟩
section
variable {w : World} {b : Shared} {X : List Addr} {l l' : List (Addr × Cell)} {lg : List (Nat × GenState)} {s : Shared} {A : Around} {E : Value → Shared → Prop} {env : Env}
theorem ns51 (G : Glob w b X) (H : W b X l lg s) : ∃ mN, s.heap.Ns 51 mN ∧ mN (Str.ofString "__init__") = none := by
  refine ea3_4 (k51 w) fun o es ep ho hd hk hn => ?_
  refine ⟨nsFind es, ⟨o, es, ep, G.at_ H ho, hd, fun e he => ?_, fun _ => rfl⟩, hn⟩
  have := List.all_eq_true.mp hk e (by simpa using he)
  cases q : e.key with
  | str n t => exact ⟨n, t, rfl⟩
  | _ => rw [q] at this; cases this

/-- raise StatisticsError(..) where nothing is being handled -/
theorem r_raiseS {e : Expr} {rest : List Expr} {np cpos pos : Pos} {Q : Flow → Shared → Prop} (G : Glob w b X) {L : Addr} {nm gl : List Str} {i : Nat} (EV : EnvOk env L nm gl) (H : W b X l lg s) (hx : Nth gl i (Str.ofString "StatisticsError")) (hh : A.handled = none)
    (h : wpAny (model prg w) A (spliced (backTo cpos (starEach (e :: rest) env))) (fun vs s₂ => ∃ m mg, W b X m mg s₂ ∧ vs.length ≤ sizeLine ∧ ∀ e a s', W b X ((e, .exc (newIn b) false true (.ref 52) (.ref a)) :: (a, .seq "tuple" vs) :: m) mg s' → E (.ref e) s') E s)
    (he : starEach (e :: rest) env = (false, eval e env) :: starEach rest env := by rfl) (hplain : (backTo cpos (starEach rest env)).any (·.1) = false := by rfl) :
    wpAny (model prg w) A (exec (.Raise (some (.Call (.Name (Str.ofString "StatisticsError") np) (e :: rest) [] cpos)) none pos) env) Q E s := by
  obtain ⟨nm', q, bs, hdct, sn, sub, ab, col, dd, k0, k1, k2, k3, k5, hk⟩ := k52 w
  refine ea3_4 (k51 w) fun o es ep ho hd hkk hn0 => ?_
  refine wpAny_Raise_call_sub (C := 52) (N := 51) (nm := nm') (q := q) (bs := bs) (hdct := hdct) (sn := sn) (sub := sub) (ab := ab) (col := col) (dd := dd) (k0 := k0) (k1 := k1) (k2 := k2) (k3 := k3) (k5 := k5) F.excBase_ValueError (mN := nsFind es) hh
    (by rw [he]; show (false || (backTo cpos (starEach rest env)).any (·.1)) = false; rw [hplain]; rfl) hn0 (ng_StatisticsError G EV H hx ⟨rfl, ?_⟩)
  rw [he] at h ⊢
  refine evalArgs_plain (wpAny_mono h (fun vs s₂ h₂ => ?_) fun _ _ x => x)
  refine ea2_3 h₂ fun m mg H₂ hz hE => ?_
  try clear h₂
  refine ⟨rfl, hz, G.at_ H₂ hk, ⟨o, es, ep, G.at_ H₂ ho, hd, fun e he => ?_, fun _ => rfl⟩, fun h' ee hm => ?_⟩
  · have := List.all_eq_true.mp hkk e (by simpa using he)
    cases q : e.key with
    | str n t => exact ⟨n, t, rfl⟩
    | _ => rw [q] at this; cases this
  · refine ea1_1 (H₂.made (C := .ref 52) (by simp) hm) fun a Hm => ?_
    exact hE _ _ _ Hm
end
end
section
open PySem PySem.W PySem.W.X PyProof.Rows PySem.Calls
noncomputable abbrev nmF : List Str := ["values", "errmsg", "x"]
theorem fn_failneg (w : World) : FnOk w 63 nmF ["StatisticsError"] := ⟨by kernel_rfl, by kernel_rfl, by kernel_rfl, by kernel_rfl, by kernel_rfl, by kernel_rfl, by kernel_rfl, by kernel_rfl⟩
noncomputable def fW (w : World) : Expr × List Stmt := match (bodyOf w 63).getD 0 (.Pass ⟨0, 0, 0, 0⟩) with | .For t _ b _ _ => (t, b) | _ => (default, [])
noncomputable abbrev cF (w : World) (env : Env) (aN : Addr) : Code := .forLoop (fW w).1 (.ref aN) (fW w).2 [] env
noncomputable abbrev fsF (w : World) (env : Env) (p : Pos) : List Frame := [.ret (backK env (kN1 env) (hN env) id id) none false [] (.func (bodyOf w 63) env) p []]

/-- the ledger's cells that the two generators stand on -/
noncomputable abbrev cellsF (P S LN LF aN : Addr) (gN : Nat) (msg : Str) (p : Nat) (tp tm : Tok) (ov xv : Option Value) (l : List (Addr × Cell)) : List (Addr × Cell) :=
  (P, .lst [.int p tp]) :: (LN, .ns nmN [some (.ref S), ov]) :: (LF, .ns nmF [some (.ref aN), some (.str msg tm), xv]) :: (aN, .gen gN) :: l

noncomputable def FG (w : World) (b : Shared) (X : List Addr) (o : List Int) (P S LN LF aN : Addr) (gN : Nat) (msg : Str) : Nat → GenState → Prop
  | 0, _ => True
  | n + 1, gs => ∀ (A : Around) (s : Shared) (p : Nat) (tp tm : Tok) (ov xv : Option Value) (gsN : GenState) (l : List (Addr × Cell)) (lg : List (Nat × GenState)) (fr : List Env) (R : End → Shared → Prop), p ≤ o.length → NG w b X o P S LN (n + 1) gsN →
      W b X (cellsF P S LN LF aN gN msg p tp tm ov xv l) ((gN, gsN) :: lg) s → A.depth + 10 < recursionLimit → A.handled = none → A.frames = some fr → FrOk l fr →
      (∀ x s' t' ov' xv' gs', o[p]? = some 0 → x.result = .returned .none → W b X (cellsF P S LN LF aN gN msg (p + 1) t' tm ov' xv' l) ((gN, gs') :: lg) s' → R x s') →
      (∀ x s' t' ov' xv' gs' v tk, o[p]? = some v → 100 ≤ v → x.result = .yielded (.int (v - 100) tk) → x.genState.bare = true → FG w b X o P S LN LF aN gN msg n x.genState → NG w b X o P S LN n gs' → W b X (cellsF P S LN LF aN gN msg (p + 1) t' tm ov' xv' l) ((gN, gs') :: lg) s' → R x s') →
      (∀ x s' t' ov' xv' gs' v e a, o[p]? = some v → v ≠ 0 → v < 100 → x.result = .raised (.ref e) → W b X ((e, .exc (newIn b) true true (.ref 52) (.ref a)) :: (a, .seq "tuple" [.str msg tm]) :: cellsF P S LN LF aN gN msg (p + 1) t' tm ov' xv' l) ((gN, gs') :: lg) s' → R x s') →
      (∀ x s' t' ov' xv' gs' e a tm', p = o.length → x.result = .raised (.ref e) → W b X ((e, .exc (newIn b) true true (.type "ValueError") (.ref a)) :: (a, .seq "tuple" [.str eofMsg tm']) :: cellsF P S LN LF aN gN msg p t' tm ov' xv' l) ((gN, gs') :: lg) s' → R x s') →
      Wk (model prg w) A gs s R

section
variable {w : World} {b : Shared} {X : List Addr} {l l' : List (Addr × Cell)} {lg : List (Nat × GenState)} {s : Shared} {A : Around} {env : Env} {L : Addr} {fr : List Env} {R : End → Shared → Prop}

/-- the numbers' generator as its consumer sees it -/
theorem nextN {E : Value → Shared → Prop} {Q : Option Value → Shared → Prop} {o : List Int} {P S LN aN : Addr} {gN n p : Nat} {tp : Tok} {ov : Option Value} {gsN : GenState} (G : Glob w b X)
    (hN : NG w b X o P S LN (n + 1) gsN) (H : W b X ((P, .lst [.int p tp]) :: (LN, .ns nmN [some (.ref S), ov]) :: l) ((gN, gsN) :: lg) s) (ha : (aN, .gen gN) ∈ l) (hp : p ≤ o.length)
    (hA : A.depth + 5 < recursionLimit) (hh : A.handled = none) (hfr : A.frames = some fr) (hF : FrOk l fr)
    (h1 : o[p]? = some 0 → ∀ s' t' ov', W b X ((P, .lst [.int (p + 1 : Nat) t']) :: (LN, .ns nmN [some (.ref S), ov']) :: l) ((gN, .finished) :: lg) s' → Q none s')
    (h2 : ∀ v, o[p]? = some v → v ≠ 0 → ∀ s' t' ov' tk gs', NG w b X o P S LN n gs' → W b X ((P, .lst [.int (p + 1 : Nat) t']) :: (LN, .ns nmN [some (.ref S), ov']) :: l) ((gN, gs') :: lg) s' → Q (some (.int (v - 100) tk)) s')
    (h3 : p = o.length → ∀ s' t' ov' e a tm, W b X ((e, .exc (newIn b) true true (.type "ValueError") (.ref a)) :: (a, .seq "tuple" [.str eofMsg tm]) :: (P, .lst [.int p t']) :: (LN, .ns nmN [some (.ref S), ov']) :: l) ((gN, .finished) :: lg) s' → E (.ref e) s') :
    wpAny (model prg w) A (pyNext (.ref aN)) Q E s := by
  refine wp_next G H (.tail _ (.tail _ ha)) (.head _) .zero hh (by ktn_no "om") fun s₁ H₁ => ?_
  refine hN A.in1 s₁ p tp ov l ((gN, .running) :: lg) fr _ hp H₁ hA hh hfr hF ?_ ?_ ?_
  · intro x s' t' ov' h0 hx H'
    refine .inr (.inl ⟨hx, fun s₃ h₃ => h1 h0 _ _ _ (h₃ _ _ _ _ (H'.setGen .zero rfl))⟩)
  · intro x s' t' ov' v tk hv hv0 hx hb hn H'
    exact .inl ⟨_, hx, h2 v hv hv0 _ _ _ _ _ hn (H'.setGen .zero hb)⟩
  · intro x s' t' ov' e a tm hpe hx H'
    have H'' := H'.setGen (gs' := .finished) .zero rfl
    exact .inr (.inr ⟨e, _, _, _, _, _, _, _, hx, H'', .tail _ (.tail _ (.tail _ (.tail _ ha))), .head _, notStop_value, h3 hpe _ _ _ _ _ _ H''⟩)

set_option maxRecDepth 10000 in
set_option maxHeartbeats 4000000 in
theorem headF {o : List Int} {P S LN aN : Addr} {gN n p : Nat} {msg : Str} {tp tm : Tok} {ov xv : Option Value} {gsN : GenState} {pp : Pos} (G : Glob w b X) (EV : EnvOk env L nmF ["StatisticsError"]) (hco : env.scope.isCoroutine = false)
    (IH : ∀ gs : GenState, gs.bare = true → (∀ A' s'' P', SegX (model prg w) A' (cF w env aN) ((execs [] env).wrap (kL (cF w env aN)) (HL env) id id) (fsF w env pp) s'' P' → Wk (model prg w) A' gs s'' P') → FG w b X o P S LN L aN gN msg n gs)
    (hp : p ≤ o.length) (hNG : NG w b X o P S LN (n + 1) gsN) (H : W b X (cellsF P S LN L aN gN msg p tp tm ov xv l) ((gN, gsN) :: lg) s) (hA : A.depth + 10 < recursionLimit) (hh : A.handled = none) (hfr : A.frames = some fr) (hF : FrOk l fr)
    (h1 : ∀ x s' t' ov' xv' gs', o[p]? = some 0 → x.result = .returned .none → W b X (cellsF P S LN L aN gN msg (p + 1) t' tm ov' xv' l) ((gN, gs') :: lg) s' → R x s')
    (h2 : ∀ x s' t' ov' xv' gs' v tk, o[p]? = some v → 100 ≤ v → x.result = .yielded (.int (v - 100) tk) → x.genState.bare = true → FG w b X o P S LN L aN gN msg n x.genState → NG w b X o P S LN n gs' → W b X (cellsF P S LN L aN gN msg (p + 1) t' tm ov' xv' l) ((gN, gs') :: lg) s' → R x s')
    (h3 : ∀ x s' t' ov' xv' gs' v e a, o[p]? = some v → v ≠ 0 → v < 100 → x.result = .raised (.ref e) → W b X ((e, .exc (newIn b) true true (.ref 52) (.ref a)) :: (a, .seq "tuple" [.str msg tm]) :: cellsF P S LN L aN gN msg (p + 1) t' tm ov' xv' l) ((gN, gs') :: lg) s' → R x s')
    (h4 : ∀ x s' t' ov' xv' gs' e a tm', p = o.length → x.result = .raised (.ref e) → W b X ((e, .exc (newIn b) true true (.type "ValueError") (.ref a)) :: (a, .seq "tuple" [.str eofMsg tm']) :: cellsF P S LN L aN gN msg p t' tm ov' xv' l) ((gN, gs') :: lg) s' → R x s') :
    SegX (model prg w) A (cF w env aN) (denote table (cF w env aN)) (fsF w env pp) s R := by
  have O : OvOk (A.over (cF w env aN) (fsF w env pp)) A env fr := over_for hfr
  have hOd := O.depth
  have hh' : (A.over (cF w env aN) (fsF w env pp)).handled = none := O.handled.trans hh
  have hF' : ∀ xv, FrOk ((L, .ns nmF [some (.ref aN), some (.str msg tm), xv]) :: (aN, .gen gN) :: l) (env :: fr) := fun xv => FrOk.cons EV.kind EV.frame (.head _) hF.more.more
  refine sx_forLoop ?_
  refine nextN G hNG H (by ktn_no "mem") hp (by show (A.over (cF w env aN) (fsF w env pp)).depth + 5 < _; ktn_no "om") hh' O.frames (hF' xv) ?_ ?_ ?_
  · intro h0 s' t' ov' H'
    refine sx_popOk ?_
    exact sx_end (.ok (.ret .none)) (h1 _ _ _ _ _ _ h0 rfl H')
  · intro v hv hv0 s' t' ov' tk gs' hn' H'
    show wpAny _ _ (letOwnedTupleGo (fW w).1 (.ref aN) _ >>= fun _ => assign (fW w).1 env _) _ _ _
    refine wpAny_bind (wpAny_pure (wpAny_bind (wpAny_standAt (wpAny_bindName ?_))))
    ktn_no "go"
    refine sx_execs_cons (sx_wrap ?_)
    ktn_no "go"
    refine r_ite (fun hc => ?_) (fun hc => ?_)
    · have hlt : v - 100 < 0 := by simpa using hc
      ktn_no "go"
      refine r_raiseS G EV (by assumption) (by ktn_no "nth") hh' ?_
      ktn_no "go"
      refine ex2 _ _ ⟨by assumption, by rw [sizeLine_eq]; simp, fun e a s₄ H₄ => ?_⟩
      refine sx_leaveLoop H₄ (by ktn_no "put") hfr O.frames (hF' _).more.more.more.more (hF' _).more.more.more.more EV.frame ?_
      intro x s₅ hx H₅
      exact h3 x s₅ _ _ _ _ v e a hv hv0 (by ktn_no "om") hx H₅
    · have hge : 0 ≤ v - 100 := by simpa using hc
      ktn_no "go"
      refine sx_execs_cons ?_
      refine sx_yield rfl rfl rfl ?_ hco (by unfold interactive; rw [EV.kind]; rfl)
      ktn_no "go"
      intro x hx hb hwk
      exact h2 x _ _ _ _ _ v _ hv (by ktn_no "om") hx hb (IH _ hb hwk) hn' (by assumption)
  · intro hpe s' t' ov' e a tm' H'
    refine sx_leaveLoop H' (by ktn_no "put") hfr O.frames (hF' _).more.more.more.more (hF' _).more.more.more.more EV.frame ?_
    intro x s₅ hx H₅
    exact h4 x s₅ _ _ _ _ e a tm' hpe hx H₅
end
end
section
open PySem PySem.W PySem.W.X PyProof.Rows PySem.Calls
section
variable {w : World} {b : Shared} {X : List Addr} {l l' : List (Addr × Cell)} {lg : List (Nat × GenState)} {s : Shared} {A : Around} {env : Env} {L : Addr} {fr : List Env} {R : End → Shared → Prop}
theorem fgLoop {o : List Int} {P S LN aN : Addr} {gN : Nat} {msg : Str} {pp : Pos} (G : Glob w b X) (EV : EnvOk env L nmF ["StatisticsError"]) (hco : env.scope.isCoroutine = false) : ∀ (n : Nat) (gs : GenState), gs.bare = true →
    (∀ A' s'' P', SegX (model prg w) A' (cF w env aN) ((execs [] env).wrap (kL (cF w env aN)) (HL env) id id) (fsF w env pp) s'' P' → Wk (model prg w) A' gs s'' P') → FG w b X o P S LN L aN gN msg n gs
  | 0, _, _, _ => trivial
  | n + 1, gs, hb, hwk => by
    intro A s p tp tm ov xv gsN l lg fr R hp hNG H hA hh hfr hF h1 h2 h3 h4
    exact hwk A s R (sx_again rfl (headF G EV hco (fun gs' hb' hw' => fgLoop G EV hco n gs' hb' hw') hp hNG H hA hh hfr hF h1 h2 h3 h4))
set_option maxRecDepth 10000 in
set_option maxHeartbeats 4000000 in
theorem fgFresh {o : List Int} {P S LN aN : Addr} {gN : Nat} {msg : Str} (G : Glob w b X) (EV : EnvOk env L nmF ["StatisticsError"]) (hco : env.scope.isCoroutine = false) (n : Nat) : FG w b X o P S LN L aN gN msg n (.fresh (.func (bodyOf w 63) env)) := by
  cases n with
  | zero => trivial
  | succ n =>
    intro A s p tp tm ov xv gsN l lg fr R hp hNG H hA hh hfr hF h1 h2 h3 h4
    refine sx_func ?_
    refine sx_execs_cons (sx_For ?_)
    refine wpAny_bind ?_
    ktn_no "go"
    refine wpAny_bind (wpAny_pure (wpAny_bind (wpAny_standAt (wpAny_holding (wpAny_pyIter_gen (g := gN) (H.cells (aN, .gen gN) (by ktn_no "mem")) ?_)))))
    intro pp
    exact headF (pp := pp) G EV hco (fun gs' hb' hw' => fgLoop G EV hco n gs' hb' hw') hp hNG H hA hh hfr hF h1 h2 h3 h4
end
end
section
open PySem PySem.W PySem.W.X PyProof.Rows PySem.Calls
section
variable {w : World} {b : Shared} {X : List Addr} {l l' : List (Addr × Cell)} {lg lg' : List (Nat × GenState)} {s : Shared} {A : Around} {env : Env} {L : Addr} {fr : List Env}
theorem W.gperm (H : W b X l lg s) (hp : lg'.Perm lg) : W b X l lg' s :=
  ⟨H.keep, H.xs, H.cells, H.nd, H.own, H.plain, fun p hq => H.gens p (hp.mem_iff.mp hq), (hp.map _).nodup_iff.mpr H.gnd, H.bare, H.os, H.pos⟩
theorem W.gswap {p q : Nat × GenState} (H : W b X l (p :: q :: lg) s) : W b X l (q :: p :: lg) s := H.gperm (.swap ..)
theorem W.gtail {p : Nat × GenState} (H : W b X l (p :: lg) s) : W b X l lg s :=
  ⟨H.keep, H.xs, H.cells, H.nd, H.own, H.plain, fun p hq => H.gens p (.tail _ hq), by have := H.gnd; rw [List.map_cons] at this; exact (List.nodup_cons.mp this).2, H.bare, H.os, H.pos⟩

/-- the guarded row as its consumer sees it: what stands in the ledger, whatever the frames hold -/
noncomputable def RowAt (w : World) (b : Shared) (X : List Addr) (o : List Int) (P S LN LF aN : Addr) (gN gF : Nat) (msg : Str) (tm : Tok) (n p : Nat) (l : List (Addr × Cell)) (lg : List (Nat × GenState)) (s : Shared) : Prop :=
  ∃ tp ov xv gsF gsN, FG w b X o P S LN LF aN gN msg n gsF ∧ NG w b X o P S LN n gsN ∧ p ≤ o.length ∧ W b X (cellsF P S LN LF aN gN msg p tp tm ov xv l) ((gF, gsF) :: (gN, gsN) :: lg) s
/-- the same, the row ended -/
noncomputable def RowEnd (b : Shared) (X : List Addr) (P : Addr) (p : Nat) (l : List (Addr × Cell)) (lg : List (Nat × GenState)) (s : Shared) : Prop := ∃ tp, W b X ((P, .lst [.int p tp]) :: l) lg s

theorem nextF {E : Value → Shared → Prop} {Q : Option Value → Shared → Prop} {o : List Int} {P S LN LF aN aF : Addr} {gN gF n p : Nat} {msg : Str} {tm : Tok} (G : Glob w b X)
    (H : RowAt w b X o P S LN LF aN gN gF msg tm (n + 1) p l lg s) (ha : (aF, .gen gF) ∈ l)
    (hA : A.depth + 12 < recursionLimit) (hh : A.handled = none) (hfr : A.frames = some fr) (hF : FrOk l fr)
    (h1 : o[p]? = some 0 → ∀ s', RowEnd b X P (p + 1) l lg s' → Q none s')
    (h2 : ∀ v, o[p]? = some v → 100 ≤ v → ∀ s' tk, RowAt w b X o P S LN LF aN gN gF msg tm n (p + 1) l lg s' → Q (some (.int (v - 100) tk)) s')
    (h3 : ∀ v, o[p]? = some v → v ≠ 0 → v < 100 → ∀ s' e a, RowEnd b X P (p + 1) ((e, .exc (newIn b) true true (.ref 52) (.ref a)) :: (a, .seq "tuple" [.str msg tm]) :: l) lg s' → E (.ref e) s')
    (h4 : p = o.length → ∀ s' e a tm', RowEnd b X P p ((e, .exc (newIn b) true true (.type "ValueError") (.ref a)) :: (a, .seq "tuple" [.str eofMsg tm']) :: l) lg s' → E (.ref e) s') :
    wpAny (model prg w) A (pyNext (.ref aF)) Q E s := by
  refine ea5_4 H fun tp ov xv gsF gsN hFG hNG hp H => ?_
  have hdrop : ∀ {p tp tm ov xv l lg s}, W b X (cellsF P S LN LF aN gN msg p tp tm ov xv l) lg s → W b X ((P, .lst [.int p tp]) :: l) lg s := fun H => H.del3.del2.del1
  have hdropE : ∀ {c1 c2 : Addr × Cell} {p tp tm ov xv l lg s}, W b X (c1 :: c2 :: cellsF P S LN LF aN gN msg p tp tm ov xv l) lg s → W b X ((P, .lst [.int p tp]) :: c1 :: c2 :: l) lg s := fun H => H.get2.del3.del3.del3
  refine wp_next G H (by
    show (aF, Cell.gen gF) ∈ _ :: _ :: _ :: _ :: l
    exact .tail _ (.tail _ (.tail _ (.tail _ ha)))) (.head _) .zero hh (by ktn_no "om") fun s₁ H₁ => ?_
  refine hFG A.in1 s₁ p tp tm ov xv gsN l ((gF, .running) :: lg) fr _ hp hNG H₁.gswap (by show A.depth + 10 < _; ktn_no "om") hh hfr hF ?_ ?_ ?_ ?_
  · intro x s' t' ov' xv' gs' h0 hx H'
    refine .inr (.inl ⟨hx, fun s₃ h₃ => h1 h0 _ ⟨t', hdrop (h₃ _ _ _ _ (H'.gswap.setGen .zero rfl)).gtail.gtail⟩⟩)
  · intro x s' t' ov' xv' gs' v tk hv hv1 hx hb hf hn H'
    refine .inl ⟨_, hx, h2 v hv hv1 _ _ ⟨t', ov', xv', _, gs', hf, hn, ?_, H'.gswap.setGen .zero hb⟩⟩
    exact (List.getElem?_eq_some_iff.mp hv).1
  · intro x s' t' ov' xv' gs' v e a hv hv0 hv1 hx H'
    have H'' := H'.gswap.setGen (gs' := .finished) .zero rfl
    exact .inr (.inr ⟨e, _, _, _, _, _, _, _, hx, H'', .tail _ (.tail _ (.tail _ (.tail _ (.tail _ (.tail _ ha))))), .head _, notStop_stat, h3 v hv hv0 hv1 _ _ _ ⟨t', hdropE H''.gtail.gtail⟩⟩)
  · intro x s' t' ov' xv' gs' e a tm' hpe hx H'
    have H'' := H'.gswap.setGen (gs' := .finished) .zero rfl
    exact .inr (.inr ⟨e, _, _, _, _, _, _, _, hx, H'', .tail _ (.tail _ (.tail _ (.tail _ (.tail _ (.tail _ ha))))), .head _, notStop_value, h4 hpe _ _ _ _ ⟨t', hdropE H''.gtail.gtail⟩⟩)
end
end
section
open PySem PySem.W PySem.W.X PyProof.Rows PySem.Calls
inductive Lot | row | below | fin
/-- a row, how it ended, and the place behind it -/
noncomputable def scan : List Int → Nat → List Int × Lot × Nat
  | [], p => ([], .fin, p)
  | v :: r, p => if v = 0 then ([], .row, p + 1) else if v < 100 then ([], .below, p + 1) else ((v - 100) :: (scan r (p + 1)).1, (scan r (p + 1)).2)

section
variable {w : World} {b : Shared} {X : List Addr} {l l' : List (Addr × Cell)} {lg lg' : List (Nat × GenState)} {s : Shared} {A : Around} {E : Value → Shared → Prop} {fr : List Env} {o : List Int} {P S LN LF aN aF : Addr} {gN gF n p : Nat} {msg : Str} {tm : Tok}

theorem RowAt.led (H : RowAt w b X o P S LN LF aN gN gF msg tm n p l lg s) : ∃ m mg, W b X m mg s ∧ ∀ q ∈ l, q ∈ m := by
  refine ea5_4 H fun tp ov xv gsF gsN _ _ _ H => ?_
  exact ex2 _ _ ⟨H, fun q hq => .tail _ (.tail _ (.tail _ (.tail _ hq)))⟩
theorem RowAt.lift (H : RowAt w b X o P S LN LF aN gN gF msg tm n p l lg s) {s' : Shared} (f : ∀ {m : List (Addr × Cell)} {mg}, W b X (m ++ l) mg s → W b X (m ++ l') mg s') : RowAt w b X o P S LN LF aN gN gF msg tm n p l' lg s' := by
  refine ea5_4 H fun tp ov xv gsF gsN h1 h2 h3 H => ?_
  exact ex5 tp ov xv gsF gsN ⟨h1, h2, h3, f (m := [_, _, _, _]) H⟩
theorem Put.app {α : Type} {l l' : List α} {a c : α} (h : Put l a c l') : ∀ m : List α, Put (m ++ l) a c (m ++ l')
  | [] => h
  | x :: m => .succ (Put.app h m)
theorem W.mid {a : Addr} {c : Cell} {m : List (Addr × Cell)} (H : W b X ((a, c) :: (m ++ l)) lg s) : W b X (m ++ (a, c) :: l) lg s := H.perm List.perm_middle
theorem W.unmid {a : Addr} {c : Cell} {m : List (Addr × Cell)} (H : W b X (m ++ (a, c) :: l) lg s) : W b X ((a, c) :: (m ++ l)) lg s := H.perm List.perm_middle.symm
theorem RowAt.put {a : Addr} {c c' : Cell} {h' : Heap} {t' : Nat} (H : RowAt w b X o P S LN LF aN gN gF msg tm n p l lg s) (hl : Put l (a, c) (a, c') l') (hs : Heap.SameBut a s.heap h') (hc : c'.At h' a) (hp : c'.Plain) (ht : 0 < s.toks → 0 < t' := by first | exact fun h => h | exact fun _ => Nat.succ_pos _ | (intro h; omega)) :
    RowAt w b X o P S LN LF aN gN gF msg tm n p l' lg { s with heap := h', toks := t' } := H.lift fun {m _} Hm => Hm.put (hl.app m) hs hc hp ht
theorem RowAt.push {ob : Obj} {c : Cell} {t' : Nat} (H : RowAt w b X o P S LN LF aN gN gF msg tm n p l lg s) (hf : ob.isFreed = false) (hc : ∀ h' : Heap, h'.get? s.heap.objs.size = some ob → c.At h' s.heap.objs.size) (hp : c.Plain) (ht : 0 < s.toks → 0 < t' := by first | exact fun h => h | exact fun _ => Nat.succ_pos _ | (intro h; omega)) :
    RowAt w b X o P S LN LF aN gN gF msg tm n p ((s.heap.objs.size, c) :: l) lg { s with heap := s.heap.push ob, toks := t' } := H.lift fun {m _} Hm => (Hm.push hf hc hp ht).mid

theorem IntsAre.snoc {vs : List Value} {ks : List Int} (h : IntsAre vs ks) (k : Int) (t : Tok) : IntsAre (vs ++ [.int k t]) (ks ++ [k]) := h.append (.cons _ _ .nil)

/-- the frames stand in the ledger, whatever its sequences hold -/
theorem FrOk.swapc {q q' : Addr × Cell} {fr : List Env} (h : FrOk (q :: l) fr) (hq : ∀ nm vs, q.2 ≠ .ns nm vs) : FrOk (q' :: l) fr := (h.less hq).more

theorem ext_loop {T : Addr} {res : Value} {R : Result → Shared → Prop} (G : Glob w b X) (hA : A.depth + 12 < recursionLimit) (hh : A.handled = none) (hfr : A.frames = some fr) (hF : FrOk l fr) (ha : (aF, .gen gF) ∈ l) : ∀ (r : List Int) (p : Nat) (acc : List Value) (ks : List Int) (s : Shared),
    o.drop p = r → p ≤ o.length → IntsAre acc ks → ks.length + r.length ≤ 100 → RowAt w b X o P S LN LF aN gN gF msg tm (r.length + 1) p ((T, .seq "list" acc) :: l) lg s →
    ((scan r p).2.1 = .row → ∀ s' acc', IntsAre acc' (ks ++ (scan r p).1) → RowEnd b X P (scan r p).2.2 ((T, .seq "list" acc') :: l) lg s' → R (.ok (.ret res)) s') →
    ((scan r p).2.1 = .below → ∀ s' e a, RowEnd b X P (scan r p).2.2 ((e, .exc (newIn b) true true (.ref 52) (.ref a)) :: (a, .seq "tuple" [.str msg tm]) :: l) lg s' → R (.error (.ref e)) s') →
    ((scan r p).2.1 = .fin → ∀ s' e a tm', RowEnd b X P (scan r p).2.2 ((e, .exc (newIn b) true true (.type "ValueError") (.ref a)) :: (a, .seq "tuple" [.str eofMsg tm']) :: l) lg s' → R (.error (.ref e)) s') →
    codeAny (model prg w) A (.builtin "list.extend.loop" ⟨[.ref T, .ref aF, res], []⟩) R s := by
  intro r
  induction r with
  | nil =>
    intro p acc ks s hr hp hI hk H h1 h2 h3
    have hpe : p = o.length := by have := congrArg List.length hr; rw [List.length_drop] at this; simp at this; omega
    have hnone : ∀ v, o[p]? ≠ some v := fun v q => by have := (List.getElem?_eq_some_iff.mp q).1; omega
    refine codeAny_builtin F.entry_extend_loop ?_
    rw [Around.under_plainId F.plain_extend_loop _]
    show wpAny _ A.in1 (pyNext (.ref aF) >>= _) _ _ s
    refine wpAny_bind (nextF G H (.tail _ ha) hA hh hfr hF.more (fun h0 => absurd h0 (hnone _)) (fun v hv => absurd hv (hnone _)) (fun v hv => absurd hv (hnone _)) ?_)
    intro _ s' e a tm' H'
    refine ea1_1 H' fun tp H' => ?_
    exact h3 rfl s' e a tm' ⟨tp, H'.del3⟩
  | cons v r ih =>
    intro p acc ks s hr hp hI hk H h1 h2 h3
    have hlt : p < o.length := by have := congrArg List.length hr; rw [List.length_drop] at this; simp at this; omega
    have hv : o[p]? = some v := by
      have := congrArg (·[0]?) hr
      simpa using this
    have hr' : o.drop (p + 1) = r := by
      have := congrArg List.tail hr
      simpa using this
    refine codeAny_builtin F.entry_extend_loop ?_
    rw [Around.under_plainId F.plain_extend_loop _]
    show wpAny _ A.in1 (pyNext (.ref aF) >>= _) _ _ s
    refine wpAny_bind (nextF G H (.tail _ ha) hA hh hfr hF.more ?_ ?_ ?_ (fun q => by omega))
    · intro h0 s' H'
      rw [hv] at h0
      cases h0
      have e : scan (0 :: r) p = ([], .row, p + 1) := rfl
      rw [e] at h1
      exact wpAny_pure (h1 rfl s' acc (by simpa using hI) H')
    · intro v' hv' h100 s' tk H'
      rw [hv] at hv'; cases hv'
      have e : scan (v :: r) p = ((v - 100) :: (scan r (p + 1)).1, (scan r (p + 1)).2) := by
        show (if v = 0 then _ else if v < 100 then _ else _) = _
        rw [if_neg (by omega), if_neg (by omega)]
      rw [e] at h1 h2 h3
      refine ea2_2 H'.led fun m mg Hm hsub => ?_
      refine ea1_1 (Hm.cells _ (hsub _ (.head _)) : ∃ c, s'.heap.get? T = some (seqObj "list" acc.toArray c)) fun c hT => ?_
      show wpAny _ A.in1 (updateSeq T (·.push (.int (v - 100) tk)) >>= _) _ _ _
      have hal : acc.length = ks.length := hI.length
      refine wpAny_bind (wpAny_updateSeq hT rfl (wpAny_pure ⟨plainId_quiet F.plain_extend_loop _, ?_⟩) (by rw [List.size_toArray, hal, sizeLine_eq]; simp at hk; omega) (by show (acc.toArray.push _).size ≤ sizeLine + 1; rw [Array.size_push, List.size_toArray, hal, sizeLine_eq]; simp at hk; omega))
      have H'' := H'.put (t' := s'.toks) (c' := .seq "list" (acc ++ [.int (v - 100) tk])) .zero (.update (f := Obj.mapSeq (·.push (.int (v - 100) tk))) ..) ⟨c + 1, by rw [Heap.get?_update_self _ hT rfl]; simp [Obj.mapSeq, seqObj]⟩ (by show "list" ≠ _; decide)
      refine ih (p + 1) _ _ _ hr' hlt (IntsAre.snoc hI (v - 100) tk) (by simp at hk ⊢; omega) H'' ?_ ?_ ?_
      · intro q s'' acc' hI' H3
        exact h1 q s'' acc' (by simpa using hI') H3
      · exact h2
      · exact h3
    · intro v' hv' h0 h100 s' e a H'
      rw [hv] at hv'; cases hv'
      have e1 : scan (v :: r) p = ([], .below, p + 1) := by
        show (if v = 0 then _ else if v < 100 then _ else _) = _
        rw [if_neg h0, if_pos h100]
      rw [e1] at h2
      refine ea1_1 H' fun tp H' => ?_
      exact h2 rfl s' e a ⟨tp, H'.del3⟩
end
end
section
open PySem PySem.W PySem.W.X PyProof.Rows PySem.Calls
section
variable {w : World} {b : Shared} {X : List Addr} {l l' : List (Addr × Cell)} {lg lg' : List (Nat × GenState)} {s : Shared} {A : Around} {E : Value → Shared → Prop} {fr : List Env} {o : List Int} {P S LN LF aN aF : Addr} {gN gF n p : Nat} {msg : Str} {tm : Tok}

theorem collect_row {Q : List Value → Shared → Prop} (G : Glob w b X) (hA : A.depth + 12 < recursionLimit) (hh : A.handled = none) (hfr : A.frames = some fr) (hF : FrOk l fr) (ha : (aF, .gen gF) ∈ l)
    (hp : p ≤ o.length) (hlen : o.length ≤ 100) (H : RowAt w b X o P S LN LF aN gN gF msg tm ((o.drop p).length + 1) p l lg s)
    (h1 : (scan (o.drop p) p).2.1 = .row → ∀ s' acc', IntsAre acc' (scan (o.drop p) p).1 → RowEnd b X P (scan (o.drop p) p).2.2 l lg s' → Q acc' s')
    (h2 : (scan (o.drop p) p).2.1 = .below → ∀ s' e a, RowEnd b X P (scan (o.drop p) p).2.2 ((e, .exc (newIn b) true true (.ref 52) (.ref a)) :: (a, .seq "tuple" [.str msg tm]) :: l) lg s' → E (.ref e) s')
    (h3 : (scan (o.drop p) p).2.1 = .fin → ∀ s' e a tm', RowEnd b X P (scan (o.drop p) p).2.2 ((e, .exc (newIn b) true true (.type "ValueError") (.ref a)) :: (a, .seq "tuple" [.str eofMsg tm']) :: l) lg s' → E (.ref e) s') :
    wpAny (model prg w) A (collect (.ref aF)) Q E s := by
  refine ea2_2 H.led fun m0 mg0 H0 hsub0 => ?_
  have hSI : s.heap.objs.size ≠ aF := fun e => absurd (H0.lt (hsub0 _ ha)) (by rw [e]; exact Nat.lt_irrefl _)
  unfold collect
  refine wpAny_bind (wpAny_runValue (codeAny_builtin F.entry_proto_collect ?_))
  rw [Around.under_plainId F.plain_proto_collect _]
  show wpAny _ A.in1 (newList [] >>= fun l => again (.builtin "list.__iadd__" ⟨[l, .ref aF], []⟩)) _ _ s
  refine wpAny_bind (wpAny_newObj_type ?_)
  refine wpAny_pure ⟨plainId_quiet F.plain_list_iadd _, codeAny_builtin F.entry_list_iadd ?_⟩
  rw [Around.under_plainId F.plain_list_iadd _]
  have H1 := H.push (ob := { cls := .type "list", data := .seq ([] : List Value).toArray }) (c := .seq "list" []) (t' := s.toks) rfl (fun h' q => ⟨0, q⟩) (by show "list" ≠ _; decide)
  refine ea2_2 H1.led fun m1 mg1 W1 hsub1 => ?_
  have hgen : Heap.IsGen _ aF gF := W1.cells _ (hsub1 _ (.tail _ ha))
  show wpAny _ A.in1 (Builtin.List.listExtendWith (.ref s.heap.objs.size) (.ref aF) (.ref s.heap.objs.size)) _ _ _
  unfold Builtin.List.listExtendWith
  refine wpAny_bind (wpAny_typeOf hgen.typeIs ?_)
  have e1 : Builtin.List.listSameRef (.ref s.heap.objs.size) (.ref aF) = false := by simp [Builtin.List.listSameRef, hSI]
  have e2 : (Value.type "generator" == Value.type "list") = false := by decide
  have e3 : (Value.type "generator" == Value.type "tuple") = false := by decide
  simp only [e1, e2, e3, Bool.or_false, Bool.false_eq_true, if_false]
  refine wpAny_bind (wpAny_pyIter_gen hgen ?_)
  refine wpAny_bind (wpAny_holding ?_)
  unfold Builtin.List.listLengthHint
  refine wpAny_bind (wpAny_specialOf hgen.typeIs F.gen_no_len ?_)
  show wpAny _ A.in1 (specialOf (Value.ref aF) (Str.ofString "__length_hint__") >>= _) _ _ _
  refine wpAny_bind (wpAny_specialOf hgen.typeIs F.gen_no_hint ?_)
  refine wpAny_pure ?_
  show wpAny _ A.in1 (rule "list.extend.makes-room" >>= fun _ => Builtin.List.listTouch (.ref s.heap.objs.size) >>= fun _ =>
    again (.builtin "list.extend.loop" ⟨[.ref s.heap.objs.size, .ref aF, .ref s.heap.objs.size], []⟩)) _ _ _
  refine wpAny_bind (wpAny_rule ?_)
  have hS₁ : (s.heap.push { cls := .type "list", data := .seq ([] : List Value).toArray }).get? s.heap.objs.size = some { cls := .type "list", data := .seq ([] : List Value).toArray } := Heap.get?_push_size _ rfl
  refine wpAny_bind ?_
  show wpAny _ A.in1 (updateSeq s.heap.objs.size (·.push .none) >>= fun _ => updateSeq s.heap.objs.size (·.pop)) _ _ _
  refine wpAny_bind (wpAny_updateSeq hS₁ rfl ?_)
  have hS₂ := Heap.get?_update_self (Obj.mapSeq (·.push Value.none)) hS₁ rfl
  refine wpAny_updateSeq hS₂ rfl ?_
  have H2 := H1.put (t' := s.toks) (c' := .seq "list" [.none]) .zero (.update (f := Obj.mapSeq (·.push Value.none)) ..) ⟨1, hS₂⟩ (by show "list" ≠ _; decide)
  have H3 := H2.put (t' := s.toks) (c' := .seq "list" []) .zero (.update (f := Obj.mapSeq (·.pop)) ..) ⟨2, Heap.get?_update_self _ hS₂ rfl⟩ (by show "list" ≠ _; decide)
  refine wpAny_pure ⟨plainId_quiet F.plain_extend_loop _, ext_loop G hA hh hfr hF ha (o.drop p) p [] [] _ rfl hp .nil (by simp; omega) H3 ?_ ?_ ?_⟩
  · intro hl s' acc' hI HE
    refine ea1_1 HE fun tp HE => ?_
    show wpAny _ A (load s.heap.objs.size >>= _) _ _ s'
    refine ea1_1 (HE.cells _ (.tail _ (.head _)) : ∃ c, s'.heap.get? s.heap.objs.size = some (seqObj "list" acc'.toArray c)) fun c hT => ?_
    refine wpAny_bind (wpAny_load hT ?_)
    show wpAny _ _ (pure acc'.toArray.toList) _ _ _
    exact wpAny_pure (h1 hl s' _ hI ⟨tp, HE.del1⟩)
  · intro hl s' e a HE
    exact h2 hl s' e a HE
  · intro hl s' e a tm' HE
    exact h3 hl s' e a tm' HE

theorem RowEnd.push {ob : Obj} {c : Cell} {t' : Nat} (H : RowEnd b X P p l lg s) (hf : ob.isFreed = false) (hc : ∀ h' : Heap, h'.get? s.heap.objs.size = some ob → c.At h' s.heap.objs.size) (hp : c.Plain) (ht : 0 < s.toks → 0 < t' := by first | exact fun h => h | exact fun _ => Nat.succ_pos _ | (intro h; omega)) :
    RowEnd b X P p ((s.heap.objs.size, c) :: l) lg { s with heap := s.heap.push ob, toks := t' } := by
  refine ea1_1 H fun tp H => ?_
  exact ⟨tp, (H.push hf hc hp ht).swap⟩

/-- sorted of what stands alone in a new list -/
theorem W.sortd {a : Addr} {vs : List Value} {out : Array Value} {n : Nat} (H : W b X ((a, .seq "list" vs) :: l) lg s) (ho : s.heap.get? a = some (seqObj "list" vs.toArray n)) : W b X ((a, .seq "list" out.toList) :: l) lg { s with heap := sortedHeap s.heap a vs out } := by
  unfold sortedHeap
  have ha : a < s.heap.objs.size := Heap.lt_size ho
  have h1 := get?_update_seq ho (fun _ => #[])
  have H1 := H.put (t' := s.toks) (c' := .seq "list" []) .zero (.update (f := Obj.mapSeq fun _ => #[]) ..) ⟨_, h1⟩ (by show "list" ≠ _; decide)
  have H2 := H1.grow (t' := s.toks) (h' := (s.heap.update a (Obj.mapSeq fun _ => #[])).push (seqObj "tuple" vs.toArray 0)) (fun x o' e => Heap.get?_push_of_some _ e)
  have H3 := H2.grow (t' := s.toks) (h' := ((s.heap.update a (Obj.mapSeq fun _ => #[])).push (seqObj "tuple" vs.toArray 0)).push (seqObj "list" #[] 0)) (fun x o' e => Heap.get?_push_of_some _ e)
  have h3 : (((s.heap.update a (Obj.mapSeq fun _ => #[])).push (seqObj "tuple" vs.toArray 0)).push (seqObj "list" #[] 0)).get? a = _ := Heap.get?_push_of_some _ (Heap.get?_push_of_some _ h1)
  exact H3.put (t' := s.toks) (c' := .seq "list" out.toList) .zero (.update (f := Obj.mapSeq fun _ => out) ..) ⟨_, by rw [Array.toArray_toList]; exact get?_update_seq h3 (fun _ => out)⟩ (by show "list" ≠ _; decide)

theorem sorted_row {Q : Value → Shared → Prop} (G : Glob w b X) (hA : A.depth + 12 < recursionLimit) (hh : A.handled = none) (hfr : A.frames = some fr) (hF : FrOk l fr) (ha : (aF, .gen gF) ∈ l)
    (hp : p ≤ o.length) (hlen : o.length ≤ 100) (h64 : (scan (o.drop p) p).1.length < 64) (H : RowAt w b X o P S LN LF aN gN gF msg tm ((o.drop p).length + 1) p l lg s)
    (h1 : (scan (o.drop p) p).2.1 = .row → ∀ s' T out ns, IntsAre out ns → ns.Perm (scan (o.drop p) p).1 → ns.Pairwise (· ≤ ·) → newIn b T → (∀ q ∈ l, q.1 ≠ T) → RowEnd b X P (scan (o.drop p) p).2.2 ((T, .seq "list" out) :: l) lg s' → Q (.ref T) s')
    (h2 : (scan (o.drop p) p).2.1 = .below → ∀ s' e a, RowEnd b X P (scan (o.drop p) p).2.2 ((e, .exc (newIn b) true true (.ref 52) (.ref a)) :: (a, .seq "tuple" [.str msg tm]) :: l) lg s' → E (.ref e) s')
    (h3 : (scan (o.drop p) p).2.1 = .fin → ∀ s' e a tm', RowEnd b X P (scan (o.drop p) p).2.2 ((e, .exc (newIn b) true true (.type "ValueError") (.ref a)) :: (a, .seq "tuple" [.str eofMsg tm']) :: l) lg s' → E (.ref e) s') :
    wpAny (model prg w) A (call (.builtin "sorted") [.ref aF]) Q E s := by
  refine Calls.call_function_entry kind_sorted plain_sorted entry_sorted (args_sorted1 _) ?_
  unfold Builtin.«sorted»
  refine wpAny_bind (m := checkCount "sorted" 1 1 _) (wpAny_pure ?_)
  refine wpAny_bind (collect_row (fr := fr) G hA hh hfr hF ha hp hlen H ?_ h2 h3)
  intro hl s₁ acc hI H₁
  refine wpAny_bind (wpAny_newList ?_ (by first | (rw [hI.length, sizeLine_eq]; omega) | size_fits))
  refine ea1_1 H₁ fun tp H₁ => ?_
  have H₂ := H₁.push (o := seqObj "list" acc.toArray 0) (c := .seq "list" acc) (t' := s₁.toks) rfl (fun h' q => ⟨0, q⟩) (by show "list" ≠ _; decide)
  have hoL : (s₁.heap.push (seqObj "list" acc.toArray 0)).get? s₁.heap.objs.size = some (seqObj "list" acc.toArray 0) := Heap.get?_push_size _ rfl
  refine wpAny_bind (wpAny_holding (wpAny_call_entry slot_list_sort ⟨_, hoL, rfl⟩ entry_list_sort (list_sort_tree hoL hI (by rw [hI.length]; exact h64) fun out ns' a1 a2 a3 => ⟨_, rfl, ?_⟩) (args_list_sort _)))
  exact wpAny_pure ⟨_, rfl, h1 hl _ _ out.toList ns' a1 a2 a3 H₁.fresh (fun q hq e => absurd (H₁.lt (.tail _ hq)) (by rw [e]; exact Nat.lt_irrefl _)) ⟨tp, (H₂.sortd hoL).swap⟩⟩
end
end
section
open PySem PySem.W PySem.W.X PyProof.Rows PySem.Calls
/-! numbers and answers -/
inductive Num | i (k : Int) | f (x : UInt64)
inductive NumIs : Num → Value → Prop
  | i (k : Int) (t : Tok) : NumIs (.i k) (.int k t)
  | f (x : UInt64) (t : Tok) (ht : t ≠ 0) : NumIs (.f x) (.float x t)
inductive NumsAre : List Value → List Num → Prop
  | nil : NumsAre [] []
  | cons {v : Value} {n : Num} {vs : List Value} {ns : List Num} : NumIs n v → NumsAre vs ns → NumsAre (v :: vs) (n :: ns)
theorem NumsAre.snoc {v : Value} {n : Num} : ∀ {vs : List Value} {ns : List Num}, NumsAre vs ns → NumIs n v → NumsAre (vs ++ [v]) (ns ++ [n])
  | _, _, .nil, h => .cons h .nil
  | _, _, .cons h1 h2, h => .cons h1 (h2.snoc h)
theorem NumsAre.length : ∀ {vs : List Value} {ns : List Num}, NumsAre vs ns → vs.length = ns.length
  | _, _, .nil => rfl
  | _, _, .cons _ h => by simp [h.length]
inductive Ans | one (n : Num) | many (ns : List Num)
inductive Out | told (a : Ans) | refused (m : Str) | fin (m : Str)

/-- what is asked of an outcome's two ways out -/
noncomputable def Post (b : Shared) (X : List Addr) (P : Addr) (q : Nat) (l : List (Addr × Cell)) (lg : List (Nat × GenState)) (Q E : Value → Shared → Prop) : Out → Prop
  | .told (.one n) => ∀ v s', NumIs n v → RowEnd b X P q l lg s' → Q v s'
  | .told (.many ns) => ∀ T vs s', NumsAre vs ns → newIn b T → RowEnd b X P q ((T, .seq "list" vs) :: l) lg s' → Q (.ref T) s'
  | .refused m => ∀ e a t k s', RowEnd b X P q ((e, .exc (newIn b) true k (.ref 52) (.ref a)) :: (a, .seq "tuple" [.str m t]) :: l) lg s' → E (.ref e) s'
  | .fin m => ∀ e a t k s', RowEnd b X P q ((e, .exc (newIn b) true k (.type "ValueError") (.ref a)) :: (a, .seq "tuple" [.str m t]) :: l) lg s' → E (.ref e) s'

noncomputable def fdiv (a b : Int) : UInt64 := Float64.ofFrac (decide (a < 0) != decide (b < 0)) a.natAbs b.natAbs

set_option exponentiation.threshold 5000 in
theorem ofFrac_fin (neg : Bool) {n d : Nat} (hn : n < 2 ^ 60) (hd : 0 < d) : ∃ m e, Float64.decode (Float64.ofFrac neg n d) = .fin neg m e := by
  have h1 : ¬ Float64.roundMag n d = Float64.infMag := by
    rw [Float64.roundMag_over hd]
    intro q
    have hK : 2 * (n * 2 ^ 1074) < 1 * ((2 ^ 54 - 1) * 2 ^ 2045) := by
      have : n * 2 ^ 1074 < 2 ^ 60 * 2 ^ 1074 := Nat.mul_lt_mul_of_pos_right hn (Nat.two_pow_pos _)
      have h2 : 2 * (2 ^ 60 * 2 ^ 1074) ≤ 1 * ((2 ^ 54 - 1) * 2 ^ 2045) := by decide +kernel
      omega
    have : 1 * ((2 ^ 54 - 1) * 2 ^ 2045) ≤ d * ((2 ^ 54 - 1) * 2 ^ 2045) := Nat.mul_le_mul_right _ hd
    exact absurd (Nat.lt_of_lt_of_le hK (Nat.le_trans this q)) (Nat.lt_irrefl _)
  have h2 : Float64.roundMag n d < Float64.infMag := by
    have := Float64.roundMag_min n d
    have : Float64.roundMag n d ≤ Float64.infMag := by rw [this]; exact Nat.min_le_left _ _
    omega
  refine ea2_2 (Float64.decode_pack neg h2) fun m e h _ => ?_
  exact ex2 m e (by unfold Float64.ofFrac; exact h)

section
variable {w : World} {b : Shared} {X : List Addr} {l l' : List (Addr × Cell)} {lg lg' : List (Nat × GenState)} {s : Shared} {A : Around} {Q E : Value → Shared → Prop} {a : Addr} {vs : List Value} {ns : List Int}

theorem ints_at : ∀ {vs : List Value} {ns : List Int}, IntsAre vs ns → ∀ k, k < ns.length → ∃ t, vs[k]? = some (.int (ns.getD k 0) t)
  | _, _, .nil, k, h => absurd h (Nat.not_lt_zero _)
  | _, _, .cons n t r, 0, _ => ⟨t, rfl⟩
  | _, _, .cons n t r, k + 1, h => by obtain ⟨t', e⟩ := ints_at r k (by simpa using h); exact ⟨t', by simpa using e⟩
/-- an item of a list of ints -/
theorem r_litem {value slice : Expr} {k : Int} {u : Tok} (H : W b X l lg s) (hm : (a, .seq "list" vs) ∈ l) (hI : IntsAre vs ns) (h0 : 0 ≤ k) (hk : k < ns.length) (hz : ns.length < 2 ^ 40) (h : ∀ t, Q (.int (ns.getD k.toNat 0) t) s)
    (hs : subscripted slice false (.ref a) (.int k u) = operate [.ref a, .int k u] (getItem (.ref a) (.int k u)) := by with_unfolding_all rfl) :
    wpAny (model prg w) A (subscriptTail value slice (.ref a) (.int k u)) Q E s := by
  refine ea1_1 (ints_at hI k.toNat (by omega)) fun t e => ?_
  exact r_item (H.seqL hm) h0 (by omega) e (h t) hs
theorem r_div {p q : Int} {t u : Tok} (H : W b X l lg s) (hq : q ≠ 0) (hp : p.natAbs < 2 ^ 60) (h : ∀ t s', t ≠ 0 → W b X l lg s' → Q (.float (fdiv p q) t) s') : wpAny (model prg w) A (binaryOp .Div (.int p t) (.int q u)) Q E s := by
  refine PySem.AutoIntOps.truediv_2 (by simpa using hq) ?_ (h _ _ (Nat.ne_of_gt H.pos) (H.tok _))
  refine ea2_1 (ofFrac_fin (decide (p < 0) != decide (q < 0)) hp (d := q.natAbs) (by omega)) fun m e hd => ?_
  unfold Float64.isInf
  rw [hd]
  simp
end
end
section
open PySem PySem.W PySem.W.X PyProof.Rows PySem.Calls
theorem sorted_unique : ∀ {xs ys : List Int}, xs.Perm ys → xs.Pairwise (· ≤ ·) → ys.Pairwise (· ≤ ·) → xs = ys
  | [], ys, hp, _, _ => (List.nil_perm.mp hp).symm
  | x :: xs, [], hp, _, _ => absurd hp.length_eq (by simp)
  | x :: xs, y :: ys, hp, h1, h2 => by
    have c1 := List.pairwise_cons.mp h1
    have c2 := List.pairwise_cons.mp h2
    have m1 : x ∈ y :: ys := hp.subset (.head _)
    have m2 : y ∈ x :: xs := hp.symm.subset (.head _)
    have e : x = y := by
      have a : y ≤ x := by
        rcases List.mem_cons.mp m1 with q | q
        · omega
        · exact c2.1 x q
      have c : x ≤ y := by
        rcases List.mem_cons.mp m2 with q | q
        · omega
        · exact c1.1 y q
      omega
    subst e
    rw [sorted_unique ((List.perm_cons x).mp hp) c1.2 c2.2]
noncomputable def srt (xs : List Int) : List Int := xs.mergeSort (fun a b => decide (a ≤ b))
theorem srt_perm (xs : List Int) : (srt xs).Perm xs := List.mergeSort_perm ..
theorem srt_sorted (xs : List Int) : (srt xs).Pairwise (· ≤ ·) := by
  have := List.pairwise_mergeSort (le := fun a b : Int => decide (a ≤ b)) (by intro a b c; simp; omega) (by intro a b; simp; omega) xs
  exact this.imp (by simp)
theorem srt_of {xs ys : List Int} (h1 : ys.Perm xs) (h2 : ys.Pairwise (· ≤ ·)) : ys = srt xs := sorted_unique (h1.trans (srt_perm xs).symm) h2 (srt_sorted xs)

noncomputable def outOf (msg : Str) (f : List Int → Out) (r : List Int × Lot × Nat) : Out := match r.2.1 with | .row => f r.1 | .below => .refused msg | .fin => .fin eofMsg
noncomputable def noMed : Str := "no median for empty data"
noncomputable def medF (xs : List Int) : Out :=
  if xs = [] then .refused noMed
  else if xs.length % 2 = 1 then .told (.one (.i ((srt xs).getD (xs.length / 2) 0)))
  else .told (.one (.f (fdiv ((srt xs).getD (xs.length / 2 - 1) 0 + (srt xs).getD (xs.length / 2) 0) 2)))
noncomputable def medLowF (xs : List Int) : Out :=
  if xs = [] then .refused noMed
  else if xs.length % 2 = 1 then .told (.one (.i ((srt xs).getD (xs.length / 2) 0)))
  else .told (.one (.i ((srt xs).getD (xs.length / 2 - 1) 0)))
noncomputable def medHighF (xs : List Int) : Out :=
  if xs = [] then .refused noMed
  else .told (.one (.i ((srt xs).getD (xs.length / 2) 0)))

section
variable {w : World} {b : Shared} {X : List Addr} {l l' : List (Addr × Cell)} {lg lg' : List (Nat × GenState)} {s : Shared} {A : Around} {E : Value → Shared → Prop} {fr : List Env} {o : List Int} {P S LN LF aN aF : Addr} {gN gF n p q : Nat} {msg : Str} {tm : Tok} {env : Env} {L : Addr}

theorem A_frames (hfr : A.frames = some fr) : (A.deeper env).frames = some (env :: fr) := by show A.frames.map (env :: ·) = _; rw [hfr]; rfl

/-- an exception leaves a def's frame -/
theorem leave {nm : List Str} {vs : List (Option Value)} {e a : Addr} {f k : Bool} {C args : Value} {c : Cell} (H : W b X ((e, .exc (newIn b) f k C args) :: (a, c) :: (P, .lst [.int p (tp : Tok)]) :: (L, .ns nm vs) :: l) lg s) (hfr : A.frames = some fr) (hF : FrOk l fr) (hk : env.scope.kind = .function) (hL : env.frame = some L)
    (h : ∀ s', RowEnd b X P p ((e, .exc (newIn b) true k C args) :: (a, c) :: l) lg s' → E (.ref e) s') :
    wpAny (model prg w) (A.deeper env) (leaving env (.ref e)) (fun _ s3 => E (.ref e) s3) (fun e' s3 => E e' s3) s := by
  refine wp_leaving (fr := env :: fr) H .zero (A_frames hfr) (FrOk.cons hk hL (.tail _ (.tail _ (.tail _ (.head _)))) hF.more.more.more.more) hL ⟨env, .head _, hL⟩ ?_
  intro s' H'
  exact h s' ⟨tp, H'.del3.get2⟩
theorem leaveR {nm : List Str} {vs : List (Option Value)} {e a : Addr} {f k : Bool} {C args : Value} {c : Cell} (H : RowEnd b X P p ((e, .exc (newIn b) f k C args) :: (a, c) :: (L, .ns nm vs) :: l) lg s) (hfr : A.frames = some fr) (hF : FrOk l fr) (hk : env.scope.kind = .function) (hL : env.frame = some L)
    (h : ∀ s', RowEnd b X P p ((e, .exc (newIn b) true k C args) :: (a, c) :: l) lg s' → E (.ref e) s') :
    wpAny (model prg w) (A.deeper env) (leaving env (.ref e)) (fun _ s3 => E (.ref e) s3) (fun e' s3 => E e' s3) s := by
  refine ea1_1 H fun tp H => ?_
  exact leave (H.swap.perm (.cons _ (.swap ..))) hfr hF hk hL h
end
end
section
open PySem PySem.W PySem.W.X PyProof.Rows PySem.Calls
theorem fn_median (w : World) : FnOk w 78 ["data", "n", "i"] ["sorted", "len", "StatisticsError"] := ⟨by kernel_rfl, by kernel_rfl, by kernel_rfl, by kernel_rfl, by kernel_rfl, by kernel_rfl, by kernel_rfl, by kernel_rfl⟩
section
variable {w : World} {b : Shared} {X : List Addr} {l l' : List (Addr × Cell)} {lg lg' : List (Nat × GenState)} {s : Shared} {A : Around} {Q E : Value → Shared → Prop} {fr : List Env} {o : List Int} {P S LN LF aN aF : Addr} {gN gF n p q : Nat} {msg : Str} {tm : Tok} {env : Env} {L : Addr}
set_option maxRecDepth 10000 in
set_option maxHeartbeats 4000000 in
theorem ok_median (G : Glob w b X) (hA : A.depth + 15 < recursionLimit) (hh : A.handled = none) (hfr : A.frames = some fr) (hF : FrOk l fr) (ha : (aF, .gen gF) ∈ l)
    (hp : p ≤ o.length) (hlen : o.length ≤ 100) (h64 : (scan (o.drop p) p).1.length < 64) (hsm : ∀ x ∈ (scan (o.drop p) p).1, 0 ≤ x ∧ x < 256) (H : RowAt w b X o P S LN LF aN gN gF msg tm ((o.drop p).length + 1) p l lg s)
    (h : Post b X P (scan (o.drop p) p).2.2 l lg Q E (outOf msg medF (scan (o.drop p) p))) : wpAny (model prg w) A (call (.ref 78) [.ref aF]) Q E s := by
  refine ea5_4 H fun tp ov xv gsF gsN hf hg hp' H => ?_
  refine call_def ["data"] ["n", "i"] (nm := ["data", "n", "i"]) (vs := [some (.ref aF), none, none]) rfl rfl G H (fn_median w) (by kernel_rfl) (by kernel_rfl) (by kernel_rfl) rfl (by ktn_no "om") ?_
  intro L env s₁ EV hn H₁
  have hh' : (A.deeper env).handled = none := hh
  have hF' : ∀ vs, FrOk ((L, .ns ["data", "n", "i"] vs) :: l) (env :: fr) := fun vs => FrOk.cons EV.kind EV.frame (.head _) hF.more
  refine wpAny_execs_cons ?_
  ktn_no "go"
  refine sorted_row (fr := env :: fr) G (by show A.depth + 1 + 12 < _; ktn_no "om") hh' (A_frames hfr) (hF' _) (.tail _ ha) hp hlen h64 ⟨tp, ov, xv, gsF, gsN, hf, hg, hp', W.mid (m := [_, _, _, _]) (by assumption)⟩ ?_ ?_ ?_
  · intro hl s₂ T out ns hI hpm hps hnT hT HE
    refine ea1_1 HE fun tp' HE => ?_
    unfold outOf at h
    rw [hl] at h
    have hns := srt_of hpm hps
    have hlen2 : ns.length = (scan (o.drop p) p).1.length := hpm.length_eq
    have hol : out.length = ns.length := hI.length
    generalize hxs : (scan (o.drop p) p).1 = xs at *
    generalize hq : (scan (o.drop p) p).2.2 = q at *
    subst hns
    have hb : ∀ k, 0 ≤ (srt xs).getD k 0 ∧ (srt xs).getD k 0 < 256 := by
      intro k
      rw [List.getD_eq_getElem?_getD]
      cases e : (srt xs)[k]? with
      | none => simp
      | some v => exact hsm v ((srt_perm xs).subset (List.mem_of_getElem? e))
    unfold medF at h
    ktn_no "go"
    refine r_ite (fun hc => ?_) (fun hc => ?_)
    · have hx0 : xs = [] := by
        have h0 : ((out.length : Nat) : Int) = 0 := eq_of_beq hc
        have : xs.length = 0 := by ktn_no "om"
        exact List.length_eq_zero_iff.mp this
      rw [if_pos hx0] at h
      ktn_no "go"
      refine r_raiseS G EV (by assumption) (by ktn_no "nth") hh' ?_
      ktn_no "go"
      refine ex2 _ _ ⟨by assumption, by rw [sizeLine_eq]; simp, fun e a s₃ H₃ => ?_⟩
      refine leave (H₃.del3) hfr hF EV.kind EV.frame fun s' H' => h e a _ _ s' H'
    · have h0 : ((out.length : Nat) : Int) ≠ 0 := ne_of_beq_false hc
      have hx0 : xs ≠ [] := fun e => by subst e; rw [hol, hlen2] at h0; exact h0 rfl
      rw [if_neg hx0] at h
      ktn_no "go"
      refine r_ite (fun hc2 => ?_) (fun hc2 => ?_)
      · have h1 : ((out.length : Nat) : Int) % 2 = 1 := eq_of_beq hc2
        rw [if_pos (by ktn_no "om")] at h
        ktn_no "go"
        refine r_litem (by assumption) (by ktn_no "mem") hI (by ktn_no "om") (by ktn_no "om") (by ktn_no "om") fun t => ?_
        have e : (((out.length : Nat) : Int) / 2).toNat = xs.length / 2 := (half1 _).trans (by rw [hol, hlen2])
        rw [e]
        exact h _ _ (.i _ _) ⟨tp', W.del1 (W.del1 (by assumption))⟩
      · have h1 : ((out.length : Nat) : Int) % 2 ≠ 1 := ne_of_beq_false hc2
        rw [if_neg (by ktn_no "om")] at h
        ktn_no "go"
        refine r_litem (by assumption) (by ktn_no "mem") hI (by ktn_no "om") (by ktn_no "om") (by ktn_no "om") fun t => ?_
        ktn_no "go"
        refine r_litem (by assumption) (by ktn_no "mem") hI (by ktn_no "om") (by ktn_no "om") (by ktn_no "om") fun t => ?_
        ktn_no "go"
        have e : (((out.length : Nat) : Int) / 2).toNat = xs.length / 2 := (half1 _).trans (by rw [hol, hlen2])
        have e2 : (((out.length : Nat) : Int) / 2 - 1).toNat = xs.length / 2 - 1 := (half2 _).trans (by rw [hol, hlen2])
        rw [e, e2]
        have b1 := hb (xs.length / 2)
        have b2 := hb (xs.length / 2 - 1)
        refine r_div (by assumption) (by decide) (by ktn_no "om") ?_
        intro _ _ htz _
        exact h _ _ (.f _ _ htz) ⟨tp', W.del1 (W.del1 (by assumption))⟩
  · intro hl s₂ e a HE
    unfold outOf at h
    rw [hl] at h
    exact leaveR HE hfr hF EV.kind EV.frame fun s' H' => h e a _ _ s' H'
  · intro hl s₂ e a tm' HE
    unfold outOf at h
    rw [hl] at h
    exact leaveR HE hfr hF EV.kind EV.frame fun s' H' => h e a _ _ s' H'
end
end
section
open PySem PySem.W PySem.W.X PyProof.Rows PySem.Calls
theorem fn_low (w : World) : FnOk w 85 ["data", "n"] ["sorted", "len", "StatisticsError"] := ⟨by kernel_rfl, by kernel_rfl, by kernel_rfl, by kernel_rfl, by kernel_rfl, by kernel_rfl, by kernel_rfl, by kernel_rfl⟩
section
variable {w : World} {b : Shared} {X : List Addr} {l l' : List (Addr × Cell)} {lg lg' : List (Nat × GenState)} {s : Shared} {A : Around} {Q E : Value → Shared → Prop} {fr : List Env} {o : List Int} {P S LN LF aN aF : Addr} {gN gF n p q : Nat} {msg : Str} {tm : Tok} {env : Env} {L : Addr}
set_option maxRecDepth 10000 in
set_option maxHeartbeats 4000000 in
theorem ok_low (G : Glob w b X) (hA : A.depth + 15 < recursionLimit) (hh : A.handled = none) (hfr : A.frames = some fr) (hF : FrOk l fr) (ha : (aF, .gen gF) ∈ l)
    (hp : p ≤ o.length) (hlen : o.length ≤ 100) (h64 : (scan (o.drop p) p).1.length < 64) (hsm : ∀ x ∈ (scan (o.drop p) p).1, 0 ≤ x ∧ x < 256) (H : RowAt w b X o P S LN LF aN gN gF msg tm ((o.drop p).length + 1) p l lg s)
    (h : Post b X P (scan (o.drop p) p).2.2 l lg Q E (outOf msg medLowF (scan (o.drop p) p))) : wpAny (model prg w) A (call (.ref 85) [.ref aF]) Q E s := by
  refine ea5_4 H fun tp ov xv gsF gsN hf hg hp' H => ?_
  refine call_def ["data"] ["n"] (nm := ["data", "n"]) (vs := [some (.ref aF), none]) rfl rfl G H (fn_low w) (by kernel_rfl) (by kernel_rfl) (by kernel_rfl) rfl (by ktn_no "om") ?_
  intro L env s₁ EV hn H₁
  have hh' : (A.deeper env).handled = none := hh
  have hF' : ∀ vs, FrOk ((L, .ns ["data", "n"] vs) :: l) (env :: fr) := fun vs => FrOk.cons EV.kind EV.frame (.head _) hF.more
  refine wpAny_execs_cons ?_
  ktn_no "go"
  refine sorted_row (fr := env :: fr) G (by show A.depth + 1 + 12 < _; ktn_no "om") hh' (A_frames hfr) (hF' _) (.tail _ ha) hp hlen h64 ⟨tp, ov, xv, gsF, gsN, hf, hg, hp', W.mid (m := [_, _, _, _]) (by assumption)⟩ ?_ ?_ ?_
  · intro hl s₂ T out ns hI hpm hps hnT hT HE
    refine ea1_1 HE fun tp' HE => ?_
    unfold outOf at h
    rw [hl] at h
    have hns := srt_of hpm hps
    have hlen2 : ns.length = (scan (o.drop p) p).1.length := hpm.length_eq
    have hol : out.length = ns.length := hI.length
    generalize hxs : (scan (o.drop p) p).1 = xs at *
    generalize hq : (scan (o.drop p) p).2.2 = q at *
    subst hns
    have hb : ∀ k, 0 ≤ (srt xs).getD k 0 ∧ (srt xs).getD k 0 < 256 := by
      intro k
      rw [List.getD_eq_getElem?_getD]
      cases e : (srt xs)[k]? with
      | none => simp
      | some v => exact hsm v ((srt_perm xs).subset (List.mem_of_getElem? e))
    unfold medLowF at h
    ktn_no "go"
    refine r_ite (fun hc => ?_) (fun hc => ?_)
    · have hx0 : xs = [] := by
        have h0 : ((out.length : Nat) : Int) = 0 := eq_of_beq hc
        have : xs.length = 0 := by ktn_no "om"
        exact List.length_eq_zero_iff.mp this
      rw [if_pos hx0] at h
      ktn_no "go"
      refine r_raiseS G EV (by assumption) (by ktn_no "nth") hh' ?_
      ktn_no "go"
      refine ex2 _ _ ⟨by assumption, by rw [sizeLine_eq]; simp, fun e a s₃ H₃ => ?_⟩
      refine leave (H₃.del3) hfr hF EV.kind EV.frame fun s' H' => h e a _ _ s' H'
    · have h0 : ((out.length : Nat) : Int) ≠ 0 := ne_of_beq_false hc
      have hx0 : xs ≠ [] := fun e => by subst e; rw [hol, hlen2] at h0; exact h0 rfl
      rw [if_neg hx0] at h
      ktn_no "go"
      refine r_ite (fun hc2 => ?_) (fun hc2 => ?_)
      · have h1 : ((out.length : Nat) : Int) % 2 = 1 := eq_of_beq hc2
        rw [if_pos (by ktn_no "om")] at h
        ktn_no "go"
        refine r_litem (by assumption) (by ktn_no "mem") hI (by ktn_no "om") (by ktn_no "om") (by ktn_no "om") fun t => ?_
        have e : (((out.length : Nat) : Int) / 2).toNat = xs.length / 2 := (half1 _).trans (by rw [hol, hlen2])
        rw [e]
        exact h _ _ (.i _ _) ⟨tp', W.del1 (W.del1 (by assumption))⟩
      · have h1 : ((out.length : Nat) : Int) % 2 ≠ 1 := ne_of_beq_false hc2
        rw [if_neg (by ktn_no "om")] at h
        ktn_no "go"
        refine r_litem (by assumption) (by ktn_no "mem") hI (by ktn_no "om") (by ktn_no "om") (by ktn_no "om") fun t => ?_
        have e2 : (((out.length : Nat) : Int) / 2 - 1).toNat = xs.length / 2 - 1 := (half2 _).trans (by rw [hol, hlen2])
        rw [e2]
        exact h _ _ (.i _ _) ⟨tp', W.del1 (W.del1 (by assumption))⟩
  · intro hl s₂ e a HE
    unfold outOf at h
    rw [hl] at h
    exact leaveR HE hfr hF EV.kind EV.frame fun s' H' => h e a _ _ s' H'
  · intro hl s₂ e a tm' HE
    unfold outOf at h
    rw [hl] at h
    exact leaveR HE hfr hF EV.kind EV.frame fun s' H' => h e a _ _ s' H'
end
end
section
open PySem PySem.W PySem.W.X PyProof.Rows PySem.Calls
theorem fn_high (w : World) : FnOk w 92 ["data", "n"] ["sorted", "len", "StatisticsError"] := ⟨by kernel_rfl, by kernel_rfl, by kernel_rfl, by kernel_rfl, by kernel_rfl, by kernel_rfl, by kernel_rfl, by kernel_rfl⟩
section
variable {w : World} {b : Shared} {X : List Addr} {l l' : List (Addr × Cell)} {lg lg' : List (Nat × GenState)} {s : Shared} {A : Around} {Q E : Value → Shared → Prop} {fr : List Env} {o : List Int} {P S LN LF aN aF : Addr} {gN gF n p q : Nat} {msg : Str} {tm : Tok} {env : Env} {L : Addr}
set_option maxRecDepth 10000 in
set_option maxHeartbeats 4000000 in
theorem ok_high (G : Glob w b X) (hA : A.depth + 15 < recursionLimit) (hh : A.handled = none) (hfr : A.frames = some fr) (hF : FrOk l fr) (ha : (aF, .gen gF) ∈ l)
    (hp : p ≤ o.length) (hlen : o.length ≤ 100) (h64 : (scan (o.drop p) p).1.length < 64) (hsm : ∀ x ∈ (scan (o.drop p) p).1, 0 ≤ x ∧ x < 256) (H : RowAt w b X o P S LN LF aN gN gF msg tm ((o.drop p).length + 1) p l lg s)
    (h : Post b X P (scan (o.drop p) p).2.2 l lg Q E (outOf msg medHighF (scan (o.drop p) p))) : wpAny (model prg w) A (call (.ref 92) [.ref aF]) Q E s := by
  refine ea5_4 H fun tp ov xv gsF gsN hf hg hp' H => ?_
  refine call_def ["data"] ["n"] (nm := ["data", "n"]) (vs := [some (.ref aF), none]) rfl rfl G H (fn_high w) (by kernel_rfl) (by kernel_rfl) (by kernel_rfl) rfl (by ktn_no "om") ?_
  intro L env s₁ EV hn H₁
  have hh' : (A.deeper env).handled = none := hh
  have hF' : ∀ vs, FrOk ((L, .ns ["data", "n"] vs) :: l) (env :: fr) := fun vs => FrOk.cons EV.kind EV.frame (.head _) hF.more
  refine wpAny_execs_cons ?_
  ktn_no "go"
  refine sorted_row (fr := env :: fr) G (by show A.depth + 1 + 12 < _; ktn_no "om") hh' (A_frames hfr) (hF' _) (.tail _ ha) hp hlen h64 ⟨tp, ov, xv, gsF, gsN, hf, hg, hp', W.mid (m := [_, _, _, _]) (by assumption)⟩ ?_ ?_ ?_
  · intro hl s₂ T out ns hI hpm hps hnT hT HE
    refine ea1_1 HE fun tp' HE => ?_
    unfold outOf at h
    rw [hl] at h
    have hns := srt_of hpm hps
    have hlen2 : ns.length = (scan (o.drop p) p).1.length := hpm.length_eq
    have hol : out.length = ns.length := hI.length
    generalize hxs : (scan (o.drop p) p).1 = xs at *
    generalize hq : (scan (o.drop p) p).2.2 = q at *
    subst hns
    have hb : ∀ k, 0 ≤ (srt xs).getD k 0 ∧ (srt xs).getD k 0 < 256 := by
      intro k
      rw [List.getD_eq_getElem?_getD]
      cases e : (srt xs)[k]? with
      | none => simp
      | some v => exact hsm v ((srt_perm xs).subset (List.mem_of_getElem? e))
    unfold medHighF at h
    ktn_no "go"
    refine r_ite (fun hc => ?_) (fun hc => ?_)
    · have hx0 : xs = [] := by
        have h0 : ((out.length : Nat) : Int) = 0 := eq_of_beq hc
        have : xs.length = 0 := by ktn_no "om"
        exact List.length_eq_zero_iff.mp this
      rw [if_pos hx0] at h
      ktn_no "go"
      refine r_raiseS G EV (by assumption) (by ktn_no "nth") hh' ?_
      ktn_no "go"
      refine ex2 _ _ ⟨by assumption, by rw [sizeLine_eq]; simp, fun e a s₃ H₃ => ?_⟩
      refine leave (H₃.del3) hfr hF EV.kind EV.frame fun s' H' => h e a _ _ s' H'
    · have h0 : ((out.length : Nat) : Int) ≠ 0 := ne_of_beq_false hc
      have hx0 : xs ≠ [] := fun e => by subst e; rw [hol, hlen2] at h0; exact h0 rfl
      rw [if_neg hx0] at h
      ktn_no "go"
      refine r_litem (by assumption) (by ktn_no "mem") hI (by ktn_no "om") (by ktn_no "om") (by ktn_no "om") fun t => ?_
      have e : (((out.length : Nat) : Int) / 2).toNat = xs.length / 2 := (half1 _).trans (by rw [hol, hlen2])
      rw [e]
      exact h _ _ (.i _ _) ⟨tp', W.del1 (W.del1 (by assumption))⟩
  · intro hl s₂ e a HE
    unfold outOf at h
    rw [hl] at h
    exact leaveR HE hfr hF EV.kind EV.frame fun s' H' => h e a _ _ s' H'
  · intro hl s₂ e a tm' HE
    unfold outOf at h
    rw [hl] at h
    exact leaveR HE hfr hF EV.kind EV.frame fun s' H' => h e a _ _ s' H'
end
end
section
open PySem PySem.W PySem.W.X PyProof.Rows PySem.Calls
section
variable {w : World} {b : Shared} {X : List Addr} {l l' : List (Addr × Cell)} {lg lg' : List (Nat × GenState)} {s : Shared} {A : Around} {Q E : Value → Shared → Prop} {a : Addr} {vs : List Value} {ns : List Int} {env : Env} {pos : Pos} {t u : Tok}

/-- an entry is let go, whatever becomes of its place -/
theorem W.lose {I : Addr} {c : Cell} {h' : Heap} {t' : Nat} (H : W b X ((I, c) :: l) lg s) (hn : newIn b I) (hX : I ∉ X) (he : Heap.ExtBut I s.heap h') (ht : 0 < s.toks → 0 < t' := by first | exact fun h => h | exact fun _ => Nat.succ_pos _ | (intro h; omega)) : W b X l lg { s with heap := h', toks := t' } := by
  have nI : ∀ p ∈ l, p.1 ≠ I := fun p hp e => by
    have := H.nd
    rw [List.map_cons] at this
    exact (List.nodup_cons.mp this).1 (List.mem_map.mpr ⟨p, hp, e⟩)
  have H3 := H.tail
  refine ⟨fun x o e nx => he x o (fun q => by subst q; rw [show b.heap.get? x = none from hn] at e; cases e) (H3.keep x o e nx), fun x hx => ?_, fun p hp => ?_, H3.nd, H3.own, H3.plain, H3.gens, H3.gnd, H3.bare, H3.os, ht H3.pos⟩
  · refine ea1_1 (H3.xs x hx) fun o ho => ?_
    exact ⟨o, he x o (fun q => hX (q ▸ hx)) ho⟩
  · refine (H3.cells p hp).move (fun o e => he _ o (nI p hp) e) fun t ot tvs e1 e2 e3 e4 => ?_
    have : t ≠ I := fun e => by subst e; exact (H.cells _ (.head _)).notTb (H.plain _ (.head _)) e1 e2 e3
    exact ex2 ot tvs ⟨he t ot this e1, e2, e3, e4⟩
theorem W.sizeX (H : W b X l lg s) : s.heap.objs.size ∉ X := fun h => by
  refine ea1_1 (H.xs _ h) fun o ho => ?_
  exact absurd (Heap.lt_size ho) (Nat.lt_irrefl _)

/-- a plain function is called with any arguments that bind -/
theorem call_fnB {fd : FuncData} {body : List Stmt} {o : Obj} (ps others : List Str) {nm gl : List Str} {args : List Value} {kw : List (Str × Value)} {vals : List Value} {vs : List (Option Value)} (hnm : ps ++ others = nm) (hvs : (vals.map some ++ others.map fun _ => none) = vs) (G : Glob w b X) (H : W b X l lg s)
    (ho : s.heap.get? a = some o) (hod : o.data = .func fd) (hcode : s.heap.CodeRec fd.code fd.qualname) (hsc : scopeOk fd.scope nm gl = true) (hco : fd.scope.isCoroutine = false) (hgl : fd.globals = mainGlobals) (hbl : fd.builtins = builtinsNs) (hbody : fd.body = .stmts body)
    (hc : noCells fd.scope = true) (hg : fd.scope.isGenerator = false) (hb : BindsTo s fd ⟨args, kw⟩ (ps.zip vals)) (hlen : ps.length = vals.length) (hA : A.depth < recursionLimit)
    (h : ∀ L env s', EnvOk env L nm gl → env.scope = fd.scope → env.cells = fd.closure → newIn b L → W b X ((L, .ns nm vs) :: l) lg s' →
      wpAny (model prg w) (A.deeper env) (execs body env) (fun fl s'' => Q (match fl with | .ret v => v | _ => .none) s'')
        (fun e s'' => wpAny (model prg w) (A.deeper env) (leaving env e) (fun _ s3 => E e s3) (fun e' s3 => E e' s3) s'') s') :
    wpAny (model prg w) A (call (.ref a) args kw) Q E s := by
  subst hnm hvs
  unfold scopeOk at hsc
  simp only [Bool.and_eq_true, beq_iff_eq, decide_eq_true_eq] at hsc
  refine ea0_2 hsc fun q_1 hdb => ?_
  try clear hsc
  obtain ⟨⟨⟨hk, hloc⟩, hgl'⟩, hnd⟩ := q_1
  have hloc' := lookup_of_all hloc
  refine wpAny_call (codeAny_call_def (fd := fd) (body := body) (binds := ps.zip vals) hA ho hod (G.nolimit H) hcode hbody hb (fun x hx => ?_) (fun x hx => ?_) (fun h₁ hns hkeep => ?_) hco hg hk)
  · have := List.all_eq_true.mp hc x hx
    simpa using this
  · exact hloc' x.1 (List.mem_append_left _ (List.of_mem_zip hx).1)
  · have H1 : W b X l lg { s with heap := h₁, toks := s.toks + (ps.zip vals).length } := H.grow hkeep
    have H2 : W b X ((s.heap.objs.size, .ns (ps ++ others) (vals.map some ++ others.map fun _ => none)) :: l) lg { s with heap := h₁, toks := s.toks + (ps.zip vals).length } :=
      H1.cons (by show h₁.Ns _ _; rw [look_binds hnd hlen]; exact hns) trivial H.fresh fun p hp e => absurd (H.lt hp) (by rw [e]; exact Nat.lt_irrefl _)
    have EO : EnvOk (callEnv fd s.heap.objs.size a) s.heap.objs.size (ps ++ others) gl :=
      ⟨rfl, rfl, hk, hgl, hbl, hloc', lookup_of_all hgl', hnd, fun x hx => by simpa using List.all_eq_true.mp hdb x hx⟩
    exact h _ _ _ EO rfl rfl H.fresh H2
theorem call_defB (ps others : List Str) {nm gl : List Str} {args : List Value} {kw : List (Str × Value)} {vals : List Value} {vs : List (Option Value)} (hnm : ps ++ others = nm) (hvs : (vals.map some ++ others.map fun _ => none) = vs) (G : Glob w b X) (H : W b X l lg s) (f : FnOk w a nm gl) (hc : noCells (fdOf w a).scope = true) (hg : (fdOf w a).scope.isGenerator = false)
    (hb : ∀ S, peek (KK w) S (bindArgs (fdOf w a) ⟨args, kw⟩) = some (ps.zip vals)) (hlen : ps.length = vals.length) (hA : A.depth < recursionLimit)
    (h : ∀ L env s', EnvOk env L nm gl → newIn b L → W b X ((L, .ns nm vs) :: l) lg s' →
      wpAny (model prg w) (A.deeper env) (execs (bodyOf w a) env) (fun fl s'' => Q (match fl with | .ret v => v | _ => .none) s'')
        (fun e s'' => wpAny (model prg w) (A.deeper env) (leaving env e) (fun _ s3 => E e s3) (fun e' s3 => E e' s3) s'') s') :
    wpAny (model prg w) A (call (.ref a) args kw) Q E s := by
  refine ea1_2 (Option.map_eq_some_iff.mp f.at_) fun o ho hod => ?_
  exact call_fnB ps others hnm hvs G H (G.at_ H ho) hod (codeRec_of (G.in_ H) f.code) f.sc f.co f.gl f.bl f.body hc hg (PySem.W.kp_binds (G.in_ H) hb) hlen hA fun L env s' EV _ _ hn H' => h L env s' EV hn H'

/-! calls of types, methods -/
theorem r_callM {id : String} {first : List Value} {e : Expr} {rest : List Expr}
    (h : wpAny (model prg w) A (spliced (backTo pos (starEach (e :: rest) env))) (fun vs s₁ => wpAny (model prg w) A (call (.builtin id) (first ++ vs)) Q E s₁) E s)
    (he : starEach (e :: rest) env = (false, eval e env) :: starEach rest env := by rfl)
    (hplain : (backTo pos (starEach rest env)).any (·.1) = false := by rfl) :
    wpAny (model prg w) A (callWith pos (.builtin id) first (backTo pos (starEach (e :: rest) env)) []) Q E s := callWith_method1 h he hplain

/-! lists -/
theorem r_getAppend {pl : Sem Bool} {Q : Value × List Value → Shared → Prop} (H : W b X l lg s) (hm : (a, .seq "list" vs) ∈ l) (h : Q (.builtin "list.append", [.ref a]) s) : wpAny (model prg w) A (getMethod (.ref a) (Str.ofString "append") pl) Q E s := by
  refine ea1_1 (H.cells _ hm) fun n ho => ?_
  exact Calls.getMethod_list_append ho rfl rfl h
theorem r_append {v : Value} (H : W b X l lg s) (hm : (a, .seq "list" vs) ∈ l) (hz : vs.length ≤ 10000) (hp : Put l (a, .seq "list" vs) (a, .seq "list" (vs ++ [v])) l') (h : ∀ s', W b X l' lg s' → Q .none s') :
    wpAny (model prg w) A (call (.builtin "list.append") [.ref a, v]) Q E s := by
  refine ea1_1 (H.cells _ hm) fun n ho => ?_
  refine wpAny_list_append_plain (items := vs.toArray) ⟨n, ho⟩ (fun h' hl hs => ?_) (by rw [sizeLine_eq]; simp; omega)
  refine ea1_1 hl fun n' hl => ?_
  exact h _ (H.put (t' := s.toks) hp hs ⟨n', by simpa [seqObj] using hl⟩ (by show "list" ≠ _; decide))
/-! ranges -/
noncomputable abbrev rgIt (x left : Int) : Obj := { cls := .type "range_iterator", dict := none, data := .fields #[rawInt x, rawInt left, rawInt 1], slots := #[] }
theorem r_range {p q : Int} (H : W b X l lg s) (h : ∀ r t1 t2 t3 s', W b X l lg s' → IsRange s'.heap r p q 1 t1 t2 t3 → Q (.ref r) s') : wpAny (model prg w) A (call (.type "range") [.int p t, .int q u]) Q E s :=
  call_range_2 (h _ _ _ _ _ (H.grow (t' := s.toks + 1) fun x o e => Heap.get?_push_of_some _ e) (IsRange.new _ _ _ _ _ _ _))
theorem r_range1 {q : Int} (H : W b X l lg s) (h : ∀ r t1 t2 t3 s', W b X l lg s' → IsRange s'.heap r 0 q 1 t1 t2 t3 → Q (.ref r) s') : wpAny (model prg w) A (call (.type "range") [.int q t]) Q E s :=
  call_range_1 (h _ _ _ _ _ (H.grow (t' := s.toks + 1 + 1) fun x o e => Heap.get?_push_of_some _ e) (IsRange.new _ _ _ _ _ _ _))

/-- for x in range(p, q): the ledger goes from Inv 0 to Inv n -/
theorem r_forR {x : Str} {px : Pos} {iter : Expr} {body : List Stmt} {Q : Flow → Shared → Prop} (Inv : Nat → List (Addr × Cell) → Prop) {p q : Int} {n : Nat} (hn : (n : Int) = if p < q then q - p else 0) (hpl : -(2 ^ 60) ≤ p) (hpu : p < 2 ^ 60) (hql : -(2 ^ 60) ≤ q) (hqu : q < 2 ^ 60) (hh : A.handled = none)
    (h : wpAny (model prg w) A (eval iter env) (fun v s₁ => ∃ m r t1 t2 t3, v = .ref r ∧ IsRange s₁.heap r p q 1 t1 t2 t3 ∧ W b X m lg s₁ ∧ Inv 0 m) E s)
    (step : ∀ i m I z tk s', i < n → Inv i m → newIn b I → W b X ((I, .obj z) :: m) lg s' →
      wpAny (model prg w) A (storeName env x (.int (p + i) tk)) (fun _ s₂ => wpAny (model prg w) A (execs body env) (fun f s₃ => f = .next ∧ ∃ m', Inv (i + 1) m' ∧ W b X ((I, .obj z) :: m') lg s₃) (fun _ _ => False) s₂) (fun _ _ => False) s')
    (fin : ∀ m s', Inv n m → W b X m lg s' → Q .next s')
    (hs : ∀ x, foldedSetIterable iter env x = pure x := by intro _; rfl) :
    wpAny (model prg w) A (exec (.For (.Name x px) iter body [] pos) env) Q E s := by
  refine wpAny_For (wpAny_mono h (fun v s₁ h₁ => ?_) fun _ _ x => x) hs
  refine ea5_4 h₁ fun m r t1 t2 t3 e_2 hr H hI => ?_
  try clear h₁
  subst e_2
  refine wpAny_pyIter_range hr (small_one (by omega) (by omega) (by omega) (by omega)) ?_
  have hsz : Builtin.Range.rangeSize p q 1 = (n : Int) := by rw [rangeSize_one, hn]
  have H1 := H.push (o := rgIt p (Builtin.Range.rangeSize p q 1)) (c := .obj (rgIt p (Builtin.Range.rangeSize p q 1))) (t' := s₁.toks) rfl (fun h' q => q) (by intro e; injection e with e; exact absurd e (by decide))
  rw [hsz] at H1 ⊢
  refine codeAny_forLoop (fun k s' => ∃ m i, i ≤ n ∧ k = n + 1 - i ∧ Inv i m ∧ W b X ((s₁.heap.objs.size, .obj (rgIt (p + (i : Nat)) ((n : Int) - (i : Nat)))) :: m) lg s') ?_ (n + 1) ⟨m, 0, Nat.zero_le _, rfl, hI, by simpa using H1⟩
  intro k s' r_1
  refine ea2_4 r_1 fun m' i hi e_3 hI' H' => ?_
  try clear r_1
  subst e_3
  have hit : IsRangeIter s'.heap s₁.heap.objs.size (p + (i : Nat)) ((n : Int) - (i : Nat)) 1 := H'.cells _ (.head _)
  by_cases hlt : i < n
  · refine wpAny_pyNext_range_item hit (by omega) fun h' hit' hs' => ?_
    have H2 := H'.put (t' := s'.toks + 1) (c' := .obj (rgIt (p + (i : Nat) + 1) ((n : Int) - (i : Nat) - 1))) .zero hs' hit' (by intro e; injection e with e; exact absurd e (by decide))
    refine wpAny_assign_Name (wpAny_mono (step i m' _ _ _ _ hlt hI' H.fresh H2) (fun _ s₂ h₂ => wpAny_mono h₂ (fun f s₃ h₃ => ?_) fun _ _ x => x.elim) fun _ _ x => x.elim)
    refine ea0_2 h₃ fun e_4 q_5 => ?_
    try clear h₃
    refine ea1_2 q_5 fun m₃ hI₃ H₃ => ?_
    subst e_4
    refine ⟨n + 1 - (i + 1), ⟨by omega, (ex2 m₃ (i + 1) ⟨hlt, rfl, hI₃, ?_⟩)⟩⟩
    have e1 : p + ((i + 1 : Nat) : Int) = p + (i : Nat) + 1 := by push_cast; omega
    have e2 : (n : Int) - ((i + 1 : Nat) : Int) = (n : Int) - (i : Nat) - 1 := by push_cast; omega
    rw [e1, e2]
    exact H₃
  · have hin : i = n := by omega
    subst hin
    refine wpAny_pyNext_range_end hh hit (by omega) fun h' he => wpAny_execs_nil ?_
    refine fin m' _ hI' ?_
    exact H'.lose (t' := s'.toks) H.fresh H.sizeX he
end
end
section
open PySem PySem.W PySem.W.X PyProof.Rows PySem.Calls
noncomputable abbrev nmQ : List Str := ["data", "n", "method", "ld", "m", "result", "i", "j", "delta", "interpolated"]
noncomputable abbrev glQ : List Str := ["sorted", "len", "StatisticsError", "range", "divmod"]
theorem fn_quant (w : World) : FnOk w 100 nmQ glQ := ⟨by kernel_rfl, by kernel_rfl, by kernel_rfl, by kernel_rfl, by kernel_rfl, by kernel_rfl, by kernel_rfl, by kernel_rfl⟩
noncomputable def kdf (w : World) : Array DictEntry := match (fdOf w 100).kwdefaults with
  | .ref a => match (KK w).lookup a with
    | some ⟨_, _, .dict es _, _⟩ => es
    | _ => #[]
  | _ => #[]
noncomputable def tokAt (es : Array DictEntry) (i : Nat) : Tok := match es[i]? with
  | some e => match e.val with | .int _ t => t | .str _ t => t | _ => 0
  | none => 0
theorem bd_quant4 (w : World) (v : Value) : ∀ S, peek (KK w) S (bindArgs (fdOf w 100) ⟨[v], []⟩) = some ((["data", "n", "method"] : List Str).zip [v, .int 4 (tokAt (kdf w) 0), .str "exclusive" (tokAt (kdf w) 1)]) := fun S => by kernel_rfl
theorem bd_quant7 (w : World) (v a c : Value) : ∀ S, peek (KK w) S (bindArgs (fdOf w 100) ⟨[v], [("n", a), ("method", c)]⟩) = some ((["data", "n", "method"] : List Str).zip [v, a, c]) := fun S => by kernel_rfl

noncomputable def exclAt (ys : List Int) (i : Int) : UInt64 :=
  let m : Int := ys.length + 1
  let j : Int := if i * m / 4 < 1 then 1 else if i * m / 4 > ys.length - 1 then ys.length - 1 else i * m / 4
  let d := i * m - j * 4
  fdiv (ys.getD (j - 1).toNat 0 * (4 - d) + ys.getD j.toNat 0 * d) 4
noncomputable def inclAt (ys : List Int) (i : Int) : UInt64 :=
  let m : Int := ys.length - 1
  fdiv (ys.getD (i * m / 7).toNat 0 * (7 - i * m % 7) + ys.getD (i * m / 7 + 1).toNat 0 * (i * m % 7)) 7
noncomputable def noQuant : Str := "must have at least one data point"
noncomputable def quantF (n : Nat) (at_ : List Int → Int → UInt64) (xs : List Int) : Out :=
  if xs = [] then .refused noQuant
  else if xs.length = 1 then .told (.many (List.replicate n (.i ((srt xs).getD 0 0))))
  else .told (.many ((List.range n).map fun (k : Nat) => Num.f (at_ (srt xs) (1 + (k : Int)))))

theorem bnd {y d : Int} (h : 0 ≤ y) (h' : y < 256) (hd : d.natAbs < 2 ^ 20) : (y * d).natAbs < 2 ^ 28 := by
  rw [Int.natAbs_mul]
  have h1 : y.natAbs ≤ 256 := by ktn_no "om"
  have : y.natAbs * d.natAbs ≤ 256 * d.natAbs := Nat.mul_le_mul_right _ h1
  omega
theorem bnd2 {y z d f : Int} (h : 0 ≤ y) (h' : y < 256) (g : 0 ≤ z) (g' : z < 256) (hd : d.natAbs < 2 ^ 20) (hf : f.natAbs < 2 ^ 20) : (y * d + z * f).natAbs < 2 ^ 60 := by
  have := bnd h h' hd
  have := bnd g g' hf
  omega
theorem getD_small {xs : List Int} (hs : ∀ x ∈ xs, 0 ≤ x ∧ x < 256) (k : Nat) : 0 ≤ (srt xs).getD k 0 ∧ (srt xs).getD k 0 < 256 := by
  rw [List.getD_eq_getElem?_getD]
  cases e : (srt xs)[k]? with
  | none => simp
  | some v => exact hs v ((srt_perm xs).subset (List.mem_of_getElem? e))

section
variable {w : World} {b : Shared} {X : List Addr} {l l' : List (Addr × Cell)} {lg lg' : List (Nat × GenState)} {s : Shared} {A : Around} {Q E : Value → Shared → Prop} {fr : List Env} {o : List Int} {P S LN LF aN aF : Addr} {gN gF n p q : Nat} {msg : Str} {tm : Tok} {env : Env} {L a : Addr}

theorem r_listmul {vs : List Value} {x : Int} {u : Tok} (H : W b X l lg s) (hm : (a, .seq "list" vs) ∈ l) (hlo : 0 ≤ x) (hhi : x < 100) (hz : vs.length ≤ 100) (hne : vs ≠ [])
    (h : ∀ T s', newIn b T → W b X ((T, .seq "list" (List.replicate x.toNat vs).flatten) :: l) lg s' → Q (.ref T) s') : wpAny (model prg w) A (binaryOp .Mult (.ref a) (.int x u)) Q E s := by
  refine ea1_1 (H.cells _ hm : ∃ k, s.heap.get? a = some (seqObj "list" vs.toArray k)) fun k hl => ?_
  have hmul : vs.toArray.size * x.toNat ≤ 100 * 100 := Nat.mul_le_mul (by simpa using hz) (by ktn_no "om")
  refine wpAny_binaryOp_repeat_ref (T := "list") (U := "int") (by decide) ⟨_, hl, rfl⟩ (fun s' => typeIs_int s' x u) noFill_list_mul F.fills_int_mul F.slot_int_rmul repeat_list F.slot_int_index.lookup
    (call_meets F.slot_int_rmul (typeIs_int s x u) F.entry_int_rmul (F.args_int_rmul_2 _ _) (int___rmul___int_list x u a vs.toArray k)
      ⟨hl, rfl, ⟨_, hl, rfl⟩, call_meets F.slot_list_mul ⟨_, hl, rfl⟩ F.entry_list_mul (F.args_list_mul_2 _ _)
        (AutoListH.list___mul___list_int_3 a vs.toArray k x u (by simp [Builtin.List.listFitsIndex]; ktn_no "om") (by ktn_no "om") (by simp only [Builtin.List.listTooLong, sizeLine]; simp; simp at hmul; ktn_no "om"))
        ⟨hl, ?_⟩⟩)
  have e : (List.foldl (fun x1 x2 => x1 ++ x2) #[] (List.replicate (if vs.toArray.isEmpty = true then 0 else x.toNat) vs.toArray)) = (List.replicate x.toNat vs).flatten.toArray := by
    rw [if_neg (by simpa using hne)]
    have : ∀ (k : Nat) (acc : Array Value), List.foldl (fun x1 x2 => x1 ++ x2) acc (List.replicate k vs.toArray) = acc ++ (List.replicate k vs).flatten.toArray := by
      intro k
      induction k with
      | zero => intro acc; simp
      | succ k ih => intro acc; rw [List.replicate_succ, List.foldl_cons, ih, List.replicate_succ, List.flatten_cons]; simp [Array.append_assoc]
    rw [this]; simp
  rw [e]
  exact h _ _ H.fresh (H.push (o := { cls := .type "list", data := .seq (List.replicate x.toNat vs).flatten.toArray }) (t' := s.toks) rfl (fun h' q => ⟨0, q⟩) (by show "list" ≠ _; decide))
theorem r_divmod {p q : Int} {t u : Tok} (H : W b X l lg s) (hq : 0 < q) (hs : q < 2 ^ 60) (h : ∀ T t1 t2 s', newIn b T → W b X ((T, .seq "tuple" [.int (p / q) t1, .int (p % q) t2]) :: l) lg s' → Q (.ref T) s') : wpAny (model prg w) A (call (.builtin "divmod") [.int p t, .int q u]) Q E s := by
  refine divmod_int (by ktn_no "om") ?_ (.inl (noPylong (by ktn_no "om")))
  rw [Int.fdiv_eq_ediv_of_nonneg _ (by ktn_no "om"), Int.fmod_eq_emod_of_nonneg _ (by ktn_no "om")]
  exact h _ _ _ _ H.fresh (H.push (o := { cls := .type "tuple", data := .seq #[.int (p / q) s.toks, .int (p % q) (s.toks + 1)] }) (t' := s.toks + 1 + 1) rfl (fun h' q => ⟨0, q⟩) (by show "tuple" ≠ _; decide))
/-- x, y = a pair -/
theorem r_assign2 {n1 n2 : Str} {p1 p2 pt pos : Pos} {x1 : Nat} {value : Expr} {Q : Flow → Shared → Prop} (G : Glob w b X) (hh : A.handled = none)
    (h : wpAny (model prg w) A (eval value env) (fun v s₁ => ∃ m mg T u1 u2, v = .ref T ∧ W b X ((T, .seq "tuple" [u1, u2]) :: m) mg s₁ ∧
      ∀ s₂, W b X m mg s₂ → wpAny (model prg w) A (storeName env n1 u1) (fun _ s₃ => wpAny (model prg w) A (storeName env n2 u2) (fun _ => Q .next) E s₃) E s₂) E s)
    (hs : swapsWithSole [.Tuple [.Name n1 p1, .Name n2 p2] x1 pt] value pos.line env = pure false := by rfl) (hw : swappedStores [.Tuple [.Name n1 p1, .Name n2 p2] x1 pt] value env = pure none := by rfl)  :
    wpAny (model prg w) A (exec (.Assign [.Tuple [.Name n1 p1, .Name n2 p2] x1 pt] value pos) env) Q E s := by
  refine wpAny_Assign_stores (wpAny_mono h (fun v s₁ h₁ => ?_) fun _ _ x => x) hs hw
  refine ea5_3 h₁ fun m mg T u1 u2 e_1 H h₂ => ?_
  try clear h₁
  subst e_1
  refine ea1_1 (H.cells _ (.head _) : ∃ n, s₁.heap.get? T = some (seqObj "tuple" [u1, u2].toArray n)) fun n hT => ?_
  show wpAny (model prg w) A (assign (.Tuple [.Name n1 p1, .Name n2 p2] x1 pt) env (.ref T)) _ _ _
  refine wpAny_assign_Tuple (items := #[u1, u2]) hh ⟨_, hT, rfl, n, rfl⟩ rfl rfl fun h' he => ?_
  have H' : W b X m mg { s₁ with heap := h' } := (H.tail).grow (t' := s₁.toks) fun x o e => he x o (Nat.ne_of_lt (Heap.lt_size e)) e
  refine assignInOrder_cons (wpAny_assign_Name (wpAny_mono (h₂ _ H') (fun _ s₃ h₃ => ?_) fun _ _ x => x))
  exact assignInOrder_cons (wpAny_assign_Name (wpAny_mono h₃ (fun _ s₄ h₄ => wpAny_pure h₄) fun _ _ x => x))
end
end
section
open PySem PySem.W PySem.W.X PyProof.Rows PySem.Calls
theorem rep_nums {vs : List Value} {ys : List Int} (h : IntsAre vs ys) (h1 : vs.length = 1) : ∀ k : Nat, NumsAre (List.replicate k vs).flatten (List.replicate k (.i (ys.getD 0 0))) := by
  cases h with
  | nil => cases h1
  | cons n t r =>
    cases r with
    | cons => simp at h1
    | nil =>
      intro k
      induction k with
      | zero => exact .nil
      | succ k ih => rw [List.replicate_succ, List.replicate_succ, List.flatten_cons]; exact .cons (.i _ _) ih
theorem take_snoc {α : Type} {f : Nat → α} {n i : Nat} (h : i < n) : ((List.range n).map f).take (i + 1) = ((List.range n).map f).take i ++ [f i] := by
  rw [List.take_add_one]
  simp [h]
section
variable {w : World} {b : Shared} {X : List Addr} {l l' : List (Addr × Cell)} {lg lg' : List (Nat × GenState)} {s : Shared} {A : Around} {Q E : Value → Shared → Prop} {fr : List Env} {o : List Int} {P S LN LF aN aF : Addr} {gN gF n p q : Nat} {msg : Str} {tm : Tok} {env : Env} {L a : Addr}
set_option maxRecDepth 10000 in
set_option maxHeartbeats 4000000 in
theorem ok_quant7 {t7 ti : Tok} (G : Glob w b X) (hA : A.depth + 15 < recursionLimit) (hh : A.handled = none) (hfr : A.frames = some fr) (hF : FrOk l fr) (ha : (aF, .gen gF) ∈ l)
    (hp : p ≤ o.length) (hlen : o.length ≤ 100) (h64 : (scan (o.drop p) p).1.length < 64) (hsm : ∀ x ∈ (scan (o.drop p) p).1, 0 ≤ x ∧ x < 256) (H : RowAt w b X o P S LN LF aN gN gF msg tm ((o.drop p).length + 1) p l lg s)
    (h : Post b X P (scan (o.drop p) p).2.2 l lg Q E (outOf msg (quantF 6 inclAt) (scan (o.drop p) p))) : wpAny (model prg w) A (call (.ref 100) [.ref aF] [("n", .int 7 t7), ("method", .str "inclusive" ti)]) Q E s := by
  refine ea5_4 H fun tp ov xv gsF gsN hf hg hp' H => ?_
  refine call_defB ["data", "n", "method"] ["ld", "m", "result", "i", "j", "delta", "interpolated"] (nm := nmQ) (vals := [.ref aF, .int 7 t7, .str "inclusive" ti]) (vs := [some (.ref aF), some (.int 7 t7), some (.str "inclusive" ti), none, none, none, none, none, none, none]) rfl rfl G H (fn_quant w) (by kernel_rfl) (by kernel_rfl) (bd_quant7 w _ _ _) rfl (by ktn_no "om") ?_
  intro L env s₁ EV hn H₁
  have hh' : (A.deeper env).handled = none := hh
  have hF' : ∀ vs, FrOk ((L, .ns nmQ vs) :: l) (env :: fr) := fun vs => FrOk.cons EV.kind EV.frame (.head _) hF.more
  refine execs_cut ?_
  intro K hK hR
  ktn_no "ho"
  refine ite_n (by decide) ?_
  ktn_no "ho"
  refine sorted_row (fr := env :: fr) G (by show A.depth + 1 + 12 < _; ktn_no "om") hh' (A_frames hfr) (hF' _) (.tail _ ha) hp hlen h64 ⟨tp, ov, xv, gsF, gsN, hf, hg, hp', W.mid (m := [_, _, _, _]) (by ktn_no "as")⟩ ?_ ?_ ?_
  · intro hl s₂ T out ns hI hpm hps hnT hT HE
    refine ea1_1 HE fun tp' HE => ?_
    unfold outOf at h
    rw [hl] at h
    have hns := srt_of hpm hps
    have hlen2 : ns.length = (scan (o.drop p) p).1.length := hpm.length_eq
    have hol : out.length = ns.length := hI.length
    generalize hxs : (scan (o.drop p) p).1 = xs at *
    generalize hq : (scan (o.drop p) p).2.2 = q at *
    subst hns
    have hb := getD_small hsm
    unfold quantF at h
    ktn_no "ho"
    refine r_ite (fun hc => ?_) (fun hc => ?_)
    · have hc' : ((out.length : Nat) : Int) < 2 := by simpa using hc
      ktn_no "ho"
      refine r_ite (fun hc1 => ?_) (fun hc1 => ?_)
      · have h1 : ((out.length : Nat) : Int) = 1 := eq_of_beq hc1
        ktn_no "ho"
        have hx1 : xs.length = 1 := by ktn_no "om"
        rw [if_neg (by intro e; subst e; cases hx1), if_pos hx1] at h
        refine r_listmul (by ktn_no "as") (by ktn_no "mem") (by ktn_no "om") (by ktn_no "om") (by ktn_no "om") (by intro e; subst e; simp at h1) ?_
        intro T' s₃ hn' H₃
        ktn_no "ho"
        have hrep := rep_nums hI (by ktn_no "om") 6
        exact h T' _ s₃ hrep hn' ⟨tp', H₃.swap.del2.del2⟩
      · have h1 : ((out.length : Nat) : Int) ≠ 1 := ne_of_beq_false hc1
        have hx0 : xs = [] := by
          have : xs.length = 0 := by ktn_no "om"
          exact List.length_eq_zero_iff.mp this
        rw [if_pos hx0] at h
        ktn_no "ho"
        refine r_raiseS G EV (by ktn_no "as") (by ktn_no "nth") hh' ?_
        ktn_no "ho"
        refine ex2 _ _ ⟨by ktn_no "as", by rw [sizeLine_eq]; simp, fun e a s₃ H₃ => ?_⟩
        refine leave (H₃.del3) hfr hF EV.kind EV.frame fun s' H' => h e a _ _ s' H'
    · have hc' : 2 ≤ ((out.length : Nat) : Int) := by simpa using hc
      have hx0 : xs ≠ [] := fun e => by subst e; rw [hol, hlen2] at hc'; simp at hc'
      rw [if_neg hx0, if_neg (by ktn_no "om")] at h
      ktn_no "ho"
      refine ite_t (by decide) ?_
      ktn_no "ho"
      refine r_forR (b := b) (X := X) (lg := lg) (p := 1) (q := 7) (n := 6) (fun i m => ∃ R vs a1 a2 a3 a4 t1 t2, newIn b R ∧ m = (R, Cell.seq "list" vs) :: (P, .lst [.int q tp']) :: (T, .seq "list" out) :: (L, .ns nmQ [some (.ref T), some (.int 7 t7), some (.str "inclusive" ti), some (.int out.length t1), some (.int (out.length - 1) t2), some (.ref R), a1, a2, a3, a4]) :: l ∧
        NumsAre vs (((List.range 6).map fun (k : Nat) => Num.f (inclAt (srt xs) (1 + (k : Int)))).take i)) rfl (by decide) (by decide) (by decide) (by decide) hh' ?_ ?_ ?_
      · ktn_no "ho"
        refine r_range (by ktn_no "as") ?_
        intro r t1 t2 t3 s₅ H₅ hr
        exact ex5 _ _ _ _ _ ⟨rfl, hr, H₅, (ex8 _ _ _ _ _ _ _ _ ⟨by assumption, rfl, .nil⟩)⟩
      · intro i m I z tk s₅ hi r_1 hnI H₅
        refine ea8_3 r_1 fun R vs a1 a2 a3 a4 t1 t2 hnR e_1 hvs => ?_
        try clear r_1
        subst e_1
        ktn_no "ho"
        refine r_assign2 G hh' ?_
        ktn_no "ho"
        refine r_divmod (by ktn_no "as") (by decide) (by decide) ?_
        intro T2 u1 u2 s₆ hnT2 H₆
        refine ex5 _ _ _ _ _ ⟨rfl, H₆, fun s₇ H₇ => ?_⟩
        ktn_no "ho"
        have hx1 : 0 ≤ (1 + (i : Int)) * ((out.length : Int) - 1) := Int.mul_nonneg (by ktn_no "om") (by ktn_no "om")
        have hx2 : (1 + (i : Int)) * ((out.length : Int) - 1) ≤ 6 * ((out.length : Int) - 1) := Int.mul_le_mul_of_nonneg_right (by ktn_no "om") (by ktn_no "om")
        have hlen3 : vs.length ≤ 6 := by rw [hvs.length]; simp; omega
        have b1 := hb (((1 + (i : Int)) * ((out.length : Int) - 1)) / 7).toNat
        have b2 := hb (((1 + (i : Int)) * ((out.length : Int) - 1)) / 7 + 1).toNat
        refine r_litem (by ktn_no "as") (by ktn_no "mem") hI (by ktn_no "om") (by ktn_no "om") (by ktn_no "om") fun t => ?_
        ktn_no "ho"
        refine r_litem (by ktn_no "as") (by ktn_no "mem") hI (by ktn_no "om") (by ktn_no "om") (by ktn_no "om") fun t => ?_
        ktn_no "ho"
        refine r_div (by ktn_no "as") (by decide) (bnd2 b1.1 b1.2 b2.1 b2.2 (by ktn_no "om") (by ktn_no "om")) ?_
        intro _ _ htz _
        ktn_no "ho"
        refine wpAny_Expr ?_ (by unfold interactive; rw [EV.kind]; rfl) rfl
        refine MethodCall_ ?_
        ktn_no "ho"
        refine r_getAppend (by ktn_no "as") (by ktn_no "mem") ?_
        refine r_callM ?_
        ktn_no "ho"
        refine r_append (by ktn_no "as") (by ktn_no "mem") (by ktn_no "om") (by ktn_no "put") ?_
        intro s₈ H₈
        ktn_no "ho"
        refine ⟨rfl, _, ⟨_, _, _, _, _, _, _, _, hnR, rfl, ?_⟩, H₈⟩
        rw [take_snoc hi]
        refine hvs.snoc ?_
        have : inclAt (srt xs) (1 + (i : Int)) = fdiv ((srt xs).getD (((1 + (i : Int)) * ((out.length : Int) - 1)) / 7).toNat 0 * (7 - ((1 + (i : Int)) * ((out.length : Int) - 1)) % 7) + (srt xs).getD (((1 + (i : Int)) * ((out.length : Int) - 1)) / 7 + 1).toNat 0 * (((1 + (i : Int)) * ((out.length : Int) - 1)) % 7)) 7 := by
          unfold inclAt
          rw [hol]
        rw [this]
        exact .f _ _ htz
      · intro m s₅ r_2 H₅
        refine ea8_3 r_2 fun R vs a1 a2 a3 a4 t1 t2 hnR e_2 hvs => ?_
        try clear r_2
        subst e_2
        ktn_no "ho"
        refine h R vs s₅ ?_ hnR ⟨tp', H₅.swap.del2.del2⟩
        rw [List.take_of_length_le (by simp)] at hvs
        exact hvs
  · intro hl s₂ e a HE
    unfold outOf at h
    rw [hl] at h
    exact leaveR HE hfr hF EV.kind EV.frame fun s' H' => h e a _ _ s' H'
  · intro hl s₂ e a tm' HE
    unfold outOf at h
    rw [hl] at h
    exact leaveR HE hfr hF EV.kind EV.frame fun s' H' => h e a _ _ s' H'
end
end
section
open PySem PySem.W PySem.W.X PyProof.Rows PySem.Calls
section
variable {w : World} {b : Shared} {X : List Addr} {l l' : List (Addr × Cell)} {lg lg' : List (Nat × GenState)} {s : Shared} {A : Around} {Q E : Value → Shared → Prop} {fr : List Env} {o : List Int} {P S LN LF aN aF : Addr} {gN gF n p q : Nat} {msg : Str} {tm : Tok} {env : Env} {L a : Addr}
set_option maxRecDepth 10000 in
set_option maxHeartbeats 4000000 in
theorem ok_quant4 (G : Glob w b X) (hA : A.depth + 15 < recursionLimit) (hh : A.handled = none) (hfr : A.frames = some fr) (hF : FrOk l fr) (ha : (aF, .gen gF) ∈ l)
    (hp : p ≤ o.length) (hlen : o.length ≤ 100) (h64 : (scan (o.drop p) p).1.length < 64) (hsm : ∀ x ∈ (scan (o.drop p) p).1, 0 ≤ x ∧ x < 256) (H : RowAt w b X o P S LN LF aN gN gF msg tm ((o.drop p).length + 1) p l lg s)
    (h : Post b X P (scan (o.drop p) p).2.2 l lg Q E (outOf msg (quantF 3 exclAt) (scan (o.drop p) p))) : wpAny (model prg w) A (call (.ref 100) [.ref aF]) Q E s := by
  refine ea5_4 H fun tp ov xv gsF gsN hf hg hp' H => ?_
  refine call_defB ["data", "n", "method"] ["ld", "m", "result", "i", "j", "delta", "interpolated"] (nm := nmQ) (vals := [.ref aF, .int 4 (tokAt (kdf w) 0), .str "exclusive" (tokAt (kdf w) 1)]) (vs := [some (.ref aF), some (.int 4 (tokAt (kdf w) 0)), some (.str "exclusive" (tokAt (kdf w) 1)), none, none, none, none, none, none, none]) rfl rfl G H (fn_quant w) (by kernel_rfl) (by kernel_rfl) (bd_quant4 w _) rfl (by ktn_no "om") ?_
  intro L env s₁ EV hn H₁
  have hh' : (A.deeper env).handled = none := hh
  have hF' : ∀ vs, FrOk ((L, .ns nmQ vs) :: l) (env :: fr) := fun vs => FrOk.cons EV.kind EV.frame (.head _) hF.more
  refine body_cut2 fun K0 F0 hR0 hF0 => ?_
  refine execs_cut ?_
  intro K hK hR
  ktn_no "ho"
  refine ite_n (by decide) ?_
  ktn_no "ho"
  refine sorted_row (fr := env :: fr) G (by show A.depth + 1 + 12 < _; ktn_no "om") hh' (A_frames hfr) (hF' _) (.tail _ ha) hp hlen h64 ⟨tp, ov, xv, gsF, gsN, hf, hg, hp', W.mid (m := [_, _, _, _]) (by assumption)⟩ ?_ ?_ ?_
  · intro hl s₂ T out ns hI hpm hps hnT hT HE
    refine ea1_1 HE fun tp' HE => ?_
    unfold outOf at h
    rw [hl] at h
    have hns := srt_of hpm hps
    have hlen2 : ns.length = (scan (o.drop p) p).1.length := hpm.length_eq
    have hol : out.length = ns.length := hI.length
    generalize hxs : (scan (o.drop p) p).1 = xs at *
    generalize hq : (scan (o.drop p) p).2.2 = q at *
    subst hns
    have hb := getD_small hsm
    unfold quantF at h
    ktn_no "ho"
    refine r_ite (fun hc => ?_) (fun hc => ?_)
    · have hc' : ((out.length : Nat) : Int) < 2 := by simpa using hc
      ktn_no "ho"
      refine r_ite (fun hc1 => ?_) (fun hc1 => ?_)
      · have h1 : ((out.length : Nat) : Int) = 1 := eq_of_beq hc1
        ktn_no "ho"
        have hx1 : xs.length = 1 := by ktn_no "om"
        rw [if_neg (by intro e; subst e; cases hx1), if_pos hx1] at h
        refine r_listmul (by assumption) (by ktn_no "mem") (by ktn_no "om") (by ktn_no "om") (by ktn_no "om") (by intro e; subst e; simp at h1) ?_
        intro T' s₃ hn' H₃
        ktn_no "ho"
        have hrep := rep_nums hI (by ktn_no "om") 3
        exact h T' _ s₃ hrep hn' ⟨tp', H₃.swap.del2.del2⟩
      · have h1 : ((out.length : Nat) : Int) ≠ 1 := ne_of_beq_false hc1
        have hx0 : xs = [] := by
          have : xs.length = 0 := by ktn_no "om"
          exact List.length_eq_zero_iff.mp this
        rw [if_pos hx0] at h
        ktn_no "ho"
        refine r_raiseS G EV (by assumption) (by ktn_no "nth") hh' ?_
        ktn_no "ho"
        refine ex2 _ _ ⟨by assumption, by rw [sizeLine_eq]; simp, fun e a s₃ H₃ => ?_⟩
        refine hF0 _ _ ?_
        refine leave (H₃.del3) hfr hF EV.kind EV.frame fun s' H' => h e a _ _ s' H'
    · have hc' : 2 ≤ ((out.length : Nat) : Int) := by simpa using hc
      have hx0 : xs ≠ [] := fun e => by subst e; rw [hol, hlen2] at hc'; simp at hc'
      rw [if_neg hx0, if_neg (by ktn_no "om")] at h
      ktn_no "ho"
      refine ite_n (by decide) ?_
      ktn_no "ho"
      refine ite_t (by decide) ?_
      ktn_no "ho"
      refine r_forR (b := b) (X := X) (lg := lg) (p := 1) (q := 4) (n := 3) (fun i m => ∃ R vs a1 a2 a3 a4 t1 t2, newIn b R ∧ m = (R, Cell.seq "list" vs) :: (P, .lst [.int q tp']) :: (T, .seq "list" out) :: (L, .ns nmQ [some (.ref T), some (.int 4 (tokAt (kdf w) 0)), some (.str "exclusive" (tokAt (kdf w) 1)), some (.int out.length t1), some (.int (out.length + 1) t2), some (.ref R), a1, a2, a3, a4]) :: l ∧
        NumsAre vs (((List.range 3).map fun (k : Nat) => Num.f (exclAt (srt xs) (1 + (k : Int)))).take i)) rfl (by decide) (by decide) (by decide) (by decide) hh' ?_ ?_ ?_
      · ktn_no "ho"
        refine r_range (by assumption) ?_
        intro r t1 t2 t3 s₅ H₅ hr
        exact ex5 _ _ _ _ _ ⟨rfl, hr, H₅, (ex8 _ _ _ _ _ _ _ _ ⟨by assumption, rfl, .nil⟩)⟩
      · intro i m I z tk s₅ hi r_1 hnI H₅
        refine ea8_3 r_1 fun R vs a1 a2 a3 a4 t1 t2 hnR e_1 hvs => ?_
        try clear r_1
        subst e_1
        ktn_no "ho"
        have hx1 : 0 ≤ (1 + (i : Int)) * ((out.length : Int) + 1) := Int.mul_nonneg (by ktn_no "om") (by ktn_no "om")
        have hx2 : (1 + (i : Int)) * ((out.length : Int) + 1) ≤ 3 * ((out.length : Int) + 1) := Int.mul_le_mul_of_nonneg_right (by ktn_no "om") (by ktn_no "om")
        have hlen3 : vs.length ≤ 6 := by rw [hvs.length]; simp; omega
        have fin : ∀ (J : Int), (if (1 + (i : Int)) * ((out.length : Int) + 1) / 4 < 1 then 1 else if (1 + (i : Int)) * ((out.length : Int) + 1) / 4 > out.length - 1 then (out.length : Int) - 1 else (1 + (i : Int)) * ((out.length : Int) + 1) / 4) = J →
            exclAt (srt xs) (1 + (i : Int)) = fdiv ((srt xs).getD (J - 1).toNat 0 * (4 - ((1 + (i : Int)) * ((out.length : Int) + 1) - J * 4)) + (srt xs).getD J.toNat 0 * ((1 + (i : Int)) * ((out.length : Int) + 1) - J * 4)) 4 := by
          intro J hJ
          unfold exclAt
          rw [← hol]
          dsimp only
          rw [hJ]
        have l60 : ∀ k, -(2 ^ 60) < (srt xs).getD k 0 ∧ (srt xs).getD k 0 < 2 ^ 60 := fun k => by have := hb k; omega
        refine ite_cut (fun v s' => ∃ J t aj, v = .int J t ∧ (if (1 + (i : Int)) * ((out.length : Int) + 1) / 4 < 1 then 1 else if (1 + (i : Int)) * ((out.length : Int) + 1) / 4 > out.length - 1 then (out.length : Int) - 1 else (1 + (i : Int)) * ((out.length : Int) + 1) / 4) = J ∧ W b X ((I, .obj z) :: (R, Cell.seq "list" vs) :: (P, .lst [.int q tp']) :: (T, .seq "list" out) :: (L, .ns nmQ [some (.ref T), some (.int 4 (tokAt (kdf w) 0)), some (.str "exclusive" (tokAt (kdf w) 1)), some (.int out.length t1), some (.int (out.length + 1) t2), some (.ref R), some (.int (1 + (i : Int)) tk), aj, a3, a4]) :: l) lg s') (fun hc1 => ?_) (fun hc1 => ?_) ?_
        · have hc1' : (1 + (i : Int)) * ((out.length : Int) + 1) / 4 < 1 := of_decide_eq_true hc1
          ktn_no "ho"
          exact ex3 _ _ _ ⟨rfl, if_pos hc1', by assumption⟩
        · have hc1' : ¬ (1 + (i : Int)) * ((out.length : Int) + 1) / 4 < 1 := of_decide_eq_false hc1
          ktn_no "ho"
          refine r_ite (fun hc2 => ?_) (fun hc2 => ?_)
          · have hc2' : (1 + (i : Int)) * ((out.length : Int) + 1) / 4 > (out.length : Int) - 1 := of_decide_eq_true hc2
            ktn_no "ho"
            exact ex3 _ _ _ ⟨rfl, (if_neg hc1').trans (if_pos hc2'), by assumption⟩
          · have hc2' : ¬ (1 + (i : Int)) * ((out.length : Int) + 1) / 4 > (out.length : Int) - 1 := of_decide_eq_false hc2
            ktn_no "ho"
            exact ex3 _ _ _ ⟨rfl, (if_neg hc1').trans (if_neg hc2'), by assumption⟩
        · intro v s₆ r_2
          refine ea3_3 r_2 fun J tJ aj e_2 hJ H₆ => ?_
          try clear r_2
          subst e_2
          have f := fin J hJ
          have hJb : 1 ≤ J ∧ J < ((srt xs).length : Int) := by
            revert hJ
            split
            · omega
            · split <;> omega
          have hJd : (4 - ((1 + (i : Int)) * ((out.length : Int) + 1) - J * 4)).natAbs < 2 ^ 20 ∧ ((1 + (i : Int)) * ((out.length : Int) + 1) - J * 4).natAbs < 2 ^ 20 := by ktn_no "om"
          have h40 : (srt xs).length < 2 ^ 40 := by ktn_no "om"
          ktn_no "ho"
          refine r_litem (by assumption) (by ktn_no "mem") hI (Int.sub_nonneg_of_le hJb.1) (Int.lt_of_le_of_lt (Int.sub_le_self _ (by decide)) hJb.2) h40 fun t => ?_
          ktn_no "ho"
          refine r_mul (by assumption) (l60 _).1 (l60 _).2 ?_
          intro _ _ _
          ktn_no "ho"
          refine r_litem (by assumption) (by ktn_no "mem") hI (Int.le_trans (by decide) hJb.1) hJb.2 h40 fun t => ?_
          ktn_no "ho"
          refine r_mul (by assumption) (l60 _).1 (l60 _).2 ?_
          intro _ _ _
          ktn_no "ho"
          refine r_div (by assumption) (by decide) (bnd2 (hb _).1 (hb _).2 (hb _).1 (hb _).2 hJd.1 hJd.2) ?_
          intro _ _ htz _
          ktn_no "ho"
          refine wpAny_Expr ?_ (by unfold interactive; rw [EV.kind]; rfl) rfl
          refine MethodCall_ ?_
          ktn_no "ho"
          refine r_getAppend (by assumption) (by ktn_no "mem") ?_
          refine r_callM ?_
          ktn_no "ho"
          refine r_append (by assumption) (by ktn_no "mem") (Nat.le_trans hlen3 (by decide)) (by ktn_no "put") ?_
          intro s₈ H₈
          ktn_no "ho"
          refine ⟨rfl, _, ⟨_, _, _, _, _, _, _, _, hnR, rfl, ?_⟩, H₈⟩
          rw [take_snoc hi]
          refine hvs.snoc ?_
          rw [f]
          exact .f _ _ htz
      · intro m s₅ r_3 H₅
        refine ea8_3 r_3 fun R vs a1 a2 a3 a4 t1 t2 hnR e_3 hvs => ?_
        try clear r_3
        subst e_3
        ktn_no "ho"
        refine h R vs s₅ ?_ hnR ⟨tp', H₅.swap.del2.del2⟩
        rw [List.take_of_length_le (by simp)] at hvs
        exact hvs
  · intro hl s₂ e a HE
    unfold outOf at h
    rw [hl] at h
    refine hF0 _ _ ?_
    exact leaveR HE hfr hF EV.kind EV.frame fun s' H' => h e a _ _ s' H'
  · intro hl s₂ e a tm' HE
    unfold outOf at h
    rw [hl] at h
    refine hF0 _ _ ?_
    exact leaveR HE hfr hF EV.kind EV.frame fun s' H' => h e a _ _ s' H'
end
end
section
open PySem PySem.W PySem.W.X PyProof.Rows PySem.Calls
section
variable {w : World} {b : Shared} {X : List Addr} {l l' : List (Addr × Cell)} {lg lg' : List (Nat × GenState)} {s : Shared} {A : Around} {E : Value → Shared → Prop} {a e : Addr} {g : Nat} {gs : GenState} {env : Env} {L : Addr} {fr : List Env}
/-- what leaves a bare __next__ by a raise -/
noncomputable def RawE (w : World) (b : Shared) (X : List Addr) (Q : Option Value → Shared → Prop) (E : Value → Shared → Prop) (v : Value) (s : Shared) : Prop :=
  (∃ a o, v = .ref a ∧ s.heap.get? a = some o ∧ o.cls = .type "StopIteration" ∧ Q none s) ∨
  (∃ a C m mg n f k args, v = .ref a ∧ W b X m mg s ∧ (a, Cell.exc n f k C args) ∈ m ∧ NotStop w C ∧ E v s)
theorem raw_next {x : Value} {Q : Option Value → Shared → Prop} (G : Glob w b X) (h : wpAny (model prg w) A (callSpecial? x (Str.ofString "__next__") []) (fun r s' => ∃ v, r = some v ∧ Q (some v) s') (RawE w b X Q E) s) : wpAny (model prg w) A (pyNext x) Q E s := by
  unfold pyNext
  refine wpAny_bind (wpAny_attempt (wpAny_mono h (fun r s' h' => ?_) fun e s' h' => ?_))
  · refine ea1_2 h' fun v e_1 hq => ?_
    try clear h'
    subst e_1
    exact wpAny_pure hq
  · rcases h' with ⟨a, o, rfl, ho, hc, hq⟩ | ⟨a, C, m, mg, n, f, k, args, rfl, H, hm, hns, hq⟩
    · refine wpAny_bind (wpAny_isInstance (T := "StopIteration") (b := true) ⟨o, ho, hc⟩ isSubtype_stop ?_)
      exact wpAny_pure hq
    · refine wpAny_bind (exc_instance G H hm hns ?_)
      exact wpAny_throw hq
/-- the next of a sleeping generator -/
theorem wp_nextR {Q : Option Value → Shared → Prop} (G : Glob w b X) (H : W b X l lg s) (ha : (a, .gen g) ∈ l) (hg : (g, gs) ∈ lg) (hl : Put lg (g, gs) (g, .running) lg') (hh : A.handled = none) (hA : A.depth < recursionLimit)
    (hw : ∀ s₁, W b X l lg' s₁ → Wk (model prg w) A.in1 gs s₁ (Told w b X a g Q E)) :
    wpAny (model prg w) A (callSpecial? (.ref a) (Str.ofString "__next__") []) (fun r s' => ∃ v, r = some v ∧ Q (some v) s') (RawE w b X Q E) s := by
  have hgen : s.heap.IsGen a g := H.cells _ ha
  have hgs' : s.gens[g]? = some gs := H.gens _ hg
  have H1 := H.setGen hl rfl
  have hw1 := hw _ H1
  refine wpAny_callSpecial?_slot (name := Str.ofString "__next__") hgen.typeIs slot_gen_next
    (wpAny_call_entry slot_gen_next hgen.typeIs entry_gen_next ?_ (args_gen_next _))
  show wpAny _ _ (Builtin.Generator.genWake (.ref a) (.send .none)) _ _ s
  unfold Builtin.Generator.genWake
  refine wpAny_bind (wpAny_holding (wpAny_genNumber hgen (wpAny_bind (wpAny_genState hgs' ?_))))
  have hst : gs.status = .fresh ∨ gs.status = .suspended := by
    cases gs with
    | running => exact hw1.elim
    | finished => exact hw1.elim
    | fresh c => exact .inl rfl
    | suspended k l c p fs cl => exact .inr rfl
  rcases hst with hst | hst
  all_goals
    rw [hst]
    refine wpAny_bind (wpAny_roomToWake (G.nolimit H) hA ?_)
    show wpAny _ _ (.resume g (.send .none) [] _) _ _ s
    refine wk_resume hgs' (hw1.mono fun x s₂ hx => ?_)
    rcases hx with ⟨v, hv, hq⟩ | ⟨hv, hq⟩ | ⟨e, m, mg, n, f, k, C, args, hv, HE, hma, hme, hns, hq⟩
    · rw [hv]
      exact wpAny_pure ⟨v, rfl, v, rfl, hq⟩
    · have hfin : x.genState = .finished := End.fin_of (by rw [hv]; intro v q; cases q)
      rw [hv, hfin]
      show wpAny _ _ (newExc (.type "StopIteration") [] >>= _) _ _ _
      refine wpAny_bind ?_
      simp only [newExc, newTuple]
      refine wpAny_bind (wpAny_newObj_type ?_ (by size_fits))
      refine wpAny_bind (m := firstArgMember _ _) (wpAny_of_eq (a := Value.none) (by first | rfl | (simp only [firstArgMember]; rfl)) ?_)
      refine wpAny_newObj_type ?_ (by size_fits)
      simp only [raiseNew]
      refine wpAny_bind (wpAny_bind (wpAny_handled ?_))
      rw [show A.in1.handled = none from hh]
      refine wpAny_throw ?_
      refine .inl ⟨_, _, rfl, Heap.get?_push_size _ rfl, rfl, ?_⟩
      refine hq _ fun b' X' m mg HH => ?_
      exact HH.grow (t' := s₂.toks) (fun b o hb => Heap.get?_push_of_some _ (Heap.get?_push_of_some _ hb))
    · have hfin : x.genState = .finished := End.fin_of (by rw [hv]; intro v q; cases q)
      rw [hv, hfin]
      show wpAny _ _ (Builtin.Generator.genLeft (.ref a) (.ref e)) _ _ _
      unfold Builtin.Generator.genLeft Builtin.Generator.madeByALambda
      refine ea3_4 (show (s₂.setGen g .finished).heap.IsGen a g from HE.cells _ hma) fun og nmg qng hog hogc hogd _ => ?_
      refine wpAny_bind (wpAny_bind (wpAny_load hog (wpAny_pure ?_)))
      refine wpAny_bind (exc_instance G HE hme hns ?_)
      rw [Bool.and_false, if_neg Bool.false_ne_true]
      unfold Builtin.Generator.genEscaped
      refine wpAny_bind (exc_instance G HE hme hns ?_)
      exact wpAny_bind (wpAny_throw (.inr ⟨_, _, _, _, _, _, _, _, rfl, HE, hme, hns, hq⟩))
theorem nextFR {E : Value → Shared → Prop} {Q : Option Value → Shared → Prop} {o : List Int} {P S LN LF aN aF : Addr} {gN gF n p : Nat} {msg : Str} {tm : Tok} (G : Glob w b X)
    (H : RowAt w b X o P S LN LF aN gN gF msg tm (n + 1) p l lg s) (ha : (aF, .gen gF) ∈ l)
    (hA : A.depth + 12 < recursionLimit) (hh : A.handled = none) (hfr : A.frames = some fr) (hF : FrOk l fr)
    (h1 : o[p]? = some 0 → ∀ s', RowEnd b X P (p + 1) l lg s' → Q none s')
    (h2 : ∀ v, o[p]? = some v → 100 ≤ v → ∀ s' tk, RowAt w b X o P S LN LF aN gN gF msg tm n (p + 1) l lg s' → Q (some (.int (v - 100) tk)) s')
    (h3 : ∀ v, o[p]? = some v → v ≠ 0 → v < 100 → ∀ s' e a, RowEnd b X P (p + 1) ((e, .exc (newIn b) true true (.ref 52) (.ref a)) :: (a, .seq "tuple" [.str msg tm]) :: l) lg s' → E (.ref e) s')
    (h4 : p = o.length → ∀ s' e a tm', RowEnd b X P p ((e, .exc (newIn b) true true (.type "ValueError") (.ref a)) :: (a, .seq "tuple" [.str eofMsg tm']) :: l) lg s' → E (.ref e) s') :
    wpAny (model prg w) A (callSpecial? (.ref aF) (Str.ofString "__next__") []) (fun r s' => ∃ v, r = some v ∧ Q (some v) s') (RawE w b X Q E) s := by
  refine ea5_4 H fun tp ov xv gsF gsN hFG hNG hp H => ?_
  have hdrop : ∀ {p tp tm ov xv l lg s}, W b X (cellsF P S LN LF aN gN msg p tp tm ov xv l) lg s → W b X ((P, .lst [.int p tp]) :: l) lg s := fun H => H.del3.del2.del1
  have hdropE : ∀ {c1 c2 : Addr × Cell} {p tp tm ov xv l lg s}, W b X (c1 :: c2 :: cellsF P S LN LF aN gN msg p tp tm ov xv l) lg s → W b X ((P, .lst [.int p tp]) :: c1 :: c2 :: l) lg s := fun H => H.get2.del3.del3.del3
  refine wp_nextR G H (by
    show (aF, Cell.gen gF) ∈ _ :: _ :: _ :: _ :: l
    exact .tail _ (.tail _ (.tail _ (.tail _ ha)))) (.head _) .zero hh (by omega) fun s₁ H₁ => ?_
  refine hFG A.in1 s₁ p tp tm ov xv gsN l ((gF, .running) :: lg) fr _ hp hNG H₁.gswap (by show A.depth + 10 < _; omega) hh hfr hF ?_ ?_ ?_ ?_
  · intro x s' t' ov' xv' gs' h0 hx H'
    refine .inr (.inl ⟨hx, fun s₃ h₃ => h1 h0 _ ⟨t', hdrop (h₃ _ _ _ _ (H'.gswap.setGen .zero rfl)).gtail.gtail⟩⟩)
  · intro x s' t' ov' xv' gs' v tk hv hv1 hx hb hf hn H'
    refine .inl ⟨_, hx, h2 v hv hv1 _ _ ⟨t', ov', xv', _, gs', hf, hn, ?_, H'.gswap.setGen .zero hb⟩⟩
    exact (List.getElem?_eq_some_iff.mp hv).1
  · intro x s' t' ov' xv' gs' v e a hv hv0 hv1 hx H'
    have H'' := H'.gswap.setGen (gs' := .finished) .zero rfl
    exact .inr (.inr ⟨e, _, _, _, _, _, _, _, hx, H'', .tail _ (.tail _ (.tail _ (.tail _ (.tail _ (.tail _ ha))))), .head _, notStop_stat, h3 v hv hv0 hv1 _ _ _ ⟨t', hdropE H''.gtail.gtail⟩⟩)
  · intro x s' t' ov' xv' gs' e a tm' hpe hx H'
    have H'' := H'.gswap.setGen (gs' := .finished) .zero rfl
    exact .inr (.inr ⟨e, _, _, _, _, _, _, _, hx, H'', .tail _ (.tail _ (.tail _ (.tail _ (.tail _ (.tail _ ha))))), .head _, notStop_value, h4 hpe _ _ _ _ ⟨t', hdropE H''.gtail.gtail⟩⟩)
end
end
section
open PySem PySem.W PySem.W.X PyProof.Rows PySem.Calls
noncomputable abbrev enO (it : Addr) (i : Int) (old own : Value) : Obj := { cls := .type "enumerate", dict := none, data := .fields #[own, .bool false, .ref it, rawInt i, .none, old], slots := #[] }
section
variable {w : World} {b : Shared} {X : List Addr} {l l' : List (Addr × Cell)} {lg lg' : List (Nat × GenState)} {s : Shared} {A : Around} {E : Value → Shared → Prop} {fr : List Env} {o : List Int} {P S LN LF aN aF aE : Addr} {gN gF n p : Nat} {msg : Str} {tm : Tok}

/-- the entry at the head is changed, the heap grows -/
theorem W.chg {a : Addr} {c c' : Cell} {h' : Heap} {t' : Nat} (H : W b X ((a, c) :: l) lg s) (he : Heap.ExtBut a s.heap h') (hc : c'.At h' a) (hp : c'.Plain) (ht : 0 < s.toks → 0 < t' := by first | exact fun h => h | exact fun _ => Nat.succ_pos _ | (intro h; omega)) : W b X ((a, c') :: l) lg { s with heap := h', toks := t' } := by
  have nI : ∀ p ∈ l, p.1 ≠ a := fun p hp e => by
    have := H.nd
    rw [List.map_cons] at this
    exact (List.nodup_cons.mp this).1 (List.mem_map.mpr ⟨p, hp, e⟩)
  have hnot : ∀ o, b.heap.get? a = some o → a ∈ X := fun o ho => (H.own _ (.head _)).resolve_right fun q => by rw [show b.heap.get? a = none from q] at ho; cases ho
  have tb : ∀ t ot tvs, s.heap.get? t = some ot → ot.cls = .type "traceback" → ot.data = .fields tvs → 3 < tvs.size → ∃ ot' tvs', h'.get? t = some ot' ∧ ot'.cls = .type "traceback" ∧ ot'.data = .fields tvs' ∧ 3 < tvs'.size := fun t ot tvs e1 e2 e3 e4 => by
    have : t ≠ a := fun e => by subst e; exact (H.cells _ (.head _)).notTb (H.plain _ (.head _)) e1 e2 e3
    exact ex2 ot tvs ⟨he t ot this e1, e2, e3, e4⟩
  refine ⟨fun x o e nx => he x o (fun q => by subst q; exact nx (hnot o e)) (H.keep x o e nx), fun x hx => ?_, fun p hp' => ?_, H.nd, fun p hp' => ?_, fun p hp' => ?_, H.gens, H.gnd, H.bare, H.os, ht H.pos⟩
  · by_cases e : x = a
    · subst e; exact hc.live
    · refine ea1_1 (H.xs x hx) fun o ho => ?_
      exact ⟨o, he x o e ho⟩
  · rcases List.mem_cons.mp hp' with rfl | q
    · exact hc
    · exact (H.cells p (.tail _ q)).move (fun o e => he _ o (nI p q) e) tb
  · rcases List.mem_cons.mp hp' with rfl | q
    · exact H.own (a, c) (.head _)
    · exact H.own p (.tail _ q)
  · rcases List.mem_cons.mp hp' with rfl | q
    · exact hp
    · exact H.plain p (.tail _ q)

theorem enPlain {it : Addr} {i : Int} {old own : Value} : (Cell.obj (enO it i old own)).Plain := by intro e; injection e with e; exact absurd e (by decide)
theorem ne_of_nd {a c : Addr} {ca cc : Cell} (H : W b X ((a, ca) :: l) lg s) (hm : (c, cc) ∈ l) : c ≠ a := fun e => by
  have := H.nd
  rw [List.map_cons] at this
  exact (List.nodup_cons.mp this).1 (List.mem_map.mpr ⟨_, hm, e⟩)

/-- the rest of enumerate's next, the item being at hand -/
theorem enum_tail {i : Int} {x old : Value} {Q : Value → Shared → Prop} (he : s.heap.get? aE = some (enO aF i old .none))
    (hQ : ∀ h', h'.get? aE = some (enO aF (i + 1) x (rawInt s.heap.objs.size)) → h'.get? s.heap.objs.size = some (seqObj "tuple" #[.int i s.toks, x] 0) → h'.objs.size = s.heap.objs.size + 1 →
      Heap.ExtBut aE s.heap h' → Q (.ref s.heap.objs.size) { s with heap := h', toks := s.toks + 1 }) :
    wpAny (model prg w) A (do
      let .int i _ ← field (.ref aE) 3 | unsupported "internal:enumerate.__next__"
      let given ← field (.ref aE) 4
      let index ← if given == .none then mkInt i else pure given
      setField (.ref aE) 3 (rawInt (i + 1)); setField (.ref aE) 4 .none
      let result ← newTuple [index, x]
      if ← Builtin.SmallTypes.ownedTupleIsFree (.ref aE) then
        rule "enumerate.__next__.owned-tuple-again"
        let old ← field (.ref aE) 5
        setField (.ref aE) 5 x
        Builtin.SmallTypes.ownedTupleHandOut (.ref aE) result
        letGo [old] [result]
      ret result) (fun fin s' => ∃ v, fin = .done (.ret v) ∧ Q v s') E s := by
  obtain ⟨hp, g, d, tk, os⟩ := s
  refine wpAny_bind (wpAny_field he rfl (x := rawInt i) rfl ?_)
  show wpAny _ _ (field (.ref aE) 4 >>= _) _ _ ⟨hp, g, d, tk, os⟩
  refine wpAny_bind (wpAny_field he rfl (x := .none) rfl ?_)
  show wpAny _ _ (mkInt i >>= _) _ _ ⟨hp, g, d, tk, os⟩
  refine wpAny_bind (wpAny_mkInt ?_)
  show wpAny _ _ (setField (.ref aE) 3 (rawInt (i + 1)) >>= _) _ _ ⟨hp, g, d, tk + 1, os⟩
  refine wpAny_bind (wpAny_setField_rec he (by simp) fun h₂ he₂ hs₂ => ?_)
  replace hs₂ : Heap.SameBut aE hp h₂ := hs₂
  replace he₂ : h₂.get? aE = some (enO aF (i + 1) old .none) := he₂
  show wpAny _ _ (setField (.ref aE) 4 .none >>= _) _ _ ⟨h₂, g, d, tk + 1, os⟩
  refine wpAny_bind (wpAny_setField_rec he₂ (by simp) fun h₃ he₃ hs₃ => ?_)
  replace hs₃ : Heap.SameBut aE h₂ h₃ := hs₃
  replace he₃ : h₃.get? aE = some (enO aF (i + 1) old .none) := he₃
  show wpAny _ _ (newTuple [.int i tk, x] >>= _) _ _ ⟨h₃, g, d, tk + 1, os⟩
  refine wpAny_bind (wpAny_newTuple ?_)
  have he₄ : (h₃.push { cls := .type "tuple", data := .seq #[.int i tk, x] }).get? aE = some (enO aF (i + 1) old .none) := Heap.get?_push_of_some _ he₃
  generalize hh₄ : h₃.push { cls := .type "tuple", data := .seq #[.int i tk, x] } = h₄ at he₄
  have hsz : h₃.objs.size = hp.objs.size := by rw [hs₃.1, hs₂.1]
  have hel : aE < hp.objs.size := Heap.lt_size he
  have ht₄ : h₄.get? hp.objs.size = some { cls := .type "tuple", data := .seq #[.int i tk, x] } := by rw [← hh₄, ← hsz]; exact Heap.get?_push_size _ rfl
  have hz₄ : h₄.objs.size = hp.objs.size + 1 := by rw [← hh₄, Heap.size_push, hsz]
  have hk₄ : ∀ b o, b ≠ aE → hp.get? b = some o → h₄.get? b = some o := fun b o hbe hb => by
    rw [← hh₄]; exact Heap.get?_push_of_some _ (hs₃.extBut b o hbe (hs₂.extBut b o hbe hb))
  show wpAny _ _ (Builtin.SmallTypes.ownedTupleIsFree (.ref aE) >>= _) _ _ ⟨h₄, g, d, tk + 1, os⟩
  rw [hsz]
  clear hh₄ he₃ hs₃ he₂ hs₂ hsz h₃ h₂
  refine wpAny_bind ?_
  · unfold Builtin.SmallTypes.ownedTupleIsFree
    refine wpAny_bind (wpAny_field he₄ rfl (x := .none) rfl (wpAny_pure ?_))
    simp only [if_true]
    refine wpAny_bind (wpAny_rule ?_)
    refine wpAny_bind (wpAny_field he₄ rfl (x := old) rfl ?_)
    refine wpAny_bind (wpAny_setField_rec he₄ (by simp) fun h₅ he₅ hs₅ => ?_)
    replace hs₅ : Heap.SameBut aE h₄ h₅ := hs₅
    replace he₅ : h₅.get? aE = some (enO aF (i + 1) x .none) := he₅
    show wpAny _ _ (Builtin.SmallTypes.ownedTupleHandOut (.ref aE) (.ref hp.objs.size) >>= _) _ _ ⟨h₅, g, d, tk + 1, os⟩
    refine wpAny_bind ?_
    · unfold Builtin.SmallTypes.ownedTupleHandOut
      refine wpAny_bind (wpAny_setField_rec he₅ (by simp) fun h₆ he₆ hs₆ => ?_)
      replace hs₆ : Heap.SameBut aE h₅ h₆ := hs₆
      replace he₆ : h₆.get? aE = some (enO aF (i + 1) x (rawInt hp.objs.size)) := he₆
      refine wpAny_setField_rec he₆ (by simp) fun h₇ he₇ hs₇ => ?_
      replace hs₇ : Heap.SameBut aE h₆ h₇ := hs₇
      replace he₇ : h₇.get? aE = some (enO aF (i + 1) x (rawInt hp.objs.size)) := he₇
      refine wpAny_bind (wpAny_letGo (wpAny_pure ⟨_, rfl, hQ h₇ he₇ ?_ ?_ ?_⟩))
      · exact hs₇.extBut _ _ (Nat.ne_of_gt hel) (hs₆.extBut _ _ (Nat.ne_of_gt hel) (hs₅.extBut _ _ (Nat.ne_of_gt hel) ht₄))
      · show h₇.objs.size = _
        rw [hs₇.1, hs₆.1, hs₅.1, hz₄]
      · exact fun b o hbe hb => hs₇.extBut b o hbe (hs₆.extBut b o hbe (hs₅.extBut b o hbe (hk₄ b o hbe hb)))

theorem nextE {Q : Option Value → Shared → Prop} {i : Int} {old : Value} (G : Glob w b X)
    (H : RowAt w b X o P S LN LF aN gN gF msg tm (n + 1) p ((aE, .obj (enO aF i old .none)) :: l) lg s) (ha : (aF, .gen gF) ∈ l)
    (hA : A.depth + 12 < recursionLimit) (hh : A.handled = none) (hfr : A.frames = some fr) (hF : FrOk l fr)
    (h1 : o[p]? = some 0 → ∀ s', RowEnd b X P (p + 1) ((aE, .obj (enO aF i old .none)) :: l) lg s' → Q none s')
    (h2 : ∀ v, o[p]? = some v → 100 ≤ v → ∀ s' T tk tk', newIn b T → RowAt w b X o P S LN LF aN gN gF msg tm n (p + 1) ((T, .seq "tuple" [.int i tk', .int (v - 100) tk]) :: (aE, .obj (enO aF (i + 1) (.int (v - 100) tk) (rawInt T))) :: l) lg s' → Q (some (.ref T)) s')
    (h3 : ∀ v, o[p]? = some v → v ≠ 0 → v < 100 → ∀ s' e a, RowEnd b X P (p + 1) ((e, .exc (newIn b) true true (.ref 52) (.ref a)) :: (a, .seq "tuple" [.str msg tm]) :: (aE, .obj (enO aF i old .none)) :: l) lg s' → E (.ref e) s')
    (h4 : p = o.length → ∀ s' e a tm', RowEnd b X P p ((e, .exc (newIn b) true true (.type "ValueError") (.ref a)) :: (a, .seq "tuple" [.str eofMsg tm']) :: (aE, .obj (enO aF i old .none)) :: l) lg s' → E (.ref e) s') :
    wpAny (model prg w) A (pyNext (.ref aE)) Q E s := by
  refine raw_next G ?_
  refine ea2_2 H.led fun m0 mg0 H0 hsub0 => ?_
  have he : s.heap.get? aE = some (enO aF i old .none) := H0.cells _ (hsub0 _ (.head _))
  have hT : s.TypeIs (.ref aE) "enumerate" := ⟨_, he, rfl⟩
  refine wpAny_callSpecial?_slot (name := Str.ofString "__next__") hT F.slot_enumerate_next (wpAny_call_entry F.slot_enumerate_next hT F.entry_enumerate_next ?_ (F.args_enumerate_next_1 _))
  show wpAny _ _ (field (.ref aE) 2 >>= _) _ _ _
  refine wpAny_bind (wpAny_field he rfl (x := .ref aF) rfl ?_)
  refine wpAny_bind ?_
  unfold Builtin.SmallTypes.nextOf
  refine wpAny_bind (wpAny_mono (nextFR (Q := fun r s' => match r with
      | none => Q none s'
      | some x => ∃ v tk, x = .int (v - 100) tk ∧ o[p]? = some v ∧ 100 ≤ v ∧ RowAt w b X o P S LN LF aN gN gF msg tm n (p + 1) ((aE, .obj (enO aF i old .none)) :: l) lg s') (E := E) G H (.tail _ ha) hA hh hfr hF.more h1 (fun v hv hv1 s' tk H' => ⟨v, tk, rfl, hv, hv1, H'⟩) h3 h4) (fun r s' h' => ?_) fun e s' h' => h')
  refine ea1_2 h' fun x e_1 q_2 => ?_
  try clear h'
  subst e_1
  obtain ⟨v, tk, rfl, hv, hv1, H'⟩ := q_2
  refine wpAny_pure ?_
  refine ea2_2 H'.led fun m1 mg1 H1 hsub1 => ?_
  have he1 : s'.heap.get? aE = some (enO aF i old .none) := H1.cells _ (hsub1 _ (.head _))
  refine enum_tail he1 fun h' e1 e2 e3 e4 => ⟨_, rfl, ?_⟩
  refine h2 v hv hv1 _ _ tk s'.toks H1.fresh (H'.lift fun {m mg} Hm => ?_)
  have Hc := Hm.unmid.chg (t' := s'.toks + 1) (c' := .obj (enO aF (i + 1) (.int (v - 100) tk) (rawInt s'.heap.objs.size))) e4 e1 enPlain
  have hnT : ∀ p ∈ (aE, Cell.obj (enO aF (i + 1) (.int (v - 100) tk) (rawInt s'.heap.objs.size))) :: (m ++ l), p.1 ≠ s'.heap.objs.size := fun p hp e => by
    rcases List.mem_cons.mp hp with rfl | hp
    · exact absurd (Heap.lt_size he1) (by rw [show aE = s'.heap.objs.size from e]; exact Nat.lt_irrefl _)
    · exact absurd (Hm.unmid.lt (.tail _ hp)) (by rw [e]; exact Nat.lt_irrefl _)
  have Ht := Hc.cons (a := s'.heap.objs.size) (c := .seq "tuple" [.int i s'.toks, .int (v - 100) tk]) ⟨0, e2⟩ (by show "tuple" ≠ _; decide) H1.fresh hnT
  exact Ht.perm ((List.perm_middle.trans ((List.perm_middle).cons _)))
end
end
section
open PySem PySem.W PySem.W.X PyProof.Rows PySem.Calls
set_option maxRecDepth 100000
theorem pure_any {M : Model} {A : Around} {E : Value → Shared → Prop} {s : Shared} {Q : Bool → Shared → Prop} {b : Bool} (h : ∀ b, Q b s) : wpAny M A (pure b) Q E s := wpAny_pure (h b)
theorem meets_enum_start (aF : Addr) (g : Nat) (t : Tok) :
    Meets (Builtin.«enumerate.__new__» ⟨[.type "enumerate", .ref aF], [(Str.ofString "start", .int 1 t)]⟩) (fun _ R s => s.heap.IsGen aF g ∧
      R (.ok (.ret (.ref s.heap.objs.size))) { s with heap := s.heap.push (enO aF 1 .none .none) }) :=
  .of_wp fun prog w A R s h => by
    obtain ⟨hp, gg, d, tk, os⟩ := s; obtain ⟨hg, h⟩ := h
    have hsub := sub_enumerate
    wp_walk using wpAny_pyIter_gen hg
    refine wpAny_stack_any fun st => pure_any fun bb => ?_
    cases bb
    · wp_walk using wpAny_pyIter_gen hg
      exact ⟨_, rfl, h⟩
    · wp_walk using wpAny_pyIter_gen hg
      exact ⟨_, rfl, h⟩
theorem tc_enum (x v : Value) : checkTypeCall "enumerate" ⟨[x], [(Str.ofString "start", v)]⟩ = pure () := by kernel_rfl
theorem nc_enum (x v : Value) : checkBuiltinCall "enumerate.__new__" ⟨[.type "enumerate", x], [(Str.ofString "start", v)]⟩ = pure () := by kernel_rfl
theorem ok_init (obj x v : Value) : argsOk "object.__init__" ⟨[obj, x], [(Str.ofString "start", v)]⟩ := by unfold argsOk; kernel_rfl
theorem init_enumK (self x v : Value) : Meets (Builtin.«object.__init__» ⟨[self, x], [(Str.ofString "start", v)]⟩) (fun _ R s => s.TypeIs self "enumerate" ∧ R (.ok (.ret .none)) s) := by
  refine Meets.of_wp fun prog w A R s hs => ?_
  obtain ⟨hT, hq⟩ := hs
  have hl := F.called_enumerate.init.lookup
  have hm := F.called_enumerate.made
  have hne : (some "enumerate.__new__" != some "object.__new__") = true := by decide
  repeat (any_goals (first | assumption | wp_step))
  exact ⟨_, rfl, hq⟩
section
variable {w : World} {A : Around} {E : Value → Shared → Prop} {s : Shared}
theorem call_enumS {aF : Addr} {g : Nat} {t : Tok} {Q : Value → Shared → Prop} (hg : s.heap.IsGen aF g) (h : Q (.ref s.heap.objs.size) { s with heap := s.heap.push (enO aF 1 .none .none) }) :
    wpAny (model prg w) A (call (.type "enumerate") [.ref aF] [(Str.ofString "start", .int 1 t)]) Q E s := by
  have ft := F.called_enumerate
  obtain ⟨c, tl, hmro⟩ := ft.mro
  have hmade := ft.made
  have hsub := ft.sub
  refine wpAny_call (codeAny_of_tree ?_)
  show wpAny _ _ (callAny (.type "enumerate") _) _ _ _
  refine wpAny_pure ⟨Code.quiet_builtin _ (by decide +kernel), codeAny_builtin F.entry_type_call ?_⟩
  rw [Around.under_plain (weight_type_call_type "enumerate" _ _) (units_type_call_type "enumerate" _ _)]
  have h1 := ft.notType
  have h2 := ft.canCreate
  have hct := tc_enum (.ref aF) (.int 1 t)
  repeat (any_goals (first | assumption | wp_step))
  refine codeAny_mono (codeAny_call_builtin ft.plain F.entry_enumerate_new (wpAny_of_eq (nc_enum (.ref aF) (.int 1 t)) (meets_enum_start aF g t prg w A.in1 (wants (fun obj s₁ => obj = .ref s.heap.objs.size ∧ s₁ = { s with heap := s.heap.push (enO aF 1 .none .none) }) E) s ⟨hg, rfl, rfl⟩))) fun r s₁ hr => ?_
  cases r with
  | error e => exact hr
  | ok fl =>
    cases fl with
    | ret obj =>
      obtain ⟨rfl, rfl⟩ := hr
      have hT : ({ s with heap := s.heap.push (enO aF 1 .none .none) } : Shared).TypeIs (.ref s.heap.objs.size) "enumerate" := ⟨_, Heap.get?_push_size _ rfl, rfl⟩
      have hli := ft.init.lookup
      have hbi := ft.init.bind (.ref s.heap.objs.size)
      repeat (any_goals (first | assumption | wp_step))
      refine codeAny_mono (codeAny_call_builtin ft.init.plain F.entry_object_init (ft.init.check _ _ _ _ _ _ _ _ hT (ok_init _ _ _) (init_enumK _ _ _ prg w A.in1 (wants (fun r s₂ => r = .none ∧ s₂ = { s with heap := s.heap.push (enO aF 1 .none .none) }) E) _ ⟨hT, rfl, rfl⟩))) fun r₂ s₂ hr₂ => ?_
      cases r₂ with
      | error e => exact hr₂
      | ok fl₂ =>
        cases fl₂ with
        | ret r =>
          obtain ⟨rfl, rfl⟩ := hr₂
          repeat (any_goals (first | assumption | wp_step))
        | _ => exact hr₂.elim
    | _ => exact hr.elim
end
end
section
open PySem PySem.W PySem.W.X PyProof.Rows PySem.Calls
/-! fmean's own def -/
noncomputable def ifW (w : World) : List Stmt := match (bodyOf w 71).getD 0 (.Pass ⟨0, 0, 0, 0⟩) with | .If _ b _ _ => b | _ => []
noncomputable def hdW (w : World) : List Stmt := match (ifW w).getD 0 (.Pass ⟨0, 0, 0, 0⟩) with | .Try _ (.ExceptHandler _ _ b _ :: _) _ _ _ => b | _ => []
noncomputable def ctStmt (w : World) : Stmt := (hdW w).getD 1 (.Pass ⟨0, 0, 0, 0⟩)
noncomputable def ctP (w : World) : Arguments := match ctStmt w with | .FunctionDef _ a _ _ _ _ _ _ _ _ => a | _ => default
noncomputable def ctB (w : World) : List Stmt := match ctStmt w with | .FunctionDef _ _ b _ _ _ _ _ _ _ => b | _ => []
noncomputable def ctS (w : World) : Scope := match ctStmt w with | .FunctionDef _ _ _ _ _ _ s _ _ _ => s | _ => default
noncomputable abbrev nmC : List Str := ["iterable", "x"]
theorem ct_scope (w : World) : scopeOk (ctS w) nmC ["enumerate"] = true := by kernel_rfl
theorem ct_co (w : World) : (ctS w).isCoroutine = false := by kernel_rfl
theorem ct_gen (w : World) : (ctS w).isGenerator = true := by kernel_rfl
theorem ct_cells (w : World) : noCells (ctS w) = true := by kernel_rfl
theorem ct_free (w : World) : (ctS w).names.lookup (Str.ofString "n") = some .free := by kernel_rfl
noncomputable def cW (w : World) : Expr × List Stmt := match (ctB w).getD 1 (.Pass ⟨0, 0, 0, 0⟩) with | .For t _ b _ _ => (t, b) | _ => (default, [])
noncomputable abbrev cC (w : World) (env : Env) (aE : Addr) : Code := .forLoop (cW w).1 (.ref aE) (cW w).2 [] env
noncomputable abbrev fsC (w : World) (env : Env) (p : Pos) : List Frame := [.ret (backK env (kN1 env) (hN env) id id) none false [] (.func (ctB w) env) p []]
noncomputable def cellsE (ae : Option Addr) (aF : Addr) (i : Nat) (old : Value) : List (Addr × Cell) := match ae with
  | none => []
  | some aE => [(aE, .obj (enO aF ((i : Int) + 1) old .none))]
noncomputable abbrev cellsC (LC Cn aF : Addr) (nv : Value) (xv : Option Value) (l : List (Addr × Cell)) : List (Addr × Cell) := (LC, .ns nmC [some (.ref aF), xv]) :: (Cn, .cel (some nv)) :: l

noncomputable def CG (w : World) (b : Shared) (X : List Addr) (o : List Int) (P S LN LF aN aF LC Cn : Addr) (gN gF : Nat) (msg : Str) (tm : Tok) : Nat → Option Addr → GenState → Prop
  | 0, _, _ => True
  | n + 1, ae, gs => ∀ (A : Around) (s : Shared) (p i : Nat) (old nv : Value) (xv : Option Value) (l : List (Addr × Cell)) (lg : List (Nat × GenState)) (fr : List Env) (R : End → Shared → Prop), (ae = none → i = 0) → (aF, .gen gF) ∈ l →
      RowAt w b X o P S LN LF aN gN gF msg tm (n + 1) p (cellsE ae aF i old ++ cellsC LC Cn aF nv xv l) lg s → A.depth + 20 < recursionLimit → A.handled = none → A.frames = some fr → FrOk l fr →
      (∀ x s' xv', o[p]? = some 0 → x.result = .returned .none → RowEnd b X P (p + 1) (cellsC LC Cn aF nv xv' l) lg s' → R x s') →
      (∀ x s' xv' v tk tk' aE old', o[p]? = some v → 100 ≤ v → x.result = .yielded (.int (v - 100) tk) → x.genState.bare = true → CG w b X o P S LN LF aN aF LC Cn gN gF msg tm n (some aE) x.genState →
        RowAt w b X o P S LN LF aN gN gF msg tm n (p + 1) (cellsE (some aE) aF (i + 1) old' ++ cellsC LC Cn aF (.int ((i + 1 : Nat) : Int) tk') xv' l) lg s' → R x s') →
      (∀ x s' xv' v e a, o[p]? = some v → v ≠ 0 → v < 100 → x.result = .raised (.ref e) → RowEnd b X P (p + 1) ((e, .exc (newIn b) true true (.ref 52) (.ref a)) :: (a, .seq "tuple" [.str msg tm]) :: cellsC LC Cn aF nv xv' l) lg s' → R x s') →
      (∀ x s' xv' e a tm', p = o.length → x.result = .raised (.ref e) → RowEnd b X P p ((e, .exc (newIn b) true true (.type "ValueError") (.ref a)) :: (a, .seq "tuple" [.str eofMsg tm']) :: cellsC LC Cn aF nv xv' l) lg s' → R x s') →
      Wk (model prg w) A gs s R

section
variable {w : World} {b : Shared} {X : List Addr} {l l' : List (Addr × Cell)} {lg : List (Nat × GenState)} {s : Shared} {A : Around} {env : Env} {L : Addr} {fr : List Env} {R : End → Shared → Prop} {o : List Int} {P S LN LF aN aF LC Cn aE : Addr} {gN gF n p : Nat} {msg : Str} {tm : Tok}

theorem RowAt.grow (H : RowAt w b X o P S LN LF aN gN gF msg tm n p l lg s) {h' : Heap} {t' : Nat} (hk : ∀ a o, s.heap.get? a = some o → h'.get? a = some o) (ht : 0 < s.toks → 0 < t' := by first | exact fun h => h | exact fun _ => Nat.succ_pos _ | (intro h; omega)) : RowAt w b X o P S LN LF aN gN gF msg tm n p l lg { s with heap := h', toks := t' } := H.lift fun Hm => Hm.grow hk ht
theorem RowAt.tail {q : Addr × Cell} (H : RowAt w b X o P S LN LF aN gN gF msg tm n p (q :: l) lg s) : RowAt w b X o P S LN LF aN gN gF msg tm n p l lg s := H.lift fun {m mg} Hm => (Hm.unmid).tail
theorem r_storeFree {x : Str} {c : Addr} {v₀ : Option Value} {v : Value} {Q : Unit → Shared → Prop} {E : Value → Shared → Prop} (hk : env.scope.kind = .function) (hx : env.kindOf x = some .free) (hc : env.cells.lookup x = some c) (hv : s.heap.IsCell c v₀)
    (h : ∀ h', h'.IsCell c (some v) → Heap.SameBut c s.heap h' → Q () { s with heap := h' }) : wpAny (model prg w) A (storeName env x v) Q E s := by
  exact storeName_free hk hx hc hv h

theorem r_callKW {f : Value} {first : List Value} {Q E : Value → Shared → Prop} {pos : Pos} {e : Expr} {rest : List Expr} {kws : List Keyword} (G : Glob w b X) (hk : keepIn (KK w) f = true) (hall : (backToKw pos (keywordEach kws env)).all (·.1.isSome) = true)
    (h : wpAny (model prg w) A (spliced (backTo pos (starEach (e :: rest) env))) (fun vs s₁ => wpAny (model prg w) A (evalAll ((backToKw pos (keywordEach kws env)).map (·.2)))
      (fun ks s₂ => (∃ m mg, W b X m mg s₂) ∧ wpAny (model prg w) A (call f (first ++ vs) (((backToKw pos (keywordEach kws env)).filterMap (·.1)).zip ks)) Q E s₂) E s₁) E s)
    (hplain : ((backTo pos (starEach (e :: rest) env)).any (·.1) || (backToKw pos (keywordEach kws env)).any (·.1.isNone)) = false := by rfl) (he : starEach (e :: rest) env = (false, eval e env) :: starEach rest env := by rfl) :
    wpAny (model prg w) A (callWith pos f first (backTo pos (starEach (e :: rest) env)) (backToKw pos (keywordEach kws env))) Q E s :=
  callWith_KW G.kin hk hall (wpAny_mono h (fun vs s₁ h₁ => wpAny_mono h₁ (fun ks s₂ h₂ => ⟨let ⟨_, _, H⟩ := h₂.1; G.in_ H, h₂.2⟩) fun _ _ x => x) fun _ _ x => x) hplain he
theorem r_callKWT {T : String} {first : List Value} {Q E : Value → Shared → Prop} {pos : Pos} {e : Expr} {rest : List Expr} {kws : List Keyword} (hall : (backToKw pos (keywordEach kws env)).all (·.1.isSome) = true)
    (h : wpAny (model prg w) A (spliced (backTo pos (starEach (e :: rest) env))) (fun vs s₁ => wpAny (model prg w) A (evalAll ((backToKw pos (keywordEach kws env)).map (·.2)))
      (fun ks s₂ => wpAny (model prg w) A (call (.type T) (first ++ vs) (((backToKw pos (keywordEach kws env)).filterMap (·.1)).zip ks)) Q E s₂) E s₁) E s)
    (hplain : ((backTo pos (starEach (e :: rest) env)).any (·.1) || (backToKw pos (keywordEach kws env)).any (·.1.isNone)) = false := by rfl) (he : starEach (e :: rest) env = (false, eval e env) :: starEach rest env := by rfl) :
    wpAny (model prg w) A (callWith pos (.type T) first (backTo pos (starEach (e :: rest) env)) (backToKw pos (keywordEach kws env))) Q E s :=
  callWith_of (P := fun _ => True) hplain (fun h _ => ⟨.machine, .inr (.inl rfl), Looks.of_pure rfl⟩) (evalArgs_kw2 hall (wpAny_mono h (fun vs s₁ h₁ => wpAny_mono h₁ (fun ks s₂ h₂ => ⟨trivial, h₂⟩) fun _ _ x => x) fun _ _ x => x) he)
theorem r_kwCons {k : Str} {e : Expr} {kp pos : Pos} {rest : List Keyword} {Q : List Value → Shared → Prop} {E : Value → Shared → Prop}
    (h : wpAny (model prg w) A (eval e env) (fun v s₁ => wpAny (model prg w) A (evalAll ((backToKw pos (keywordEach rest env)).map (·.2))) (fun vs s₂ => Q (v :: vs) s₂) E s₁) E s) :
    wpAny (model prg w) A (evalAll ((backToKw pos (keywordEach ({ arg := some k, value := e, pos := kp } :: rest) env)).map (·.2))) Q E s := by
  show wpAny _ _ (evalAll ((do let v ← eval e env; standAt pos; pure v) :: (backToKw pos (keywordEach rest env)).map (·.2))) _ _ _
  exact wpAny_evalAll_cons (wpAny_bind (wpAny_mono h (fun v s₁ h₁ => wpAny_bind (wpAny_standAt (wpAny_pure h₁))) fun _ _ x => x))
theorem r_kwNil {pos : Pos} {Q : List Value → Shared → Prop} {E : Value → Shared → Prop} (h : Q [] s) : wpAny (model prg w) A (evalAll ((backToKw pos (keywordEach [] env)).map (·.2))) Q E s := wpAny_evalAll_nil h
set_option maxRecDepth 10000 in
set_option maxHeartbeats 4000000 in
theorem headC {i : Nat} {old nv : Value} {xv : Option Value} {pp : Pos} (G : Glob w b X) (EV : EnvOk env LC nmC ["enumerate"]) (hco : env.scope.isCoroutine = false) (hfree : env.kindOf (Str.ofString "n") = some .free) (hcn : env.cells.lookup (Str.ofString "n") = some Cn)
    (IH : ∀ gs : GenState, gs.bare = true → (∀ A' s'' P', SegX (model prg w) A' (cC w env aE) ((execs [] env).wrap (kL (cC w env aE)) (HL env) id id) (fsC w env pp) s'' P' → Wk (model prg w) A' gs s'' P') → CG w b X o P S LN LF aN aF LC Cn gN gF msg tm n (some aE) gs)
    (ha : (aF, .gen gF) ∈ l) (H : RowAt w b X o P S LN LF aN gN gF msg tm (n + 1) p (cellsE (some aE) aF i old ++ cellsC LC Cn aF nv xv l) lg s) (hA : A.depth + 20 < recursionLimit) (hh : A.handled = none) (hfr : A.frames = some fr) (hF : FrOk l fr)
    (h1 : ∀ x s' xv', o[p]? = some 0 → x.result = .returned .none → RowEnd b X P (p + 1) (cellsC LC Cn aF nv xv' l) lg s' → R x s')
    (h2 : ∀ x s' xv' v tk tk' aE old', o[p]? = some v → 100 ≤ v → x.result = .yielded (.int (v - 100) tk) → x.genState.bare = true → CG w b X o P S LN LF aN aF LC Cn gN gF msg tm n (some aE) x.genState →
        RowAt w b X o P S LN LF aN gN gF msg tm n (p + 1) (cellsE (some aE) aF (i + 1) old' ++ cellsC LC Cn aF (.int ((i + 1 : Nat) : Int) tk') xv' l) lg s' → R x s')
    (h3 : ∀ x s' xv' v e a, o[p]? = some v → v ≠ 0 → v < 100 → x.result = .raised (.ref e) → RowEnd b X P (p + 1) ((e, .exc (newIn b) true true (.ref 52) (.ref a)) :: (a, .seq "tuple" [.str msg tm]) :: cellsC LC Cn aF nv xv' l) lg s' → R x s')
    (h4 : ∀ x s' xv' e a tm', p = o.length → x.result = .raised (.ref e) → RowEnd b X P p ((e, .exc (newIn b) true true (.type "ValueError") (.ref a)) :: (a, .seq "tuple" [.str eofMsg tm']) :: cellsC LC Cn aF nv xv' l) lg s' → R x s') :
    SegX (model prg w) A (cC w env aE) (denote table (cC w env aE)) (fsC w env pp) s R := by
  have O : OvOk (A.over (cC w env aE) (fsC w env pp)) A env fr := over_for hfr
  have hOd := O.depth
  have hh' : (A.over (cC w env aE) (fsC w env pp)).handled = none := O.handled.trans hh
  have hF' : ∀ xv nv, FrOk (cellsC LC Cn aF nv xv l) (env :: fr) := fun xv nv => FrOk.cons EV.kind EV.frame (.head _) hF.more.more
  refine sx_forLoop ?_
  refine nextE (l := cellsC LC Cn aF nv xv l) G H (.tail _ (.tail _ ha)) (by show (A.over (cC w env aE) (fsC w env pp)).depth + 12 < _; omega) hh' O.frames (hF' xv nv) ?_ ?_ ?_ ?_
  · intro h0 s' H'
    refine ea1_1 H' fun tp H' => ?_
    refine sx_popOk ?_
    exact sx_end (.ok (.ret .none)) (h1 _ _ _ h0 rfl ⟨tp, H'.del1⟩)
  · intro v hv hv1 s' T tk tk' hnT H'
    show wpAny _ _ (letOwnedTupleGo (cW w).1 (.ref aE) (.ref T) >>= fun _ => assign (cW w).1 env (.ref T)) _ _ _
    refine ea2_2 H'.led fun m1 mg1 H1 hsub1 => ?_
    have he1 : IsEnumOut s'.heap aE aF ((i : Int) + 1 + 1) (.int (v - 100) tk) T := H1.cells _ (hsub1 _ (.tail _ (.head _)))
    refine wpAny_bind (wpAny_letOwnedTupleGo_enum he1 fun h₂ he₂ hs₂ => ?_)
    have H2 := H'.put (t' := s'.toks) (c' := .obj (enO aF ((i : Int) + 1 + 1) (.int (v - 100) tk) .none)) (.succ .zero) hs₂ he₂ enPlain
    refine ea2_2 H2.led fun m2 mg2 HH2 hsub2 => ?_
    refine ea1_1 (HH2.cells _ (hsub2 _ (.head _)) : ∃ n, h₂.get? T = some (seqObj "tuple" [.int ((i : Int) + 1) tk', .int (v - 100) tk].toArray n)) fun nT hT2 => ?_
    refine wpAny_assign_Tuple (items := #[.int ((i : Int) + 1) tk', .int (v - 100) tk]) hh' ⟨_, hT2, rfl, nT, rfl⟩ rfl rfl fun h₃ he₃ => ?_
    have H3 := (H2.grow (h' := h₃) (t' := s'.toks) fun x ob e => he₃ x ob (Nat.ne_of_lt (Heap.lt_size e)) e).tail
    refine assignInOrder_cons (wpAny_assign_Name ?_)
    refine ea2_2 H3.led fun m3 mg3 HH3 hsub3 => ?_
    refine r_storeFree EV.kind hfree hcn (HH3.cells (Cn, .cel (some nv)) (hsub3 _ (.tail _ (.tail _ (.head _))))) fun h₄ hc₄ hs₄ => ?_
    have H4 := H3.put (t' := s'.toks) (c' := .cel (some (.int ((i : Int) + 1) tk'))) (.succ (.succ .zero)) hs₄ hc₄ trivial
    refine assignInOrder_cons (wpAny_assign_Name ?_)
    refine ea2_2 H4.led fun m4 mg4 HH4 hsub4 => ?_
    have hns : h₄.Ns env.locals (look nmC [some (.ref aF), xv]) := by rw [EV.locals]; exact HH4.cells (LC, .ns nmC [some (.ref aF), xv]) (hsub4 _ (.tail _ (.head _)))
    refine wpAny_storeName_local (EV.loc _ (.tail _ (.head _))) hns (fun h₅ hn₅ hs₅ => ?_) (by rw [EV.kind]; rfl)
    have H5 := H4.put (t' := s'.toks + 1) (c' := .ns nmC [some (.ref aF), some (.int (v - 100) tk)]) (.succ .zero) (EV.locals ▸ hs₅) (by
      show h₅.Ns LC (look nmC [some (.ref aF), some (.int (v - 100) tk)])
      rw [(Put2.succ .zero : Put2 nmC [some (.ref aF), xv] "x" (.int (v - 100) tk) _).look EV.nd, ← EV.locals]
      exact hn₅) trivial
    refine wpAny_pure ?_
    refine ea5_4 (id H5) fun tp5 ov5 xv5 gsF5 gsN5 q1 q2 q3 HH5 => ?_
    refine sx_execs_cons ?_
    refine sx_yield rfl rfl rfl ?_ hco (by unfold interactive; rw [EV.kind]; rfl)
    ktn_no "go"
    intro x hx hb hwk
    refine h2 x _ (some (.int (v - 100) tk)) v _ tk' aE (.int (v - 100) tk) hv hv1 hx hb (IH _ hb hwk) ?_
    have e1 : ((i + 1 : Nat) : Int) = (i : Int) + 1 := by push_cast; rfl
    unfold cellsE
    rw [e1]
    exact H5
  · intro v hv hv0 hv1 s' e a H'
    refine ea1_1 H' fun tp H' => ?_
    refine sx_leaveLoop H' (by ktn_no "put") hfr O.frames (hF' _ _).more.more.more.more (hF' _ _).more.more.more.more EV.frame ?_
    intro x s₅ hx H₅
    exact h3 x s₅ _ v e a hv hv0 hv1 hx ⟨tp, H₅.del3⟩
  · intro hpe s' e a tm' H'
    refine ea1_1 H' fun tp H' => ?_
    refine sx_leaveLoop H' (by ktn_no "put") hfr O.frames (hF' _ _).more.more.more.more (hF' _ _).more.more.more.more EV.frame ?_
    intro x s₅ hx H₅
    exact h4 x s₅ _ e a tm' hpe hx ⟨tp, H₅.del3⟩

theorem cgLoop {pp : Pos} (G : Glob w b X) (EV : EnvOk env LC nmC ["enumerate"]) (hco : env.scope.isCoroutine = false) (hfree : env.kindOf (Str.ofString "n") = some .free) (hcn : env.cells.lookup (Str.ofString "n") = some Cn) : ∀ (n : Nat) (gs : GenState), gs.bare = true →
    (∀ A' s'' P', SegX (model prg w) A' (cC w env aE) ((execs [] env).wrap (kL (cC w env aE)) (HL env) id id) (fsC w env pp) s'' P' → Wk (model prg w) A' gs s'' P') → CG w b X o P S LN LF aN aF LC Cn gN gF msg tm n (some aE) gs
  | 0, _, _, _ => trivial
  | n + 1, gs, hb, hwk => by
    intro A s p i old nv xv l lg fr R _ ha H hA hh hfr hF h1 h2 h3 h4
    exact hwk A s R (sx_again rfl (headC G EV hco hfree hcn (fun gs' hb' hw' => cgLoop G EV hco hfree hcn n gs' hb' hw') ha H hA hh hfr hF h1 h2 h3 h4))
set_option maxRecDepth 10000 in
set_option maxHeartbeats 4000000 in
theorem cgFresh (G : Glob w b X) (EV : EnvOk env LC nmC ["enumerate"]) (hco : env.scope.isCoroutine = false) (hfree : env.kindOf (Str.ofString "n") = some .free) (hcn : env.cells.lookup (Str.ofString "n") = some Cn) (n : Nat) :
    CG w b X o P S LN LF aN aF LC Cn gN gF msg tm n none (.fresh (.func (ctB w) env)) := by
  cases n with
  | zero => trivial
  | succ n =>
    intro A s p i old nv xv l lg fr R hi0 ha H hA hh hfr hF h1 h2 h3 h4
    have hi := hi0 rfl
    subst hi
    refine ea5_4 (id H) fun tp5 ov5 xv5 gsF5 gsN5 q1 q2 q3 HH5 => ?_
    have HH : W b X (cellsF P S LN LF aN gN msg p tp5 tm ov5 xv5 (cellsC LC Cn aF nv xv l)) ((gF, gsF5) :: (gN, gsN5) :: lg) s := HH5
    refine sx_func ?_
    refine sx_execs_cons (sx_wrap (wpAny_Nonlocal ?_))
    refine sx_execs_cons (sx_For ?_)
    refine wpAny_bind ?_
    refine wpAny_Call_ofName ?_
    ktn_no "go"
    refine r_callKWT rfl ?_
    ktn_no "go"
    refine r_kwCons ?_
    ktn_no "go"
    refine r_kwNil ?_
    rename_i s6 H6
    refine call_enumS (aF := aF) (g := gF) (H6.cells (aF, .gen gF) (.tail _ (.tail _ (.tail _ (.tail _ (.tail _ (.tail _ ha))))))) ?_
    have H7 := H6.push (o := enO aF 1 .none .none) (c := .obj (enO aF 1 .none .none)) (t' := s6.toks) rfl (fun h' q => q) enPlain
    have he7 := H7.cells _ (.head _)
    refine wpAny_bind (wpAny_pure (wpAny_bind (wpAny_standAt (wpAny_holding (wpAny_pyIter_enum he7 ?_)))))
    intro pp
    refine headC (pp := pp) (i := 0) (old := .none) (nv := nv) (xv := xv) G EV hco hfree hcn (fun gs' hb' hw' => cgLoop G EV hco hfree hcn n gs' hb' hw') ha ⟨tp5, ov5, xv5, gsF5, gsN5, q1, q2, q3, ?_⟩ hA hh hfr hF h1 h2 h3 h4
    exact W.mid (m := [_, _, _, _]) H7
end
end
section
open PySem
set_option exponentiation.threshold 5000
namespace FL
open PySem.Float64
theorem V_inj {t t' : Nat} (h : V t = V t') : t = t' := by
  rcases Nat.lt_trichotomy t t' with q | q | q
  · exact absurd (V_lt q) (by omega)
  · exact q
  · exact absurd (V_lt q) (by omega)
theorem dist_zero {M N : Nat} (h : dist M N ≤ dist M M) : N = M := by
  unfold dist at h
  rw [Nat.sub_self] at h
  have h0 := Nat.le_zero.mp h
  exact Nat.le_antisymm (Nat.le_of_sub_eq_zero (Nat.eq_zero_of_add_eq_zero_left h0)) (Nat.le_of_sub_eq_zero (Nat.eq_zero_of_add_eq_zero_right h0))
theorem dist_mid {W a b c : Nat} (h1 : a < b) (h2 : b < c) (h : dist W a = dist W c) : dist W b < dist W a := by
  unfold dist at *
  rcases Nat.le_total b W with q | q
  · rw [Nat.sub_eq_zero_of_le q, Nat.sub_eq_zero_of_le (Nat.le_trans (Nat.le_of_lt h1) q)]
    exact Nat.sub_lt_sub_left (Nat.lt_of_lt_of_le h1 q) h1
  · rw [h, Nat.sub_eq_zero_of_le q, Nat.sub_eq_zero_of_le (Nat.le_trans q (Nat.le_of_lt h2))]
    exact Nat.add_lt_add_left (Nat.sub_lt_sub_right q h2) 0
/-- the nearest float is one alone -/
theorem right_unique {r r' : UInt64} {neg : Bool} {W D : Nat} (hD : 0 < D) (h : Right r neg W D) (h' : Right r' neg W D) : r = r' := by
  refine ea1_4 h fun t e_1 ht hi hn => ?_
  try clear h
  subst e_1
  refine ea1_4 h' fun t' e_2 ht' hi' hn' => ?_
  try clear h'
  subst e_2
  by_cases e : t = infMag
  · have : t' = infMag := hi'.mpr (hi.mp e)
    rw [e, this]
  · have e' : ¬ t' = infMag := fun q => e (hi.mpr (hi'.mp q))
    have l : t < infMag := by omega
    have l' : t' < infMag := by omega
    have key : ∀ {t t' : Nat}, t < t' → (∀ u, dist W (D * V t) ≤ dist W (D * V u) ∧ (V u ≠ V t → dist W (D * V t) = dist W (D * V u) → t % 2 = 0)) →
        (∀ u, dist W (D * V t') ≤ dist W (D * V u) ∧ (V u ≠ V t' → dist W (D * V t') = dist W (D * V u) → t' % 2 = 0)) → False := by
      intro t t' q h h'
      have hv := V_lt q
      have he : dist W (D * V t) = dist W (D * V t') := Nat.le_antisymm (h t').1 (h' t).1
      have p1 := (h t').2 (by omega) he
      have p2 := (h' t).2 (by omega) he.symm
      have q2 : t + 1 < t' := by omega
      have a1 := Nat.mul_lt_mul_of_pos_left (V_succ t) hD
      have a2 := Nat.mul_lt_mul_of_pos_left (V_lt q2) hD
      have := dist_mid a1 a2 he
      have := (h (t + 1)).1
      omega
    rcases Nat.lt_trichotomy t t' with q | q | q
    · exact (key q (hn l) (hn' l')).elim
    · rw [q]
    · exact (key q (hn' l') (hn l)).elim

theorem rep {q : Nat} (hq : q < 2 ^ 53) : ∃ t, t < infMag ∧ V t = q * 2 ^ 1074 := by
  by_cases h0 : q = 0
  · subst h0
    exact ⟨0, by decide, by rw [V_zero, Nat.zero_mul]⟩
  · have l1 := Nat.log2_self_le h0
    have l2 : q < 2 ^ (q.log2 + 1) := Nat.lt_log2_self
    have lt : q.log2 < 53 := (Nat.log2_lt h0).mpr hq
    have hb : 2 ^ 52 ≤ q * 2 ^ (52 - q.log2) := by
      have : 2 ^ q.log2 * 2 ^ (52 - q.log2) ≤ q * 2 ^ (52 - q.log2) := Nat.mul_le_mul_right _ l1
      rw [← Nat.pow_add] at this
      have e : q.log2 + (52 - q.log2) = 52 := by omega
      rwa [e] at this
    have hu : q * 2 ^ (52 - q.log2) ≤ 2 ^ 53 := by
      have : q * 2 ^ (52 - q.log2) ≤ 2 ^ (q.log2 + 1) * 2 ^ (52 - q.log2) := Nat.mul_le_mul_right _ (by omega)
      rw [← Nat.pow_add] at this
      have e : q.log2 + 1 + (52 - q.log2) = 53 := by omega
      rwa [e] at this
    refine ⟨(1074 - (52 - q.log2)) * 2 ^ 52 + q * 2 ^ (52 - q.log2), ?_, ?_⟩
    · have : (1074 - (52 - q.log2)) * 2 ^ 52 ≤ 1074 * 2 ^ 52 := Nat.mul_le_mul_right _ (by omega)
      have hi : infMag = 2047 * 2 ^ 52 := rfl
      omega
    · rw [V_at hu (.inl hb), Nat.mul_assoc, ← Nat.pow_add]
      have e : 52 - q.log2 + (1074 - (52 - q.log2)) = 1074 := by omega
      rw [e]
theorem right_small {r : UInt64} {neg : Bool} {q : Nat} (hq : q < 2 ^ 53) (h : Right r neg (q * 2 ^ 1074) 1) : ∃ t, r = pack neg t ∧ t < infMag ∧ V t = q * 2 ^ 1074 := by
  refine ea1_2 (rep hq) fun t0 l0 v0 => ?_
  refine ea1_4 h fun t e_3 ht hi hn => ?_
  try clear h
  subst e_3
  have hne : ¬ t = infMag := fun e => by
    have := hi.mp e
    rw [Nat.one_mul] at this
    have h2 : 2 * (q * 2 ^ 1074) ≤ 2 * (2 ^ 53 * 2 ^ 1074) := Nat.mul_le_mul_left _ (Nat.mul_le_mul_right _ (by omega))
    have h3 : 2 * (2 ^ 53 * 2 ^ 1074) < (2 ^ 54 - 1) * 2 ^ 2045 := by decide +kernel
    exact absurd (Nat.lt_of_le_of_lt (Nat.le_trans this h2) h3) (Nat.lt_irrefl _)
  have hl : t < infMag := by omega
  have := (hn hl t0).1
  rw [Nat.one_mul, Nat.one_mul, v0] at this
  exact ⟨t, rfl, hl, dist_zero this⟩
theorem small_dec {r : UInt64} {neg : Bool} {q : Nat} (hq : q < 2 ^ 53) (h : Right r neg (q * 2 ^ 1074) 1) : ∃ m e, decode r = .fin neg m e ∧ val r = sgn neg (q * 2 ^ 1074) := by
  refine ea1_3 (right_small hq h) fun t e_4 hl hv => ?_
  subst e_4
  refine ea2_2 (decode_pack neg hl) fun m e hd _ => ?_
  exact ex2 m e ⟨hd, by rw [val_pack neg hl, hv]⟩
theorem sgn_int (i : Int) (K : Nat) : sgn (decide (i < 0)) (i.natAbs * K) = i * (K : Int) := by
  rw [sgn_mul]
  congr 1
  unfold sgn
  by_cases h : i < 0
  · rw [if_pos (by simpa using h)]; omega
  · rw [if_neg (by simpa using h)]; omega
theorem int_dec {i : Int} (h : i.natAbs < 2 ^ 53) : ∃ m e, decode (ofInt i) = .fin (decide (i < 0)) m e ∧ val (ofInt i) = i * ((2 ^ 1074 : Nat) : Int) := by
  refine ea2_2 (small_dec h (ofInt_right i)) fun m e hd hv => ?_
  exact ex2 m e ⟨hd, by rw [hv, sgn_int]⟩

theorem natAbs_K (i : Int) (K : Nat) : (i * (K : Int)).natAbs = i.natAbs * K := by rw [Int.natAbs_mul]; rfl
theorem neg_K (i : Int) {K : Nat} (hK : 0 < K) : decide (i * (K : Int) < 0) = decide (i < 0) := by
  by_cases h : i < 0
  · have : i * (K : Int) < 0 := Int.mul_neg_of_neg_of_pos h (by omega)
    simp [h, this]
  · have : ¬ i * (K : Int) < 0 := by
      have := Int.mul_nonneg (show 0 ≤ i by omega) (show (0 : Int) ≤ K by omega)
      omega
    simp [h, this]
theorem pow_pos' : 0 < (2 ^ 1074 : Nat) := Nat.two_pow_pos _

theorem zero_of_val {x : UInt64} {a : Bool} {m : Nat} {e : Int} (hx : decode x = .fin a m e) (h : val x = 0) : isZero x = true := by
  have := val_natAbs hx
  rw [h] at this
  have hm : m = 0 := by
    rcases Nat.mul_eq_zero.mp this.symm with q | q
    · exact q
    · exact absurd q (Nat.ne_of_gt (Nat.two_pow_pos _))
  subst hm
  unfold isZero
  rw [hx]
  rfl
theorem zero_val (neg : Bool) : ∃ m e, decode (zero neg) = .fin neg m e ∧ val (zero neg) = 0 := by
  refine ea2_2 (decode_pack neg (t := 0) (by decide)) fun m e hd hv => ?_
  refine ex2 m e ⟨hd, ?_⟩
  rw [show zero neg = pack neg 0 from rfl, val_pack neg (by decide), V_zero]
  cases neg <;> rfl

/-- the sum of two floats that are whole: its value -/
theorem add_fin {x y : UInt64} {a b : Bool} {m k : Nat} {e f : Int} {i : Int} (hx : decode x = .fin a m e) (hy : decode y = .fin b k f) (hv : val x + val y = i * ((2 ^ 1074 : Nat) : Int)) (hi : i.natAbs < 2 ^ 53) :
    ∃ c p q, decode (add x y) = .fin c p q ∧ val (add x y) = i * ((2 ^ 1074 : Nat) : Int) := by
  refine ea0_2 (add_right hx hy) fun h1 h2 => ?_
  by_cases z : val x + val y = 0
  · rw [h1 z, ← hv, z]
    refine ea2_2 (zero_val (a && b)) fun p q hd hz => ?_
    exact ex3 _ p q ⟨hd, hz⟩
  · have h3 := h2 z
    rw [hv, natAbs_K, neg_K i pow_pos'] at h3
    refine ea2_2 (small_dec hi h3) fun p q hd hz => ?_
    exact ex3 _ p q ⟨hd, by rw [hz, sgn_int]⟩
theorem sub_fin {x y : UInt64} {a b : Bool} {m k : Nat} {e f : Int} {i : Int} (hx : decode x = .fin a m e) (hy : decode y = .fin b k f) (hv : val x - val y = i * ((2 ^ 1074 : Nat) : Int)) (hi : i.natAbs < 2 ^ 53) :
    ∃ c p q, decode (sub x y) = .fin c p q ∧ val (sub x y) = i * ((2 ^ 1074 : Nat) : Int) := by
  refine ea0_2 (sub_right hx hy) fun h1 h2 => ?_
  by_cases z : val x - val y = 0
  · rw [h1 z, ← hv, z]
    refine ea2_2 (zero_val (a && !b)) fun p q hd hz => ?_
    exact ex3 _ p q ⟨hd, hz⟩
  · have h3 := h2 z
    rw [hv, natAbs_K, neg_K i pow_pos'] at h3
    refine ea2_2 (small_dec hi h3) fun p q hd hz => ?_
    exact ex3 _ p q ⟨hd, by rw [hz, sgn_int]⟩
theorem add_int {x y : Int} (hx : x.natAbs < 2 ^ 50) (hy : y.natAbs < 2 ^ 50) (h : x + y ≠ 0) : add (ofInt x) (ofInt y) = ofInt (x + y) := by
  refine ea2_2 (int_dec (i := x) (by omega)) fun m e hd hv => ?_
  refine ea2_2 (int_dec (i := y) (by omega)) fun k f hd' hv' => ?_
  refine ea0_2 (add_right hd hd') fun _ h2 => ?_
  have hs : val (ofInt x) + val (ofInt y) = (x + y) * ((2 ^ 1074 : Nat) : Int) := by rw [hv, hv', Int.add_mul]
  have hK : (0 : Int) < ((2 ^ 1074 : Nat) : Int) := Int.natCast_pos.mpr pow_pos'
  have h3 := h2 (by rw [hs]; exact Int.mul_ne_zero h (Int.ne_of_gt hK))
  rw [hs, natAbs_K, neg_K _ pow_pos'] at h3
  exact right_unique (by decide) h3 (ofInt_right (x + y))
theorem div_int {x y : Int} (hx : x.natAbs < 2 ^ 50) (hy : y.natAbs < 2 ^ 50) (h : y ≠ 0) : div (ofInt x) (ofInt y) = fdiv x y := by
  refine ea2_2 (int_dec (i := x) (by omega)) fun m e hd hv => ?_
  refine ea2_2 (int_dec (i := y) (by omega)) fun k f hd' hv' => ?_
  have hk : k ≠ 0 := fun q => by
    have := val_natAbs hd'
    rw [hv', natAbs_K, q, Nat.zero_mul] at this
    rcases Nat.mul_eq_zero.mp this with z | z
    · omega
    · exact absurd z (Nat.ne_of_gt pow_pos')
  have h1 := div_right hd hd' hk
  rw [hv, hv', natAbs_K, natAbs_K] at h1
  have hD : 0 < y.natAbs * 2 ^ 1074 := Nat.mul_pos (by omega) pow_pos'
  refine right_unique hD h1 ?_
  unfold fdiv
  refine ofFrac_right (by omega) ?_ hD
  generalize 2 ^ 1074 = K
  ac_rfl
theorem isZero_int {x : Int} (hx : x.natAbs < 2 ^ 53) : isZero (ofInt x) = decide (x = 0) := by
  refine ea2_2 (int_dec hx) fun m e hd hv => ?_
  by_cases h : x = 0
  · subst h
    rw [zero_of_val hd (by rw [hv, Int.zero_mul])]
    simp
  · have hm : m ≠ 0 := fun q => by
      have := val_natAbs hd
      rw [hv, natAbs_K, q, Nat.zero_mul] at this
      rcases Nat.mul_eq_zero.mp this with z | z
      · omega
      · exact absurd z (Nat.ne_of_gt pow_pos')
    unfold isZero
    rw [hd]
    simp only [h, decide_false]
    cases m with
    | zero => exact absurd rfl hm
    | succ m => rfl
theorem isFin_int {x : Int} (hx : x.natAbs < 2 ^ 53) : isFinite (ofInt x) = true := by
  refine ea2_2 (int_dec hx) fun m e hd hv => ?_
  unfold isFinite
  rw [hd]

noncomputable def psOf (S : Int) : List UInt64 := if S = 0 then [] else [ofInt S]
theorem fsum_step {S x : Int} (hS : 0 ≤ S) (hS' : S < 2 ^ 40) (hx : 0 ≤ x) (hx' : x < 2 ^ 40) : fsumAdd (psOf S) (ofInt x) = ([], ofInt (S + x)) := by
  unfold psOf
  by_cases h : S = 0
  · rw [if_pos h, h, Int.zero_add]; rfl
  · rw [if_neg h]
    have lo0 : ∀ {p q : Int}, p.natAbs < 2 ^ 41 → q.natAbs < 2 ^ 41 → isZero (sub (ofInt q) (sub (ofInt (p + q)) (ofInt p))) = true := by
      intro p q hp hq
      refine ea2_2 (int_dec (i := p) (by omega)) fun m1 e1 d1 v1 => ?_
      refine ea2_2 (int_dec (i := q) (by omega)) fun m2 e2 d2 v2 => ?_
      refine ea2_2 (int_dec (i := p + q) (by omega)) fun m3 e3 d3 v3 => ?_
      refine ea3_2 (sub_fin (i := q) d3 d1 (by rw [v3, v1, ← Int.sub_mul]; congr 1; omega) (by omega)) fun c4 m4 e4 d4 v4 => ?_
      refine ea3_2 (sub_fin (i := 0) d2 d4 (by rw [v2, v4, ← Int.sub_mul]; congr 1; omega) (by decide)) fun c5 m5 e5 d5 v5 => ?_
      exact zero_of_val d5 (by rw [v5, Int.zero_mul])
    show (let (x', y) := if lt (abs (ofInt x)) (abs (ofInt S)) then (ofInt S, ofInt x) else (ofInt x, ofInt S); let hi := add x' y; let lo := sub y (sub hi x'); let (rest, top) := fsumAdd [] hi; (if isZero lo then rest else lo :: rest, top)) = _
    by_cases c : lt (abs (ofInt x)) (abs (ofInt S)) = true
    · rw [if_pos c]
      dsimp only
      rw [add_int (by omega) (by omega) (by omega), if_pos (lo0 (by omega) (by omega))]
      rfl
    · rw [if_neg c]
      dsimp only
      rw [add_int (by omega) (by omega) (by omega), if_pos (lo0 (by omega) (by omega)), Int.add_comm]
      rfl
theorem fsum_end (S : Int) : fsumEnd (psOf S) = ofInt S := by
  unfold psOf
  by_cases h : S = 0
  · rw [if_pos h, h]; decide +kernel
  · rw [if_neg h]; rfl
end FL
end
section
open PySem PySem.W PySem.W.X PyProof.Rows PySem.Calls
section
variable {w : World} {b : Shared} {X : List Addr} {l l' : List (Addr × Cell)} {lg : List (Nat × GenState)} {s : Shared} {A : Around} {env : Env} {L : Addr} {fr : List Env} {o : List Int} {P S LN LF aN aF LC Cn aC : Addr} {gN gF gC n p i : Nat} {msg : Str} {tm : Tok}

/-- the counted row as its consumer sees it; Cn holds the count -/
noncomputable def CntAt (w : World) (b : Shared) (X : List Addr) (o : List Int) (P S LN LF aN aF LC Cn : Addr) (gN gF gC : Nat) (msg : Str) (tm : Tok) (n p i : Nat) (l : List (Addr × Cell)) (lg : List (Nat × GenState)) (s : Shared) : Prop :=
  ∃ ae old xv gsC ti, CG w b X o P S LN LF aN aF LC Cn gN gF msg tm n ae gsC ∧ (ae = none → i = 0) ∧ RowAt w b X o P S LN LF aN gN gF msg tm n p (cellsE ae aF i old ++ cellsC LC Cn aF (.int (i : Int) ti) xv l) ((gC, gsC) :: lg) s

theorem W.gmid {q : Nat × GenState} {a c : Nat × GenState} (H : W b X l (a :: c :: q :: lg) s) : W b X l (q :: a :: c :: lg) s := H.gperm ((List.Perm.swap ..).trans ((List.Perm.swap ..).cons _))
theorem RowAt.setGen {gs gs' : GenState} (H : RowAt w b X o P S LN LF aN gN gF msg tm n p l ((gC, gs) :: lg) s) (hb : gs'.bare = true) : RowAt w b X o P S LN LF aN gN gF msg tm n p l ((gC, gs') :: lg) (s.setGen gC gs') := by
  refine ea5_4 H fun tp ov xv gsF gsN h1 h2 h3 H => ?_
  exact ex5 tp ov xv gsF gsN ⟨h1, h2, h3, H.setGen (.succ (.succ .zero)) hb⟩
theorem RowEnd.setGen {gs gs' : GenState} (H : RowEnd b X P p l ((gC, gs) :: lg) s) (hb : gs'.bare = true) : RowEnd b X P p l lg (s.setGen gC gs') := by
  refine ea1_1 H fun tp H => ?_
  exact ⟨tp, (H.setGen .zero hb).gtail⟩

theorem nextC {E : Value → Shared → Prop} {Q : Option Value → Shared → Prop} (G : Glob w b X)
    (H : CntAt w b X o P S LN LF aN aF LC Cn gN gF gC msg tm (n + 1) p i l lg s) (ha : (aF, .gen gF) ∈ l) (hc : (aC, .gen gC) ∈ l)
    (hA : A.depth + 22 < recursionLimit) (hh : A.handled = none) (hfr : A.frames = some fr) (hF : FrOk l fr)
    (h1 : o[p]? = some 0 → ∀ s' t, RowEnd b X P (p + 1) ((Cn, .cel (some (.int (i : Int) t))) :: l) lg s' → Q none s')
    (h2 : ∀ v, o[p]? = some v → 100 ≤ v → ∀ s' tk, CntAt w b X o P S LN LF aN aF LC Cn gN gF gC msg tm n (p + 1) (i + 1) l lg s' → Q (some (.int (v - 100) tk)) s')
    (h3 : ∀ v, o[p]? = some v → v ≠ 0 → v < 100 → ∀ s' e a, RowEnd b X P (p + 1) ((e, .exc (newIn b) true true (.ref 52) (.ref a)) :: (a, .seq "tuple" [.str msg tm]) :: l) lg s' → E (.ref e) s')
    (h4 : p = o.length → ∀ s' e a tm', RowEnd b X P p ((e, .exc (newIn b) true true (.type "ValueError") (.ref a)) :: (a, .seq "tuple" [.str eofMsg tm']) :: l) lg s' → E (.ref e) s') :
    wpAny (model prg w) A (pyNext (.ref aC)) Q E s := by
  refine ea5_3 H fun ae old xv gsC ti hCG hae H => ?_
  refine ea5_4 (id H) fun tp ov xf gsF gsN hFG hNG hp HW => ?_
  have hmem : ∀ q ∈ l, q ∈ cellsF P S LN LF aN gN msg p tp tm ov xf (cellsE ae aF i old ++ cellsC LC Cn aF (.int (i : Int) ti) xv l) := fun q hq =>
    .tail _ (.tail _ (.tail _ (.tail _ (List.mem_append_right _ (.tail _ (.tail _ hq))))))
  refine wp_next G HW (hmem _ hc) (.tail _ (.tail _ (.head _))) (.succ (.succ .zero)) hh (by omega) fun s₁ H₁ => ?_
  refine hCG A.in1 s₁ p i old (.int (i : Int) ti) xv l ((gC, .running) :: lg) fr _ hae ha ⟨tp, ov, xf, gsF, gsN, hFG, hNG, hp, H₁⟩ (by show A.depth + 20 < _; omega) hh hfr hF ?_ ?_ ?_ ?_
  · intro x s' xv' h0 hx H'
    refine .inr (.inl ⟨hx, fun s₃ h₃ => ?_⟩)
    refine ea1_1 H' fun tp' H' => ?_
    exact h1 h0 _ ti ⟨tp', (h₃ _ _ _ _ (H'.setGen .zero rfl)).gtail.del1⟩
  · intro x s' xv' v tk tk' aE old' hv hv1 hx hb hcg H'
    refine .inl ⟨_, hx, h2 v hv hv1 _ _ ⟨some aE, old', xv', x.genState, tk', hcg, (fun q => by cases q), H'.setGen hb⟩⟩
  · intro x s' xv' v e a hv hv0 hv1 hx H'
    refine ea1_1 H' fun tp' H' => ?_
    have H'' := H'.setGen (gs' := .finished) .zero rfl
    exact .inr (.inr ⟨e, _, _, _, _, _, _, _, hx, H'', .tail _ (.tail _ (.tail _ (.tail _ (.tail _ hc)))), .tail _ (.head _), notStop_stat, h3 v hv hv0 hv1 _ _ _ ⟨tp', H''.gtail.del3.del3⟩⟩)
  · intro x s' xv' e a tm' hpe hx H'
    refine ea1_1 H' fun tp' H' => ?_
    have H'' := H'.setGen (gs' := .finished) .zero rfl
    exact .inr (.inr ⟨e, _, _, _, _, _, _, _, hx, H'', .tail _ (.tail _ (.tail _ (.tail _ (.tail _ hc)))), .tail _ (.head _), notStop_value, h4 hpe _ _ _ _ ⟨tp', H''.gtail.del3.del3⟩⟩)
end
end
section
open PySem PySem.W PySem.W.X PyProof.Rows PySem.Calls
theorem entry_fsum : entryFor table "math.fsum" = some Builtin.«math.fsum» := entryFor_of_tree (by kernel_rfl)
theorem entry_fsumL : entryFor table "math.fsum.loop" = some Builtin.«math.fsum.loop» := entryFor_of_tree (by kernel_rfl)
theorem plain_fsumL : plainId "math.fsum.loop" = true := by decide +kernel
theorem plain_fsum : plainId "math.fsum" = true := by decide +kernel
theorem kind_fsum : builtinKind "math.fsum" = none := by decide +kernel
theorem args_fsum (a : Value) : argsOk "math.fsum" ⟨[a], []⟩ := by unfold argsOk; kernel_rfl
noncomputable abbrev bits (ps : List UInt64) : List Value := ps.map fun x => rawInt x.toNat
theorem bits_back (ps : List UInt64) : (bits ps).map (fun | .int i _ => i.toNat.toUInt64 | _ => 0) = ps := by
  unfold bits
  rw [List.map_map]
  conv => rhs; rw [← List.map_id ps]
  refine List.map_congr_left fun x _ => ?_
  show ((x.toNat : Int)).toNat.toUInt64 = x
  rw [Int.toNat_natCast]
  exact UInt64.ofNat_toNat
theorem sum_app (ks : List Int) (k : Int) : (ks ++ [k]).sum = ks.sum + k := by simp
section
variable {w : World} {b : Shared} {X : List Addr} {l l' : List (Addr × Cell)} {lg : List (Nat × GenState)} {s : Shared} {A : Around} {env : Env} {L : Addr} {fr : List Env} {o : List Int} {P S LN LF aN aF LC Cn aC : Addr} {gN gF gC n p i : Nat} {msg : Str} {tm : Tok}
theorem CntAt.lift {s' : Shared} (H : CntAt w b X o P S LN LF aN aF LC Cn gN gF gC msg tm n p i l lg s) (f : ∀ {m : List (Addr × Cell)} {mg}, W b X (m ++ l) mg s → W b X (m ++ l') mg s') : CntAt w b X o P S LN LF aN aF LC Cn gN gF gC msg tm n p i l' lg s' := by
  refine ea5_3 H fun ae old xv gsC ti h1 h2 H => ?_
  refine ex5 ae old xv gsC ti ⟨h1, h2, H.lift fun {m mg} Hm => ?_⟩
  have := f (m := m ++ cellsE ae aF i old ++ [(LC, .ns nmC [some (.ref aF), xv]), (Cn, .cel (some (.int (i : Int) ti)))]) (by simpa using Hm)
  simpa using this
theorem CntAt.led (H : CntAt w b X o P S LN LF aN aF LC Cn gN gF gC msg tm n p i l lg s) : ∃ m mg, W b X m mg s ∧ ∀ q ∈ l, q ∈ m := by
  refine ea5_3 H fun ae old xv gsC ti h1 h2 H => ?_
  refine ea2_2 H.led fun m mg HW hs => ?_
  exact ex2 m mg ⟨HW, fun q hq => hs q (List.mem_append_right _ (.tail _ (.tail _ hq)))⟩
theorem CntAt.push {ob : Obj} {c : Cell} {t' : Nat} (H : CntAt w b X o P S LN LF aN aF LC Cn gN gF gC msg tm n p i l lg s) (hf : ob.isFreed = false) (hc : ∀ h' : Heap, h'.get? s.heap.objs.size = some ob → c.At h' s.heap.objs.size) (hp : c.Plain) (ht : 0 < s.toks → 0 < t' := by first | exact fun h => h | exact fun _ => Nat.succ_pos _ | (intro h; omega)) :
    CntAt w b X o P S LN LF aN aF LC Cn gN gF gC msg tm n p i ((s.heap.objs.size, c) :: l) lg { s with heap := s.heap.push ob, toks := t' } := H.lift fun {m _} Hm => (Hm.push hf hc hp ht).mid
theorem CntAt.tok {t' : Nat} (H : CntAt w b X o P S LN LF aN aF LC Cn gN gF gC msg tm n p i l lg s) (ht : 0 < s.toks → 0 < t' := by first | exact fun h => h | exact fun _ => Nat.succ_pos _ | (intro h; omega)) : CntAt w b X o P S LN LF aN aF LC Cn gN gF gC msg tm n p i l lg { s with toks := t' } := H.lift fun Hm => Hm.tok t' ht
theorem CntAt.del1 {q r : Addr × Cell} (H : CntAt w b X o P S LN LF aN aF LC Cn gN gF gC msg tm n p i (q :: r :: l) lg s) : CntAt w b X o P S LN LF aN aF LC Cn gN gF gC msg tm n p i (q :: l) lg s := H.lift fun {m mg} Hm => by
  have : W b X (m ++ q :: r :: l) mg s := Hm
  exact (this.unmid.perm (l' := q :: r :: (m ++ l)) (by exact (List.perm_middle.symm).cons _)).del1.mid


/-- one turn of fsum's loop -/
theorem fsum_body {it : Value} {pt st : Addr} {ps : List UInt64} {m : List (Addr × Cell)} {mg : List (Nat × GenState)} {Q : Fin → Shared → Prop} {E : Value → Shared → Prop} (H : W b X m mg s) (h1 : (pt, .seq "tuple" (bits ps)) ∈ m) (h2 : (st, .seq "tuple" (bits [Float64.zero false, Float64.zero false])) ∈ m)
    (h : wpAny (model prg w) A (pyNext it) (fun r s' => match r with
      | some item => wpAny (model prg w) A (Builtin.Math.realArg item) (fun x s'' => Float64.isFinite (Float64.fsumAdd ps x).2 = true ∧ (if Float64.isZero (Float64.fsumAdd ps x).2 then (Float64.fsumAdd ps x).1 else (Float64.fsumAdd ps x).1 ++ [(Float64.fsumAdd ps x).2]).length ≤ 100 ∧
          Q (.again (.builtin "math.fsum.loop" ⟨[it, .ref s''.heap.objs.size, .ref st], []⟩)) { s'' with heap := s''.heap.push (seqObj "tuple" (bits (if Float64.isZero (Float64.fsumAdd ps x).2 then (Float64.fsumAdd ps x).1 else (Float64.fsumAdd ps x).1 ++ [(Float64.fsumAdd ps x).2])).toArray 0) }) E s'
      | none => Q (.done (.ret (.float (Float64.fsumEnd ps) s'.toks))) { s' with toks := s'.toks + 1 }) E s) :
    wpAny (model prg w) A (Builtin.«math.fsum.loop» ⟨[it, .ref pt, .ref st], []⟩) Q E s := by
  refine ea1_1 (H.cells _ h1 : ∃ c, s.heap.get? pt = some (seqObj "tuple" (bits ps).toArray c)) fun c1 hpt => ?_
  refine ea1_1 (H.cells _ h2 : ∃ c, s.heap.get? st = some (seqObj "tuple" (bits [Float64.zero false, Float64.zero false]).toArray c)) fun c2 hst => ?_
  show wpAny _ A ((seqItems? (.ref pt) >>= _) >>= _) _ _ s
  refine wpAny_bind (wpAny_bind (wpAny_seqItems hpt rfl (wpAny_pure ?_)))
  show wpAny _ A ((seqItems? (.ref st) >>= _) >>= _) _ _ s
  refine wpAny_bind (wpAny_bind (wpAny_seqItems hst rfl (wpAny_pure ?_)))
  show wpAny _ A (pyNext it >>= _) _ _ s
  refine wpAny_bind (wpAny_mono h (fun r s' h' => ?_) fun _ _ x => x)
  have eb := bits_back ps
  cases r with
  | none =>
    show wpAny _ A (if (!Float64.isZero ((((Float64.zero false).toNat : Int)).toNat.toUInt64)) = true then _ else Builtin.Float.retFloat (Float64.fsumEnd ((bits ps).map (fun | .int i _ => i.toNat.toUInt64 | _ => 0)))) _ _ _
    rw [if_neg (by decide +kernel), eb]
    exact wpAny_bind (PySem.Flt.wp_mkFloat (wpAny_pure h'))
  | some item =>
    dsimp only
    refine wpAny_bind (wpAny_holding (wpAny_mono h' (fun x s'' h'' => ?_) fun _ _ y => y))
    refine ea0_3 h'' fun hf hl hQ => ?_
    try clear h''
    show wpAny _ A (if Float64.isFinite (Float64.fsumAdd ((bits ps).map (fun | .int i _ => i.toNat.toUInt64 | _ => 0)) x).2 = true then (newTuple (bits (if Float64.isZero (Float64.fsumAdd ((bits ps).map (fun | .int i _ => i.toNat.toUInt64 | _ => 0)) x).2 then (Float64.fsumAdd ((bits ps).map (fun | .int i _ => i.toNat.toUInt64 | _ => 0)) x).1 else (Float64.fsumAdd ((bits ps).map (fun | .int i _ => i.toNat.toUInt64 | _ => 0)) x).1 ++ [(Float64.fsumAdd ((bits ps).map (fun | .int i _ => i.toNat.toUInt64 | _ => 0)) x).2])) >>= fun v => again (.builtin "math.fsum.loop" ⟨[it, v, .ref st], []⟩)) else _) _ _ _
    rw [eb, if_pos hf]
    exact wpAny_bind (wpAny_newTuple (wpAny_pure hQ) (by simp only [List.length_map]; rw [sizeLine_eq]; omega))

theorem fsum_loop {st : Addr} {R : Result → Shared → Prop} (G : Glob w b X) (hA : A.depth + 22 < recursionLimit) (hh : A.handled = none) (hfr : A.frames = some fr) (hF : FrOk l fr) (ha : (aF, .gen gF) ∈ l) (hc : (aC, .gen gC) ∈ l) (ho : ∀ x ∈ o, 0 ≤ x ∧ x < 256) :
    ∀ (r : List Int) (p i : Nat) (S0 : Int) (pt : Addr) (s : Shared), o.drop p = r → p ≤ o.length → 0 ≤ S0 → S0 + 256 * r.length < 2 ^ 30 →
    CntAt w b X o P S LN LF aN aF LC Cn gN gF gC msg tm (r.length + 1) p i ((pt, .seq "tuple" (bits (FL.psOf S0))) :: (st, .seq "tuple" (bits [Float64.zero false, Float64.zero false])) :: l) lg s →
    ((scan r p).2.1 = .row → ∀ s' t tf, RowEnd b X P (scan r p).2.2 ((Cn, .cel (some (.int ((i + (scan r p).1.length : Nat) : Int) t))) :: l) lg s' → R (.ok (.ret (.float (Float64.ofInt (S0 + (scan r p).1.sum)) tf))) s') →
    ((scan r p).2.1 = .below → ∀ s' e a, RowEnd b X P (scan r p).2.2 ((e, .exc (newIn b) true true (.ref 52) (.ref a)) :: (a, .seq "tuple" [.str msg tm]) :: l) lg s' → R (.error (.ref e)) s') →
    ((scan r p).2.1 = .fin → ∀ s' e a tm', RowEnd b X P (scan r p).2.2 ((e, .exc (newIn b) true true (.type "ValueError") (.ref a)) :: (a, .seq "tuple" [.str eofMsg tm']) :: l) lg s' → R (.error (.ref e)) s') →
    codeAny (model prg w) A (.builtin "math.fsum.loop" ⟨[.ref aC, .ref pt, .ref st], []⟩) R s := by
  intro r
  induction r with
  | nil =>
    intro p i S0 pt s hr hp hS hS' H h1 h2 h3
    have hpe : p = o.length := by have := congrArg List.length hr; rw [List.length_drop] at this; simp at this; omega
    have hnone : ∀ v, o[p]? ≠ some v := fun v q => by have := (List.getElem?_eq_some_iff.mp q).1; omega
    refine codeAny_builtin entry_fsumL ?_
    rw [Around.under_plainId plain_fsumL _]
    refine ea2_2 H.led fun m0 mg0 H0 hs0 => ?_
    refine fsum_body H0 (hs0 _ (.head _)) (hs0 _ (.tail _ (.head _))) ?_
    refine nextC G H (.tail _ (.tail _ ha)) (.tail _ (.tail _ hc)) hA hh hfr hF.more.more (fun h0 => absurd h0 (hnone _)) (fun v hv => absurd hv (hnone _)) (fun v hv => absurd hv (hnone _)) ?_
    intro _ s' e a tm' H'
    refine ea1_1 H' fun tp H' => ?_
    exact h3 rfl s' e a tm' ⟨tp, H'.del3.del3⟩
  | cons v r ih =>
    intro p i S0 pt s hr hp hS hS' H h1 h2 h3
    have hlt : p < o.length := by have := congrArg List.length hr; rw [List.length_drop] at this; simp at this; omega
    have hv : o[p]? = some v := by
      have := congrArg (·[0]?) hr
      simpa using this
    have hr' : o.drop (p + 1) = r := by
      have := congrArg List.tail hr
      simpa using this
    have hvb := ho v (List.mem_of_getElem? hv)
    refine codeAny_builtin entry_fsumL ?_
    rw [Around.under_plainId plain_fsumL _]
    refine ea2_2 H.led fun m0 mg0 H0 hs0 => ?_
    refine fsum_body H0 (hs0 _ (.head _)) (hs0 _ (.tail _ (.head _))) ?_
    refine nextC G H (.tail _ (.tail _ ha)) (.tail _ (.tail _ hc)) hA hh hfr hF.more.more ?_ ?_ ?_ (fun q => by omega)
    · intro h0 s' t H'
      rw [hv] at h0
      cases h0
      have e : scan (0 :: r) p = ([], .row, p + 1) := rfl
      rw [e] at h1
      dsimp only
      rw [FL.fsum_end]
      refine ea1_1 H' fun tp H' => ?_
      have := h1 rfl _ t s'.toks ⟨tp, ((H'.tok (s'.toks + 1)).del2.del2)⟩
      simpa using this
    · intro v' hv' h100 s' tk H'
      rw [hv] at hv'; cases hv'
      have e : scan (v :: r) p = ((v - 100) :: (scan r (p + 1)).1, (scan r (p + 1)).2) := by
        show (if v = 0 then _ else if v < 100 then _ else _) = _
        rw [if_neg (by omega), if_neg (by omega)]
      rw [e] at h1 h2 h3
      dsimp only
      refine PySem.Flt.realArg_int hh (fun q => absurd q ?_) fun _ => ?_
      · show ¬ (2 ^ 1024 - 2 ^ 970 ≤ (v - 100).natAbs)
        have hb : 1000 < 2 ^ 1024 - 2 ^ 970 := by decide +kernel
        intro q
        exact absurd (Nat.lt_of_lt_of_le hb q) (by omega)
      simp only [List.length_cons] at hS'
      rw [FL.fsum_step hS (by omega) (by omega) (by omega)]
      have hps : (if Float64.isZero (Float64.ofInt (S0 + (v - 100))) = true then ([] : List UInt64) else [] ++ [Float64.ofInt (S0 + (v - 100))]) = FL.psOf (S0 + (v - 100)) := by
        rw [FL.isZero_int (by omega)]
        unfold FL.psOf
        by_cases z : S0 + (v - 100) = 0
        · rw [if_pos (by simpa using z), if_pos z]
        · rw [if_neg (by simpa using z), if_neg z]; rfl
      dsimp only
      rw [hps]
      refine ⟨FL.isFin_int (by omega), by unfold FL.psOf; split <;> simp, plainId_quiet plain_fsumL _, ?_⟩
      have H2 := (H'.tok (t' := s'.toks + 1)).push (ob := seqObj "tuple" (bits (FL.psOf (S0 + (v - 100)))).toArray 0) (c := .seq "tuple" (bits (FL.psOf (S0 + (v - 100))))) (t' := s'.toks + 1) rfl (fun h' q => ⟨0, q⟩) (by show "tuple" ≠ _; decide)
      refine ih (p + 1) (i + 1) (S0 + (v - 100)) _ _ hr' hlt (by omega) (by omega) H2.del1 ?_ ?_ ?_
      · intro q s'' t tf H3
        have e1 : i + ((v - 100) :: (scan r (p + 1)).1).length = i + 1 + (scan r (p + 1)).1.length := by simp; omega
        have e2 : S0 + ((v - 100) :: (scan r (p + 1)).1).sum = S0 + (v - 100) + (scan r (p + 1)).1.sum := by simp; omega
        have := h1 q s'' t tf
        rw [e1, e2] at this
        exact this H3
      · exact h2
      · exact h3
    · intro v' hv' h0 h100 s' e a H'
      rw [hv] at hv'; cases hv'
      have e1 : scan (v :: r) p = ([], .below, p + 1) := by
        show (if v = 0 then _ else if v < 100 then _ else _) = _
        rw [if_neg h0, if_pos h100]
      rw [e1] at h2
      refine ea1_1 H' fun tp H' => ?_
      exact h2 rfl s' e a ⟨tp, H'.del3.del3⟩
end
end
section
open PySem PySem.W PySem.W.X PyProof.Rows PySem.Calls
theorem check_fsum (a : Value) : checkBuiltinCall "math.fsum" ⟨[a], []⟩ = pure () := by kernel_rfl
section
variable {w : World} {b : Shared} {X : List Addr} {l l' : List (Addr × Cell)} {lg : List (Nat × GenState)} {s : Shared} {A : Around} {Q E : Value → Shared → Prop} {env : Env} {L : Addr} {fr : List Env} {o : List Int} {P S LN LF aN aF LC Cn aC : Addr} {gN gF gC n p i : Nat} {msg : Str} {tm : Tok}
theorem call_again {id : String} {B : Builtin} {args : List Value} (hp : plainId id = true) (hb : entryFor table id = some B) (hc : checkBuiltinCall id ⟨args, []⟩ = pure ())
    (h : wpAny (model prg w) A.in1 (B ⟨args, []⟩) (fun fin s' => match fin with
      | .done f => (match (Except.ok f : Result) with | .ok (.ret v) => Q v s' | .ok _ => False | .error e => E e s')
      | .again c' => c'.quiet = true ∧ codeAny (model prg w) A c' (fun r s' => match r with | .ok (.ret v) => Q v s' | .ok _ => False | .error e => E e s') s') E s) : wpAny (model prg w) A (call (.builtin id) args) Q E s :=
  wpAny_call (codeAny_call_builtin hp hb (wpAny_of_eq hc h))

theorem fsum_row (G : Glob w b X) (hA : A.depth + 22 < recursionLimit) (hh : A.handled = none) (hfr : A.frames = some fr) (hF : FrOk l fr) (ha : (aF, .gen gF) ∈ l) (hc : (aC, .gen gC) ∈ l) (ho : ∀ x ∈ o, 0 ≤ x ∧ x < 256)
    (hp : p ≤ o.length) (hlen : o.length ≤ 100) (H : CntAt w b X o P S LN LF aN aF LC Cn gN gF gC msg tm ((o.drop p).length + 1) p 0 l lg s)
    (h1 : (scan (o.drop p) p).2.1 = .row → ∀ s' t tf, RowEnd b X P (scan (o.drop p) p).2.2 ((Cn, .cel (some (.int ((scan (o.drop p) p).1.length : Int) t))) :: l) lg s' → Q (.float (Float64.ofInt (scan (o.drop p) p).1.sum) tf) s')
    (h2 : (scan (o.drop p) p).2.1 = .below → ∀ s' e a, RowEnd b X P (scan (o.drop p) p).2.2 ((e, .exc (newIn b) true true (.ref 52) (.ref a)) :: (a, .seq "tuple" [.str msg tm]) :: l) lg s' → E (.ref e) s')
    (h3 : (scan (o.drop p) p).2.1 = .fin → ∀ s' e a tm', RowEnd b X P (scan (o.drop p) p).2.2 ((e, .exc (newIn b) true true (.type "ValueError") (.ref a)) :: (a, .seq "tuple" [.str eofMsg tm']) :: l) lg s' → E (.ref e) s') :
    wpAny (model prg w) A (call (.builtin "math.fsum") [.ref aC]) Q E s := by
  refine call_again plain_fsum entry_fsum (check_fsum _) ?_
  refine ea2_2 H.led fun m0 mg0 H0 hs0 => ?_
  have hgen : s.heap.IsGen aC gC := H0.cells _ (hs0 _ hc)
  show wpAny _ A.in1 (pyIter (.ref aC) >>= fun i => newTuple (bits []) >>= fun a => newTuple (bits [Float64.zero false, Float64.zero false]) >>= fun c => again (.builtin "math.fsum.loop" ⟨[i, a, c], []⟩)) _ _ s
  refine wpAny_bind (wpAny_pyIter_gen hgen ?_)
  refine wpAny_bind (wpAny_newTuple ?_)
  refine wpAny_bind (wpAny_newTuple ?_)
  have H1 := H.push (ob := seqObj "tuple" (bits []).toArray 0) (c := .seq "tuple" (bits [])) (t' := s.toks) rfl (fun h' q => ⟨0, q⟩) (by show "tuple" ≠ _; decide)
  have H2 := H1.push (ob := seqObj "tuple" (bits [Float64.zero false, Float64.zero false]).toArray 0) (c := .seq "tuple" (bits [Float64.zero false, Float64.zero false])) (t' := s.toks) rfl (fun h' q => ⟨0, q⟩) (by show "tuple" ≠ _; decide)
  have H3 := H2.lift (l' := (s.heap.objs.size, .seq "tuple" (bits (FL.psOf 0))) :: ((s.heap.push (seqObj "tuple" (bits []).toArray 0)).objs.size, .seq "tuple" (bits [Float64.zero false, Float64.zero false])) :: l) fun {m mg} Hm => Hm.perm (List.Perm.append_left _ (.swap ..))
  refine wpAny_pure ⟨plainId_quiet plain_fsumL _, fsum_loop G hA hh hfr hF ha hc ho (o.drop p) p 0 0 _ _ rfl hp (by decide) (by rw [List.length_drop]; omega) H3 ?_ ?_ ?_⟩
  · intro q s' t tf HE
    have := h1 q s' t tf
    simp only [Int.zero_add, Nat.zero_add] at HE ⊢
    exact this HE
  · exact h2
  · exact h3
end
end
section
open PySem PySem.W PySem.W.X PyProof.Rows PySem.Calls
theorem entry_unchain : entryFor table "proto.unchain" = some Builtin.«proto.unchain» := entryFor_of_tree (by kernel_rfl)
theorem plain_unchain : plainId "proto.unchain" = true := by decide +kernel
section
variable {w : World} {b : Shared} {X : List Addr} {l l' : List (Addr × Cell)} {lg lg' : List (Nat × GenState)} {s : Shared} {A : Around} {E : Value → Shared → Prop} {fr : List Env} {env : Env} {L e a : Addr} {pos : Pos}

/-- a built-in raises -/
theorem wp_raiseWords {α : Type} {cls msg : String} {Q : α → Shared → Prop} (H : W b X l lg s) (hp : PlainExc cls) (hC : cls ≠ "traceback") (hh : A.handled = none)
    (h : ∀ s' e t tk, W b X ((e, .exc (newIn b) false true (.type cls) (.ref t)) :: (t, .seq "tuple" [.str (Str.ofString msg) tk]) :: l) lg s' → E (.ref e) s') : wpAny (model prg w) A (raiseErrorWords cls msg : Sem α) Q E s := by
  unfold raiseErrorWords
  refine wpAny_bind (wpAny_mkText (wpAny_bind ?_))
  unfold newExc newTuple
  refine wpAny_bind (wpAny_newObj_type ?_)
  refine wpAny_bind (m := firstArgMember _ _) (wpAny_of_eq (a := Value.none) (by simp only [firstArgMember, hp.first]; rfl) ?_)
  rw [hp.own]
  refine wpAny_newObj_type ?_
  unfold raiseNew
  refine wpAny_bind (wpAny_handled ?_)
  rw [hh]
  have H1 := H.push (o := { cls := .type "tuple", data := .seq [Value.str (Str.ofString msg) s.toks].toArray }) (c := .seq "tuple" [.str (Str.ofString msg) s.toks]) (t' := s.toks + 1) rfl (fun h' q => ⟨0, q⟩) (by show "tuple" ≠ _; decide)
  have H2 := H1.push (o := { cls := .type cls, data := .fields (#[.ref s.heap.objs.size, .none, .none, .none, .bool false, .none] ++ #[]) }) (c := .exc (newIn b) false true (.type cls) (.ref s.heap.objs.size)) (t' := s.toks + 1) rfl
    (fun h' q => ⟨_, _, .none, q, rfl, rfl, by simp, rfl, rfl, fun _ => rfl, .inl ⟨rfl, rfl⟩⟩) (by intro e; injection e with e; exact hC e)
  first
    | exact wpAny_throw (h _ _ _ _ H2)
    | exact wpAny_bind (wpAny_pure (wpAny_throw (h _ _ _ _ H2)))
theorem wp_raiseMade {α : Type} {cls msg : String} {Q : α → Shared → Prop} (H : W b X l lg s) (hp : PlainExc cls) (hC : cls ≠ "traceback") (hh : A.handled = none) (hm : (msg : Str).length ≤ sizeLine)
    (h : ∀ s' e t tk, W b X ((e, .exc (newIn b) false true (.type cls) (.ref t)) :: (t, .seq "tuple" [.str (Str.ofString msg) tk]) :: l) lg s' → E (.ref e) s') : wpAny (model prg w) A (raiseErrorMade cls msg : Sem α) Q E s := by
  unfold raiseErrorMade
  refine wpAny_bind (wpAny_mkStr (wpAny_bind ?_) hm)
  unfold newExc newTuple
  refine wpAny_bind (wpAny_newObj_type ?_)
  refine wpAny_bind (m := firstArgMember _ _) (wpAny_of_eq (a := Value.none) (by simp only [firstArgMember, hp.first]; rfl) ?_)
  rw [hp.own]
  refine wpAny_newObj_type ?_
  unfold raiseNew
  refine wpAny_bind (wpAny_handled ?_)
  rw [hh]
  have H1 := H.push (o := { cls := .type "tuple", data := .seq [Value.str (Str.ofString msg) s.toks].toArray }) (c := .seq "tuple" [.str (Str.ofString msg) s.toks]) (t' := s.toks + 1) rfl (fun h' q => ⟨0, q⟩) (by show "tuple" ≠ _; decide)
  have H2 := H1.push (o := { cls := .type cls, data := .fields (#[.ref s.heap.objs.size, .none, .none, .none, .bool false, .none] ++ #[]) }) (c := .exc (newIn b) false true (.type cls) (.ref s.heap.objs.size)) (t' := s.toks + 1) rfl
    (fun h' q => ⟨_, _, .none, q, rfl, rfl, by simp, rfl, rfl, fun _ => rfl, .inl ⟨rfl, rfl⟩⟩) (by intro e; injection e with e; exact hC e)
  first
    | exact wpAny_throw (h _ _ _ _ H2)
    | exact wpAny_bind (wpAny_pure (wpAny_throw (h _ _ _ _ H2)))

/-- a raise while another is being handled -/
theorem wp_raiseNew_h {α : Type} {Q : α → Shared → Prop} {o oh : Obj} {vs vh : Array Value} {d : Addr} (hh : A.handled = some (.ref d)) (hne : d ≠ e) (he : s.heap.get? e = some o) (hd : o.data = .fields vs) (hz : 2 < vs.size) (hd' : s.heap.get? d = some oh) (hv : oh.data = .fields vh) (hc : vh[2]? = some .none)
    (h : E (.ref e) { s with heap := s.heap.update e (Obj.mapFields (·.setIfInBounds 2 (.ref d))) }) : wpAny (model prg w) A (raiseNew (.ref e) : Sem α) Q E s := by
  unfold raiseNew
  refine wpAny_bind (wpAny_handled ?_)
  rw [hh]
  show wpAny _ _ (if (Value.ref d != Value.ref e) = true then _ else _) _ _ _
  rw [if_pos (by simpa using hne)]
  refine wpAny_bind (wpAny_holding (wpAny_runValue (codeAny_builtin entry_unchain ?_)))
  rw [Around.under_plainId plain_unchain _]
  show wpAny _ _ (field (.ref d) 2 >>= _) _ _ _
  refine wpAny_bind (wpAny_field hd' hv hc ?_)
  rw [if_pos (by rfl)]
  refine wpAny_pure ?_
  show wpAny _ _ (updateField e 2 (.ref d) >>= _) _ _ _
  refine wpAny_bind (wpAny_setField (a := e) he hd hz ?_)
  exact wpAny_throw h
end
end
section
open PySem PySem.W PySem.W.X PyProof.Rows PySem.Calls
section
variable {w : World} {b : Shared} {X : List Addr} {l l' : List (Addr × Cell)} {lg lg' : List (Nat × GenState)} {A : Around} {E : Value → Shared → Prop} {fr : List Env} {env : Env} {L e a : Addr} {pos : Pos}
variable {nm q : Str} {C N : Addr} {bs bm : List Value} {hdct : Bool} {sn : List Str} {sub : List Value} {ab : Bool} {col : Option Bool} {dd : Option Addr} {k0 k1 k2 k3 k5 : Option Value} {newId : String}

theorem raiseStmt_h {s : Shared} {x : Sem Value} {d : Addr} {Q : Flow → Shared → Prop} (hbase : bm.contains (.type "BaseException") = true) (hh : A.handled = some (.ref d))
    (h : wpAny (model prg w) A x (fun v s₁ => ∃ e t oh vh, v = .ref e ∧ s₁.heap.get? C = some (excClassObj nm q C N bs bm hdct sn sub ab col dd k0 k1 k2 k3 k5 newId) ∧
      s₁.heap.get? e = some { cls := .ref C, data := .fields #[.ref t, .none, .none, .none, .bool false, .none] } ∧ d ≠ e ∧ s₁.heap.get? d = some oh ∧ oh.data = .fields vh ∧ vh[2]? = some .none ∧
      E (.ref e) { s₁ with heap := s₁.heap.update e (Obj.mapFields (·.setIfInBounds 2 (.ref d))) }) E s) :
    wpAny (model prg w) A (raiseStmt env (some x) none) Q E s := by
  have hcB : (Value.ref C :: bm).contains (.type "BaseException") = true := by rw [List.contains_cons, hbase, Bool.or_true]
  unfold raiseStmt
  refine wpAny_bind (wpAny_mono h (fun v s₁ h₁ => ?_) fun _ _ x => x)
  refine ea4_8 h₁ fun e t oh vh e_1 hC he hne hd hv hc hE => ?_
  try clear h₁
  subst e_1
  obtain ⟨hp, g, dr, tk, os⟩ := s₁
  repeat (first | with_reducible refine wpAny_loadPart_at he ?_ | with_reducible refine wpAny_loadPart_at hC ?_ | (with_reducible refine wpAny_isSubtype_exc hC ?_; rw [hcB]) | wp_step)
  exact wp_raiseNew_h hh hne he rfl (by simp) hd hv hc hE

/-- raise StatisticsError(..) while d is being handled -/
theorem r_raiseSh {s : Shared} {e : Expr} {rest : List Expr} {np cpos pos : Pos} {Q : Flow → Shared → Prop} {d : Addr} (G : Glob w b X) {nm gl : List Str} {i : Nat} (EV : EnvOk env L nm gl) (H : W b X l lg s) (hx : Nth gl i (Str.ofString "StatisticsError")) (hh : A.handled = some (.ref d))
    (h : wpAny (model prg w) A (spliced (backTo cpos (starEach (e :: rest) env))) (fun vs s₂ => ∃ m mg n f C args, W b X m mg s₂ ∧ (d, .exc n f true C args) ∈ m ∧ vs.length ≤ sizeLine ∧ ∀ e a s', W b X ((e, .exc (newIn b) false false (.ref 52) (.ref a)) :: (a, .seq "tuple" vs) :: m) mg s' → E (.ref e) s') E s)
    (he : starEach (e :: rest) env = (false, eval e env) :: starEach rest env := by rfl) (hplain : (backTo cpos (starEach rest env)).any (·.1) = false := by rfl) :
    wpAny (model prg w) A (exec (.Raise (some (.Call (.Name (Str.ofString "StatisticsError") np) (e :: rest) [] cpos)) none pos) env) Q E s := by
  obtain ⟨nm', q, bs, hdct, sn, sub, ab, col, dd, k0, k1, k2, k3, k5, hk⟩ := k52 w
  have hpl : (backTo cpos (starEach (e :: rest) env)).any (·.1) = false := by rw [he]; show (false || (backTo cpos (starEach rest env)).any (·.1)) = false; rw [hplain]; rfl
  rw [arm_exec_Raise]
  simp only [evalOpt, Option.map]
  refine wpAny_bind (wpAny_standAt (raiseStmt_h (C := 52) (N := 51) (nm := nm') (q := q) (bs := bs) (bm := [.type "ValueError", .type "Exception", .type "BaseException", .type "object"]) (hdct := hdct) (sn := sn) (sub := sub) (ab := ab) (col := col) (dd := dd) (k0 := k0) (k1 := k1) (k2 := k2) (k3 := k3) (k5 := k5) (newId := "ValueError.__new__") F.excBase_ValueError.hasBase hh ?_))
  refine wpAny_bind (wpAny_mono (wpAny_Call_ofName (ng_StatisticsError G EV H hx ?_)) (fun v s₃ h₃ => wpAny_bind (wpAny_standAt (wpAny_pure h₃))) fun _ _ x => x)
  unfold callWith
  rw [he] at h
  rw [he] at hpl ⊢
  refine wpAny_bind (wpAny_holding (wpAny_mono (evalArgs_plain (Q := fun a s₂ => a.kw = [] ∧ ∃ m mg n f C args, W b X m mg s₂ ∧ (d, .exc n f true C args) ∈ m ∧ a.pos.length ≤ sizeLine ∧ ∀ e t s', W b X ((e, .exc (newIn b) false false (.ref 52) (.ref t)) :: (t, .seq "tuple" a.pos) :: m) mg s' → E (.ref e) s') (wpAny_mono h (fun vs s₂ h₂ => ⟨rfl, h₂⟩) fun _ _ x => x)) (fun a s₂ h₂ => wpAny_bind (wpAny_standAt ?_)) fun _ _ x => x))
  obtain ⟨apos, akw⟩ := a
  refine ea0_2 h₂ fun hkw q_2 => ?_
  try clear h₂
  refine ea6_4 q_2 fun m mg n f C args H₂ hm hz hE => ?_
  obtain rfl : akw = [] := hkw
  have hC := G.at_ H₂ hk
  refine ea1_2 (ns51 G H₂) fun mN hN hn1 => ?_
  obtain ⟨hp, g, dr, tk, os⟩ := s₂
  simp only [hpl]
  refine wpAny_bind (wpAny_keeperOf_exc hC ?_)
  refine wpAny_bind (wpAny_call_exc_sub (hrest := hz) F.excBase_ValueError hC hN hn1 fun h' e hm' => wpAny_bind (wpAny_holding (wpAny_point (wpAny_pure ?_))))
  refine ea1_1 (H₂.made (C := .ref 52) (by simp) hm') fun t Hm => ?_
  refine ea1_3 hm'.there fun t0 ht _ _ => ?_
  refine ea3_8 (Hm.cells _ (.tail _ (.tail _ hm))) fun oh vh tv hoh _ hvh hzh _ _ hctx _ => ?_
  have hne : d ≠ e := fun q => by
    have := Hm.nd
    rw [List.map_cons] at this
    exact (List.nodup_cons.mp this).1 (q ▸ List.mem_map.mpr ⟨_, .tail _ hm, rfl⟩)
  refine ex4 e t0 oh vh ⟨rfl, hm'.keeps _ _ hC, ht, hne, hoh, hvh, hctx rfl, ?_⟩
  refine hE e t _ (Hm.put (t' := tk) (c' := .exc (newIn b) false false (.ref 52) (.ref t)) .zero (.update ..) ?_ (by simp [Cell.Plain]))
  refine ea3_8 (Hm.cells _ (.head _)) fun oe ve tv2 hoe hce hde hze h0e h1e _ tb => ?_
  refine ea0_2 (mapFields_data hde (·.setIfInBounds 2 (.ref d))) fun m1 m2 => ?_
  refine ex3 _ _ tv2 ⟨Heap.get?_update_self _ hoe (Obj.isFreed_of_fields m1), m2.trans hce, m1, by rw [Array.size_setIfInBounds]; exact hze, by rw [Array.getElem?_setIfInBounds_ne (by decide)]; exact h0e, by rw [Array.getElem?_setIfInBounds_ne (by decide)]; exact h1e, (fun q => by cases q), ?_⟩
  rcases tb with tb | ⟨t1, ot, tvs, e1, e0, e2, e3, e4, e5⟩
  · exact .inl tb
  · have hne2 : t1 ≠ e := fun q => by
      subst q
      exact (Hm.cells _ (.head _)).notTb (Hm.plain _ (.head _)) e2 e3 e4
    exact .inr ⟨t1, ot, tvs, e1, e0, by rw [Heap.get?_update_other _ _ (Ne.symm hne2)]; exact e2, e3, e4, e5⟩
end
end
section
open PySem PySem.W PySem.W.X PyProof.Rows PySem.Calls
section
variable {w : World} {b : Shared} {X : List Addr} {l l' : List (Addr × Cell)} {lg lg' : List (Nat × GenState)} {s : Shared} {A : Around} {E : Value → Shared → Prop} {fr : List Env} {env : Env} {L e a : Addr} {pos : Pos}

/-- an exception comes to the clauses of its try -/
theorem r_caught {f k : Bool} {C args : Value} {hs : List ExceptHandler} {Q : Flow → Shared → Prop} (H : W b X l lg s) (hl : Put l (e, .exc (newIn b) f k C args) (e, .exc (newIn b) true k C args) l') (hA : A.frames = some fr) (hf : FrOk l fr) (hL : env.frame = some L) (he : ∃ e' ∈ fr, e'.frame = some L)
    (h : ∀ s', W b X l' lg s' → wpAny (model prg w) A (handleBy (.ref e) env hs) Q E s') :
    wpAny (model prg w) A (noteFrame (.ref e) env) (fun _ s₂ => wpAny (model prg w) A (setFlight (.ref e) none) (fun _ s₃ => wpAny (model prg w) A (handleBy (.ref e) env hs) Q E s₃) E s₂) E s := by
  refine wp_note H hl hA hf hL he fun s' H' => ?_
  refine wp_setFlight (f := true) (k := k) (C := C) (args := args) H' ?_ h
  refine ea2_2 hl.split fun l₁ l₂ e_1 e_2 => ?_
  subst e_1
  subst e_2
  exact List.mem_append_right _ (.head _)

theorem mk_frames : (A.mark (some (.ref e))).frames = A.frames := rfl
theorem mk_handled : (A.mark (some (.ref e))).handled = some (.ref e) := rfl

/-- a clause without a name -/
theorem r_handle {f k bb : Bool} {C args c : Value} {t : Expr} {b₀ : Stmt} {suite : List Stmt} {rest : List ExceptHandler} {Q : Flow → Shared → Prop} (G : Glob w b X) (hx : exmOne (KK w) C c = some bb)
    (h : wpAny (model prg w) (A.mark (some (.ref e))) (eval t env) (fun c' s₁ => c' = c ∧ ∃ m mg, W b X m mg s₁ ∧ (e, .exc (newIn b) f k C args) ∈ m ∧
      if bb then ∀ s', W b X m mg s' → wpAny (model prg w) (A.mark (some (.ref e))) (execs (b₀ :: suite) env) Q (notedBy (model prg w) (A.mark (some (.ref e))) env (cameBackBy (model prg w) A env E)) s'
      else wpAny (model prg w) A (handleBy (.ref e) env rest) Q E s₁) (notedBy (model prg w) (A.mark (some (.ref e))) env (cameBackBy (model prg w) A env E)) s) :
    wpAny (model prg w) A (handleBy (.ref e) env (.ExceptHandler (some t) none (b₀ :: suite) pos :: rest)) Q E s := by
  refine wpAny_handleBy_cons (codeAny_handlers_test (wpAny_mono h (fun c' s₁ h₁ => ?_) fun _ _ x => x)) (by intro q; cases q)
  refine ea0_2 h₁ fun e_3 q_4 => ?_
  try clear h₁
  refine ea2_3 q_4 fun m mg H hm hk => ?_
  subst e_3
  have LT : Looks (model prg w) s₁.heap (typeOf (.ref e)) C := by
    refine ea3_3 (H.cells _ hm) fun o vs tv ho hc _ => ?_
    intro A' Q' E' s' hk' q
    exact wpAny_typeOf_ref (hk' _ _ ho) (by rw [hc]; exact q)
  refine (exm_one (G.in_ H) LT hx).here ?_
  cases bb with
  | true => exact codeAny_handlers_suite (wp_setFlight H hm fun s' H' => hk s' H')
  | false => exact hk

/-- a clause with a name -/
theorem r_handleAs {f k bb : Bool} {C args c : Value} {t : Expr} {n : Str} {b₀ : Stmt} {suite : List Stmt} {rest : List ExceptHandler} {Q : Flow → Shared → Prop} (G : Glob w b X) (hx : exmOne (KK w) C c = some bb)
    (h : wpAny (model prg w) (A.mark (some (.ref e))) (eval t env) (fun c' s₁ => c' = c ∧ ∃ m mg, W b X m mg s₁ ∧ (e, .exc (newIn b) f k C args) ∈ m ∧
      if bb then ∀ s', W b X m mg s' → wpAny (model prg w) (A.mark (some (.ref e))) (storeName env n (.ref e)) (fun _ s₃ => wpAny (model prg w) (A.mark (some (.ref e))) (execs (b₀ :: suite) env)
          (fun f s₄ => wpAny (model prg w) A (do bindName env n .none; unbindBehindTheSuite env n pos) (fun _ s₅ => Q f s₅) E s₄) (fun _ _ => False) s₃) (fun _ _ => False) s'
      else wpAny (model prg w) A (handleBy (.ref e) env rest) Q E s₁) (notedBy (model prg w) (A.mark (some (.ref e))) env (cameBackBy (model prg w) A env E)) s) :
    wpAny (model prg w) A (handleBy (.ref e) env (.ExceptHandler (some t) (some n) (b₀ :: suite) pos :: rest)) Q E s := by
  refine wpAny_handleBy_cons (codeAny_handlers_test (wpAny_mono h (fun c' s₁ h₁ => ?_) fun _ _ x => x)) (by intro q; cases q)
  refine ea0_2 h₁ fun e_5 q_6 => ?_
  try clear h₁
  refine ea2_3 q_6 fun m mg H hm hk => ?_
  subst e_5
  have LT : Looks (model prg w) s₁.heap (typeOf (.ref e)) C := by
    refine ea3_3 (H.cells _ hm) fun o vs tv ho hc _ => ?_
    intro A' Q' E' s' hk' q
    exact wpAny_typeOf_ref (hk' _ _ ho) (by rw [hc]; exact q)
  refine (exm_one (G.in_ H) LT hx).here ?_
  cases bb with
  | true => exact codeAny_handlers_suite_as (wp_setFlight H hm fun s' H' => wpAny_mono (hk s' H') (fun _ s₃ h₃ => wpAny_mono h₃ (fun _ _ x => x) fun _ _ x => x.elim) fun _ _ x => x.elim)
  | false => exact hk

/-- len of a generator -/
theorem r_len_gen {Q : Value → Shared → Prop} {g : Nat} (H : W b X l lg s) (hm : (a, .gen g) ∈ l) (hh : A.handled = none)
    (h : ∀ s' e t tk msg, W b X ((e, .exc (newIn b) false true (.type "TypeError") (.ref t)) :: (t, .seq "tuple" [.str msg tk]) :: l) lg s' → E (.ref e) s') : wpAny (model prg w) A (call (.builtin "len") [.ref a]) Q E s := by
  have hg : s.heap.IsGen a g := H.cells _ hm
  refine call_function_entry kind_len plain_len entry_len (args_len1 _) ?_
  unfold Builtin.«len»
  refine wpAny_bind (m := oneArg "len" _) (wpAny_pure ?_)
  refine wpAny_bind (wpAny_callSpecial?_none hg.typeIs F.gen_no_len ?_)
  dsimp only
  refine wpAny_bind (wpAny_rule (wpAny_bind (wpAny_typeNameOf' hg.typeIs (by decide) ?_)))
  exact wp_raiseMade H plainExc_TypeError (by decide) hh (by rw [PySem.ofString_length, sizeLine_eq]; decide +kernel) fun s' e t tk H' => h s' e t tk _ H'
end
end
section
open PySem PySem.W PySem.W.X PyProof.Rows PySem.Calls
section
variable {w : World} {b : Shared} {X : List Addr} {l l' : List (Addr × Cell)} {lg lg' : List (Nat × GenState)} {s : Shared} {A : Around} {Q E : Value → Shared → Prop} {fr : List Env} {env : Env} {L e a : Addr} {pos : Pos}
/-- a def with cells of its own is called -/
theorem call_cells {nm gl : List Str} {vs : List (Option Value)} {args : List Value} {kw : List (Str × Value)} {binds : List (Str × Value)} {cl : Nat → List (Str × Addr)} (G : Glob w b X) (H : W b X l lg s) (f : FnOk w a nm gl) (hg : (fdOf w a).scope.isGenerator = false)
    (hcs : ∀ n, cellsFrom n (fdOf w a).scope.names [] = cl n) (hb : ∀ S, peek (KK w) S (bindArgs (fdOf w a) ⟨args, kw⟩) = some binds)
    (hkind : ∀ x ∈ binds, (fdOf w a).scope.names.lookup x.1 = some .local ∨ ((fdOf w a).scope.names.lookup x.1 = some .cell ∧ ∀ n, ((cl n).lookup x.1).isSome = true))
    (hL : bindL (fun x => (fdOf w a).scope.names.lookup x) binds (fun _ => none) = look nm vs) (hA : A.depth < recursionLimit)
    (h : ∀ L env s', EnvOk env L nm gl → env.scope = (fdOf w a).scope → env.code = (fdOf w a).code → env.qual = (fdOf w a).qualname ++ ".<locals>." → env.cells = cl (L + 1) → newIn b L → W b X ((L, .ns nm vs) :: l) lg s' →
      (∀ n c, (cl (L + 1)).lookup n = some c → s'.heap.IsCell c (bindC (fun x => (fdOf w a).scope.names.lookup x) binds (fun _ => none) n) ∧ newIn b c ∧ ∀ p ∈ (L, Cell.ns nm vs) :: l, p.1 ≠ c) →
      wpAny (model prg w) (A.deeper env) (execs (bodyOf w a) env) (fun fl s'' => Q (match fl with | .ret v => v | _ => .none) s'')
        (fun e s'' => wpAny (model prg w) (A.deeper env) (leaving env e) (fun _ s3 => E e s3) (fun e' s3 => E e' s3) s'') s') :
    wpAny (model prg w) A (call (.ref a) args kw) Q E s := by
  refine ea1_2 (Option.map_eq_some_iff.mp f.at_) fun o ho hod => ?_
  have hsc := f.sc
  unfold scopeOk at hsc
  simp only [Bool.and_eq_true, beq_iff_eq, decide_eq_true_eq] at hsc
  refine ea0_2 hsc fun q_1 hdb => ?_
  try clear hsc
  obtain ⟨⟨⟨hk, hloc⟩, hgl'⟩, hnd⟩ := q_1
  have hbind : BindsTo s (fdOf w a) ⟨args, kw⟩ binds := PySem.W.kp_binds (G.in_ H) hb
  refine wpAny_call (codeAny_call_function hA (G.at_ H ho) hod f.co hg f.body (codeRec_of (G.in_ H) f.code) (hbind _ _ _ _ ?_))
  rw [f.cl]
  refine wp_pos H.pos (wpAny_newFunctionEnv_cells hk (fun x hx => ?_) fun env' he s' x hpos => ?_)
  · rcases hkind x hx with q | ⟨q, q2⟩
    · exact .inl q
    · exact .inr ⟨q, by rw [hcs]; exact q2 _⟩
  subst he
  have H1 : W b X l lg s' := by
    refine ea2_2 x.done fun h₁ tk e1 hk₁ => ?_
    rw [e1] at hpos ⊢
    exact H.grow (t' := tk) hk₁ fun _ => hpos
  have hns : s'.heap.Ns s.heap.objs.size (look nm vs) := by
    have := x.toInCall.ns
    rw [← hL]
    exact this
  have H2 : W b X ((s.heap.objs.size, .ns nm vs) :: l) lg s' := H1.cons hns trivial H.fresh fun p hp e => absurd (H.lt hp) (by rw [e]; exact Nat.lt_irrefl _)
  refine ⟨G.nolimit H1, codeAny_func ?_⟩
  refine h s.heap.objs.size _ s' ⟨rfl, rfl, hk, f.gl, f.bl, lookup_of_all hloc, lookup_of_all hgl', hnd, fun x hx => by simpa using List.all_eq_true.mp hdb x hx⟩ rfl rfl rfl (hcs _) H.fresh H2 ?_
  intro n c hc
  have hcc : (cellsFrom (s.heap.objs.size + 1) (fdOf w a).scope.names []).lookup n = some c := by rw [hcs]; exact hc
  have hlt : s.heap.objs.size < c := x.above n c (mem_of_lookup hcc)
  have hnone : s.heap.get? c = none := Heap.get?_none_of_le (Nat.le_of_lt hlt)
  refine ⟨x.cell n c hcc, H.newOf hnone, fun p hp => ?_⟩
  rcases List.mem_cons.mp hp with rfl | hp
  · exact Nat.ne_of_lt hlt
  · exact H.notIn hnone p hp
end
end
section
open PySem PySem.W PySem.W.X PyProof.Rows PySem.Calls
/-- the module of the builtins, as a def that is made needs it -/
noncomputable def Bm (b : Shared) (X : List Addr) : Prop := ∃ mg bm ob, b.heap.Ns mainGlobals mg ∧ mg "__builtins__" = some (.ref bm) ∧ bm ≠ builtinsNs ∧ bm ≠ mainGlobals ∧ b.heap.get? bm = some ob ∧ ob.cls = .type "module" ∧ ob.dict = some builtinsNs ∧ ob.data = .plain ∧ bm ∉ X
section
variable {w : World} {b : Shared} {X : List Addr} {l l' : List (Addr × Cell)} {lg lg' : List (Nat × GenState)} {s : Shared} {A : Around} {Q E : Value → Shared → Prop} {fr : List Env} {env : Env} {L e a : Addr} {pos : Pos}
variable {name qual : Str} {params : Arguments} {body : List Stmt} {scope : Scope} {c P : Addr} {ps : Array Value} {firstLine : Nat} {clos : List (Str × Addr)}

theorem tabPlain : (Cell.obj (tabObj ps)).Plain := by intro q; cases q
theorem Bm.at_ (B : Bm b X) (G : Glob w b X) (hP : P ∈ X) (H : W b X l lg s) : ∃ mg, s.heap.Ns mainGlobals mg ∧ s.heap.BuiltinsAt mg P := by
  refine ea3_9 B fun mg bm ob h1 h2 h3 h4 h5 h6 h7 h8 h9 => ?_
  try clear B
  exact ⟨mg, H.ns h1 G.gx, bm, ob, h2, h3, h4, (fun q => h9 (q ▸ hP)), H.keep _ _ h5 h9, h6, h7, h8⟩
theorem code_keep (H : W b X l lg s) (C : CodeHd b.heap c P) (hc : c ∉ X) : CodeHd s.heap c P := by
  refine ea9_2 C fun o vs file tf flags tg inF text tt e r => ?_
  try clear C
  exact ex9 o vs file tf flags tg inF text tt ⟨H.keep _ _ e hc, r⟩

/-- what the making leaves in the ledger -/
theorem W.fnNew {h' : Heap} {t' : Nat} {c' : Addr} {ps' : Array Value} {doc pm ctv : Value} (H : W b X ((P, .obj (tabObj ps)) :: l) lg s) (hx : Heap.ExtBut P s.heap h') (hge : s.heap.objs.size ≤ c') (hP : h'.get? P = some (tabObj ps'))
    (hrec : h'.CodeRec (.ref c') qual) (hcls : ∃ P', h'.TableAt c' P' #[]) : ∃ oc vs t, oc.cls = .type "code" ∧ oc.data = .fields vs ∧ vs[1]? = some (.str qual t) ∧ newIn b c' ∧ newIn b h'.objs.size ∧ (0 < t' →
      W b X ((h'.objs.size, .obj (fnMade name qual params body scope clos doc pm c' ctv)) :: (c', .obj oc) :: (P, .obj (tabObj ps')) :: l) lg { s with heap := h'.push (fnMade name qual params body scope clos doc pm c' ctv), toks := t' }) := by
  refine ea4_4 hrec fun c2 oc vs t e2 hoc hd hv => ?_
  try clear hrec
  cases e2
  refine ea1_1 hcls fun P' q_1 => ?_
  try clear hcls
  obtain ⟨⟨oc', vs', q1, q2, q3, q4⟩, _⟩ := q_1
  rw [hoc] at q1; cases q1
  have H1 := H.chg (t' := s.toks) hx (c' := .obj (tabObj ps')) hP tabPlain
  have hnone : s.heap.get? c' = none := Heap.get?_none_of_le hge
  have hnew := H.newOf hnone
  have hnin : ∀ p ∈ (P, Cell.obj (tabObj ps')) :: l, p.1 ≠ c' := fun p hp q => by
    rcases List.mem_cons.mp hp with rfl | hp
    · exact H.notIn hnone _ (.head _) q
    · exact H.notIn hnone _ (.tail _ hp) q
  have H2 := H1.cons (a := c') (c := .obj oc) hoc (by intro q; rw [q2] at q; injection q with q; exact absurd q (by decide)) hnew hnin
  exact ex3 oc vs t ⟨q2, hd, hv, hnew, H2.fresh, fun ht => H2.push (o := fnMade name qual params body scope clos doc pm c' ctv) (c := .obj (fnMade name qual params body scope clos doc pm c' ctv)) (t' := t') rfl (fun h q => q) (by intro q; injection q with q; exact absurd q (by decide)) fun _ => ht⟩

theorem mk_fn (G : Glob w b X) (B : Bm b X) (hPX : P ∈ X) (H : W b X ((P, .obj (tabObj ps)) :: l) lg s) (hcl : closureFor scope env = pure clos) (hge0 : env.globals = mainGlobals) (hcode : env.code = .ref c) (C : CodeHd b.heap c P) (hcX : c ∉ X) (ht : TriplesOk ps.toList) (hnf : codeAmong pos ps.toList = none)
    (h : ∀ F c' oc vs t ctv doc pm s', (docOf body = none → doc = .none) → oc.cls = .type "code" → oc.data = .fields vs → vs[1]? = some (.str qual t) → newIn b F → newIn b c' →
      W b X ((F, .obj (fnMade name qual params body scope clos doc pm c' ctv)) :: (c', .obj oc) :: (P, .obj (tabObj (ps ++ #[rawInt pos.line, rawInt pos.col, .ref c']))) :: l) lg s' → Q (.ref F) s') :
    wpAny (model prg w) A (makeFunction name qual params (.stmts body) scope env [] [] [] pos firstLine) Q E s := by
  refine ea1_2 (B.at_ G hPX H) fun mg hg q_2 => ?_
  obtain ⟨bm, ob, hbm, hne0, hneG, hneP, hbo, hcls, hdict, hdata⟩ := q_2
  have hP : s.heap.get? P = some (tabObj ps) := H.cells _ (.head _)
  have C' := code_keep H C hcX
  have hgP : mainGlobals ≠ P := fun q => G.gx (q ▸ hPX)
  refine wp_pos H.pos ?_
  rw [makeFunction_eq]
  simp only [List.zip_nil_right, List.filterMap_nil, List.isEmpty_nil, if_true, pure_bind]
  unfold makeTail
  rw [hcl, hge0]
  refine wpAny_bind (wpAny_pure ?_)
  cases clos with
  | nil =>
    simp only [List.isEmpty_nil, if_true]
    refine wpAny_bind (wpAny_pure ?_)
    refine wpAny_bind (wpAny_functionCodeX hcode (C'.code hP ht) (C'.tab hP) hnf fun c' h' tk hx hge hlt _ hrec htb hT => ?_)
    have hg' := hg.extBut hx hgP
    refine wpAny_bind (wpAny_builtinsFor hg' hbm hne0 (hx _ _ hneP hbo) hcls hdict hdata ?_)
    refine wpAny_bind (wpAny_nsGet hg' ?_)
    refine ea1_3 hT fun P' _ _ hT => ?_
    cases hdoc : docOf body with
    | none =>
      refine ea3_6 (H.fnNew (name := name) (params := params) (body := body) (scope := scope) (clos := []) (doc := .none) (pm := (mg "__name__").getD .none) (ctv := .none) (t' := tk) hx hge htb.2 hrec ⟨P', hT⟩) fun oc vs t r1 r2 r3 r4 r5 r6 => ?_
      exact wpAny_bind (wpAny_pure (wpAny_newObj_type (fun hps => h _ _ oc vs t .none .none _ _ (fun _ => rfl) r1 r2 r3 r5 r4 (r6 hps)) (by size_fits)))
    | some d =>
      refine ea3_6 (H.fnNew (name := name) (params := params) (body := body) (scope := scope) (clos := []) (doc := .str d tk) (pm := (mg "__name__").getD .none) (ctv := .none) (t' := tk + 1) hx hge htb.2 hrec ⟨P', hT⟩) fun oc vs t r1 r2 r3 r4 r5 r6 => ?_
      exact wpAny_bind (wpAny_mkText (wpAny_newObj_type (fun hps => h _ _ oc vs t .none _ _ _ (fun q => by rw [hdoc] at q; cases q) r1 r2 r3 r5 r4 (r6 hps)) (by size_fits)))
  | cons q r =>
    simp only [List.isEmpty_cons, Bool.false_eq_true, if_false]
    refine wpAny_bind (wpAny_newTextTuple ?_)
    refine wpAny_bind (wpAny_functionCodeX hcode ((C'.keeps fun b o e => Heap.get?_push_of_some _ e).code (Heap.get?_push_of_some _ hP) ht) ((C'.keeps fun b o e => Heap.get?_push_of_some _ e).tab (Heap.get?_push_of_some _ hP)) hnf fun c' h' tk hx hge hlt _ hrec htb hT => ?_)
    have hg' := (hg.push _).extBut hx hgP
    have hx' : Heap.ExtBut P s.heap h' := fun b o hb' e => hx b o hb' (Heap.get?_push_of_some _ e)
    have hge' : s.heap.objs.size ≤ c' := Nat.le_trans (by rw [Heap.size_push]; omega) hge
    refine wpAny_bind (wpAny_builtinsFor hg' hbm hne0 (hx' _ _ hneP hbo) hcls hdict hdata ?_)
    refine wpAny_bind (wpAny_nsGet hg' ?_)
    refine ea1_3 hT fun P' _ _ hT => ?_
    cases hdoc : docOf body with
    | none =>
      refine ea3_6 (H.fnNew (name := name) (params := params) (body := body) (scope := scope) (clos := q :: r) (doc := .none) (pm := (mg "__name__").getD .none) (ctv := .ref s.heap.objs.size) (t' := tk) hx' hge' htb.2 hrec ⟨P', hT⟩) fun oc vs t r1 r2 r3 r4 r5 r6 => ?_
      exact wpAny_bind (wpAny_pure (wpAny_newObj_type (fun hps => h _ _ oc vs t _ .none _ _ (fun _ => rfl) r1 r2 r3 r5 r4 (r6 hps)) (by size_fits)))
    | some d =>
      refine ea3_6 (H.fnNew (name := name) (params := params) (body := body) (scope := scope) (clos := q :: r) (doc := .str d tk) (pm := (mg "__name__").getD .none) (ctv := .ref s.heap.objs.size) (t' := tk + 1) hx' hge' htb.2 hrec ⟨P', hT⟩) fun oc vs t r1 r2 r3 r4 r5 r6 => ?_
      exact wpAny_bind (wpAny_mkText (wpAny_newObj_type (fun hps => h _ _ oc vs t _ _ _ _ (fun q => by rw [hdoc] at q; cases q) r1 r2 r3 r5 r4 (r6 hps)) (by size_fits)))

theorem mk_fnHit {c' : Addr} (G : Glob w b X) (B : Bm b X) (hPX : P ∈ X) (H : W b X l lg s) (hPm : (P, .obj (tabObj ps)) ∈ l) (hcl : closureFor scope env = pure clos) (hge0 : env.globals = mainGlobals) (hcode : env.code = .ref c) (C : CodeHd b.heap c P) (hcX : c ∉ X) (ht : TriplesOk ps.toList) (hf : codeAmong pos ps.toList = some (.ref c'))
    (h : ∀ F ctv doc pm s', newIn b F → W b X ((F, .obj (fnMade name qual params body scope clos doc pm c' ctv)) :: l) lg s' → Q (.ref F) s') :
    wpAny (model prg w) A (makeFunction name qual params (.stmts body) scope env [] [] [] pos firstLine) Q E s := by
  refine ea1_2 (B.at_ G hPX H) fun mg hg hb => ?_
  have hP : s.heap.get? P = some (tabObj ps) := H.cells _ hPm
  refine wp_pos H.pos (makeFunction_hit hcl hge0 hg hcode (code_keep H C hcX) hP ht hf hb fun ctv doc h' tk hk hsz hps => ?_)
  have H1 := H.grow (t' := tk) hk fun _ => hps
  have H3 := H1.push (o := fnMade name qual params body scope clos doc ((mg "__name__").getD .none) c' ctv) (c := .obj (fnMade name qual params body scope clos doc ((mg "__name__").getD .none) c' ctv)) (t' := tk) rfl (fun h q => q) (by intro q; injection q with q; exact absurd q (by decide))
  exact h _ _ _ _ _ H1.fresh H3
end
end
section
open PySem PySem.W PySem.W.X PyProof.Rows PySem.Calls
noncomputable abbrev nmM : List Str := ["data", "weights", "count", "total", "num", "den"]
noncomputable abbrev glM : List Str := ["len", "TypeError", "fsum", "StatisticsError", "isinstance", "list", "tuple", "sumprod", "ValueError"]
theorem fn_fmean (w : World) : FnOk w 71 nmM glM := ⟨by kernel_rfl, by kernel_rfl, by kernel_rfl, by kernel_rfl, by kernel_rfl, by kernel_rfl, by kernel_rfl, by kernel_rfl⟩
theorem bd_fmean1 (w : World) (v : Value) : ∀ S, peek (KK w) S (bindArgs (fdOf w 71) ⟨[v], []⟩) = some [(Str.ofString "data", v), (Str.ofString "weights", .none)] := fun S => by kernel_rfl
theorem bd_fmean2 (w : World) (v u : Value) : ∀ S, peek (KK w) S (bindArgs (fdOf w 71) ⟨[v, u], []⟩) = some [(Str.ofString "data", v), (Str.ofString "weights", u)] := fun S => by kernel_rfl
theorem cl_fmean (w : World) : ∀ n, cellsFrom n (fdOf w 71).scope.names [] = [(Str.ofString "n", n)] := fun n => by kernel_rfl
theorem kd_fmean (w : World) : (fdOf w 71).scope.names.lookup (Str.ofString "n") = some .cell ∧ (fdOf w 71).scope.names.lookup (Str.ofString "data") = some .local ∧ (fdOf w 71).scope.names.lookup (Str.ofString "weights") = some .local := ⟨by kernel_rfl, by kernel_rfl, by kernel_rfl⟩
theorem bl_fmean (w : World) (v u : Value) : bindL (fun x => (fdOf w 71).scope.names.lookup x) [(Str.ofString "data", v), (Str.ofString "weights", u)] (fun _ => none) = look nmM [some v, some u, none, none, none, none] := by
  refine ea0_3 (kd_fmean w) fun _ h1 h2 => ?_
  unfold bindL bindL bindL
  rw [if_pos h1, if_pos h2]
  funext y
  show (if y = Str.ofString "weights" then some u else if y = Str.ofString "data" then some v else none) = if y = Str.ofString "data" then some v else if y = Str.ofString "weights" then some u else look ["count", "total", "num", "den"] [none, none, none, none] y
  have hn : look ["count", "total", "num", "den"] [none, none, none, none] y = none := look_none ["count", "total", "num", "den"] y
  rw [hn]
  by_cases q : y = Str.ofString "weights"
  · have : ¬ y = Str.ofString "data" := fun z => by rw [q] at z; exact absurd z (by decide)
    rw [if_pos q, if_neg this, if_pos q]
  · rw [if_neg q, if_neg q]
noncomputable def ctPos (w : World) : Pos := match ctStmt w with | .FunctionDef _ _ _ _ _ _ _ _ _ p => p | _ => ⟨0, 0, 0, 0⟩
noncomputable def qnC (w : World) : Str := (fdOf w 71).qualname ++ ".<locals>." ++ "count"
/-- fmean's code table in the ledger -/
noncomputable def TabL (w : World) (T : List (Addr × Cell)) : Prop := T = [(66, .obj (tabObj #[]))] ∨
  ∃ c' oc vs t, T = [(66, .obj (tabObj #[rawInt (ctPos w).line, rawInt (ctPos w).col, .ref c'])), (c', .obj oc)] ∧ oc.data = .fields vs ∧ vs[1]? = some (.str (qnC w) t)
section
variable {w : World} {b : Shared} {X : List Addr} {l l' : List (Addr × Cell)} {lg lg' : List (Nat × GenState)} {s : Shared} {A : Around} {Q E : Value → Shared → Prop} {fr : List Env} {env : Env} {L a c : Addr} {pos : Pos} {x : Str} {v : Value} {nm gl : List Str} {i : Nat}
theorem r_storeCell {v₀ : Option Value} {Q : Unit → Shared → Prop} (hk : env.scope.kind = .function) (hx : env.kindOf x = some .cell) (hc : env.cells.lookup x = some c) (H : W b X l lg s) (hm : (c, .cel v₀) ∈ l) (hp : Put l (c, .cel v₀) (c, .cel (some v)) l') (h : ∀ s', W b X l' lg s' → Q () s') :
    wpAny (model prg w) A (storeName env x v) Q E s :=
  wpAny_storeName_cell hk hx hc (H.cells _ hm) fun h' hc' hs => h _ (H.put (t' := s.toks) hp hs hc' trivial)
/-- a function that is in the ledger is called by its name -/
theorem r_callL {fa : Addr} {o : Obj} {fd : FuncData} {e : Expr} {rest : List Expr} (hod : o.data = .func fd)
    (h : wpAny (model prg w) A (spliced (backTo pos (starEach (e :: rest) env))) (fun vs s₁ => s₁.heap.get? fa = some o ∧ wpAny (model prg w) A (call (.ref fa) vs) Q E s₁) E s)
    (he : starEach (e :: rest) env = (false, eval e env) :: starEach rest env := by rfl) :
    wpAny (model prg w) A (callWith pos (.ref fa) [] (backTo pos (starEach (e :: rest) env)) []) Q E s := by
  refine callWith_function (o := o) (fd := fd) ?_
  rw [he] at h ⊢
  exact evalArgs_plain (wpAny_mono h (fun vs s₁ h₁ => ⟨⟨h₁.1, hod⟩, h₁.2⟩) fun _ _ x => x)
theorem r_divFI {p : UInt64} {q : Int} {t u : Tok} (H : W b X l lg s) (hq : q ≠ 0) (hs : q.natAbs < 2 ^ 53) (h : ∀ t s', t ≠ 0 → W b X l lg s' → Q (.float (Float64.div p (Float64.ofInt q)) t) s') : wpAny (model prg w) A (binaryOp .Div (.float p t) (.int q u)) Q E s := by
  refine ea2_2 (FL.int_dec hs) fun m e hd _ => ?_
  refine PySem.AutoFloatOps.truediv_fi_2 (by unfold Float64.isInf; rw [hd]; simp) (by rw [FL.isZero_int hs]; simpa using hq) (h _ _ (Nat.ne_of_gt H.pos) (H.tok _))
end
end
section
open PySem PySem.W PySem.W.X PyProof.Rows PySem.Calls
structure Tb (w : World) (b : Shared) (X : List Addr) : Prop where
  bm : Bm b X
  code : ∃ c, (fdOf w 71).code = .ref c ∧ CodeHd b.heap c 66 ∧ c ∉ X
  x66 : 66 ∈ X
noncomputable def noMean : Str := "fmean requires at least one data point"
noncomputable def fmeanF (xs : List Int) : Out := if xs = [] then .refused noMean else .told (.one (.f (fdiv xs.sum xs.length)))
theorem FrOk.app {l : List (Addr × Cell)} {fr : List Env} (h : FrOk l fr) (m : List (Addr × Cell)) : FrOk (m ++ l) fr := fun e he => let ⟨h1, L, nm, vs, h2, h3⟩ := h e he; ⟨h1, L, nm, vs, h2, List.mem_append_right _ h3⟩
theorem ct_bind (w : World) (q : Str) (clos : List (Str × Addr)) (doc pm ctv v : Value) (c' : Addr) : bindArgs (fnX "count" q (ctP w) (ctB w) (ctS w) clos .none .none doc pm none (.ref c') ctv) ⟨[v], []⟩ = pure ((["iterable"] : List Str).zip [v]) := by kernel_rfl
section
variable {w : World} {b : Shared} {X : List Addr} {l l' : List (Addr × Cell)} {lg lg' : List (Nat × GenState)} {s : Shared} {A : Around} {Q E : Value → Shared → Prop} {fr : List Env} {o : List Int} {P S LN LF aN aF : Addr} {gN gF n p q : Nat} {msg : Str} {tm : Tok}
theorem scan_small : ∀ (r : List Int) (p : Nat), (∀ x ∈ r, 0 ≤ x ∧ x < 256) → (∀ x ∈ (scan r p).1, 0 ≤ x ∧ x < 256) ∧ (scan r p).1.length ≤ r.length
  | [], p, _ => ⟨(fun x hx => by cases hx), Nat.le_refl _⟩
  | v :: r, p, h => by
    have ih := scan_small r (p + 1) fun x hx => h x (.tail _ hx)
    have hv := h v (.head _)
    show (∀ x ∈ (if v = 0 then ([], Lot.row, p + 1) else if v < 100 then ([], .below, p + 1) else ((v - 100) :: (scan r (p + 1)).1, (scan r (p + 1)).2)).1, 0 ≤ x ∧ x < 256) ∧ (if v = 0 then ([], Lot.row, p + 1) else if v < 100 then ([], .below, p + 1) else ((v - 100) :: (scan r (p + 1)).1, (scan r (p + 1)).2)).1.length ≤ _
    by_cases h0 : v = 0
    · rw [if_pos h0]; exact ⟨(fun x hx => by cases hx), Nat.zero_le _⟩
    · rw [if_neg h0]
      by_cases h1 : v < 100
      · rw [if_pos h1]; exact ⟨(fun x hx => by cases hx), Nat.zero_le _⟩
      · rw [if_neg h1]
        refine ⟨fun x hx => ?_, by simp; exact ih.2⟩
        rcases List.mem_cons.mp hx with rfl | hx
        · omega
        · exact ih.1 x hx
theorem sum_small : ∀ {xs : List Int}, (∀ x ∈ xs, 0 ≤ x ∧ x < 256) → 0 ≤ xs.sum ∧ xs.sum ≤ 256 * xs.length
  | [], _ => by simp
  | x :: xs, h => by
    have ih := sum_small fun y hy => h y (.tail _ hy)
    have := h x (.head _)
    simp only [List.sum_cons, List.length_cons]
    omega
theorem perm_in2 {α : Type} (a c : α) (m l : List α) : (m ++ a :: c :: l).Perm (c :: a :: (m ++ l)) :=
  (List.perm_middle.trans (List.perm_middle.cons a)).trans (.swap ..)
theorem ct_clos {env : Env} {Cn : Addr} (hc : env.cells = [(Str.ofString "n", Cn)]) : closureFor (ctS w) env = pure [(Str.ofString "n", Cn)] := by
  obtain ⟨e1, e2, e3, e4, e5, e6, e7, e8, e9⟩ := env
  have hc : e4 = [(Str.ofString "n", Cn)] := hc
  subst hc
  kernel_rfl
set_option maxRecDepth 10000 in
set_option maxHeartbeats 4000000 in
theorem ok_fmean1 {T : List (Addr × Cell)} (G : Glob w b X) (TB : Tb w b X) (hA : A.depth + 30 < recursionLimit) (hh : A.handled = none) (hfr : A.frames = some fr) (hF : FrOk l fr) (ha : (aF, .gen gF) ∈ l)
    (hp : p ≤ o.length) (hlen : o.length ≤ 100) (ho : ∀ x ∈ o, 0 ≤ x ∧ x < 256) (hT : TabL w T) (H : RowAt w b X o P S LN LF aN gN gF msg tm ((o.drop p).length + 1) p (T ++ l) lg s)
    (h : ∀ T', TabL w T' → Post b X P (scan (o.drop p) p).2.2 (T' ++ l) lg Q E (outOf msg fmeanF (scan (o.drop p) p))) : wpAny (model prg w) A (call (.ref 71) [.ref aF]) Q E s := by
  refine ea5_4 H fun tp ov xv gsF gsN hf hg hp' H => ?_
  refine ea0_3 (kd_fmean w) fun kn kd kw => ?_
  refine call_cells (vs := [some (.ref aF), some .none, none, none, none, none]) G H (fn_fmean w) (by kernel_rfl) (cl_fmean w) (bd_fmean1 w _) ?_ (bl_fmean w _ _) (by ktn_no "om") ?_
  · intro x hx
    rcases List.mem_cons.mp hx with rfl | hx
    · exact .inl kd
    · rcases List.mem_cons.mp hx with rfl | hx
      · exact .inl kw
      · cases hx
  intro L env s₁ EV hsc hcode hqual hcells hnL H₁ hcel
  refine ea0_3 (hcel (Str.ofString "n") (L + 1) (by simp)) fun hc1 hcn hcl => ?_
  have hc0 : s₁.heap.IsCell (L + 1) none := by
    have e : bindC (fun x => (fdOf w 71).scope.names.lookup x) [(Str.ofString "data", Value.ref aF), (Str.ofString "weights", .none)] (fun _ => none) (Str.ofString "n") = none := by
      unfold bindC bindC bindC
      rw [if_pos kd, if_pos kw]
    rw [← e]; exact hc1
  have H₂ := H₁.cons (c := .cel none) hc0 trivial hcn hcl
  have hh' : (A.deeper env).handled = none := hh
  have hkn : env.kindOf (Str.ofString "n") = some .cell := by unfold Env.kindOf; rw [hsc]; exact kn
  have hcn' : env.cells.lookup (Str.ofString "n") = some (L + 1) := by rw [hcells]; simp
  have hfr' := A_frames (env := env) hfr
  refine wpAny_execs_cons ?_
  ktn_no "go"
  refine is_none_none ?_
  ktn_no "go"
  rw [if_pos (by decide)]
  ktn_no "go"
  refine wpAny_Try_except ?_
  ktn_no "go"
  refine r_len_gen (g := gF) (by assumption) (.tail _ (.tail _ (.tail _ (.tail _ (.tail _ (.tail _ (List.mem_append_right _ ha))))))) hh' ?_
  intro s₃ e t tk msg' H₃
  refine r_caught H₃ (by ktn_no "put") hfr' (FrOk.cons EV.kind EV.frame (by ktn_no "mem") (hF.app T).more.more.more.more.more.more.more.more) EV.frame ⟨env, .head _, EV.frame⟩ ?_
  intro s₄ H₄
  refine r_handle (f := true) (k := true) (C := .type "TypeError") (args := .ref t) (c := .type "TypeError") (bb := true) G (by kernel_rfl) ?_
  ktn_no "go"
  refine ⟨rfl, (ex2 _ _ ⟨H₄, .head _, ?_⟩)⟩
  rw [if_pos rfl]
  intro s₅ H₅
  ktn_no "go"
  refine r_storeCell EV.kind hkn hcn' (by assumption) (by ktn_no "mem") (by ktn_no "put") ?_
  intro s₆ H₆
  show wpAny _ _ (execs _ env) _ _ _
  refine wpAny_execs_cons ?_
  refine nestDef_K rfl rfl rfl ?_
  have hq : qualnameIn env (Str.ofString "count") (Str.ofString "count") = qnC w := by
    unfold qualnameIn
    rw [if_neg (by unfold Env.kindOf; rw [hsc, show (fdOf w 71).scope.names.lookup (Str.ofString "count") = some .local from by kernel_rfl]; decide), hqual]
    rfl
  rw [hq]
  refine ea1_3 TB.code fun c hcc hCH hcX => ?_
  obtain ⟨t0, H₆⟩ : ∃ t0, W b X ((e, .exc (newIn b) true true (.type "TypeError") (.ref t)) :: (t, .seq "tuple" [.str msg' tk]) :: (L + 1, .cel (some (.int 0 t0))) :: (L, .ns nmM [some (.ref aF), some .none, none, none, none, none]) :: cellsF P S LN LF aN gN msg p tp tm ov xv (T ++ l)) ((gF, gsF) :: (gN, gsN) :: lg) s₆ := ⟨_, H₆⟩
  refine wpAny_mono (Q := fun v s' => ∃ F T' c' ctv doc pm oc vs tq, v = .ref F ∧ TabL w T' ∧ (c', Cell.obj oc) ∈ T' ∧ oc.data = .fields vs ∧ vs[1]? = some (.str (qnC w) tq) ∧ newIn b F ∧
    W b X ((F, .obj (fnMade "count" (qnC w) (ctP w) (ctB w) (ctS w) [(Str.ofString "n", L + 1)] doc pm c' ctv)) :: (e, .exc (newIn b) true true (.type "TypeError") (.ref t)) :: (t, .seq "tuple" [.str msg' tk]) :: (L + 1, .cel (some (.int 0 t0))) :: (L, .ns nmM [some (.ref aF), some .none, none, none, none, none]) :: cellsF P S LN LF aN gN msg p tp tm ov xv (T' ++ l)) ((gF, gsF) :: (gN, gsN) :: lg) s') (E := fun _ _ => False) ?_ (fun v s' h' => ?_) (fun _ _ x => x.elim)
  · rcases hT with rfl | ⟨c', oc, vs, tq, rfl, hd, hv⟩
    · refine mk_fn (ps := #[]) G TB.bm TB.x66 (W.unmid (m := [_, _, _, _, _, _, _, _]) H₆) (ct_clos (w := w) hcells) EV.globals (hcode.trans hcc) hCH hcX trivial (by rfl) ?_
      intro F c' oc vs tq ctv doc pm s₇ _ r1 r2 r3 r4 r5 H₇
      refine ex9 F _ c' ctv doc pm oc vs tq ⟨rfl, .inr ⟨c', oc, vs, tq, rfl, r2, r3⟩, .tail _ (.head _), r2, r3, r4, H₇.perm ?_⟩
      exact (perm_in2 _ _ [_, _, _, _, _, _, _, _] l).cons _
    · refine mk_fnHit (c' := c') (ps := #[rawInt (ctPos w).line, rawInt (ctPos w).col, .ref c']) G TB.bm TB.x66 H₆ (.tail _ (.tail _ (.tail _ (.tail _ (.tail _ (.tail _ (.tail _ (.tail _ (.head _))))))))) (ct_clos (w := w) hcells) EV.globals (hcode.trans hcc) hCH hcX trivial (by rfl) ?_
      intro F ctv doc pm s₇ r4 H₇
      exact ex9 F _ c' ctv doc pm oc vs tq ⟨rfl, .inr ⟨c', oc, vs, tq, rfl, hd, hv⟩, .tail _ (.head _), hd, hv, r4, H₇⟩
  clear hT H₃ H₄ H₅ H₆
  refine ea9_7 h' fun F T' c' ctv doc pm oc vs tq e_1 hT hco' hd hv hnF H₇ => ?_
  try clear h'
  subst e_1
  ktn_no "go"
  refine r_callL (o := fnMade "count" (qnC w) (ctP w) (ctB w) (ctS w) [(Str.ofString "n", L + 1)] doc pm c' ctv) rfl ?_
  ktn_no "go"
  rename_i H₈
  refine ⟨H₈.cells _ (.head _), ?_⟩
  have hocm := H₈.cells (c', .obj oc) (.tail _ (.tail _ (.tail _ (.tail _ (.tail _ (.tail _ (.tail _ (.tail _ (.tail _ (List.mem_append_left _ hco'))))))))))
  refine call_genfn (args := ⟨[.ref aF], []⟩) ["iterable"] ["x"] (nm := nmC) (gl := ["enumerate"]) (vals := [.ref aF]) (vs := [some (.ref aF), none]) rfl rfl G H₈ (H₈.cells _ (.head _)) rfl ⟨c', oc, vs, tq, rfl, hocm, hd, hv⟩ (ct_scope w) (ct_co w) rfl rfl rfl (ct_cells w) (ct_gen w) (BindsTo.of_eq (ct_bind w _ _ _ _ _ _ _)) rfl (by show A.depth + 1 < _; ktn_no "om") ?_
  intro LC envC aC gC s₉ EVC hscC hcellsC hnLC H₉
  ktn_no "go"
  rename_i H10
  have H11 := H10.del2.del2.del2.gperm (lg' := (gF, gsF) :: (gN, gsN) :: (gC, .fresh (.func (ctB w) envC)) :: lg) (((List.Perm.swap ..).cons _).trans (.swap ..))
  have H12 : W b X (cellsF P S LN LF aN gN msg p tp tm ov xv (cellsE none aF 0 .none ++ cellsC LC (L + 1) aF (.int ((0 : Nat) : Int) t0) none ((aC, .gen gC) :: (L, .ns nmM [some (.ref aC), some .none, some (.ref F), none, none, none]) :: (T' ++ l)))) ((gF, gsF) :: (gN, gsN) :: (gC, .fresh (.func (ctB w) envC)) :: lg) _ :=
    H11.perm (l' := [_, _, _, _] ++ ([_, _, _, _] ++ (T' ++ l))) ((List.Perm.append_left _ (List.Perm.append_right _ (((List.Perm.swap _ _ _).cons _).trans (.swap ..)))).trans (List.perm_append_comm_assoc _ _ _))
  have hcoC : envC.scope.isCoroutine = false := by rw [hscC]; exact ct_co w
  have hfreeC : envC.kindOf (Str.ofString "n") = some .free := by unfold Env.kindOf; rw [hscC]; exact ct_free w
  have hcnC : envC.cells.lookup (Str.ofString "n") = some (L + 1) := by rw [hcellsC]; rfl
  refine fsum_row (fr := env :: fr) (LC := LC) (Cn := L + 1) (gC := gC) (gF := gF) (l := (aC, .gen gC) :: (L, .ns nmM [some (.ref aC), some .none, some (.ref F), none, none, none]) :: (T' ++ l)) G (by show A.depth + 1 + 22 < _; ktn_no "om") hh' hfr' (FrOk.cons EV.kind EV.frame (.tail _ (.head _)) (hF.app T').more.more) (.tail _ (.tail _ (List.mem_append_right _ ha))) (.head _) ho hp hlen
    ⟨none, .none, none, _, t0, cgFresh G EVC hcoC hfreeC hcnC _, fun _ => rfl, tp, ov, xv, gsF, gsN, hf, hg, hp', H12⟩ ?_ ?_ ?_
  · intro hl s' tn tf HE
    refine ea1_1 HE fun tp' HE => ?_
    have h := h T' hT
    unfold outOf at h
    rw [hl] at h
    generalize hxs : (scan (o.drop p) p).1 = xs at *
    generalize hq' : (scan (o.drop p) p).2.2 = q at *
    ktn_no "go"
    refine r_ite (fun hc => ?_) (fun hc => ?_)
    · have hx0 : xs = [] := by
        have : xs.length = 0 := by simpa using hc
        exact List.length_eq_zero_iff.mp this
      unfold fmeanF at h
      rw [if_pos hx0] at h
      ktn_no "go"
      refine r_raiseS G EV (by assumption) (by ktn_no "nth") hh' ?_
      ktn_no "go"
      refine ex2 _ _ ⟨by assumption, by rw [sizeLine_eq]; simp, fun e a s₃ H₃ => ?_⟩
      refine leave H₃.del3.del3 hfr (hF.app T') EV.kind EV.frame fun s' H' => h e a _ _ s' H'
    · have hx0 : xs ≠ [] := fun q => by subst q; simp at hc
      have hn0 : xs.length ≠ 0 := fun q => hx0 (List.length_eq_zero_iff.mp q)
      unfold fmeanF at h
      rw [if_neg hx0] at h
      have hsm := scan_small (o.drop p) p fun x hx => ho x (List.mem_of_mem_drop hx)
      rw [hxs, List.length_drop] at hsm
      have hsum := sum_small hsm.1
      ktn_no "go"
      refine r_divFI (by assumption) (by ktn_no "om") (by ktn_no "om") ?_
      intro tq' s₅ htz H₅
      rw [FL.div_int (by ktn_no "om") (by ktn_no "om") (by ktn_no "om")]
      exact h _ _ (.f _ _ htz) ⟨tp', H₅.del1.del1.del1⟩
  · intro hl s₂ e a HE
    have h := h T' hT
    unfold outOf at h
    rw [hl] at h
    refine ea1_1 HE fun tp' HE => ?_
    exact leaveR ⟨tp', HE.del3⟩ hfr (hF.app T') EV.kind EV.frame fun s' H' => h e a _ _ s' H'
  · intro hl s₂ e a tm' HE
    have h := h T' hT
    unfold outOf at h
    rw [hl] at h
    refine ea1_1 HE fun tp' HE => ?_
    exact leaveR ⟨tp', HE.del3⟩ hfr (hF.app T') EV.kind EV.frame fun s' H' => h e a _ _ s' H'
end
end
section
open PySem PySem.W PySem.W.X PyProof.Rows PySem.Calls
theorem entry_sp : entryFor table "math.sumprod" = some Builtin.«math.sumprod» := entryFor_of_tree (by kernel_rfl)
theorem entry_spL : entryFor table "math.sumprod.loop" = some Builtin.«math.sumprod.loop» := entryFor_of_tree (by kernel_rfl)
theorem plain_spL : plainId "math.sumprod.loop" = true := by decide +kernel
theorem plain_sp : plainId "math.sumprod" = true := by decide +kernel
theorem check_sp (a c : Value) : checkBuiltinCall "math.sumprod" ⟨[a, c], []⟩ = pure () := by kernel_rfl
noncomputable abbrev z3 : List Value := [rawInt (Float64.zero false).toNat, rawInt (Float64.zero false).toNat, rawInt (Float64.zero false).toNat]
noncomputable abbrev spArgs (pIt qIt : Value) (t0 : Tok) (S0 : Int) (u : Bool) (ft : Addr) : Args := ⟨[pIt, qIt, .int 0 t0, .bool true, rawInt S0, .bool u, .bool true, .ref ft, .bool false], []⟩
theorem small_mul {a c : Int} (ha : a.natAbs < 2 ^ 20) (hc : c.natAbs < 2 ^ 20) : (a * c).natAbs < 2 ^ 40 := by
  rw [Int.natAbs_mul]
  have : a.natAbs * c.natAbs ≤ 2 ^ 20 * c.natAbs := Nat.mul_le_mul_right _ (by omega)
  omega
section
variable {w : World} {b : Shared} {X : List Addr} {l l' : List (Addr × Cell)} {lg : List (Nat × GenState)} {s : Shared} {A : Around} {E : Value → Shared → Prop}
noncomputable def SpPost (w : World) (A : Around) (b : Shared) (X : List Addr) (pIt qIt : Value) (t0 : Tok) (S0 : Int) (u : Bool) (ft : Addr) (Q : Fin → Shared → Prop) (E : Value → Shared → Prop) (p q : Option Value) (s₂ : Shared) : Prop :=
  (∃ a ta c tc, p = some (.int a ta) ∧ q = some (.int c tc) ∧ a.natAbs < 2 ^ 20 ∧ c.natAbs < 2 ^ 20 ∧ Q (.again (.builtin "math.sumprod.loop" (spArgs pIt qIt t0 (S0 + a * c) true ft))) s₂) ∨
  (p = none ∧ q = none ∧ u = true ∧ ∀ t s', (∀ m mg, W b X m mg s₂ → W b X m mg s') → Q (.done (.ret (.int S0 t))) s') ∨
  (p.isSome ≠ q.isSome ∧ ∃ m mg, W b X m mg s₂ ∧ ∀ s' e t tk msg, W b X ((e, .exc (newIn b) false true (.type "ValueError") (.ref t)) :: (t, .seq "tuple" [.str msg tk]) :: m) mg s' → E (.ref e) s')
theorem sp_body {pIt qIt : Value} {t0 : Tok} {S0 : Int} {u : Bool} {ft : Addr} {m : List (Addr × Cell)} {mg : List (Nat × GenState)} {Q : Fin → Shared → Prop} (H : W b X m mg s) (h1 : (ft, .seq "tuple" z3) ∈ m) (hh : A.handled = none) (hS : S0.natAbs < 2 ^ 50)
    (h : wpAny (model prg w) A (pyNext pIt) (fun p s₁ => wpAny (model prg w) A (pyNext qIt) (fun q s₂ => SpPost w A b X pIt qIt t0 S0 u ft Q E p q s₂) E s₁) E s) :
    wpAny (model prg w) A (Builtin.«math.sumprod.loop» (spArgs pIt qIt t0 S0 u ft)) Q E s := by
  refine ea1_1 (H.cells _ h1 : ∃ c, s.heap.get? ft = some (seqObj "tuple" z3.toArray c)) fun c1 hft => ?_
  show wpAny _ A (seqItems? (.ref ft) >>= _) _ _ s
  refine wpAny_bind (wpAny_seqItems hft rfl ?_)
  show wpAny _ A (pyNext pIt >>= _) _ _ s
  refine wpAny_bind (wpAny_mono h (fun p s₁ h₁ => ?_) fun _ _ x => x)
  show wpAny _ A (holding p.toList (pyNext qIt) >>= _) _ _ s₁
  refine wpAny_bind (wpAny_holding (wpAny_mono h₁ (fun q s₂ h₂ => ?_) fun _ _ x => x))
  rcases h₂ with ⟨a, ta, c, tc, rfl, rfl, ha, hc, hQ⟩ | ⟨rfl, rfl, hu, hQ⟩ | ⟨hne, m', mg', H', hE⟩
  · have hm := small_mul ha hc
    have fit : ∀ i : Int, i.natAbs < 2 ^ 60 → (decide (-2 ^ 63 ≤ i) && decide (i ≤ Builtin.Math.maxSsize)) = true := fun i hi => by
      have e1 : -2 ^ 63 ≤ i := by omega
      have e2 : i ≤ Builtin.Math.maxSsize := by show i ≤ 2 ^ 63 - 1; omega
      rw [decide_eq_true e1, decide_eq_true e2]; rfl
    have hfits : ((((decide (-2 ^ 63 ≤ a) && decide (a ≤ Builtin.Math.maxSsize)) && (decide (-2 ^ 63 ≤ c) && decide (c ≤ Builtin.Math.maxSsize))) && (decide (-2 ^ 63 ≤ a * c) && decide (a * c ≤ Builtin.Math.maxSsize))) && (decide (-2 ^ 63 ≤ S0 + a * c) && decide (S0 + a * c ≤ Builtin.Math.maxSsize))) = true := by
      rw [fit a (by omega), fit c (by omega), fit _ (by omega), fit (S0 + a * c) (by omega)]; rfl
    show wpAny _ A (if ((((decide (-2 ^ 63 ≤ a) && decide (a ≤ Builtin.Math.maxSsize)) && (decide (-2 ^ 63 ≤ c) && decide (c ≤ Builtin.Math.maxSsize))) && (decide (-2 ^ 63 ≤ a * c) && decide (a * c ≤ Builtin.Math.maxSsize))) && (decide (-2 ^ 63 ≤ S0 + a * c) && decide (S0 + a * c ≤ Builtin.Math.maxSsize))) = true then again (.builtin "math.sumprod.loop" (spArgs pIt qIt t0 (S0 + a * c) true ft)) else _) _ _ _
    rw [if_pos hfits]
    exact wpAny_pure hQ
  · subst hu
    show wpAny _ A (rule "math.sumprod.leaves-ints" >>= fun _ => mkInt S0 >>= fun v => holding [] (binaryOp .Add (.int 0 t0) v) >>= fun tot => (rule "math.sumprod.leaves-floats" >>= fun _ => ret tot)) _ _ _
    refine wpAny_bind (wpAny_rule (wpAny_bind (wpAny_mkInt (wpAny_bind (wpAny_holding (PyProof.Rows.add_int ?_))))))
    refine wpAny_bind (wpAny_rule (wpAny_pure ?_))
    rw [Int.zero_add]
    exact hQ _ _ fun m mg Hm => (Hm.tok _).of rfl rfl rfl
  · have hb : (p.isSome != q.isSome) = true := by simpa using hne
    show wpAny _ A (if (p.isSome != q.isSome) = true then _ else _) _ _ _
    rw [if_pos hb]
    refine wpAny_bind (wpAny_rule ?_)
    refine wpAny_bind ?_
    exact wp_raiseWords H' plainExc_ValueError (by decide) hh fun s' e t tk Hm => hE s' e t tk _ Hm
end
end
section
open PySem PySem.W PySem.W.X PyProof.Rows PySem.Calls
/-- what sumprod of a row and weights gives, and the place behind it -/
noncomputable def spv : List Int → List Int → Nat → Int → Option Int × Nat
  | _, [], p, _ => (none, p)
  | ws, v :: r, p, acc => if v = 0 then ((if ws = [] then some acc else none), p + 1) else if v < 100 then (none, p + 1) else match ws with
    | [] => (none, p + 1)
    | u :: ws => spv ws r (p + 1) (acc + (v - 100) * u)
noncomputable def LiO (o : Obj) (Wt : Addr) (j : Nat) : Prop := o.cls = .type "list_iterator" ∧ o.data = .fields #[.ref Wt, .int j 0]
section
variable {w : World} {b : Shared} {X : List Addr} {l l' : List (Addr × Cell)} {lg : List (Nat × GenState)} {s : Shared} {A : Around} {env : Env} {L : Addr} {fr : List Env} {o : List Int} {P S LN LF aN aF : Addr} {gN gF n p i : Nat} {msg : Str} {tm : Tok}
theorem RowAt.fin (H : RowAt w b X o P S LN LF aN gN gF msg tm n p l lg s) : RowEnd b X P p l lg s := by
  refine ea5_4 H fun tp ov xv gsF gsN _ _ _ H => ?_
  exact ⟨tp, H.del3.del2.del1.gtail.gtail⟩
theorem LiO.plain {ob : Obj} {Wt : Addr} {j : Nat} (h : LiO ob Wt j) : (Cell.obj ob).Plain := by intro q; rw [h.1] at q; injection q with q; exact absurd q (by decide)

theorem sp_loop {R : Result → Shared → Prop} {Wt ft : Addr} {wv : List Value} {ws0 : List Int} {t0 : Tok} (G : Glob w b X) (hA : A.depth + 12 < recursionLimit) (hh : A.handled = none) (hfr : A.frames = some fr) (hF : FrOk l fr) (ha : (aF, .gen gF) ∈ l) (ho : ∀ x ∈ o, 0 ≤ x ∧ x < 256)
    (hwv : IntsAre wv ws0) (hws : ∀ u ∈ ws0, u.natAbs < 2 ^ 10) :
    ∀ (r : List Int) (p j : Nat) (S0 : Int) (u : Bool) (I : Addr) (oI : Obj) (s : Shared), o.drop p = r → p ≤ o.length → (ws0.drop j = [] → u = true) → S0.natAbs + 2 ^ 20 * r.length < 2 ^ 50 → newIn b I → I ∉ X → LiO oI Wt j →
    RowAt w b X o P S LN LF aN gN gF msg tm (r.length + 1) p ((I, .obj oI) :: (ft, .seq "tuple" z3) :: (Wt, .seq "list" wv) :: l) lg s →
    (∀ v, (spv (ws0.drop j) r p S0).1 = some v → ∀ s' t, RowEnd b X P (spv (ws0.drop j) r p S0).2 ((Wt, .seq "list" wv) :: l) lg s' → R (.ok (.ret (.int v t))) s') →
    ((spv (ws0.drop j) r p S0).1 = none → ∀ s' e a C f args, (C = .ref 52 ∨ C = .type "ValueError") → RowEnd b X P (spv (ws0.drop j) r p S0).2 ((e, .exc (newIn b) f true C (.ref a)) :: (a, .seq "tuple" args) :: (Wt, .seq "list" wv) :: l) lg s' → R (.error (.ref e)) s') →
    codeAny (model prg w) A (.builtin "math.sumprod.loop" (spArgs (.ref aF) (.ref I) t0 S0 u ft)) R s := by
  intro r
  induction r with
  | nil =>
    intro p j S0 u I oI s hr hp hu hS hnI hIX hLi H h1 h2
    have hpe : p = o.length := by have := congrArg List.length hr; rw [List.length_drop] at this; simp at this; omega
    have hnone : ∀ v, o[p]? ≠ some v := fun v q => by have := (List.getElem?_eq_some_iff.mp q).1; omega
    refine codeAny_builtin entry_spL ?_
    rw [Around.under_plainId plain_spL _]
    refine ea2_2 H.led fun m0 mg0 H0 hs0 => ?_
    refine sp_body H0 (hs0 _ (.tail _ (.head _))) hh (by omega) ?_
    refine nextF G H (.tail _ (.tail _ (.tail _ ha))) hA hh hfr hF.more.more.more (fun h0 => absurd h0 (hnone _)) (fun v hv => absurd hv (hnone _)) (fun v hv => absurd hv (hnone _)) ?_
    intro _ s' e a tm' H'
    refine ea1_1 H' fun tp H' => ?_
    have e0 : spv (ws0.drop j) [] p S0 = (none, p) := by cases ws0.drop j <;> rfl
    rw [e0] at h2
    exact h2 rfl s' e a _ _ _ (.inr rfl) ⟨tp, H'.del3.del3⟩
  | cons v r ih =>
    intro p j S0 u I oI s hr hp hu hS hnI hIX hLi H h1 h2
    have hlt : p < o.length := by have := congrArg List.length hr; rw [List.length_drop] at this; simp at this; omega
    have hv : o[p]? = some v := by
      have := congrArg (·[0]?) hr
      simpa using this
    have hr' : o.drop (p + 1) = r := by
      have := congrArg List.tail hr
      simpa using this
    have hvb := ho v (List.mem_of_getElem? hv)
    have hwl : wv.length = ws0.length := hwv.length
    refine codeAny_builtin entry_spL ?_
    rw [Around.under_plainId plain_spL _]
    refine ea2_2 H.led fun m0 mg0 H0 hs0 => ?_
    refine sp_body H0 (hs0 _ (.tail _ (.head _))) hh (by omega) ?_
    refine nextF G H (.tail _ (.tail _ (.tail _ ha))) hA hh hfr hF.more.more.more ?_ ?_ ?_ (fun q => by omega)
    · -- the row ends
      intro h0 s₁ H₁
      rw [hv] at h0
      cases h0
      refine ea1_1 H₁ fun tp H₁ => ?_
      have hit : s₁.heap.IsListIter I Wt j := ⟨oI, H₁.cells (I, .obj oI) (.tail _ (.head _)), hLi.1, hLi.2⟩
      have hl : s₁.heap.IsList Wt wv.toArray := H₁.seqL (.tail _ (.tail _ (.tail _ (.head _))))
      cases hd : ws0.drop j with
      | nil =>
        have hj : ws0.length ≤ j := List.drop_eq_nil_iff.mp hd
        have e0 : spv (ws0.drop j) (0 :: r) p S0 = (some S0, p + 1) := by rw [hd]; rfl
        rw [e0] at h1
        refine wpAny_pyNext_list_end hh hit hl (by simp; omega) fun h' he => ?_
        refine .inr (.inl ⟨rfl, rfl, hu hd, fun t s' hW => ?_⟩)
        exact h1 S0 rfl s' t ⟨tp, (hW _ _ (H₁.swap.lose (t' := s₁.toks) hnI hIX he)).del1⟩
      | cons x xs =>
        have hj : j < ws0.length := by
          rcases Nat.lt_or_ge j ws0.length with q | q
          · exact q
          · rw [List.drop_eq_nil_iff.mpr q] at hd; cases hd
        have e0 : spv (ws0.drop j) (0 :: r) p S0 = (none, p + 1) := by rw [hd]; rfl
        rw [e0] at h2
        refine ea1_1 (ints_at hwv j hj) fun tx hx => ?_
        refine wpAny_pyNext_list_item hit hl (by simpa using hx) fun h' hit' hs' => ?_
        refine ea1_3 hit' fun oI' q1 q2 q3 => ?_
        try clear hit'
        have H₂ := H₁.put (t' := s₁.toks) (c' := .obj oI') (.succ .zero) hs' q1 (LiO.plain ⟨q2, q3⟩)
        refine .inr (.inr ⟨by simp, _, _, H₂, fun s' e t tk msg' H' => ?_⟩)
        exact h2 rfl s' e t _ _ _ (.inr rfl) ⟨tp, H'.get2.del3.del3⟩
    · -- a number
      intro v' hv' h100 s₁ tk H₁
      rw [hv] at hv'; cases hv'
      refine ea2_2 H₁.led fun m1 mg1 HW1 hs1 => ?_
      have hit : s₁.heap.IsListIter I Wt j := ⟨oI, HW1.cells (I, .obj oI) (hs1 _ (.head _)), hLi.1, hLi.2⟩
      have hl : s₁.heap.IsList Wt wv.toArray := HW1.seqL (hs1 _ (.tail _ (.tail _ (.head _))))
      cases hd : ws0.drop j with
      | nil =>
        have hj : ws0.length ≤ j := List.drop_eq_nil_iff.mp hd
        have e0 : spv (ws0.drop j) (v :: r) p S0 = (none, p + 1) := by
          rw [hd]
          show (if v = 0 then _ else if v < 100 then _ else _) = _
          rw [if_neg (by omega), if_neg (by omega)]
        rw [e0] at h2
        refine ea1_1 H₁.fin fun tp HE => ?_
        refine wpAny_pyNext_list_end hh hit hl (by simp; omega) fun h' he => ?_
        have H₂ := HE.swap.lose (t' := s₁.toks) hnI hIX he
        refine .inr (.inr ⟨by simp, _, _, H₂, fun s' e t tk msg' H' => ?_⟩)
        exact h2 rfl s' e t _ _ _ (.inr rfl) ⟨tp, H'.get2.del3⟩
      | cons x xs =>
        have hj : j < ws0.length := by
          rcases Nat.lt_or_ge j ws0.length with q | q
          · exact q
          · rw [List.drop_eq_nil_iff.mpr q] at hd; cases hd
        have hx0 : ws0.getD j 0 = x ∧ ws0.drop (j + 1) = xs := by
          rw [List.drop_eq_getElem_cons hj] at hd
          injection hd with a1 a2
          exact ⟨by rw [List.getD_eq_getElem?_getD, List.getElem?_eq_getElem hj]; exact a1, a2⟩
        have hxm : x ∈ ws0 := List.mem_of_mem_drop (i := j) (by rw [hd]; exact .head _)
        have hxs := hws x hxm
        have e0 : spv (ws0.drop j) (v :: r) p S0 = spv (ws0.drop (j + 1)) r (p + 1) (S0 + (v - 100) * x) := by
          rw [hd, hx0.2]
          show (if v = 0 then _ else if v < 100 then _ else _) = _
          rw [if_neg (by omega), if_neg (by omega)]
        rw [e0] at h1 h2
        refine ea1_1 (ints_at hwv j hj) fun tx hx => ?_
        rw [hx0.1] at hx
        refine wpAny_pyNext_list_item hit hl (by simpa using hx) fun h' hit' hs' => ?_
        refine ea1_3 hit' fun oI' q1 q2 q3 => ?_
        try clear hit'
        have H₂ := H₁.put (t' := s₁.toks) (c' := .obj oI') .zero hs' q1 (LiO.plain ⟨q2, q3⟩)
        have hmul : ((v - 100) * x).natAbs < 2 ^ 20 := by
          rw [Int.natAbs_mul]
          have : (v - 100).natAbs * x.natAbs ≤ 256 * x.natAbs := Nat.mul_le_mul_right _ (by omega)
          omega
        simp only [List.length_cons] at hS
        refine .inl ⟨v - 100, tk, x, tx, rfl, rfl, by omega, by omega, plainId_quiet plain_spL _, ?_⟩
        exact ih (p + 1) (j + 1) _ true I oI' _ hr' hlt (fun _ => rfl) (by omega) hnI hIX ⟨q2, q3⟩ H₂ h1 h2
    · intro v' hv' h0 h100 s' e a H'
      rw [hv] at hv'; cases hv'
      have e0 : spv (ws0.drop j) (v :: r) p S0 = (none, p + 1) := by
        unfold spv
        rw [if_neg h0, if_pos h100]
      rw [e0] at h2
      refine ea1_1 H' fun tp H' => ?_
      exact h2 rfl s' e a _ _ _ (.inl rfl) ⟨tp, H'.del3.del3⟩
end
end
section
open PySem PySem.W PySem.W.X PyProof.Rows PySem.Calls
section
variable {w : World} {b : Shared} {X : List Addr} {l l' : List (Addr × Cell)} {lg : List (Nat × GenState)} {s : Shared} {A : Around} {Q E : Value → Shared → Prop} {env : Env} {L : Addr} {fr : List Env} {o : List Int} {P S LN LF aN aF : Addr} {gN gF n p i : Nat} {msg : Str} {tm : Tok}
theorem RowAt.perm (H : RowAt w b X o P S LN LF aN gN gF msg tm n p l lg s) (hp : l'.Perm l) : RowAt w b X o P S LN LF aN gN gF msg tm n p l' lg s := H.lift fun {m mg} Hm => Hm.perm (hp.append_left m)
theorem RowAt.sizeX (H : RowAt w b X o P S LN LF aN gN gF msg tm n p l lg s) : s.heap.objs.size ∉ X ∧ newIn b s.heap.objs.size := by
  refine ea2_2 H.led fun m mg HW _ => ?_
  exact ⟨HW.sizeX, HW.fresh⟩
theorem sp_row {Wt : Addr} {wv : List Value} {ws0 : List Int} (G : Glob w b X) (hA : A.depth + 12 < recursionLimit) (hh : A.handled = none) (hfr : A.frames = some fr) (hF : FrOk l fr) (ha : (aF, .gen gF) ∈ l) (ho : ∀ x ∈ o, 0 ≤ x ∧ x < 256)
    (hwv : IntsAre wv ws0) (hws : ∀ u ∈ ws0, u.natAbs < 2 ^ 10) (hne : ws0 ≠ []) (hp : p ≤ o.length) (hlen : o.length ≤ 100)
    (H : RowAt w b X o P S LN LF aN gN gF msg tm ((o.drop p).length + 1) p ((Wt, .seq "list" wv) :: l) lg s)
    (h1 : ∀ v, (spv ws0 (o.drop p) p 0).1 = some v → ∀ s' t, RowEnd b X P (spv ws0 (o.drop p) p 0).2 ((Wt, .seq "list" wv) :: l) lg s' → Q (.int v t) s')
    (h2 : (spv ws0 (o.drop p) p 0).1 = none → ∀ s' e a C f args, (C = .ref 52 ∨ C = .type "ValueError") → RowEnd b X P (spv ws0 (o.drop p) p 0).2 ((e, .exc (newIn b) f true C (.ref a)) :: (a, .seq "tuple" args) :: (Wt, .seq "list" wv) :: l) lg s' → E (.ref e) s') :
    wpAny (model prg w) A (call (.builtin "math.sumprod") [.ref aF, .ref Wt]) Q E s := by
  refine call_again plain_sp entry_sp (check_sp _ _) ?_
  refine ea2_2 H.led fun m0 mg0 H0 hs0 => ?_
  have hgen : s.heap.IsGen aF gF := H0.cells _ (hs0 _ (.tail _ ha))
  show wpAny _ A.in1 (pyIter (.ref aF) >>= fun i => holding [i] (pyIter (.ref Wt)) >>= fun c => mkInt 0 >>= fun z => newTuple z3 >>= fun f => again (.builtin "math.sumprod.loop" ⟨[i, c, z, .bool true, rawInt 0, .bool false, .bool true, f, .bool false], []⟩)) _ _ s
  refine wpAny_bind (wpAny_pyIter_gen hgen ?_)
  refine wpAny_bind (wpAny_holding (wpAny_pyIter_list (H0.seqL (hs0 _ (.head _))) ?_))
  refine wpAny_bind (wpAny_mkInt ?_)
  refine wpAny_bind (wpAny_newTuple ?_)
  have hX := H.sizeX
  have hLi : LiO { cls := .type "list_iterator", data := .fields #[.ref Wt, .int 0 0] } Wt 0 := ⟨rfl, rfl⟩
  have H1 := H.push (ob := { cls := .type "list_iterator", data := .fields #[.ref Wt, .int 0 0] }) (c := .obj { cls := .type "list_iterator", data := .fields #[.ref Wt, .int 0 0] }) (t' := s.toks) rfl (fun h' q => q) hLi.plain
  have H2 := H1.push (ob := seqObj "tuple" z3.toArray 0) (c := .seq "tuple" z3) (t' := s.toks + 1) rfl (fun h' q => ⟨0, q⟩) (by show "tuple" ≠ _; decide)
  refine wpAny_pure ⟨plainId_quiet plain_spL _, ?_⟩
  refine sp_loop (l := l) (ws0 := ws0) G hA hh hfr hF ha ho hwv hws (o.drop p) p 0 0 false _ _ _ rfl hp (fun q => absurd q (by simpa using hne)) (by rw [List.length_drop]; simp; omega) hX.2 hX.1 hLi (H2.perm (.swap ..)) ?_ ?_
  · intro v hv s' t HE
    exact h1 v hv s' t HE
  · exact h2
end
end
section
open PySem PySem.W PySem.W.X PyProof.Rows PySem.Calls
theorem sub_tuple_tuple : isSubtype (.type "tuple") (.type "tuple") = pure true := by rw [isSubtype_type]; kernel_rfl
theorem check_isn (a c d : Value) : checkBuiltinCall "isinstance.nested" ⟨[a, c, d], []⟩ = pure () := by kernel_rfl
theorem plain_isn : plainId "isinstance.nested" = true := by decide +kernel
section
variable {w : World} {b : Shared} {X : List Addr} {l l' : List (Addr × Cell)} {lg : List (Nat × GenState)} {s : Shared} {A : Around} {Q E : Value → Shared → Prop} {a c : Addr} {vs : List Value}
theorem r_isinst_tup {r : Value} (H : W b X l lg s) (hm : (a, .seq "list" vs) ∈ l) (ht : (c, .seq "tuple" [.type "list", r]) ∈ l) (h : Q (.bool true) s) : wpAny (model prg w) A (call (.builtin "isinstance") [.ref a, .ref c]) Q E s := by
  refine ea1_1 (H.cells _ hm : ∃ n, s.heap.get? a = some (seqObj "list" vs.toArray n)) fun n1 h1 => ?_
  refine ea1_1 (H.cells _ ht : ∃ n, s.heap.get? c = some (seqObj "tuple" [.type "list", r].toArray n)) fun n2 h2 => ?_
  have T1 : s.TypeIs (.ref a) "list" := ⟨_, h1, rfl⟩
  have T2 : s.TypeIs (.ref c) "tuple" := ⟨_, h2, rfl⟩
  refine call_isinstance_of ?_
  unfold Builtin.«isinstance.nested»
  refine wpAny_bind (m := typeOf (.ref a)) (wpAny_typeOf T1 ?_)
  show wpAny _ _ (if (Value.type "list" == Value.ref c) = true then _ else _) _ _ s
  rw [if_neg (by intro q; cases eq_of_beq q)]
  refine wpAny_bind (m := typeOf (.ref c)) (wpAny_typeOf T2 ?_)
  show wpAny _ _ (if (Value.type "tuple" == Value.type "type") = true then _ else _) _ _ s
  rw [if_neg (by decide)]
  refine wpAny_bind (m := Builtin.Builtins.unionMembers (.ref c)) ?_
  unfold Builtin.Builtins.unionMembers
  refine wpAny_bind (wpAny_typeOf T2 ?_)
  rw [if_neg (by decide)]
  refine wpAny_pure ?_
  refine wpAny_bind (wpAny_isInstance T2 sub_tuple_tuple ?_)
  rw [if_pos rfl]
  dsimp only
  rw [if_neg (by decide)]
  refine wpAny_bind (wpAny_seqItems h2 rfl ?_)
  dsimp only [Option.getD_some]
  rw [← Array.forIn_toList]
  refine wpAny_bind ?_
  show wpAny _ _ (forIn [Value.type "list", r] (none, ()) _) _ _ s
  rw [List.forIn_cons]
  refine wpAny_bind (wpAny_bind ?_)
  refine call_again plain_isn entry_isinstance_nested (check_isn _ _ _) ?_
  unfold Builtin.«isinstance.nested»
  refine wpAny_bind (m := typeOf (.ref a)) (wpAny_typeOf T1 ?_)
  show wpAny _ _ (if (Value.type "list" == Value.type "list") = true then _ else _) _ _ s
  rw [if_pos (by decide)]
  refine wpAny_bind (wpAny_rule (wpAny_pure ?_))
  refine wpAny_bind (wpAny_truthy_bool ?_)
  rw [if_pos rfl]
  refine wpAny_bind (wpAny_pure (wpAny_pure ?_))
  refine wpAny_pure ?_
  exact wpAny_pure h
end
end
section
open PySem PySem.W PySem.W.X PyProof.Rows PySem.Calls
noncomputable def fsStep (ps : List UInt64) (x : Int) : List UInt64 := if Float64.isZero (Float64.fsumAdd ps (Float64.ofInt x)).2 then (Float64.fsumAdd ps (Float64.ofInt x)).1 else (Float64.fsumAdd ps (Float64.ofInt x)).1 ++ [(Float64.fsumAdd ps (Float64.ofInt x)).2]
noncomputable def fsGo : List UInt64 → List Int → List UInt64
  | ps, [] => ps
  | ps, x :: xs => fsGo (fsStep ps x) xs
noncomputable def fsOk : List UInt64 → List Int → Bool
  | _, [] => true
  | ps, x :: xs => Float64.isFinite (Float64.fsumAdd ps (Float64.ofInt x)).2 && decide ((fsStep ps x).length ≤ 100) && fsOk (fsStep ps x) xs
section
variable {w : World} {b : Shared} {X : List Addr} {l l' : List (Addr × Cell)} {lg : List (Nat × GenState)} {A : Around} {Q E : Value → Shared → Prop}
theorem fsumL_loop {R : Result → Shared → Prop} {Wt st : Addr} {wv : List Value} {ws0 : List Int} (hh : A.handled = none) (hwv : IntsAre wv ws0) (hws : ∀ u ∈ ws0, u.natAbs < 2 ^ 10) :
    ∀ (ws : List Int) (j : Nat) (ps : List UInt64) (I pt : Addr) (oI : Obj) (s : Shared), ws0.drop j = ws → fsOk ps ws = true → newIn b I → I ∉ X → LiO oI Wt j →
    W b X ((I, .obj oI) :: (pt, .seq "tuple" (bits ps)) :: (st, .seq "tuple" (bits [Float64.zero false, Float64.zero false])) :: (Wt, .seq "list" wv) :: l) lg s →
    (∀ s' t, W b X ((Wt, .seq "list" wv) :: l) lg s' → R (.ok (.ret (.float (Float64.fsumEnd (fsGo ps ws)) t))) s') →
    codeAny (model prg w) A (.builtin "math.fsum.loop" ⟨[.ref I, .ref pt, .ref st], []⟩) R s := by
  intro ws
  induction ws with
  | nil =>
    intro j ps I pt oI s hd hok hnI hIX hLi H h
    have hj : ws0.length ≤ j := List.drop_eq_nil_iff.mp hd
    have hwl : wv.length = ws0.length := hwv.length
    refine codeAny_builtin entry_fsumL ?_
    rw [Around.under_plainId plain_fsumL _]
    refine fsum_body H (.tail _ (.head _)) (.tail _ (.tail _ (.head _))) ?_
    have hit : s.heap.IsListIter I Wt j := ⟨oI, H.cells (I, .obj oI) (.head _), hLi.1, hLi.2⟩
    have hl : s.heap.IsList Wt wv.toArray := H.seqL (.tail _ (.tail _ (.tail _ (.head _))))
    refine wpAny_pyNext_list_end hh hit hl (by simp; omega) fun h' he => ?_
    exact h _ _ ((H.lose (t' := s.toks) hnI hIX he).tok _).tail.tail
  | cons x xs ih =>
    intro j ps I pt oI s hd hok hnI hIX hLi H h
    have hj : j < ws0.length := by
      rcases Nat.lt_or_ge j ws0.length with q | q
      · exact q
      · rw [List.drop_eq_nil_iff.mpr q] at hd; cases hd
    have hx0 : ws0.getD j 0 = x ∧ ws0.drop (j + 1) = xs := by
      rw [List.drop_eq_getElem_cons hj] at hd
      injection hd with a1 a2
      exact ⟨by rw [List.getD_eq_getElem?_getD, List.getElem?_eq_getElem hj]; exact a1, a2⟩
    have hxm : x ∈ ws0 := List.mem_of_mem_drop (i := j) (by rw [hd]; exact .head _)
    have hxs := hws x hxm
    unfold fsOk at hok
    simp only [Bool.and_eq_true, decide_eq_true_eq] at hok
    refine ea0_2 hok fun q_1 hok => ?_
    obtain ⟨hf, hlen⟩ := q_1
    refine ea1_1 (ints_at hwv j hj) fun tx hx => ?_
    rw [hx0.1] at hx
    refine codeAny_builtin entry_fsumL ?_
    rw [Around.under_plainId plain_fsumL _]
    refine fsum_body H (.tail _ (.head _)) (.tail _ (.tail _ (.head _))) ?_
    have hit : s.heap.IsListIter I Wt j := ⟨oI, H.cells (I, .obj oI) (.head _), hLi.1, hLi.2⟩
    have hl : s.heap.IsList Wt wv.toArray := H.seqL (.tail _ (.tail _ (.tail _ (.head _))))
    refine wpAny_pyNext_list_item hit hl (by simpa using hx) fun h' hit' hs' => ?_
    refine ea1_3 hit' fun oI' q1 q2 q3 => ?_
    try clear hit'
    have H₂ := H.put (t' := s.toks) (c' := .obj oI') .zero hs' q1 (LiO.plain ⟨q2, q3⟩)
    dsimp only
    refine PySem.Flt.realArg_int hh (fun q => absurd q ?_) fun _ => ?_
    · show ¬ (2 ^ 1024 - 2 ^ 970 ≤ x.natAbs)
      have hb : 2000 < 2 ^ 1024 - 2 ^ 970 := by decide +kernel
      intro q
      exact absurd (Nat.lt_of_lt_of_le hb q) (by omega)
    refine ⟨hf, hlen, plainId_quiet plain_fsumL _, ?_⟩
    have H₃ := (H₂.tok (s.toks + 1)).push (o := seqObj "tuple" (bits (fsStep ps x)).toArray 0) (c := .seq "tuple" (bits (fsStep ps x))) (t' := s.toks + 1) rfl (fun h' q => ⟨0, q⟩) (by show "tuple" ≠ _; decide)
    exact ih (j + 1) (fsStep ps x) I _ oI' _ hx0.2 hok hnI hIX ⟨q2, q3⟩ H₃.swap.del2 h
theorem fsum_list {Wt : Addr} {wv : List Value} {ws : List Int} {s : Shared} (hh : A.handled = none) (hwv : IntsAre wv ws) (hws : ∀ u ∈ ws, u.natAbs < 2 ^ 10) (hok : fsOk [] ws = true) (H : W b X ((Wt, .seq "list" wv) :: l) lg s)
    (h : ∀ s' t, W b X ((Wt, .seq "list" wv) :: l) lg s' → Q (.float (Float64.fsumEnd (fsGo [] ws)) t) s') : wpAny (model prg w) A (call (.builtin "math.fsum") [.ref Wt]) Q E s := by
  refine call_again plain_fsum entry_fsum (check_fsum _) ?_
  show wpAny _ A.in1 (pyIter (.ref Wt) >>= fun i => newTuple (bits []) >>= fun a => newTuple (bits [Float64.zero false, Float64.zero false]) >>= fun c => again (.builtin "math.fsum.loop" ⟨[i, a, c], []⟩)) _ _ s
  refine wpAny_bind (wpAny_pyIter_list (H.seqL (.head _)) ?_)
  refine wpAny_bind (wpAny_newTuple ?_)
  refine wpAny_bind (wpAny_newTuple ?_)
  have hLi : LiO { cls := .type "list_iterator", data := .fields #[.ref Wt, .int 0 0] } Wt 0 := ⟨rfl, rfl⟩
  have H1 := H.push (o := { cls := .type "list_iterator", data := .fields #[.ref Wt, .int 0 0] }) (c := .obj { cls := .type "list_iterator", data := .fields #[.ref Wt, .int 0 0] }) (t' := s.toks) rfl (fun h' q => q) hLi.plain
  have H2 := H1.push (o := seqObj "tuple" (bits []).toArray 0) (c := .seq "tuple" (bits [])) (t' := s.toks) rfl (fun h' q => ⟨0, q⟩) (by show "tuple" ≠ _; decide)
  have H3 := H2.push (o := seqObj "tuple" (bits [Float64.zero false, Float64.zero false]).toArray 0) (c := .seq "tuple" (bits [Float64.zero false, Float64.zero false])) (t' := s.toks) rfl (fun h' q => ⟨0, q⟩) (by show "tuple" ≠ _; decide)
  refine wpAny_pure ⟨plainId_quiet plain_fsumL _, fsumL_loop (l := l) (lg := lg) hh hwv hws ws 0 [] _ _ _ _ rfl hok H.fresh H.sizeX hLi ?_ ?_⟩
  · exact H3.get2.perm ((List.Perm.swap ..).cons _)
  · exact fun s' t H' => h s' t H'
end
end
section
open PySem PySem.W PySem.W.X PyProof.Rows PySem.Calls
noncomputable def unlike : Str := "data and weights must be the same length"
noncomputable def noSum : Str := "sum of weights must be non-zero"
noncomputable def fmeanWF (ws : List Int) (r : Option Int) : Out := match r with
  | none => .refused unlike
  | some v => if ws.sum = 0 then .refused noSum else .told (.one (.f (fdiv v ws.sum)))
theorem spv_small {ws0 : List Int} (hws : ∀ u ∈ ws0, u.natAbs < 2 ^ 10) : ∀ (r ws : List Int) (p : Nat) (acc v : Int), (∀ x ∈ r, 0 ≤ x ∧ x < 256) → (∀ u ∈ ws, u ∈ ws0) → (spv ws r p acc).1 = some v → v.natAbs ≤ acc.natAbs + 2 ^ 20 * r.length
  | [], ws, p, acc, v, _, _, h => by cases ws <;> cases h
  | x :: r, ws, p, acc, v, hr, hs, h => by
    have hx := hr x (.head _)
    unfold spv at h
    by_cases h0 : x = 0
    · rw [if_pos h0] at h
      by_cases h1 : ws = []
      · rw [if_pos h1] at h
        injection h with h; omega
      · rw [if_neg h1] at h; cases h
    · rw [if_neg h0] at h
      by_cases h1 : x < 100
      · rw [if_pos h1] at h; cases h
      · rw [if_neg h1] at h
        cases ws with
        | nil => cases h
        | cons u ws =>
          have hu := hws u (hs u (.head _))
          have hmul : ((x - 100) * u).natAbs < 2 ^ 20 := by
            rw [Int.natAbs_mul]
            have : (x - 100).natAbs * u.natAbs ≤ 256 * u.natAbs := Nat.mul_le_mul_right _ (by ktn_no "om")
            omega
          have := spv_small hws r ws (p + 1) _ v (fun y hy => hr y (.tail _ hy)) (fun y hy => hs y (.tail _ hy)) h
          simp only [List.length_cons]
          omega
section
variable {w : World} {b : Shared} {X : List Addr} {l l' : List (Addr × Cell)} {lg lg' : List (Nat × GenState)} {s : Shared} {A : Around} {Q E : Value → Shared → Prop} {fr : List Env} {o : List Int} {P S LN LF aN aF : Addr} {gN gF n p q : Nat} {msg : Str} {tm : Tok}
theorem r_divIF {p : Int} {q : Int} {t u : Tok} (H : W b X l lg s) (hq : q ≠ 0) (hp : p.natAbs < 2 ^ 50) (hs : q.natAbs < 2 ^ 50) (h : ∀ t s', t ≠ 0 → W b X l lg s' → Q (.float (fdiv p q) t) s') : wpAny (model prg w) A (binaryOp .Div (.int p t) (.float (Float64.ofInt q) u)) Q E s := by
  refine ea2_2 (FL.int_dec (i := p) (by ktn_no "om")) fun m e hd _ => ?_
  refine PySem.AutoFloatOps.truediv_if_2 (by unfold Float64.isInf; rw [hd]; simp) (by rw [FL.isZero_int (by ktn_no "om")]; simpa using hq) ?_
  rw [FL.div_int hp hs hq]
  exact h _ _ (Nat.ne_of_gt H.pos) (H.tok _)
theorem r_tuple {elts : List Expr} {k : Nat} {pos : Pos} {env : Env} (G : Glob w b X) (h : wpAny (model prg w) A (spliced (backTo pos (starEach elts env))) (fun vs s₁ => ∃ m mg, W b X m mg s₁ ∧ vs.length ≤ 10000 ∧ ∀ T s', newIn b T → W b X ((T, .seq "tuple" vs) :: m) mg s' → Q (.ref T) s') E s) : wpAny (model prg w) A (eval (.Tuple elts k pos) env) Q E s := by
  refine wpAny_Tuple_spliced (wpAny_mono h (fun vs s₁ h₁ => ?_) fun _ _ x => x)
  refine ea2_3 h₁ fun m mg H hz h => ?_
  try clear h₁
  refine ⟨by rw [sizeLine_eq]; omega, ?_⟩
  exact h _ _ H.fresh (H.push (o := { cls := .type "tuple", data := .seq vs.toArray }) (t' := s₁.toks) rfl (fun h' q => ⟨0, q⟩) (by show "tuple" ≠ _; decide))
set_option maxRecDepth 10000 in
set_option maxHeartbeats 4000000 in
theorem ok_fmeanW {Wt : Addr} {wv : List Value} {ws : List Int} (G : Glob w b X) (hA : A.depth + 30 < recursionLimit) (hh : A.handled = none) (hfr : A.frames = some fr) (hF : FrOk l fr) (ha : (aF, .gen gF) ∈ l)
    (hp : p ≤ o.length) (hlen : o.length ≤ 100) (ho : ∀ x ∈ o, 0 ≤ x ∧ x < 256) (hwv : IntsAre wv ws) (hws : ∀ u ∈ ws, u.natAbs < 2 ^ 10) (hne : ws ≠ []) (hok : fsOk [] ws = true) (hfe : Float64.fsumEnd (fsGo [] ws) = Float64.ofInt ws.sum) (hsum : ws.sum.natAbs < 2 ^ 40)
    (H : RowAt w b X o P S LN LF aN gN gF msg tm ((o.drop p).length + 1) p ((Wt, .seq "list" wv) :: l) lg s)
    (h : Post b X P (spv ws (o.drop p) p 0).2 l lg Q E (fmeanWF ws (spv ws (o.drop p) p 0).1)) : wpAny (model prg w) A (call (.ref 71) [.ref aF, .ref Wt]) Q E s := by
  refine ea5_4 H fun tp ov xv gsF gsN hf hg hp' H => ?_
  refine ea0_3 (kd_fmean w) fun kn kd kw => ?_
  refine call_cells (vs := [some (.ref aF), some (.ref Wt), none, none, none, none]) G H (fn_fmean w) (by kernel_rfl) (cl_fmean w) (bd_fmean2 w _ _) ?_ (bl_fmean w _ _) (by ktn_no "om") ?_
  · intro x hx
    rcases List.mem_cons.mp hx with rfl | hx
    · exact .inl kd
    · rcases List.mem_cons.mp hx with rfl | hx
      · exact .inl kw
      · cases hx
  intro L env s₁ EV hsc hcode hqual hcells hnL H₁ hcel
  have hh' : (A.deeper env).handled = none := hh
  have hfr' := A_frames (env := env) hfr
  refine wpAny_execs_cons ?_
  ktn_no "go"
  refine is_none_ne (by intro q; cases q) ?_
  ktn_no "go"
  refine ite_n (by decide) ?_
  ktn_no "go"
  refine r_tuple G ?_
  ktn_no "go"
  refine ex2 _ _ ⟨by assumption, by simp, fun T s' hnT HT => ?_⟩
  ktn_no "go"
  refine r_isinst_tup HT (.tail _ (.tail _ (.tail _ (.tail _ (.tail _ (.tail _ (.head _))))))) (.head _) ?_
  ktn_no "go"
  refine ite_n (by decide) ?_
  have H₂ := HT.tail
  ktn_no "go"
  refine wpAny_Try_except ?_
  ktn_no "go"
  have H₃ : W b X (cellsF P S LN LF aN gN msg p tp tm ov xv ((Wt, .seq "list" wv) :: (L, .ns nmM [some (.ref aF), some (.ref Wt), none, none, none, none]) :: l)) ((gF, gsF) :: (gN, gsN) :: lg) s' :=
    H₂.perm (l' := [_, _, _, _, _] ++ _ :: l) List.perm_middle
  refine sp_row (fr := env :: fr) (l := (L, .ns nmM [some (.ref aF), some (.ref Wt), none, none, none, none]) :: l) G (by show A.depth + 1 + 12 < _; ktn_no "om") hh' hfr' (FrOk.cons EV.kind EV.frame (.head _) hF.more) (.tail _ ha) ho hwv hws hne hp hlen ⟨tp, ov, xv, gsF, gsN, hf, hg, hp', H₃⟩ ?_ ?_
  · intro v hv s₄ tv HE
    refine ea1_1 HE fun tp' HE => ?_
    have hvb := spv_small hws (o.drop p) ws p 0 v (fun x hx => ho x (List.mem_of_mem_drop hx)) (fun _ x => x) hv
    rw [List.length_drop] at hvb
    rw [hv] at h
    unfold fmeanWF at h
    dsimp only at h
    ktn_no "go"
    refine fsum_list hh' hwv hws hok (W.swap (by assumption)) ?_
    intro s₅ t5 H₅
    rw [hfe]
    ktn_no "go"
    refine truthy_float ?_
    rw [FL.isZero_int (by ktn_no "om")]
    by_cases hz : ws.sum = 0
    · rw [if_pos hz] at h
      refine ite_t (by simp [hz]) ?_
      ktn_no "go"
      refine r_raiseS G EV (by assumption) (by ktn_no "nth") hh' ?_
      ktn_no "go"
      refine ex2 _ _ ⟨by assumption, by rw [sizeLine_eq]; simp, fun e a s₆ H₆ => ?_⟩
      refine leave H₆.del2 hfr hF EV.kind EV.frame fun s' H' => h e a _ _ s' H'
    · rw [if_neg hz] at h
      refine ite_n (by simp [hz]) ?_
      ktn_no "go"
      refine r_divIF (by assumption) hz (by ktn_no "om") (by ktn_no "om") ?_
      intro tq' s₇ htz H₇
      exact h _ _ (.f _ _ htz) ⟨tp', H₇.tail.del1⟩
  · intro hv s₄ e a C f args hC HE
    refine ea1_1 HE fun tp' HE => ?_
    rw [hv] at h
    have hex : exmOne (KK w) C (.type "ValueError") = some true := by
      rcases hC with rfl | rfl
      · kernel_rfl
      · kernel_rfl
    refine r_caught HE (by ktn_no "put") hfr' (FrOk.cons EV.kind EV.frame (by ktn_no "mem") hF.more.more.more.more.more) EV.frame ⟨env, .head _, EV.frame⟩ ?_
    intro s₅ H₅
    refine r_handle (f := true) (k := true) (C := C) (args := .ref a) (c := .type "ValueError") (bb := true) G hex ?_
    ktn_no "go"
    refine ⟨rfl, (ex2 _ _ ⟨H₅, .tail _ (.head _), ?_⟩)⟩
    refine ite_t rfl ?_
    intro s₆ H₆
    ktn_no "go"
    refine r_raiseSh (d := e) G EV H₆ (by ktn_no "nth") rfl ?_
    ktn_no "go"
    refine ex6 _ _ _ _ _ _ ⟨by assumption, .tail _ (.head _), by rw [sizeLine_eq]; simp, fun e' a' s₇ H₇ => ?_⟩
    unfold notedBy
    refine wp_note (fr := env :: fr) H₇ .zero hfr' (FrOk.cons EV.kind EV.frame (by ktn_no "mem") hF.more.more.more.more.more.more.more) EV.frame ⟨env, .head _, EV.frame⟩ fun s₈ H₈ => ?_
    refine wp_cameBack H₈ (.head _) fun s₉ H₉ => ?_
    exact leave H₉.del3.del3.del3 hfr hF EV.kind EV.frame fun s' H' => h e' a' _ _ s' H'
end
end
section
open PySem PySem.W PySem.W.X PyProof.Rows PySem.Calls
theorem fn_weights (w : World) : FnOk w 156 ["turn"] [] := ⟨by kernel_rfl, by kernel_rfl, by kernel_rfl, by kernel_rfl, by kernel_rfl, by kernel_rfl, by kernel_rfl, by kernel_rfl⟩
noncomputable def wts (turn : Nat) : List Int := if turn < 7 then [2, 1] else if turn % 4 = 0 then [1, 3, 4] else if turn % 4 = 1 then [5] else if turn % 4 = 2 then [2, -2] else [2, 1]
theorem wts_ok (turn : Nat) : (∀ u ∈ wts turn, u.natAbs < 2 ^ 10) ∧ wts turn ≠ [] ∧ fsOk [] (wts turn) = true ∧ Float64.fsumEnd (fsGo [] (wts turn)) = Float64.ofInt (wts turn).sum ∧ (wts turn).sum.natAbs < 2 ^ 40 := by
  unfold wts
  split
  · exact ⟨by decide, by decide, by decide +kernel, by decide +kernel, by decide⟩
  · split
    · exact ⟨by decide, by decide, by decide +kernel, by decide +kernel, by decide⟩
    · split
      · exact ⟨by decide, by decide, by decide +kernel, by decide +kernel, by decide⟩
      · split
        · exact ⟨by decide, by decide, by decide +kernel, by decide +kernel, by decide⟩
        · exact ⟨by decide, by decide, by decide +kernel, by decide +kernel, by decide⟩
theorem r_neg {w : World} {b : Shared} {X : List Addr} {l : List (Addr × Cell)} {lg : List (Nat × GenState)} {s : Shared} {A : Around} {Q E : Value → Shared → Prop} {p : Int} {t : Tok} (H : W b X l lg s) (h : ∀ t s', W b X l lg s' → Q (.int (-p) t) s') : wpAny (model prg w) A (unaryOp .USub (.int p t)) Q E s := PyProof.Rows.neg_int (h _ _ (H.tok _))
section
variable {w : World} {b : Shared} {X : List Addr} {l l' : List (Addr × Cell)} {lg lg' : List (Nat × GenState)} {s : Shared} {A : Around} {Q E : Value → Shared → Prop}
set_option maxRecDepth 10000 in
set_option maxHeartbeats 4000000 in
theorem ok_weights {turn : Nat} {tt : Tok} (G : Glob w b X) (H : W b X l lg s) (hA : A.depth < recursionLimit) (h : ∀ Wt wv s', IntsAre wv (wts turn) → newIn b Wt → W b X ((Wt, .seq "list" wv) :: l) lg s' → Q (.ref Wt) s') :
    wpAny (model prg w) A (call (.ref 156) [.int (turn : Int) tt]) Q E s := by
  refine call_def ["turn"] [] (nm := ["turn"]) (vs := [some (.int (turn : Int) tt)]) rfl rfl G H (fn_weights w) (by kernel_rfl) (by kernel_rfl) (by kernel_rfl) rfl hA ?_
  intro L env s₁ EV hn H₁
  refine body_cut fun K0 F0 hR0 => ?_
  refine execs_cut ?_
  intro K1 hK1 hR1
  ktn_no "ho"
  refine r_ite (fun hc => ?_) (fun hc => ?_)
  · have hc' : (turn : Int) < 7 := by simpa using hc
    ktn_no "ho"
    refine ex2 _ _ ⟨by assumption, by simp, fun T s' hnT HT => ?_⟩
    ktn_no "ho"
    refine h T _ s' ?_ hnT HT.del1
    unfold wts
    rw [if_pos (by ktn_no "om")]
    exact .cons _ _ (.cons _ _ .nil)
  · have hc' : ¬ (turn : Int) < 7 := by simpa using hc
    have hw : wts turn = if turn % 4 = 0 then [1, 3, 4] else if turn % 4 = 1 then [5] else if turn % 4 = 2 then [2, -2] else [2, 1] := by
      unfold wts
      rw [if_neg (by ktn_no "om")]
    ktn_no "ho"
    refine ex2 _ _ ⟨by assumption, by simp, fun T1 s' hn1 H1 => ?_⟩
    ktn_no "ho"
    refine ex2 _ _ ⟨by assumption, by simp, fun T2 s' hn2 H2 => ?_⟩
    ktn_no "ho"
    refine r_neg (by assumption) ?_
    intro _ _ _
    ktn_no "ho"
    refine ex2 _ _ ⟨by assumption, by simp, fun T3 s' hn3 H3 => ?_⟩
    ktn_no "ho"
    refine ex2 _ _ ⟨by assumption, by simp, fun T4 s' hn4 H4 => ?_⟩
    ktn_no "ho"
    refine ex2 _ _ ⟨by assumption, by simp, fun T5 s' hn5 H5 => ?_⟩
    ktn_no "ho"
    rename_i H6
    have hm : (turn : Int) % 4 = 0 ∨ (turn : Int) % 4 = 1 ∨ (turn : Int) % 4 = 2 ∨ (turn : Int) % 4 = 3 := by ktn_no "om"
    rcases hm with q | q | q | q
    · rw [q]
      refine r_item (H6.seqL (.head _)) (by decide) (by decide) rfl ?_
      ktn_no "ho"
      refine h T1 _ _ ?_ hn1 H6.tail.tail.tail.tail.del1
      rw [hw, if_pos (by ktn_no "om")]; exact .cons _ _ (.cons _ _ (.cons _ _ .nil))
    · rw [q]
      refine r_item (H6.seqL (.head _)) (by decide) (by decide) rfl ?_
      ktn_no "ho"
      refine h T2 _ _ ?_ hn2 H6.tail.tail.tail.del1.del1
      rw [hw, if_neg (by ktn_no "om"), if_pos (by ktn_no "om")]; exact .cons _ _ .nil
    · rw [q]
      refine r_item (H6.seqL (.head _)) (by decide) (by decide) rfl ?_
      ktn_no "ho"
      refine h T3 _ _ ?_ hn3 H6.tail.tail.del1.del1.del1
      rw [hw, if_neg (by ktn_no "om"), if_neg (by ktn_no "om"), if_pos (by ktn_no "om")]; exact .cons _ _ (.cons _ _ .nil)
    · rw [q]
      refine r_item (H6.seqL (.head _)) (by decide) (by decide) rfl ?_
      ktn_no "ho"
      refine h T4 _ _ ?_ hn4 H6.tail.del1.del1.del1.del1
      rw [hw, if_neg (by ktn_no "om"), if_neg (by ktn_no "om"), if_neg (by ktn_no "om")]; exact .cons _ _ (.cons _ _ .nil)
end
end
section
open PySem PySem.W PySem.W.X PyProof.Rows PySem.Calls
noncomputable abbrev nmD : List Str := ["stream", "turn", "kind", "row"]
noncomputable abbrev glD : List Str := ["_law_numbers", "_fail_neg", "str", "fmean", "median", "median_low", "median_high", "quantiles", "_law_weights"]
theorem fn_deed (w : World) : FnOk w 163 nmD glD := ⟨by kernel_rfl, by kernel_rfl, by kernel_rfl, by kernel_rfl, by kernel_rfl, by kernel_rfl, by kernel_rfl, by kernel_rfl⟩
noncomputable def msgOf (turn : Nat) : Str := if turn % 3 = 0 then "negative value" else "row " ++ Str.ofString (toString (turn : Int))
noncomputable def deedOf (o : List Int) (p turn kind : Nat) : Out × Nat :=
  if kind = 0 then (outOf (msgOf turn) fmeanF (scan (o.drop p) p), (scan (o.drop p) p).2.2)
  else if kind = 1 then (outOf (msgOf turn) medF (scan (o.drop p) p), (scan (o.drop p) p).2.2)
  else if kind = 2 then (outOf (msgOf turn) medLowF (scan (o.drop p) p), (scan (o.drop p) p).2.2)
  else if kind = 3 then (outOf (msgOf turn) medHighF (scan (o.drop p) p), (scan (o.drop p) p).2.2)
  else if kind = 4 then (outOf (msgOf turn) (quantF 3 exclAt) (scan (o.drop p) p), (scan (o.drop p) p).2.2)
  else if kind = 5 then (outOf (msgOf turn) (quantF 6 inclAt) (scan (o.drop p) p), (scan (o.drop p) p).2.2)
  else (fmeanWF (wts turn) (spv (wts turn) (o.drop p) p 0).1, (spv (wts turn) (o.drop p) p 0).2)
section
variable {w : World} {b : Shared} {X : List Addr} {l l' : List (Addr × Cell)} {lg lg' : List (Nat × GenState)} {s : Shared} {A : Around} {Q E : Value → Shared → Prop} {fr : List Env} {o : List Int} {P S LN LF aN aF L a : Addr} {gN gF n p q : Nat} {msg : Str} {tm : Tok} {env : Env}
theorem Post.leave {nm : List Str} {vs : List (Option Value)} {c : Addr × Cell} {out : Out} (h : Post b X P q l lg Q E out) (hfr : A.frames = some fr) (hF : FrOk l fr) (hk : env.scope.kind = .function) (hL : env.frame = some L) :
    Post b X P q (c :: (L, .ns nm vs) :: l) lg Q (fun e s'' => wpAny (model prg w) (A.deeper env) (leaving env e) (fun _ s3 => E e s3) (fun e' s3 => E e' s3) s'') out := by
  cases out with
  | told an =>
    cases an with
    | one n => exact fun v s' hv H => h v s' hv (by obtain ⟨tp, H⟩ := H; exact ⟨tp, H.del1.del1⟩)
    | many ns => exact fun T vs s' hv hn H => h T vs s' hv hn (by obtain ⟨tp, H⟩ := H; exact ⟨tp, H.del2.del2⟩)
  | refused m => exact fun e a t k s' H => leaveR (by obtain ⟨tp, H⟩ := H; exact ⟨tp, H.del3⟩) hfr hF hk hL fun s'' H'' => h e a t k s'' H''
  | fin m => exact fun e a t k s' H => leaveR (by obtain ⟨tp, H⟩ := H; exact ⟨tp, H.del3⟩) hfr hF hk hL fun s'' H'' => h e a t k s'' H''
/-- a generator def of the written part -/
theorem call_genK (ps others : List Str) {nm gl : List Str} {args vals : List Value} {vs : List (Option Value)} (hnm : ps ++ others = nm) (hvs : (vals.map some ++ others.map fun _ => none) = vs) (G : Glob w b X) (H : W b X l lg s) (f : FnOk w a nm gl) (hc : noCells (fdOf w a).scope = true) (hg : (fdOf w a).scope.isGenerator = true)
    (hb : ∀ S, peek (KK w) S (bindArgs (fdOf w a) ⟨args, []⟩) = some (ps.zip vals)) (hlen : ps.length = vals.length) (hA : A.depth < recursionLimit)
    (h : ∀ L env ga g s', EnvOk env L nm gl → env.scope = (fdOf w a).scope → newIn b L → W b X ((ga, .gen g) :: (L, .ns nm vs) :: l) ((g, .fresh (.func (bodyOf w a) env)) :: lg) s' → Q (.ref ga) s') :
    wpAny (model prg w) A (call (.ref a) args) Q E s := by
  refine ea1_2 (Option.map_eq_some_iff.mp f.at_) fun o ho hod => ?_
  exact call_genfn (args := ⟨args, []⟩) ps others hnm hvs G H (G.at_ H ho) hod (codeRec_of (G.in_ H) f.code) f.sc f.co f.gl f.bl f.body hc hg (PySem.W.kp_binds (G.in_ H) hb) hlen hA fun L env ga g s' EV hs _ hn H' => h L env ga g s' EV hs hn H'
end
end
section
open PySem PySem.W PySem.W.X PyProof.Rows PySem.Calls
theorem bd_numbers (w : World) (v : Value) : ∀ S, peek (KK w) S (bindArgs (fdOf w 149) ⟨[v], []⟩) = some ((["stream"] : List Str).zip [v]) := fun S => by kernel_rfl
noncomputable def dfN (w : World) : Value := match (fdOf w 63).defaults with
  | .ref a => match (KK w).lookup a with
    | some ⟨_, _, .seq xs _, _⟩ => xs.getD 0 .none
    | _ => .none
  | _ => .none
noncomputable def tokOf : Value → Tok | .str _ t => t | _ => 0
theorem bd_fail1 (w : World) (v : Value) : ∀ S, peek (KK w) S (bindArgs (fdOf w 63) ⟨[v], []⟩) = some ((["values", "errmsg"] : List Str).zip [v, .str "negative value" (tokOf (dfN w))]) := fun S => by kernel_rfl
theorem bd_fail2 (w : World) (v u : Value) : ∀ S, peek (KK w) S (bindArgs (fdOf w 63) ⟨[v, u], []⟩) = some ((["values", "errmsg"] : List Str).zip [v, u]) := fun S => by kernel_rfl
section
variable {w : World} {b : Shared} {X : List Addr} {l l' : List (Addr × Cell)} {lg lg' : List (Nat × GenState)} {s : Shared} {A : Around} {Q E : Value → Shared → Prop} {fr : List Env} {o : List Int} {P S LN LF aN aF L a : Addr} {gN gF n p q : Nat} {msg : Str} {tm : Tok} {env : Env}
theorem r_str_int {k : Int} {t : Tok} (H : W b X l lg s) (h0 : 0 ≤ k) (h1 : k < 10 ^ 6) (h : ∀ t s', W b X l lg s' → Q (.str (Str.ofString (toString k)) t) s') : wpAny (model prg w) A (call (.type "str") [.int k t]) Q E s :=
  str_of_int_fit (N := 10 ^ 6) (by rw [if_neg (by ktn_no "om")]; exact h1) (by decide) fun _ => h _ _ (H.tok _)
theorem r_addstr {x y : Str} {t u : Tok} (H : W b X l lg s) (hz : x.length + y.length ≤ 10000) (h : ∀ t s', W b X l lg s' → Q (.str (x ++ y) t) s') : wpAny (model prg w) A (binaryOp .Add (.str x t) (.str y u)) Q E s :=
  wp_pos H.pos (PyProof.Rows.add_str (fun t' tk hps => h _ _ (H.tok _ fun _ => hps)) (by rw [sizeLine_eq]; ktn_no "om"))
theorem len_digits {k : Int} (h0 : 0 ≤ k) (h1 : k < 1000) : (Str.ofString (toString k)).length ≤ 2000 := by
  have := len_str_of_int k
  omega
theorem perm6 {α : Type} (a f n m L p : α) (R : List α) : (p :: m :: f :: n :: a :: L :: R).Perm (a :: f :: n :: m :: L :: p :: R) :=
  ((((((List.Perm.swap a n (L :: R)).cons f).trans (List.Perm.swap a f (n :: L :: R))).cons m).cons p).trans ((List.perm_middle (l₁ := [a, f, n]) (a := m) (l₂ := L :: R)).symm.cons p)).trans (List.perm_middle (l₁ := [a, f, n, m, L]) (a := p) (l₂ := R)).symm
theorem RowEnd.perm (H : RowEnd b X P q l lg s) (hp : l'.Perm l) : RowEnd b X P q l' lg s := by
  refine ea1_1 H fun tp H => ?_
  exact ⟨tp, H.perm (hp.cons _)⟩
theorem Post.perm {out : Out} (h : Post b X P q l lg Q E out) (hp : l.Perm l') : Post b X P q l' lg Q E out := by
  cases out with
  | told an =>
    cases an with
    | one n => exact fun v s' hv H => h v s' hv (H.perm hp)
    | many ns => exact fun T vs s' hv hn H => h T vs s' hv hn (H.perm (hp.cons _))
  | refused m => exact fun e a t k s' H => h e a t k s' (H.perm ((hp.cons _).cons _))
  | fin m => exact fun e a t k s' H => h e a t k s' (H.perm ((hp.cons _).cons _))
set_option maxRecDepth 10000 in
set_option maxHeartbeats 8000000 in
theorem ok_deed {T : List (Addr × Cell)} {y : Array UInt8} {turn kind : Nat} {tt tk tp : Tok} (G : Glob w b X) (TB : Tb w b X) (ST : Strm w b X o P S y) (hA : A.depth + 40 < recursionLimit) (hh : A.handled = none) (hfr : A.frames = some fr) (hF : FrOk l fr)
    (hp : p ≤ o.length) (hlen : o.length < 64) (hturn : turn < 1000) (hkind : kind < 7) (hT : TabL w T) (H : W b X ((P, .lst [.int p tp]) :: (T ++ l)) lg s)
    (h : ∀ T', TabL w T' → Post b X P (deedOf o p turn kind).2 (T' ++ l) lg Q E (deedOf o p turn kind).1) : wpAny (model prg w) A (call (.ref 163) [.ref S, .int (turn : Int) tt, .int (kind : Int) tk]) Q E s := by
  refine call_def ["stream", "turn", "kind"] ["row"] (nm := nmD) (vs := [some (.ref S), some (.int (turn : Int) tt), some (.int (kind : Int) tk), none]) rfl rfl G H (fn_deed w) (by kernel_rfl) (by kernel_rfl) (by kernel_rfl) rfl (by ktn_no "om") ?_
  intro L env s₁ EV hnL H₁
  have hh' : (A.deeper env).handled = none := hh
  have hfr' := A_frames (env := env) hfr
  have ho := ST.rng
  refine wpAny_execs_cons ?_
  ktn_no "go"
  refine r_callF (fd := fdOf w 149) G (fn_numbers w).at_ ?_
  ktn_no "go"
  refine ⟨⟨_, _, by assumption⟩, ?_⟩
  refine call_genK ["stream"] ["octet"] (nm := nmN) (vals := [.ref S]) (vs := [some (.ref S), none]) rfl rfl G (by assumption) (fn_numbers w) (by kernel_rfl) (by kernel_rfl) (bd_numbers w _) rfl (by show A.depth + 1 < _; ktn_no "om") ?_
  intro LN envN aN gN s₂ EVN hscN hnLN H₂
  have hNG : ∀ n, NG w b X o P S LN n (.fresh (.func (bodyOf w 149) envN)) := ngFresh G ST EVN (by rw [hscN]; exact (fn_numbers w).co)
  ktn_no "go"
  have rest : ∀ (LF aF : Addr) (gF : Nat) (envF : Env) (tm : Tok) (s₃ : Shared), EnvOk envF LF nmF ["StatisticsError"] → envF.scope = (fdOf w 63).scope →
      W b X ((aF, .gen gF) :: (LF, .ns nmF [some (.ref aN), some (.str (msgOf turn) tm), none]) :: (aN, .gen gN) :: (LN, .ns nmN [some (.ref S), none]) :: (L, .ns nmD [some (.ref S), some (.int (turn : Int) tt), some (.int (kind : Int) tk), some (.ref aN)]) :: (P, .lst [.int p tp]) :: (T ++ l)) ((gF, .fresh (.func (bodyOf w 63) envF)) :: (gN, .fresh (.func (bodyOf w 149) envN)) :: lg) s₃ →
      wpAny (model prg w) (A.deeper env) (storeName env (Str.ofString "row") (.ref aF)) (fun _ s₄ => wpAny (model prg w) (A.deeper env) (execs ((bodyOf w 163).drop 2) env) (fun fl s'' => Q (match fl with | .ret v => v | _ => .none) s'') (fun e s'' => wpAny (model prg w) (A.deeper env) (leaving env e) (fun _ s3 => E e s3) (fun e' s3 => E e' s3) s'') s₄) (fun e s'' => wpAny (model prg w) (A.deeper env) (leaving env e) (fun _ s3 => E e s3) (fun e' s3 => E e' s3) s'') s₃ := by
    intro LF aF gF envF tm s₃ EVF hscF H₃
    have hFG : ∀ n, FG w b X o P S LN LF aN gN (msgOf turn) n (.fresh (.func (bodyOf w 63) envF)) := fgFresh G EVF (by rw [hscF]; exact (fn_failneg w).co)
    have hss := scan_small (o.drop p) p fun x hx => ho x (List.mem_of_mem_drop hx)
    have h64 : (scan (o.drop p) p).1.length < 64 := by have := hss.2; rw [List.length_drop] at this; omega
    have hdep : ∀ k, k ≤ 38 → (A.deeper env).depth + k < recursionLimit := fun k hk => by show A.depth + 1 + k < _; omega
    refine r_store EV H₃ (by ktn_no "nth") (by ktn_no "put2") (by ktn_no "put") ?_
    intro s₄ H₄
    have H₅ := H₄.perm (perm6 _ _ _ _ _ _ _)
    have hFr : FrOk ((aF, .gen gF) :: (L, .ns nmD [some (.ref S), some (.int (turn : Int) tt), some (.int (kind : Int) tk), some (.ref aF)]) :: (T ++ l)) (env :: fr) := FrOk.cons EV.kind EV.frame (.tail _ (.head _)) (hF.app T).more.more
    have lv : ∀ T' out q, Post b X P q (T' ++ l) lg Q E out → Post b X P q ((aF, .gen gF) :: (L, .ns nmD [some (.ref S), some (.int (turn : Int) tt), some (.int (kind : Int) tk), some (.ref aF)]) :: (T' ++ l)) lg Q _ out := fun T' out q hq => hq.leave (w := w) (A := A) hfr (hF.app T') EV.kind EV.frame
    refine wpAny_execs_cons ?_
    ktn_no "go"
    refine r_ite (fun hc => ?_) (fun hc => ?_)
    · have hk : (kind : Int) = 0 := eq_of_beq hc
      have hd : deedOf o p turn kind = (outOf (msgOf turn) fmeanF (scan (o.drop p) p), (scan (o.drop p) p).2.2) := by unfold deedOf; rw [if_pos (by ktn_no "om")]
      rw [hd] at h
      ktn_no "go"
      refine r_callF (fd := fdOf w 71) G (fn_fmean w).at_ ?_
      ktn_no "go"
      rename_i H₆
      refine ⟨⟨_, _, H₆⟩, ?_⟩
      refine ok_fmean1 (gF := gF) (T := T) (l := (aF, .gen gF) :: (L, .ns nmD [some (.ref S), some (.int (turn : Int) tt), some (.int (kind : Int) tk), some (.ref aF)]) :: l) G TB (hdep 30 (by ktn_no "om")) hh' hfr' (FrOk.cons EV.kind EV.frame (.tail _ (.head _)) hF.more.more) (.head _) hp (by ktn_no "om") ho hT
        ⟨tp, none, none, _, _, hFG _, hNG _, hp, H₆.perm (List.Perm.append_left [_, _, _, _] (List.perm_append_comm_assoc T [_, _] l))⟩ fun T' hT' => (lv T' _ _ (h T' hT')).perm (List.perm_append_comm_assoc [_, _] T' l)
    · have hkn0 : (kind : Int) ≠ 0 := ne_of_beq_false hc
      ktn_no "go"
      refine r_ite (fun hc1 => ?_) (fun hc1 => ?_)
      · have hk : (kind : Int) = 1 := eq_of_beq hc1
        have hd : deedOf o p turn kind = (outOf (msgOf turn) medF (scan (o.drop p) p), (scan (o.drop p) p).2.2) := by unfold deedOf; rw [if_neg (by ktn_no "om"), if_pos (by ktn_no "om")]
        rw [hd] at h
        ktn_no "go"
        refine r_callF (fd := fdOf w 78) G (fn_median w).at_ ?_
        ktn_no "go"
        rename_i H₆
        refine ⟨⟨_, _, H₆⟩, ?_⟩
        exact ok_median (gF := gF) G (hdep 15 (by ktn_no "om")) hh' hfr' hFr (.head _) hp (by ktn_no "om") h64 hss.1 ⟨tp, none, none, _, _, hFG _, hNG _, hp, H₆⟩ (lv T _ _ (h T hT))
      · have hkn1 : (kind : Int) ≠ 1 := ne_of_beq_false hc1
        ktn_no "go"
        refine r_ite (fun hc2 => ?_) (fun hc2 => ?_)
        · have hk : (kind : Int) = 2 := eq_of_beq hc2
          have hd : deedOf o p turn kind = (outOf (msgOf turn) medLowF (scan (o.drop p) p), (scan (o.drop p) p).2.2) := by unfold deedOf; rw [if_neg (by ktn_no "om"), if_neg (by ktn_no "om"), if_pos (by ktn_no "om")]
          rw [hd] at h
          ktn_no "go"
          refine r_callF (fd := fdOf w 85) G (fn_low w).at_ ?_
          ktn_no "go"
          rename_i H₆
          refine ⟨⟨_, _, H₆⟩, ?_⟩
          exact ok_low (gF := gF) G (hdep 15 (by ktn_no "om")) hh' hfr' hFr (.head _) hp (by ktn_no "om") h64 hss.1 ⟨tp, none, none, _, _, hFG _, hNG _, hp, H₆⟩ (lv T _ _ (h T hT))
        · have hkn2 : (kind : Int) ≠ 2 := ne_of_beq_false hc2
          ktn_no "go"
          refine r_ite (fun hc3 => ?_) (fun hc3 => ?_)
          · have hk : (kind : Int) = 3 := eq_of_beq hc3
            have hd : deedOf o p turn kind = (outOf (msgOf turn) medHighF (scan (o.drop p) p), (scan (o.drop p) p).2.2) := by unfold deedOf; rw [if_neg (by ktn_no "om"), if_neg (by ktn_no "om"), if_neg (by ktn_no "om"), if_pos (by ktn_no "om")]
            rw [hd] at h
            ktn_no "go"
            refine r_callF (fd := fdOf w 92) G (fn_high w).at_ ?_
            ktn_no "go"
            rename_i H₆
            refine ⟨⟨_, _, H₆⟩, ?_⟩
            exact ok_high (gF := gF) G (hdep 15 (by ktn_no "om")) hh' hfr' hFr (.head _) hp (by ktn_no "om") h64 hss.1 ⟨tp, none, none, _, _, hFG _, hNG _, hp, H₆⟩ (lv T _ _ (h T hT))
          · have hkn3 : (kind : Int) ≠ 3 := ne_of_beq_false hc3
            ktn_no "go"
            refine r_ite (fun hc4 => ?_) (fun hc4 => ?_)
            · have hk : (kind : Int) = 4 := eq_of_beq hc4
              have hd : deedOf o p turn kind = (outOf (msgOf turn) (quantF 3 exclAt) (scan (o.drop p) p), (scan (o.drop p) p).2.2) := by unfold deedOf; rw [if_neg (by ktn_no "om"), if_neg (by ktn_no "om"), if_neg (by ktn_no "om"), if_neg (by ktn_no "om"), if_pos (by ktn_no "om")]
              rw [hd] at h
              ktn_no "go"
              refine r_callF (fd := fdOf w 100) G (fn_quant w).at_ ?_
              ktn_no "go"
              rename_i H₆
              refine ⟨⟨_, _, H₆⟩, ?_⟩
              exact ok_quant4 (gF := gF) G (hdep 15 (by ktn_no "om")) hh' hfr' hFr (.head _) hp (by ktn_no "om") h64 hss.1 ⟨tp, none, none, _, _, hFG _, hNG _, hp, H₆⟩ (lv T _ _ (h T hT))
            · have hkn4 : (kind : Int) ≠ 4 := ne_of_beq_false hc4
              ktn_no "go"
              refine r_ite (fun hc5 => ?_) (fun hc5 => ?_)
              · have hk : (kind : Int) = 5 := eq_of_beq hc5
                have hd : deedOf o p turn kind = (outOf (msgOf turn) (quantF 6 inclAt) (scan (o.drop p) p), (scan (o.drop p) p).2.2) := by unfold deedOf; rw [if_neg (by ktn_no "om"), if_neg (by ktn_no "om"), if_neg (by ktn_no "om"), if_neg (by ktn_no "om"), if_neg (by ktn_no "om"), if_pos (by ktn_no "om")]
                rw [hd] at h
                ktn_no "go"
                refine wpAny_Call_ofName ?_
                ktn_no "go"
                refine r_callKW G (by kernel_rfl) rfl ?_
                ktn_no "go"
                refine r_kwCons ?_
                ktn_no "go"
                refine r_kwCons ?_
                ktn_no "go"
                refine r_kwNil ?_
                rename_i H₆
                refine ⟨⟨_, _, H₆⟩, ?_⟩
                exact ok_quant7 (gF := gF) G (hdep 15 (by ktn_no "om")) hh' hfr' hFr (.head _) hp (by ktn_no "om") h64 hss.1 ⟨tp, none, none, _, _, hFG _, hNG _, hp, H₆⟩ (lv T _ _ (h T hT))
              · have hkn5 : (kind : Int) ≠ 5 := ne_of_beq_false hc5
                have hd : deedOf o p turn kind = (fmeanWF (wts turn) (spv (wts turn) (o.drop p) p 0).1, (spv (wts turn) (o.drop p) p 0).2) := by unfold deedOf; rw [if_neg (by ktn_no "om"), if_neg (by ktn_no "om"), if_neg (by ktn_no "om"), if_neg (by ktn_no "om"), if_neg (by ktn_no "om"), if_neg (by ktn_no "om")]
                rw [hd] at h
                ktn_no "go"
                refine r_callF (fd := fdOf w 71) G (fn_fmean w).at_ ?_
                ktn_no "go"
                refine r_callF (fd := fdOf w 156) G (fn_weights w).at_ ?_
                ktn_no "go"
                rename_i H₆
                refine ⟨⟨_, _, H₆⟩, ?_⟩
                refine ok_weights G H₆ (hdep 0 (by ktn_no "om")) ?_
                intro Wt wv s₇ hwv hnW H₇
                ktn_no "go"
                refine ⟨⟨_, _, H₇⟩, ?_⟩
                refine ea0_5 (wts_ok turn) fun w1 w2 w3 w4 w5 => ?_
                exact ok_fmeanW (gF := gF) G (hdep 30 (by ktn_no "om")) hh' hfr' hFr (.head _) hp (by ktn_no "om") ho hwv w1 w2 w3 w4 w5 ⟨tp, none, none, _, _, hFG _, hNG _, hp, W.mid (m := [_, _, _, _]) H₇⟩ (lv T _ _ (h T hT))
  refine r_ite (fun hc => ?_) (fun hc => ?_)
  · have hm3 : (turn : Int) % 3 = 0 := eq_of_beq hc
    have hmsg : msgOf turn = "negative value" := by unfold msgOf; rw [if_pos (by ktn_no "om")]
    ktn_no "go"
    refine r_callF (fd := fdOf w 63) G (fn_failneg w).at_ ?_
    ktn_no "go"
    refine ⟨⟨_, _, by assumption⟩, ?_⟩
    refine call_genK ["values", "errmsg"] ["x"] (nm := nmF) (vals := [.ref aN, .str "negative value" (tokOf (dfN w))]) (vs := [some (.ref aN), some (.str "negative value" (tokOf (dfN w))), none]) rfl rfl G (by assumption) (fn_failneg w) (by kernel_rfl) (by kernel_rfl) (bd_fail1 w _) rfl (by show A.depth + 1 < _; ktn_no "om") ?_
    intro LF envF aF gF s₃ EVF hscF hnLF H₃
    rw [← hmsg] at H₃
    exact wpAny_mono (rest LF aF gF envF _ s₃ EVF hscF H₃) (fun _ s₄ h₄ => (show wpAny _ _ (execs [] env) _ _ _ from wpAny_execs_nil h₄)) (fun _ _ x => x)
  · have hm3 : (turn : Int) % 3 ≠ 0 := ne_of_beq_false hc
    have hmsg : msgOf turn = "row " ++ Str.ofString (toString (turn : Int)) := by unfold msgOf; rw [if_neg (by ktn_no "om")]
    ktn_no "go"
    refine r_callF (fd := fdOf w 63) G (fn_failneg w).at_ ?_
    ktn_no "go"
    refine r_str_int (by assumption) (by omega) (by omega) ?_
    intro _ _ _
    refine r_addstr (by assumption) (by
      have := len_digits (k := turn) (by ktn_no "om") (by ktn_no "om")
      have e : (Str.ofString "row ").length = 4 := by decide +kernel
      omega) ?_
    intro tmm _ _
    ktn_no "go"
    refine ⟨⟨_, _, by assumption⟩, ?_⟩
    rw [← hmsg]
    refine call_genK ["values", "errmsg"] ["x"] (nm := nmF) (vals := [.ref aN, .str (msgOf turn) tmm]) (vs := [some (.ref aN), some (.str (msgOf turn) tmm), none]) rfl rfl G (by assumption) (fn_failneg w) (by kernel_rfl) (by kernel_rfl) (bd_fail2 w _ _) rfl (by show A.depth + 1 < _; ktn_no "om") ?_
    intro LF envF aF gF s₃ EVF hscF hnLF H₃
    exact wpAny_mono (rest LF aF gF envF _ s₃ EVF hscF H₃) (fun _ s₄ h₄ => (show wpAny _ _ (execs [] env) _ _ _ from wpAny_execs_nil h₄)) (fun _ _ x => x)
end
end
section
open PySem PySem.W PySem.W.X PyProof.Rows PySem.Calls
section
variable {w : World} {b : Shared} {X : List Addr} {l l' : List (Addr × Cell)} {lg lg' : List (Nat × GenState)} {s : Shared} {A : Around} {Q E : Value → Shared → Prop} {a c : Addr} {vs : List Value} {ns : List Int}
theorem r_copy (H : W b X l lg s) (hm : (a, .seq "list" vs) ∈ l) (hz : vs.length ≤ 1000) (h : ∀ T s', newIn b T → W b X ((T, .seq "list" vs) :: l) lg s' → Q (.ref T) s') : wpAny (model prg w) A (call (.type "list") [.ref a]) Q E s := by
  refine ea1_1 (H.cells _ hm : ∃ n, s.heap.get? a = some (seqObj "list" vs.toArray n)) fun n ho => ?_
  refine call_list_seq a (.inl rfl) ho rfl rfl (fun h' c' hk hT => ?_) (by rw [sizeLine_eq]; simp; omega)
  refine h _ _ H.fresh ((H.grow (t' := s.toks) hk).cons ⟨c', hT⟩ (by show "list" ≠ _; decide) H.fresh fun p hp e => absurd (H.lt hp) (by rw [e]; exact Nat.lt_irrefl _))
theorem r_minL (H : W b X l lg s) (hm : (a, .seq "list" vs) ∈ l) (hI : IntsAre vs ns) (hne : 0 < ns.length) (hh : A.handled = none) (h : ∀ M t s', M ∈ ns → (∀ x ∈ ns, M ≤ x) → W b X l lg s' → Q (.int M t) s') : wpAny (model prg w) A (call (.builtin "min") [.ref a]) Q E s := by
  have hl := H.seqL hm
  refine ea1_1 hI.allInts.items fun xs e => ?_
  have hns : ns = xs.toList.map (·.1) := by
    rw [← hI.numsOf, ← nums_intItems, ← e]
  have hsz : 0 < xs.size := by
    have h3 := hne; rw [hns, List.length_map, Array.length_toList] at h3; exact h3
  rw [e] at hl
  refine wp_pos H.pos (min_intList hh hl hsz fun v h' tk hv hk hps => ?_)
  refine ea1_1 (intItems_at hv) fun t e_1 => ?_
  subst e_1
  refine ea0_2 (argBest_lt (numAt xs) (xs.size - 1)) fun h1 h2 => ?_
  refine h _ t _ ?_ ?_ (H.grow (t' := tk) hk fun _ => hps)
  · rw [hns, numAt_eq]; exact getD_mem (by rw [List.length_map, Array.length_toList]; omega)
  · intro x hx
    rw [hns] at hx
    refine ea1_2 (mem_getD hx) fun j hj e_2 => ?_
    subst e_2
    rw [List.length_map, Array.length_toList] at hj
    rw [← numAt_eq]; exact h2 j (by omega)
theorem ints_erase : ∀ {vs : List Value} {ns : List Int} (j : Nat), IntsAre vs ns → IntsAre (vs.eraseIdx j) (ns.eraseIdx j)
  | _, _, _, .nil => .nil
  | _, _, 0, .cons n t r => r
  | _, _, j + 1, .cons n t r => .cons n t (ints_erase j r)
theorem first_at {M : Int} : ∀ {ns : List Int}, M ∈ ns → ∃ j, j < ns.length ∧ ns.getD j 0 = M ∧ (∀ m, m < j → ns.getD m 0 ≠ M) ∧ (M :: ns.eraseIdx j).Perm ns
  | [], h => by cases h
  | x :: ns, h => by
    by_cases q : x = M
    · exact ⟨0, by simp, q, fun m hm => absurd hm (Nat.not_lt_zero _), by rw [q]; exact .refl _⟩
    · have hm : M ∈ ns := (List.mem_cons.mp h).resolve_left fun e => q e.symm
      refine ea1_4 (first_at hm) fun j h1 h2 h3 h4 => ?_
      refine ⟨j + 1, by simp; exact h1, by simpa using h2, fun m hm => ?_, ?_⟩
      · cases m with
        | zero => exact q
        | succ m => simpa using h3 m (by omega)
      · show (M :: x :: ns.eraseIdx j).Perm (x :: ns)
        exact (List.Perm.swap ..).trans (h4.cons x)
theorem r_remove {M : Int} {t : Tok} (H : W b X ((a, .seq "list" vs) :: l) lg s) (hI : IntsAre vs ns) (hM : M ∈ ns) (hz : ns.length ≤ 1000) (h : ∀ vs' ns' s', IntsAre vs' ns' → (M :: ns').Perm ns → W b X ((a, .seq "list" vs') :: l) lg s' → Q .none s') :
    wpAny (model prg w) A (call (.builtin "list.remove") [.ref a, .int M t]) Q E s := by
  refine ea1_1 (H.cells _ (.head _) : ∃ n, s.heap.get? a = some (seqObj "list" vs.toArray n)) fun n ho => ?_
  refine ea1_4 (first_at hM) fun j h1 h2 h3 h4 => ?_
  have hvl : vs.length = ns.length := hI.length
  have key : ∀ m (hm : m < vs.toArray.size), isInt M (vs.toArray[m]) = decide (ns.getD m 0 = M) := fun m hm => by
    refine ea1_1 (ints_at hI m (by simpa [hvl] using hm)) fun t' e => ?_
    have : vs.toArray[m] = .int (ns.getD m 0) t' := by
      have e2 : vs.toArray[m]? = some (.int (ns.getD m 0) t') := by simpa using e
      rw [Array.getElem?_eq_getElem hm] at e2
      exact Option.some.inj e2
    rw [this]
    show (ns.getD m 0 == M) = _
    generalize ns.getD m 0 = z
    exact Bool.eq_iff_iff.mpr (by simp)
  refine call_meets F.slot_list_remove ⟨_, ho, rfl⟩ F.entry_list_remove (F.args_list_remove_2 _ _) (MeetsSeq.list_remove a vs.toArray n (.int M t) (isInt M) (fun y hy => eq_isInt M t hI y (by simpa using hy)) j (by simp [hvl]; exact h1) ?_ ?_ (by rw [sizeLine_eq]; simp [hvl]; omega)) ⟨ho, ?_⟩
  · rw [key]; simpa using h2
  · intro m hm hj
    rw [key]; simpa using h3 m hj
  · refine h _ _ _ (ints_erase j hI) h4 (H.put (t' := s.toks) (c' := .seq "list" (vs.eraseIdx j)) .zero (.update (f := Obj.mapSeq fun xs => xs.eraseIdxIfInBounds j) ..) ?_ (by show "list" ≠ _; decide))
    have e := get?_update_seq ho (fun xs => xs.eraseIdxIfInBounds j)
    exact ⟨_, by simpa using e⟩
theorem r_nidx {value slice : Expr} {k : Int} {u : Tok} {v : Value} (H : W b X l lg s) (hm : (a, .seq "list" vs) ∈ l) (h0 : k < 0) (h1 : -(vs.length : Int) ≤ k) (hz : vs.length ≤ 10000) (hx : vs[(k + vs.length).toNat]? = some v) (h : Q v s)
    (hs : subscripted slice false (.ref a) (.int k u) = operate [.ref a, .int k u] (getItem (.ref a) (.int k u)) := by with_unfolding_all rfl) :
    wpAny (model prg w) A (subscriptTail value slice (.ref a) (.int k u)) Q E s :=
  tail_any (H.seqL hm).typeIs slot_list_getitem.lookup (wpAny_getItem_list_neg (H.seqL hm) h0 (by simpa using h1) (by omega) (by simpa using hx) h) hs
/-- != of two lists of unlike length, or of two empty lists -/
theorem r_neLists {ws : List Value} (H : W b X l lg s) (hm : (a, .seq "list" vs) ∈ l) (hc : (c, .seq "list" ws) ∈ l) (hu : A.units < cLine) (hw : ws = []) (h : Q (.bool (decide (vs ≠ []))) s) : wpAny (model prg w) A (compareOp .NotEq (.ref a) (.ref c)) Q E s := by
  subst hw
  show wpAny _ _ (richCompare .NotEq (.ref a) (.ref c)) _ _ _
  by_cases q : vs = []
  · subst q
    have := PySem.SeqAt.RcNeAt.lists (A := A) (e := fun _ => true) (H.seqL hm) (H.seqL hc) rfl hu (fun j h1 h2 => absurd h1 (Nat.not_lt_zero _))
    exact this prg w E Q (by simpa using h)
  · have := PySem.SeqAt.RcNeAt.lists_lengths (A := A) (H.seqL hm) (H.seqL hc) (by simp; cases vs with | nil => exact absurd rfl q | cons => simp) hu
    exact this prg w E Q (by simpa [q] using h)
end
end
section
open PySem PySem.W PySem.W.X PyProof.Rows PySem.Calls
theorem fn_order (w : World) : FnOk w 170 ["row", "left", "order"] ["list", "min"] := ⟨by kernel_rfl, by kernel_rfl, by kernel_rfl, by kernel_rfl, by kernel_rfl, by kernel_rfl, by kernel_rfl, by kernel_rfl⟩
section
variable {w : World} {b : Shared} {X : List Addr} {l l' : List (Addr × Cell)} {lg lg' : List (Nat × GenState)} {s : Shared} {A : Around} {Q E : Value → Shared → Prop} {a c : Addr} {vs : List Value} {ns : List Int} {env : Env}
/-- while test: body, the body neither breaks nor raises -/
theorem r_while {test : Expr} {body : List Stmt} {pos : Pos} {Q : Flow → Shared → Prop} {E : Value → Shared → Prop} (I : Nat → Shared → Prop) (n : Nat) (h0 : I n s)
    (step : ∀ n s, I n s → wpAny (model prg w) A (isTrue test env (eval test env)) (fun t s₁ => if t then wpAny (model prg w) A (execs body env) (fun f s₂ => f = .next ∧ ∃ m, m < n ∧ I m s₂) (fun _ _ => False) s₁ else Q .next s₁) (fun _ _ => False) s) :
    wpAny (model prg w) A (exec (.While test body [] pos) env) Q E s := by
  refine wpAny_While ?_
  refine codeAny_whileLoop I (fun n s hI => ?_) n h0
  refine wpAny_mono (step n s hI) (fun t s₁ h₁ => ?_) fun _ _ x => x.elim
  cases t with
  | true =>
    refine wpAny_mono h₁ (fun f s₂ h₂ => ?_) fun _ _ x => x.elim
    refine ea0_2 h₂ fun e_1 q_2 => ?_
    try clear h₂
    refine ea1_2 q_2 fun m hm hI' => ?_
    subst e_1
    exact ⟨m, hm, hI'⟩
  | false => exact wpAny_execs_nil h₁
/-- selection: what is put out so far, what is left -/
structure Sel (xs out left : List Int) : Prop where
  perm : (out ++ left).Perm xs
  inc : out.Pairwise (· ≤ ·)
  low : ∀ a ∈ out, ∀ c ∈ left, a ≤ c
theorem Sel.step {xs out left left' : List Int} {M : Int} (h : Sel xs out left) (hM : M ∈ left) (hmin : ∀ x ∈ left, M ≤ x) (hp : (M :: left').Perm left) : Sel xs (out ++ [M]) left' := by
  refine ⟨?_, ?_, ?_⟩
  · rw [List.append_assoc]
    exact (hp.append_left out).trans h.perm
  · rw [List.pairwise_append]
    refine ⟨h.inc, List.pairwise_singleton _ _, fun a ha c hc => ?_⟩
    rw [List.mem_singleton] at hc
    subst hc
    exact h.low a ha _ hM
  · intro a ha c hc
    have hc' : c ∈ left := hp.subset (.tail _ hc)
    rcases List.mem_append.mp ha with q | q
    · exact h.low a q c hc'
    · rw [List.mem_singleton] at q
      subst q
      exact hmin c hc'
theorem Sel.done {xs out : List Int} (h : Sel xs out []) : out = Mine.srt xs := srt_of (by simpa using h.perm) h.inc
set_option maxRecDepth 10000 in
set_option maxHeartbeats 4000000 in
theorem ok_order {R : Addr} {rv : List Value} {xs : List Int} (G : Glob w b X) (H : W b X l lg s) (hm : (R, .seq "list" rv) ∈ l) (hI : IntsAre rv xs) (hz : xs.length < 64) (hA : A.depth < recursionLimit) (hh : A.handled = none) (hu : A.units + 50 < cLine)
    (h : ∀ O ov s', IntsAre ov (srt xs) → newIn b O → W b X ((O, .seq "list" ov) :: l) lg s' → Q (.ref O) s') : wpAny (model prg w) A (call (.ref 170) [.ref R]) Q E s := by
  refine call_def ["row"] ["left", "order"] (nm := ["row", "left", "order"]) (vs := [some (.ref R), none, none]) rfl rfl G H (fn_order w) (by kernel_rfl) (by kernel_rfl) (by kernel_rfl) rfl hA ?_
  intro L env s₁ EV hnL H₁
  have hh' : (A.deeper env).handled = none := hh
  have hlen : rv.length = xs.length := hI.length
  refine body_cut fun K0 F0 hR0 => ?_
  refine execs_cut ?_
  intro K1 hK1 hR1
  ktn_no "ho"
  refine r_copy (by assumption) (.tail _ hm) (by ktn_no "om") ?_
  intro Lf s₂ hnLf H₂
  ktn_no "ho"
  refine r_while (fun n s' => ∃ O lv ov left out, n = left.length ∧ IntsAre lv left ∧ IntsAre ov out ∧ Sel xs out left ∧ newIn b O ∧ W b X ((O, .seq "list" ov) :: (Lf, .seq "list" lv) :: (L, .ns ["row", "left", "order"] [some (.ref R), some (.ref Lf), some (.ref O)]) :: l) lg s') xs.length ⟨_, rv, [], xs, [], rfl, hI, .nil, ⟨.refl _, .nil, fun a ha => by cases ha⟩, by assumption, by assumption⟩ ?_
  intro n s₃ r_1
  refine ea5_6 r_1 fun O lv ov left out e_3 hlv hov hS hnO H₃ => ?_
  try clear r_1
  subst e_3
  ktn_no "ho"
  refine r_neLists (by assumption) (by ktn_no "mem") (by ktn_no "mem") (by show A.units + 3 < _; ktn_no "om") rfl ?_
  ktn_no "ho"
  have hll : lv.length = left.length := hlv.length
  have hsum : out.length + left.length = xs.length := by have := hS.perm.length_eq; simpa using this
  by_cases q : lv = []
  · refine ite_n (by simpa using q) ?_
    ktn_no "ho"
    have hl0 : left = [] := List.length_eq_zero_iff.mp (by rw [← hll, q]; rfl)
    subst hl0
    rw [hS.done] at hov
    rename_i H₄ _ _ _
    exact h O ov _ hov hnO (H₄.tail.del1.del1)
  · refine ite_t (by simpa using q) ?_
    have hpos : 0 < left.length := by
      rcases Nat.eq_zero_or_pos left.length with z | z
      · exact absurd (List.length_eq_zero_iff.mp (hll.trans z)) q
      · exact z
    have hol : ov.length = out.length := hov.length
    ktn_no "ho"
    rename_i H₄ _ _ _
    have H₅ := H₄.tail
    refine wpAny_Expr ?_ (by unfold interactive; rw [EV.kind]; rfl) rfl
    refine MethodCall_ ?_
    ktn_no "ho"
    refine r_getAppend H₅ (by ktn_no "mem") ?_
    refine r_callM ?_
    ktn_no "ho"
    refine r_minL H₅ (by ktn_no "mem") hlv hpos hh' ?_
    intro M tM s₆ hM hmin H₆
    ktn_no "ho"
    refine r_append H₆ (by ktn_no "mem") (by ktn_no "om") (by ktn_no "put") ?_
    intro s₇ H₇
    ktn_no "ho"
    refine wpAny_Expr ?_ (by unfold interactive; rw [EV.kind]; rfl) rfl
    refine MethodCall_ ?_
    ktn_no "ho"
    refine ea1_1 (H₇.cells (Lf, .seq "list" lv) (.tail _ (.head _)) : ∃ n, s₇.heap.get? Lf = some (seqObj "list" lv.toArray n)) fun nl hol2 => ?_
    refine getMethod_builtin (T := "list") (id := "list.remove") ⟨_, hol2, rfl⟩ F.plainAttrs_list F.slot_list_remove F.type_list_remove (fun a e => by cases e; exact ⟨_, hol2, rfl⟩) ?_
    refine r_callM ?_
    ktn_no "ho"
    refine r_neg (by assumption) ?_
    intro _ _ H₈
    ktn_no "ho"
    refine r_nidx (v := .int M tM) H₈ (.head _) (by decide) (by simp; ktn_no "om") (by simp; ktn_no "om") ?_ ?_
    · have e : ((-1 : Int) + ((ov ++ [Value.int M tM]).length : Nat)).toNat = ov.length := by simp; omega
      rw [e]
      simp
    ktn_no "ho"
    refine r_remove (H₈.swap) hlv hM (by ktn_no "om") ?_
    intro lv' left' s₉ hlv' hperm H₉
    ktn_no "ho"
    refine ⟨rfl, ⟨left'.length, ⟨?_, (ex5 O lv' _ left' _ ⟨rfl, hlv', IntsAre.snoc hov M tM, hS.step hM hmin hperm, hnO, H₉.swap⟩)⟩⟩⟩
    have := hperm.length_eq
    simp at this
    omega
end
end
section
open PySem PySem.W PySem.W.X PyProof.Rows PySem.Calls
section
variable {w : World} {b : Shared} {X : List Addr} {l l' : List (Addr × Cell)} {lg lg' : List (Nat × GenState)} {s : Shared} {A : Around} {E : Value → Shared → Prop} {env : Env}
/-- what an iterator gives: the i-th item, the ledger's entry at i; n items in all -/
structure ItOk (w : World) (A : Around) (b : Shared) (X : List Addr) (req : List (Addr × Cell)) (I : Addr) (n : Nat) (it : Nat → Cell → Prop) (item : Nat → Value → Prop) : Prop where
  next : ∀ {i c m lg s} {Q : Option Value → Shared → Prop} {E : Value → Shared → Prop}, i < n → it i c → (∀ p ∈ req, p ∈ m) → W b X ((I, c) :: m) lg s → (∀ v c' s', item i v → it (i + 1) c' → W b X ((I, c') :: m) lg s' → Q (some v) s') → wpAny (model prg w) A (pyNext (.ref I)) Q E s
  fin : ∀ {c m lg s} {Q : Option Value → Shared → Prop} {E : Value → Shared → Prop}, it n c → (∀ p ∈ req, p ∈ m) → W b X ((I, c) :: m) lg s → (∀ s', W b X m lg s' → Q none s') → wpAny (model prg w) A (pyNext (.ref I)) Q E s
  self : ∀ {c m lg s} {Q : Value → Shared → Prop} {E : Value → Shared → Prop}, it 0 c → W b X ((I, c) :: m) lg s → Q (.ref I) s → wpAny (model prg w) A (pyIter (.ref I)) Q E s

/-- [elt for x in ..]: the ledger goes from Inv 0 to Inv n -/
theorem comp_loop {elt iter : Expr} {x : Str} {px pos : Pos} {scope : Scope} {cl : List (Str × Addr)} {n : Nat} {it : Nat → Cell → Prop} {item : Nat → Value → Prop} {s₂ : Shared} {I : Addr} {c0 : Cell} {m0 : List (Addr × Cell)} {RR : Value → Addr → Result → Shared → Prop}
    {req : List (Addr × Cell)} (IT : ItOk w A b X req I n it item) (Inv : Nat → List (Addr × Cell) → List Value → Prop) (hn : n ≤ 1000) (hcell : ∀ y ∈ scope.names, y.2 ≠ .cell) (hkind : scope.kind = .function) (h0 : it 0 c0) (H : W b X ((I, c0) :: m0) lg s₂) (hI0 : Inv 0 m0 []) (hreq : ∀ i m vs, Inv i m vs → ∀ p ∈ req, p ∈ m)
    (step : ∀ C D i m vs v c s₃, i < n → Inv i m vs → item i v → newIn b C → vs.length = i → W b X ((C, .ns [x] [some v]) :: (I, c) :: (D, .seq "list" vs) :: m) lg s₃ →
      wpAny (model prg w) A (eval elt (compEnvC scope cl C env)) (fun y s₄ => ∃ m', Inv (i + 1) m' (vs ++ [y]) ∧ W b X ((C, .ns [x] [some v]) :: (I, c) :: (D, .seq "list" vs) :: m') lg s₄) (fun _ _ => False) s₃)
    (hx : scope.names.lookup x = some .local)
    (fin : ∀ D C m vs u s', Inv n m vs → newIn b D → newIn b C → C ∉ X → W b X ((C, .ns [x] [u]) :: (D, .seq "list" vs) :: m) lg s' → RR (.ref D) C (.ok .next) s') :
    wpAny (model prg w) A (newList []) (fun acc s₃ => wpAny (model prg w) A (newFunctionEnv scope env.globals cl [] env.qual none .none (some env)) (fun cenv s₄ =>
      codeAny (model prg w) A (.compStart (.ListComp elt [⟨.Name x px, iter, [], 0⟩] scope pos) 0 (.ref I) acc { cenv with scope := relabel scope env }) (RR acc cenv.locals) s₄) E s₃) E s₂ := by
  refine wpAny_newObj_type (wpAny_newFunctionEnv hcell (by intro y hy; simp at hy) (fun h₁ hns₁ hsb₁ => ?_) hkind)
  dsimp only at hns₁ hsb₁ ⊢
  have H1 := H.push (o := { cls := .type "list", data := .seq ([] : List Value).toArray }) (c := .seq "list" []) (t' := s₂.toks) rfl (fun h' q => ⟨0, q⟩) (by show "list" ≠ _; decide)
  generalize hH2 : s₂.heap.push { cls := .type "list", dict := none, data := .seq ([] : List Value).toArray } = H2 at hns₁ hsb₁ H1 ⊢
  have hkeep : ∀ a o, H2.get? a = some o → h₁.get? a = some o := fun a o e => by
    have := Heap.get?_push_of_some (h := H2) { cls := .type "dict", data := .dict #[] } e
    exact hsb₁.extBut a o (Nat.ne_of_lt (Heap.lt_size e)) (Heap.get?_push_of_some _ e)
  have H2' := H1.grow (h' := h₁) (t' := s₂.toks) hkeep
  have H3 := H2'.cons (a := H2.objs.size) (c := .ns [x] [none]) (by
    show h₁.Ns H2.objs.size (look [x] [none])
    have e : look [x] [none] = fun _ => none := by funext y; exact look_none [x] y
    rw [e]; exact hns₁) trivial H1.fresh fun p hp e => absurd (H1.lt hp) (by rw [e]; exact Nat.lt_irrefl _)
  have hnC := H1.fresh
  have hCX := H1.sizeX
  have hnD := H.fresh
  have loop : ∀ s₃ : Shared, W b X ((H2.objs.size, .ns [x] [none]) :: (s₂.heap.objs.size, .seq "list" []) :: (I, c0) :: m0) lg s₃ →
      codeAny (model prg w) A (.compLoop (.ListComp elt [⟨.Name x px, iter, [], 0⟩] scope pos) 0 (.ref I) (.ref s₂.heap.objs.size) (compEnvC scope cl H2.objs.size env)) (RR (.ref s₂.heap.objs.size) H2.objs.size) s₃ := by
    intro s₃ H3
    refine codeAny_compLoop_list (fun k s' => ∃ i m vs c u, i ≤ n ∧ k = n + 1 - i ∧ Inv i m vs ∧ it i c ∧ vs.length = i ∧ W b X ((I, c) :: (H2.objs.size, .ns [x] [u]) :: (s₂.heap.objs.size, .seq "list" vs) :: m) lg s') ?_ (n + 1) ⟨0, m0, [], c0, none, Nat.zero_le _, rfl, hI0, h0, rfl, H3.get2⟩
    intro k s' r_1
    refine ea5_6 r_1 fun i m vs c u hi e_1 hInv hit hvl H' => ?_
    try clear r_1
    subst e_1
    by_cases hlt : i < n
    · refine IT.next hlt hit (fun p hp => .tail _ (.tail _ (hreq _ _ _ hInv p hp))) H' fun v c' s'' hv hit' H'' => ?_
      have hns : s''.heap.Ns (compEnvC scope cl H2.objs.size env).locals (look [x] [u]) := H''.cells (H2.objs.size, .ns [x] [u]) (.tail _ (.head _))
      refine wpAny_assign_Name (wpAny_storeName_local (lookup_relabel_local hx) hns (fun h₅ hn₅ hs₅ => ?_) (by simp [compEnvC, relabel, hkind]))
      have H5 := H''.put (t' := s''.toks + 1) (c' := .ns [x] [some v]) (.succ .zero) hs₅ (by
        show h₅.Ns H2.objs.size (look [x] [some v])
        rw [(Put2.zero : Put2 [x] [u] x v _).look (by simp)]
        exact hn₅) trivial
      refine wpAny_mono (step H2.objs.size s₂.heap.objs.size i m vs v c' _ hlt hInv hv hnC hvl H5.swap) (fun y s₆ h₆ => ?_) fun _ _ z => z.elim
      refine ea1_2 h₆ fun m' hInv' H6 => ?_
      try clear h₆
      refine r_append H6 (.tail _ (.tail _ (.head _))) (by omega) (.succ (.succ .zero)) fun s₇ H7 => ?_
      exact ⟨n + 1 - (i + 1), ⟨by omega, (ex5 (i + 1) m' _ c' (some v) ⟨hlt, rfl, hInv', hit', by simp [hvl], H7.swap⟩)⟩⟩
    · have hin : i = n := by omega
      subst hin
      refine IT.fin hit (fun p hp => .tail _ (.tail _ (hreq _ _ _ hInv p hp))) H' fun s'' H'' => ?_
      exact fin _ _ m vs u s'' hInv hnD hnC hCX H''
  exact codeAny_compStart_list (loop _ (H3.tok _)) (IT.self h0 (H3.tok _).get2 (loop _ (H3.tok _)))
theorem it_range {I : Addr} {p : Int} {n : Nat} (hh : A.handled = none) (hnI : newIn b I) (hX : I ∉ X) : ItOk w A b X [] I n (fun i c => c = .obj (rgIt (p + (i : Nat)) ((n : Int) - (i : Nat)))) (fun i v => ∃ t, v = .int (p + (i : Nat)) t) where
  next := by
    intro i c m lg s Q E hi hit _ H h
    subst hit
    have hit : IsRangeIter s.heap I (p + (i : Nat)) ((n : Int) - (i : Nat)) 1 := H.cells _ (.head _)
    refine wpAny_pyNext_range_item hit (by omega) fun h' hit' hs' => ?_
    have H2 := H.put (t' := s.toks + 1) (c' := .obj (rgIt (p + (i : Nat) + 1) ((n : Int) - (i : Nat) - 1))) .zero hs' hit' (by intro e; injection e with e; exact absurd e (by decide))
    refine h _ _ _ ⟨_, rfl⟩ ?_ H2
    have e1 : p + ((i + 1 : Nat) : Int) = p + (i : Nat) + 1 := by push_cast; omega
    have e2 : (n : Int) - ((i + 1 : Nat) : Int) = (n : Int) - (i : Nat) - 1 := by push_cast; omega
    rw [e1, e2]
  fin := by
    intro c m lg s Q E hit _ H h
    subst hit
    have hit : IsRangeIter s.heap I (p + (n : Nat)) ((n : Int) - (n : Nat)) 1 := H.cells _ (.head _)
    exact wpAny_pyNext_range_end hh hit (by omega) fun h' he => h _ (H.lose (t' := s.toks) hnI hX he)
  self := by
    intro c m lg s Q E hit H h
    subst hit
    have hit : IsRangeIter s.heap I (p + ((0 : Nat) : Int)) ((n : Int) - ((0 : Nat) : Int)) 1 := H.cells _ (.head _)
    have hT : s.TypeIs (.ref I) "range_iterator" := ⟨_, hit, rfl⟩
    refine wpAny_pyIter_slot hT F.slot_range_iterator_iter (wpAny_call_entry F.slot_range_iterator_iter hT F.entry_range_iterator_iter ?_ (F.args_range_iterator_iter_1 _))
    show wpAny _ _ (ret (.ref I)) _ _ s
    exact wpAny_pure ⟨_, rfl, "range_iterator", _, hT, F.slot_range_iterator_next.lookup, h⟩
theorem it_list {I R : Addr} {rv : List Value} (hh : A.handled = none) (hnI : newIn b I) (hX : I ∉ X) : ItOk w A b X [(R, .seq "list" rv)] I rv.length (fun i c => ∃ o, c = .obj o ∧ LiO o R i) (fun i v => rv[i]? = some v) where
  next := by
    intro i c m lg s Q E hi r_2 hr H h
    refine ea1_2 r_2 fun o e_3 hLi => ?_
    try clear r_2
    subst e_3
    have hit : s.heap.IsListIter I R i := ⟨o, H.cells (I, .obj o) (.head _), hLi.1, hLi.2⟩
    have hl : s.heap.IsList R rv.toArray := H.seqL (.tail _ (hr _ (.head _)))
    refine wpAny_pyNext_list_item hit hl (x := rv[i]) (by simp [hi]) fun h' hit' hs' => ?_
    refine ea1_3 hit' fun o' q1 q2 q3 => ?_
    try clear hit'
    exact h _ _ _ (List.getElem?_eq_getElem hi) ⟨o', rfl, q2, q3⟩ (H.put (t' := s.toks) (c' := .obj o') .zero hs' q1 (LiO.plain ⟨q2, q3⟩))
  fin := by
    intro c m lg s Q E r_3 hr H h
    refine ea1_2 r_3 fun o e_4 hLi => ?_
    try clear r_3
    subst e_4
    have hit : s.heap.IsListIter I R rv.length := ⟨o, H.cells (I, .obj o) (.head _), hLi.1, hLi.2⟩
    have hl : s.heap.IsList R rv.toArray := H.seqL (.tail _ (hr _ (.head _)))
    exact wpAny_pyNext_list_end hh hit hl (by simp) fun h' he => h _ (H.lose (t' := s.toks) hnI hX he)
  self := by
    intro c m lg s Q E r_4 H h
    refine ea1_2 r_4 fun o e_5 hLi => ?_
    try clear r_4
    subst e_5
    have hit : s.heap.IsListIter I R 0 := ⟨o, H.cells (I, .obj o) (.head _), hLi.1, hLi.2⟩
    exact wpAny_pyIter_listiter hit h
end
end
section
open PySem PySem.W PySem.W.X PyProof.Rows PySem.Calls
theorem fn_octet (w : World) : FnOk w 135 ["x"] [] := ⟨by kernel_rfl, by kernel_rfl, by kernel_rfl, by kernel_rfl, by kernel_rfl, by kernel_rfl, by kernel_rfl, by kernel_rfl⟩
noncomputable def octOf (x : Int) : Int := if x % 8 = 0 then 0 else if x % 8 = 1 then 1 + x / 8 % 99 else 100 + x / 8 % 156
theorem octOf_rng (x : Int) : 0 ≤ octOf x ∧ octOf x < 256 := by
  unfold octOf
  split
  · omega
  · split
    · omega
    · omega
section
variable {w : World} {b : Shared} {X : List Addr} {l l' : List (Addr × Cell)} {lg : List (Nat × GenState)} {s : Shared} {A : Around} {Q E : Value → Shared → Prop}
set_option maxRecDepth 10000 in
theorem ok_octet {x : Int} {t : Tok} (G : Glob w b X) (H : W b X l lg s) (hA : A.depth < recursionLimit) (h : ∀ t s', W b X l lg s' → Q (.int (octOf x) t) s') : wpAny (model prg w) A (call (.ref 135) [.int x t]) Q E s := by
  refine call_def ["x"] [] (nm := ["x"]) (vs := [some (.int x t)]) rfl rfl G H (fn_octet w) (by kernel_rfl) (by kernel_rfl) (by kernel_rfl) rfl hA ?_
  intro L env s₁ EV hnL H₁
  refine wpAny_execs_cons ?_
  ktn_no "go"
  refine r_ite (fun h8 => ?_) (fun h8 => ?_)
  · have e : octOf x = 0 := if_pos (eq_of_beq h8)
    ktn_no "go"
    rw [e] at h
    rename_i H₂
    exact h _ _ H₂.tail
  · have e0 : ¬ x % 8 = 0 := ne_of_beq_false h8
    ktn_no "go"
    refine r_ite (fun h9 => ?_) (fun h9 => ?_)
    · have e : octOf x = 1 + x / 8 % 99 := (if_neg e0).trans (if_pos (eq_of_beq h9))
      ktn_no "go"
      rw [e] at h
      rename_i H₂
      exact h _ _ H₂.tail
    · have e : octOf x = 100 + x / 8 % 156 := (if_neg e0).trans (if_neg (ne_of_beq_false h9))
      ktn_no "go"
      rw [e] at h
      rename_i H₂
      exact h _ _ H₂.tail
end
end
section
open PySem PySem.W PySem.W.X PyProof.Rows PySem.Calls
/-! names within a comprehension -/
theorem relk {env : Env} {q : NameKind} (hq : q ≠ .free) : ∀ {names : List (Str × NameKind)} {x : Str}, names.lookup x = some q →
    (names.map fun (n, k) => if (k == NameKind.free && env.scope.kind == .function && env.kindOf n == some .cell) then (n, NameKind.cell) else (n, k)).lookup x = some q
  | [], _, h => by simp at h
  | (n, k) :: r, x, h => by
    have ih := @relk env q hq r x
    rw [List.lookup_cons] at h
    rw [List.map_cons]
    by_cases e : x == n
    · simp only [e] at h
      have hk : k = q := Option.some.inj h
      have : (k == NameKind.free) = false := by rw [hk]; cases q <;> first | rfl | exact absurd rfl hq
      simp only [this, Bool.false_and, Bool.false_eq_true, if_false]
      rw [List.lookup_cons]; simp only [e]; rw [hk]
    · have e' : (x == n) = false := by simpa using e
      simp only [e'] at h
      have ih' := ih h
      cases hcd : (k == NameKind.free && env.scope.kind == .function && env.kindOf n == some .cell) with
      | true =>
        simp only [hcd, if_true]
        rw [List.lookup_cons]; simp only [e']; exact ih'
      | false =>
        simp only [hcd, Bool.false_eq_true, if_false]
        rw [List.lookup_cons]; simp only [e']; exact ih'
theorem relc {env : Env} (he : env.scope.kind = .function) : ∀ {names : List (Str × NameKind)} {x : Str}, env.kindOf x = some .cell → names.lookup x = some .free →
    (names.map fun (n, k) => if (k == NameKind.free && env.scope.kind == .function && env.kindOf n == some .cell) then (n, NameKind.cell) else (n, k)).lookup x = some .cell
  | [], _, _, h => by simp at h
  | (n, k) :: r, x, hc, h => by
    have ih := @relc env he r x hc
    rw [List.lookup_cons] at h
    rw [List.map_cons]
    by_cases e : x == n
    · simp only [e] at h
      have hk : k = .free := Option.some.inj h
      have hn : x = n := eq_of_beq e
      have : (k == NameKind.free && env.scope.kind == .function && env.kindOf n == some .cell) = true := by rw [hk, he, ← hn, hc]; rfl
      simp only [this, if_true]
      rw [List.lookup_cons]; simp only [e]
    · have e' : (x == n) = false := by simpa using e
      simp only [e'] at h
      have ih' := ih h
      cases hcd : (k == NameKind.free && env.scope.kind == .function && env.kindOf n == some .cell) with
      | true =>
        simp only [hcd, if_true]
        rw [List.lookup_cons]; simp only [e']; exact ih'
      | false =>
        simp only [hcd, Bool.false_eq_true, if_false]
        rw [List.lookup_cons]; simp only [e']; exact ih'
section
variable {w : World} {b : Shared} {X : List Addr} {l l' : List (Addr × Cell)} {lg lg' : List (Nat × GenState)} {s : Shared} {A : Around} {Q E : Value → Shared → Prop} {env : Env} {scope : Scope} {cl : List (Str × Addr)} {C L c : Addr} {x y : Str} {v : Value} {pos : Pos} {nm gl : List Str}
theorem c_loc (H : W b X ((C, .ns [x] [some v]) :: l) lg s) (hk : scope.kind = .function) (hx : scope.names.lookup x = some .local) (hd : (x == ("__debug__" : Str)) = false) (h : Q v s) : wpAny (model prg w) A (eval (.Name x pos) (compEnvC scope cl C env)) Q E s := by
  have hn : s.heap.Ns C (look [x] [some v]) := H.cells (C, .ns [x] [some v]) (.head _)
  exact wpAny_Name (wpAny_loadName_local (env := compEnvC scope cl C env) hk (relk (by decide) hx) hn ((Nth2.zero : Nth2 [x] [some v] x _).look (by simp)) h) hd
theorem c_glob (G : Glob w b X) (EV : EnvOk env L nm gl) (H : W b X l lg s) (hk : scope.kind = .function) (hx : scope.names.lookup x = some .globalImplicit) (hd : (x == ("__debug__" : Str)) = false) (e : nsIn (KK w) mainGlobals x = some (some v)) (h : Q v s) : wpAny (model prg w) A (eval (.Name x pos) (compEnvC scope cl C env)) Q E s := by
  refine ea1_2 (G.main H e) fun mg h1 h2 => ?_
  exact Name_function_global (env := compEnvC scope cl C env) hk (relk (by decide) hx) (loadGlobal_global (by show s.heap.Ns env.globals _; rw [EV.globals]; exact h1) h2 h) hd
theorem c_blt (G : Glob w b X) (EV : EnvOk env L nm gl) (H : W b X l lg s) (hk : scope.kind = .function) (hx : scope.names.lookup x = some .globalImplicit) (hd : (x == ("__debug__" : Str)) = false) (e : nsIn (KK w) mainGlobals x = some none) (e' : bootBuiltins x = some v) (hn : x ≠ "__name__") (h : Q v s) : wpAny (model prg w) A (eval (.Name x pos) (compEnvC scope cl C env)) Q E s := by
  refine ea2_4 (G.builtin H e e' hn) fun mg mb h1 h2 h3 h4 => ?_
  exact Name_function_global (env := compEnvC scope cl C env) hk (relk (by decide) hx) (loadGlobal_builtin (by show s.heap.Ns env.globals _; rw [EV.globals]; exact h1) h2 (by show s.heap.Ns env.builtins _; rw [EV.builtins]; exact h3) h4 h) hd
theorem c_cell (EV : EnvOk env L nm gl) (H : W b X l lg s) (hk : scope.kind = .function) (hx : scope.names.lookup x = some .free) (hc : env.kindOf x = some .cell) (hcl : cl.lookup x = some c) (hm : (c, .cel (some v)) ∈ l) (hd : (x == ("__debug__" : Str)) = false) (h : Q v s) : wpAny (model prg w) A (eval (.Name x pos) (compEnvC scope cl C env)) Q E s :=
  wpAny_Name (wpAny_loadName_cell (env := compEnvC scope cl C env) hk (relc EV.kind hc hx) hcl (H.cells _ hm) h) hd

/-- the loop of a comprehension whose ledger stays -/
theorem comp_stay {elt iter : Expr} {px pos : Pos} {n : Nat} {it : Nat → Cell → Prop} {item : Nat → Value → Prop} {I : Addr} {c0 : Cell} {m0 req : List (Addr × Cell)} {RR : Value → Addr → Result → Shared → Prop} {P : Nat → Value → Prop} {E : Value → Shared → Prop}
    (IT : ItOk w A b X req I n it item) (hn : n ≤ 1000) (hcell : ∀ y ∈ scope.names, y.2 ≠ .cell) (hkind : scope.kind = .function) (h0 : it 0 c0) (H : W b X ((I, c0) :: m0) lg s) (hreq : ∀ p ∈ req, p ∈ m0) (hx : scope.names.lookup x = some .local)
    (step : ∀ C i v l2 s₃, i < n → item i v → (∀ p ∈ m0, p ∈ l2) → W b X ((C, .ns [x] [some v]) :: l2) lg s₃ → wpAny (model prg w) A (eval elt (compEnvC scope cl C env)) (fun y s₄ => P i y ∧ W b X ((C, .ns [x] [some v]) :: l2) lg s₄) (fun _ _ => False) s₃)
    (fin : ∀ D C ys u s', ys.length = n → (∀ j y, ys[j]? = some y → P j y) → newIn b D → newIn b C → C ∉ X → W b X ((C, .ns [x] [u]) :: (D, .seq "list" ys) :: m0) lg s' → RR (.ref D) C (.ok .next) s') :
    wpAny (model prg w) A (newList []) (fun acc s₃ => wpAny (model prg w) A (newFunctionEnv scope env.globals cl [] env.qual none .none (some env)) (fun cenv s₄ =>
      codeAny (model prg w) A (.compStart (.ListComp elt [⟨.Name x px, iter, [], 0⟩] scope pos) 0 (.ref I) acc { cenv with scope := relabel scope env }) (RR acc cenv.locals) s₄) E s₃) E s := by
  refine comp_loop IT (fun i m vs => m = m0 ∧ vs.length = i ∧ ∀ j y, vs[j]? = some y → P j y) hn hcell hkind h0 H ⟨rfl, rfl, fun j y q => by simp at q⟩ (fun i m vs q => by rw [q.1]; exact hreq) ?_ hx ?_
  · intro C D i m vs v c s₃ hi r_1 hv hnC _ H3
    refine ea0_3 r_1 fun e_1 hl hP => ?_
    try clear r_1
    subst e_1
    refine wpAny_mono (step C i v _ s₃ hi hv (fun p hp => .tail _ (.tail _ hp)) H3) (fun y s₄ h₄ => ⟨_, ⟨rfl, by simp [hl], fun j z q => ?_⟩, h₄.2⟩) fun _ _ z => z
    rcases Nat.lt_or_ge j vs.length with q1 | q1
    · exact hP j z (by rw [List.getElem?_append_left q1] at q; exact q)
    · rw [List.getElem?_append_right q1] at q
      have : j = vs.length := by
        rcases Nat.eq_zero_or_pos (j - vs.length) with q2 | q2
        · omega
        · rw [List.getElem?_eq_none (by simp; omega)] at q; cases q
      subst this
      rw [Nat.sub_self] at q
      cases q
      rw [hl]; exact h₄.1
  · intro D C m vs u s' r_2 hnD hnC hCX H'
    refine ea0_3 r_2 fun e_2 hl hP => ?_
    try clear r_2
    subst e_2
    exact fin D C vs u s' hl hP hnD hnC hCX H'
/-- what a comprehension over a list of the ledger leaves -/
noncomputable def CompL (w : World) (A : Around) (b : Shared) (X : List Addr) (lg : List (Nat × GenState)) (env : Env) (scope : Scope) (cl : List (Str × Addr)) (x : Str) (elt : Expr) (m0 : List (Addr × Cell)) (n : Nat) (item : Nat → Value → Prop) (K : Addr → Shared → Prop) : Prop :=
  ∃ P : Nat → Value → Prop, (∀ C i v l2 s₃, i < n → item i v → (∀ p ∈ m0, p ∈ l2) → W b X ((C, .ns [x] [some v]) :: l2) lg s₃ → wpAny (model prg w) A (eval elt (compEnvC scope cl C env)) (fun y s₄ => P i y ∧ W b X ((C, .ns [x] [some v]) :: l2) lg s₄) (fun _ _ => False) s₃) ∧
    ∀ D ys s', ys.length = n → (∀ j y, ys[j]? = some y → P j y) → newIn b D → W b X ((D, .seq "list" ys) :: m0) lg s' → K D s'
theorem r_compL {elt iter : Expr} {px : Pos} (hh : A.handled = none) (hclos : closureFor scope env = pure cl) (hcell : ∀ y ∈ scope.names, y.2 ≠ .cell) (hkind : scope.kind = .function)
    (hnames : ∀ y ∈ scope.names, y.2 = .local → scope.names.lookup y.1 = some .local) (hx : scope.names.lookup x = some .local)
    (h : wpAny (model prg w) A (eval iter env) (fun xv s₁ => ∃ R rv m0, xv = .ref R ∧ W b X m0 lg s₁ ∧ (R, .seq "list" rv) ∈ m0 ∧ rv.length ≤ 1000 ∧ CompL w A b X lg env scope cl x elt m0 rv.length (fun i v => rv[i]? = some v) fun D s' => Q (.ref D) s') E s)
    (hs : ∀ x, foldedSetIterable iter env x = pure x := by intro _; rfl) :
    wpAny (model prg w) A (eval (.ListComp elt [⟨.Name x px, iter, [], 0⟩] scope pos) env) Q E s := by
  rw [eval_ListComp]
  refine wpAny_comprehension_free (use := none) rfl hs hclos hkind hnames (wpAny_mono h (fun xv s₁ h₁ => ?_) fun _ _ e => e)
  refine ea3_5 h₁ fun R rv m0 e_3 H hm hz q_4 => ?_
  try clear h₁
  subst e_3
  obtain ⟨P, step, fin⟩ := q_4
  refine wpAny_pyIter_list (H.seqL hm) ?_
  have H1 := H.push (o := { cls := .type "list_iterator", data := .fields #[.ref R, .int 0 0] }) (c := .obj { cls := .type "list_iterator", data := .fields #[.ref R, .int 0 0] }) (t' := s₁.toks) rfl (fun h' q => q) (by intro e; injection e with e; exact absurd e (by decide))
  refine comp_stay (RR := fun acc C => compPost (model prg w) A E none Q acc C) (it_list hh H.fresh H.sizeX) hz hcell hkind ⟨_, rfl, rfl, rfl⟩ H1 (fun p hp => by rw [List.mem_singleton.mp hp]; exact hm) hx step ?_
  intro D C ys u s' hl hP hnD hnC hCX H'
  exact ⟨_, H'.cells (C, .ns [x] [u]) (.head _), fun h' hs' => fin D ys _ hl hP hnD (H'.lose (t' := s'.toks) hnC hCX hs'.extBut)⟩
theorem r_compR {elt iter : Expr} {px : Pos} (hh : A.handled = none) (hclos : closureFor scope env = pure cl) (hcell : ∀ y ∈ scope.names, y.2 ≠ .cell) (hkind : scope.kind = .function)
    (hnames : ∀ y ∈ scope.names, y.2 = .local → scope.names.lookup y.1 = some .local) (hx : scope.names.lookup x = some .local)
    (h : wpAny (model prg w) A (eval iter env) (fun xv s₁ => ∃ r p q t1 t2 t3 m0, xv = .ref r ∧ IsRange s₁.heap r p (p + (q : Nat)) 1 t1 t2 t3 ∧ W b X m0 lg s₁ ∧ q ≤ 1000 ∧ 0 ≤ p ∧ p ≤ 1000 ∧ CompL w A b X lg env scope cl x elt m0 q (fun i v => ∃ t, v = .int (p + (i : Nat)) t) fun D s' => Q (.ref D) s') E s)
    (hs : ∀ x, foldedSetIterable iter env x = pure x := by intro _; rfl) :
    wpAny (model prg w) A (eval (.ListComp elt [⟨.Name x px, iter, [], 0⟩] scope pos) env) Q E s := by
  rw [eval_ListComp]
  refine wpAny_comprehension_free (use := none) rfl hs hclos hkind hnames (wpAny_mono h (fun xv s₁ h₁ => ?_) fun _ _ e => e)
  refine ea7_7 h₁ fun r p q t1 t2 t3 m0 e_5 hr H hz h0 h1 q_6 => ?_
  try clear h₁
  subst e_5
  obtain ⟨P, step, fin⟩ := q_6
  refine wpAny_pyIter_range hr (small_one (by omega) (by omega) (by omega) (by omega)) ?_
  have hsz : Builtin.Range.rangeSize p (p + (q : Nat)) 1 = (q : Int) := by rw [rangeSize_one]; split <;> omega
  have H1 := H.push (o := rgIt p (Builtin.Range.rangeSize p (p + (q : Nat)) 1)) (c := .obj (rgIt p (Builtin.Range.rangeSize p (p + (q : Nat)) 1))) (t' := s₁.toks) rfl (fun h' q => q) (by intro e; injection e with e; exact absurd e (by decide))
  rw [hsz] at H1 ⊢
  refine comp_stay (RR := fun acc C => compPost (model prg w) A E none Q acc C) (it_range (p := p) (n := q) hh H.fresh H.sizeX) hz hcell hkind (by simp) H1 (fun p hp => by cases hp) hx step ?_
  intro D C ys u s' hl hP hnD hnC hCX H'
  exact ⟨_, H'.cells (C, .ns [x] [u]) (.head _), fun h' hs' => fin D ys _ hl hP hnD (H'.lose (t' := s'.toks) hnC hCX hs'.extBut)⟩
end
end
section
open PySem PySem.W PySem.W.X PyProof.Rows PySem.Calls
theorem fn_floats (w : World) : FnOk w 192 ["answer"] ["isinstance", "list", "float"] := ⟨by kernel_rfl, by kernel_rfl, by kernel_rfl, by kernel_rfl, by kernel_rfl, by kernel_rfl, by kernel_rfl, by kernel_rfl⟩
noncomputable def Num.isF : Num → Bool | .i _ => false | .f _ => true
noncomputable def flOf : Out → List Bool | .told (.one n) => [n.isF] | .told (.many ns) => ns.map Num.isF | _ => [false]
/-- how an answer stands in the ledger -/
noncomputable def AnsAt (l : List (Addr × Cell)) : Ans → Value → Prop
  | .one n, v => NumIs n v
  | .many ns, v => ∃ T vs, v = .ref T ∧ (T, .seq "list" vs) ∈ l ∧ NumsAre vs ns
/-- how an outcome stands in the ledger: its two values -/
noncomputable def OutAt (l : List (Addr × Cell)) : Out → Value → Value → Prop
  | .told a, x, y => (∃ t, x = .str "told" t) ∧ AnsAt l a y
  | .refused m, x, y => (∃ t, x = .str "refused" t) ∧ ∃ t, y = .str m t
  | .fin m, x, y => (∃ t, x = .str "end" t) ∧ ∃ t, y = .str m t
theorem AnsAt.mono {l l' : List (Addr × Cell)} {a : Ans} {v : Value} (h : AnsAt l a v) (hs : ∀ p ∈ l, p ∈ l') : AnsAt l' a v := by
  cases a with
  | one n => exact h
  | many ns => obtain ⟨T, vs, h1, h2, h3⟩ := h; exact ⟨T, vs, h1, hs _ h2, h3⟩
theorem OutAt.mono {l l' : List (Addr × Cell)} {o : Out} {x y : Value} (h : OutAt l o x y) (hs : ∀ p ∈ l, p ∈ l') : OutAt l' o x y := by
  cases o with
  | told a => exact ⟨h.1, h.2.mono hs⟩
  | refused m => exact h
  | fin m => exact h
noncomputable def Num.nmaxO : Out → Nat | .told (.many ns) => ns.length | _ => 0
theorem nums_at : ∀ {vs : List Value} {ns : List Num}, NumsAre vs ns → ∀ (k : Nat) (v : Value), vs[k]? = some v → ∃ n, ns[k]? = some n ∧ NumIs n v
  | _, _, .nil, k, v, h => by simp at h
  | _, _, .cons h1 h2, 0, v, h => by cases h; exact ⟨_, rfl, h1⟩
  | _, _, .cons h1 h2, k + 1, v, h => by obtain ⟨n, e, q⟩ := nums_at h2 k v (by simpa using h); exact ⟨n, by simpa using e, q⟩
section
variable {w : World} {b : Shared} {X : List Addr} {l l' : List (Addr × Cell)} {lg lg' : List (Nat × GenState)} {s : Shared} {A : Around} {Q E : Value → Shared → Prop} {a : Addr} {vs : List Value} {n : Num} {v : Value}
theorem isi_num_float (H : W b X l lg s) (hn : NumIs n v) (h : ∀ s', W b X l lg s' → Q (.bool n.isF) s') : wpAny (model prg w) A (call (.builtin "isinstance") [v, .type "float"]) Q E s := by
  cases hn with
  | i k t => exact IsiPair.int_float (h _ (H.tok _))
  | f x t => exact IsiPair.float_float (h _ H)
theorem isi_num_list (H : W b X l lg s) (hn : NumIs n v) (h : ∀ s', W b X l lg s' → Q (.bool false) s') : wpAny (model prg w) A (call (.builtin "isinstance") [v, .type "list"]) Q E s := by
  cases hn with
  | i k t => exact IsiPair.int_list (h _ (H.tok _))
  | f x t => exact IsiPair.float_list (h _ (H.tok _))
theorem isi_str_list {m : Str} {t : Tok} (H : W b X l lg s) (h : ∀ s', W b X l lg s' → Q (.bool false) s') : wpAny (model prg w) A (call (.builtin "isinstance") [.str m t, .type "list"]) Q E s := IsiPair.str_list (h _ (H.tok _))
theorem isi_str_float {m : Str} {t : Tok} (H : W b X l lg s) (h : ∀ s', W b X l lg s' → Q (.bool false) s') : wpAny (model prg w) A (call (.builtin "isinstance") [.str m t, .type "float"]) Q E s := IsiPair.str_float (h _ (H.tok _))
theorem isi_list_list (H : W b X l lg s) (hm : (a, .seq "list" vs) ∈ l) (h : Q (.bool true) s) : wpAny (model prg w) A (call (.builtin "isinstance") [.ref a, .type "list"]) Q E s := by
  refine ea1_1 (H.cells _ hm : ∃ n, s.heap.get? a = some (seqObj "list" vs.toArray n)) fun n ho => ?_
  exact IsiPair.list_list ho rfl h
set_option maxRecDepth 10000 in
set_option maxHeartbeats 4000000 in
theorem ok_floats {o : Out} {x y : Value} (G : Glob w b X) (H : W b X l lg s) (ho : OutAt l o x y) (hz : Num.nmaxO o ≤ 100) (hA : A.depth < recursionLimit) (hh : A.handled = none)
    (h : ∀ F s', newIn b F → W b X ((F, .seq "list" ((flOf o).map Value.bool)) :: l) lg s' → Q (.ref F) s') : wpAny (model prg w) A (call (.ref 192) [y]) Q E s := by
  refine call_def ["answer"] [] (nm := ["answer"]) (vs := [some y]) rfl rfl G H (fn_floats w) (by kernel_rfl) (by kernel_rfl) (by kernel_rfl) rfl hA ?_
  intro L env s₁ EV hnL H₁
  have hh' : (A.deeper env).handled = none := hh
  refine wpAny_execs_cons ?_
  ktn_no "go"
  cases o with
  | told an =>
    cases an with
    | one n =>
      refine isi_num_list (by assumption) ho.2 ?_
      intro s₂ H₂
      ktn_no "go"
      refine ite_n (by decide) ?_
      ktn_no "go"
      refine isi_num_float (by assumption) ho.2 ?_
      intro s₃ H₃
      ktn_no "go"
      exact ex2 _ _ ⟨by assumption, by simp, fun T s' hn HT => h T s' hn HT.del1⟩
    | many ns =>
      refine ea2_3 ho.2 fun T vs e_1 hm hvs => ?_
      subst e_1
      refine isi_list_list (by assumption) (.tail _ hm) ?_
      ktn_no "go"
      refine ite_t rfl ?_
      ktn_no "go"
      have hl : vs.length = ns.length := hvs.length
      refine r_compL (b := b) (X := X) (lg := lg) (cl := []) hh' (closureFor_none (by decide)) (by decide) rfl (by decide) rfl ?_
      ktn_no "go"
      refine ex3 T vs _ ⟨rfl, by assumption, .tail _ hm, by rw [hl]; exact Nat.le_trans hz (by decide), fun i v => ∃ n, ns[i]? = some n ∧ v = .bool n.isF, ?_, ?_⟩
      · intro C i v l2 s₃ hi hv hsub H3
        refine ea1_2 (nums_at hvs i v hv) fun n hn1 hn2 => ?_
        refine r_Call ?_
        refine c_blt (v := .builtin "isinstance") G EV H3 rfl rfl rfl (by kernel_rfl) (by kernel_rfl) (by decide) ?_
        ktn_no "go"
        refine c_loc H3 rfl rfl rfl ?_
        ktn_no "go"
        refine c_blt (v := .type "float") G EV H3 rfl rfl rfl (by kernel_rfl) (by kernel_rfl) (by decide) ?_
        ktn_no "go"
        exact isi_num_float H3 hn2 fun s' H' => ⟨⟨n, hn1, rfl⟩, H'⟩
      · intro D ys s' hyl hP hnD HD
        refine h D s' hnD ?_
        have e : ys = (flOf (.told (.many ns))).map Value.bool := by
          refine List.ext_getElem? fun j => ?_
          show ys[j]? = ((ns.map Num.isF).map Value.bool)[j]?
          rw [List.getElem?_map, List.getElem?_map]
          cases q : ys[j]? with
          | none =>
            have : ns.length ≤ j := by rw [← hl, ← hyl]; exact List.getElem?_eq_none_iff.mp q
            rw [List.getElem?_eq_none this]; rfl
          | some y =>
            refine ea1_2 (hP j y q) fun n hn1 e_2 => ?_
            subst e_2
            rw [hn1]; rfl
        rw [← e]; exact HD.del1
  | refused m =>
    refine ea0_2 ho fun _ q_3 => ?_
    try clear ho
    refine ea1_1 q_3 fun t e_4 => ?_
    subst e_4
    refine isi_str_list (by assumption) ?_
    intro s₂ H₂
    ktn_no "go"
    refine ite_n (by decide) ?_
    ktn_no "go"
    refine isi_str_float (by assumption) ?_
    intro s₃ H₃
    ktn_no "go"
    exact ex2 _ _ ⟨by assumption, by simp, fun T s' hn HT => h T s' hn HT.del1⟩
  | fin m =>
    refine ea0_2 ho fun _ q_5 => ?_
    try clear ho
    refine ea1_1 q_5 fun t e_6 => ?_
    subst e_6
    refine isi_str_list (by assumption) ?_
    intro s₂ H₂
    ktn_no "go"
    refine ite_n (by decide) ?_
    ktn_no "go"
    refine isi_str_float (by assumption) ?_
    intro s₃ H₃
    ktn_no "go"
    exact ex2 _ _ ⟨by assumption, by simp, fun T s' hn HT => h T s' hn HT.del1⟩
end
end
section
open PySem PySem.W PySem.W.X PyProof.Rows PySem.Calls PySem.SeqAt
noncomputable def Num.Ok : Num → Prop | .i _ => True | .f x => Float64.cmp x x = some .eq
noncomputable def Out.Ok : Out → Prop | .told (.one n) => n.Ok | .told (.many ns) => ∀ n ∈ ns, n.Ok | _ => True
theorem cmp_self {x : UInt64} {neg : Bool} {m : Nat} {e : Int} (h : Float64.decode x = .fin neg m e) : Float64.cmp x x = some .eq := by
  unfold Float64.cmp
  simp only [h]
  unfold Float64.align
  simp
theorem fdiv_ok {a c : Int} (ha : a.natAbs < 2 ^ 60) (hc : c ≠ 0) : (Num.f (fdiv a c)).Ok := by
  refine ea2_1 (ofFrac_fin (decide (a < 0) != decide (c < 0)) ha (d := c.natAbs) (by omega)) fun m e hd => ?_
  exact cmp_self hd
section
variable {w : World} {b : Shared} {X : List Addr} {l l' : List (Addr × Cell)} {lg lg' : List (Nat × GenState)} {s : Shared} {A : Around} {Q E : Value → Shared → Prop} {n : Num} {u v : Value}
theorem booked (G : Glob w b X) (H : W b X l lg s) : NoneBooked s.heap := by
  refine ea1_2 G.lim fun mc hn _ => ?_
  exact ⟨mc, H.ns hn G.lx, ns_none_of G.kin hn (by kernel_rfl)⟩
theorem wp_isSame_float {M : Model} {x y : UInt64} {u v : Tok} {Q : Bool → Shared → Prop}
    (h1 : u ≠ 0) (h2 : v ≠ 0) (hb : NoneBooked s.heap) (hq : ∀ b, Q b s) : wpAny M A (isSame (.float x u) (.float y v)) Q E s := by
  have h0 : (u == 0 || v == 0) = false := by simp [h1, h2]
  show wpAny M A (isSame.created (x == y && !Float64.isNaN x) u v) Q E s
  unfold isSame.created
  refine wpAny_ite ?_
  split
  · rename_i h; rw [h0] at h; exact absurd h Bool.false_ne_true
  refine wpAny_ite ?_
  split
  · exact wpAny_pure (hq _)
  refine wpAny_ite ?_
  split
  · exact wpAny_pure (hq _)
  refine wpAny_bind (wpAny_sharingNotTold_none hb ?_)
  first | rw [if_neg Bool.false_ne_true] | simp only [Bool.false_eq_true, if_false]
  refine wpAny_bind (wpAny_sharingNotTold_none hb ?_)
  first | rw [if_neg Bool.false_ne_true] | simp only [Bool.false_eq_true, if_false]
  exact wpAny_bind (wpAny_rule (wpAny_bind (wpAny_askSetting (wpAny_pure (hq _)))))
theorem eq_num (hb : NoneBooked s.heap) (h1 : NumIs n u) (h2 : NumIs n v) (hok : n.Ok) : EqAt A s u v true := by
  cases h1 with
  | i k t => cases h2 with
    | i k u => have := EqAt.int_int (A := A) (s := s) k t k u; simpa using this
  | f x t ht => cases h2 with
    | f x t' ht' =>
      have rc : RcAt A s (.float x t) (.float x t') (Float64.cmp x x == some Ordering.eq) := fun prog w E Q h =>
        richCompare_gives (AutoFloatOps.typeIs_float s x t) (AutoFloatOps.typeIs_float s x t') F.slot_float_eq F.entry_float_eq (F.args_float_eq_2 _ _) (AutoFloatG5.float___eq___float_float_0 x t x t') (fun x => nomatch x) h
      have hok' : Float64.cmp x x = some .eq := hok
      rw [hok'] at rc
      intro prog w E Q h
      unfold eqBool
      refine wpAny_holding ?_
      refine wpAny_ite_split (fun hab => ?_) (fun _ => ?_)
      · exact wpAny_bind (wpAny_rule (wpAny_pure h))
      · refine wpAny_bind (wp_isSame_float ht ht' hb fun c => ?_)
        cases c with
        | true => exact wpAny_pure h
        | false => exact wpAny_bind (rc prog w E _ (wpAny_truthy_bool h))
theorem all_yes (n : Nat) : ((List.range n).all fun _ => true) = true := by rw [List.all_eq_true]; intros; rfl
theorem eq_seqs {T T' : Addr} {vs ws : List Value} (H : W b X l lg s) (h1 : (T, .seq "list" vs) ∈ l) (h2 : (T', .seq "list" ws) ∈ l) (hu : A.units < cLine) (hl : vs.length = ws.length) (he : ∀ (j : Nat) u v, vs[j]? = some u → ws[j]? = some v → EqAt A.in1 s u v true) : EqAt A s (.ref T) (.ref T') true := by
  by_cases q : T = T'
  · subst q; exact EqAt.same _
  · have := RcAt.lists (A := A) (e := fun _ => true) (H.seqL h1) (H.seqL h2) (by simpa using hl) hu (fun j q1 q2 => he j _ _ (by simp) (by simp))
    rw [all_yes] at this
    exact EqAt.of_refs q this
theorem ne_seqs {T T' : Addr} {vs ws : List Value} {Q : Value → Shared → Prop} (H : W b X l lg s) (h1 : (T, .seq "list" vs) ∈ l) (h2 : (T', .seq "list" ws) ∈ l) (hu : A.units < cLine) (hl : vs.length = ws.length) (he : ∀ (j : Nat) u v, vs[j]? = some u → ws[j]? = some v → EqAt A.in1 s u v true) (h : Q (.bool false) s) :
    wpAny (model prg w) A (compareOp .NotEq (.ref T) (.ref T')) Q E s := by
  show wpAny _ _ (richCompare .NotEq (.ref T) (.ref T')) _ _ _
  have := RcNeAt.lists (A := A) (e := fun _ => true) (H.seqL h1) (H.seqL h2) (by simpa using hl) hu (fun j q1 q2 => he j _ _ (by simp) (by simp))
  rw [all_yes] at this
  exact this prg w E Q h
theorem eq_ans {a : Ans} (G : Glob w b X) (H : W b X l lg s) (h1 : AnsAt l a u) (h2 : AnsAt l a v) (hok : (Out.told a).Ok) (hu : A.units < cLine) : EqAt A s u v true := by
  cases a with
  | one n => exact eq_num (booked G H) h1 h2 hok
  | many ns =>
    refine ea2_3 h1 fun T vs e_1 hm hvs => ?_
    try clear h1
    subst e_1
    refine ea2_3 h2 fun T' ws e_2 hm' hws => ?_
    try clear h2
    subst e_2
    refine eq_seqs H hm hm' hu (hvs.length.trans hws.length.symm) fun j u v e1 e2 => ?_
    refine ea1_2 (nums_at hvs j u e1) fun n q1 q2 => ?_
    refine ea1_2 (nums_at hws j v e2) fun n' q3 q4 => ?_
    have : n' = n := Option.some.inj (q3.symm.trans q1)
    subst this
    exact eq_num (booked G H) q2 q4 (hok _ (List.mem_of_getElem? q1))
theorem eq_str' {m : Str} {t t' : Tok} : EqAt A s (.str m t) (.str m t') true := by
  have := EqAt.str_str (A := A) (s := s) m t m t'; simpa using this
theorem eq_int' {k : Int} {t t' : Tok} : EqAt A s (.int k t) (.int k t') true := by
  have := EqAt.int_int (A := A) (s := s) k t k t'; simpa using this
/-- told != due: no -/
theorem ne_outs {o : Out} {T T' : Addr} {x y x' y' : Value} {q : Int} {t t' : Tok} (G : Glob w b X) (H : W b X l lg s) (h1 : (T, .seq "list" [x, y, .int q t]) ∈ l) (h2 : (T', .seq "list" [x', y', .int q t']) ∈ l) (o1 : OutAt l o x y) (o2 : OutAt l o x' y') (hok : o.Ok) (hu : A.units + 5 < cLine) (h : Q (.bool false) s) :
    wpAny (model prg w) A (compareOp .NotEq (.ref T) (.ref T')) Q E s := by
  refine ne_seqs H h1 h2 (by omega) rfl (fun j u v e1 e2 => ?_) h
  have hxy : EqAt A.in1 s x x' true ∧ EqAt A.in1 s y y' true := by
    cases o with
    | told a =>
      refine ea0_2 o1 fun q_3 a1 => ?_
      try clear o1
      obtain ⟨t1, rfl⟩ := q_3
      refine ea0_2 o2 fun q_4 a2 => ?_
      try clear o2
      obtain ⟨t2, rfl⟩ := q_4
      exact ⟨eq_str', eq_ans G H a1 a2 hok (by show A.units + 1 < _; omega)⟩
    | refused m =>
      refine ea0_2 o1 fun q_5 q_6 => ?_
      try clear o1
      refine ea1_1 q_6 fun t3 e_7 => ?_
      obtain ⟨t1, rfl⟩ := q_5
      subst e_7
      refine ea0_2 o2 fun q_8 q_9 => ?_
      try clear o2
      refine ea1_1 q_9 fun t4 e_10 => ?_
      obtain ⟨t2, rfl⟩ := q_8
      subst e_10
      exact ⟨eq_str', eq_str'⟩
    | fin m =>
      refine ea0_2 o1 fun q_11 q_12 => ?_
      try clear o1
      refine ea1_1 q_12 fun t3 e_13 => ?_
      obtain ⟨t1, rfl⟩ := q_11
      subst e_13
      refine ea0_2 o2 fun q_14 q_15 => ?_
      try clear o2
      refine ea1_1 q_15 fun t4 e_16 => ?_
      obtain ⟨t2, rfl⟩ := q_14
      subst e_16
      exact ⟨eq_str', eq_str'⟩
  match j, e1, e2 with
  | 0, e1, e2 => cases e1; cases e2; exact hxy.1
  | 1, e1, e2 => cases e1; cases e2; exact hxy.2
  | 2, e1, e2 => cases e1; cases e2; exact eq_int'
  | j + 3, e1, e2 => simp at e1
theorem ne_bools {T T' : Addr} {bs : List Bool} (H : W b X l lg s) (h1 : (T, .seq "list" (bs.map Value.bool)) ∈ l) (h2 : (T', .seq "list" (bs.map Value.bool)) ∈ l) (hu : A.units + 5 < cLine) (h : Q (.bool false) s) :
    wpAny (model prg w) A (compareOp .NotEq (.ref T) (.ref T')) Q E s := by
  refine ne_seqs H h1 h2 (by omega) rfl (fun j u v e1 e2 => ?_) h
  have : u = v := Option.some.inj (e1.symm.trans e2)
  subst this
  exact EqAt.same _
end
end
section
open PySem PySem.W PySem.W.X PyProof.Rows PySem.Calls
/-! the way from the first to beyond the last, in steps of a part -/
noncomputable def nearAt (ys : List Int) (parts t : Nat) : Nat := min (t / parts) (ys.length - 2)
noncomputable def wayAt (ys : List Int) (parts : Nat) : Nat → Int
  | 0 => ys.getD 0 0 * parts
  | t + 1 => wayAt ys parts t + ys.getD (nearAt ys parts t + 1) 0 - ys.getD (nearAt ys parts t) 0
noncomputable def cutAt (ys : List Int) (parts : Nat) (step off i : Int) : UInt64 :=
  if i * step - off < 0 then fdiv (wayAt ys parts 0 + (i * step - off) * (ys.getD 1 0 - ys.getD 0 0)) parts else fdiv (wayAt ys parts (i * step - off).toNat) parts
noncomputable def cutsN (ys : List Int) (parts : Nat) (step off : Int) : List Num :=
  if ys.length = 1 then List.replicate (parts - 1) (.i (ys.getD 0 0)) else (List.range (parts - 1)).map fun (k : Nat) => Num.f (cutAt ys parts step off (1 + (k : Int)))
theorem way_closed (ys : List Int) {parts : Nat} (hp : 0 < parts) : ∀ t, wayAt ys parts t = parts * ys.getD (nearAt ys parts t) 0 + ((t : Int) - parts * nearAt ys parts t) * (ys.getD (nearAt ys parts t + 1) 0 - ys.getD (nearAt ys parts t) 0)
  | 0 => by
    have h0 : nearAt ys parts 0 = 0 := by unfold nearAt; simp
    show ys.getD 0 0 * (parts : Int) = _
    rw [h0]; simp [Int.mul_comm]
  | t + 1 => by
    have ih := way_closed ys hp t
    show wayAt ys parts t + ys.getD (nearAt ys parts t + 1) 0 - ys.getD (nearAt ys parts t) 0 = _
    rw [ih]
    have hd := Nat.div_add_mod t parts
    have hm := Nat.mod_lt t hp
    by_cases q : nearAt ys parts (t + 1) = nearAt ys parts t
    · rw [q]
      generalize ys.getD (nearAt ys parts t) 0 = a
      generalize ys.getD (nearAt ys parts t + 1) 0 = c
      generalize (nearAt ys parts t) = j
      have e : ((t + 1 : Nat) : Int) - parts * j = ((t : Int) - parts * j) + 1 := by push_cast; omega
      rw [e, Int.add_mul, Int.one_mul]
      omega
    · have hs : nearAt ys parts (t + 1) = nearAt ys parts t + 1 ∧ t + 1 = parts * (nearAt ys parts t + 1) := by
        unfold nearAt at q ⊢
        have hd1 := Nat.div_add_mod (t + 1) parts
        have hm1 := Nat.mod_lt (t + 1) hp
        have hge : t / parts ≤ (t + 1) / parts := Nat.div_le_div_right (Nat.le_succ t)
        have hsucc : (t + 1) / parts ≤ t / parts + 1 := by
          have h2 : (t + 1) / parts ≤ (t + parts) / parts := Nat.div_le_div_right (by omega)
          rwa [Nat.add_div_right _ hp] at h2
        have hne : (t + 1) / parts ≠ t / parts := fun e => q (by rw [e])
        have e1 : (t + 1) / parts = t / parts + 1 := by omega
        have hlt : t / parts < ys.length - 2 := by
          rcases Nat.lt_or_ge (t / parts) (ys.length - 2) with h | h
          · exact h
          · exact absurd (by rw [e1, Nat.min_eq_right h, Nat.min_eq_right (by omega)]) q
        refine ⟨by rw [e1, Nat.min_eq_left (by omega), Nat.min_eq_left (by omega)], ?_⟩
        rw [Nat.min_eq_left (by omega), ← e1]
        have hz : (t + 1) % parts = 0 := by
          have h3 : parts * ((t + 1) / parts) = parts * (t / parts) + parts := by rw [e1, Nat.mul_add, Nat.mul_one]
          omega
        omega
      refine ea0_2 hs fun h1 h2 => ?_
      try clear hs
      have h3 : (t : Int) - parts * (nearAt ys parts t : Nat) = parts - 1 := by
        have : ((t + 1 : Nat) : Int) = ((parts * (nearAt ys parts t + 1) : Nat) : Int) := by rw [h2]
        push_cast at this
        rw [Int.mul_add] at this
        omega
      have h4 : ((t + 1 : Nat) : Int) - parts * ((nearAt ys parts t + 1 : Nat) : Int) = 0 := by
        have : ((t + 1 : Nat) : Int) = ((parts * (nearAt ys parts t + 1) : Nat) : Int) := by rw [h2]
        push_cast at this ⊢
        omega
      rw [h1, h4, h3]
      generalize ys.getD (nearAt ys parts t) 0 = a
      generalize ys.getD (nearAt ys parts t + 1) 0 = c
      rw [Int.zero_mul, Int.sub_mul, Int.one_mul, Int.mul_sub]
      omega
theorem getD_rng {ys : List Int} (hs : ∀ y ∈ ys, 0 ≤ y ∧ y < 256) (k : Nat) : 0 ≤ ys.getD k 0 ∧ ys.getD k 0 < 256 := by
  rw [List.getD_eq_getElem?_getD]
  cases q : ys[k]? with
  | none => simp
  | some y => exact hs y (List.mem_of_getElem? q)
theorem way_small {ys : List Int} (hs : ∀ y ∈ ys, 0 ≤ y ∧ y < 256) {parts : Nat} (hp : parts ≤ 7) : ∀ t, (wayAt ys parts t).natAbs ≤ 2000 + 256 * t
  | 0 => by
    have := getD_rng hs 0
    have h := bnd (d := (parts : Int)) this.1 this.2 (by omega)
    show (ys.getD 0 0 * (parts : Int)).natAbs ≤ _
    have h2 : ys.getD 0 0 * (parts : Int) ≤ 256 * 7 := Int.mul_le_mul (by omega) (by omega) (by omega) (by omega)
    have h3 : 0 ≤ ys.getD 0 0 * (parts : Int) := Int.mul_nonneg this.1 (by omega)
    omega
  | t + 1 => by
    have ih := way_small hs hp t
    have h1 := getD_rng hs (nearAt ys parts t)
    have h2 := getD_rng hs (nearAt ys parts t + 1)
    show (wayAt ys parts t + ys.getD (nearAt ys parts t + 1) 0 - ys.getD (nearAt ys parts t) 0).natAbs ≤ _
    omega
section
variable {w : World} {b : Shared} {X : List Addr} {l l' : List (Addr × Cell)} {lg lg' : List (Nat × GenState)} {s : Shared} {A : Around} {Q E : Value → Shared → Prop} {env : Env} {L a c : Addr} {nm gl : List Str} {x : Str} {v : Value} {pos : Pos} {n : Nat}
theorem clos1 {names : List (Str × NameKind)} {kd : ScopeKind} {g1 g2 : Bool} {more : List (Str × Const)} (hc : env.cells.lookup x = some c) (hn : names = [(Str.ofString ".0", .local), (y, .local), (x, .free)]) : closureFor { kind := kd, names := names, isGenerator := g1, isCoroutine := g2, more := more } env = pure [(x, c)] := by
  subst hn
  unfold closureFor cellOf
  simp [hc]
end
end
section
open PySem PySem.W PySem.W.X PyProof.Rows PySem.Calls
noncomputable abbrev nmU : List Str := ["off", "step", "parts", "size", "way", "t", "near", "cuts", "i", "index"]
noncomputable abbrev glU : List Str := ["len", "range", "min"]
theorem fn_cuts (w : World) : FnOk w 175 nmU glU := ⟨by kernel_rfl, by kernel_rfl, by kernel_rfl, by kernel_rfl, by kernel_rfl, by kernel_rfl, by kernel_rfl, by kernel_rfl⟩
theorem bd_cuts (w : World) (v1 v2 v3 v4 : Value) : ∀ S, peek (KK w) S (bindArgs (fdOf w 175) ⟨[v1, v2, v3, v4], []⟩) = some [(Str.ofString "order", v1), (Str.ofString "parts", v2), (Str.ofString "step", v3), (Str.ofString "off", v4)] := fun S => by kernel_rfl
theorem cl_cuts (w : World) : ∀ n, cellsFrom n (fdOf w 175).scope.names [] = [(Str.ofString "order", n)] := fun n => by kernel_rfl
theorem kd_cuts (w : World) : (fdOf w 175).scope.names.lookup (Str.ofString "order") = some .cell ∧ (fdOf w 175).scope.names.lookup (Str.ofString "parts") = some .local ∧ (fdOf w 175).scope.names.lookup (Str.ofString "step") = some .local ∧ (fdOf w 175).scope.names.lookup (Str.ofString "off") = some .local := ⟨by kernel_rfl, by kernel_rfl, by kernel_rfl, by kernel_rfl⟩
theorem bl_cuts (w : World) (v1 v2 v3 v4 : Value) : bindL (fun x => (fdOf w 175).scope.names.lookup x) [(Str.ofString "order", v1), (Str.ofString "parts", v2), (Str.ofString "step", v3), (Str.ofString "off", v4)] (fun _ => none) = look nmU [some v4, some v3, some v2, none, none, none, none, none, none, none] := by
  refine ea0_4 (kd_cuts w) fun h1 h2 h3 h4 => ?_
  have n1 : ¬ (fdOf w 175).scope.names.lookup (Str.ofString "order") = some .local := by rw [h1]; decide
  unfold bindL bindL bindL bindL bindL
  rw [if_pos h4, if_pos h3, if_pos h2, if_neg n1]
  funext y
  have hn : look ["size", "way", "t", "near", "cuts", "i", "index"] [none, none, none, none, none, none, none] y = none := look_none ["size", "way", "t", "near", "cuts", "i", "index"] y
  show (if y = Str.ofString "off" then some v4 else if y = Str.ofString "step" then some v3 else if y = Str.ofString "parts" then some v2 else none) = if y = Str.ofString "off" then some v4 else if y = Str.ofString "step" then some v3 else if y = Str.ofString "parts" then some v2 else look ["size", "way", "t", "near", "cuts", "i", "index"] [none, none, none, none, none, none, none] y
  rw [hn]
theorem last_at {wv : List Value} {f : Nat → Int} {i : Nat} (h : IntsAre wv ((List.range (i + 1)).map f)) : ∃ t, wv[((-1 : Int) + (wv.length : Nat)).toNat]? = some (.int (f i) t) := by
  have hl : wv.length = i + 1 := by rw [h.length]; simp
  refine ea1_1 (ints_at h i (by simp)) fun t e => ?_
  refine ⟨t, ?_⟩
  have e2 : ((-1 : Int) + (wv.length : Nat)).toNat = i := by ktn_no "om"
  rw [e2, e]
  simp
section
variable {w : World} {b : Shared} {X : List Addr} {l l' : List (Addr × Cell)} {lg lg' : List (Nat × GenState)} {s : Shared} {A : Around} {Q E : Value → Shared → Prop} {env : Env} {L a : Addr}
set_option maxRecDepth 10000 in
set_option maxHeartbeats 4000000 in
theorem ok_cuts {O : Addr} {ov : List Value} {ys : List Int} {parts : Nat} {step off : Int} {t1 t2 t3 : Tok} (G : Glob w b X) (H : W b X l lg s) (hm : (O, .seq "list" ov) ∈ l) (hI : IntsAre ov ys) (hz0 : 0 < ys.length) (hz : ys.length < 64) (hs : ∀ y ∈ ys, 0 ≤ y ∧ y < 256)
    (hp : 2 ≤ parts) (hp' : parts ≤ 7) (hst : 0 ≤ step) (hst' : step ≤ 100) (hof : 0 ≤ off) (hof' : off ≤ 10) (hix : ∀ i : Int, 1 ≤ i → i < parts → i * step - off ≤ parts * ys.length) (hA : A.depth < recursionLimit) (hh : A.handled = none)
    (h : ∀ D dv s', NumsAre dv (cutsN ys parts step off) → newIn b D → W b X ((D, .seq "list" dv) :: l) lg s' → Q (.ref D) s') :
    wpAny (model prg w) A (call (.ref 175) [.ref O, .int parts t1, .int step t2, .int off t3]) Q E s := by
  refine ea0_4 (kd_cuts w) fun kc k2 k3 k4 => ?_
  refine call_cells (vs := [some (.int off t3), some (.int step t2), some (.int parts t1), none, none, none, none, none, none, none]) G H (fn_cuts w) (by kernel_rfl) (cl_cuts w) (bd_cuts w _ _ _ _) ?_ (bl_cuts w _ _ _ _) hA ?_
  · intro x hx
    rcases List.mem_cons.mp hx with rfl | hx
    · exact .inr ⟨kc, fun n => by simp⟩
    · rcases List.mem_cons.mp hx with rfl | hx
      · exact .inl k2
      · rcases List.mem_cons.mp hx with rfl | hx
        · exact .inl k3
        · rcases List.mem_cons.mp hx with rfl | hx
          · exact .inl k4
          · cases hx
  intro L env s₁ EV hsc hcode hqual hcells hnL H₁ hcel
  refine ea0_3 (hcel (Str.ofString "order") (L + 1) (by simp)) fun hc1 hcn hcl => ?_
  have hc0 : s₁.heap.IsCell (L + 1) (some (.ref O)) := by
    have e : bindC (fun x => (fdOf w 175).scope.names.lookup x) [(Str.ofString "order", Value.ref O), (Str.ofString "parts", .int parts t1), (Str.ofString "step", .int step t2), (Str.ofString "off", .int off t3)] (fun _ => none) (Str.ofString "order") = some (.ref O) := by
      have n1 : ¬ (fdOf w 175).scope.names.lookup (Str.ofString "order") = some .local := by rw [kc]; decide
      unfold bindC bindC bindC bindC bindC
      rw [if_pos k4, if_pos k3, if_pos k2, if_neg n1]
      simp
    rw [← e]; exact hc1
  have H₂ := H₁.cons (c := .cel (some (.ref O))) hc0 trivial hcn hcl
  have hh' : (A.deeper env).handled = none := hh
  have hkn : env.kindOf (Str.ofString "order") = some .cell := by unfold Env.kindOf; rw [hsc]; exact kc
  have hcn' : env.cells.lookup (Str.ofString "order") = some (L + 1) := by rw [hcells]; simp
  refine body_cut fun K0 F0 hR0 => ?_
  refine execs_cut ?_
  intro K1 hK1 hR1
  ktn_no "ho"
  have hol : ov.length = ys.length := hI.length
  refine r_len (by assumption) (.tail _ (.tail _ hm)) (by ktn_no "om") ?_
  intro tz s₃ H₃
  ktn_no "ho"
  refine r_ite (fun hc => ?_) (fun hc => ?_)
  · have h1 : ys.length = 1 := by have : ((ov.length : Nat) : Int) = 1 := eq_of_beq hc; omega
    ktn_no "ho"
    refine r_compR (b := b) (X := X) (lg := lg) (cl := [(Str.ofString "order", L + 1)]) hh' (clos1 hcn' rfl) (by decide) rfl (by decide) rfl ?_
    ktn_no "ho"
    refine r_range (by assumption) ?_
    intro r u1 u2 u3 s₅ H₅ hr
    have hpe : (parts : Int) = 1 + ((parts - 1 : Nat) : Int) := by ktn_no "om"
    refine ex7 r 1 (parts - 1) u1 u2 u3 _ ⟨rfl, by rw [← hpe]; exact hr, H₅, by ktn_no "om", by decide, by decide, fun i v => NumIs (.i (ys.getD 0 0)) v, ?_, ?_⟩
    · intro C i v l2 s₆ hi hv hsub H₆
      refine Subscript_ ?_
      refine c_cell (v := .ref O) (c := L + 1) EV H₆ rfl rfl hkn rfl (.tail _ (hsub _ (.head _))) rfl ?_
      ktn_no "ho"
      rename_i H₇
      refine r_litem H₇ (.tail _ (hsub _ (.tail _ (.tail _ hm)))) hI (by decide) (by ktn_no "om") (by ktn_no "om") fun t => ⟨.i _ _, H₇⟩
    · intro D dv s' hl hP hnD HD
      ktn_no "ho"
      refine h D dv s' ?_ hnD HD.del1.del1
      unfold cutsN
      rw [if_pos h1]
      have : ∀ (n : Nat) (dv : List Value), dv.length = n → (∀ (j : Nat) (y : Value), dv[j]? = some y → NumIs (.i (ys.getD 0 0)) y) → NumsAre dv (List.replicate n (.i (ys.getD 0 0))) := by
        intro n
        induction n with
        | zero => intro dv q _; rw [List.length_eq_zero_iff.mp q]; exact .nil
        | succ n ih =>
          intro dv q hq
          cases dv with
          | nil => cases q
          | cons d dv => exact .cons (hq 0 d rfl) (ih dv (by simpa using q) fun j y e => hq (j + 1) y (by simpa using e))
      exact this _ _ hl hP
  · have h1 : ys.length ≠ 1 := by have : ((ov.length : Nat) : Int) ≠ 1 := ne_of_beq_false hc; omega
    ktn_no "ho"
    refine r_litem (by assumption) (.tail _ (.tail _ hm)) hI (by decide) (by ktn_no "om") (by ktn_no "om") fun t => ?_
    have g0 : 0 ≤ ys.getD (Int.toNat 0) 0 ∧ ys.getD (Int.toNat 0) 0 < 256 := getD_rng hs _
    ktn_no "ho"
    refine ex2 _ _ ⟨by assumption, by simp, fun Wy s₅ hnWy H₅ => ?_⟩
    have hps : (((parts * ys.length : Nat)) : Int) = (parts : Int) * (ov.length : Int) := by rw [hol]; push_cast; rfl
    have hpl : (parts : Int) * (ov.length : Int) ≤ 7 * 64 := Int.mul_le_mul (by ktn_no "om") (by ktn_no "om") (by ktn_no "om") (by ktn_no "om")
    ktn_no "ho"
    refine r_forR (b := b) (X := X) (lg := lg) (p := 0) (q := (parts : Int) * (ov.length : Int)) (n := parts * ys.length) (fun i m => ∃ wv a1 a2 tz', m = (Wy, Cell.seq "list" wv) :: (L + 1, .cel (some (.ref O))) :: (L, .ns nmU [some (.int off t3), some (.int step t2), some (.int parts t1), some (.int ov.length tz'), some (.ref Wy), a1, a2, none, none, none]) :: l ∧
      IntsAre wv ((List.range (i + 1)).map (wayAt ys parts))) (by split <;> omega) (by decide) (by decide) (by omega) (by omega) hh' ?_ ?_ ?_
    · ktn_no "ho"
      refine r_range1 (by assumption) ?_
      intro r u1 u2 u3 s₆ H₆ hr
      exact ex5 _ _ _ _ _ ⟨rfl, hr, H₆, (ex4 _ _ _ _ ⟨rfl, .cons _ _ .nil⟩)⟩
    · intro i m I z tk s₆ hi r_1 hnI H₆
      refine ea4_2 r_1 fun wv a1 a2 tz' e_1 hwv => ?_
      try clear r_1
      subst e_1
      have hwl : wv.length = i + 1 := by rw [hwv.length]; simp
      ktn_no "ho"
      refine r_fdiv (by assumption) (by omega) (by omega) ?_
      intro _ _ _
      ktn_no "ho"
      have hl2 : 2 ≤ ys.length := by omega
      have hy2 : ((ys.length - 2 : Nat) : Int) = (ys.length : Int) - 2 := Int.ofNat_sub hl2
      have hnr : min ((0 + (i : Int)) / (parts : Int)) ((ov.length : Int) - 2) = ((nearAt ys parts i : Nat) : Int) := by
        unfold nearAt
        have : (0 + (i : Int)) / (parts : Int) = ((i / parts : Nat) : Int) := by rw [Int.zero_add]; rfl
        rw [this, hol, ← hy2]; exact cmin _ _
      rename_i H₇ _ _ _
      rw [hnr] at H₇
      have hnb : nearAt ys parts i + 2 ≤ ys.length := Nat.le_trans (Nat.add_le_add_right (Nat.min_le_right _ _) 2) (Nat.le_of_eq (Nat.sub_add_cancel hl2))
      generalize hj : nearAt ys parts i = j at *
      refine wpAny_Expr ?_ (by unfold interactive; rw [EV.kind]; rfl) rfl
      refine MethodCall_ ?_
      ktn_no "ho"
      refine r_getAppend (by assumption) (by ktn_no "mem") ?_
      refine r_callM ?_
      ktn_no "ho"
      refine r_neg (by assumption) ?_
      intro _ _ _
      ktn_no "ho"
      refine ea1_1 (last_at hwv) fun tl el => ?_
      refine r_nidx (by assumption) (by ktn_no "mem") (by decide) (by ktn_no "om") (by ktn_no "om") el ?_
      ktn_no "ho"
      refine r_litem (by assumption) (.tail _ (.tail _ (.tail _ (.tail _ hm)))) hI (by ktn_no "om") (by ktn_no "om") (by ktn_no "om") fun t => ?_
      ktn_no "ho"
      refine r_litem (by assumption) (.tail _ (.tail _ (.tail _ (.tail _ hm)))) hI (by ktn_no "om") (by ktn_no "om") (by ktn_no "om") fun t => ?_
      ktn_no "ho"
      refine r_append (by assumption) (by ktn_no "mem") (by ktn_no "om") (by ktn_no "put") ?_
      intro s₈ H₈
      ktn_no "ho"
      refine ⟨rfl, _, ⟨_, _, _, _, rfl, ?_⟩, H₈⟩
      have e1 : ((j : Int) + 1).toNat = j + 1 := by ktn_no "om"
      have e2 : ((j : Int)).toNat = j := by ktn_no "om"
      rw [e1, e2, List.range_succ, List.map_append]
      have e3 : wayAt ys parts (i + 1) = wayAt ys parts i + ys.getD (j + 1) 0 - ys.getD j 0 := by rw [← hj]; rfl
      show IntsAre _ (_ ++ [wayAt ys parts (i + 1)])
      rw [e3]
      exact IntsAre.snoc hwv _ _
    · intro m s₆ r_2 H₆
      refine ea4_2 r_2 fun wv a1 a2 tz' e_2 hwv => ?_
      try clear r_2
      subst e_2
      have hwl : wv.length = parts * ys.length + 1 := by rw [hwv.length]; simp
      ktn_no "ho"
      refine r_forR (b := b) (X := X) (lg := lg) (p := 1) (q := (parts : Int)) (n := parts - 1) (fun i m => ∃ R vs a1 a2 a3 a4 tz', newIn b R ∧ m = (R, Cell.seq "list" vs) :: (Wy, Cell.seq "list" wv) :: (L + 1, .cel (some (.ref O))) :: (L, .ns nmU [some (.int off t3), some (.int step t2), some (.int parts t1), some (.int ov.length tz'), some (.ref Wy), a1, a2, some (.ref R), a3, a4]) :: l ∧
        NumsAre vs (((List.range (parts - 1)).map fun (k : Nat) => Num.f (cutAt ys parts step off (1 + (k : Int)))).take i)) (by split <;> omega) (by decide) (by decide) (by omega) (by omega) hh' ?_ ?_ ?_
      · ktn_no "ho"
        refine r_range (by assumption) ?_
        intro r u1 u2 u3 s₈ H₈ hr
        exact ex5 _ _ _ _ _ ⟨rfl, hr, H₈, (ex7 _ _ _ _ _ _ _ ⟨by assumption, rfl, .nil⟩)⟩
      · intro i m I z tk s₈ hi r_3 hnI H₈
        refine ea7_3 r_3 fun R vs a1 a2 a3 a4 tz' hnR e_3 hvs => ?_
        try clear r_3
        subst e_3
        have hvl : vs.length ≤ 7 := by rw [hvs.length]; simp; omega
        have hx1 : 0 ≤ (1 + (i : Int)) * step := Int.mul_nonneg (by ktn_no "om") hst
        have hx2 : (1 + (i : Int)) * step ≤ 7 * 100 := Int.mul_le_mul (by ktn_no "om") hst' hst (by ktn_no "om")
        have hx3 := hix (1 + (i : Int)) (by ktn_no "om") (by ktn_no "om")
        have hlw : (parts : Int) * (ys.length : Int) = ((parts * ys.length : Nat) : Int) := by push_cast; rfl
        ktn_no "ho"
        generalize hidx : (1 + (i : Int)) * step - off = idx at *
        have hcut : cutAt ys parts step off (1 + (i : Int)) = if idx < 0 then fdiv (wayAt ys parts 0 + idx * (ys.getD 1 0 - ys.getD 0 0)) parts else fdiv (wayAt ys parts idx.toNat) parts := by unfold cutAt; rw [hidx]
        have b0 := getD_rng hs 0
        have b1 := getD_rng hs 1
        have ew : ∀ k : Nat, k ≤ parts * ys.length → ((List.range (parts * ys.length + 1)).map (wayAt ys parts)).getD k 0 = wayAt ys parts k := fun k hk => by
          rw [List.getD_eq_getElem?_getD, List.getElem?_map, List.getElem?_range (by ktn_no "om")]
          rfl
        refine r_ite (fun hc2 => ?_) (fun hc2 => ?_)
        · have hneg : idx < 0 := by simpa using hc2
          rw [if_pos hneg] at hcut
          ktn_no "ho"
          refine wpAny_Expr ?_ (by unfold interactive; rw [EV.kind]; rfl) rfl
          refine MethodCall_ ?_
          ktn_no "ho"
          refine r_getAppend (by assumption) (by ktn_no "mem") ?_
          refine r_callM ?_
          ktn_no "ho"
          refine r_litem (by assumption) (by ktn_no "mem") hwv (by decide) (by simp; ktn_no "om") (by simp; ktn_no "om") fun t => ?_
          rw [show Int.toNat 0 = 0 from rfl, ew 0 (Nat.zero_le _)]
          ktn_no "ho"
          refine r_litem (by assumption) (.tail _ (.tail _ (.tail _ (.tail _ (.tail _ hm))))) hI (by decide) (by ktn_no "om") (by ktn_no "om") fun t => ?_
          ktn_no "ho"
          refine r_litem (by assumption) (.tail _ (.tail _ (.tail _ (.tail _ (.tail _ hm))))) hI (by decide) (by ktn_no "om") (by ktn_no "om") fun t => ?_
          rw [show Int.toNat 0 = 0 from rfl, show Int.toNat 1 = 1 from rfl]
          ktn_no "ho"
          have hw0 := way_small hs hp' 0
          have hmul := small_mul (a := idx) (c := ys.getD 1 0 - ys.getD 0 0) (by ktn_no "om") (by ktn_no "om")
          refine r_div (by assumption) (by ktn_no "om") (by ktn_no "om") ?_
          intro _ _ htz _
          ktn_no "ho"
          refine r_append (by assumption) (by ktn_no "mem") (by ktn_no "om") (by ktn_no "put") ?_
          intro s₉ H₉
          ktn_no "ho"
          ktn_no "ho"
          refine ⟨rfl, _, ⟨_, _, _, _, _, _, _, hnR, rfl, ?_⟩, H₉⟩
          rw [take_snoc hi]
          refine hvs.snoc ?_
          rw [hcut]
          exact .f _ _ htz
        · have hneg : ¬ idx < 0 := by simpa using hc2
          rw [if_neg hneg] at hcut
          ktn_no "ho"
          refine wpAny_Expr ?_ (by unfold interactive; rw [EV.kind]; rfl) rfl
          refine MethodCall_ ?_
          ktn_no "ho"
          refine r_getAppend (by assumption) (by ktn_no "mem") ?_
          refine r_callM ?_
          ktn_no "ho"
          refine r_litem (by assumption) (by ktn_no "mem") hwv (by ktn_no "om") (by simp; ktn_no "om") (by simp; ktn_no "om") fun t => ?_
          rw [ew idx.toNat (by ktn_no "om")]
          ktn_no "ho"
          have hw0 := way_small hs hp' idx.toNat
          refine r_div (by assumption) (by ktn_no "om") (by ktn_no "om") ?_
          intro _ _ htz _
          ktn_no "ho"
          refine r_append (by assumption) (by ktn_no "mem") (by ktn_no "om") (by ktn_no "put") ?_
          intro s₉ H₉
          ktn_no "ho"
          ktn_no "ho"
          refine ⟨rfl, _, ⟨_, _, _, _, _, _, _, hnR, rfl, ?_⟩, H₉⟩
          rw [take_snoc hi]
          refine hvs.snoc ?_
          rw [hcut]
          exact .f _ _ htz
      · intro m s₈ r_4 H₈
        refine ea7_3 r_4 fun R vs a1 a2 a3 a4 tz' hnR e_4 hvs => ?_
        try clear r_4
        subst e_4
        ktn_no "ho"
        refine h R vs s₈ ?_ hnR H₈.del1.del1.del1
        rw [List.take_of_length_le (by simp)] at hvs
        unfold cutsN
        rw [if_neg h1]
        exact hvs
end
end
section
open PySem PySem.W PySem.W.X PyProof.Rows PySem.Calls
noncomputable abbrev nmA : List Str := ["row", "kind", "size", "order"]
noncomputable abbrev glA : List Str := ["len", "sum", "_law_order", "_law_cuts"]
theorem fn_answer (w : World) : FnOk w 182 nmA glA := ⟨by kernel_rfl, by kernel_rfl, by kernel_rfl, by kernel_rfl, by kernel_rfl, by kernel_rfl, by kernel_rfl, by kernel_rfl⟩
noncomputable def ansOf (xs : List Int) (kind : Nat) : Ans :=
  if kind = 0 then .one (.f (fdiv xs.sum xs.length))
  else if kind = 1 ∧ xs.length % 2 = 0 then .one (.f (fdiv ((srt xs).getD (xs.length / 2 - 1) 0 + (srt xs).getD (xs.length / 2) 0) 2))
  else if kind = 2 then .one (.i ((srt xs).getD ((xs.length - 1) / 2) 0))
  else if kind = 4 then .many (cutsN (srt xs) 4 (xs.length + 1) 4)
  else if kind = 5 then .many (cutsN (srt xs) 7 (xs.length - 1) 0)
  else .one (.i ((srt xs).getD (xs.length / 2) 0))
section
variable {w : World} {b : Shared} {X : List Addr} {l l' : List (Addr × Cell)} {lg lg' : List (Nat × GenState)} {s : Shared} {A : Around} {Q E : Value → Shared → Prop} {env : Env} {L a : Addr} {vs : List Value} {ns : List Int}
theorem r_sumL (H : W b X l lg s) (hm : (a, .seq "list" vs) ∈ l) (hI : IntsAre vs ns) (hh : A.handled = none) (h : ∀ t s', W b X l lg s' → Q (.int ns.sum t) s') : wpAny (model prg w) A (call (.builtin "sum") [.ref a]) Q E s := by
  have hl := H.seqL hm
  refine ea1_1 hI.allInts.items fun xs e => ?_
  have hns : ns = xs.toList.map (·.1) := by rw [← hI.numsOf, ← nums_intItems, ← e]
  rw [e] at hl
  refine wp_pos H.pos (sum_intListG hh hl fun h' tk t' hk hps => ?_)
  rw [preSum_eq, List.take_of_length_le (by simp), ← hns]
  ktn_no "ho"
  exact h _ _ (H.grow (t' := tk) hk fun _ => hps)
/-- what a call leaves whose answer is an Ans -/
noncomputable def AnsPost (b : Shared) (X : List Addr) (l : List (Addr × Cell)) (lg : List (Nat × GenState)) (Q : Value → Shared → Prop) : Ans → Prop
  | .one n => ∀ v s', NumIs n v → W b X l lg s' → Q v s'
  | .many ns => ∀ T vs s', NumsAre vs ns → newIn b T → W b X ((T, .seq "list" vs) :: l) lg s' → Q (.ref T) s'
set_option maxRecDepth 10000 in
set_option maxHeartbeats 4000000 in
theorem ok_answer {R : Addr} {rv : List Value} {xs : List Int} {kind : Nat} {t : Tok} (G : Glob w b X) (H : W b X l lg s) (hm : (R, .seq "list" rv) ∈ l) (hI : IntsAre rv xs) (hz0 : 0 < xs.length) (hz : xs.length < 64) (hs : ∀ y ∈ xs, 0 ≤ y ∧ y < 256)
    (hk : kind < 6) (hA : A.depth + 3 < recursionLimit) (hh : A.handled = none) (hu : A.units + 60 < cLine) (h : AnsPost b X l lg Q (ansOf xs kind)) :
    wpAny (model prg w) A (call (.ref 182) [.ref R, .int (kind : Int) t]) Q E s := by
  refine call_def ["row", "kind"] ["size", "order"] (nm := nmA) (vs := [some (.ref R), some (.int (kind : Int) t), none, none]) rfl rfl G H (fn_answer w) (by kernel_rfl) (by kernel_rfl) (by kernel_rfl) rfl (by ktn_no "om") ?_
  intro L env s₁ EV hnL H₁
  have hh' : (A.deeper env).handled = none := hh
  have hlen : rv.length = xs.length := hI.length
  refine body_cut fun K0 F0 hR0 => ?_
  refine execs_cut ?_
  intro K1 hK1 hR1
  ktn_no "ho"
  refine r_len (by assumption) (.tail _ hm) (by ktn_no "om") ?_
  intro tz s₂ H₂
  ktn_no "ho"
  refine r_ite (fun hc => ?_) (fun hc => ?_)
  · have hk0 : kind = 0 := by have : (kind : Int) = 0 := eq_of_beq hc; omega
    have e : ansOf xs kind = .one (.f (fdiv xs.sum xs.length)) := if_pos hk0
    rw [e] at h
    have hsum := sum_small hs
    ktn_no "ho"
    refine r_sumL (by assumption) (.tail _ hm) hI hh' ?_
    intro _ _ _
    ktn_no "ho"
    rw [hlen]
    refine r_div (by assumption) (by ktn_no "om") (by ktn_no "om") ?_
    intro _ _ htz H₄
    ktn_no "ho"
    exact h _ _ (.f _ _ htz) H₄.tail
  · have hk0 : kind ≠ 0 := by have : (kind : Int) ≠ 0 := ne_of_beq_false hc; omega
    ktn_no "ho"
    refine r_callF (fd := fdOf w 170) G (fn_order w).at_ ?_
    ktn_no "ho"
    refine ⟨⟨_, _, by assumption⟩, ?_⟩
    refine ok_order G (by assumption) (.tail _ hm) hI hz (by show A.depth + 1 < _; ktn_no "om") hh' (by show A.units + 3 + 50 < _; ktn_no "om") ?_
    intro O ov s₄ hov hnO H₄
    have hsl : (srt xs).length = xs.length := (srt_perm xs).length_eq
    have hss : ∀ y ∈ srt xs, 0 ≤ y ∧ y < 256 := fun y hy => hs y ((srt_perm xs).mem_iff.mp hy)
    have hol : ov.length = xs.length := hov.length.trans hsl
    ktn_no "ho"
    have hI2 : ((ov.length : Nat) : Int) = (xs.length : Int) := by ktn_no "om"
    rename_i H₅
    obtain rfl | rfl | rfl | rfl | rfl : kind = 1 ∨ kind = 2 ∨ kind = 3 ∨ kind = 4 ∨ kind = 5 := (lt6 (by assumption)).resolve_left (by assumption)
    · refine ite_t (by decide) ?_
      ktn_no "ho"
      refine r_ite (fun hc2 => ?_) (fun hc2 => ?_)
      · have he : xs.length % 2 = 0 := by have : ((rv.length : Nat) : Int) % 2 = 0 := eq_of_beq hc2; omega
        have e : ansOf xs 1 = .one (.f (fdiv ((srt xs).getD (xs.length / 2 - 1) 0 + (srt xs).getD (xs.length / 2) 0) 2)) := by unfold ansOf; rw [if_neg (by decide), if_pos ⟨rfl, he⟩]
        rw [e] at h
        have b1 := getD_rng hss (xs.length / 2 - 1)
        have b2 := getD_rng hss (xs.length / 2)
        ktn_no "ho"
        refine ite_t rfl ?_
        ktn_no "ho"
        refine r_litem (by assumption) (by ktn_no "mem") hov (by ktn_no "om") (by ktn_no "om") (by ktn_no "om") fun t => ?_
        ktn_no "ho"
        refine r_litem (by assumption) (by ktn_no "mem") hov (by ktn_no "om") (by ktn_no "om") (by ktn_no "om") fun t => ?_
        ktn_no "ho"
        have e1 : (((rv.length : Nat) : Int) / 2 - 1).toNat = xs.length / 2 - 1 := (half2 _).trans (by rw [hlen])
        have e2 : (((rv.length : Nat) : Int) / 2).toNat = xs.length / 2 := (half1 _).trans (by rw [hlen])
        rw [e1, e2]
        refine r_div (by assumption) (by decide) (by ktn_no "om") ?_
        intro _ _ htz H₄
        ktn_no "ho"
        exact h _ _ (.f _ _ htz) H₄.tail.tail
      · have he : ¬ xs.length % 2 = 0 := by have : ((rv.length : Nat) : Int) % 2 ≠ 0 := ne_of_beq_false hc2; omega
        have e : ansOf xs 1 = .one (.i ((srt xs).getD (xs.length / 2) 0)) := by unfold ansOf; rw [if_neg (by decide), if_neg (by ktn_no "om"), if_neg (by decide), if_neg (by decide), if_neg (by decide)]
        rw [e] at h
        repeat (first | rw [if_neg (by decide)] | rw [if_pos (by decide)] | first | ktn_no "hs" | ktn_no "go1")
        refine r_litem (by assumption) (by ktn_no "mem") hov (by ktn_no "om") (by ktn_no "om") (by ktn_no "om") fun t => ?_
        have e2 : (((rv.length : Nat) : Int) / 2).toNat = xs.length / 2 := (half1 _).trans (by rw [hlen])
        rw [e2]
        ktn_no "ho"
        exact h _ _ (.i _ _) (W.tail (W.tail (by assumption)))
    · have e : ansOf xs 2 = .one (.i ((srt xs).getD ((xs.length - 1) / 2) 0)) := by unfold ansOf; rw [if_neg (by decide), if_neg (by ktn_no "om"), if_pos rfl]
      rw [e] at h
      repeat (first | rw [if_neg (by decide)] | rw [if_pos (by decide)] | first | ktn_no "hs" | ktn_no "go1")
      refine r_litem (by assumption) (by ktn_no "mem") hov (by ktn_no "om") (by ktn_no "om") (by ktn_no "om") fun t => ?_
      have e2 : ((((rv.length : Nat) : Int) - 1) / 2).toNat = (xs.length - 1) / 2 := (half3 (by ktn_no "om")).trans (by rw [hlen])
      rw [e2]
      ktn_no "ho"
      exact h _ _ (.i _ _) (W.tail (W.tail (by assumption)))
    · have e : ansOf xs 3 = .one (.i ((srt xs).getD (xs.length / 2) 0)) := by unfold ansOf; rw [if_neg (by decide), if_neg (by ktn_no "om"), if_neg (by decide), if_neg (by decide), if_neg (by decide)]
      rw [e] at h
      repeat (first | rw [if_neg (by decide)] | rw [if_pos (by decide)] | first | ktn_no "hs" | ktn_no "go1")
      refine r_litem (by assumption) (by ktn_no "mem") hov (by ktn_no "om") (by ktn_no "om") (by ktn_no "om") fun t => ?_
      have e2 : (((rv.length : Nat) : Int) / 2).toNat = xs.length / 2 := (half1 _).trans (by rw [hlen])
      rw [e2]
      ktn_no "ho"
      exact h _ _ (.i _ _) (W.tail (W.tail (by assumption)))
    · have e : ansOf xs 4 = .many (cutsN (srt xs) 4 (xs.length + 1) 4) := by unfold ansOf; rw [if_neg (by decide), if_neg (by ktn_no "om"), if_neg (by decide), if_pos rfl]
      rw [e] at h
      repeat (first | rw [if_neg (by decide)] | rw [if_pos (by decide)] | first | ktn_no "hs" | ktn_no "go1")
      refine r_callF (fd := fdOf w 175) G (fn_cuts w).at_ ?_
      ktn_no "ho"
      refine ⟨⟨_, _, by assumption⟩, ?_⟩
      have hr : ((rv.length : Nat) : Int) = (xs.length : Int) := by ktn_no "om"
      rw [hr]
      refine ok_cuts (parts := 4) G (by assumption) (.head _) hov (by ktn_no "om") (by ktn_no "om") hss (by decide) (by decide) (by ktn_no "om") (by ktn_no "om") (by decide) (by decide) (fun i h1 h2 => ?_) (by show A.depth + 1 < _; ktn_no "om") hh' ?_
      · rw [hsl]
        have : i * ((xs.length : Int) + 1) ≤ 3 * ((xs.length : Int) + 1) := Int.mul_le_mul_of_nonneg_right (by ktn_no "om") (by ktn_no "om")
        omega
      · intro D dv s' hdv hnD HD
        ktn_no "ho"
        exact h D dv s' hdv hnD HD.del1.del1
    · have e : ansOf xs 5 = .many (cutsN (srt xs) 7 (xs.length - 1) 0) := by unfold ansOf; rw [if_neg (by decide), if_neg (by ktn_no "om"), if_neg (by decide), if_neg (by decide), if_pos rfl]
      rw [e] at h
      repeat (first | rw [if_neg (by decide)] | rw [if_pos (by decide)] | first | ktn_no "hs" | ktn_no "go1")
      refine r_callF (fd := fdOf w 175) G (fn_cuts w).at_ ?_
      ktn_no "ho"
      refine ⟨⟨_, _, by assumption⟩, ?_⟩
      have hr : ((rv.length : Nat) : Int) = (xs.length : Int) := by ktn_no "om"
      rw [hr]
      refine ok_cuts (parts := 7) G (by assumption) (.head _) hov (by ktn_no "om") (by ktn_no "om") hss (by decide) (by decide) (by ktn_no "om") (by ktn_no "om") (by decide) (by decide) (fun i h1 h2 => ?_) (by show A.depth + 1 < _; ktn_no "om") hh' ?_
      · rw [hsl]
        have : i * ((xs.length : Int) - 1) ≤ 6 * ((xs.length : Int) - 1) := Int.mul_le_mul_of_nonneg_right (by ktn_no "om") (by ktn_no "om")
        omega
      · intro D dv s' hdv hnD HD
        ktn_no "ho"
        exact h D dv s' hdv hnD HD.del1.del1
end
end
section
open PySem PySem.W PySem.W.X PyProof.Rows PySem.Calls
noncomputable abbrev nmE : List Str := ["kind", "turn", "first", "octets", "lot", "octet"]
noncomputable abbrev glE : List Str := ["_law_weights", "len", "sum", "range", "str", "_law_answer"]
theorem fn_due (w : World) : FnOk w 187 nmE glE := ⟨by kernel_rfl, by kernel_rfl, by kernel_rfl, by kernel_rfl, by kernel_rfl, by kernel_rfl, by kernel_rfl, by kernel_rfl⟩
theorem bd_due (w : World) (v1 v2 v3 v4 : Value) : ∀ S, peek (KK w) S (bindArgs (fdOf w 187) ⟨[v1, v2, v3, v4], []⟩) = some [(Str.ofString "octets", v1), (Str.ofString "first", v2), (Str.ofString "turn", v3), (Str.ofString "kind", v4)] := fun S => by kernel_rfl
theorem cl_due (w : World) : ∀ n, cellsFrom n (fdOf w 187).scope.names [] = [(Str.ofString "row", n + 1), (Str.ofString "weights", n)] := fun n => by kernel_rfl
theorem kd_due (w : World) : (fdOf w 187).scope.names.lookup (Str.ofString "octets") = some .local ∧ (fdOf w 187).scope.names.lookup (Str.ofString "first") = some .local ∧ (fdOf w 187).scope.names.lookup (Str.ofString "turn") = some .local ∧ (fdOf w 187).scope.names.lookup (Str.ofString "kind") = some .local ∧ (fdOf w 187).scope.names.lookup (Str.ofString "row") = some .cell ∧ (fdOf w 187).scope.names.lookup (Str.ofString "weights") = some .cell := ⟨by kernel_rfl, by kernel_rfl, by kernel_rfl, by kernel_rfl, by kernel_rfl, by kernel_rfl⟩
theorem bl_due (w : World) (v1 v2 v3 v4 : Value) : bindL (fun x => (fdOf w 187).scope.names.lookup x) [(Str.ofString "octets", v1), (Str.ofString "first", v2), (Str.ofString "turn", v3), (Str.ofString "kind", v4)] (fun _ => none) = look nmE [some v4, some v3, some v2, some v1, none, none] := by
  refine ea0_5 (kd_due w) fun h1 h2 h3 h4 _ => ?_
  unfold bindL bindL bindL bindL bindL
  rw [if_pos h4, if_pos h3, if_pos h2, if_pos h1]
  funext y
  have hn : look ["lot", "octet"] [none, none] y = none := look_none ["lot", "octet"] y
  show (if y = Str.ofString "kind" then some v4 else if y = Str.ofString "turn" then some v3 else if y = Str.ofString "first" then some v2 else if y = Str.ofString "octets" then some v1 else none) = if y = Str.ofString "kind" then some v4 else if y = Str.ofString "turn" then some v3 else if y = Str.ofString "first" then some v2 else if y = Str.ofString "octets" then some v1 else look ["lot", "octet"] [none, none] y
  rw [hn]
inductive DLot | row | below | fin | many
noncomputable def DLot.isRow : DLot → Bool | .row => true | _ => false
noncomputable def lotS : DLot → Str | .row => "row" | .below => "below" | .fin => "end" | .many => "many"
/-- the row from here on, how it ends, and the place behind it -/
noncomputable def dscan (lim : Nat) : List Int → List Int → Nat → List Int × DLot × Nat
  | [], acc, p => if lim < acc.length then (acc, .many, p) else (acc, .fin, p)
  | v :: r, acc, p => if lim < acc.length then (acc, .many, p) else if v = 0 then (acc, .row, p + 1) else if v < 100 then (acc, .below, p + 1) else dscan lim r (acc ++ [v - 100]) (p + 1)
noncomputable def limOf (turn kind : Nat) : Nat := if kind = 6 then (wts turn).length else 10000
noncomputable def dot (xs ws : List Int) : Int := ((List.range xs.length).map fun i => xs.getD i 0 * ws.getD i 0).sum
noncomputable def dueOut (turn kind : Nat) (xs : List Int) (d : DLot) : Out :=
  if kind = 6 then
    if d.isRow = true ∧ xs.length = (wts turn).length then (if (wts turn).sum = 0 then .refused noSum else .told (.one (.f (fdiv (dot xs (wts turn)) (wts turn).sum)))) else .refused unlike
  else match d with
    | .fin => .fin eofMsg
    | .below => .refused (msgOf turn)
    | _ => if xs = [] then (if kind = 0 then .refused noMean else if kind < 4 then .refused noMed else .refused noQuant) else .told (ansOf xs kind)
noncomputable def dueOf (o : List Int) (p turn kind : Nat) : Out × Nat :=
  (dueOut turn kind (dscan (limOf turn kind) (o.drop p) [] p).1 (dscan (limOf turn kind) (o.drop p) [] p).2.1, (dscan (limOf turn kind) (o.drop p) [] p).2.2)
theorem wts_len (turn : Nat) : (wts turn).length ≤ 3 ∧ 0 < (wts turn).length := by
  unfold wts
  split
  · decide
  · split
    · decide
    · split
      · decide
      · split <;> decide
section
variable {w : World} {b : Shared} {X : List Addr} {l l' : List (Addr × Cell)} {lg lg' : List (Nat × GenState)} {s : Shared} {A : Around} {Q E : Value → Shared → Prop} {env : Env} {L a c : Addr} {vs : List Value} {ns : List Int}
/-- == of a list and an empty one -/
theorem r_eqLists {ws : List Value} (H : W b X l lg s) (hm : (a, .seq "list" vs) ∈ l) (hc : (c, .seq "list" ws) ∈ l) (hu : A.units < cLine) (hw : ws = []) (h : Q (.bool (decide (vs = []))) s) : wpAny (model prg w) A (compareOp .Eq (.ref a) (.ref c)) Q E s := by
  subst hw
  show wpAny _ _ (richCompare .Eq (.ref a) (.ref c)) _ _ _
  by_cases q : vs = []
  · subst q
    have := PySem.SeqAt.RcAt.lists (A := A) (e := fun _ => true) (H.seqL hm) (H.seqL hc) rfl hu (fun j h1 h2 => absurd h1 (Nat.not_lt_zero _))
    exact this prg w E Q (by simpa using h)
  · have := PySem.SeqAt.RcAt.lists_lengths (A := A) (H.seqL hm) (H.seqL hc) (by simp; cases vs with | nil => exact absurd rfl q | cons => simp) hu
    exact this prg w E Q (by simpa [q] using h)
theorem clos2 {names : List (Str × NameKind)} {kd : ScopeKind} {g1 g2 : Bool} {more : List (Str × Const)} {x y z : Str} {c' : Addr} (hc : env.cells.lookup x = some c) (hc' : env.cells.lookup y = some c') (hn : names = [(Str.ofString ".0", .local), (z, .local), (x, .free), (y, .free)]) : closureFor { kind := kd, names := names, isGenerator := g1, isCoroutine := g2, more := more } env = pure [(y, c'), (x, c)] := by
  subst hn
  unfold closureFor cellOf
  simp [hc, hc']
end
end
section
open PySem PySem.W PySem.W.X PyProof.Rows PySem.Calls
section
variable {w : World} {b : Shared} {X : List Addr} {l l' : List (Addr × Cell)} {lg lg' : List (Nat × GenState)} {s : Shared} {A : Around} {Q E : Value → Shared → Prop} {env : Env} {L a c : Addr} {vs : List Value} {ns : List Int}
theorem drop_cons {o : List Int} {q : Nat} (h : q < o.length) : o.drop q = o.getD q 0 :: o.drop (q + 1) := by
  rw [List.drop_eq_getElem_cons h, List.getD_eq_getElem?_getD, List.getElem?_eq_getElem h]; rfl
theorem ints_of : ∀ (dv : List Value) (n : Nat) (f : Nat → Int), dv.length = n → (∀ (j : Nat) (y : Value), dv[j]? = some y → ∃ t, y = .int (f j) t) → IntsAre dv ((List.range n).map f)
  | [], n, f, hl, h => by cases hl; exact .nil
  | d :: dv, n, f, hl, h => by
    cases n with
    | zero => cases hl
    | succ n =>
      refine ea1_1 (h 0 d rfl) fun t e_1 => ?_
      subst e_1
      rw [List.range_succ_eq_map, List.map_cons, List.map_map]
      exact .cons _ _ (ints_of dv n (f ∘ Nat.succ) (by simpa using hl) fun j y e => h (j + 1) y (by simpa using e))
theorem sum_bound : ∀ {xs : List Int} {B : Nat}, (∀ x ∈ xs, x.natAbs ≤ B) → xs.sum.natAbs ≤ B * xs.length
  | [], B, _ => by simp
  | x :: xs, B, h => by
    have ih := sum_bound (xs := xs) (B := B) fun y hy => h y (.tail _ hy)
    have := h x (.head _)
    rw [List.sum_cons, List.length_cons, Nat.mul_succ]
    exact Nat.le_trans (Int.natAbs_add_le _ _) (Nat.le_trans (Nat.add_le_add this ih) (Nat.le_of_eq (Nat.add_comm _ _)))
theorem dot_small {xs ws : List Int} (hx : ∀ x ∈ xs, 0 ≤ x ∧ x < 256) (hw : ∀ u ∈ ws, u.natAbs < 2 ^ 10) (hl : xs.length < 64) : (dot xs ws).natAbs < 2 ^ 50 := by
  have h1 : ∀ y ∈ (List.range xs.length).map (fun i => xs.getD i 0 * ws.getD i 0), y.natAbs ≤ 2 ^ 40 := by
    intro y hy
    refine ea1_2 (List.mem_map.mp hy) fun i _ e_2 => ?_
    subst e_2
    have hw' : (ws.getD i 0).natAbs < 2 ^ 10 := by
      rw [List.getD_eq_getElem?_getD]
      cases q : ws[i]? with
      | none => decide
      | some u => exact hw u (List.mem_of_getElem? q)
    have hx' := getD_rng hx i
    exact Nat.le_of_lt (small_mul (by ktn_no "om") (by ktn_no "om"))
  have h2 := sum_bound h1
  have h3 : ((List.range xs.length).map (fun i => xs.getD i 0 * ws.getD i 0)).length = xs.length := by simp
  rw [h3] at h2
  show (((List.range xs.length).map (fun i => xs.getD i 0 * ws.getD i 0)).sum).natAbs < _
  omega
theorem dscan_many {lim : Nat} {r acc : List Int} {q : Nat} (h : lim < acc.length) : dscan lim r acc q = (acc, .many, q) := by
  cases r with
  | nil => exact if_pos h
  | cons v r => exact if_pos h
noncomputable def DueL (cR cW L Rw Wt : Addr) (rv wv : List Value) (kind turn q : Nat) (tk tt tq ty : Tok) (y : Array UInt8) (lot : Str) (tl : Tok) (oc : Option Value) (l : List (Addr × Cell)) : List (Addr × Cell) :=
  (Rw, .seq "list" rv) :: (Wt, .seq "list" wv) :: (cR, .cel (some (.ref Rw))) :: (cW, .cel (some (.ref Wt))) :: (L, .ns nmE [some (.int (kind : Int) tk), some (.int (turn : Int) tt), some (.int (q : Int) tq), some (.bytes y ty), some (.str lot tl), oc]) :: l
set_option maxRecDepth 10000 in
set_option maxHeartbeats 4000000 in
theorem ok_due {o : List Int} {y : Array UInt8} {p turn kind : Nat} {ty tp tt tk : Tok} (G : Glob w b X) (H : W b X l lg s) (hbi : KBw.bInts y = o) (hrng : ∀ x ∈ o, 0 ≤ x ∧ x < 256) (hlen : o.length < 64) (hp : p ≤ o.length) (hturn : turn < 1000) (hkind : kind < 7)
    (hA : A.depth + 10 < recursionLimit) (hh : A.handled = none) (hu : A.units + 100 < cLine)
    (h : ∀ D x y t lx s', OutAt lx (dueOf o p turn kind).1 x y → newIn b D → W b X ((D, .seq "list" [x, y, .int ((dueOf o p turn kind).2 : Int) t]) :: (lx ++ l)) lg s' → Q (.ref D) s') :
    wpAny (model prg w) A (call (.ref 187) [.bytes y ty, .int (p : Int) tp, .int (turn : Int) tt, .int (kind : Int) tk]) Q E s := by
  refine ea0_6 (kd_due w) fun k1 k2 k3 k4 kr kw => ?_
  refine call_cells (vs := [some (.int (kind : Int) tk), some (.int (turn : Int) tt), some (.int (p : Int) tp), some (.bytes y ty), none, none]) G H (fn_due w) (by kernel_rfl) (cl_due w) (bd_due w _ _ _ _) ?_ (bl_due w _ _ _ _) (by ktn_no "om") ?_
  · intro x hx
    rcases List.mem_cons.mp hx with rfl | hx
    · exact .inl k1
    · rcases List.mem_cons.mp hx with rfl | hx
      · exact .inl k2
      · rcases List.mem_cons.mp hx with rfl | hx
        · exact .inl k3
        · rcases List.mem_cons.mp hx with rfl | hx
          · exact .inl k4
          · cases hx
  intro L env s₁ EV hsc hcode hqual hcells hnL H₁ hcel
  have bc : ∀ n, bindC (fun x => (fdOf w 187).scope.names.lookup x) [(Str.ofString "octets", Value.bytes y ty), (Str.ofString "first", .int (p : Int) tp), (Str.ofString "turn", .int (turn : Int) tt), (Str.ofString "kind", .int (kind : Int) tk)] (fun _ => none) n = none := by
    intro n
    unfold bindC bindC bindC bindC bindC
    rw [if_pos k4, if_pos k3, if_pos k2, if_pos k1]
  refine ea0_3 (hcel (Str.ofString "weights") (L + 1) (by kernel_rfl)) fun hc1 hcn1 hcl1 => ?_
  refine ea0_3 (hcel (Str.ofString "row") (L + 1 + 1) (by simp)) fun hc2 hcn2 hcl2 => ?_
  rw [bc] at hc1 hc2
  have H₂ := H₁.cons (c := .cel none) hc1 trivial hcn1 hcl1
  have H₃ := H₂.cons (c := .cel none) hc2 trivial hcn2 fun p hp => by
    rcases List.mem_cons.mp hp with rfl | hp
    · exact Nat.ne_of_lt (Nat.lt_succ_self _)
    · exact hcl2 p hp
  have hh' : (A.deeper env).handled = none := hh
  have hkr : env.kindOf (Str.ofString "row") = some .cell := by unfold Env.kindOf; rw [hsc]; exact kr
  have hkw : env.kindOf (Str.ofString "weights") = some .cell := by unfold Env.kindOf; rw [hsc]; exact kw
  have hcr : env.cells.lookup (Str.ofString "row") = some (L + 1 + 1) := by rw [hcells]; simp
  have hcw : env.cells.lookup (Str.ofString "weights") = some (L + 1) := by rw [hcells]; kernel_rfl
  generalize hcRe : L + 1 + 1 = cR at *
  generalize hcWe : L + 1 = cW at *
  have ysz : y.size = o.length := by rw [← hbi]; simp [KBw.bInts]
  refine body_cut fun K0 F0 hR0 => ?_
  refine execs_cut ?_
  intro K1 hK1 hR1
  ktn_no "ho"
  refine r_callF (fd := fdOf w 156) G (fn_weights w).at_ ?_
  ktn_no "ho"
  refine ⟨⟨_, _, by assumption⟩, ?_⟩
  refine ok_weights G (by assumption) (by show A.depth + 1 < _; ktn_no "om") ?_
  intro Wt wv s₄ hwv hnW H₄
  refine r_storeCell EV.kind hkw hcw H₄ (by ktn_no "mem") (by ktn_no "put") ?_
  intro s₅ H₅
  ktn_no "ho"
  rename_i Rw s₆ hnR H₆
  refine r_storeCell EV.kind hkr hcr H₆ (by ktn_no "mem") (by ktn_no "put") ?_
  intro s₇ H₇
  ktn_no "ho"
  have hwl : wv.length = (wts turn).length := hwv.length
  have hwl3 := wts_len turn
  generalize hD : dscan (limOf turn kind) (o.drop p) [] p = D0 at *
  refine r_while (fun n s' => ∃ rv acc q tq lot tl oc, IntsAre rv acc ∧ (∀ x ∈ acc, 0 ≤ x ∧ x < 256) ∧ acc.length ≤ q ∧ q ≤ o.length ∧ W b X (DueL cR cW L Rw Wt rv wv kind turn q tk tt tq ty y lot tl oc l) lg s' ∧
    ((n = (o.drop q).length + 1 ∧ lot = "" ∧ dscan (limOf turn kind) (o.drop q) acc q = D0) ∨ (n = 0 ∧ ∃ d, lot = lotS d ∧ D0 = (acc, d, q)))) ((o.drop p).length + 1) ⟨[], [], p, _, _, _, _, .nil, (fun x hx => by cases hx), Nat.zero_le _, hp, by assumption, .inl ⟨rfl, rfl, hD⟩⟩ ?_
  intro n s₈ r_1
  refine ea7_6 r_1 fun rv acc q tq lot tl oc hrv hacc haq hq H₈ hst => ?_
  try clear r_1
  unfold DueL at H₈
  have hrl : rv.length = acc.length := hrv.length
  ktn_no "ho"
  rcases hst with ⟨rfl, rfl, hds⟩ | ⟨rfl, d, rfl, hD0⟩
  · refine ite_t (by decide) ?_
    refine execs_cut ?_
    intro K2 hK2 hR2
    refine wpAny_If ?_
    refine wpAny_mono (Q := fun t s' => t = decide (limOf turn kind < acc.length) ∧ W b X ((Rw, .seq "list" rv) :: (Wt, .seq "list" wv) :: (cR, .cel (some (.ref Rw))) :: (cW, .cel (some (.ref Wt))) :: (L, .ns nmE [some (.int (kind : Int) tk), some (.int (turn : Int) tt), some (.int (q : Int) tq), some (.bytes y ty), some (.str "" tl), oc]) :: l) lg s') (E := fun _ _ => False) ?_ (fun t s₉ ht => ?_) (fun _ _ x => x.elim)
    · ktn_no "ho"
      refine r_ite (fun hc => ?_) (fun hc => ?_)
      · have hk6 : kind = 6 := by have : (kind : Int) = 6 := eq_of_beq hc; omega
        ktn_no "ho"
        have hlim : limOf turn kind = (wts turn).length := by unfold limOf; rw [if_pos hk6]
        refine r_ite (fun hc2 => ?_) (fun hc2 => ?_)
        · have hc3 : ((wv.length : Nat) : Int) < (rv.length : Int) := by simpa using hc2
          ktn_no "ho"
          exact ⟨by symm; rw [decide_eq_true_iff, hlim]; omega, by assumption⟩
        · have hc3 : ¬ ((wv.length : Nat) : Int) < (rv.length : Int) := by simpa using hc2
          exact ⟨by symm; rw [decide_eq_false_iff_not, hlim]; omega, by assumption⟩
      · have hk6 : kind ≠ 6 := by have : (kind : Int) ≠ 6 := ne_of_beq_false hc; omega
        ktn_no "ho"
        refine ⟨?_, by assumption⟩
        unfold limOf
        rw [if_neg hk6]
        symm
        rw [decide_eq_false_iff_not]
        omega
    refine ea0_2 ht fun e_3 H₉ => ?_
    try clear ht
    subst e_3
    clear H₈
    by_cases hmany : limOf turn kind < acc.length
    · refine ite_t (by simpa using hmany) ?_
      ktn_no "ho"
      refine ⟨rfl, ⟨0, ⟨Nat.succ_pos _, (ex7 rv acc q tq ("many") _ oc ⟨hrv, hacc, haq, hq, by assumption, .inr ⟨rfl, .many, rfl, ?_⟩⟩)⟩⟩⟩
      rw [← hds, dscan_many hmany]
    · refine ite_n (by simpa using hmany) ?_
      ktn_no "ho"
      refine r_len_bytes (by assumption) (by ktn_no "om") ?_
      intro _ _ _
      ktn_no "ho"
      refine r_ite (fun hc => ?_) (fun hc => ?_)
      · have hqe : q = o.length := by have : (q : Int) = (y.size : Int) := eq_of_beq hc; omega
        ktn_no "ho"
        refine ⟨rfl, ⟨0, ⟨Nat.succ_pos _, (ex7 rv acc q tq ("end") _ oc ⟨hrv, hacc, haq, hq, by assumption, .inr ⟨rfl, .fin, rfl, ?_⟩⟩)⟩⟩⟩
        rw [← hds, List.drop_eq_nil_of_le (by ktn_no "om")]
        exact if_neg hmany
      · have hqe : q < o.length := by have : (q : Int) ≠ (y.size : Int) := ne_of_beq_false hc; omega
        have hv := hrng (o.getD q 0) (by rw [List.getD_eq_getElem?_getD, List.getElem?_eq_getElem hqe]; exact List.getElem_mem hqe)
        rw [drop_cons hqe] at hds
        have hds2 : dscan (limOf turn kind) (o.getD q 0 :: o.drop (q + 1)) acc q = if o.getD q 0 = 0 then (acc, .row, q + 1) else if o.getD q 0 < 100 then (acc, .below, q + 1) else dscan (limOf turn kind) (o.drop (q + 1)) (acc ++ [o.getD q 0 - 100]) (q + 1) := if_neg hmany
        rw [hds2] at hds
        ktn_no "ho"
        refine r_bitem (by assumption) hbi (by ktn_no "om") (by ktn_no "om") (by ktn_no "om") ?_
        intro _ _ _
        rw [show ((q : Int)).toNat = q from Int.toNat_natCast q]
        have hq1 : (q : Int) + 1 = ((q + 1 : Nat) : Int) := by push_cast; rfl
        have hdl : (o.drop q).length = (o.drop (q + 1)).length + 1 := by rw [drop_cons hqe]; rfl
        ktn_no "ho"
        rename_i H₁₀
        rw [hq1] at H₁₀
        generalize o.getD q 0 = v at *
        refine r_ite (fun hc0 => ?_) (fun hc0 => ?_)
        · rw [if_pos (eq_of_beq hc0)] at hds
          ktn_no "ho"
          exact ⟨rfl, ⟨0, ⟨Nat.succ_pos _, (ex7 rv acc (q + 1) _ ("row") _ _ ⟨hrv, hacc, by ktn_no "om", by ktn_no "om", by assumption, .inr ⟨rfl, .row, rfl, hds.symm⟩⟩)⟩⟩⟩
        · rw [if_neg (ne_of_beq_false hc0)] at hds
          ktn_no "ho"
          refine r_ite (fun hc1 => ?_) (fun hc1 => ?_)
          · rw [if_pos (by simpa using hc1)] at hds
            ktn_no "ho"
            exact ⟨rfl, ⟨0, ⟨Nat.succ_pos _, (ex7 rv acc (q + 1) _ ("below") _ _ ⟨hrv, hacc, by ktn_no "om", by ktn_no "om", by assumption, .inr ⟨rfl, .below, rfl, hds.symm⟩⟩)⟩⟩⟩
          · have hv1 : ¬ v < 100 := by simpa using hc1
            rw [if_neg hv1] at hds
            ktn_no "ho"
            refine wpAny_Expr ?_ (by unfold interactive; rw [EV.kind]; rfl) rfl
            refine MethodCall_ ?_
            ktn_no "ho"
            refine r_getAppend (by assumption) (by ktn_no "mem") ?_
            refine r_callM ?_
            ktn_no "ho"
            refine r_append (by assumption) (by ktn_no "mem") (by ktn_no "om") (by ktn_no "put") ?_
            intro s₁₁ H₁₁
            ktn_no "ho"
            refine ⟨rfl, ⟨(o.drop (q + 1)).length + 1, ⟨by ktn_no "om", (ex7 _ (acc ++ [v - 100]) (q + 1) _ ("") _ _ ⟨IntsAre.snoc hrv _ _, fun x hx => ?_, by simp; omega, by ktn_no "om", H₁₁, .inl ⟨rfl, rfl, hds⟩⟩)⟩⟩⟩
            rcases List.mem_append.mp hx with hx | hx
            · exact hacc x hx
            · rw [List.mem_singleton.mp hx]; omega
  · refine ite_n (by cases d <;> decide) ?_
    have hout : dueOf o p turn kind = (dueOut turn kind acc d, q) := by unfold dueOf; rw [hD, hD0]
    rw [hout] at h
    clear hout hD hD0 hcel
    ktn_no "ho"
    have fin3 : ∀ {x y : Value} {t : Tok} {lx : List (Addr × Cell)} {D : Addr} {s' : Shared} {c5 : Addr × Cell}, OutAt lx (dueOut turn kind acc d) x y → newIn b D → W b X ((D, .seq "list" [x, y, .int (q : Int) t]) :: (Rw, .seq "list" rv) :: (Wt, .seq "list" wv) :: (cR, .cel (some (.ref Rw))) :: (cW, .cel (some (.ref Wt))) :: c5 :: (lx ++ l)) lg s' → Q (.ref D) s' := fun ho hn HT => h _ _ _ _ _ _ ho hn (HT.del1.del1.del1.del1.del1)
    refine r_ite (fun hc => ?_) (fun hc => ?_)
    · have hk6 : kind = 6 := by have : (kind : Int) = 6 := eq_of_beq hc; omega
      have hdR : dueOut turn kind acc d = if d.isRow = true ∧ acc.length = (wts turn).length then (if (wts turn).sum = 0 then .refused noSum else .told (.one (.f (fdiv (dot acc (wts turn)) (wts turn).sum)))) else .refused unlike := by unfold dueOut; rw [if_pos hk6]
      refine execs_cut ?_
      intro K2 hK2 hR2
      refine wpAny_If ?_
      rename_i H₁₂
      clear H₈
      refine wpAny_mono (Q := fun t s' => t = decide (¬ (d.isRow = true ∧ acc.length = (wts turn).length)) ∧ W b X ((Rw, .seq "list" rv) :: (Wt, .seq "list" wv) :: (cR, .cel (some (.ref Rw))) :: (cW, .cel (some (.ref Wt))) :: (L, .ns nmE [some (.int (kind : Int) tk), some (.int (turn : Int) tt), some (.int (q : Int) tq), some (.bytes y ty), some (.str (lotS d) tl), oc]) :: l) lg s') (E := fun _ _ => False) ?_ (fun t s₉ ht => ?_) (fun _ _ x => x.elim)
      · ktn_no "ho"
        cases hd : d with
        | row =>
          refine ite_n (by decide) ?_
          ktn_no "ho"
          refine r_ite (fun hc2 => ?_) (fun hc2 => ?_)
          · have hne : ((rv.length : Nat) : Int) ≠ (wv.length : Int) := by simpa using hc2
            refine ⟨?_, by rw [← hd]; assumption⟩
            symm; rw [decide_eq_true_iff]
            intro q
            omega
          · have hne : ((rv.length : Nat) : Int) = (wv.length : Int) := by simpa using hc2
            ktn_no "ho"
            refine ⟨?_, by rw [← hd]; assumption⟩
            symm; rw [decide_eq_false_iff_not]
            intro q
            exact q ⟨rfl, by ktn_no "om"⟩
        | below =>
          refine ite_t (by decide) ?_
          exact ⟨by simp [DLot.isRow], by rw [← hd]; assumption⟩
        | fin =>
          refine ite_t (by decide) ?_
          exact ⟨by simp [DLot.isRow], by rw [← hd]; assumption⟩
        | many =>
          refine ite_t (by decide) ?_
          exact ⟨by simp [DLot.isRow], by rw [← hd]; assumption⟩
      refine ea0_2 ht fun e_4 H₉ => ?_
      try clear ht
      subst e_4
      clear H₁₂
      by_cases hrow : d.isRow = true ∧ acc.length = (wts turn).length
      · refine ite_n (by simpa using hrow) ?_
        rw [if_pos hrow] at hdR
        ktn_no "ho"
        refine r_sumL (by assumption) (by ktn_no "mem") hwv hh' ?_
        intro _ _ _
        ktn_no "ho"
        refine r_ite (fun hc2 => ?_) (fun hc2 => ?_)
        · rw [if_pos (eq_of_beq hc2)] at hdR
          ktn_no "ho"
          exact ex2 _ _ ⟨by assumption, by simp, fun T s' hn HT => by ktn_no "ho"; exact fin3 (lx := []) (by rw [hdR]; exact ⟨⟨_, rfl⟩, _, rfl⟩) hn HT⟩
        · have hs0 : (wts turn).sum ≠ 0 := ne_of_beq_false hc2
          rw [if_neg hs0] at hdR
          ktn_no "ho"
          refine r_compR (b := b) (X := X) (lg := lg) (cl := [(Str.ofString "weights", cW), (Str.ofString "row", cR)]) hh' (clos2 hcr hcw rfl) (by decide) rfl (by decide) rfl ?_
          ktn_no "ho"
          refine r_range1 (by assumption) ?_
          intro r u1 u2 u3 s₁₃ H₁₃ hr
          refine ex7 r 0 rv.length u1 u2 u3 _ ⟨rfl, by rw [Int.zero_add]; exact hr, H₁₃, by ktn_no "om", by decide, by decide, fun i v => ∃ t, v = .int (acc.getD i 0 * (wts turn).getD i 0) t, ?_, ?_⟩
          · intro C i v l2 s₁₄ hi r_2 hsub H₁₄
            refine ea1_1 r_2 fun ti e_5 => ?_
            try clear r_2
            subst e_5
            have hi' : i < acc.length := by ktn_no "om"
            have bx := getD_rng hacc i
            refine wpAny_BinOp ?_
            refine Subscript_ ?_
            refine c_cell (v := .ref Rw) (c := cR) EV H₁₄ rfl rfl hkr rfl (.tail _ (hsub _ (.tail _ (.tail _ (.head _))))) rfl ?_
            refine c_loc H₁₄ rfl rfl rfl ?_
            refine r_litem H₁₄ (.tail _ (hsub _ (.head _))) hrv (by ktn_no "om") (by ktn_no "om") (by ktn_no "om") fun t1 => ?_
            refine Subscript_ ?_
            refine c_cell (v := .ref Wt) (c := cW) EV H₁₄ rfl rfl hkw rfl (.tail _ (hsub _ (.tail _ (.tail _ (.tail _ (.head _)))))) rfl ?_
            refine c_loc H₁₄ rfl rfl rfl ?_
            refine r_litem H₁₄ (.tail _ (hsub _ (.tail _ (.head _)))) hwv (by ktn_no "om") (by ktn_no "om") (by ktn_no "om") fun t2 => ?_
            rw [show ((0 : Int) + (i : Nat)).toNat = i from by ktn_no "om"]
            exact r_mul H₁₄ (by ktn_no "om") (by ktn_no "om") fun t s' H' => ⟨⟨t, rfl⟩, H'⟩
          · intro D dv s' hl hP hnD HD
            have hdv : IntsAre dv ((List.range acc.length).map fun i => acc.getD i 0 * (wts turn).getD i 0) := ints_of dv _ _ (by rw [← hrl]; exact hl) hP
            have hds := dot_small hacc (wts_ok turn).1 (by ktn_no "om" : acc.length < 64)
            ktn_no "ho"
            refine r_sumL (by assumption) (.head _) hdv hh' ?_
            intro _ _ _
            ktn_no "ho"
            refine r_sumL (by assumption) (by ktn_no "mem") hwv hh' ?_
            intro _ _ _
            ktn_no "ho"
            refine r_div (p := dot acc (wts turn)) (by assumption) hs0 (by ktn_no "om") ?_
            intro _ _ htz _
            ktn_no "ho"
            exact ex2 _ _ ⟨by assumption, by simp, fun T s' hn HT => by ktn_no "ho"; exact fin3 (lx := []) (by rw [hdR]; exact ⟨⟨_, rfl⟩, .f _ _ htz⟩) hn HT.del1⟩
      · refine ite_t (by rw [decide_eq_true_iff]; exact hrow) ?_
        rw [if_neg hrow] at hdR
        ktn_no "ho"
        exact ex2 _ _ ⟨by assumption, by simp, fun T s' hn HT => by ktn_no "ho"; exact fin3 (lx := []) (by rw [hdR]; exact ⟨⟨_, rfl⟩, _, rfl⟩) hn HT⟩
    · have hk6 : kind ≠ 6 := by have : (kind : Int) ≠ 6 := ne_of_beq_false hc; omega
      ktn_no "ho"
      rename_i H₁₂
      -- a row that has ended by a nought
      have rowC : dueOut turn kind acc d = (if acc = [] then (if kind = 0 then .refused noMean else if kind < 4 then .refused noMed else .refused noQuant) else .told (ansOf acc kind)) → ∀ (s' : Shared), W b X ((Rw, .seq "list" rv) :: (Wt, .seq "list" wv) :: (cR, .cel (some (.ref Rw))) :: (cW, .cel (some (.ref Wt))) :: (L, .ns nmE [some (.int (kind : Int) tk), some (.int (turn : Int) tt), some (.int (q : Int) tq), some (.bytes y ty), some (.str (lotS d) tl), oc]) :: l) lg s' →
          ∀ (K : Flow → Shared → Prop) (F : Value → Shared → Prop), (∀ v s', Q v s' → K (.ret v) s') → wpAny (model prg w) (A.deeper env) (execs ((bodyOf w 187).drop 7) env) K F s' := by
        intro hdR s' H₁₃ K3 F3 hR3
        refine execs_cut ?_
        intro K4 hK4 hR4
        ktn_no "ho"
        refine r_eqLists (by assumption) (.tail _ (.head _)) (.head _) (by show A.units + 3 < _; ktn_no "om") rfl ?_
        ktn_no "ho"
        refine r_ite (fun hc2 => ?_) (fun hc2 => ?_)
        · have hr0 : acc = [] := by
            have : rv = [] := by simpa using hc2
            exact List.length_eq_zero_iff.mp (by rw [← hrl, this]; rfl)
          rw [if_pos hr0] at hdR
          rename_i H₁₄
          have H₁₅ := H₁₄.tail
          clear H₁₄ H₁₃ H₁₂ H₈
          ktn_no "ho"
          refine r_ite (fun hc3 => ?_) (fun hc3 => ?_)
          · rw [if_pos (by have : (kind : Int) = 0 := eq_of_beq hc3; ktn_no "om")] at hdR
            ktn_no "ho"
            exact ex2 _ _ ⟨by assumption, by simp, fun T s' hn HT => by ktn_no "ho"; exact fin3 (lx := []) (by rw [hdR]; exact ⟨⟨_, rfl⟩, _, rfl⟩) hn HT⟩
          · rw [if_neg (by have : (kind : Int) ≠ 0 := ne_of_beq_false hc3; ktn_no "om")] at hdR
            ktn_no "ho"
            refine r_ite (fun hc4 => ?_) (fun hc4 => ?_)
            · rw [if_pos (by have : (kind : Int) < 4 := by simpa using hc4
                             omega)] at hdR
              ktn_no "ho"
              exact ex2 _ _ ⟨by assumption, by simp, fun T s' hn HT => by ktn_no "ho"; exact fin3 (lx := []) (by rw [hdR]; exact ⟨⟨_, rfl⟩, _, rfl⟩) hn HT⟩
            · rw [if_neg (by have : ¬ (kind : Int) < 4 := by simpa using hc4
                             omega)] at hdR
              ktn_no "ho"
              exact ex2 _ _ ⟨by assumption, by simp, fun T s' hn HT => by ktn_no "ho"; exact fin3 (lx := []) (by rw [hdR]; exact ⟨⟨_, rfl⟩, _, rfl⟩) hn HT⟩
        · have hr0 : acc ≠ [] := by
            have : ¬ rv = [] := by simpa using hc2
            intro e
            exact this (List.length_eq_zero_iff.mp (by rw [hrl, e]; rfl))
          rw [if_neg hr0] at hdR
          rename_i H₁₄
          have H₁₅ := H₁₄.tail
          clear H₁₄ H₁₃ H₁₂ H₈
          have hpos : 0 < acc.length := List.length_pos_iff.mpr hr0
          ktn_no "ho"
          refine r_callF (fd := fdOf w 182) G (fn_answer w).at_ ?_
          ktn_no "ho"
          rename_i H₁₆
          refine ⟨⟨_, _, H₁₆⟩, ?_⟩
          refine ok_answer G H₁₆ (.head _) hrv hpos (by ktn_no "om") hacc (by ktn_no "om") (by show A.depth + 1 + 3 < _; ktn_no "om") hh' (by show A.units + 3 + 60 < _; ktn_no "om") ?_
          generalize hans : ansOf acc kind = an at hdR ⊢
          cases an with
          | one n =>
            intro v s' hv H'
            ktn_no "ho"
            exact ex2 _ _ ⟨by assumption, by simp, fun T s' hn HT => by ktn_no "ho"; exact fin3 (lx := []) (by rw [hdR]; exact ⟨⟨_, rfl⟩, hv⟩) hn HT⟩
          | many ns =>
            intro T2 vs2 s' hv hnT2 H'
            ktn_no "ho"
            refine ex2 _ _ ⟨by assumption, by simp, fun T s' hn HT => ?_⟩
            have HT' : W b X ((T, _) :: (Rw, _) :: (Wt, _) :: (cR, _) :: (cW, _) :: (L, _) :: ([(T2, .seq "list" vs2)] ++ l)) lg s' := HT.perm ((List.perm_middle (l₁ := [_, _, _, _, _]) (a := (T2, Cell.seq "list" vs2))).cons _)
            ktn_no "ho"
            exact fin3 (lx := [(T2, .seq "list" vs2)]) (by rw [hdR]; exact ⟨⟨_, rfl⟩, T2, vs2, rfl, .head _, hv⟩) hn HT'
      cases d with
      | fin =>
        have hdR : dueOut turn kind acc .fin = .fin eofMsg := by unfold dueOut; rw [if_neg hk6]
        refine ite_t (by decide) ?_
        ktn_no "ho"
        exact ex2 _ _ ⟨by assumption, by simp, fun T s' hn HT => by ktn_no "ho"; exact fin3 (lx := []) (by rw [hdR]; exact ⟨⟨_, rfl⟩, _, rfl⟩) hn HT⟩
      | below =>
        have hdR : dueOut turn kind acc .below = .refused (msgOf turn) := by unfold dueOut; rw [if_neg hk6]
        refine ite_n (by decide) ?_
        ktn_no "ho"
        refine ite_t (by decide) ?_
        ktn_no "ho"
        refine r_ite (fun hc2 => ?_) (fun hc2 => ?_)
        · have hm3 : (turn : Int) % 3 = 0 := eq_of_beq hc2
          have hmsg : msgOf turn = "negative value" := by unfold msgOf; rw [if_pos (by ktn_no "om")]
          ktn_no "ho"
          exact ex2 _ _ ⟨by assumption, by simp, fun T s' hn HT => by ktn_no "ho"; exact fin3 (lx := []) (by rw [hdR, hmsg]; exact ⟨⟨_, rfl⟩, _, rfl⟩) hn HT⟩
        · have hm3 : (turn : Int) % 3 ≠ 0 := ne_of_beq_false hc2
          have hmsg : msgOf turn = "row " ++ Str.ofString (toString (turn : Int)) := by unfold msgOf; rw [if_neg (by ktn_no "om")]
          ktn_no "ho"
          refine r_str_int (by assumption) (by omega) (by omega) ?_
          intro _ _ _
          refine r_addstr (by assumption) (by
            have := len_digits (k := turn) (by ktn_no "om") (by ktn_no "om")
            have e : (Str.ofString "row ").length = 4 := by decide +kernel
            omega) ?_
          intro tmm _ _
          ktn_no "ho"
          exact ex2 _ _ ⟨by assumption, by simp, fun T s' hn HT => by ktn_no "ho"; exact fin3 (lx := []) (by rw [hdR, hmsg]; exact ⟨⟨_, rfl⟩, _, rfl⟩) hn HT⟩
      | row =>
        have hdR : dueOut turn kind acc .row = (if acc = [] then (if kind = 0 then .refused noMean else if kind < 4 then .refused noMed else .refused noQuant) else .told (ansOf acc kind)) := by unfold dueOut; rw [if_neg hk6]
        refine ite_n (by decide) ?_
        ktn_no "ho"
        refine ite_n (by decide) ?_
        refine wpAny_execs_nil ?_
        refine k_next (by assumption) ?_
        exact rowC hdR _ (by assumption) _ _ (fun v s' h => by ktn_no "ho"; exact h)
      | many =>
        have hdR : dueOut turn kind acc .many = (if acc = [] then (if kind = 0 then .refused noMean else if kind < 4 then .refused noMed else .refused noQuant) else .told (ansOf acc kind)) := by unfold dueOut; rw [if_neg hk6]
        refine ite_n (by decide) ?_
        ktn_no "ho"
        refine ite_n (by decide) ?_
        refine wpAny_execs_nil ?_
        refine k_next (by assumption) ?_
        exact rowC hdR _ (by assumption) _ _ (fun v s' h => by ktn_no "ho"; exact h)
end
end
section
open PySem PySem.W PySem.W.X PyProof.Rows PySem.Calls
/-! the plain law: what is due is what is done -/
noncomputable def Lot.d : Lot → DLot | .row => .row | .below => .below | .fin => .fin
theorem dscan_scan {lim : Nat} : ∀ (r acc : List Int) (p : Nat), acc.length + r.length ≤ lim → dscan lim r acc p = (acc ++ (scan r p).1, (scan r p).2.1.d, (scan r p).2.2)
  | [], acc, p, h => by
    have : ¬ lim < acc.length := by simp at h; omega
    show (if lim < acc.length then _ else _) = _
    rw [if_neg this]
    show _ = (acc ++ [], _, _)
    rw [List.append_nil]; rfl
  | v :: r, acc, p, h => by
    have hl : ¬ lim < acc.length := by simp at h; omega
    show (if lim < acc.length then _ else if v = 0 then (acc, DLot.row, p + 1) else if v < 100 then (acc, .below, p + 1) else dscan lim r (acc ++ [v - 100]) (p + 1)) = _
    rw [if_neg hl]
    have hs : scan (v :: r) p = if v = 0 then ([], .row, p + 1) else if v < 100 then ([], .below, p + 1) else ((v - 100) :: (scan r (p + 1)).1, (scan r (p + 1)).2) := rfl
    rw [hs]
    by_cases h0 : v = 0
    · rw [if_pos h0, if_pos h0]; simp [Lot.d]
    · rw [if_neg h0, if_neg h0]
      by_cases h1 : v < 100
      · rw [if_pos h1, if_pos h1]; simp [Lot.d]
      · rw [if_neg h1, if_neg h1]
        rw [dscan_scan r (acc ++ [v - 100]) (p + 1) (by simp at h ⊢; omega)]
        simp
theorem dot_snoc {ws : List Int} (acc : List Int) (x : Int) : dot (acc ++ [x]) ws = dot acc ws + x * ws.getD acc.length 0 := by
  unfold dot
  rw [List.length_append, List.length_singleton, List.range_succ, List.map_append, List.sum_append]
  congr 1
  · congr 1
    refine List.map_congr_left fun i hi => ?_
    have : i < acc.length := List.mem_range.mp hi
    simp only [List.getD_eq_getElem?_getD, List.getElem?_append_left this]
  · simp
theorem spv_dscan (ws0 : List Int) : ∀ (r acc : List Int) (p : Nat), acc.length ≤ ws0.length →
    spv (ws0.drop acc.length) r p (dot acc ws0) = ((if (dscan ws0.length r acc p).2.1.isRow = true ∧ (dscan ws0.length r acc p).1.length = ws0.length then some (dot (dscan ws0.length r acc p).1 ws0) else none), (dscan ws0.length r acc p).2.2)
  | [], acc, p, h => by
    have hd : dscan ws0.length [] acc p = (acc, .fin, p) := if_neg (by omega)
    rw [hd, if_neg (by simp [DLot.isRow])]
    cases ws0.drop acc.length <;> rfl
  | v :: r, acc, p, h => by
    have hd : dscan ws0.length (v :: r) acc p = if v = 0 then (acc, .row, p + 1) else if v < 100 then (acc, .below, p + 1) else dscan ws0.length r (acc ++ [v - 100]) (p + 1) := if_neg (by omega)
    have hs : spv (ws0.drop acc.length) (v :: r) p (dot acc ws0) = if v = 0 then ((if ws0.drop acc.length = [] then some (dot acc ws0) else none), p + 1) else if v < 100 then (none, p + 1) else match ws0.drop acc.length with
      | [] => (none, p + 1)
      | u :: ws => spv ws r (p + 1) (dot acc ws0 + (v - 100) * u) := by
      cases ws0.drop acc.length <;> rfl
    rw [hs, hd]
    by_cases h0 : v = 0
    · rw [if_pos h0, if_pos h0]
      by_cases q : acc.length = ws0.length
      · rw [if_pos (List.drop_eq_nil_of_le (by omega)), if_pos ⟨rfl, q⟩]
      · rw [if_neg (fun e => q (by have := List.drop_eq_nil_iff.mp e; omega)), if_neg (fun e => q e.2)]
    · rw [if_neg h0, if_neg h0]
      by_cases h1 : v < 100
      · rw [if_pos h1, if_pos h1, if_neg (by simp [DLot.isRow])]
      · rw [if_neg h1, if_neg h1]
        by_cases q : acc.length = ws0.length
        · rw [List.drop_eq_nil_of_le (by omega)]
          rw [dscan_many (by simp; omega), if_neg (by simp [DLot.isRow])]
        · have hlt : acc.length < ws0.length := by omega
          rw [drop_cons hlt]
          have ih := spv_dscan ws0 r (acc ++ [v - 100]) (p + 1) (by simp; omega)
          rw [dot_snoc] at ih
          have e : (acc ++ [v - 100]).length = acc.length + 1 := by simp
          rw [e] at ih
          exact ih
theorem lin (a c d P : Int) : a * (P - d) + c * d = P * a + d * (c - a) := by
  rw [Int.mul_sub, Int.mul_sub, Int.mul_comm d c, Int.mul_comm d a, Int.mul_comm P a]
  omega
theorem excl_cut {ys : List Int} (hl : 2 ≤ ys.length) {i : Int} (h1 : 1 ≤ i) (h3 : i ≤ 3) : exclAt ys i = cutAt ys 4 (ys.length + 1) 4 i := by
  unfold exclAt cutAt
  dsimp only
  have hm0 : 0 ≤ i * ((ys.length : Int) + 1) := Int.mul_nonneg (by omega) (by omega)
  generalize i * ((ys.length : Int) + 1) = k at *
  by_cases c1 : k / 4 < 1
  · rw [if_pos c1, if_pos (show k - 4 < 0 by omega)]
    have e : wayAt ys 4 0 = ys.getD 0 0 * (4 : Nat) := rfl
    rw [e, show ((1 : Int) - 1).toNat = 0 from rfl, show (1 : Int).toNat = 1 from rfl, lin, Int.mul_comm 4, Int.one_mul]
    rfl
  · rw [if_neg c1, if_neg (show ¬ k - 4 < 0 by omega)]
    have hnear : ∃ q : Nat, nearAt ys 4 (k - 4).toNat = q ∧ (if k / 4 > (ys.length : Int) - 1 then (ys.length : Int) - 1 else k / 4) = (q : Int) + 1 := by
      refine ⟨_, rfl, ?_⟩
      unfold nearAt
      split <;> omega
    refine ea1_2 hnear fun q hq hj => ?_
    try clear hnear
    rw [hj, way_closed ys (by decide), hq, lin]
    have e1 : ((q : Int) + 1 - 1).toNat = q := by omega
    have e2 : ((q : Int) + 1).toNat = q + 1 := by omega
    have e3 : (((k - 4).toNat : Nat) : Int) - ((4 : Nat) : Int) * (q : Int) = k - ((q : Int) + 1) * 4 := by
      have : ((k - 4).toNat : Int) = k - 4 := Int.toNat_of_nonneg (by omega)
      rw [this]; omega
    rw [e1, e2, e3]
    rfl
theorem incl_cut {ys : List Int} (hl : 2 ≤ ys.length) {i : Int} (h1 : 1 ≤ i) (h3 : i ≤ 6) : inclAt ys i = cutAt ys 7 (ys.length - 1) 0 i := by
  unfold inclAt cutAt
  dsimp only
  have hm0 : 0 ≤ i * ((ys.length : Int) - 1) := Int.mul_nonneg (by omega) (by omega)
  have hm1 : i * ((ys.length : Int) - 1) ≤ 6 * ((ys.length : Int) - 1) := Int.mul_le_mul_of_nonneg_right h3 (by omega)
  generalize i * ((ys.length : Int) - 1) = k at *
  rw [if_neg (by omega), Int.sub_zero, way_closed ys (by decide)]
  obtain ⟨n, rfl⟩ := Int.eq_ofNat_of_zero_le hm0
  have hnear : nearAt ys 7 (n : Int).toNat = ((n : Int) / 7).toNat := Nat.min_eq_left (show n / 7 ≤ _ by omega)
  have e2 : ((n : Int) / 7 + 1).toNat = ((n : Int) / 7).toNat + 1 := rfl
  have e3 : (((n : Int).toNat : Nat) : Int) - ((7 : Nat) : Int) * ((((n : Int) / 7).toNat : Nat) : Int) = (n : Int) % 7 := (Int.emod_def _ _).symm
  rw [hnear, e2, e3, lin]
  rfl
theorem cuts4 {xs : List Int} (h : xs ≠ []) : Out.told (.many (cutsN (srt xs) 4 (xs.length + 1) 4)) = quantF 3 exclAt xs := by
  have hsl : (srt xs).length = xs.length := (srt_perm xs).length_eq
  have hpos : 0 < xs.length := List.length_pos_iff.mpr h
  unfold quantF cutsN
  rw [if_neg h, hsl]
  by_cases q : xs.length = 1
  · rw [if_pos q, if_pos q]
  · rw [if_neg q, if_neg q]
    congr 2
    refine List.map_congr_left fun k hk => ?_
    have : k < 3 := List.mem_range.mp hk
    rw [excl_cut (by omega) (by omega) (by omega), hsl]
theorem cuts7 {xs : List Int} (h : xs ≠ []) : Out.told (.many (cutsN (srt xs) 7 (xs.length - 1) 0)) = quantF 6 inclAt xs := by
  have hsl : (srt xs).length = xs.length := (srt_perm xs).length_eq
  have hpos : 0 < xs.length := List.length_pos_iff.mpr h
  unfold quantF cutsN
  rw [if_neg h, hsl]
  by_cases q : xs.length = 1
  · rw [if_pos q, if_pos q]
  · rw [if_neg q, if_neg q]
    congr 2
    refine List.map_congr_left fun k hk => ?_
    have : k < 6 := List.mem_range.mp hk
    rw [incl_cut (by omega) (by omega) (by omega), hsl]
/-- the answer's def for each kind -/
noncomputable def kindF (kind : Nat) : List Int → Out :=
  if kind = 0 then fmeanF else if kind = 1 then medF else if kind = 2 then medLowF else if kind = 3 then medHighF else if kind = 4 then quantF 3 exclAt else quantF 6 inclAt
theorem kindF_ans {xs : List Int} (h : xs ≠ []) {kind : Nat} (hk : kind < 6) : Out.told (ansOf xs kind) = kindF kind xs := by
  have hpos : 0 < xs.length := List.length_pos_iff.mpr h
  obtain rfl | rfl | rfl | rfl | rfl | rfl : kind = 0 ∨ kind = 1 ∨ kind = 2 ∨ kind = 3 ∨ kind = 4 ∨ kind = 5 := lt6 hk
  · show _ = fmeanF xs
    unfold fmeanF; rw [if_neg h]; rfl
  · show _ = medF xs
    unfold medF ansOf
    rw [if_neg h, if_neg (by decide)]
    by_cases q : xs.length % 2 = 0
    · rw [if_pos ⟨rfl, q⟩, if_neg (by omega)]
    · rw [if_neg (fun e => q e.2), if_neg (by decide : ¬ (1 : Nat) = 2), if_neg (by decide : ¬ (1 : Nat) = 4), if_neg (by decide : ¬ (1 : Nat) = 5), if_pos (show xs.length % 2 = 1 by omega)]
  · show _ = medLowF xs
    unfold medLowF ansOf
    rw [if_neg h, if_neg (by decide), if_neg (by omega), if_pos rfl]
    by_cases q : xs.length % 2 = 1
    · rw [if_pos q, show (xs.length - 1) / 2 = xs.length / 2 by omega]
    · rw [if_neg q, show (xs.length - 1) / 2 = xs.length / 2 - 1 by omega]
  · show _ = medHighF xs
    unfold medHighF ansOf
    rw [if_neg h, if_neg (by decide), if_neg (by omega), if_neg (by decide), if_neg (by decide), if_neg (by decide)]
  · show _ = quantF 3 exclAt xs
    rw [← cuts4 h]; rfl
  · show _ = quantF 6 inclAt xs
    rw [← cuts7 h]; rfl
theorem kindF_nil {kind : Nat} (hk : kind < 6) : kindF kind [] = if kind = 0 then .refused noMean else if kind < 4 then .refused noMed else .refused noQuant := by
  obtain rfl | rfl | rfl | rfl | rfl | rfl : kind = 0 ∨ kind = 1 ∨ kind = 2 ∨ kind = 3 ∨ kind = 4 ∨ kind = 5 := lt6 hk
  all_goals rfl
theorem deedOf_kind {o : List Int} {p turn kind : Nat} (hk : kind < 6) : deedOf o p turn kind = (outOf (msgOf turn) (kindF kind) (scan (o.drop p) p), (scan (o.drop p) p).2.2) := by
  obtain rfl | rfl | rfl | rfl | rfl | rfl : kind = 0 ∨ kind = 1 ∨ kind = 2 ∨ kind = 3 ∨ kind = 4 ∨ kind = 5 := lt6 hk
  all_goals rfl
theorem due_deed {o : List Int} (hlen : o.length < 1000) {p turn kind : Nat} (hk : kind < 7) : dueOf o p turn kind = deedOf o p turn kind := by
  by_cases h6 : kind = 6
  · subst h6
    have hs := spv_dscan (wts turn) (o.drop p) [] p (Nat.zero_le _)
    have hd : deedOf o p turn 6 = (fmeanWF (wts turn) (spv (wts turn) (o.drop p) p 0).1, (spv (wts turn) (o.drop p) p 0).2) := rfl
    have hs' : spv (wts turn) (o.drop p) p 0 = _ := hs
    rw [hd, hs']
    unfold dueOf
    rw [show limOf turn 6 = (wts turn).length from rfl]
    generalize dscan (wts turn).length (o.drop p) [] p = D
    obtain ⟨xs, d, q⟩ := D
    show (dueOut turn 6 xs d, q) = (fmeanWF (wts turn) (if d.isRow = true ∧ xs.length = (wts turn).length then some (dot xs (wts turn)) else none), q)
    unfold dueOut
    rw [if_pos rfl]
    by_cases hr : d.isRow = true ∧ xs.length = (wts turn).length
    · rw [if_pos hr, if_pos hr]; rfl
    · rw [if_neg hr, if_neg hr]; rfl
  · rw [deedOf_kind (by omega)]
    unfold dueOf
    rw [show limOf turn kind = 10000 from if_neg h6, dscan_scan _ _ _ (by simp; omega)]
    generalize scan (o.drop p) p = R
    obtain ⟨xs, lt, q⟩ := R
    show (dueOut turn kind ([] ++ xs) lt.d, q) = (outOf (msgOf turn) (kindF kind) (xs, lt, q), q)
    rw [List.nil_append]
    congr 1
    unfold dueOut
    rw [if_neg h6]
    cases lt with
    | fin => rfl
    | below => rfl
    | row =>
      show (if xs = [] then _ else Out.told (ansOf xs kind)) = kindF kind xs
      by_cases hx : xs = []
      · subst hx
        rw [if_pos rfl, kindF_nil (by omega)]
      · rw [if_neg hx, kindF_ans hx (by omega)]
end
section
open PySem PySem.W PySem.W.X PyProof.Rows PySem.Calls
structure DsOk (lim : Nat) (r acc : List Int) (p : Nat) (D : List Int × DLot × Nat) : Prop where
  rng : (∀ x ∈ acc, 0 ≤ x ∧ x < 256) → (∀ v ∈ r, 0 ≤ v ∧ v < 256) → ∀ x ∈ D.1, 0 ≤ x ∧ x < 256
  len : D.1.length ≤ acc.length + r.length
  lo : p ≤ D.2.2
  hi : D.2.2 ≤ p + r.length
  stay : D.2.2 = p → acc.length ≤ lim → D.2.1 = .fin
theorem ds_ok {lim : Nat} : ∀ (r acc : List Int) (p : Nat), DsOk lim r acc p (dscan lim r acc p)
  | [], acc, p => by
    by_cases h : lim < acc.length
    · rw [show dscan lim [] acc p = (acc, .many, p) from if_pos h]
      exact ⟨fun h1 _ => h1, by simp, Nat.le_refl _, by simp, fun _ q => by omega⟩
    · rw [show dscan lim [] acc p = (acc, .fin, p) from if_neg h]
      exact ⟨fun h1 _ => h1, by simp, Nat.le_refl _, by simp, fun _ _ => rfl⟩
  | v :: r, acc, p => by
    by_cases h : lim < acc.length
    · rw [show dscan lim (v :: r) acc p = (acc, .many, p) from if_pos h]
      exact ⟨fun h1 _ => h1, by simp, Nat.le_refl _, by simp, fun _ q => by omega⟩
    · have e : dscan lim (v :: r) acc p = if v = 0 then (acc, .row, p + 1) else if v < 100 then (acc, .below, p + 1) else dscan lim r (acc ++ [v - 100]) (p + 1) := if_neg h
      rw [e]
      by_cases h0 : v = 0
      · rw [if_pos h0]
        exact ⟨fun h1 _ => h1, by simp, Nat.le_succ _, by simp, fun q _ => by simp at q⟩
      · rw [if_neg h0]
        by_cases h1 : v < 100
        · rw [if_pos h1]
          exact ⟨fun h1 _ => h1, by simp, Nat.le_succ _, by simp, fun q _ => by simp at q⟩
        · rw [if_neg h1]
          have ih := ds_ok (lim := lim) r (acc ++ [v - 100]) (p + 1)
          refine ⟨fun a1 a2 => ih.rng (fun x hx => ?_) fun x hx => a2 x (.tail _ hx), ?_, by have := ih.lo; omega, by have := ih.hi; simp; omega, fun q _ => by have := ih.lo; omega⟩
          · rcases List.mem_append.mp hx with hx | hx
            · exact a1 x hx
            · have := a2 v (.head _)
              rw [List.mem_singleton.mp hx]; omega
          · have := ih.len
            simp at this ⊢
            omega
theorem cutsN_ok {ys : List Int} (hs : ∀ y ∈ ys, 0 ≤ y ∧ y < 256) (hl : ys.length < 64) {parts : Nat} (h0 : 0 < parts) (hp : parts ≤ 7) {step off : Int} (h1 : 0 ≤ step) (h2 : step ≤ 100) (h3 : 0 ≤ off) (h4 : off ≤ 10) : ∀ n ∈ cutsN ys parts step off, n.Ok := by
  intro n hn
  unfold cutsN at hn
  split at hn
  · rw [List.eq_of_mem_replicate hn]; trivial
  · refine ea1_2 (List.mem_map.mp hn) fun k hk e_1 => ?_
    subst e_1
    have hk' : k < parts - 1 := List.mem_range.mp hk
    have g1 : 0 ≤ (1 + (k : Int)) * step := Int.mul_nonneg (by omega) h1
    have g2 : (1 + (k : Int)) * step ≤ 7 * 100 := Int.mul_le_mul (by omega) h2 h1 (by omega)
    unfold cutAt
    generalize hidx : (1 + (k : Int)) * step - off = idx
    have b0 := getD_rng hs 0
    have b1 := getD_rng hs 1
    split
    · have hw := way_small hs hp 0
      have hm := small_mul (a := idx) (c := ys.getD 1 0 - ys.getD 0 0) (by omega) (by omega)
      exact fdiv_ok (by omega) (by omega)
    · have hw := way_small hs hp idx.toNat
      exact fdiv_ok (by omega) (by omega)
theorem ans_ok {xs : List Int} (hs : ∀ y ∈ xs, 0 ≤ y ∧ y < 256) (h0 : 0 < xs.length) (hl : xs.length < 64) (kind : Nat) : (Out.told (ansOf xs kind)).Ok := by
  have hss : ∀ y ∈ srt xs, 0 ≤ y ∧ y < 256 := fun y hy => hs y ((srt_perm xs).mem_iff.mp hy)
  have hsl : (srt xs).length = xs.length := (srt_perm xs).length_eq
  have hsum := sum_small hs
  unfold ansOf
  split
  · exact fdiv_ok (by omega) (by omega)
  · split
    · have b1 := getD_rng hss (xs.length / 2 - 1)
      have b2 := getD_rng hss (xs.length / 2)
      exact fdiv_ok (by omega) (by decide)
    · split
      · trivial
      · split
        · exact cutsN_ok hss (by omega) (by decide) (by decide) (by omega) (by omega) (by decide) (by decide)
        · split
          · exact cutsN_ok hss (by omega) (by decide) (by decide) (by omega) (by omega) (by decide) (by decide)
          · trivial
theorem cutsN_len {ys : List Int} {parts : Nat} {step off : Int} : (cutsN ys parts step off).length = parts - 1 := by
  unfold cutsN; split <;> simp
theorem ans_len {xs : List Int} {kind : Nat} : Num.nmaxO (.told (ansOf xs kind)) ≤ 100 := by
  unfold ansOf
  split
  · exact Nat.zero_le _
  · split
    · exact Nat.zero_le _
    · split
      · exact Nat.zero_le _
      · split
        · show (cutsN _ _ _ _).length ≤ _; rw [cutsN_len]; decide
        · split
          · show (cutsN _ _ _ _).length ≤ _; rw [cutsN_len]; decide
          · exact Nat.zero_le _
theorem dueOut_ok {turn kind : Nat} {xs : List Int} {d : DLot} (hs : ∀ y ∈ xs, 0 ≤ y ∧ y < 256) (hl : xs.length < 64) : (dueOut turn kind xs d).Ok ∧ Num.nmaxO (dueOut turn kind xs d) ≤ 100 := by
  have row : (if xs = [] then (if kind = 0 then Out.refused noMean else if kind < 4 then .refused noMed else .refused noQuant) else .told (ansOf xs kind)).Ok ∧ Num.nmaxO (if xs = [] then (if kind = 0 then Out.refused noMean else if kind < 4 then .refused noMed else .refused noQuant) else .told (ansOf xs kind)) ≤ 100 := by
    split
    · split
      · exact ⟨trivial, Nat.zero_le _⟩
      · split <;> exact ⟨trivial, Nat.zero_le _⟩
    · rename_i hx
      exact ⟨ans_ok hs (List.length_pos_iff.mpr hx) hl kind, ans_len⟩
  unfold dueOut
  split
  · split
    · split
      · exact ⟨trivial, Nat.zero_le _⟩
      · rename_i hz
        have := dot_small hs (wts_ok turn).1 hl
        exact ⟨fdiv_ok (by omega) hz, Nat.zero_le _⟩
    · exact ⟨trivial, Nat.zero_le _⟩
  · cases d with
    | fin => exact ⟨trivial, Nat.zero_le _⟩
    | below => exact ⟨trivial, Nat.zero_le _⟩
    | row => exact row
    | many => exact row
structure DueOk (o : List Int) (p kind : Nat) (r : Out × Nat) : Prop where
  ok : r.1.Ok
  len : Num.nmaxO r.1 ≤ 100
  lo : p ≤ r.2
  hi : r.2 ≤ o.length
  stay : r.2 = p → kind ≠ 6 → ∃ m, r.1 = .fin m
theorem due_ok {o : List Int} {p turn kind : Nat} (hrng : ∀ x ∈ o, 0 ≤ x ∧ x < 256) (hlen : o.length < 64) (hp : p ≤ o.length) : DueOk o p kind (dueOf o p turn kind) := by
  have h := ds_ok (lim := limOf turn kind) (o.drop p) [] p
  have hdl : (o.drop p).length = o.length - p := List.length_drop
  have hl := h.len
  rw [hdl] at hl
  simp only [List.length_nil, Nat.zero_add] at hl
  have hd := dueOut_ok (turn := turn) (kind := kind) (d := (dscan (limOf turn kind) (o.drop p) [] p).2.1) (h.rng (fun x hx => by cases hx) fun v hv => hrng v (List.mem_of_mem_drop hv)) (by omega)
  refine ⟨hd.1, hd.2, h.lo, ?_, fun q k6 => ?_⟩
  · have := h.hi; rw [hdl] at this; show (dscan (limOf turn kind) (o.drop p) [] p).2.2 ≤ _; omega
  · have := h.stay q (Nat.zero_le _)
    refine ⟨eofMsg, ?_⟩
    show dueOut turn kind _ (dscan (limOf turn kind) (o.drop p) [] p).2.1 = _
    rw [this]
    unfold dueOut
    rw [if_neg k6]
end
section
open PySem PySem.W PySem.W.X PyProof.Rows PySem.Calls
theorem fn_init (w : World) : FnOk w 121 ["self", "value"] [] := ⟨by kernel_rfl, by kernel_rfl, by kernel_rfl, by kernel_rfl, by kernel_rfl, by kernel_rfl, by kernel_rfl, by kernel_rfl⟩
section
variable {w : World} {b : Shared} {X : List Addr} {l : List (Addr × Cell)} {lg lg' : List (Nat × GenState)} {s : Shared} {A : Around} {E : Value → Shared → Prop} {env : Env} {L a c S D : Addr} {v : Value}
/-- an attribute is stored in an object's own dict -/
theorem r_setAttr {od : Obj} {od' : Tok → Obj} {name : Str} {l' : Tok → List (Addr × Cell)} {Q : Unit → Shared → Prop} (G : Glob w b X) (H : W b X l lg s) (hS : (S, .obj (instObj 124 D)) ∈ l) (hD : (D, .obj od) ∈ l)
    (ht : takerIn (KK w) 124 name = some none) (hl : (lookIn name od).isSome = true)
    (e : ∀ tk, Obj.putName name (PyData.keyHash w.params name) (.str name tk) v od = od' tk) (e' : ∀ tk, ∃ es n, od' tk = dictOf es n ∧ es.length ≤ 1000)
    (hp : ∀ tk, Put l (D, .obj od) (D, .obj (od' tk)) (l' tk)) (h : ∀ tk s', W b X (l' tk) lg s' → Q () s') :
    wpAny (model prg w) A (setAttr (.ref S) name v) Q E s := by
  have X0 := G.in_ H
  have hx : s.heap.get? S = some (instObj 124 D) := H.cells _ hS
  have hd : s.heap.get? D = some od := H.cells _ hD
  have I : InstAt s.heap S (instObj 124 D) 124 (some od) := ⟨hx, rfl, rfl, hd⟩
  have hh : (clsIn (KK w) 124).any (·.hasDict) = true := by kernel_rfl
  refine set_plain X0 I (by kernel_rfl) ?_
  have H1 := H.tok (s.toks + 1)
  refine osa_open (s := { s with toks := s.toks + 1 }) (x := S) (K := KK w) X0 I (by kernel_rfl) ht fun bb => ?_
  refine ea1_2 (any_some hh) fun cd hc hd' => ?_
  refine wpAny_bind (wpAny_pure (wpAny_bind (wpAny_bind (wpAny_loadPart hx (wpAny_bind (Looks.here (s := { s with toks := s.toks + 1 }) (looks_clsIn X0 hc) ?_))))))
  rw [hd']
  refine wpAny_pure (a := some D) (wpAny_bind (wpAny_pure (wpAny_bind ?_)))
  unfold nsSet
  refine wpAny_bind (wpAny_bind (wpAny_askSetting (wpAny_pure (wpAny_bind (wpAny_mkText (wpAny_bind (wpAny_loadPart hd ?_)))))))
  unfold lookIn at hl
  split at hl
  · rename_i es₀ n₀ q
    rw [q]
    dsimp only
    have cc : (!es₀.any (·.key.isStr name) && es₀.any (·.refKey)) = false := by
      rw [← Array.any_toList, ← Array.any_toList]
      split at hl
      · rename_i en he
        rw [List.any_eq_true.mpr ⟨en, List.mem_of_find?_eq_some he, List.find?_some he⟩]; rfl
      · split at hl
        · cases hl
        · rename_i z; rw [Bool.not_eq_true] at z; rw [z, Bool.and_false]
    rw [aRefKeyMayBeTheName_at, cc]
    refine wpAny_updatePart hd ?_
    refine ea2_2 (e' (s.toks + 1)) fun es n hod hz => ?_
    have D' : (s.heap.update D (Obj.putName name (PyData.keyHash w.params name) (.str name (s.toks + 1)) v)).get? D = some (od' (s.toks + 1)) := by
      have := Heap.get?_update_self (h := s.heap) (Obj.putName name (PyData.keyHash w.params name) (.str name (s.toks + 1)) v) hd (by rw [e, hod]; rfl)
      rw [e] at this; exact this
    refine wpAny_bind (wpAny_lookBehind D' (by rw [hod]; exact pastItsLine_dict (by rw [List.size_toArray, sizeLine_eq]; ktn_no "om")) ?_)
    refine wpAny_pure (h (s.toks + 1) _ ?_)
    exact H1.put (t' := s.toks + 1 + 1) (hp (s.toks + 1)) (.update ..) D' (by show (od' (s.toks + 1)).cls ≠ _; rw [hod]; intro q; injection q with q; exact absurd q (by decide))
  · cases hl
theorem call_defC (ps others : List Str) {nm gl : List Str} {vals : List Value} {vs : List (Option Value)} {R : Result → Shared → Prop} (hnm : ps ++ others = nm) (hvs : (vals.map some ++ others.map fun _ => none) = vs) (G : Glob w b X) (H : W b X l lg s) (f : FnOk w a nm gl) (hc : noCells (fdOf w a).scope = true) (hg : (fdOf w a).scope.isGenerator = false)
    (hb : bindArgs (fdOf w a) ⟨vals, []⟩ = pure (ps.zip vals)) (hlen : ps.length = vals.length) (hA : A.depth < recursionLimit)
    (h : ∀ L env s', EnvOk env L nm gl → newIn b L → W b X ((L, .ns nm vs) :: l) lg s' →
      wpAny (model prg w) (A.deeper env) (execs (bodyOf w a) env) (fun fl s'' => R (.ok (.ret (match fl with | .ret v => v | _ => .none))) s'')
        (fun e s'' => wpAny (model prg w) (A.deeper env) (leaving env e) (fun _ s3 => R (.error e) s3) (fun e' s3 => R (.error e') s3) s'') s') :
    codeAny (model prg w) A (.call (.ref a) ⟨vals, []⟩) R s := by
  subst hnm hvs
  refine ea1_2 (Option.map_eq_some_iff.mp f.at_) fun o ho hod => ?_
  have hsc := f.sc
  unfold scopeOk at hsc
  simp only [Bool.and_eq_true, beq_iff_eq, decide_eq_true_eq] at hsc
  refine ea0_2 hsc fun q_1 hdb => ?_
  try clear hsc
  obtain ⟨⟨⟨hk, hloc⟩, hgl'⟩, hnd⟩ := q_1
  have hloc' := lookup_of_all hloc
  refine codeAny_call_def (fd := fdOf w a) (body := bodyOf w a) (binds := ps.zip vals) hA (G.at_ H ho) hod (G.nolimit H) (codeRec_of (G.in_ H) f.code) f.body (fun M A' E' Q' q => by rw [hb]; exact wpAny_pure q) (fun x hx => ?_) (fun x hx => ?_) (fun h₁ hns hkeep => ?_) f.co hg hk
  · have := List.all_eq_true.mp hc x hx
    simpa using this
  · exact hloc' x.1 (List.mem_append_left _ (List.of_mem_zip hx).1)
  · have H1 : W b X l lg { s with heap := h₁, toks := s.toks + (ps.zip vals).length } := H.grow hkeep
    have H2 : W b X ((s.heap.objs.size, .ns (ps ++ others) (vals.map some ++ others.map fun _ => none)) :: l) lg { s with heap := h₁, toks := s.toks + (ps.zip vals).length } :=
      H1.cons (by show h₁.Ns _ _; rw [look_binds hnd hlen]; exact hns) trivial H.fresh fun p hp e => absurd (H.lt hp) (by rw [e]; exact Nat.lt_irrefl _)
    have EO : EnvOk (callEnv (fdOf w a) s.heap.objs.size a) s.heap.objs.size (ps ++ others) gl :=
      ⟨rfl, rfl, hk, f.gl, f.bl, hloc', lookup_of_all hgl', hnd, fun x hx => by simpa using List.all_eq_true.mp hdb x hx⟩
    exact h _ _ _ EO H.fresh H2
theorem tcw {v : Value} : (Code.builtin "type.__call__" ⟨[.ref 124, v], []⟩).weight = 1 := by kernel_rfl
noncomputable abbrev entV (w : World) (tk : Tok) (v : Value) : DictEntry := ⟨PyData.keyHash w.params "value", .str "value" tk, v⟩
noncomputable abbrev entR (w : World) (tk : Tok) (v : Value) : DictEntry := ⟨PyData.keyHash w.params "read", .str "read" tk, v⟩
theorem put_value (w : World) (v : Value) (tk : Tok) : Obj.putName (Str.ofString "value") (PyData.keyHash w.params (Str.ofString "value")) (.str (Str.ofString "value") tk) v emptyDict = dictOf [entV w tk v] 1 := by kernel_rfl
theorem put_read (w : World) (v u : Value) (tk t0 : Tok) : Obj.putName (Str.ofString "read") (PyData.keyHash w.params (Str.ofString "read")) (.str (Str.ofString "read") tk) v (dictOf [entV w t0 u] 1) = dictOf [entV w t0 u, entR w tk v] 2 := by kernel_rfl
set_option maxRecDepth 10000 in
set_option maxHeartbeats 4000000 in
/-- _Example(v) -/
theorem ok_new {Q : Value → Shared → Prop} (G : Glob w b X) (H : W b X l lg s) (hA : A.depth + 3 < recursionLimit) (h : ∀ S D tk s', newIn b S → newIn b D → W b X ((S, .obj (instObj 124 D)) :: (D, .obj (dictOf [entV w tk v] 1)) :: l) lg s' → Q (.ref S) s') :
    wpAny (model prg w) A (call (.ref 124) [v]) Q E s := by
  have X0 := G.in_ H
  obtain ⟨hh, g, d, t, os⟩ := s
  refine wpAny_call (make_core (makes_of (K := KK w) X0 (by kernel_rfl)) (looks_findIn X0 (show findIn (KK w) (.ref 124) "__init__" = some (some (.ref 121)) from by kernel_rfl)) (fun self => bind_fn X0 self (by kernel_rfl)) (.inl rfl) ?_)
  have H1 := H.push (o := emptyDict) (c := .obj emptyDict) (t' := t) rfl (fun h' q => q) (by show Value.type "dict" ≠ _; decide)
  have H2 := H1.push (o := instObj 124 hh.objs.size) (c := .obj (instObj 124 hh.objs.size)) (t' := t) rfl (fun h' q => q) (by show Value.ref 124 ≠ _; intro q; cases q)
  have hnS := H1.fresh
  have hnD := H.fresh
  have hsz : (hh.push emptyDict).objs.size = hh.objs.size + 1 := Heap.size_push ..
  simp only [hsz] at H2 hnS
  refine call_defC ["self", "value"] [] (nm := ["self", "value"]) (vs := [some (.ref (hh.objs.size + 1)), some v]) rfl rfl G H2 (fn_init w) (by kernel_rfl) (by kernel_rfl) (by kernel_rfl) rfl (by show A.depth + (Code.builtin "type.__call__" ⟨[.ref 124, v], []⟩).weight < _; rw [tcw]; ktn_no "om") ?_
  intro L env s₁ EV hnL H₁
  refine wpAny_execs_cons ?_
  refine plainObj_wpAny_Assign_Attribute ?_
  ktn_no "go"
  refine r_setAttr (S := hh.objs.size + 1) (D := hh.objs.size) (od := emptyDict) (od' := fun tk => dictOf [entV w tk v] 1) G H₁ (.tail _ (.head _)) (.tail _ (.tail _ (.head _))) (by kernel_rfl) (by kernel_rfl) (put_value w v) (fun tk => ⟨_, _, rfl, by simp⟩) (fun tk => .succ (.succ .zero)) ?_
  intro tk s₂ H₂
  show wpAny _ _ (execs [] env) _ _ _
  refine wpAny_execs_nil ⟨rfl, ?_⟩
  exact h _ _ tk s₂ hnS hnD H₂.tail
end
end
section
open PySem PySem.W PySem.W.X PyProof.Rows PySem.Calls
open Builtin Builtin.Str Builtin.BaseException Builtin.Exceptions
theorem bs_kind : builtinKind "BaseException.__str__" = some .slot := by decide +kernel
theorem bs_split : splitId "BaseException.__str__" = some ("BaseException", "__str__") := by decide +kernel
section
variable {w : World} {b : Shared} {X : List Addr} {l l' : List (Addr × Cell)} {lg lg' : List (Nat × GenState)} {s : Shared} {A : Around} {Q E : Value → Shared → Prop} {env : Env} {L a c e t0 : Addr} {m : Str} {tk : Tok}
theorem my_bexcArgs {M : Model} {o : Obj} {vs : Array Value} {items : List Value} {Q : Value × List Value → Shared → Prop} (ho : s.heap.get? e = some o) (hd : o.data = .fields vs) (h0 : vs[0]? = some (.ref t0)) (ht : s.heap.TupAt t0 items) (hq : Q (.ref t0, items) s) :
    wpAny M A (bexcArgs (.ref e)) Q E s := by
  obtain ⟨ot, k, hto, _, htd⟩ := ht
  unfold bexcArgs
  refine wpAny_bind (wpAny_field ho hd h0 (wpAny_bind (wpAny_seqItems hto htd ?_)))
  have : items.toArray.toList = items := by simp
  show wpAny M A (pure (Value.ref t0, items.toArray.toList)) Q E s
  rw [this]; exact wpAny_pure hq
theorem strOf_stat {prog : Program} {w' : World} {o : Obj} {vs : Array Value} (hu : A.units < cLine) (X0 : (KK w).In s.heap) (ho : s.heap.get? e = some o) (hc : o.cls = .ref 52) (hd : o.data = .fields vs) (h0 : vs[0]? = some (.ref t0)) (ht : s.heap.TupAt t0 [.str m tk]) (hq : Q (.str m tk) s) :
    wpAny (model prog w') A (Builtin.Str.strOf (.ref e)) Q E s := by
  have LT : Looks (model prog w') s.heap (typeOf (.ref e)) (.ref 52) := by
    intro A' Q' E' s' hk' q
    exact wpAny_typeOf_ref (hk' _ _ ho) (by rw [hc]; exact q)
  have hs : findIn (KK w) (.ref 52) "__str__" = some (some (.builtin "BaseException.__str__")) := by kernel_rfl
  have LI : Looks (model prog w') s.heap (isInstance (.ref e) (.type "BaseException")) true := LT.andThen (looks_mroIn X0 (by kernel_rfl))
  unfold Builtin.Str.strOf
  rw [if_neg (by intro q; cases q)]
  refine wpAny_bind (wpAny_cRoomFor hu ?_)
  unfold callSpecial? specialOf
  refine wpAny_bind (wpAny_bind (wpAny_bind (LT.here ((looks_findIn X0 hs).here (wpAny_holding ?_)))))
  rw [F.excStr_ValueError.str.bind]
  refine wpAny_bind (wpAny_pure (wpAny_bind ?_))
  refine wpAny_call (codeAny_call_builtin F.excStr_ValueError.str.plain F.entry_bexc_str (@check_slot (model prog w') _ _ s "BaseException.__str__" "BaseException" "__str__" (.ref e) [] [] _ bs_kind bs_split LI (F.args_bexc_str (.ref e)) ?_))
  unfold Builtin.«BaseException.__str__»
  repeat (first | with_reducible refine my_bexcArgs ho hd h0 ht ?_ | wp_step)
  exact hq
theorem r_strStat {f k : Bool} (G : Glob w b X) (H : W b X l lg s) (he : (e, .exc (newIn b) f k (.ref 52) (.ref t0)) ∈ l) (ht : (t0, .seq "tuple" [.str m tk]) ∈ l) (hu : A.units + 2 < cLine) (h : Q (.str m tk) s) :
    wpAny (model prg w) A (call (.type "str") [.ref e]) Q E s := by
  obtain ⟨o, vs, tv, ho, hc, hd, hz, h0, _⟩ := H.cells _ he
  obtain ⟨n, hto⟩ := (H.cells _ ht : ∃ n, s.heap.get? t0 = some (seqObj "tuple" [.str m tk].toArray n))
  exact callType_new F.called_str (by decide) (F.typeCall_str_1 _) (F.newCall_str_1 _) (fun obj => F.args_object_init_2 obj _) F.entry_str_new
    (meets_str_new (S := fun A' R s' => A'.units + 1 < cLine ∧ (KK w).In s'.heap ∧ s'.heap.get? e = some o ∧ s'.heap.TupAt t0 [.str m tk] ∧ R (.ok (.ret (.str m tk))) s')
      fun prog w' A' _ _ hq => strOf_stat (A := A'.in1) hq.1 hq.2.1 hq.2.2.1 hc hd h0 hq.2.2.2.1 hq.2.2.2.2)
    ⟨(show A.units + 1 + 1 < cLine from hu), G.in_ H, ho, ⟨_, _, hto, rfl, rfl⟩, typeIs_str _ _ _, h⟩
theorem r_strVal {f k : Bool} (H : W b X l lg s) (he : (e, .exc (newIn b) f k (.type "ValueError") (.ref t0)) ∈ l) (ht : (t0, .seq "tuple" [.str m tk]) ∈ l) (hu : A.units + 2 < cLine) (h : Q (.str m tk) s) :
    wpAny (model prg w) A (call (.type "str") [.ref e]) Q E s := by
  obtain ⟨o, vs, tv, ho, hc, hd, hz, h0, _⟩ := H.cells _ he
  obtain ⟨n, hto⟩ := (H.cells _ ht : ∃ n, s.heap.get? t0 = some (seqObj "tuple" [.str m tk].toArray n))
  exact P.str_of_exc_one F.excStr_ValueError hu ⟨o, vs, ho, hc, hd, h0⟩ ⟨_, _, hto, rfl, rfl⟩ h
end
end
section
open PySem PySem.W PySem.W.X PyProof.Rows PySem.Calls
/-- l with v (or nothing) for the name x -/
inductive Put2o : List Str → List (Option Value) → Str → Option Value → List (Option Value) → Prop
  | zero {x : Str} {u v : Option Value} {ns : List Str} {vs : List (Option Value)} : Put2o (x :: ns) (u :: vs) x v (v :: vs)
  | succ {y x : Str} {u v : Option Value} {ns : List Str} {vs vs' : List (Option Value)} : Put2o ns vs x v vs' → Put2o (y :: ns) (u :: vs) x v (u :: vs')
theorem Put2o.mem {ns : List Str} {vs vs' : List (Option Value)} {x : Str} {v : Option Value} (h : Put2o ns vs x v vs') : x ∈ ns := by
  induction h with
  | zero => exact .head _
  | succ _ ih => exact .tail _ ih
theorem Put2o.look {ns : List Str} {vs vs' : List (Option Value)} {x : Str} {v : Option Value} (h : Put2o ns vs x v vs') (nd : ns.Nodup) : look ns vs' = fun y => if y = x then v else look ns vs y := by
  induction h with
  | @zero x u v ns vs =>
    funext y
    show (if y = x then v else Mine.look ns vs y) = if y = x then v else (if y = x then u else Mine.look ns vs y)
    by_cases e : y = x
    · rw [if_pos e, if_pos e]
    · rw [if_neg e, if_neg e, if_neg e]
  | @succ y x u v ns vs vs' q ih =>
    have nd' := List.nodup_cons.mp nd
    have nyx : ¬ x = y := fun e => nd'.1 (e ▸ q.mem)
    funext z
    show (if z = y then u else Mine.look ns vs' z) = if z = x then v else (if z = y then u else Mine.look ns vs z)
    rw [ih nd'.2]
    dsimp only
    by_cases e1 : z = y
    · have : ¬ z = x := fun e => nyx (e.symm.trans e1)
      rw [if_pos e1, if_neg this, if_pos e1]
    · rw [if_neg e1]
      by_cases e2 : z = x
      · rw [if_pos e2, if_pos e2]
      · rw [if_neg e2, if_neg e2, if_neg e1]
section
variable {w : World} {b : Shared} {X : List Addr} {l l' : List (Addr × Cell)} {lg lg' : List (Nat × GenState)} {s : Shared} {A : Around} {Q E : Value → Shared → Prop} {env : Env} {L a c : Addr} {nm gl : List Str} {vs : List Value} {ns : List Int} {pos : Pos} {n : Str} {t u : Tok}
/-- the name of an except clause goes -/
theorem r_nameGoes {fv : List (Option Value)} {Q : Unit → Shared → Prop} (EV : EnvOk env L nm gl) (H : W b X l lg s) (hi : (L, .ns nm fv) ∈ l) (h : ∀ s' v, ∃ fv' l', Put2o nm fv n v fv' ∧ Put l (L, .ns nm fv) (L, .ns nm fv') l' ∧ (W b X l' lg s' → Q () s')) :
    wpAny (model prg w) A (do bindName env n .none; unbindBehindTheSuite env n pos) Q E s := by
  have hn : s.heap.Ns env.locals (look nm fv) := by rw [EV.locals]; exact H.cells _ hi
  obtain ⟨fv0, l0, p0, _⟩ := h s none
  refine wpAny_nameGoes_keeps (EV.loc n p0.mem) hn (by rw [EV.kind]; rfl) fun h' v hns hs => ?_
  obtain ⟨fv', l', p1, p2, k⟩ := h { s with heap := h', toks := s.toks + 1 } v
  refine k (H.put (t' := s.toks + 1) p2 (EV.locals ▸ hs) ?_ trivial)
  show h'.Ns L (look nm fv')
  rw [p1.look EV.nd, ← EV.locals]
  exact hns
theorem r_pow6 (H : W b X l lg s) (h : ∀ t s', W b X l lg s' → Q (.int 1000000 t) s') : wpAny (model prg w) A (binaryOp .Pow (.int 10 t) (.int 6 u)) Q E s :=
  PySem.AutoIntOps.pow_4 (by decide) (by decide) (by decide) (by decide) (by decide +kernel) (h _ _ (H.tok _))
theorem r_addL {ws : List Value} (H : W b X l lg s) (h1 : (a, .seq "list" vs) ∈ l) (h2 : (c, .seq "list" ws) ∈ l) (hz : vs.length + ws.length ≤ 1000) (h : ∀ T s', newIn b T → W b X ((T, .seq "list" (vs ++ ws)) :: l) lg s' → Q (.ref T) s') : wpAny (model prg w) A (binaryOp .Add (.ref a) (.ref c)) Q E s := by
  obtain ⟨n1, o1⟩ := (H.cells _ h1 : ∃ n, s.heap.get? a = some (seqObj "list" vs.toArray n))
  obtain ⟨n2, o2⟩ := (H.cells _ h2 : ∃ n, s.heap.get? c = some (seqObj "list" ws.toArray n))
  refine P.add_list (n := n1) (n2 := n2) o1 o2 ?_ (by rw [sizeLine_eq]; simp; omega)
  refine h _ _ H.fresh (H.push (o := { cls := .type "list", data := .seq (vs.toArray ++ ws.toArray) }) (t' := s.toks) rfl (fun h' q => ⟨0, ?_⟩) (by show "list" ≠ _; decide))
  rw [q]; simp
theorem r_bytes (H : W b X l lg s) (hm : (a, .seq "list" vs) ∈ l) (hI : IntsAre vs ns) (hr : ∀ n ∈ ns, 0 ≤ n ∧ n < 256) (hz : vs.length ≤ 1000) (hh : A.handled = none) (h : ∀ y t s', KBw.bInts y = ns → W b X l lg s' → Q (.bytes y t) s') : wpAny (model prg w) A (call (.type "bytes") [.ref a]) Q E s := by
  refine wp_pos H.pos (call_bytes_ints (H.seqL hm) hI hr (by rw [sizeLine_eq]; omega) hh fun h' t' k hk hps => ?_)
  exact h _ _ _ (KBa.ints_make hr) (H.grow (t' := k) hk fun _ => hps)
/-- x[:n] of a list of ints -/
theorem r_upto {value c : Expr} {pp : Pos} {items : Array Value} {k : Nat}
    (h : wpAny (model prg w) A (eval c env) (fun u1 s₂ => ∃ m mg tk, W b X m mg s₂ ∧ u1 = .int (k : Int) tk ∧ s₂.heap.IsList a items ∧ items.size ≤ 1000 ∧
      ∀ T s', newIn b T → W b X ((T, .seq "list" (items.toList.take k)) :: m) mg s' → Q (.ref T) s') E s)
    (ht : ∀ r, letTemporaryGo value (.ref a) r = pure () := by intro _; with_unfolding_all rfl) :
    wpAny (model prg w) A (eval (.Slice none (some c) none pp) env) (fun i s₂ => wpAny (model prg w) A (subscriptTail value (.Slice none (some c) none pp) (.ref a) i) Q E s₂) E s := by
  refine wpAny_Slice (wpAny_pure ?_)
  show wpAny _ _ (eval c env) _ _ _
  refine wpAny_mono h (fun u1 s₂ h₂ => ?_) fun _ _ x => x
  obtain ⟨m, mg, tk, H, rfl, hl, hz, hQ⟩ := h₂
  refine wpAny_pure ?_
  refine subscriptTail_ops (Heap.IsList.typeIs (s := { s₂ with heap := s₂.heap.push { cls := .type "slice", data := .fields #[.none, .int (k : Int) tk, .none] } }) (hl.push _)) list_getitem_lookup
    (wpAny_getItem_list_slice (hl.push _) (Heap.IsSliceOf.new ..) .none (.int _ _) .none (by simp) ?_ (by rw [sizeLine_eq]; omega)) (by with_unfolding_all rfl) ht
  rw [slicePick_upto']
  have H1 := H.grow (h' := s₂.heap.push { cls := .type "slice", data := .fields #[.none, .int (k : Int) tk, .none] }) (t' := s₂.toks) (fun _ _ e => Heap.get?_push_of_some _ e)
  exact hQ _ _ H1.fresh (H1.push (o := { cls := .type "list", data := .seq (items.toList.take k).toArray }) (t' := s₂.toks) rfl (fun h' q => ⟨0, q⟩) (by show "list" ≠ _; decide))
end
section
variable {w : World} {b : Shared} {X : List Addr} {l l' : List (Addr × Cell)} {lg lg' : List (Nat × GenState)} {s : Shared} {A : Around} {E : Value → Shared → Prop} {env : Env} {scope : Scope} {cl : List (Str × Addr)} {C L c : Addr} {x y : Str} {v : Value} {pos : Pos} {nm gl : List Str}
/-- y = [elt for x in ..], the name being stored within the comprehension -/
theorem r_compLA {elt iter : Expr} {px py spos : Pos} {Q : Flow → Shared → Prop} (EV : EnvOk env L nm gl) (hh : A.handled = none) (hsw : swapsWith (.ListComp elt [⟨.Name x px, iter, [], 0⟩] scope pos) (some (.Name y py)) spos.line env = pure true) (hclos : closureFor scope env = pure cl) (hcell : ∀ y ∈ scope.names, y.2 ≠ .cell) (hkind : scope.kind = .function)
    (hnames : ∀ y ∈ scope.names, y.2 = .local → scope.names.lookup y.1 = some .local) (hx : scope.names.lookup x = some .local) (hy : y ∈ nm)
    (h : wpAny (model prg w) A (eval iter env) (fun xv s₁ => ∃ (R : Addr) (rv : List Value) (m0 : List (Addr × Cell)) (fv : List (Option Value)) (fv' : Addr → List (Option Value)) (m1 : Addr → List (Addr × Cell)), xv = .ref R ∧ W b X m0 lg s₁ ∧ (R, .seq "list" rv) ∈ m0 ∧ rv.length ≤ 1000 ∧ (L, .ns nm fv) ∈ m0 ∧ (∀ D, Put2 nm fv y (.ref D) (fv' D)) ∧ (∀ D, Put m0 (L, .ns nm fv) (L, .ns nm (fv' D)) (m1 D)) ∧
      ∃ P : Nat → Value → Prop, (∀ C i v l2 s₃, i < rv.length → rv[i]? = some v → (∀ p ∈ m0, p ∈ l2) → W b X ((C, .ns [x] [some v]) :: l2) lg s₃ → wpAny (model prg w) A (eval elt (compEnvC scope cl C env)) (fun y s₄ => P i y ∧ W b X ((C, .ns [x] [some v]) :: l2) lg s₄) (fun _ _ => False) s₃) ∧
        ∀ D ys s', ys.length = rv.length → (∀ j y, ys[j]? = some y → P j y) → newIn b D → W b X ((D, .seq "list" ys) :: m1 D) lg s' → Q .next s') E s)
    (hs : ∀ x, foldedSetIterable iter env x = pure x := by intro _; rfl) :
    wpAny (model prg w) A (exec (.Assign [.Name y py] (.ListComp elt [⟨.Name x px, iter, [], 0⟩] scope pos) spos) env) Q E s := by
  rw [exec_Assign_Name_used _ _ _ _ hsw]
  refine wpAny_bind (wpAny_standAt (wpAny_bind ?_))
  show wpAny _ A (do let _ ← comprehension (.ListComp elt [⟨.Name x px, iter, [], 0⟩] scope pos) scope env _ (newList []) false (eval iter env) (some (assign (.Name y py) env))) _ _ s
  refine wpAny_bind (wpAny_mono (wpAny_comprehension_free (use := some (assign (.Name y py) env)) (Q := fun _ s' => Q .next s') rfl hs hclos hkind hnames
    (wpAny_mono h (fun xv s₁ h₁ => ?_) fun _ _ e => e)) (fun _ s' hq => wpAny_pure (wpAny_pure hq)) fun _ _ e => e)
  obtain ⟨R, rv, m0, fv, fv', m1, rfl, H, hm, hz, hL, hp2, hp, P, step, fin⟩ := h₁
  refine wpAny_pyIter_list (H.seqL hm) ?_
  have H1 := H.push (o := { cls := .type "list_iterator", data := .fields #[.ref R, .int 0 0] }) (c := .obj { cls := .type "list_iterator", data := .fields #[.ref R, .int 0 0] }) (t' := s₁.toks) rfl (fun h' q => q) (by intro e; injection e with e; exact absurd e (by decide))
  refine comp_stay (RR := fun acc C => compPost (model prg w) A E (some (assign (.Name y py) env)) (fun _ s' => Q .next s') acc C) (it_list hh H.fresh H.sizeX) hz hcell hkind ⟨_, rfl, rfl, rfl⟩ H1 (fun p hp => by rw [List.mem_singleton.mp hp]; exact hm) hx step ?_
  intro D C ys u s' hl hP hnD hnC hCX H'
  show wpAny _ A (assign (.Name y py) env (.ref D)) _ _ _
  have hn : s'.heap.Ns env.locals (look nm fv) := by rw [EV.locals]; exact H'.cells _ (.tail _ (.tail _ hL))
  refine wpAny_assign_Name (wpAny_storeName_local (EV.loc y hy) hn (fun h₂ hn₂ hs₂ => ?_) (by rw [EV.kind]; rfl))
  have H2 := H'.put (t' := s'.toks + 1) (.succ (.succ (hp D))) (EV.locals ▸ hs₂) (by
    show h₂.Ns L (look nm (fv' D))
    rw [(hp2 D).look EV.nd, ← EV.locals]; exact hn₂) trivial
  exact ⟨_, H2.cells (C, .ns [x] [u]) (.head _), fun h₃ hs₃ => fin D ys _ hl hP hnD (H2.lose (t' := s'.toks + 1) hnC hCX hs₃.extBut)⟩
end
end
section
open PySem PySem.W PySem.W.X PyProof.Rows PySem.Calls
noncomputable abbrev nmS : List Str := ["stream", "read"]
theorem fn_stream (w : World) : FnOk w 142 nmS ["_Example"] := ⟨by kernel_rfl, by kernel_rfl, by kernel_rfl, by kernel_rfl, by kernel_rfl, by kernel_rfl, by kernel_rfl, by kernel_rfl⟩
theorem bd_stream (w : World) (v1 v2 : Value) : ∀ S, peek (KK w) S (bindArgs (fdOf w 142) ⟨[v1, v2], []⟩) = some [(Str.ofString "octets", v1), (Str.ofString "place", v2)] := fun S => by kernel_rfl
theorem cl_stream (w : World) : ∀ n, cellsFrom n (fdOf w 142).scope.names [] = [(Str.ofString "place", n + 1), (Str.ofString "octets", n)] := fun n => by kernel_rfl
theorem kd_stream (w : World) : (fdOf w 142).scope.names.lookup (Str.ofString "octets") = some .cell ∧ (fdOf w 142).scope.names.lookup (Str.ofString "place") = some .cell := ⟨by kernel_rfl, by kernel_rfl⟩
theorem bl_stream (w : World) (v1 v2 : Value) : bindL (fun x => (fdOf w 142).scope.names.lookup x) [(Str.ofString "octets", v1), (Str.ofString "place", v2)] (fun _ => none) = look nmS [none, none] := by
  obtain ⟨h1, h2⟩ := kd_stream w
  have n1 : ¬ (fdOf w 142).scope.names.lookup (Str.ofString "octets") = some .local := by rw [h1]; decide
  have n2 : ¬ (fdOf w 142).scope.names.lookup (Str.ofString "place") = some .local := by rw [h2]; decide
  unfold bindL bindL bindL
  rw [if_neg n2, if_neg n1]
  funext y
  exact (look_none nmS y).symm
noncomputable def rdPos (w : World) : Pos := match rdStmt w with | .FunctionDef _ _ _ _ _ _ _ _ _ p => p | _ => ⟨0, 0, 0, 0⟩
noncomputable def qnR (w : World) : Str := (fdOf w 142).qualname ++ ".<locals>." ++ "read"
structure Tb2 (w : World) (b : Shared) (X : List Addr) : Prop where
  bm : Bm b X
  code : ∃ c, (fdOf w 142).code = .ref c ∧ CodeHd b.heap c 137 ∧ c ∉ X
  x137 : 137 ∈ X
/-- the ledger's part that the stream is -/
noncomputable def StrL (w : World) (S D R Co Cp c' P : Addr) (y : Array UInt8) (ty tk1 tk2 : Tok) (ct pm : Value) (oc : Obj) (l : List (Addr × Cell)) : List (Addr × Cell) :=
  (S, .obj (instObj 124 D)) :: (D, .obj (dictOf [entV w tk1 (.bytes y ty), entR w tk2 (.ref R)] 2)) :: (R, .obj { cls := .type "function", data := .func (rdFd w (qnR w) [(Str.ofString "place", Cp), (Str.ofString "octets", Co)] ct (.ref c') pm) }) :: (c', .obj oc) ::
    (137, .obj (tabObj #[rawInt (rdPos w).line, rawInt (rdPos w).col, .ref c'])) :: (Cp, .cel (some (.ref P))) :: (Co, .cel (some (.bytes y ty))) :: l
theorem rd_clos {w : World} {env : Env} {Co Cp : Addr} (hc : env.cells = [(Str.ofString "place", Cp), (Str.ofString "octets", Co)]) : closureFor (rdS w) env = pure [(Str.ofString "place", Cp), (Str.ofString "octets", Co)] := by
  obtain ⟨e1, e2, e3, e4, e5, e6, e7, e8, e9⟩ := env
  have hc : e4 = [(Str.ofString "place", Cp), (Str.ofString "octets", Co)] := hc
  subst hc
  kernel_rfl
section
variable {w : World} {b : Shared} {X : List Addr} {l : List (Addr × Cell)} {lg lg' : List (Nat × GenState)} {s : Shared} {A : Around} {Q E : Value → Shared → Prop} {P : Addr} {y : Array UInt8} {ty : Tok}
set_option maxRecDepth 10000 in
set_option maxHeartbeats 4000000 in
theorem ok_stream (G : Glob w b X) (TB : Tb2 w b X) (H : W b X ((137, .obj (tabObj #[])) :: l) lg s) (hA : A.depth + 10 < recursionLimit)
    (h : ∀ S D R Co Cp c' tk1 tk2 ct pm oc vs tq s', oc.data = .fields vs → vs[1]? = some (.str (qnR w) tq) → W b X (StrL w S D R Co Cp c' P y ty tk1 tk2 ct pm oc l) lg s' → Q (.ref S) s') :
    wpAny (model prg w) A (call (.ref 142) [.bytes y ty, .ref P]) Q E s := by
  obtain ⟨ko, kp⟩ := kd_stream w
  refine call_cells (vs := [none, none]) G H (fn_stream w) (by kernel_rfl) (cl_stream w) (bd_stream w _ _) ?_ (bl_stream w _ _) (by ktn_no "om") ?_
  · intro x hx
    rcases List.mem_cons.mp hx with rfl | hx
    · exact .inr ⟨ko, fun n => by kernel_rfl⟩
    · rcases List.mem_cons.mp hx with rfl | hx
      · exact .inr ⟨kp, fun n => by kernel_rfl⟩
      · cases hx
  intro L env s₁ EV hsc hcode hqual hcells hnL H₁ hcel
  have n1 : ¬ (fdOf w 142).scope.names.lookup (Str.ofString "octets") = some .local := by rw [ko]; decide
  have n2 : ¬ (fdOf w 142).scope.names.lookup (Str.ofString "place") = some .local := by rw [kp]; decide
  obtain ⟨hc1, hcn1, hcl1⟩ := hcel (Str.ofString "octets") (L + 1) (by kernel_rfl)
  obtain ⟨hc2, hcn2, hcl2⟩ := hcel (Str.ofString "place") (L + 1 + 1) (by kernel_rfl)
  have hc1' : s₁.heap.IsCell (L + 1) (some (.bytes y ty)) := by
    have e : bindC (fun x => (fdOf w 142).scope.names.lookup x) [(Str.ofString "octets", Value.bytes y ty), (Str.ofString "place", .ref P)] (fun _ => none) (Str.ofString "octets") = some (.bytes y ty) := by
      unfold bindC bindC bindC
      rw [if_neg n2, if_neg n1]
      rw [if_neg (by decide), if_pos rfl]
    rw [← e]; exact hc1
  have hc2' : s₁.heap.IsCell (L + 1 + 1) (some (.ref P)) := by
    have e : bindC (fun x => (fdOf w 142).scope.names.lookup x) [(Str.ofString "octets", Value.bytes y ty), (Str.ofString "place", .ref P)] (fun _ => none) (Str.ofString "place") = some (.ref P) := by
      unfold bindC bindC bindC
      rw [if_neg n2, if_neg n1]
      rw [if_pos rfl]
    rw [← e]; exact hc2
  have H₂ := H₁.cons (c := .cel (some (.bytes y ty))) hc1' trivial hcn1 hcl1
  have H₃ := H₂.cons (c := .cel (some (.ref P))) hc2' trivial hcn2 fun p hp => by
    rcases List.mem_cons.mp hp with rfl | hp
    · exact Nat.ne_of_lt (Nat.lt_succ_self _)
    · exact hcl2 p hp
  have hko : env.kindOf (Str.ofString "octets") = some .cell := by unfold Env.kindOf; rw [hsc]; exact ko
  have hco : env.cells.lookup (Str.ofString "octets") = some (L + 1) := by rw [hcells]; kernel_rfl
  refine wpAny_execs_cons ?_
  ktn_no "go"
  refine callWith_K (K := KK w) (G.in_ H₃) (by kernel_rfl) ?_
  ktn_no "go"
  refine ⟨G.in_ H₃, ?_⟩
  refine ok_new G H₃ (by show A.depth + 1 + 3 < _; ktn_no "om") ?_
  intro S D tk1 s₅ hnS hnD H₅
  ktn_no "go"
  refine nestDef_K rfl rfl rfl ?_
  have hq : qualnameIn env (Str.ofString "read") (Str.ofString "read") = qnR w := by
    unfold qualnameIn
    rw [if_neg (by unfold Env.kindOf; rw [hsc, show (fdOf w 142).scope.names.lookup (Str.ofString "read") = some .local from by kernel_rfl]; decide), hqual]
    rfl
  rw [hq]
  obtain ⟨c, hcc, hCH, hcX⟩ := TB.code
  rename_i H₆
  refine mk_fn (ps := #[]) (l := (S, _) :: (D, _) :: (L + 1 + 1, _) :: (L + 1, _) :: (L, _) :: l) G TB.bm TB.x137 (W.unmid (m := [_, _, _, _, _]) H₆) (rd_clos (w := w) hcells) EV.globals (hcode.trans hcc) hCH hcX trivial (by rfl) ?_
  intro R c' oc vs tq ct doc pm s₇ hdoc r1 r2 r3 hnR hnc H₇
  have hdn : doc = .none := hdoc (by kernel_rfl)
  subst hdn
  ktn_no "go"
  refine plainObj_wpAny_Assign_Attribute ?_
  ktn_no "go"
  rename_i H₈
  refine r_setAttr (S := S) (D := D) (od := dictOf [entV w tk1 (.bytes y ty)] 1) (od' := fun tk => dictOf [entV w tk1 (.bytes y ty), entR w tk (.ref R)] 2) G H₈ (by ktn_no "mem") (by ktn_no "mem") (by kernel_rfl) (by kernel_rfl) (fun tk => put_read w _ _ tk tk1) (fun tk => ⟨_, _, rfl, by simp⟩) (fun tk => by ktn_no "put") ?_
  intro tk2 s₉ H₉
  ktn_no "go"
  refine h S D R (L + 1) (L + 1 + 1) c' tk1 tk2 ct pm oc vs tq s₉ r2 r3 ?_
  exact (W.unmid (m := [_, _, _, _, _, _, _]) H₉).tail.perm (List.perm_append_comm_assoc [_, _] [_, _, _] (_ :: _ :: l))
end
end
section
open PySem PySem.W PySem.W.X PyProof.Rows PySem.Calls
noncomputable abbrev nmW : List Str := ["script", "drawn", "own", "octets", "begun", "place", "stream", "first", "turn", "going", "kind", "due", "answer", "told", "error"]
noncomputable abbrev glW : List Str := ["bytes", "sum", "_law_stream", "_law_due", "_law_deed", "StatisticsError", "str", "ValueError", "_law_floats"]
theorem fn_law (w : World) : FnOk w 197 nmW glW := ⟨by kernel_rfl, by kernel_rfl, by kernel_rfl, by kernel_rfl, by kernel_rfl, by kernel_rfl, by kernel_rfl, by kernel_rfl⟩
noncomputable def lawBody (w : World) : List Stmt := match (bodyOf w 197).getD 9 (.Pass ⟨0, 0, 0, 0⟩) with | .While _ b _ _ => b | _ => []
noncomputable def goOn : Out → Bool | .fin _ => false | _ => true
section
variable {w : World} {b : Shared} {X : List Addr} {l : List (Addr × Cell)} {lg lg' : List (Nat × GenState)} {s : Shared} {A : Around} {E : Value → Shared → Prop} {env : Env} {Tt D P L : Addr} {x y x' y' : Value} {out : Out} {q turn : Nat} {t td tp tt : Tok} {m2 : List (Addr × Cell)}
set_option maxRecDepth 10000 in
set_option maxHeartbeats 4000000 in
theorem law_rest {f0 f1 f2 f3 f4 f5 f6 f7 f9 f10 f12 f14 : Option Value} {Q : Flow → Shared → Prop} (G : Glob w b X) (EV : EnvOk env L nmW glW) (hA : A.depth + 5 < recursionLimit) (hh : A.handled = none) (hu : A.units + 100 < cLine)
    (H : W b X ((Tt, .seq "list" [x', y', .int (q : Int) t]) :: (D, .seq "list" [x, y, .int (q : Int) td]) :: (P, .lst [.int (q : Int) tp]) :: (L, .ns nmW [f0, f1, f2, f3, f4, f5, f6, f7, some (.int (turn : Int) tt), f9, f10, some (.ref D), f12, some (.ref Tt), f14]) :: m2) lg s)
    (o1 : OutAt m2 out x' y') (o2 : OutAt m2 out x y) (hok : out.Ok) (hn : Num.nmaxO out ≤ 100)
    (h : ∀ s' tq tt', W b X ((P, .lst [.int (q : Int) tp]) :: (L, .ns nmW [f0, f1, f2, f3, f4, f5, f6, some (.int (q : Int) tq), some (.int ((turn + 1 : Nat) : Int) tt'), some (.bool (goOn out)), f10, some (.ref D), f12, some (.ref Tt), f14]) :: m2) lg s' → Q .next s') :
    wpAny (model prg w) A (execs ((lawBody w).drop 3) env) Q E s := by
  have sub2 : ∀ {c1 c2 c3 c4 : Addr × Cell}, ∀ p ∈ m2, p ∈ c1 :: c2 :: c3 :: c4 :: m2 := fun p hp => .tail _ (.tail _ (.tail _ (.tail _ hp)))
  refine wpAny_execs_cons ?_
  ktn_no "go"
  refine ne_outs (o := out) G H (.head _) (.tail _ (.head _)) (o1.mono sub2) (o2.mono sub2) hok (by ktn_no "om") ?_
  ktn_no "go"
  refine ite_n (by decide) ?_
  ktn_no "go"
  refine r_callF (fd := fdOf w 192) G (fn_floats w).at_ ?_
  ktn_no "go"
  refine r_item (v := y') (W.seqL (by assumption) (by ktn_no "mem")) (by decide) (by decide) rfl ?_
  ktn_no "go"
  refine ⟨⟨_, _, by assumption⟩, ?_⟩
  refine ok_floats (o := out) G (by assumption) (o1.mono sub2) hn (by ktn_no "om") hh ?_
  intro F1 s₃ hnF1 H₃
  ktn_no "go"
  refine r_callF (fd := fdOf w 192) G (fn_floats w).at_ ?_
  ktn_no "go"
  refine r_item (v := y) (W.seqL (by assumption) (by ktn_no "mem")) (by decide) (by decide) rfl ?_
  ktn_no "go"
  refine ⟨⟨_, _, by assumption⟩, ?_⟩
  refine ok_floats (o := out) G (by assumption) (o2.mono fun p hp => .tail _ (sub2 p hp)) hn (by ktn_no "om") hh ?_
  intro F2 s₄ hnF2 H₄
  ktn_no "go"
  refine ne_bools H₄ (.tail _ (.head _)) (.head _) (by ktn_no "om") ?_
  ktn_no "go"
  refine ite_n (by decide) ?_
  ktn_no "go"
  refine ite_n (by decide) ?_
  ktn_no "go"
  refine r_item (v := .int (q : Int) td) (W.seqL (by assumption) (by ktn_no "mem")) (by decide) (by decide) rfl ?_
  ktn_no "go"
  refine r_item (v := x) (W.seqL (by assumption) (by ktn_no "mem")) (by decide) (by decide) rfl ?_
  ktn_no "go"
  have htag : ∃ tg tx, x = .str tg tx ∧ (tg != (Str.ofString "end")) = goOn out := by
    cases out with
    | told an => obtain ⟨⟨tx, rfl⟩, _⟩ := o2; exact ⟨_, tx, rfl, by show _ = true; decide⟩
    | refused m => obtain ⟨⟨tx, rfl⟩, _⟩ := o2; exact ⟨_, tx, rfl, by show _ = true; decide⟩
    | fin m => obtain ⟨⟨tx, rfl⟩, _⟩ := o2; exact ⟨_, tx, rfl, by show _ = false; decide⟩
  refine ea2_2 htag fun tg tx e_1 htg => ?_
  try clear htag
  subst e_1
  ktn_no "go"
  have e : (turn : Int) + 1 = ((turn + 1 : Nat) : Int) := by push_cast; rfl
  rename_i H₅
  rw [e, htg] at H₅
  exact h _ _ _ H₅.tail.tail.tail.tail
end
end
section
open PySem PySem.W PySem.W.X PyProof.Rows PySem.Calls
section
variable {w : World} {b : Shared} {X : List Addr} {l : List (Addr × Cell)} {lg lg' : List (Nat × GenState)} {s : Shared} {A : Around} {E : Value → Shared → Prop} {env : Env} {P L S : Addr} {o : List Int} {y : Array UInt8} {p turn B : Nat} {ty tb tf tt tp : Tok} {T : List (Addr × Cell)} {fr : List Env}
theorem W.subl {l' : List (Addr × Cell)} (H : W b X l lg s) (hs : l'.Sublist l) : W b X l' lg s := H.sub (fun p hp => hs.subset hp) ((hs.map _).nodup H.nd)
theorem perm_deed {α : Type} (D P L : α) (lx T : List α) : (P :: (T ++ (D :: L :: lx))).Perm (D :: P :: L :: (lx ++ T)) :=
  ((List.perm_append_comm (l₁ := T) (l₂ := D :: L :: lx)).cons P).trans (.swap ..)
theorem perm_in2' {α : Type} (a c : α) (m l : List α) : (a :: c :: (m ++ l)).Perm (m ++ a :: c :: l) :=
  ((List.perm_middle.symm.cons a).trans List.perm_middle.symm)
set_option maxRecDepth 10000 in
set_option maxHeartbeats 8000000 in
theorem law_turn {f0 f1 f2 f9 f10 f11 f12 f13 f14 : Option Value} {Q : Flow → Shared → Prop} (G : Glob w b X) (TB : Tb w b X) (ST : Strm w b X o P S y) (EV : EnvOk env L nmW glW) (hA : A.depth + 45 < recursionLimit) (hh : A.handled = none) (hu : A.units + 200 < cLine) (hfr : A.frames = some fr) (hF : ∀ fv m, FrOk ((L, .ns nmW fv) :: m) fr) (hfe : env ∈ fr)
    (hlen : o.length < 64) (hp : p ≤ o.length) (hturn : turn < 1000) (hT : TabL w T)
    (H : W b X ((P, .lst [.int (p : Int) tp]) :: (L, .ns nmW [f0, f1, f2, some (.bytes y ty), some (.int (B : Int) tb), some (.ref P), some (.ref S), some (.int (p : Int) tf), some (.int (turn : Int) tt), f9, f10, f11, f12, f13, f14]) :: T) lg s)
    (h : ∀ s' T' tp' tq tt' g10 g11 g12 g13 g14, TabL w T' → W b X ((P, .lst [.int ((dueOf o p turn ((B + turn) % 7)).2 : Int) tp']) :: (L, .ns nmW [f0, f1, f2, some (.bytes y ty), some (.int (B : Int) tb), some (.ref P), some (.ref S), some (.int ((dueOf o p turn ((B + turn) % 7)).2 : Int) tq), some (.int ((turn + 1 : Nat) : Int) tt'), some (.bool (goOn (dueOf o p turn ((B + turn) % 7)).1)), g10, g11, g12, g13, g14]) :: T') lg s' → Q .next s') :
    wpAny (model prg w) A (execs (lawBody w) env) Q E s := by
  have hk7 : (B + turn) % 7 < 7 := Nat.mod_lt _ (by decide)
  have hki : ((B : Int) + (turn : Int)) % 7 = (((B + turn) % 7 : Nat) : Int) := by push_cast; rfl
  have hrng := ST.rng
  have dk := due_ok (turn := turn) (kind := (B + turn) % 7) hrng hlen hp
  have hdd := due_deed (o := o) (by ktn_no "om") (p := p) (turn := turn) hk7
  generalize hkd : (B + turn) % 7 = kind at *
  generalize hq : (dueOf o p turn kind).2 = q at *
  refine wpAny_execs_cons ?_
  ktn_no "go"
  rename_i H₁
  rw [hki] at H₁
  refine r_callF (fd := fdOf w 187) G (fn_due w).at_ ?_
  ktn_no "go"
  refine ⟨⟨_, _, H₁⟩, ?_⟩
  refine ok_due G H₁ ST.bi hrng hlen hp hturn hk7 (by ktn_no "om") hh (by ktn_no "om") ?_
  intro D x yv td lx s₂ ho2 hnD H₂
  rw [hq] at H₂
  have H₃ := H₂.perm ((perm_in2' _ _ lx T).cons _)
  clear H₂ H₁ H
  ktn_no "go"
  rename_i H₄
  have dok := dk.ok
  have dlen := dk.len
  generalize hout : (dueOf o p turn kind).1 = out at *
  have rest : ∀ (Tt : Addr) (x' y' : Value) (t tp' : Tok) (T' la : List (Addr × Cell)) (g10 g12 g14 : Option Value) (s' : Shared), TabL w T' → OutAt (la ++ (lx ++ T')) out x' y' →
      W b X ((Tt, .seq "list" [x', y', .int (q : Int) t]) :: (D, .seq "list" [x, yv, .int (q : Int) td]) :: (P, .lst [.int (q : Int) tp']) :: (L, .ns nmW [f0, f1, f2, some (.bytes y ty), some (.int (B : Int) tb), some (.ref P), some (.ref S), some (.int (p : Int) tf), some (.int (turn : Int) tt), f9, g10, some (.ref D), g12, some (.ref Tt), g14]) :: (la ++ (lx ++ T'))) lg s' →
      wpAny (model prg w) A (execs ((lawBody w).drop 3) env) Q E s' := by
    intro Tt x' y' t tp' T' la g10 g12 g14 s' hT' o1 H'
    refine law_rest G EV (by ktn_no "om") hh (by ktn_no "om") H' o1 (ho2.mono fun p hp => List.mem_append_right _ (List.mem_append_left _ hp)) dok dlen fun s'' tq tt' H'' => ?_
    exact h s'' T' tp' tq tt' _ _ _ _ _ hT' (H''.subl (((List.sublist_append_right lx T').trans (List.sublist_append_right la _)).cons_cons _ |>.cons_cons _))
  refine wpAny_Try_except ?_
  ktn_no "go"
  refine r_callF (fd := fdOf w 163) G (fn_deed w).at_ ?_
  ktn_no "go"
  refine ⟨⟨_, _, H₄⟩, ?_⟩
  refine ok_deed (T := T) (l := (D, .seq "list" [x, yv, .int (q : Int) td]) :: (L, _) :: lx) G TB ST (by ktn_no "om") hh hfr (hF _ _).more hp hlen hturn hk7 hT (H₄.perm (perm_deed _ _ _ lx T)) fun T' hT' => ?_
  rw [← hdd, hq, hout]
  clear h ho2 dk dok dlen H₃ H₄
  cases out with
  | told an =>
    cases an with
    | one n =>
      intro v s₅ hv HE
      refine ea1_1 HE fun tp' HE => ?_
      have H₅ := HE.perm (perm_deed _ _ _ lx T').symm
      clear HE
      ktn_no "go"
      refine r_item (W.lst (by assumption) (by ktn_no "mem")) (by decide) (by decide) rfl ?_
      ktn_no "go"
      refine ex2 _ _ ⟨by assumption, by simp, fun Tt s₆ hnTt H₆ => ?_⟩
      refine r_store EV H₆ (by ktn_no "nth") (by ktn_no "put2") (by ktn_no "put") ?_
      intro s₇ H₇
      show wpAny _ _ (execs [] env) _ _ _
      refine wpAny_execs_nil ?_
      show wpAny _ _ (execs [] env) _ _ _
      refine wpAny_execs_nil ?_
      exact rest Tt _ _ _ tp' T' [] _ _ _ s₇ hT' ⟨⟨_, rfl⟩, hv⟩ H₇
    | many ns =>
      intro Tn vs s₅ hv hnTn HE
      refine ea1_1 HE fun tp' HE => ?_
      have H₅ := (W.perm HE.swap ((perm_deed _ _ _ lx T').symm.cons _)).perm (l' := (D, _) :: (P, _) :: (L, _) :: (Tn, _) :: (lx ++ T')) ((List.perm_middle (l₁ := [_, _, _]) (l₂ := lx ++ T')))
      clear HE
      ktn_no "go"
      refine r_item (W.lst (by assumption) (by ktn_no "mem")) (by decide) (by decide) rfl ?_
      ktn_no "go"
      refine ex2 _ _ ⟨by assumption, by simp, fun Tt s₆ hnTt H₆ => ?_⟩
      refine r_store EV H₆ (by ktn_no "nth") (by ktn_no "put2") (by ktn_no "put") ?_
      intro s₇ H₇
      show wpAny _ _ (execs [] env) _ _ _
      refine wpAny_execs_nil ?_
      show wpAny _ _ (execs [] env) _ _ _
      refine wpAny_execs_nil ?_
      exact rest Tt _ _ _ tp' T' [(Tn, .seq "list" vs)] _ _ _ s₇ hT' ⟨⟨_, rfl⟩, Tn, vs, rfl, .head _, hv⟩ H₇
  | refused m =>
    intro e a t k s₅ HE
    refine ea1_1 HE fun tp' HE => ?_
    have H₅ := HE.perm (l' := (e, _) :: (a, _) :: (D, _) :: (P, _) :: (L, _) :: (lx ++ T')) ((((perm_deed _ _ _ lx T').symm.cons _).cons _).trans (List.perm_middle (l₁ := [_, _])))
    clear HE
    refine r_caught H₅ .zero hfr (hF _ _).more.more.more.more EV.frame ⟨env, hfe, EV.frame⟩ ?_
    intro s₆ H₆
    refine r_handleAs (f := true) (k := k) (C := .ref 52) (args := .ref a) (c := .ref 52) (bb := true) G (by kernel_rfl) ?_
    ktn_no "go"
    refine ⟨rfl, (ex2 _ _ ⟨H₆, .head _, ?_⟩)⟩
    refine ite_t rfl ?_
    intro s₇ H₇
    ktn_no "go"
    refine r_strStat (t0 := a) G (by assumption) (by ktn_no "mem") (by ktn_no "mem") (by show A.units + 2 < _; ktn_no "om") ?_
    ktn_no "go"
    refine r_item (W.lst (by assumption) (by ktn_no "mem")) (by decide) (by decide) rfl ?_
    ktn_no "go"
    refine ex2 _ _ ⟨by assumption, by simp, fun Tt s₈ hnTt H₈ => ?_⟩
    refine r_store EV H₈ (by ktn_no "nth") (by ktn_no "put2") (by ktn_no "put") ?_
    intro s₉ H₉
    show wpAny _ _ (execs [] env) _ _ _
    refine wpAny_execs_nil ?_
    refine r_nameGoes EV H₉ (by ktn_no "mem") fun s' v => ⟨_, _, (.succ (.succ (.succ (.succ (.succ (.succ (.succ (.succ (.succ (.succ (.succ (.succ (.succ (.succ .zero)))))))))))))), by ktn_no "put", fun H' => ?_⟩
    exact rest Tt _ _ _ tp' T' [] _ _ _ s' hT' ⟨⟨_, rfl⟩, _, rfl⟩ (H'.del1.del1)
  | fin m =>
    intro e a t k s₅ HE
    refine ea1_1 HE fun tp' HE => ?_
    have H₅ := HE.perm (l' := (e, _) :: (a, _) :: (D, _) :: (P, _) :: (L, _) :: (lx ++ T')) ((((perm_deed _ _ _ lx T').symm.cons _).cons _).trans (List.perm_middle (l₁ := [_, _])))
    clear HE
    refine r_caught H₅ .zero hfr (hF _ _).more.more.more.more EV.frame ⟨env, hfe, EV.frame⟩ ?_
    intro s₆ H₆
    refine r_handleAs (f := true) (k := k) (C := .type "ValueError") (args := .ref a) (c := .ref 52) (bb := false) G (by kernel_rfl) ?_
    ktn_no "go"
    refine ⟨rfl, (ex2 _ _ ⟨H₆, .head _, ?_⟩)⟩
    refine ite_n (by decide) ?_
    refine r_handleAs (f := true) (k := k) (C := .type "ValueError") (args := .ref a) (c := .type "ValueError") (bb := true) G (by kernel_rfl) ?_
    ktn_no "go"
    refine ⟨rfl, (ex2 _ _ ⟨H₆, .head _, ?_⟩)⟩
    refine ite_t rfl ?_
    intro s₇ H₇
    ktn_no "go"
    refine r_strVal (t0 := a) (by assumption) (by ktn_no "mem") (by ktn_no "mem") (by show A.units + 2 < _; ktn_no "om") ?_
    ktn_no "go"
    refine r_item (W.lst (by assumption) (by ktn_no "mem")) (by decide) (by decide) rfl ?_
    ktn_no "go"
    refine ex2 _ _ ⟨by assumption, by simp, fun Tt s₈ hnTt H₈ => ?_⟩
    refine r_store EV H₈ (by ktn_no "nth") (by ktn_no "put2") (by ktn_no "put") ?_
    intro s₉ H₉
    show wpAny _ _ (execs [] env) _ _ _
    refine wpAny_execs_nil ?_
    refine r_nameGoes EV H₉ (by ktn_no "mem") fun s' v => ⟨_, _, (.succ (.succ (.succ (.succ (.succ (.succ (.succ (.succ (.succ (.succ (.succ (.succ (.succ (.succ .zero)))))))))))))), by ktn_no "put", fun H' => ?_⟩
    exact rest Tt _ _ _ tp' T' [] _ _ _ s' hT' ⟨⟨_, rfl⟩, _, rfl⟩ (H'.del1.del1)
end
end
section
open PySem PySem.W PySem.W.X PyProof.Rows PySem.Calls
noncomputable def meas (o : List Int) (B p turn : Nat) : Nat := 2 * (o.length - p) + (if (B + turn) % 7 = 6 then 1 else 0)
theorem meas_step {o : List Int} {B p turn : Nat} {r : Out × Nat} (hp : p ≤ o.length) (d : DueOk o p ((B + turn) % 7) r) (hg : goOn r.1 = true) : meas o B r.2 (turn + 1) < meas o B p turn := by
  have h1 := d.lo
  have h2 := d.hi
  unfold meas
  by_cases q : r.2 = p
  · have h6 : (B + turn) % 7 = 6 := by
      by_cases k : (B + turn) % 7 = 6
      · exact k
      · refine ea1_1 (d.stay q k) fun m e => ?_
        rw [e] at hg; cases hg
    have h7 : (B + (turn + 1)) % 7 = 0 := by rw [← Nat.add_assoc, Nat.add_mod, h6]
    rw [q, if_pos h6, h7]
    exact Nat.lt_succ_self _
  · have h3 : o.length - r.2 < o.length - p := Nat.sub_lt_sub_left (Nat.lt_of_lt_of_le (Nat.lt_of_le_of_ne h1 (Ne.symm q)) h2) (Nat.lt_of_le_of_ne h1 (Ne.symm q))
    have h4 : ∀ k : Nat, (if k = 6 then 1 else 0) ≤ 1 := by intro k; split <;> decide
    refine Nat.lt_of_lt_of_le (Nat.lt_of_le_of_lt (Nat.add_le_add_left (h4 _) _) (Nat.lt_succ_self _)) (Nat.le_trans ?_ (Nat.le_add_right _ _))
    exact Nat.mul_le_mul_left 2 h3
section
variable {w : World} {b : Shared} {X : List Addr} {l : List (Addr × Cell)} {lg lg' : List (Nat × GenState)} {s : Shared} {A : Around} {E : Value → Shared → Prop} {env : Env} {P L S : Addr} {o : List Int} {y : Array UInt8} {B : Nat} {ty tb tf tt tp : Tok} {T : List (Addr × Cell)} {fr : List Env}
set_option maxRecDepth 10000 in
set_option maxHeartbeats 4000000 in
theorem law_loop {f0 f1 f2 f10 f11 f12 f13 f14 : Option Value} {pg pos : Pos} {Q : Flow → Shared → Prop} (G : Glob w b X) (TB : Tb w b X) (ST : Strm w b X o P S y) (EV : EnvOk env L nmW glW) (hA : A.depth + 45 < recursionLimit) (hh : A.handled = none) (hu : A.units + 200 < cLine) (hfr : A.frames = some fr) (hF : ∀ fv m, FrOk ((L, .ns nmW fv) :: m) fr) (hfe : env ∈ fr)
    (hlen : o.length < 64) (hT : TabL w T)
    (H : W b X ((P, .lst [.int ((0 : Nat) : Int) tp]) :: (L, .ns nmW [f0, f1, f2, some (.bytes y ty), some (.int (B : Int) tb), some (.ref P), some (.ref S), some (.int ((0 : Nat) : Int) tf), some (.int ((0 : Nat) : Int) tt), some (.bool true), f10, f11, f12, f13, f14]) :: T) lg s)
    (fin : ∀ s' l' T', W b X l' lg s' → TabL w T' → (∀ p ∈ T', p ∈ l') → Q .next s') :
    wpAny (model prg w) A (exec (.While (.Name (Str.ofString "going") pg) (lawBody w) [] pos) env) Q E s := by
  refine r_while (fun n s' => ∃ p turn T tp tf tt go g10 g11 g12 g13 g14, TabL w T ∧ p ≤ o.length ∧ (go = true → turn + meas o B p turn ≤ 2 * o.length + 1) ∧ n = (if go = true then meas o B p turn + 1 else 0) ∧
    W b X ((P, .lst [.int ((p : Nat) : Int) tp]) :: (L, .ns nmW [f0, f1, f2, some (.bytes y ty), some (.int (B : Int) tb), some (.ref P), some (.ref S), some (.int ((p : Nat) : Int) tf), some (.int ((turn : Nat) : Int) tt), some (.bool go), g10, g11, g12, g13, g14]) :: T) lg s') (meas o B 0 0 + 1)
    ⟨0, 0, T, tp, tf, tt, true, _, _, _, _, _, hT, Nat.zero_le _, fun _ => by unfold meas; split <;> omega, (if_pos rfl).symm, H⟩ ?_
  intro n s₁ r_1
  obtain ⟨p, turn, T, tp, tf, tt, go, g10, g11, g12, g13, g14, hT, hp, hb, rfl, H₁⟩ := r_1
  ktn_no "go"
  cases go with
  | false =>
    refine ite_n (by decide) ?_
    exact fin _ _ T H₁ hT fun p hp => .tail _ (.tail _ hp)
  | true =>
    refine ite_t rfl ?_
    have hb := hb rfl
    have dk := due_ok (turn := turn) (kind := (B + turn) % 7) ST.rng hlen hp
    refine law_turn (E := fun _ _ => False) G TB ST EV hA hh hu hfr hF hfe hlen hp (by omega) hT H₁ ?_
    intro s' T' tp' tq tt' h10 h11 h12 h13 h14 hT' H'
    refine ⟨rfl, if goOn (dueOf o p turn ((B + turn) % 7)).1 = true then meas o B (dueOf o p turn ((B + turn) % 7)).2 (turn + 1) + 1 else 0, ?_, _, turn + 1, T', tp', tq, tt', _, h10, h11, h12, h13, h14, hT', dk.hi, fun hg => ?_, rfl, H'⟩
    · rw [if_pos rfl]
      split
      · rename_i hg
        have := meas_step hp dk hg
        omega
      · omega
    · have := meas_step hp dk hg
      omega
end
end
section
open PySem PySem.W PySem.W.X PyProof.Rows PySem.Calls
section
variable {w : World} {b : Shared} {l : List (Addr × Cell)} {lg : List (Nat × GenState)} {s : Shared} {X X' : List Addr} {l' : List (Addr × Cell)}
/-- the ledger over a new base -/
theorem W.rebase (H : W b X l lg s) (hx : ∀ a ∈ X', ∃ o, s.heap.get? a = some o) (hc : ∀ p ∈ l', p.2.At s.heap p.1 ∧ p.2.Plain ∧ p.1 ∈ X') (hn : (l'.map (·.1)).Nodup) : W s X' l' [] s :=
  ⟨fun _ _ e _ => e, hx, fun p hp => (hc p hp).1, hn, fun p hp => .inl (hc p hp).2.2, fun p hp => (hc p hp).2.1, (fun p hp => by cases hp), List.nodup_nil, H.bare, rfl, H.pos⟩
theorem Glob.rebase (G : Glob w b X) (H : W b X l lg s) (hX : ∀ a ∈ X', newIn b a ∨ a ∈ X) : Glob w s X' := by
  have out : ∀ {a : Addr} {o : Obj}, b.heap.get? a = some o → a ∉ X → a ∉ X' := fun {a o} e n q => by
    rcases hX a q with h | h
    · rw [show b.heap.get? a = none from h] at e; cases e
    · exact n h
  have ns : ∀ {a : Addr} {m : Str → Option Value}, b.heap.Ns a m → a ∉ X → a ∉ X' := fun {a m} e n => by
    refine ea3_2 e fun o _ _ ho _ => ?_
    try clear e
    exact out ho n
  refine ea1_1 G.gns fun mg hg => ?_
  refine ea1_2 G.bns fun mb hb hbb => ?_
  refine ea1_2 G.lim fun mc hc hl => ?_
  exact ⟨G.in_ H, fun a o e => out (G.kin _ _ e) (G.kx _ _ e), ⟨mg, H.ns hg G.gx⟩, ns hg G.gx, ⟨mb, H.ns hb G.bx, hbb⟩, ns hb G.bx, ⟨mc, H.ns hc G.lx, hl⟩, ns hc G.lx⟩
theorem Bm.rebase (B : Bm b X) (G : Glob w b X) (H : W b X l lg s) (hX : ∀ a ∈ X', newIn b a ∨ a ∈ X) : Bm s X' := by
  refine ea3_9 B fun mg bm ob h1 h2 h3 h4 h5 h6 h7 h8 h9 => ?_
  try clear B
  refine ex3 mg bm ob ⟨H.ns h1 G.gx, h2, h3, h4, H.keep _ _ h5 h9, h6, h7, h8, fun q => ?_⟩
  rcases hX bm q with h | h
  · rw [show b.heap.get? bm = none from h] at h5; cases h5
  · exact h9 h
theorem Tb.rebase (TB : Tb w b X) (G : Glob w b X) (H : W b X l lg s) (hX : ∀ a ∈ X', newIn b a ∨ a ∈ X) (h66 : 66 ∈ X') : Tb w s X' := by
  refine ea1_3 TB.code fun c h1 h2 h3 => ?_
  refine ⟨TB.bm.rebase G H hX, ⟨c, h1, code_keep H h2 h3, fun q => ?_⟩, h66⟩
  refine ea9_2 h2 fun o vs file tf flags tg inF text tt e r => ?_
  try clear h2
  rcases hX c q with h | h
  · rw [show b.heap.get? c = none from h] at e; cases e
  · exact h3 h
theorem find_read (w : World) (tk1 tk2 : Tok) (v : Value) (R : Addr) : findObj (KK w) 124 (some (dictOf [entV w tk1 v, entR w tk2 (.ref R)] 2)) "read" = some (.value (.ref R)) := by kernel_rfl
/-- the stream over the new base -/
theorem strm_of {S D R Co Cp c' P : Addr} {y : Array UInt8} {ty tk1 tk2 tq : Tok} {ct pm : Value} {oc : Obj} {vs : Array Value} {o : List Int} (hbi : KBw.bInts y = o) (hrng : ∀ x ∈ o, 0 ≤ x ∧ x < 256) (hlen : o.length ≤ 100) (hd : oc.data = .fields vs) (hv : vs[1]? = some (.str (qnR w) tq))
    (H : W b X (StrL w S D R Co Cp c' P y ty tk1 tk2 ct pm oc l) lg s) (hX : ∀ a ∈ X', ∃ p ∈ l, p.1 = a) : Strm w s X' o P S y := by
  unfold StrL at H
  have nd := H.nd
  simp only [List.map_cons, List.nodup_cons, List.mem_cons, not_or] at nd
  refine ea0_8 nd fun q_1 q_2 q_3 q_4 q_5 q_6 n7 _ => ?_
  try clear nd
  obtain ⟨_, _, _, _, _, _, n1⟩ := q_1
  obtain ⟨_, _, _, _, _, n2⟩ := q_2
  obtain ⟨_, _, _, _, n3⟩ := q_3
  obtain ⟨_, _, _, n4⟩ := q_4
  obtain ⟨_, _, n5⟩ := q_5
  obtain ⟨_, n6⟩ := q_6
  have nx : ∀ {a : Addr}, a ∉ l.map (·.1) → a ∉ X' := fun {a} h q => by
    refine ea1_2 (hX a q) fun p hp e => ?_
    exact h (List.mem_map.mpr ⟨p, hp, e⟩)
  refine ea1_2 (H.cells (Cp, .cel (some (.ref P))) (.tail _ (.tail _ (.tail _ (.tail _ (.tail _ (.head _)))))) : s.heap.IsCell Cp (some (.ref P))) fun op hop hopd => ?_
  refine ea1_2 (H.cells (Co, .cel (some (.bytes y ty))) (.tail _ (.tail _ (.tail _ (.tail _ (.tail _ (.tail _ (.head _))))))) : s.heap.IsCell Co (some (.bytes y ty))) fun oo hoo hood => ?_
  refine ⟨hbi, hrng, hlen, D, R, Co, Cp, qnR w, [(Str.ofString "place", Cp), (Str.ofString "octets", Co)], ct, .ref c', pm, _, 2, ty, oo, op, H.cells (S, _) (.head _), nx n1, H.cells (D, _) (.tail _ (.head _)), nx n2, find_read w tk1 tk2 _ R, H.cells (R, _) (.tail _ (.tail _ (.head _))), nx n3,
    ⟨⟨c', oc, vs, tq, rfl, H.cells (c', .obj oc) (.tail _ (.tail _ (.tail _ (.head _)))), hd, hv⟩, fun c e => by cases e; exact nx n4⟩, by kernel_rfl, by kernel_rfl, ⟨hoo, hood⟩, nx n7, ⟨hop, hopd⟩, nx n6⟩
end
end
section
open PySem PySem.W PySem.W.X PyProof.Rows PySem.Calls
theorem all_cons {α : Type} {p : α → Prop} {a : α} {l : List α} (ha : p a) (hl : ∀ x ∈ l, p x) : ∀ x ∈ a :: l, p x := List.forall_mem_cons.mpr ⟨ha, hl⟩
theorem all_nil {α : Type} {p : α → Prop} : ∀ x ∈ ([] : List α), p x := fun _ h => nomatch h
inductive IntCs : List Expr → List Int → Prop
  | nil : IntCs [] []
  | cons {n : Int} {k : Nat} {p : Pos} {es : List Expr} {ns : List Int} : IntCs es ns → IntCs (.Constant (.int n) k p :: es) (n :: ns)
noncomputable def ownL : List Int := [101, 104, 0, 103, 100, 0, 102, 101, 0, 101, 105, 0, 100, 104, 0, 107, 100, 0, 103, 100, 0]
noncomputable def drawnL (ns : List Int) : List Int := (List.range (ns.take 24).length).map fun i => (ns.take 24).getD i 0 % 1000000
noncomputable def octL (ns : List Int) : List Int := ownL ++ (List.range (drawnL ns).length).map fun i => octOf ((drawnL ns).getD i 0)
theorem octL_rng (ns : List Int) : ∀ x ∈ octL ns, 0 ≤ x ∧ x < 256 := by
  intro x hx
  rcases List.mem_append.mp hx with h | h
  · exact (by decide : ∀ x ∈ ownL, 0 ≤ x ∧ x < 256) x h
  · refine ea1_2 (List.mem_map.mp h) fun i _ e_1 => ?_
    subst e_1
    exact octOf_rng _
theorem drawnL_len (ns : List Int) : (drawnL ns).length ≤ 24 := by unfold drawnL; simp; omega
theorem octL_len (ns : List Int) : (octL ns).length ≤ 45 := by
  have := drawnL_len ns
  unfold octL
  rw [List.length_append, List.length_map, List.length_range]
  have : ownL.length = 21 := rfl
  omega
theorem r_consts {w : World} {b : Shared} {X : List Addr} {l : List (Addr × Cell)} {lg : List (Nat × GenState)} {A : Around} {E : Value → Shared → Prop} {env : Env} {pos : Pos} {es : List Expr} {ns : List Int} (hc : IntCs es ns) :
    ∀ {s : Shared} {Q : List Value → Shared → Prop}, W b X l lg s → (∀ vs s', IntsAre vs ns → W b X l lg s' → Q vs s') → wpAny (model prg w) A (spliced (backTo pos (starEach es env))) Q E s := by
  induction hc with
  | nil => intro s Q H h; exact wpAny_items_nil (h _ _ .nil H)
  | cons _ ih =>
    intro s Q H h
    refine wpAny_items_cons ?_ rfl
    refine r_int H fun t s' H' => ?_
    exact ih H' fun vs s'' hv H'' => h _ _ (.cons _ _ hv) H''
section
variable {w : World} {b : Shared} {lg lg' : List (Nat × GenState)} {s : Shared} {A : Around} {E : Value → Shared → Prop} {env : Env} {L sc : Addr} {fr : List Env} {items : List Value} {ns : List Int} {so : Obj} {X : List Addr}
set_option maxRecDepth 10000 in
set_option maxHeartbeats 8000000 in
theorem law_body {Q : Flow → Shared → Prop} (G : Glob w b X) (hX : X = [66, 137]) (TB : Tb w b X) (TB2 : Tb2 w b X) (EV : EnvOk env L nmW glW) (hnL : newIn b L) (hA : A.depth + 45 < recursionLimit) (hh : A.handled = none) (hu : A.units + 200 < cLine) (hfr : A.frames = some fr) (hF : ∀ fv m, FrOk ((L, .ns nmW fv) :: m) fr) (hfe : env ∈ fr)
    (hso : b.heap.get? sc = some so) (hsl : b.heap.IsList sc items.toArray) (hscX : sc ∉ X) (hI : IntsAre items ns) (hlen : ns.length ≤ 63)
    (H : W b X ((L, .ns nmW [some (.ref sc), none, none, none, none, none, none, none, none, none, none, none, none, none, none]) :: (66, .obj (tabObj #[])) :: (137, .obj (tabObj #[])) :: []) [] s)
    (fin : ∀ s₀ s' l₀ l' T' P c', W b X l₀ [] s₀ → newIn b P → newIn b L → (137, .obj (tabObj #[rawInt (rdPos w).line, rawInt (rdPos w).col, .ref c'])) ∈ l₀ → W s₀ [66, P, L] l' [] s' → TabL w T' → (∀ p ∈ T', p ∈ l') → Q (.ret (.bool true)) s') :
    wpAny (model prg w) A (execs (bodyOf w 197) env) Q E s := by
  have hil : items.length = ns.length := hI.length
  refine execs_cut ?_
  intro K1 hK1 hR1
  refine r_compLA (b := b) (X := X) (lg := []) (cl := []) EV hh ?_ (closureFor_none (by decide)) (by decide) rfl (by decide) rfl (by decide) ?_
  · have hk : env.kindOf (Str.ofString "drawn") = some .local := EV.loc _ (by decide)
    unfold swapsWith
    dsimp only
    unfold Env.blockKind
    rw [hk, EV.kind]
    rfl
  refine Subscript_ ?_
  ktn_no "ho"
  refine r_upto (b := b) (X := X) (items := items.toArray) (k := 24) ?_
  ktn_no "ho"
  rename_i H₁
  refine ex3 _ _ _ ⟨H₁, rfl, ?_, by simp; omega, fun T24 s₂ hnT H₂ => ?_⟩
  · refine ea1_2 hsl fun o' ho' r => ?_
    try clear hsl
    exact ⟨o', H₁.keep _ _ ho' hscX, r⟩
  have hI24 : IntsAre (items.take 24) (ns.take 24) := hI.take 24
  have hl24 : (items.take 24).length = (ns.take 24).length := hI24.length
  have H₂' : W b X ((T24, .seq "list" (items.take 24)) :: (L, .ns nmW [some (.ref sc), none, none, none, none, none, none, none, none, none, none, none, none, none, none]) :: (66, .obj (tabObj #[])) :: (137, .obj (tabObj #[])) :: []) [] s₂ := by simpa using H₂
  refine ⟨T24, items.take 24, _, _, fun D => [some (.ref sc), some (.ref D), none, none, none, none, none, none, none, none, none, none, none, none, none], _, rfl, H₂', .head _, by simp; omega, .tail _ (.head _), fun D => .succ .zero, fun D => .succ .zero, fun i v => ∃ t, v = .int ((ns.take 24).getD i 0 % 1000000) t, ?_, ?_⟩
  · intro C i v l2 s₃ hi hv hsub H₃
    refine ea1_1 (ints_at hI24 i (by ktn_no "om")) fun ti hti => ?_
    have hve : v = .int ((ns.take 24).getD i 0) ti := Option.some.inj (hv.symm.trans hti)
    subst hve
    refine wpAny_BinOp ?_
    refine c_loc H₃ rfl rfl rfl ?_
    refine wpAny_BinOp ?_
    ktn_no "ho"
    refine r_pow6 (by assumption) ?_
    intro _ _ H₄
    exact r_mod H₄ (by decide) fun t s' H' => ⟨⟨t, rfl⟩, H'⟩
  intro Dr dv s₄ hdl hdP hnDr H₄
  have hdv : IntsAre dv (drawnL ns) := ints_of dv _ _ (by rw [hdl, hl24]) hdP
  have hdvl := hdv.length
  have hdl24 := drawnL_len ns
  have H₅ := H₄.del1
  clear H₄ H₂ H₂' H₁ H
  refine k_next (by assumption) ?_
  refine execs_cut ?_
  intro K2 hK2 hR2
  refine wpAny_Assign_Name ?_ ?hs0
  case hs0 => rfl
  with_reducible refine r_list G ?_
  with_reducible refine r_consts (ns := ownL) ?hc H₅ fun ov s₆ hov H₆ => ?_
  case hc => repeat constructor
  have hovl : ov.length = 21 := hov.length
  refine ex2 _ _ ⟨H₆, by rw [hovl]; decide, fun Ow s₇ hnO H₇ => ?_⟩
  clear H₆ H₅
  ktn_no "ho"
  refine r_compL (b := b) (X := X) (lg := []) (cl := []) hh (closureFor_none (by decide)) (by decide) rfl (by decide) rfl ?_
  ktn_no "ho"
  rename_i H₈ _ _ _
  refine ex3 Dr dv _ ⟨rfl, H₈, by ktn_no "mem", by ktn_no "om", fun i v => ∃ t, v = .int (octOf ((drawnL ns).getD i 0)) t, ?_, ?_⟩
  · intro C i v l2 s₉ hi hv hsub H₉
    refine ea1_1 (ints_at hdv i (by ktn_no "om")) fun ti hti => ?_
    have hve : v = .int ((drawnL ns).getD i 0) ti := Option.some.inj (hv.symm.trans hti)
    subst hve
    refine r_Call ?_
    refine c_glob (v := .ref 135) G EV H₉ rfl rfl rfl (by kernel_rfl) ?_
    refine r_callF (fd := fdOf w 135) G (fn_octet w).at_ ?_
    refine wpAny_items_cons ?_
    refine c_loc H₉ rfl rfl rfl ?_
    ktn_no "ho"
    refine ⟨⟨_, _, H₉⟩, ?_⟩
    exact ok_octet G H₉ (by ktn_no "om") fun t s' H' => ⟨⟨t, rfl⟩, H'⟩
  intro Oc cv s₉ hcl hcP hnOc H₉
  have hcv : IntsAre cv ((List.range (drawnL ns).length).map fun i => octOf ((drawnL ns).getD i 0)) := ints_of cv _ _ (by rw [hcl]; exact hdvl) hcP
  ktn_no "ho"
  refine r_addL (by assumption) (by ktn_no "mem") (by ktn_no "mem") (by ktn_no "om") ?_
  intro Al s₁₀ hnAl H₁₀
  have hall : IntsAre (ov ++ cv) (octL ns) := hov.append hcv
  have hoL := octL_len ns
  have hcvl : (ov ++ cv).length = (octL ns).length := hall.length
  ktn_no "ho"
  refine r_bytes (by assumption) (by ktn_no "mem") hall (octL_rng ns) (by ktn_no "om") hh ?_
  intro y ty s₁₁ hy H₁₁
  have H₁₂ := H₁₁.tail.tail
  clear H₁₁ H₁₀ H₉ H₈ H₇
  ktn_no "ho"
  refine r_sumL (by assumption) (by ktn_no "mem") hdv hh ?_
  intro _ _ _
  ktn_no "ho"
  refine ex2 _ _ ⟨by assumption, by simp, fun P s₁₃ hnP H₁₃ => ?_⟩
  ktn_no "ho"
  refine r_callF (fd := fdOf w 142) G (fn_stream w).at_ ?_
  ktn_no "ho"
  rename_i H₁₄ _ _ _
  refine ⟨⟨_, _, H₁₄⟩, ?_⟩
  refine ok_stream (l := (P, _) :: (Ow, _) :: (Dr, _) :: (L, _) :: (66, _) :: []) G TB2 (W.unmid (m := [_, _, _, _, _]) H₁₄) (by ktn_no "om") ?_
  intro S D R Co Cp c' tk1 tk2 ct pm oc vs tq s₁₅ hd hv H₁₅
  unfold StrL at H₁₅
  clear H₁₄ H₁₃ H₁₂
  ktn_no "ho"
  rename_i sB H₁₆ _ _ _
  obtain ⟨B, hB⟩ : ∃ B : Nat, (drawnL ns).sum % 7 = (B : Int) := ⟨((drawnL ns).sum % 7).toNat, (Int.toNat_of_nonneg (Int.emod_nonneg _ (by decide))).symm⟩
  rw [hB] at H₁₆
  have hX' : ∀ a ∈ [66, P, L], newIn b a ∨ a ∈ X := by
    exact all_cons (.inr (by rw [hX]; exact .head _)) (all_cons (.inl hnP) (all_cons (.inl hnL) all_nil))
  have mP := H₁₆.seqL (a := P) (by ktn_no "mem")
  have mL := H₁₆.cells (L, _) (.tail _ (.tail _ (.tail _ (.tail _ (.tail _ (.tail _ (.tail _ (.tail _ (.tail _ (.tail _ (.head _)))))))))))
  have m66 := H₁₆.cells (66, .obj (tabObj #[])) (.tail _ (.tail _ (.tail _ (.tail _ (.tail _ (.tail _ (.tail _ (.tail _ (.tail _ (.tail _ (.tail _ (.head _))))))))))))
  have hR : W sB [66, P, L] ((P, .lst _) :: (L, _) :: [(66, .obj (tabObj #[]))]) [] sB := H₁₆.rebase (X' := [66, P, L]) (all_cons ⟨_, m66⟩ (all_cons (let ⟨o', ho', _⟩ := mP; ⟨o', ho'⟩) (all_cons (Cell.At.live mL) all_nil)))
    (all_cons ⟨mP, trivial, .tail _ (.head _)⟩ (all_cons ⟨mL, trivial, .tail _ (.tail _ (.head _))⟩ (all_cons ⟨m66, tabPlain, .head _⟩ all_nil))) (by
      have hs : [P, L, 66].Sublist [S, D, R, c', 137, Cp, Co, P, Ow, Dr, L, 66] := .cons _ (.cons _ (.cons _ (.cons _ (.cons _ (.cons _ (.cons _ (.cons_cons _ (.cons _ (.cons _ (.cons_cons _ (.cons_cons _ .slnil)))))))))))
      exact hs.nodup H₁₆.nd)
  have ST : Strm w sB [66, P, L] (octL ns) P S y := strm_of (w := w) (c' := c') (l := [(P, _), (Ow, _), (Dr, _), (L, _), (66, _)]) hy (octL_rng ns) (by ktn_no "om") hd hv H₁₆ (all_cons ⟨_, .tail _ (.tail _ (.tail _ (.tail _ (.head _)))), rfl⟩ (all_cons ⟨_, .head _, rfl⟩ (all_cons ⟨_, .tail _ (.tail _ (.tail _ (.head _))), rfl⟩ all_nil)))
  refine law_loop (T := [(66, .obj (tabObj #[]))]) (B := B) (G.rebase H₁₆ hX') (TB.rebase G H₁₆ hX' (.head _)) ST EV hA hh hu hfr hF hfe (by ktn_no "om") (.inl rfl) hR ?_
  intro s' l' T' H' hT' hsub
  ktn_no "ho"
  exact fin sB s' _ l' T' P c' H₁₆ hnP hnL (by ktn_no "mem") H' hT' hsub
end
end
section
open PySem PySem.W PySem.W.X PyProof.Rows PySem.Calls
noncomputable abbrev rowR : RowW := PySem.Challenge.rw_nb0187_01.row.toRowW
theorem items_ints : ∀ {xs : List WData}, (∀ d ∈ xs, WShape.has [] d .int = true) → ∃ ns : List Int, xs = ns.map WData.int
  | [], _ => ⟨[], rfl⟩
  | d :: r, h => by
    obtain ⟨ns, rfl⟩ := items_ints fun d hd => h d (.tail _ hd)
    obtain ⟨i, rfl⟩ := hasW_int (h d (.head _))
    exact ⟨i :: ns, rfl⟩
theorem pre_script {args : List WData} (h : rowR.claim.pre args = true) : ∃ ns : List Int, args = [.list (ns.map WData.int)] ∧ ns.length ≤ 63 := by
  obtain ⟨h1, h2⟩ := pre_splitW h
  obtain ⟨d, r, rfl, hd, hr⟩ := hasAllW_cons (show WShape.hasAll [] args [.list .int] = true from h1)
  have hr0 := hasAllW_nil hr
  subst hr0
  obtain ⟨xs, rfl, hx⟩ := hasW_list hd
  obtain ⟨ns, rfl⟩ := items_ints (hasItemsW_at hx)
  refine ⟨ns, rfl, ?_⟩
  have h3 : (WTm.and (.not (.lt (.lit (.int 63)) (.len (.arg 0)))) (.lit (.bool true))).holds [] { args := [.list (ns.map WData.int)] } = true := h2
  have q := condW_of h3 (w_and (w_not (w_lt w_lit (w_len_list (w_arg rfl)))) w_lit)
  rw [Bool.and_true, Bool.not_eq_true', decide_eq_false_iff_not, List.length_map] at q
  exact Int.ofNat_le.mp (Int.not_lt.mp q)
theorem reads_ints {R : WRecords} {cl : Str → Option Addr} {h : Heap} : ∀ {ns : List Int} {vs : List Value} {as : List Addr}, ReadsAllW R cl h vs (ns.map WData.int) as → IntsAre vs ns
  | [], _, _, r => by cases r; exact .nil
  | n :: ns, _, _, r => by
    cases r with
    | cons r1 r2 => cases r1; exact .cons _ _ (reads_ints r2)
end
section
open PySem PySem.W PySem.W.X PyProof.Rows PySem.Calls
section
variable {w : World} {b : Shared} {X : List Addr} {A : Around} {Q E : Value → Shared → Prop} {sc : Addr}
theorem call_top (G : Glob w b X) (hX : X = [66, 137]) (h66 : b.heap.get? 66 = some (tabObj #[])) (h137 : b.heap.get? 137 = some (tabObj #[])) (hbare : AllBare b.gens) (hA : A.depth < recursionLimit)
    (h : ∀ L env s', EnvOk env L nmW glW → newIn b L → W b X ((L, .ns nmW [some (.ref sc), none, none, none, none, none, none, none, none, none, none, none, none, none, none]) :: (66, .obj (tabObj #[])) :: (137, .obj (tabObj #[])) :: []) [] s' →
      wpAny (model prg w) (A.deeper env) (execs (bodyOf w 197) env) (fun fl s'' => Q (match fl with | .ret v => v | _ => .none) s'')
        (fun e s'' => wpAny (model prg w) (A.deeper env) (leaving env e) (fun _ s3 => E e s3) (fun e' s3 => E e' s3) s'') s') :
    wpAny (model prg w) A (call (.ref 197) [.ref sc]) Q E b := by
  have f := fn_law w
  refine ea1_2 (Option.map_eq_some_iff.mp f.at_) fun o ho hod => ?_
  have hsc := f.sc
  unfold scopeOk at hsc
  simp only [Bool.and_eq_true, beq_iff_eq, decide_eq_true_eq] at hsc
  refine ea0_2 hsc fun q_1 hdb => ?_
  try clear hsc
  obtain ⟨⟨⟨hk, hloc⟩, hgl'⟩, hnd⟩ := q_1
  have hloc' := lookup_of_all hloc
  have hb : bindArgs (fdOf w 197) ⟨[.ref sc], []⟩ = pure ((["script"] : List Str).zip [.ref sc]) := by kernel_rfl
  have hc : noCells (fdOf w 197).scope = true := by kernel_rfl
  refine wpAny_call (codeAny_call_def (fd := fdOf w 197) (body := bodyOf w 197) (binds := (["script"] : List Str).zip [.ref sc]) hA (G.kin _ _ ho) hod G.lim (codeRec_of G.kin f.code) f.body (fun M A' E' Q' q => by rw [hb]; exact wpAny_pure q) (fun x hx => ?_) (fun x hx => ?_) (fun h₁ hns hkeep => ?_) f.co (by kernel_rfl) hk)
  · have := List.all_eq_true.mp hc x hx
    simpa using this
  · exact hloc' x.1 (by rcases List.mem_cons.mp hx with rfl | hx; exact .head _; cases hx)
  · have hn : ∀ {a : Addr} {ob : Obj}, b.heap.get? a = some ob → a < b.heap.objs.size := fun e => Heap.lt_size e
    have hLn : newIn b b.heap.objs.size := Heap.get?_none_of_le (Nat.le_refl _)
    have hns' : h₁.Ns b.heap.objs.size (look nmW [some (.ref sc), none, none, none, none, none, none, none, none, none, none, none, none, none, none]) := by
      have e := look_binds (ps := ["script"]) (others := ["drawn", "own", "octets", "begun", "place", "stream", "first", "turn", "going", "kind", "due", "answer", "told", "error"]) (vals := [.ref sc]) hnd rfl
      have e' : look nmW [some (.ref sc), none, none, none, none, none, none, none, none, none, none, none, none, none, none] = _ := e
      rw [e']; exact hns
    have W0 : W b X ((b.heap.objs.size, .ns nmW [some (.ref sc), none, none, none, none, none, none, none, none, none, none, none, none, none, none]) :: (66, .obj (tabObj #[])) :: (137, .obj (tabObj #[])) :: []) [] { b with heap := h₁, toks := b.toks + ((["script"] : List Str).zip [Value.ref sc]).length } := by
      subst hX
      refine ⟨fun a o e _ => hkeep a o e, fun a ha => ?_, fun q hq => ?_, ?_, fun q hq => ?_, fun q hq => ?_, (fun q hq => by cases hq), List.nodup_nil, hbare, rfl, Nat.succ_pos _⟩
      · rcases List.mem_cons.mp ha with rfl | ha
        · exact ⟨_, hkeep _ _ h66⟩
        · rcases List.mem_cons.mp ha with rfl | ha
          · exact ⟨_, hkeep _ _ h137⟩
          · cases ha
      · rcases List.mem_cons.mp hq with rfl | hq
        · exact hns'
        · rcases List.mem_cons.mp hq with rfl | hq
          · exact hkeep _ _ h66
          · rcases List.mem_cons.mp hq with rfl | hq
            · exact hkeep _ _ h137
            · cases hq
      · have l1 := hn h66
        have l2 := hn h137
        show [b.heap.objs.size, 66, 137].Nodup
        have l3 : b.heap.objs.size ≠ 66 := Nat.ne_of_gt l1
        have l4 : b.heap.objs.size ≠ 137 := Nat.ne_of_gt l2
        simp [l3, l4]
      · rcases List.mem_cons.mp hq with rfl | hq
        · exact .inr hLn
        · rcases List.mem_cons.mp hq with rfl | hq
          · exact .inl (.head _)
          · rcases List.mem_cons.mp hq with rfl | hq
            · exact .inl (.tail _ (.head _))
            · cases hq
      · rcases List.mem_cons.mp hq with rfl | hq
        · trivial
        · rcases List.mem_cons.mp hq with rfl | hq
          · exact tabPlain
          · rcases List.mem_cons.mp hq with rfl | hq
            · exact tabPlain
            · cases hq
    exact h _ _ _ ⟨rfl, rfl, hk, f.gl, f.bl, hloc', lookup_of_all hgl', hnd, fun x hx => by simpa using List.all_eq_true.mp hdb x hx⟩ hLn W0
/-- the whole call -/
theorem law_ok {items : List Value} {ns : List Int} {so : Obj} {n : Nat} (G : Glob w b X) (hX : X = [66, 137]) (TB : Tb w b X) (TB2 : Tb2 w b X) (h66 : b.heap.get? 66 = some (tabObj #[])) (h137 : b.heap.get? 137 = some (tabObj #[])) (hbare : AllBare b.gens)
    (hso : b.heap.get? sc = some so) (hsl : b.heap.IsList sc items.toArray) (hI : IntsAre items ns) (hlen : ns.length ≤ 63)
    (h : ∀ s', OldK b.heap s'.heap → s'.os = b.os → AllBare s'.gens → Q (.bool true) s') : wpAny (model prg w) callerA (call (.ref 197) [.ref sc]) Q E b := by
  have hscX : sc ∉ X := by
    subst hX
    refine ea1_3 hsl fun o' ho' hc' _ => ?_
    try clear hsl
    intro q
    rcases List.mem_cons.mp q with rfl | q
    · rw [h66] at ho'; cases ho'; cases hc'
    · rcases List.mem_cons.mp q with rfl | q
      · rw [h137] at ho'; cases ho'; cases hc'
      · cases q
  refine call_top G hX h66 h137 hbare (by decide) ?_
  intro L env s₁ EV hnL H₁
  refine law_body (fr := [env]) G hX TB TB2 EV hnL (show callerA.depth + 1 + 45 < recursionLimit by decide) rfl (show callerA.units + 3 + 200 < cLine by decide) rfl (fun fv m => FrOk.cons EV.kind EV.frame (.head _) .nil) (.head _) hso hsl hscX hI hlen H₁ ?_
  intro s₀ s' l₀ l' T' P c' H₀ hnP hnL' hm H' hT' hsub
  refine h s' ?_ (H'.os.trans H₀.os) H'.bare
  have k137 : s'.heap.get? 137 = some (tabObj #[rawInt (rdPos w).line, rawInt (rdPos w).col, .ref c']) := by
    have e0 : s₀.heap.get? 137 = _ := H₀.cells _ hm
    refine H'.keep 137 _ e0 ?_
    intro q
    rcases List.mem_cons.mp q with q | q
    · exact absurd q (by decide)
    · rcases List.mem_cons.mp q with q | q
      · rw [← q] at hnP; rw [show b.heap.get? 137 = none from hnP] at h137; cases h137
      · rcases List.mem_cons.mp q with q | q
        · rw [← q] at hnL'; rw [show b.heap.get? 137 = none from hnL'] at h137; cases h137
        · cases q
  have k66 : ∃ more, s'.heap.get? 66 = some (tabObj (#[] ++ more)) := by
    rcases hT' with rfl | ⟨c2, oc, vs, t, rfl, _⟩
    · exact ⟨#[], H'.cells _ (hsub _ (.head _))⟩
    · exact ⟨_, by have e : s'.heap.get? 66 = _ := H'.cells _ (hsub _ (.head _)); simpa using e⟩
  have keep : ∀ a o, b.heap.get? a = some o → a ≠ 66 → a ≠ 137 → s'.heap.get? a = some o := by
    intro a o e n1 n2
    refine H'.keep a o (H₀.keep a o e (by subst hX; simp [n1, n2])) ?_
    intro q
    rcases List.mem_cons.mp q with q | q
    · exact n1 q
    · rcases List.mem_cons.mp q with q | q
      · rw [← q] at hnP; rw [show b.heap.get? a = none from hnP] at e; cases e
      · rcases List.mem_cons.mp q with q | q
        · rw [← q] at hnL'; rw [show b.heap.get? a = none from hnL'] at e; cases e
        · cases q
  refine ea1_3 TB.code fun c71 e71 C71 x71 => ?_
  refine ea1_3 TB2.code fun c142 e142 C142 x142 => ?_
  refine ea1_1 k66 fun more k66 => ?_
  refine ⟨fun a o e => ?_, fun a o e => ?_⟩
  · by_cases n1 : a = 66
    · subst n1
      rw [h66] at e; cases e
      exact .inr (.inl ⟨(C71.tab h66).isCodeTable, rfl, #[], more, rfl, k66⟩)
    · by_cases n2 : a = 137
      · subst n2
        rw [h137] at e; cases e
        exact .inr (.inl ⟨(C142.tab h137).isCodeTable, rfl, #[], _, rfl, by simpa using k137⟩)
      · exact .inl (keep a o e n1 n2)
  · by_cases n1 : a = 66
    · subst n1; exact ⟨_, k66⟩
    · by_cases n2 : a = 137
      · subst n2; exact ⟨_, k137⟩
      · exact ⟨_, keep a o e n1 n2⟩
end
end
section
open PySem PySem.W PySem.W.X PyProof.Rows PySem.Calls
theorem k66 (w : World) : (KK w).lookup 66 = none := by kernel_rfl
theorem k137 (w : World) : (KK w).lookup 137 = none := by kernel_rfl
noncomputable def cOf (w : World) (a : Addr) : Addr := match (fdOf w a).code with | .ref c => c | _ => 0
theorem c71 (w : World) : (fdOf w 71).code = .ref (cOf w 71) ∧ codeHdIn (KK w) (cOf w 71) 66 = true ∧ ((KK w).lookup (cOf w 71)).isSome = true := ⟨by kernel_rfl, by kernel_rfl, by kernel_rfl⟩
theorem c142 (w : World) : (fdOf w 142).code = .ref (cOf w 142) ∧ codeHdIn (KK w) (cOf w 142) 137 = true ∧ ((KK w).lookup (cOf w 142)).isSome = true := ⟨by kernel_rfl, by kernel_rfl, by kernel_rfl⟩
theorem law_in (w : World) : nsIn (KK w) mainGlobals (Str.ofString "law") = some (some (.ref 197)) := by kernel_rfl
section
variable {w : World} {b : Shared}
theorem kx_of (X0 : (KK w).In b.heap) : ∀ a o, (KK w).lookup a = some o → a ∉ [66, 137] := by
  intro a o e q
  rcases List.mem_cons.mp q with rfl | q
  · rw [k66] at e; cases e
  · rcases List.mem_cons.mp q with rfl | q
    · rw [k137] at e; cases e
    · cases q
end
end
end Mine
open PySem PySem.W PySem.W.X PyProof.Rows PySem.Calls
set_option maxRecDepth 100000 in
set_option maxHeartbeats 8000000 in
theorem PySem.Challenge.cw_nb0187_01_holds : PySem.Challenge.rw_nb0187_01.Holds := by
  refine Mine.hd ?_
  intro w s₀ s₁ mg mb Gr Y a o pm cd doc dV kV ha hod hcd hdf hmg hgens args vals as hpre hlay hrd hwell hlow
  have X0 : (Mine.KK w).In s₁.heap := km_in_of Y
  have tabs := km_tabs_of Y
  have h66 : s₁.heap.get? 66 = some (tabObj #[]) := tabs 66 (.head _)
  have h137 : s₁.heap.get? 137 = some (tabObj #[]) := tabs 137 (.tail _ (.head _))
  have T := Gr.T
  have G : Mine.Glob w s₁ [66, 137] := ⟨X0, Mine.kx_of X0, ⟨mg, T.g⟩, by decide, ⟨mb, T.b, T.builtins⟩, by decide, T.nolimit, by decide⟩
  have hlaw : mg (Str.ofString "law") = some (.ref 197) := mg_of X0 T.g (Mine.law_in w)
  have ha197 : a = 197 := by
    have e : mg (Str.ofString "law") = some (.ref a) := hmg
    rw [hlaw] at e
    cases e; rfl
  subst ha197
  have BM : Mine.Bm s₁ [66, 137] := by
    obtain ⟨bm, ob, b1, b2, b3, b4, b5, b6⟩ := T.bmain
    refine ⟨mg, bm, ob, T.g, b1, b2, fun q => ?_, b3, b4, b5, b6, fun q => ?_⟩
    · obtain ⟨o', es, ep, e, hd, _⟩ := T.g
      rw [q] at b3
      rw [b3] at e; cases e
      rw [b6] at hd; cases hd
    · rcases List.mem_cons.mp q with rfl | q
      · rw [h66] at b3; cases b3; cases b4
      · rcases List.mem_cons.mp q with rfl | q
        · rw [h137] at b3; cases b3; cases b4
        · cases q
  have inX : ∀ c, ((Mine.KK w).lookup c).isSome = true → c ∉ [66, 137] := fun c e => by
    obtain ⟨o', e'⟩ := Option.isSome_iff_exists.mp e
    exact Mine.kx_of X0 c o' e'
  have TB : Mine.Tb w s₁ [66, 137] := ⟨BM, ⟨_, (Mine.c71 w).1, codeHd_of_K X0 (Mine.c71 w).2.1, inX _ (Mine.c71 w).2.2⟩, .head _⟩
  have TB2 : Mine.Tb2 w s₁ [66, 137] := ⟨BM, ⟨_, (Mine.c142 w).1, codeHd_of_K X0 (Mine.c142 w).2.1, inX _ (Mine.c142 w).2.2⟩, .tail _ (.head _)⟩
  obtain ⟨ns, rfl, hn⟩ := Mine.pre_script hpre
  cases hrd with
  | cons r1 r2 =>
    cases r2
    cases r1 with
    | list ho hc hd hr =>
      rename_i sc so vs n as'
      have hI := Mine.reads_ints hr
      have hbare : AllBare s₁.gens := .of_eq hgens
      refine Mine.law_ok (items := vs.toList) (n := n) G rfl TB TB2 h66 h137 hbare ho ⟨_, ho, hc, n, by simpa using hd⟩ hI hn ?_
      intro s' hO hos hb
      exact ⟨.inl ⟨.bool true, .bool true, [], rfl, fun _ => rfl, .bool true, by kernel_rfl, fun _ => ⟨List.nodup_nil, fun a ha => by cases ha⟩⟩, hO, hos, hb⟩
