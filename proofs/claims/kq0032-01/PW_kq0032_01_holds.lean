import PyProof.Rows.All
import Wide.All
import OpenK.AllK
import Wide.FinOn
import Lean
import PySem.Challenge.RW_kq0032_01
local macro_rules | `(tactic| omega) => `(tactic| first | lia | omega +splitDisjunctions)
set_option Elab.async false
set_option linter.all false
namespace Mine
theorem el_0_1 {A0 A1 : Prop} {P : Prop} (h : A0 ∧ A1) (k : A0 → A1 → P) : P := k h.1 h.2
theorem in_0_1 {A0 A1 : Prop} (a0 : A0) (a1 : A1) : A0 ∧ A1 := ⟨a0, a1⟩
theorem el_1_0.{u0} {α0 : Sort u0} {A0 : α0 → Prop} {P : Prop} (h : ∃ x0, A0 x0) (k : ∀ x0, A0 x0 → P) : P := Exists.elim h fun x0 h => k x0 h
theorem in_1_0.{u0} {α0 : Sort u0} {A0 : α0 → Prop} (x0 : α0) (a0 : A0 x0) : ∃ x0, A0 x0 := ⟨x0, a0⟩
theorem el_0_2 {A0 A1 A2 : Prop} {P : Prop} (h : A0 ∧ A1 ∧ A2) (k : A0 → A1 → A2 → P) : P := k h.1 h.2.1 h.2.2
theorem in_0_2 {A0 A1 A2 : Prop} (a0 : A0) (a1 : A1) (a2 : A2) : A0 ∧ A1 ∧ A2 := ⟨a0, a1, a2⟩
theorem el_1_1.{u0} {α0 : Sort u0} {A0 A1 : α0 → Prop} {P : Prop} (h : ∃ x0, A0 x0 ∧ A1 x0) (k : ∀ x0, A0 x0 → A1 x0 → P) : P := Exists.elim h fun x0 h => k x0 h.1 h.2
theorem in_1_1.{u0} {α0 : Sort u0} {A0 A1 : α0 → Prop} (x0 : α0) (a0 : A0 x0) (a1 : A1 x0) : ∃ x0, A0 x0 ∧ A1 x0 := ⟨x0, a0, a1⟩
theorem el_2_0.{u0, u1} {α0 : Sort u0} {α1 : Sort u1} {A0 : α0 → α1 → Prop} {P : Prop} (h : ∃ x0 x1, A0 x0 x1) (k : ∀ x0 x1, A0 x0 x1 → P) : P := Exists.elim h fun x0 h => Exists.elim h fun x1 h => k x0 x1 h
theorem in_2_0.{u0, u1} {α0 : Sort u0} {α1 : Sort u1} {A0 : α0 → α1 → Prop} (x0 : α0) (x1 : α1) (a0 : A0 x0 x1) : ∃ x0 x1, A0 x0 x1 := ⟨x0, x1, a0⟩
theorem el_0_3 {A0 A1 A2 A3 : Prop} {P : Prop} (h : A0 ∧ A1 ∧ A2 ∧ A3) (k : A0 → A1 → A2 → A3 → P) : P := k h.1 h.2.1 h.2.2.1 h.2.2.2
theorem in_0_3 {A0 A1 A2 A3 : Prop} (a0 : A0) (a1 : A1) (a2 : A2) (a3 : A3) : A0 ∧ A1 ∧ A2 ∧ A3 := ⟨a0, a1, a2, a3⟩
theorem el_1_2.{u0} {α0 : Sort u0} {A0 A1 A2 : α0 → Prop} {P : Prop} (h : ∃ x0, A0 x0 ∧ A1 x0 ∧ A2 x0) (k : ∀ x0, A0 x0 → A1 x0 → A2 x0 → P) : P := Exists.elim h fun x0 h => k x0 h.1 h.2.1 h.2.2
theorem in_1_2.{u0} {α0 : Sort u0} {A0 A1 A2 : α0 → Prop} (x0 : α0) (a0 : A0 x0) (a1 : A1 x0) (a2 : A2 x0) : ∃ x0, A0 x0 ∧ A1 x0 ∧ A2 x0 := ⟨x0, a0, a1, a2⟩
theorem el_2_1.{u0, u1} {α0 : Sort u0} {α1 : Sort u1} {A0 A1 : α0 → α1 → Prop} {P : Prop} (h : ∃ x0 x1, A0 x0 x1 ∧ A1 x0 x1) (k : ∀ x0 x1, A0 x0 x1 → A1 x0 x1 → P) : P := Exists.elim h fun x0 h => Exists.elim h fun x1 h => k x0 x1 h.1 h.2
theorem in_2_1.{u0, u1} {α0 : Sort u0} {α1 : Sort u1} {A0 A1 : α0 → α1 → Prop} (x0 : α0) (x1 : α1) (a0 : A0 x0 x1) (a1 : A1 x0 x1) : ∃ x0 x1, A0 x0 x1 ∧ A1 x0 x1 := ⟨x0, x1, a0, a1⟩
theorem el_3_0.{u0, u1, u2} {α0 : Sort u0} {α1 : Sort u1} {α2 : Sort u2} {A0 : α0 → α1 → α2 → Prop} {P : Prop} (h : ∃ x0 x1 x2, A0 x0 x1 x2) (k : ∀ x0 x1 x2, A0 x0 x1 x2 → P) : P := Exists.elim h fun x0 h => Exists.elim h fun x1 h => Exists.elim h fun x2 h => k x0 x1 x2 h
theorem in_3_0.{u0, u1, u2} {α0 : Sort u0} {α1 : Sort u1} {α2 : Sort u2} {A0 : α0 → α1 → α2 → Prop} (x0 : α0) (x1 : α1) (x2 : α2) (a0 : A0 x0 x1 x2) : ∃ x0 x1 x2, A0 x0 x1 x2 := ⟨x0, x1, x2, a0⟩
theorem el_0_4 {A0 A1 A2 A3 A4 : Prop} {P : Prop} (h : A0 ∧ A1 ∧ A2 ∧ A3 ∧ A4) (k : A0 → A1 → A2 → A3 → A4 → P) : P := k h.1 h.2.1 h.2.2.1 h.2.2.2.1 h.2.2.2.2
theorem in_0_4 {A0 A1 A2 A3 A4 : Prop} (a0 : A0) (a1 : A1) (a2 : A2) (a3 : A3) (a4 : A4) : A0 ∧ A1 ∧ A2 ∧ A3 ∧ A4 := ⟨a0, a1, a2, a3, a4⟩
theorem el_1_3.{u0} {α0 : Sort u0} {A0 A1 A2 A3 : α0 → Prop} {P : Prop} (h : ∃ x0, A0 x0 ∧ A1 x0 ∧ A2 x0 ∧ A3 x0) (k : ∀ x0, A0 x0 → A1 x0 → A2 x0 → A3 x0 → P) : P := Exists.elim h fun x0 h => k x0 h.1 h.2.1 h.2.2.1 h.2.2.2
theorem in_1_3.{u0} {α0 : Sort u0} {A0 A1 A2 A3 : α0 → Prop} (x0 : α0) (a0 : A0 x0) (a1 : A1 x0) (a2 : A2 x0) (a3 : A3 x0) : ∃ x0, A0 x0 ∧ A1 x0 ∧ A2 x0 ∧ A3 x0 := ⟨x0, a0, a1, a2, a3⟩
theorem el_2_2.{u0, u1} {α0 : Sort u0} {α1 : Sort u1} {A0 A1 A2 : α0 → α1 → Prop} {P : Prop} (h : ∃ x0 x1, A0 x0 x1 ∧ A1 x0 x1 ∧ A2 x0 x1) (k : ∀ x0 x1, A0 x0 x1 → A1 x0 x1 → A2 x0 x1 → P) : P := Exists.elim h fun x0 h => Exists.elim h fun x1 h => k x0 x1 h.1 h.2.1 h.2.2
theorem in_2_2.{u0, u1} {α0 : Sort u0} {α1 : Sort u1} {A0 A1 A2 : α0 → α1 → Prop} (x0 : α0) (x1 : α1) (a0 : A0 x0 x1) (a1 : A1 x0 x1) (a2 : A2 x0 x1) : ∃ x0 x1, A0 x0 x1 ∧ A1 x0 x1 ∧ A2 x0 x1 := ⟨x0, x1, a0, a1, a2⟩
theorem el_3_1.{u0, u1, u2} {α0 : Sort u0} {α1 : Sort u1} {α2 : Sort u2} {A0 A1 : α0 → α1 → α2 → Prop} {P : Prop} (h : ∃ x0 x1 x2, A0 x0 x1 x2 ∧ A1 x0 x1 x2) (k : ∀ x0 x1 x2, A0 x0 x1 x2 → A1 x0 x1 x2 → P) : P := Exists.elim h fun x0 h => Exists.elim h fun x1 h => Exists.elim h fun x2 h => k x0 x1 x2 h.1 h.2
theorem in_3_1.{u0, u1, u2} {α0 : Sort u0} {α1 : Sort u1} {α2 : Sort u2} {A0 A1 : α0 → α1 → α2 → Prop} (x0 : α0) (x1 : α1) (x2 : α2) (a0 : A0 x0 x1 x2) (a1 : A1 x0 x1 x2) : ∃ x0 x1 x2, A0 x0 x1 x2 ∧ A1 x0 x1 x2 := ⟨x0, x1, x2, a0, a1⟩
theorem el_4_0.{u0, u1, u2, u3} {α0 : Sort u0} {α1 : Sort u1} {α2 : Sort u2} {α3 : Sort u3} {A0 : α0 → α1 → α2 → α3 → Prop} {P : Prop} (h : ∃ x0 x1 x2 x3, A0 x0 x1 x2 x3) (k : ∀ x0 x1 x2 x3, A0 x0 x1 x2 x3 → P) : P := Exists.elim h fun x0 h => Exists.elim h fun x1 h => Exists.elim h fun x2 h => Exists.elim h fun x3 h => k x0 x1 x2 x3 h
theorem in_4_0.{u0, u1, u2, u3} {α0 : Sort u0} {α1 : Sort u1} {α2 : Sort u2} {α3 : Sort u3} {A0 : α0 → α1 → α2 → α3 → Prop} (x0 : α0) (x1 : α1) (x2 : α2) (x3 : α3) (a0 : A0 x0 x1 x2 x3) : ∃ x0 x1 x2 x3, A0 x0 x1 x2 x3 := ⟨x0, x1, x2, x3, a0⟩
theorem el_0_5 {A0 A1 A2 A3 A4 A5 : Prop} {P : Prop} (h : A0 ∧ A1 ∧ A2 ∧ A3 ∧ A4 ∧ A5) (k : A0 → A1 → A2 → A3 → A4 → A5 → P) : P := k h.1 h.2.1 h.2.2.1 h.2.2.2.1 h.2.2.2.2.1 h.2.2.2.2.2
theorem in_0_5 {A0 A1 A2 A3 A4 A5 : Prop} (a0 : A0) (a1 : A1) (a2 : A2) (a3 : A3) (a4 : A4) (a5 : A5) : A0 ∧ A1 ∧ A2 ∧ A3 ∧ A4 ∧ A5 := ⟨a0, a1, a2, a3, a4, a5⟩
theorem el_2_3.{u0, u1} {α0 : Sort u0} {α1 : Sort u1} {A0 A1 A2 A3 : α0 → α1 → Prop} {P : Prop} (h : ∃ x0 x1, A0 x0 x1 ∧ A1 x0 x1 ∧ A2 x0 x1 ∧ A3 x0 x1) (k : ∀ x0 x1, A0 x0 x1 → A1 x0 x1 → A2 x0 x1 → A3 x0 x1 → P) : P := Exists.elim h fun x0 h => Exists.elim h fun x1 h => k x0 x1 h.1 h.2.1 h.2.2.1 h.2.2.2
theorem in_2_3.{u0, u1} {α0 : Sort u0} {α1 : Sort u1} {A0 A1 A2 A3 : α0 → α1 → Prop} (x0 : α0) (x1 : α1) (a0 : A0 x0 x1) (a1 : A1 x0 x1) (a2 : A2 x0 x1) (a3 : A3 x0 x1) : ∃ x0 x1, A0 x0 x1 ∧ A1 x0 x1 ∧ A2 x0 x1 ∧ A3 x0 x1 := ⟨x0, x1, a0, a1, a2, a3⟩
theorem el_3_2.{u0, u1, u2} {α0 : Sort u0} {α1 : Sort u1} {α2 : Sort u2} {A0 A1 A2 : α0 → α1 → α2 → Prop} {P : Prop} (h : ∃ x0 x1 x2, A0 x0 x1 x2 ∧ A1 x0 x1 x2 ∧ A2 x0 x1 x2) (k : ∀ x0 x1 x2, A0 x0 x1 x2 → A1 x0 x1 x2 → A2 x0 x1 x2 → P) : P := Exists.elim h fun x0 h => Exists.elim h fun x1 h => Exists.elim h fun x2 h => k x0 x1 x2 h.1 h.2.1 h.2.2
theorem in_3_2.{u0, u1, u2} {α0 : Sort u0} {α1 : Sort u1} {α2 : Sort u2} {A0 A1 A2 : α0 → α1 → α2 → Prop} (x0 : α0) (x1 : α1) (x2 : α2) (a0 : A0 x0 x1 x2) (a1 : A1 x0 x1 x2) (a2 : A2 x0 x1 x2) : ∃ x0 x1 x2, A0 x0 x1 x2 ∧ A1 x0 x1 x2 ∧ A2 x0 x1 x2 := ⟨x0, x1, x2, a0, a1, a2⟩
theorem el_4_1.{u0, u1, u2, u3} {α0 : Sort u0} {α1 : Sort u1} {α2 : Sort u2} {α3 : Sort u3} {A0 A1 : α0 → α1 → α2 → α3 → Prop} {P : Prop} (h : ∃ x0 x1 x2 x3, A0 x0 x1 x2 x3 ∧ A1 x0 x1 x2 x3) (k : ∀ x0 x1 x2 x3, A0 x0 x1 x2 x3 → A1 x0 x1 x2 x3 → P) : P := Exists.elim h fun x0 h => Exists.elim h fun x1 h => Exists.elim h fun x2 h => Exists.elim h fun x3 h => k x0 x1 x2 x3 h.1 h.2
theorem in_4_1.{u0, u1, u2, u3} {α0 : Sort u0} {α1 : Sort u1} {α2 : Sort u2} {α3 : Sort u3} {A0 A1 : α0 → α1 → α2 → α3 → Prop} (x0 : α0) (x1 : α1) (x2 : α2) (x3 : α3) (a0 : A0 x0 x1 x2 x3) (a1 : A1 x0 x1 x2 x3) : ∃ x0 x1 x2 x3, A0 x0 x1 x2 x3 ∧ A1 x0 x1 x2 x3 := ⟨x0, x1, x2, x3, a0, a1⟩
theorem el_5_0.{u0, u1, u2, u3, u4} {α0 : Sort u0} {α1 : Sort u1} {α2 : Sort u2} {α3 : Sort u3} {α4 : Sort u4} {A0 : α0 → α1 → α2 → α3 → α4 → Prop} {P : Prop} (h : ∃ x0 x1 x2 x3 x4, A0 x0 x1 x2 x3 x4) (k : ∀ x0 x1 x2 x3 x4, A0 x0 x1 x2 x3 x4 → P) : P := Exists.elim h fun x0 h => Exists.elim h fun x1 h => Exists.elim h fun x2 h => Exists.elim h fun x3 h => Exists.elim h fun x4 h => k x0 x1 x2 x3 x4 h
theorem in_5_0.{u0, u1, u2, u3, u4} {α0 : Sort u0} {α1 : Sort u1} {α2 : Sort u2} {α3 : Sort u3} {α4 : Sort u4} {A0 : α0 → α1 → α2 → α3 → α4 → Prop} (x0 : α0) (x1 : α1) (x2 : α2) (x3 : α3) (x4 : α4) (a0 : A0 x0 x1 x2 x3 x4) : ∃ x0 x1 x2 x3 x4, A0 x0 x1 x2 x3 x4 := ⟨x0, x1, x2, x3, x4, a0⟩
theorem el_0_6 {A0 A1 A2 A3 A4 A5 A6 : Prop} {P : Prop} (h : A0 ∧ A1 ∧ A2 ∧ A3 ∧ A4 ∧ A5 ∧ A6) (k : A0 → A1 → A2 → A3 → A4 → A5 → A6 → P) : P := k h.1 h.2.1 h.2.2.1 h.2.2.2.1 h.2.2.2.2.1 h.2.2.2.2.2.1 h.2.2.2.2.2.2
theorem el_1_5.{u0} {α0 : Sort u0} {A0 A1 A2 A3 A4 A5 : α0 → Prop} {P : Prop} (h : ∃ x0, A0 x0 ∧ A1 x0 ∧ A2 x0 ∧ A3 x0 ∧ A4 x0 ∧ A5 x0) (k : ∀ x0, A0 x0 → A1 x0 → A2 x0 → A3 x0 → A4 x0 → A5 x0 → P) : P := Exists.elim h fun x0 h => k x0 h.1 h.2.1 h.2.2.1 h.2.2.2.1 h.2.2.2.2.1 h.2.2.2.2.2
theorem in_1_5.{u0} {α0 : Sort u0} {A0 A1 A2 A3 A4 A5 : α0 → Prop} (x0 : α0) (a0 : A0 x0) (a1 : A1 x0) (a2 : A2 x0) (a3 : A3 x0) (a4 : A4 x0) (a5 : A5 x0) : ∃ x0, A0 x0 ∧ A1 x0 ∧ A2 x0 ∧ A3 x0 ∧ A4 x0 ∧ A5 x0 := ⟨x0, a0, a1, a2, a3, a4, a5⟩
theorem el_2_4.{u0, u1} {α0 : Sort u0} {α1 : Sort u1} {A0 A1 A2 A3 A4 : α0 → α1 → Prop} {P : Prop} (h : ∃ x0 x1, A0 x0 x1 ∧ A1 x0 x1 ∧ A2 x0 x1 ∧ A3 x0 x1 ∧ A4 x0 x1) (k : ∀ x0 x1, A0 x0 x1 → A1 x0 x1 → A2 x0 x1 → A3 x0 x1 → A4 x0 x1 → P) : P := Exists.elim h fun x0 h => Exists.elim h fun x1 h => k x0 x1 h.1 h.2.1 h.2.2.1 h.2.2.2.1 h.2.2.2.2
theorem in_2_4.{u0, u1} {α0 : Sort u0} {α1 : Sort u1} {A0 A1 A2 A3 A4 : α0 → α1 → Prop} (x0 : α0) (x1 : α1) (a0 : A0 x0 x1) (a1 : A1 x0 x1) (a2 : A2 x0 x1) (a3 : A3 x0 x1) (a4 : A4 x0 x1) : ∃ x0 x1, A0 x0 x1 ∧ A1 x0 x1 ∧ A2 x0 x1 ∧ A3 x0 x1 ∧ A4 x0 x1 := ⟨x0, x1, a0, a1, a2, a3, a4⟩
theorem el_3_3.{u0, u1, u2} {α0 : Sort u0} {α1 : Sort u1} {α2 : Sort u2} {A0 A1 A2 A3 : α0 → α1 → α2 → Prop} {P : Prop} (h : ∃ x0 x1 x2, A0 x0 x1 x2 ∧ A1 x0 x1 x2 ∧ A2 x0 x1 x2 ∧ A3 x0 x1 x2) (k : ∀ x0 x1 x2, A0 x0 x1 x2 → A1 x0 x1 x2 → A2 x0 x1 x2 → A3 x0 x1 x2 → P) : P := Exists.elim h fun x0 h => Exists.elim h fun x1 h => Exists.elim h fun x2 h => k x0 x1 x2 h.1 h.2.1 h.2.2.1 h.2.2.2
theorem in_3_3.{u0, u1, u2} {α0 : Sort u0} {α1 : Sort u1} {α2 : Sort u2} {A0 A1 A2 A3 : α0 → α1 → α2 → Prop} (x0 : α0) (x1 : α1) (x2 : α2) (a0 : A0 x0 x1 x2) (a1 : A1 x0 x1 x2) (a2 : A2 x0 x1 x2) (a3 : A3 x0 x1 x2) : ∃ x0 x1 x2, A0 x0 x1 x2 ∧ A1 x0 x1 x2 ∧ A2 x0 x1 x2 ∧ A3 x0 x1 x2 := ⟨x0, x1, x2, a0, a1, a2, a3⟩
theorem in_1_6.{u0} {α0 : Sort u0} {A0 A1 A2 A3 A4 A5 A6 : α0 → Prop} (x0 : α0) (a0 : A0 x0) (a1 : A1 x0) (a2 : A2 x0) (a3 : A3 x0) (a4 : A4 x0) (a5 : A5 x0) (a6 : A6 x0) : ∃ x0, A0 x0 ∧ A1 x0 ∧ A2 x0 ∧ A3 x0 ∧ A4 x0 ∧ A5 x0 ∧ A6 x0 := ⟨x0, a0, a1, a2, a3, a4, a5, a6⟩
theorem in_3_4.{u0, u1, u2} {α0 : Sort u0} {α1 : Sort u1} {α2 : Sort u2} {A0 A1 A2 A3 A4 : α0 → α1 → α2 → Prop} (x0 : α0) (x1 : α1) (x2 : α2) (a0 : A0 x0 x1 x2) (a1 : A1 x0 x1 x2) (a2 : A2 x0 x1 x2) (a3 : A3 x0 x1 x2) (a4 : A4 x0 x1 x2) : ∃ x0 x1 x2, A0 x0 x1 x2 ∧ A1 x0 x1 x2 ∧ A2 x0 x1 x2 ∧ A3 x0 x1 x2 ∧ A4 x0 x1 x2 := ⟨x0, x1, x2, a0, a1, a2, a3, a4⟩
theorem el_4_3.{u0, u1, u2, u3} {α0 : Sort u0} {α1 : Sort u1} {α2 : Sort u2} {α3 : Sort u3} {A0 A1 A2 A3 : α0 → α1 → α2 → α3 → Prop} {P : Prop} (h : ∃ x0 x1 x2 x3, A0 x0 x1 x2 x3 ∧ A1 x0 x1 x2 x3 ∧ A2 x0 x1 x2 x3 ∧ A3 x0 x1 x2 x3) (k : ∀ x0 x1 x2 x3, A0 x0 x1 x2 x3 → A1 x0 x1 x2 x3 → A2 x0 x1 x2 x3 → A3 x0 x1 x2 x3 → P) : P := Exists.elim h fun x0 h => Exists.elim h fun x1 h => Exists.elim h fun x2 h => Exists.elim h fun x3 h => k x0 x1 x2 x3 h.1 h.2.1 h.2.2.1 h.2.2.2
theorem in_4_3.{u0, u1, u2, u3} {α0 : Sort u0} {α1 : Sort u1} {α2 : Sort u2} {α3 : Sort u3} {A0 A1 A2 A3 : α0 → α1 → α2 → α3 → Prop} (x0 : α0) (x1 : α1) (x2 : α2) (x3 : α3) (a0 : A0 x0 x1 x2 x3) (a1 : A1 x0 x1 x2 x3) (a2 : A2 x0 x1 x2 x3) (a3 : A3 x0 x1 x2 x3) : ∃ x0 x1 x2 x3, A0 x0 x1 x2 x3 ∧ A1 x0 x1 x2 x3 ∧ A2 x0 x1 x2 x3 ∧ A3 x0 x1 x2 x3 := ⟨x0, x1, x2, x3, a0, a1, a2, a3⟩
theorem el_6_1.{u0, u1, u2, u3, u4, u5} {α0 : Sort u0} {α1 : Sort u1} {α2 : Sort u2} {α3 : Sort u3} {α4 : Sort u4} {α5 : Sort u5} {A0 A1 : α0 → α1 → α2 → α3 → α4 → α5 → Prop} {P : Prop} (h : ∃ x0 x1 x2 x3 x4 x5, A0 x0 x1 x2 x3 x4 x5 ∧ A1 x0 x1 x2 x3 x4 x5) (k : ∀ x0 x1 x2 x3 x4 x5, A0 x0 x1 x2 x3 x4 x5 → A1 x0 x1 x2 x3 x4 x5 → P) : P := Exists.elim h fun x0 h => Exists.elim h fun x1 h => Exists.elim h fun x2 h => Exists.elim h fun x3 h => Exists.elim h fun x4 h => Exists.elim h fun x5 h => k x0 x1 x2 x3 x4 x5 h.1 h.2
theorem el_7_0.{u0, u1, u2, u3, u4, u5, u6} {α0 : Sort u0} {α1 : Sort u1} {α2 : Sort u2} {α3 : Sort u3} {α4 : Sort u4} {α5 : Sort u5} {α6 : Sort u6} {A0 : α0 → α1 → α2 → α3 → α4 → α5 → α6 → Prop} {P : Prop} (h : ∃ x0 x1 x2 x3 x4 x5 x6, A0 x0 x1 x2 x3 x4 x5 x6) (k : ∀ x0 x1 x2 x3 x4 x5 x6, A0 x0 x1 x2 x3 x4 x5 x6 → P) : P := Exists.elim h fun x0 h => Exists.elim h fun x1 h => Exists.elim h fun x2 h => Exists.elim h fun x3 h => Exists.elim h fun x4 h => Exists.elim h fun x5 h => Exists.elim h fun x6 h => k x0 x1 x2 x3 x4 x5 x6 h
theorem in_7_0.{u0, u1, u2, u3, u4, u5, u6} {α0 : Sort u0} {α1 : Sort u1} {α2 : Sort u2} {α3 : Sort u3} {α4 : Sort u4} {α5 : Sort u5} {α6 : Sort u6} {A0 : α0 → α1 → α2 → α3 → α4 → α5 → α6 → Prop} (x0 : α0) (x1 : α1) (x2 : α2) (x3 : α3) (x4 : α4) (x5 : α5) (x6 : α6) (a0 : A0 x0 x1 x2 x3 x4 x5 x6) : ∃ x0 x1 x2 x3 x4 x5 x6, A0 x0 x1 x2 x3 x4 x5 x6 := ⟨x0, x1, x2, x3, x4, x5, x6, a0⟩
theorem el_0_8 {A0 A1 A2 A3 A4 A5 A6 A7 A8 : Prop} {P : Prop} (h : A0 ∧ A1 ∧ A2 ∧ A3 ∧ A4 ∧ A5 ∧ A6 ∧ A7 ∧ A8) (k : A0 → A1 → A2 → A3 → A4 → A5 → A6 → A7 → A8 → P) : P := k h.1 h.2.1 h.2.2.1 h.2.2.2.1 h.2.2.2.2.1 h.2.2.2.2.2.1 h.2.2.2.2.2.2.1 h.2.2.2.2.2.2.2.1 h.2.2.2.2.2.2.2.2
theorem in_0_8 {A0 A1 A2 A3 A4 A5 A6 A7 A8 : Prop} (a0 : A0) (a1 : A1) (a2 : A2) (a3 : A3) (a4 : A4) (a5 : A5) (a6 : A6) (a7 : A7) (a8 : A8) : A0 ∧ A1 ∧ A2 ∧ A3 ∧ A4 ∧ A5 ∧ A6 ∧ A7 ∧ A8 := ⟨a0, a1, a2, a3, a4, a5, a6, a7, a8⟩
theorem in_3_5.{u0, u1, u2} {α0 : Sort u0} {α1 : Sort u1} {α2 : Sort u2} {A0 A1 A2 A3 A4 A5 : α0 → α1 → α2 → Prop} (x0 : α0) (x1 : α1) (x2 : α2) (a0 : A0 x0 x1 x2) (a1 : A1 x0 x1 x2) (a2 : A2 x0 x1 x2) (a3 : A3 x0 x1 x2) (a4 : A4 x0 x1 x2) (a5 : A5 x0 x1 x2) : ∃ x0 x1 x2, A0 x0 x1 x2 ∧ A1 x0 x1 x2 ∧ A2 x0 x1 x2 ∧ A3 x0 x1 x2 ∧ A4 x0 x1 x2 ∧ A5 x0 x1 x2 := ⟨x0, x1, x2, a0, a1, a2, a3, a4, a5⟩
theorem el_8_0.{u0, u1, u2, u3, u4, u5, u6, u7} {α0 : Sort u0} {α1 : Sort u1} {α2 : Sort u2} {α3 : Sort u3} {α4 : Sort u4} {α5 : Sort u5} {α6 : Sort u6} {α7 : Sort u7} {A0 : α0 → α1 → α2 → α3 → α4 → α5 → α6 → α7 → Prop} {P : Prop} (h : ∃ x0 x1 x2 x3 x4 x5 x6 x7, A0 x0 x1 x2 x3 x4 x5 x6 x7) (k : ∀ x0 x1 x2 x3 x4 x5 x6 x7, A0 x0 x1 x2 x3 x4 x5 x6 x7 → P) : P := Exists.elim h fun x0 h => Exists.elim h fun x1 h => Exists.elim h fun x2 h => Exists.elim h fun x3 h => Exists.elim h fun x4 h => Exists.elim h fun x5 h => Exists.elim h fun x6 h => Exists.elim h fun x7 h => k x0 x1 x2 x3 x4 x5 x6 x7 h
theorem in_8_0.{u0, u1, u2, u3, u4, u5, u6, u7} {α0 : Sort u0} {α1 : Sort u1} {α2 : Sort u2} {α3 : Sort u3} {α4 : Sort u4} {α5 : Sort u5} {α6 : Sort u6} {α7 : Sort u7} {A0 : α0 → α1 → α2 → α3 → α4 → α5 → α6 → α7 → Prop} (x0 : α0) (x1 : α1) (x2 : α2) (x3 : α3) (x4 : α4) (x5 : α5) (x6 : α6) (x7 : α7) (a0 : A0 x0 x1 x2 x3 x4 x5 x6 x7) : ∃ x0 x1 x2 x3 x4 x5 x6 x7, A0 x0 x1 x2 x3 x4 x5 x6 x7 := ⟨x0, x1, x2, x3, x4, x5, x6, x7, a0⟩
theorem el_3_6.{u0, u1, u2} {α0 : Sort u0} {α1 : Sort u1} {α2 : Sort u2} {A0 A1 A2 A3 A4 A5 A6 : α0 → α1 → α2 → Prop} {P : Prop} (h : ∃ x0 x1 x2, A0 x0 x1 x2 ∧ A1 x0 x1 x2 ∧ A2 x0 x1 x2 ∧ A3 x0 x1 x2 ∧ A4 x0 x1 x2 ∧ A5 x0 x1 x2 ∧ A6 x0 x1 x2) (k : ∀ x0 x1 x2, A0 x0 x1 x2 → A1 x0 x1 x2 → A2 x0 x1 x2 → A3 x0 x1 x2 → A4 x0 x1 x2 → A5 x0 x1 x2 → A6 x0 x1 x2 → P) : P := Exists.elim h fun x0 h => Exists.elim h fun x1 h => Exists.elim h fun x2 h => k x0 x1 x2 h.1 h.2.1 h.2.2.1 h.2.2.2.1 h.2.2.2.2.1 h.2.2.2.2.2.1 h.2.2.2.2.2.2
theorem in_3_6.{u0, u1, u2} {α0 : Sort u0} {α1 : Sort u1} {α2 : Sort u2} {A0 A1 A2 A3 A4 A5 A6 : α0 → α1 → α2 → Prop} (x0 : α0) (x1 : α1) (x2 : α2) (a0 : A0 x0 x1 x2) (a1 : A1 x0 x1 x2) (a2 : A2 x0 x1 x2) (a3 : A3 x0 x1 x2) (a4 : A4 x0 x1 x2) (a5 : A5 x0 x1 x2) (a6 : A6 x0 x1 x2) : ∃ x0 x1 x2, A0 x0 x1 x2 ∧ A1 x0 x1 x2 ∧ A2 x0 x1 x2 ∧ A3 x0 x1 x2 ∧ A4 x0 x1 x2 ∧ A5 x0 x1 x2 ∧ A6 x0 x1 x2 := ⟨x0, x1, x2, a0, a1, a2, a3, a4, a5, a6⟩
theorem in_6_3.{u0, u1, u2, u3, u4, u5} {α0 : Sort u0} {α1 : Sort u1} {α2 : Sort u2} {α3 : Sort u3} {α4 : Sort u4} {α5 : Sort u5} {A0 A1 A2 A3 : α0 → α1 → α2 → α3 → α4 → α5 → Prop} (x0 : α0) (x1 : α1) (x2 : α2) (x3 : α3) (x4 : α4) (x5 : α5) (a0 : A0 x0 x1 x2 x3 x4 x5) (a1 : A1 x0 x1 x2 x3 x4 x5) (a2 : A2 x0 x1 x2 x3 x4 x5) (a3 : A3 x0 x1 x2 x3 x4 x5) : ∃ x0 x1 x2 x3 x4 x5, A0 x0 x1 x2 x3 x4 x5 ∧ A1 x0 x1 x2 x3 x4 x5 ∧ A2 x0 x1 x2 x3 x4 x5 ∧ A3 x0 x1 x2 x3 x4 x5 := ⟨x0, x1, x2, x3, x4, x5, a0, a1, a2, a3⟩
theorem el_2_8.{u0, u1} {α0 : Sort u0} {α1 : Sort u1} {A0 A1 A2 A3 A4 A5 A6 A7 A8 : α0 → α1 → Prop} {P : Prop} (h : ∃ x0 x1, A0 x0 x1 ∧ A1 x0 x1 ∧ A2 x0 x1 ∧ A3 x0 x1 ∧ A4 x0 x1 ∧ A5 x0 x1 ∧ A6 x0 x1 ∧ A7 x0 x1 ∧ A8 x0 x1) (k : ∀ x0 x1, A0 x0 x1 → A1 x0 x1 → A2 x0 x1 → A3 x0 x1 → A4 x0 x1 → A5 x0 x1 → A6 x0 x1 → A7 x0 x1 → A8 x0 x1 → P) : P := Exists.elim h fun x0 h => Exists.elim h fun x1 h => k x0 x1 h.1 h.2.1 h.2.2.1 h.2.2.2.1 h.2.2.2.2.1 h.2.2.2.2.2.1 h.2.2.2.2.2.2.1 h.2.2.2.2.2.2.2.1 h.2.2.2.2.2.2.2.2
theorem in_2_8.{u0, u1} {α0 : Sort u0} {α1 : Sort u1} {A0 A1 A2 A3 A4 A5 A6 A7 A8 : α0 → α1 → Prop} (x0 : α0) (x1 : α1) (a0 : A0 x0 x1) (a1 : A1 x0 x1) (a2 : A2 x0 x1) (a3 : A3 x0 x1) (a4 : A4 x0 x1) (a5 : A5 x0 x1) (a6 : A6 x0 x1) (a7 : A7 x0 x1) (a8 : A8 x0 x1) : ∃ x0 x1, A0 x0 x1 ∧ A1 x0 x1 ∧ A2 x0 x1 ∧ A3 x0 x1 ∧ A4 x0 x1 ∧ A5 x0 x1 ∧ A6 x0 x1 ∧ A7 x0 x1 ∧ A8 x0 x1 := ⟨x0, x1, a0, a1, a2, a3, a4, a5, a6, a7, a8⟩
theorem el_4_6.{u0, u1, u2, u3} {α0 : Sort u0} {α1 : Sort u1} {α2 : Sort u2} {α3 : Sort u3} {A0 A1 A2 A3 A4 A5 A6 : α0 → α1 → α2 → α3 → Prop} {P : Prop} (h : ∃ x0 x1 x2 x3, A0 x0 x1 x2 x3 ∧ A1 x0 x1 x2 x3 ∧ A2 x0 x1 x2 x3 ∧ A3 x0 x1 x2 x3 ∧ A4 x0 x1 x2 x3 ∧ A5 x0 x1 x2 x3 ∧ A6 x0 x1 x2 x3) (k : ∀ x0 x1 x2 x3, A0 x0 x1 x2 x3 → A1 x0 x1 x2 x3 → A2 x0 x1 x2 x3 → A3 x0 x1 x2 x3 → A4 x0 x1 x2 x3 → A5 x0 x1 x2 x3 → A6 x0 x1 x2 x3 → P) : P := Exists.elim h fun x0 h => Exists.elim h fun x1 h => Exists.elim h fun x2 h => Exists.elim h fun x3 h => k x0 x1 x2 x3 h.1 h.2.1 h.2.2.1 h.2.2.2.1 h.2.2.2.2.1 h.2.2.2.2.2.1 h.2.2.2.2.2.2
theorem in_4_6.{u0, u1, u2, u3} {α0 : Sort u0} {α1 : Sort u1} {α2 : Sort u2} {α3 : Sort u3} {A0 A1 A2 A3 A4 A5 A6 : α0 → α1 → α2 → α3 → Prop} (x0 : α0) (x1 : α1) (x2 : α2) (x3 : α3) (a0 : A0 x0 x1 x2 x3) (a1 : A1 x0 x1 x2 x3) (a2 : A2 x0 x1 x2 x3) (a3 : A3 x0 x1 x2 x3) (a4 : A4 x0 x1 x2 x3) (a5 : A5 x0 x1 x2 x3) (a6 : A6 x0 x1 x2 x3) : ∃ x0 x1 x2 x3, A0 x0 x1 x2 x3 ∧ A1 x0 x1 x2 x3 ∧ A2 x0 x1 x2 x3 ∧ A3 x0 x1 x2 x3 ∧ A4 x0 x1 x2 x3 ∧ A5 x0 x1 x2 x3 ∧ A6 x0 x1 x2 x3 := ⟨x0, x1, x2, x3, a0, a1, a2, a3, a4, a5, a6⟩
theorem el_10_0.{u0, u1, u2, u3, u4, u5, u6, u7, u8, u9} {α0 : Sort u0} {α1 : Sort u1} {α2 : Sort u2} {α3 : Sort u3} {α4 : Sort u4} {α5 : Sort u5} {α6 : Sort u6} {α7 : Sort u7} {α8 : Sort u8} {α9 : Sort u9} {A0 : α0 → α1 → α2 → α3 → α4 → α5 → α6 → α7 → α8 → α9 → Prop} {P : Prop} (h : ∃ x0 x1 x2 x3 x4 x5 x6 x7 x8 x9, A0 x0 x1 x2 x3 x4 x5 x6 x7 x8 x9) (k : ∀ x0 x1 x2 x3 x4 x5 x6 x7 x8 x9, A0 x0 x1 x2 x3 x4 x5 x6 x7 x8 x9 → P) : P := Exists.elim h fun x0 h => Exists.elim h fun x1 h => Exists.elim h fun x2 h => Exists.elim h fun x3 h => Exists.elim h fun x4 h => Exists.elim h fun x5 h => Exists.elim h fun x6 h => Exists.elim h fun x7 h => Exists.elim h fun x8 h => Exists.elim h fun x9 h => k x0 x1 x2 x3 x4 x5 x6 x7 x8 x9 h
theorem in_10_0.{u0, u1, u2, u3, u4, u5, u6, u7, u8, u9} {α0 : Sort u0} {α1 : Sort u1} {α2 : Sort u2} {α3 : Sort u3} {α4 : Sort u4} {α5 : Sort u5} {α6 : Sort u6} {α7 : Sort u7} {α8 : Sort u8} {α9 : Sort u9} {A0 : α0 → α1 → α2 → α3 → α4 → α5 → α6 → α7 → α8 → α9 → Prop} (x0 : α0) (x1 : α1) (x2 : α2) (x3 : α3) (x4 : α4) (x5 : α5) (x6 : α6) (x7 : α7) (x8 : α8) (x9 : α9) (a0 : A0 x0 x1 x2 x3 x4 x5 x6 x7 x8 x9) : ∃ x0 x1 x2 x3 x4 x5 x6 x7 x8 x9, A0 x0 x1 x2 x3 x4 x5 x6 x7 x8 x9 := ⟨x0, x1, x2, x3, x4, x5, x6, x7, x8, x9, a0⟩
theorem in_4_7.{u0, u1, u2, u3} {α0 : Sort u0} {α1 : Sort u1} {α2 : Sort u2} {α3 : Sort u3} {A0 A1 A2 A3 A4 A5 A6 A7 : α0 → α1 → α2 → α3 → Prop} (x0 : α0) (x1 : α1) (x2 : α2) (x3 : α3) (a0 : A0 x0 x1 x2 x3) (a1 : A1 x0 x1 x2 x3) (a2 : A2 x0 x1 x2 x3) (a3 : A3 x0 x1 x2 x3) (a4 : A4 x0 x1 x2 x3) (a5 : A5 x0 x1 x2 x3) (a6 : A6 x0 x1 x2 x3) (a7 : A7 x0 x1 x2 x3) : ∃ x0 x1 x2 x3, A0 x0 x1 x2 x3 ∧ A1 x0 x1 x2 x3 ∧ A2 x0 x1 x2 x3 ∧ A3 x0 x1 x2 x3 ∧ A4 x0 x1 x2 x3 ∧ A5 x0 x1 x2 x3 ∧ A6 x0 x1 x2 x3 ∧ A7 x0 x1 x2 x3 := ⟨x0, x1, x2, x3, a0, a1, a2, a3, a4, a5, a6, a7⟩
theorem in_11_0.{u0, u1, u2, u3, u4, u5, u6, u7, u8, u9, u10} {α0 : Sort u0} {α1 : Sort u1} {α2 : Sort u2} {α3 : Sort u3} {α4 : Sort u4} {α5 : Sort u5} {α6 : Sort u6} {α7 : Sort u7} {α8 : Sort u8} {α9 : Sort u9} {α10 : Sort u10} {A0 : α0 → α1 → α2 → α3 → α4 → α5 → α6 → α7 → α8 → α9 → α10 → Prop} (x0 : α0) (x1 : α1) (x2 : α2) (x3 : α3) (x4 : α4) (x5 : α5) (x6 : α6) (x7 : α7) (x8 : α8) (x9 : α9) (x10 : α10) (a0 : A0 x0 x1 x2 x3 x4 x5 x6 x7 x8 x9 x10) : ∃ x0 x1 x2 x3 x4 x5 x6 x7 x8 x9 x10, A0 x0 x1 x2 x3 x4 x5 x6 x7 x8 x9 x10 := ⟨x0, x1, x2, x3, x4, x5, x6, x7, x8, x9, x10, a0⟩
theorem in_4_8.{u0, u1, u2, u3} {α0 : Sort u0} {α1 : Sort u1} {α2 : Sort u2} {α3 : Sort u3} {A0 A1 A2 A3 A4 A5 A6 A7 A8 : α0 → α1 → α2 → α3 → Prop} (x0 : α0) (x1 : α1) (x2 : α2) (x3 : α3) (a0 : A0 x0 x1 x2 x3) (a1 : A1 x0 x1 x2 x3) (a2 : A2 x0 x1 x2 x3) (a3 : A3 x0 x1 x2 x3) (a4 : A4 x0 x1 x2 x3) (a5 : A5 x0 x1 x2 x3) (a6 : A6 x0 x1 x2 x3) (a7 : A7 x0 x1 x2 x3) (a8 : A8 x0 x1 x2 x3) : ∃ x0 x1 x2 x3, A0 x0 x1 x2 x3 ∧ A1 x0 x1 x2 x3 ∧ A2 x0 x1 x2 x3 ∧ A3 x0 x1 x2 x3 ∧ A4 x0 x1 x2 x3 ∧ A5 x0 x1 x2 x3 ∧ A6 x0 x1 x2 x3 ∧ A7 x0 x1 x2 x3 ∧ A8 x0 x1 x2 x3 := ⟨x0, x1, x2, x3, a0, a1, a2, a3, a4, a5, a6, a7, a8⟩
end Mine
open PySem PySem.W PySem.Calls PyProof.Rows
set_option Elab.async false
set_option linter.all false
set_option maxRecDepth 100000
set_option genSizeOf false
namespace Mine

/-- clean values -/
inductive CV where
  | none | bool (b : Bool) | int (i : Int) | str (s : Str) | tup (vs : List CV) | lst (vs : List CV) | loc (a : Addr) | raw (v : Value)
  | rng (a b : Int) | obj (C : Addr) (as : List (Str × CV))
  deriving Inhabited

/-- clean objects -/
inductive CO where
  | list (vs : List CV) | dict (es : List (Str × CV)) | iset (vs : List Int) | set (vs : List (List Str × Int)) | inst (C d : Addr) | froz (o : Obj)
  deriving Inhabited

noncomputable abbrev IM := Addr → Option Obj
noncomputable abbrev CH := Addr → Option CO

mutual
noncomputable def VR (I : IM) : CV → Value → Prop
  | .none, v => v = .none
  | .bool b, v => v = .bool b
  | .int i, v => ∃ t, v = .int i t
  | .str s, v => ∃ t, v = .str s t
  | .tup vs, v => ∃ a n xs, v = .ref a ∧ I a = some ⟨.type "tuple", .none, .seq xs n, #[]⟩ ∧ VRs I vs xs.toList
  | .lst vs, v => ∃ a n xs, v = .ref a ∧ I a = some ⟨.type "list", .none, .seq xs n, #[]⟩ ∧ VRs I vs xs.toList
  | .loc a, v => v = .ref a
  | .raw u, v => v = u
  | .rng a b, v => ∃ ad t u x, v = .ref ad ∧ I ad = some ⟨.type "range", .none, .fields #[.int a t, .int b u, .int 1 x], #[]⟩
  | .obj C as, v => ∃ ad d ds n, v = .ref ad ∧ I ad = some ⟨.ref C, some d, .plain, #[]⟩ ∧ I d = some ⟨.type "dict", .none, .dict ds n, #[]⟩ ∧ VAs I as ds.toList
noncomputable def VAs (I : IM) : List (Str × CV) → List DictEntry → Prop
  | [], ds => ds = []
  | (k, c) :: as, ds => ∃ d ds', ds = d :: ds' ∧ (∃ t, d.key = .str k t) ∧ VR I c d.val ∧ VAs I as ds'
noncomputable def VRs (I : IM) : List CV → List Value → Prop
  | [], xs => xs = []
  | c :: cs, xs => ∃ x xs', xs = x :: xs' ∧ VR I c x ∧ VRs I cs xs'
end

noncomputable def ILe (I I' : IM) : Prop := ∀ a o, I a = some o → I' a = some o
theorem ILe.refl (I : IM) : ILe I I := fun _ _ e => e
theorem ILe.trans {I J K : IM} (x : ILe I J) (y : ILe J K) : ILe I K := fun a o e => y a o (x a o e)

mutual
theorem VR.mono {I J : IM} (h : ILe I J) : ∀ (c : CV) (v : Value), VR I c v → VR J c v
  | .none, v, x => by simpa [VR] using x
  | .bool b, v, x => by simpa [VR] using x
  | .int i, v, x => by simpa [VR] using x
  | .str s, v, x => by simpa [VR] using x
  | .tup vs, v, x => by
    simp only [VR] at x ⊢
    (refine el_3_2 x fun a n xs e hi hr => ?_; try clear x)
    exact (in_3_2 a n xs e (h _ _ hi) (VRs.mono h vs _ hr))
  | .lst vs, v, x => by
    simp only [VR] at x ⊢
    (refine el_3_2 x fun a n xs e hi hr => ?_; try clear x)
    exact (in_3_2 a n xs e (h _ _ hi) (VRs.mono h vs _ hr))
  | .loc a, v, x => by simpa [VR] using x
  | .raw u, v, x => by simpa [VR] using x
  | .rng a b, v, x => by
    simp only [VR] at x ⊢
    (refine el_4_1 x fun ad t u y e hi => ?_; try clear x)
    exact (in_4_1 ad t u y e (h _ _ hi))
  | .obj C as, v, x => by
    simp only [VR] at x ⊢
    (refine el_4_3 x fun ad d ds n e hi hj hr => ?_; try clear x)
    exact (in_4_3 ad d ds n e (h _ _ hi) (h _ _ hj) (VAs.mono h as _ hr))
theorem VAs.mono {I J : IM} (h : ILe I J) : ∀ (as : List (Str × CV)) (ds : List DictEntry), VAs I as ds → VAs J as ds
  | [], ds, x => by simpa [VAs] using x
  | (k, c) :: as, ds, x => by
    simp only [VAs] at x ⊢
    (refine el_2_3 x fun d ds' e h1 h2 h3 => ?_; try clear x)
    exact (in_2_3 d ds' e h1 (VR.mono h c _ h2) (VAs.mono h as ds' h3))
theorem VRs.mono {I J : IM} (h : ILe I J) : ∀ (cs : List CV) (vs : List Value), VRs I cs vs → VRs J cs vs
  | [], vs, x => by simpa [VRs] using x
  | c :: cs, vs, x => by
    simp only [VRs] at x ⊢
    (refine el_2_2 x fun y ys e h1 h2 => ?_; try clear x)
    exact (in_2_2 y ys e (VR.mono h c y h1) (VRs.mono h cs ys h2))
end

theorem VRs.nil {I : IM} : VRs I [] [] := by simp [VRs]
theorem VRs.cons {I : IM} {c : CV} {cs : List CV} {v : Value} {vs : List Value} (h : VR I c v) (hs : VRs I cs vs) : VRs I (c :: cs) (v :: vs) := by
  simp only [VRs]; exact (in_2_2 v vs rfl h hs)
theorem VRs.length {I : IM} : ∀ {cs : List CV} {vs : List Value}, VRs I cs vs → cs.length = vs.length
  | [], vs, x => by simp [VRs] at x; subst x; rfl
  | c :: cs, vs, x => by
    simp only [VRs] at x
    (refine el_2_1 x fun y ys xEl2 rEl => ?_; try clear x; obtain rfl := xEl2; (refine el_0_1 rEl fun _ h2 => ?_; try clear rEl))
    simp [h2.length]
theorem VRs.get {I : IM} : ∀ {cs : List CV} {vs : List Value} {i : Nat} {c : CV}, VRs I cs vs → cs[i]? = some c → ∃ v, vs[i]? = some v ∧ VR I c v
  | [], vs, i, c, x, h => by simp at h
  | d :: cs, vs, i, c, x, h => by
    simp only [VRs] at x
    (refine el_2_1 x fun y ys xEl2 rEl => ?_; try clear x; obtain rfl := xEl2; (refine el_0_1 rEl fun h1 h2 => ?_; try clear rEl))
    cases i with
    | zero => simp at h; subst h; exact (in_1_1 y (by rfl) h1)
    | succ i => simpa using h2.get (by simpa using h)
theorem VRs.append {I : IM} : ∀ {cs : List CV} {vs : List Value} {cs' : List CV} {vs' : List Value}, VRs I cs vs → VRs I cs' vs' → VRs I (cs ++ cs') (vs ++ vs')
  | [], vs, cs', vs', x, y => by simp [VRs] at x; subst x; simpa using y
  | c :: cs, vs, cs', vs', x, y => by
    simp only [VRs] at x
    (refine el_2_1 x fun u ys xEl2 rEl => ?_; try clear x; obtain rfl := xEl2; (refine el_0_1 rEl fun h1 h2 => ?_; try clear rEl))
    exact .cons h1 (h2.append y)
theorem VRs.split {I : IM} : ∀ {cs : List CV} {vs : List Value} (n : Nat), VRs I cs vs → VRs I (cs.take n) (vs.take n) ∧ VRs I (cs.drop n) (vs.drop n)
  | cs, vs, 0, x => by simpa [VRs] using x
  | [], vs, n + 1, x => by simp [VRs] at x; subst x; simp [VRs]
  | c :: cs, vs, n + 1, x => by
    simp only [VRs] at x
    (refine el_2_1 x fun u ys xEl2 rEl => ?_; try clear x; obtain rfl := xEl2; (refine el_0_1 rEl fun h1 h2 => ?_; try clear rEl))
    (refine el_0_1 (h2.split n) fun a b => ?_)
    exact ⟨.cons h1 a, b⟩
theorem VRs.take {I : IM} {cs : List CV} {vs : List Value} (n : Nat) (x : VRs I cs vs) : VRs I (cs.take n) (vs.take n) := (x.split n).1
theorem VRs.drop {I : IM} {cs : List CV} {vs : List Value} (n : Nat) (x : VRs I cs vs) : VRs I (cs.drop n) (vs.drop n) := (x.split n).2
theorem VRs.uncons {I : IM} {c : CV} {cs : List CV} {vs : List Value} (x : VRs I (c :: cs) vs) : ∃ y ys, vs = y :: ys ∧ VR I c y ∧ VRs I cs ys := by
  simpa only [VRs] using x
theorem VRs.nil_iff {I : IM} {vs : List Value} (x : VRs I [] vs) : vs = [] := by simpa only [VRs] using x
theorem VRs.set {I : IM} : ∀ {cs : List CV} {vs : List Value} {c : CV} {v : Value} (i : Nat), VRs I cs vs → VR I c v → VRs I (cs.set i c) (vs.set i v)
  | [], vs, c, v, i, x, h => by have := x.nil_iff; subst this; simpa using VRs.nil
  | d :: cs, vs, c, v, i, x, h => by
    (refine el_2_1 x.uncons fun y ys xEl2 rEl => ?_; obtain rfl := xEl2; (refine el_0_1 rEl fun h1 h2 => ?_; try clear rEl))
    cases i with
    | zero => exact .cons h h2
    | succ i => exact .cons h1 (h2.set i h)
end Mine
open PySem PySem.W PySem.Calls PyProof.Rows
set_option Elab.async false
set_option linter.all false
set_option maxRecDepth 100000
set_option genSizeOf false
namespace Mine

/-- entries of a dict with str keys -/
noncomputable def ERs (w : World) (I : IM) : List (Str × CV) → List DictEntry → Prop
  | [], ds => ds = []
  | (k, v) :: es, ds => ∃ d ds', ds = d :: ds' ∧ d.hash = hashStr w k ∧ (∃ t, d.key = .str k t) ∧ VR I v d.val ∧ ERs w I es ds'

theorem ERs.mono {w : World} {I J : IM} (h : ILe I J) : ∀ (es : List (Str × CV)) (ds : List DictEntry), ERs w I es ds → ERs w J es ds
  | [], ds, x => by simpa [ERs] using x
  | (k, v) :: es, ds, x => by
    simp only [ERs] at x ⊢
    (refine el_2_4 x fun d ds' e h1 h2 h3 h4 => ?_; try clear x)
    exact (in_2_4 d ds' e h1 h2 (VR.mono h _ _ h3) (ERs.mono h es ds' h4))
theorem ERs.length {w : World} {I : IM} : ∀ {es : List (Str × CV)} {ds : List DictEntry}, ERs w I es ds → es.length = ds.length
  | [], ds, x => by simp [ERs] at x; subst x; rfl
  | (k, v) :: es, ds, x => by
    simp only [ERs] at x
    (refine el_2_1 x fun d ds' xEl2 rEl => ?_; try clear x; obtain rfl := xEl2; (refine el_0_3 rEl fun h1 h2 h3 h4 => ?_; try clear rEl))
    simp [h4.length]

/-- a set of ints, by its members -/
noncomputable def ISet (prog : Program) (w : World) (vs : List Int) (o : Obj) : Prop :=
  ∃ es ep t, o.ExactSet ∧ o.data = .set es ep t ∧ ElemsOf (intKind prog w) es.toList ∧ (∀ k, decide (k ∈ vs) = true ↔ ∃ e ∈ es.toList, (intKind prog w).is k e.2 = true)
    ∧ es.size < scanBound ∧ t.fits es.size = true ∧ es.size = vs.length

/-- strictly rising -/
noncomputable def Rise (xs : Array Nat) : Prop := ∀ i j, i < j → j < xs.size → xs.getD i 0 < xs.getD j 0
/-- the table of a set is well built: the places rise, lie within the mask, no dummies, there is room -/
structure TOk (t : SetTable) (n : Nat) : Prop where
  size : t.place.size = n
  dum : t.dummies = #[]
  rise : Rise t.place
  le : ∀ i, i < t.place.size → t.place.getD i 0 ≤ t.mask
  pow : ∃ m, t.mask + 1 = 2 ^ m
  room : n * 5 < t.mask * 3
  top : t.mask ≤ 8 * n + 7

/-- a pair of a way and a number, as a clean value -/
noncomputable def pcv (p : List Str × Int) : CV := .tup [.tup (p.1.map .str), .int p.2]

noncomputable def pok (p : List Str × Int) : Bool := !p.1.isEmpty && p.1.all PyData.strOk
/-- a set of pairs: what it holds (as often as you like, in any order) -/
noncomputable def PSet (w : World) (I : IM) (vs : List (List Str × Int)) (o : Obj) : Prop :=
  ∃ (es : Array (Int × Value)) (ep : Nat) (t : SetTable) (us : List (List Str × Int)), o.ExactSet ∧ o.data = .set es ep t ∧ (∀ v, v ∈ us ↔ v ∈ vs) ∧ (∀ v, v ∈ vs → pok v = true) ∧ us.length ≤ vs.length ∧ VRs I (us.map pcv) (es.toList.map (·.2)) ∧ TOk t es.size ∧ (0 < es.size → t.plain = false) ∧ (w.params.followText "set-order" = false → t.led = true)
theorem PSet.mono {w : World} {I J : IM} (h : ILe I J) (vs : List (List Str × Int)) (o : Obj) : PSet w I vs o → PSet w J vs o := by
  intro hEl
  (refine el_4_6 hEl fun es ep t us a b c c' d e f => ?_; try clear hEl)
  exact (in_4_6 es ep t us a b c c' d (VRs.mono h _ _ e) f)

noncomputable def OR (prog : Program) (w : World) (I : IM) : CO → Obj → Prop
  | .iset vs, o => ISet prog w vs o
  | .list vs, o => ∃ n xs, o = ⟨.type "list", .none, .seq xs n, #[]⟩ ∧ VRs I vs xs.toList
  | .dict es, o => ∃ n ds, o = ⟨.type "dict", .none, .dict ds n, #[]⟩ ∧ ERs w I es ds.toList
  | .set vs, o => PSet w I vs o
  | .inst C d, o => o = instObj C d
  | .froz o', o => o = o' ∧ ∃ es ep t, o'.data = .set es ep t

theorem OR.mono {prog : Program} {w : World} {I J : IM} (h : ILe I J) : ∀ (c : CO) (o : Obj), OR prog w I c o → OR prog w J c o
  | .iset vs, o, x => x
  | .list vs, o, ⟨n, xs, e, r⟩ => (in_2_1 n xs e (VRs.mono h _ _ r))
  | .dict es, o, ⟨n, ds, e, r⟩ => (in_2_1 n ds e (ERs.mono h _ _ r))
  | .set vs, o, x => PSet.mono h vs o x
  | .inst C d, o, x => x
  | .froz o', o, x => x
end Mine
open PySem PySem.W PySem.Calls PyProof.Rows
set_option Elab.async false
set_option linter.all false
set_option maxRecDepth 100000
set_option genSizeOf false
namespace Mine

set_option genInjectivity false in
/-- what stands still through an activation -/
structure Cx where
  prog : Program
  w : World
  A : Around
  env : Env
  base : Heap
  outer : List Env
  K : Frag
  mg : Str → Option Value
  mb : Str → Option Value
  KF : IM
  s0 : Shared

/-- a clean state: the names of the frame, the objects that may be turned -/
structure CSt where
  lo : Str → Option CV
  H : CH

set_option genInjectivity false in
/-- an exception in flight -/
structure CX where
  cls : Value
  args : List CV

noncomputable def Cx.Own (C : Cx) (a : Addr) : Prop := a = C.env.locals ∨ ∃ x, C.env.kindOf x = some .cell ∧ C.env.cells.lookup x = some a

/-- the names -/
structure LR (C : Cx) (I : IM) (lo : Str → Option CV) (h : Heap) : Prop where
  ns : ∃ m, h.Ns C.env.locals m ∧ ∀ x v, lo x = some v → C.env.kindOf x = some .local → ∃ u, m x = some u ∧ VR I v u
  cell : ∀ x v, lo x = some v → C.env.kindOf x = some .cell → ∃ c u, C.env.cells.lookup x = some c ∧ h.IsCell c (some u) ∧ VR I v u
  free : ∀ x v, lo x = some v → C.env.kindOf x = some .free → ∃ c o u, C.env.cells.lookup x = some c ∧ C.KF c = some o ∧ o.data = .cell (some u) ∧ VR I v u
  cells : ∀ x, C.env.kindOf x = some .cell → ∃ c v₀, C.env.cells.lookup x = some c ∧ h.IsCell c v₀

structure SR (C : Cx) (KF I : IM) (st : CSt) (s : Shared) : Prop where
  kle : ILe C.KF KF
  low : (∃ b o, sysModules < b ∧ C.base.get? b = some o) ∧ ∀ a c, st.H a = some c → sysModules < a
  same : ∃ h tk dr, s = { C.s0 with heap := h, toks := tk, drawn := dr }
  base : ∀ b o, C.base.get? b = some o → I b = some o
  imm : ∀ a o, I a = some o → s.heap.get? a = some o
  frs : ∀ a o, KF a = some o → I a = none ∧ s.heap.get? a = some o
  own : ∀ a, C.Own a → I a = none ∧ KF a = none ∧ st.H a = none
  mu : ∀ a c, st.H a = some c → I a = none ∧ KF a = none ∧ ∃ o, s.heap.get? a = some o ∧ OR C.prog C.w I c o
  loc : LR C I st.lo s.heap

/-- what is static about a context and holds of it -/
structure Cx.Ok (C : Cx) (dep : Nat) : Prop where
  fun_ : C.env.scope.kind = .function
  gl : C.env.globals = mainGlobals
  bl : C.env.builtins = builtinsNs
  K : C.K.In C.base
  g : C.base.Ns mainGlobals C.mg
  b : C.base.Ns builtinsNs C.mb
  nolimit : C.base.NoLimit
  boot : ∀ x : Str, x ≠ "__name__" → C.mb x = bootBuiltins x
  hd : C.A.handled = none
  units : C.A.units + 10 * dep + 200 < cLine
  depth : C.A.depth + 3 * dep + 20 < recursionLimit
  /-- names that are cells of the frame are apart -/
  cellInj : ∀ x y c, C.env.kindOf x = some .cell → C.env.kindOf y = some .cell → C.env.cells.lookup x = some c → C.env.cells.lookup y = some c → x = y
  cellNe : ∀ x, C.env.kindOf x = some .cell → C.env.cells.lookup x ≠ some C.env.locals
  lbase : C.base.get? C.env.locals = none

/-- an end without an exception -/
inductive OkP (C : Cx) (KF I : IM) (s' : Shared) (Q : IM → CSt → Prop) : Prop
  | mk (J : IM) (st' : CSt) (l : ILe I J) (S : SR C KF J st' s') (q : Q J st')
/-- an end with one -/
noncomputable abbrev ErP (C : Cx) (KF I : IM) (n : Bool) (e : Value) (s' : Shared) : Prop := False
/-- a value of the model by way of a clean one -/
inductive ValP (J : IM) (v : Value) (Q : CV → CSt → Prop) (st' : CSt) : Prop
  | mk (b : CV) (r : VR J b v) (q : Q b st')

theorem OkP.use {C : Cx} {KF I : IM} {s' : Shared} {Q : IM → CSt → Prop} {P : Prop} (h : OkP C KF I s' Q) (k : ∀ (J : IM) (st' : CSt), ILe I J → SR C KF J st' s' → Q J st' → P) : P := by cases h; exact k _ _ ‹_› ‹_› ‹_›
theorem ValP.use {J : IM} {v : Value} {Q : CV → CSt → Prop} {st' : CSt} {P : Prop} (h : ValP J v Q st') (k : ∀ b : CV, VR J b v → Q b st' → P) : P := by cases h; exact k _ ‹_› ‹_›
/-- the logic: a tree, from a clean state -/
noncomputable def WL (C : Cx) {α : Type} (t : Sem α) (I : IM) (st : CSt) (Q : IM → α → CSt → Prop) : Prop :=
  ∀ KF s, SR C KF I st s → wpAny (model C.prog C.w) C.A t (fun a s' => OkP C KF I s' fun I' st' => Q I' a st')
    (fun e s' => ErP C KF I false e s') s

section
variable {C : Cx} {α β : Type} {KF I : IM} {st : CSt} {s : Shared}

theorem WL.pure {a : α} {Q : IM → α → CSt → Prop} (h : Q I a st) : WL C (Pure.pure a : Sem α) I st Q := fun KF s S => wpAny_pure ⟨I, st, .refl I, S, h⟩

theorem WL.mono {t : Sem α} {Q Q' : IM → α → CSt → Prop} (h : WL C t I st Q) (hQ : ∀ J a st', ILe I J → Q J a st' → Q' J a st') : WL C t I st Q' :=
  fun KF s S => wpAny_mono (h KF s S) (fun a s' hh => hh.use fun J st' l S' q => ⟨J, st', l, S', hQ J a st' l q⟩) fun e s' hF => hF.elim

theorem WL.bind {m : Sem α} {f : α → Sem β} {Q : IM → β → CSt → Prop} (h : WL C m I st (fun J a st' => WL C (f a) J st' Q)) : WL C (m >>= f) I st Q := fun KF s S => by
  refine wpAny_bind (wpAny_mono (h KF s S) (fun a s' hh => hh.use fun J st' l S' q => ?_) fun e s' h' => h')
  exact wpAny_mono (q KF s' S') (fun b s'' hh => hh.use fun J' st'' l' S'' q' => ⟨J', st'', l.trans l', S'', q'⟩) fun e s'' hF => hF.elim

theorem WL.standAt {pos : Pos} {Q : IM → Unit → CSt → Prop} (h : Q I () st) : WL C (standAt pos) I st Q := fun KF s S => wpAny_standAt ⟨I, st, .refl I, S, h⟩
theorem WL.rule {tag : String} {Q : IM → Unit → CSt → Prop} (h : Q I () st) : WL C (rule tag) I st Q := fun KF s S => wpAny_rule ⟨I, st, .refl I, S, h⟩
theorem WL.point {Q : IM → Unit → CSt → Prop} (h : Q I () st) : WL C point I st Q := fun KF s S => wpAny_point ⟨I, st, .refl I, S, h⟩
theorem WL.holding {vs : List Value} {m : Sem α} {Q : IM → α → CSt → Prop} (h : WL C m I st Q) : WL C (holding vs m) I st Q := fun KF s S => wpAny_holding (h KF s S)
theorem WL.operate {vs : List Value} {m : Sem Value} {Q : IM → Value → CSt → Prop} (h : WL C m I st Q) : WL C (operate vs m) I st Q := fun KF s S => wpAny_operateT (h KF s S)

theorem notHeld {a b : Addr} (hb : I a ≠ none ∨ KF a ≠ none ∨ st.H a ≠ none ∨ C.Own a) (q : a = b) (n1 : I b = none) (n2 : KF b = none) (n3 : st.H b = none) (n4 : ¬ C.Own b) : False := by
  rw [q] at hb
  rcases hb with hb | hb | hb | hb
  · exact hb n1
  · exact hb n2
  · exact hb n3
  · exact n4 hb
/-- a state that differs where nothing is known -/
theorem SR.heap (S : SR C KF I st s) {h' : Heap} {tk : Nat} (k : ∀ a o, s.heap.get? a = some o → (I a ≠ none ∨ KF a ≠ none ∨ st.H a ≠ none ∨ C.Own a) → h'.get? a = some o) : SR C KF I st { s with heap := h', toks := tk } := by
  refine ⟨S.kle, S.low, ?_, S.base, fun a o e => k a o (S.imm a o e) (.inl (by rw [e]; simp)), fun a o e => ?_, S.own, fun a c e => ?_, ?_⟩
  · (refine el_3_0 S.same fun h t d e => ?_); exact (in_3_0 h' tk d (by rw [e]))
  · (refine el_0_1 (S.frs a o e) fun h1 h2 => ?_); exact ⟨h1, k a _ h2 (.inr (.inl (by rw [e]; simp)))⟩
  · (refine el_0_2 (S.mu a c e) fun h1 h2 rEl => ?_; (refine el_1_1 rEl fun o h3 h4 => ?_; try clear rEl)); exact (in_0_2 h1 h2 (in_1_1 o (k a o h3 (.inr (.inr (.inl (by rw [e]; simp))))) h4))
  · obtain ⟨⟨m, ⟨oL, es, ep, hL, hr⟩, h1⟩, h2, h3, h4⟩ := S.loc
    have kc : ∀ x c v, C.env.kindOf x = some .cell → C.env.cells.lookup x = some c → s.heap.IsCell c v → h'.IsCell c v := fun x c v hx hl ⟨o, ho, hd⟩ => (in_1_1 o (k c o ho (.inr (.inr (.inr (.inr (in_1_1 x hx hl)))))) hd)
    refine ⟨(in_1_1 m (in_3_1 oL es ep (k _ _ hL (.inr (.inr (.inr (.inl rfl))))) hr) h1), fun x v e hk => ?_, h3, fun x hx => ?_⟩
    · (refine el_2_2 (h2 x v e hk) fun c u a1 a2 a3 => ?_); exact (in_2_2 c u a1 (kc x c _ hk a1 a2) a3)
    · (refine el_2_1 (h4 x hx) fun c v0 a1 a2 => ?_); exact (in_2_1 c v0 a1 (kc x c _ hx a1 a2))
theorem SR.toks (S : SR C KF I st s) (tk : Nat) : SR C KF I st { s with toks := tk } := S.heap fun a o e _ => e
theorem SR.keeps (S : SR C KF I st s) {h' : Heap} {tk : Nat} (k : ∀ a o, s.heap.get? a = some o → h'.get? a = some o) : SR C KF I st { s with heap := h', toks := tk } := S.heap fun a o e _ => k a o e
theorem SR.draw (S : SR C KF I st s) (d : Drawn) : SR C KF I st { s with drawn := d } := by
  (refine el_3_0 S.same fun h t d0 e => ?_)
  exact ⟨S.kle, S.low, (in_3_0 h t d (by rw [e])), S.base, S.imm, S.frs, S.own, S.mu, S.loc⟩
theorem SR.push (S : SR C KF I st s) (o : Obj) : SR C KF I st { s with heap := s.heap.push o } := S.keeps (tk := s.toks) fun a o' e => Heap.get?_push_of_some o e

/-- an object of which nothing is known -/
theorem SR.fresh (S : SR C KF I st s) {a : Addr} (h : s.heap.get? a = none) : I a = none ∧ KF a = none ∧ st.H a = none ∧ ¬ C.Own a := by
  refine (in_0_3 ?_ ?_ ?_ ?_)
  · cases e : I a with
    | none => rfl
    | some o => rw [S.imm a o e] at h; cases h
  · cases e : KF a with
    | none => rfl
    | some o => (refine el_0_1 (S.frs a o e) fun _ h2 => ?_); rw [h2] at h; cases h
  · cases e : st.H a with
    | none => rfl
    | some c => (refine el_0_2 (S.mu a c e) fun _ _ rEl => ?_; (refine el_1_1 rEl fun o h3 _ => ?_; try clear rEl)); rw [h3] at h; cases h
  · rintro (rfl | ⟨x, hx, hl⟩)
    · (refine el_1_1 S.loc.ns fun m xEl1 _ => ?_; (refine el_3_1 xEl1 fun oL es ep hL hr => ?_; try clear xEl1)); rw [hL] at h; cases h
    · (refine el_2_1 (S.loc.cells x hx) fun c v0 a1 xEl3 => ?_; (refine el_1_1 xEl3 fun o ho _ => ?_; try clear xEl3))
      rw [hl] at a1; cases a1; rw [ho] at h; cases h
theorem heap_size (h : Heap) : h.get? h.objs.size = none := by
  cases e : h.get? h.objs.size with
  | none => rfl
  | some o => exact absurd (Heap.lt_size e) (Nat.lt_irrefl _)
theorem SR.fresh' (S : SR C KF I st s) : I s.heap.objs.size = none ∧ KF s.heap.objs.size = none ∧ st.H s.heap.objs.size = none ∧ ¬ C.Own s.heap.objs.size := S.fresh (heap_size _)

noncomputable def iput (I : IM) (a : Addr) (o : Obj) : IM := fun b => if b = a then some o else I b
noncomputable def hput (H : CH) (a : Addr) (c : CO) : CH := fun b => if b = a then some c else H b
noncomputable def hdel (H : CH) (a : Addr) : CH := fun b => if b = a then none else H b
theorem iput_le {a : Addr} {o : Obj} (h : I a = none) : ILe I (iput I a o) := fun b o' e => by
  unfold iput; split
  · rename_i q; rw [q, h] at e; cases e
  · exact e
@[simp] theorem iput_self {a : Addr} {o : Obj} : iput I a o a = some o := by simp [iput]
@[simp] theorem hput_self {H : CH} {a : Addr} {c : CO} : hput H a c a = some c := by simp [hput]
theorem hput_ne {H : CH} {a b : Addr} {c : CO} (h : b ≠ a) : hput H a c b = H b := by simp [hput, h]
theorem hdel_ne {H : CH} {a b : Addr} (h : b ≠ a) : hdel H a b = H b := by simp [hdel, h]

theorem LR.mono {J : IM} {lo : Str → Option CV} {h : Heap} (L : LR C I lo h) (l : ILe I J) : LR C J lo h := by
  obtain ⟨⟨m, hn, h1⟩, h2, h3, h4⟩ := L
  refine ⟨(in_1_1 m hn (fun x v e hk => ?_)), fun x v e hk => ?_, fun x v e hk => ?_, h4⟩
  · (refine el_1_1 (h1 x v e hk) fun u a1 a2 => ?_); exact (in_1_1 u a1 (a2.mono l))
  · (refine el_2_2 (h2 x v e hk) fun c u a1 a2 a3 => ?_); exact (in_2_2 c u a1 a2 (a3.mono l))
  · (refine el_3_3 (h3 x v e hk) fun c o u a1 a2 a3 a4 => ?_); exact (in_3_3 c o u a1 a2 a3 (a4.mono l))

/-- a new object that is never turned -/
theorem SR.addI (S : SR C KF I st s) {a : Addr} {o : Obj} (ho : s.heap.get? a = some o) (h1 : I a = none) (h2 : KF a = none) (h3 : st.H a = none) (h4 : ¬ C.Own a) : SR C KF (iput I a o) st s := by
  have l : ILe I (iput I a o) := iput_le h1
  refine ⟨S.kle, S.low, S.same, fun b o' e => l _ _ (S.base b o' e), fun b o' e => ?_, fun b o' e => ?_, fun b hb => ?_, fun b c e => ?_, S.loc.mono l⟩
  · unfold iput at e; split at e
    · rename_i q; subst q; cases e; exact ho
    · exact S.imm b o' e
  · (refine el_0_1 (S.frs b o' e) fun a1 a2 => ?_)
    refine ⟨?_, a2⟩
    unfold iput; split
    · rename_i q; subst q; rw [h2] at e; cases e
    · exact a1
  · (refine el_0_2 (S.own b hb) fun a1 a2 a3 => ?_)
    refine (in_0_2 ?_ a2 a3)
    unfold iput; split
    · rename_i q; subst q; exact absurd hb h4
    · exact a1
  · (refine el_0_2 (S.mu b c e) fun a1 a2 rEl => ?_; (refine el_1_1 rEl fun o' a3 a4 => ?_; try clear rEl))
    refine (in_0_2 ?_ a2 (in_1_1 o' a3 (OR.mono l _ _ a4)))
    unfold iput; split
    · rename_i q; subst q; rw [h3] at e; cases e
    · exact a1
theorem SR.big (S : SR C KF I st s) : sysModules < s.heap.objs.size := let ⟨_, o, h1, h2⟩ := S.low.1; Nat.lt_trans h1 (Heap.lt_size (S.imm _ o (S.base _ o h2)))
theorem SR.addH (S : SR C KF I st s) {a : Addr} {o : Obj} {c : CO} (hlow : sysModules < a) (ho : s.heap.get? a = some o) (h1 : I a = none) (h2 : KF a = none) (h4 : ¬ C.Own a) (hr : OR C.prog C.w I c o) : SR C KF I { st with H := hput st.H a c } s := by
  refine ⟨S.kle, ⟨S.low.1, fun b c' e => ?_⟩, S.same, S.base, S.imm, S.frs, fun b hb => ?_, fun b c' e => ?_, S.loc⟩
  · change hput st.H a c b = some c' at e
    unfold hput at e; split at e
    · rename_i q; subst q; exact hlow
    · exact S.low.2 b c' e
  · (refine el_0_2 (S.own b hb) fun a1 a2 a3 => ?_)
    refine (in_0_2 a1 a2 ?_)
    show hput st.H a c b = none
    unfold hput; split
    · rename_i q; subst q; exact absurd hb h4
    · exact a3
  · change hput st.H a c b = some c' at e
    unfold hput at e; split at e
    · rename_i q; subst q; cases e; exact (in_0_2 h1 h2 (in_1_1 o ho hr))
    · exact S.mu b c' e
theorem SR.delH (S : SR C KF I st s) (a : Addr) : SR C KF I { st with H := hdel st.H a } s := by
  refine ⟨S.kle, ⟨S.low.1, fun b c' e => ?_⟩, S.same, S.base, S.imm, S.frs, fun b hb => ?_, fun b c' e => ?_, S.loc⟩
  · change hdel st.H a b = some c' at e
    unfold hdel at e; split at e
    · cases e
    · exact S.low.2 b c' e
  · (refine el_0_2 (S.own b hb) fun a1 a2 a3 => ?_)
    refine (in_0_2 a1 a2 ?_)
    show hdel st.H a b = none
    unfold hdel; split
    · rfl
    · exact a3
  · change hdel st.H a b = some c' at e
    unfold hdel at e; split at e
    · cases e
    · exact S.mu b c' e
theorem SR.iterIn {D : Addr} {o : Obj} (S : SR C (iput KF D o) J st s) : J D = none ∧ st.H D = none ∧ ¬ C.Own D := by
  refine (in_0_2 ((S.frs D o (by simp)).1) ?_ (fun hb => by have := (S.own D hb).2.1; simp at this))
  cases e : st.H D with
  | none => rfl
  | some c => have := (S.mu D c e).2.1; simp at this
/-- an object of the clean heap is turned -/
theorem SR.setH (S : SR C KF I st s) {a : Addr} {c₀ c : CO} {o : Obj} {h' : Heap} {tk : Nat} (hc : st.H a = some c₀) (hs : ∀ b o, b ≠ a → s.heap.get? b = some o → h'.get? b = some o) (ho : h'.get? a = some o) (hr : OR C.prog C.w I c o) :
    SR C KF I { st with H := hput st.H a c } { s with heap := h', toks := tk } := by
  have S' := (S.delH a).heap (h' := h') (tk := tk) fun b o' e hb => hs b o' (fun q => by
    subst q
    (refine el_0_2 (S.mu b c₀ hc) fun a1 a2 _ => ?_)
    rcases hb with hb | hb | hb | hb
    · exact hb a1
    · exact hb a2
    · exact hb (by show hdel st.H b b = none; simp [hdel])
    · have := (S.own b hb).2.2; rw [hc] at this; cases this) e
  (refine el_0_2 (S.mu a c₀ hc) fun a1 a2 _ => ?_)
  have := S'.addH (a := a) (c := c) (S.low.2 a c₀ hc) ho a1 a2 (fun hb => by have := (S.own a hb).2.2; rw [hc] at this; cases this) hr
  have e : hput (hdel st.H a) a c = hput st.H a c := by
    funext b; unfold hput hdel; split <;> simp_all
  rw [← e]; exact this

/-- a list that is turned no more -/
theorem SR.freeze (S : SR C KF I st s) {a : Addr} {vs : List CV} (hc : st.H a = some (.list vs)) : ∃ J, ILe I J ∧ SR C KF J { st with H := hdel st.H a } s ∧ VR J (.lst vs) (.ref a) := by
  (refine el_0_2 (S.mu a _ hc) fun a1 a2 rEl => ?_; (refine el_1_1 rEl fun o a3 sEl => ?_; try clear rEl; obtain ⟨n, xs, rfl, a5⟩ := sEl))
  refine (in_1_2 (iput I a _) (iput_le a1) ((S.delH a).addI a3 a1 a2 (by show hdel st.H a a = none; simp [hdel]) (fun hb => by have := (S.own a hb).2.2; rw [hc] at this; cases this)) ?_)
  simp only [VR]
  exact (in_3_2 a n xs rfl (by simp) (VRs.mono (iput_le a1) _ _ a5))
end
end Mine
open PySem PySem.W PySem.Calls PyProof.Rows
set_option Elab.async false
set_option linter.all false
set_option maxRecDepth 100000
set_option genSizeOf false
namespace Mine

noncomputable abbrev XP := CX → CSt → Prop

noncomputable def WE (C : Cx) (e : Expr) (st : CSt) (Q : CV → CSt → Prop) : Prop := ∀ I, WL C (eval e C.env) I st (fun J v st' => ValP J v Q st')
/-- a list of expressions, one behind the other -/
noncomputable def WEs (C : Cx) : List Expr → CSt → (List CV → CSt → Prop) → Prop
  | [], st, Q => Q [] st
  | e :: es, st, Q => WE C e st (fun a st1 => WEs C es st1 (fun as st2 => Q (a :: as) st2))
noncomputable def WT (C : Cx) (e : Expr) (st : CSt) (Q : Bool → CSt → Prop) : Prop := ∀ I, WL C (isTrue e C.env (eval e C.env)) I st (fun _ b st' => Q b st')
noncomputable def W1 (C : Cx) (f : Value → Sem Value) (a : CV) (st : CSt) (Q : CV → CSt → Prop) : Prop :=
  ∀ I v, VR I a v → WL C (f v) I st (fun J r st' => ValP J r Q st')
noncomputable def W2 (C : Cx) (f : Value → Value → Sem Value) (a b : CV) (st : CSt) (Q : CV → CSt → Prop) : Prop :=
  ∀ I v u, VR I a v → VR I b u → WL C (f v u) I st (fun J r st' => ValP J r Q st')
/-- truth of a value -/
noncomputable def Wtr (C : Cx) (a : CV) (st : CSt) (Q : Bool → CSt → Prop) : Prop :=
  ∀ I v, VR I a v → WL C (truthy v) I st (fun _ b st' => Q b st')
/-- a value is laid somewhere -/
noncomputable def WA (C : Cx) (f : Value → Sem Unit) (a : CV) (st : CSt) (Q : CSt → Prop) : Prop :=
  ∀ I v, VR I a v → WL C (f v) I st (fun _ _ st' => Q st')

inductive CF where
  | next | brk | cont | ret (v : CV)
noncomputable def FR (I : IM) : CF → Flow → Prop
  | .next, f => f = .next
  | .brk, f => f = .brk
  | .cont, f => f = .cont
  | .ret c, f => ∃ v, f = .ret v ∧ VR I c v
/-- a flow of the model by way of a clean one -/
inductive FlP (J : IM) (f : Flow) (Q : CF → CSt → Prop) (st' : CSt) : Prop
  | mk (b : CF) (r : FR J b f) (q : Q b st')
theorem FlP.use {J : IM} {f : Flow} {Q : CF → CSt → Prop} {st' : CSt} {P : Prop} (h : FlP J f Q st') (k : ∀ b : CF, FR J b f → Q b st' → P) : P := by cases h; exact k _ ‹_› ‹_›
noncomputable def WS (C : Cx) (s : Stmt) (st : CSt) (Q : CF → CSt → Prop) : Prop := ∀ I, WL C (exec s C.env) I st (fun J f st' => FlP J f Q st')
noncomputable def WSs (C : Cx) (ss : List Stmt) (st : CSt) (Q : CF → CSt → Prop) : Prop := ∀ I, WL C (execs ss C.env) I st (fun J f st' => FlP J f Q st')

section
variable {C : Cx} {dep : Nat} {st : CSt} {Q : CV → CSt → Prop}


theorem WE.mono {e : Expr} {Q' : CV → CSt → Prop} (h : WE C e st Q) (hQ : ∀ b st', Q b st' → Q' b st') : WE C e st Q' :=
  fun I => (h I).mono (fun J a st' _ hh => hh.use fun b r q => ⟨b, r, hQ b st' q⟩)
theorem WS.mono {e : Stmt} {Q Q' : CF → CSt → Prop} (h : WS C e st Q) (hQ : ∀ b st', Q b st' → Q' b st') : WS C e st Q' :=
  fun I => (h I).mono (fun J a st' _ hh => hh.use fun b r q => ⟨b, r, hQ b st' q⟩)
theorem WE.int {i : Int} {k pos} (h : Q (.int i) st) : WE C (.Constant (.int i) k pos) st Q := fun I KF s S => wpAny_Constant_int ⟨I, st, .refl I, S.toks _, .int i, by simp [VR], h⟩
theorem WE.str {x : Str} {k pos} (h : Q (.str x) st) : WE C (.Constant (.str x) k pos) st Q := fun I KF s S => wpAny_Constant_str ⟨I, st, .refl I, S.toks _, .str x, by simp [VR], h⟩
theorem WE.bool {b : Bool} {k pos} (h : Q (.bool b) st) : WE C (.Constant (.bool b) k pos) st Q := fun I KF s S => wpAny_Constant_bool ⟨I, st, .refl I, S, .bool b, by simp [VR], h⟩
theorem WE.none {k pos} (h : Q .none st) : WE C (.Constant .none k pos) st Q := fun I KF s S => wpAny_Constant_none ⟨I, st, .refl I, S, .none, by simp [VR], h⟩

-- names
noncomputable def ownKind : Option NameKind → Bool
  | some .local => true
  | some .cell => true
  | some .free => true
  | _ => false
theorem WE.name {x : Str} {pos} {v : CV} (hf : C.env.scope.kind = .function) (hv : st.lo x = some v) (h : Q v st) (hk : ownKind (C.env.kindOf x) = true)
    (hd : (x == ("__debug__" : Str)) = false := by decide) (hc : (x == ("__classdict__" : Str)) = false := by decide) : WE C (.Name x pos) st Q := fun I KF s S => by
  refine wpAny_Name ?_ hd
  obtain ⟨⟨m, hn, h1⟩, h2, h3, h4⟩ := S.loc
  cases e : C.env.kindOf x with
  | none => rw [e] at hk; cases hk
  | some k =>
    cases k with
    | «local» =>
      (refine el_1_1 (h1 x v hv e) fun u a1 a2 => ?_)
      exact wpAny_loadName_local hf e hn a1 ⟨I, st, .refl I, S, v, a2, h⟩
    | cell =>
      (refine el_2_2 (h2 x v hv e) fun c u a1 a2 a3 => ?_)
      exact wpAny_loadName_cell hf e a1 a2 ⟨I, st, .refl I, S, v, a3, h⟩
    | free =>
      (refine el_3_3 (h3 x v hv e) fun c o u a1 a2 a3 a4 => ?_)
      (refine el_0_1 (S.frs c o (S.kle _ _ a2)) fun _ a5 => ?_)
      exact wpAny_loadName_free hf e a1 (in_1_1 _ a5 a3) ⟨I, st, .refl I, S, v, a4, h⟩ hc
    | _ => rw [e] at hk; cases hk

/-- the names of the text's top and the built-in ones that are read -/
noncomputable def GOk (C : Cx) (G : List (Str × Value)) : Prop := ∀ x v, G.lookup x = some v → C.mg x = some v ∨ (C.mg x = none ∧ C.mb x = some v)
theorem WE.glob {G : List (Str × Value)} {x : Str} {pos} {v : Value} (ok : C.Ok dep) (hG : GOk C G) (hv : G.lookup x = some v) (h : Q (.raw v) st) (hk : C.env.kindOf x = some .globalImplicit)
    (hd : (x == ("__debug__" : Str)) = false := by decide) : WE C (.Name x pos) st Q := fun I KF s S => by
  have hg : s.heap.Ns C.env.globals C.mg := by rw [ok.gl]; exact ok.g.keeps fun b o e => S.imm b o (S.base b o e)
  have hb : s.heap.Ns C.env.builtins C.mb := by rw [ok.bl]; exact ok.b.keeps fun b o e => S.imm b o (S.base b o e)
  refine Name_function_global ok.fun_ hk ?_ hd
  (refine Or.elim (hG x v hv) (fun e => ?aElo) (fun xElo => ?bElo); (case' bElo => (refine el_0_1 xElo fun e1 e2 => ?_; try clear xElo)); (case' aElo => skip))
  · exact loadGlobal_global hg e ⟨I, st, .refl I, S, .raw v, by simp [VR], h⟩
  · exact loadGlobal_builtin hg e1 hb e2 ⟨I, st, .refl I, S, .raw v, by simp [VR], h⟩

-- the simple expressions
theorem WE.binop {op l r pos} (h : WE C l st (fun a st1 => WE C r st1 (fun b st2 => W2 C (binaryOp op) a b st2 Q))) : WE C (.BinOp l op r pos) st Q := fun I => by
  simp only [eval_BinOp]
  refine WL.bind ((h I).mono (fun J a st1 _ hh => hh.use fun ca ra ha => ?_))
  refine WL.bind (WL.holding ((ha J).mono (fun J2 b st2 l hh => hh.use fun cb rb hb => ?_)))
  exact WL.bind (WL.standAt (WL.operate (hb J2 _ _ (ra.mono l) rb)))
theorem WE.unop {op x pos} (h : WE C x st (fun a st1 => W1 C (unaryOp op) a st1 Q)) : WE C (.UnaryOp op x pos) st Q := fun I => by
  show WL C (do let v ← eval x C.env; standAt pos; holding [v] (unaryOp op v)) I st _
  refine WL.bind ((h I).mono (fun J a st1 _ hh => hh.use fun ca ra ha => ?_))
  exact WL.bind (WL.standAt (WL.holding (ha J _ ra)))
theorem WE.ifexp {t b o pos} (h : WT C t st (fun c st1 => if c then WE C b st1 Q else WE C o st1 Q)) : WE C (.IfExp t b o pos) st Q := fun I => by
  show WL C (do if ← isTrue t C.env (eval t C.env) then eval b C.env else eval o C.env) I st _
  refine WL.bind ((h I).mono (fun J c st1 _ hc => ?_))
  cases c <;> exact hc J

/-- one comparison -/
theorem WE.cmp1 {op l r pos} (h : WE C l st (fun a st1 => WE C r st1 (fun b st2 => W2 C (compareOp op) a b st2 Q))) (hm : behindInMarks op r = false := by rfl) : WE C (.Compare l [op] [r] pos) st Q := fun I => by
  rw [eval_Compare1, markedBehindIn_of_false hm]
  refine WL.bind ((h I).mono (fun J a st1 _ hh => hh.use fun ca ra ha => ?_))
  refine WL.bind (WL.holding ((ha J).mono (fun J2 b st2 l hh => hh.use fun cb rb hb => ?_)))
  exact WL.bind (WL.standAt (WL.operate (hb J2 _ _ (ra.mono l) rb)))
theorem WT.cmp1 {op l r pos} {Q : Bool → CSt → Prop} (h : WE C l st (fun a st1 => WE C r st1 (fun b st2 => W2 C (compareOp op) a b st2 (fun c st3 => Wtr C c st3 Q)))) (hm : behindInMarks op r = false := by rfl) : WT C (.Compare l [op] [r] pos) st Q := fun I => by
  rw [isTrue_Compare1, markedBehindIn_of_false hm]
  refine WL.bind ((h I).mono (fun J a st1 _ hh => hh.use fun ca ra ha => ?_))
  refine WL.bind (WL.holding ((ha J).mono (fun J2 b st2 l hh => hh.use fun cb rb hb => ?_)))
  refine WL.bind (WL.standAt (WL.bind (WL.operate ((hb J2 _ _ (ra.mono l) rb).mono (fun J3 c st3 _ hh => hh.use fun cc rc hc => ?_)))))
  exact WL.holding (hc J3 _ rc)
theorem WT.not {x pos} {Q : Bool → CSt → Prop} (h : WT C x st (fun b st1 => Q (!b) st1)) : WT C (.UnaryOp .Not x pos) st Q := fun I => by
  show WL C (do return !(← isTrue x C.env (eval x C.env))) I st _
  exact WL.bind ((h I).mono (fun J b st1 _ hb => WL.pure hb))

/-- and, or as tests -/
noncomputable def WTs (C : Cx) (op : BoolOp) : List Expr → CSt → (Bool → CSt → Prop) → Prop
  | [], st, Q => Q (op == .And) st
  | e :: es, st, Q => WT C e st (fun b st1 => match op, b with
      | .And, false => Q false st1
      | .Or, true => Q true st1
      | _, _ => WTs C op es st1 Q)
theorem WTs.all {op : BoolOp} : ∀ {es : List Expr} {st : CSt} {Q : Bool → CSt → Prop}, WTs C op es st Q → ∀ I, WL C (allTrue op es C.env) I st (fun _ b st' => Q b st')
  | [], st, Q, h, I => WL.pure h
  | e :: es, st, Q, h, I => by
    show WL C (do match op, ← isTrue e C.env (eval e C.env) with | .And, false => pure false | .Or, true => pure true | _, _ => allTrue op es C.env) I st _
    refine WL.bind ((h I).mono (fun J b st1 _ hb => ?_))
    cases op <;> cases b
    · exact WL.pure hb
    · exact WTs.all hb J
    · exact WTs.all hb J
    · exact WL.pure hb
theorem WT.boolop {op es pos} {Q : Bool → CSt → Prop} (h : WTs C op es st Q) : WT C (.BoolOp op es pos) st Q := fun I => h.all I
/-- and, or as values -/
noncomputable def WBs (C : Cx) (op : BoolOp) : List Expr → CSt → (CV → CSt → Prop) → Prop
  | [], _, _ => False
  | [e], st, Q => WE C e st Q
  | e :: e' :: es, st, Q => WE C e st (fun a st1 => Wtr C a st1 (fun b st2 => match op, b with
      | .And, false => Q a st2
      | .Or, true => Q a st2
      | _, _ => WBs C op (e' :: es) st2 Q))
theorem WBs.all {op : BoolOp} {pos : Pos} : ∀ {es : List Expr} {st : CSt} {Q : CV → CSt → Prop}, WBs C op es st Q → ∀ I, WL C (boolOp pos op (evalEach es C.env)) I st (fun J v st' => ValP J v Q st')
  | [], st, Q, h, I => h.elim
  | [e], st, Q, h, I => h I
  | e :: e' :: es, st, Q, h, I => by
    show WL C (do let v ← eval e C.env; standAt pos; let t ← holding [v] (truthy v); match op, t with | .And, false | .Or, true => pure v | _, _ => boolOp pos op (evalEach (e' :: es) C.env)) I st _
    refine WL.bind ((h I).mono (fun J a st1 _ hh => hh.use fun ca ra ha => ?_))
    refine WL.bind (WL.standAt (WL.bind (WL.holding ((ha J _ ra).mono (fun J2 b st2 l hb => ?_)))))
    cases op <;> cases b
    · exact WL.pure ⟨ca, ra.mono l, hb⟩
    · exact WBs.all hb J2
    · exact WBs.all hb J2
    · exact WL.pure ⟨ca, ra.mono l, hb⟩
theorem WE.boolop {op es pos} (h : WBs C op es st Q) : WE C (.BoolOp op es pos) st Q := fun I => h.all I

/-- a test that is any other expression -/
noncomputable def plainTest : Expr → Bool
  | .UnaryOp .Not _ _ => false
  | .BoolOp .. => false
  | .IfExp .. => false
  | .Compare .. => false
  | _ => true
theorem WT.value {e : Expr} {Q : Bool → CSt → Prop} (hp : plainTest e = true) (h : WE C e st (fun a st1 => Wtr C a st1 Q)) : WT C e st Q := fun I => by
  have : WL C (do let v ← eval e C.env; standAt e.pos; holding [v] (truthy v)) I st (fun _ b st' => Q b st') := by
    refine WL.bind ((h I).mono (fun J a st1 _ hh => hh.use fun ca ra ha => ?_))
    exact WL.bind (WL.standAt (WL.holding (ha J _ ra)))
  cases e <;> first | exact this | (cases hp) | skip
  rename_i op x pos
  cases op <;> first | exact this | (cases hp)
theorem Wtr.bool {b : Bool} {Q : Bool → CSt → Prop} (h : Q b st) : Wtr C (.bool b) st Q := fun I v r KF s S => by
  simp only [VR] at r; subst r
  exact wpAny_truthy_bool ⟨I, st, .refl I, S, h⟩
end
end Mine
open PySem PySem.W PySem.Calls PyProof.Rows
set_option Elab.async false
set_option linter.all false
set_option maxRecDepth 100000
set_option genSizeOf false
namespace Mine
theorem SR.ownNo {C : Cx} {KF I : IM} {st : CSt} {s : Shared} (S : SR C KF I st s) {a : Addr} (h : C.Own a) : ∃ o, s.heap.get? a = some o := by
  (refine Or.elim h (fun xElo => ?aElo) (fun xElo => ?bElo); (case' bElo => try clear h; (refine el_1_1 xElo fun x hx hl => ?_; try clear xElo)); (case' aElo => try clear h; obtain rfl := xElo))
  · (refine el_1_1 S.loc.ns fun m xEl1 _ => ?_; (refine el_3_2 xEl1 fun oL es ep hL hd hr => ?_; try clear xEl1))
    exact (in_1_0 oL hL)
  · (refine el_2_1 (S.loc.cells x hx) fun c v0 a1 xEl3 => ?_; (refine el_1_1 xEl3 fun o ho hd => ?_; try clear xEl3))
    rw [hl] at a1; cases a1
    exact (in_1_0 o ho)
end Mine
open PySem PySem.W PySem.Calls PyProof.Rows
set_option Elab.async false
set_option linter.all false
set_option maxRecDepth 100000
set_option genSizeOf false
namespace Mine

noncomputable def lput (lo : Str → Option CV) (x : Str) (v : CV) : Str → Option CV := fun y => if y = x then some v else lo y
theorem lput_ne {lo : Str → Option CV} {x y : Str} {v : CV} (h : y ≠ x) : lput lo x v y = lo y := by simp [lput, h]
noncomputable abbrev CSt.put (st : CSt) (x : Str) (v : CV) : CSt := { st with lo := lput st.lo x v }

noncomputable def storeKind : Option NameKind → Bool
  | some .local => true
  | some .cell => true
  | _ => false

section
variable {C : Cx} {dep : Nat} {KF I : IM} {st : CSt} {s : Shared}

theorem storeName_W {x : Str} {c : CV} {Q : CSt → Prop} (ok : C.Ok dep) (hk : storeKind (C.env.kindOf x) = true) (h : Q (st.put x c)) : WA C (storeName C.env x) c st Q := fun I v r KF s S => by
  obtain ⟨⟨m, hn, h1⟩, h2, h3, h4⟩ := S.loc
  cases e : C.env.kindOf x with
  | none => rw [e] at hk; cases hk
  | some k =>
    cases k with
    | «local» =>
      refine wpAny_storeName_local e hn (fun h' hn' hs => ⟨I, st.put x c, .refl I, ?_, h⟩) (by rw [ok.fun_]; rfl)
      have keep : ∀ a o, a ≠ C.env.locals → s.heap.get? a = some o → h'.get? a = some o := fun a o hne e => (hs.2 a hne).trans e
      refine ⟨S.kle, S.low, ?_, S.base, fun a o e => keep a o (fun q => ?_) (S.imm a o e), fun a o e => ?_, S.own, fun a c' e => ?_, ?_⟩
      · (refine el_3_0 S.same fun h₀ t d e => ?_); exact (in_3_0 h' (s.toks + 1) d (by rw [e]))
      · have := (S.own a (.inl q)).1; rw [e] at this; cases this
      · (refine el_0_1 (S.frs a o e) fun a1 a2 => ?_)
        exact ⟨a1, keep a _ (fun q => by have := (S.own a (.inl q)).2.1; rw [e] at this; cases this) a2⟩
      · (refine el_0_2 (S.mu a c' e) fun a1 a2 rEl => ?_; (refine el_1_1 rEl fun o a3 a4 => ?_; try clear rEl))
        exact (in_0_2 a1 a2 (in_1_1 o (keep a o (fun q => by have := (S.own a (.inl q)).2.2; rw [e] at this; cases this) a3) a4))
      · have kc : ∀ y c' v, C.env.kindOf y = some .cell → C.env.cells.lookup y = some c' → s.heap.IsCell c' v → h'.IsCell c' v := fun y c' v hy hl ⟨o, ho, hd⟩ =>
          (in_1_1 o (keep c' o (fun q => ok.cellNe y hy (q ▸ hl)) ho) hd)
        refine ⟨(in_1_1 _ hn' (fun y w hy hky => ?_)), fun y w hy hky => ?_, fun y w hy hky => ?_, fun y hky => ?_⟩
        · change lput st.lo x c y = some w at hy
          unfold lput at hy
          by_cases q : y = x
          · subst q; simp at hy; subst hy; exact (in_1_1 v (by simp) r)
          · simp [q] at hy ⊢; exact h1 y w hy hky
        · change lput st.lo x c y = some w at hy
          have q : y ≠ x := fun q => by rw [q, e] at hky; cases hky
          rw [lput_ne q] at hy
          (refine el_2_2 (h2 y w hy hky) fun c' u a1 a2 a3 => ?_)
          exact (in_2_2 c' u a1 (kc y c' _ hky a1 a2) a3)
        · change lput st.lo x c y = some w at hy
          have q : y ≠ x := fun q => by rw [q, e] at hky; cases hky
          rw [lput_ne q] at hy
          exact h3 y w hy hky
        · (refine el_2_1 (h4 y hky) fun c' v0 a1 a2 => ?_)
          exact (in_2_1 c' v0 a1 (kc y c' _ hky a1 a2))
    | cell =>
      (refine el_2_1 (h4 x e) fun ca v0 hl hv => ?_)
      refine wpAny_storeName_cell ok.fun_ e hl hv fun h' hv' hs => ⟨I, st.put x c, .refl I, ?_, h⟩
      have keep : ∀ a o, a ≠ ca → s.heap.get? a = some o → h'.get? a = some o := fun a o hne e => (hs.2 a hne).trans e
      have hown : C.Own ca := .inr (in_1_1 x e hl)
      refine ⟨S.kle, S.low, ?_, S.base, fun a o e => keep a o (fun q => ?_) (S.imm a o e), fun a o e => ?_, S.own, fun a c' e => ?_, ?_⟩
      · (refine el_3_0 S.same fun h₀ t d e => ?_); exact (in_3_0 h' s.toks d (by rw [e]))
      · have := (S.own a (q ▸ hown)).1; rw [e] at this; cases this
      · (refine el_0_1 (S.frs a o e) fun a1 a2 => ?_)
        exact ⟨a1, keep a _ (fun q => by have := (S.own a (q ▸ hown)).2.1; rw [e] at this; cases this) a2⟩
      · (refine el_0_2 (S.mu a c' e) fun a1 a2 rEl => ?_; (refine el_1_1 rEl fun o a3 a4 => ?_; try clear rEl))
        exact (in_0_2 a1 a2 (in_1_1 o (keep a o (fun q => by have := (S.own a (q ▸ hown)).2.2; rw [e] at this; cases this) a3) a4))
      · have kc : ∀ y c' v, y ≠ x → C.env.kindOf y = some .cell → C.env.cells.lookup y = some c' → s.heap.IsCell c' v → h'.IsCell c' v := fun y c' v hyx hy hl' ⟨o, ho, hd⟩ =>
          (in_1_1 o (keep c' o (fun q => hyx (ok.cellInj y x ca hy e (q ▸ hl') hl)) ho) hd)
        refine ⟨(in_1_1 m (hn.sameBut hs (fun q => ok.cellNe x e (q ▸ hl))) (fun y w hy hky => ?_)), fun y w hy hky => ?_, fun y w hy hky => ?_, fun y hky => ?_⟩
        · change lput st.lo x c y = some w at hy
          have q : y ≠ x := fun q => by rw [q, e] at hky; cases hky
          rw [lput_ne q] at hy
          exact h1 y w hy hky
        · change lput st.lo x c y = some w at hy
          by_cases q : y = x
          · subst q
            unfold lput at hy; simp at hy; subst hy
            exact (in_2_2 ca v hl hv' r)
          · rw [lput_ne q] at hy
            (refine el_2_2 (h2 y w hy hky) fun c' u a1 a2 a3 => ?_)
            exact (in_2_2 c' u a1 (kc y c' _ q hky a1 a2) a3)
        · change lput st.lo x c y = some w at hy
          have q : y ≠ x := fun q => by rw [q, e] at hky; cases hky
          rw [lput_ne q] at hy
          exact h3 y w hy hky
        · by_cases q : y = x
          · subst q; exact (in_2_1 ca _ hl hv')
          · (refine el_2_1 (h4 y hky) fun c' v0' a1 a2 => ?_)
            exact (in_2_1 c' v0' a1 (kc y c' _ q hky a1 a2))
    | _ => rw [e] at hk; cases hk

theorem bindName_W {x : Str} {c : CV} {Q : CSt → Prop} (ok : C.Ok dep) (hk : storeKind (C.env.kindOf x) = true) (h : Q (st.put x c)) : WA C (bindName C.env x) c st Q := fun I v r => by
  show WL C (do holding [v] point; storeName C.env x v; point) I st _
  refine WL.bind (WL.holding (WL.point ?_))
  exact WL.bind ((storeName_W ok hk h I v r).mono (fun J _ st' _ q => WL.point q))
theorem WA.name {x : Str} {pos : Pos} {c : CV} {Q : CSt → Prop} (ok : C.Ok dep) (hk : storeKind (C.env.kindOf x) = true) (h : Q (st.put x c)) : WA C (assign (.Name x pos) C.env) c st Q := fun I v r => by
  show WL C (do standAt pos; bindName C.env x v) I st _
  exact WL.bind (WL.standAt (bindName_W ok hk h I v r))

-- statements
theorem WSs.nil {Q : CF → CSt → Prop} (h : Q .next st) : WSs C [] st Q := fun I => WL.pure ⟨.next, rfl, h⟩
/-- what stands behind a statement -/
noncomputable def WThen (C : Cx) (rest : List Stmt) (Q : CF → CSt → Prop) (f : CF) (st : CSt) : Prop :=
  match f with
  | .next => WSs C rest st Q
  | f => Q f st
theorem WSs.cons {t : Stmt} {rest : List Stmt} {Q : CF → CSt → Prop} (h : WS C t st (WThen C rest Q)) : WSs C (t :: rest) st Q := fun I => by
  simp only [execs_cons]
  refine WL.bind ((h I).mono (fun J f st1 _ hh => hh.use fun b r q => ?_))
  cases b with
  | next => cases r; exact q J
  | brk => cases r; exact WL.pure ⟨.brk, rfl, q⟩
  | cont => cases r; exact WL.pure ⟨.cont, rfl, q⟩
  | ret c => (revert r; intro hfEl; refine el_1_1 hfEl fun v xEl1 r => ?_; try clear hfEl; obtain rfl := xEl1); exact WL.pure ⟨.ret c, (in_1_1 v rfl r), q⟩
theorem WS.ret {e pos} {Q : CF → CSt → Prop} (h : WE C e st (fun v st1 => Q (.ret v) st1)) : WS C (.Return (some e) pos) st Q := fun I => by
  simp only [exec_Return_some]
  refine WL.bind (WL.standAt (WL.bind ((h I).mono (fun J v st1 _ hh => hh.use fun c r q => WL.pure ⟨.ret c, (in_1_1 v rfl r), q⟩))))
theorem WS.retNone {pos} {Q : CF → CSt → Prop} (h : Q (.ret .none) st) : WS C (.Return none pos) st Q := fun I => by
  simp only [exec_Return_none]
  exact WL.bind (WL.standAt (WL.pure ⟨.ret .none, (in_1_1 _ rfl (by simp [VR])), h⟩))
theorem cT {A B : Prop} (h : A) : cond true A B := h
theorem cF {A B : Prop} (h : B) : cond false A B := h
theorem cB {c : Bool} {A B : Prop} (h1 : c = true → A) (h2 : c = false → B) : cond c A B := by
  cases c
  · exact h2 rfl
  · exact h1 rfl
theorem WS.if_ {t b o pos} {Q : CF → CSt → Prop} (h : WT C t st (fun c st1 => cond c (WSs C b st1 Q) (WSs C o st1 Q))) : WS C (.If t b o pos) st Q := fun I => by
  simp only [exec_If]
  refine WL.bind (WL.standAt (WL.bind ((h I).mono (fun J c st1 _ q => ?_))))
  cases c
  · exact q J
  · exact q J

theorem WS.expr {e pos} {Q : CF → CSt → Prop} (ok : C.Ok dep) (h : WE C e st (fun v st1 => v = .none ∧ Q .next st1)) (hs : swapsWith e none pos.line C.env = pure false := by rfl) : WS C (.Expr e pos) st Q := fun I => by
  have hi : interactive C.env = false := by unfold interactive; rw [ok.fun_]; rfl
  rw [exec_Expr C.env e pos hi hs]
  refine WL.bind (WL.standAt (WL.bind ((h I).mono (fun J v st1 _ hEl => ?_))))
  obtain ⟨c, r, e, q⟩ := hEl
  subst e
  simp only [VR] at r; subst r
  rw [dropValue_plain (fun a => by simp)]
  exact WL.pure ⟨.next, rfl, q⟩

theorem WS.assign1 {t value pos} {Q : CF → CSt → Prop} (h : WE C value st (fun v st1 => WA C (assign t C.env) v st1 (fun st2 => Q .next st2)))
    (hs : swapsWithSole [t] value pos.line C.env = pure false := by rfl) (hw : swappedStores [t] value C.env = pure none := by rfl) (he : (assignEach [t] C.env).map (·.2) = [assign t C.env] := by rfl) : WS C (.Assign [t] value pos) st Q := fun I => by
  simp only [exec_Assign_arm]
  refine WL.bind (WL.standAt ?_)
  rw [hs]
  refine WL.bind (WL.pure ?_)
  rw [if_neg (by decide)]
  refine WL.bind ((h I).mono (fun J v st1 _ hh => hh.use fun c r q => ?_))
  rw [hw]
  refine WL.bind (WL.pure ?_)
  show WL C (do assignAll v ((assignEach [t] C.env).map (·.2)); pure Flow.next) J st1 _
  rw [he]
  exact WL.bind ((q J v r).mono (fun J2 _ st2 _ q2 => WL.pure ⟨.next, rfl, q2⟩))

noncomputable def WAs (C : Cx) : List Expr → List CV → CSt → (CSt → Prop) → Prop
  | [], [], st, Q => Q st
  | t :: ts, v :: vs, st, Q => WA C (assign t C.env) v st (fun st1 => WAs C ts vs st1 Q)
  | _, _, _, _ => False
theorem WAs.all : ∀ {ts : List Expr} {vs : List CV} {st : CSt} {Q : CSt → Prop}, WAs C ts vs st Q → ∀ I us, VRs I vs us → WL C (assignInOrder (ts.map fun t => assign t C.env) us) I st (fun _ _ st' => Q st')
  | [], [], st, Q, h, I, us, r => by rw [r.nil_iff]; exact WL.pure h
  | t :: ts, v :: vs, st, Q, h, I, us, r => by
    (refine el_2_1 r.uncons fun u us' xEl2 rEl => ?_; obtain rfl := xEl2; (refine el_0_1 rEl fun r1 r2 => ?_; try clear rEl))
    show WL C (do holding us' (assign t C.env u); assignInOrder (ts.map fun t => assign t C.env) us') I st _
    exact WL.bind (WL.holding ((h I u r1).mono (fun J _ st1 l q => WAs.all q J us' (VRs.mono l _ _ r2))))
  | [], _ :: _, _, _, h, _, _, _ => h.elim
  | _ :: _, [], _, _, h, _, _, _ => h.elim

theorem IsTuple.of {I : IM} {h : Heap} (hi : ∀ a o, I a = some o → h.get? a = some o) {vs : List CV} {v : Value} (r : VR I (.tup vs) v) : ∃ a xs, v = .ref a ∧ h.IsTuple a xs ∧ VRs I vs xs.toList := by
  simp only [VR] at r
  (refine el_3_1 r fun a n xs xEl3 rEl => ?_; try clear r; obtain rfl := xEl3; (refine el_0_1 rEl fun hi' hr => ?_; try clear rEl))
  exact (in_2_2 a xs rfl (in_1_2 _ (hi _ _ hi') rfl (in_1_0 n rfl)) hr)

/-- heaps that grow, but for garbage -/
theorem SR.ext (S : SR C KF I st s) {h' : Heap} {tk : Nat} {b : Addr} (hb : s.heap.get? b = none) (k : Heap.ExtBut b s.heap h') : SR C KF I st { s with heap := h', toks := tk } :=
  S.keeps fun a o e => k a o (fun q => by rw [q, hb] at e; cases e) e

/-- a tuple is taken apart -/
theorem unpack_W (ok : C.Ok dep) {vs : List CV} {n : Nat} {v : Value} {Q : IM → List Value → CSt → Prop} (hn : vs.length = n) (r : VR I (.tup vs) v) (h : ∀ us, VRs I vs us → Q I us st) : WL C (unpackItems v n none) I st Q := fun KF s S => by
  (refine el_2_1 (IsTuple.of S.imm r) fun a xs xEl2 rEl => ?_; obtain rfl := xEl2; (refine el_0_1 rEl fun ht hr => ?_; try clear rEl))
  have : xs.size = n := by simp only [← hn, hr.length]; simp
  subst this
  exact wpAny_unpackItems_tuple ok.hd ht fun h' k => ⟨I, st, .refl I, S.ext (tk := s.toks) (heap_size _) k, h _ hr⟩

theorem starsNone {env : Env} : ∀ (es : List Expr), (∀ e ∈ es, ∀ t p, e ≠ .Starred t p) → (assignEach es env).findIdx? (·.1) = none ∧ (assignEach es env).map (·.2) = es.map (fun t => assign t env) ∧ (assignEach es env).length = es.length
  | [], _ => (in_0_2 rfl rfl rfl)
  | e :: es, h => by
    (refine el_0_2 (starsNone (env := env) es fun x hx => h x (List.mem_cons_of_mem _ hx)) fun a b c => ?_)
    have he : assignEach (e :: es) env = (false, assign e env) :: assignEach es env := by
      have := h e (by simp)
      cases e <;> first | rfl | (exact absurd rfl (this _ _))
    rw [he]
    refine (in_0_2 ?_ (by simp [b]) (by simp [c]))
    rw [List.findIdx?_cons]; simp [a]
noncomputable def noStar : Expr → Bool
  | .Starred .. => false
  | _ => true
theorem noStar_all {es : List Expr} (h : es.all noStar = true) : ∀ e ∈ es, ∀ t p, e ≠ .Starred t p := fun e he t p q => by
  have := List.all_eq_true.mp h e he
  rw [q] at this; cases this

theorem WA.tuple {es : List Expr} {k pos} {vs : List CV} {Q : CSt → Prop} (ok : C.Ok dep) (hn : vs.length = es.length) (h : WAs C es vs st Q) (hs : es.all noStar = true := by rfl) : WA C (assign (.Tuple es k pos) C.env) (.tup vs) st Q := fun I v r => by
  (refine el_0_2 (starsNone (env := C.env) es (noStar_all hs)) fun a b c => ?_)
  show WL C (do standAt pos; unpack v (assignEach es C.env)) I st _
  refine WL.bind (WL.standAt ?_)
  unfold unpack
  rw [a, b, c]
  exact WL.bind (WL.holding (unpack_W ok hn r fun us r' => h.all I us r'))

/-- two names, the stores exchanged -/
theorem WS.swap2 {x y : Str} {px py : Pos} {k tpos value pos} {Q : CF → CSt → Prop} (ok : C.Ok dep)
    (h : WE C value st (fun v st1 => ∃ a b, v = .tup [a, b] ∧ Q .next ((st1.put y b).put x a)))
    (hx : storeKind (C.env.kindOf x) = true) (hy : storeKind (C.env.kindOf y) = true)
    (hs : swapsWithSole [.Tuple [.Name x px, .Name y py] k tpos] value pos.line C.env = pure false := by rfl)
    (hw : swappedStores [.Tuple [.Name x px, .Name y py] k tpos] value C.env = pure (some [x, y])) :
    WS C (.Assign [.Tuple [.Name x px, .Name y py] k tpos] value pos) st Q := fun I => by
  simp only [exec_Assign_arm]
  refine WL.bind (WL.standAt ?_)
  rw [hs]
  refine WL.bind (WL.pure ?_)
  rw [if_neg (by decide)]
  refine WL.bind ((h I).mono (fun J v st1 _ hEl => ?_))
  obtain ⟨c, r, a, b, e, q⟩ := hEl
  subst e
  rw [hw]
  refine WL.bind (WL.pure ?_)
  show WL C (do rule "assign.swapped-stores"; let items ← unpackItems v 2 none; assignInOrder [bindName C.env y, bindName C.env x] items.reverse; pure Flow.next) J st1 _
  refine WL.bind (WL.rule (WL.bind (unpack_W ok rfl r fun us r' => ?_)))
  (refine el_2_1 r'.uncons fun u1 us' xEl2 rEl => ?_; obtain rfl := xEl2; (refine el_0_1 rEl fun r1 r2 => ?_; try clear rEl))
  (refine el_2_1 r2.uncons fun u2 us'' xEl2 rEl => ?_; obtain rfl := xEl2; (refine el_0_1 rEl fun r3 r4 => ?_; try clear rEl))
  rw [r4.nil_iff]
  show WL C (do (do holding [u1] (bindName C.env y u2); (do holding [] (bindName C.env x u1); pure ())); pure Flow.next) J st1 _
  refine WL.bind (WL.bind (WL.holding ((bindName_W (Q := fun st' => st' = st1.put y b) ok hy rfl J u2 r3).mono (fun J2 _ st2 l e2 => ?_))))
  subst e2
  refine WL.bind (WL.holding ((bindName_W (Q := fun st' => st' = (st1.put y b).put x a) ok hx rfl J2 u1 (r1.mono l)).mono (fun J3 _ st3 _ e3 => ?_)))
  subst e3
  exact WL.pure (WL.pure ⟨.next, rfl, q⟩)
end
end Mine
open PySem PySem.W PySem.Calls PyProof.Rows
set_option Elab.async false
set_option linter.all false
set_option maxRecDepth 100000
set_option genSizeOf false
namespace Mine

section
variable {C : Cx} {dep : Nat} {KF I : IM} {st : CSt} {s : Shared}

/-- an object of nobody's is kept -/
theorem SR.addK (S : SR C KF I st s) {a : Addr} {o : Obj} (ho : s.heap.get? a = some o) (h1 : I a = none) (h2 : KF a = none) (h3 : st.H a = none) (h4 : ¬ C.Own a) : SR C (iput KF a o) I st s := by
  refine ⟨S.kle.trans (iput_le h2), S.low, S.same, S.base, S.imm, fun b o' e => ?_, fun b hb => ?_, fun b c e => ?_, S.loc⟩
  · unfold iput at e; split at e
    · rename_i q; subst q; cases e; exact ⟨h1, ho⟩
    · exact S.frs b o' e
  · (refine el_0_2 (S.own b hb) fun a1 a2 a3 => ?_)
    refine (in_0_2 a1 ?_ a3)
    unfold iput; split
    · rename_i q; subst q; exact absurd hb h4
    · exact a2
  · (refine el_0_2 (S.mu b c e) fun a1 a2 r => ?_)
    refine (in_0_2 a1 ?_ r)
    unfold iput; split
    · rename_i q; subst q; rw [h3] at e; cases e
    · exact a2
theorem SR.weakK {KF' : IM} (S : SR C KF' I st s) (l : ILe KF KF') (l' : ILe C.KF KF) : SR C KF I st s := by
  have no : ∀ a, KF' a = none → KF a = none := fun a h => by
    cases e : KF a with
    | none => rfl
    | some o => rw [l a o e] at h; cases h
  refine ⟨l', S.low, S.same, S.base, S.imm, fun b o' e => S.frs b o' (l b o' e), fun b hb => ?_, fun b c e => ?_, S.loc⟩
  · (refine el_0_2 (S.own b hb) fun a1 a2 a3 => ?_); exact (in_0_2 a1 (no b a2) a3)
  · (refine el_0_2 (S.mu b c e) fun a1 a2 r => ?_); exact (in_0_2 a1 (no b a2) r)
/-- a walk over clean values: `D i J h` holds while `i` of them have been handed on -/
structure Walk (prog : Program) (w : World) (xs : List CV) (it : Addr) (D : Nat → IM → Heap → Prop) : Prop where
  item : ∀ (A : Around) (J : IM) (s : Shared) (i : Nat) (c : CV) (E : Value → Shared → Prop) (Q : Option Value → Shared → Prop), (∀ a o, J a = some o → s.heap.get? a = some o) → D i J s.heap → xs[i]? = some c →
    (∀ h' tk v, D (i + 1) J h' → VR J c v → (∀ b o, b ≠ it → s.heap.get? b = some o → h'.get? b = some o) → (∃ o, h'.get? it = some o) → Q (some v) { s with heap := h', toks := tk }) → wpAny (model prog w) A (pyNext (.ref it)) Q E s
  fin : ∀ (A : Around) (J : IM) (s : Shared) (E : Value → Shared → Prop) (Q : Option Value → Shared → Prop), A.handled = none → (∀ a o, J a = some o → s.heap.get? a = some o) → D xs.length J s.heap →
    (∀ h' tk, (∀ b o, b ≠ it → s.heap.get? b = some o → h'.get? b = some o) → Q none { s with heap := h', toks := tk }) → wpAny (model prog w) A (pyNext (.ref it)) Q E s
  frame : ∀ (J J' : IM) (h h' : Heap) (i : Nat), D i J h → ILe J J' → (∀ o, h.get? it = some o → h'.get? it = some o) → (∀ a o, J a = some o → h.get? a = some o → h'.get? a = some o) → D i J' h'
  self : ∀ (A : Around) (J : IM) (s : Shared) (i : Nat) (E : Value → Shared → Prop) (Q : Value → Shared → Prop), D i J s.heap → Q (.ref it) s → wpAny (model prog w) A (pyIter (.ref it)) Q E s
  cls : ∀ (J : IM) (h : Heap) (i : Nat), D i J h → ∃ o n, h.get? it = some o ∧ o.cls = .type n ∧ (["enumerate", "zip", "dict_itemiterator", "dict_reverseitemiterator", "odict_iterator", "itertools.zip_longest", "itertools.pairwise"].contains n) = false

/-- what a value hands on when it is walked: for every kept part -/
noncomputable def Iterates (C : Cx) (I : IM) (st : CSt) (v : Value) (xs : List CV) : Prop :=
  ∀ (A : Around) (KF : IM) (s : Shared) (E : Value → Shared → Prop) (Q : Value → Shared → Prop), SR C KF I st s →
    (∀ (h' : Heap) (tk : Nat) (it : Addr) D, Walk C.prog C.w xs it D → D 0 I h' → s.heap.get? it = none → (∃ o, h'.get? it = some o) → (∀ b o, s.heap.get? b = some o → h'.get? b = some o) → Q (.ref it) { s with heap := h', toks := tk }) →
    wpAny (model C.prog C.w) A (pyIter v) Q E s

theorem ownedGo_W {A : Around} {M : Model} {xs : List CV} {it : Addr} {D} (W : Walk C.prog C.w xs it D) {i : Nat} {J : IM} {t : Expr} {v : Value} {E : Value → Shared → Prop} {Q : Unit → Shared → Prop} (hD : D i J s.heap) (h : Q () s) : wpAny M A (letOwnedTupleGo t (.ref it) v) Q E s := by
  (refine el_2_2 (W.cls J s.heap i hD) fun o n ho hc hn => ?_)
  have main : wpAny M A (do
      let (.ref r, .ref a) := (Value.ref it, v) | return
      let o ← load r
      match o.cls, o.data with
      | .type n, .fields vs =>
        if ["enumerate", "zip", "dict_itemiterator", "dict_reverseitemiterator", "odict_iterator", "itertools.zip_longest", "itertools.pairwise"].contains n && vs[0]? == some (rawInt a) then
          rule "for.unpacks-the-owned-tuple"
          updateField r 0 .none
      | _, _ => pure ()) Q E s := by
    cases v with
    | ref a =>
      refine wpAny_bind (wpAny_load ho ?_)
      rw [hc]
      cases o.data <;> first | exact wpAny_pure h | skip
      rename_i vs
      dsimp only
      rw [hn]
      exact wpAny_pure h
    | _ => exact wpAny_pure h
  cases t <;> first | exact wpAny_pure h | exact main

/-- the turns of a loop -/
noncomputable def WFor (C : Cx) (t : Expr) (body orelse : List Stmt) : List CV → CSt → (CF → CSt → Prop) → Prop
  | [], st, Q => WSs C orelse st Q
  | x :: xs, st, Q => WA C (assign t C.env) x st (fun st1 => WSs C body st1 (fun f st2 => match f with
      | .next => WFor C t body orelse xs st2 Q
      | .cont => WFor C t body orelse xs st2 Q
      | .brk => Q .next st2
      | .ret v => Q (.ret v) st2))

theorem for_W {t : Expr} {body orelse : List Stmt} {xs : List CV} {v : Value} {Q : CF → CSt → Prop} (ok : C.Ok dep) (hit : Iterates C I st v xs) (h : WFor C t body orelse xs st Q) :
    WL C (do let it ← holding [v] (pyIter v); runOwn (.forLoop t it body orelse C.env) C.env) I st (fun J f st' => FlP J f Q st') := fun KF s S => by
  refine wpAny_bind (wpAny_holding (hit C.A KF s _ _ S fun h₁ tk₁ it D W hD hnew ⟨oi, hoi⟩ hk₁ => ?_))
  have S₁ : SR C KF I st { s with heap := h₁, toks := tk₁ } := S.keeps hk₁
  (refine el_0_3 (S.fresh hnew) fun n1 n2 n3 n4 => ?_)
  have l₁ : ILe KF (iput KF it oi) := iput_le n2
  have SK := S₁.addK hoi n1 n2 n3 n4
  -- the state of the loop
  let R : Result → Shared → Prop := fun r s' => match r with
    | .ok f => OkP C KF I s' fun I' st' => FlP I' f Q st'
    | .error e => ErP C KF I true e s'
  refine wpAny_runOwn (h := none) (codeAny_mono (R := R) ?lp fun r s' hr => ?bk)
  case bk =>
    cases r with
    | ok f => obtain ⟨I', st', a, b, c⟩ := hr; exact ⟨I', st', a, b, c⟩
    | error e => exact hr.elim
  have hA : C.A.mark none = C.A := by cases C.A; rfl
  rw [hA]
  refine codeAny_forLoop_any (fun n s' => ∃ i J st' o, n = xs.length - i ∧ i ≤ xs.length ∧ ILe I J ∧ SR C (iput KF it o) J st' s' ∧ D i J s'.heap ∧ s'.heap.get? it = some o ∧ WFor C t body orelse (xs.drop i) st' Q) ?_ xs.length
    (in_4_6 0 I st oi (by simp) (by simp) (.refl I) SK hD hoi (by simpa using h))
  intro n s' hEl
  (refine el_4_1 hEl fun i J st' o xEl4 rEl => ?_; try clear hEl; obtain rfl := xEl4; (refine el_0_5 rEl fun hi lJ S' hD' hit' hW => ?_; try clear rEl))
  have lo : ILe KF (iput KF it o) := iput_le n2
  by_cases hlt : i < xs.length
  · obtain ⟨c, hc⟩ : ∃ c, xs[i]? = some c := (in_1_0 (xs[i]) (by simp [hlt]))
    have hdrop : xs.drop i = c :: xs.drop (i + 1) := by
      rw [List.drop_eq_getElem_cons hlt]
      rw [List.getElem?_eq_getElem hlt] at hc; cases hc; rfl
    rw [hdrop] at hW
    refine W.item C.A J s' i c _ _ S'.imm hD' hc fun h₂ tk₂ u hD₂ hu hk₂ hEl => ?_
    (refine el_1_0 hEl fun o₂ ho₂ => ?_; try clear hEl)
    -- the walk itself has been turned: forget it, keep it anew
    have Sx : SR C KF J st' { s' with heap := h₂, toks := tk₂ } := by
      have := (S'.weakK lo S.kle)
      refine this.heap fun a ob e hb => hk₂ a ob (fun q => notHeld hb q S'.iterIn.1 n2 S'.iterIn.2.1 S'.iterIn.2.2) e
    have m1 : J it = none := (S'.frs it o (by simp)).1
    have m3 : st'.H it = none := by
      cases e : st'.H it with
      | none => rfl
      | some cc => have := (S'.mu it cc e).2.1; simp at this
    have m4 : ¬ C.Own it := fun hb => by have := (S'.own it hb).2.1; simp at this
    have Sy := Sx.addK ho₂ m1 n2 m3 m4
    have lo₂ : ILe KF (iput KF it o₂) := iput_le n2
    refine ownedGo_W W hD₂ ?_
    refine wpAny_mono (hW J u hu _ _ Sy) (fun _ s3 hh => hh.use fun J3 st3 l3 S3 q3 => ?_) fun e s3 hF => hF.elim
    refine wpAny_mono (q3 J3 _ _ S3) (fun f s4 hh => hh.use fun J4 st4 l4 S4 hv => hv.use fun b hb q4 => ?_) fun e s4 hF => hF.elim
    have again : ∀ st4, SR C (iput KF it o₂) J4 st4 s4 → WFor C t body orelse (xs.drop (i + 1)) st4 Q → ∃ m, m < xs.length - i ∧ ∃ i J st' o, m = xs.length - i ∧ i ≤ xs.length ∧ ILe I J ∧ SR C (iput KF it o) J st' s4 ∧ D i J s4.heap ∧ s4.heap.get? it = some o ∧ WFor C t body orelse (xs.drop i) st' Q := by
      intro st4 S4 hw
      (refine el_0_1 (S4.frs it o₂ (by simp)) fun _ e4 => ?_)
      refine (in_1_1 (xs.length - (i + 1)) (by (exact Nat.sub_lt_sub_left (by assumption) (Nat.lt_succ_self _))) (in_4_6 (i + 1) J4 st4 o₂ rfl hlt (lJ.trans (l3.trans l4)) S4 ?_ e4 hw))
      exact W.frame J J4 h₂ s4.heap (i + 1) hD₂ (l3.trans l4) (fun o' e => by rw [ho₂] at e; cases e; exact e4) fun a o' e1 e2 => S4.imm a o' ((l3.trans l4) a o' e1)
    cases b with
    | next => cases hb; exact again st4 S4 q4
    | cont => cases hb; exact again st4 S4 q4
    | brk => cases hb; exact ⟨J4, st4, lJ.trans (l3.trans l4), S4.weakK lo₂ S.kle, .next, rfl, q4⟩
    | ret c => (refine el_1_1 hb fun u' xEl1 r' => ?_; try clear hb; obtain rfl := xEl1); exact ⟨J4, st4, lJ.trans (l3.trans l4), S4.weakK lo₂ S.kle, .ret c, (in_1_1 u' rfl r'), q4⟩
  · have hin : i = xs.length := by (exact (Nat.le_antisymm (by assumption) (Nat.le_of_not_lt (by assumption))))
    subst hin
    refine W.fin C.A J s' _ _ ok.hd S'.imm hD' fun h₂ tk₂ hk₂ => ?_
    have Sx : SR C KF J st' { s' with heap := h₂, toks := tk₂ } := by
      have := (S'.weakK lo S.kle)
      refine this.heap fun a ob e hb => hk₂ a ob (fun q => notHeld hb q S'.iterIn.1 n2 S'.iterIn.2.1 S'.iterIn.2.2) e
    rw [List.drop_length] at hW
    exact wpAny_mono (hW J KF _ Sx) (fun f s3 hh => hh.use fun J3 st3 l3 S3 q3 => ⟨J3, st3, lJ.trans l3, S3, q3⟩) fun e s3 hF => hF.elim

/-- what a clean value hands on when it is walked -/
noncomputable def IterOf (C : Cx) (a : CV) (st : CSt) (xs : List CV) : Prop := ∀ I v, VR I a v → Iterates C I st v xs

theorem WS.for_ {t iter body orelse pos} {Q : CF → CSt → Prop} (ok : C.Ok dep) (h : WE C iter st (fun a st1 => ∃ xs, IterOf C a st1 xs ∧ WFor C t body orelse xs st1 Q))
    (hs : ∀ x, foldedSetIterable iter C.env x = pure x := by intro _; rfl) : WS C (.For t iter body orelse pos) st Q := fun I => by
  simp only [exec_For]
  refine WL.bind (WL.standAt (WL.bind ((h I).mono (fun J v st1 _ hEl => ?_))))
  obtain ⟨a, r, xs, hi, hw⟩ := hEl
  rw [hs v]
  exact WL.bind (WL.pure (WL.bind (WL.standAt (for_W ok (hi J v r) hw))))
end
end Mine
open PySem PySem.W PySem.Calls PyProof.Rows
set_option Elab.async false
set_option linter.all false
set_option maxRecDepth 100000
set_option genSizeOf false
namespace Mine

section
variable {C : Cx} {KF I : IM} {st : CSt} {s : Shared}

/-- a walk by the sequence's iterator -/
theorem walk_list {xs : List CV} {us : Array Value} {l it : Addr} (hne : it ≠ l) :
    Walk C.prog C.w xs it (fun i J h => h.IsListIter it l i ∧ (∃ n, J l = some ⟨.type "list", .none, .seq us n, #[]⟩ ∧ h.get? l = some ⟨.type "list", .none, .seq us n, #[]⟩) ∧ VRs J xs us.toList) := by
  refine ⟨fun A J s i c E Q S ⟨h1, ⟨n, h2, h2'⟩, h3⟩ hc k => ?_, fun A J s E Q hA S ⟨h1, ⟨n, h2, h2'⟩, h3⟩ k => ?_, fun J J' h h' i ⟨h1, ⟨n, h2, h2'⟩, h3⟩ l k1 k2 => ?_, fun A J s i E Q ⟨h1, _⟩ q => wpAny_pyIter_listiter h1 q, fun J h i ⟨⟨o, h1, h2, _⟩, _⟩ => (in_2_2 o _ h1 h2 (by decide +kernel))⟩
  · (refine el_1_1 (h3.get hc) fun v hv hr => ?_)
    have hl : s.heap.IsList l us := (in_1_2 _ (S _ _ h2) rfl (in_1_0 n rfl))
    refine wpAny_pyNext_list_item h1 hl (x := v) (by simpa using hv) fun h' hit hs => ?_
    refine k h' s.toks v (in_0_2 hit (in_1_1 n h2 ((hs.2 l (Ne.symm hne)).trans (S _ _ h2))) h3) hr (fun b o hb e => (hs.2 b hb).trans e) ?_
    (refine el_1_1 hit fun o ho _ => ?_; try clear hit); exact (in_1_0 o ho)
  · have hl : s.heap.IsList l us := (in_1_2 _ (S _ _ h2) rfl (in_1_0 n rfl))
    refine wpAny_pyNext_list_end hA h1 hl ?_ fun h' hs => k h' s.toks fun b o hb e => hs b o hb e
    rw [Array.getElem?_eq_none_iff, h3.length]; simp
  · (refine el_1_2 h1 fun o a1 a2 a3 => ?_; try clear h1)
    exact (in_0_2 (in_1_2 _ (k1 o a1) a2 a3) (in_1_1 n (l _ _ h2) (k2 _ _ h2 h2')) (VRs.mono l _ _ h3))
theorem walk_tup {xs : List CV} {us : Array Value} {l it : Addr} (hne : it ≠ l) :
    Walk C.prog C.w xs it (fun i J h => h.IsTupleIter it l i ∧ (∃ n, J l = some ⟨.type "tuple", .none, .seq us n, #[]⟩ ∧ h.get? l = some ⟨.type "tuple", .none, .seq us n, #[]⟩) ∧ VRs J xs us.toList) := by
  refine ⟨fun A J s i c E Q S ⟨h1, ⟨n, h2, h2'⟩, h3⟩ hc k => ?_, fun A J s E Q hA S ⟨h1, ⟨n, h2, h2'⟩, h3⟩ k => ?_, fun J J' h h' i ⟨h1, ⟨n, h2, h2'⟩, h3⟩ l k1 k2 => ?_, fun A J s i E Q ⟨h1, _⟩ q => wpAny_pyIter_tupleiter h1 q, fun J h i ⟨⟨o, h1, h2, _⟩, _⟩ => (in_2_2 o _ h1 h2 (by decide +kernel))⟩
  · (refine el_1_1 (h3.get hc) fun v hv hr => ?_)
    have hl : s.heap.IsTuple l us := (in_1_2 _ (S _ _ h2) rfl (in_1_0 n rfl))
    refine wpAny_pyNext_tuple_item h1 hl (x := v) (by simpa using hv) fun h' hit hs => ?_
    refine k h' s.toks v (in_0_2 hit (in_1_1 n h2 ((hs.2 l (Ne.symm hne)).trans (S _ _ h2))) h3) hr (fun b o hb e => (hs.2 b hb).trans e) ?_
    (refine el_1_1 hit fun o ho _ => ?_; try clear hit); exact (in_1_0 o ho)
  · have hl : s.heap.IsTuple l us := (in_1_2 _ (S _ _ h2) rfl (in_1_0 n rfl))
    refine wpAny_pyNext_tuple_end hA h1 hl ?_ fun h' hs => k h' s.toks fun b o hb e => hs b o hb e
    rw [Array.getElem?_eq_none_iff, h3.length]; simp
  · (refine el_1_2 h1 fun o a1 a2 a3 => ?_; try clear h1)
    exact (in_0_2 (in_1_2 _ (k1 o a1) a2 a3) (in_1_1 n (l _ _ h2) (k2 _ _ h2 h2')) (VRs.mono l _ _ h3))

theorem IterOf.lst {xs : List CV} : IterOf C (.lst xs) st xs := fun I v r A KF s E Q S k => by
  simp only [VR] at r
  (refine el_3_1 r fun l n us xEl3 rEl => ?_; try clear r; obtain rfl := xEl3; (refine el_0_1 rEl fun hi hr => ?_; try clear rEl))
  have hl : s.heap.IsList l us := (in_1_2 _ (S.imm _ _ hi) rfl (in_1_0 n rfl))
  refine wpAny_pyIter_list hl ?_
  have hne : s.heap.objs.size ≠ l := Nat.ne_of_gt (Heap.lt_size (S.imm _ _ hi))
  have hg := Heap.get?_push_size s.heap (o := { cls := .type "list_iterator", data := .fields #[.ref l, .int 0 0] }) rfl
  exact k _ s.toks _ _ (walk_list hne) (in_0_2 (in_1_2 _ hg rfl rfl) (in_1_1 n hi (Heap.get?_push_of_some _ (S.imm _ _ hi))) hr) (heap_size _) (in_1_0 _ hg) fun b o e => Heap.get?_push_of_some _ e
theorem IterOf.tup {xs : List CV} : IterOf C (.tup xs) st xs := fun I v r A KF s E Q S k => by
  simp only [VR] at r
  (refine el_3_1 r fun l n us xEl3 rEl => ?_; try clear r; obtain rfl := xEl3; (refine el_0_1 rEl fun hi hr => ?_; try clear rEl))
  have hl : s.heap.IsTuple l us := (in_1_2 _ (S.imm _ _ hi) rfl (in_1_0 n rfl))
  refine wpAny_pyIter_tuple hl ?_
  have hne : s.heap.objs.size ≠ l := Nat.ne_of_gt (Heap.lt_size (S.imm _ _ hi))
  have hg := Heap.get?_push_size s.heap (o := { cls := .type "tuple_iterator", data := .fields #[.ref l, .int 0 0] }) rfl
  exact k _ s.toks _ _ (walk_tup hne) (in_0_2 (in_1_2 _ hg rfl rfl) (in_1_1 n hi (Heap.get?_push_of_some _ (S.imm _ _ hi))) hr) (heap_size _) (in_1_0 _ hg) fun b o e => Heap.get?_push_of_some _ e

/-- the ints of a range by ones -/
noncomputable def rints (a b : Int) : List CV := (List.range (b - a).toNat).map fun i => CV.int (a + (i : Nat))
theorem rints_length (a b : Int) : (rints a b).length = (b - a).toNat := by simp [rints]
theorem walk_rng {a b : Int} {it : Addr} :
    Walk C.prog C.w (rints a b) it (fun i J h => IsRangeIter h it (a + (i : Nat)) (((b - a).toNat : Int) - (i : Nat)) 1 ∧ i ≤ (b - a).toNat) := by
  refine ⟨fun A J s i c E Q S ⟨h1, h2⟩ hc k => ?_, fun A J s E Q hA S ⟨h1, h2⟩ k => ?_, fun J J' h h' i ⟨h1, h2⟩ l k1 k2 => ⟨k1 _ h1, h2⟩, fun A J s i E Q ⟨h1, _⟩ q => wpAny_pyIter_rangeiter h1 q, fun J h i ⟨h1, _⟩ => (in_2_2 _ _ h1 rfl (by decide +kernel))⟩
  · obtain ⟨hlt, rfl⟩ : i < (b - a).toNat ∧ CV.int (a + (i : Nat)) = c := by
      have := (List.getElem?_eq_some_iff.mp hc)
      (refine el_1_0 this fun h1 h2 => ?_; try clear this)
      rw [rints_length] at h1
      exact ⟨h1, by rw [← h2]; simp [rints]⟩
    refine wpAny_pyNext_range_item h1 (by omega +splitDisjunctions) fun h' hit hs => ?_
    refine k h' _ _ ⟨?_, hlt⟩ (by simp [VR]) (fun b o hb e => (hs.2 b hb).trans e) (in_1_0 _ hit)
    have e1 : a + ((i : Nat) : Int) + 1 = a + ((i + 1 : Nat) : Int) := by omega
    have e2 : ((b - a).toNat : Int) - ((i : Nat) : Int) - 1 = ((b - a).toNat : Int) - ((i + 1 : Nat) : Int) := by omega
    rw [← e1, ← e2]; exact hit
  · rw [rints_length] at h1
    exact wpAny_pyNext_range_end hA h1 (by simp) fun h' he => k h' s.toks fun b o hb e => he b o hb e
theorem IterOf.rng {a b : Int} (ha : -(2 ^ 62) ≤ a ∧ a < 2 ^ 62) (hb : -(2 ^ 62) ≤ b ∧ b < 2 ^ 62) : IterOf C (.rng a b) st (rints a b) := fun I v r A KF s E Q S k => by
  simp only [VR] at r
  (refine el_4_1 r fun ad t u x xEl4 hi => ?_; try clear r; obtain rfl := xEl4)
  have hr : IsRange s.heap ad a b 1 t u x := S.imm _ _ hi
  refine wpAny_pyIter_range hr (small_one ha.1 ha.2 hb.1 hb.2) ?_
  have hsz : Builtin.Range.rangeSize a b 1 = ((b - a).toNat : Int) := by rw [rangeSize_one]; split <;> omega
  rw [hsz]
  have hg := Heap.get?_push_size s.heap (o := { cls := .type "range_iterator", data := .fields #[rawInt a, rawInt ((b - a).toNat : Int), rawInt 1] }) rfl
  refine k _ s.toks _ _ walk_rng ⟨by simpa using hg, Nat.zero_le _⟩ (heap_size _) (in_1_0 _ hg) fun b o e => Heap.get?_push_of_some _ e
end
end Mine
open PySem PySem.W PySem.Calls PyProof.Rows
set_option Elab.async false
set_option linter.all false
set_option maxRecDepth 100000
set_option genSizeOf false
namespace Mine

theorem bindL_other (kindOf : Str → Option NameKind) (x : Str) : ∀ (binds : List (Str × Value)) (m : Str → Option Value), (∀ b ∈ binds, b.1 ≠ x) → bindL kindOf binds m x = m x
  | [], m, _ => rfl
  | (n, v) :: r, m, h => by
    unfold bindL
    rw [bindL_other kindOf x r _ fun b hb => h b (List.mem_cons_of_mem _ hb)]
    split
    · have : x ≠ n := fun q => h (n, v) (by simp) q.symm
      simp [this]
    · rfl
theorem bindC_other (kindOf : Str → Option NameKind) (x : Str) : ∀ (binds : List (Str × Value)) (m : Str → Option Value), (∀ b ∈ binds, b.1 ≠ x) → bindC kindOf binds m x = m x
  | [], m, _ => rfl
  | (n, v) :: r, m, h => by
    unfold bindC
    rw [bindC_other kindOf x r _ fun b hb => h b (List.mem_cons_of_mem _ hb)]
    split
    · rfl
    · have : x ≠ n := fun q => h (n, v) (by simp) q.symm
      simp [this]
theorem bindL_of (kindOf : Str → Option NameKind) (x : Str) (u : Value) (hk : kindOf x = some .local) : ∀ (binds : List (Str × Value)) (m : Str → Option Value), (binds.map (·.1)).Nodup → binds.lookup x = some u → bindL kindOf binds m x = some u
  | [], m, _, h => by cases h
  | (n, v) :: r, m, hnd, h => by
    rw [List.map_cons, List.nodup_cons] at hnd
    unfold bindL
    simp only [List.lookup_cons] at h
    by_cases q : x = n
    · subst q
      simp at h; subst h
      rw [bindL_other _ _ _ _ fun b hb e => hnd.1 (List.mem_map.mpr (in_1_1 b hb e)), if_pos hk]; simp
    · have : (x == n) = false := by simpa using q
      rw [this] at h
      exact bindL_of kindOf x u hk r _ hnd.2 h
theorem bindC_of (kindOf : Str → Option NameKind) (x : Str) (u : Value) (hk : kindOf x ≠ some .local) : ∀ (binds : List (Str × Value)) (m : Str → Option Value), (binds.map (·.1)).Nodup → binds.lookup x = some u → bindC kindOf binds m x = some u
  | [], m, _, h => by cases h
  | (n, v) :: r, m, hnd, h => by
    rw [List.map_cons, List.nodup_cons] at hnd
    unfold bindC
    simp only [List.lookup_cons] at h
    by_cases q : x = n
    · subst q
      simp at h; subst h
      rw [bindC_other _ _ _ _ fun b hb e => hnd.1 (List.mem_map.mpr (in_1_1 b hb e)), if_neg hk]; simp
    · have : (x == n) = false := by simpa using q
      rw [this] at h
      exact bindC_of kindOf x u hk r _ hnd.2 h

theorem zip_lookup {I : IM} {x : Str} : ∀ {pn : List Str} {cs : List CV} {us : List Value} {c : CV}, VRs I cs us → (pn.zip cs).lookup x = some c → ∃ u, (pn.zip us).lookup x = some u ∧ VR I c u
  | [], cs, us, c, r, h => by cases h
  | p :: pn, [], us, c, r, h => by cases h
  | p :: pn, d :: cs, us, c, r, h => by
    (refine el_2_1 r.uncons fun u us' xEl2 rEl => ?_; obtain rfl := xEl2; (refine el_0_1 rEl fun r1 r2 => ?_; try clear rEl))
    simp only [List.zip_cons_cons, List.lookup_cons] at h ⊢
    split at h
    · cases h; exact (in_1_1 u rfl r1)
    · exact zip_lookup r2 h
theorem zip_map_fst {α β : Type} : ∀ (l : List α) (r : List β), ((l.zip r).map (·.1)).Sublist l
  | [], r => by simp
  | a :: l, [] => by simp
  | a :: l, b :: r => by simp [zip_map_fst l r]

/-- the data of a def, laid at the top -/
structure FnAt (C : Cx) (fa : Addr) (fd : FuncData) (body : List Stmt) : Prop where
  at_ : ∃ o, C.base.get? fa = some o ∧ o.data = .func fd
  code : C.base.CodeRec fd.code fd.qualname
  body : fd.body = .stmts body
  clo : fd.closure = []
  gl : fd.globals = mainGlobals
  bl : fd.builtins = builtinsNs
  co : fd.scope.isCoroutine = false
  gen : fd.scope.isGenerator = false
  kind : fd.scope.kind = .function

/-- the part of a context that a call keeps -/
structure Cx.Same (C C' : Cx) : Prop where
  prog : C'.prog = C.prog
  w : C'.w = C.w
  base : C'.base = C.base
  K : C'.K = C.K
  mg : C'.mg = C.mg
  mb : C'.mb = C.mb
  s0 : C'.s0 = C.s0

/-- a call, by keywords or none -/
noncomputable def WCall (C : Cx) (f : Value) (args : List CV) (kn : List Str) (ks : List CV) (st : CSt) (Q : CV → CSt → Prop) : Prop :=
  ∀ I us vs, VRs I args us → VRs I ks vs → WL C (call f us (kn.zip vs)) I st (fun J r st' => ValP J r Q st')

noncomputable def CF.val : CF → CV
  | .ret v => v
  | _ => .none

section
variable {C : Cx} {dep : Nat} {KF I : IM} {st : CSt} {s : Shared}

open Classical in
theorem codeCall_W {fa : Addr} {fd : FuncData} {body : List Stmt} {args ks : List CV} {kn pn : List Str} {Q : CV → CSt → Prop} (ok : C.Ok (dep + 1)) (fn : FnAt C fa fd body)
    (hb : ∀ us vs : List Value, us.length = args.length → vs.length = ks.length → bindArgs fd ⟨us, kn.zip vs⟩ = pure (pn.zip (us ++ vs)))
    (hkind : (pn.all fun x => storeKind (fd.scope.names.lookup x)) = true) (hnd : pn.Nodup) (hfree : (fd.scope.names.all fun x => x.2 != .free) = true)
    (hcn : ((fd.scope.names.filter fun x => x.2 == .cell).map (·.1)).Nodup)
    (h : ∀ C' : Cx, C'.Ok dep → C.Same C' → C'.env.scope = fd.scope → WSs C' body ⟨fun x => (pn.zip (args ++ ks)).lookup x, st.H⟩ (fun f st' => Q f.val ⟨st.lo, st'.H⟩)) :
    ∀ I us vs, VRs I args us → VRs I ks vs → ∀ KF s, SR C KF I st s → codeAny (model C.prog C.w) C.A (.call (.ref fa) ⟨us, kn.zip vs⟩) (fun r s' => match r with
      | .ok (.ret v) => OkP C KF I s' fun I' st' => ValP I' v Q st'
      | .ok _ => False
      | .error e => ErP C KF I false e s') s := fun I us vs r1 r2 KF s S => by
  (refine el_1_1 fn.at_ fun fo hfo hfd => ?_)
  have bk : ∀ b o, C.base.get? b = some o → s.heap.get? b = some o := fun b o e => S.imm b o (S.base b o e)
  have lu := r1.length
  have lv := r2.length
  refine codeAny_call_function (A := C.A) (by have := ok.depth; omega) (bk _ _ hfo) hfd fn.co fn.gen fn.body (fn.code.keeps bk) ?_
  rw [hb us vs lu.symm lv.symm]
  refine wpAny_pure ?_
  rw [fn.clo, fn.gl, fn.bl]
  have rr := r1.append r2
  refine wpAny_newFunctionEnv_cells fn.kind (fun x hx => ?_) fun env' he s₁ x => ?_
  · have hm : x.1 ∈ pn := by
      have := List.mem_map_of_mem (f := Prod.fst) hx
      exact (zip_map_fst _ _).subset this
    have := List.all_eq_true.mp hkind _ hm
    cases q : fd.scope.names.lookup x.1 with
    | none => rw [q] at this; cases this
    | some k =>
      rw [q] at this
      cases k <;> first | exact .inl rfl | (cases this; done) | skip
      exact .inr ⟨rfl, cellsFrom_some _ _ _ (.inl q)⟩
  (refine el_2_0 x.toInCall.same fun h₁ tk₁ hs₁ => ?_)
  have keep := x.toInCall.keep
  have hL : env'.locals = s.heap.objs.size := by rw [he]; rfl
  have hcl : env'.cells = cellsFrom (s.heap.objs.size + 1) fd.scope.names [] := by rw [he]; rfl
  have hsc : env'.scope = fd.scope := by rw [he]; rfl
  have hfr : env'.frame = some env'.locals := by rw [he]; rfl
  have hgl : env'.globals = mainGlobals := by rw [he]; rfl
  have hbl : env'.builtins = builtinsNs := by rw [he]; rfl
  have hkd : ∀ y, env'.kindOf y = fd.scope.names.lookup y := fun y => by unfold Env.kindOf; rw [hsc]
  have noGet : ∀ a, s.heap.objs.size ≤ a → s.heap.get? a = none := fun a ha => by
    cases q : s.heap.get? a with
    | none => rfl
    | some o => exact absurd (Heap.lt_size q) (Nat.not_lt.mpr ha)
  have noL : s.heap.get? env'.locals = none := by rw [hL]; exact noGet _ (Nat.le_refl _)
  -- the context of the call
  let KFc : IM := fun a => if C.Own a then s.heap.get? a else C.KF a
  let KF' : IM := fun a => if C.Own a then s.heap.get? a else KF a
  let C' : Cx := { C with A := C.A.deeper env', env := env', KF := KFc }
  have own' : ∀ a, C'.Own a → s.heap.get? a = none := by
    intro a ha
    (refine Or.elim ha (fun ha => ?aElo) (fun xElo => ?bElo); (case' bElo => try clear ha; (refine el_1_1 xElo fun y hy hl => ?_; try clear xElo)); (case' aElo => skip))
    · exact (congrArg s.heap.get? ha).trans noL
    · have := x.above y a (mem_of_lookup hl)
      rw [hL] at this; exact noGet a (Nat.le_of_lt this)
  have apart := x.apart
  have names : ∀ y c, env'.kindOf y = some .cell → env'.cells.lookup y = some c → (y, c) ∈ env'.cells := fun y c _ h => mem_of_lookup h
  have ok' : C'.Ok dep := by
    refine ⟨by show env'.scope.kind = _; rw [hsc]; exact fn.kind, hgl, hbl, ok.K, ok.g, ok.b, ok.nolimit, ok.boot, ok.hd, ?_, ?_, fun y z c hy hz h1 h2 => ?_, fun y hy h1 => ?_, ?_⟩
    · show C.A.units + 3 + _ + 200 < cLine
      have := ok.units; omega
    · show C.A.depth + 1 + _ + 20 < recursionLimit
      have := ok.depth; omega
    · exact name_of_addr apart (mem_of_lookup h1) (mem_of_lookup h2)
    · have := x.above y _ (mem_of_lookup h1)
      exact absurd this (Nat.lt_irrefl _)
    · show C.base.get? env'.locals = none
      cases q : C.base.get? env'.locals with
      | none => rfl
      | some o => rw [bk _ _ q] at noL; cases noL
  have S' : SR C' KF' I ⟨fun x => (pn.zip (args ++ ks)).lookup x, st.H⟩ s₁ := by
    refine ⟨fun a o e => ?_, S.low, ?_, S.base, fun a o e => keep a o (S.imm a o e), fun a o e => ?_, fun a ha => ?_, fun a c e => ?_, ?_⟩
    · change (if C.Own a then s.heap.get? a else C.KF a) = some o at e
      show (if C.Own a then s.heap.get? a else KF a) = some o
      by_cases q : C.Own a
      · rw [if_pos q] at e ⊢; exact e
      · rw [if_neg q] at e ⊢; exact S.kle a o e
    · (refine el_3_0 S.same fun h0 t0 d0 e0 => ?_)
      exact (in_3_0 h₁ tk₁ d0 (by rw [hs₁, e0]))
    · change (if C.Own a then s.heap.get? a else KF a) = some o at e
      by_cases q : C.Own a
      · rw [if_pos q] at e
        exact ⟨(S.own a q).1, keep a o e⟩
      · rw [if_neg q] at e
        (refine el_0_1 (S.frs a o e) fun h1 h2 => ?_)
        exact ⟨h1, keep a _ h2⟩
    · have hn := own' a ha
      (refine el_0_3 (S.fresh hn) fun h1 h2 h3 h4 => ?_)
      exact (in_0_2 h1 (by show (if C.Own a then _ else _) = _; rw [if_neg h4]; exact h2) h3)
    · (refine el_0_2 (S.mu a c e) fun h1 h2 rEl => ?_; (refine el_1_1 rEl fun o h3 h4 => ?_; try clear rEl))
      refine (in_0_2 h1 ?_ (in_1_1 o (keep a o h3) h4))
      show (if C.Own a then _ else _) = _
      rw [if_neg fun q => by have := (S.own a q).2.2; rw [e] at this; cases this]; exact h2
    · have ndz : ((pn.zip (us ++ vs)).map (·.1)).Nodup := (zip_map_fst _ _).nodup hnd
      refine ⟨(in_1_1 _ x.toInCall.ns (fun y v hy hky => ?_)), fun y v hy hky => ?_, fun y v hy hky => ?_, fun y hky => ?_⟩
      · (refine el_1_1 (zip_lookup rr hy) fun u h1 h2 => ?_)
        exact (in_1_1 u (bindL_of _ y u hky _ _ ndz h1) h2)
      · (refine el_1_1 (zip_lookup rr hy) fun u h1 h2 => ?_)
        obtain ⟨c, hc⟩ : ∃ c, env'.cells.lookup y = some c := by
          rw [hcl]; exact Option.isSome_iff_exists.mp (cellsFrom_some _ _ _ (.inl ((hkd y).symm.trans hky)))
        refine (in_2_2 c u hc ?_ h2)
        have hce := x.cell y c hc
        rwa [bindC_of _ y u (by rw [hky]; decide) _ _ ndz h1] at hce
      · exfalso
        change env'.kindOf y = _ at hky
        rw [hkd y] at hky
        have := List.all_eq_true.mp hfree (y, .free) (mem_of_lookup hky)
        simp at this
      · obtain ⟨c, hc⟩ : ∃ c, env'.cells.lookup y = some c := by
          rw [hcl]; exact Option.isSome_iff_exists.mp (cellsFrom_some _ _ _ (.inl ((hkd y).symm.trans hky)))
        exact (in_2_1 c _ hc (x.cell y c hc))
  -- back
  have back : ∀ {J st' s'}, ILe I J → SR C' KF' J st' s' → SR C KF J ⟨st.lo, st'.H⟩ s' := by
    intro J st' s' lJ S2
    have frs2 : ∀ a, C.Own a → ∀ o, s.heap.get? a = some o → J a = none ∧ s'.heap.get? a = some o := fun a q o e => S2.frs a o (by show (if C.Own a then _ else _) = _; rw [if_pos q]; exact e)
    have ownGet : ∀ a, C.Own a → ∃ o, s.heap.get? a = some o := fun a q => S.ownNo q
    have cellK : ∀ y c v, C.env.kindOf y = some .cell → C.env.cells.lookup y = some c → s.heap.IsCell c v → s'.heap.IsCell c v := fun y c v hy hl ⟨o, ho, hd⟩ => by
      (refine el_0_1 (frs2 c (.inr (in_1_1 y hy hl)) o ho) fun _ e => ?_)
      exact (in_1_1 _ e hd)
    refine ⟨S.kle, S2.low, S2.same, S2.base, S2.imm, fun a o e => ?_, fun a ha => ?_, fun a c e => ?_, ?_⟩
    · have hq : ¬ C.Own a := fun q => by have := (S.own a q).2.1; rw [e] at this; cases this
      exact S2.frs a o (by show (if C.Own a then _ else _) = _; rw [if_neg hq]; exact e)
    · (refine el_1_0 (ownGet a ha) fun o ho => ?_)
      refine (in_0_2 ((frs2 a ha o ho).1) ((S.own a ha).2.1) ?_)
      show st'.H a = none
      cases q : st'.H a with
      | none => rfl
      | some c =>
        have := (S2.mu a c q).2.1
        change (if C.Own a then s.heap.get? a else KF a) = none at this
        rw [if_pos ha, ho] at this; cases this
    · (refine el_0_2 (S2.mu a c e) fun h1 h2 h3 => ?_)
      refine (in_0_2 h1 ?_ h3)
      change (if C.Own a then s.heap.get? a else KF a) = none at h2
      by_cases q : C.Own a
      · exact (S.own a q).2.1
      · rw [if_neg q] at h2; exact h2
    · obtain ⟨⟨m, ⟨oL, es, ep, hL', hd, hr⟩, h1⟩, h2, h3, h4⟩ := S.loc.mono lJ
      (refine el_0_1 (frs2 _ (.inl rfl) oL hL') fun _ eL => ?_)
      refine ⟨(in_1_1 m (in_3_2 _ es ep eL hd hr) h1), fun y v e hk => ?_, h3, fun y hy => ?_⟩
      · (refine el_2_2 (h2 y v e hk) fun c u a1 a2 a3 => ?_); exact (in_2_2 c u a1 (cellK y c _ hk a1 a2) a3)
      · (refine el_2_1 (h4 y hy) fun c v0 a1 a2 => ?_); exact (in_2_1 c v0 a1 (cellK y c _ hy a1 a2))
  refine ⟨(ok.nolimit.keeps bk).keeps keep, ?_⟩
  refine codeAny_func ?_
  refine wpAny_mono (h C' ok' ⟨rfl, rfl, rfl, rfl, rfl, rfl, rfl⟩ hsc I KF' s₁ S') (fun f s2 hh => hh.use fun J st2 l2 S2 hv => hv.use fun b hb2 q2 => ?_) fun e s2 hF => hF.elim
  · refine ⟨J, ⟨st.lo, st2.H⟩, l2, back l2 S2, b.val, ?_, q2⟩
    cases b with
    | next => cases hb2; rfl
    | brk => cases hb2; rfl
    | cont => cases hb2; rfl
    | ret c => (refine el_1_1 hb2 fun u xEl1 r => ?_; try clear hb2; obtain rfl := xEl1); exact r
theorem call_W {fa : Addr} {fd : FuncData} {body : List Stmt} {args ks : List CV} {kn pn : List Str} {Q : CV → CSt → Prop} (ok : C.Ok (dep + 1)) (fn : FnAt C fa fd body)
    (hb : ∀ us vs : List Value, us.length = args.length → vs.length = ks.length → bindArgs fd ⟨us, kn.zip vs⟩ = pure (pn.zip (us ++ vs)))
    (hkind : (pn.all fun x => storeKind (fd.scope.names.lookup x)) = true) (hnd : pn.Nodup) (hfree : (fd.scope.names.all fun x => x.2 != .free) = true)
    (hcn : ((fd.scope.names.filter fun x => x.2 == .cell).map (·.1)).Nodup)
    (h : ∀ C' : Cx, C'.Ok dep → C.Same C' → C'.env.scope = fd.scope → WSs C' body ⟨fun x => (pn.zip (args ++ ks)).lookup x, st.H⟩ (fun f st' => Q f.val ⟨st.lo, st'.H⟩)) :
    WCall C (.ref fa) args kn ks st Q := fun I us vs r1 r2 KF s S =>
  wpAny_call (codeCall_W ok fn hb hkind hnd hfree hcn h I us vs r1 r2 KF s S)
end
end Mine
open PySem PySem.W PySem.Calls PyProof.Rows
set_option Elab.async false
set_option linter.all false
set_option maxRecDepth 100000
set_option genSizeOf false
namespace Mine

noncomputable def WIfs (C : Cx) : List Expr → CSt → (Bool → CSt → Prop) → Prop
  | [], st, Q => Q true st
  | c :: cs, st, Q => WT C c st (fun b st1 => cond b (WIfs C cs st1 Q) (Q false st1))

/-- the turns of one `for` of a comprehension; what is gathered goes along -/
noncomputable def WCI (C : Cx) (emit : CSt → List CV → (List CV → CSt → Prop) → Prop) (t : Expr) (ifs : List Expr) : List CV → CSt → List CV → (List CV → CSt → Prop) → Prop
  | [], st, acc, Q => Q acc st
  | x :: xs, st, acc, Q => WA C (assign t C.env) x st (fun st1 => WIfs C ifs st1 (fun ok st2 =>
      cond ok (emit st2 acc (fun acc' st3 => WCI C emit t ifs xs st3 acc' Q)) (WCI C emit t ifs xs st2 acc Q)))
noncomputable def emitOf (C : Cx) (elt : Expr) : List Comprehension → CSt → List CV → (List CV → CSt → Prop) → Prop
  | [], st, acc, Q => WE C elt st (fun v st' => acc.length < 2 ^ 24 ∧ Q (acc ++ [v]) st')
  | g :: gs, st, acc, Q => WE C g.iter st (fun a st1 => ∃ ys, IterOf C a st1 ys ∧ WCI C (emitOf C elt gs) g.target g.ifs ys st1 acc Q)

section
variable {C : Cx} {dep : Nat} {KF I J : IM} {st : CSt} {s : Shared}

/-- the list that is gathered -/
structure AccAt (C : Cx) (D : Addr) (ys : List CV) (J KF : IM) (st : CSt) (s : Shared) : Prop where
  at_ : ∃ n xs, s.heap.get? D = some ⟨.type "list", .none, .seq xs n, #[]⟩ ∧ VRs J ys xs.toList
  i : J D = none
  k : KF D = none
  h : st.H D = none
  o : ¬ C.Own D

theorem iput_ne {I : IM} {a b : Addr} {o : Obj} (h : b ≠ a) : iput I a o b = I b := by simp [iput, h]

theorem wpAny_append_exact {prog : Program} {w : World} {A : Around} {E : Value → Shared → Prop} {l : Addr} {xs : Array Value} {n : Nat} {x : Value} {Q : Value → Shared → Prop} (hl : s.heap.get? l = some ⟨.type "list", .none, .seq xs n, #[]⟩)
    (hQ : ∀ h', h'.get? l = some ⟨.type "list", .none, .seq (xs.push x) (n + 1), #[]⟩ → Heap.SameBut l s.heap h' → Q .none { s with heap := h' }) (hsz : xs.size ≤ sizeLine) :
    wpAny (model prog w) A (call (.builtin "list.append") [.ref l, x]) Q E s := by
  have hl' : s.heap.IsList l xs := (in_1_2 _ hl rfl (in_1_0 n rfl))
  refine wpAny_call_entry slot_list_append hl'.typeIs entry_list_append ?_ (args_list_append _ _)
  show wpAny _ _ (updateSeq l (·.push x) >>= fun _ => ret .none) _ _ s
  refine wpAny_bind ?_
  refine wpAny_updateSeq hl rfl (wpAny_pure (in_1_1 (.none) rfl (hQ _ ?_ (Heap.SameBut.update ..))))
  have := Heap.get?_update_self (Obj.mapSeq (·.push x)) hl rfl
  rw [this]; simp [Obj.mapSeq]


/-- what is done for an item that the tests let through -/
noncomputable def compEmit (elt : Expr) (gens : List Comprehension) (scope : Scope) (pos : Pos) (depth : Nat) (it acc : Value) (env : Env) : Sem Fin :=
  match gens[depth + 1]? with
  | some g' => do
    let x ← eval g'.iter env
    standAt g'.iter.pos
    if (g'.is_async != 0) = true then do
      let x ← foldedIterable g'.iter x
      let _ ← runOwn (.compStart (.ListComp elt gens scope pos) (depth + 1) (← holding [x] (if (g'.is_async != 0) = true then asyncIter x else pyIter x)) acc env) env
      again (.compLoop (.ListComp elt gens scope pos) depth it acc env)
    else do
      let x ← foldedSetIterable g'.iter env x
      let _ ← runOwn (.compStart (.ListComp elt gens scope pos) (depth + 1) (← holding [x] (if (g'.is_async != 0) = true then asyncIter x else pyIter x)) acc env) env
      again (.compLoop (.ListComp elt gens scope pos) depth it acc env)
  | none => ((eval elt env >>= fun x => call (.builtin "list.append") [acc, x] >>= fun _ => pure ()) >>= fun _ : PUnit => again (.compLoop (.ListComp elt gens scope pos) depth it acc env))
theorem compTurn_eq (elt gens scope pos depth it acc env) (g : Comprehension) (hg : gens[depth]? = some g) (ha : g.is_async = 0) : compTurn (.ListComp elt gens scope pos) depth it acc env = (do
      standAt g.iter.pos
      match ← pyNext it with
      | none => pure (.done .next)
      | some v =>
        letOwnedTupleGo g.target it v
        assign g.target env v
        let ok ← forIn g.ifs true fun c r => if r = true then do let ok ← PySem.isTrue c env (eval c env); pure (ForInStep.yield ok) else pure (ForInStep.yield r)
        if ok = true then compEmit elt gens scope pos depth it acc env
        else again (.compLoop (.ListComp elt gens scope pos) depth it acc env)) := by
  unfold compTurn
  dsimp only
  rw [hg]
  dsimp only
  rw [ha]
  simp only [bne_self_eq_false, Bool.false_eq_true, if_false]
  rfl

theorem WIfs.all : ∀ {cs : List Expr} {st : CSt} {Q : Bool → CSt → Prop}, WIfs C cs st Q → ∀ I, WL C (forIn cs true fun c r => if r = true then do let ok ← PySem.isTrue c C.env (eval c C.env); pure (ForInStep.yield ok) else pure (ForInStep.yield r)) I st (fun _ b st' => Q b st')
  | [], st, Q, h, I => by simp only [List.forIn_nil]; exact WL.pure h
  | c :: cs, st, Q, h, I => by
    rw [List.forIn_cons]
    simp only [if_true]
    refine WL.bind (WL.bind ((h I).mono (fun J b st1 _ q => ?_)))
    refine WL.pure ?_
    cases b with
    | true => exact WIfs.all q J
    | false =>
      have : ∀ cs : List Expr, (forIn cs false fun c r => if r = true then do let ok ← PySem.isTrue c C.env (eval c C.env); pure (ForInStep.yield ok) else pure (ForInStep.yield r) : Sem Bool) = pure false := by
        intro cs
        induction cs with
        | nil => rfl
        | cons c cs ih => rw [List.forIn_cons]; simp only [Bool.false_eq_true, if_false, pure_bind]; exact ih
      show WL C (forIn cs false _) J st1 _
      rw [this cs]
      exact WL.pure q

/-- the list is gathered -/
inductive AcP (C : Cx) (KF I : IM) (D : Addr) (s' : Shared) (Q : List CV → CSt → Prop) : Prop
  | mk (J : IM) (st' : CSt) (ys : List CV) (l : ILe I J) (S : SR C KF J st' s') (A : AccAt C D ys J KF st' s') (q : Q ys st')

/-- what a comprehension's activations hand back -/
noncomputable def CompPost (C : Cx) (I KF : IM) (D : Addr) (Q : List CV → CSt → Prop) (r : Result) (s' : Shared) : Prop :=
  match r with
  | .ok _ => AcP C KF I D s' Q
  | .error e => ErP C KF I true e s'

theorem compStart_of {elt : Expr} {gens : List Comprehension} {scope : Scope} {pos : Pos} {depth : Nat} {it acc : Value} {env : Env} {R : Result → Shared → Prop} {M : Program} {w : World} {A : Around} {g : Comprehension}
    (hg : gens[depth]? = some g) (ha : g.is_async = 0)
    (h0 : codeAny (model M w) A (.compLoop (.ListComp elt gens scope pos) depth it acc env) R s)
    (h : wpAny (model M w) A (pyIter it) (fun it' s' => codeAny (model M w) A (.compLoop (.ListComp elt gens scope pos) depth it' acc env) R s') (notedBy (model M w) A env fun x s' => R (.error x) s') s) :
    codeAny (model M w) A (.compStart (.ListComp elt gens scope pos) depth it acc env) R s := by
  refine codeAny_of_tree ?_
  show wpAny _ _ ((compStart (.ListComp elt gens scope pos) depth it acc env).onRaise (fun x => do noteFrame x env; standAt theWindowsPlace)) _ _ s
  refine wpAny_notedAt ?_
  unfold compStart
  have e1 : (((clausesOf (.ListComp elt gens scope pos))[depth]?).elim false fun x => x.is_async != 0) = false := by
    show ((gens[depth]?).elim false fun x => x.is_async != 0) = false
    rw [hg]; simp [ha]
  rw [e1]
  simp only [Bool.false_eq_true, if_false]
  have e2 : (clausesOf (.ListComp elt gens scope pos))[depth]? = some g := hg
  rw [e2]
  show wpAny _ _ (ask >>= _) _ _ s
  refine wpAny_bind (wpAny_askSetting (wpAny_ite ?_))
  split
  · first
      | exact wpAny_bind (wpAny_pure (wpAny_pure (And.intro rfl h0)))
      | exact wpAny_pure (And.intro rfl h0)
  · refine wpAny_bind (wpAny_rule ?_)
    show wpAny _ _ (standAt g.iter.pos >>= _) _ _ s
    exact wpAny_bind (wpAny_standAt (wpAny_bind (wpAny_mono h (fun it' s' h' => wpAny_pure (And.intro rfl h')) fun _ _ x => x)))

/-- an item that the tests let through is dealt with -/
noncomputable def EmitOk (C : Cx) (elt : Expr) (gens : List Comprehension) (scope : Scope) (pos : Pos) (D : Addr) (depth : Nat) (emit : CSt → List CV → (List CV → CSt → Prop) → Prop) : Prop :=
  ∀ (it : Addr) (KF J : IM) (st : CSt) (s : Shared) (ys : List CV) (Q : List CV → CSt → Prop) (R : Fin → Shared → Prop) (E : Value → Shared → Prop), SR C KF J st s → AccAt C D ys J KF st s → emit st ys Q →
    (∀ s', AcP C KF J D s' Q → wpAny (model C.prog C.w) C.A (again (.compLoop (.ListComp elt gens scope pos) depth (.ref it) (.ref D) C.env)) R E s') →
    wpAny (model C.prog C.w) C.A (compEmit elt gens scope pos depth (.ref it) (.ref D) C.env) R E s

theorem emit_nil {elt : Expr} {gens : List Comprehension} {scope : Scope} {pos : Pos} {D : Addr} {depth : Nat} (hg1 : gens[depth + 1]? = none) : EmitOk C elt gens scope pos D depth (emitOf C elt []) := fun it KF J st s ys Q R E S AC hw hR => by
  unfold compEmit
  rw [hg1]
  obtain ⟨⟨nD, xD, hDo, hDr⟩, d1, d2, d3, d4⟩ := AC
  have S4 := S.addK hDo d1 d2 d3 d4
  refine wpAny_bind (wpAny_bind (wpAny_mono (hw J _ _ S4) (fun v s7 ⟨J7, st7, l7, S7, cv, hv, hlen, q7⟩ => ?_) fun e s7 hF => hF.elim))
  have a1 := S7.iterIn
  (refine el_0_1 (S7.frs D ⟨.type "list", .none, .seq xD nD, #[]⟩ (by simp)) fun _ u4 => ?_)
  have hDr7 := VRs.mono l7 _ _ hDr
  refine wpAny_bind (wpAny_append_exact u4 (fun h' e1 hs => ?_) (by rw [sizeLine_eq]; have := hDr7.length; simp at this; omega))
  have S8 : SR C KF J7 st7 { s7 with heap := h', toks := s7.toks } := (S7.weakK (iput_le d2) S.kle).heap fun a ob e hb => (hs.2 a fun q => notHeld hb q a1.1 d2 a1.2.1 d4).trans e
  refine wpAny_pure (hR _ ⟨J7, st7, _, l7, S8, ⟨(in_2_1 (nD + 1) (xD.push v) e1 ?_), a1.1, d2, a1.2.1, d4⟩, q7⟩)
  rw [Array.toList_push]
  exact hDr7.append (.cons hv .nil)

theorem compLoop_E {elt : Expr} {gens : List Comprehension} {scope : Scope} {pos : Pos} {D : Addr} (ok : C.Ok dep) {depth : Nat} {g : Comprehension} (hg : gens[depth]? = some g) (ha : g.is_async = 0)
    {emit : CSt → List CV → (List CV → CSt → Prop) → Prop} (hE : EmitOk C elt gens scope pos D depth emit) :
    ∀ (KF I J : IM) (st : CSt) (s : Shared) (xs : List CV) (it : Addr) (Dw) (i : Nat) (ys : List CV) (Q : List CV → CSt → Prop),
      ILe I J → Walk C.prog C.w xs it Dw → SR C KF J st s → AccAt C D ys J KF st s → Dw i J s.heap → (∃ o, s.heap.get? it = some o) → J it = none → KF it = none → st.H it = none → ¬ C.Own it → it ≠ D → i ≤ xs.length →
      WCI C emit g.target g.ifs (xs.drop i) st ys Q →
      codeAny (model C.prog C.w) C.A (.compLoop (.ListComp elt gens scope pos) depth (.ref it) (.ref D) C.env) (CompPost C I KF D Q) s := by
    intro KF I J st s xs it Dw i ys Q lJ W S AC hD hit n1 n2 n3 n4 hne hi hW
    refine codeAny_loop rfl (fun n s' => ∃ i J st ys, n = xs.length - i ∧ i ≤ xs.length ∧ ILe I J ∧ SR C KF J st s' ∧ AccAt C D ys J KF st s' ∧ Dw i J s'.heap ∧ (∃ o, s'.heap.get? it = some o) ∧ J it = none ∧ st.H it = none ∧ WCI C emit g.target g.ifs (xs.drop i) st ys Q) ?_ (xs.length - i)
      ⟨i, J, st, ys, rfl, hi, lJ, S, AC, hD, hit, n1, n3, hW⟩
    clear lJ S AC hD hit n1 n3 hW hi i J st ys
    intro n s' hEl
    (refine el_4_1 hEl fun i J st ys xEl4 rEl => ?_; try clear hEl; obtain rfl := xEl4; (refine el_0_6 rEl fun hi lJ S AC hD yEl5 sEl => ?_; try clear rEl; obtain ⟨oi, hit⟩ := yEl5; obtain ⟨n1, n3, hW⟩ := sEl))
    have hU : C.A.under (.compLoop (.ListComp elt gens scope pos) depth (.ref it) (.ref D) C.env) = C.A := Around.under_of_weight rfl
    rw [hU]
    show wpAny _ C.A ((compTurn (.ListComp elt gens scope pos) depth (.ref it) (.ref D) C.env).onRaise (fun x => do noteFrame x C.env; theTreesLotGoes x)) _ _ s'
    refine wpAny_noted ?_
    rw [compTurn_eq _ _ _ _ _ _ _ _ g hg ha]
    refine wpAny_bind (wpAny_standAt (wpAny_bind ?_))
    by_cases hlt : i < xs.length
    · obtain ⟨c, hc⟩ : ∃ c, xs[i]? = some c := (in_1_0 (xs[i]) (by simp [hlt]))
      have hdrop : xs.drop i = c :: xs.drop (i + 1) := by
        rw [List.drop_eq_getElem_cons hlt]
        rw [List.getElem?_eq_getElem hlt] at hc; cases hc; rfl
      rw [hdrop] at hW
      refine W.item _ J s' i c _ _ S.imm hD hc fun h₂ tk₂ u hD₂ hu hk₂ hEl => ?_
      (refine el_1_0 hEl fun o₂ ho₂ => ?_; try clear hEl)
      have S2 : SR C KF J st { s' with heap := h₂, toks := tk₂ } := S.heap fun a ob e hb => hk₂ a ob (fun q => notHeld hb q n1 n2 n3 n4) e
      obtain ⟨⟨nD, xD, hDo, hDr⟩, d1, d2, d3, d4⟩ := AC
      have hDo2 : h₂.get? D = some ⟨.type "list", .none, .seq xD nD, #[]⟩ := hk₂ D _ (Ne.symm hne) hDo
      -- both are hidden
      have S3 := S2.addK ho₂ n1 n2 n3 n4
      have d2' : iput KF it o₂ D = none := by rw [iput_ne (Ne.symm hne)]; exact d2
      have S4 := S3.addK (a := D) hDo2 d1 d2' d3 d4
      refine wpAny_bind (ownedGo_W W hD₂ ?_)
      refine wpAny_bind (wpAny_mono (hW J u hu _ _ S4) (fun _ s5 hh => hh.use fun J5 st5 l5 S5 q5 => ?_) fun e s5 hF => hF.elim)
      refine wpAny_bind (wpAny_mono (q5.all J5 _ _ S5) (fun b s6 hh => hh.use fun J6 st6 l6 S6 q6 => ?_) fun e s6 hF => hF.elim)
      have l6' := (l5.trans l6)
      have aD := S6.iterIn
      (refine el_0_1 (S6.frs D ⟨.type "list", .none, .seq xD nD, #[]⟩ (by simp)) fun _ u4 => ?_)
      have S6' : SR C (iput KF it o₂) J6 st6 s6 := S6.weakK (iput_le d2') S3.kle
      have AC6 : AccAt C D ys J6 (iput KF it o₂) st6 s6 := ⟨(in_2_1 nD xD u4 (VRs.mono l6' _ _ hDr)), aD.1, d2', aD.2.1, d4⟩
      have fin : ∀ s7, ∀ Q', AcP C (iput KF it o₂) J6 D s7 Q' → (∀ ys7 st7, Q' ys7 st7 → WCI C emit g.target g.ifs (xs.drop (i + 1)) st7 ys7 Q) →
          ∃ m, m < xs.length - i ∧ ∃ i J st ys, m = xs.length - i ∧ i ≤ xs.length ∧ ILe I J ∧ SR C KF J st s7 ∧ AccAt C D ys J KF st s7 ∧ Dw i J s7.heap ∧ (∃ o, s7.heap.get? it = some o) ∧ J it = none ∧ st.H it = none ∧ WCI C emit g.target g.ifs (xs.drop i) st ys Q := by
        intro s7 Q' hA hQ'
        obtain ⟨J7, st7, ys7, l7, S7, A7, q7⟩ := hA
        have a9 := S7.iterIn
        (refine el_0_1 (S7.frs it o₂ (by simp)) fun _ e4 => ?_)
        have lJ7 := l6'.trans l7
        exact (in_1_1 (xs.length - (i + 1)) (by (exact Nat.sub_lt_sub_left (by assumption) (Nat.lt_succ_self _))) ⟨i + 1, J7, st7, ys7, rfl, hlt, lJ.trans lJ7, S7.weakK (iput_le n2) S.kle, ⟨A7.at_, A7.i, d2, A7.h, A7.o⟩, W.frame J _ h₂ _ (i + 1) hD₂ lJ7 (fun o' e => by rw [ho₂] at e; cases e; exact e4) (fun a o' e1 e2 => S7.imm a o' (lJ7 a o' e1)), (in_1_0 _ e4), a9.1, a9.2.1, hQ' _ _ q7⟩)
      cases b with
      | false =>
        simp only [Bool.false_eq_true, if_false]
        exact wpAny_pure ⟨rfl, fin s6 (fun ys' st' => ys' = ys ∧ st' = st6) ⟨J6, st6, ys, .refl _, S6', AC6, rfl, rfl⟩ fun _ _ q => by rw [q.1, q.2]; exact q6⟩
      | true =>
        simp only [if_true]
        exact hE it _ J6 st6 s6 ys _ _ _ S6' AC6 q6 fun s7 hA => wpAny_pure ⟨rfl, fin s7 _ hA fun _ _ q => q⟩
    · have hin : i = xs.length := by (exact (Nat.le_antisymm (by assumption) (Nat.le_of_not_lt (by assumption))))
      subst hin
      refine W.fin _ J s' _ _ ok.hd S.imm hD fun h₂ tk₂ hk₂ => ?_
      have S2 : SR C KF J st { s' with heap := h₂, toks := tk₂ } := S.heap fun a ob e hb => hk₂ a ob (fun q => notHeld hb q n1 n2 n3 n4) e
      rw [List.drop_length] at hW
      obtain ⟨⟨nD, xD, hDo, hDr⟩, d1, d2, d3, d4⟩ := AC
      exact wpAny_pure ⟨J, st, ys, lJ, S2, ⟨(in_2_1 nD xD (hk₂ D _ (Ne.symm hne) hDo) hDr), d1, d2, d3, d4⟩, hW⟩

theorem emitOk {elt : Expr} {gens : List Comprehension} {scope : Scope} {pos : Pos} {D : Addr} (ok : C.Ok dep) (has : ∀ g ∈ gens, g.is_async = 0) (hfold : ∀ g ∈ gens, ∀ x, foldedSetIterable g.iter C.env x = pure x) :
    ∀ (gs : List Comprehension) (depth : Nat) (g : Comprehension), gens.drop depth = g :: gs → EmitOk C elt gens scope pos D depth (emitOf C elt gs)
  | [], depth, g, hdr => emit_nil (by
      have : (gens.drop depth)[1]? = none := by rw [hdr]; rfl
      rwa [List.getElem?_drop] at this)
  | g' :: gs, depth, g, hdr => fun it KF J st s ys Q R E S AC hw hR => by
    have hg1 : gens[depth + 1]? = some g' := by
      have : (gens.drop depth)[1]? = some g' := by rw [hdr]; rfl
      rwa [List.getElem?_drop] at this
    have hdr1 : gens.drop (depth + 1) = g' :: gs := by
      have := congrArg (List.drop 1) hdr
      rwa [List.drop_drop, List.drop_succ_cons, List.drop_zero] at this
    have hgm1 : g' ∈ gens := List.mem_of_getElem? hg1
    unfold compEmit
    rw [hg1]
    obtain ⟨⟨nD, xD, hDo, hDr⟩, d1, d2, d3, d4⟩ := AC
    have S4 := S.addK hDo d1 d2 d3 d4
    refine wpAny_bind (wpAny_mono (hw J _ _ S4) (fun v s7 ⟨J7, st7, l7, S7, cv, hv, zs, hz, q7⟩ => ?_) fun e s7 hF => hF.elim)
    refine wpAny_bind (wpAny_standAt ?_)
    rw [has g' hgm1]
    simp only [bne_self_eq_false, Bool.false_eq_true, if_false]
    refine wpAny_bind (wpAny_of_eq (hfold g' hgm1 v) (wpAny_bind (wpAny_holding ?_)))
    have a1 := S7.iterIn
    (refine el_0_1 (S7.frs D ⟨.type "list", .none, .seq xD nD, #[]⟩ (by simp)) fun _ u4 => ?_)
    have S7' := S7.weakK (iput_le d2) S.kle
    refine hz J7 v hv _ _ s7 _ _ S7' fun h8 tk8 it' Dw' W' hD' hnew' hEl hk8 => ?_
    have S8 : SR C KF J7 st7 { s7 with heap := h8, toks := tk8 } := S7'.keeps hk8
    have hit'ne : it' ≠ D := fun q => by rw [q, u4] at hnew'; cases hnew'
    (refine el_0_3 (S7'.fresh hnew') fun f1 f2 f3 f4 => ?_)
    have AC8 : AccAt C D ys J7 KF st7 { s7 with heap := h8, toks := tk8 } := ⟨(in_2_1 nD xD (hk8 _ _ u4) (VRs.mono l7 _ _ hDr)), a1.1, d2, a1.2.1, d4⟩
    have inner := compLoop_E (scope := scope) (pos := pos) ok hg1 (has g' hgm1) (emitOk ok has hfold gs (depth + 1) g' hdr1) KF J7 J7 st7 _ zs it' Dw' 0 ys _ (.refl _) W' S8 AC8 hD' hEl f1 f2 f3 f4 hit'ne (Nat.zero_le _) (by simpa using q7)
    refine wpAny_bind (wpAny_runOwn (h := none) ?_)
    have hA : C.A.mark none = C.A := by cases C.A; rfl
    rw [hA]
    refine codeAny_mono (compStart_of hg1 (has g' hgm1) inner (W'.self C.A J7 _ 0 _ _ hD' inner)) fun r s9 hr => ?_
    cases r with
    | ok f =>
      obtain ⟨J9, st9, ys9, l9, S9, A9, q9⟩ := hr
      exact hR _ ⟨J9, st9, ys9, l7.trans l9, S9, A9, q9⟩
    | error e => exact hr.elim

theorem compLoop_W {elt : Expr} {gens : List Comprehension} {scope : Scope} {pos : Pos} {D : Addr} (ok : C.Ok dep) (has : ∀ g ∈ gens, g.is_async = 0) (hfold : ∀ g ∈ gens, ∀ x, foldedSetIterable g.iter C.env x = pure x)
    (gs : List Comprehension) (depth : Nat) (g : Comprehension) (hdr : gens.drop depth = g :: gs) : ∀ (KF I J : IM) (st : CSt) (s : Shared) (xs : List CV) (it : Addr) (Dw) (i : Nat) (ys : List CV) (Q : List CV → CSt → Prop),
      ILe I J → Walk C.prog C.w xs it Dw → SR C KF J st s → AccAt C D ys J KF st s → Dw i J s.heap → (∃ o, s.heap.get? it = some o) → J it = none → KF it = none → st.H it = none → ¬ C.Own it → it ≠ D → i ≤ xs.length →
      WCI C (emitOf C elt gs) g.target g.ifs (xs.drop i) st ys Q →
      codeAny (model C.prog C.w) C.A (.compLoop (.ListComp elt gens scope pos) depth (.ref it) (.ref D) C.env) (CompPost C I KF D Q) s :=
  compLoop_E ok (by
      have := congrArg List.head? hdr
      rwa [List.head?_drop] at this) (has g (by
      have := congrArg List.head? hdr
      rw [List.head?_drop] at this
      exact List.mem_of_getElem? this)) (emitOk ok has hfold gs depth g hdr)
end
end Mine
open PySem PySem.W PySem.Calls PyProof.Rows
set_option Elab.async false
set_option linter.all false
set_option maxRecDepth 100000
set_option genSizeOf false
namespace Mine

noncomputable def cloL (env : Env) : List (Str × NameKind) → List (Str × Addr) → List (Str × Addr)
  | [], acc => acc
  | (n, k) :: r, acc => if k == .free then cloL env r ((n, (env.cells.lookup n).getD 0) :: acc) else cloL env r acc
theorem closureFor_eq {scope : Scope} {env : Env} (h : ∀ n k, (n, k) ∈ scope.names → k = .free → (env.cells.lookup n).isSome = true) : closureFor scope env = pure (cloL env scope.names []) := by
  unfold closureFor
  have main : ∀ (names : List (Str × NameKind)) (acc : List (Str × Addr)), (∀ n k, (n, k) ∈ names → k = .free → (env.cells.lookup n).isSome = true) →
      (forIn names acc fun x cs => (if (x.2 == NameKind.free) = true then do let a ← cellOf env x.1; pure (ForInStep.yield ((x.1, a) :: cs)) else pure (ForInStep.yield cs) : Sem _)) = pure (cloL env names acc) := by
    intro names
    induction names with
    | nil => intro acc _; rfl
    | cons x r ih =>
      intro acc hx
      obtain ⟨n, k⟩ := x
      rw [List.forIn_cons]
      unfold cloL
      by_cases hk : (k == NameKind.free) = true
      · (refine el_1_0 (Option.isSome_iff_exists.mp (hx n k (by simp) (beq_iff_eq.mp hk))) fun a ha => ?_)
        simp only [hk, if_true]
        unfold cellOf
        rw [ha]
        simp only [pure_bind, Option.getD_some]
        exact ih _ fun n' k' hm => hx n' k' (List.mem_cons_of_mem _ hm)
      · have hk' : (k == NameKind.free) = false := by simpa using hk
        simp only [hk', Bool.false_eq_true, if_false, pure_bind]
        exact ih _ fun n' k' hm => hx n' k' (List.mem_cons_of_mem _ hm)
  have := main scope.names [] h
  simpa using this
theorem cloL_acc (env : Env) (x : Str) : ∀ (names : List (Str × NameKind)) (acc : List (Str × Addr)), (∀ n k, (n, k) ∈ names → k = .free → n ≠ x) → (cloL env names acc).lookup x = acc.lookup x
  | [], acc, _ => rfl
  | (n, k) :: r, acc, h => by
    unfold cloL
    split
    · rename_i hk
      rw [cloL_acc env x r _ fun n' k' hm => h n' k' (List.mem_cons_of_mem _ hm)]
      have : (x == n) = false := by simpa using fun q : x = n => h n k (by simp) (beq_iff_eq.mp hk) q.symm
      simp only [List.lookup_cons, this]
    · exact cloL_acc env x r _ fun n' k' hm => h n' k' (List.mem_cons_of_mem _ hm)
theorem cloL_lookup (env : Env) (x : Str) : ∀ (names : List (Str × NameKind)) (acc : List (Str × Addr)), (names.map (·.1)).Nodup → names.lookup x = some .free → (env.cells.lookup x).isSome = true → (cloL env names acc).lookup x = env.cells.lookup x
  | [], acc, _, h, _ => by cases h
  | (n, k) :: r, acc, hnd, h, hs => by
    rw [List.map_cons, List.nodup_cons] at hnd
    simp only [List.lookup_cons] at h
    unfold cloL
    by_cases q : x = n
    · subst q
      simp at h; subst h
      simp only [beq_self_eq_true, if_true]
      rw [cloL_acc env x r _ fun n' k' hm _ e => hnd.1 (List.mem_map.mpr (in_1_1 (n', k') hm e))]
      (refine el_1_0 (Option.isSome_iff_exists.mp hs) fun a ha => ?_)
      simp [ha]
    · have : (x == n) = false := by simpa using q
      rw [this] at h
      split
      · exact cloL_lookup env x r _ hnd.2 h hs
      · exact cloL_lookup env x r _ hnd.2 h hs

theorem cellsFrom_app : ∀ (names : List (Str × NameKind)) (k : Nat) (acc : List (Str × Addr)), cellsFrom k names acc = cellsFrom k names [] ++ acc
  | [], k, acc => rfl
  | (n, kd) :: r, k, acc => by
    unfold cellsFrom
    split
    · rw [cellsFrom_app r (k + 1) ((n, k) :: acc), cellsFrom_app r (k + 1) [(n, k)]]; simp
    · exact cellsFrom_app r k acc
theorem cellsFrom_names' (x : Str) (c : Addr) : ∀ (names : List (Str × NameKind)) (k : Nat), (x, c) ∈ cellsFrom k names [] → (x, NameKind.cell) ∈ names
  | [], k, h => by simp [cellsFrom] at h
  | (n, kd) :: r, k, h => by
    unfold cellsFrom at h
    split at h
    · rename_i hk
      rw [cellsFrom_app] at h
      rcases List.mem_append.mp h with h | h
      · exact List.mem_cons_of_mem _ (cellsFrom_names' x c r _ h)
      · simp at h; rw [h.1, beq_iff_eq.mp hk]; simp
    · exact List.mem_cons_of_mem _ (cellsFrom_names' x c r _ h)
theorem lookup_app {α : Type} (x : Str) : ∀ (l r : List (Str × α)), (l ++ r).lookup x = (l.lookup x).or (r.lookup x)
  | [], r => by simp
  | (n, v) :: l, r => by
    simp only [List.cons_append, List.lookup_cons]
    split
    · rfl
    · exact lookup_app x l r

theorem relabel_lookup {scope : Scope} {env : Env} (x : Str) : (relabel scope env).names.lookup x = (scope.names.lookup x).map fun k => if (k == .free && env.scope.kind == .function && env.kindOf x == some .cell) = true then .cell else k := by
  unfold relabel
  show List.lookup x (List.map _ scope.names) = _
  induction scope.names with
  | nil => rfl
  | cons y r ih =>
    obtain ⟨n, k⟩ := y
    rw [List.map_cons]
    show List.lookup x ((if (k == NameKind.free && env.scope.kind == .function && env.kindOf n == some .cell) = true then (n, NameKind.cell) else (n, k)) :: _) = _
    by_cases hc : (k == NameKind.free && env.scope.kind == .function && env.kindOf n == some .cell) = true
    · rw [if_pos hc, List.lookup_cons, List.lookup_cons]
      by_cases hx : x = n
      · subst hx
        simp only [beq_self_eq_true, Option.map_some]
        rw [if_pos hc]
      · have hx' : (x == n) = false := by simpa using hx
        rw [hx']; exact ih
    · rw [if_neg hc, List.lookup_cons, List.lookup_cons]
      by_cases hx : x = n
      · subst hx
        simp only [beq_self_eq_true, Option.map_some]
        rw [if_neg hc]
      · have hx' : (x == n) = false := by simpa using hx
        rw [hx']; exact ih

theorem mem_of_lookupK {names : List (Str × NameKind)} {x : Str} {k : NameKind} (h : names.lookup x = some k) : (x, k) ∈ names := mem_of_lookup h
theorem lookup_of_memK : ∀ {names : List (Str × NameKind)} {x : Str} {k : NameKind}, (names.map (·.1)).Nodup → (x, k) ∈ names → names.lookup x = some k
  | (n, k') :: r, x, k, hnd, h => by
    rw [List.map_cons, List.nodup_cons] at hnd
    simp only [List.lookup_cons]
    rcases List.mem_cons.mp h with e | h
    · cases e; simp
    · have : (x == n) = false := by simpa using fun q : x = n => hnd.1 (List.mem_map.mpr (in_1_1 (x, k) h q))
      rw [this]; exact lookup_of_memK hnd.2 h

/-- the names of a comprehension's own block, as it begins -/
noncomputable def compLo (scope : Scope) (lo : Str → Option CV) : Str → Option CV := fun x => if scope.names.lookup x = some .free then lo x else none

section
variable {C : Cx} {dep : Nat} {KF I J : IM} {st : CSt} {s : Shared}

/-- the block of a comprehension, its source walked already -/
noncomputable def WComp (C : Cx) (dep : Nat) (elt : Expr) (g : Comprehension) (gs : List Comprehension) (scope : Scope) (xs : List CV) (st : CSt) (Q : CV → CSt → Prop) : Prop :=
  ∀ C' : Cx, C'.Ok dep → C.Same C' → C'.env.scope = relabel scope C.env → WCI C' (emitOf C' elt gs) g.target g.ifs xs ⟨compLo scope st.lo, st.H⟩ []
    (fun ys st2 => (∀ x, scope.names.lookup x = some .free → st2.lo x = st.lo x) ∧ (Q (.lst ys) ⟨st.lo, st2.H⟩ ∨ ∀ D, st2.H D = none → Q (.loc D) ⟨st.lo, hput st2.H D (.list ys)⟩))

open Classical in
theorem comp_W {elt : Expr} {g : Comprehension} {gs : List Comprehension} {scope : Scope} {pos pos' : Pos} {use : Option (Value → Sem Unit)} {Q : IM → Value → CSt → Prop} (ok : C.Ok dep) (hk : scope.kind = .function)
    (hnd : (scope.names.map (·.1)).Nodup) (hcap : (scope.names.all fun x => x.2 != .free || C.env.kindOf x.1 == some .cell) = true) (has : ∀ g' ∈ g :: gs, g'.is_async = 0)
    (hfold : ∀ g' ∈ g :: gs, ∀ env x, foldedSetIterable g'.iter env x = pure x)
    {Qc : CV → CSt → Prop} (hq : ∀ c st2, Qc c st2 → match use with
      | none => ∀ J v, VR J c v → Q J v st2
      | some u => ∀ J v, VR J c v → WL C (u v) J st2 (fun J' _ st3 => Q J' .none st3))
    (h : WE C g.iter st (fun a st1 => ∃ xs, IterOf C a st1 xs ∧ WComp C dep elt g gs scope xs st1 Qc)) :
    WL C (comprehension (.ListComp elt (g :: gs) scope pos) scope C.env pos' (newList []) false (eval g.iter C.env) use) I st Q := fun KF s S => by
  have hfun := ok.fun_
  have capK : ∀ x, scope.names.lookup x = some .free → C.env.kindOf x = some .cell := fun x hx => by
    have := List.all_eq_true.mp hcap _ (mem_of_lookupK hx)
    simpa using this
  have cellSome : ∀ x, C.env.kindOf x = some .cell → ∃ c v₀, C.env.cells.lookup x = some c ∧ s.heap.IsCell c v₀ := S.loc.cells
  have hclos : closureFor scope C.env = pure (cloL C.env scope.names []) := closureFor_eq fun n k hm hkf => by
    subst hkf
    (refine el_2_1 (cellSome n (capK n (lookup_of_memK hnd hm))) fun c _ hc _ => ?_)
    rw [hc]; rfl
  have hnames : ∀ x ∈ scope.names, x.2 = .local → scope.names.lookup x.1 = some .local := fun x hx hl => by
    obtain ⟨n, k⟩ := x; simp at hl; subst hl; exact lookup_of_memK hnd hx
  refine wpAny_comprehension_free (use := use) (g := g) (gs := gs) rfl (fun x => hfold g (by simp) _ x) hclos hk hnames ?_
  refine wpAny_mono (h I KF s S) (fun v s₁ hEl => ?_) fun e s' hF => hF.elim
  obtain ⟨J₁, st₁, l₁, S₁, a, ha, xs, hit, hw⟩ := hEl
  refine hit J₁ v ha _ _ s₁ _ _ S₁ fun h₂ tk₂ it Dw W hD hnew ⟨oi, hoi⟩ hk₂ => ?_
  have S₂ : SR C KF J₁ st₁ { s₁ with heap := h₂, toks := tk₂ } := S₁.keeps hk₂
  (refine el_0_3 (S₁.fresh hnew) fun i1 i2 i3 i4 => ?_)
  -- the list
  refine wpAny_newObj_type ?_ (by size_fits)
  have hA0 := Heap.get?_push_size h₂ (o := { cls := .type "list", dict := .none, data := .seq ([] : List Value).toArray }) rfl
  have hDnone : h₂.get? h₂.objs.size = none := heap_size _
  (refine el_0_3 (S₂.fresh (a := h₂.objs.size) hDnone) fun d1 d2 d3 d4 => ?_)
  have S₃ : SR C KF J₁ st₁ { s₁ with heap := h₂.push { cls := .type "list", dict := .none, data := .seq ([] : List Value).toArray }, toks := tk₂ } := S₂.keeps fun a o e => Heap.get?_push_of_some _ e
  have dlow : sysModules < h₂.objs.size := S₂.big
  generalize hgD : h₂.objs.size = D at hA0 hDnone d1 d2 d3 d4 dlow ⊢
  generalize hg3 : h₂.push { cls := .type "list", dict := .none, data := .seq ([] : List Value).toArray } = h₃ at hA0 S₃ ⊢
  have hit3 : h₃.get? it = some oi := by rw [← hg3]; exact Heap.get?_push_of_some _ hoi
  have hne : it ≠ D := fun q => by rw [q] at hoi; rw [hDnone] at hoi; cases hoi
  have W3 : Dw 0 J₁ h₃ := W.frame J₁ J₁ h₂ h₃ 0 hD (.refl _) (fun o e => by rw [← hg3]; exact Heap.get?_push_of_some _ e) fun a o e1 e2 => by rw [← hg3]; exact Heap.get?_push_of_some _ e2
  -- the block's names
  simp only [newFunctionEnv, Option.isSome_some, if_true]
  refine wpAny_bind (wpAny_alloc ?_)
  refine wpAny_bind (wpAny_layCells _ (fun name kind cells => by cases hkc : kind == NameKind.cell <;> rfl) _ _ _ _ ?_)
  rw [List.forIn_nil]
  refine wpAny_bind (wpAny_pure (wpAny_pure ?_))
  dsimp only
  have hsz : (h₃.push { cls := .type "dict", data := .dict #[] }).objs.size = h₃.objs.size + 1 := Heap.size_push ..
  rw [hsz]
  generalize hL : h₃.objs.size = L
  generalize hg4 : pushCells (h₃.push { cls := .type "dict", data := .dict #[] }) scope.names = h₄
  have k4 : ∀ a o, h₃.get? a = some o → h₄.get? a = some o := fun a o e => by rw [← hg4]; exact pushCells_keeps _ _ a o (Heap.get?_push_of_some _ e)
  have hLns : h₄.Ns L fun _ => none := by rw [← hg4, ← hL]; exact (Heap.Ns.new h₃ (.type "dict")).keeps (pushCells_keeps _ _)
  have noL : h₃.get? L = none := by rw [← hL]; exact heap_size _
  have cok := cellsFrom_ok scope.names (h₃.push { cls := .type "dict", data := .dict #[] }) (L + 1) [] ⟨fun _ _ hm => (nomatch hm), List.Pairwise.nil⟩ (by rw [hsz, hL]; exact Nat.le_refl _)
  rw [hsz, hL, hg4] at cok
  generalize hcs : cellsFrom (L + 1) scope.names (cloL C.env scope.names []) = cs
  have hcs' : cs = cellsFrom (L + 1) scope.names [] ++ cloL C.env scope.names [] := by rw [← hcs, cellsFrom_app]
  -- what a name of the block is
  let cenv : Env := { scope := relabel scope C.env, locals := L, globals := C.env.globals, cells := cs, qual := C.env.qual, func := none, code := C.env.code, frame := C.env.frame, builtins := C.env.builtins }
  have kO : ∀ x, cenv.kindOf x = (scope.names.lookup x).map fun k => if (k == .free && C.env.scope.kind == .function && C.env.kindOf x == some .cell) = true then .cell else k := fun x => relabel_lookup x
  have kFree : ∀ x, scope.names.lookup x = some .free → cenv.kindOf x = some .cell := fun x hx => by
    rw [kO, hx]; simp [hfun, capK x hx]
  have kCell : ∀ x, cenv.kindOf x = some .cell → scope.names.lookup x = some .cell ∨ scope.names.lookup x = some .free := fun x hx => by
    rw [kO] at hx
    cases q : scope.names.lookup x with
    | none => rw [q] at hx; cases hx
    | some k =>
      rw [q] at hx
      by_cases hkf : k = .free
      · subst hkf; exact .inr rfl
      · have : (k == NameKind.free) = false := by simpa using hkf
        simp only [Option.map_some, Option.some.injEq, this, Bool.false_and, Bool.false_eq_true, if_false] at hx
        subst hx; exact .inl rfl
  have lkOwn : ∀ x, scope.names.lookup x = some .cell → ∃ c, cs.lookup x = some c ∧ (x, c) ∈ cellsFrom (L + 1) scope.names [] := fun x hx => by
    obtain ⟨c, hc⟩ : ∃ c, (cellsFrom (L + 1) scope.names []).lookup x = some c := Option.isSome_iff_exists.mp (cellsFrom_some _ _ _ (.inl hx))
    exact (in_1_1 c (by rw [hcs', lookup_app, hc]; rfl) (mem_of_lookup hc))
  have lkFree : ∀ x, scope.names.lookup x = some .free → cs.lookup x = C.env.cells.lookup x := fun x hx => by
    have : (cellsFrom (L + 1) scope.names []).lookup x = none := by
      cases q : (cellsFrom (L + 1) scope.names []).lookup x with
      | none => rfl
      | some c =>
        have := cellsFrom_names' x c _ _ (mem_of_lookup q)
        rw [lookup_of_memK hnd this] at hx; cases hx
    simp only [hcs', lookup_app, this]
    (refine el_2_1 (cellSome x (capK x hx)) fun c _ hc _ => ?_)
    show (cloL C.env scope.names []).lookup x = _
    exact cloL_lookup _ x _ _ hnd hx (by rw [hc]; rfl)
  -- the context
  let cap : Addr → Prop := fun a => ∃ x, scope.names.lookup x = some .free ∧ C.env.cells.lookup x = some a
  have capOwn : ∀ a, cap a → C.Own a := fun a ⟨x, hx, hl⟩ => .inr (in_1_1 x (capK x hx) hl)
  let KFc : IM := fun a => if C.Own a ∧ ¬ cap a then h₃.get? a else C.KF a
  let KF' : IM := fun a => if C.Own a ∧ ¬ cap a then h₃.get? a else KF a
  let C' : Cx := { C with env := cenv, KF := KFc }
  have own' : ∀ a, C'.Own a → h₃.get? a = none ∨ cap a := by
    intro a ha
    (refine Or.elim ha (fun ha => ?aElo) (fun xElo => ?bElo); (case' bElo => try clear ha; (refine el_1_1 xElo fun y hy hl => ?_; try clear xElo)); (case' aElo => skip))
    · exact .inl (by rw [show a = L from ha]; exact noL)
    · rcases kCell y hy with q | q
      · (refine el_1_1 (lkOwn y q) fun c h1 h2 => ?_)
        change cs.lookup y = some a at hl
        rw [h1] at hl; cases hl
        left
        cases q : h₃.get? a with
        | none => rfl
        | some o =>
          have a1 := (cok.empty y a h2).2
          have a2 := Heap.lt_size q
          rw [hL] at a2
          exact absurd (Nat.lt_of_succ_le a1) (Nat.lt_asymm a2)
      · change cs.lookup y = some a at hl
        rw [lkFree y q] at hl
        exact .inr (in_1_1 y q hl)
  have Lcap : ¬ cap C.env.locals := fun ⟨x, hx, hl⟩ => ok.cellNe x (capK x hx) hl
  have S₃own := S₃.own
  have newNotOwn : ∀ a, h₃.get? a = none → ¬ C.Own a := fun a e => (S₃.fresh e).2.2.2
  have ok' : C'.Ok dep := by
    refine ⟨by show (relabel scope C.env).kind = _; exact hk, ok.gl, ok.bl, ok.K, ok.g, ok.b, ok.nolimit, ok.boot, ok.hd, ok.units, ok.depth, fun y z c hy hz h1 h2 => ?_, fun y hy h1 => ?_, ?_⟩
    · change cs.lookup y = some c at h1
      change cs.lookup z = some c at h2
      rcases kCell y hy with qy | qy <;> rcases kCell z hz with qz | qz
      · (refine el_1_1 (lkOwn y qy) fun c1 a1 b1 => ?_)
        (refine el_1_1 (lkOwn z qz) fun c2 a2 b2 => ?_)
        rw [h1] at a1; cases a1; rw [h2] at a2; cases a2
        exact name_of_addr cok.apart b1 b2
      · (refine el_1_1 (lkOwn y qy) fun c1 a1 b1 => ?_)
        rw [h1] at a1; cases a1
        rw [lkFree z qz] at h2
        have n1 : ¬ C.Own c := newNotOwn c (by
          cases q : h₃.get? c with
          | none => rfl
          | some o =>
            have a1 := (cok.empty y c b1).2
            have a2 := Heap.lt_size q
            rw [hL] at a2
            exact absurd (Nat.lt_of_succ_le a1) (Nat.lt_asymm a2))
        exact absurd (.inr (in_1_1 z (capK z qz) h2)) n1
      · (refine el_1_1 (lkOwn z qz) fun c1 a1 b1 => ?_)
        rw [h2] at a1; cases a1
        rw [lkFree y qy] at h1
        have n1 : ¬ C.Own c := newNotOwn c (by
          cases q : h₃.get? c with
          | none => rfl
          | some o =>
            have a1 := (cok.empty z c b1).2
            have a2 := Heap.lt_size q
            rw [hL] at a2
            exact absurd (Nat.lt_of_succ_le a1) (Nat.lt_asymm a2))
        exact absurd (.inr (in_1_1 y (capK y qy) h1)) n1
      · rw [lkFree y qy] at h1; rw [lkFree z qz] at h2
        exact ok.cellInj y z c (capK y qy) (capK z qz) h1 h2
    · change cs.lookup y = some L at h1
      rcases kCell y hy with q | q
      · (refine el_1_1 (lkOwn y q) fun c1 a1 b1 => ?_)
        rw [h1] at a1; cases a1
        exact absurd (cok.empty y L b1).2 (Nat.not_succ_le_self _)
      · rw [lkFree y q] at h1
        exact newNotOwn L noL (.inr (in_1_1 y (capK y q) h1))
    · show C.base.get? L = none
      cases q : C.base.get? L with
      | none => rfl
      | some o => have := S₃.imm _ _ (S₃.base _ _ q); rw [noL] at this; cases this
  have S' : SR C' KF' J₁ ⟨compLo scope st₁.lo, st₁.H⟩ { s₁ with heap := h₄, toks := tk₂ } := by
    refine ⟨fun a o e => ?_, S₃.low, ?_, S₃.base, fun a o e => k4 a o (S₃.imm a o e), fun a o e => ?_, fun a ha => ?_, fun a c e => ?_, ?_⟩
    · change (if C.Own a ∧ ¬ cap a then h₃.get? a else C.KF a) = some o at e
      show (if C.Own a ∧ ¬ cap a then h₃.get? a else KF a) = some o
      by_cases q : C.Own a ∧ ¬ cap a
      · rw [if_pos q] at e ⊢; exact e
      · rw [if_neg q] at e ⊢; exact S.kle a o e
    · (refine el_3_0 S₁.same fun h0 t0 d0 e0 => ?_)
      exact (in_3_0 h₄ tk₂ d0 (by rw [e0]))
    · change (if C.Own a ∧ ¬ cap a then h₃.get? a else KF a) = some o at e
      by_cases q : C.Own a ∧ ¬ cap a
      · rw [if_pos q] at e
        exact ⟨(S₃.own a q.1).1, k4 a o e⟩
      · rw [if_neg q] at e
        (refine el_0_1 (S₃.frs a o e) fun f1 f2 => ?_)
        exact ⟨f1, k4 a _ f2⟩
    · rcases own' a ha with hn | hc
      · (refine el_0_3 (S₃.fresh hn) fun f1 f2 f3 f4 => ?_)
        exact (in_0_2 f1 (by show (if C.Own a ∧ ¬ cap a then _ else _) = _; rw [if_neg fun q => f4 q.1]; exact f2) f3)
      · (refine el_0_2 (S₃.own a (capOwn a hc)) fun f1 f2 f3 => ?_)
        exact (in_0_2 f1 (by show (if C.Own a ∧ ¬ cap a then _ else _) = _; rw [if_neg fun q => q.2 hc]; exact f2) f3)
    · (refine el_0_2 (S₃.mu a c e) fun f1 f2 rEl => ?_; (refine el_1_1 rEl fun o f3 f4 => ?_; try clear rEl))
      refine (in_0_2 f1 ?_ (in_1_1 o (k4 a o f3) f4))
      show (if C.Own a ∧ ¬ cap a then _ else _) = _
      rw [if_neg fun q => by have := (S₃.own a q.1).2.2; change st₁.H a = none at this; change st₁.H a = some c at e; rw [e] at this; cases this]; exact f2
    · have lkc : ∀ y v, compLo scope st₁.lo y = some v → scope.names.lookup y = some .free ∧ st₁.lo y = some v := fun y v hy => by
        unfold compLo at hy
        split at hy
        · rename_i q; exact ⟨q, hy⟩
        · cases hy
      refine ⟨(in_1_1 _ hLns (fun y v hy hky => ?_)), fun y v hy hky => ?_, fun y v hy hky => ?_, fun y hky => ?_⟩
      · (refine el_0_1 (lkc y v hy) fun q _ => ?_)
        have := kFree y q
        change cenv.kindOf y = _ at hky
        rw [hky] at this; cases this
      · (refine el_0_1 (lkc y v hy) fun q q2 => ?_)
        (refine el_2_2 (S₃.loc.cell y v q2 (capK y q)) fun c u a1 xEl3 a4 => ?_; (refine el_1_1 xEl3 fun o a2 a3 => ?_; try clear xEl3))
        exact (in_2_2 c u ((lkFree y q).trans a1) (in_1_1 o (k4 c o a2) a3) a4)
      · (refine el_0_1 (lkc y v hy) fun q _ => ?_)
        have := kFree y q
        change cenv.kindOf y = _ at hky
        rw [hky] at this; cases this
      · rcases kCell y hky with q | q
        · (refine el_1_1 (lkOwn y q) fun c a1 a2 => ?_)
          exact (in_2_1 c _ a1 ((cok.empty y c a2).1))
        · (refine el_2_1 (S₃.loc.cells y (capK y q)) fun c v0 a1 xEl3 => ?_; (refine el_1_1 xEl3 fun o a2 a3 => ?_; try clear xEl3))
          exact (in_2_1 c v0 ((lkFree y q).trans a1) (in_1_1 o (k4 c o a2) a3))
  -- back again
  have back : ∀ {J st' s'}, ILe J₁ J → SR C' KF' J st' s' → (∀ x, scope.names.lookup x = some .free → st'.lo x = st₁.lo x) → SR C KF J ⟨st₁.lo, st'.H⟩ s' := by
    intro J st' s' lJ T hlo
    have frs2 : ∀ a, C.Own a → ¬ cap a → ∀ o, h₃.get? a = some o → J a = none ∧ s'.heap.get? a = some o := fun a q1 q2 o e => T.frs a o (by show (if C.Own a ∧ ¬ cap a then _ else _) = _; rw [if_pos ⟨q1, q2⟩]; exact e)
    have capOwn' : ∀ a, cap a → C'.Own a := fun a ⟨x, hx, hl⟩ => .inr (in_1_1 x (kFree x hx) ((lkFree x hx).trans hl))
    refine ⟨S.kle, T.low, T.same, T.base, T.imm, fun a o e => ?_, fun a ha => ?_, fun a c e => ?_, ?_⟩
    · have hq : ¬ (C.Own a ∧ ¬ cap a) := fun q => by have := (S₃.own a q.1).2.1; rw [e] at this; cases this
      exact T.frs a o (by show (if C.Own a ∧ ¬ cap a then _ else _) = _; rw [if_neg hq]; exact e)
    · by_cases hc : cap a
      · (refine el_0_2 (T.own a (capOwn' a hc)) fun f1 f2 f3 => ?_)
        exact (in_0_2 f1 ((S₃.own a ha).2.1) f3)
      · (refine el_1_0 (S₃.ownNo ha) fun o ho => ?_)
        change h₃.get? a = some o at ho
        refine (in_0_2 ((frs2 a ha hc o ho).1) ((S₃.own a ha).2.1) ?_)
        show st'.H a = none
        cases q : st'.H a with
        | none => rfl
        | some c =>
          have := (T.mu a c q).2.1
          change (if C.Own a ∧ ¬ cap a then h₃.get? a else KF a) = none at this
          rw [if_pos ⟨ha, hc⟩, ho] at this; cases this
    · (refine el_0_2 (T.mu a c e) fun f1 f2 f3 => ?_)
      refine (in_0_2 f1 ?_ f3)
      change (if C.Own a ∧ ¬ cap a then h₃.get? a else KF a) = none at f2
      by_cases q : C.Own a ∧ ¬ cap a
      · exact (S₃.own a q.1).2.1
      · rw [if_neg q] at f2; exact f2
    · obtain ⟨⟨m, ⟨oL, es, ep, hL', hd, hr⟩, f1⟩, f2, f3, f4⟩ := S₃.loc.mono lJ
      (refine el_0_1 (frs2 _ (.inl rfl) Lcap oL hL') fun _ eL => ?_)
      have cellK : ∀ y c v, C.env.kindOf y = some .cell → ¬ cap c → C.env.cells.lookup y = some c → h₃.IsCell c v → s'.heap.IsCell c v := fun y c v hy hc hl ⟨o, ho, hd⟩ => by
        (refine el_0_1 (frs2 c (.inr (in_1_1 y hy hl)) hc o ho) fun _ e => ?_)
        exact (in_1_1 _ e hd)
      refine ⟨(in_1_1 m (in_3_2 _ es ep eL hd hr) f1), fun y v e hky => ?_, f3, fun y hy => ?_⟩
      · (refine el_2_2 (f2 y v e hky) fun c u a1 a2 a3 => ?_)
        by_cases hc : cap c
        · (refine el_1_1 hc fun z hz hzl => ?_; try clear hc)
          have : z = y := ok.cellInj z y c (capK z hz) hky hzl a1
          subst this
          (refine el_2_2 (T.loc.cell z v ((hlo z hz).trans e) (kFree z hz)) fun c' u' b1 b2 b3 => ?_)
          change cs.lookup z = some c' at b1
          rw [lkFree z hz, a1] at b1; cases b1
          exact (in_2_2 c u' a1 b2 b3)
        · exact (in_2_2 c u a1 (cellK y c _ hky hc a1 a2) a3)
      · (refine el_2_1 (f4 y hy) fun c v0 a1 a2 => ?_)
        by_cases hc : cap c
        · (refine el_1_1 hc fun z hz hzl => ?_; try clear hc)
          have : z = y := ok.cellInj z y c (capK z hz) hy hzl a1
          subst this
          (refine el_2_1 (T.loc.cells z (kFree z hz)) fun c' v' b1 b2 => ?_)
          change cs.lookup z = some c' at b1
          rw [lkFree z hz, a1] at b1; cases b1
          exact (in_2_1 c v' a1 b2)
        · exact (in_2_1 c v0 a1 (cellK y c _ hy hc a1 a2))
  have Lfresh : ∀ {J st' s'}, SR C' KF' J st' s' → J L = none ∧ st'.H L = none := fun T => ⟨(T.own L (.inl rfl)).1, (T.own L (.inl rfl)).2.2⟩
  have KL : KF L = none ∧ ¬ C.Own L := ⟨(S₃.fresh noL).2.1, (S₃.fresh noL).2.2.2⟩
  -- the walk
  have itOwn' : ¬ C'.Own it := fun hb => by
    rcases own' it hb with q | q
    · rw [hit3] at q; cases q
    · exact i4 (capOwn it q)
  have DOwn' : ¬ C'.Own D := fun hb => by
    rcases own' D hb with q | q
    · rw [hA0] at q; cases q
    · exact d4 (capOwn D q)
  have KF'it : KF' it = none := by show (if C.Own it ∧ ¬ cap it then _ else _) = _; rw [if_neg fun q => i4 q.1]; exact i2
  have KF'D : KF' D = none := by show (if C.Own D ∧ ¬ cap D then _ else _) = _; rw [if_neg fun q => d4 q.1]; exact d2
  have W4 : Dw 0 J₁ h₄ := W.frame J₁ J₁ h₃ h₄ 0 W3 (.refl _) (fun o e => k4 _ _ e) fun a o e1 e2 => k4 _ _ e2
  have AC : AccAt C' D [] J₁ KF' ⟨compLo scope st₁.lo, st₁.H⟩ { s₁ with heap := h₄, toks := tk₂ } := ⟨(in_2_1 0 (#[]) (k4 _ _ hA0) (.nil)), d1, KF'D, d3, DOwn'⟩
  have loop := compLoop_W (C := C') (elt := elt) (gens := g :: gs) (scope := scope) (pos := pos) (D := D) ok' has (fun g' hg' x => hfold g' hg' _ x) gs 0 g rfl KF' J₁ J₁ _ _ xs it Dw 0 [] _ (.refl _) W S' AC W4 (in_1_0 oi (k4 _ _ hit3)) i1 KF'it i3 itOwn' hne (Nat.zero_le _) (by simpa using hw C' ok' ⟨rfl, rfl, rfl, rfl, rfl, rfl, rfl⟩ rfl)
  refine codeAny_mono (compStart_of rfl (has g (by simp)) loop (W.self C'.A J₁ _ 0 _ _ W4 loop)) fun r s' hr => ?_
  cases r with
  | ok f =>
    obtain ⟨J', st', ys, l', T, A', hlo, hQ0⟩ := hr
    obtain ⟨⟨nD, xD, hDo, hDr⟩, b1, b2, b3, b4⟩ := A'
    have Sb := back l' T hlo
    have Ln := Lfresh T
    have hLns' : ∃ m, s'.heap.Ns L m := by (refine el_1_1 T.loc.ns fun m hm _ => ?_); exact (in_1_0 m hm)
    have hLD : L ≠ D := fun q => DOwn' (.inl q.symm)
    -- the list is turned no more, or may be turned
    obtain ⟨c, Jf, Hf, lJf, Sf, hv, Lf, LH, hQ0⟩ : ∃ c Jf Hf, ILe J' Jf ∧ SR C KF Jf ⟨st₁.lo, Hf⟩ s' ∧ VR Jf c (.ref D) ∧ Jf L = none ∧ Hf L = none ∧ Qc c ⟨st₁.lo, Hf⟩ := by
      rcases hQ0 with hQ0 | hQ0
      · refine (in_3_5 (.lst ys) (iput J' D ⟨.type "list", .none, .seq xD nD, #[]⟩) st'.H (iput_le b1) (Sb.addI hDo b1 d2 b3 d4) ?_ (by rw [iput_ne hLD]; exact Ln.1) Ln.2 hQ0)
        simp only [VR]
        exact (in_3_2 D nD xD rfl (by simp) (VRs.mono (iput_le b1) _ _ hDr))
      · exact (in_3_5 (.loc D) J' (hput st'.H D (.list ys)) (.refl _) (Sb.addH dlow hDo b1 d2 d4 (in_2_1 nD xD rfl hDr)) (by simp [VR]) Ln.1 (by rw [hput_ne hLD]; exact Ln.2) (hQ0 D b3))
    have hQ := hq _ _ hQ0
    have lf : ILe I Jf := (l₁.trans l').trans lJf
    cases use with
    | none =>
      (refine el_1_0 hLns' fun m hm => ?_; try clear hLns')
      refine (in_1_1 m hm (fun h'' hs'' => ⟨_, _, lf, Sf.heap (tk := s'.toks) fun a o e hb => (hs''.2 a fun q => notHeld hb q Lf KL.1 LH KL.2).trans e, hQ _ _ hv⟩))
    | some u =>
      (refine el_1_0 hLns' fun m hm => ?_; try clear hLns')
      (refine el_3_3 hm fun oL es ep hLo hLd hLk hLf => ?_; try clear hm)
      -- the block's names are kept while the list is laid
      have SK := Sf.addK (a := L) hLo Lf KL.1 LH KL.2
      have lk : ILe KF (iput KF L oL) := iput_le KL.1
      show wpAny (model C.prog C.w) C.A (u (.ref D)) _ _ s'
      refine wpAny_mono (hQ _ _ hv _ s' SK) (fun _ s'' hh => hh.use fun J3 st3 l3 S3 q3 => ?_) fun e s'' hF => hF.elim
      (refine el_0_1 (S3.frs L oL (by simp)) fun z1 z2 => ?_)
      refine (in_1_1 m (in_3_3 _ es ep z2 hLd hLk hLf) (fun h'' hs'' => ⟨J3, st3, lf.trans l3, (S3.weakK lk S.kle).heap (tk := s''.toks) fun a o e hb => (hs''.2 a fun q => notHeld hb q S3.iterIn.1 KL.1 S3.iterIn.2.1 KL.2).trans e, q3⟩))
  | error e => exact hr.elim
end
end Mine
open PySem PySem.W PySem.Calls PyProof.Rows
set_option Elab.async false
set_option linter.all false
set_option maxRecDepth 100000
set_option genSizeOf false
namespace Mine

section
variable {C : Cx} {dep : Nat} {KF I J : IM} {st : CSt} {s : Shared}

-- a comprehension as a value, and laid under a name
theorem WE.comp {elt t iter : Expr} {ifs : List Expr} {gs : List Comprehension} {scope : Scope} {pos : Pos} {Q : CV → CSt → Prop} (ok : C.Ok dep)
    (h : WE C iter st (fun a st1 => ∃ xs, IterOf C a st1 xs ∧ WComp C dep elt ⟨t, iter, ifs, 0⟩ gs scope xs st1 Q))
    (hcap : (scope.names.all fun x => x.2 != .free || C.env.kindOf x.1 == some .cell) = true)
    (hk : scope.kind = .function := by rfl) (hnd : (scope.names.map (·.1)).Nodup := by decide +kernel) 
    (has : ∀ g' ∈ (⟨t, iter, ifs, 0⟩ :: gs : List Comprehension), g'.is_async = 0 := by simp) (hfold : ∀ g' ∈ (⟨t, iter, ifs, 0⟩ :: gs : List Comprehension), ∀ env x, foldedSetIterable g'.iter env x = pure x := by simp [foldedSetIterable]) :
    WE C (.ListComp elt (⟨t, iter, ifs, 0⟩ :: gs) scope pos) st Q := fun I =>
  comp_W (use := Option.none) (g := ⟨t, iter, ifs, 0⟩) (gs := gs) (Qc := Q) (Q := fun J v st' => ValP J v Q st') ok hk hnd hcap has hfold (fun c st2 q J v r => ⟨c, r, q⟩) h

theorem WS.assignComp {x : Str} {px : Pos} {elt t iter : Expr} {ifs : List Expr} {gs : List Comprehension} {scope : Scope} {pos spos : Pos} {Q : CF → CSt → Prop} (ok : C.Ok dep)
    (h : WE C iter st (fun a st1 => ∃ xs, IterOf C a st1 xs ∧ WComp C dep elt ⟨t, iter, ifs, 0⟩ gs scope xs st1 (fun c st2 => Q .next (st2.put x c))))
    (hcap : (scope.names.all fun x => x.2 != .free || C.env.kindOf x.1 == some .cell) = true) (hx : storeKind (C.env.kindOf x) = true)
    (hs : swapsWith (.ListComp elt (⟨t, iter, ifs, 0⟩ :: gs) scope pos) (some (.Name x px)) spos.line C.env = pure true)
    (hk : scope.kind = .function := by rfl) (hnd : (scope.names.map (·.1)).Nodup := by decide +kernel) 
    (has : ∀ g' ∈ (⟨t, iter, ifs, 0⟩ :: gs : List Comprehension), g'.is_async = 0 := by simp) (hfold : ∀ g' ∈ (⟨t, iter, ifs, 0⟩ :: gs : List Comprehension), ∀ env x, foldedSetIterable g'.iter env x = pure x := by simp [foldedSetIterable]) :
    WS C (.Assign [.Name x px] (.ListComp elt (⟨t, iter, ifs, 0⟩ :: gs) scope pos) spos) st Q := fun I => by
  simp only [exec_Assign_arm]
  refine WL.bind (WL.standAt ?_)
  show WL C (do if ← swapsWith (.ListComp elt (⟨t, iter, ifs, 0⟩ :: gs) scope pos) (some (.Name x px)) spos.line C.env then (do
      (do let _ ← comprehension (.ListComp elt (⟨t, iter, ifs, 0⟩ :: gs) scope pos) scope C.env (firstIterPos (⟨t, iter, ifs, 0⟩ :: gs) pos) (newList []) false (eval iter C.env) (some fun v => assign (.Name x px) C.env v))
      pure Flow.next) else _) I st _
  rw [hs]
  refine WL.bind (WL.pure ?_)
  rw [if_pos rfl]
  refine WL.bind (WL.bind ((comp_W (use := some fun v => assign (.Name x px) C.env v) (g := ⟨t, iter, ifs, 0⟩) (gs := gs) (Qc := fun c st2 => Q .next (st2.put x c)) (Q := fun J v st' => Q .next st') ok hk hnd hcap has hfold
    (fun c st2 q J v r => ?_) h : WL C _ I st _).mono (fun J v st' _ q => WL.pure (WL.pure ⟨.next, rfl, q⟩))))
  exact WA.name (Q := fun st' => Q .next st') ok hx q J v r
end
end Mine
open PySem PySem.W PySem.Calls PyProof.Rows
set_option Elab.async false
set_option linter.all false
set_option maxRecDepth 100000
set_option genSizeOf false
namespace Mine

section
variable {C : Cx} {dep : Nat} {KF I J : IM} {st : CSt} {s : Shared} {Q : CV → CSt → Prop}

-- ints
theorem W2.addI {a b : Int} (h : Q (.int (a + b)) st) : W2 C (binaryOp .Add) (.int a) (.int b) st Q := fun I v u r1 r2 KF s S => by
  simp only [VR] at r1 r2; (refine el_1_0 r1 fun t xEl1 => ?_; try clear r1; obtain rfl := xEl1); (refine el_1_0 r2 fun t' xEl1 => ?_; try clear r2; obtain rfl := xEl1)
  exact wpAny_add_int ⟨I, st, .refl I, S.toks _, _, by simp [VR], h⟩
theorem W2.modI {a b : Int} (hb : 0 < b) (h : Q (.int (a % b)) st) : W2 C (binaryOp .Mod) (.int a) (.int b) st Q := fun I v u r1 r2 KF s S => by
  simp only [VR] at r1 r2; (refine el_1_0 r1 fun t xEl1 => ?_; try clear r1; obtain rfl := xEl1); (refine el_1_0 r2 fun t' xEl1 => ?_; try clear r2; obtain rfl := xEl1)
  refine mod_int' (by omega) ?_
  rw [Int.fmod_eq_emod_of_nonneg _ (by omega)]
  exact ⟨I, st, .refl I, S.toks _, _, by simp [VR], h⟩
theorem W2.divI {a b : Int} (hb : 0 < b) (hs : b < 2 ^ 30) (h : Q (.int (a / b)) st) : W2 C (binaryOp .FloorDiv) (.int a) (.int b) st Q := fun I v u r1 r2 KF s S => by
  simp only [VR] at r1 r2; (refine el_1_0 r1 fun t xEl1 => ?_; try clear r1; obtain rfl := xEl1); (refine el_1_0 r2 fun t' xEl1 => ?_; try clear r2; obtain rfl := xEl1)
  refine floordiv_int (by omega) ?_ (Or.inl (PyProof.noPylong_small (by omega +splitDisjunctions)))
  rw [Int.fdiv_eq_ediv_of_nonneg _ (by omega)]
  exact ⟨I, st, .refl I, S.toks _, _, by simp [VR], h⟩
theorem W2.eqI {a b : Int} (h : Q (.bool (decide (a = b))) st) : W2 C (compareOp .Eq) (.int a) (.int b) st Q := fun I v u r1 r2 KF s S => by
  simp only [VR] at r1 r2; (refine el_1_0 r1 fun t xEl1 => ?_; try clear r1; obtain rfl := xEl1); (refine el_1_0 r2 fun t' xEl1 => ?_; try clear r2; obtain rfl := xEl1)
  refine PySem.P.eq_int ⟨I, st, .refl I, S, .bool (decide (a = b)), ?_, h⟩
  simp only [VR]; congr 1
theorem W2.ltI {a b : Int} (h : Q (.bool (decide (a < b))) st) : W2 C (compareOp .Lt) (.int a) (.int b) st Q := fun I v u r1 r2 KF s S => by
  simp only [VR] at r1 r2; (refine el_1_0 r1 fun t xEl1 => ?_; try clear r1; obtain rfl := xEl1); (refine el_1_0 r2 fun t' xEl1 => ?_; try clear r2; obtain rfl := xEl1)
  exact PySem.P.lt_int ⟨I, st, .refl I, S, _, by simp [VR], h⟩
theorem W2.isNotB {a b : Bool} (h : Q (.bool (a != b)) st) : W2 C (compareOp .IsNot) (.bool a) (.bool b) st Q := fun I v u r1 r2 KF s S => by
  simp only [VR] at r1 r2; subst r1; subst r2
  exact isnot_bool ⟨I, st, .refl I, S, _, by simp [VR], h⟩

/-- a new object that is never turned -/
theorem SR.newI (S : SR C KF I st s) {o : Obj} (hf : o.isFreed = false) : ILe I (iput I s.heap.objs.size o) ∧ SR C KF (iput I s.heap.objs.size o) st { s with heap := s.heap.push o } := by
  (refine el_0_3 S.fresh' fun h1 h2 h3 h4 => ?_)
  exact ⟨iput_le h1, (S.push o).addI (Heap.get?_push_size _ hf) h1 h2 h3 h4⟩
/-- a new object of the clean heap -/
theorem SR.newH (S : SR C KF I st s) {o : Obj} {c : CO} (hf : o.isFreed = false) (hr : OR C.prog C.w I c o) : st.H s.heap.objs.size = none ∧ SR C KF I { st with H := hput st.H s.heap.objs.size c } { s with heap := s.heap.push o } := by
  (refine el_0_3 S.fresh' fun h1 h2 h3 h4 => ?_)
  exact ⟨h3, (S.push o).addH S.big (Heap.get?_push_size _ hf) h1 h2 h4 hr⟩

-- tuples and lists are displayed
theorem spliced_W {pos : Pos} : ∀ {es : List Expr} {st : CSt} {Q : List CV → CSt → Prop}, WEs C es st Q → (∀ e ∈ es, ∀ t p, e ≠ .Starred t p) → ∀ I, WL C (spliced (backTo pos (starEach es C.env))) I st (fun J vs st' => ∃ cs, VRs J cs vs ∧ Q cs st')
  | [], st, Q, h, _, I => WL.pure (in_1_1 ([]) (.nil) h)
  | e :: es, st, Q, h, hs, I => by
    have he : starEach (e :: es) C.env = (false, eval e C.env) :: starEach es C.env := by
      have := hs e (by simp)
      cases e <;> first | rfl | (exact absurd rfl (this _ _))
    rw [he]
    show WL C (do let v ← eval e C.env; let here ← (pure [v] : Sem (List Value)); return here ++ (← holding here (spliced (backTo pos (starEach es C.env))))) I st _
    refine WL.bind ((h I).mono (fun J v st1 _ hh => hh.use fun c r q => ?_))
    refine WL.bind (WL.pure (WL.bind (WL.holding ((spliced_W q (fun x hx => hs x (List.mem_cons_of_mem _ hx)) J).mono (fun J2 vs st2 l hEl => ?_)))))
    (refine el_1_1 hEl fun cs rs q2 => ?_; try clear hEl)
    exact WL.pure (in_1_1 (c :: cs) (.cons (r.mono l) rs) q2)
theorem WE.tuple {es : List Expr} {k pos} (h : WEs C es st (fun cs st' => cs.length ≤ 2 ^ 24 ∧ Q (.tup cs) st')) (hs : es.all noStar = true := by rfl) : WE C (.Tuple es k pos) st Q := fun I => by
  show WL C (do standAt pos; newTuple (← spliced (backTo pos (starEach es C.env)))) I st _
  refine WL.bind (WL.standAt (WL.bind ((spliced_W h (noStar_all hs) I).mono (fun J vs st1 _ hEl => ?_))))
  (refine el_1_2 hEl fun cs r hl q => ?_; try clear hEl)
  intro KF s S
  refine wpAny_newObj_type ?_ (by show vs.toArray.size ≤ sizeLine; rw [sizeLine_eq]; have := r.length; simp; omega)
  (refine el_0_1 (S.newI (o := { cls := .type "tuple", dict := .none, data := .seq vs.toArray }) rfl) fun l S' => ?_)
  refine ⟨_, st1, l, S', .tup cs, ?_, q⟩
  simp only [VR]
  exact (in_3_2 _ _ _ rfl iput_self (VRs.mono l _ _ (by simpa using r)))
/-- a list that is never turned -/
theorem WE.listF {es : List Expr} {pos} (h : WEs C es st (fun cs st' => cs.length ≤ 2 ^ 24 ∧ Q (.lst cs) st')) (hs : es.all noStar = true := by rfl) : WE C (.List es pos) st Q := fun I => by
  show WL C (do standAt pos; newList (← spliced (backTo pos (starEach es C.env)))) I st _
  refine WL.bind (WL.standAt (WL.bind ((spliced_W h (noStar_all hs) I).mono (fun J vs st1 _ hEl => ?_))))
  (refine el_1_2 hEl fun cs r hl q => ?_; try clear hEl)
  intro KF s S
  refine wpAny_newObj_type ?_ (by show vs.toArray.size ≤ sizeLine; rw [sizeLine_eq]; have := r.length; simp; omega)
  (refine el_0_1 (S.newI (o := { cls := .type "list", dict := .none, data := .seq vs.toArray }) rfl) fun l S' => ?_)
  refine ⟨_, st1, l, S', .lst cs, ?_, q⟩
  simp only [VR]
  exact (in_3_2 _ _ _ rfl iput_self (VRs.mono l _ _ (by simpa using r)))
/-- a list that may be turned -/
theorem WE.list {es : List Expr} {pos} (h : WEs C es st (fun cs st' => cs.length ≤ 2 ^ 24 ∧ ∀ a, st'.H a = Option.none → Q (.loc a) { st' with H := hput st'.H a (.list cs) })) (hs : es.all noStar = true := by rfl) : WE C (.List es pos) st Q := fun I => by
  show WL C (do standAt pos; newList (← spliced (backTo pos (starEach es C.env)))) I st _
  refine WL.bind (WL.standAt (WL.bind ((spliced_W h (noStar_all hs) I).mono (fun J vs st1 _ hEl => ?_))))
  (refine el_1_2 hEl fun cs r hl q => ?_; try clear hEl)
  intro KF s S
  refine wpAny_newObj_type ?_ (by show vs.toArray.size ≤ sizeLine; rw [sizeLine_eq]; have := r.length; simp; omega)
  (refine el_0_1 (S.newH (o := { cls := .type "list", dict := .none, data := .seq vs.toArray }) (c := .list cs) rfl (in_2_1 _ _ rfl (by simpa using r))) fun hn S' => ?_)
  exact ⟨J, _, .refl _, S', .loc s.heap.objs.size, by simp [VR], q _ hn⟩

-- sums of sequences
theorem W2.addT {as bs : List CV} (hl : as.length + bs.length ≤ 2 ^ 24) (h : Q (.tup (as ++ bs)) st) : W2 C (binaryOp .Add) (.tup as) (.tup bs) st Q := fun I v u r1 r2 KF s S => by
  have r1' := r1; have r2' := r2
  simp only [VR] at r1 r2
  (refine el_3_1 r1 fun a n xs xEl3 rEl => ?_; try clear r1; obtain rfl := xEl3; (refine el_0_1 rEl fun hi hr => ?_; try clear rEl))
  (refine el_3_1 r2 fun b m ys xEl3 rEl => ?_; try clear r2; obtain rfl := xEl3; (refine el_0_1 rEl fun hj hr' => ?_; try clear rEl))
  have ha := S.imm _ _ hi
  have hb := S.imm _ _ hj
  have e := hr.length
  have e' := hr'.length
  by_cases h0 : xs.isEmpty = true
  · refine concat_meets (in_1_1 _ ha rfl) (in_1_1 _ hb rfl) noFill_tuple_add seq_tuple_add F.slot_tuple_add F.entry_tuple_add (F.args_tuple_add_2 _ _) (tuple_addW0 a b xs ys n m none none #[] #[] h0) (in_0_2 ha hb ?_)
    have : as = [] := by
      have hx : xs.toList = [] := by simpa using h0
      rw [hx] at e; exact List.eq_nil_of_length_eq_zero e
    subst this
    exact ⟨I, st, .refl I, S, _, r2', h⟩
  · by_cases h1 : ys.isEmpty = true
    · refine concat_meets (in_1_1 _ ha rfl) (in_1_1 _ hb rfl) noFill_tuple_add seq_tuple_add F.slot_tuple_add F.entry_tuple_add (F.args_tuple_add_2 _ _) (tuple_addW1 a b xs ys n m none none #[] #[] h0 h1) (in_0_2 ha hb ?_)
      have : bs = [] := by
        have hx : ys.toList = [] := by simpa using h1
        rw [hx] at e'; exact List.eq_nil_of_length_eq_zero e'
      subst this
      rw [List.append_nil] at h
      exact ⟨I, st, .refl I, S, _, r1', h⟩
    · refine concat_meets (in_1_1 _ ha rfl) (in_1_1 _ hb rfl) noFill_tuple_add seq_tuple_add F.slot_tuple_add F.entry_tuple_add (F.args_tuple_add_2 _ _) (tuple_addW2 a b xs ys n m none none #[] #[] h0 h1 (by rw [sizeLine_eq]; simp at e e'; omega)) (in_0_2 ha hb ?_)
      (refine el_0_1 (S.newI (o := { cls := .type "tuple", dict := .none, data := .seq (xs ++ ys) }) rfl) fun l S' => ?_)
      refine ⟨_, st, l, S', .tup (as ++ bs), ?_, h⟩
      simp only [VR]
      exact (in_3_2 _ _ _ rfl iput_self (VRs.mono l _ _ (by simpa using hr.append hr')))
theorem W2.addL {as bs : List CV} (hl : as.length + bs.length ≤ 2 ^ 24) (h : Q (.lst (as ++ bs)) st) : W2 C (binaryOp .Add) (.lst as) (.lst bs) st Q := fun I v u r1 r2 KF s S => by
  simp only [VR] at r1 r2
  (refine el_3_1 r1 fun a n xs xEl3 rEl => ?_; try clear r1; obtain rfl := xEl3; (refine el_0_1 rEl fun hi hr => ?_; try clear rEl))
  (refine el_3_1 r2 fun b m ys xEl3 rEl => ?_; try clear r2; obtain rfl := xEl3; (refine el_0_1 rEl fun hj hr' => ?_; try clear rEl))
  have ha := S.imm _ _ hi
  have hb := S.imm _ _ hj
  have e := hr.length
  have e' := hr'.length
  refine concat_meets (in_1_1 _ ha rfl) (in_1_1 _ hb rfl) noFill_list_add seq_list_add F.slot_list_add F.entry_list_add (F.args_list_add_2 _ _) (list_addW a b xs ys n m none none #[] #[] (by rw [sizeLine_eq]; simp at e e'; omega)) (in_0_2 ha hb ?_)
  (refine el_0_1 (S.newI (o := { cls := .type "list", dict := .none, data := .seq (xs ++ ys) }) rfl) fun l S' => ?_)
  refine ⟨_, st, l, S', .lst (as ++ bs), ?_, h⟩
  simp only [VR]
  exact (in_3_2 _ _ _ rfl iput_self (VRs.mono l _ _ (by simpa using hr.append hr')))

-- subscripts
theorem WE.sub {value slice pos} (h : WE C value st (fun a st1 => WE C slice st1 (fun b st2 => W2 C (subscriptTail value slice) a b st2 Q))) : WE C (.Subscript value slice pos) st Q := fun I => by
  simp only [eval_Subscript]
  refine WL.bind ((h I).mono (fun J a st1 _ hh => hh.use fun ca ra ha => ?_))
  refine WL.bind (WL.holding ((ha J).mono (fun J2 b st2 l hh => hh.use fun cb rb hb => ?_)))
  exact WL.bind (WL.standAt (hb J2 _ _ (ra.mono l) rb))

/-- the place of an index -/
noncomputable def cidx (n : Nat) (k : Int) : Nat := if k < 0 then (k + n).toNat else k.toNat
theorem cidx_nat {n k : Nat} : cidx n (k : Int) = k := by unfold cidx; rw [if_neg (by simp)]; rfl
theorem cidx_last {n : Nat} (h : 0 < n) : cidx n (-1) = n - 1 := by unfold cidx; rw [if_pos (by decide)]; omega
theorem lt_min {u m k c b : Nat} (hm : m ≤ b) (h : u + b < c) : u + min m k < c := Nat.lt_of_le_of_lt (Nat.add_le_add_left (Nat.le_trans (Nat.min_le_left m k) hm) u) h
theorem seqIndex_of {k : Int} {n : Nat} (h : -(n : Int) ≤ k) (h2 : k < n) : seqIndex? k n = some (cidx n k) := by
  unfold seqIndex? cidx
  by_cases hk : k < 0
  · simp only [hk, if_true]
    have h1 : ¬ k + (n : Int) < 0 := by omega
    have h3 : ¬ k + (n : Int) ≥ n := by omega
    simp [h1, h3]
    try omega
  · simp only [hk, if_false]
    have h3 : ¬ k ≥ (n : Int) := by omega
    simp [hk, h3]
    try omega
end
end Mine
open PySem PySem.W PySem.Calls PyProof.Rows
set_option Elab.async false
set_option linter.all false
set_option maxRecDepth 100000
set_option genSizeOf false
namespace Mine

mutual
noncomputable def toPy : CV → PyData
  | .bool b => .bool b
  | .int i => .int i
  | .str s => .str s
  | .tup vs => .tuple (toPys vs)
  | .lst vs => .list (toPys vs)
  | _ => .none
noncomputable def toPys : List CV → List PyData
  | [] => []
  | v :: vs => toPy v :: toPys vs
end
mutual
noncomputable def isPy : CV → Bool
  | .none => true
  | .bool _ => true
  | .int _ => true
  | .str s => PyData.strOk s
  | .tup vs => isPys vs
  | .lst vs => isPys vs
  | _ => false
noncomputable def isPys : List CV → Bool
  | [] => true
  | v :: vs => isPy v && isPys vs
end
noncomputable def ceq (a b : CV) : Bool := PyData.eqv (toPy a) (toPy b)

mutual
theorem VR.reads {I : IM} {h : Heap} (hi : ∀ a o, I a = some o → h.get? a = some o) : ∀ (c : CV) (v : Value), isPy c = true → VR I c v → (∃ as, Reads h v (toPy c) as) ∧ (toPy c).canLay0 = true
  | .none, v, _, r => by simp only [VR] at r; subst r; exact ⟨(in_1_0 _ (.none)), rfl⟩
  | .bool b, v, _, r => by simp only [VR] at r; subst r; exact ⟨(in_1_0 _ (.bool b)), rfl⟩
  | .int i, v, _, r => by simp only [VR] at r; (refine el_1_0 r fun t xEl1 => ?_; try clear r; obtain rfl := xEl1); exact ⟨(in_1_0 _ (.int i t)), rfl⟩
  | .str s, v, p, r => by simp only [VR] at r; (refine el_1_0 r fun t xEl1 => ?_; try clear r; obtain rfl := xEl1); exact ⟨(in_1_0 _ (.str s t)), by simpa [isPy, toPy, PyData.canLay0] using p⟩
  | .tup vs, v, p, r => by
    simp only [VR] at r
    (refine el_3_1 r fun a n xs xEl3 rEl => ?_; try clear r; obtain rfl := xEl3; (refine el_0_1 rEl fun h1 h2 => ?_; try clear rEl))
    (refine el_0_1 (VRs.reads hi vs xs.toList (by simpa [isPy] using p) h2) fun xEl0 hl => ?_; (refine el_1_0 xEl0 fun as ra => ?_; try clear xEl0))
    exact ⟨(in_1_0 as (.tuple (hi _ _ h1) rfl rfl ra)), by simpa [toPy, PyData.canLay0] using hl⟩
  | .lst vs, v, p, r => by
    simp only [VR] at r
    (refine el_3_1 r fun a n xs xEl3 rEl => ?_; try clear r; obtain rfl := xEl3; (refine el_0_1 rEl fun h1 h2 => ?_; try clear rEl))
    (refine el_0_1 (VRs.reads hi vs xs.toList (by simpa [isPy] using p) h2) fun xEl0 hl => ?_; (refine el_1_0 xEl0 fun as ra => ?_; try clear xEl0))
    exact ⟨(in_1_0 _ (.list (hi _ _ h1) rfl rfl ra)), by simpa [toPy, PyData.canLay0] using hl⟩
  | .loc _, _, p, _ => by simp [isPy] at p
  | .raw _, _, p, _ => by simp [isPy] at p
  | .rng _ _, _, p, _ => by simp [isPy] at p
  | .obj _ _, _, p, _ => by simp [isPy] at p
theorem VRs.reads {I : IM} {h : Heap} (hi : ∀ a o, I a = some o → h.get? a = some o) : ∀ (cs : List CV) (vs : List Value), isPys cs = true → VRs I cs vs → (∃ as, ReadsAll h vs (toPys cs) as) ∧ PyData.canLayAll0 (toPys cs) = true
  | [], vs, _, r => by have := r.nil_iff; subst this; exact ⟨(in_1_0 _ (.nil)), rfl⟩
  | c :: cs, vs, p, r => by
    (refine el_2_1 r.uncons fun y ys xEl2 rEl => ?_; obtain rfl := xEl2; (refine el_0_1 rEl fun r1 r2 => ?_; try clear rEl))
    simp only [isPys, Bool.and_eq_true] at p
    (refine el_0_1 (VR.reads hi c y p.1 r1) fun xEl0 a2 => ?_; (refine el_1_0 xEl0 fun as a1 => ?_; try clear xEl0))
    (refine el_0_1 (VRs.reads hi cs ys p.2 r2) fun xEl0 b2 => ?_; (refine el_1_0 xEl0 fun bs b1 => ?_; try clear xEl0))
    exact ⟨(in_1_0 _ (.cons a1 b1)), by simp [toPys, PyData.canLayAll0, a2, b2]⟩
end
theorem isPys_all : ∀ {cs : List CV}, isPys cs = true ↔ ∀ c ∈ cs, isPy c = true
  | [] => by decide
  | c :: cs => by simp [isPys, isPys_all (cs := cs)]
section
variable {C : Cx} {dep : Nat} {KF I J : IM} {st : CSt} {s : Shared} {Q : CV → CSt → Prop}

theorem W2.eqP {a b : CV} (ok : C.Ok dep) (pa : isPy a = true) (pb : isPy b = true) (hd : (toPy a).depth ≤ 100) (h : Q (.bool (ceq a b)) st) : W2 C (compareOp .Eq) a b st Q := fun I v u r1 r2 KF s S => by
  (refine el_0_1 (VR.reads S.imm a v pa r1) fun xEl0 hx => ?_; (refine el_1_0 xEl0 fun as x => ?_; try clear xEl0))
  (refine el_0_1 (VR.reads S.imm b u pb r2) fun xEl0 hy => ?_; (refine el_1_0 xEl0 fun bs y => ?_; try clear xEl0))
  exact SeqAt.compareEq_reads x y hx hy (lt_min hd (by have := ok.units; omega)) ⟨I, st, .refl I, S, .bool (ceq a b), by simp [VR, ceq], h⟩
theorem W2.neP {a b : CV} (ok : C.Ok dep) (pa : isPy a = true) (pb : isPy b = true) (hd : (toPy a).depth ≤ 100) (h : Q (.bool (!ceq a b)) st) : W2 C (compareOp .NotEq) a b st Q := fun I v u r1 r2 KF s S => by
  (refine el_0_1 (VR.reads S.imm a v pa r1) fun xEl0 hx => ?_; (refine el_1_0 xEl0 fun as x => ?_; try clear xEl0))
  (refine el_0_1 (VR.reads S.imm b u pb r2) fun xEl0 hy => ?_; (refine el_1_0 xEl0 fun bs y => ?_; try clear xEl0))
  exact SeqAt.compareNe_reads x y hx hy (lt_min hd (by have := ok.units; omega)) ⟨I, st, .refl I, S, .bool (!ceq a b), by simp [VR, ceq], h⟩

open Classical in
noncomputable def eqTo (h : Heap) (d : PyData) (y : Value) : Bool := if q : ∃ e : PyData, e.canLay0 = true ∧ ∃ as, Reads h y e as then PyData.eqv (Classical.choose q) d else false
theorem eqTo_of {h : Heap} {d e : PyData} {y : Value} {as : List Addr} (he : e.canLay0 = true) (r : Reads h y e as) : eqTo h d y = PyData.eqv e d := by
  have q : ∃ e : PyData, e.canLay0 = true ∧ ∃ as, Reads h y e as := (in_1_1 e he (in_1_0 as r))
  unfold eqTo
  rw [dif_pos q]
  (refine el_0_1 (Classical.choose_spec q) fun h1 rEl => ?_; (refine el_1_0 rEl fun bs h2 => ?_; try clear rEl))
  rw [SeqAt.Reads.unique _ _ _ _ _ h1 h2 r]
theorem any_eqTo (S : SR C KF I st s) {b : CV} : ∀ {cs : List CV} {vs : List Value}, isPys cs = true → VRs I cs vs → vs.any (eqTo s.heap (toPy b)) = cs.any fun c => ceq c b
  | [], vs, _, r => by have := r.nil_iff; subst this; rfl
  | c :: cs, vs, p, r => by
    (refine el_2_1 r.uncons fun y ys xEl2 rEl => ?_; obtain rfl := xEl2; (refine el_0_1 rEl fun r1 r2 => ?_; try clear rEl))
    simp only [isPys, Bool.and_eq_true] at p
    (refine el_0_1 (VR.reads S.imm c y p.1 r1) fun xEl0 a2 => ?_; (refine el_1_0 xEl0 fun as a1 => ?_; try clear xEl0))
    simp only [List.any_cons, List.any_cons, any_eqTo S p.2 r2, eqTo_of a2 a1]; rfl
theorem eqAt_items (S : SR C KF I st s) (ok : C.Ok dep) {b : CV} {u : Value} (pb : isPy b = true) (hd : (toPy b).depth ≤ 100) (rb : VR I b u) : ∀ {cs : List CV} {vs : List Value}, isPys cs = true → VRs I cs vs →
    ∀ y ∈ vs, SeqAt.EqAt C.A.in1 s y u (eqTo s.heap (toPy b) y)
  | [], vs, _, r, y, hy => by have := r.nil_iff; subst this; cases hy
  | c :: cs, vs, p, r, y, hy => by
    (refine el_2_1 r.uncons fun z zs xEl2 rEl => ?_; obtain rfl := xEl2; (refine el_0_1 rEl fun r1 r2 => ?_; try clear rEl))
    simp only [isPys, Bool.and_eq_true] at p
    rcases List.mem_cons.mp hy with rfl | hy
    · (refine el_0_1 (VR.reads S.imm c y p.1 r1) fun xEl0 a2 => ?_; (refine el_1_0 xEl0 fun as a1 => ?_; try clear xEl0))
      (refine el_0_1 (VR.reads S.imm b u pb rb) fun xEl0 b2 => ?_; (refine el_1_0 xEl0 fun bs b1 => ?_; try clear xEl0))
      rw [eqTo_of a2 a1]
      refine SeqAt.eqAt_reads _ _ _ _ _ _ _ _ a1 b1 a2 b2 ?_
      have := ok.units
      show C.A.units + 1 + min _ _ < _
      rw [Nat.min_comm]
      exact lt_min hd (by omega)
    · exact eqAt_items S ok pb hd rb p.2 r2 y hy

theorem W2.notInLoc {b : CV} {a : Addr} {cs : List CV} (ok : C.Ok dep) (hH : st.H a = some (.list cs)) (pa : isPys cs = true) (pb : isPy b = true) (hd : (toPy b).depth ≤ 100) (h : Q (.bool (!cs.any fun c => ceq c b)) st) : W2 C (compareOp .NotIn) b (.loc a) st Q := fun I v u r1 r2 KF s S => by
  simp only [VR] at r2
  subst r2
  (refine el_0_2 (S.mu a _ hH) fun _ _ rEl => ?_; (refine el_1_1 rEl fun o ho sEl => ?_; try clear rEl; obtain ⟨n, xs, rfl, hr⟩ := sEl))
  refine SeqAt.notIn_listAt (eqTo s.heap (toPy b)) (in_1_2 _ ho rfl (in_1_0 n rfl)) (fun y hy => eqAt_items S ok pb hd r1 pa hr y (by simpa using hy)) ?_
  rw [← Array.any_toList, any_eqTo S pa hr]
  exact ⟨I, st, .refl I, S, _, by simp [VR], h⟩

-- items
theorem W2.itemT {value slice : Expr} {cs : List CV} {k : Int} {c : CV} (h1 : -(cs.length : Int) ≤ k) (h2 : k < cs.length) (hs : (cs.length : Int) < 2 ^ 62) (hc : cs[cidx cs.length k]? = some c) (h : Q c st)
    (hsl : ∀ o i, subscripted slice false o i = operate [o, i] (getItem o i) := by intros; rfl) : W2 C (subscriptTail value slice) (.tup cs) (.int k) st Q := fun I v u r1 r2 KF s S => by
  simp only [VR] at r1 r2
  (refine el_3_1 r1 fun a n xs xEl3 rEl => ?_; try clear r1; obtain rfl := xEl3; (refine el_0_1 rEl fun hi hr => ?_; try clear rEl))
  (refine el_1_0 r2 fun t xEl1 => ?_; try clear r2; obtain rfl := xEl1)
  have ht : IsTup s.heap a xs := (in_1_2 _ (S.imm _ _ hi) rfl (in_1_0 n rfl))
  (refine el_1_1 (hr.get hc) fun x hx rx => ?_)
  have e := hr.length
  refine tail_any ht.typeIs slot_tuple_getitem.lookup (PyProof.Rows.getItem_tuple ht (by omega) (by omega) (seqIndex_of (by simp at e; omega) (by simp at e; omega)) ?_ ⟨I, st, .refl I, S, c, rx, h⟩) (hsl _ _)
  have : xs.size = cs.length := by simp at e; exact e.symm
  rw [this]
  simpa using hx
theorem getItem_list_any {prog : Program} {w : World} {A : Around} {E : Value → Shared → Prop} {l : Addr} {items : Array Value} {k : Int} {t : Tok} {x : Value} {Q : Value → Shared → Prop} (hl : s.heap.IsList l items)
    (h1 : -(items.size : Int) ≤ k) (h2 : k < items.size) (hs : (items.size : Int) < 2 ^ 62) (hx : items[cidx items.size k]? = some x) (h : Q x s) : wpAny (model prog w) A (getItem (.ref l) (.int k t)) Q E s := by
  by_cases hk : k < 0
  · unfold cidx at hx
    rw [if_pos hk] at hx
    exact wpAny_getItem_list_neg hl hk (by omega +splitDisjunctions) (by omega) hx h
  · unfold cidx at hx
    rw [if_neg hk] at hx
    exact wpAny_getItem_list hl (by omega) (by omega) hx h
theorem W2.itemL {value slice : Expr} {cs : List CV} {k : Int} {c : CV} (h1 : -(cs.length : Int) ≤ k) (h2 : k < cs.length) (hs : (cs.length : Int) < 2 ^ 62) (hc : cs[cidx cs.length k]? = some c) (h : Q c st)
    (hsl : ∀ o i, subscripted slice false o i = operate [o, i] (getItem o i) := by intros; rfl) : W2 C (subscriptTail value slice) (.lst cs) (.int k) st Q := fun I v u r1 r2 KF s S => by
  simp only [VR] at r1 r2
  (refine el_3_1 r1 fun a n xs xEl3 rEl => ?_; try clear r1; obtain rfl := xEl3; (refine el_0_1 rEl fun hi hr => ?_; try clear rEl))
  (refine el_1_0 r2 fun t xEl1 => ?_; try clear r2; obtain rfl := xEl1)
  have hl : s.heap.IsList a xs := (in_1_2 _ (S.imm _ _ hi) rfl (in_1_0 n rfl))
  (refine el_1_1 (hr.get hc) fun x hx rx => ?_)
  have e : xs.size = cs.length := by have := hr.length; simp at this; exact this.symm
  refine tail_any hl.typeIs slot_list_getitem.lookup (getItem_list_any hl (by omega) (by omega) (by omega) ?_ ⟨I, st, .refl I, S, c, rx, h⟩) (hsl _ _)
  rw [e]; simpa using hx
theorem W2.itemLoc {value slice : Expr} {a : Addr} {cs : List CV} {k : Int} {c : CV} (hH : st.H a = some (.list cs)) (h1 : -(cs.length : Int) ≤ k) (h2 : k < cs.length) (hs : (cs.length : Int) < 2 ^ 62) (hc : cs[cidx cs.length k]? = some c) (h : Q c st)
    (hsl : ∀ o i, subscripted slice false o i = operate [o, i] (getItem o i) := by intros; rfl) : W2 C (subscriptTail value slice) (.loc a) (.int k) st Q := fun I v u r1 r2 KF s S => by
  simp only [VR] at r1 r2
  subst r1
  (refine el_1_0 r2 fun t xEl1 => ?_; try clear r2; obtain rfl := xEl1)
  (refine el_0_2 (S.mu a _ hH) fun _ _ rEl => ?_; (refine el_1_1 rEl fun o ho sEl => ?_; try clear rEl; obtain ⟨n, xs, rfl, hr⟩ := sEl))
  have hl : s.heap.IsList a xs := (in_1_2 _ ho rfl (in_1_0 n rfl))
  (refine el_1_1 (hr.get hc) fun x hx rx => ?_)
  have e : xs.size = cs.length := by have := hr.length; simp at this; exact this.symm
  refine tail_any hl.typeIs slot_list_getitem.lookup (getItem_list_any hl (by omega) (by omega) (by omega) ?_ ⟨I, st, .refl I, S, c, rx, h⟩) (hsl _ _)
  rw [e]; simpa using hx
theorem W2.itL {value slice : Expr} {cs : List CV} {k : Nat} {c : CV} (hc : cs[k]? = some c) (hs : cs.length ≤ 2 ^ 24) (h : Q c st) (hsl : ∀ o i, subscripted slice false o i = operate [o, i] (getItem o i) := by intros; rfl) : W2 C (subscriptTail value slice) (.lst cs) (.int k) st Q := by
  have hk := (List.getElem?_eq_some_iff.mp hc).1
  have e : cidx cs.length (k : Int) = k := cidx_nat
  exact W2.itemL (by simp) (by (exact Int.ofNat_lt.mpr (by assumption))) (by omega) (by rw [e]; exact hc) h hsl
theorem W2.itLoc {value slice : Expr} {a : Addr} {cs : List CV} {k : Nat} {c : CV} (hH : st.H a = some (.list cs)) (hc : cs[k]? = some c) (hs : cs.length ≤ 2 ^ 24) (h : Q c st) (hsl : ∀ o i, subscripted slice false o i = operate [o, i] (getItem o i) := by intros; rfl) : W2 C (subscriptTail value slice) (.loc a) (.int k) st Q := by
  have hk := (List.getElem?_eq_some_iff.mp hc).1
  have e : cidx cs.length (k : Int) = k := cidx_nat
  exact W2.itemLoc hH (by simp) (by (exact Int.ofNat_lt.mpr (by assumption))) (by omega) (by rw [e]; exact hc) h hsl
theorem W2.itL0 {value slice : Expr} {cs : List CV} {c : CV} (h : Q c st) (hs : (c :: cs).length ≤ 2 ^ 24 := by exact Nat.le_of_ble_eq_true rfl) (hsl : ∀ o i, subscripted slice false o i = operate [o, i] (getItem o i) := by intros; rfl) : W2 C (subscriptTail value slice) (.lst (c :: cs)) (.int 0) st Q := W2.itL (k := 0) rfl hs h hsl
theorem W2.itL1 {value slice : Expr} {a : CV} {cs : List CV} {c : CV} (h : Q c st) (hs : (a :: c :: cs).length ≤ 2 ^ 24 := by exact Nat.le_of_ble_eq_true rfl) (hsl : ∀ o i, subscripted slice false o i = operate [o, i] (getItem o i) := by intros; rfl) : W2 C (subscriptTail value slice) (.lst (a :: c :: cs)) (.int 1) st Q := W2.itL (k := 1) rfl hs h hsl
theorem W2.itL2 {value slice : Expr} {a b : CV} {cs : List CV} {c : CV} (h : Q c st) (hs : (a :: b :: c :: cs).length ≤ 2 ^ 24 := by exact Nat.le_of_ble_eq_true rfl) (hsl : ∀ o i, subscripted slice false o i = operate [o, i] (getItem o i) := by intros; rfl) : W2 C (subscriptTail value slice) (.lst (a :: b :: c :: cs)) (.int 2) st Q := W2.itL (k := 2) rfl hs h hsl
end
end Mine
open PySem PySem.W PySem.Calls PyProof.Rows
set_option Elab.async false
set_option linter.all false
set_option maxRecDepth 100000
set_option genSizeOf false
namespace Mine

section
variable {C : Cx} {dep : Nat} {KF I : IM} {st : CSt} {s : Shared} {Q : CV → CSt → Prop}

theorem SR.kin (S : SR C KF I st s) (ok : C.Ok dep) : C.K.In s.heap := ok.K.keeps fun b o e => S.imm b o (S.base b o e)

noncomputable def kwn (kws : List Keyword) : List Str := kws.filterMap (·.arg)
theorem kw_all {pos : Pos} {env : Env} : ∀ {kws : List Keyword}, kws.all (·.arg.isSome) = true → (backToKw pos (keywordEach kws env)).all (·.1.isSome) = true
  | [], _ => rfl
  | ⟨a, v, p⟩ :: kws, h => by
    simp only [List.all_cons, Bool.and_eq_true] at h
    show (a.isSome && (backToKw pos (keywordEach kws env)).all (·.1.isSome)) = true
    rw [kw_all h.2, h.1]; rfl
theorem kw_none {pos : Pos} {env : Env} : ∀ {kws : List Keyword}, kws.all (·.arg.isSome) = true → (backToKw pos (keywordEach kws env)).any (·.1.isNone) = false
  | [], _ => rfl
  | ⟨a, v, p⟩ :: kws, h => by
    simp only [List.all_cons, Bool.and_eq_true] at h
    show (a.isNone || (backToKw pos (keywordEach kws env)).any (·.1.isNone)) = false
    rw [kw_none h.2]
    cases a <;> simp_all
theorem kw_names {pos : Pos} {env : Env} : ∀ {kws : List Keyword}, (backToKw pos (keywordEach kws env)).filterMap (·.1) = kwn kws
  | [] => rfl
  | ⟨a, v, p⟩ :: kws => by
    show List.filterMap _ ((a, _) :: backToKw pos (keywordEach kws env)) = kwn (⟨a, v, p⟩ :: kws)
    cases a <;> simp [kwn, List.filterMap_cons, kw_names (kws := kws)] <;> exact kw_names
theorem noStar_any {pos : Pos} {env : Env} : ∀ {es : List Expr}, es.all noStar = true → (backTo pos (starEach es env)).any (·.1) = false
  | [], _ => rfl
  | e :: es, h => by
    simp only [List.all_cons, Bool.and_eq_true] at h
    have ih := noStar_any (pos := pos) (env := env) h.2
    cases e <;> first | (simp [noStar] at h; done) | exact ih
theorem kwEval_W {pos : Pos} : ∀ {kws : List Keyword} {st : CSt} {Q : List CV → CSt → Prop}, WEs C (kws.map (·.value)) st Q → ∀ I, WL C (evalAll ((backToKw pos (keywordEach kws C.env)).map (·.2))) I st (fun J vs st' => ∃ cs, VRs J cs vs ∧ Q cs st')
  | [], st, Q, h, I => WL.pure (in_1_1 ([]) (.nil) h)
  | ⟨a, v, p⟩ :: kws, st, Q, h, I => by
    show WL C (do let v ← (do let v ← eval v C.env; standAt pos; pure v); return v :: (← holding [v] (evalAll ((backToKw pos (keywordEach kws C.env)).map (·.2))))) I st _
    refine WL.bind (WL.bind ((h I).mono (fun J u st1 _ hh => hh.use fun c r q => WL.bind (WL.standAt (WL.pure ?_)))))
    refine WL.bind (WL.holding ((kwEval_W (kws := kws) q J).mono (fun J2 vs st2 l hEl => ?_)))
    (refine el_1_1 hEl fun cs rs q2 => ?_; try clear hEl)
    exact WL.pure (in_1_1 (c :: cs) (.cons (r.mono l) rs) q2)

theorem evalArgs_W {f : Value} {pos : Pos} {es : List Expr} {kws : List Keyword} {Q : List CV → List CV → CSt → Prop} (h : WEs C es st (fun as st1 => WEs C (kws.map (·.value)) st1 (fun ks st2 => Q as ks st2))) (hs : es.all noStar = true) (hk : kws.all (·.arg.isSome) = true) (I : IM) :
    WL C (evalArgs f true (backTo pos (starEach es C.env)) (backToKw pos (keywordEach kws C.env))) I st (fun J a st' => ∃ as ks vs, VRs J as a.pos ∧ a.kw = (kwn kws).zip vs ∧ VRs J ks vs ∧ Q as ks st') := fun KF s S => by
  cases es with
  | nil =>
    refine evalArgs_kw2_nil (kw_all hk) (wpAny_mono (kwEval_W h I KF s S) (fun vs s' hh => hh.use fun J st' l S' ⟨cs, r, q⟩ => ⟨J, st', l, S', [], cs, vs, .nil, ?_, r, q⟩) fun _ _ x => x)
    rw [kw_names]
  | cons e es =>
    have he : starEach (e :: es) C.env = (false, eval e C.env) :: starEach es C.env := by
      simp only [List.all_cons, Bool.and_eq_true] at hs
      cases e <;> first | rfl | (simp [noStar] at hs; done)
    refine evalArgs_kw2 (kw_all hk) (wpAny_mono (spliced_W h (noStar_all hs) I KF s S) (fun vs s' hh => hh.use fun J st' l S' ⟨cs, r, q⟩ => ?_) fun _ _ x => x) he
    refine wpAny_mono (kwEval_W q J KF s' S') (fun us s2 hh => hh.use fun J2 st2 l2 S2 ⟨ks, r2, q2⟩ => ⟨J2, st2, l.trans l2, S2, cs, ks, us, VRs.mono l2 _ _ r, ?_, r2, q2⟩) fun e s2 hF => hF.elim
    rw [kw_names]

/-- a call of it leaves nothing on the machine's own stack -/
noncomputable def KpOk (C : Cx) (f : Value) : Prop := ∀ h, C.K.In h → ∃ k, (k = Keeper.frame ∨ k = Keeper.machine ∨ k = Keeper.boundFrame) ∧ Looks (model C.prog C.w) h (keeperOf f) k
theorem KpOk.ref {f : Value} (h : keepIn C.K f = true) : KpOk C f := fun hp XK => keeps_K h hp XK
theorem KpOk.builtin {id : String} : KpOk C (.builtin id) := fun hp XK => (in_1_1 (.machine) (.inr (.inl rfl)) (Looks.of_pure rfl))
theorem KpOk.type {id : String} : KpOk C (.type id) := fun hp XK => (in_1_1 (.machine) (.inr (.inl rfl)) (Looks.of_pure rfl))

theorem callWith_W {f : Value} {pos : Pos} {fst : List CV} {fv : List Value} {es : List Expr} {kws : List Keyword} (ok : C.Ok dep) (hf : KpOk C f) (rf : VRs I fst fv)
    (h : WEs C es st (fun as st1 => WEs C (kws.map (·.value)) st1 (fun ks st2 => WCall C f (fst ++ as) (kwn kws) ks st2 Q))) (hs : es.all noStar = true) (hk : kws.all (·.arg.isSome) = true) :
    WL C (callWith pos f fv (backTo pos (starEach es C.env)) (backToKw pos (keywordEach kws C.env))) I st (fun J r st' => ValP J r Q st') := fun KF s S => by
  refine callWith_of (P := fun h => C.K.In h) (by rw [noStar_any hs, kw_none hk]; rfl) hf (wpAny_mono (evalArgs_W (f := f) (pos := pos) h hs hk I KF s S) (fun a s' ⟨J, st', l, S', as, ks, vs, r1, e, r2, q⟩ => ⟨S'.kin ok, ?_⟩) fun _ _ x => x)
  rw [e]
  refine wpAny_mono (q J _ _ ((VRs.mono l _ _ rf).append r1) r2 KF s' S') (fun v s2 hh => hh.use fun J2 st2 l2 S2 hv => hv.use fun b r q2 => ⟨J2, st2, l.trans l2, S2, b, r, q2⟩) fun e s2 hF => hF.elim

/-- a function's name is called -/
theorem WE.call {x : Str} {px : Pos} {es : List Expr} {kws : List Keyword} {pos : Pos} (ok : C.Ok dep)
    (h : WE C (.Name x px) st (fun f st1 => ∃ fv, f = .raw fv ∧ KpOk C fv ∧ WEs C es st1 (fun as st2 => WEs C (kws.map (·.value)) st2 (fun ks st3 => WCall C fv as (kwn kws) ks st3 Q))))
    (hs : es.all noStar = true := by rfl) (hk : kws.all (·.arg.isSome) = true := by rfl) : WE C (.Call (.Name x px) es kws pos) st Q := fun I => by
  show WL C (do callWith pos (← eval (.Name x px) C.env) [] (backTo pos (starEach es C.env)) (backToKw pos (keywordEach kws C.env))) I st _
  refine WL.bind ((h I).mono (fun J f st1 _ hEl => ?_))
  obtain ⟨c, r, fv, e, hf, q⟩ := hEl
  subst e
  simp only [VR] at r
  subst r
  exact callWith_W ok hf .nil q hs hk

/-- what a name is of a value, when it is called -/
noncomputable def WMeth (C : Cx) (a : CV) (name : Str) (f : Value) (st : CSt) : Prop :=
  ∀ (I : IM) (v : Value) (KF : IM) (s : Shared) (pl : Sem Bool) (E : Value → Shared → Prop) (Q : Value × List Value → Shared → Prop), VR I a v → SR C KF I st s → (∀ tk, Q (f, [v]) { s with toks := tk }) → wpAny (model C.prog C.w) C.A (getMethod v name pl) Q E s

theorem WE.meth {o : Expr} {name : Str} {apos pos : Pos} {es : List Expr} {kws : List Keyword} (ok : C.Ok dep)
    (h : WE C o st (fun a st1 => ∃ f, KpOk C f ∧ WMeth C a name f st1 ∧ WEs C es st1 (fun as st2 => WEs C (kws.map (·.value)) st2 (fun ks st3 => WCall C f (a :: as) (kwn kws) ks st3 Q))))
    (hs : es.all noStar = true := by rfl) (hk : kws.all (·.arg.isSome) = true := by rfl) (hb : attributeBase o name C.env (eval o C.env) = eval o C.env := by rfl)
    (hfew : methodCallForm (es.length + kws.length) (backTo pos (starEach es C.env)) (backToKw pos (keywordEach kws C.env)) = true := by rfl) (hline : (apos.endLine == pos.line) = true := by rfl) :
    WE C (.Call (.Attribute o name apos) es kws pos) st Q := fun I => by
  rw [arm_eval_Call, hb]
  refine WL.bind ((h I).mono (fun J v st1 _ hEl => ?_))
  obtain ⟨a, r, f, hf, hm, q⟩ := hEl
  refine WL.bind (WL.standAt ?_)
  unfold methodCall
  rw [hfew]
  have hpos : methodCallPos true o C.env apos pos = pure pos := by unfold methodCallPos; simp [hline]
  rw [hpos]
  refine WL.bind (WL.holding fun KF s S => ?_)
  refine hm J v KF s _ _ _ r S fun tk => ⟨J, st1, .refl J, S.toks tk, ?_⟩
  refine WL.bind (WL.pure ?_)
  exact callWith_W (fst := [a]) ok hf (.cons r .nil) q hs hk

/-- an attribute is read -/
noncomputable def WAttr (C : Cx) (a : CV) (name : Str) (st : CSt) (Q : CV → CSt → Prop) : Prop := W1 C (fun v => getAttr v name true) a st Q
theorem WE.attr {x : Str} {px pos : Pos} {name : Str} (h : WE C (.Name x px) st (fun a st1 => WAttr C a name st1 Q)) : WE C (.Attribute (.Name x px) name pos) st Q := fun I => by
  simp only [arm_eval_Attribute]
  refine WL.bind ((h I).mono (fun J v st1 _ hh => hh.use fun a r q => ?_))
  refine WL.bind (WL.standAt (WL.bind (WL.holding ((q J v r).mono (fun J2 u st2 l2 hh => hh.use fun b r2 q2 => ?_)))))
  exact WL.bind (WL.pure (WL.pure ⟨b, r2, q2⟩))
end
end Mine
open PySem PySem.W PySem.Calls PyProof.Rows
set_option Elab.async false
set_option linter.all false
set_option maxRecDepth 100000
set_option genSizeOf false
namespace Mine

theorem isStr_key (x y : Str) (t : Tok) : Value.isStr (.str y t) x = decide (y = x) := by
  show (y == x) = _
  by_cases h : y = x <;> rfl
theorem keyHash_eq (w : World) (x : Str) : PyData.keyHash w.params x = hashStr w x := rfl

theorem ERs.getL_some {w : World} {I : IM} {name : Str} {c : CV} : ∀ {es : List (Str × CV)} {ds : List DictEntry}, ERs w I es ds → es.lookup name = some c → ∃ v, getL name ds = some (some v) ∧ VR I c v
  | [], ds, r, h => by cases h
  | (k, u) :: es, ds, r, h => by
    simp only [ERs] at r
    (refine el_2_1 r fun d ds' xEl2 rEl => ?_; try clear r; obtain rfl := xEl2; (refine el_0_2 rEl fun h1 yEl1 sEl => ?_; try clear rEl; obtain ⟨t, h2⟩ := yEl1; obtain ⟨h3, h4⟩ := sEl))
    unfold getL
    simp only [List.find?_cons, h2, isStr_key]
    simp only [List.lookup_cons] at h
    by_cases q : k = name
    · subst q; simp at h; subst h; simpa using h3
    · have q' : (name == k) = false := by simpa using Ne.symm q
      rw [q'] at h
      (refine el_1_1 (ERs.getL_some h4 h) fun v e1 e2 => ?_)
      refine (in_1_1 v ?_ e2)
      unfold getL at e1
      simp only [decide_eq_false q]
      revert e1
      cases hf : List.find? (fun x => x.key.isStr name) ds' with
      | some e => exact id
      | none =>
        dsimp only
        intro e1
        split at e1 <;> cases e1
theorem ERs.noRef {w : World} {I : IM} : ∀ {es : List (Str × CV)} {ds : List DictEntry}, ERs w I es ds → ds.any (·.refKey) = false
  | [], ds, r => by simp only [ERs] at r; subst r; rfl
  | (k, u) :: es, ds, r => by
    simp only [ERs] at r
    (refine el_2_1 r fun d ds' xEl2 rEl => ?_; try clear r; obtain rfl := xEl2; (refine el_0_2 rEl fun h1 yEl1 sEl => ?_; try clear rEl; obtain ⟨t, h2⟩ := yEl1; obtain ⟨h3, h4⟩ := sEl))
    simp only [List.any_cons, ERs.noRef h4, Bool.or_false]
    show DictEntry.refKey d = false
    unfold DictEntry.refKey
    rw [h2]
theorem ERs.noKey {w : World} {I : IM} {name : Str} : ∀ {es : List (Str × CV)} {ds : List DictEntry}, ERs w I es ds → es.lookup name = none → ds.any (·.key.isStr name) = false
  | [], ds, r, _ => by simp only [ERs] at r; subst r; rfl
  | (k, u) :: es, ds, r, h => by
    simp only [ERs] at r
    (refine el_2_1 r fun d ds' xEl2 rEl => ?_; try clear r; obtain rfl := xEl2; (refine el_0_2 rEl fun h1 yEl1 sEl => ?_; try clear rEl; obtain ⟨t, h2⟩ := yEl1; obtain ⟨h3, h4⟩ := sEl))
    simp only [List.lookup_cons] at h
    by_cases q : k = name
    · subst q; simp at h
    · have q' : (name == k) = false := by simpa using Ne.symm q
      rw [q'] at h
      simp only [List.any_cons, ERs.noKey h4 h, h2, isStr_key, decide_eq_false q]; rfl
theorem ERs.getL_none {w : World} {I : IM} {name : Str} {es : List (Str × CV)} {ds : List DictEntry} (r : ERs w I es ds) (h : es.lookup name = none) : getL name ds = some none := by
  unfold getL
  have h1 := r.noKey h
  have : ds.find? (fun x => x.key.isStr name) = none := by
    rw [List.find?_eq_none]
    intro d hd
    have := List.any_eq_false.mp h1 d hd
    simpa using this
  rw [this]
  dsimp only
  rw [r.noRef, if_neg (by decide)]

/-- a name is laid in a dict -/
noncomputable def aput : List (Str × CV) → Str → CV → List (Str × CV)
  | [], k, c => [(k, c)]
  | (k', v) :: es, k, c => if k' = k then (k', c) :: es else (k', v) :: aput es k c
theorem ERs.put {w : World} {I : IM} {name : Str} {c : CV} {v : Value} {t : Tok} (rv : VR I c v) : ∀ {es : List (Str × CV)} {ds : List DictEntry}, ERs w I es ds → ERs w I (aput es name c) (putL name (hashStr w name) (.str name t) v ds)
  | [], ds, r => by simp only [ERs] at r; subst r; simp only [aput, putL, ERs]; exact (in_2_4 _ ([]) rfl rfl (in_1_0 t rfl) rv rfl)
  | (k, u) :: es, ds, r => by
    simp only [ERs] at r
    (refine el_2_1 r fun d ds' xEl2 rEl => ?_; try clear r; obtain rfl := xEl2; (refine el_0_2 rEl fun h1 yEl1 sEl => ?_; try clear rEl; obtain ⟨t', h2⟩ := yEl1; obtain ⟨h3, h4⟩ := sEl))
    simp only [aput, putL]
    rw [h2, isStr_key]
    by_cases q : k = name
    · rw [if_pos q, if_pos (by simpa using q)]
      simp only [ERs]
      exact (in_2_4 _ _ rfl h1 (in_1_0 t' rfl) rv h4)
    · rw [if_neg q, if_neg (by simpa using q)]
      simp only [ERs]
      exact (in_2_4 _ _ rfl h1 (in_1_0 t' h2) h3 (ERs.put rv h4))

theorem VR.handed {I : IM} {c : CV} {v : Value} (r : VR I c v) (h : ∀ u, c ≠ .raw u) : handedIn v = true := by
  cases c <;> simp only [VR] at r <;> first | (subst r; rfl) | ((refine el_1_0 r fun _ xEl1 => ?_; try clear r; obtain rfl := xEl1); rfl) | ((refine el_3_1 r fun _ _ _ xEl3 _ => ?_; try clear r; obtain rfl := xEl3); rfl) | (obtain ⟨_, _, rfl, _⟩ := r; rfl) | ((refine el_4_1 r fun _ _ _ _ xEl4 _ => ?_; try clear r; obtain rfl := xEl4); rfl) | (exact absurd rfl (h _)) | skip

/-- what is known of a class of the text -/
structure ClsOk (K : Frag) (cl : Addr) : Prop where
  get : plainGet K cl "" = true
  dict : hasDictIn K cl = true
  over : plainOver K cl = true
  set : findIn K (.ref cl) "__setattr__" = some (some (.builtin "object.__setattr__"))
  makes : makesIn K cl = true

section
variable {C : Cx} {dep : Nat} {KF I : IM} {st : CSt} {s : Shared} {Q : CV → CSt → Prop}

theorem inst_at {x d cl : Addr} {es : List (Str × CV)} (S : SR C KF I st s) (hx : st.H x = some (.inst cl d)) (hd : st.H d = some (.dict es)) :
    ∃ ds n, InstAt s.heap x (instObj cl d) cl (some (dictOf ds n)) ∧ ERs C.w I es ds ∧ s.heap.get? d = some (dictOf ds n) := by
  (refine el_0_2 (S.mu x _ hx) fun _ _ rEl => ?_; (refine el_1_1 rEl fun ox h1 h2 => ?_; try clear rEl))
  (refine el_0_2 (S.mu d _ hd) fun _ _ rEl => ?_; (refine el_1_1 rEl fun od h3 sEl => ?_; try clear rEl; obtain ⟨n, ds, h4, h5⟩ := sEl))
  subst h4
  simp only [OR] at h2
  subst h2
  refine (in_2_2 ds.toList n ⟨h1, rfl, rfl, ?_⟩ h5 ?_)
  · show s.heap.get? d = some _; rw [h3]
  · rw [h3]

theorem WAttr.inst {x d cl : Addr} {es : List (Str × CV)} {name : Str} {c : CV} {attr : Option Value} (ok : C.Ok dep) (hc : ClsOk C.K cl) (hx : st.H x = some (.inst cl d)) (hd : st.H d = some (.dict es)) (hl : es.lookup name = some c)
    (ha : findIn C.K (.ref cl) name = some attr) (hn : noGet C.K attr = true) (hr : ∀ u, c ≠ .raw u) (h : Q c st) : WAttr C (.loc x) name st Q := fun I v r KF s S => by
  simp only [VR] at r; subst r
  (refine el_2_2 (inst_at S hx hd) fun ds n hi he _ => ?_)
  (refine el_1_1 (he.getL_some hl) fun v hv rv => ?_)
  exact get_value (S.kin ok) hi (plainGet_of hc.get).1 (findObj_own hc.dict ha hn (by simp only [lookIn_dict]; exact hv)) (rv.handed hr) ⟨I, st, .refl I, S.toks _, c, rv, h⟩

theorem WMeth.inst {x d cl f : Addr} {es : List (Str × CV)} {name : Str} (ok : C.Ok dep) (hc : ClsOk C.K cl) (hx : st.H x = some (.inst cl d)) (hd : st.H d = some (.dict es)) (hl : es.lookup name = none)
    (hf : findIn C.K (.ref cl) name = some (some (.ref f))) (ht : typeIn C.K (.ref f) = some (.type "function")) : WMeth C (.loc x) name (.ref f) st := fun I v KF s pl E Q r S q => by
  simp only [VR] at r; subst r
  (refine el_2_2 (inst_at S hx hd) fun ds n hi he _ => ?_)
  refine method_fn (S.kin ok) hi (plainGet_of hc.get).1 (plainGet_of hc.get).2 hf ht (by show (lookIn name (dictOf ds n)).map _ = _; simp only [lookIn_dict, he.getL_none hl]; rfl) ?_
  have := q s.toks; exact this

/-- an object's attribute is laid -/
theorem setattr_W {x d cl : Addr} {es : List (Str × CV)} {name : Str} {c : CV} {v : Value} {Q : CSt → Prop} (ok : C.Ok dep) (hc : ClsOk C.K cl) (hx : st.H x = some (.inst cl d)) (hd : st.H d = some (.dict es)) (ht : takerIn C.K cl name = some none) (hz : es.length ≤ 900)
    (r : VR I c v) (h : Q { st with H := hput st.H d (.dict (aput es name c)) }) : WL C (setAttr (.ref x) name v) I st (fun _ _ st' => Q st') := fun KF s S => by
  (refine el_2_2 (inst_at S hx hd) fun ds n hi he hD => ?_)
  refine set_plain (S.kin ok) hi hc.set ?_
  refine osa_open (s := { s with toks := s.toks + 1 }) (S.kin ok) hi hc.over ht fun b => ?_
  (refine el_1_1 (any_some hc.dict) fun cd hcd hd' => ?_)
  obtain ⟨hxo, _, _, -⟩ := hi
  have X0 := S.kin ok
  refine wpAny_bind (wpAny_pure (wpAny_bind (wpAny_bind (wpAny_loadPart hxo (wpAny_bind (Looks.here (s := { s with toks := s.toks + 1 }) (looks_clsIn X0 hcd) ?_))))))
  rw [hd']
  refine wpAny_pure (a := some d) (wpAny_bind (wpAny_pure (wpAny_bind ?_)))
  unfold nsSet
  refine wpAny_bind (wpAny_bind (wpAny_askSetting (wpAny_pure (wpAny_bind (wpAny_mkText (wpAny_bind (wpAny_loadPart hD ?_)))))))
  have hnr : (ds.toArray.any (·.refKey)) = false := by have := he.noRef; simpa using this
  have cnd : (!ds.toArray.any (·.key.isStr name) && ds.toArray.any (·.refKey)) = false := by rw [hnr, Bool.and_false]
  dsimp only
  rw [aRefKeyMayBeTheName_at, cnd]
  have e1 : Obj.putName name (PyData.keyHash C.w.params name) (.str name (s.toks + 1)) v (dictOf ds n) = dictOf (putL name (PyData.keyHash C.w.params name) (.str name (s.toks + 1)) v ds) (putN name ds n) := putName_dict _ _ _ _ _ _
  refine wpAny_updatePart hD ?_
  have D' : (s.heap.update d (Obj.putName name (PyData.keyHash C.w.params name) (.str name (s.toks + 1)) v)).get? d = some (dictOf (putL name (PyData.keyHash C.w.params name) (.str name (s.toks + 1)) v ds) (putN name ds n)) := by
    have := Heap.get?_update_self (Obj.putName name (PyData.keyHash C.w.params name) (.str name (s.toks + 1)) v) hD (by rw [e1]; rfl)
    rw [e1] at this; exact this
  have her := he.put (name := name) (t := s.toks + 1) r
  have hlen : (putL name (PyData.keyHash C.w.params name) (.str name (s.toks + 1)) v ds).length ≤ 1000 := by
    have h1 := her.length
    have h2 : ∀ es : List (Str × CV), (aput es name c).length ≤ es.length + 1 := by
      intro es
      induction es with
      | nil => simp [aput]
      | cons e es ih => obtain ⟨k, u⟩ := e; unfold aput; split <;> simp; omega +splitDisjunctions
    have h3 := h2 es
    simp only [keyHash_eq]; omega
  refine wpAny_bind (wpAny_lookBehind D' (pastItsLine_dict (by rw [List.size_toArray, sizeLine_eq]; (exact Nat.le_trans (by assumption) (by decide)))) ?_)
  refine wpAny_pure ?_
  refine ⟨I, _, .refl I, S.setH (tk := s.toks + 2) (c := .dict (aput es name c)) hd (fun b o hb e => ((Heap.SameBut.update s.heap d _).2 b hb).trans e) D' (in_2_1 _ _ rfl ?_), h⟩
  simp only [← keyHash_eq] at her
  simpa using her

theorem WA.attr {y : Str} {py pos : Pos} {name : Str} {c : CV} {Q : CSt → Prop} (ok : C.Ok dep)
    (h : WE C (.Name y py) st (fun a st1 => ∃ x d cl es, a = .loc x ∧ ClsOk C.K cl ∧ st1.H x = some (.inst cl d) ∧ st1.H d = some (.dict es) ∧ takerIn C.K cl name = some none ∧ es.length ≤ 900 ∧ Q { st1 with H := hput st1.H d (.dict (aput es name c)) })) :
    WA C (assign (.Attribute (.Name y py) name pos) C.env) c st Q := fun I v r => by
  show WL C (do
    let ov ← holding [v] (eval (.Name y py) C.env)
    standAt pos.atName
    holding [v, ov] (setAttr ov name v)
    release [v, ov] []) I st _
  refine WL.bind (WL.holding ((h I).mono (fun J u st1 l hEl => ?_)))
  obtain ⟨a, ra, q0⟩ := hEl
  (refine el_4_6 q0 fun x d cl es e hc hx hd ht hz q => ?_; try clear q0)
  subst e
  simp only [VR] at ra; subst ra
  refine WL.bind (WL.standAt (WL.bind (WL.holding ((setattr_W ok hc hx hd ht hz (r.mono l) q).mono (fun J2 _ st2 l2 q2 => ?_)))))
  exact fun KF s S => wpAny_release ⟨J2, st2, .refl _, S, q2⟩
end
end Mine
open PySem PySem.W PySem.Calls PyProof.Rows
set_option Elab.async false
set_option linter.all false
set_option maxRecDepth 100000
set_option genSizeOf false
namespace Mine

section
variable {C : Cx} {dep : Nat} {KF I : IM} {st : CSt} {s : Shared} {Q : CV → CSt → Prop}

/-- the context within a builtin's own call -/
noncomputable def Cx.at (C : Cx) (A : Around) : Cx := { C with A := A }
theorem SR.at_ {A : Around} (S : SR C KF I st s) : SR (C.at A) KF I st s := ⟨S.kle, S.low, S.same, S.base, S.imm, S.frs, S.own, S.mu, ⟨S.loc.ns, S.loc.cell, S.loc.free, S.loc.cells⟩⟩
theorem SR.back {A : Around} (S : SR (C.at A) KF I st s) : SR C KF I st s := ⟨S.kle, S.low, S.same, S.base, S.imm, S.frs, S.own, S.mu, ⟨S.loc.ns, S.loc.cell, S.loc.free, S.loc.cells⟩⟩
theorem Cx.Ok.at_ {A : Around} (ok : C.Ok (dep + 1)) (hh : A.handled = C.A.handled) (hd : A.depth ≤ C.A.depth + 1) (hu : A.units ≤ C.A.units + 5) : (C.at A).Ok dep := by
  refine ⟨ok.fun_, ok.gl, ok.bl, ok.K, ok.g, ok.b, ok.nolimit, ok.boot, hh.trans ok.hd, ?_, ?_, ok.cellInj, ok.cellNe, ok.lbase⟩
  · have := ok.units; show A.units + _ + _ < _; omega
  · have := ok.depth; show A.depth + _ + _ < _; omega

/-- a call as a piece of code -/
noncomputable def WCode (C : Cx) (f : Value) (args : List CV) (kn : List Str) (ks : List CV) (st : CSt) (Q : CV → CSt → Prop) : Prop :=
  ∀ I us vs, VRs I args us → VRs I ks vs → ∀ KF s, SR C KF I st s → codeAny (model C.prog C.w) C.A (.call f ⟨us, kn.zip vs⟩) (fun r s' => match r with
      | .ok (.ret v) => OkP C KF I s' fun I' st' => ValP I' v Q st'
      | .ok _ => False
      | .error e => ErP C KF I false e s') s
theorem cls_W {cl fI : Addr} {args ks : List CV} {kn : List Str} (ok : C.Ok (dep + 1)) (hc : ClsOk C.K cl) (hi : findIn C.K (.ref cl) "__init__" = some (some (.ref fI))) (hf : typeIn C.K (.ref fI) = some (.type "function"))
    (h : ∀ (A : Around) (x d : Addr), (C.at A).Ok dep → x ≠ d → st.H x = none → st.H d = none → WCode (C.at A) (.ref fI) (.loc x :: args) kn ks { st with H := hput (hput st.H d (.dict [])) x (.inst cl d) } (fun v st' => v = .none ∧ Q (.loc x) st')) :
    WCall C (.ref cl) args kn ks st Q := fun I us vs r1 r2 KF s S => by
  have X0 := S.kin ok
  obtain ⟨hp, g, dr, tk, os⟩ := s
  refine wpAny_call (make_core (makes_of X0 hc.makes) (looks_findIn X0 hi) (fun self => bind_fn X0 self hf) (.inl rfl) ?_)
  have ok2 : (C.at (C.A.under (.builtin "type.__call__" ⟨.ref cl :: us, kn.zip vs⟩))).Ok dep := ok.at_ rfl (by show C.A.depth + 1 ≤ _; (exact Nat.lt_succ_self _)) (by show C.A.units + 1 ≤ _; simp)
  -- the dict
  (refine el_0_1 (S.newH (o := emptyDict) (c := .dict []) rfl (in_2_1 0 (#[]) rfl rfl)) fun n1 S1 => ?_)
  (refine el_0_1 (S1.newH (o := instObj cl hp.objs.size) (c := .inst cl hp.objs.size) rfl rfl) fun n2 S2 => ?_)
  have hsz : (hp.push emptyDict).objs.size = hp.objs.size + 1 := Heap.size_push _ _
  have hne : hp.objs.size + 1 ≠ hp.objs.size := by simp
  change (hput st.H hp.objs.size (CO.dict [])) (hp.push emptyDict).objs.size = none at n2
  rw [hsz] at n2
  have n2' : st.H (hp.objs.size + 1) = none := by rwa [hput_ne hne] at n2
  have S3 : SR C KF I { st with H := hput (hput st.H hp.objs.size (.dict [])) (hp.objs.size + 1) (.inst cl hp.objs.size) } ⟨(hp.push emptyDict).push (instObj cl hp.objs.size), g, dr, tk, os⟩ := by
    have := S2
    change SR C KF I { st with H := hput (hput st.H hp.objs.size (.dict [])) (hp.push emptyDict).objs.size (.inst cl hp.objs.size) } _ at this
    rw [hsz] at this
    exact this
  have := h _ (hp.objs.size + 1) hp.objs.size ok2 hne n2' n1 I (.ref (hp.objs.size + 1) :: us) vs (.cons (by simp [VR]) r1) r2 KF _ S3.at_
  refine codeAny_mono this fun r s' hr => ?_
  cases r with
  | error e => exact hr.elim
  | ok f =>
    cases f with
    | ret v =>
      obtain ⟨I', st', l, S', b, rb, rfl, q⟩ := hr
      simp only [VR] at rb
      exact (in_0_1 rb ⟨I', st', l, S'.back, _, by simp [VR], q⟩)
    | _ => exact hr
end
end Mine
open PySem PySem.W PySem.Calls PyProof.Rows
set_option Elab.async false
set_option linter.all false
set_option maxRecDepth 100000
set_option genSizeOf false
namespace Mine
open SetTable

-- the full cycle of i ↦ 5i + 1 mod 2^m
noncomputable def it : Nat → Nat → Nat
  | 0, x => x
  | n + 1, x => it n (5 * x + 1)
theorem it_add : ∀ a b x, it (a + b) x = it a (it b x)
  | a, 0, x => rfl
  | a, b + 1, x => by show it (a + b + 1) x = _; show it (a + b) (5 * x + 1) = _; rw [it_add a b]; rfl
noncomputable def Bc : Nat → Nat
  | 0 => 1
  | m + 1 => Bc m * (2 + 4 * Bc m)
theorem it_pow : ∀ m x, it (2 ^ m) x = (1 + 4 * Bc m) * x + Bc m
  | 0, x => by show 5 * x + 1 = _; rfl
  | m + 1, x => by
    simp only [Nat.pow_succ, Nat.mul_two, it_add, it_pow m, it_pow m, Bc]
    generalize Bc m = b
    rw [show (1 + 4 * (b * (2 + 4 * b))) = (1 + 4 * b) * (1 + 4 * b) by
      simp only [Nat.mul_add, Nat.add_mul, Nat.mul_one, Nat.one_mul]
      rw [show b * (4 * b) = 4 * (b * b) by simp only [Nat.mul_left_comm], show 4 * b * (4 * b) = 16 * (b * b) by rw [Nat.mul_assoc, Nat.mul_left_comm b 4 b, ← Nat.mul_assoc]]
      omega]
    rw [Nat.mul_add, ← Nat.mul_assoc, Nat.add_assoc]
    congr 1
    rw [Nat.add_mul, Nat.one_mul, Nat.mul_add, show b * (4 * b) = 4 * b * b by rw [Nat.mul_comm b (4 * b)]]
    omega
theorem Bc_odd : ∀ m, ∃ c, Bc m = 2 ^ m * (2 * c + 1)
  | 0 => (in_1_0 0 rfl)
  | m + 1 => by
    (refine el_1_0 (Bc_odd m) fun c e => ?_)
    refine (in_1_0 (2 * c * Bc m + c + Bc m) ?_)
    simp only [Bc]
    have : 2 + 4 * Bc m = 2 * (1 + 2 * Bc m) := by omega
    rw [this, ← Nat.mul_assoc, Nat.mul_comm (Bc m) 2]
    conv => lhs; lhs; rw [e]
    rw [Nat.pow_succ, ← Nat.mul_assoc, Nat.mul_comm 2 (2 ^ m), Nat.mul_assoc]
    congr 1
    generalize Bc m = b
    simp only [Nat.mul_add, Nat.add_mul, Nat.mul_one, Nat.one_mul]
    have h1 : 2 * c * (2 * b) = 4 * (c * b) := by rw [Nat.mul_mul_mul_comm]
    have h2 : 2 * (2 * c * b) = 4 * (c * b) := by rw [Nat.mul_assoc, ← Nat.mul_assoc]
    rw [h1, h2]; omega
theorem it_mod (M : Nat) : ∀ n x, it n (x % M) % M = it n x % M
  | 0, x => by simp [it]
  | n + 1, x => by
    show it n (5 * (x % M) + 1) % M = it n (5 * x + 1) % M
    rw [← it_mod M n (5 * (x % M) + 1), ← it_mod M n (5 * x + 1)]
    congr 2
    simp [Nat.add_mod, Nat.mul_mod]
theorem cyc : ∀ m i j, i < 2 ^ m → j < 2 ^ m → ∃ n, n < 2 ^ m ∧ it n i % 2 ^ m = j
  | 0, i, j, hi, hj => (in_1_1 0 (by decide) (by simp [it] at *; omega))
  | m + 1, i, j, hi, hj => by
    (refine el_1_1 (cyc m (i % 2 ^ m) (j % 2 ^ m) (Nat.mod_lt _ (Nat.two_pow_pos m)) (Nat.mod_lt _ (Nat.two_pow_pos m))) fun n hn e => ?_)
    rw [it_mod] at e
    have hp := Nat.two_pow_pos m
    simp only [Nat.pow_succ] at hi hj ⊢
    generalize hz : it n i = z at e
    by_cases hj' : z % (2 ^ m * 2) = j
    · exact (in_1_1 n (by omega) (by rw [hz]; exact hj'))
    refine (in_1_1 (2 ^ m + n) (by omega) ?_)
    rw [it_add, hz, it_pow]
    (refine el_1_0 (Bc_odd m) fun c ec => ?_)
    have key : (1 + 4 * Bc m) * z + Bc m = z + 2 ^ m + (2 ^ m * 2) * (2 * ((2 * c + 1) * z) + c) := by
      rw [ec]
      generalize 2 ^ m = P
      rw [Nat.add_mul, Nat.one_mul, Nat.mul_add (P * 2), show 4 * (P * (2 * c + 1)) * z = P * 2 * (2 * ((2 * c + 1) * z)) by
        rw [show P * 2 * (2 * ((2 * c + 1) * z)) = P * 2 * 2 * ((2 * c + 1) * z) by rw [Nat.mul_assoc (P * 2)]]
        rw [← Nat.mul_assoc 4, ← Nat.mul_assoc (P * 2 * 2)]
        congr 2; omega]
      rw [Nat.mul_add P, Nat.mul_one, ← Nat.mul_assoc P 2 c]
      omega
    rw [key, Nat.add_mul_mod_self_left]
    have h1 : z % (2 ^ m * 2) % 2 ^ m = z % 2 ^ m := Nat.mod_mul_right_mod z (2 ^ m) 2
    have h2 : z % (2 ^ m * 2) < 2 ^ m * 2 := Nat.mod_lt _ (by (exact Nat.le_trans (Nat.le_add_left _ _) (by assumption)))
    rw [Nat.add_mod, Nat.mod_eq_of_lt (a := 2 ^ m) (b := 2 ^ m * 2) (by omega)]
    generalize z % (2 ^ m * 2) = y at *
    rw [e] at h1
    generalize 2 ^ m = P at *
    have a1 := Nat.div_add_mod y P
    have a2 := Nat.div_add_mod j P
    have b1 : y / P < 2 := by first | exact Nat.div_lt_of_lt_mul h2 | exact Nat.div_lt_of_lt_mul (by rw [Nat.mul_comm]; exact h2)
    have b2 : j / P < 2 := by first | exact Nat.div_lt_of_lt_mul hj | exact Nat.div_lt_of_lt_mul (by rw [Nat.mul_comm]; exact hj)
    rw [h1] at a1
    have c0 : ∀ u : Nat, u < 2 → u = 0 ∨ u = 1 := fun u h => by omega
    have c1 := c0 _ b1
    have c2 := c0 _ b2
    rcases c1 with c1 | c1 <;> rcases c2 with c2 | c2 <;> rw [c1] at a1 <;> rw [c2] at a2 <;> simp only [Nat.mul_zero, Nat.mul_one] at a1 a2
    · omega
    · rw [Nat.mod_eq_of_lt (by omega +splitDisjunctions)]; omega
    · rw [show y + P = j + P * 2 by omega, Nat.add_mod_right, Nat.mod_eq_of_lt (by omega +splitDisjunctions)]
    · omega

noncomputable def leaps (mask : Nat) : Nat → Nat × Nat → Nat × Nat
  | 0, p => p
  | n + 1, p => leaps mask n (leap mask p.1 p.2)
theorem leaps_add (mask : Nat) : ∀ a b p, leaps mask (a + b) p = leaps mask b (leaps mask a p)
  | 0, b, p => by rw [Nat.zero_add]; rfl
  | a + 1, b, p => by rw [show a + 1 + b = a + b + 1 by (exact Nat.add_right_comm _ _ _)]; show leaps mask (a + b) _ = _; rw [leaps_add mask a b]; rfl
theorem leaps_snd (mask : Nat) : ∀ n p, (leaps mask n p).2 = p.2 / 32 ^ n
  | 0, p => by simp [leaps]
  | n + 1, p => by
    show (leaps mask n (leap mask p.1 p.2)).2 = _
    rw [leaps_snd mask n]
    show p.2 / 32 / 32 ^ n = _
    simp only [Nat.div_div_eq_div_mul, Nat.pow_succ, Nat.mul_comm]
theorem leaps_lt (mask : Nat) : ∀ n p, p.1 ≤ mask → (leaps mask n p).1 ≤ mask
  | 0, p, h => h
  | n + 1, p, h => leaps_lt mask n _ (by show (_ % (mask + 1)) ≤ mask; have := Nat.mod_lt (p.1 * 5 + 1 + p.2 / 32) (show mask + 1 > 0 by (exact Nat.zero_lt_succ _)); (exact Nat.le_of_lt_succ (by assumption)))
theorem leaps_zero (mask : Nat) : ∀ n i, (leaps mask n (i, 0)) = (if n = 0 then i else it n i % (mask + 1), 0)
  | 0, i => rfl
  | n + 1, i => by
    show leaps mask n ((i * 5 + 1 + 0 / 32) % (mask + 1), 0 / 32) = _
    rw [show (0 : Nat) / 32 = 0 from rfl, leaps_zero mask n, if_neg (show n + 1 ≠ 0 by omega)]
    have e : (if n = 0 then (i * 5 + 1 + 0) % (mask + 1) else it n ((i * 5 + 1 + 0) % (mask + 1)) % (mask + 1)) = it n (5 * i + 1) % (mask + 1) := by
      by_cases h : n = 0
      · subst h; rw [if_pos rfl]; simp [it, Nat.mul_comm]
      · rw [if_neg h, it_mod, Nat.mul_comm, Nat.add_zero]
    rw [e]; rfl
theorem leaps_hit {m mask : Nat} (hm : mask + 1 = 2 ^ m) {i pt e : Nat} (hi : i ≤ mask) (hp : pt < 2 ^ 64) (he : e ≤ mask) : ∃ n, n ≤ mask + 13 ∧ (leaps mask n (i, pt)).1 = e := by
  have h0 : (leaps mask 13 (i, pt)).2 = 0 := by rw [leaps_snd]; exact Nat.div_eq_of_lt (Nat.lt_trans hp (by decide))
  have h1 : (leaps mask 13 (i, pt)).1 ≤ mask := leaps_lt mask 13 (i, pt) hi
  generalize hq : leaps mask 13 (i, pt) = q at h0 h1
  obtain ⟨a, b⟩ := q
  simp only at h0 h1
  subst h0
  (refine el_1_1 (cyc m a e (by omega) (by omega)) fun n hn hc => ?_)
  refine (in_1_1 (13 + n) (by omega) ?_)
  rw [leaps_add, hq, leaps_zero]
  show (if n = 0 then a else it n a % (mask + 1)) = e
  split
  · rename_i h; subst h; rw [← hc]; show a = a % _; rw [Nat.mod_eq_of_lt (by omega +splitDisjunctions)]
  · rw [hm]; exact hc

-- below
theorem below_go {xs : Array Nat} {j : Nat} (hR : Rise xs) : ∀ fuel lo hi, hi ≤ xs.size → hi - lo ≤ fuel → lo ≤ hi → (∀ i, i < lo → xs.getD i 0 < j) → (∀ i, hi ≤ i → i < xs.size → j ≤ xs.getD i 0) →
    below.go xs j fuel lo hi ≤ xs.size ∧ (∀ i, i < below.go xs j fuel lo hi → xs.getD i 0 < j) ∧ (∀ i, below.go xs j fuel lo hi ≤ i → i < xs.size → j ≤ xs.getD i 0)
  | 0, lo, hi, h1, h2, h3, h4, h5 => by
    unfold below.go
    exact (in_0_2 (by (exact Nat.le_trans (by assumption) (by assumption))) h4 (fun i hi' => h5 i (by omega)))
  | fuel + 1, lo, hi, h1, h2, h3, h4, h5 => by
    unfold below.go
    by_cases hlt : lo < hi
    · rw [if_pos hlt]
      dsimp only
      have m1 : lo ≤ (lo + hi) / 2 := by omega
      have m2 : (lo + hi) / 2 < hi := by omega
      generalize (lo + hi) / 2 = m at m1 m2 ⊢
      have m3 : m < xs.size := Nat.lt_of_lt_of_le m2 h1
      rw [show xs.getD m j = xs.getD m 0 by simp [Array.getD, m3]]
      by_cases hm : xs.getD m 0 < j
      · rw [if_pos hm]
        refine below_go hR fuel _ hi h1 (by omega) m2 (fun i hi' => ?_) h5
        by_cases he : i = m
        · rw [he]; exact hm
        · exact Nat.lt_trans (hR i m (Nat.lt_of_le_of_ne (Nat.le_of_lt_succ hi') he) m3) hm
      · rw [if_neg hm]
        refine below_go hR fuel lo _ (Nat.le_of_lt m3) (by omega) m1 h4 (fun i hi' hs => ?_)
        by_cases he : i = m
        · rw [he]; exact Nat.not_lt.mp hm
        · exact Nat.le_trans (Nat.not_lt.mp hm) (Nat.le_of_lt (hR m i (Nat.lt_of_le_of_ne hi' (Ne.symm he)) hs))
    · rw [if_neg hlt]
      exact (in_0_2 (by (exact Nat.le_trans (by assumption) (by assumption))) h4 (fun i hi' => h5 i (by omega)))
theorem below_spec {xs : Array Nat} (hR : Rise xs) (j : Nat) : below xs j ≤ xs.size ∧ (∀ i, i < below xs j → xs.getD i 0 < j) ∧ (∀ i, below xs j ≤ i → i < xs.size → j ≤ xs.getD i 0) :=
  below_go hR xs.size 0 xs.size (Nat.le_refl _) (by (exact Nat.sub_le _ _)) (by simp) (fun i h => by (exact absurd (by assumption) (Nat.not_lt_zero _))) (fun i h h' => by (exact absurd (by assumption) (Nat.not_lt_of_le (by assumption))))

theorem getD_eq {xs : Array Nat} {i : Nat} (h : i < xs.size) : xs[i]? = some (xs.getD i 0) := by
  simp [Array.getD, h]
/-- a table with no dummies: a slot is live or empty -/
theorem slot_cases {t : SetTable} (hR : Rise t.place) (hd : t.dummies = #[]) (j : Nat) :
    (t.slot j = .empty ∧ ∀ i, i < t.place.size → t.place.getD i 0 ≠ j) ∨ (∃ i, t.slot j = .live i ∧ i < t.place.size ∧ t.place.getD i 0 = j) := by
  (refine el_0_2 (below_spec hR j) fun h1 h2 h3 => ?_)
  by_cases hb : t.place[below t.place j]? = some j
  · refine .inr (in_1_1 (below t.place j) ?_ ?_)
    · simp [slot, hb]
    · have hlt : below t.place j < t.place.size := by
        by_cases hl : below t.place j < t.place.size
        · exact hl
        · rw [Array.getElem?_eq_none (by (exact Nat.le_of_not_lt (by assumption)))] at hb; cases hb
      rw [getD_eq hlt] at hb
      exact ⟨hlt, Option.some.inj hb⟩
  · refine .inl ⟨?_, fun i hi he => ?_⟩
    · have : (t.place[below t.place j]? == some j) = false := by simpa using hb
      have hh : SetTable.has (#[] : Array Nat) j = false := by rfl
      simp [slot, this, hd, hh]
    · have a1 : ¬ i < below t.place j := fun h => by have := h2 i h; omega
      have a2 : ¬ below t.place j < i := fun h => by
        have h4 := h3 (below t.place j) (Nat.le_refl _) (by (exact Nat.lt_trans (by assumption) (by assumption)))
        have := hR _ i h hi
        omega +splitDisjunctions
      have : i = below t.place j := by omega
      subst this
      rw [getD_eq hi, he] at hb
      exact hb rfl
theorem slot_empty {t : SetTable} (hR : Rise t.place) (hd : t.dummies = #[]) {j : Nat} (h : ∀ i, i < t.place.size → t.place.getD i 0 ≠ j) : t.slot j = .empty := by
  (refine Or.elim (slot_cases hR hd j) (fun h' => ?aElo) (fun xElo => ?bElo); (case' bElo => (refine el_1_2 xElo fun i _ h1 h2 => ?_; try clear xElo)); (case' aElo => skip))
  · exact h'.1
  · exact absurd h2 (h i h1)

-- the probe
inductive Near (t : SetTable) : Nat → Probe → Prop
  | here {n : Nat} {p : Probe} : t.slot p.j = .empty → Near t n p
  | step {n : Nat} {p : Probe} : Near t n (t.advance p) → Near t (n + 1) p
theorem Near.mono {t : SetTable} {a b : Nat} {p : Probe} (h : Near t a p) : a ≤ b → Near t b p := by
  induction h generalizing b with
  | here h => exact fun _ => .here h
  | @step n p h ih => intro hb; obtain ⟨c, rfl⟩ : ∃ c, b = c + 1 := (in_1_0 (b - 1) (by omega)); exact .step (ih (by (exact Nat.le_of_lt_succ (by assumption))))
noncomputable def PInv (t : SetTable) (p : Probe) : Prop := p.j + p.more ≤ t.mask ∧ p.dummy = none
theorem runEnd_le {mask i : Nat} (h : i ≤ mask) : runEnd mask i ≤ mask ∧ i ≤ runEnd mask i ∧ runEnd mask i ≤ i + 9 := by
  unfold runEnd; split <;> omega
theorem PInv.adv {t : SetTable} {p : Probe} (h : PInv t p) : PInv t (t.advance p) := by
  unfold advance
  split
  · exact ⟨by show p.j + 1 + (p.more - 1) ≤ _; have := h.1; omega, h.2⟩
  · have hm : (leap t.mask p.i p.perturb).1 ≤ t.mask := by
      show _ % _ ≤ _; have := Nat.mod_lt (p.i * 5 + 1 + p.perturb / 32) (show t.mask + 1 > 0 by (exact Nat.zero_lt_succ _)); (exact Nat.le_of_lt_succ (by assumption))
    have := runEnd_le hm
    exact ⟨by show (leap t.mask p.i p.perturb).1 + (runEnd t.mask (leap t.mask p.i p.perturb).1 - (leap t.mask p.i p.perturb).1) ≤ _; omega, h.2⟩
theorem go_near {t : SetTable} (hR : Rise t.place) (hd : t.dummies = #[]) (hashAt : Nat → Int) (h : Int) : ∀ fuel n p, Near t n p → PInv t p → n < fuel →
    (∃ j, probe.go t hashAt h fuel p = some (.empty j none) ∧ t.slot j = .empty ∧ j ≤ t.mask) ∨
    (∃ j i next m, probe.go t hashAt h fuel p = some (.candidate j i next) ∧ t.slot j = .live i ∧ hashAt i = h ∧ i < t.place.size ∧ Near t m next ∧ m < n ∧ PInv t next)
  | 0, n, p, _, _, hn => by (exact absurd (by assumption) (Nat.not_lt_zero _))
  | fuel + 1, n, p, hN, hI, hn => by
    unfold probe.go
    (refine Or.elim (slot_cases hR hd p.j) (fun h1 => ?aElo) (fun xElo => ?bElo); (case' bElo => (refine el_1_2 xElo fun i h1 h2 h3 => ?_; try clear xElo)); (case' aElo => skip))
    · rw [h1.1]
      exact .inl (in_1_2 p.j (by simp [hI.2]) h1.1 (by have := hI.1; (exact Nat.le_trans (Nat.le_add_right _ _) (by assumption))))
    · rw [h1]
      dsimp only
      cases hN with
      | here he => rw [h1] at he; cases he
      | @step n _ hN =>
        by_cases hh : hashAt i = h
        · rw [if_pos (by simpa using hh)]
          exact .inr (in_4_6 p.j i _ n rfl h1 hh h2 hN (by (exact Nat.lt_succ_self _)) hI.adv)
        · rw [if_neg (by simpa using hh)]
          rcases go_near hR hd hashAt h fuel n _ hN hI.adv (by omega) with a | ⟨j, i, next, m, e, a1, a2, a3, a4, a5, a6⟩
          · exact .inl a
          · exact .inr (in_4_6 j i next m e a1 a2 a3 a4 (by (exact Nat.lt_succ_of_lt (by assumption))) a6)

noncomputable def rs (t : SetTable) (i pt : Nat) : Probe := { j := i, more := runEnd t.mask i - i, i, perturb := pt, dummy := none }
theorem near_run {t : SetTable} {N : Nat} : ∀ (m j i pt : Nat), Near t N (rs t (leap t.mask i pt).1 (leap t.mask i pt).2) → Near t (N + m + 1) { j := j, more := m, i := i, perturb := pt, dummy := none }
  | 0, j, i, pt, h => by refine .step ?_; simpa [advance, rs] using h
  | m + 1, j, i, pt, h => by
    refine .step ?_
    have := near_run m (j + 1) i pt h
    have e : t.advance { j := j, more := m + 1, i := i, perturb := pt, dummy := none } = { j := j + 1, more := m, i := i, perturb := pt, dummy := none } := by rfl
    rw [e]; exact this
theorem near_leaps {t : SetTable} : ∀ (n i pt : Nat), i ≤ t.mask → t.slot (leaps t.mask n (i, pt)).1 = .empty → Near t (10 * n) (rs t i pt)
  | 0, i, pt, hi, h => .here h
  | n + 1, i, pt, hi, h => by
    have hl : (leap t.mask i pt).1 ≤ t.mask := leaps_lt t.mask 1 (i, pt) hi
    have := near_leaps n (leap t.mask i pt).1 (leap t.mask i pt).2 hl h
    have hr := runEnd_le hi
    exact (near_run (runEnd t.mask i - i) i i pt this).mono (by omega)

theorem exists_free {n M : Nat} (f : Nat → Nat) (h : n < M) : ∃ e, e < M ∧ ∀ i, i < n → f i ≠ e := by
  refine Classical.byContradiction fun hc => ?_
  have hc' : ∀ e, e < M → ∃ i, i < n ∧ f i = e := fun e he => Classical.byContradiction fun h2 => hc (in_1_1 e he (fun i hi he' => h2 (in_1_1 i hi he')))
  have hs : (List.range M) ⊆ ((List.range n).map f) := fun e he => by
    (refine el_1_1 (hc' e (List.mem_range.mp he)) fun i hi hf => ?_)
    exact List.mem_map.mpr (in_1_1 i (List.mem_range.mpr hi) hf)
  have := List.Nodup.length_le_of_subset List.nodup_range hs
  simp at this
  (exact absurd (by assumption) (Nat.not_lt_of_le (by assumption)))
end Mine
open PySem PySem.W PySem.Calls PyProof.Rows
set_option Elab.async false
set_option linter.all false
set_option maxRecDepth 100000
set_option genSizeOf false
namespace Mine
open SetTable

theorem sizeAbove_go (n : Nat) : ∀ fuel size, 0 < size → n < size * 2 ^ fuel → ∃ k, sizeAbove.go n fuel size = size * 2 ^ k ∧ n < size * 2 ^ k ∧ (k = 0 ∨ size * 2 ^ k ≤ 2 * n)
  | 0, size, h0, h => (in_1_2 0 (by simp [sizeAbove.go]) (by simpa using h) (.inl rfl))
  | fuel + 1, size, h0, h => by
    unfold sizeAbove.go
    by_cases hs : size ≤ n
    · rw [if_pos hs]
      (refine el_1_2 (sizeAbove_go n fuel (size * 2) (by omega) (by simp only [Nat.pow_succ] at h; rwa [Nat.mul_assoc, Nat.mul_comm 2])) fun k e h1 h2 => ?_)
      have e2 : size * 2 * 2 ^ k = size * 2 ^ (k + 1) := by simp only [Nat.pow_succ, Nat.mul_assoc, Nat.mul_comm 2]
      refine (in_1_2 (k + 1) (by rw [e, e2]) (by rw [← e2]; exact h1) (.inr ?_))
      rcases h2 with rfl | h2
      · simp; omega
      · rw [← e2]; exact h2
    · rw [if_neg hs]
      exact (in_1_2 0 (by simp) (by simp; (exact Nat.lt_of_not_le (by assumption))) (.inl rfl))
theorem sizeAbove_spec {n : Nat} (h : n < 100000) : ∃ k, sizeAbove n = 8 * 2 ^ k ∧ n < 8 * 2 ^ k ∧ (k = 0 ∨ 8 * 2 ^ k ≤ 2 * n) := by
  unfold sizeAbove
  exact sizeAbove_go n 64 8 (by decide) (Nat.lt_trans h (by decide))

theorem free_some {mask m : Nat} (hm : mask + 1 = 2 ^ m) {owner : Array (Option Nat)} (hs : owner.size = mask + 1) : ∀ n fuel i pt, n < fuel → i ≤ mask → (owner.getD (leaps mask n (i, pt)).1 (some 0)) = none →
    ∃ j, layClean.free mask owner fuel i pt = some j ∧ j ≤ mask ∧ owner.getD j (some 0) = none
  | n, 0, i, pt, h, _, _ => by (exact absurd (by assumption) (Nat.not_lt_zero _))
  | n, fuel + 1, i, pt, h, hi, he => by
    unfold layClean.free
    have hr := runEnd_le hi
    cases hf : (List.range (runEnd mask i + 1 - i)).find? (fun k => (owner.getD (i + k) (some 0)).isNone) with
    | some k =>
      dsimp only
      have h1 := List.find?_some hf
      have h2 := List.mem_range.mp (List.mem_of_find?_eq_some hf)
      exact (in_1_2 (i + k) rfl (by omega) (by simpa using h1))
    | none =>
      dsimp only
      cases n with
      | zero =>
        exfalso
        have := List.find?_eq_none.mp hf 0 (List.mem_range.mpr (by omega))
        simp [leaps] at he this
        exact this he
      | succ n =>
        exact free_some hm hs n fuel _ _ (by (exact Nat.lt_of_succ_lt_succ (by assumption))) (leaps_lt mask 1 (i, pt) hi) he

theorem bits_lt (h : Int) : bits h < 2 ^ 64 := by unfold bits; omega

theorem filterMap_set {k : Nat} : ∀ (l : List (Option Nat)) (j : Nat), l[j]? = some none → ((l.set j (some k)).filterMap id).Perm (k :: l.filterMap id)
  | [], j, h => by simp at h
  | x :: l, 0, h => by
    simp at h; subst h; rfl
  | x :: l, j + 1, h => by
    simp at h
    have := filterMap_set (k := k) l j h
    cases x with
    | none => simpa using this
    | some a =>
      simp only [List.set_cons_succ, List.filterMap_cons, id]
      exact (this.cons a).trans (List.Perm.swap _ _ _)
theorem exists_none : ∀ (l : List (Option Nat)), (l.filterMap id).length < l.length → ∃ j, j < l.length ∧ l[j]? = some none
  | [], h => by simp at h
  | none :: l, h => (in_1_1 0 (by simp) rfl)
  | some a :: l, h => by
    (refine el_1_1 (exists_none l (by simp only [List.filterMap_cons, id, List.length_cons] at h; (exact Nat.lt_of_succ_lt_succ (by assumption)))) fun j h1 h2 => ?_)
    exact (in_1_1 (j + 1) (by simpa using h1) (by simpa using h2))

theorem layClean_go {mask m : Nat} (hm : mask + 1 = 2 ^ m) : ∀ (hs : List Int) (owner : Array (Option Nat)) (k : Nat), owner.size = mask + 1 → (owner.toList.filterMap id).Perm (List.range k) → k + hs.length ≤ mask →
    ∃ owner', hs.foldl (init := some (owner, k)) (fun acc h => do
    let (owner, k) ← acc
    let j ← layClean.free mask owner (turns mask) (bits h % (mask + 1)) (bits h)
    pure (owner.setIfInBounds j (some k), k + 1)) = some (owner', k + hs.length) ∧ owner'.size = mask + 1 ∧ (owner'.toList.filterMap id).Perm (List.range (k + hs.length))
  | [], owner, k, h1, h2, h3 => (in_1_2 owner rfl h1 h2)
  | h :: hs, owner, k, h1, h2, h3 => by
    simp only [List.length_cons] at h3
    (refine el_1_1 (exists_none owner.toList (by rw [h2.length_eq]; simp; omega)) fun e he1 he2 => ?_)
    have hi : bits h % (mask + 1) ≤ mask := by have := Nat.mod_lt (bits h) (show mask + 1 > 0 by (exact Nat.zero_lt_succ _)); (exact Nat.le_of_lt_succ (by assumption))
    have hee : e ≤ mask := by simp [h1] at he1; (exact Nat.le_of_lt_succ (by assumption))
    (refine el_1_1 (leaps_hit hm hi (bits_lt h) hee) fun n hn hn' => ?_)
    obtain ⟨j, hj, hj1, hj2⟩ := free_some hm h1 n (turns mask) (bits h % (mask + 1)) (bits h) (by unfold turns; omega) hi (by
      rw [hn']
      have : owner[e]? = some none := by simpa using he2
      simp [Array.getD_eq_getD_getElem?, this])
    have hjn : owner.toList[j]? = some none := by
      have hlt : j < owner.size := by omega
      have : owner[j]? = some none := by
        simp [Array.getD, hlt] at hj2
        simp [hlt, hj2]
      simpa using this
    have hp : ((owner.setIfInBounds j (some k)).toList.filterMap id).Perm (List.range (k + 1)) := by
      rw [Array.toList_setIfInBounds, List.range_succ]
      exact (filterMap_set _ _ hjn).trans ((h2.cons k).trans (List.perm_append_singleton _ _).symm)
    (refine el_1_2 (layClean_go hm hs (owner.setIfInBounds j (some k)) (k + 1) (by simpa using h1) hp (by omega)) fun owner' e1 e2 e3 => ?_)
    refine (in_1_2 owner' ?_ e2 (by simpa [Nat.add_assoc, Nat.add_comm 1] using e3))
    simp only [List.foldl_cons]
    have : (do
        let (owner, k) ← some (owner, k)
        let j ← layClean.free mask owner (turns mask) (bits h % (mask + 1)) (bits h)
        pure (owner.setIfInBounds j (some k), k + 1) : Option (Array (Option Nat) × Nat)) = some (owner.setIfInBounds j (some k), k + 1) := by simp [hj]
    rw [this, e1]
    simp [Nat.add_assoc, Nat.add_comm 1]

theorem filterMap_range_get (l : List (Option Nat)) : (List.range l.length).filterMap (fun j => l.getD j none) = l.filterMap id := by
  induction l with
  | nil => rfl
  | cons x l ih =>
    rw [List.length_cons, List.range_succ_eq_map, List.filterMap_cons, List.filterMap_map]
    have : ((fun j => (x :: l).getD j none) ∘ Nat.succ) = fun j => l.getD j none := by funext j; rfl
    rw [this, ih]
    cases x <;> rfl
theorem rise_of_pairwise {l : List Nat} (h : l.Pairwise (· < ·)) : Rise l.toArray := fun i j hij hj => by
  simp at hj
  have := List.pairwise_iff_getElem.mp h i j (by (exact Nat.lt_trans (by assumption) (by assumption))) hj hij
  simpa [Array.getD, hj, show i < l.length by (exact Nat.lt_trans (by assumption) (by assumption))] using this

/-- the relaid table -/
theorem laid_some {mask m : Nat} (hm : mask + 1 = 2 ^ m) {hashes : Array Int} (hn : hashes.size ≤ mask) {finger moves : Nat} {led plain : Bool} :
    ∃ t order, laid mask finger moves led plain hashes = some (t, order) ∧ order.toList.Perm (List.range hashes.size) ∧ Rise t.place ∧ (∀ i, i < t.place.size → t.place.getD i 0 ≤ mask) ∧ t.place.size = hashes.size ∧ t.dummies = #[] ∧ t.mask = mask ∧ t.plain = plain ∧ t.led = led := by
  have h0 : ((Array.replicate (mask + 1) (none : Option Nat)).toList.filterMap id).Perm (List.range 0) := by simp
  (refine el_1_2 (layClean_go hm hashes.toList (Array.replicate (mask + 1) none) 0 (by simp) h0 (by simpa using hn)) fun owner e1 e2 e3 => ?_)
  rw [Nat.zero_add] at e1 e3
  have hc : layClean mask hashes = some owner := by
    unfold layClean
    rw [← Array.foldl_toList]
    simp only [e1, Option.map_some]
  have hlive2 : ((List.range (mask + 1)).filterMap (fun j => (owner.getD j none).map (j, ·))).map (·.2) = owner.toList.filterMap id := by
    rw [List.map_filterMap]
    have : (fun j => ((owner.getD j none).map (j, ·)).map (·.2)) = fun j => owner.toList.getD j none := by
      funext j
      rw [Option.map_map]
      have : ((fun (x : Nat × Nat) => x.2) ∘ fun x => (j, x)) = id := rfl
      rw [this, Option.map_id]
      simp [Array.getD_eq_getD_getElem?]
    simp only [this, ← e2, ← Array.length_toList, filterMap_range_get]
  have hmem : ∀ x ∈ (((List.range (mask + 1)).filterMap (fun j => (owner.getD j none).map (j, ·))).map (·.1)), x ≤ mask := by
    intro x hx
    (refine el_1_0 (List.mem_map.mp hx) fun xEl0 rEl => ?_; obtain ⟨a, b⟩ := xEl0; (refine el_0_1 rEl fun hp yEl1 => ?_; try clear rEl; obtain rfl := yEl1))
    (refine el_1_1 (List.mem_filterMap.mp hp) fun j hj hj2 => ?_)
    have := List.mem_range.mp hj
    simp at hj2
    (refine el_0_1 hj2 fun _ rEl => ?_; try clear hj2; obtain ⟨_, rfl, _⟩ := rEl)
    (exact Nat.le_of_lt_succ (by assumption))
  have hpw : ((((List.range (mask + 1)).filterMap (fun j => (owner.getD j none).map (j, ·))).map (·.1))).Pairwise (· < ·) := by
    rw [List.map_filterMap]
    refine List.Pairwise.filterMap _ ?_ (List.pairwise_lt_range)
    intro a a' haa b hb b' hb'
    simp at hb hb'
    (refine el_0_1 hb fun _ xEl1 => ?_; try clear hb; obtain rfl := xEl1)
    (refine el_0_1 hb' fun _ xEl1 => ?_; try clear hb'; obtain rfl := xEl1)
    exact haa
  have hlen : (((List.range (mask + 1)).filterMap (fun j => (owner.getD j none).map (j, ·))).map (·.2)).length = hashes.size := by
    rw [hlive2, e3.length_eq]; simp
  refine (in_2_8 _ _ (by unfold laid; rw [hc]; rfl) ?_ (rise_of_pairwise hpw) ?_ ?_ rfl rfl rfl rfl)
  · show (((List.range (mask + 1)).filterMap (fun j => (owner.getD j none).map (j, ·))).map (·.2)).Perm _
    rw [hlive2]; simpa using e3
  · intro i hi
    refine hmem _ ?_
    have hi' : i < (((List.range (mask + 1)).filterMap (fun j => (owner.getD j none).map (j, ·))).map (·.1)).length := by simpa using hi
    have : (((((List.range (mask + 1)).filterMap (fun j => (owner.getD j none).map (j, ·))).map (·.1))).toArray.getD i 0) = (((List.range (mask + 1)).filterMap (fun j => (owner.getD j none).map (j, ·))).map (·.1))[i] := by
      simp only [Array.getD, List.size_toArray, hi', dif_pos]; rfl
    rw [this]
    exact List.getElem_mem hi'
  · simpa using hlen
theorem order_perm {es : Array (Int × Value)} {order : Array Nat} (h : order.toList.Perm (List.range es.size)) : (order.filterMap (es[·]?)).toList.Perm es.toList := by
  rw [Array.toList_filterMap]
  refine (h.filterMap _).trans ?_
  have : (List.range es.size).filterMap (fun i => es[i]?) = es.toList := by
    have e : ∀ (l : List (Int × Value)), (List.range l.length).filterMap (fun i => l[i]?) = l := by
      intro l
      induction l with
      | nil => rfl
      | cons x l ih =>
        simp only [List.length_cons, List.range_succ_eq_map, List.filterMap_cons, List.filterMap_map]
        have : ((fun i => (x :: l)[i]?) ∘ Nat.succ) = fun i => l[i]? := by funext j; simp
        rw [this, ih]; rfl
    have := e es.toList
    simpa using this
  rw [this]

/-- put at a free place -/
theorem insertAt_toList {α : Type} {xs : Array α} {p : Nat} {x : α} (hp : p ≤ xs.size) : (insertAt xs p x).toList = xs.toList.take p ++ x :: xs.toList.drop p := by
  unfold insertAt
  simp [Array.toList_extract, List.extract_eq_take_drop]
  exact List.take_of_length_le (by simp)
theorem insertAt_size {α : Type} {xs : Array α} {p : Nat} {x : α} (hp : p ≤ xs.size) : (insertAt xs p x).size = xs.size + 1 := by
  rw [← Array.length_toList, insertAt_toList hp]; simp; rw [Nat.min_eq_left hp, ← Nat.add_assoc, Nat.add_sub_cancel' hp]
theorem insertAt_getD {xs : Array Nat} {p x i : Nat} (hp : p ≤ xs.size) (hi : i < xs.size + 1) : (insertAt xs p x).getD i 0 = if i < p then xs.getD i 0 else if i = p then x else xs.getD (i - 1) 0 := by
  have h1 : (insertAt xs p x).getD i 0 = (insertAt xs p x).toList.getD i 0 := by simp [Array.getD_eq_getD_getElem?]
  have h2 : ∀ j, xs.getD j 0 = xs.toList.getD j 0 := fun j => by simp [Array.getD_eq_getD_getElem?]
  rw [h1, insertAt_toList hp, h2, h2]
  have hpl : p ≤ xs.toList.length := by simpa using hp
  generalize xs.toList = l at *
  rw [List.getD_eq_getElem?_getD, List.getD_eq_getElem?_getD, List.getD_eq_getElem?_getD]
  by_cases h : i < p
  · rw [if_pos h, List.getElem?_append_left (by simp; omega), List.getElem?_take, if_pos h]
  · rw [if_neg h, List.getElem?_append_right (by simp; omega)]
    rw [List.length_take, Nat.min_eq_left hpl]
    by_cases h' : i = p
    · subst h'; simp
    · rw [if_neg h']
      obtain ⟨d, rfl⟩ : ∃ d, i = p + 1 + d := (in_1_0 (i - p - 1) (by rw [Nat.sub_sub]; exact (Nat.add_sub_cancel' (Nat.lt_of_le_of_ne (Nat.not_lt.mp h) (Ne.symm h'))).symm))
      rw [show p + 1 + d - p = d + 1 by rw [Nat.add_assoc, Nat.add_sub_cancel_left, Nat.add_comm], List.getElem?_cons_succ, List.getElem?_drop]
      congr 2; simp
theorem rise_insert {xs : Array Nat} {x : Nat} (hR : Rise xs) (hx : ∀ i, i < xs.size → xs.getD i 0 ≠ x) : Rise (insertAt xs (below xs x) x) := by
  (refine el_0_2 (below_spec hR x) fun h1 h2 h3 => ?_)
  intro i j hij hj
  rw [insertAt_size h1] at hj
  rw [insertAt_getD h1 (by omega +splitDisjunctions), insertAt_getD h1 hj]
  generalize below xs x = p at *
  by_cases a : i < p
  · rw [if_pos a]
    by_cases b : j < p
    · rw [if_pos b]; exact hR i j hij (by (exact Nat.lt_of_lt_of_le (by assumption) (by assumption)))
    · rw [if_neg b]
      by_cases c : j = p
      · rw [if_pos c]; exact h2 i a
      · rw [if_neg c]; exact hR i (j - 1) (Nat.lt_of_lt_of_le a (Nat.le_sub_one_of_lt (Nat.lt_of_le_of_ne (Nat.not_lt.mp b) (Ne.symm c)))) (Nat.sub_one_lt_of_le (Nat.zero_lt_of_lt hij) (Nat.le_of_lt_succ hj))
  · rw [if_neg a, if_neg (show ¬ j < p from fun q => a (Nat.lt_trans hij q)), if_neg (show ¬ j = p from fun q => a (q ▸ hij))]
    by_cases c : i = p
    · rw [if_pos c]
      have := h3 (j - 1) (c ▸ Nat.le_sub_one_of_lt hij) (Nat.sub_one_lt_of_le (Nat.zero_lt_of_lt hij) (Nat.le_of_lt_succ hj))
      have := hx (j - 1) (Nat.sub_one_lt_of_le (Nat.zero_lt_of_lt hij) (Nat.le_of_lt_succ hj))
      (exact Nat.lt_of_le_of_ne (by assumption) (Ne.symm (by assumption)))
    · rw [if_neg c]; exact hR (i - 1) (j - 1) (Nat.sub_lt_sub_right (Nat.zero_lt_of_lt (Nat.lt_of_le_of_ne (Nat.not_lt.mp a) (Ne.symm c))) hij) (Nat.sub_one_lt_of_le (Nat.zero_lt_of_lt hij) (Nat.le_of_lt_succ hj))
end Mine
open PySem PySem.W PySem.Calls PyProof.Rows
set_option Elab.async false
set_option linter.all false
set_option maxRecDepth 100000
set_option genSizeOf false
namespace Mine
open SetTable

section
variable {prog : Program} {w : World} {A : Around} {E : Value → Shared → Prop} {s : Shared}

/-- hash of a tuple, whatever it is -/
theorem hash_items : ∀ (vs : List Value) (A : Around) (s : Shared) (b : Array Int) (Q : Array Int → Shared → Prop),
    (∀ y ∈ vs, ∀ tk (Q' : Int → Shared → Prop), (∀ n tk, Q' n { s with toks := tk }) → wpAny (model prog w) A (pyHash y) Q' E { s with toks := tk }) → (∀ tk b', Q b' { s with toks := tk }) →
    wpAny (model prog w) A (forIn vs b fun x r => do let h ← pyHash x; pure PUnit.unit; pure (ForInStep.yield (r.push h))) Q E s
  | [], A, s, b, Q, _, h => wpAny_pure (h s.toks b)
  | y :: vs, A, s, b, Q, hy, h => by
    rw [List.forIn_cons]
    have := hy y List.mem_cons_self s.toks
    refine wpAny_bind (wpAny_bind (this _ fun n tk => ?_))
    refine wpAny_bind (wpAny_pure (wpAny_pure ?_))
    exact hash_items vs A { s with toks := tk } _ Q (fun z hz tk' Q' k => hy z (List.mem_cons_of_mem _ hz) tk' Q' k) fun tk b' => h tk b'
theorem hash_tuple {a : Addr} {xs : Array Value} {Q : Int → Shared → Prop} (ht : IsTup s.heap a xs) (hu : A.units < cLine)
    (hi : ∀ y ∈ xs.toList, ∀ tk (Q' : Int → Shared → Prop), (∀ n tk, Q' n { s with toks := tk }) → wpAny (model prog w) A.in1 (pyHash y) Q' E { s with toks := tk }) (h : ∀ n tk, Q n { s with toks := tk }) :
    wpAny (model prog w) A (pyHash (.ref a)) Q E s := by
  (refine el_1_2 ht fun o ho hc rEl => ?_; try clear ht; (refine el_1_0 rEl fun n hd => ?_; try clear rEl))
  refine pyHash_slot (T := "tuple") (in_1_1 o ho hc) F.slot_tuple_hash F.entry_tuple_hash (F.args_tuple_hash_1 _) (beq_builtin_none _) (.inr hu) ?_
  show wpAny _ _ (Builtin.Tuple.tupleItemsOf (.ref a) >>= _) _ _ s
  refine wpAny_bind (wpAny_tupleItemsOf ho hd ?_)
  refine wpAny_bind ?_
  rw [← Array.forIn_toList]
  refine hash_items xs.toList A.in1 s #[] _ hi fun tk b => ?_
  show wpAny _ _ (retInt (Builtin.Tuple.tupleHashOf b.toList)) _ _ _
  exact wpAny_bind (wpAny_mkInt (wpAny_pure (in_2_1 _ _ rfl (h _ _))))

/-- a pair in the heap -/
theorem pair_shape {I : IM} {p : List Str × Int} {v : Value} (r : VR I (pcv p) v) : ∃ a n b m t us, v = .ref a ∧ I a = some ⟨.type "tuple", .none, .seq #[.ref b, .int p.2 t] n, #[]⟩ ∧ I b = some ⟨.type "tuple", .none, .seq us m, #[]⟩ ∧ VRs I (p.1.map .str) us.toList := by
  simp only [pcv, VR] at r
  (refine el_3_1 r fun a n xs xEl3 rEl => ?_; try clear r; obtain rfl := xEl3; (refine el_0_1 rEl fun h1 h2 => ?_; try clear rEl))
  (refine el_2_2 h2.uncons fun y ys e r1 r2 => ?_)
  (refine el_2_1 r2.uncons fun z zs xEl2 rEl => ?_; obtain rfl := xEl2; (refine el_0_1 rEl fun r3 r4 => ?_; try clear rEl))
  have := r4.nil_iff; subst this
  simp only [VR] at r1 r3
  (refine el_3_1 r1 fun b m us xEl3 rEl => ?_; try clear r1; obtain rfl := xEl3; (refine el_0_1 rEl fun h3 h4 => ?_; try clear rEl))
  (refine el_1_0 r3 fun t xEl1 => ?_; try clear r3; obtain rfl := xEl1)
  have : xs = #[.ref b, .int p.2 t] := Array.toList_inj.mp (by rw [e])
  subst this
  exact (in_6_3 a n b m t us rfl h1 h3 h4)
theorem strs_shape {I : IM} : ∀ {ks : List Str} {us : List Value}, VRs I (ks.map .str) us → ∀ y ∈ us, ∃ x t, y = .str x t
  | [], us, r, y, hy => by have := r.nil_iff; subst this; cases hy
  | k :: ks, us, r, y, hy => by
    (refine el_2_1 (VRs.uncons r) fun z zs xEl2 rEl => ?_; obtain rfl := xEl2; (refine el_0_1 rEl fun r1 r2 => ?_; try clear rEl))
    simp only [VR] at r1
    (refine el_1_0 r1 fun t xEl1 => ?_; try clear r1; obtain rfl := xEl1)
    rcases List.mem_cons.mp hy with rfl | hy
    · exact (in_2_0 k t rfl)
    · exact strs_shape r2 y hy

theorem hash_pair {I : IM} {p : List Str × Int} {v : Value} {Q : Int → Shared → Prop} (r : VR I (pcv p) v) (hi : ∀ a o, I a = some o → s.heap.get? a = some o) (hu : A.units + 2 < cLine) (h : ∀ n tk, Q n { s with toks := tk }) :
    wpAny (model prog w) A (pyHash v) Q E s := by
  (refine el_6_1 (pair_shape r) fun a n b m t us xEl6 rEl => ?_; obtain rfl := xEl6; (refine el_0_2 rEl fun h1 h2 h3 => ?_; try clear rEl))
  refine hash_tuple (in_1_2 _ (hi _ _ h1) rfl (in_1_0 n rfl)) (by (exact Nat.lt_of_le_of_lt (Nat.le_add_right _ _) (by assumption))) (fun y hy tk Q' k => ?_) h
  have hy' : y = .ref b ∨ y = .int p.2 t := by simpa using hy
  rcases hy' with rfl | rfl
  · refine hash_tuple (s := { s with toks := tk }) (in_1_2 _ (hi _ _ h2) rfl (in_1_0 m rfl)) (by simp only [Around.in1_units]; (exact Nat.le_of_lt (by assumption))) (fun y hy tk Q' k => ?_) fun n tk => k n tk
    (refine el_2_0 (strs_shape h3 y hy) fun x t xEl2 => ?_; obtain rfl := xEl2)
    exact wpAny_pyHash_str (k _ _)
  · exact wpAny_pyHash_int (k _ _)

-- nobody sees the search
theorem quiet_tuple {d : Nat} {a : Addr} {xs : Array Value} {Q : Bool → Shared → Prop} (ht : IsTup s.heap a xs) (hi : ∀ y ∈ xs.toList, ∀ Q' : Bool → Shared → Prop, Q' true s → wpAny (model prog w) A (eqIsQuiet d y) Q' E s) (h : Q true s) :
    wpAny (model prog w) A (eqIsQuiet (d + 1) (.ref a)) Q E s := by
  (refine el_1_2 ht fun o ho hc rEl => ?_; try clear ht; (refine el_1_0 rEl fun n hd => ?_; try clear rEl))
  have hT : s.TypeIs (.ref a) "tuple" := (in_1_1 o ho hc)
  unfold eqIsQuiet
  refine wpAny_bind (wpAny_specialOf hT F.slot_tuple_eq.lookup ?_)
  show wpAny _ _ (isInstance (.ref a) (.type "tuple") >>= _) _ _ s
  refine wpAny_bind (wpAny_isInstance hT isSubtype_tuple_tuple ?_)
  simp only [Bool.not_true, Bool.false_eq_true, if_false]
  refine wpAny_bind (wpAny_seqItems ho hd ?_)
  refine wpAny_bind ?_
  show wpAny _ _ (forIn xs _ _) _ _ s
  rw [← Array.forIn_toList]
  refine wpAny_forIn_list _ (fun rest r s' => r.1 = none ∧ s' = s ∧ ∀ v ∈ rest, v ∈ xs.toList) _ ?_ ?_ _ _ (in_0_2 rfl rfl (fun v h => h))
  · intro v rest r s' hEl
    (refine el_0_2 hEl fun hr xEl1 hall => ?_; try clear hEl; obtain rfl := xEl1)
    refine wpAny_bind (hi v (hall v List.mem_cons_self) _ ?_)
    simp only [Bool.not_true, Bool.false_eq_true, if_false]
    exact wpAny_pure (in_0_2 rfl rfl (fun u hu' => hall u (List.mem_cons_of_mem _ hu')))
  · rintro ⟨r1, r2⟩ s' ⟨hr, rfl, _⟩
    simp only at hr
    subst hr
    exact wpAny_pure h
theorem quiet_pair {I : IM} {p : List Str × Int} {v : Value} {d : Nat} {Q : Bool → Shared → Prop} (r : VR I (pcv p) v) (hi : ∀ a o, I a = some o → s.heap.get? a = some o) (h : Q true s) :
    wpAny (model prog w) A (eqIsQuiet (d + 2) v) Q E s := by
  (refine el_6_1 (pair_shape r) fun a n b m t us xEl6 rEl => ?_; obtain rfl := xEl6; (refine el_0_2 rEl fun h1 h2 h3 => ?_; try clear rEl))
  refine quiet_tuple (in_1_2 _ (hi _ _ h1) rfl (in_1_0 n rfl)) (fun y hy Q' k => ?_) h
  have hy' : y = .ref b ∨ y = .int p.2 t := by simpa using hy
  rcases hy' with rfl | rfl
  · refine quiet_tuple (in_1_2 _ (hi _ _ h2) rfl (in_1_0 m rfl)) (fun y hy Q' k => ?_) k
    (refine el_2_0 (strs_shape h3 y hy) fun x t xEl2 => ?_; obtain rfl := xEl2)
    rw [eqIsQuiet_byValue _ rfl]; exact wpAny_pure k
  · rw [eqIsQuiet_byValue _ rfl]; exact wpAny_pure k

theorem ofA_byValue (n : Nat) {v : Value} (h : carriedByValue v = true) : ofAClassStatement n v = pure false := by
  cases v with
  | ref a => simp [carriedByValue] at h
  | _ => first | rfl | (unfold ofAClassStatement; rfl)
theorem ofA_tuple {d : Nat} {a : Addr} {xs : Array Value} {Q : Bool → Shared → Prop} (ht : IsTup s.heap a xs) (hi : ∀ y ∈ xs.toList, ∀ Q' : Bool → Shared → Prop, Q' false s → wpAny (model prog w) A (ofAClassStatement d y) Q' E s) (h : Q false s) :
    wpAny (model prog w) A (ofAClassStatement (d + 1) (.ref a)) Q E s := by
  (refine el_1_2 ht fun o ho hc rEl => ?_; try clear ht; (refine el_1_0 rEl fun n hd => ?_; try clear rEl))
  have hT : s.TypeIs (.ref a) "tuple" := (in_1_1 o ho hc)
  unfold ofAClassStatement
  refine wpAny_bind (wpAny_typeOf hT ?_)
  dsimp only
  rw [if_pos (by decide)]
  refine wpAny_bind (wpAny_pure ?_)
  simp only [Bool.not_true, Bool.false_eq_true, if_false]
  refine wpAny_bind (wpAny_seqItems ho hd ?_)
  dsimp only
  refine wpAny_bind ?_
  show wpAny _ _ (forIn xs _ _) _ _ s
  rw [← Array.forIn_toList]
  refine wpAny_forIn_list _ (fun rest r s' => r.1 = none ∧ s' = s ∧ ∀ v ∈ rest, v ∈ xs.toList) _ ?_ ?_ _ _ (in_0_2 rfl rfl (fun v h => h))
  · intro v rest r s' hEl
    (refine el_0_2 hEl fun hr xEl1 hall => ?_; try clear hEl; obtain rfl := xEl1)
    refine wpAny_bind (hi v (hall v List.mem_cons_self) _ ?_)
    simp only [Bool.false_eq_true, if_false]
    exact wpAny_pure (in_0_2 rfl rfl (fun u hu' => hall u (List.mem_cons_of_mem _ hu')))
  · rintro ⟨r1, r2⟩ s' ⟨hr, rfl, _⟩
    simp only at hr
    subst hr
    exact wpAny_pure h
theorem ofA_pair {I : IM} {p : List Str × Int} {v : Value} {d : Nat} {Q : Bool → Shared → Prop} (r : VR I (pcv p) v) (hi : ∀ a o, I a = some o → s.heap.get? a = some o) (h : Q false s) :
    wpAny (model prog w) A (ofAClassStatement (d + 2) v) Q E s := by
  (refine el_6_1 (pair_shape r) fun a n b m t us xEl6 rEl => ?_; obtain rfl := xEl6; (refine el_0_2 rEl fun h1 h2 h3 => ?_; try clear rEl))
  refine ofA_tuple (in_1_2 _ (hi _ _ h1) rfl (in_1_0 n rfl)) (fun y hy Q' k => ?_) h
  have hy' : y = .ref b ∨ y = .int p.2 t := by simpa using hy
  rcases hy' with rfl | rfl
  · refine ofA_tuple (in_1_2 _ (hi _ _ h2) rfl (in_1_0 m rfl)) (fun y hy Q' k => ?_) k
    (refine el_2_0 (strs_shape h3 y hy) fun x t xEl2 => ?_; obtain rfl := xEl2)
    rw [ofA_byValue _ rfl]; exact wpAny_pure k
  · rw [ofA_byValue _ rfl]; exact wpAny_pure k
theorem seen_pairs {I : IM} {p : List Str × Int} {x : Value} {Q : Bool → Shared → Prop} (r : VR I (pcv p) x) (hi : ∀ a o, I a = some o → s.heap.get? a = some o) {ys : List Value} (hy : ∀ y ∈ ys, ∃ q, VR I (pcv q) y) (h : Q false s) :
    wpAny (model prog w) A (searchCouldBeSeen x ys) Q E s := by
  unfold searchCouldBeSeen
  refine wpAny_bind ?_
  refine wpAny_forIn_list _ (fun rest r s' => r.1 = none ∧ s' = s ∧ ∀ v ∈ rest, v ∈ ys) _ ?_ ?_ _ _ (in_0_2 rfl rfl (fun v h => h))
  · intro v rest b s' hEl
    (refine el_0_2 hEl fun hr xEl1 hall => ?_; try clear hEl; obtain rfl := xEl1)
    have nxt : ∀ v ∈ rest, v ∈ ys := fun u hu' => hall u (List.mem_cons_of_mem _ hu')
    (refine el_1_0 (hy v (hall v List.mem_cons_self)) fun q hq => ?_)
    (refine el_6_1 (pair_shape r) fun a _ _ _ _ _ xEl6 _ => ?_; obtain rfl := xEl6)
    (refine el_6_1 (pair_shape hq) fun c _ _ _ _ _ xEl6 _ => ?_; obtain rfl := xEl6)
    dsimp only
    split
    · exact wpAny_pure (in_0_2 rfl rfl nxt)
    · refine wpAny_bind (quiet_pair r hi ?_)
      simp only [Bool.not_true, Bool.false_eq_true, if_false]
      refine wpAny_bind (quiet_pair hq hi ?_)
      simp only [Bool.not_true, Bool.false_eq_true, if_false]
      refine wpAny_bind (ofA_pair r hi ?_)
      simp only [Bool.false_eq_true, if_false]
      refine wpAny_bind (ofA_pair hq hi ?_)
      simp only [Bool.false_eq_true, if_false]
      exact wpAny_pure (in_0_2 rfl rfl nxt)
  · rintro ⟨r1, r2⟩ s' ⟨hr, rfl, _⟩
    simp only at hr
    subst hr
    exact wpAny_pure h

-- a pair is never hashed by its value
theorem byValue_tuple {d : Nat} {a : Addr} {xs : Array Value} {Q : Bool → Shared → Prop} (ht : IsTup s.heap a xs) {y : Value} {ys : List Value} (hx : xs.toList = y :: ys) (hi : ∀ Q' : Bool → Shared → Prop, Q' false s → wpAny (model prog w) A (hashByValue d y) Q' E s) (h : Q false s) :
    wpAny (model prog w) A (hashByValue (d + 1) (.ref a)) Q E s := by
  (refine el_1_2 ht fun o ho hc rEl => ?_; try clear ht; (refine el_1_0 rEl fun n hd => ?_; try clear rEl))
  have hT : s.TypeIs (.ref a) "tuple" := (in_1_1 o ho hc)
  unfold hashByValue
  refine wpAny_bind (wpAny_specialOf hT F.slot_tuple_hash.lookup ?_)
  dsimp only
  refine wpAny_bind (wpAny_seqItems ho hd ?_)
  refine wpAny_bind ?_
  show wpAny _ _ (forIn xs _ _) _ _ s
  rw [← Array.forIn_toList, hx, List.forIn_cons]
  refine wpAny_bind (wpAny_bind (hi _ ?_))
  simp only [Bool.not_false, if_true]
  exact wpAny_pure (wpAny_pure (wpAny_pure h))
theorem byValue_pair {I : IM} {p : List Str × Int} {v : Value} {d : Nat} {Q : Bool → Shared → Prop} (r : VR I (pcv p) v) (hne : p.1 ≠ []) (hi : ∀ a o, I a = some o → s.heap.get? a = some o) (h : Q false s) :
    wpAny (model prog w) A (hashByValue (d + 2) v) Q E s := by
  (refine el_6_1 (pair_shape r) fun a n b m t us xEl6 rEl => ?_; obtain rfl := xEl6; (refine el_0_2 rEl fun h1 h2 h3 => ?_; try clear rEl))
  refine byValue_tuple (in_1_2 _ (hi _ _ h1) rfl (in_1_0 n rfl)) (y := .ref b) (ys := [.int p.2 t]) rfl (fun Q' k => ?_) h
  cases hp : p.1 with
  | nil => exact absurd hp hne
  | cons x xs =>
    rw [hp] at h3
    (refine el_2_2 (VRs.uncons h3) fun y ys e r1 r2 => ?_)
    simp only [VR] at r1
    (refine el_1_0 r1 fun t xEl1 => ?_; try clear r1; obtain rfl := xEl1)
    refine byValue_tuple (in_1_2 _ (hi _ _ h2) rfl (in_1_0 m rfl)) e (fun Q' k => ?_) k
    cases d <;> exact wpAny_pure k
end
end Mine
open PySem PySem.W PySem.Calls PyProof.Rows
set_option Elab.async false
set_option linter.all false
set_option maxRecDepth 100000
set_option genSizeOf false
namespace Mine
open SetTable

theorem eqv_strs : ∀ xs ys : List Str, PyData.eqvAll (toPys (xs.map .str)) (toPys (ys.map .str)) = decide (xs = ys)
  | [], [] => rfl
  | [], _ :: _ => rfl
  | _ :: _, [] => rfl
  | x :: xs, y :: ys => by
    simp only [List.map_cons, toPys, toPy, PyData.eqvAll, PyData.eqv]
    rw [eqv_strs xs ys]
    by_cases h1 : x = y <;> by_cases h2 : xs = ys <;> simp [h1, h2]
theorem ceq_pcv (p q : List Str × Int) : ceq (pcv p) (pcv q) = decide (p = q) := by
  obtain ⟨a, b⟩ := p; obtain ⟨c, d⟩ := q
  simp only [ceq, pcv, toPy, toPys, PyData.eqv, PyData.eqvAll, eqv_strs]
  by_cases h1 : a = c <;> by_cases h2 : b = d <;> simp [h1, h2]
theorem isPys_strs : ∀ {xs : List Str}, xs.all PyData.strOk = true → isPys (xs.map .str) = true
  | [], _ => rfl
  | x :: xs, h => by simp only [List.all_cons, Bool.and_eq_true] at h; simp [isPys, isPy, h.1, isPys_strs h.2]
theorem isPy_pcv {p : List Str × Int} (h : pok p = true) : isPy (pcv p) = true := by
  simp only [pok, Bool.and_eq_true] at h
  simp [pcv, isPy, isPys, isPys_strs h.2]
theorem depth_strs : ∀ (xs : List Str), PyData.depthAll (toPys (xs.map .str)) ≤ 1
  | [] => by decide
  | x :: xs => by
    have := depth_strs xs
    simp only [List.map_cons, toPys, toPy, PyData.depthAll, PyData.depth]
    assumption
theorem depth_pcv (p : List Str × Int) : (toPy (pcv p)).depth ≤ 10 := by
  have := depth_strs p.1
  simp only [pcv, toPy, toPys, PyData.depth, PyData.depthAll]
  omega

section
variable {prog : Program} {w : World} {A : Around} {E : Value → Shared → Prop} {s : Shared} {I : IM}
theorem eq_pairs (hi : ∀ a o, I a = some o → s.heap.get? a = some o) {p q : List Str × Int} {v u : Value} (hp : pok p = true) (hq : pok q = true) (hu : A.units + 20 < cLine) (ra : VR I (pcv p) v) (rb : VR I (pcv q) u) : SeqAt.EqAt A s v u (decide (p = q)) := by
  (refine el_0_1 (VR.reads hi _ v (isPy_pcv hp) ra) fun xEl0 hx => ?_; (refine el_1_0 xEl0 fun as x => ?_; try clear xEl0))
  (refine el_0_1 (VR.reads hi _ u (isPy_pcv hq) rb) fun xEl0 hy => ?_; (refine el_1_0 xEl0 fun bs y => ?_; try clear xEl0))
  rw [← ceq_pcv]
  refine SeqAt.eqAt_reads _ _ _ _ _ _ _ _ x y hx hy ?_
  exact lt_min (depth_pcv p) (by omega)

theorem go_of {t : SetTable} (hR : Rise t.place) (hd : t.dummies = #[]) {hashAt : Nat → Int} {h : Int} {n : Nat} {p : Probe} {r : Option Met} (e : t.probe hashAt h p = r) (hN : Near t n p) (hI : PInv t p) (hn : n < 10 * turns t.mask) :
    (∃ j, r = some (.empty j none) ∧ t.slot j = .empty ∧ j ≤ t.mask) ∨
    (∃ j i next m, r = some (.candidate j i next) ∧ t.slot j = .live i ∧ hashAt i = h ∧ i < t.place.size ∧ Near t m next ∧ m < n ∧ PInv t next) := by
  (refine Or.elim (go_near hR hd hashAt h _ n p hN hI hn) (fun xElo => ?aElo) (fun xElo => ?bElo); (case' bElo => (refine el_4_1 xElo fun j i next m a b => ?_; try clear xElo)); (case' aElo => (refine el_1_2 xElo fun j a b c => ?_; try clear xElo)))
  · exact .inl (in_1_2 j (e.symm.trans a) b c)
  · exact .inr (in_4_1 j i next m (e.symm.trans a) b)
theorem TOk.fits {t : SetTable} {n : Nat} (h : TOk t n) : t.fits n = true := by
  have h1 := h.size
  have h2 := h.room
  simp only [SetTable.fits, SetTable.fill, h.dum, Bool.and_eq_true, beq_iff_eq, decide_eq_true_eq, Array.size_empty]
  omega
theorem TOk.odd {t : SetTable} {n : Nat} (h : TOk t n) : t.gaveWay = false := by
  (refine el_1_0 h.pow fun m hm => ?_)
  have h2 := h.room
  have : t.mask % 2 ≠ 0 := by
    cases m with
    | zero => simp at hm; omega
    | succ m => simp only [Nat.pow_succ] at hm; omega
  simp [SetTable.gaveWay, this]

theorem get_item {es : Array (Int × Value)} {us : List (List Str × Int)} (r : VRs I (us.map pcv) (es.toList.map (·.2))) {i : Nat} (hi : i < es.size) : ∃ hh y q, es[i]? = some (hh, y) ∧ q ∈ us ∧ VR I (pcv q) y := by
  have hl := r.length
  simp at hl
  have hlt : i < us.length := by omega
  (refine el_1_1 (r.get (i := i) (c := pcv us[i]) (by simp [hlt])) fun v hv hr => ?_)
  refine (in_3_2 (es[i].1) (es[i].2) (us[i]) (by simp [hi]) (List.getElem_mem hlt) ?_)
  simp [hi] at hv
  rw [hv]; exact hr

theorem search_any {a : Addr} {o : Obj} {es : Array (Int × Value)} {ep : Nat} {t : SetTable} {us : List (List Str × Int)} {x : Value} {p : List Str × Int} {Q : SetFound → Shared → Prop} {h : Int}
    (ho : s.heap.get? a = some o) (hd : o.data = .set es ep t) (hT : TOk t es.size) (hi : ∀ a o, I a = some o → s.heap.get? a = some o) (hus : VRs I (us.map pcv) (es.toList.map (·.2))) (hok : ∀ v ∈ us, pok v = true)
    (r : VR I (pcv p) x) (hp : pok p = true) (hu : A.units + 20 < cLine) (q1 : p ∈ us → Q (.there none) s) (q2 : ∀ j, t.slot j = .empty → j ≤ t.mask → Q (.free j false) s) :
    ∀ fuel n (stand : Option Probe), Near t n (stand.getD (t.probeStart h)) → PInv t (stand.getD (t.probeStart h)) → n < fuel → n < 10 * turns t.mask → wpAny (model prog w) A (setSearchFrom a x h true fuel stand) Q E s
  | 0, n, stand, _, _, hn, _ => by (exact absurd (by assumption) (Nat.not_lt_zero _))
  | fuel + 1, n, stand, hN, hI, hn, hn' => by
    unfold setSearchFrom
    refine wpAny_bind (wpAny_setState_of ho hd hT.fits ?_)
    dsimp only
    rw [hT.odd]
    simp only [Bool.false_eq_true, if_false]
    split
    · rename_i met heq
      (refine Or.elim (go_of hT.rise hT.dum heq hN hI hn') (fun xElo => ?aElo) (fun xElo => ?bElo); (case' bElo => (refine el_4_6 xElo fun j i next m e a1 a2 a3 a4 a5 a6 => ?_; try clear xElo)); (case' aElo => (refine el_1_2 xElo fun j e a1 a2 => ?_; try clear xElo)))
      · cases e
        exact wpAny_pure (q2 j a1 a2)
      · cases e
        dsimp only
        rw [hT.size] at a3
        (refine el_3_2 (get_item hus a3) fun hh y q hy hq ry => ?_)
        have main : wpAny (model prog w) A (do
            let some (_, y) := es[i]? | unsupported "internal:set-entry"
            let equal ← holding [y] (eqBool y x)
            let (es', _, t') ← setState a
            if true && equal then return .there none
            let some same := t'.sameMemory t.moves t.mask | unsupported "set.changed-during-lookup:is-the-new-block-at-the-old-address"
            let still ← match (if same then t'.slot j else .empty) with
              | .live i' => match es'[i']? with
                | some (_, y') => do pure (if ← isSame y' y then some i' else none)
                | none => pure none
              | _ => pure none
            match still with
            | none => rule "set.search.anew"; setSearchFrom a x h true fuel none
            | some i' => if equal then return .there (some i') else setSearchFrom a x h true fuel (some next)) Q E s := by
          rw [hy]
          dsimp only
          refine wpAny_bind (wpAny_holding (eq_pairs hi (hok q hq) hp hu ry r prog w _ _ ?_))
          refine wpAny_bind (wpAny_setState_of ho hd hT.fits ?_)
          dsimp only
          by_cases hqp : q = p
          · subst hqp
            rw [decide_eq_true rfl]
            exact wpAny_pure (q1 hq)
          · rw [decide_eq_false hqp]
            simp only [Bool.and_false, Bool.false_eq_true, if_false]
            have hsame : t.sameMemory t.moves t.mask = some true := by simp [SetTable.sameMemory]
            rw [hsame]
            dsimp only
            rw [if_pos rfl, a1]
            dsimp only
            rw [hy]
            dsimp only
            (refine el_6_1 (pair_shape ry) fun b _ _ _ _ _ xEl6 _ => ?_; obtain rfl := xEl6)
            refine wpAny_bind (wpAny_isSame_ref_self (wpAny_bind (wpAny_pure ?_)))
            exact search_any ho hd hT hi hus hok r hp hu q1 q2 fuel m (some next) a4 a6 (by omega) (by (exact Nat.lt_trans (by assumption) (by assumption)))
        by_cases hl : t.led = true
        · rw [hl]
          exact main
        · simp only [Bool.not_eq_true] at hl
          rw [hl]
          simp only [Bool.not_false, if_true]
          refine wpAny_bind (seen_pairs r hi (fun z hz => ?_) ?_)
          · (refine el_1_0 (List.mem_map.mp hz) fun xEl0 rEl => ?_; obtain ⟨h1, z'⟩ := xEl0; (refine el_0_1 rEl fun hz1 yEl1 => ?_; try clear rEl; obtain rfl := yEl1))
            have hz2 : (h1, z') ∈ es.toList := by simp at hz1 ⊢; exact hz1.1
            (refine el_1_0 (List.getElem_of_mem hz2) fun k rEl => ?_; (refine el_1_0 rEl fun hk hk' => ?_; try clear rEl))
            have hks : k < es.size := by simpa using hk
            (refine el_3_2 (get_item hus hks) fun hh2 y2 q2' hy2 _ ry2 => ?_)
            simp [hks] at hy2 hk'
            rw [hk'] at hy2; cases hy2
            exact (in_1_0 q2' ry2)
          · exact main
    · rename_i heq
      exfalso
      have : ∃ r, r = none ∧ ((∃ j, r = some (Met.empty j none) ∧ t.slot j = .empty ∧ j ≤ t.mask) ∨ (∃ j i next m, r = some (Met.candidate j i next) ∧ Near t m next)) := by
        generalize hr : t.probe _ h _ = rr at heq
        rcases go_of hT.rise hT.dum hr hN hI hn' with ⟨j, e, a1, a2⟩ | ⟨j, i, next, m, e, a1, a2, a3, a4, a5, a6⟩
        · exact (in_1_1 rr (by cases rr <;> simp_all) (.inl (in_1_2 j e a1 a2)))
        · exact (in_1_1 rr (by cases rr <;> simp_all) (.inr (in_4_1 j i next m e a4)))
      (refine el_1_1 this fun r' e xEl2 => ?_; try clear this; obtain ⟨j, e1, _⟩ | ⟨j, i, next, m, e1, _⟩ := xEl2) <;> rw [e] at e1 <;> cases e1
end
end Mine
open PySem PySem.W PySem.Calls PyProof.Rows
set_option Elab.async false
set_option linter.all false
set_option maxRecDepth 100000
set_option genSizeOf false
namespace Mine
open SetTable

theorem perm_pcv {I : IM} {l1 l2 : List Value} (h : l1.Perm l2) : ∀ {us : List (List Str × Int)}, VRs I (us.map pcv) l1 → ∃ us2 : List (List Str × Int), us2.Perm us ∧ VRs I (us2.map pcv) l2 := by
  induction h with
  | nil => intro us r; exact (in_1_1 us (.refl _) r)
  | @cons x l1 l2 _ ih =>
    intro us r
    cases us with
    | nil => have := r.nil_iff; cases this
    | cons u us =>
      (refine el_2_2 (VRs.uncons r) fun y ys e r1 r2 => ?_)
      cases e
      (refine el_1_1 (ih r2) fun us2 p r3 => ?_)
      exact (in_1_1 (u :: us2) (p.cons u) (.cons r1 r3))
  | swap x y l =>
    intro us r
    cases us with
    | nil => have := r.nil_iff; cases this
    | cons u us =>
      (refine el_2_2 (VRs.uncons r) fun y' ys e r1 r2 => ?_)
      cases e
      cases us with
      | nil => have := r2.nil_iff; cases this
      | cons u2 us =>
        (refine el_2_2 (VRs.uncons r2) fun y' ys e r3 r4 => ?_)
        cases e
        exact (in_1_1 (u2 :: u :: us) (.swap _ _ _) (.cons r3 (.cons r1 r4)))
  | trans _ _ ih1 ih2 =>
    intro us r
    (refine el_1_1 (ih1 r) fun us2 p r2 => ?_)
    (refine el_1_1 (ih2 r2) fun us3 p3 r3 => ?_)
    exact (in_1_1 us3 (p3.trans p) r3)

section
variable {prog : Program} {w : World} {A : Around} {E : Value → Shared → Prop} {s : Shared} {I : IM}

theorem put_eq {t : SetTable} (hd : t.dummies = #[]) (j : Nat) : t.put j = ({ t with place := insertAt t.place (below t.place j) j }, below t.place j) := by
  unfold SetTable.put
  have hh : SetTable.has t.dummies j = false := by rw [hd]; simp [SetTable.has]
  simp only [hh, Bool.false_eq_true, if_false]
theorem near_start {t : SetTable} {n : Nat} (hT : TOk t n) (h : Int) : ∃ N, Near t N (t.probeStart h) ∧ PInv t (t.probeStart h) ∧ N ≤ 10 * (t.mask + 13) := by
  (refine el_1_0 hT.pow fun m hm => ?_)
  have hr := hT.room
  (refine el_1_1 (exists_free (n := t.place.size) (M := t.mask + 1) (fun i => t.place.getD i 0) (by rw [hT.size]; omega)) fun e he hf => ?_)
  have hi : bits h % (t.mask + 1) ≤ t.mask := by have := Nat.mod_lt (bits h) (show t.mask + 1 > 0 by omega); omega
  (refine el_1_1 (leaps_hit hm hi (bits_lt h) (show e ≤ t.mask by omega)) fun N hN hN' => ?_)
  have he' : t.slot e = .empty := slot_empty hT.rise hT.dum hf
  refine (in_1_2 (10 * N) (near_leaps N _ _ hi (by rw [hN']; exact he')) ?_ (by omega))
  have hre := runEnd_le hi
  exact ⟨by show bits h % (t.mask + 1) + (runEnd t.mask (bits h % (t.mask + 1)) - bits h % (t.mask + 1)) ≤ _; omega, rfl⟩

theorem add_any {a : Addr} {o : Obj} {vs : List (List Str × Int)} {x : Value} {p : List Str × Int} {h : Int} {Q : Bool → Shared → Prop} (ho : s.heap.get? a = some o) (hP : PSet w I vs o) (hi : ∀ a o, I a = some o → s.heap.get? a = some o)
    (hia : I a = none) (r : VR I (pcv p) x) (hp : pok p = true) (hu : A.units + 20 < cLine) (hvs : vs.length ≤ 900)
    (k : ∀ b h' o', (∀ c, c ≠ a → h'.get? c = s.heap.get? c) → h'.get? a = some o' → PSet w I (vs ++ [p]) o' → Q b { s with heap := h' }) : wpAny (model prog w) A (setAddHashed a x h) Q E s := by
  (refine el_4_6 hP fun es ep t us hex hd hmem hok hlen hus rEl => ?_; try clear hP; (refine el_0_2 rEl fun hT hpl hled => ?_; try clear rEl))
  have hokus : ∀ v ∈ us, pok v = true := fun v hv => hok v ((hmem v).mp hv)
  have hnes : es.size = us.length := by have := hus.length; simp at this; exact this.symm
  unfold setAddHashed setAddHashedIn
  refine wpAny_holding (wpAny_bind (wpAny_setState_of ho hd hT.fits ?_))
  dsimp only
  (refine el_6_1 (pair_shape r) fun b _ _ _ _ _ xEl6 _ => ?_; obtain rfl := xEl6)
  have hbs : byScan (.ref b) es = false := rfl
  rw [hbs]
  simp only [Bool.false_eq_true, if_false]
  (refine el_1_2 (near_start hT h) fun N hN1 hN2 hN3 => ?_)
  have htop := hT.top
  refine wpAny_bind ?_
  refine search_any ho hd hT hi hus hokus r hp hu (fun hin => ?_) (fun j hj1 hj2 => ?_) 100000 N none hN1 hN2 (by omega) (by unfold turns; omega)
  · dsimp only
    refine wpAny_pure ?_
    have := k false s.heap o (fun _ _ => rfl) ho (in_4_8 es ep t us hex hd (fun v => ?_) (fun v hv => ?_) (by simp; omega) hus hT hpl hled)
    · exact this
    · rw [hmem v, List.mem_append, List.mem_singleton]
      exact ⟨.inl, fun q => q.elim id fun q => q ▸ (hmem p).mp hin⟩
    · rcases List.mem_append.mp hv with q | q
      · exact hok v q
      · rw [List.mem_singleton.mp q]; exact hp
  · dsimp only
    refine wpAny_bind (wpAny_setState_of ho hd hT.fits ?_)
    dsimp only
    rw [put_eq hT.dum]
    dsimp only
    have hbelow := (below_spec hT.rise j).1
    generalize hbl : below t.place j = pp at hbelow ⊢
    have hpp : pp ≤ es.size := by rw [← hT.size]; exact hbelow
    have hnotin : ∀ i, i < t.place.size → t.place.getD i 0 ≠ j := by
      (refine Or.elim (slot_cases hT.rise hT.dum j) (fun q => ?aElo) (fun xElo => ?bElo); (case' bElo => (refine el_1_2 xElo fun i q _ _ => ?_; try clear xElo)); (case' aElo => skip))
      · exact q.2
      · rw [hj1] at q; cases q
    have hrise : Rise (insertAt t.place pp j) := by rw [← hbl]; exact rise_insert hT.rise hnotin
    have hsz1 : (insertAt t.place pp j).size = es.size + 1 := by rw [insertAt_size hbelow, hT.size]
    have hes1 : (insertAt es pp (h, .ref b)).size = es.size + 1 := insertAt_size hpp
    have hle1 : ∀ i, i < (insertAt t.place pp j).size → (insertAt t.place pp j).getD i 0 ≤ t.mask := by
      intro i hi'
      rw [insertAt_size hbelow] at hi'
      rw [insertAt_getD hbelow hi']
      split
      · exact hT.le i (by omega)
      · split
        · exact hj2
        · exact hT.le (i - 1) (by omega)
    have hvr1 : VRs I ((us.take pp ++ p :: us.drop pp).map pcv) ((insertAt es pp (h, .ref b)).toList.map (·.2)) := by
      rw [insertAt_toList hpp, List.map_append, List.map_cons, List.map_append, List.map_cons, List.map_take, List.map_drop, List.map_take, List.map_drop]
      exact (hus.take pp).append (.cons r (hus.drop pp))
    have hmem1 : ∀ us1 : List (List Str × Int), us1.Perm (us.take pp ++ p :: us.drop pp) → (∀ v, v ∈ us1 ↔ v ∈ vs ++ [p]) ∧ us1.length ≤ (vs ++ [p]).length := by
      intro us1 hp1
      have e1 : (us.take pp ++ p :: us.drop pp).Perm (p :: us) := by
        refine List.perm_middle.trans ?_
        rw [List.take_append_drop]
      refine ⟨fun v => ?_, ?_⟩
      · rw [(hp1.trans e1).mem_iff, List.mem_cons, List.mem_append, List.mem_singleton, hmem v]
        exact ⟨fun q => q.elim .inr .inl, fun q => q.elim .inr .inl⟩
      · rw [(hp1.trans e1).length_eq]; simp; omega
    have hok1 : ∀ v, v ∈ vs ++ [p] → pok v = true := fun v hv => by
      rcases List.mem_append.mp hv with q | q
      · exact hok v q
      · rw [List.mem_singleton.mp q]; exact hp
    have hline : ∀ n, n ≤ 100000 → n ≤ sizeLine := fun n hn => by rw [sizeLine_eq]; omega
    -- from the table on
    have tail : ∀ t1 : SetTable, t1 = { t with place := insertAt t.place pp j, plain := false } → wpAny (model prog w) A (do
        storeSet a (insertAt es pp (h, .ref b)) t1
        if (!false && t1.tooFull) = true then do
          setRelay a (grown (es.size + 1))
          pure true
        else pure true) Q E s := by
      intro t1 ht1
      refine wpAny_bind (wpAny_storeSet_of ho hd ?_ (hline _ (by omega)))
      have hT1 : t1.mask = t.mask ∧ t1.place = insertAt t.place pp j ∧ t1.dummies = #[] ∧ t1.plain = false ∧ t1.led = t.led := by subst ht1; exact (in_0_4 rfl rfl hT.dum rfl rfl)
      (refine el_0_4 hT1 fun m1 m2 m3 m4 m5 => ?_; try clear hT1)
      have ho1 : (s.heap.update a (Obj.putSet (insertAt es pp (h, .ref b)) t1)).get? a = some { o with data := .set (insertAt es pp (h, .ref b)) (ep + 1) t1 } := by
        have := Heap.get?_update_self (Obj.putSet (insertAt es pp (h, .ref b)) t1) ho (by rw [putSet_of _ _ hd]; rfl)
        rw [putSet_of _ _ hd] at this; exact this
      have hsb1 := Heap.SameBut.update s.heap a (Obj.putSet (insertAt es pp (h, .ref b)) t1)
      have hfits : t1.fits (insertAt es pp (h, .ref b)).size = true := by
        have hr := hT.room
        have hf1 : t1.place.size = (insertAt es pp (h, .ref b)).size := by rw [m2, hsz1, hes1]
        have hf2 : t1.fill ≤ t1.mask := by
          have e : t1.fill = es.size + 1 + 0 := by unfold SetTable.fill; rw [m2, m3, hsz1]; rfl
          rw [e, m1]; omega
        simp only [SetTable.fits, Bool.and_eq_true, beq_iff_eq, decide_eq_true_eq]
        exact ⟨hf1, hf2⟩
      by_cases hfull : t1.tooFull = true
      · rw [hfull]
        simp only [Bool.not_false, Bool.and_self, if_true]
        refine wpAny_bind ?_
        unfold setRelay
        refine wpAny_bind (wpAny_setState_of ho1 rfl hfits ?_)
        dsimp only
        have hg : grown (es.size + 1) = (es.size + 1) * 4 := by unfold grown; rw [if_neg (by omega)]
        rw [hg]
        (refine el_1_2 (sizeAbove_spec (n := (es.size + 1) * 4) (by omega)) fun kk hk1 hk2 hk3 => ?_)
        have hsa : sizeAbove ((es.size + 1) * 4) ≤ 100000 := by rw [hk1]; rcases hk3 with rfl | hk3 <;> omega
        rw [if_neg (Nat.not_lt.mpr (hline _ hsa))]
        have hM : sizeAbove ((es.size + 1) * 4) - 1 + 1 = 2 ^ (kk + 3) := by
          rw [hk1, Nat.pow_add]
          have := Nat.two_pow_pos kk
          omega
        (refine el_2_8 (laid_some (finger := t1.finger) (moves := t1.movedTo (sizeAbove ((es.size + 1) * 4) - 1)) (led := t1.led) (plain := t1.plain) hM (hashes := (insertAt es pp (h, .ref b)).map (·.1)) (by rw [Array.size_map, hes1, hk1]; omega)) fun t2 order hl1 hl2 hl3 hl4 hl5 hl6 hl7 hl8 hl9 => ?_)
        have hrel : t1.relaid ((insertAt es pp (h, .ref b)).map (·.1)) ((es.size + 1) * 4) = some (t2, order) := hl1
        rw [hrel]
        rw [Array.size_map] at hl2 hl5
        have hperm := order_perm hl2
        have hsz2 : (order.filterMap ((insertAt es pp (h, .ref b))[·]?)).size = es.size + 1 := by
          rw [← Array.length_toList, hperm.length_eq, Array.length_toList, hes1]
        refine wpAny_bind ?_
        show wpAny _ _ (if ((order.filterMap ((insertAt es pp (h, .ref b))[·]?)).size != (insertAt es pp (h, .ref b)).size) = true then _ else pure (order.filterMap ((insertAt es pp (h, .ref b))[·]?), t2)) _ _ _
        rw [if_neg (by rw [hsz2, hes1]; simp)]
        refine wpAny_pure ?_
        dsimp only
        refine wpAny_storeSet_of ho1 rfl (wpAny_pure ?_) (hline _ (by omega))
        (refine el_1_1 (perm_pcv (hperm.map (·.2)).symm hvr1) fun us2 hu1 hu2 => ?_)
        refine k true _ { o with data := .set (order.filterMap ((insertAt es pp (h, .ref b))[·]?)) (ep + 1 + 1) t2 } (fun c hc => ?_) ?_ (in_4_8 _ _ t2 us2 ?_ rfl ((hmem1 us2 hu1).1) hok1 ((hmem1 us2 hu1).2) hu2 ?_ (fun _ => by rw [hl8]; exact m4) (fun q => by rw [hl9, m5]; exact hled q))
        · exact ((Heap.SameBut.update _ a _).2 c hc).trans (hsb1.2 c hc)
        · have := Heap.get?_update_self (Obj.putSet (order.filterMap ((insertAt es pp (h, .ref b))[·]?)) t2) ho1 (by rw [putSet_of _ _ rfl]; rfl)
          rw [putSet_of _ _ rfl] at this; exact this
        · exact hex
        · rw [hsz2]
          refine ⟨by rw [hl5, hes1], hl6, hl3, fun i hi => by rw [hl7]; exact hl4 i hi, (in_1_0 (kk + 3) (by rw [hl7]; exact hM)), ?_, ?_⟩
          · rw [hl7, hk1]; omega
          · rw [hl7, hk1]; rcases hk3 with rfl | hk3 <;> omega
      · rw [Bool.not_eq_true] at hfull
        rw [hfull]
        simp only [Bool.and_false, Bool.false_eq_true, if_false]
        refine wpAny_pure ?_
        refine k true _ _ (fun c hc => hsb1.2 c hc) ho1 (in_4_8 _ _ t1 _ hex rfl ((hmem1 _ (.refl _)).1) hok1 ((hmem1 _ (.refl _)).2) hvr1 ?_ (fun _ => m4) (fun q => by rw [m5]; exact hled q))
        rw [hes1]
        refine ⟨by rw [m2, hsz1], m3, by rw [m2]; exact hrise, fun i hi => by rw [m1, m2]; rw [m2] at hi; exact hle1 i hi, by rw [m1]; exact hT.pow, ?_, by rw [m1]; omega⟩
        have hx : (t1.tooFull = true) ↔ t.mask * 3 ≤ (es.size + 1) * 5 := by
          simp [SetTable.tooFull, SetTable.fill, m1, m2, m3, hsz1]
        have hy : ¬ (t.mask * 3 ≤ (es.size + 1) * 5) := fun q => by rw [hx.mpr q] at hfull; cases hfull
        rw [m1]; omega
    by_cases hplain : t.plain = true
    · simp only [hplain, if_true]
      refine wpAny_bind (byValue_pair r (fun q => ?_) hi ?_)
      · simp only [pok, q, List.isEmpty_nil, Bool.not_true, Bool.false_and] at hp; cases hp
      · simp only [Bool.false_eq_true, if_false]
        exact tail _ rfl
    · rw [Bool.not_eq_true] at hplain
      simp only [hplain, Bool.false_eq_true, if_false]
      refine wpAny_bind (wpAny_pure ?_)
      simp only [if_true]
      refine tail _ ?_
      cases t; simp only at hplain; subst hplain; rfl
end
end Mine
open PySem PySem.W PySem.Calls PyProof.Rows
set_option Elab.async false
set_option linter.all false
set_option maxRecDepth 100000
set_option genSizeOf false
namespace Mine
open SetTable

section
variable {prog : Program} {w : World} {A : Around} {E : Value → Shared → Prop} {s : Shared} {I : IM}

theorem walk_any {M : Model} {a : Addr} {o : Obj} {es : Array (Int × Value)} {ep : Nat} {t : SetTable} {Q : Array (Int × Value) → Shared → Prop} (ho : s.heap.get? a = some o) (hd : o.data = .set es ep t) (hf : t.fits es.size = true)
    (hb : w.params.followText "set-order" = true ∨ es.size ≤ 1) (h : ∀ x, Q x s) : wpAny (model prog w) A (setWalk a) Q E s := by
  unfold setWalk
  refine wpAny_bind (wpAny_setState_of ho hd hf ?_)
  dsimp only
  unfold setsByText
  refine wpAny_bind (wpAny_bind (wpAny_askSetting (wpAny_pure ?_)))
  show wpAny _ _ (if w.params.followText "set-order" = true then _ else _) _ _ _
  by_cases hq : w.params.followText "set-order" = true
  · rw [if_pos hq]
    exact wpAny_bind (wpAny_askSetting (wpAny_pure (h _)))
  · rw [if_neg hq]
    have hs : es.size ≤ 1 := hb.resolve_left hq
    show wpAny _ _ (if (!t.plain && decide (es.size > 1)) = true then _ else _) _ _ _
    have e1 : (!t.plain && decide (es.size > 1)) = false := by rw [decide_eq_false (by (exact Nat.not_lt_of_le (by assumption)))]; simp
    rw [e1, if_neg (by decide)]
    refine wpAny_bind ?_
    show wpAny _ _ (if (!t.led && decide (es.size > 1)) = true then unsupported _ else pure ()) _ _ _
    have e2 : (!t.led && decide (es.size > 1)) = false := by rw [decide_eq_false (by (exact Nat.not_lt_of_le (by assumption)))]; simp
    rw [e2, if_neg (by decide)]
    exact wpAny_pure (wpAny_pure (h _))

theorem clear_any {a : Addr} {o : Obj} {vs : List (List Str × Int)} {Q : Unit → Shared → Prop} (ho : s.heap.get? a = some o) (hP : PSet w I vs o)
    (k : ∀ h' o', (∀ c, c ≠ a → h'.get? c = s.heap.get? c) → h'.get? a = some o' → PSet w I [] o' → Q () { s with heap := h' }) : wpAny (model prog w) A (Builtin.Frozenset.clearAll a) Q E s := by
  (refine el_4_6 hP fun es ep t us hex hd hmem hok hlen hus rEl => ?_; try clear hP; (refine el_0_2 rEl fun hT hpl hled => ?_; try clear rEl))
  unfold Builtin.Frozenset.clearAll
  suffices H : ∀ g : Option (List Value) → Sem Unit, (∀ old s', Q () s' → wpAny (model prog w) A (g old) Q E s') → wpAny (model prog w) A (setClear a >>= g) Q E s by
    refine H _ fun old s' h => ?_
    cases old with
    | none => exact wpAny_point h
    | some l => exact wpAny_letGo h
  intro g hg
  unfold setClear
  have last : ∀ old : Option (List Value), ∀ b : Bool, (w.params.followText "set-order" = false → b = true) → wpAny (model prog w) A (do storeSet a #[] (t.cleared b); pure old) (fun r s' => wpAny (model prog w) A (g r) Q E s') E s := by
    intro old b hb
    refine wpAny_bind (wpAny_storeSet_of ho hd (wpAny_pure ?_) (by show 0 ≤ sizeLine; simp))
    have h1 : (s.heap.update a (Obj.putSet #[] (t.cleared b))).get? a = some { o with data := .set #[] (ep + 1) (t.cleared b) } := by
      have := Heap.get?_update_self (Obj.putSet #[] (t.cleared b)) ho (by rw [putSet_of _ _ hd]; rfl)
      rw [putSet_of _ _ hd] at this; exact this
    have fin : Q () { s with heap := s.heap.update a (Obj.putSet #[] (t.cleared b)) } := by
      refine k _ _ (fun c hc => (Heap.SameBut.update s.heap a _).2 c hc) h1 (in_4_8 (#[]) (ep + 1) (t.cleared b) ([]) hex rfl (fun v => .rfl) (fun v hv => by simp at hv) (Nat.le_refl _) (.nil) ?_ (fun h => by simp at h) hb)
      exact ⟨rfl, rfl, fun i j _ h => by simp [SetTable.cleared, SetTable.fresh] at h, fun i h => by simp [SetTable.cleared, SetTable.fresh] at h, (in_1_0 3 rfl), by show 0 * 5 < 7 * 3; (exact Nat.zero_lt_succ _), by show 7 ≤ 8 * 0 + 7; (exact Nat.le_add_left _ _)⟩
    exact hg old _ fin
  refine wpAny_bind ?_
  refine wpAny_bind ?_
  unfold setDeathsKnown
  refine wpAny_bind (wpAny_setState_of ho hd hT.fits ?_)
  dsimp only
  unfold setsByText
  refine wpAny_bind (wpAny_bind (wpAny_askSetting (wpAny_pure ?_)))
  refine wpAny_pure ?_
  have rest : ∀ old : Option (List Value), wpAny (model prog w) A (do
      let t := (← setState a).2.2
      storeSet a #[] (t.cleared (led := !(← setsByText) && (t.led || t.finger == 0)))
      return old) (fun r s' => wpAny (model prog w) A (g r) Q E s') E s := by
    intro old
    refine wpAny_bind (wpAny_setState_of ho hd hT.fits ?_)
    dsimp only
    unfold setsByText
    refine wpAny_bind (wpAny_bind (wpAny_askSetting (wpAny_pure ?_)))
    exact last old _ fun q => by show (!w.params.followText "set-order" && (t.led || t.finger == 0)) = true; rw [q, hled q]; rfl
  split
  · rename_i hc
    refine wpAny_bind ?_
    unfold setItems
    refine wpAny_bind (walk_any (M := model prog w) ho hd hT.fits ?_ fun x => ?_)
    · rcases Bool.or_eq_true_iff.mp hc with hc | hc
      · rcases Bool.or_eq_true_iff.mp hc with hc | hc
        · exact .inl hc
        · right
          have hp := (Bool.and_eq_true_iff.mp hc).2
          by_cases hz : 0 < es.size
          · rw [hpl hz] at hp; cases hp
          · omega
      · right; simpa using hc
    · exact wpAny_pure (wpAny_bind (wpAny_pure (rest _)))
  · exact wpAny_bind (wpAny_pure (rest _))
end

section
variable {C : Cx} {dep : Nat} {KF I : IM} {st : CSt} {s : Shared} {Q : CV → CSt → Prop}
theorem zip_nil_left {α β : Type} (l : List β) : (([] : List α).zip l) = [] := by cases l <;> rfl

theorem WMeth.set {vs} {a : Addr} {name : Str} {id : String} (hH : st.H a = some (.set vs)) (slot : Slot "set" name id) (hty : typeOf (.builtin id) = pure (.type "method_descriptor")) : WMeth C (.loc a) name (.builtin id) st := fun I v KF s pl E Q r S q => by
  simp only [VR] at r; subst r
  (refine el_0_2 (S.mu a _ hH) fun _ _ rEl => ?_; (refine el_1_1 rEl fun o ho sEl => ?_; try clear rEl; obtain ⟨es, ep, t, us, hex, _⟩ := sEl))
  exact getMethod_builtin (in_1_1 o ho hex.1) F.plainAttrs_set slot hty (fun b e => by cases e; exact (in_1_1 o ho hex.2.1)) (q s.toks)
theorem WMeth.iset {vs} {a : Addr} {name : Str} {id : String} (hH : st.H a = some (.iset vs)) (slot : Slot "set" name id) (hty : typeOf (.builtin id) = pure (.type "method_descriptor")) : WMeth C (.loc a) name (.builtin id) st := fun I v KF s pl E Q r S q => by
  simp only [VR] at r; subst r
  (refine el_0_2 (S.mu a _ hH) fun _ _ rEl => ?_; (refine el_1_1 rEl fun o ho sEl => ?_; try clear rEl; obtain ⟨es, ep, t, hex, _⟩ := sEl))
  exact getMethod_builtin (in_1_1 o ho hex.1) F.plainAttrs_set slot hty (fun b e => by cases e; exact (in_1_1 o ho hex.2.1)) (q s.toks)

theorem WCall.addPair {a : Addr} {vs : List (List Str × Int)} {p : List Str × Int} (ok : C.Ok dep) (hH : st.H a = some (.set vs)) (hp : pok p = true) (hn : vs.length ≤ 900) (h : Q .none { st with H := hput st.H a (.set (vs ++ [p])) }) :
    WCall C (.builtin "set.add") [.loc a, pcv p] [] [] st Q := fun I us vs' r1 r2 KF s S => by
  (revert r1; intro hfEl; refine el_2_1 hfEl.uncons fun x us1 xEl2 rEl => ?_; try clear hfEl; obtain rfl := xEl2; (refine el_0_1 rEl fun ra r1 => ?_; try clear rEl))
  (revert r1; intro hfEl; refine el_2_1 hfEl.uncons fun y us2 xEl2 rEl => ?_; try clear hfEl; obtain rfl := xEl2; (refine el_0_1 rEl fun rp r1 => ?_; try clear rEl))
  have := r1.nil_iff; subst this
  rw [zip_nil_left]
  simp only [VR] at ra; subst ra
  (refine el_0_2 (S.mu a _ hH) fun hi _ rEl => ?_; (refine el_1_1 rEl fun o ho hP => ?_; try clear rEl))
  have hu := ok.units
  have hT : s.TypeIs (.ref a) "set" := by (refine el_4_1 hP fun es ep t us hex _ => ?_; try clear hP); exact (in_1_1 o ho hex.1)
  refine wpAny_call_entry F.slot_set_add hT F.entry_set_add ?_ (F.args_set_add_2 _ _)
  unfold Builtin.«set.add» Builtin.Frozenset.oneOther
  simp only [List.isEmpty_nil, bind_assoc]
  unfold Builtin.Frozenset.addrOf setAdd
  refine wpAny_bind (wpAny_pure ?_)
  try dsimp only
  refine wpAny_bind (wpAny_pure ?_)
  try dsimp only
  refine wpAny_bind ?_
  refine wpAny_holding ?_
  refine wpAny_bind (hash_pair rp S.imm (by simp only [Around.in1_units]; omega) fun n tk => ?_)
  refine add_any (s := { s with toks := tk }) ho hP S.imm hi rp hp (by simp only [Around.in1_units]; omega) hn fun b h' o' hs ho' hP' => ?_
  refine wpAny_pure (in_1_1 _ rfl ⟨I, _, .refl I, S.setH (tk := tk) (c := .set (vs ++ [p])) hH (fun c o hc e => (hs c hc).trans e) ho' hP', .none, by simp [VR], h⟩)

theorem WCall.clearPairs {a : Addr} {vs : List (List Str × Int)} (ok : C.Ok dep) (hH : st.H a = some (.set vs)) (h : Q .none { st with H := hput st.H a (.set []) }) :
    WCall C (.builtin "set.clear") [.loc a] [] [] st Q := fun I us vs' r1 r2 KF s S => by
  (revert r1; intro hfEl; refine el_2_1 hfEl.uncons fun x us1 xEl2 rEl => ?_; try clear hfEl; obtain rfl := xEl2; (refine el_0_1 rEl fun ra r1 => ?_; try clear rEl))
  have := r1.nil_iff; subst this
  rw [zip_nil_left]
  simp only [VR] at ra; subst ra
  (refine el_0_2 (S.mu a _ hH) fun hi _ rEl => ?_; (refine el_1_1 rEl fun o ho hP => ?_; try clear rEl))
  have hT : s.TypeIs (.ref a) "set" := by (refine el_4_1 hP fun es ep t us hex _ => ?_; try clear hP); exact (in_1_1 o ho hex.1)
  refine wpAny_call_entry F.slot_set_clear hT F.entry_set_clear ?_ (F.args_set_clear_1 _)
  unfold Builtin.«set.clear» Builtin.Frozenset.noArgs
  simp only [List.isEmpty_nil, bind_assoc]
  unfold Builtin.Frozenset.addrOf
  refine wpAny_bind (wpAny_pure ?_)
  try dsimp only
  try refine wpAny_bind (wpAny_pure ?_)
  try dsimp only
  refine wpAny_bind (clear_any ho hP fun h' o' hs ho' hP' => ?_)
  exact wpAny_pure (in_1_1 _ rfl ⟨I, _, .refl I, S.setH (tk := s.toks) (c := .set []) hH (fun c o hc e => (hs c hc).trans e) ho' hP', .none, by simp [VR], h⟩)

set_option maxHeartbeats 1000000 in
/-- a new set, its maker known -/
theorem setMade_any {prog : Program} {w : World} {A : Around} {E : Value → Shared → Prop} {s : Shared} {R : Value → Shared → Prop}
    (h : R (.ref s.heap.objs.size) { s with heap := s.heap.push { cls := .type "set", dict := Option.none, data := .set #[] 0 (.fresh 0 0 (!w.params.followText "set-order")) } }) :
    codeAny (model prog w) A (.call (.builtin "set.__new__") ⟨[.type "set"], []⟩) (wants R E) s := by
  refine codeAny_of_tree ?_
  show wpAny _ A.in1 (do checkBuiltinCall "set.__new__" ⟨[.type "set"], []⟩; again (.builtin "set.__new__" ⟨[.type "set"], []⟩)) _ _ s
  refine wpAny_bind (wpAny_of_eq F.newCall_set_0 (wpAny_pure ⟨plainId_quiet F.plain_set_new _, codeAny_builtin F.entry_set_new ?_⟩))
  rw [Around.under_plainId F.plain_set_new _]
  unfold Builtin.«set.__new__» Builtin.Frozenset.newClass
  have hsub := sub_set_self
  obtain ⟨hp, g, d, tk, os⟩ := s
  dsimp only
  wp_walk
  refine wpAny_askSetting (wpAny_pure ?_)
  dsimp only
  simp only [newObj]
  exact wpAny_bind (wpAny_alloc (wpAny_pure (wpAny_pure h)))
set_option maxHeartbeats 1000000 in
theorem setCalled_any {prog : Program} {w : World} {A : Around} {E : Value → Shared → Prop} {s : Shared} {R : Value → Shared → Prop}
    (h : R (.ref s.heap.objs.size) { s with heap := s.heap.push { cls := .type "set", dict := Option.none, data := .set #[] 0 (.fresh 0 0 (!w.params.followText "set-order")) } }) :
    wpAny (model prog w) A (PySem.call (.type "set") []) R E s := by
  (refine el_2_0 F.called_set.mro fun c tl hmro => ?_)
  have hmade := F.called_set.made
  have hsub := F.called_set.sub
  refine wpAny_call (codeAny_of_tree ?_)
  show wpAny _ _ (callAny (.type "set") _) _ _ _
  refine wpAny_pure ⟨Code.quiet_builtin _ (by decide +kernel), codeAny_builtin F.entry_type_call ?_⟩
  rw [Around.under_plain (weight_type_call_type "set" [] []) rfl]
  have h1 := F.called_set.notType
  have h2 := F.called_set.canCreate
  have hct := F.typeCall_set_0
  repeat (any_goals (first | assumption | wp_step))
  refine codeAny_mono (setMade_any (E := E) (R := fun obj s₁ => obj = .ref s.heap.objs.size ∧ s₁ = { s with heap := s.heap.push { cls := .type "set", dict := Option.none, data := .set #[] 0 (.fresh 0 0 (!w.params.followText "set-order")) } }) ⟨rfl, rfl⟩) fun r s₁ hr => ?_
  cases r with
  | error e => exact hr
  | ok fl =>
    cases fl with
    | ret obj =>
      (refine el_0_1 hr fun xEl0 xEl1 => ?_; try clear hr; obtain rfl := xEl0; obtain rfl := xEl1)
      have hT : Shared.TypeIs { s with heap := s.heap.push { cls := .type "set", dict := Option.none, data := .set #[] 0 (.fresh 0 0 (!w.params.followText "set-order")) } } (.ref s.heap.objs.size) "set" := (in_1_1 _ (Heap.get?_push_size _ rfl) rfl)
      have hli := F.called_set.init.lookup
      have hbi := F.called_set.init.bind (.ref s.heap.objs.size)
      repeat (any_goals (first | assumption | wp_step))
      refine codeAny_mono (codeAny_call_builtin (R := wants (fun r s₂ => r = .none ∧ R (.ref s.heap.objs.size) s₂) E) F.called_set.init.plain F.entry_set_init (check_set_init hT ?_)) fun r₂ s₂ hr₂ => ?_
      · unfold Builtin.«set.__init__» noKeywords
        wp_walk
        exact ⟨rfl, h⟩
      · cases r₂ with
        | error e => exact hr₂
        | ok fl₂ =>
          cases fl₂ with
          | ret v => (refine el_0_1 hr₂ fun xEl0 hq => ?_; try clear hr₂; obtain rfl := xEl0); first | exact hq | exact wpAny_pure hq | (repeat (any_goals (first | assumption | wp_step)))
          | _ => exact hr₂
    | _ => exact hr
theorem WCall.setNewP (h : ∀ a, st.H a = none → Q (.loc a) { st with H := hput st.H a (.set []) }) : WCall C (.type "set") [] [] [] st Q := fun I us vs' r1 r2 KF s S => by
  have := r1.nil_iff; subst this
  rw [zip_nil_left]
  refine setCalled_any ?_
  obtain ⟨hn, S'⟩ := S.newH (o := { cls := .type "set", dict := .none, data := .set #[] 0 (.fresh 0 0 (!C.w.params.followText "set-order")) }) (c := .set []) rfl
    (in_4_8 (#[]) 0 (.fresh 0 0 (!C.w.params.followText "set-order")) ([]) (in_0_2 rfl rfl rfl) rfl (fun v => .rfl) (fun v hv => by simp at hv) (Nat.le_refl _) (.nil) ⟨rfl, rfl, fun i j _ h => by simp [SetTable.fresh] at h, fun i h => by simp [SetTable.fresh] at h, (in_1_0 3 rfl), by show 0 * 5 < 7 * 3; (exact Nat.zero_lt_succ _), by show 7 ≤ 8 * 0 + 7; (exact Nat.le_add_left _ _)⟩ (fun h => by simp at h) (fun q => by show (!C.w.params.followText "set-order") = true; rw [q]; rfl))
  exact ⟨I, _, .refl I, S', .loc _, by simp [VR], h _ hn⟩
theorem WCall.setNewI (h : ∀ a, st.H a = none → Q (.loc a) { st with H := hput st.H a (.iset []) }) : WCall C (.type "set") [] [] [] st Q := fun I us vs' r1 r2 KF s S => by
  have := r1.nil_iff; subst this
  rw [zip_nil_left]
  refine call_set_0 fun led => ?_
  obtain ⟨hn, S'⟩ := S.newH (o := { cls := .type "set", dict := .none, data := .set #[] 0 (.fresh 0 0 led) }) (c := .iset []) rfl
    (in_3_6 (#[]) 0 (.fresh 0 0 led) (in_0_2 rfl rfl rfl) rfl (fun e he => by simp at he) (fun k => by simp) (by decide) (by rfl) rfl)
  exact ⟨I, _, .refl I, S', .loc _, by simp [VR], h _ hn⟩

theorem iset_of {s : Shared} {a : Addr} {vs : List Int} {o : Obj} (ho : s.heap.get? a = some o) (h : ISet C.prog C.w vs o) : s.heap.SetOf (intKind C.prog C.w) a (fun k => decide (k ∈ vs)) vs.length := by
  (refine el_3_6 h fun es ep t h1 h2 h3 h4 h5 h6 h7 => ?_; try clear h)
  exact (in_4_7 o es ep t ho h1 h2 h3 h4 h5 h6 h7)

theorem WCall.isetAdd {a : Addr} {vs : List Int} {k : Int} (hH : st.H a = some (.iset vs)) (hn : vs.length ≤ 900) (h : Q .none { st with H := hput st.H a (.iset (if k ∈ vs then vs else vs ++ [k])) }) :
    WCall C (.builtin "set.add") [.loc a, .int k] [] [] st Q := fun I us vs' r1 r2 KF s S => by
  (revert r1; intro hfEl; refine el_2_1 hfEl.uncons fun x us1 xEl2 rEl => ?_; try clear hfEl; obtain rfl := xEl2; (refine el_0_1 rEl fun ra r1 => ?_; try clear rEl))
  (revert r1; intro hfEl; refine el_2_1 hfEl.uncons fun y us2 xEl2 rEl => ?_; try clear hfEl; obtain rfl := xEl2; (refine el_0_1 rEl fun rp r1 => ?_; try clear rEl))
  have := r1.nil_iff; subst this
  rw [zip_nil_left]
  simp only [VR] at ra rp; subst ra
  (refine el_1_0 rp fun tk xEl1 => ?_; try clear rp; obtain rfl := xEl1)
  (refine el_0_2 (S.mu a _ hH) fun hi _ rEl => ?_; (refine el_1_1 rEl fun o ho hP => ?_; try clear rEl))
  refine call_set_add (knd := intKind C.prog C.w) (k := k) (by simp [intKind, Value.isInt]) rfl (iset_of ho hP) (by show _ < 4096; omega) fun h' hs hS => ?_
  (refine el_4_6 hS fun o' es ep t b1 b2 b3 b4 b5 b6 rEl => ?_; try clear hS; (refine el_0_1 rEl fun b7 b8 => ?_; try clear rEl))
  refine ⟨I, _, .refl I, S.setH (tk := s.toks + 1) (c := .iset (if k ∈ vs then vs else vs ++ [k])) hH (fun c o hc e => (hs.2 c hc).trans e) b1 (in_3_6 es ep t b2 b3 b4 (fun j => ?_) b6 b7 ?_), .none, by simp [VR], h⟩
  · rw [← b5 j]
    by_cases q : k ∈ vs <;> by_cases q2 : j = k <;> simp [q, q2]
  · rw [b8]; by_cases q : k ∈ vs <;> simp [q]

theorem W2.inISet {a : Addr} {vs : List Int} {k : Int} (hH : st.H a = some (.iset vs)) (h : Q (.bool (decide (k ∈ vs))) st) : W2 C (compareOp .In) (.int k) (.loc a) st Q := fun I v u r1 r2 KF s S => by
  simp only [VR] at r1 r2; subst r2
  (refine el_1_0 r1 fun tk xEl1 => ?_; try clear r1; obtain rfl := xEl1)
  (refine el_0_2 (S.mu a _ hH) fun hi _ rEl => ?_; (refine el_1_1 rEl fun o ho hP => ?_; try clear rEl))
  exact wpAny_inSet_of (knd := intKind C.prog C.w) (k := k) (by simp [intKind, Value.isInt]) rfl (iset_of ho hP) ⟨I, st, .refl I, S.toks _, .bool _, by simp [VR], h⟩
end
end Mine
open PySem PySem.W PySem.Calls PyProof.Rows
set_option Elab.async false
set_option linter.all false
set_option maxRecDepth 100000
set_option genSizeOf false
namespace Mine
open SetTable

theorem slot_set_iterator_next : Slot "set_iterator" "__next__" "set_iterator.__next__" :=
  .of (owner := "set_iterator") (n := "__next__") (by rw [typeLookup_type, builtinLookup_eq_fast]; kernel_rfl) (by decide +kernel) (by decide +kernel) (by decide +kernel) (.inl (by decide +kernel)) (by rw [isSubtype_type]; kernel_rfl)
theorem entry_set_iterator_next : entryFor table "set_iterator.__next__" = some Builtin.«set_iterator.__next__» := entryFor_of_tree (by kernel_rfl)
theorem owner_set_iterator : Manifest.owners.lookup (String.ofList ['r', 'o', 't', 'a', 'r', 'e', 't', 'i', '_', 't', 'e', 's'].reverse) = some Manifest.sig_set_iterator := by kernel_rfl
theorem args_set_iterator_next (a : Value) : argsOk "set_iterator.__next__" ⟨[a], []⟩ := by
  unfold argsOk; rw [signature?_of (id := "set_iterator.__next__") (n := ['_', '_', 't', 'x', 'e', 'n', '_', '_']) (o := ['r', 'o', 't', 'a', 'r', 'e', 't', 'i', '_', 't', 'e', 's']) (by kernel_rfl) owner_set_iterator]; kernel_rfl
theorem entry_set_iter : entryFor table "set.__iter__" = some Builtin.«frozenset.__iter__» := entryFor_alias (id' := "frozenset.__iter__") (by kernel_rfl) rfl (by decide +kernel) (by kernel_rfl)

theorem erase_perm {α : Type} : ∀ (l : List α) (i : Nat) (h : i < l.length), (l[i] :: l.eraseIdx i).Perm l
  | [], i, h => by simp at h
  | x :: l, 0, h => .refl _
  | x :: l, i + 1, h => by
    have := erase_perm l i (by simpa using h)
    simp only [List.getElem_cons_succ, List.eraseIdx_cons_succ]
    exact (List.Perm.swap _ _ _).trans (this.cons x)
theorem pick_perm {α : Type} (next : Nat → Nat) : ∀ (fuel k : Nat) (left : List α) (out : Array α), left.length ≤ fuel → (pickOrder.go next fuel k left out).toList.Perm (out.toList ++ left)
  | 0, k, left, out, h => by
    have : left = [] := by cases left with | nil => rfl | cons _ _ => simp at h
    subst this; unfold pickOrder.go; simp
  | fuel + 1, k, left, out, h => by
    unfold pickOrder.go
    cases e : left[next k % left.length]? with
    | none =>
      dsimp only
      have : left = [] := by
        cases left with
        | nil => rfl
        | cons x l =>
          have hlt : next k % (x :: l).length < (x :: l).length := Nat.mod_lt _ (by simp)
          rw [List.getElem?_eq_getElem hlt] at e; cases e
      subst this; simp
    | some x =>
      dsimp only
      (refine el_1_0 (List.getElem?_eq_some_iff.mp e) fun hlt hx => ?_)
      refine (pick_perm next fuel (k + 1) _ _ (by rw [List.length_eraseIdx_of_lt hlt]; (exact Nat.sub_le_of_le_add (by assumption)))).trans ?_
      rw [Array.toList_push, List.append_assoc]
      refine List.Perm.append_left _ ?_
      have : left.Perm (x :: left.eraseIdx (next k % left.length)) := by
        rw [← hx]; exact (erase_perm _ _ hlt).symm
      exact this.symm
theorem pickOrder_perm {α : Type} (next : Nat → Nat) (xs : Array α) : (pickOrder next xs).toList.Perm xs.toList := by
  unfold pickOrder
  have := pick_perm next xs.size 0 xs.toList #[] (by simp)
  simpa using this

section
variable {prog : Program} {w : World} {A : Around} {E : Value → Shared → Prop} {s : Shared} {I : IM}
theorem wpAny_choose {M : Model} {src : Source} {n : Nat} {Q : Nat → Shared → Prop} (hn : n ≠ 0) (h : ∀ i d, i < n → Q i { s with drawn := d }) : wpAny M A (choose src n) Q E s := fun Γ p _ => by
  show Sem.wp M Γ (Sem.choose src n Sem.pure) _ _ p s
  rw [Sem.wp_choose]
  exact ⟨hn, h _ _ (Nat.mod_lt _ (Nat.pos_of_ne_zero hn))⟩
theorem drawOrder_any {M : Model} {α : Type} : ∀ (n : Nat) (xs : List α) (s : Shared) (Q : List α → Shared → Prop), xs.length = n → (∀ l d, l.Perm xs → Q l { s with drawn := d }) → wpAny M A (drawOrder n xs) Q E s
  | 0, xs, s, Q, hn, h => by
    have : xs = [] := by cases xs with | nil => rfl | cons _ _ => simp at hn
    subst this
    unfold drawOrder
    exact wpAny_pure (h [] s.drawn (.refl _))
  | n + 1, [], s, Q, hn, h => by simp at hn
  | n + 1, x :: xs, s, Q, hn, h => by
    unfold drawOrder
    refine wpAny_bind (wpAny_choose (by simp) fun i d hi => ?_)
    have hlt : i < (x :: xs).length := hi
    rw [List.getElem?_eq_getElem hlt]
    dsimp only
    refine wpAny_bind (drawOrder_any n _ _ _ (by rw [List.length_eraseIdx_of_lt hlt, hn]; rfl) fun l d' hl => ?_)
    exact wpAny_pure (h _ d' ((hl.cons _).trans (erase_perm _ _ hlt)))

/-- the end of a walk over a set -/
theorem stop_any {it : Addr} {o : Obj} {vs : Array Value} {k : Nat} {Q : Option Value → Shared → Prop} (hA : A.handled = none) (ho : s.heap.get? it = some o) (hc : o.cls = .type "set_iterator") (hd : o.data = .fields vs) (hk : k < vs.size)
    (hQ : ∀ h', Heap.ExtBut it s.heap h' → Q none { s with heap := h' }) :
    wpAny (model prog w) A.in1 (do setField (.ref it) k .none; raiseNew (← newExc (.type "StopIteration") [])) (fun fin s' => ∃ v, fin = Fin.done (.ret v) ∧ Q (some v) s') (fun e s' => wpAny (model prog w) A (do if ← isInstance e (.type "StopIteration") then pure none else throw e) Q E s') s := by
  refine wpAny_bind (wpAny_setField ho hd hk ?_)
  refine wpAny_bind ?_
  simp only [newExc, newTuple]
  refine wpAny_bind (wpAny_newObj_type ?_ (by size_fits))
  refine wpAny_bind (m := firstArgMember _ _) (wpAny_of_eq (a := Value.none) (by first | rfl | (simp only [firstArgMember]; rfl)) ?_)
  refine wpAny_newObj_type ?_ (by size_fits)
  simp only [raiseNew]
  refine wpAny_bind (wpAny_handled ?_)
  first | rw [show A.in1.handled = none from hA] | rw [hA]
  refine wpAny_bind (wpAny_pure (wpAny_throw ?_))
  refine wpAny_bind (wpAny_isInstance (T := "StopIteration") (b := true) (in_1_1 _ (Heap.get?_push_size _ rfl) rfl) isSubtype_stop ?_)
  exact wpAny_pure (hQ _ (((Heap.SameBut.update ..).extBut.push _).push _))
end
end Mine
open PySem PySem.W PySem.Calls PyProof.Rows
set_option Elab.async false
set_option linter.all false
set_option maxRecDepth 100000
set_option genSizeOf false
namespace Mine
open SetTable

/-- the walk over a set, by whichever first field -/
noncomputable def SIt (h : Heap) (it : Addr) (first : Value) (i : Nat) (a : Addr) (n ep : Nat) : Prop := ∃ o, h.get? it = some o ∧ o.cls = .type "set_iterator" ∧ o.data = .fields #[first, .int i 0, .ref a, .int n 0, .int ep 0]

section
variable {prog : Program} {w : World} {A : Around} {E : Value → Shared → Prop} {s : Shared} {I : IM}

theorem SIt.typeIs {it first i a n ep} (h : SIt s.heap it first i a n ep) : s.TypeIs (.ref it) "set_iterator" := let ⟨o, a, b, _⟩ := h; (in_1_1 o a b)

theorem head_any {it : Addr} {first : Value} {i n ep : Nat} {a : Addr} {oa : Obj} {es : Array (Int × Value)} {t : SetTable} {Q : Option Value → Shared → Prop} (hi : SIt s.heap it first i a n ep) (hoa : s.heap.get? a = some oa) (hda : oa.data = .set es ep t) (hf : t.fits es.size = true) (hn : es.size = n)
    (h : wpAny (model prog w) A.in1 (if let .int slot _ := first then (do
    match ← setNext a slot.toNat i ep with
    | some (x, next) =>
      setField (.ref it) 0 (rawInt next)
      setField (.ref it) 1 (rawInt (i + 1))
      ret x
    | none => setField (.ref it) 2 .none; raiseNew (← newExc (.type "StopIteration") []))
  else (do
    let some places ← seqItems? first | unsupported "internal:set_iterator"
    match places[i]? with
    | some (.int place _) =>
      let x ← setNextDrawn a place.toNat ep
      setField (.ref it) 1 (rawInt (i + 1))
      ret x
    | some _ => unsupported "internal:set_iterator"
    | none => setField (.ref it) 0 (rawInt 0); setField (.ref it) 2 .none; raiseNew (← newExc (.type "StopIteration") []))) (fun fin s' => ∃ v, fin = Fin.done (.ret v) ∧ Q (some v) s') (fun e s' => wpAny (model prog w) A (do if ← isInstance e (.type "StopIteration") then pure none else throw e) Q E s') s) :
    wpAny (model prog w) A (pyNext (.ref it)) Q E s := by
  (refine el_1_2 (id hi) fun o ho hc hd => ?_)
  unfold pyNext
  refine wpAny_bind (wpAny_attempt (wpAny_callSpecial?_slot (name := Str.ofString "__next__") hi.typeIs slot_set_iterator_next
    (wpAny_call_entry slot_set_iterator_next hi.typeIs entry_set_iterator_next ?_ (args_set_iterator_next _))))
  unfold Builtin.«set_iterator.__next__»
  show wpAny _ _ (fieldsOf (.ref it) >>= _) _ _ s
  refine wpAny_bind (wpAny_fieldsOf ho hd ?_)
  dsimp only
  refine wpAny_bind (wpAny_setEntries_of hoa hda hf ?_)
  have e : (((es.size : Nat) : Int) != (n : Int)) = false := by rw [hn]; simp
  rw [e]
  simp only [Bool.false_eq_true, if_false, Int.toNat_natCast]
  refine wpAny_mono h ?_ fun _ _ x => x
  intro fin s' hEl
  (refine el_1_1 hEl fun v xEl1 q => ?_; try clear hEl; obtain rfl := xEl1)
  exact (in_1_1 v rfl (wpAny_pure q))

theorem SIt.set {h : Heap} {it : Addr} {first : Value} {i n ep : Nat} {a : Addr} (hi : SIt h it first i a n ep) : SIt (h.update it (Obj.mapFields (·.setIfInBounds 1 (rawInt ((i : Int) + 1))))) it first (i + 1) a n ep := by
  (refine el_1_2 hi fun o ho hc hd => ?_; try clear hi)
  exact (in_1_2 _ (Heap.get?_update_self _ ho (Obj.isFreed_of_fields (Obj.data_mapFields hd _))) ((Obj.cls_mapFields ..).trans hc) (by rw [Obj.data_mapFields hd]; rfl))
theorem SIt.set0 {h : Heap} {it : Addr} {first : Value} {i n ep nx : Nat} {a : Addr} (hi : SIt h it first i a n ep) : SIt (h.update it (Obj.mapFields (·.setIfInBounds 0 (rawInt (nx : Int))))) it (.int nx 0) i a n ep := by
  (refine el_1_2 hi fun o ho hc hd => ?_; try clear hi)
  exact (in_1_2 _ (Heap.get?_update_self _ ho (Obj.isFreed_of_fields (Obj.data_mapFields hd _))) ((Obj.cls_mapFields ..).trans hc) (by rw [Obj.data_mapFields hd]; rfl))

/-- a walk over clean values, with an object that is kept beside it -/
structure Walk2 (prog : Program) (w : World) (xs : List CV) (it l : Addr) (D : Nat → IM → Heap → Prop) : Prop where
  item : ∀ (A : Around) (J : IM) (s : Shared) (i : Nat) (c : CV) (E : Value → Shared → Prop) (Q : Option Value → Shared → Prop), (∀ a o, J a = some o → s.heap.get? a = some o) → D i J s.heap → xs[i]? = some c →
    (∀ h' tk v, D (i + 1) J h' → VR J c v → (∀ b o, b ≠ it → s.heap.get? b = some o → h'.get? b = some o) → (∃ o, h'.get? it = some o) → Q (some v) { s with heap := h', toks := tk }) → wpAny (model prog w) A (pyNext (.ref it)) Q E s
  fin : ∀ (A : Around) (J : IM) (s : Shared) (E : Value → Shared → Prop) (Q : Option Value → Shared → Prop), A.handled = none → (∀ a o, J a = some o → s.heap.get? a = some o) → D xs.length J s.heap →
    (∀ h' tk, (∀ b o, b ≠ it → s.heap.get? b = some o → h'.get? b = some o) → Q none { s with heap := h', toks := tk }) → wpAny (model prog w) A (pyNext (.ref it)) Q E s
  frame : ∀ (J J' : IM) (h h' : Heap) (i : Nat), D i J h → ILe J J' → (∀ o, h.get? it = some o → h'.get? it = some o) → (∀ o, h.get? l = some o → h'.get? l = some o) → (∀ a o, J a = some o → h.get? a = some o → h'.get? a = some o) → D i J' h'
  cls : ∀ (J : IM) (h : Heap) (i : Nat), D i J h → ∃ o n, h.get? it = some o ∧ o.cls = .type n ∧ (["enumerate", "zip", "dict_itemiterator", "dict_reverseitemiterator", "odict_iterator", "itertools.zip_longest", "itertools.pairwise"].contains n) = false

theorem walk2_int {it a : Addr} {oa : Obj} {es : Array (Int × Value)} {t : SetTable} {n ep : Nat} {slot : Nat → Nat} {xs : List CV} {vals : List Value} (hne : it ≠ a) (hda : oa.data = .set es ep t) (hf : t.fits es.size = true) (hn : es.size = n) 
    (hstep : ∀ (A : Around) (s : Shared) (i : Nat) (x : Value) (E : Value → Shared → Prop) (Q : Option (Value × Nat) → Shared → Prop), s.heap.get? a = some oa → vals[i]? = some x → Q (some (x, slot (i + 1))) s → wpAny (model prog w) A (setNext a (slot i) i ep) Q E s)
    (hend : ∀ (A : Around) (s : Shared) (E : Value → Shared → Prop) (Q : Option (Value × Nat) → Shared → Prop), s.heap.get? a = some oa → Q none s → wpAny (model prog w) A (setNext a (slot vals.length) vals.length ep) Q E s) :
    Walk2 prog w xs it a (fun i J h => SIt h it (.int (slot i) 0) i a n ep ∧ h.get? a = some oa ∧ VRs J xs vals) := by
  refine ⟨fun A J s i c E Q S ⟨h1, h2, h3⟩ hc k => ?_, fun A J s E Q hA S ⟨h1, h2, h3⟩ k => ?_, fun J J' h h' i ⟨h1, h2, h3⟩ l k1 k2 k3 => ?_, fun J h i ⟨⟨o, h1, h2, _⟩, _⟩ => (in_2_2 o _ h1 h2 (by decide +kernel))⟩
  · (refine el_1_1 (h3.get hc) fun v hv hr => ?_)
    refine head_any h1 h2 hda hf hn ?_
    dsimp only
    simp only [Int.toNat_natCast]
    refine wpAny_bind (hstep _ _ _ _ _ _ h2 hv ?_)
    dsimp only
    (refine el_1_2 (id h1) fun o ho hc' hd => ?_)
    refine wpAny_bind (wpAny_setField ho hd (by simp) ?_)
    have g1 := h1.set0 (nx := slot (i + 1))
    (refine el_1_2 (id g1) fun o1 ho1 hc1 hd1 => ?_)
    refine wpAny_bind (wpAny_setField (s := { s with heap := _ }) ho1 hd1 (by simp) ?_)
    refine wpAny_pure (in_1_1 v rfl ?_)
    have sb := (Heap.SameBut.update s.heap it (Obj.mapFields (·.setIfInBounds 0 (rawInt (slot (i + 1) : Int))))).trans (Heap.SameBut.update _ it (Obj.mapFields (·.setIfInBounds 1 (rawInt ((i : Int) + 1)))))
    exact k _ s.toks v (in_0_2 g1.set ((sb.2 a (Ne.symm hne)).trans h2) h3) hr (fun b o hb e => (sb.2 b hb).trans e) (let ⟨o, ho, _⟩ := g1.set; (in_1_0 o ho))
  · refine head_any h1 h2 hda hf hn ?_
    dsimp only
    simp only [Int.toNat_natCast]
    have e : xs.length = vals.length := h3.length
    rw [e]
    refine wpAny_bind (hend _ _ _ _ h2 ?_)
    dsimp only
    (refine el_1_2 (id h1) fun o ho hc' hd => ?_)
    exact stop_any hA ho hc' hd (by simp) fun h' he => k h' s.toks fun b o hb e => he b o hb e
  · (refine el_1_2 h1 fun o a1 a2 a3 => ?_; try clear h1)
    exact (in_0_2 (in_1_2 o (k1 o a1) a2 a3) (k2 _ h2) (VRs.mono l _ _ h3))

theorem walk2_drawn {it a tp : Addr} {oa : Obj} {es : Array (Int × Value)} {t : SetTable} {n ep m : Nat} {ps : List Nat} {xs : List CV} {vals : List Value} (hne : it ≠ a) (hda : oa.data = .set es ep t) (hf : t.fits es.size = true) (hn : es.size = n)
    (hps : ∀ (i : Nat) (x : Value), vals[i]? = some x → ∃ p hh, ps[i]? = some p ∧ es[p]? = some (hh, x)) (hlen : ps.length = vals.length) :
    Walk2 prog w xs it a (fun i J h => SIt h it (.ref tp) i a n ep ∧ h.get? a = some oa ∧ VRs J xs vals ∧ J tp = some ⟨.type "tuple", .none, .seq (ps.map fun (j : Nat) => rawInt (j : Int)).toArray m, #[]⟩) := by
  refine ⟨fun A J s i c E Q S ⟨h1, h2, h3, h4⟩ hc k => ?_, fun A J s E Q hA S ⟨h1, h2, h3, h4⟩ k => ?_, fun J J' h h' i ⟨h1, h2, h3, h4⟩ l k1 k2 k3 => ?_, fun J h i ⟨⟨o, h1, h2, _⟩, _⟩ => (in_2_2 o _ h1 h2 (by decide +kernel))⟩
  · (refine el_1_1 (h3.get hc) fun v hv hr => ?_)
    (refine el_2_1 (hps i v hv) fun p hh hp1 hp2 => ?_)
    refine head_any h1 h2 hda hf hn ?_
    dsimp only
    refine wpAny_bind (wpAny_seqItems (S _ _ h4) rfl ?_)
    dsimp only
    have e1 : (ps.map fun (j : Nat) => rawInt (j : Int)).toArray[i]? = some (.int p 0) := by simp [hp1, rawInt]
    rw [e1]
    dsimp only
    refine wpAny_bind ?_
    unfold setNextDrawn
    refine wpAny_bind (wpAny_setState_of h2 hda hf ?_)
    dsimp only
    rw [if_neg (by simp), Int.toNat_natCast, hp2]
    refine wpAny_pure ?_
    (refine el_1_2 (id h1) fun o ho hc' hd => ?_)
    refine wpAny_bind (wpAny_setField ho hd (by simp) ?_)
    refine wpAny_pure (in_1_1 v rfl ?_)
    have sb := (Heap.SameBut.update s.heap it (Obj.mapFields (·.setIfInBounds 1 (rawInt ((i : Int) + 1)))))
    exact k _ s.toks v (in_0_3 h1.set ((sb.2 a (Ne.symm hne)).trans h2) h3 h4) hr (fun b o hb e => (sb.2 b hb).trans e) (let ⟨o, ho, _⟩ := h1.set; (in_1_0 o ho))
  · refine head_any h1 h2 hda hf hn ?_
    dsimp only
    refine wpAny_bind (wpAny_seqItems (S _ _ h4) rfl ?_)
    dsimp only
    have e : xs.length = vals.length := h3.length
    have e1 : (ps.map fun (j : Nat) => rawInt (j : Int)).toArray[xs.length]? = none := by simp; omega
    rw [e1]
    dsimp only
    (refine el_1_2 (id h1) fun o ho hc' hd => ?_)
    refine wpAny_bind (wpAny_setField ho hd (by simp) ?_)
    (refine el_1_2 (h1.set0 (nx := 0)) fun o1 ho1 hc1 hd1 => ?_)
    have sb := (Heap.SameBut.update s.heap it (Obj.mapFields (·.setIfInBounds 0 (rawInt ((0 : Nat) : Int)))))
    exact stop_any (s := { s with heap := _ }) hA ho1 hc1 hd1 (by simp) fun h' he => k h' s.toks fun b o hb e => he b o hb ((sb.2 b hb).trans e)
  · (refine el_1_2 h1 fun o a1 a2 a3 => ?_; try clear h1)
    exact (in_0_3 (in_1_2 o (k1 o a1) a2 a3) (k2 _ h2) (VRs.mono l _ _ h3) (l _ _ h4))
end
end Mine
open PySem PySem.W PySem.Calls PyProof.Rows
set_option Elab.async false
set_option linter.all false
set_option maxRecDepth 100000
set_option genSizeOf false
namespace Mine
open SetTable

section
variable {C : Cx} {dep : Nat} {KF I : IM} {st : CSt} {s : Shared}

theorem setNext_text {prog : Program} {w : World} {A : Around} {s : Shared} {E : Value → Shared → Prop} {a : Addr} {oa : Obj} {es : Array (Int × Value)} {ep slot i : Nat} {t : SetTable} {Q : Option (Value × Nat) → Shared → Prop} (hb : w.params.followText "set-order" = true)
    (ho : s.heap.get? a = some oa) (hd : oa.data = .set es ep t) (hf : t.fits es.size = true) (h : Q ((((pickOrder (w.params.setOrder a ep) es)[i]?).map fun e => (e.2, slot))) s) : wpAny (model prog w) A (setNext a slot i ep) Q E s := by
  unfold setNext
  refine wpAny_bind (wpAny_setState_of ho hd hf ?_)
  dsimp only
  unfold setsByText
  refine wpAny_bind (wpAny_bind (wpAny_askSetting (wpAny_pure ?_)))
  show wpAny _ _ (if w.params.followText "set-order" = true then _ else _) _ _ _
  rw [if_pos hb]
  rw [if_neg (by simp)]
  unfold setWalk
  refine wpAny_bind (wpAny_bind (wpAny_setState_of ho hd hf ?_))
  dsimp only
  unfold setsByText
  refine wpAny_bind (wpAny_bind (wpAny_askSetting (wpAny_pure ?_)))
  show wpAny _ _ (if w.params.followText "set-order" = true then _ else _) _ _ _
  rw [if_pos hb]
  exact wpAny_bind (wpAny_askSetting (wpAny_pure (wpAny_pure h)))
theorem setNext_one {prog : Program} {w : World} {A : Around} {s : Shared} {E : Value → Shared → Prop} {a : Addr} {oa : Obj} {es : Array (Int × Value)} {ep slot i : Nat} {t : SetTable} {Q : Option (Value × Nat) → Shared → Prop} (hb : w.params.followText "set-order" = false)
    (ho : s.heap.get? a = some oa) (hd : oa.data = .set es ep t) (hf : t.fits es.size = true) (hs : es.size ≤ 1) (hl : t.led = true) (h : Q (match es[below t.place slot]?, t.place[below t.place slot]? with | some (_, x), some j => some (x, j + 1) | _, _ => none) s) : wpAny (model prog w) A (setNext a slot i ep) Q E s := by
  unfold setNext
  refine wpAny_bind (wpAny_setState_of ho hd hf ?_)
  dsimp only
  unfold setsByText
  refine wpAny_bind (wpAny_bind (wpAny_askSetting (wpAny_pure ?_)))
  show wpAny _ _ (if w.params.followText "set-order" = true then _ else _) _ _ _
  rw [if_neg (by rw [hb]; decide)]
  show wpAny _ _ (if (!t.plain && decide (es.size > 1)) = true then _ else _) _ _ _
  have e1 : (!t.plain && decide (es.size > 1)) = false := by rw [decide_eq_false (by (exact Nat.not_lt_of_le (by assumption)))]; simp
  rw [e1, if_neg (by decide)]
  refine wpAny_bind ?_
  show wpAny _ _ (if (!t.led && !es.isEmpty) = true then unsupported _ else pure ()) _ _ _
  rw [hl, if_neg (by simp)]
  exact wpAny_pure (wpAny_pure h)

theorem iter_pairs {A : Around} {a : Addr} {vs : List (List Str × Int)} {oa : Obj} {E : Value → Shared → Prop} {Q : Value → Shared → Prop} (S : SR C KF I st s) (hH : st.H a = some (.set vs)) (hoa : s.heap.get? a = some oa) (hn : vs.length ≤ 1000)
    (k : ∀ J h' d it (us : List (List Str × Int)) D, ILe I J → SR C KF J st { s with heap := h', drawn := d } → (∀ v, v ∈ us ↔ v ∈ vs) → Walk2 C.prog C.w (us.map pcv) it a D → D 0 J h' → (J it = none ∧ KF it = none ∧ st.H it = none ∧ ¬ C.Own it) → (∃ o, h'.get? it = some o) → h'.get? a = some oa → Q (.ref it) { s with heap := h', drawn := d }) :
    wpAny (model C.prog C.w) A (pyIter (.ref a)) Q E s := by
  (refine el_0_2 (S.mu a _ hH) fun hia _ rEl => ?_; (refine el_1_1 rEl fun o ho hP => ?_; try clear rEl))
  rw [hoa] at ho; cases ho
  (refine el_4_6 hP fun es ep t us hex hd hmem hok hlen hus rEl => ?_; try clear hP; (refine el_0_2 rEl fun hT hpl hled => ?_; try clear rEl))
  have hT' : s.TypeIs (.ref a) "set" := (in_1_1 oa hoa hex.1)
  have hf := hT.fits
  have hnes : es.size = us.length := by have := hus.length; simp at this; exact this.symm
  refine wpAny_pyIter_slot hT' F.slot_set_iter (wpAny_call_entry F.slot_set_iter hT' entry_set_iter ?_ (F.args_set_iter_1 _))
  unfold Builtin.«frozenset.__iter__» Builtin.Frozenset.slot0
  simp only [List.isEmpty_nil, bind_assoc]
  unfold Builtin.Frozenset.addrOf Builtin.Frozenset.sizeOf
  refine wpAny_bind (wpAny_pure ?_)
  try dsimp only
  refine wpAny_bind (wpAny_pure ?_)
  try dsimp only
  refine wpAny_bind (wpAny_bind (wpAny_setEntries_of hoa hd hf (wpAny_pure ?_)))
  refine wpAny_bind ?_
  unfold setDrawn
  refine wpAny_bind (wpAny_setState_of hoa hd hf ?_)
  dsimp only
  unfold setsByText
  refine wpAny_bind (wpAny_bind (wpAny_askSetting (wpAny_pure ?_)))
  refine wpAny_pure ?_
  -- from the first field on
  have fin : ∀ (J : IM) (h1 : Heap) (d1 : Drawn) (first : Value) (ws : List (List Str × Int)) (D : Addr → Nat → IM → Heap → Prop), ILe I J → SR C KF J st { s with heap := h1, drawn := d1 } → h1.get? a = some oa → (∀ v, v ∈ ws ↔ v ∈ vs) →
      (∀ it, it ≠ a → Walk2 C.prog C.w (ws.map pcv) it a (D it)) → (∀ h2, (∀ b o, h1.get? b = some o → h2.get? b = some o) → SIt h2 h1.objs.size first 0 a es.size ep → D h1.objs.size 0 J h2) → 
      wpAny (model C.prog C.w) A.in1 (do
        let e ← setEpoch a
        let f ← newFields "set_iterator" [first, rawInt 0, .ref a, rawInt es.size, rawInt e]
        ret f) (fun fin s' => ∃ v, fin = Fin.done (Flow.ret v) ∧ ∃ T' r, s'.TypeIs v T' ∧ typeLookup (.type T') (Str.ofString "__next__") = pure (some r) ∧ Q v s') E { s with heap := h1, drawn := d1 } := by
    intro J h1 d1 first ws D l S1 h1a hws hW hD
    refine wpAny_bind (wpAny_setEpoch_of (s := { s with heap := h1, drawn := d1 }) h1a hd hf ?_)
    refine wpAny_bind (wpAny_newObj_type ?_ (by size_fits))
    refine wpAny_pure (in_1_1 _ rfl (in_2_2 ("set_iterator") _ (in_1_1 _ (Heap.get?_push_size _ rfl) rfl) slot_set_iterator_next.lookup ?_))
    have hg := Heap.get?_push_size h1 (o := { cls := .type "set_iterator", data := .fields #[first, rawInt 0, .ref a, rawInt (es.size : Int), rawInt (ep : Int)] }) rfl
    have hne : h1.objs.size ≠ a := Nat.ne_of_gt (Heap.lt_size h1a)
    exact k J _ d1 _ ws (D h1.objs.size) l (S1.push _) hws (hW _ hne) (hD _ (fun b o e => Heap.get?_push_of_some _ e) (in_1_2 _ hg rfl rfl)) S1.fresh' (in_1_0 _ hg) (Heap.get?_push_of_some _ h1a)
  show wpAny _ _ (if (!C.w.params.followText "set-order" && (!t.plain && decide (es.size > 1))) = true then _ else _) _ _ _
  have hs : s = { s with heap := s.heap, drawn := s.drawn } := rfl
  cases hb : C.w.params.followText "set-order" with
  | true =>
    rw [if_neg (by simp)]
    refine wpAny_bind (wpAny_pure ?_)
    have hp := pickOrder_perm (C.w.params.setOrder a ep) es
    (refine el_1_1 (perm_pcv (hp.map (·.2)).symm hus) fun ws hw1 hw2 => ?_)
    refine fin I s.heap s.drawn _ ws _ (.refl I) S hoa (fun v => hw1.mem_iff.trans (hmem v)) (fun it hne => walk2_int (xs := ws.map pcv) (slot := fun _ => 0) (vals := (pickOrder (C.w.params.setOrder a ep) es).toList.map (·.2)) hne hd hf rfl ?_ ?_) ?_
    · intro A' s' i x E' Q' h1 h2 h3
      refine setNext_text hb h1 hd hf ?_
      have : (pickOrder (C.w.params.setOrder a ep) es)[i]?.map (fun e => (e.2, 0)) = some (x, 0) := by
        simp at h2
        (revert h2; intro hfEl; refine el_1_0 hfEl fun y h2 => ?_; try clear hfEl)
        simp [h2]
      rw [this]; exact h3
    · intro A' s' E' Q' h1 h3
      refine setNext_text hb h1 hd hf ?_
      have : (pickOrder (C.w.params.setOrder a ep) es)[((pickOrder (C.w.params.setOrder a ep) es).toList.map (·.2)).length]?.map (fun e => (e.2, 0)) = none := by simp
      rw [this]; exact h3
    · intro h2 hk hS
      exact (in_0_2 hS (hk _ _ hoa) hw2)
  | false =>
    by_cases hsz : es.size ≤ 1
    · rw [if_neg (by simp; intro _; omega +splitDisjunctions)]
      refine wpAny_bind (wpAny_pure ?_)
      have hl := hled hb
      have hbel : ∀ j, es.size = 1 → below t.place j = if t.place.getD 0 0 < j then 1 else 0 := by
        intro j h1
        (refine el_0_2 (below_spec hT.rise j) fun a1 a2 a3 => ?_)
        rw [hT.size, h1] at a1
        rw [hT.size, h1] at a3
        split
        · rename_i q
          by_cases hz : below t.place j = 0
          · have := a3 0 (by (exact Nat.le_of_eq (by assumption))) (by (exact Nat.zero_lt_succ _)); (exact absurd (by assumption) (Nat.not_lt_of_le (by assumption)))
          · omega
        · rename_i q
          by_cases hz : below t.place j = 0
          · exact hz
          · have := a2 0 (by (exact Nat.pos_of_ne_zero (by assumption))); contradiction
      refine fin I s.heap s.drawn _ us _ (.refl I) S hoa hmem (fun it hne => walk2_int (xs := us.map pcv) (slot := fun i => if i = 0 then 0 else t.place.getD 0 0 + 1) (vals := es.toList.map (·.2)) hne hd hf rfl ?_ ?_) ?_
      · intro A' s' i x E' Q' h1 h2 h3
        have hi : i < es.size := by
          have := (List.getElem?_eq_some_iff.mp h2).1
          simpa using this
        have hi0 : i = 0 := by omega
        subst hi0
        refine setNext_one hb h1 hd hf hsz hl ?_
        have h1' : es.size = 1 := by (exact (Nat.le_antisymm (by assumption) (by assumption)))
        simp only [if_true]
        rw [hbel 0 h1', if_neg (by omega +splitDisjunctions)]
        have hpl0 : t.place[0]? = some (t.place.getD 0 0) := getD_eq (by rw [hT.size]; omega +splitDisjunctions)
        simp at h2
        (revert h2; intro hfEl; refine el_1_0 hfEl fun y h2 => ?_; try clear hfEl)
        rw [h2, hpl0]
        simpa using h3
      · intro A' s' E' Q' h1 h3
        refine setNext_one hb h1 hd hf hsz hl ?_
        have : es[below t.place (if (es.toList.map (·.2)).length = 0 then 0 else t.place.getD 0 0 + 1)]? = none := by
          simp only [List.length_map, Array.length_toList]
          by_cases h0 : es.size = 0
          · rw [Array.getElem?_eq_none]; omega +splitDisjunctions
          · rw [if_neg h0, hbel _ (by omega), if_pos (by omega +splitDisjunctions), Array.getElem?_eq_none]; omega +splitDisjunctions
        rw [this]; exact h3
      · intro h2 hk hS
        exact (in_0_2 hS (hk _ _ hoa) hus)
    · have hpl' := hpl (by omega)
      rw [if_pos (by simp [hpl']; (exact Nat.lt_of_not_le (by assumption)))]
      refine wpAny_bind (drawOrder_any _ _ _ _ (by simp) fun l d hl => ?_)
      refine wpAny_bind (wpAny_newObj_type ?_ (by show (l.map _).toArray.size ≤ sizeLine; rw [sizeLine_eq]; have := hl.length_eq; simp at this ⊢; omega))
      have Sd := S.draw d
      (refine el_0_1 (Sd.newI (o := { cls := .type "tuple", dict := none, data := .seq (l.map fun (j : Nat) => rawInt (j : Int)).toArray }) rfl) fun lJ SJ => ?_)
      have hp : (l.filterMap (es[·]?)).Perm es.toList := by
        have := order_perm (es := es) (order := l.toArray) (by simpa using hl)
        simpa using this
      (refine el_1_1 (perm_pcv (hp.map (·.2)).symm hus) fun ws hw1 hw2 => ?_)
      have hall : ∀ (l : List Nat), (∀ j ∈ l, j < es.size) → (l.filterMap (es[·]?)).length = l.length ∧ ∀ (i : Nat) (x : Value), ((l.filterMap (es[·]?)).map (·.2))[i]? = some x → ∃ p hh, l[i]? = some p ∧ es[p]? = some (hh, x) := by
        intro l
        induction l with
        | nil => intro _; exact ⟨rfl, fun i x h => by simp at h⟩
        | cons j l ih =>
          intro hj
          (refine el_0_1 (ih fun j hj' => hj j (List.mem_cons_of_mem _ hj')) fun i1 i2 => ?_)
          have hjl : j < es.size := hj j List.mem_cons_self
          have hjs : es[j]? = some es[j] := by simp [hjl]
          rw [List.filterMap_cons, hjs]
          refine ⟨by simp [i1], fun i x h => ?_⟩
          cases i with
          | zero => simp at h; exact (in_2_1 j (es[j].1) (by rfl) (by rw [hjs, ← h]))
          | succ i => simp only [List.map_cons, List.getElem?_cons_succ] at h ⊢; exact i2 i x h
      (refine el_0_1 (hall l fun j hj => by have := hl.mem_iff.mp hj; simpa using this) fun hall1 hall2 => ?_)
      refine fin _ _ d _ ws _ lJ SJ (Heap.get?_push_of_some _ hoa) (fun v => hw1.mem_iff.trans (hmem v)) (fun it hne => walk2_drawn (tp := s.heap.objs.size) (m := 0) (ps := l) (xs := ws.map pcv) (vals := (l.filterMap (es[·]?)).map (·.2)) hne hd hf rfl hall2 (by simp [hall1])) ?_
      intro h2 hk hS
      exact (in_0_3 hS (hk _ _ (Heap.get?_push_of_some _ hoa)) (VRs.mono lJ _ _ hw2) (by simp))
end
end Mine
open PySem PySem.W PySem.Calls PyProof.Rows
set_option Elab.async false
set_option linter.all false
set_option maxRecDepth 100000
set_option genSizeOf false
namespace Mine

section
variable {C : Cx} {dep : Nat} {KF I : IM} {st : CSt} {s : Shared}

theorem ownedGo2_W {A : Around} {M : Model} {xs : List CV} {it l : Addr} {D} (W : Walk2 C.prog C.w xs it l D) {i : Nat} {J : IM} {t : Expr} {v : Value} {E : Value → Shared → Prop} {Q : Unit → Shared → Prop} (hD : D i J s.heap) (h : Q () s) : wpAny M A (letOwnedTupleGo t (.ref it) v) Q E s := by
  (refine el_2_2 (W.cls J s.heap i hD) fun o n ho hc hn => ?_)
  have main : wpAny M A (do
      let (.ref r, .ref a) := (Value.ref it, v) | return
      let o ← load r
      match o.cls, o.data with
      | .type n, .fields vs =>
        if ["enumerate", "zip", "dict_itemiterator", "dict_reverseitemiterator", "odict_iterator", "itertools.zip_longest", "itertools.pairwise"].contains n && vs[0]? == some (rawInt a) then
          rule "for.unpacks-the-owned-tuple"
          updateField r 0 .none
      | _, _ => pure ()) Q E s := by
    cases v with
    | ref a =>
      refine wpAny_bind (wpAny_load ho ?_)
      rw [hc]
      cases o.data <;> first | exact wpAny_pure h | skip
      rename_i vs
      dsimp only
      rw [hn]
      exact wpAny_pure h
    | _ => exact wpAny_pure h
  cases t <;> first | exact wpAny_pure h | exact main

/-- the turns of a loop beside which an object is kept as it is -/
noncomputable def WForL (C : Cx) (l : Addr) (ol : Obj) (t : Expr) (body orelse : List Stmt) : List CV → CSt → (CF → CSt → Prop) → Prop
  | [], st, Q => WSs C orelse st Q
  | x :: xs, st, Q => WA C (assign t C.env) x st (fun st1 => WSs C body st1 (fun f st2 => match f with
      | .next => st2.H l = some (.froz ol) ∧ WForL C l ol t body orelse xs st2 Q
      | .cont => st2.H l = some (.froz ol) ∧ WForL C l ol t body orelse xs st2 Q
      | .brk => Q .next st2
      | .ret v => Q (.ret v) st2))

theorem forCore {t : Expr} {body orelse : List Stmt} {xs : List CV} {it l : Addr} {D : Nat → IM → Heap → Prop} {Q : CF → CSt → Prop} {h₁ : Heap} (ok : C.Ok dep) (ol : Obj) (hl : st.H l = some (.froz ol)) (W : Walk2 C.prog C.w xs it l D) (hD : D 0 I h₁)
    (hnew : I it = none ∧ KF it = none ∧ st.H it = none ∧ ¬ C.Own it) (hoi0 : ∃ o, h₁.get? it = some o) {d₁ : Drawn} {tk₁ : Nat} (S₁ : SR C KF I st { s with heap := h₁, drawn := d₁, toks := tk₁ }) (h : WForL C l ol t body orelse xs st Q) :
    wpAny (model C.prog C.w) C.A (runOwn (.forLoop t (.ref it) body orelse C.env) C.env) (fun f s' => OkP C KF I s' fun I' st' => FlP I' f Q st') (fun e s' => ErP C KF I false e s') { s with heap := h₁, drawn := d₁, toks := tk₁ } := by
  (refine el_1_0 hoi0 fun oi hoi => ?_; try clear hoi0)
  (refine el_0_3 hnew fun n1 n2 n3 n4 => ?_; try clear hnew)
  have hli : l ≠ it := fun q => by rw [q, n3] at hl; cases hl
  have l₁ : ILe KF (iput KF it oi) := iput_le n2
  have SK := S₁.addK hoi n1 n2 n3 n4
  let R : Result → Shared → Prop := fun r s' => match r with
    | .ok f => OkP C KF I s' fun I' st' => FlP I' f Q st'
    | .error e => ErP C KF I true e s'
  refine wpAny_runOwn (h := none) (codeAny_mono (R := R) ?lp fun r s' hr => ?bk)
  case bk =>
    cases r with
    | ok f => obtain ⟨I', st', a, b, c⟩ := hr; exact ⟨I', st', a, b, c⟩
    | error e =>
      exact hr.elim
  have hA : C.A.mark none = C.A := by cases C.A; rfl
  rw [hA]
  have lAt : ∀ {J st' s' KF'}, st'.H l = some (.froz ol) → SR C KF' J st' s' → s'.heap.get? l = some ol := fun l' S' => by
    (refine el_0_2 (S'.mu l _ l') fun _ _ rEl => ?_; (refine el_1_1 rEl fun o e1 e2 => ?_; try clear rEl))
    simp only [OR] at e2
    rw [e1, e2.1]
  refine codeAny_forLoop_any (fun n s' => ∃ i J st' o, n = xs.length - i ∧ i ≤ xs.length ∧ ILe I J ∧ SR C (iput KF it o) J st' s' ∧ D i J s'.heap ∧ s'.heap.get? it = some o ∧ st'.H l = some (.froz ol) ∧ WForL C l ol t body orelse (xs.drop i) st' Q) ?_ xs.length
    (in_4_7 0 I st oi (by simp) (by simp) (.refl I) SK hD hoi hl (by simpa using h))
  intro n s' hEl
  (refine el_4_1 hEl fun i J st' o xEl4 rEl => ?_; try clear hEl; obtain rfl := xEl4; (refine el_0_6 rEl fun hi lJ S' hD' hit' hl' hW => ?_; try clear rEl))
  have lo : ILe KF (iput KF it o) := iput_le n2
  by_cases hlt : i < xs.length
  · obtain ⟨c, hc⟩ : ∃ c, xs[i]? = some c := (in_1_0 (xs[i]) (by simp [hlt]))
    have hdrop : xs.drop i = c :: xs.drop (i + 1) := by
      rw [List.drop_eq_getElem_cons hlt]
      rw [List.getElem?_eq_getElem hlt] at hc; cases hc; rfl
    rw [hdrop] at hW
    refine W.item C.A J s' i c _ _ S'.imm hD' hc fun h₂ tk₂ u hD₂ hu hk₂ hEl => ?_
    (refine el_1_0 hEl fun o₂ ho₂ => ?_; try clear hEl)
    have hl₂ : h₂.get? l = some ol := hk₂ l ol hli (lAt hl' S')
    have Sx : SR C KF J st' { s' with heap := h₂, toks := tk₂ } := by
      have := (S'.weakK lo S₁.kle)
      refine this.heap fun a ob e hb => hk₂ a ob (fun q => notHeld hb q S'.iterIn.1 n2 S'.iterIn.2.1 S'.iterIn.2.2) e
    have m1 : J it = none := (S'.frs it o (by simp)).1
    have m3 : st'.H it = none := by
      cases e : st'.H it with
      | none => rfl
      | some cc => have := (S'.mu it cc e).2.1; simp at this
    have m4 : ¬ C.Own it := fun hb => by have := (S'.own it hb).2.1; simp at this
    have Sy := Sx.addK ho₂ m1 n2 m3 m4
    have lo₂ : ILe KF (iput KF it o₂) := iput_le n2
    refine ownedGo2_W W hD₂ ?_
    refine wpAny_mono (hW J u hu _ _ Sy) (fun _ s3 hh => hh.use fun J3 st3 l3 S3 q3 => ?_) fun e s3 hF => hF.elim
    refine wpAny_mono (q3 J3 _ _ S3) (fun f s4 hh => hh.use fun J4 st4 l4 S4 hv => hv.use fun b hb q4 => ?_) fun e s4 hF => hF.elim
    have again : ∀ st4, SR C (iput KF it o₂) J4 st4 s4 → st4.H l = some (.froz ol) ∧ WForL C l ol t body orelse (xs.drop (i + 1)) st4 Q → ∃ m, m < xs.length - i ∧ ∃ i J st' o, m = xs.length - i ∧ i ≤ xs.length ∧ ILe I J ∧ SR C (iput KF it o) J st' s4 ∧ D i J s4.heap ∧ s4.heap.get? it = some o ∧ st'.H l = some (.froz ol) ∧ WForL C l ol t body orelse (xs.drop i) st' Q := by
      intro st4 S4 ⟨hl4, hw⟩
      (refine el_0_1 (S4.frs it o₂ (by simp)) fun _ e4 => ?_)
      refine (in_1_1 (xs.length - (i + 1)) (by (exact Nat.sub_lt_sub_left (by assumption) (Nat.lt_succ_self _))) (in_4_7 (i + 1) J4 st4 o₂ rfl hlt (lJ.trans (l3.trans l4)) S4 ?_ e4 hl4 hw))
      exact W.frame J J4 h₂ s4.heap (i + 1) hD₂ (l3.trans l4) (fun o' e => by rw [ho₂] at e; cases e; exact e4) (fun o' e => by rw [hl₂] at e; cases e; exact lAt hl4 S4) fun a o' e1 e2 => S4.imm a o' ((l3.trans l4) a o' e1)
    cases b with
    | next => cases hb; exact again st4 S4 q4
    | cont => cases hb; exact again st4 S4 q4
    | brk => cases hb; exact ⟨J4, st4, lJ.trans (l3.trans l4), S4.weakK lo₂ S₁.kle, .next, rfl, q4⟩
    | ret c => (refine el_1_1 hb fun u' xEl1 r' => ?_; try clear hb; obtain rfl := xEl1); exact ⟨J4, st4, lJ.trans (l3.trans l4), S4.weakK lo₂ S₁.kle, .ret c, (in_1_1 u' rfl r'), q4⟩
  · have hin : i = xs.length := by (exact (Nat.le_antisymm (by assumption) (Nat.le_of_not_lt (by assumption))))
    subst hin
    refine W.fin C.A J s' _ _ ok.hd S'.imm hD' fun h₂ tk₂ hk₂ => ?_
    have Sx : SR C KF J st' { s' with heap := h₂, toks := tk₂ } := by
      have := (S'.weakK lo S₁.kle)
      refine this.heap fun a ob e hb => hk₂ a ob (fun q => notHeld hb q S'.iterIn.1 n2 S'.iterIn.2.1 S'.iterIn.2.2) e
    rw [List.drop_length] at hW
    exact wpAny_mono (hW J KF _ Sx) (fun f s3 hh => hh.use fun J3 st3 l3 S3 q3 => ⟨J3, st3, lJ.trans l3, S3, q3⟩) fun e s3 hF => hF.elim

/-- a loop over a set of pairs, in whatever order -/
theorem WS.forPairs {t iter body orelse pos} {Q : CF → CSt → Prop} (ok : C.Ok dep)
    (h : WE C iter st (fun c st1 => ∃ a vs, c = .loc a ∧ st1.H a = some (.set vs) ∧ vs.length ≤ 1000 ∧ ∀ (us : List (List Str × Int)) (o : Obj), (∀ v, v ∈ us ↔ v ∈ vs) →
      WForL C a o t body orelse (us.map pcv) { st1 with H := hput st1.H a (.froz o) } (fun f st2 => st2.H a = some (.froz o) ∧ Q f { st2 with H := hput st2.H a (.set vs) })))
    (hs : ∀ x, foldedSetIterable iter C.env x = pure x := by intro _; rfl) : WS C (.For t iter body orelse pos) st Q := fun I => by
  simp only [exec_For]
  refine WL.bind (WL.standAt (WL.bind ((h I).mono (fun J v st1 _ hEl => ?_))))
  obtain ⟨c, r, a, vs, e, hH, hn, hw⟩ := hEl
  subst e
  simp only [VR] at r; subst r
  rw [hs]
  refine WL.bind (WL.pure (WL.bind (WL.standAt ?_)))
  intro KF s S
  (refine el_0_2 (S.mu a _ hH) fun h1 h2 rEl => ?_; (refine el_1_1 rEl fun o ho hr => ?_; try clear rEl))
  refine wpAny_bind (wpAny_holding (iter_pairs S hH ho hn fun J2 h' d it us D l S2 hus W hD hnew hoi hla => ?_))
  (refine el_0_3 hnew fun n1 n2 n3 n4 => ?_; try clear hnew)
  have S3 := S2.setH (h' := h') (tk := s.toks) (c := .froz o) hH (fun b o' _ e => e) hla ⟨rfl, (let ⟨es, ep, t, _, _, hd, _⟩ := hr; (in_3_0 es ep t hd))⟩
  have hne : it ≠ a := fun q => by rw [← q, n3] at hH; cases hH
  refine wpAny_mono (forCore (s := s) (KF := KF) (tk₁ := s.toks) ok o (by show hput st1.H a _ a = _; simp) W hD (in_0_3 n1 n2 (by show hput st1.H a _ it = none; rw [hput_ne hne]; exact n3) n4) hoi S3 (hw us o hus)) (fun f s' hEl => ?_) fun e s' hF => hF.elim
  obtain ⟨I', st', l', S', b, hb, hfz, q⟩ := hEl
  (refine el_0_2 (S'.mu a _ hfz) fun g1 g2 rEl => ?_; (refine el_1_1 rEl fun o' g3 g4 => ?_; try clear rEl))
  simp only [OR] at g4
  (revert g4; intro hfEl; refine el_0_1 hfEl fun g4 _ => ?_; try clear hfEl)
  subst g4
  have hPJ : OR C.prog C.w I' (.set vs) o' := OR.mono (l.trans l') _ _ hr
  have S4 := S'.setH (h' := s'.heap) (tk := s'.toks) (c := .set vs) hfz (fun b o' _ e => e) g3 hPJ
  exact ⟨I', _, l.trans l', S4, b, hb, q⟩
end
end Mine
open PySem PySem.W PySem.Calls PyProof.Rows
set_option Elab.async false
set_option linter.all false
set_option maxRecDepth 100000
set_option genSizeOf false
namespace Mine

theorem strOf_is (k x : Str) (t : Tok) : Value.isStrOf x (.str k t) = decide (k = x) := by
  show (k == x) = _
  by_cases h : k = x <;> rfl

/-- a clean dict is a dict of pairs -/
theorem pairs_of {prog : Program} {w : World} {I : IM} : ∀ {es : List (Str × CV)} {ds : List DictEntry}, ERs w I es ds → KeysOf (strKind prog w) ds.toArray ∧ ∃ kvs, Pairs (strKind prog w) ds kvs ∧ kvs.map (·.1) = es.map (·.1) ∧ VRs I (es.map (·.2)) (kvs.map (·.2))
  | [], ds, r => by simp only [ERs] at r; subst r; exact (in_0_1 (fun e he => by simp at he) (in_1_2 ([]) (.nil) rfl (.nil)))
  | (k, c) :: es, ds, r => by
    simp only [ERs] at r
    (refine el_2_1 r fun d ds' xEl2 rEl => ?_; try clear r; obtain rfl := xEl2; (refine el_0_2 rEl fun h1 yEl1 sEl => ?_; try clear rEl; obtain ⟨t, h2⟩ := yEl1; obtain ⟨h3, h4⟩ := sEl))
    (refine el_0_1 (pairs_of (prog := prog) h4) fun i1 rEl => ?_; (refine el_1_2 rEl fun kvs i2 i3 i4 => ?_; try clear rEl))
    refine (in_0_1 (fun e he => ?_) (in_1_2 ((k, d.val) :: kvs) (.cons (by show Value.isStrOf k d.key = true; rw [h2, strOf_is]; simp) rfl i2) (by simp [i3]) (.cons h3 i4)))
    have he' : e = d ∨ e ∈ ds' := by simpa using he
    rcases he' with rfl | he
    · exact (in_1_1 k (by show Value.isStrOf k e.key = true; rw [h2, strOf_is]; simp) h1)
    · exact i1 e (by simpa using he)
theorem ers_of {prog : Program} {w : World} {I : IM} : ∀ {es : List (Str × CV)} {ds : List DictEntry} {kvs : List (Str × Value)}, KeysOf (strKind prog w) ds.toArray → Pairs (strKind prog w) ds kvs → kvs.map (·.1) = es.map (·.1) → VRs I (es.map (·.2)) (kvs.map (·.2)) → ERs w I es ds
  | [], ds, kvs, hk, p, e, r => by
    have : kvs = [] := by simpa using e
    subst this
    cases p
    simp [ERs]
  | (k, c) :: es, ds, kvs, hk, p, e, r => by
    cases p with
    | nil => simp at e
    | @cons d kv ds' kvs' p1 p2 p3 =>
      obtain ⟨k', v⟩ := kv
      simp only [List.map_cons, List.cons.injEq] at e
      (refine el_0_1 e fun e1 e2 => ?_; try clear e)
      (refine el_2_2 (VRs.uncons r) fun y ys e3 r1 r2 => ?_)
      cases e3
      simp only at e1 p1 p2
      subst e1
      (refine el_1_1 (hk d (by simp)) fun k2 q1 q2 => ?_)
      (refine el_1_0 (Value.isStrOf_shape (show Value.isStrOf k' d.key = true from p1)) fun t ht => ?_)
      have : k' = k2 := Value.isStrOf_inj d.key _ _ p1 q1
      subst this
      simp only [ERs]
      refine (in_2_4 d ds' rfl q2 (in_1_0 t ht) (by rw [p2]; exact r1) (ers_of (fun e he => hk e (by simp at he ⊢; exact .inr he)) p3 e2 r2))

section
variable {C : Cx} {dep : Nat} {KF I : IM} {st : CSt} {s : Shared} {Q : CV → CSt → Prop}

theorem dict_of {d : Addr} {es : List (Str × CV)} (S : SR C KF I st s) (hH : st.H d = some (.dict es)) (hnd : (es.map (·.1)).Nodup) :
    ∃ kvs, s.heap.DictOf (strKind C.prog C.w) d kvs ∧ kvs.map (·.1) = es.map (·.1) ∧ VRs I (es.map (·.2)) (kvs.map (·.2)) := by
  (refine el_0_2 (S.mu d _ hH) fun _ _ rEl => ?_; (refine el_1_1 rEl fun o ho sEl => ?_; try clear rEl; obtain ⟨n, ds, rfl, he⟩ := sEl))
  (refine el_0_1 (pairs_of (prog := C.prog) he) fun h1 rEl => ?_; (refine el_1_2 rEl fun kvs h2 h3 h4 => ?_; try clear rEl))
  exact (in_1_2 kvs (in_3_5 _ ds n ho (in_0_2 rfl rfl rfl) rfl (by simpa using h1) h2 (by rw [h3]; exact hnd)) h3 h4)
theorem dict_back {d : Addr} {es : List (Str × CV)} {kvs : List (Str × Value)} {h : Heap} (hm : h.DictOf (strKind C.prog C.w) d kvs) (e : kvs.map (·.1) = es.map (·.1)) (r : VRs I (es.map (·.2)) (kvs.map (·.2))) :
    ∃ o, h.get? d = some o ∧ OR C.prog C.w I (.dict es) o := by
  (refine el_3_2 hm fun o ds n ho xEl4 rEl => ?_; try clear hm; (refine el_0_2 xEl4 fun h1 h2 h3 => ?_; try clear xEl4); (refine el_0_3 rEl fun h4 h5 h6 _ => ?_; try clear rEl))
  refine (in_1_1 o ho (in_2_1 n ds ?_ (ers_of (prog := C.prog) (by simpa using h5) h6 e r)))
  obtain ⟨a, b, c, f⟩ := o
  simp only at h1 h2 h3 h4
  subst h1 h2 h3 h4
  rfl

/-- what a clean dict holds under a name -/
theorem value_of {I : IM} {k : Str} : ∀ {es : List (Str × CV)} {kvs : List (Str × Value)}, kvs.map (·.1) = es.map (·.1) → VRs I (es.map (·.2)) (kvs.map (·.2)) → match es.lookup k with | some c => ∃ v, valueAt kvs k = some v ∧ VR I c v | none => valueAt kvs k = none
  | [], kvs, e, r => by
    have : kvs = [] := by simpa using e
    subst this; rfl
  | (k', c) :: es, [], e, r => by simp at e
  | (k', c) :: es, (k2, v) :: kvs, e, r => by
    simp only [List.map_cons, List.cons.injEq] at e
    (refine el_0_1 e fun xEl0 e2 => ?_; try clear e; obtain rfl := xEl0)
    (refine el_2_2 (VRs.uncons r) fun y ys e3 r1 r2 => ?_)
    cases e3
    simp only [List.lookup_cons]
    by_cases q : k2 = k
    · subst q; simp [valueAt]; exact r1
    · have q' : (k == k2) = false := by simpa using Ne.symm q
      rw [q']
      have ih := value_of (k := k) e2 r2
      have : valueAt ((k2, v) :: kvs) k = valueAt kvs k := by simp [valueAt, List.find?_cons, q]
      rw [this]
      exact ih
theorem stored_of {I : IM} {k : Str} {c : CV} {v : Value} (rv : VR I c v) : ∀ {es : List (Str × CV)} {kvs : List (Str × Value)}, (es.map (·.1)).Nodup → kvs.map (·.1) = es.map (·.1) → VRs I (es.map (·.2)) (kvs.map (·.2)) → (stored kvs k v).map (·.1) = (aput es k c).map (·.1) ∧ VRs I ((aput es k c).map (·.2)) ((stored kvs k v).map (·.2))
  | [], kvs, _, e, r => by
    have : kvs = [] := by simpa using e
    subst this; exact ⟨rfl, .cons rv .nil⟩
  | (k', c') :: es, [], _, e, r => by simp at e
  | (k', c') :: es, (k2, v') :: kvs, hnd, e, r => by
    simp only [List.map_cons, List.cons.injEq] at e
    (refine el_0_1 e fun xEl0 e2 => ?_; try clear e; obtain rfl := xEl0)
    (refine el_2_2 (VRs.uncons r) fun y ys e3 r1 r2 => ?_)
    cases e3
    rw [List.map_cons, List.nodup_cons] at hnd
    by_cases q : k2 = k
    · subst q
      have hnot : ∀ kv ∈ kvs, kv.1 ≠ k2 := fun kv hkv q => hnd.1 (by simp only; simp only [← e2, ← q]; exact List.mem_map_of_mem hkv)
      have hmap : kvs.map (fun kv => if kv.1 = k2 then (kv.1, v) else kv) = kvs := by
        conv => rhs; rw [← List.map_id kvs]
        apply List.map_congr_left
        intro kv hkv
        rw [if_neg (hnot kv hkv)]; rfl
      have : stored ((k2, v') :: kvs) k2 v = (k2, v) :: kvs := by
        simp only [stored, List.any_cons, decide_true, Bool.true_or, if_true, List.map_cons, hmap]
      rw [this]
      simp only [aput, if_true, List.map_cons]
      exact ⟨by rw [e2], .cons rv r2⟩
    · obtain ⟨i1, i2⟩ := stored_of rv hnd.2 e2 r2
      have : stored ((k2, v') :: kvs) k v = (k2, v') :: stored kvs k v := by
        unfold stored
        simp only [List.any_cons, decide_eq_false q, Bool.false_or, List.map_cons, if_neg q]
        split <;> rfl
      rw [this]
      simp only [aput, if_neg q, List.map_cons]
      exact ⟨by rw [i1], .cons r1 i2⟩
noncomputable def adel (es : List (Str × CV)) (k : Str) : List (Str × CV) := es.filter fun e => decide (e.1 ≠ k)
theorem without_of {I : IM} {k : Str} : ∀ {es : List (Str × CV)} {kvs : List (Str × Value)}, kvs.map (·.1) = es.map (·.1) → VRs I (es.map (·.2)) (kvs.map (·.2)) → (without kvs k).map (·.1) = (adel es k).map (·.1) ∧ VRs I ((adel es k).map (·.2)) ((without kvs k).map (·.2))
  | [], kvs, e, r => by
    have : kvs = [] := by simpa using e
    subst this; exact ⟨rfl, .nil⟩
  | (k', c') :: es, [], e, r => by simp at e
  | (k', c') :: es, (k2, v') :: kvs, e, r => by
    simp only [List.map_cons, List.cons.injEq] at e
    (refine el_0_1 e fun xEl0 e2 => ?_; try clear e; obtain rfl := xEl0)
    (refine el_2_2 (VRs.uncons r) fun y ys e3 r1 r2 => ?_)
    cases e3
    (refine el_0_1 (without_of (k := k) e2 r2) fun i1 i2 => ?_)
    by_cases q : k2 = k
    · have a1 : without ((k2, v') :: kvs) k = without kvs k := by simp [without, q]
      have a2 : adel ((k2, c') :: es) k = adel es k := by simp [adel, q]
      rw [a1, a2]; exact ⟨i1, i2⟩
    · have a1 : without ((k2, v') :: kvs) k = (k2, v') :: without kvs k := by simp [without, q]
      have a2 : adel ((k2, c') :: es) k = (k2, c') :: adel es k := by simp [adel, q]
      rw [a1, a2]
      exact ⟨by simp [i1], .cons r1 i2⟩

theorem notSys (S : SR C KF I st s) {d : Addr} {c : CO} (hH : st.H d = some c) : (d == sysModules) = false := by
  have := S.low.2 d c hH
  simpa using Nat.ne_of_gt this
theorem str_key (C : Cx) (k : Str) (t : Tok) : (strKind C.prog C.w).is k (.str k t) = true := by show Value.isStrOf k (.str k t) = true; rw [strOf_is]; simp

theorem valueAt_map {kvs : List (Str × Value)} {d : Addr} {h : Heap} (hm : h.DictOf (strKind C.prog C.w) d kvs) : h.MapOf (strKind C.prog C.w) d (valueAt kvs) := hm.mapOf

theorem W2.inDict {d : Addr} {es : List (Str × CV)} {k : Str} (hH : st.H d = some (.dict es)) (hnd : (es.map (·.1)).Nodup) (h : Q (.bool (es.lookup k).isSome) st) : W2 C (compareOp .In) (.str k) (.loc d) st Q := fun I v u r1 r2 KF s S => by
  simp only [VR] at r1 r2; subst r2
  (refine el_1_0 r1 fun t xEl1 => ?_; try clear r1; obtain rfl := xEl1)
  (refine el_1_2 (dict_of S hH hnd) fun kvs hm e r => ?_)
  refine wpAny_in_of (str_key C k t) (notSys S hH) (valueAt_map hm) ?_
  have hv := value_of (k := k) e r
  refine ⟨I, st, .refl I, S.toks _, .bool (es.lookup k).isSome, ?_, h⟩
  simp only [VR]
  revert hv
  cases es.lookup k with
  | none => intro hv; rw [hv]; rfl
  | some c => rintro ⟨v, hv, _⟩; rw [hv]; rfl
theorem W2.notInDict {d : Addr} {es : List (Str × CV)} {k : Str} (hH : st.H d = some (.dict es)) (hnd : (es.map (·.1)).Nodup) (h : Q (.bool (!(es.lookup k).isSome)) st) : W2 C (compareOp .NotIn) (.str k) (.loc d) st Q := fun I v u r1 r2 KF s S => by
  simp only [VR] at r1 r2; subst r2
  (refine el_1_0 r1 fun t xEl1 => ?_; try clear r1; obtain rfl := xEl1)
  (refine el_1_2 (dict_of S hH hnd) fun kvs hm e r => ?_)
  refine wpAny_notIn_of (str_key C k t) (notSys S hH) (valueAt_map hm) ?_
  have hv := value_of (k := k) e r
  refine ⟨I, st, .refl I, S.toks _, CV.bool (!(es.lookup k).isSome), ?_, h⟩
  simp only [VR]
  revert hv
  cases es.lookup k with
  | none => intro hv; rw [hv]; rfl
  | some c => rintro ⟨v, hv, _⟩; rw [hv]; rfl

theorem W2.itemD {value slice : Expr} {d : Addr} {es : List (Str × CV)} {k : Str} {c : CV} (hH : st.H d = some (.dict es)) (hnd : (es.map (·.1)).Nodup) (hc : es.lookup k = some c) (h : Q c st)
    (hsl : ∀ o i, subscripted slice false o i = operate [o, i] (getItem o i) := by intros; rfl) : W2 C (subscriptTail value slice) (.loc d) (.str k) st Q := fun I v u r1 r2 KF s S => by
  simp only [VR] at r1 r2; subst r1
  (refine el_1_0 r2 fun t xEl1 => ?_; try clear r2; obtain rfl := xEl1)
  (refine el_1_2 (dict_of S hH hnd) fun kvs hm e r => ?_)
  have hv := value_of (k := k) e r
  rw [hc] at hv
  (revert hv; intro hfEl; refine el_1_1 hfEl fun v hv rv => ?_; try clear hfEl)
  exact tail_any hm.typeIs slot_dict_getitem.lookup (wpAny_getItem_of (str_key C k t) (valueAt_map hm) hv ⟨I, st, .refl I, S.toks _, c, rv, h⟩) (hsl _ _)

theorem dictLe_of {d : Addr} {kvs : List (Str × Value)} {h : Heap} (hm : h.DictOf (strKind C.prog C.w) d kvs) (hn : kvs.length ≤ 1000) : kvs.length ≤ sizeLine := by rw [sizeLine_eq]; (exact Nat.le_trans (by assumption) (by decide))
theorem setItemD_W {d : Addr} {es : List (Str × CV)} {k : Str} {c : CV} {t : Tok} {v : Value} {Q : CSt → Prop} (hH : st.H d = some (.dict es)) (hnd : (es.map (·.1)).Nodup) (hn : es.length ≤ 1000) (rv : VR I c v) (h : Q { st with H := hput st.H d (.dict (aput es k c)) }) :
    WL C (setItem (.ref d) (.str k t) v) I st (fun _ _ st' => Q st') := fun KF s S => by
  (refine el_1_2 (dict_of S hH hnd) fun kvs hm e r => ?_)
  have hl : kvs.length = es.length := by have := congrArg List.length e; simpa using this
  refine wpAny_setItem_pairs (hsz := dictLe_of hm (by omega)) (str_key C k t) hm fun h' hm' hs => ?_
  obtain ⟨e', r'⟩ := stored_of rv hnd e r
  (refine el_1_1 (dict_back hm' e' r') fun o ho hr => ?_)
  exact ⟨I, _, .refl I, S.setH (tk := s.toks + 1) (c := .dict (aput es k c)) hH (fun b o hb e => (hs.2 b hb).trans e) ho hr, h⟩
theorem dictSet_W {d : Addr} {es : List (Str × CV)} {k : Str} {c : CV} {t : Tok} {v : Value} {Q : CSt → Prop} (hH : st.H d = some (.dict es)) (hnd : (es.map (·.1)).Nodup) (hn : es.length ≤ 1000) (rv : VR I c v) (h : Q { st with H := hput st.H d (.dict (aput es k c)) }) :
    WL C (dictSet d (.str k t) v) I st (fun _ _ st' => Q st') := fun KF s S => by
  (refine el_1_2 (dict_of S hH hnd) fun kvs hm e r => ?_)
  have hl : kvs.length = es.length := by have := congrArg List.length e; simpa using this
  refine wpAny_dictSet_pairs (hsz := dictLe_of hm (by omega)) (str_key C k t) hm fun h' hm' hs => ?_
  obtain ⟨e', r'⟩ := stored_of rv hnd e r
  (refine el_1_1 (dict_back hm' e' r') fun o ho hr => ?_)
  exact ⟨I, _, .refl I, S.setH (tk := s.toks + 1) (c := .dict (aput es k c)) hH (fun b o hb e => (hs.2 b hb).trans e) ho hr, h⟩

noncomputable def relOf (i : Expr) (v ov iv : Value) : List Value := match i with | .Slice _ _ none _ => [iv, v, ov] | _ => [v, ov, iv]
/-- a subscript is laid -/
theorem WA.sub {o i : Expr} {pos : Pos} {c : CV} {Q : CSt → Prop} (h : WE C o st (fun a st1 => WE C i st1 (fun b st2 => ∀ I v u w, VR I a v → VR I b u → VR I c w → WL C (setItem v u w) I st2 (fun _ _ st3 => Q st3)))) :
    WA C (assign (.Subscript o i pos) C.env) c st Q := fun I v r => by
  show WL C (do
    let ov ← holding [v] (eval o C.env)
    let iv ← holding [v, ov] (eval i C.env)
    standAt pos
    holding [v, ov, iv] (setItem ov iv v)
    release (relOf i v ov iv) []) I st _
  refine WL.bind (WL.holding ((h I).mono (fun J u st1 l hh => hh.use fun a ra q => ?_)))
  refine WL.bind (WL.holding ((q J).mono (fun J2 w st2 l2 hh => hh.use fun b rb q2 => ?_)))
  refine WL.bind (WL.standAt (WL.bind (WL.holding ((q2 J2 u w v (ra.mono l2) rb ((r.mono l).mono l2)).mono (fun J3 _ st3 l3 q3 => ?_)))))
  exact fun KF s S => wpAny_release ⟨J3, st3, .refl _, S, q3⟩
theorem WA.subD {o i : Expr} {pos : Pos} {c : CV} {Q : CSt → Prop} (h : WE C o st (fun a st1 => WE C i st1 (fun b st2 => ∃ d es k, a = .loc d ∧ b = .str k ∧ st2.H d = some (.dict es) ∧ (es.map (·.1)).Nodup ∧ es.length ≤ 1000 ∧ Q { st2 with H := hput st2.H d (.dict (aput es k c)) }))) :
    WA C (assign (.Subscript o i pos) C.env) c st Q :=
  WA.sub (h.mono (fun a st1 q0 => q0.mono (fun b st2 ⟨d, es, k, e1, e2, hH, hnd, hn, q⟩ I v u w r1 r2 r3 => by
    subst e1 e2
    simp only [VR] at r1 r2; subst r1
    (refine el_1_0 r2 fun t xEl1 => ?_; try clear r2; obtain rfl := xEl1)
    exact setItemD_W hH hnd hn r3 q)))

theorem WMeth.dict {es} {a : Addr} {name : Str} {id : String} (hH : st.H a = some (.dict es)) (slot : Slot "dict" name id) (hty : typeOf (.builtin id) = pure (.type "method_descriptor")) : WMeth C (.loc a) name (.builtin id) st := fun I v KF s pl E Q r S q => by
  simp only [VR] at r; subst r
  (refine el_0_2 (S.mu a _ hH) fun _ _ rEl => ?_; (refine el_1_1 rEl fun o ho sEl => ?_; try clear rEl; obtain ⟨n, ds, rfl, _⟩ := sEl))
  exact getMethod_builtin (in_1_1 _ ho rfl) F.plainAttrs_dict slot hty (fun b e => by cases e; exact (in_1_1 _ ho rfl)) (q s.toks)

/-- d.pop(k, None) -/
theorem WCall.dictPop {d : Addr} {es : List (Str × CV)} {k : Str} (hH : st.H d = some (.dict es)) (hnd : (es.map (·.1)).Nodup) (hn : es.length ≤ 1000) (h : Q ((es.lookup k).getD .none) { st with H := hput st.H d (.dict (adel es k)) }) :
    WCall C (.builtin "dict.pop") [.loc d, .str k, .none] [] [] st Q := fun I us vs' r1 r2 KF s S => by
  (revert r1; intro hfEl; refine el_2_1 hfEl.uncons fun x us1 xEl2 rEl => ?_; try clear hfEl; obtain rfl := xEl2; (refine el_0_1 rEl fun ra r1 => ?_; try clear rEl))
  (revert r1; intro hfEl; refine el_2_1 hfEl.uncons fun y us2 xEl2 rEl => ?_; try clear hfEl; obtain rfl := xEl2; (refine el_0_1 rEl fun rk r1 => ?_; try clear rEl))
  (revert r1; intro hfEl; refine el_2_1 hfEl.uncons fun z us3 xEl2 rEl => ?_; try clear hfEl; obtain rfl := xEl2; (refine el_0_1 rEl fun rz r1 => ?_; try clear rEl))
  have := r1.nil_iff; subst this
  rw [zip_nil_left]
  simp only [VR] at ra rk rz; subst ra; subst rz
  (refine el_1_0 rk fun t xEl1 => ?_; try clear rk; obtain rfl := xEl1)
  (refine el_1_2 (dict_of S hH hnd) fun kvs hm e r => ?_)
  have hl : kvs.length = es.length := by have := congrArg List.length e; simpa using this
  have hv := value_of (k := k) e r
  (refine el_0_1 (without_of (k := k) e r) fun w1 w2 => ?_)
  cases hlk : es.lookup k with
  | some c =>
    rw [hlk] at hv h
    (revert hv; intro hfEl; refine el_1_1 hfEl fun v hv rv => ?_; try clear hfEl)
    refine call_meetsIn PySem.F.slot_dict_pop hm.typeIs PySem.F.entry_dict_pop (F.args_dict_pop_3 _ _ _) (meets_dict_pop_there _ d (str_key C k t) [.none] (.inr (in_1_0 _ rfl)) rfl) (in_2_3 kvs v hm (dictLe_of hm (by omega)) hv (fun h' hm' hs => ?_))
    (refine el_1_1 (dict_back hm' w1 w2) fun o ho hr => ?_)
    exact ⟨I, _, .refl I, S.setH (tk := s.toks + 1) (c := .dict (adel es k)) hH (fun b o hb e => (hs.2 b hb).trans e) ho hr, c, rv, h⟩
  | none =>
    rw [hlk] at hv h
    have hdel : adel es k = es := by
      unfold adel
      rw [List.filter_eq_self]
      rintro ⟨k', c⟩ hk
      simp only [decide_eq_true_eq]
      intro q; subst q
      have : ∀ (l : List (Str × CV)), (k', c) ∈ l → l.lookup k' ≠ none := by
        intro l
        induction l with
        | nil => intro h; cases h
        | cons p l ih =>
          obtain ⟨a, b⟩ := p
          intro h
          simp only [List.lookup_cons]
          by_cases q : k' = a
          · subst q; simp
          · have q' : (k' == a) = false := by simpa using q
            rw [q']
            rcases List.mem_cons.mp h with h | h
            · cases h; exact absurd rfl q
            · exact ih h
      exact this es hk hlk
    refine call_meetsIn PySem.F.slot_dict_pop hm.typeIs PySem.F.entry_dict_pop (F.args_dict_pop_3 _ _ _) (meets_dict_pop_default _ d (str_key C k t) (notSys S hH) rfl .none) (in_1_2 kvs hm hv ?_)
    rw [hdel] at h
    have hid : hput st.H d (.dict es) = st.H := by
      funext b; unfold hput; split
      · rename_i q; subst q; exact hH.symm
      · rfl
    rw [hid] at h
    exact ⟨I, st, .refl I, S.toks _, .none, by simp [VR], h⟩
end
end Mine
open PySem PySem.W PySem.Calls PyProof.Rows
set_option Elab.async false
set_option linter.all false
set_option maxRecDepth 100000
set_option genSizeOf false
namespace Mine

theorem aput_keys (k : Str) (c : CV) : ∀ es : List (Str × CV), (aput es k c).map (·.1) = if k ∈ es.map (·.1) then es.map (·.1) else es.map (·.1) ++ [k]
  | [] => rfl
  | (k', v) :: es => by
    unfold aput
    by_cases q : k' = k
    · subst q; simp
    · rw [if_neg q, List.map_cons, aput_keys k c es]
      have : k ≠ k' := fun h => q h.symm
      simp only [List.map_cons, List.mem_cons, this, false_or]
      split <;> simp
theorem aput_nodup {k : Str} {c : CV} {es : List (Str × CV)} (h : (es.map (·.1)).Nodup) : ((aput es k c).map (·.1)).Nodup := by
  rw [aput_keys]
  split
  · exact h
  · rename_i q
    rw [List.nodup_append]
    exact (in_0_2 h (by simp) (fun a ha b hb => by simp at hb; subst hb; exact fun e => q (e ▸ ha)))
theorem aput_length {k : Str} {c : CV} {es : List (Str × CV)} : (aput es k c).length ≤ es.length + 1 := by
  have := congrArg List.length (aput_keys k c es)
  simp only [List.length_map] at this
  rw [this]; split <;> simp
noncomputable def aputs (es : List (Str × CV)) (l : List (Str × CV)) : List (Str × CV) := l.foldl (fun es p => aput es p.1 p.2) es

section
variable {C : Cx} {dep : Nat} {KF I : IM} {st : CSt} {s : Shared} {Q : CV → CSt → Prop}

/-- pairs of a dict's display -/
noncomputable def WPairs (C : Cx) : List (Expr × Expr) → CSt → (List (Str × CV) → CSt → Prop) → Prop
  | [], st, Q => Q [] st
  | (k, v) :: r, st, Q => WE C k st (fun a st1 => ∃ x, a = .str x ∧ WE C v st1 (fun c st2 => WPairs C r st2 (fun l st3 => Q ((x, c) :: l) st3)))

/-- pairs of values -/
inductive PRs (I : IM) : List (Str × CV) → List (Value × Value) → Prop
  | nil : PRs I [] []
  | cons {x c t v l r} : VR I c v → PRs I l r → PRs I ((x, c) :: l) ((.str x t, v) :: r)
theorem PRs.mono {I J : IM} (h : ILe I J) {l r} (p : PRs I l r) : PRs J l r := by
  induction p with
  | nil => exact .nil
  | cons a _ ih => exact .cons (VR.mono h _ _ a) ih

noncomputable def ptree (env : Env) (pos : Pos) (p : Expr × Expr) : Sem Value × Sem Value := (eval p.1 env, do let x ← eval p.2 env; standAt pos; pure x)
theorem evalPairs_W {pos : Pos} : ∀ {items : List (Expr × Expr)} {st : CSt} {Q : List (Str × CV) → CSt → Prop}, WPairs C items st Q → ∀ I, WL C (evalPairs (items.map (ptree C.env pos))) I st (fun J vs st' => ∃ l, PRs J l vs ∧ Q l st')
  | [], st, Q, h, I => WL.pure (in_1_1 ([]) (.nil) h)
  | (k, v) :: r, st, Q, h, I => by
    show WL C (do
      let kv ← eval k C.env
      let vv ← holding [kv] (do let x ← eval v C.env; standAt pos; pure x)
      return (kv, vv) :: (← holding [kv, vv] (evalPairs (r.map (ptree C.env pos))))) I st _
    refine WL.bind ((h I).mono (fun J u st1 _ hEl => ?_))
    obtain ⟨a, ra, x, e, q⟩ := hEl
    subst e
    simp only [VR] at ra
    (refine el_1_0 ra fun t xEl1 => ?_; try clear ra; obtain rfl := xEl1)
    refine WL.bind (WL.holding (WL.bind ((q J).mono (fun J2 w st2 l2 hh => hh.use fun c rc q2 => WL.bind (WL.standAt (WL.pure ?_))))))
    refine WL.bind (WL.holding ((evalPairs_W q2 J2).mono (fun J3 vs st3 l3 hEl => ?_)))
    (refine el_1_1 hEl fun l rl q3 => ?_; try clear hEl)
    exact WL.pure (in_1_1 ((x, c) :: l) (.cons (rc.mono l3) rl) q3)
theorem sets_W {d : Addr} {Q : CSt → Prop} : ∀ {I : IM} {l : List (Str × CV)} {vs : List (Value × Value)} {es : List (Str × CV)} {st : CSt}, PRs I l vs → st.H d = some (.dict es) → (es.map (·.1)).Nodup → es.length + l.length ≤ 900 → Q { st with H := hput st.H d (.dict (aputs es l)) } →
    WL C (forIn vs PUnit.unit fun x __s => match x with | (k, v) => do dictSet d k v; pure (ForInStep.yield PUnit.unit)) I st (fun _ _ st' => Q st')
  | I, [], vs, es, st, r, hH, _, _, h => by
    cases r
    simp only [List.forIn_nil]
    have hid : hput st.H d (.dict es) = st.H := by
      funext b; unfold hput; split
      · rename_i q; subst q; exact hH.symm
      · rfl
    have : ({ st with H := hput st.H d (.dict (aputs es [])) } : CSt) = st := by show CSt.mk st.lo (hput st.H d (.dict es)) = st; rw [hid]
    rw [this] at h
    exact WL.pure h
  | I, (x, c) :: l, vs, es, st, r, hH, hnd, hn, h => by
    cases r with
    | @cons _ _ t v _ vs' rc rl =>
      simp only [List.length_cons] at hn
      rw [List.forIn_cons]
      have step : WL C (dictSet d (.str x t) v) I st (fun _ _ st' => st' = { st with H := hput st.H d (.dict (aput es x c)) }) := dictSet_W (Q := fun st' => st' = { st with H := hput st.H d (.dict (aput es x c)) }) hH hnd (by omega) rc rfl
      refine WL.bind (WL.bind (step.mono (fun J _ st' l2 e => WL.pure ?_)))
      subst e
      have hl := aput_length (k := x) (c := c) (es := es)
      refine sets_W (I := J) (es := aput es x c) (PRs.mono l2 rl) hput_self (aput_nodup hnd) (by omega) ?_
      have : hput (hput st.H d (.dict (aput es x c))) d (.dict (aputs (aput es x c) l)) = hput st.H d (.dict (aputs es ((x, c) :: l))) := by
        funext b; unfold hput; split <;> rfl
      show Q ⟨st.lo, hput (hput st.H d (.dict (aput es x c))) d (.dict (aputs (aput es x c) l))⟩
      rw [this]; exact h

theorem WE.dict {keys : List (Option Expr)} {values : List Expr} {pos : Pos} (items : List (Expr × Expr)) 
    (h : ∀ d, st.H d = Option.none → WPairs C items { st with H := hput st.H d (.dict []) } (fun l st1 => st1.H d = some (.dict []) ∧ l.length ≤ 15 ∧ Q (.loc d) { st1 with H := hput st1.H d (.dict (aputs [] l)) }))
    (hshape : (evalEachOpt keys C.env).zip ((evalEach values C.env).map fun v => do let x ← v; standAt pos; pure x) = (items.map (ptree C.env pos)).map fun p => (some p.1, p.2) := by rfl) (h0 : items ≠ [] := by decide) (hlen : items.length ≤ 15 := by decide) :
    WE C (.Dict keys values pos) st Q := fun I => by
  rw [arm_eval_Dict, hshape, dictDisplay_pairs _ (by simpa using h0) (by simp; (exact Nat.lt_of_le_of_lt (by assumption) (by decide)))]
  refine WL.bind (WL.standAt (WL.bind ?_))
  unfold subDict
  intro KF s S
  refine wpAny_bind (wpAny_alloc ?_)
  (refine el_0_1 (S.newH (o := { cls := .type "dict", data := .dict #[] }) (c := .dict []) rfl (in_2_1 0 (#[]) rfl rfl)) fun hn S1 => ?_)
  have main : WL C (holding [.ref s.heap.objs.size] (do
      if (items.map (ptree C.env pos)).length ≤ 15 then
        let vs ← evalPairs (items.map (ptree C.env pos))
        holding (vs.flatMap fun (k, v) => [k, v]) do
          for (k, v) in vs do dictSet s.heap.objs.size k v
      else
        rule "dict.display.long"
        for (k, v) in items.map (ptree C.env pos) do
          let kv ← k
          let vv ← holding [kv] v
          holding [kv, vv] (dictSet s.heap.objs.size kv vv)) >>= fun _ => pure s.heap.objs.size) I { st with H := hput st.H s.heap.objs.size (.dict []) } (fun J d st' => d = s.heap.objs.size ∧ Q (.loc s.heap.objs.size) st') := by
    refine WL.bind (WL.holding ?_)
    rw [if_pos (by simpa using hlen)]
    refine WL.bind ((evalPairs_W (h _ hn) I).mono (fun J vs st1 l hEl => ?_))
    (refine el_1_3 hEl fun l' rl hd hl q => ?_; try clear hEl)
    refine WL.holding ?_
    refine WL.bind ((sets_W (es := []) rl hd (by simp) (by simp; (exact Nat.le_trans (by assumption) (by decide))) (Q := fun st' => Q (.loc s.heap.objs.size) st') q).mono (fun J2 _ st2 l2 q2 => WL.pure (WL.pure ⟨rfl, q2⟩)))
  refine wpAny_mono (main KF _ S1) (fun d s' ⟨J, st', l, S', e, q⟩ => ?_) fun _ _ x => x
  subst e
  exact ⟨J, st', l, S', WL.pure ⟨.loc _, by simp [VR], q⟩⟩
end
end Mine
open PySem PySem.W PySem.Calls PyProof.Rows
set_option Elab.async false
set_option linter.all false
set_option maxRecDepth 100000
set_option genSizeOf false
namespace Mine

noncomputable def cpick (cs : List CV) (lo hi st : Option Int) : List CV := (sliceRange (sliceBounds lo hi st cs.length).1 (sliceBounds lo hi st cs.length).2.1 (sliceBounds lo hi st cs.length).2.2).filterMap (cs[·]?)
theorem VRs.pick {I : IM} {cs : List CV} {vs : Array Value} (r : VRs I cs vs.toList) : ∀ idx : List Nat, VRs I (idx.filterMap (cs[·]?)) (idx.filterMap (vs[·]?))
  | [] => .nil
  | i :: idx => by
    have ih := VRs.pick r idx
    simp only [List.filterMap_cons, List.filterMap_cons]
    have e : cs.length = vs.size := by have := r.length; simpa using this
    by_cases h : i < cs.length
    · (refine el_1_1 (r.get (i := i) (c := cs[i]) (by simp [h])) fun v hv rv => ?_)
      have hv' : vs[i]? = some v := by simpa using hv
      rw [List.getElem?_eq_getElem h, hv']
      exact .cons rv ih
    · rw [List.getElem?_eq_none (by (exact Nat.le_of_not_lt (by assumption))), Array.getElem?_eq_none (by omega)]
      exact ih

/-- as many as stand ahead of an index -/
noncomputable def upk (n : Nat) (k : Int) : Nat := if k < 0 then (k + n).toNat else min k.toNat n
theorem upk_le (n : Nat) (k : Int) : upk n k ≤ n := by unfold upk; split <;> omega
theorem adjust_upto (k : Int) (n : Nat) : Builtin.Slice.sliceAdjust none (some k) 1 (n : Int) = (0, (upk n k : Int)) := by
  unfold Builtin.Slice.sliceAdjust upk
  have h1 : ¬ ((1 : Int) < 0) := by decide
  simp only [h1, if_false]
  congr 1
  split <;> omega
theorem places_upto (k : Nat) : Builtin.Slice.slicePlaces 0 (k : Int) 1 = k := by
  unfold Builtin.Slice.slicePlaces
  have h1 : (1 : Int) > 0 := by (exact Int.natCast_nonneg _)
  simp only [h1, if_true, Int.ediv_one]
  split <;> omega
theorem pick_upto (xs : Array Value) (k : Nat) (hk : k ≤ xs.size) : ((List.range k).filterMap fun (j : Nat) => xs[((0 : Int) + (j : Int) * 1).toNat]?) = xs.toList.take k := by
  have e : (fun (j : Nat) => xs[((0 : Int) + (j : Int) * 1).toNat]?) = fun j => xs[j]? := by
    funext j
    have : ((0 : Int) + (j : Int) * 1).toNat = j := by simp
    rw [this]
  rw [e]
  have gen : ∀ (l : List Value) (k : Nat), k ≤ l.length → (List.range k).filterMap (fun j => l[j]?) = l.take k := by
    intro l
    induction l with
    | nil => intro k hk; simp at hk; subst hk; rfl
    | cons x l ih =>
      intro k hk
      cases k with
      | zero => rfl
      | succ k =>
        rw [List.range_succ_eq_map, List.filterMap_cons, List.filterMap_map]
        have : ((fun j => (x :: l)[j]?) ∘ Nat.succ) = fun j => l[j]? := by funext j; simp
        rw [this, ih k (by simpa using hk)]; rfl
  have := gen xs.toList k (by simpa using hk)
  simpa using this

section
variable {prog : Program} {w : World} {A : Around} {E : Value → Shared → Prop} {s : Shared}
theorem slicePart_any {v : Value} {k : Option Int} {Q : Option Int → Shared → Prop} (hv : IsPart v k) (h : Q k s) : wpAny (model prog w) A (Builtin.Slice.slicePartIndex v) Q E s := by
  cases hv with
  | none => exact slicePart_none h
  | int i t => exact slicePart_int h
theorem getItem_tuple_upto {t sl : Addr} {items : Array Value} {k : Int} {vl vu vs : Value} {Q : Value → Shared → Prop} (ht : IsTup s.heap t items) (hs : s.heap.IsSliceOf sl vl vu vs) (pl : IsPart vl none) (pu : IsPart vu (some k)) (ps : IsPart vs none)
    (h1 : upk items.size k = items.size → Q (.ref t) s) (h2 : Q (.ref s.heap.objs.size) { s with heap := s.heap.push { cls := .type "tuple", data := .seq (items.toList.take (upk items.size k)).toArray } })
    (hsz : items.size ≤ sizeLine) : wpAny (model prog w) A (getItem (.ref t) (.ref sl)) Q E s := by
  have hk := upk_le items.size k
  have htake : sizeOk (.seq (items.toList.take (upk items.size k)).toArray) := by
    show (items.toList.take (upk items.size k)).toArray.size ≤ sizeLine
    simp only [List.size_toArray, List.length_take, Array.length_toList]
    omega
  (refine el_1_2 (id hs) fun os hos hcs hds => ?_)
  have hTs : s.TypeIs (.ref sl) "slice" := (in_1_1 os hos hcs)
  unfold getItem
  try with_reducible refine wpAny_holding ?_
  first | refine wpAny_bind (wpAny_pure ?_) | skip
  refine wpAny_bind (wpAny_sequenceKey ht.typeIs (by decide) ?_)
  refine wpAny_bind (wpAny_callSpecial?_slot (name := Str.ofString "__getitem__") ht.typeIs slot_tuple_getitem
    (wpAny_call_entry slot_tuple_getitem ht.typeIs entry_tuple_getitem ?_ (args_tuple_getitem _ _)))
  show wpAny _ _ (Builtin.Tuple.tupleItemsOf (.ref t) >>= _) _ _ s
  refine wpAny_bind (tupleItemsOf_ ht ?_)
  refine wpAny_bind (wpAny_typeOf hTs ?_)
  rw [if_pos (by decide)]
  refine wpAny_bind ?_
  unfold Builtin.Slice.sliceApplied Builtin.Slice.sliceFields
  refine wpAny_bind (wpAny_bind (wpAny_field hos hds (x := vl) rfl (wpAny_bind (wpAny_field hos hds (x := vu) rfl (wpAny_bind (wpAny_field hos hds (x := vs) rfl (wpAny_pure ?_)))))))
  refine wpAny_bind (slicePart_any ps ?_)
  show wpAny _ _ (if ((1 : Int) == 0) = true then _ else _) _ _ s
  rw [if_neg (by decide)]
  refine wpAny_bind (slicePart_any pl (wpAny_bind (slicePart_any pu (wpAny_bind (wpAny_pure ?_)))))
  show wpAny _ _ (match Builtin.Slice.sliceAdjust none (some k) 1 (items.size : Int) with | (lo, hi) => pure (lo, (1 : Int), Builtin.Slice.slicePlaces lo hi 1)) _ _ s
  rw [adjust_upto k items.size]
  show wpAny _ _ (pure ((0 : Int), (1 : Int), Builtin.Slice.slicePlaces (0 : Int) (upk items.size k : Int) 1)) _ _ s
  rw [places_upto]
  refine wpAny_pure ?_
  show wpAny _ _ (if ((0 : Int) == 0 && (1 : Int) == 1 && (upk items.size k == items.size)) = true then _ else _) _ _ s
  by_cases hw : upk items.size k = items.size
  · rw [if_pos (by simp [hw])]
    unfold Builtin.Tuple.tupleIsExact
    refine wpAny_bind (wpAny_bind (wpAny_typeOf ht.typeIs (wpAny_pure ?_)))
    rw [if_pos (by decide)]
    refine wpAny_bind (wpAny_rule ?_)
    exact wpAny_pure (in_1_1 _ rfl (wpAny_pure (h1 hw)))
  · rw [if_neg (by simp [hw]), pick_upto items _ hk]
    first
      | exact wpAny_bind (m := Builtin.Tuple.tupleExact _) (wpAny_newObj_type (wpAny_pure (in_1_1 _ rfl (wpAny_pure h2))) htake)
      | exact wpAny_bind (m := Builtin.Tuple.tupleExact _) (wpAny_newObj_type (wpAny_bind (wpAny_pure (wpAny_pure ⟨_, rfl, wpAny_pure h2⟩))) htake)
      | exact wpAny_bind (wpAny_bind (m := Builtin.Tuple.tupleExact _) (wpAny_newObj_type (wpAny_pure (wpAny_pure ⟨_, rfl, wpAny_pure h2⟩)) htake))
end

section
variable {C : Cx} {dep : Nat} {KF I : IM} {st : CSt} {s : Shared} {Q : CV → CSt → Prop}

theorem WE.dict0 {pos : Pos} (h : ∀ d, st.H d = Option.none → Q (.loc d) { st with H := hput st.H d (.dict []) }) : WE C (.Dict [] [] pos) st Q := fun I KF s S => by
  refine wpAny_Dict_empty ?_
  (refine el_0_1 (S.newH (o := { cls := .type "dict", data := .dict #[] }) (c := .dict []) rfl (in_2_1 0 (#[]) rfl rfl)) fun hn S1 => ?_)
  exact ⟨I, _, .refl I, S1, .loc _, by simp [VR], h _ hn⟩

/-- a part of a slice -/
noncomputable def WP (C : Cx) : Option Expr → CSt → (Option Int → CSt → Prop) → Prop
  | none, st, Q => Q none st
  | some e, st, Q => WE C e st (fun c st' => ∃ i, c = .int i ∧ Q (some i) st')
theorem part_W {e : Option Expr} {Q : Option Int → CSt → Prop} (h : WP C e st Q) (I : IM) : WL C (valueOrNone (evalOpt e C.env)) I st (fun J v st' => ∃ k, IsPart v k ∧ Q k st') := by
  cases e with
  | none => exact WL.pure (in_1_1 none (.none) h)
  | some e =>
    refine (h I).mono (fun J v st' _ hEl => ?_)
    obtain ⟨c, r, i, e, q⟩ := hEl
    subst e
    simp only [VR] at r
    (refine el_1_0 r fun t xEl1 => ?_; try clear r; obtain rfl := xEl1)
    exact (in_1_1 (some i) (.int i t) q)

noncomputable def WSl (C : Cx) (a : CV) (lo hi stp : Option Int) (st : CSt) (Q : CV → CSt → Prop) : Prop :=
  ∀ I v KF s sl vl vu vs, VR I a v → SR C KF I st s → s.heap.IsSliceOf sl vl vu vs → IsPart vl lo → IsPart vu hi → IsPart vs stp →
    (∃ T id, typeLookup (.type T) "__getitem__" = pure (some (.builtin id)) ∧ s.TypeIs v T) ∧
    wpAny (model C.prog C.w) C.A (getItem v (.ref sl)) (fun r s' => OkP C KF I s' fun J st' => ValP J r Q st') (fun e s' => ErP C KF I false e s') s

theorem WE.slice {value : Expr} {lo up stp : Option Expr} {p pos : Pos} (h : WE C value st (fun a st1 => WP C lo st1 (fun l st2 => WP C up st2 (fun u st3 => WP C stp st3 (fun k st4 => WSl C a l u k st4 Q)))))
    (hsl : ∃ ops : Value → Value → List Value, ∀ o i, subscripted (.Slice lo up stp p) false o i = operate (ops o i) (getItem o i) := by first | exact ⟨fun o i => [i, o], fun _ _ => rfl⟩ | exact ⟨fun o i => [o, i], fun _ _ => rfl⟩) : WE C (.Subscript value (.Slice lo up stp p) pos) st Q := fun I => by
  simp only [eval_Subscript]
  refine WL.bind ((h I).mono (fun J a st1 _ hh => hh.use fun ca ra ha => ?_))
  simp only [arm_eval_Slice]
  refine WL.bind (WL.holding (WL.bind ((part_W ha J).mono (fun J2 vl st2 l2 hEl => ?_))))
  (refine el_1_1 hEl fun kl pl q2 => ?_; try clear hEl)
  refine WL.bind (WL.holding ((part_W q2 J2).mono (fun J3 vu st3 l3 hEl => ?_)))
  (refine el_1_1 hEl fun ku pu q3 => ?_; try clear hEl)
  refine WL.bind (WL.holding ((part_W q3 J3).mono (fun J4 vs st4 l4 hEl => ?_)))
  (refine el_1_1 hEl fun ks ps q4 => ?_; try clear hEl)
  intro KF s S
  refine wpAny_newObj_type ?_ (by size_fits)
  (refine el_0_1 (S.newI (o := { cls := .type "slice", data := .fields #[vl, vu, vs] }) rfl) fun l5 S1 => ?_)
  refine ⟨_, st4, l5, S1, ?_⟩
  refine WL.bind (WL.standAt ?_)
  intro KF2 s2 S2
  have hsl2 : s2.heap.IsSliceOf s.heap.objs.size vl vu vs := (in_1_2 _ (S2.imm _ _ (iput_self (I := J4))) rfl rfl)
  (refine el_0_1 (q4 _ _ KF2 s2 _ _ _ _ ((((ra.mono l2).mono l3).mono l4).mono l5) S2 hsl2 pl pu ps) fun xEl0 hg => ?_; (refine el_2_1 xEl0 fun T id hl hT => ?_; try clear xEl0))
  (refine el_1_0 hsl fun ops hops => ?_; try clear hsl)
  exact tail_any hT hl hg (hops _ _)

theorem WSl.tupTo {cs : List CV} {k : Int} (hs : cs.length ≤ 2 ^ 24) (h : Q (.tup (cs.take (upk cs.length k))) st) : WSl C (.tup cs) none (some k) none st Q := fun I v KF s sl vl vu vs r S hsl pl pu ps => by
  have r0 := r
  simp only [VR] at r
  (refine el_3_1 r fun a n xs xEl3 rEl => ?_; try clear r; obtain rfl := xEl3; (refine el_0_1 rEl fun hi hr => ?_; try clear rEl))
  have ht : IsTup s.heap a xs := (in_1_2 _ (S.imm _ _ hi) rfl (in_1_0 n rfl))
  have e : cs.length = xs.size := by have := hr.length; simpa using this
  refine ⟨(in_2_1 ("tuple") _ slot_tuple_getitem.lookup ht.typeIs), getItem_tuple_upto ht hsl pl pu ps (fun hk => ?_) ?_ (by rw [sizeLine_eq]; omega)⟩
  · rw [e, hk, ← e, List.take_length] at h
    exact ⟨I, st, .refl I, S, _, r0, h⟩
  · (refine el_0_1 (S.newI (o := { cls := .type "tuple", data := .seq (xs.toList.take (upk xs.size k)).toArray }) rfl) fun l5 S1 => ?_)
    refine ⟨_, st, l5, S1, _, ?_, h⟩
    simp only [VR]
    refine (in_3_2 _ _ _ rfl iput_self ?_)
    rw [e]
    exact VRs.mono l5 _ _ (by simpa using hr.take (upk xs.size k))

theorem listSlice_W {cs : List CV} {lo hi stp : Option Int} {v : Value} {a sl : Addr} {xs : Array Value} {vl vu vs : Value} (hl : s.heap.IsList a xs) (hr : VRs I cs xs.toList) (S : SR C KF I st s) (hsl : s.heap.IsSliceOf sl vl vu vs) (pl : IsPart vl lo) (pu : IsPart vu hi) (ps : IsPart vs stp)
    (h0 : stp ≠ some 0) (hs : cs.length ≤ 2 ^ 24) (h : Q (.lst (cpick cs lo hi stp)) st) : wpAny (model C.prog C.w) C.A (getItem (.ref a) (.ref sl)) (fun r s' => OkP C KF I s' fun J st' => ValP J r Q st') (fun e s' => ErP C KF I false e s') s := by
  have e : cs.length = xs.size := by have := hr.length; simpa using this
  refine wpAny_getItem_list_slice hl hsl pl pu ps h0 ?_ (by rw [sizeLine_eq]; omega)
  (refine el_0_1 (S.newI (o := { cls := .type "list", data := .seq (slicePick xs lo hi stp) }) rfl) fun l5 S1 => ?_)
  refine ⟨_, st, l5, S1, _, ?_, h⟩
  simp only [VR]
  refine (in_3_2 _ _ _ rfl iput_self (VRs.mono l5 _ _ ?_))
  unfold cpick slicePick
  rw [e]
  exact hr.pick _
theorem WSl.lst {cs : List CV} {lo hi stp : Option Int} (h0 : stp ≠ some 0) (hs : cs.length ≤ 2 ^ 24) (h : Q (.lst (cpick cs lo hi stp)) st) : WSl C (.lst cs) lo hi stp st Q := fun I v KF s sl vl vu vs r S hsl pl pu ps => by
  simp only [VR] at r
  (refine el_3_1 r fun a n xs xEl3 rEl => ?_; try clear r; obtain rfl := xEl3; (refine el_0_1 rEl fun hi' hr => ?_; try clear rEl))
  have hl : s.heap.IsList a xs := (in_1_2 _ (S.imm _ _ hi') rfl (in_1_0 n rfl))
  exact ⟨(in_2_1 ("list") _ slot_list_getitem.lookup hl.typeIs), listSlice_W (v := .none) hl hr S hsl pl pu ps h0 hs h⟩
end
end Mine
open PySem PySem.W PySem.Calls PyProof.Rows
set_option Elab.async false
set_option linter.all false
set_option maxRecDepth 100000
set_option genSizeOf false
namespace Mine

theorem mapSeq_exact (xs : Array Value) (n : Nat) (f : Array Value → Array Value) : ∃ m, Obj.mapSeq f ⟨.type "list", none, .seq xs n, #[]⟩ = ⟨.type "list", none, .seq (f xs) m, #[]⟩ := by
  unfold Obj.mapSeq
  exact (in_1_0 _ rfl)

section
variable {C : Cx} {dep : Nat} {KF I : IM} {st : CSt} {s : Shared} {Q : CV → CSt → Prop}

theorem list_at {a : Addr} {cs : List CV} (S : SR C KF I st s) (hH : st.H a = some (.list cs)) : ∃ n xs, s.heap.get? a = some ⟨.type "list", none, .seq xs n, #[]⟩ ∧ VRs I cs xs.toList ∧ cs.length = xs.size := by
  (refine el_0_2 (S.mu a _ hH) fun _ _ rEl => ?_; (refine el_1_1 rEl fun o ho sEl => ?_; try clear rEl; obtain ⟨n, xs, rfl, hr⟩ := sEl))
  exact (in_2_2 n xs ho hr (by have := hr.length; simpa using this))
theorem list_set {a : Addr} {cs cs' : List CV} {xs ys : Array Value} {n : Nat} {f : Array Value → Array Value} (S : SR C KF I st s) (hH : st.H a = some (.list cs)) (ho : s.heap.get? a = some ⟨.type "list", none, .seq xs n, #[]⟩) (e : f xs = ys) (hr : VRs I cs' ys.toList) (tk : Nat) :
    SR C KF I { st with H := hput st.H a (.list cs') } { s with heap := s.heap.update a (Obj.mapSeq f), toks := tk } := by
  (refine el_1_0 (mapSeq_exact xs n f) fun m hm => ?_)
  refine S.setH (tk := tk) (c := .list cs') hH (fun b o hb e => ((Heap.SameBut.update s.heap a _).2 b hb).trans e) (Heap.get?_update_self (Obj.mapSeq f) ho (by rw [hm]; rfl)) ?_
  rw [hm, e]
  exact (in_2_1 _ _ rfl hr)

-- lengths
theorem WCall.lenT {cs : List CV} (hs : cs.length ≤ 2 ^ 24) (h : Q (.int cs.length) st) : WCall C (.builtin "len") [.tup cs] [] [] st Q := fun I us vs' r1 r2 KF s S => by
  (revert r1; intro hfEl; refine el_2_1 hfEl.uncons fun x us1 xEl2 rEl => ?_; try clear hfEl; obtain rfl := xEl2; (refine el_0_1 rEl fun ra r1 => ?_; try clear rEl))
  have := r1.nil_iff; subst this
  rw [zip_nil_left]
  simp only [VR] at ra
  (refine el_3_1 ra fun a n xs xEl3 rEl => ?_; try clear ra; obtain rfl := xEl3; (refine el_0_1 rEl fun hi hr => ?_; try clear rEl))
  have ht : IsTup s.heap a xs := (in_1_2 _ (S.imm _ _ hi) rfl (in_1_0 n rfl))
  have e : cs.length = xs.size := by have := hr.length; simpa using this
  refine Calls.call_function_entry kind_len plain_len entry_len (args_len1 _) (len_body_tuple ht (by omega) ?_)
  exact ⟨I, st, .refl I, S.toks _, .int cs.length, by simp only [VR]; exact (in_1_0 _ (by rw [e])), h⟩
theorem WCall.lenL {cs : List CV} (hs : cs.length ≤ 2 ^ 24) (h : Q (.int cs.length) st) : WCall C (.builtin "len") [.lst cs] [] [] st Q := fun I us vs' r1 r2 KF s S => by
  (revert r1; intro hfEl; refine el_2_1 hfEl.uncons fun x us1 xEl2 rEl => ?_; try clear hfEl; obtain rfl := xEl2; (refine el_0_1 rEl fun ra r1 => ?_; try clear rEl))
  have := r1.nil_iff; subst this
  rw [zip_nil_left]
  simp only [VR] at ra
  (refine el_3_1 ra fun a n xs xEl3 rEl => ?_; try clear ra; obtain rfl := xEl3; (refine el_0_1 rEl fun hi hr => ?_; try clear rEl))
  have hl : s.heap.IsList a xs := (in_1_2 _ (S.imm _ _ hi) rfl (in_1_0 n rfl))
  have e : cs.length = xs.size := by have := hr.length; simpa using this
  exact call_len_list hl (by omega) ⟨I, st, .refl I, S.toks _, .int cs.length, by simp only [VR]; exact (in_1_0 _ (by rw [e])), h⟩
theorem WCall.range1 {b : Int} (h : Q (.rng 0 b) st) : WCall C (.type "range") [.int b] [] [] st Q := fun I us vs' r1 r2 KF s S => by
  (revert r1; intro hfEl; refine el_2_1 hfEl.uncons fun x us1 xEl2 rEl => ?_; try clear hfEl; obtain rfl := xEl2; (refine el_0_1 rEl fun ra r1 => ?_; try clear rEl))
  have := r1.nil_iff; subst this
  rw [zip_nil_left]
  simp only [VR] at ra
  (refine el_1_0 ra fun t xEl1 => ?_; try clear ra; obtain rfl := xEl1)
  refine call_range_1 ?_
  (refine el_0_1 (S.newI (o := { cls := .type "range", data := .fields #[.int 0 s.toks, .int b t, .int 1 (s.toks + 1)] }) rfl) fun l5 S1 => ?_)
  refine ⟨_, st, l5, S1.toks _, .rng 0 b, ?_, h⟩
  simp only [VR]
  exact (in_4_1 _ _ _ _ rfl iput_self)

-- truth
theorem Wtr.tup {cs : List CV} {Q : Bool → CSt → Prop} (hs : cs.length ≤ 2 ^ 24) (h : Q (!cs.isEmpty) st) : Wtr C (.tup cs) st Q := fun I v r KF s S => by
  simp only [VR] at r
  (refine el_3_1 r fun a n xs xEl3 rEl => ?_; try clear r; obtain rfl := xEl3; (refine el_0_1 rEl fun hi hr => ?_; try clear rEl))
  have ht : IsTup s.heap a xs := (in_1_2 _ (S.imm _ _ hi) rfl (in_1_0 n rfl))
  have e : cs.length = xs.size := by have := hr.length; simpa using this
  have e2 : xs.isEmpty = cs.isEmpty := by
    cases cs with
    | nil => simp at e ⊢; exact Array.eq_empty_of_size_eq_zero e.symm
    | cons _ _ => simp at e ⊢; intro q; rw [q] at e; simp at e
  refine truthy_tuple ht (by omega) ?_
  rw [e2]
  exact ⟨I, st, .refl I, S.toks _, h⟩

-- a list's methods
theorem WMeth.listLoc {cs} {a : Addr} {name : Str} {id : String} (hH : st.H a = some (.list cs)) (slot : Slot "list" name id) (hty : typeOf (.builtin id) = pure (.type "method_descriptor")) : WMeth C (.loc a) name (.builtin id) st := fun I v KF s pl E Q r S q => by
  simp only [VR] at r; subst r
  (refine el_2_1 (list_at S hH) fun n xs ho _ => ?_)
  exact getMethod_builtin (in_1_1 _ ho rfl) F.plainAttrs_list slot hty (fun b e => by cases e; exact (in_1_1 _ ho rfl)) (q s.toks)
theorem WMeth.lst {cs : List CV} {name : Str} {id : String} (slot : Slot "list" name id) (hty : typeOf (.builtin id) = pure (.type "method_descriptor")) : WMeth C (.lst cs) name (.builtin id) st := fun I v KF s pl E Q r S q => by
  simp only [VR] at r
  (refine el_3_1 r fun a n xs xEl3 rEl => ?_; try clear r; obtain rfl := xEl3; (refine el_0_1 rEl fun hi hr => ?_; try clear rEl))
  exact getMethod_builtin (in_1_1 _ (S.imm _ _ hi) rfl) F.plainAttrs_list slot hty (fun b e => by cases e; exact (in_1_1 _ (S.imm _ _ hi) rfl)) (q s.toks)

theorem WCall.extend {a : Addr} {cs ds : List CV} (hH : st.H a = some (.list cs)) (hs : cs.length + ds.length ≤ 2 ^ 23) (h : Q .none { st with H := hput st.H a (.list (cs ++ ds)) }) : WCall C (.builtin "list.extend") [.loc a, .lst ds] [] [] st Q := fun I us vs' r1 r2 KF s S => by
  (revert r1; intro hfEl; refine el_2_1 hfEl.uncons fun x us1 xEl2 rEl => ?_; try clear hfEl; obtain rfl := xEl2; (refine el_0_1 rEl fun ra r1 => ?_; try clear rEl))
  (revert r1; intro hfEl; refine el_2_1 hfEl.uncons fun y us2 xEl2 rEl => ?_; try clear hfEl; obtain rfl := xEl2; (refine el_0_1 rEl fun rc r1 => ?_; try clear rEl))
  have := r1.nil_iff; subst this
  rw [zip_nil_left]
  simp only [VR] at ra rc; subst ra
  (refine el_3_1 rc fun b m ys xEl3 rEl => ?_; try clear rc; obtain rfl := xEl3; (refine el_0_1 rEl fun hi hr' => ?_; try clear rEl))
  (refine el_2_2 (list_at S hH) fun n xs ho hr e => ?_)
  have e' : ds.length = ys.size := by have := hr'.length; simpa using this
  have hz : xs.size ≤ sizeLine := by rw [sizeLine_eq]; omega
  have hz2 : xs.size + ys.size ≤ sizeLine := by rw [sizeLine_eq]; omega
  refine call_meets F.slot_list_extend (in_1_1 _ ho rfl) F.entry_list_extend (F.args_list_extend_2 _ _) (AutoSeq1.list_extend_list_list_0 a xs n b ys m (by
    unfold Builtin.List.listTooLong
    simp only [Bool.and_eq_true, decide_eq_true_eq, not_and]
    intro _
    rw [sizeLine_eq] at *
    (exact Nat.not_lt_of_le (by assumption))) hz (by (exact Nat.le_succ_of_le (by assumption)))) (in_0_2 ho (S.imm _ _ hi) ?_)
  exact ⟨I, _, .refl I, list_set S hH ho rfl (by simpa using hr.append hr') s.toks, .none, by simp [VR], h⟩

/-- list(x) -/
theorem WCall.listOf {cs : List CV} (hs : cs.length ≤ 2 ^ 23) (h : ∀ a, st.H a = Option.none → Q (.loc a) { st with H := hput st.H a (.list cs) }) : WCall C (.type "list") [.lst cs] [] [] st Q := fun I us vs' r1 r2 KF s S => by
  (revert r1; intro hfEl; refine el_2_1 hfEl.uncons fun x us1 xEl2 rEl => ?_; try clear hfEl; obtain rfl := xEl2; (refine el_0_1 rEl fun ra r1 => ?_; try clear rEl))
  have := r1.nil_iff; subst this
  rw [zip_nil_left]
  simp only [VR] at ra
  (refine el_3_1 ra fun a n xs xEl3 rEl => ?_; try clear ra; obtain rfl := xEl3; (refine el_0_1 rEl fun hi hr => ?_; try clear rEl))
  have e : cs.length = xs.size := by have := hr.length; simpa using this
  refine call_list_seq a (.inl rfl) (S.imm _ _ hi) rfl rfl (fun h' c' hk ho => ?_) (by rw [sizeLine_eq]; omega)
  (refine el_0_3 S.fresh' fun n1 n2 n3 n4 => ?_)
  have S1 : SR C KF I st { s with heap := h', toks := s.toks } := S.keeps hk
  exact ⟨I, _, .refl I, S1.addH (c := .list cs) S.big ho n1 n2 n4 (in_2_1 _ _ rfl hr), .loc _, by simp [VR], h _ n3⟩

/-- l.index(x) -/
theorem indexIn_W {a : Addr} {cs : List CV} {b : CV} {xs : Array Value} {n j : Nat} {u : Value} (S : SR C KF I st s) (ok : C.Ok dep) (ho : s.heap.get? a = some ⟨.type "list", none, .seq xs n, #[]⟩) (hr : VRs I cs xs.toList) (rb : VR I b u) (pa : isPys cs = true) (pb : isPy b = true) (hd : (toPy b).depth ≤ 100)
    (hs : cs.length ≤ 2 ^ 24) (hj : j < cs.length) (hit : (cs[j]?.map fun c => ceq c b) = some true) (hno : ∀ m, m < j → (cs[m]?.map fun c => ceq c b) = some false) (h : Q (.int j) st) :
    wpAny (model C.prog C.w) C.A (PySem.call (.builtin "list.index") [.ref a, u]) (fun r s' => OkP C KF I s' fun J st' => ValP J r Q st') (fun e s' => ErP C KF I false e s') s := by
  have e : cs.length = xs.size := by have := hr.length; simpa using this
  have at_ : ∀ m (hm : m < xs.size), (cs[m]?.map fun c => ceq c b) = some (eqTo s.heap (toPy b) xs[m]) := by
    intro m hm
    (refine el_1_1 (hr.get (i := m) (c := cs[m]) (by simp [show m < cs.length by omega])) fun v hv rv => ?_)
    have hv' : xs[m] = v := by simp [hm] at hv; exact hv
    rw [hv', List.getElem?_eq_getElem (show m < cs.length by omega)]
    (refine el_0_1 (VR.reads S.imm _ v (isPys_all.mp pa _ (List.getElem_mem (show m < cs.length by omega))) rv) fun xEl0 a2 => ?_; (refine el_1_0 xEl0 fun as a1 => ?_; try clear xEl0))
    rw [eqTo_of a2 a1]; rfl
  refine call_meets F.slot_list_index (in_1_1 _ ho rfl) F.entry_list_index (F.args_list_index_2 _ _) (SeqAt.list_indexAt a xs n none #[] u (eqTo s.heap (toPy b)) j (by omega) (by omega) ?_ ?_) (in_0_2 ho (fun y hy => eqAt_items S ok pb hd rb pa hr y (by simpa using hy)) ?_)
  · have := at_ j (by omega); rw [hit] at this; exact (Option.some.inj this).symm
  · intro m hm hmj; have := at_ m hm; rw [hno m hmj] at this; exact (Option.some.inj this).symm
  · exact ⟨I, st, .refl I, S.toks _, .int j, by simp [VR], h⟩
theorem WCall.indexL {cs : List CV} {b : CV} {j : Nat} (ok : C.Ok dep) (pa : isPys cs = true) (pb : isPy b = true) (hd : (toPy b).depth ≤ 100) (hs : cs.length ≤ 2 ^ 24) (hj : j < cs.length) (hit : (cs[j]?.map fun c => ceq c b) = some true)
    (hno : ∀ m, m < j → (cs[m]?.map fun c => ceq c b) = some false) (h : Q (.int j) st) : WCall C (.builtin "list.index") [.lst cs, b] [] [] st Q := fun I us vs' r1 r2 KF s S => by
  (revert r1; intro hfEl; refine el_2_1 hfEl.uncons fun x us1 xEl2 rEl => ?_; try clear hfEl; obtain rfl := xEl2; (refine el_0_1 rEl fun ra r1 => ?_; try clear rEl))
  (revert r1; intro hfEl; refine el_2_1 hfEl.uncons fun y us2 xEl2 rEl => ?_; try clear hfEl; obtain rfl := xEl2; (refine el_0_1 rEl fun rc r1 => ?_; try clear rEl))
  have := r1.nil_iff; subst this
  rw [zip_nil_left]
  simp only [VR] at ra
  (refine el_3_1 ra fun a n xs xEl3 rEl => ?_; try clear ra; obtain rfl := xEl3; (refine el_0_1 rEl fun hi hr => ?_; try clear rEl))
  exact indexIn_W S ok (S.imm _ _ hi) hr rc pa pb hd hs hj hit hno h

/-- a list's item is laid -/
theorem setAt_any {prog : Program} {w : World} {A : Around} {E : Value → Shared → Prop} {s : Shared} {l : Addr} {items : Array Value} {n : Nat} {k : Int} {t : Tok} {v : Value} {Q : Unit → Shared → Prop} (ho : s.heap.get? l = some ⟨.type "list", none, .seq items n, #[]⟩)
    (h0 : 0 ≤ k) (hfit : k < 2 ^ 63) (hn : k < items.size) (hQ : Q () { s with heap := s.heap.update l (Obj.mapSeq (·.setIfInBounds k.toNat v)) }) : wpAny (model prog w) A (setItem (.ref l) (.int k t) v) Q E s := by
  have hl : s.heap.IsList l items := (in_1_2 _ ho rfl (in_1_0 n rfl))
  unfold setItem
  try with_reducible refine wpAny_holding ?_
  first | refine wpAny_bind (wpAny_pure ?_) | skip
  refine wpAny_bind (wpAny_sequenceKey hl.typeIs (by decide) ?_)
  refine wpAny_bind (wpAny_callSpecial?_slot (name := Str.ofString "__setitem__") hl.typeIs slot_list_setitem
    (wpAny_call_entry slot_list_setitem hl.typeIs entry_list_setitem ?_ (args_list_setitem _ _ _)))
  show wpAny _ _ (Builtin.List.listSubscript? (.int k t) >>= _) _ _ s
  refine wpAny_bind (wpAny_listSubscript_int (fitsIndex_of h0 hfit) ?_)
  clear hfit
  (refine el_1_0 (Int.eq_ofNat_of_zero_le h0) fun j xEl1 => ?_; obtain rfl := xEl1)
  have hj : j < items.size := by omega
  have hx' : items[j]? = some items[j] := Array.getElem?_eq_getElem hj
  show wpAny _ _ ((seqItemAt l j >>= fun r => pure (r.map (j, ·))) >>= _) _ _ s
  refine wpAny_bind (wpAny_bind (wpAny_seqItemAt ho rfl (wpAny_pure ?_)))
  rw [hx']
  show wpAny _ _ (setSeqItemAt l j v >>= _) _ _ s
  refine wpAny_bind (wpAny_setSeqItemAt ho rfl ?_)
  first
    | exact wpAny_bind (wpAny_pure (wpAny_pure (in_1_1 (.none) rfl (wpAny_pure hQ))))
    | exact wpAny_pure (in_1_1 (.none) rfl (wpAny_pure hQ))
theorem setItemL_W {a : Addr} {cs : List CV} {k : Nat} {c : CV} {t : Tok} {v : Value} {Q : CSt → Prop} (hH : st.H a = some (.list cs)) (hk : k < cs.length) (hn : cs.length ≤ 2 ^ 24) (rv : VR I c v) (h : Q { st with H := hput st.H a (.list (cs.set k c)) }) :
    WL C (setItem (.ref a) (.int k t) v) I st (fun _ _ st' => Q st') := fun KF s S => by
  (refine el_2_2 (list_at S hH) fun n xs ho hr e => ?_)
  refine setAt_any ho (by (exact Int.natCast_nonneg _)) (by omega) (by omega) ?_
  have := list_set (cs' := cs.set k c) (ys := xs.setIfInBounds k v) (f := fun x => x.setIfInBounds (k : Int).toNat v) S hH ho (by simp only [Int.toNat_natCast]) (by simpa using hr.set k rv) s.toks
  exact ⟨I, _, .refl I, this, h⟩
theorem WA.subL {o i : Expr} {pos : Pos} {c : CV} {Q : CSt → Prop} (h : WE C o st (fun a st1 => WE C i st1 (fun b st2 => ∃ l cs, ∃ k : Nat, a = .loc l ∧ b = .int k ∧ st2.H l = some (.list cs) ∧ k < cs.length ∧ cs.length ≤ 2 ^ 24 ∧ Q { st2 with H := hput st2.H l (.list (cs.set k c)) }))) :
    WA C (assign (.Subscript o i pos) C.env) c st Q :=
  WA.sub (h.mono (fun a st1 q0 => q0.mono (fun b st2 ⟨d, cs, k, e1, e2, hH, hnd, hn, q⟩ I v u w r1 r2 r3 => by
    subst e1 e2
    simp only [VR] at r1 r2; subst r1
    (refine el_1_0 r2 fun t xEl1 => ?_; try clear r2; obtain rfl := xEl1)
    exact setItemL_W hH hnd hn r3 q)))
end
end Mine
open PySem PySem.W PySem.Calls PyProof.Rows
set_option Elab.async false
set_option linter.all false
set_option maxRecDepth 100000
set_option genSizeOf false
namespace Mine

section
variable {C : Cx} {dep : Nat} {KF I J : IM} {st : CSt} {s : Shared} {H : CH}

/-- a name's value is known otherwise as well -/
theorem SR.rename {x : Str} {c c' : CV} (S : SR C KF I st s) (hx : st.lo x = some c) (h : ∀ u, VR I c u → VR I c' u) : SR C KF I ⟨lput st.lo x c', st.H⟩ s := by
  obtain ⟨⟨m, hn, h1⟩, h2, h3, h4⟩ := S.loc
  refine ⟨S.kle, S.low, S.same, S.base, S.imm, S.frs, S.own, S.mu, ⟨(in_1_1 m hn (fun y v hy hk => ?_)), fun y v hy hk => ?_, fun y v hy hk => ?_, h4⟩⟩
  · change lput st.lo x c' y = some v at hy
    unfold lput at hy
    by_cases q : y = x
    · subst q; simp at hy; subst hy
      (refine el_1_1 (h1 y c hx hk) fun u a b => ?_)
      exact (in_1_1 u a (h u b))
    · simp [q] at hy; exact h1 y v hy hk
  · change lput st.lo x c' y = some v at hy
    unfold lput at hy
    by_cases q : y = x
    · subst q; simp at hy; subst hy
      (refine el_2_2 (h2 y c hx hk) fun cc u a b e => ?_)
      exact (in_2_2 cc u a b (h u e))
    · simp [q] at hy; exact h2 y v hy hk
  · change lput st.lo x c' y = some v at hy
    unfold lput at hy
    by_cases q : y = x
    · subst q; simp at hy; subst hy
      (refine el_3_3 (h3 y c hx hk) fun cc o u a b e f => ?_)
      exact (in_3_3 cc o u a b e (h u f))
    · simp [q] at hy; exact h3 y v hy hk

/-- a list is turned no more -/
theorem WSs.freeze {ss : List Stmt} {x : Str} {a : Addr} {cs : List CV} {Q : CF → CSt → Prop} (hx : st.lo x = some (.loc a)) (hH : st.H a = some (.list cs)) (h : WSs C ss ⟨lput st.lo x (.lst cs), hdel st.H a⟩ Q) : WSs C ss st Q := fun I KF s S => by
  (refine el_1_2 (S.freeze hH) fun J l S' r => ?_)
  have S2 : SR C KF J ⟨lput st.lo x (.lst cs), hdel st.H a⟩ s := S'.rename (c := .loc a) hx fun u hu => by simp only [VR] at hu; subst hu; exact r
  refine wpAny_mono (h J KF s S2) (fun f s' hh => hh.use fun J2 st' l2 S3 q => ⟨J2, st', l.trans l2, S3, q⟩) fun e s' hF => hF.elim

/-- the lists within a list are turned no more -/
noncomputable def without' (H : CH) (ps : List Addr) : CH := fun b => if b ∈ ps then none else H b
theorem SR.freezeIn {a : Addr} : ∀ (ps : List (Addr × List CV)) (pre : List CV) {I : IM} {H : CH} {lo : Str → Option CV}, SR C KF I ⟨lo, H⟩ s → (ps.map (·.1)).Nodup → a ∉ ps.map (·.1) → (∀ p ∈ ps, H p.1 = some (.list p.2)) → H a = some (.list (pre ++ ps.map fun p => CV.loc p.1)) →
    ∃ J, ILe I J ∧ SR C KF J ⟨lo, hput (without' H (ps.map (·.1))) a (.list (pre ++ ps.map fun p => CV.lst p.2))⟩ s
  | [], pre, I, H, lo, S, _, _, _, hH => by
    refine (in_1_1 I (.refl I) ?_)
    have : hput (without' H (([] : List (Addr × List CV)).map (·.1))) a (.list (pre ++ ([] : List (Addr × List CV)).map fun p => CV.lst p.2)) = H := by
      funext b
      unfold hput without'
      split
      · rename_i q; subst q; rw [hH]; rfl
      · rfl
    rw [this]; exact S
  | (p, ds) :: ps, pre, I, H, lo, S, hnd, ha, hp, hH => by
    rw [List.map_cons, List.nodup_cons] at hnd
    simp only [List.map_cons, List.mem_cons, not_or] at ha
    have hap : a ≠ p := ha.1
    (refine el_1_2 (S.freeze (hp (p, ds) List.mem_cons_self)) fun J l S' r => ?_)
    have hHa : hdel H p a = some (.list (pre ++ CV.loc p :: ps.map fun p => CV.loc p.1)) := by rw [hdel_ne hap, hH]; rfl
    (refine el_0_2 (S'.mu a _ hHa) fun i1 i2 rEl => ?_; (refine el_1_1 rEl fun o ho sEl => ?_; try clear rEl; obtain ⟨n, xs, rfl, hr⟩ := sEl))
    have S2 : SR C KF J ⟨lo, hput (hdel H p) a (.list ((pre ++ [CV.lst ds]) ++ ps.map fun p => CV.loc p.1))⟩ s := by
      refine S'.setH (h' := s.heap) (tk := s.toks) (c := .list ((pre ++ [CV.lst ds]) ++ ps.map fun p => CV.loc p.1)) hHa (fun b o _ e => e) ho (in_2_1 n xs rfl ?_)
      (refine el_0_1 (VRs.split pre.length hr) fun r1 r2 => ?_)
      rw [List.take_left' rfl] at r1
      rw [List.drop_left' rfl] at r2
      (refine el_2_2 r2.uncons fun y ys e2 r3 r4 => ?_)
      simp only [VR] at r3; subst r3
      rw [← List.take_append_drop pre.length xs.toList, e2, List.append_assoc]
      exact r1.append (.cons r r4)
    obtain ⟨J2, l2, S3⟩ := SR.freezeIn ps (pre ++ [CV.lst ds]) S2 hnd.2 ha.2 (fun q hq => by
      have h1 : q.1 ≠ a := fun e => ha.2 (by rw [← e]; exact List.mem_map_of_mem hq)
      have h2 : q.1 ≠ p := fun e => hnd.1 (by show p ∈ _; rw [← e]; exact List.mem_map_of_mem hq)
      show hput (hdel H p) a _ q.1 = _
      rw [hput_ne h1, hdel_ne h2]; exact hp q (List.mem_cons_of_mem _ hq)) (by show hput (hdel H p) a _ a = _; simp)
    refine (in_1_1 J2 (l.trans l2) ?_)
    have e : hput (without' (hput (hdel H p) a (.list ((pre ++ [CV.lst ds]) ++ ps.map fun p => CV.loc p.1))) (ps.map (·.1))) a (.list ((pre ++ [CV.lst ds]) ++ ps.map fun p => CV.lst p.2)) = hput (without' H (((p, ds) :: ps).map (·.1))) a (.list (pre ++ ((p, ds) :: ps).map fun p => CV.lst p.2)) := by
      funext b
      unfold hput without' hdel
      by_cases q : b = a
      · subst q; simp
      · by_cases q2 : b = p
        · subst q2; simp [q]
        · have e3 : b ∈ List.map (fun x => x.1) ((p, ds) :: ps) ↔ b ∈ List.map (fun x => x.1) ps := by
            rw [List.map_cons, List.mem_cons]; exact ⟨fun h => h.resolve_left q2, .inr⟩
          simp only [if_neg q, if_neg q2, e3]
    rw [e] at S3; exact S3
theorem WSs.freezeIn {ss : List Stmt} {a : Addr} {ps : List (Addr × List CV)} {Q : CF → CSt → Prop} (hnd : (ps.map (·.1)).Nodup) (ha : a ∉ ps.map (·.1)) (hp : ∀ p ∈ ps, st.H p.1 = some (.list p.2)) (hH : st.H a = some (.list (ps.map fun p => CV.loc p.1)))
    (h : WSs C ss ⟨st.lo, hput (without' st.H (ps.map (·.1))) a (.list (ps.map fun p => CV.lst p.2))⟩ Q) : WSs C ss st Q := fun I KF s S => by
  (refine el_1_1 (SR.freezeIn ps [] (lo := st.lo) (H := st.H) S hnd ha hp (by simpa using hH)) fun J l S' => ?_)
  exact wpAny_mono (h J KF s S') (fun f s' hh => hh.use fun J2 st' l2 S3 q => ⟨J2, st', l.trans l2, S3, q⟩) fun e s' hF => hF.elim
end
end Mine
open PySem PySem.W PySem.Calls PyProof.Rows
set_option Elab.async false
set_option linter.all false
set_option maxRecDepth 100000
set_option genSizeOf false
namespace Mine
/-- a def is called from outside; it answers True -/
theorem topCall_W {prog : Program} {w : World} {A : Around} {s : Shared} {K : Frag} {mg mb : Str → Option Value} {fa : Addr} {fo : Obj} {fd : FuncData} {body : List Stmt} {args : List CV} {pn : List Str} {dep : Nat} {us : List Value}
    (hK : K.In s.heap) (hg : s.heap.Ns mainGlobals mg) (hbn : s.heap.Ns builtinsNs mb) (hnl : s.heap.NoLimit) (hboot : ∀ x : Str, x ≠ "__name__" → mb x = bootBuiltins x) (hh : A.handled = none) (hu : A.units + 10 * (dep + 1) + 200 < cLine) (hdp : A.depth + 3 * (dep + 1) + 20 < recursionLimit) (hf : A.frames = some [])
    (hlow : ∃ b o, sysModules < b ∧ s.heap.get? b = some o) (hfo : s.heap.get? fa = some fo) (hfd : fo.data = .func fd) (hcode : s.heap.CodeRec fd.code fd.qualname) (hbody : fd.body = .stmts body) (hclo : fd.closure = []) (hgl0 : fd.globals = mainGlobals) (hbl0 : fd.builtins = builtinsNs) (hco : fd.scope.isCoroutine = false) (hgen : fd.scope.isGenerator = false) (hfk : fd.scope.kind = .function)
    (hb : bindArgs fd ⟨us, []⟩ = pure (pn.zip us)) (hkind : (pn.all fun x => storeKind (fd.scope.names.lookup x)) = true) (hnd : pn.Nodup) (hfree : (fd.scope.names.all fun x => x.2 != .free) = true) (hcn : ((fd.scope.names.filter fun x => x.2 == .cell).map (·.1)).Nodup)
    (rr : VRs (fun a => s.heap.get? a) args us)
    (h : ∀ C' : Cx, C'.Ok dep → C'.base = s.heap → C'.K = K → C'.mg = mg → C'.mb = mb → C'.prog = prog → C'.w = w → C'.env.scope = fd.scope → WSs C' body ⟨fun x => (pn.zip args).lookup x, fun _ => none⟩ (fun f _ => f.val = .bool true)) :
    codeAny (model prog w) A (.call (.ref fa) ⟨us, []⟩) (fun r s' => r = .ok (.ret (.bool true)) ∧ (∀ b o, s.heap.get? b = some o → s'.heap.get? b = some o) ∧ ∃ h tk dr, s' = { s with heap := h, toks := tk, drawn := dr }) s := by
  refine codeAny_call_function (A := A) (by omega) hfo hfd hco hgen hbody hcode ?_
  rw [hb]
  refine wpAny_pure ?_
  rw [hclo, hgl0, hbl0]
  refine wpAny_newFunctionEnv_cells hfk (fun x hx => ?_) fun env' he s₁ x => ?_
  · have hm : x.1 ∈ pn := by
      have := List.mem_map_of_mem (f := Prod.fst) hx
      exact (zip_map_fst _ _).subset this
    have := List.all_eq_true.mp hkind _ hm
    cases q : fd.scope.names.lookup x.1 with
    | none => rw [q] at this; cases this
    | some k =>
      rw [q] at this
      cases k <;> first | exact .inl rfl | (cases this; done) | skip
      exact .inr ⟨rfl, cellsFrom_some _ _ _ (.inl q)⟩
  (refine el_2_0 x.toInCall.same fun h₁ tk₁ hs₁ => ?_)
  have keep := x.toInCall.keep
  have hL : env'.locals = s.heap.objs.size := by rw [he]; rfl
  have hcl : env'.cells = cellsFrom (s.heap.objs.size + 1) fd.scope.names [] := by rw [he]; rfl
  have hsc : env'.scope = fd.scope := by rw [he]; rfl
  have hfr : env'.frame = some env'.locals := by rw [he]; rfl
  have hgl : env'.globals = mainGlobals := by rw [he]; rfl
  have hbl : env'.builtins = builtinsNs := by rw [he]; rfl
  have hkd : ∀ y, env'.kindOf y = fd.scope.names.lookup y := fun y => by unfold Env.kindOf; rw [hsc]
  have noGet : ∀ a, s.heap.objs.size ≤ a → s.heap.get? a = none := fun a ha => by
    cases q : s.heap.get? a with
    | none => rfl
    | some o => exact absurd (Heap.lt_size q) (Nat.not_lt.mpr ha)
  have noL : s.heap.get? env'.locals = none := by rw [hL]; exact noGet _ (Nat.le_refl _)
  let C' : Cx := { prog := prog, w := w, A := A.deeper env', env := env', base := s.heap, outer := [], K := K, mg := mg, mb := mb, KF := fun _ => none, s0 := s }
  let I : IM := fun a => s.heap.get? a
  have own' : ∀ a, C'.Own a → s.heap.get? a = none := by
    intro a ha
    (refine Or.elim ha (fun ha => ?aElo) (fun xElo => ?bElo); (case' bElo => try clear ha; (refine el_1_1 xElo fun y hy hl => ?_; try clear xElo)); (case' aElo => skip))
    · exact (congrArg s.heap.get? ha).trans noL
    · have := x.above y a (mem_of_lookup hl)
      rw [hL] at this; exact noGet a (Nat.le_of_lt this)
  have apart := x.apart
  have ok' : C'.Ok dep := by
    refine ⟨by show env'.scope.kind = _; rw [hsc]; exact hfk, hgl, hbl, hK, hg, hbn, hnl, hboot, hh, ?_, ?_, fun y z c hy hz h1 h2 => ?_, fun y hy h1 => ?_, noL⟩
    · show A.units + 3 + _ + 200 < cLine
      omega
    · show A.depth + 1 + _ + 20 < recursionLimit
      omega
    · exact name_of_addr apart (mem_of_lookup h1) (mem_of_lookup h2)
    · have := x.above y _ (mem_of_lookup h1)
      exact absurd this (Nat.lt_irrefl _)
  have S' : SR C' (fun _ => none) I ⟨fun x => (pn.zip args).lookup x, fun _ => none⟩ s₁ := by
    refine ⟨fun a o e => (by cases e), ⟨hlow, fun a c e => (by cases e)⟩, (in_3_0 h₁ tk₁ s.drawn (by rw [hs₁])), fun b o e => e, fun a o e => keep a o e, fun a o e => (by cases e), fun a ha => (in_0_2 (own' a ha) rfl rfl), fun a c e => (by cases e), ?_⟩
    have ndz : ((pn.zip us).map (·.1)).Nodup := (zip_map_fst _ _).nodup hnd
    refine ⟨(in_1_1 _ x.toInCall.ns (fun y v hy hky => ?_)), fun y v hy hky => ?_, fun y v hy hky => ?_, fun y hky => ?_⟩
    · (refine el_1_1 (zip_lookup rr hy) fun u h1 h2 => ?_)
      exact (in_1_1 u (bindL_of _ y u hky _ _ ndz h1) h2)
    · (refine el_1_1 (zip_lookup rr hy) fun u h1 h2 => ?_)
      obtain ⟨c, hc⟩ : ∃ c, env'.cells.lookup y = some c := by
        rw [hcl]; exact Option.isSome_iff_exists.mp (cellsFrom_some _ _ _ (.inl ((hkd y).symm.trans hky)))
      refine (in_2_2 c u hc ?_ h2)
      have hce := x.cell y c hc
      rwa [bindC_of _ y u (by rw [hky]; decide) _ _ ndz h1] at hce
    · exfalso
      change env'.kindOf y = _ at hky
      rw [hkd y] at hky
      have := List.all_eq_true.mp hfree (y, .free) (mem_of_lookup hky)
      simp at this
    · obtain ⟨c, hc⟩ : ∃ c, env'.cells.lookup y = some c := by
        rw [hcl]; exact Option.isSome_iff_exists.mp (cellsFrom_some _ _ _ (.inl ((hkd y).symm.trans hky)))
      exact (in_2_1 c _ hc (x.cell y c hc))
  refine ⟨hnl.keeps keep, ?_⟩
  refine codeAny_func ?_
  refine wpAny_mono (h C' ok' rfl rfl rfl rfl rfl rfl hsc I _ s₁ S') (fun f s2 ⟨J, st2, l2, S2, b, hb2, q2⟩ => ?_) fun e s2 hF => hF.elim
  refine (in_0_2 ?_ (fun b o e => S2.imm b o (S2.base b o e)) S2.same)
  cases b with
  | next => cases q2
  | brk => cases q2
  | cont => cases q2
  | ret c =>
    (refine el_1_1 hb2 fun u xEl1 r => ?_; try clear hb2; obtain rfl := xEl1)
    have : c = .bool true := q2
    subst this
    simp only [VR] at r
    rw [r]
end Mine
open PySem PySem.W PySem.Calls PyProof.Rows
set_option Elab.async false
set_option linter.all false
set_option maxRecDepth 100000
set_option genSizeOf false
namespace Mine

set_option genInjectivity false in
/-- a node of the flags' tree: its own dict, the two sets, the dict below; the flags, those for all below, the names below -/
structure FNode where
  node : Addr
  fa : Addr
  ra : Addr
  da : Addr
  fs : List Int
  rs : List Int
  ks : List Str

noncomputable def fnames : List Str := ["a", "b", "a.b"]
noncomputable def fnums : List Int := [0, 1, 2, 3]
noncomputable abbrev FN := List Str → Option FNode
noncomputable abbrev FO := Addr → Option (List Str × Nat)
noncomputable def na (N : FN) (q : List Str) : Addr := match N q with | some nd => nd.node | none => 0
noncomputable def kids (N : FN) (p : List Str) (nd : FNode) : List (Str × CV) := nd.ks.map fun k => (k, CV.loc (na N (p ++ [k])))
noncomputable def nodeD (nd : FNode) : List (Str × CV) := [("flags", .loc nd.fa), ("recursive_flags", .loc nd.ra), ("nested", .loc nd.da)]

/-- a Flags object of the clean heap -/
structure FW (H : CH) (cl x d pa : Addr) (N : FN) (ow : FO) (pend : CO) : Prop where
  obj : H x = some (.inst cl d)
  attrs : ∃ r, N [] = some r ∧ H d = some (.dict [("_flags", .loc r.da), ("_pending_flags", .loc pa)])
  pend : H pa = some pend
  dict : ∀ p nd, N p = some nd → H nd.da = some (.dict (kids N p nd))
  kid : ∀ p nd k, N p = some nd → (k ∈ nd.ks ↔ (N (p ++ [k])).isSome = true)
  par : ∀ p k, (N (p ++ [k])).isSome = true → (N p).isSome = true
  own : ∀ p nd, p ≠ [] → N p = some nd → H nd.node = some (.dict (nodeD nd)) ∧ H nd.fa = some (.iset nd.fs) ∧ H nd.ra = some (.iset nd.rs)
  ksok : ∀ p nd, N p = some nd → nd.ks.Nodup ∧ ∀ k ∈ nd.ks, k ∈ fnames
  fsok : ∀ p nd, N p = some nd → (nd.fs.Nodup ∧ ∀ f ∈ nd.fs, f ∈ fnums) ∧ nd.rs.Nodup ∧ ∀ f ∈ nd.rs, f ∈ fnums
  ow0 : ow x = some ([], 10) ∧ ow d = some ([], 11) ∧ ow pa = some ([], 12)
  ow1 : ∀ p nd, N p = some nd → ow nd.da = some (p, 3)
  ow2 : ∀ p nd, p ≠ [] → N p = some nd → ow nd.node = some (p, 0) ∧ ow nd.fa = some (p, 1) ∧ ow nd.ra = some (p, 2)
  owH : ∀ a, (ow a).isSome = true → (H a).isSome = true

/-- what a Flags object keeps of the heap: everything but its own -/
structure FK (H H' : CH) (ow ow' : FO) : Prop where
  same : ∀ a, ow a = none → H a ≠ none → H' a = H a ∧ ow' a = none
  grow : ∀ a, ow a ≠ none → ow' a = ow a
  new : ∀ a, ow a = none → ow' a ≠ none → H a = none
theorem FK.refl (H : CH) (ow : FO) : FK H H ow ow := ⟨fun a h _ => ⟨rfl, h⟩, fun a _ => rfl, fun a h h' => absurd h h'⟩
theorem FK.trans {H H' H'' : CH} {o o' o'' : FO} (a : FK H H' o o') (b : FK H' H'' o' o'') : FK H H'' o o'' := by
  refine ⟨fun x h1 h2 => ?_, fun x h1 => ?_, fun x h1 h2 => ?_⟩
  · (refine el_0_1 (a.same x h1 h2) fun e1 e2 => ?_)
    (refine el_0_1 (b.same x e2 (by rw [e1]; exact h2)) fun e3 e4 => ?_)
    exact ⟨e3.trans e1, e4⟩
  · have e := a.grow x h1
    rw [← e] at h1 ⊢
    exact b.grow x h1
  · by_cases q : o' x = none
    · have hn := b.new x q h2
      by_cases q2 : H x = none
      · exact q2
      · have := (a.same x h1 q2).1; rw [hn] at this; exact this.symm
    · exact a.new x h1 q

variable {H : CH} {cl x d pa : Addr} {N : FN} {ow : FO} {pend : CO}

theorem FW.pre' (F : FW H cl x d pa N ow pend) : ∀ (n : Nat) (q p : List Str), q.length = n → (N (p ++ q)).isSome = true → (N p).isSome = true
  | 0, q, p, hn, h => by
    have : q = [] := List.length_eq_zero_iff.mp hn
    subst this; simpa using h
  | n + 1, q, p, hn, h => by
    have hne : q ≠ [] := by intro e; subst e; simp at hn
    have hq := (List.dropLast_concat_getLast hne).symm
    rw [hq, ← List.append_assoc] at h
    exact FW.pre' F n q.dropLast p (by simp [hn]) (F.par _ _ h)
theorem FW.pre (F : FW H cl x d pa N ow pend) (q p : List Str) (h : (N (p ++ q)).isSome = true) : (N p).isSome = true := FW.pre' F q.length q p rfl h

noncomputable def fput (N : FN) (p : List Str) (nd : FNode) : FN := fun q => if q = p then some nd else N q
noncomputable def oput (ow : FO) (a : Addr) (v : List Str × Nat) : FO := fun b => if b = a then some v else ow b
@[simp] theorem fput_self {nd : FNode} {p : List Str} : fput N p nd p = some nd := by simp [fput]
theorem fput_ne {nd : FNode} {p q : List Str} (h : q ≠ p) : fput N p nd q = N q := by simp [fput, h]
theorem na_fput {nd nd' : FNode} {p q : List Str} (h : N p = some nd') (e : nd.node = nd'.node) : na (fput N p nd) q = na N q := by
  unfold na fput
  by_cases hq : q = p
  · subst hq; simp [h, e]
  · simp [hq]

theorem slot_ne {p q : List Str} {k : Nat} {rec : Bool} (h : k ≠ 1) (h2 : k ≠ 2) : ((q, k) : List Str × Nat) ≠ (p, if rec then 2 else 1) := by
  intro e
  have := congrArg Prod.snd e
  cases rec
  · exact h this
  · exact h2 this
theorem ins_ok {f : Int} (hf : f ∈ fnums) {l : List Int} (hl : l.Nodup) (hl2 : ∀ g ∈ l, g ∈ fnums) : (if f ∈ l then l else l ++ [f]).Nodup ∧ ∀ g ∈ (if f ∈ l then l else l ++ [f]), g ∈ fnums := by
  split
  · exact ⟨hl, hl2⟩
  · rename_i hnot
    refine ⟨?_, fun g hg => ?_⟩
    · rw [List.nodup_append]
      exact (in_0_2 hl (by simp) (fun a ha b hb => by simp at hb; subst hb; exact fun e => hnot (e ▸ ha)))
    · rcases List.mem_append.mp hg with hg | hg
      · exact hl2 g hg
      · rw [List.mem_singleton.mp hg]; exact hf
theorem flagged_ok {nd : FNode} {f : Int} {rec : Bool} (hf : f ∈ fnums) (h : (nd.fs.Nodup ∧ ∀ f ∈ nd.fs, f ∈ fnums) ∧ nd.rs.Nodup ∧ ∀ f ∈ nd.rs, f ∈ fnums) {nd' : FNode}
    (e : (if rec then { nd with rs := if f ∈ nd.rs then nd.rs else nd.rs ++ [f] } else { nd with fs := if f ∈ nd.fs then nd.fs else nd.fs ++ [f] } : FNode) = nd') : (nd'.fs.Nodup ∧ ∀ f ∈ nd'.fs, f ∈ fnums) ∧ nd'.rs.Nodup ∧ ∀ f ∈ nd'.rs, f ∈ fnums := by
  subst e
  cases rec
  · exact ⟨ins_ok hf h.1.1 h.1.2, h.2⟩
  · exact ⟨h.1, ins_ok hf h.2.1 h.2.2⟩
theorem flagged_eq {nd : FNode} {f : Int} {rec : Bool} {nd' : FNode}
    (e : (if rec then { nd with rs := if f ∈ nd.rs then nd.rs else nd.rs ++ [f] } else { nd with fs := if f ∈ nd.fs then nd.fs else nd.fs ++ [f] } : FNode) = nd') :
    (nd'.node = nd.node ∧ nd'.fa = nd.fa ∧ nd'.ra = nd.ra ∧ nd'.da = nd.da ∧ nd'.ks = nd.ks) ∧ (rec = true → nd'.fs = nd.fs ∧ nd'.rs = if f ∈ nd.rs then nd.rs else nd.rs ++ [f]) ∧ (rec ≠ true → nd'.rs = nd.rs ∧ nd'.fs = if f ∈ nd.fs then nd.fs else nd.fs ++ [f]) := by
  subst e
  cases rec
  · exact (in_0_2 (in_0_4 rfl rfl rfl rfl rfl) (fun h => absurd h (by decide)) (fun _ => ⟨rfl, rfl⟩))
  · exact (in_0_2 (in_0_4 rfl rfl rfl rfl rfl) (fun _ => ⟨rfl, rfl⟩) (fun h => absurd rfl h))
theorem flagged_slot {nd : FNode} {rec : Bool} {p : List Str} (a : ow nd.fa = some (p, 1)) (b : ow nd.ra = some (p, 2)) : ow (if rec then nd.ra else nd.fa) = some (p, if rec then 2 else 1) := by
  cases rec
  · exact a
  · exact b

/-- a flag is laid at a node that stands -/
theorem FW.flag {H' : CH} {p : List Str} {nd : FNode} {f : Int} {rec : Bool} (F : FW H cl x d pa N ow pend) (hp : p ≠ []) (hN : N p = some nd) (hf : f ∈ fnums) 
    (h1 : H' (if rec then nd.ra else nd.fa) = some (.iset (let l := if rec then nd.rs else nd.fs; if f ∈ l then l else l ++ [f]))) (h2 : ∀ b, b ≠ (if rec then nd.ra else nd.fa) → H' b = H b) :
    FW H' cl x d pa (fput N p (if rec then { nd with rs := if f ∈ nd.rs then nd.rs else nd.rs ++ [f] } else { nd with fs := if f ∈ nd.fs then nd.fs else nd.fs ++ [f] })) ow pend := by
  have slot : ow (if rec then nd.ra else nd.fa) = some (p, if rec then 2 else 1) := by
    have w := F.ow2 p nd hp hN
    exact flagged_slot w.2.1 w.2.2
  have keep : ∀ b v, ow b = some v → v ≠ (p, if rec then 2 else 1) → H' b = H b := fun b v hb hv => h2 b fun q => by
    subst q; rw [slot] at hb; exact hv (Option.some.inj hb).symm
  generalize hnd' : (if rec then { nd with rs := if f ∈ nd.rs then nd.rs else nd.rs ++ [f] } else { nd with fs := if f ∈ nd.fs then nd.fs else nd.fs ++ [f] } : FNode) = nd'
  have fe := flagged_eq hnd'
  (refine el_0_4 fe.1 fun e1 e2 e3 e4 e5 => ?_)
  have old : ∀ q m', fput N p nd' q = some m' → ∃ m, N q = some m ∧ m'.node = m.node ∧ m'.fa = m.fa ∧ m'.ra = m.ra ∧ m'.da = m.da ∧ m'.ks = m.ks := by
    intro q m' hq
    by_cases hqp : q = p
    · cases hqp; rw [fput_self] at hq; cases hq; exact (in_1_5 nd hN e1 e2 e3 e4 e5)
    · rw [fput_ne hqp] at hq; exact (in_1_5 m' hq rfl rfl rfl rfl rfl)
  have some_ : ∀ q, (fput N p nd' q).isSome = (N q).isSome := by
    intro q
    by_cases hqp : q = p
    · cases hqp; rw [fput_self, hN]; rfl
    · rw [fput_ne hqp]
  have hkids : ∀ q m m', m'.ks = m.ks → kids (fput N p nd') q m' = kids N q m := by
    intro q m m' e
    unfold kids
    rw [e]
    congr 1
    funext k
    rw [na_fput hN e1]
  (refine el_0_2 F.ow0 fun o1 o2 o3 => ?_)
  refine ⟨?_, ?_, ?_, fun q m' hq => ?_, fun q m' k hq => ?_, fun q k hq => ?_, fun q m' hq0 hq => ?_, fun q m' hq => ?_, fun q m' hq => ?_, F.ow0, fun q m' hq => ?_, fun q m' hq0 hq => ?_, fun b hb => ?_⟩
  · rw [keep x _ o1 (slot_ne (by decide) (by decide))]; exact F.obj
  · (refine el_1_1 F.attrs fun r hr hd => ?_)
    refine (in_1_1 r (by rw [fput_ne (Ne.symm hp)]; exact hr) ?_)
    rw [keep d _ o2 (slot_ne (by decide) (by decide))]; exact hd
  · rw [keep pa _ o3 (slot_ne (by decide) (by decide))]; exact F.pend
  · (refine el_1_5 (old q m' hq) fun m hm _ _ _ c4 c5 => ?_)
    rw [c4, keep m.da _ (F.ow1 q m hm) (slot_ne (by decide) (by decide)), hkids q m m' c5]
    exact F.dict q m hm
  · (refine el_1_5 (old q m' hq) fun m hm _ _ _ c4 c5 => ?_)
    rw [c5, some_]; exact F.kid q m k hm
  · rw [some_] at hq ⊢; exact F.par q k hq
  · (refine el_1_5 (old q m' hq) fun m hm c1 c2 c3 c4 c5 => ?_)
    (refine el_0_2 (F.own q m hq0 hm) fun a1 a2 a3 => ?_)
    (refine el_0_2 (F.ow2 q m hq0 hm) fun b1 b2 b3 => ?_)
    have hD : nodeD m' = nodeD m := by simp [nodeD, c2, c3, c4]
    refine (in_0_2 (by rw [c1, hD, keep m.node _ b1 (slot_ne (by decide) (by decide))]; exact a1) ?_ ?_)
    · by_cases hqp : q = p
      · cases hqp
        rw [fput_self] at hq; cases hq
        rw [hN] at hm; cases hm
        by_cases hr : rec = true
        · rw [c2, keep nd.fa _ b2 (by rw [hr]; simp), a2, (fe.2.1 hr).1]
        · simp only [if_neg hr] at h1
          rw [c2, (fe.2.2 hr).2]; exact h1
      · rw [fput_ne hqp] at hq
        rw [hq] at hm; cases hm
        rw [keep m'.fa _ b2 fun e => hqp (congrArg Prod.fst e)]; exact a2
    · by_cases hqp : q = p
      · cases hqp
        rw [fput_self] at hq; cases hq
        rw [hN] at hm; cases hm
        by_cases hr : rec = true
        · simp only [if_pos hr] at h1
          rw [c3, (fe.2.1 hr).2]; exact h1
        · rw [c3, keep nd.ra _ b3 (by rw [Bool.eq_false_iff.mpr hr]; simp), a3, (fe.2.2 hr).1]
      · rw [fput_ne hqp] at hq
        rw [hq] at hm; cases hm
        rw [keep m'.ra _ b3 fun e => hqp (congrArg Prod.fst e)]; exact a3
  · (refine el_1_5 (old q m' hq) fun m hm c1 c2 c3 c4 c5 => ?_)
    rw [c5]; exact F.ksok q m hm
  · by_cases hqp : q = p
    · cases hqp
      rw [fput_self] at hq; cases hq
      exact flagged_ok hf (F.fsok p nd hN) hnd'
    · rw [fput_ne hqp] at hq; exact F.fsok q m' hq
  · (refine el_1_5 (old q m' hq) fun m hm c1 c2 c3 c4 c5 => ?_)
    rw [c4]; exact F.ow1 q m hm
  · (refine el_1_5 (old q m' hq) fun m hm c1 c2 c3 c4 c5 => ?_)
    rw [c1, c2, c3]; exact F.ow2 q m hq0 hm
  · by_cases hbe : b = (if rec then nd.ra else nd.fa)
    · rw [hbe, h1]; rfl
    · rw [h2 b hbe]; exact F.owH b hb
end Mine
open PySem PySem.W PySem.Calls PyProof.Rows
set_option Elab.async false
set_option linter.all false
set_option maxRecDepth 100000
set_option genSizeOf false
namespace Mine
variable {H : CH} {cl x d pa : Addr} {N : FN} {ow : FO} {pend : CO}

noncomputable def hr (N : FN) (q : List Str) (f : Int) : Bool := match N q with | some nd => decide (f ∈ nd.fs) | none => false
noncomputable def rc (N : FN) (q : List Str) (f : Int) : Bool := match N q with | some nd => decide (f ∈ nd.rs) | none => false

theorem FK.flag {H' : CH} {b : Addr} {v : List Str × Nat} (hb : ow b = some v) (h2 : ∀ c, c ≠ b → H' c = H c) : FK H H' ow ow :=
  ⟨fun a h _ => ⟨h2 a (fun q => by subst q; rw [hb] at h; cases h), h⟩, fun _ _ => rfl, fun a h h' => absurd h h'⟩

theorem hr_flag {p : List Str} {nd : FNode} {f : Int} {rec : Bool} (hN : N p = some nd) (q : List Str) (g : Int) :
    hr (fput N p (if rec then { nd with rs := if f ∈ nd.rs then nd.rs else nd.rs ++ [f] } else { nd with fs := if f ∈ nd.fs then nd.fs else nd.fs ++ [f] })) q g = (hr N q g || (!rec && decide (q = p) && decide (g = f))) := by
  unfold hr fput
  by_cases hq : q = p
  · subst hq
    rw [if_pos rfl, hN]
    cases rec
    · by_cases h1 : f ∈ nd.fs <;> by_cases h2 : g = f <;> simp_all
    · simp
  · rw [if_neg hq]; simp [hq]
theorem rc_flag {p : List Str} {nd : FNode} {f : Int} {rec : Bool} (hN : N p = some nd) (q : List Str) (g : Int) :
    rc (fput N p (if rec then { nd with rs := if f ∈ nd.rs then nd.rs else nd.rs ++ [f] } else { nd with fs := if f ∈ nd.fs then nd.fs else nd.fs ++ [f] })) q g = (rc N q g || (rec && decide (q = p) && decide (g = f))) := by
  unfold rc fput
  by_cases hq : q = p
  · subst hq
    rw [if_pos rfl, hN]
    cases rec
    · simp
    · by_cases h1 : f ∈ nd.rs <;> by_cases h2 : g = f <;> simp_all
  · rw [if_neg hq]; simp [hq]

theorem snoc_inj {α : Type} {p q : List α} {j k : α} (h : p ++ [j] = q ++ [k]) : p = q ∧ j = k := by
  have := List.append_inj' h rfl
  exact ⟨this.1, by simpa using this.2⟩
theorem snoc_ne {α : Type} (p : List α) (k : α) : p ++ [k] ≠ p := fun h => by have := congrArg List.length h; simp at this

/-- a node is added -/
noncomputable def fadd (N : FN) (p : List Str) (nd : FNode) (k : Str) (n f r e : Addr) : FN := fput (fput N p { nd with ks := nd.ks ++ [k] }) (p ++ [k]) ⟨n, f, r, e, [], [], []⟩
noncomputable def oadd (ow : FO) (p : List Str) (k : Str) (n f r e : Addr) : FO := oput (oput (oput (oput ow n (p ++ [k], 0)) f (p ++ [k], 1)) r (p ++ [k], 2)) e (p ++ [k], 3)

theorem FW.add {H' : CH} {p : List Str} {nd : FNode} {k : Str} {n f r e : Addr} (F : FW H cl x d pa N ow pend) (hN : N p = some nd) (hk : k ∉ nd.ks) (hkn : k ∈ fnames)
    (z1 : H n = none) (z2 : H f = none) (z3 : H r = none) (z4 : H e = none) (dis : n ≠ f ∧ n ≠ r ∧ n ≠ e ∧ f ≠ r ∧ f ≠ e ∧ r ≠ e)
    (h1 : H' n = some (.dict [("flags", .loc f), ("recursive_flags", .loc r), ("nested", .loc e)])) (h2 : H' f = some (.iset [])) (h3 : H' r = some (.iset [])) (h4 : H' e = some (.dict []))
    (h5 : H' nd.da = some (.dict (kids N p nd ++ [(k, .loc n)]))) (h6 : ∀ b, b ≠ n → b ≠ f → b ≠ r → b ≠ e → b ≠ nd.da → H' b = H b) :
    FW H' cl x d pa (fadd N p nd k n f r e) (oadd ow p k n f r e) pend ∧ FK H H' ow (oadd ow p k n f r e) := by
  (refine el_0_5 dis fun d1 d2 d3 d4 d5 d6 => ?_; try clear dis)
  have hnew : N (p ++ [k]) = none := by
    cases q : N (p ++ [k]) with
    | none => rfl
    | some m => exact absurd ((F.kid p nd k hN).mpr (by rw [q]; rfl)) hk
  have inH : ∀ b v, ow b = some v → H b ≠ none := fun b v hb => by
    have := F.owH b (by rw [hb]; rfl)
    intro q; rw [q] at this; cases this
  have owne : ∀ b v, ow b = some v → b ≠ n ∧ b ≠ f ∧ b ≠ r ∧ b ≠ e := fun b v hb => by
    have := inH b v hb
    exact (in_0_3 (fun q => this (q ▸ z1)) (fun q => this (q ▸ z2)) (fun q => this (q ▸ z3)) (fun q => this (q ▸ z4)))
  have owk : ∀ b v, ow b = some v → oadd ow p k n f r e b = some v := fun b v hb => by
    (refine el_0_3 (owne b v hb) fun a1 a2 a3 a4 => ?_)
    simp [oadd, oput, a1, a2, a3, a4, hb]
  have keep : ∀ b v, ow b = some v → v ≠ (p, 3) → H' b = H b := fun b v hb hv => by
    (refine el_0_3 (owne b v hb) fun a1 a2 a3 a4 => ?_)
    exact h6 b a1 a2 a3 a4 fun q => by rw [q, F.ow1 p nd hN] at hb; exact hv (Option.some.inj hb).symm
  have hpk : p ++ [k] ≠ p := snoc_ne p k
  have atNew : fadd N p nd k n f r e (p ++ [k]) = some ⟨n, f, r, e, [], [], []⟩ := by simp [fadd]
  have atP : fadd N p nd k n f r e p = some { nd with ks := nd.ks ++ [k] } := by unfold fadd; rw [fput_ne hpk.symm]; simp
  have atO : ∀ q, q ≠ p → q ≠ p ++ [k] → fadd N p nd k n f r e q = N q := fun q a b => by unfold fadd; rw [fput_ne b, fput_ne a]
  have some_ : ∀ q, (fadd N p nd k n f r e q).isSome = ((N q).isSome || decide (q = p ++ [k])) := by
    intro q
    by_cases a : q = p ++ [k]
    · rw [a, atNew]; simp
    · by_cases b : q = p
      · rw [b, atP, hN]; rfl
      · rw [atO q b a]; simp [a]
  have na_ : ∀ q, q ≠ p ++ [k] → na (fadd N p nd k n f r e) q = na N q := by
    intro q a
    unfold na
    by_cases b : q = p
    · simp only [b, atP, hN]
    · rw [atO q b a]
  have naN : na (fadd N p nd k n f r e) (p ++ [k]) = n := by unfold na; rw [atNew]
  -- the cases of a node
  have cases_ : ∀ q m', fadd N p nd k n f r e q = some m' → (q = p ++ [k] ∧ m' = ⟨n, f, r, e, [], [], []⟩) ∨ (p = q ∧ m' = { nd with ks := nd.ks ++ [k] }) ∨ (q ≠ p ∧ q ≠ p ++ [k] ∧ N q = some m') := by
    intro q m' hq
    by_cases a : q = p ++ [k]
    · rw [a, atNew] at hq; exact .inl ⟨a, (Option.some.inj hq).symm⟩
    · by_cases b : q = p
      · rw [b, atP] at hq; exact .inr (.inl ⟨b.symm, (Option.some.inj hq).symm⟩)
      · rw [atO q b a] at hq; exact .inr (.inr (in_0_2 b a hq))
  (refine el_0_2 F.ow0 fun o1 o2 o3 => ?_)
  refine ⟨⟨?_, ?_, ?_, fun q m' hq => ?_, fun q m' j hq => ?_, fun q j hq => ?_, fun q m' hq0 hq => ?_, fun q m' hq => ?_, fun q m' hq => ?_, (in_0_2 (owk _ _ o1) (owk _ _ o2) (owk _ _ o3)), fun q m' hq => ?_, fun q m' hq0 hq => ?_, fun b hb => ?_⟩, ?_⟩
  · rw [keep x _ o1 (by simp)]; exact F.obj
  · (refine el_1_1 F.attrs fun rt hrt hd => ?_)
    by_cases hp : p = []
    · rw [← hp, hN] at hrt; cases hrt
      exact (in_1_1 _ ((congrArg (fadd N p nd k n f r e) hp.symm).trans atP) (by rw [keep d _ o2 (by simp)]; exact hd))
    · exact (in_1_1 rt (by rw [atO [] (Ne.symm hp) (by simp)]; exact hrt) (by rw [keep d _ o2 (by simp)]; exact hd))
  · rw [keep pa _ o3 (by simp)]; exact F.pend
  · rcases cases_ q m' hq with ⟨rfl, rfl⟩ | ⟨rfl, rfl⟩ | ⟨a, b, hq'⟩
    · exact h4
    · show H' nd.da = _
      rw [h5]
      unfold kids
      show some (CO.dict (nd.ks.map _ ++ _)) = some (CO.dict ((nd.ks ++ [k]).map _))
      rw [List.map_append]
      congr 2
      congr 1
      · apply List.map_congr_left
        intro j hj
        rw [na_ _ fun q => hk ((snoc_inj q).2 ▸ hj)]
      · simp [naN]
    · rw [keep m'.da _ (F.ow1 q m' hq') (by simp [a]), F.dict q m' hq']
      unfold kids
      congr 2
      apply List.map_congr_left
      intro j _
      rw [na_ _ fun q' => a (snoc_inj q').1]
  · rw [some_]
    rcases cases_ q m' hq with ⟨rfl, rfl⟩ | ⟨rfl, rfl⟩ | ⟨a, b, hq'⟩
    · have h1 : N (p ++ [k] ++ [j]) = none := by
        cases hh : N (p ++ [k] ++ [j]) with
        | none => rfl
        | some m => have := F.par (p ++ [k]) j (by rw [hh]; rfl); rw [hnew] at this; cases this
      rw [h1]
      have : ¬ (p ++ [k] ++ [j] = p ++ [k]) := snoc_ne _ _
      simp [this]
    · show j ∈ nd.ks ++ [k] ↔ _
      rw [List.mem_append, List.mem_singleton, F.kid p nd j hN, Bool.or_eq_true, decide_eq_true_eq]
      exact ⟨fun h => h.elim .inl fun h => .inr (by rw [h]), fun h => h.elim .inl fun h => .inr (snoc_inj h).2⟩
    · simp only [F.kid q m' j hq', Bool.or_eq_true, decide_eq_true_eq]
      exact ⟨.inl, fun h => h.elim id fun h => absurd (snoc_inj h).1 a⟩
  · rw [some_, Bool.or_eq_true, decide_eq_true_eq] at hq ⊢
    rcases hq with hq | hq
    · exact .inl (F.par q j hq)
    · rw [(snoc_inj hq).1, hN]; exact .inl rfl
  · rcases cases_ q m' hq with ⟨rfl, rfl⟩ | ⟨rfl, rfl⟩ | ⟨a, b, hq'⟩
    · exact (in_0_2 h1 h2 h3)
    · (refine el_0_2 (F.own p nd hq0 hN) fun a1 a2 a3 => ?_)
      (refine el_0_2 (F.ow2 p nd hq0 hN) fun b1 b2 b3 => ?_)
      exact (in_0_2 (by show H' nd.node = _; rw [keep nd.node _ b1 (by simp)]; exact a1) (by show H' nd.fa = _; rw [keep nd.fa _ b2 (by simp)]; exact a2) (by show H' nd.ra = _; rw [keep nd.ra _ b3 (by simp)]; exact a3))
    · (refine el_0_2 (F.own q m' hq0 hq') fun a1 a2 a3 => ?_)
      (refine el_0_2 (F.ow2 q m' hq0 hq') fun b1 b2 b3 => ?_)
      exact (in_0_2 (by rw [keep m'.node _ b1 (by simp)]; exact a1) (by rw [keep m'.fa _ b2 (by simp)]; exact a2) (by rw [keep m'.ra _ b3 (by simp)]; exact a3))
  · rcases cases_ q m' hq with ⟨rfl, rfl⟩ | ⟨rfl, rfl⟩ | ⟨a, b, hq'⟩
    · exact ⟨List.nodup_nil, fun j hj => by cases hj⟩
    · (refine el_0_1 (F.ksok p nd hN) fun g1 g2 => ?_)
      refine ⟨?_, fun j hj => ?_⟩
      · show (nd.ks ++ [k]).Nodup
        rw [List.nodup_append]
        exact (in_0_2 g1 (by simp) (fun a ha b hb => by simp at hb; exact fun e => hk (hb ▸ e ▸ ha)))
      · rcases List.mem_append.mp hj with hj | hj
        · exact g2 j hj
        · rw [List.mem_singleton.mp hj]; exact hkn
    · exact F.ksok q m' hq'
  · rcases cases_ q m' hq with ⟨rfl, rfl⟩ | ⟨rfl, rfl⟩ | ⟨a, b, hq'⟩
    · exact (in_0_2 ⟨List.nodup_nil, fun j hj => by cases hj⟩ List.nodup_nil (fun j hj => by cases hj))
    · exact F.fsok p nd hN
    · exact F.fsok q m' hq'
  · rcases cases_ q m' hq with ⟨rfl, rfl⟩ | ⟨rfl, rfl⟩ | ⟨a, b, hq'⟩
    · simp [oadd, oput]
    · exact owk _ _ (F.ow1 p nd hN)
    · exact owk _ _ (F.ow1 q m' hq')
  · rcases cases_ q m' hq with ⟨rfl, rfl⟩ | ⟨rfl, rfl⟩ | ⟨a, b, hq'⟩
    · simp [oadd, oput, d1, d2, d3, d4, d5, d6]
    · (refine el_0_2 (F.ow2 p nd hq0 hN) fun b1 b2 b3 => ?_)
      exact (in_0_2 (owk _ _ b1) (owk _ _ b2) (owk _ _ b3))
    · (refine el_0_2 (F.ow2 q m' hq0 hq') fun b1 b2 b3 => ?_)
      exact (in_0_2 (owk _ _ b1) (owk _ _ b2) (owk _ _ b3))
  · by_cases c1 : b = n
    · rw [c1, h1]; rfl
    by_cases c2 : b = f
    · rw [c2, h2]; rfl
    by_cases c3 : b = r
    · rw [c3, h3]; rfl
    by_cases c4 : b = e
    · rw [c4, h4]; rfl
    by_cases c5 : b = nd.da
    · rw [c5, h5]; rfl
    rw [h6 b c1 c2 c3 c4 c5]
    exact F.owH b (by simpa [oadd, oput, c1, c2, c3, c4] using hb)
  · refine ⟨fun a h hH => ?_, fun a h => ?_, fun a h h' => ?_⟩
    · have c : a ≠ n ∧ a ≠ f ∧ a ≠ r ∧ a ≠ e := by exact (in_0_3 (fun q => hH (q ▸ z1)) (fun q => hH (q ▸ z2)) (fun q => hH (q ▸ z3)) (fun q => hH (q ▸ z4)))
      (refine el_0_3 c fun c1 c2 c3 c4 => ?_; try clear c)
      refine ⟨h6 a c1 c2 c3 c4 (fun q => by rw [q, F.ow1 p nd hN] at h; cases h), by simp [oadd, oput, c1, c2, c3, c4, h]⟩
    · (refine el_1_0 (Option.ne_none_iff_exists'.mp h) fun v hv => ?_)
      simp only [owk a v hv, hv]
    · by_cases c1 : a = n
      · rw [c1]; exact z1
      by_cases c2 : a = f
      · rw [c2]; exact z2
      by_cases c3 : a = r
      · rw [c3]; exact z3
      by_cases c4 : a = e
      · rw [c4]; exact z4
      exact absurd (by simpa [oadd, oput, c1, c2, c3, c4] using h) h'

theorem hr_add {p : List Str} {nd : FNode} {k : Str} {n f r e : Addr} (hN : N p = some nd) (hnew : N (p ++ [k]) = none) (q : List Str) (g : Int) : hr (fadd N p nd k n f r e) q g = hr N q g := by
  unfold hr fadd fput
  by_cases a : q = p ++ [k]
  · subst a; simp [hnew]
  · by_cases b : q = p
    · subst b; simp [hN]
    · simp [a, b]
theorem rc_add {p : List Str} {nd : FNode} {k : Str} {n f r e : Addr} (hN : N p = some nd) (hnew : N (p ++ [k]) = none) (q : List Str) (g : Int) : rc (fadd N p nd k n f r e) q g = rc N q g := by
  unfold rc fadd fput
  by_cases a : q = p ++ [k]
  · subst a; simp [hnew]
  · by_cases b : q = p
    · subst b; simp [hN]
    · simp [a, b]
end Mine
open PySem PySem.W PySem.Calls PyProof.Rows
set_option Elab.async false
set_option linter.all false
set_option maxRecDepth 100000
set_option genSizeOf false
namespace Mine
variable {H : CH} {cl x d pa : Addr} {N : FN} {ow : FO} {pend : CO}

/-- all at a way and below it is taken off -/
noncomputable def fcut (N : FN) (p : List Str) (k : Str) : FN := fun q => if (p ++ [k]).isPrefixOf q then none else if q = p then (N p).map fun nd => { nd with ks := nd.ks.filter fun j => decide (j ≠ k) } else N q

theorem pre_snoc {p q : List Str} {k j : Str} : (p ++ [k]).isPrefixOf (q ++ [j]) = ((p ++ [k]).isPrefixOf q || decide (p = q ∧ k = j)) := by
  rw [Bool.eq_iff_iff, Bool.or_eq_true, decide_eq_true_eq, List.isPrefixOf_iff_prefix, List.isPrefixOf_iff_prefix]
  constructor
  · rintro ⟨t, ht⟩
    by_cases hne : t = []
    · subst hne; rw [List.append_nil] at ht; exact .inr (snoc_inj ht)
    · left
      have hq := (List.dropLast_concat_getLast hne).symm
      rw [hq, ← List.append_assoc] at ht
      exact (in_1_0 t.dropLast ((snoc_inj ht).1))
  · rintro (⟨t, ht⟩ | ⟨rfl, rfl⟩)
    · exact (in_1_0 (t ++ [j]) (by rw [← List.append_assoc, ht]))
    · exact List.prefix_refl _

theorem FW.cut {H' : CH} {p : List Str} {nd : FNode} {k : Str} (F : FW H cl x d pa N ow pend) (hN : N p = some nd) (h5 : H' nd.da = some (.dict (adel (kids N p nd) k))) (h6 : ∀ b, b ≠ nd.da → H' b = H b) :
    FW H' cl x d pa (fcut N p k) ow pend ∧ FK H H' ow ow := by
  have hda := F.ow1 p nd hN
  have keep : ∀ b v, ow b = some v → v ≠ (p, 3) → H' b = H b := fun b v hb hv => h6 b fun q => by rw [q, hda] at hb; exact hv (Option.some.inj hb).symm
  have notPre : (p ++ [k]).isPrefixOf p = false := by
    cases h : (p ++ [k]).isPrefixOf p with
    | false => rfl
    | true =>
      (refine el_1_0 (List.isPrefixOf_iff_prefix.mp h) fun t ht => ?_)
      have := congrArg List.length ht
      simp at this
  have cases_ : ∀ q m', fcut N p k q = some m' → (p ++ [k]).isPrefixOf q = false ∧ ((p = q ∧ m' = { nd with ks := nd.ks.filter fun j => decide (j ≠ k) }) ∨ (q ≠ p ∧ N q = some m')) := by
    intro q m' hq
    unfold fcut at hq
    cases h : (p ++ [k]).isPrefixOf q with
    | true => rw [h] at hq; simp at hq
    | false =>
      rw [h] at hq
      simp only [Bool.false_eq_true, if_false] at hq
      refine ⟨rfl, ?_⟩
      by_cases b : q = p
      · rw [if_pos b, hN] at hq; exact .inl ⟨b.symm, (Option.some.inj hq).symm⟩
      · rw [if_neg b] at hq; exact .inr ⟨b, hq⟩
  have some_ : ∀ q, (fcut N p k q).isSome = (!(p ++ [k]).isPrefixOf q && (N q).isSome) := by
    intro q
    unfold fcut
    cases h : (p ++ [k]).isPrefixOf q with
    | true => rfl
    | false =>
      simp only [Bool.false_eq_true, if_false, Bool.not_false, Bool.true_and]
      by_cases b : q = p
      · rw [if_pos b, b, hN]; rfl
      · rw [if_neg b]
  have na_ : ∀ q, (p ++ [k]).isPrefixOf q = false → na (fcut N p k) q = na N q := by
    intro q h
    unfold na fcut
    rw [h]
    simp only [Bool.false_eq_true, if_false]
    by_cases b : q = p
    · rw [if_pos b, b, hN]; rfl
    · rw [if_neg b]
  (refine el_0_2 F.ow0 fun o1 o2 o3 => ?_)
  have hroot : (p ++ [k]).isPrefixOf ([] : List Str) = false := by cases p <;> rfl
  refine ⟨⟨?_, ?_, ?_, fun q m' hq => ?_, fun q m' j hq => ?_, fun q j hq => ?_, fun q m' hq0 hq => ?_, fun q m' hq => ?_, fun q m' hq => ?_, F.ow0, fun q m' hq => ?_, fun q m' hq0 hq => ?_, fun b hb => ?_⟩, FK.flag hda h6⟩
  · rw [keep x _ o1 (by simp)]; exact F.obj
  · (refine el_1_1 F.attrs fun rt hrt hd => ?_)
    by_cases hp : p = []
    · rw [← hp, hN] at hrt; cases hrt
      refine (in_1_1 ({ nd with ks := nd.ks.filter fun j => decide (j ≠ k) }) ?_ (by rw [keep d _ o2 (by simp)]; exact hd))
      unfold fcut; rw [hroot]; simp [← hp, hN]
    · refine (in_1_1 rt ?_ (by rw [keep d _ o2 (by simp)]; exact hd))
      unfold fcut; rw [hroot]; simp [Ne.symm hp, hrt]
  · rw [keep pa _ o3 (by simp)]; exact F.pend
  · (refine el_0_1 (cases_ q m' hq) fun h0 xEl1 => ?_; obtain ⟨rfl, rfl⟩ | ⟨a, hq'⟩ := xEl1)
    · show H' nd.da = _
      rw [h5]
      congr 2
      unfold kids adel
      rw [List.filter_map]
      show (nd.ks.filter (fun j => decide (j ≠ k))).map _ = (nd.ks.filter _).map _
      apply List.map_congr_left
      intro j hj
      have hjk : j ≠ k := by have := (List.mem_filter.mp hj).2; simpa using this
      rw [na_ _ (by rw [pre_snoc, notPre]; simp; exact fun e => hjk e.symm)]
    · rw [keep m'.da _ (F.ow1 q m' hq') (by simp [a]), F.dict q m' hq']
      unfold kids
      congr 2
      apply List.map_congr_left
      intro j _
      rw [na_ _ (by rw [pre_snoc, h0]; simp; exact fun e => absurd e.symm a)]
  · rw [some_, pre_snoc]
    (refine el_0_1 (cases_ q m' hq) fun h0 xEl1 => ?_; obtain ⟨rfl, rfl⟩ | ⟨a, hq'⟩ := xEl1)
    · rw [notPre]
      show j ∈ nd.ks.filter _ ↔ _
      rw [List.mem_filter, F.kid p nd j hN]
      simp
      constructor
      · rintro ⟨a, b⟩; exact ⟨fun e => b e.symm, a⟩
      · rintro ⟨a, b⟩; exact ⟨b, fun e => a e.symm⟩
    · rw [h0, F.kid q m' j hq']
      simp
      intro _
      exact .inl (Ne.symm a)
  · rw [some_, Bool.and_eq_true, pre_snoc] at hq
    rw [some_, Bool.and_eq_true]
    (refine el_0_1 hq fun h1 h2 => ?_; try clear hq)
    simp only [Bool.not_eq_true', Bool.or_eq_false_iff] at h1 ⊢
    exact ⟨h1.1, F.par q j h2⟩
  · (refine el_0_1 (cases_ q m' hq) fun h0 xEl1 => ?_; obtain ⟨rfl, rfl⟩ | ⟨a, hq'⟩ := xEl1)
    · (refine el_0_2 (F.own p nd hq0 hN) fun a1 a2 a3 => ?_)
      (refine el_0_2 (F.ow2 p nd hq0 hN) fun b1 b2 b3 => ?_)
      exact (in_0_2 (by show H' nd.node = _; rw [keep nd.node _ b1 (by simp)]; exact a1) (by show H' nd.fa = _; rw [keep nd.fa _ b2 (by simp)]; exact a2) (by show H' nd.ra = _; rw [keep nd.ra _ b3 (by simp)]; exact a3))
    · (refine el_0_2 (F.own q m' hq0 hq') fun a1 a2 a3 => ?_)
      (refine el_0_2 (F.ow2 q m' hq0 hq') fun b1 b2 b3 => ?_)
      exact (in_0_2 (by rw [keep m'.node _ b1 (by simp)]; exact a1) (by rw [keep m'.fa _ b2 (by simp)]; exact a2) (by rw [keep m'.ra _ b3 (by simp)]; exact a3))
  · (refine el_0_1 (cases_ q m' hq) fun h0 xEl1 => ?_; obtain ⟨rfl, rfl⟩ | ⟨a, hq'⟩ := xEl1)
    · (refine el_0_1 (F.ksok p nd hN) fun g1 g2 => ?_)
      exact ⟨g1.filter _, fun j hj => g2 j (List.mem_filter.mp hj).1⟩
    · exact F.ksok q m' hq'
  · (refine el_0_1 (cases_ q m' hq) fun h0 xEl1 => ?_; obtain ⟨rfl, rfl⟩ | ⟨a, hq'⟩ := xEl1)
    · exact F.fsok p nd hN
    · exact F.fsok q m' hq'
  · (refine el_0_1 (cases_ q m' hq) fun h0 xEl1 => ?_; obtain ⟨rfl, rfl⟩ | ⟨a, hq'⟩ := xEl1)
    · exact F.ow1 p nd hN
    · exact F.ow1 q m' hq'
  · (refine el_0_1 (cases_ q m' hq) fun h0 xEl1 => ?_; obtain ⟨rfl, rfl⟩ | ⟨a, hq'⟩ := xEl1)
    · exact F.ow2 p nd hq0 hN
    · exact F.ow2 q m' hq0 hq'
  · by_cases c : b = nd.da
    · rw [c, h5]; rfl
    · rw [h6 b c]; exact F.owH b hb

theorem hr_cut {p : List Str} {k : Str} {nd : FNode} (hN : N p = some nd) (q : List Str) (g : Int) : hr (fcut N p k) q g = (!(p ++ [k]).isPrefixOf q && hr N q g) := by
  unfold hr fcut
  cases (p ++ [k]).isPrefixOf q with
  | true => rfl
  | false =>
    by_cases b : q = p
    · subst b; simp [hN]
    · simp [b]
theorem rc_cut {p : List Str} {k : Str} {nd : FNode} (hN : N p = some nd) (q : List Str) (g : Int) : rc (fcut N p k) q g = (!(p ++ [k]).isPrefixOf q && rc N q g) := by
  unfold rc fcut
  cases (p ++ [k]).isPrefixOf q with
  | true => rfl
  | false =>
    by_cases b : q = p
    · subst b; simp [hN]
    · simp [b]

/-- the marks that wait are others -/
theorem FW.wait {H' : CH} {pend' : CO} (F : FW H cl x d pa N ow pend) (h5 : H' pa = some pend') (h6 : ∀ b, b ≠ pa → H' b = H b) : FW H' cl x d pa N ow pend' ∧ FK H H' ow ow := by
  (refine el_0_2 F.ow0 fun o1 o2 o3 => ?_)
  have keep : ∀ b v, ow b = some v → v ≠ ([], 12) → H' b = H b := fun b v hb hv => h6 b fun q => by subst q; rw [o3] at hb; exact hv (Option.some.inj hb).symm
  refine ⟨⟨?_, ?_, h5, fun q m hq => ?_, F.kid, F.par, fun q m hq0 hq => ?_, F.ksok, F.fsok, F.ow0, F.ow1, F.ow2, fun b hb => ?_⟩, FK.flag o3 h6⟩
  · rw [keep x _ o1 (by decide)]; exact F.obj
  · (refine el_1_1 F.attrs fun rt hrt hd => ?_); exact (in_1_1 rt hrt (by rw [keep d _ o2 (by decide)]; exact hd))
  · rw [keep m.da _ (F.ow1 q m hq) (by simp)]; exact F.dict q m hq
  · (refine el_0_2 (F.own q m hq0 hq) fun a1 a2 a3 => ?_)
    (refine el_0_2 (F.ow2 q m hq0 hq) fun b1 b2 b3 => ?_)
    exact (in_0_2 (by rw [keep m.node _ b1 (by simp)]; exact a1) (by rw [keep m.fa _ b2 (by simp)]; exact a2) (by rw [keep m.ra _ b3 (by simp)]; exact a3))
  · by_cases c : b = pa
    · subst c; rw [h5]; rfl
    · rw [h6 b c]; exact F.owH b hb

/-- what is kept of an object by another's work -/
theorem FW.keep {H' : CH} {oo oo' : FO} (F : FW H cl x d pa N ow pend) (K : FK H H' oo oo') (ap : ∀ a, ow a ≠ none → oo a = none) : FW H' cl x d pa N ow pend ∧ ∀ a, ow a ≠ none → oo' a = none := by
  have k : ∀ a v, ow a = some v → H' a = H a ∧ oo' a = none := fun a v h => K.same a (ap a (by rw [h]; simp)) (fun q => by
    have := F.owH a (by rw [h]; rfl); rw [q] at this; cases this)
  (refine el_0_2 F.ow0 fun o1 o2 o3 => ?_)
  refine ⟨⟨?_, ?_, ?_, fun q m hq => ?_, F.kid, F.par, fun q m hq0 hq => ?_, F.ksok, F.fsok, F.ow0, F.ow1, F.ow2, fun b hb => ?_⟩, fun a h => ?_⟩
  · rw [(k x _ o1).1]; exact F.obj
  · (refine el_1_1 F.attrs fun rt hrt hd => ?_); exact (in_1_1 rt hrt (by rw [(k d _ o2).1]; exact hd))
  · rw [(k pa _ o3).1]; exact F.pend
  · rw [(k _ _ (F.ow1 q m hq)).1]; exact F.dict q m hq
  · (refine el_0_2 (F.own q m hq0 hq) fun a1 a2 a3 => ?_)
    (refine el_0_2 (F.ow2 q m hq0 hq) fun b1 b2 b3 => ?_)
    exact (in_0_2 (by rw [(k _ _ b1).1]; exact a1) (by rw [(k _ _ b2).1]; exact a2) (by rw [(k _ _ b3).1]; exact a3))
  · (refine el_1_0 (Option.isSome_iff_exists.mp hb) fun v hv => ?_)
    rw [(k b v hv).1]; exact F.owH b hb
  · (refine el_1_0 (Option.ne_none_iff_exists'.mp h) fun v hv => ?_)
    exact (k a v hv).2

/-- an object is made -/
theorem FW.new {H' : CH} {cl x d r pa : Addr} (dis : x ≠ d ∧ x ≠ r ∧ x ≠ pa ∧ d ≠ r ∧ d ≠ pa ∧ r ≠ pa) (h1 : H' x = some (.inst cl d)) (h2 : H' d = some (.dict [("_flags", .loc r), ("_pending_flags", .loc pa)])) (h3 : H' r = some (.dict [])) (h4 : H' pa = some (.set [])) :
    FW H' cl x d pa (fun (q : List Str) => if q = [] then some ⟨0, 0, 0, r, [], [], []⟩ else none) (oput (oput (oput (oput (fun _ => none) x ([], 10)) d ([], 11)) pa ([], 12)) r ([], 3)) (.set []) := by
  (refine el_0_5 dis fun d1 d2 d3 d4 d5 d6 => ?_; try clear dis)
  have root : ∀ (q : List Str) m, (if q = [] then some (⟨0, 0, 0, r, [], [], []⟩ : FNode) else none) = some m → q = [] ∧ m = ⟨0, 0, 0, r, [], [], []⟩ := by
    intro q m h
    split at h
    · rename_i e; exact ⟨e, (Option.some.inj h).symm⟩
    · cases h
  refine ⟨h1, (in_1_1 _ rfl h2), h4, fun q m hq => ?_, fun q m j hq => ?_, fun q j hq => ?_, fun q m hq0 hq => absurd (root q m hq).1 hq0, fun q m hq => ?_, fun q m hq => ?_, ?_, fun q m hq => ?_, fun q m hq0 hq => absurd (root q m hq).1 hq0, fun b hb => ?_⟩
  · (refine el_0_1 (root q m hq) fun xEl0 xEl1 => ?_; obtain rfl := xEl0; obtain rfl := xEl1); exact h3
  · (refine el_0_1 (root q m hq) fun xEl0 xEl1 => ?_; obtain rfl := xEl0; obtain rfl := xEl1); simp
  · simp at hq
  · (refine el_0_1 (root q m hq) fun xEl0 xEl1 => ?_; obtain rfl := xEl0; obtain rfl := xEl1); exact ⟨List.nodup_nil, fun j hj => by cases hj⟩
  · (refine el_0_1 (root q m hq) fun xEl0 xEl1 => ?_; obtain rfl := xEl0; obtain rfl := xEl1); exact (in_0_2 ⟨List.nodup_nil, fun j hj => by cases hj⟩ List.nodup_nil (fun j hj => by cases hj))
  · simp [oput, d1, d2, d3, d4, d5, d6, Ne.symm d1, Ne.symm d2, Ne.symm d3, Ne.symm d4, Ne.symm d5, Ne.symm d6]
  · (refine el_0_1 (root q m hq) fun xEl0 xEl1 => ?_; obtain rfl := xEl0; obtain rfl := xEl1); simp [oput]
  · by_cases c1 : b = x
    · subst c1; rw [h1]; rfl
    by_cases c2 : b = d
    · subst c2; rw [h2]; rfl
    by_cases c3 : b = pa
    · subst c3; rw [h4]; rfl
    by_cases c4 : b = r
    · subst c4; rw [h3]; rfl
    simp [oput, c1, c2, c3, c4] at hb

/-- what is told of a way -/
noncomputable def isT (N : FN) (key : List Str) (f : Int) : Bool := ((List.range key.length).any fun i => rc N (key.take (i + 1)) f) || (!key.isEmpty && hr N key f)
end Mine
open PySem PySem.W PySem.Calls PyProof.Rows
set_option Elab.async false
set_option linter.all false
set_option maxRecDepth 100000
set_option genSizeOf false
namespace Mine
noncomputable def bodyOf : Stmt → List Stmt
  | .FunctionDef (body := b) .. => b
  | .ClassDef (body := b) .. => b
  | _ => []
noncomputable def scopeOf : Stmt → List (Str × NameKind)
  | .FunctionDef (scope := b) .. => b.names
  | _ => []
noncomputable def nth (l : List Stmt) (i : Nat) : Stmt := l.getD i (.Pass default)
/-- the parts of a loop -/
noncomputable def forT : Stmt → Expr
  | .For t .. => t
  | _ => .Constant .none 0 default
noncomputable def forI : Stmt → Expr
  | .For _ it .. => it
  | _ => .Constant .none 0 default
noncomputable def forB : Stmt → List Stmt
  | .For _ _ b .. => b
  | _ => []
noncomputable def forO : Stmt → List Stmt
  | .For _ _ _ o _ => o
  | _ => []
noncomputable def forP : Stmt → Pos
  | .For _ _ _ _ p => p
  | _ => default
noncomputable def inner (s : Stmt) (i : Nat) : Stmt := nth (forB s) i
/-- a loop's parts are put in by their names, once for all -/
theorem forE {s : Stmt} {t : Expr} {body : List Stmt} {P : Expr → List Stmt → Prop} (e : ∃ it o p, s = .For t it body o p) (h : P (forT s) (forB s)) : P t body := by
  (revert e; intro hfEl; refine el_3_0 hfEl fun _ _ _ e => ?_; try clear hfEl); subst e; exact h
theorem forE1 {s : Stmt} {body : List Stmt} {P : List Stmt → Prop} (e : ∃ t1 it1 o1 p1 t it o p, s = .For t1 it1 [.For t it body o p] o1 p1) (h : P (forB (inner s 0))) : P body := by
  (revert e; intro hfEl; refine el_8_0 hfEl fun _ _ _ _ _ _ _ _ e => ?_; try clear hfEl); subst e; exact h
theorem forE2 {s : Stmt} {t : Expr} {body : List Stmt} {P : Expr → List Stmt → Prop} (e : ∃ t1 it o p it2 o2 p2, s = .For t1 it [.For t it2 body o2 p2] o p) (h : P (forT (inner s 0)) (forB (inner s 0))) : P t body := by
  (revert e; intro hfEl; refine el_7_0 hfEl fun _ _ _ _ _ _ _ e => ?_; try clear hfEl); subst e; exact h
theorem forE3 {s : Stmt} {t : Expr} {body : List Stmt} {P : Expr → List Stmt → Prop} (e : ∃ t1 it1 o1 p1 t2 it2 o2 p2 it o p, s = .For t1 it1 [.For t2 it2 [.For t it body o p] o2 p2] o1 p1) (h : P (forT (inner (inner s 0) 0)) (forB (inner (inner s 0) 0))) : P t body := by
  (revert e; intro hfEl; refine el_10_0 hfEl fun _ _ _ _ _ _ _ _ _ _ rEl => ?_; try clear hfEl; (refine el_1_0 rEl fun _ e => ?_; try clear rEl)); subst e; exact h
theorem forE5 {s : Stmt} {t2 t it : Expr} {body o : List Stmt} {p : Pos} {P : Expr → Expr → List Stmt → List Stmt → Pos → Prop} (e : ∃ t1 it1 o1 p1 it2 o2 p2, s = .For t1 it1 [.For t2 it2 [.For t it body o p] o2 p2] o1 p1)
    (h : P (forT (inner (inner s 0) 0)) (forI (inner (inner s 0) 0)) (forB (inner (inner s 0) 0)) (forO (inner (inner s 0) 0)) (forP (inner (inner s 0) 0))) : P t it body o p := by
  (revert e; intro hfEl; refine el_7_0 hfEl fun _ _ _ _ _ _ _ e => ?_; try clear hfEl); subst e; exact h
theorem forE6 {s : Stmt} {t it : Expr} {body o : List Stmt} {p : Pos} {P : Expr → Expr → List Stmt → List Stmt → Pos → Prop} (e : ∃ t1 it1 o1 p1, s = .For t1 it1 [.For t it body o p] o1 p1)
    (h : P (forT (inner s 0)) (forI (inner s 0)) (forB (inner s 0)) (forO (inner s 0)) (forP (inner s 0))) : P t it body o p := by
  (revert e; intro hfEl; refine el_4_0 hfEl fun _ _ _ _ e => ?_; try clear hfEl); subst e; exact h
theorem forE7 {s : Stmt} {t it : Expr} {body o : List Stmt} {p : Pos} {P : List Stmt → Prop} (e : ∃ t1 it1 o1 p1 a b c t2 it2 o2 p2, s = .For t1 it1 [a, b, c, .For t2 it2 [.For t it body o p] o2 p2] o1 p1) (h : P (forB (inner (inner s 3) 0))) : P body := by
  (revert e; intro hfEl; refine el_10_0 hfEl fun _ _ _ _ _ _ _ _ _ _ rEl => ?_; try clear hfEl; (refine el_1_0 rEl fun _ e => ?_; try clear rEl)); subst e; exact h
theorem forE4 {s : Stmt} {t : Expr} {body : List Stmt} {P : Expr → List Stmt → Prop} (e : ∃ t1 it1 o1 p1 a b c it o p, s = .For t1 it1 [a, b, c, .For t it body o p] o1 p1) (h : P (forT (inner s 3)) (forB (inner s 3))) : P t body := by
  (revert e; intro hfEl; refine el_10_0 hfEl fun _ _ _ _ _ _ _ _ _ _ e => ?_; try clear hfEl); subst e; exact h
noncomputable def compE : Stmt → Expr
  | .Assign _ (.ListComp e ..) _ => e
  | .For _ (.ListComp e ..) .. => e
  | _ => .Constant .none 0 default
noncomputable def compG : Stmt → Comprehension
  | .Assign _ (.ListComp _ [g] ..) _ => g
  | .For _ (.ListComp _ [g] ..) .. => g
  | _ => ⟨.Constant .none 0 default, .Constant .none 0 default, [], 0⟩
theorem compE1 {s : Stmt} {elt t : Expr} {P : Expr → Expr → Prop} (e : ∃ tx it sc p p2, s = .Assign [tx] (.ListComp elt [⟨t, it, [], 0⟩] sc p) p2) (h : P (compE s) (compG s).target) : P elt t := by
  (revert e; intro hfEl; refine el_5_0 hfEl fun _ _ _ _ _ e => ?_; try clear hfEl); subst e; exact h
theorem compE2 {s : Stmt} {elt t : Expr} {ifs : List Expr} {P : Expr → Expr → List Expr → Prop} (e : ∃ t1 it sc p b o p1, s = .For t1 (.ListComp elt [⟨t, it, ifs, 0⟩] sc p) b o p1) (h : P (compE s) (compG s).target (compG s).ifs) : P elt t ifs := by
  (revert e; intro hfEl; refine el_7_0 hfEl fun _ _ _ _ _ _ _ e => ?_; try clear hfEl); subst e; exact h
noncomputable def flagsM (i : Nat) : Stmt := nth (bodyOf (nth PySem.Challenge.pw_kq0032_01.main.body 1)) i

section
variable {C : Cx} {dep : Nat} {KF I : IM} {st : CSt} {s : Shared} {Q : CV → CSt → Prop}
/-- the kinds of a function's names -/
noncomputable def HK (C : Cx) (sc : List (Str × NameKind)) : Prop := ∀ x, C.env.kindOf x = sc.lookup x
theorem WE.nm {sc : List (Str × NameKind)} {x : Str} {pos} {v : CV} (ok : C.Ok dep) (hk : HK C sc) (hv : st.lo x = some v) (h : Q v st) (hkk : ownKind (sc.lookup x) = true := by rfl)
    (hd : (x == ("__debug__" : Str)) = false := by decide) (hc : (x == ("__classdict__" : Str)) = false := by decide) : WE C (.Name x pos) st Q := WE.name ok.fun_ hv h (by rw [hk]; exact hkk) hd hc
theorem WA.nm {sc : List (Str × NameKind)} {x : Str} {pos : Pos} {c : CV} {Q : CSt → Prop} (ok : C.Ok dep) (hk : HK C sc) (h : Q (st.put x c)) (hkk : storeKind (sc.lookup x) = true := by rfl) : WA C (assign (.Name x pos) C.env) c st Q := WA.name ok (by rw [hk]; exact hkk) h
theorem W1.neg {a : Int} (h : Q (.int (-a)) st) : W1 C (unaryOp .USub) (.int a) st Q := fun I v r KF s S => by
  simp only [VR] at r
  (refine el_1_0 r fun t xEl1 => ?_; try clear r; obtain rfl := xEl1)
  exact PyProof.Rows.neg_int ⟨I, st, .refl I, S.toks _, _, by simp [VR], h⟩
theorem WE.neg1 {i : Int} {k p pos} (h : Q (.int (-i)) st) : WE C (.UnaryOp .USub (.Constant (.int i) k p) pos) st Q := WE.unop (WE.int (W1.neg h))
theorem WS.exprAny {e pos} {Q : CF → CSt → Prop} (ok : C.Ok dep) (h : WE C e st (fun v st1 => Q .next st1)) (hs : swapsWith e none pos.line C.env = pure false := by rfl) : WS C (.Expr e pos) st Q := fun I => by
  have hi : interactive C.env = false := by unfold interactive; rw [ok.fun_]; rfl
  rw [exec_Expr C.env e pos hi hs]
  refine WL.bind (WL.standAt (WL.bind ((h I).mono (fun J v st1 _ hEl => ?_))))
  obtain ⟨c, r, q⟩ := hEl
  exact fun KF s S => wpAny_dropValue ⟨J, st1, .refl _, S, .next, rfl, q⟩
end

/-- the class of the flags, its methods -/
structure FCls (C : Cx) (cl : Addr) : Prop where
  ok : ClsOk C.K cl
  flags : findIn C.K (.ref cl) "_flags" = some none
  pendf : findIn C.K (.ref cl) "_pending_flags" = some none
  tflags : takerIn C.K cl "_flags" = some none
  tpend : takerIn C.K cl "_pending_flags" = some none
  gset : GOk C [("set", .type "set")]

section
variable {C : Cx} {dep : Nat} {H : CH} {cl x d pa : Addr} {N : FN} {ow : FO} {pend : CO}

theorem FW.self_flags {Q : CV → CSt → Prop} {lo : Str → Option CV} {r : FNode} (F : FW H cl x d pa N ow pend) (ok : C.Ok dep) (fc : FCls C cl) (hr : N [] = some r) (h : Q (.loc r.da) ⟨lo, H⟩) : WAttr C (.loc x) "_flags" ⟨lo, H⟩ Q := by
  (refine el_1_1 F.attrs fun r' hr' hd => ?_)
  rw [hr] at hr'; cases hr'
  exact WAttr.inst ok fc.ok F.obj hd rfl fc.flags rfl (fun u h => by cases h) h
theorem FW.self_pend {Q : CV → CSt → Prop} {lo : Str → Option CV} (F : FW H cl x d pa N ow pend) (ok : C.Ok dep) (fc : FCls C cl) (h : Q (.loc pa) ⟨lo, H⟩) : WAttr C (.loc x) "_pending_flags" ⟨lo, H⟩ Q := by
  (refine el_1_1 F.attrs fun r' hr' hd => ?_)
  exact WAttr.inst ok fc.ok F.obj hd rfl fc.pendf rfl (fun u h => by cases h) h

theorem FW.nodup {p : List Str} {nd : FNode} (F : FW H cl x d pa N ow pend) (h : N p = some nd) : ((kids N p nd).map (·.1)).Nodup := by
  have : (kids N p nd).map (·.1) = nd.ks := by unfold kids; rw [List.map_map]; simp [Function.comp_def]
  rw [this]; exact (F.ksok p nd h).1
theorem kids_lookup (p : List Str) (nd : FNode) (k : Str) : (kids N p nd).lookup k = if k ∈ nd.ks then some (.loc (na N (p ++ [k]))) else none := by
  unfold kids
  induction nd.ks with
  | nil => rfl
  | cons j ks ih =>
    (simp only [List.map_cons]; simp only [List.lookup_cons])
    by_cases q : k = j
    · subst q; simp
    · have q' : (k == j) = false := by simpa using q
      rw [q', ih]; simp [q]
theorem FW.kidAt {p : List Str} {nd : FNode} {k : Str} (F : FW H cl x d pa N ow pend) (h : N p = some nd) : (kids N p nd).lookup k = (N (p ++ [k])).map fun m => .loc m.node := by
  rw [kids_lookup]
  have := F.kid p nd k h
  cases hk : N (p ++ [k]) with
  | none => rw [hk] at this; rw [if_neg (by rw [this]; simp)]; rfl
  | some m => rw [hk] at this; rw [if_pos (this.mpr rfl)]; simp [na, hk]
theorem FW.klen {p : List Str} {nd : FNode} (F : FW H cl x d pa N ow pend) (h : N p = some nd) : (kids N p nd).length ≤ 3 := by
  (refine el_0_1 (F.ksok p nd h) fun a b => ?_)
  have := List.Nodup.length_le_of_subset a b
  have e : (kids N p nd).length = nd.ks.length := by simp [kids]
  rw [e]; exact this
theorem nodeD_nodup (nd : FNode) : ((nodeD nd).map (·.1)).Nodup := by
  show ([("flags" : Str), "recursive_flags", "nested"]).Nodup
  decide

/-- is_: the loop, plain -/
noncomputable def isLoop (N : FN) (f : Int) (p : List Str) : List Str → Option Bool
  | [] => none
  | k :: ks => match N (p ++ [k]) with
    | none => some false
    | some nd => if f ∈ nd.rs then some true else isLoop N f (p ++ [k]) ks

theorem isLoop_W {t : Expr} {body : List Stmt} {Q : CF → CSt → Prop} {f : Int} {keyc : CV} (ok : C.Ok dep) (fc : FCls C cl) (hk : HK C (scopeOf (flagsM 7))) (F : FW H cl x d pa N ow pend)
    (e : ∃ it o p, nth (bodyOf (flagsM 7)) 2 = .For t it body o p) :
    ∀ (ks : List Str) (p : List Str) (nd : FNode) (lo : Str → Option CV), N p = some nd → lo "cont" = some (.loc nd.da) → lo "flag" = some (.int f) → lo "key" = some keyc →
      (∀ b lo', isLoop N f p ks = some b → Q (.ret (.bool b)) ⟨lo', H⟩) → (∀ lo' nd', isLoop N f p ks = none → N (p ++ ks) = some nd' → lo' "cont" = some (.loc nd'.da) → lo' "flag" = some (.int f) → lo' "key" = some keyc → Q .next ⟨lo', H⟩) →
      WFor C t body [] (ks.map .str) ⟨lo, H⟩ Q := by
  apply forE (t := t) (body := body) e
  intro ks
  induction ks with
  | nil => intro p nd lo hN h1 h2 h3 q1 q2; exact WSs.nil (q2 lo nd rfl (by simpa using hN) h1 h2 h3)
  | cons k ks ih =>
    intro p nd lo hN h1 h2 h3 q1 q2
    refine WA.nm ok hk ?_
    have hkid := F.kidAt (k := k) hN
    refine WSs.cons (WS.if_ (WT.cmp1 (WE.nm ok hk rfl (WE.nm ok hk h1 (W2.notInDict (F.dict p nd hN) (F.nodup hN) (Wtr.bool (cB (fun hc => ?_) fun hc => ?_)))))))
    · have hn : N (p ++ [k]) = none := by
        cases q : N (p ++ [k]) with
        | none => rfl
        | some m => rw [hkid, q] at hc; cases hc
      refine WSs.cons (WS.ret (WE.bool (q1 false _ ?_)))
      simp [isLoop, hn]
    · obtain ⟨m, hm⟩ : ∃ m, N (p ++ [k]) = some m := by
        cases q : N (p ++ [k]) with
        | some m => exact (in_1_0 m rfl)
        | none => rw [hkid, q] at hc; cases hc
      have hloop : isLoop N f p (k :: ks) = if f ∈ m.rs then some true else isLoop N f (p ++ [k]) ks := by simp [isLoop, hm]
      rw [hm] at hkid
      (refine el_0_2 (F.own _ m (by simp) hm) fun a1 a2 a3 => ?_)
      refine WSs.nil (WSs.cons (WS.assign1 (WE.sub (WE.nm ok hk h1 (WE.nm ok hk rfl (W2.itemD (F.dict p nd hN) (F.nodup hN) hkid (WA.nm ok hk ?_)))))))
      refine WSs.cons (WS.if_ (WT.cmp1 (WE.nm ok hk h2 (WE.sub (WE.nm ok hk rfl (WE.str (W2.itemD a1 (nodeD_nodup m) (c := .loc m.ra) rfl (W2.inISet a3 (Wtr.bool (cB (fun hc => ?_) fun hc => ?_))))))))))
      · refine WSs.cons (WS.ret (WE.bool (q1 true _ ?_)))
        rw [hloop, if_pos (by simpa using hc)]
      · have hnot : ¬ f ∈ m.rs := by simpa using hc
        rw [if_neg hnot] at hloop
        refine WSs.nil (WSs.cons (WS.assign1 (WE.sub (WE.nm ok hk rfl (WE.str (W2.itemD a1 (nodeD_nodup m) (c := .loc m.da) rfl (WA.nm ok hk (WSs.nil ?_))))))))
        refine ih (p ++ [k]) m _ hm rfl h2 h3 (fun b lo' hb => q1 b lo' (by rw [hloop]; exact hb)) fun lo' nd' hb hN' => q2 lo' nd' (by rw [hloop]; exact hb) (by rw [List.append_assoc] at hN'; exact hN')

theorem upk_init {n : Nat} (h : 0 < n) : upk n (-1) = n - 1 := by unfold upk; rw [if_pos (by omega +splitDisjunctions)]; omega

/-- what is_ gives back, plain -/
noncomputable def isP (N : FN) (f : Int) (key : List Str) : Bool := if key = [] then false else match isLoop N f [] key.dropLast with
  | some b => b
  | none => hr N key f || rc N key f

theorem is_W {Q : CF → CSt → Prop} {f : Int} {key : List Str} (ok : C.Ok dep) (fc : FCls C cl) (hk : HK C (scopeOf (flagsM 7))) (F : FW H cl x d pa N ow pend) (hl : key.length ≤ 1000) 
    (h : ∀ lo', Q (.ret (.bool (isP N f key))) ⟨lo', H⟩) : WSs C (bodyOf (flagsM 7)) ⟨fun y => ([("self" : Str), "key", "flag"].zip [.loc x, .tup (key.map .str), .int f]).lookup y, H⟩ Q := by
  (refine el_1_1 F.attrs fun r hr0 hd0 => ?_)
  refine WSs.cons (WS.if_ (WT.not (WT.value rfl (WE.nm ok hk rfl (Wtr.tup (by simp; (exact Nat.le_trans (by assumption) (by decide))) (cB (fun hc => ?_) fun hc => ?_))))))
  · have hkey : key = [] := by simpa using hc
    subst hkey
    exact WSs.cons (WS.ret (WE.bool (h _)))
  have hkey : key ≠ [] := by intro q; subst q; simp at hc
  have hlen : 0 < key.length := by cases key with | nil => exact absurd rfl hkey | cons _ _ => simp
  have hP : isP N f key = match isLoop N f [] key.dropLast with | some b => b | none => hr N key f || rc N key f := by unfold isP; rw [if_neg hkey]
  refine WSs.nil (WSs.cons (WS.assign1 (WE.attr (WE.nm ok hk rfl (F.self_flags ok fc hr0 (WA.nm ok hk ?_))))))
  refine WSs.cons (WS.for_ ok (WE.slice (WE.nm ok hk rfl (WE.neg1 (in_1_1 _ rfl (WSl.tupTo (by simp; (exact Nat.le_trans (by assumption) (by decide))) (in_1_1 _ IterOf.tup ?_)))))))
  rw [List.length_map, upk_init hlen, ← List.map_take, ← List.dropLast_eq_take]
  refine isLoop_W (f := f) (keyc := .tup (key.map .str)) ok fc hk F (in_3_0 _ _ _ rfl) key.dropLast [] r _ hr0 rfl rfl rfl (fun b lo' hb => ?_) fun lo' nd hb hN h1 h2 h3 => ?_
  · rw [hb] at hP
    have := h lo'; rw [hP] at this; exact this
  simp only [List.nil_append] at hN
  rw [hb] at hP
  have hlast : (key.map CV.str)[cidx (key.map CV.str).length (-1)]? = some (.str (key.getLast hkey)) := by
    have : cidx (key.map CV.str).length (-1) = key.length - 1 := (cidx_last (by rw [List.length_map]; exact hlen)).trans (by rw [List.length_map])
    rw [this, List.getElem?_map, List.getLast_eq_getElem]
    simp [show key.length - 1 < key.length by (exact Nat.sub_lt_sub_left (by assumption) (Nat.lt_succ_self _))]
  refine WSs.cons (WS.assign1 (WE.sub (WE.nm ok hk h3 (WE.neg1 (W2.itemT (by simp; (exact Int.ofNat_le.mpr (by assumption))) (by simp; (exact Int.natCast_nonneg _)) (by simp; omega) hlast (WA.nm ok hk ?_))))))
  have hkeyE : key.dropLast ++ [key.getLast hkey] = key := List.dropLast_concat_getLast hkey
  have hkid := F.kidAt (k := key.getLast hkey) hN
  rw [hkeyE] at hkid
  refine WSs.cons (WS.if_ (WT.cmp1 (WE.nm ok hk rfl (WE.nm ok hk h1 (W2.inDict (F.dict _ nd hN) (F.nodup hN) (Wtr.bool (cB (fun hc => ?_) fun hc => ?_)))))))
  · obtain ⟨m, hm⟩ : ∃ m, N key = some m := by
      cases q : N key with
      | some m => exact (in_1_0 m rfl)
      | none => rw [hkid, q] at hc; cases hc
    rw [hm] at hkid
    (refine el_0_2 (F.own _ m hkey hm) fun a1 a2 a3 => ?_)
    refine WSs.cons (WS.assign1 (WE.sub (WE.nm ok hk h1 (WE.nm ok hk rfl (W2.itemD (F.dict _ nd hN) (F.nodup hN) hkid (WA.nm ok hk ?_))))))
    have e1 : hr N key f = decide (f ∈ m.fs) := by simp [hr, hm]
    have e2 : rc N key f = decide (f ∈ m.rs) := by simp [rc, hm]
    simp only [e1, e2] at hP
    refine WSs.cons (WS.ret (WE.boolop ?_))
    refine WE.cmp1 (WE.nm ok hk h2 (WE.sub (WE.nm ok hk rfl (WE.str (W2.itemD a1 (nodeD_nodup m) (c := .loc m.fa) rfl (W2.inISet a2 (Wtr.bool ?_)))))))
    cases hq : decide (f ∈ m.fs) with
    | true =>
      rw [hq] at hP
      have := h (CSt.put (CSt.put ⟨lo', H⟩ "key_stem" (.str (key.getLast hkey))) "cont" (.loc m.node)).lo
      rw [hP] at this; exact this
    | false =>
      rw [hq] at hP
      refine WE.cmp1 (WE.nm ok hk h2 (WE.sub (WE.nm ok hk rfl (WE.str (W2.itemD a1 (nodeD_nodup m) (c := .loc m.ra) rfl (W2.inISet a3 ?_))))))
      have := h (CSt.put (CSt.put ⟨lo', H⟩ "key_stem" (.str (key.getLast hkey))) "cont" (.loc m.node)).lo
      rw [hP] at this; exact this
  · have hn : N key = none := by
      cases q : N key with
      | none => rfl
      | some m => rw [hkid, q] at hc; cases hc
    have e1 : hr N key f = false := by simp [hr, hn]
    have e2 : rc N key f = false := by simp [rc, hn]
    simp only [e1, e2] at hP
    refine WSs.nil (WSs.cons (WS.ret (WE.bool ?_)))
    have := h (CSt.put ⟨lo', H⟩ "key_stem" (.str (key.getLast hkey))).lo
    rw [hP] at this; exact this
end
end Mine
open PySem PySem.W PySem.Calls PyProof.Rows
set_option Elab.async false
set_option linter.all false
set_option maxRecDepth 100000
set_option genSizeOf false
namespace Mine

theorem aput_new {k : Str} {c : CV} : ∀ {es : List (Str × CV)}, es.lookup k = none → aput es k c = es ++ [(k, c)]
  | [], _ => rfl
  | (k', v) :: es, h => by
    simp only [List.lookup_cons] at h
    by_cases q : k = k'
    · subst q; simp at h
    · have q' : (k == k') = false := by simpa using q
      rw [q'] at h
      unfold aput
      rw [if_neg (Ne.symm q), aput_new h]; rfl

section
variable {C : Cx} {dep : Nat} {H : CH} {cl x d pa : Addr} {N : FN} {ow : FO} {pend : CO} {st : CSt}

theorem WE.dictK {Q : CV → CSt → Prop} {keys : List (Option Expr)} {values : List Expr} {pos : Pos}
    (h : ∀ d, st.H d = Option.none → WPairs C ((keys.filterMap id).zip values) { st with H := hput st.H d (.dict []) } (fun l st1 => st1.H d = some (.dict []) ∧ l.length ≤ 15 ∧ Q (.loc d) { st1 with H := hput st1.H d (.dict (aputs [] l)) }))
    (hshape : (evalEachOpt keys C.env).zip ((evalEach values C.env).map fun v => do let x ← v; standAt pos; pure x) = (((keys.filterMap id).zip values).map (ptree C.env pos)).map fun p => (some p.1, p.2) := by rfl) (h0 : (keys.filterMap id).zip values ≠ [] := by simp) (hlen : ((keys.filterMap id).zip values).length ≤ 15 := by decide) :
    WE C (.Dict keys values pos) st Q := WE.dict _ h hshape h0 hlen

theorem blockKind_of (ok : C.Ok dep) : C.env.blockKind = .function := by
  unfold Env.blockKind
  rw [ok.fun_]
  rfl
/-- a set is made: set() -/
theorem WE.newI {Q : CV → CSt → Prop} {p1 p2 : Pos} (ok : C.Ok dep) (hg : GOk C [("set", .type "set")]) (hk : C.env.kindOf "set" = some .globalImplicit) (h : ∀ a, st.H a = Option.none → Q (.loc a) { st with H := hput st.H a (.iset []) }) : WE C (.Call (.Name "set" p1) [] [] p2) st Q :=
  WE.call ok (WE.glob ok hg (v := .type "set") rfl (in_1_2 _ rfl KpOk.type (WCall.setNewI h)) hk)
theorem WE.newP {Q : CV → CSt → Prop} {p1 p2 : Pos} (ok : C.Ok dep) (hg : GOk C [("set", .type "set")]) (hk : C.env.kindOf "set" = some .globalImplicit) (h : ∀ a, st.H a = Option.none → Q (.loc a) { st with H := hput st.H a (.set []) }) : WE C (.Call (.Name "set" p1) [] [] p2) st Q :=
  WE.call ok (WE.glob ok hg (v := .type "set") rfl (in_1_2 _ rfl KpOk.type (WCall.setNewP h)) hk)

/-- the heap behind a new node -/
theorem FW.added {p : List Str} {nd : FNode} {k : Str} {n f r e : Addr} (F : FW H cl x d pa N ow pend) (hN : N p = some nd) (hk : N (p ++ [k]) = none) (hkn : k ∈ fnames)
    (z1 : H n = none) (z2 : hput H n (.dict []) f = none) (z3 : hput (hput H n (.dict [])) f (.iset []) r = none) (z4 : hput (hput (hput H n (.dict [])) f (.iset [])) r (.iset []) e = none) :
    ∃ H' N' ow' nd', H' = hput (hput (hput (hput (hput (hput H n (.dict [])) f (.iset [])) r (.iset [])) e (.dict [])) n (.dict [("flags", .loc f), ("recursive_flags", .loc r), ("nested", .loc e)])) nd.da (.dict (aput (kids N p nd) k (.loc n))) ∧
      FW H' cl x d pa N' ow' pend ∧ FK H H' ow ow' ∧ N' p = some nd' ∧ nd'.da = nd.da ∧ (N' (p ++ [k])).isSome = true ∧ (∀ q g, hr N' q g = hr N q g) ∧ (∀ q g, rc N' q g = rc N q g) := by
  have hda : H nd.da ≠ none := by rw [F.dict p nd hN]; simp
  have hne : ∀ {H : CH} {a b : Addr} {c : CO}, hput H a c b = none → b ≠ a ∧ H b = none := fun {H a b c} h => by
    unfold hput at h; split at h
    · cases h
    · rename_i q; exact ⟨q, h⟩
  (refine el_0_1 (hne z2) fun y1 w2 => ?_)
  (refine el_0_1 (hne z3) fun y2 w3 => ?_)
  (refine el_0_1 (hne w3) fun y3 w3 => ?_)
  (refine el_0_1 (hne z4) fun y4 w4 => ?_)
  (refine el_0_1 (hne w4) fun y5 w4 => ?_)
  (refine el_0_1 (hne w4) fun y6 w4 => ?_)
  have c1 : nd.da ≠ n := fun q => hda (q ▸ z1)
  have c2 : nd.da ≠ f := fun q => hda (q ▸ w2)
  have c3 : nd.da ≠ r := fun q => hda (q ▸ w3)
  have c4 : nd.da ≠ e := fun q => hda (q ▸ w4)
  have hkk : k ∉ nd.ks := fun h => by have := (F.kid p nd k hN).mp h; rw [hk] at this; cases this
  have hlk : (kids N p nd).lookup k = none := by rw [F.kidAt hN, hk]; rfl
  have main := F.add (H' := hput (hput (hput (hput (hput (hput H n (.dict [])) f (.iset [])) r (.iset [])) e (.dict [])) n (.dict [("flags", .loc f), ("recursive_flags", .loc r), ("nested", .loc e)])) nd.da (.dict (aput (kids N p nd) k (.loc n))))
    hN hkk hkn z1 w2 w3 w4 (in_0_5 (Ne.symm y1) (Ne.symm y3) (Ne.symm y6) (Ne.symm y2) (Ne.symm y5) (Ne.symm y4)) (by simp [hput, Ne.symm c1]) (by simp [hput, y1, Ne.symm c2, Ne.symm y2, Ne.symm y5]) (by simp [hput, y3, Ne.symm c3, Ne.symm y4]) (by simp [hput, y6, Ne.symm c4])
    (by simp [hput, aput_new hlk]) (fun b h1 h2 h3 h4 h5 => by simp [hput, h1, h2, h3, h4, h5])
  refine (in_4_7 _ _ _ ({ nd with ks := nd.ks ++ [k] }) rfl main.1 main.2 ?_ ?_ ?_ (hr_add hN hk) (rc_add hN hk))
  · unfold fadd; rw [fput_ne (snoc_ne p k).symm]; simp
  · rfl
  · simp [fadd]

/-- a node is there, if need be a new one -/
noncomputable def Ens (cl x d pa : Addr) (pend : CO) (lo : Str → Option CV) (p : List Str) (k : Str) (da : Addr) (H : CH) (N : FN) (ow : FO) : CF → CSt → Prop := fun f st' => f = .next ∧ st'.lo = lo ∧
  ∃ N' ow' nd' m, FW st'.H cl x d pa N' ow' pend ∧ FK H st'.H ow ow' ∧ N' p = some nd' ∧ nd'.da = da ∧ N' (p ++ [k]) = some m ∧ (∀ q g, hr N' q g = hr N q g) ∧ (∀ q g, rc N' q g = rc N q g)

theorem WS.ens {s : Stmt} {st : CSt} {lo : Str → Option CV} {p : List Str} {k : Str} {da : Addr} {Q : CF → CSt → Prop} (h : WS C s st (Ens cl x d pa pend lo p k da H N ow))
    (hQ : ∀ H' N' ow' nd' m, FW H' cl x d pa N' ow' pend → FK H H' ow ow' → N' p = some nd' → nd'.da = da → N' (p ++ [k]) = some m → (∀ q g, hr N' q g = hr N q g) → (∀ q g, rc N' q g = rc N q g) → Q .next ⟨lo, H'⟩) : WS C s st Q := WS.mono h fun b st' hE => by
  (refine el_0_2 hE fun e1 e2 rEl => ?_; try clear hE; (refine el_4_6 rEl fun N1 ow1 nd1 m F1 K1 g1 g2 g3 g4 g5 => ?_; try clear rEl))
  have := hQ _ _ _ _ _ F1 K1 g1 g2 g3 g4 g5
  rw [← e2] at this
  rw [e1]
  exact this
theorem hput_old {H : CH} {a b : Addr} {c v : CO} (h : H b = some v) (q : H a = none) : hput H a c b = some v := by
  rw [hput_ne fun e => by rw [e, q] at h; cases h]; exact h
theorem ne_of_old {H : CH} {a b : Addr} {v : CO} (h : H b = some v) (q : H a = none) : b ≠ a := fun e => by rw [e, q] at h; cases h

theorem setLoop_W {t : Expr} {body : List Stmt} {Q : CF → CSt → Prop} {c1 c2 c3 : CV} (ok : C.Ok dep) (fc : FCls C cl) (hk : HK C (scopeOf (flagsM 6))) 
    (e : ∃ it o p, nth (bodyOf (flagsM 6)) 2 = .For t it body o p) :
    ∀ (ks : List Str) (p : List Str) (nd : FNode) (N : FN) (ow : FO) (H : CH) (lo : Str → Option CV), FW H cl x d pa N ow pend → (∀ k ∈ ks, k ∈ fnames) → N p = some nd → lo "cont" = some (.loc nd.da) → lo "key_stem" = some c1 → lo "flag" = some c2 → lo "recursive" = some c3 →
      (∀ H' N' ow' nd' lo', FW H' cl x d pa N' ow' pend → FK H H' ow ow' → N' (p ++ ks) = some nd' → lo' "cont" = some (.loc nd'.da) → lo' "key_stem" = some c1 → lo' "flag" = some c2 → lo' "recursive" = some c3 → (∀ q g, hr N' q g = hr N q g) → (∀ q g, rc N' q g = rc N q g) → Q .next ⟨lo', H'⟩) →
      WFor C t body [] (ks.map .str) ⟨lo, H⟩ Q := by
  apply forE (t := t) (body := body) e
  intro ks
  induction ks with
  | nil => intro p nd N ow H lo F _ hN h1 h2 h3 h4 q; exact WSs.nil (q H N ow nd lo F (.refl _ _) (by simpa using hN) h1 h2 h3 h4 (fun _ _ => rfl) fun _ _ => rfl)
  | cons k ks ih =>
    intro p nd N ow H lo F hks hN h1 h2 h3 h4 q
    have hkn := hks k List.mem_cons_self
    have hkid := F.kidAt (k := k) hN
    refine WA.nm ok hk (WSs.cons (WS.ens (x := x) (d := d) (cl := cl) (pa := pa) (pend := pend) (lo := ((CSt.mk lo H).put "k" (.str k)).lo) (p := p) (k := k) (da := nd.da) (H := H) (N := N) (ow := ow) ?_ fun H1 N1 ow1 nd1 m F1 K1 g1 g2 g3 g4 g5 => ?_))
    · refine WS.if_ (WT.cmp1 (WE.nm ok hk rfl (WE.nm ok hk h1 (W2.notInDict (F.dict p nd hN) (F.nodup hN) (Wtr.bool (cB (fun hc => ?_) fun hc => ?_))))))
      · have hn : N (p ++ [k]) = none := by
          cases q : N (p ++ [k]) with
          | none => rfl
          | some m => rw [hkid, q] at hc; cases hc
        refine WSs.cons (WS.assign1 (WE.dictK fun n z1 => ?_))
        refine WE.str (in_1_1 _ rfl (WE.newI ok fc.gset (by rw [hk]; rfl) fun f z2 => ?_))
        refine WE.str (in_1_1 _ rfl (WE.newI ok fc.gset (by rw [hk]; rfl) fun r z3 => ?_))
        refine WE.str (in_1_1 _ rfl (WE.dict0 fun e z4 => ?_))
        (refine el_4_6 (F.added hN hn hkn z1 z2 z3 z4) fun H' N' ow' nd' eH F' K' g1 g2 g3 rEl => ?_; (refine el_0_1 rEl fun g4 g5 => ?_; try clear rEl))
        have dn : hput (hput (hput (hput H n (.dict [])) f (.iset [])) r (.iset [])) e (.dict []) n = some (.dict []) := hput_old (hput_old (hput_old hput_self z2) z3) z4
        refine (in_0_2 dn (by simp) ?_)
        have hdc : nd.da ≠ n := ne_of_old (F.dict p nd hN) z1
        have hH5 : hput (hput (hput (hput (hput H n (.dict [])) f (.iset [])) r (.iset [])) e (.dict [])) n (.dict (aputs [] [("flags", .loc f), ("recursive_flags", .loc r), ("nested", .loc e)])) nd.da = some (.dict (kids N p nd)) := (hput_ne hdc).trans (hput_old (hput_old (hput_old (hput_old (F.dict p nd hN) z1) z2) z3) z4)
        refine WA.subD (WE.nm ok hk h1 (WE.nm ok hk rfl (in_3_5 _ _ _ rfl rfl hH5 (F.nodup hN) (by have := F.klen hN; (exact Nat.le_trans (by assumption) (by decide))) ?_)))
        refine WSs.nil (in_0_2 rfl rfl (in_3_0 N' ow' nd' ?_))
        (refine el_1_0 (Option.isSome_iff_exists.mp g3) fun m hm => ?_)
        rw [eH] at F' K'
        exact (in_1_6 m F' K' g1 g2 hm g4 g5)
      · obtain ⟨m, hm⟩ : ∃ m, N (p ++ [k]) = some m := by
          cases q : N (p ++ [k]) with
          | some m => exact (in_1_0 m rfl)
          | none => rw [hkid, q] at hc; cases hc
        exact WSs.nil (in_0_2 rfl rfl (in_4_6 N ow nd m F (.refl _ _) hN rfl hm (fun _ _ => rfl) (fun _ _ => rfl)))

    · have hk1 := F1.kidAt (k := k) g1
      rw [g3] at hk1
      (refine el_0_2 (F1.own _ m (by simp) g3) fun a1 a2 a3 => ?_)
      have h1' : lo "cont" = some (.loc nd1.da) := by rw [g2]; exact h1
      refine WSs.cons (WS.assign1 (WE.sub (WE.sub (WE.nm ok hk h1' (WE.nm ok hk rfl (W2.itemD (F1.dict p nd1 g1) (F1.nodup g1) hk1 (WE.str (W2.itemD a1 (nodeD_nodup m) (c := .loc m.da) rfl (WA.nm ok hk (WSs.nil ?_))))))))))
      refine ih (p ++ [k]) m N1 ow1 H1 _ F1 (fun j hj => hks j (List.mem_cons_of_mem _ hj)) g3 rfl h2 h3 h4 fun H' N' ow' nd' lo' F' K' b1 b2 b3 b4 b5 b6 b7 => ?_
      rw [List.append_assoc] at b1
      exact q H' N' ow' nd' lo' F' (K1.trans K') b1 b2 b3 b4 b5 (fun q g => (b6 q g).trans (g4 q g)) fun q g => (b7 q g).trans (g5 q g)

theorem set_W {Q : CF → CSt → Prop} {f : Int} {b : Bool} {key : List Str} (ok : C.Ok dep) (fc : FCls C cl) (hk : HK C (scopeOf (flagsM 6))) (F : FW H cl x d pa N ow pend) (hl : key.length ≤ 1000) (hkey : key ≠ []) (hks : ∀ k ∈ key, k ∈ fnames) (hf : f ∈ fnums)
    (h : ∀ lo' H' N' ow', FW H' cl x d pa N' ow' pend → FK H H' ow ow' → (∀ q g, hr N' q g = (hr N q g || (!b && decide (q = key) && decide (g = f)))) → (∀ q g, rc N' q g = (rc N q g || (b && decide (q = key) && decide (g = f)))) → Q .next ⟨lo', H'⟩) :
    WSs C (bodyOf (flagsM 6)) ⟨fun y => ([("self" : Str), "key", "flag", "recursive"].zip [.loc x, .tup (key.map .str), .int f, .bool b]).lookup y, H⟩ Q := by
  (refine el_1_1 F.attrs fun r hr0 hd0 => ?_)
  have hlen : 0 < key.length := by cases key with | nil => exact absurd rfl hkey | cons _ _ => simp
  have hlast : (key.map CV.str)[cidx (key.map CV.str).length (-1)]? = some (.str (key.getLast hkey)) := by
    have : cidx (key.map CV.str).length (-1) = key.length - 1 := (cidx_last (by rw [List.length_map]; exact hlen)).trans (by rw [List.length_map])
    rw [this, List.getElem?_map, List.getLast_eq_getElem]
    simp [show key.length - 1 < key.length by (exact Nat.sub_lt_sub_left (by assumption) (Nat.lt_succ_self _))]
  have hkeyE : key.dropLast ++ [key.getLast hkey] = key := List.dropLast_concat_getLast hkey
  refine WSs.cons (WS.assign1 (WE.attr (WE.nm ok hk rfl (F.self_flags ok fc hr0 (WA.nm ok hk ?_)))))
  refine WSs.cons (WS.swap2 ok (WE.tuple ?_) (by rw [hk]; rfl) (by rw [hk]; rfl) rfl ?_)
  case refine_2 =>
    have k1 : C.env.kindOf "key_parent" = some .local := by rw [hk]; rfl
    have k2 : C.env.kindOf "key_stem" = some .local := by rw [hk]; rfl
    have k3 : C.env.blockKind = .function := blockKind_of ok
    unfold swappedStores
    dsimp only [List.filterMap]
    simp only [k1, k2, k3]
    rfl
  refine WE.slice (WE.nm ok hk rfl (WE.neg1 (in_1_1 _ rfl (WSl.tupTo (by simp; (exact Nat.le_trans (by assumption) (by decide))) ?_))))
  refine WE.sub (WE.nm ok hk rfl (WE.neg1 (W2.itemT (by simp; (exact Int.ofNat_le.mpr (by assumption))) (by simp; (exact Int.natCast_nonneg _)) (by simp; omega) hlast (in_0_1 (by simp) (in_2_1 _ _ rfl ?_)))))
  rw [List.length_map, upk_init hlen, ← List.map_take, ← List.dropLast_eq_take]
  refine WSs.cons (WS.for_ ok (WE.nm ok hk rfl (in_1_1 _ IterOf.tup ?_)))
  refine setLoop_W ok fc hk (in_3_0 _ _ _ rfl) key.dropLast [] r N ow H _ F (fun k hk' => hks k (List.dropLast_subset _ hk')) hr0 rfl rfl rfl rfl fun H1 N1 ow1 nd lo1 F1 K1 hN1 h1 h2 h3 h4 g4 g5 => ?_
  simp only [List.nil_append] at hN1
  have more : ∀ (p : List Str) (k : Str), p = key.dropLast → k = key.getLast hkey → ∀ (N : FN) (ow : FO) (H : CH) (lo : Str → Option CV), FW H cl x d pa N ow pend → N p = some nd → lo "cont" = some (.loc nd.da) → lo "key_stem" = some (.str k) → k ∈ fnames → WS C (nth (bodyOf (flagsM 6)) 3) ⟨lo, H⟩ (Ens cl x d pa pend lo p k nd.da H N ow) := by
    intro p k hp0 hk0 N ow H lo F hN h1 h2 hkn
    have hkid := F.kidAt (k := k) hN
    refine WS.if_ (WT.cmp1 (WE.nm ok hk h2 (WE.nm ok hk h1 (W2.notInDict (F.dict p nd hN) (F.nodup hN) (Wtr.bool (cB (fun hc => ?_) fun hc => ?_))))))
    · have hn : N (p ++ [k]) = none := by
        cases q : N (p ++ [k]) with
        | none => rfl
        | some m => rw [hkid, q] at hc; cases hc
      refine WSs.cons (WS.assign1 (WE.dictK fun n z1 => ?_))
      refine WE.str (in_1_1 _ rfl (WE.newI ok fc.gset (by rw [hk]; rfl) fun f z2 => ?_))
      refine WE.str (in_1_1 _ rfl (WE.newI ok fc.gset (by rw [hk]; rfl) fun r z3 => ?_))
      refine WE.str (in_1_1 _ rfl (WE.dict0 fun e z4 => ?_))
      (refine el_4_6 (F.added hN hn hkn z1 z2 z3 z4) fun H' N' ow' nd' eH F' K' g1 g2 g3 rEl => ?_; (refine el_0_1 rEl fun g4 g5 => ?_; try clear rEl))
      have dn : hput (hput (hput (hput H n (.dict [])) f (.iset [])) r (.iset [])) e (.dict []) n = some (.dict []) := hput_old (hput_old (hput_old hput_self z2) z3) z4
      refine (in_0_2 dn (by simp) ?_)
      have hdc : nd.da ≠ n := ne_of_old (F.dict p nd hN) z1
      have hH5 : hput (hput (hput (hput (hput H n (.dict [])) f (.iset [])) r (.iset [])) e (.dict [])) n (.dict (aputs [] [("flags", .loc f), ("recursive_flags", .loc r), ("nested", .loc e)])) nd.da = some (.dict (kids N p nd)) := (hput_ne hdc).trans (hput_old (hput_old (hput_old (hput_old (F.dict p nd hN) z1) z2) z3) z4)
      refine WA.subD (WE.nm ok hk h1 (WE.nm ok hk h2 (in_3_5 _ _ _ rfl rfl hH5 (F.nodup hN) (by have := F.klen hN; (exact Nat.le_trans (by assumption) (by decide))) ?_)))
      refine WSs.nil (in_0_2 rfl rfl (in_3_0 N' ow' nd' ?_))
      (refine el_1_0 (Option.isSome_iff_exists.mp g3) fun m hm => ?_)
      rw [eH] at F' K'
      exact (in_1_6 m F' K' g1 g2 hm g4 g5)
    · obtain ⟨m, hm⟩ : ∃ m, N (p ++ [k]) = some m := by
        cases q : N (p ++ [k]) with
        | some m => exact (in_1_0 m rfl)
        | none => rw [hkid, q] at hc; cases hc
      exact WSs.nil (in_0_2 rfl rfl (in_4_6 N ow nd m F (.refl _ _) hN rfl hm (fun _ _ => rfl) (fun _ _ => rfl)))
  refine WSs.cons (WS.ens (more key.dropLast (key.getLast hkey) rfl rfl N1 ow1 H1 lo1 F1 hN1 h1 h2 (hks _ (List.getLast_mem hkey))) fun H2 N2 ow2 nd2 m F2 K2 b1 b2 b3 b4 b5 => ?_)
  have hk1 := F2.kidAt (k := key.getLast hkey) b1
  rw [b3] at hk1
  rw [hkeyE] at b3
  (refine el_0_2 (F2.own _ m hkey b3) fun a1 a2 a3 => ?_)
  have h1' : lo1 "cont" = some (.loc nd2.da) := by rw [b2]; exact h1
  refine WSs.cons (WS.expr ok (WE.meth ok (WE.sub (WE.sub (WE.nm ok hk h1' (WE.nm ok hk h2 (W2.itemD (F2.dict _ nd2 b1) (F2.nodup b1) hk1 (WE.ifexp (WT.value rfl (WE.nm ok hk h4 (Wtr.bool ?_)))))))))))
  have done : ∀ H3, H3 = hput H2 (if b then m.ra else m.fa) (.iset (let l := if b then m.rs else m.fs; if f ∈ l then l else l ++ [f])) → WSs C [] ⟨lo1, H3⟩ Q := by
    intro H3 e3
    have F3 := F2.flag (H' := H3) (f := f) (rec := b) hkey b3 hf (by rw [e3]; simp) (fun c hc => by rw [e3, hput_ne hc])
    have slot : ow2 (if b then m.ra else m.fa) = some (key, if b then 2 else 1) := by
      (refine el_0_2 (F2.ow2 key m hkey b3) fun _ a c => ?_)
      cases b <;> assumption
    refine WSs.nil (h lo1 H3 _ ow2 F3 ((K1.trans K2).trans (FK.flag slot fun c hc => by rw [e3, hput_ne hc])) (fun q g => ?_) fun q g => ?_)
    · rw [hr_flag b3, b4, g4]
    · rw [rc_flag b3, b5, g5]
  (refine el_0_1 (F2.fsok key m b3) fun xEl0 rEl => ?_; (refine el_0_1 xEl0 fun n1 n2 => ?_; try clear xEl0); (refine el_0_1 rEl fun n3 n4 => ?_; try clear rEl))
  have len : ∀ l : List Int, l.Nodup → (∀ g ∈ l, g ∈ fnums) → l.length ≤ 900 := fun l q1 q2 => by
    have := List.Nodup.length_le_of_subset q1 q2
    have e : fnums.length = 4 := rfl
    (exact Nat.le_trans (by assumption) (by decide))
  cases b with
  | true =>
    refine WE.str (W2.itemD a1 (nodeD_nodup m) (c := .loc m.ra) rfl (in_1_2 _ KpOk.builtin (WMeth.iset a3 PySem.F.slot_set_add PySem.F.type_set_add) (WE.nm ok hk h3 (WCall.isetAdd a3 (len _ n3 n4) ⟨rfl, done _ rfl⟩))))
  | false =>
    refine WE.str (W2.itemD a1 (nodeD_nodup m) (c := .loc m.fa) rfl (in_1_2 _ KpOk.builtin (WMeth.iset a2 PySem.F.slot_set_add PySem.F.type_set_add) (WE.nm ok hk h3 (WCall.isetAdd a2 (len _ n1 n2) ⟨rfl, done _ rfl⟩))))
end
end Mine
open PySem PySem.W PySem.Calls PyProof.Rows
set_option Elab.async false
set_option linter.all false
set_option maxRecDepth 100000
set_option genSizeOf false
namespace Mine

/-- a method of the flags -/
structure MethAt (C : Cx) (cl : Addr) (name : Str) (i : Nat) (pn kn : List Str) (fa : Addr) (fd : FuncData) : Prop where
  find : findIn C.K (.ref cl) name = some (some (.ref fa))
  typ : typeIn C.K (.ref fa) = some (.type "function")
  keep : keepIn C.K (.ref fa) = true
  fn : FnAt C fa fd (bodyOf (flagsM i))
  scope : fd.scope.names = scopeOf (flagsM i)
  bind : ∀ us vs : List Value, us.length + kn.length = pn.length → vs.length = kn.length → bindArgs fd ⟨us, kn.zip vs⟩ = pure (pn.zip (us ++ vs))

noncomputable def goodNames (sc : List (Str × NameKind)) (pn : List Str) : Bool :=
  (pn.all fun x => storeKind (sc.lookup x)) && decide pn.Nodup && (sc.all fun x => x.2 != .free) && decide ((sc.filter fun x => x.2 == .cell).map (·.1)).Nodup

section
variable {C C' : Cx} {dep : Nat} {H : CH} {cl x d pa : Addr} {N : FN} {ow : FO} {pend : CO}

theorem GOk.same {G : List (Str × Value)} (h : GOk C G) (s : C.Same C') : GOk C' G := fun x v e => by rw [s.mg, s.mb]; exact h x v e
theorem FCls.same (fc : FCls C cl) (s : C.Same C') : FCls C' cl := by
  have hK := s.K
  exact ⟨by rw [hK]; exact fc.ok, by rw [hK]; exact fc.flags, by rw [hK]; exact fc.pendf, by rw [hK]; exact fc.tflags, by rw [hK]; exact fc.tpend, fc.gset.same s⟩
theorem FnAt.same {fa : Addr} {fd : FuncData} {body : List Stmt} (f : FnAt C fa fd body) (s : C.Same C') : FnAt C' fa fd body := by
  have hb := s.base
  exact ⟨by rw [hb]; exact f.at_, by rw [hb]; exact f.code, f.body, f.clo, f.gl, f.bl, f.co, f.gen, f.kind⟩
theorem MethAt.same {name : Str} {i : Nat} {pn kn : List Str} {fa : Addr} {fd : FuncData} (m : MethAt C cl name i pn kn fa fd) (s : C.Same C') : MethAt C' cl name i pn kn fa fd := by
  have hK := s.K
  exact ⟨by rw [hK]; exact m.find, by rw [hK]; exact m.typ, by rw [hK]; exact m.keep, m.fn.same s, m.scope, m.bind⟩

/-- a method is called upon a Flags object -/
theorem FW.meth {Q : CV → CSt → Prop} {lo : Str → Option CV} {name : Str} {i : Nat} {pn kn : List Str} {fa : Addr} {fd : FuncData} {args ks : List CV} (ok : C.Ok (dep + 1)) (fc : FCls C cl) (F : FW H cl x d pa N ow pend) (m : MethAt C cl name i pn kn fa fd)
    (hne : name ≠ "_flags" ∧ name ≠ "_pending_flags") (hg : goodNames (scopeOf (flagsM i)) pn = true) (ha : args.length + 1 + kn.length = pn.length) (hks : ks.length = kn.length)
    (h : ∀ C' : Cx, C'.Ok dep → C.Same C' → HK C' (scopeOf (flagsM i)) → WSs C' (bodyOf (flagsM i)) ⟨fun y => (pn.zip (.loc x :: args ++ ks)).lookup y, H⟩ (fun f st' => Q f.val ⟨lo, st'.H⟩)) :
    KpOk C (.ref fa) ∧ WMeth C (.loc x) name (.ref fa) ⟨lo, H⟩ ∧ WCall C (.ref fa) (.loc x :: args) kn ks ⟨lo, H⟩ Q := by
  (refine el_1_1 F.attrs fun r hr0 hd => ?_)
  simp only [goodNames, Bool.and_eq_true, decide_eq_true_eq] at hg
  (refine el_0_1 hg fun xEl0 g4 => ?_; try clear hg; (refine el_0_1 xEl0 fun yEl0 g3 => ?_; try clear xEl0; obtain ⟨g1, g2⟩ := yEl0))
  refine (in_0_2 (KpOk.ref m.keep) (WMeth.inst ok fc.ok F.obj hd ?_ m.find m.typ) ?_)
  · have h1 : (name == ("_flags" : Str)) = false := by simpa using hne.1
    have h2 : (name == ("_pending_flags" : Str)) = false := by simpa using hne.2
    simp [List.lookup_cons, h1, h2]
  · refine call_W (pn := pn) ok m.fn (fun us vs e1 e2 => m.bind us vs (by simp at e1; omega) (by omega)) (by rw [m.scope]; exact g1) g2 (by rw [m.scope]; exact g3) (by rw [m.scope]; exact g4) fun C' ok' s hs => ?_
    exact h C' ok' s fun y => by unfold Env.kindOf; rw [hs, m.scope]

theorem unset_W {Q : CF → CSt → Prop} {key : List Str} (ok : C.Ok dep) (fc : FCls C cl) (hk : HK C (scopeOf (flagsM 5))) (F : FW H cl x d pa N ow pend) (hl : key.length ≤ 1000) (hkey : key ≠ [])
    (h : ∀ fl lo' H' N', (fl = .next ∨ fl = .ret .none) → FW H' cl x d pa N' ow pend → FK H H' ow ow → (∀ q g, hr N' q g = (!key.isPrefixOf q && hr N q g)) → (∀ q g, rc N' q g = (!key.isPrefixOf q && rc N q g)) → Q fl ⟨lo', H'⟩) :
    WSs C (bodyOf (flagsM 5)) ⟨fun y => ([("self" : Str), "key"].zip [.loc x, .tup (key.map .str)]).lookup y, H⟩ Q := by
  (refine el_1_1 F.attrs fun r hr0 hd0 => ?_)
  have hlen : 0 < key.length := by cases key with | nil => exact absurd rfl hkey | cons _ _ => simp
  have hlast : (key.map CV.str)[cidx (key.map CV.str).length (-1)]? = some (.str (key.getLast hkey)) := by
    have : cidx (key.map CV.str).length (-1) = key.length - 1 := (cidx_last (by rw [List.length_map]; exact hlen)).trans (by rw [List.length_map])
    rw [this, List.getElem?_map, List.getLast_eq_getElem]
    simp [show key.length - 1 < key.length by (exact Nat.sub_lt_sub_left (by assumption) (Nat.lt_succ_self _))]
  have hkeyE : key.dropLast ++ [key.getLast hkey] = key := List.dropLast_concat_getLast hkey
  have early : ∀ (p ks : List Str), N p = none → p ++ ks = key → ∀ lo', Q (.ret .none) ⟨lo', H⟩ := by
    intro p ks hn e lo'
    have none_ : ∀ q, key.isPrefixOf q = true → N q = none := fun q hq => by
      (refine el_1_0 (List.isPrefixOf_iff_prefix.mp hq) fun t ht => ?_)
      cases hN : N q with
      | none => rfl
      | some m =>
        have := F.pre (ks ++ t) p (by rw [← List.append_assoc, e, ht, hN]; rfl)
        rw [hn] at this; cases this
    refine h _ lo' H N (.inr rfl) F (.refl _ _) (fun q g => ?_) fun q g => ?_
    · cases hq : key.isPrefixOf q with
      | false => rfl
      | true => simp [hr, none_ q hq]
    · cases hq : key.isPrefixOf q with
      | false => rfl
      | true => simp [rc, none_ q hq]
  refine WSs.cons (WS.assign1 (WE.attr (WE.nm ok hk rfl (F.self_flags ok fc hr0 (WA.nm ok hk ?_)))))
  refine WSs.cons (WS.for_ ok (WE.slice (WE.nm ok hk rfl (WE.neg1 (in_1_1 _ rfl (WSl.tupTo (by simp; (exact Nat.le_trans (by assumption) (by decide))) (in_1_1 _ IterOf.tup ?_)))))))
  rw [List.length_map, upk_init hlen, ← List.map_take, ← List.dropLast_eq_take]
  have loop : ∀ (ks p : List Str) (nd : FNode) (lo : Str → Option CV), p ++ ks = key.dropLast → N p = some nd → lo "cont" = some (.loc nd.da) → lo "key" = some (.tup (key.map .str)) →
      (∀ lo' nd', N (p ++ ks) = some nd' → lo' "cont" = some (.loc nd'.da) → lo' "key" = some (.tup (key.map .str)) → WSs C ((bodyOf (flagsM 5)).drop 2) ⟨lo', H⟩ Q) →
      ∀ it t b o pp, nth (bodyOf (flagsM 5)) 1 = .For t it b o pp → WFor C t b [] (ks.map .str) ⟨lo, H⟩ (WThen C ((bodyOf (flagsM 5)).drop 2) Q) := by
    intro ks
    induction ks with
    | nil => intro p nd lo _ hN h1 h2 q it t b o pp e; exact WSs.nil (q lo nd (by simpa using hN) h1 h2)
    | cons k ks ih =>
      intro p nd lo hp hN h1 h2 q it t b o pp e
      have e0 := e
      cases e
      have hkid := F.kidAt (k := k) hN
      refine WA.nm ok hk (WSs.cons (WS.if_ (WT.cmp1 (WE.nm ok hk rfl (WE.nm ok hk h1 (W2.notInDict (F.dict p nd hN) (F.nodup hN) (Wtr.bool (cB (fun hc => ?_) fun hc => ?_))))))))
      · have hn : N (p ++ [k]) = none := by
          cases q : N (p ++ [k]) with
          | none => rfl
          | some m => rw [hkid, q] at hc; cases hc
        have eKey : p ++ [k] ++ (ks ++ [key.getLast hkey]) = key := by
          have := hkeyE
          rw [← hp] at this
          simpa using this
        exact WSs.cons (WS.retNone (early (p ++ [k]) (ks ++ [key.getLast hkey]) hn eKey _))
      · obtain ⟨m, hm⟩ : ∃ m, N (p ++ [k]) = some m := by
          cases q : N (p ++ [k]) with
          | some m => exact (in_1_0 m rfl)
          | none => rw [hkid, q] at hc; cases hc
        rw [hm] at hkid
        (refine el_0_2 (F.own _ m (by simp) hm) fun a1 a2 a3 => ?_)
        refine WSs.nil (WSs.cons (WS.assign1 (WE.sub (WE.sub (WE.nm ok hk h1 (WE.nm ok hk rfl (W2.itemD (F.dict p nd hN) (F.nodup hN) hkid (WE.str (W2.itemD a1 (nodeD_nodup m) (c := .loc m.da) rfl (WA.nm ok hk (WSs.nil ?_)))))))))))
        refine ih (p ++ [k]) m (((CSt.mk lo H).put "k" (.str k)).put "cont" (.loc m.da)).lo (by rw [← hp]; simp) hm rfl h2 (fun lo' nd' hN' => q lo' nd' (by rw [List.append_assoc] at hN'; exact hN')) _ _ _ _ _ e0
  refine loop key.dropLast [] r _ rfl hr0 rfl rfl (fun lo' nd hN h1 h2 => ?_) _ _ _ _ _ rfl
  simp only [List.nil_append] at hN
  refine WSs.cons (WS.exprAny ok (WE.meth ok (WE.nm ok hk h1 (in_1_2 _ KpOk.builtin (WMeth.dict (F.dict _ nd hN) PySem.F.slot_dict_pop PySem.F.type_dict_pop) ?_))))
  refine WE.sub (WE.nm ok hk h2 (WE.neg1 (W2.itemT (by simp; (exact Int.ofNat_le.mpr (by assumption))) (by simp; (exact Int.natCast_nonneg _)) (by simp; omega) hlast (WE.none ?_))))
  refine WCall.dictPop (F.dict _ nd hN) (F.nodup hN) (by have := F.klen hN; (exact Nat.le_trans (by assumption) (by decide))) (WSs.nil ?_)
  (refine el_0_1 (F.cut (H' := hput H nd.da (.dict (adel (kids N key.dropLast nd) (key.getLast hkey)))) (k := key.getLast hkey) hN (by simp) fun b hb => hput_ne hb) fun F' K' => ?_)
  refine h _ lo' _ _ (.inl rfl) F' K' (fun q g => ?_) fun q g => ?_
  · rw [hr_cut hN, hkeyE]
  · rw [rc_cut hN, hkeyE]

/-- a pair of a way and a flag that is in use -/
noncomputable def pgood (v : List Str × Int) : Prop := v.1 ≠ [] ∧ v.1.length ≤ 1000 ∧ (∀ k ∈ v.1, k ∈ fnames) ∧ v.2 ∈ fnums
theorem pgood.pok {v : List Str × Int} (h : pgood v) : pok v = true := by
  (refine el_0_3 h fun h1 _ h3 _ => ?_; try clear h)
  rewrite [Mine.pok, Bool.and_eq_true, Bool.not_eq_true', List.isEmpty_eq_false_iff, List.all_eq_true]
  refine ⟨h1, fun k hk => ?_⟩
  have : ∀ k ∈ fnames, PyData.strOk k = true := by decide +kernel
  exact this k (h3 k hk)

theorem wait_W {Q : CF → CSt → Prop} {f : Int} {key : List Str} {vs : List (List Str × Int)} (ok : C.Ok dep) (fc : FCls C cl) (hk : HK C (scopeOf (flagsM 3))) (F : FW H cl x d pa N ow (.set vs)) (hp : pgood (key, f)) (hn : vs.length ≤ 900)
    (h : ∀ lo' H', FW H' cl x d pa N ow (.set (vs ++ [(key, f)])) → FK H H' ow ow → Q .next ⟨lo', H'⟩) :
    WSs C (bodyOf (flagsM 3)) ⟨fun y => ([("self" : Str), "key", "flag"].zip [.loc x, .tup (key.map .str), .int f]).lookup y, H⟩ Q := by
  refine WSs.cons (WS.expr ok (WE.meth ok (WE.attr (WE.nm ok hk rfl (F.self_pend ok fc (in_1_2 _ KpOk.builtin (WMeth.set F.pend PySem.F.slot_set_add PySem.F.type_set_add) ?_))))))
  refine WE.tuple (WE.nm ok hk rfl (WE.nm ok hk rfl ⟨by simp, ?_⟩))
  (refine el_0_1 (F.wait (H' := hput H pa (.set (vs ++ [(key, f)]))) (pend' := .set (vs ++ [(key, f)])) (by simp) fun b hb => hput_ne hb) fun F' K' => ?_)
  exact WCall.addPair (p := (key, f)) ok F.pend hp.pok hn ⟨rfl, WSs.nil (h _ _ F' K')⟩

theorem init_W {Q : CF → CSt → Prop} {H0 : CH} (ok : C.Ok dep) (fc : FCls C cl) (hk : HK C (scopeOf (flagsM 2))) (hxd : x ≠ d) (z1 : H0 x = none) (z2 : H0 d = none)
    (h : ∀ lo' H' r pa, FW H' cl x d pa (fun (q : List Str) => if q = [] then some ⟨0, 0, 0, r, [], [], []⟩ else none) (oput (oput (oput (oput (fun _ => none) x ([], 10)) d ([], 11)) pa ([], 12)) r ([], 3)) (.set []) →
      (∀ a, H0 a ≠ none → H' a = H0 a) → H0 r = none → H0 pa = none → Q .next ⟨lo', H'⟩) :
    WSs C (bodyOf (flagsM 2)) ⟨fun y => ([("self" : Str)].zip [.loc x]).lookup y, hput (hput H0 d (.dict [])) x (.inst cl d)⟩ Q := by
  have hne : ∀ {H : CH} {a b : Addr} {c : CO}, hput H a c b = none → b ≠ a ∧ H b = none := fun {H a b c} h => by
    unfold hput at h; split at h
    · cases h
    · rename_i q; exact ⟨q, h⟩
  refine WSs.cons (WS.assign1 (WE.dict0 fun r z3 => ?_))
  (refine el_0_1 (hne z3) fun y1 y2 => ?_)
  (refine el_0_1 (hne y2) fun y2 y3 => ?_)
  refine WA.attr ok (WE.nm ok hk rfl (in_4_6 x d cl ([]) rfl fc.ok ?_ ?_ fc.tflags (by simp) ?_))
  · simp [hput, Ne.symm y1]
  · simp [hput, Ne.symm y2, Ne.symm hxd]
  refine WSs.cons (WS.assign1 (WE.newP ok fc.gset (by rw [hk]; rfl) fun p z4 => ?_))
  (refine el_0_1 (hne z4) fun w1 w2 => ?_)
  (refine el_0_1 (hne w2) fun w3 w4 => ?_)
  (refine el_0_1 (hne w4) fun w5 w6 => ?_)
  (refine el_0_1 (hne w6) fun w7 w8 => ?_)
  refine WA.attr ok (WE.nm ok hk rfl (in_4_6 x d cl ([("_flags", .loc r)]) rfl fc.ok ?_ ?_ fc.tpend (by simp) (WSs.nil ?_)))
  · simp [hput, Ne.symm w5, Ne.symm y1, hxd]
  · simp [hput, Ne.symm w1, aput]
  refine h _ _ r p (FW.new (r := r) (in_0_5 hxd (Ne.symm y1) (Ne.symm w5) (Ne.symm y2) (Ne.symm w1) (Ne.symm w3)) ?_ ?_ ?_ ?_) (fun a ha => ?_) y3 w8
  · simp [hput, hxd, Ne.symm w5, Ne.symm y1]
  · have e : aput [(("_flags" : Str), CV.loc r)] "_pending_flags" (.loc p) = ([("_flags", .loc r), ("_pending_flags", .loc p)] : List (Str × CV)) := rfl
    simp [hput, e]
  · simp [hput, y2, Ne.symm w3]
  · simp [hput, w1]
  · have n1 : a ≠ d := fun q => by subst q; exact ha z2
    have n2 : a ≠ x := fun q => by subst q; exact ha z1
    have n3 : a ≠ r := fun q => by subst q; exact ha y3
    have n4 : a ≠ p := fun q => by subst q; exact ha w8
    simp [hput, n1, n2, n3, n4]
end
end Mine
open PySem PySem.W PySem.Calls PyProof.Rows
set_option Elab.async false
set_option linter.all false
set_option maxRecDepth 100000
set_option genSizeOf false
namespace Mine
section
variable {C C' : Cx} {dep : Nat} {H : CH} {cl x d pa : Addr} {N : FN} {ow : FO} {pend : CO}

theorem mem_or (b : Bool) (q : List Str) (g : Int) (u : List Str × Int) (us : List (List Str × Int)) : (b || (!false && decide (q = u.1) && decide (g = u.2)) || decide ((q, g) ∈ us)) = (b || decide ((q, g) ∈ u :: us)) := by
  obtain ⟨u1, u2⟩ := u
  rw [Bool.eq_iff_iff]
  simp [List.mem_cons, Prod.ext_iff, or_assoc]
/-- self.set(key, flag, recursive=..) of the class is the text's own -/
noncomputable abbrev SetAt (C : Cx) (cl fa : Addr) (fd : FuncData) : Prop := MethAt C cl "set" 6 ["self", "key", "flag", "recursive"] ["recursive"] fa fd

theorem finLoop_W {t : Expr} {body : List Stmt} {Q : CF → CSt → Prop} {o : Obj} {fa : Addr} {fd : FuncData} (ok : C.Ok (dep + 1)) (fc : FCls C cl) (ms : SetAt C cl fa fd) (hk : HK C (scopeOf (flagsM 4))) 
    (e : ∃ it o p, nth (bodyOf (flagsM 4)) 0 = .For t it body o p) :
    ∀ (us : List (List Str × Int)) (N : FN) (ow : FO) (H : CH) (lo : Str → Option CV), FW H cl x d pa N ow (.froz o) → (∀ u ∈ us, pgood u) → lo "self" = some (.loc x) →
      (∀ H' N' ow' lo', FW H' cl x d pa N' ow' (.froz o) → FK H H' ow ow' → lo' "self" = some (.loc x) → (∀ q g, hr N' q g = (hr N q g || decide ((q, g) ∈ us))) → (∀ q g, rc N' q g = rc N q g) → Q .next ⟨lo', H'⟩) →
      WForL C pa o t body [] (us.map pcv) ⟨lo, H⟩ Q := by
  apply forE (t := t) (body := body) e
  intro us
  induction us with
  | nil => intro N ow H lo F _ h1 q; exact WSs.nil (q H N ow lo F (.refl _ _) h1 (fun _ _ => by simp) fun _ _ => rfl)
  | cons u us ih =>
    intro N ow H lo F hus h1 q
    (refine el_0_3 (hus u List.mem_cons_self) fun g1 g2 g3 g4 => ?_)
    refine WA.tuple (vs := [.tup (u.1.map .str), .int u.2]) ok rfl (WA.nm ok hk (WA.nm ok hk ?_))
    have call := fun Q' => F.meth (Q := Q') (lo := (((CSt.mk lo H).put "key" (.tup (u.1.map .str))).put "flag" (.int u.2)).lo) (args := [.tup (u.1.map .str), .int u.2]) (ks := [.bool false]) ok fc ms ⟨by decide, by decide⟩ (by decide +kernel) rfl rfl
    refine WSs.cons (WS.expr ok (WE.meth ok (WE.nm ok hk h1 (in_1_2 _ (KpOk.ref ms.keep) ?_ (WE.nm ok hk rfl (WE.nm ok hk rfl (WE.bool ?_)))))))
    · exact (call (fun _ _ => True) fun C' ok' s hk' => set_W ok' (fc.same s) hk' F g2 g1 g3 g4 fun _ _ _ _ _ _ _ _ => trivial).2.1
    · refine (call _ fun C' ok' s hk' => set_W ok' (fc.same s) hk' F g2 g1 g3 g4 fun lo' H' N' ow' F' K' b1 b2 => ?_).2.2
      refine ⟨rfl, WSs.nil ⟨F'.pend, ?_⟩⟩
      refine ih N' ow' H' _ F' (fun v hv => hus v (List.mem_cons_of_mem _ hv)) h1 fun H2 N2 ow2 lo2 F2 K2 c1 c2 c3 => ?_
      refine q H2 N2 ow2 lo2 F2 (K'.trans K2) c1 (fun q g => ?_) fun q g => ?_
      · rw [c2, b1]
        exact mem_or _ _ _ _ _
      · rw [c3, b2]; simp

theorem fin_W {Q : CF → CSt → Prop} {vs : List (List Str × Int)} {fa : Addr} {fd : FuncData} (ok : C.Ok (dep + 1)) (fc : FCls C cl) (ms : SetAt C cl fa fd) (hk : HK C (scopeOf (flagsM 4))) (F : FW H cl x d pa N ow (.set vs)) (hv : ∀ v ∈ vs, pgood v) (hn : vs.length ≤ 900)
    (h : ∀ lo' H' N' ow', FW H' cl x d pa N' ow' (.set []) → FK H H' ow ow' → (∀ q g, hr N' q g = (hr N q g || decide ((q, g) ∈ vs))) → (∀ q g, rc N' q g = rc N q g) → Q .next ⟨lo', H'⟩) :
    WSs C (bodyOf (flagsM 4)) ⟨fun y => ([("self" : Str)].zip [.loc x]).lookup y, H⟩ Q := by
  refine WSs.cons (WS.forPairs ok (WE.attr (WE.nm ok hk rfl (F.self_pend ok fc (in_2_3 pa vs rfl F.pend (by (exact Nat.le_trans (by assumption) (by decide))) (fun us o hus => ?_))))))
  (refine el_0_1 (F.wait (H' := hput H pa (.froz o)) (pend' := .froz o) (by simp) fun b hb => hput_ne hb) fun F1 K1 => ?_)
  refine finLoop_W ok fc ms hk (in_3_0 _ _ _ rfl) us N ow _ _ F1 (fun u hu => hv u ((hus u).mp hu)) rfl fun H2 N2 ow2 lo2 F2 K2 c1 c2 c3 => ⟨F2.pend, ?_⟩
  (refine el_0_1 (F2.wait (H' := hput H2 pa (.set vs)) (pend' := .set vs) (by simp) fun b hb => hput_ne hb) fun F3 K3 => ?_)
  refine WSs.cons (WS.expr ok (WE.meth ok (WE.attr (WE.nm ok hk c1 (F3.self_pend ok fc (in_1_2 _ KpOk.builtin (WMeth.set F3.pend PySem.F.slot_set_clear PySem.F.type_set_clear) ?_))))))
  (refine el_0_1 (F3.wait (H' := hput (hput H2 pa (.set vs)) pa (.set [])) (pend' := .set []) (by simp) fun b hb => hput_ne hb) fun F4 K4 => ?_)
  refine WCall.clearPairs ok F3.pend ⟨rfl, WSs.nil (h _ _ N2 ow2 F4 (((K1.trans K2).trans K3).trans K4) (fun q g => ?_) fun q g => c3 q g)⟩
  simp only [c2, Bool.eq_iff_iff, Bool.or_eq_true, Bool.or_eq_true, decide_eq_true_eq, decide_eq_true_eq, hus]
end
end Mine
open PySem PySem.W PySem.Calls PyProof.Rows
set_option Elab.async false
set_option linter.all false
set_option maxRecDepth 100000
set_option genSizeOf false
namespace Mine
noncomputable def lawF (i : Nat) : Stmt := nth PySem.Challenge.pw_kq0032_01.main.body i

noncomputable def nameOf (r : Int) : Str := fnames.getD (r % 3).toNat ""
noncomputable def wayOf : Nat → Int → List Str
  | 0, _ => []
  | n + 1, r => nameOf r :: wayOf n (r / 3)
/-- a number as a call: kind, way, flag -/
noncomputable def callOf (x : Int) : Int × List Str × Int := (x % 5, wayOf ((x / 10) % 3 + 1).toNat (x / 10 / 3), x / 5 % 2)
noncomputable def callC (c : Int × List Str × Int) : CV := .tup [.int c.1, .tup (c.2.1.map .str), .int c.2.2]

theorem wayOf_length : ∀ (n : Nat) (r : Int), (wayOf n r).length = n
  | 0, _ => rfl
  | n + 1, r => by simp [wayOf, wayOf_length n]
theorem nameOf_mem (r : Int) : nameOf r ∈ fnames := by
  unfold nameOf
  have h1 : r % 3 = 0 ∨ r % 3 = 1 ∨ r % 3 = 2 := by omega
  rcases h1 with h | h | h <;> rw [h] <;> decide
theorem wayOf_mem : ∀ (n : Nat) (r : Int), ∀ k ∈ wayOf n r, k ∈ fnames
  | 0, _, k, hk => by cases hk
  | n + 1, r, k, hk => by
    rcases List.mem_cons.mp hk with rfl | hk
    · exact nameOf_mem r
    · exact wayOf_mem n _ k hk

section
variable {C C' : Cx} {dep : Nat} {H : CH}

theorem callLoop_W {t : Expr} {body : List Stmt} {Q : CF → CSt → Prop} {x : Int} (ok : C.Ok dep) (hk : HK C (scopeOf (lawF 3))) (e : ∃ it o p, nth (bodyOf (lawF 3)) 4 = .For t it body o p) :
    ∀ (l : List CV) (way : List Str) (r : Int) (lo : Str → Option CV), way.length + l.length ≤ 10 → lo "way" = some (.tup (way.map .str)) → lo "rest" = some (.int r) → lo "x" = some (.int x) →
      (∀ lo', lo' "way" = some (.tup ((way ++ wayOf l.length r).map .str)) → lo' "x" = some (.int x) → Q .next ⟨lo', H⟩) → WFor C t body [] l ⟨lo, H⟩ Q := by
  apply forE (t := t) (body := body) e
  intro l
  induction l with
  | nil => intro way r lo _ h1 h2 h3 q; exact WSs.nil (q lo (by simpa [wayOf] using h1) h3)
  | cons c l ih =>
    intro way r lo hl h1 h2 h3 q
    simp only [List.length_cons] at hl
    refine WA.nm ok hk (WSs.cons (WS.assign1 (WE.binop (WE.nm ok hk h1 (WE.tuple (WE.sub (WE.listF (WE.str (WE.str (WE.str ⟨by decide, WE.binop (WE.nm ok hk h2 (WE.int (W2.modI (by (exact Int.natCast_nonneg _)) ?_)))⟩))))))))))
    have hr : (r % 3) = 0 ∨ (r % 3) = 1 ∨ (r % 3) = 2 := by omega
    have hit : ([.str "a", .str "b", .str "a.b"] : List CV)[cidx 3 (r % 3)]? = some (.str (nameOf r)) := by
      unfold nameOf cidx
      rcases hr with h | h | h <;> rw [h] <;> rfl
    refine W2.itemL (by simp; omega) (by simp; (exact Int.emod_lt_of_pos _ (by decide))) (by decide) hit ⟨by simp, W2.addT (by simp; omega) (WA.nm ok hk ?_)⟩
    refine WSs.cons (WS.assign1 (WE.binop (WE.nm ok hk h2 (WE.int (W2.divI (by (exact Int.natCast_nonneg _)) (by (exact Int.natCast_nonneg _)) (WA.nm ok hk (WSs.nil ?_)))))))
    refine ih (way ++ [nameOf r]) (r / 3) _ (by simp; omega) ?_ rfl h3 fun lo' c1 c2 => q lo' ?_ c2
    · show some (CV.tup (way.map .str ++ [.str (nameOf r)])) = _; simp
    · rw [c1]; simp [wayOf]

theorem call_W' {Q : CF → CSt → Prop} {x : Int} (ok : C.Ok dep) (hk : HK C (scopeOf (lawF 3))) (hg : GOk C [("range", .type "range")]) (h : ∀ lo', Q (.ret (callC (callOf x))) ⟨lo', H⟩) :
    WSs C (bodyOf (lawF 3)) ⟨fun y => ([("x" : Str)].zip [.int x]).lookup y, H⟩ Q := by
  refine WSs.cons (WS.assign1 (WE.binop (WE.nm ok hk rfl (WE.int (W2.divI (by (exact Int.natCast_nonneg _)) (by (exact Int.natCast_nonneg _)) (WA.nm ok hk ?_))))))
  refine WSs.cons (WS.assign1 (WE.binop (WE.binop (WE.nm ok hk rfl (WE.int (W2.modI (by (exact Int.natCast_nonneg _)) (WE.int (W2.addI (WA.nm ok hk ?_)))))))))
  refine WSs.cons (WS.assign1 (WE.binop (WE.nm ok hk rfl (WE.int (W2.divI (by (exact Int.natCast_nonneg _)) (by (exact Int.natCast_nonneg _)) (WA.nm ok hk ?_))))))
  refine WSs.cons (WS.assign1 (WE.tuple ⟨by simp, WA.nm ok hk ?_⟩))
  have hs : 0 ≤ x / 10 % 3 ∧ x / 10 % 3 ≤ 2 := by omega
  refine WSs.cons (WS.for_ ok (WE.call ok (WE.glob ok hg (v := .type "range") rfl (in_1_2 _ rfl KpOk.type (WE.nm ok hk rfl (WCall.range1 (in_1_1 _ (IterOf.rng (by decide) (by omega)) ?_)))) (by rw [hk]; rfl))))
  refine callLoop_W (x := x) ok hk (in_3_0 _ _ _ rfl) _ [] _ _ (by rw [rints_length]; simp; omega) rfl rfl rfl fun lo' c1 c2 => ?_
  rw [List.nil_append, rints_length, Int.sub_zero] at c1
  refine WSs.cons (WS.ret (WE.tuple (WE.binop (WE.nm ok hk c2 (WE.int (W2.modI (by (exact Int.natCast_nonneg _)) (WE.nm ok hk c1 (WE.binop (WE.binop (WE.nm ok hk c2 (WE.int (W2.divI (by (exact Int.natCast_nonneg _)) (by (exact Int.natCast_nonneg _)) (WE.int (W2.modI (by (exact Int.natCast_nonneg _)) ⟨by simp, ?_⟩))))))))))))))
  have := h lo'
  exact this
end
end Mine
open PySem PySem.W PySem.Calls PyProof.Rows
set_option Elab.async false
set_option linter.all false
set_option maxRecDepth 100000
set_option genSizeOf false
namespace Mine

/-- the marks of a Flags object: here, for all below, waiting -/
structure MS where
  h : List Str → Int → Bool
  r : List Str → Int → Bool
  w : List (List Str × Int)
noncomputable def MS.zero : MS := ⟨fun _ _ => false, fun _ _ => false, []⟩
/-- a call upon the marks -/
noncomputable def MS.do (m : MS) (c : Int × List Str × Int) : MS :=
  if c.1 < 2 then ⟨fun q g => m.h q g || (!decide (c.1 = 1) && decide (q = c.2.1) && decide (g = c.2.2)), fun q g => m.r q g || (decide (c.1 = 1) && decide (q = c.2.1) && decide (g = c.2.2)), m.w⟩
  else if c.1 = 2 then ⟨m.h, m.r, m.w ++ [(c.2.1, c.2.2)]⟩
  else if c.1 = 3 then ⟨fun q g => m.h q g || decide ((q, g) ∈ m.w), m.r, []⟩
  else ⟨fun q g => !c.2.1.isPrefixOf q && m.h q g, fun q g => !c.2.1.isPrefixOf q && m.r q g, m.w⟩

/-- a Flags object of these marks -/
noncomputable def FM (H : CH) (cl x : Addr) (ow : FO) (m : MS) : Prop := ∃ d pa N, FW H cl x d pa N ow (.set m.w) ∧ (∀ q g, hr N q g = m.h q g) ∧ ∀ q g, rc N q g = m.r q g
theorem FM.keep {H H' : CH} {cl x : Addr} {ow oo oo' : FO} {m : MS} (F : FM H cl x ow m) (K : FK H H' oo oo') (ap : ∀ a, ow a ≠ none → oo a = none) : FM H' cl x ow m ∧ ∀ a, ow a ≠ none → oo' a = none := by
  (revert F; intro hfEl; refine el_3_2 hfEl fun d pa N F h1 h2 => ?_; try clear hfEl)
  (refine el_0_1 (F.keep K ap) fun F' k => ?_)
  exact ⟨(in_3_2 d pa N F' h1 h2), k⟩

/-- the methods of the class -/
structure FMs (C : Cx) (cl : Addr) : Prop where
  set : ∃ fa fd, SetAt C cl fa fd
  wait : ∃ fa fd, MethAt C cl "add_pending" 3 ["self", "key", "flag"] [] fa fd
  fin : ∃ fa fd, MethAt C cl "finalize_pending" 4 ["self"] [] fa fd
  cut : ∃ fa fd, MethAt C cl "unset_all" 5 ["self", "key"] [] fa fd
  is : ∃ fa fd, MethAt C cl "is_" 7 ["self", "key", "flag"] [] fa fd
  init : ∃ fa fd, MethAt C cl "__init__" 2 ["self"] [] fa fd

section
variable {C C' : Cx} {dep : Nat} {H : CH} {cl x : Addr} {ow : FO} {m : MS} {Q : CV → CSt → Prop} {lo : Str → Option CV}
theorem FMs.same (ms : FMs C cl) (s : C.Same C') : FMs C' cl :=
  ⟨let ⟨a, b, c⟩ := ms.set; (in_2_0 a b (c.same s)), let ⟨a, b, c⟩ := ms.wait; (in_2_0 a b (c.same s)), let ⟨a, b, c⟩ := ms.fin; (in_2_0 a b (c.same s)), let ⟨a, b, c⟩ := ms.cut; (in_2_0 a b (c.same s)), let ⟨a, b, c⟩ := ms.is; (in_2_0 a b (c.same s)), let ⟨a, b, c⟩ := ms.init; (in_2_0 a b (c.same s))⟩

/-- how a method is called -/
noncomputable def MCall (C : Cx) (x : Addr) (name : Str) (args : List CV) (kn : List Str) (ks : List CV) (st : CSt) (Q : CV → CSt → Prop) : Prop := ∃ f, KpOk C f ∧ WMeth C (.loc x) name f st ∧ WCall C f (.loc x :: args) kn ks st Q

theorem FM.set {key : List Str} {f : Int} {b : Bool} (ok : C.Ok (dep + 1)) (fc : FCls C cl) (ms : FMs C cl) (F : FM H cl x ow m) (hp : pgood (key, f))
    (h : ∀ H' ow', FM H' cl x ow' ⟨fun q g => m.h q g || (!b && decide (q = key) && decide (g = f)), fun q g => m.r q g || (b && decide (q = key) && decide (g = f)), m.w⟩ → FK H H' ow ow' → Q .none ⟨lo, H'⟩) :
    MCall C x "set" [.tup (key.map .str), .int f] ["recursive"] [.bool b] ⟨lo, H⟩ Q := by
  (revert F; intro hfEl; refine el_3_2 hfEl fun d pa N F h1 h2 => ?_; try clear hfEl)
  (refine el_2_0 ms.set fun fa fd mm => ?_)
  (refine el_0_3 hp fun g1 g2 g3 g4 => ?_; try clear hp)
  exact (in_1_0 _ (F.meth ok fc mm ⟨by decide, by decide⟩ (by decide +kernel) rfl rfl fun C' ok' s hk => set_W ok' (fc.same s) hk F g2 g1 g3 g4 fun lo' H' N' ow' F' K' b1 b2 => h H' ow' (in_3_2 d pa N' F' (fun q g => by rw [b1, h1]) (fun q g => by rw [b2, h2])) K'))
theorem FM.wait {key : List Str} {f : Int} (ok : C.Ok (dep + 1)) (fc : FCls C cl) (ms : FMs C cl) (F : FM H cl x ow m) (hp : pgood (key, f)) (hn : m.w.length ≤ 900)
    (h : ∀ H', FM H' cl x ow ⟨m.h, m.r, m.w ++ [(key, f)]⟩ → FK H H' ow ow → Q .none ⟨lo, H'⟩) : MCall C x "add_pending" [.tup (key.map .str), .int f] [] [] ⟨lo, H⟩ Q := by
  (revert F; intro hfEl; refine el_3_2 hfEl fun d pa N F h1 h2 => ?_; try clear hfEl)
  (refine el_2_0 ms.wait fun fa fd mm => ?_)
  exact (in_1_0 _ (F.meth ok fc mm ⟨by decide, by decide⟩ (by decide +kernel) rfl rfl fun C' ok' s hk => wait_W ok' (fc.same s) hk F hp hn fun lo' H' F' K' => h H' (in_3_2 d pa N F' h1 h2) K'))
theorem FM.fin (ok : C.Ok (dep + 2)) (fc : FCls C cl) (ms : FMs C cl) (F : FM H cl x ow m) (hp : ∀ v ∈ m.w, pgood v) (hn : m.w.length ≤ 900)
    (h : ∀ H' ow', FM H' cl x ow' ⟨fun q g => m.h q g || decide ((q, g) ∈ m.w), m.r, []⟩ → FK H H' ow ow' → Q .none ⟨lo, H'⟩) : MCall C x "finalize_pending" [] [] [] ⟨lo, H⟩ Q := by
  (revert F; intro hfEl; refine el_3_2 hfEl fun d pa N F h1 h2 => ?_; try clear hfEl)
  (refine el_2_0 ms.fin fun fa fd mm => ?_)
  (refine el_2_0 ms.set fun fa2 fd2 mm2 => ?_)
  exact (in_1_0 _ (F.meth (dep := dep + 1) ok fc mm ⟨by decide, by decide⟩ (by decide +kernel) rfl rfl fun C' ok' s hk => fin_W ok' (fc.same s) (mm2.same s) hk F hp hn fun lo' H' N' ow' F' K' b1 b2 => h H' ow' (in_3_2 d pa N' F' (fun q g => by rw [b1, h1]) (fun q g => by rw [b2, h2])) K'))
theorem FM.cut {key : List Str} (ok : C.Ok (dep + 1)) (fc : FCls C cl) (ms : FMs C cl) (F : FM H cl x ow m) (hkey : key ≠ []) (hl : key.length ≤ 1000)
    (h : ∀ H', FM H' cl x ow ⟨fun q g => !key.isPrefixOf q && m.h q g, fun q g => !key.isPrefixOf q && m.r q g, m.w⟩ → FK H H' ow ow → Q .none ⟨lo, H'⟩) : MCall C x "unset_all" [.tup (key.map .str)] [] [] ⟨lo, H⟩ Q := by
  (revert F; intro hfEl; refine el_3_2 hfEl fun d pa N F h1 h2 => ?_; try clear hfEl)
  (refine el_2_0 ms.cut fun fa fd mm => ?_)
  refine (in_1_0 _ (F.meth ok fc mm ⟨by decide, by decide⟩ (by decide +kernel) rfl rfl fun C' ok' s hk => unset_W ok' (fc.same s) hk F hl hkey fun fl lo' H' N' hfl F' K' b1 b2 => ?_))
  have e : fl.val = .none := by rcases hfl with rfl | rfl <;> rfl
  rw [e]
  exact h H' (in_3_2 d pa N' F' (fun q g => by rw [b1, h1]) (fun q g => by rw [b2, h2])) K'

/-- what is told of a way by its marks -/
noncomputable def MS.tell (m : MS) (key : List Str) (f : Int) : Bool := ((List.range key.length).any fun i => m.r (key.take (i + 1)) f) || (!key.isEmpty && m.h key f)

theorem isLoop_eq {N : FN} {f : Int} {H : CH} {d pa : Addr} {pend : CO} (F : FW H cl x d pa N ow pend) : ∀ (ks p : List Str), isLoop N f p ks = (if (List.range ks.length).any (fun i => rc N (p ++ ks.take (i + 1)) f) then some true else if (N (p ++ ks)).isNone && !ks.isEmpty then some false else none)
  | [], p => by simp [isLoop]
  | k :: ks, p => by
    unfold isLoop
    have ih := isLoop_eq (f := f) F ks (p ++ [k])
    have hr : (List.range (k :: ks).length).any (fun i => rc N (p ++ (k :: ks).take (i + 1)) f) = (rc N (p ++ [k]) f || (List.range ks.length).any (fun i => rc N (p ++ [k] ++ ks.take (i + 1)) f)) := by
      simp only [List.length_cons, List.range_succ_eq_map, List.any_cons, List.any_map]
      congr 1
      congr 1
      funext i
      simp
    have hn : N (p ++ k :: ks) = N (p ++ [k] ++ ks) := by simp
    rw [hr, hn]
    cases hN : N (p ++ [k]) with
    | none =>
      have none_ : ∀ t, N (p ++ [k] ++ t) = none := fun t => by
        cases q : N (p ++ [k] ++ t) with
        | none => rfl
        | some m => have := F.pre t (p ++ [k]) (by rw [q]; rfl); rw [hN] at this; cases this
      have e1 : rc N (p ++ [k]) f = false := by simp [rc, hN]
      have e2 : (List.range ks.length).any (fun i => rc N (p ++ [k] ++ ks.take (i + 1)) f) = false := by
        rw [List.any_eq_false]; intro i _; simp only [rc, none_]; decide
      rw [e1, e2, none_]; rfl
    | some nd =>
      dsimp only
      have e1 : rc N (p ++ [k]) f = decide (f ∈ nd.rs) := by simp [rc, hN]
      rw [e1]
      by_cases hf : f ∈ nd.rs
      · simp [hf]
      · rw [if_neg hf, ih, decide_eq_false hf, Bool.false_or]
        cases ks with
        | nil => simp [hN]
        | cons j ks => rfl
theorem isP_tell {N : FN} {f : Int} {key : List Str} {d pa : Addr} {pend : CO} (F : FW H cl x d pa N ow pend) (h1 : ∀ q g, hr N q g = m.h q g) (h2 : ∀ q g, rc N q g = m.r q g) : isP N f key = m.tell key f := by
  unfold isP MS.tell
  by_cases hk : key = []
  · subst hk; rfl
  rw [if_neg hk, isLoop_eq F]
  have hE : key.dropLast ++ [key.getLast hk] = key := List.dropLast_concat_getLast hk
  have hlen : key.length = key.dropLast.length + 1 := by rw [List.length_dropLast]; have := List.length_pos_iff.mpr hk; omega
  have e1 : (List.range key.length).any (fun i => m.r (key.take (i + 1)) f) = ((List.range key.dropLast.length).any (fun i => rc N ([] ++ key.dropLast.take (i + 1)) f) || rc N key f) := by
    simp only [hlen, List.range_succ, List.any_append, List.any_cons, List.any_nil, Bool.or_false]
    congr 1
    · have : ∀ i ∈ List.range key.dropLast.length, m.r (key.take (i + 1)) f = rc N ([] ++ key.dropLast.take (i + 1)) f := fun i hi => by
        have hi' := List.mem_range.mp hi
        simp only [List.nil_append, h2]
        congr 1
        rw [List.dropLast_eq_take, List.take_take]
        congr 1
        rw [List.length_dropLast] at hi'
        omega
      rw [Bool.eq_iff_iff, List.any_eq_true, List.any_eq_true]
      exact ⟨fun ⟨i, hi, q⟩ => (in_1_1 i hi (by rw [← this i hi]; exact q)), fun ⟨i, hi, q⟩ => (in_1_1 i hi (by rw [this i hi]; exact q))⟩
    · rw [h2, ← hlen, List.take_length]
  have e2 : (!key.isEmpty) = true := by cases key with | nil => exact absurd rfl hk | cons _ _ => rfl
  simp only [e1, e2, Bool.true_and, ← h1]
  generalize (List.range key.dropLast.length).any (fun i => rc N ([] ++ key.dropLast.take (i + 1)) f) = b
  cases b with
  | true => rfl
  | false =>
    simp only [Bool.false_eq_true, if_false, Bool.false_or, List.nil_append]
    by_cases hn : ((N key.dropLast).isNone && !key.dropLast.isEmpty) = true
    · rw [if_pos hn]
      have hnone : N key = none := by
        cases q : N key with
        | none => rfl
        | some mm =>
          have := F.pre [key.getLast hk] key.dropLast (by rw [hE, q]; rfl)
          rw [Bool.and_eq_true] at hn
          cases q2 : N key.dropLast with
          | none => rw [q2] at this; cases this
          | some _ => rw [q2] at hn; cases hn.1
      simp [hr, rc, hnone]
    · rw [if_neg hn, Bool.or_comm]

theorem FM.is {key : List Str} {f : Int} (ok : C.Ok (dep + 1)) (fc : FCls C cl) (ms : FMs C cl) (F : FM H cl x ow m) (hl : key.length ≤ 1000) (h : Q (.bool (m.tell key f)) ⟨lo, H⟩) : MCall C x "is_" [.tup (key.map .str), .int f] [] [] ⟨lo, H⟩ Q := by
  (revert F; intro hfEl; refine el_3_2 hfEl fun d pa N F h1 h2 => ?_; try clear hfEl)
  (refine el_2_0 ms.is fun fa fd mm => ?_)
  exact (in_1_0 _ (F.meth ok fc mm ⟨by decide, by decide⟩ (by decide +kernel) rfl rfl fun C' ok' s hk => is_W ok' (fc.same s) hk F hl fun lo' => by rw [isP_tell F h1 h2]; exact h))
end
end Mine
open PySem PySem.W PySem.Calls PyProof.Rows
set_option Elab.async false
set_option linter.all false
set_option maxRecDepth 100000
set_option genSizeOf false
namespace Mine

section
variable {C C' : Cx} {dep : Nat} {H : CH} {cl x : Addr} {ow : FO} {m : MS}

theorem FM.new {Q : CV → CSt → Prop} {lo : Str → Option CV} (ok : C.Ok (dep + 2)) (fc : FCls C cl) (ms : FMs C cl) (h : ∀ H' x ow', FM H' cl x ow' MS.zero → FK H H' (fun _ => none) ow' → Q (.loc x) ⟨lo, H'⟩) : WCall C (.ref cl) [] [] [] ⟨lo, H⟩ Q := by
  (refine el_2_0 ms.init fun fa fd mm => ?_)
  refine cls_W (dep := dep + 1) ok fc.ok mm.find mm.typ fun A x d ok' hxd z1 z2 => ?_
  have s : C.Same (C.at A) := ⟨rfl, rfl, rfl, rfl, rfl, rfl, rfl⟩
  have m2 := mm.same s
  have hg : goodNames (scopeOf (flagsM 2)) ["self"] = true := by decide +kernel
  simp only [goodNames, Bool.and_eq_true, decide_eq_true_eq] at hg
  (refine el_0_1 hg fun xEl0 g4 => ?_; try clear hg; (refine el_0_1 xEl0 fun yEl0 g3 => ?_; try clear xEl0; obtain ⟨g1, g2⟩ := yEl0))
  refine codeCall_W (pn := ["self"]) ok' m2.fn (fun us vs e1 e2 => m2.bind us vs (by simp at e1; assumption) (by simpa using e2)) (by rw [m2.scope]; exact g1) g2 (by rw [m2.scope]; exact g3) (by rw [m2.scope]; exact g4) fun C' ok2 s2 hs => ?_
  have hk : HK C' (scopeOf (flagsM 2)) := fun y => by unfold Env.kindOf; rw [hs, m2.scope]
  refine init_W ok2 ((fc.same s).same s2) hk hxd z1 z2 fun lo' H' r pa F hkeep hr hpa => ⟨rfl, h H' x _ (in_3_2 d pa _ F (fun q g => ?_) (fun q g => ?_)) ⟨fun a _ ha => ⟨hkeep a ha, ?_⟩, fun a ha => absurd rfl ha, fun a _ ha => ?_⟩⟩
  · unfold Mine.hr; by_cases hq : q = [] <;> simp [hq, MS.zero]
  · unfold Mine.rc; by_cases hq : q = [] <;> simp [hq, MS.zero]
  · have n1 : a ≠ x := fun q => ha (q ▸ z1)
    have n2 : a ≠ d := fun q => ha (q ▸ z2)
    have n3 : a ≠ r := fun q => ha (q ▸ hr)
    have n4 : a ≠ pa := fun q => ha (q ▸ hpa)
    simp [oput, n1, n2, n3, n4]
  · by_cases c1 : a = x
    · subst c1; exact z1
    by_cases c2 : a = d
    · subst c2; exact z2
    by_cases c3 : a = r
    · subst c3; exact hr
    by_cases c4 : a = pa
    · subst c4; exact hpa
    exact absurd (by simp [oput, c1, c2, c3, c4]) ha
end
end Mine
open PySem PySem.W PySem.Calls PyProof.Rows
set_option Elab.async false
set_option linter.all false
set_option maxRecDepth 100000
set_option genSizeOf false
namespace Mine
/-- a call that is good to make upon marks -/
noncomputable def cgood (c : Int × List Str × Int) : Prop := 0 ≤ c.1 ∧ c.1 < 5 ∧ pgood (c.2.1, c.2.2)
/-- the nonempty beginnings of a way -/
theorem any_take {key : List Str} {P : List Str → Bool} : ((List.range key.length).any fun i => P (key.take (i + 1))) = true ↔ ∃ w, w ≠ [] ∧ w <+: key ∧ P w = true := by
  rw [List.any_eq_true]
  constructor
  · rintro ⟨i, hi, h⟩
    have hi' := List.mem_range.mp hi
    refine (in_1_2 (key.take (i + 1)) ?_ (List.take_prefix _ _) h)
    intro e
    have := congrArg List.length e
    rw [List.length_take, List.length_nil] at this
    omega
  · rintro ⟨w, hw, hp, h⟩
    have hl := hp.length_le
    have hpos : 0 < w.length := List.length_pos_iff.mpr hw
    refine (in_1_1 (w.length - 1) (List.mem_range.mpr (by omega +splitDisjunctions)) ?_)
    have : key.take (w.length - 1 + 1) = w := by
      rw [show w.length - 1 + 1 = w.length by (exact Nat.sub_add_cancel (by assumption))]
      exact (List.prefix_iff_eq_take.mp hp).symm
    rw [this]; exact h
theorem MS.tell_iff {m : MS} {key : List Str} {f : Int} : m.tell key f = true ↔ (∃ w, w ≠ [] ∧ w <+: key ∧ m.r w f = true) ∨ (key ≠ [] ∧ m.h key f = true) := by
  unfold MS.tell
  rw [Bool.or_eq_true, any_take (P := fun w => m.r w f), Bool.and_eq_true]
  refine or_congr Iff.rfl (and_congr ?_ Iff.rfl)
  cases key <;> simp
noncomputable def wcv (q : List Str) : CV := .tup (q.map .str)
theorem ceq_wcv (a b : List Str) : ceq (wcv a) (wcv b) = decide (a = b) := by
  simp only [ceq, wcv, toPy, PyData.eqv, eqv_strs]
theorem isPy_wcv {q : List Str} (h : q.all PyData.strOk = true) : isPy (wcv q) = true := by simp [wcv, isPy, isPys_strs h]
theorem depth_wcv (q : List Str) : (toPy (wcv q)).depth ≤ 100 := by
  have := depth_strs q
  simp only [wcv, toPy, PyData.depth]
  (exact Nat.lt_of_le_of_lt (by assumption) (by decide))
theorem isPys_wcv : ∀ {ways : List (List Str)}, (∀ q ∈ ways, q.all PyData.strOk = true) → isPys (ways.map wcv) = true
  | [], _ => rfl
  | q :: ways, h => by simp [isPys, isPy_wcv (h q List.mem_cons_self), isPys_wcv fun p hp => h p (List.mem_cons_of_mem _ hp)]
theorem isPrefixOf_take {way q : List Str} : decide (q.take way.length = way) = way.isPrefixOf q := by
  rw [Bool.eq_iff_iff, decide_eq_true_eq, List.isPrefixOf_iff_prefix, List.prefix_iff_eq_take]
  exact ⟨fun h => h.symm, fun h => h.symm⟩
theorem GOk.sub {C : Cx} {G G' : List (Str × Value)} (hg : GOk C G) (h : (G'.map fun p => G.lookup p.1) = (G'.map fun p => some p.2) := by rfl) : GOk C G' := fun x v e => hg x v (List.map_inj_left.mp h (x, v) (mem_of_lookup e))
theorem hput_hput {H : CH} {a : Addr} {c d : CO} : hput (hput H a c) a d = hput H a d := by
  funext b; unfold hput; by_cases h : b = a <;> simp [h]
section
variable {C C' : Cx} {dep : Nat} {H : CH} {cl x : Addr} {ow : FO} {m : MS}
theorem W2.eqIF {Q : CV → CSt → Prop} {st : CSt} {a b : Int} (e : a ≠ b) (h : Q (.bool false) st) : W2 C (compareOp .Eq) (.int a) (.int b) st Q := W2.eqI (by rw [decide_eq_false e]; exact h)
theorem W2.eqIT {Q : CV → CSt → Prop} {st : CSt} {a b : Int} (e : a = b) (h : Q (.bool true) st) : W2 C (compareOp .Eq) (.int a) (.int b) st Q := W2.eqI (by rw [decide_eq_true e]; exact h)
/-- a def of the law's text, at the top -/
structure LawAt (C : Cx) (i : Nat) (pn : List Str) (fa : Addr) (fd : FuncData) : Prop where
  keep : keepIn C.K (.ref fa) = true
  fn : FnAt C fa fd (bodyOf (lawF i))
  scope : fd.scope.names = scopeOf (lawF i)
  bind : ∀ us : List Value, us.length = pn.length → bindArgs fd ⟨us, []⟩ = pure (pn.zip us)
theorem LawAt.same {i : Nat} {pn : List Str} {fa : Addr} {fd : FuncData} (l : LawAt C i pn fa fd) (s : C.Same C') : LawAt C' i pn fa fd := by
  have hK := s.K
  have hb := s.base
  obtain ⟨a, b, c, d⟩ := l
  refine ⟨by rw [hK]; exact a, ?_, c, d⟩
  obtain ⟨b1, b2, b3, b4, b5, b6, b7, b8, b9⟩ := b
  exact ⟨by rw [hb]; exact b1, by rw [hb]; exact b2, b3, b4, b5, b6, b7, b8, b9⟩
theorem LawAt.call {i : Nat} {pn : List Str} {fa : Addr} {fd : FuncData} {args : List CV} {st : CSt} {Q : CV → CSt → Prop} (ok : C.Ok (dep + 1)) (l : LawAt C i pn fa fd) (hg : goodNames (scopeOf (lawF i)) pn = true) (hl : args.length = pn.length)
    (h : ∀ C' : Cx, C'.Ok dep → C.Same C' → HK C' (scopeOf (lawF i)) → WSs C' (bodyOf (lawF i)) ⟨fun y => (pn.zip args).lookup y, st.H⟩ (fun f st' => Q f.val ⟨st.lo, st'.H⟩)) : WCall C (.ref fa) args [] [] st Q := by
  simp only [goodNames, Bool.and_eq_true, decide_eq_true_eq] at hg
  (refine el_0_1 hg fun xEl0 g4 => ?_; try clear hg; (refine el_0_1 xEl0 fun yEl0 g3 => ?_; try clear xEl0; obtain ⟨g1, g2⟩ := yEl0))
  refine call_W (pn := pn) ok l.fn (fun us vs e1 e2 => ?_) (by rw [l.scope]; exact g1) g2 (by rw [l.scope]; exact g3) (by rw [l.scope]; exact g4) fun C' ok2 s2 hs => ?_
  · have : vs = [] := List.length_eq_zero_iff.mp (by simpa using e2)
    subst this
    rw [List.append_nil]
    exact l.bind us (by omega)
  · have hk : HK C' (scopeOf (lawF i)) := fun y => by unfold Env.kindOf; rw [hs, l.scope]
    have := h C' ok2 s2 hk
    rw [List.append_nil]
    exact this
theorem WEs.mono : ∀ {es : List Expr} {st : CSt} {Q Q' : List CV → CSt → Prop}, WEs C es st Q → (∀ b st', Q b st' → Q' b st') → WEs C es st Q'
  | [], st, Q, Q', h, hQ => hQ _ _ h
  | e :: es, st, Q, Q', h, hQ => WE.mono h (fun b st' q => WEs.mono q fun bs st2 q2 => hQ _ _ q2)
/-- a method is called, its arguments being at hand -/
theorem WE.mcall {o : Expr} {x : Addr} {name : Str} {apos pos : Pos} {es : List Expr} {kws : List Keyword} {st : CSt} {Q : CV → CSt → Prop} {as0 ks0 : List CV} (ok : C.Ok dep) (hm : MCall C x name as0 (kwn kws) ks0 st Q)
    (ho : WE C o st (fun a st1 => a = .loc x ∧ st1 = st)) (ha : WEs C es st (fun as st1 => as = as0 ∧ st1 = st ∧ WEs C (kws.map (·.value)) st (fun ks st2 => ks = ks0 ∧ st2 = st)))
    (hs : es.all noStar = true := by rfl) (hk : kws.all (·.arg.isSome) = true := by rfl) (hb : attributeBase o name C.env (eval o C.env) = eval o C.env := by rfl)
    (hfew : methodCallForm (es.length + kws.length) (backTo pos (starEach es C.env)) (backToKw pos (keywordEach kws C.env)) = true := by rfl) (hline : (apos.endLine == pos.line) = true := by rfl) :
    WE C (.Call (.Attribute o name apos) es kws pos) st Q := by
  (refine el_1_2 hm fun f k1 k2 k3 => ?_; try clear hm)
  refine WE.meth ok (ho.mono (fun a st1 ⟨e1, e2⟩ => ?_)) hs hk hb hfew hline
  subst e1 e2
  refine (in_1_2 f k1 k2 (ha.mono fun as st2 hEl => ?_))
  (refine el_0_2 hEl fun e3 e4 q => ?_; try clear hEl)
  subst e3 e4
  refine q.mono fun ks st3 hEl => ?_
  (refine el_0_1 hEl fun e5 e6 => ?_; try clear hEl)
  subst e5 e6
  exact k3
end
end Mine
open PySem PySem.W PySem.Calls PyProof.Rows
set_option Elab.async false
set_option linter.all false
set_option maxRecDepth 100000
set_option genSizeOf false
namespace Mine
/-- Flags objects that stand apart, and lists beside them -/
structure World (H : CH) (cl : Addr) (fs : List (Addr × FO × MS)) (ps : List (Addr × CO)) : Prop where
  fm : ∀ f ∈ fs, FM H cl f.1 f.2.1 f.2.2
  apart : fs.Pairwise fun f g => ∀ a, f.2.1 a ≠ none → g.2.1 a = none
  cell : ∀ p ∈ ps, H p.1 = some p.2
  nd : (ps.map (·.1)).Nodup
  out : ∀ f ∈ fs, ∀ p ∈ ps, f.2.1 p.1 = none
section
variable {H H' : CH} {cl : Addr} {fs : List (Addr × FO × MS)} {ps : List (Addr × CO)}
theorem FM.owned {x a : Addr} {ow : FO} {m : MS} (F : FM H cl x ow m) (h : ow a ≠ none) : H a ≠ none := by
  (revert F; intro hfEl; refine el_3_1 hfEl fun d pa N F _ => ?_; try clear hfEl)
  have := F.owH a (by cases q : ow a with | none => exact absurd q h | some _ => rfl)
  intro e; rw [e] at this; cases this
theorem World.keep (w : World H cl fs ps) (K : ∀ b, H b ≠ none → H' b = H b) : World H' cl fs ps := by
  have K' : FK H H' (fun _ => none) (fun _ => none) := ⟨fun a _ h => ⟨K a h, rfl⟩, fun a h => absurd rfl h, fun a _ h => absurd rfl h⟩
  exact ⟨fun f hf => ((w.fm f hf).keep K' fun _ _ => rfl).1, w.apart, fun p hp => by rw [K p.1 (by rw [w.cell p hp]; simp)]; exact w.cell p hp, w.nd, w.out⟩
theorem pairwise_set {α : Type} {R : α → α → Prop} : ∀ {l : List α} {i : Nat} {a b : α}, l.Pairwise R → l[i]? = some a → (∀ c ∈ l, R c a → R c b) → (∀ c ∈ l, R a c → R b c) → (l.set i b).Pairwise R
  | x :: l, 0, a, b, h, e, h1, h2 => by
    simp at e; subst e
    rw [List.pairwise_cons] at h
    rw [List.set_cons_zero, List.pairwise_cons]
    exact ⟨fun c hc => h2 c (List.mem_cons_of_mem _ hc) (h.1 c hc), h.2⟩
  | x :: l, i + 1, a, b, h, e, h1, h2 => by
    simp at e
    rw [List.pairwise_cons] at h
    rw [List.set_cons_succ, List.pairwise_cons]
    refine ⟨fun c hc => ?_, pairwise_set h.2 e (fun c hc => h1 c (List.mem_cons_of_mem _ hc)) fun c hc => h2 c (List.mem_cons_of_mem _ hc)⟩
    rcases List.mem_or_eq_of_mem_set hc with hc | rfl
    · exact h.1 c hc
    · exact h1 x List.mem_cons_self (h.1 a (List.mem_of_getElem? e))
/-- a call upon one of them -/
theorem World.call {i : Nat} {x : Addr} {ow ow' : FO} {m m' : MS} (w : World H cl fs ps) (hi : fs[i]? = some (x, ow, m)) (F : FM H' cl x ow' m') (K : FK H H' ow ow') : World H' cl (fs.set i (x, ow', m')) ps := by
  have hlt := (List.getElem?_eq_some_iff.mp hi).1
  have hm : (x, ow, m) ∈ fs := List.mem_of_getElem? hi
  have other : ∀ j (hj : j < fs.length), j ≠ i → ∀ a, fs[j].2.1 a ≠ none → ow a = none := fun j hj hji a ha => by
    have hii := (List.getElem?_eq_some_iff.mp hi).2
    have P := List.pairwise_iff_getElem.mp w.apart
    rcases Nat.lt_or_gt_of_ne hji with h | h
    · have := P j i hj hlt h a ha; rw [hii] at this; exact this
    · have := P i j hlt hj h a
      rw [hii] at this
      cases q : ow a with
      | none => rfl
      | some v => exact absurd (this (by show ow a ≠ none; rw [q]; simp)) ha
  refine ⟨fun f hf => ?_, ?_, fun p hp => ?_, w.nd, fun f hf p hp => ?_⟩
  · (refine el_1_0 (List.getElem_of_mem hf) fun j rEl => ?_; (refine el_1_0 rEl fun hj e => ?_; try clear rEl))
    have hj' : j < fs.length := by simpa using hj
    by_cases hji : i = j
    · subst hji; simp at e; subst e; exact F
    · rw [List.getElem_set, if_neg hji] at e
      subst e
      exact ((w.fm _ (List.getElem_mem hj')).keep K (other j hj' (Ne.symm hji))).1
  · rw [List.pairwise_iff_getElem]
    intro j k hj hk hjk a ha
    have hj' : j < fs.length := by simpa using hj
    have hk' : k < fs.length := by simpa using hk
    by_cases h1 : i = j
    · subst h1
      rw [List.getElem_set, if_neg (by (exact Nat.ne_of_lt (by assumption)))]
      simp at ha
      cases q : fs[k].2.1 a with
      | none => rfl
      | some v =>
        have hne : fs[k].2.1 a ≠ none := by rw [q]; simp
        have := ((w.fm _ (List.getElem_mem hk')).keep K (other k hk' (by (exact Nat.ne_of_gt (by assumption))))).2 a hne
        exact absurd this ha
    · rw [List.getElem_set, if_neg h1] at ha
      by_cases h2 : i = k
      · subst h2
        simp
        exact ((w.fm _ (List.getElem_mem hj')).keep K (other j hj' (by (exact Nat.ne_of_lt (by assumption))))).2 a ha
      · rw [List.getElem_set, if_neg h2]
        exact List.pairwise_iff_getElem.mp w.apart j k hj' hk' hjk a ha
  · rw [(K.same p.1 (w.out _ hm p hp) (by rw [w.cell p hp]; simp)).1]; exact w.cell p hp
  · rcases List.mem_or_eq_of_mem_set hf with hf | rfl
    · exact w.out f hf p hp
    · exact (K.same p.1 (w.out _ hm p hp) (by rw [w.cell p hp]; simp)).2
/-- one more -/
theorem World.flags {x : Addr} {ow : FO} {m : MS} (w : World H cl fs ps) (F : FM H' cl x ow m) (K : FK H H' (fun _ => none) ow) : World H' cl (fs ++ [(x, ow, m)]) ps := by
  refine ⟨fun f hf => ?_, ?_, fun p hp => ?_, w.nd, fun f hf p hp => ?_⟩
  · rcases List.mem_append.mp hf with hf | hf
    · exact ((w.fm f hf).keep K fun _ _ => rfl).1
    · rw [List.mem_singleton.mp hf]; exact F
  · rw [List.pairwise_append]
    refine (in_0_2 w.apart (List.pairwise_singleton _ _) (fun f hf g hg a ha => ?_))
    rw [List.mem_singleton.mp hg]
    exact ((w.fm f hf).keep K fun _ _ => rfl).2 a ha
  · rw [(K.same p.1 rfl (by rw [w.cell p hp]; simp)).1]; exact w.cell p hp
  · rcases List.mem_append.mp hf with hf | hf
    · exact w.out f hf p hp
    · rw [List.mem_singleton.mp hf]
      exact (K.same p.1 rfl (by rw [w.cell p hp]; simp)).2
/-- one more list -/
theorem World.add {a : Addr} {c : CO} (w : World H cl fs ps) (ha : H a = none) : World (hput H a c) cl fs (ps ++ [(a, c)]) := by
  have w' : World (hput H a c) cl fs ps := w.keep fun b hb => hput_ne fun e => hb (e ▸ ha)
  have hap : a ∉ ps.map (·.1) := fun h => by
    (refine el_1_1 (List.mem_map.mp h) fun p hp xEl2 => ?_; obtain rfl := xEl2)
    rw [w.cell p hp] at ha; cases ha
  refine ⟨w'.fm, w.apart, fun p hp => ?_, ?_, fun f hf p hp => ?_⟩
  · rcases List.mem_append.mp hp with hp | hp
    · exact w'.cell p hp
    · rw [List.mem_singleton.mp hp]; exact hput_self
  · rw [List.map_append, List.nodup_append]
    exact (in_0_2 w.nd (by simp) (fun x hx y hy => by simp at hy; subst hy; exact fun e => hap (e ▸ hx)))
  · rcases List.mem_append.mp hp with hp | hp
    · exact w.out f hf p hp
    · rw [List.mem_singleton.mp hp]
      cases q : f.2.1 a with
      | none => rfl
      | some v => exact absurd ha ((w.fm f hf).owned (by rw [q]; simp))
/-- a list is turned -/
theorem World.put {i : Nat} {a : Addr} {c c' : CO} (w : World H cl fs ps) (hi : ps[i]? = some (a, c)) : World (hput H a c') cl fs (ps.set i (a, c')) := by
  have hlt := (List.getElem?_eq_some_iff.mp hi).1
  have hii := (List.getElem?_eq_some_iff.mp hi).2
  have hm : (a, c) ∈ ps := List.mem_of_getElem? hi
  have hmap : (ps.set i (a, c')).map (·.1) = ps.map (·.1) := by
    rw [List.map_set]
    apply List.ext_getElem (by simp)
    intro j h1 h2
    rw [List.getElem_set]
    split
    · rename_i e; subst e; simp [hii]
    · rfl
  refine ⟨fun f hf => ?_, w.apart, fun p hp => ?_, by rw [hmap]; exact w.nd, fun f hf p hp => ?_⟩
  · have hne : ∀ b, f.2.1 b ≠ none → b ≠ a := fun b hb e => by subst e; exact hb (w.out f hf _ hm)
    have K : FK H (hput H a c') (fun b => if b = a then some ([], 0) else none) (fun b => if b = a then some ([], 0) else none) := by
      refine ⟨fun b h1 _ => ?_, fun _ _ => rfl, fun b h1 h2 => absurd h1 h2⟩
      by_cases e : b = a
      · simp [e] at h1
      · exact ⟨hput_ne e, by assumption⟩
    exact ((w.fm f hf).keep K fun b hb => by simp [hne b hb]).1
  · by_cases e : p.1 = a
    · (refine el_1_0 (List.getElem_of_mem hp) fun j rEl => ?_; (refine el_1_0 rEl fun hj hp' => ?_; try clear rEl))
      have hj' : j < ps.length := by simpa using hj
      by_cases hji : i = j
      · subst hji; simp at hp'; rw [← hp']; exact hput_self
      · exfalso
        rw [List.getElem_set, if_neg hji] at hp'
        have h1 : (ps.map (·.1))[j]'(by simpa using hj') = (ps.map (·.1))[i]'(by simpa using hlt) := by simp [hp', hii, e]
        rcases Nat.lt_or_gt_of_ne hji with h | h
        · exact (List.pairwise_iff_getElem.mp w.nd i j (by simpa using hlt) (by simpa using hj') h) h1.symm
        · exact (List.pairwise_iff_getElem.mp w.nd j i (by simpa using hj') (by simpa using hlt) h) h1
    · rw [hput_ne e]
      (refine el_1_0 (List.getElem_of_mem hp) fun j rEl => ?_; (refine el_1_0 rEl fun hj hp' => ?_; try clear rEl))
      by_cases hji : i = j
      · subst hji; simp at hp'; exact absurd (by rw [← hp']) e
      · rw [List.getElem_set, if_neg hji] at hp'
        exact w.cell p (hp' ▸ List.getElem_mem _)
  · have : p.1 ∈ ps.map (·.1) := by rw [← hmap]; exact List.mem_map_of_mem hp
    (refine el_1_1 (List.mem_map.mp this) fun r hr e => ?_)
    rw [← e]; exact w.out f hf r hr
theorem World.init (H : CH) (cl : Addr) : World H cl [] [] := ⟨fun f hf => (by cases hf), List.Pairwise.nil, fun p hp => (by cases hp), List.nodup_nil, fun f hf => (by cases hf)⟩
end
end Mine
open PySem PySem.W PySem.Calls PyProof.Rows
set_option Elab.async false
set_option linter.all false
set_option maxRecDepth 100000
set_option genSizeOf false
namespace Mine
noncomputable def dos (m : MS) (cs : List (Int × List Str × Int)) : MS := cs.foldl MS.do m
/-- a call that may be made upon marks; the third kind bears any way -/
noncomputable def rgood (c : Int × List Str × Int) : Prop := 0 ≤ c.1 ∧ c.1 < 5 ∧ (c.1 = 3 ∨ pgood (c.2.1, c.2.2))
theorem MS.do_w_good {m : MS} {c : Int × List Str × Int} (h : ∀ v ∈ m.w, pgood v) (hc : rgood c) : ∀ v ∈ (m.do c).w, pgood v := by
  unfold MS.do
  split
  · exact h
  · split
    · rename_i h1 h2
      intro v hv
      rcases List.mem_append.mp hv with hv | hv
      · exact h v hv
      · rw [List.mem_singleton.mp hv]
        rcases hc.2.2 with h3 | h3
        · omega
        · exact h3
    · split
      · intro v hv; cases hv
      · exact h
theorem MS.do_w_len {m : MS} {c : Int × List Str × Int} : (m.do c).w.length ≤ m.w.length + 1 := by
  unfold MS.do
  split
  · simp
  · split
    · simp
    · split <;> simp
section
variable {C C' : Cx} {dep : Nat} {H : CH} {cl x fa3 fa4 fa5 fa6 fa7 fa8 : Addr} {ow : FO} {m : MS}

/-- what the law's body finds at the top -/
structure LCtx (C : Cx) (cl fa3 fa4 fa5 fa6 fa7 fa8 : Addr) : Prop where
  fc : FCls C cl
  ms : FMs C cl
  keepCl : keepIn C.K (.ref cl) = true
  f3 : ∃ fd, LawAt C 3 ["x"] fa3 fd
  f4 : ∃ fd, LawAt C 4 ["calls"] fa4 fd
  f5 : ∃ fd, LawAt C 5 ["flags", "ways"] fa5 fd
  f6 : ∃ fd, LawAt C 6 ["rows"] fa6 fd
  f7 : ∃ fd, LawAt C 7 ["way", "others"] fa7 fd
  f8 : ∃ fd, LawAt C 8 ["row"] fa8 fd
  g : GOk C [("len", .builtin "len"), ("range", .type "range"), ("Flags", .ref cl), ("_law_call", .ref fa3), ("_law_run", .ref fa4), ("_law_told", .ref fa5), ("_law_once", .ref fa6), ("_law_covered", .ref fa7), ("_law_short", .ref fa8)]
theorem LCtx.same (L : LCtx C cl fa3 fa4 fa5 fa6 fa7 fa8) (s : C.Same C') : LCtx C' cl fa3 fa4 fa5 fa6 fa7 fa8 :=
  ⟨L.fc.same s, L.ms.same s, by rw [s.K]; exact L.keepCl, let ⟨f, l⟩ := L.f3; ⟨f, l.same s⟩, let ⟨f, l⟩ := L.f4; ⟨f, l.same s⟩, let ⟨f, l⟩ := L.f5; ⟨f, l.same s⟩, let ⟨f, l⟩ := L.f6; ⟨f, l.same s⟩, let ⟨f, l⟩ := L.f7; ⟨f, l.same s⟩, let ⟨f, l⟩ := L.f8; ⟨f, l.same s⟩, L.g.same s⟩
theorem LCtx.call {Q : CV → CSt → Prop} {st : CSt} {x : Int} (ok : C.Ok (dep + 1)) (L : LCtx C cl fa3 fa4 fa5 fa6 fa7 fa8) (h : Q (callC (callOf x)) st) : WCall C (.ref fa3) [.int x] [] [] st Q := by
  obtain ⟨fd, l⟩ := L.f3
  exact l.call ok (by decide +kernel) rfl fun C' ok' s hk => call_W' ok' hk (L.g.same s).sub fun lo' => h

theorem runLoop_W {t : Expr} {body : List Stmt} {Q : CF → CSt → Prop} (ok : C.Ok (dep + 2)) (fc : FCls C cl) (ms : FMs C cl) (hk : HK C (scopeOf (lawF 4))) (e : ∃ it o p, nth (bodyOf (lawF 4)) 1 = .For t it body o p) :
    ∀ (cs : List (Int × List Str × Int)) (H : CH) (ow : FO) (m : MS) (lo : Str → Option CV), FM H cl x ow m → (∀ v ∈ m.w, pgood v) → m.w.length + cs.length ≤ 900 → (∀ c ∈ cs, rgood c) → lo "flags" = some (.loc x) →
      (∀ H' ow' lo', FM H' cl x ow' (dos m cs) → FK H H' ow ow' → lo' "flags" = some (.loc x) → Q .next ⟨lo', H'⟩) → WFor C t body [] (cs.map callC) ⟨lo, H⟩ Q := by
  apply forE (t := t) (body := body) e
  intro cs
  induction cs with
  | nil => intro H ow m lo F _ _ _ l1 q; exact WSs.nil (q H ow lo F (FK.refl _ _) l1)
  | cons c cs ih =>
    intro H ow m lo F hw hn hc l1 q
    have hc1 := hc c List.mem_cons_self
    have ih' := fun H1 ow1 lo1 (F1 : FM H1 cl x ow1 (m.do c)) (K1 : FK H H1 ow ow1) (l : lo1 "flags" = some (.loc x)) => ih H1 ow1 (m.do c) lo1 F1 (MS.do_w_good hw hc1) (by have := MS.do_w_len (m := m) (c := c); simp only [List.length_cons] at hn; omega) (fun d hd => hc d (List.mem_cons_of_mem _ hd)) l
      fun H2 ow2 lo2 F2 K2 l2 => q H2 ow2 lo2 F2 (K1.trans K2) l2
    obtain ⟨c1, c2, c3⟩ := c
    obtain ⟨h0, h5, hp⟩ := hc1
    dsimp only at h0 h5 hp
    have hwl : m.w.length ≤ 900 := by omega
    refine WA.tuple (vs := [.int c1, .tup (c2.map .str), .int c3]) ok rfl (WA.nm ok hk (WA.nm ok hk (WA.nm ok hk ?_)))
    refine WSs.cons (WS.if_ (WT.cmp1 (WE.nm ok hk rfl (WE.int (W2.ltI (Wtr.bool (cB (fun hc => ?_) fun hc => ?_)))))))
    · have hlt : c1 < 2 := by simpa using hc
      have hp' : pgood (c2, c3) := hp.resolve_left (by omega)
      refine WSs.cons (WS.expr ok (WE.mcall ok (FM.set (b := decide (c1 = 1)) (dep := dep + 1) ok fc ms F hp' fun H1 ow1 F1 K1 => ⟨rfl, WSs.nil (WSs.nil (ih' H1 ow1 _ ?_ K1 l1))⟩) (WE.nm ok hk l1 ⟨rfl, rfl⟩) (WE.nm ok hk rfl (WE.nm ok hk rfl ⟨rfl, rfl, WE.cmp1 (WE.nm ok hk rfl (WE.int (W2.eqI ⟨rfl, rfl⟩)))⟩))))
      simpa [MS.do, hlt] using F1
    have hge : ¬ c1 < 2 := by simpa using hc
    refine WSs.cons (WS.if_ (WT.cmp1 (WE.nm ok hk rfl (WE.int (W2.eqI (Wtr.bool (cB (fun hc => ?_) fun hc => ?_)))))))
    · have he : c1 = 2 := by simpa using hc
      have hp' : pgood (c2, c3) := hp.resolve_left (by omega)
      refine WSs.cons (WS.expr ok (WE.mcall ok (FM.wait (dep := dep + 1) ok fc ms F hp' hwl fun H1 F1 K1 => ⟨rfl, WSs.nil (WSs.nil (WSs.nil (ih' H1 ow _ ?_ K1 l1)))⟩) (WE.nm ok hk l1 ⟨rfl, rfl⟩) (WE.nm ok hk rfl (WE.nm ok hk rfl ⟨rfl, rfl, rfl, rfl⟩))))
      simpa [MS.do, he] using F1
    have hne : ¬ c1 = 2 := by simpa using hc
    refine WSs.cons (WS.if_ (WT.cmp1 (WE.nm ok hk rfl (WE.int (W2.eqI (Wtr.bool (cB (fun hc => ?_) fun hc => ?_)))))))
    · have he : c1 = 3 := by simpa using hc
      refine WSs.cons (WS.expr ok (WE.mcall ok (FM.fin (dep := dep) ok fc ms F hw hwl fun H1 ow1 F1 K1 => ⟨rfl, WSs.nil (WSs.nil (WSs.nil (WSs.nil (ih' H1 ow1 _ ?_ K1 l1))))⟩) (WE.nm ok hk l1 ⟨rfl, rfl⟩) ⟨rfl, rfl, rfl, rfl⟩))
      simpa [MS.do, he] using F1
    have hne3 : ¬ c1 = 3 := by simpa using hc
    have hp' : pgood (c2, c3) := hp.resolve_left hne3
    refine WSs.cons (WS.expr ok (WE.mcall ok (FM.cut (dep := dep + 1) ok fc ms F hp'.1 hp'.2.1 fun H1 F1 K1 => ⟨rfl, WSs.nil (WSs.nil (WSs.nil (WSs.nil (ih' H1 ow _ ?_ K1 l1))))⟩) (WE.nm ok hk l1 ⟨rfl, rfl⟩) (WE.nm ok hk rfl ⟨rfl, rfl, rfl, rfl⟩)))
    simpa [MS.do, hge, hne, hne3] using F1

theorem LCtx.run {Q : CV → CSt → Prop} {lo : Str → Option CV} {cs : List (Int × List Str × Int)} (ok : C.Ok (dep + 3)) (L : LCtx C cl fa3 fa4 fa5 fa6 fa7 fa8) (hc : ∀ c ∈ cs, rgood c) (hn : cs.length ≤ 900)
    (h : ∀ H' x ow', FM H' cl x ow' (dos MS.zero cs) → FK H H' (fun _ => none) ow' → Q (.loc x) ⟨lo, H'⟩) : WCall C (.ref fa4) [.lst (cs.map callC)] [] [] ⟨lo, H⟩ Q := by
  obtain ⟨fd, l⟩ := L.f4
  refine l.call ok (by decide +kernel) rfl fun C' ok' s hk => ?_
  have L' := L.same s
  refine WSs.cons (WS.assign1 (WE.call ok' (WE.glob ok' L'.g (v := .ref cl) rfl ⟨_, rfl, KpOk.ref L'.keepCl, FM.new ok' L'.fc L'.ms fun H1 x ow1 F1 K1 => WA.nm ok' hk ?_⟩ (by rw [hk]; rfl))))
  refine WSs.cons (WS.for_ ok' (WE.nm ok' hk rfl ⟨_, IterOf.lst, ?_⟩))
  refine runLoop_W (x := x) ok' L'.fc L'.ms hk ⟨_, _, _, rfl⟩ cs H1 ow1 MS.zero _ F1 (fun v hv => by cases hv) (by simpa [MS.zero] using hn) hc rfl fun H2 ow2 lo2 F2 K2 l2 => ?_
  exact WSs.cons (WS.ret (WE.nm ok' hk l2 (h H2 x ow2 F2 (K1.trans K2))))
end
end Mine
open PySem PySem.W PySem.Calls PyProof.Rows
set_option Elab.async false
set_option linter.all false
set_option maxRecDepth 100000
set_option genSizeOf false
namespace Mine
/-- what is told of a way: the four flags -/
noncomputable def row4 (m : MS) (q : List Str) : List CV := (rints 0 4).map fun g => match g with | .int g => .bool (m.tell q g) | c => c
/-- of all ways -/
noncomputable def told4 (m : MS) (ways : List (List Str)) : CV := .lst (ways.map fun q => .lst (row4 m q))
section
variable {C C' : Cx} {dep : Nat} {H : CH} {cl x : Addr} {ow : FO} {m : MS}

theorem tell4_W {nf nw ng : Str} {p1 p2 p3 p4 p5 p6 : Pos} {Q : List CV → CSt → Prop} {way : List Str} (ok : C.Ok (dep + 1)) (fc : FCls C cl) (ms : FMs C cl) (F : FM H cl x ow m) (hkf : ownKind (C.env.kindOf nf) = true) (hkw : ownKind (C.env.kindOf nw) = true) (hkg : C.env.kindOf ng = some .local)
    (hl : way.length ≤ 1000) (hline : (p2.endLine == p5.line) = true) (hnm : [nf, nw, ng].all (fun n => !(n == ("__debug__" : Str)) && !(n == ("__classdict__" : Str))) = true) (hnf : nf ≠ ng) (hnw : nw ≠ ng) :
    ∀ (gs : List Int) (acc : List CV) (lo : Str → Option CV), acc.length + gs.length ≤ 1000 → lo nf = some (.loc x) → lo nw = some (wcv way) → (∀ lo', (∀ y : Str, y ≠ ng → lo' y = lo y) → Q (acc ++ gs.map fun g => .bool (m.tell way g)) ⟨lo', H⟩) →
      WCI C (emitOf C (.Call (.Attribute (.Name nf p1) "is_" p2) [.Name nw p3, .Name ng p4] [] p5) []) (.Name ng p6) [] (gs.map .int) ⟨lo, H⟩ acc Q := by
  simp only [List.all_cons, List.all_nil, Bool.and_true, Bool.and_eq_true, Bool.not_eq_true'] at hnm
  obtain ⟨⟨f1, f2⟩, ⟨w1, w2⟩, g1, g2⟩ := hnm
  intro gs
  induction gs with
  | nil => intro acc lo _ l1 l2 q; have := q lo fun _ _ => rfl; simpa [WCI] using this
  | cons g gs ih =>
    intro acc lo hl2 l1 l2 q
    simp only [List.length_cons] at hl2
    have e1 : lput lo ng (.int g) nf = some (.loc x) := (lput_ne hnf).trans l1
    have e2 : lput lo ng (.int g) nw = some (wcv way) := (lput_ne hnw).trans l2
    have e3 : lput lo ng (.int g) ng = some (.int g) := by simp [lput]
    refine WA.name ok (by rw [hkg]; rfl) ?_
    refine WE.mcall ok (FM.is (key := way) (f := g) ok fc ms F hl ⟨by omega, ?_⟩) (WE.name ok.fun_ (v := .loc x) e1 ⟨rfl, rfl⟩ hkf f1 f2) (WE.name ok.fun_ (v := wcv way) e2 (WE.name ok.fun_ (v := .int g) e3 ⟨rfl, rfl, rfl, rfl⟩ (by rw [hkg]; rfl) g1 g2) hkw w1 w2) rfl rfl rfl rfl hline
    refine ih (acc ++ [.bool (m.tell way g)]) (lput lo ng (.int g)) (by simp; omega) e1 e2 fun lo' h' => ?_
    have := q lo' fun y hy => by rw [h' y hy]; simp [lput, hy]
    simpa using this

theorem rows4_W {elt t : Expr} {Q : List CV → CSt → Prop} {sc : Scope} (ok : C.Ok (dep + 1)) (fc : FCls C cl) (ms : FMs C cl) (F : FM H cl x ow m) (hg : GOk C [("range", .type "range")]) (hkf : C.env.kindOf "flags" = some .cell ∨ C.env.kindOf "flags" = some .free) (hkw : C.env.kindOf "way" = some .cell) (hkr : C.env.kindOf "range" = some .globalImplicit)
    (hcap : (sc.names.all fun x => x.2 != .free || C.env.kindOf x.1 == some .cell) = true)
    (ht : ∃ p, t = .Name "way" p) (hsk : sc.kind = .function) (hsn : sc.names = [((".0" : Str), NameKind.local), (("flag" : Str), NameKind.local), (("flags" : Str), NameKind.free), (("way" : Str), NameKind.free)])
    (he : ∃ p1 p2 p3 p4 p5 p6 p7 k p8 p9 p10, elt = .ListComp (.Call (.Attribute (.Name "flags" p1) "is_" p2) [.Name "way" p3, .Name "flag" p4] [] p5) [⟨.Name "flag" p6, .Call (.Name "range" p7) [.Constant (.int 4) k p8] [] p9, [], 0⟩] sc p10 ∧ (p2.endLine == p5.line) = true) :
    ∀ (ws : List (List Str)) (acc : List CV) (lo : Str → Option CV), acc.length + ws.length ≤ 10000 → (∀ q ∈ ws, q.length ≤ 1000) → lo "flags" = some (.loc x) → (∀ lo', (∀ y : Str, y ≠ "way" → lo' y = lo y) → Q (acc ++ ws.map fun q => .lst (row4 m q)) ⟨lo', H⟩) →
      WCI C (emitOf C elt []) t [] (ws.map wcv) ⟨lo, H⟩ acc Q := by
  obtain ⟨p0, rfl⟩ := ht
  obtain ⟨p1, p2, p3, p4, p5, p6, p7, k, p8, p9, p10, rfl, hline⟩ := he
  intro ws
  induction ws with
  | nil => intro acc lo _ _ l1 q; have := q lo fun _ _ => rfl; simpa [WCI] using this
  | cons w ws ih =>
    intro acc lo hl hq l1 q
    simp only [List.length_cons] at hl
    refine WA.name ok (by rw [hkw]; rfl) ?_
    refine WE.comp ok (WE.call ok (WE.glob ok hg (v := .type "range") rfl ⟨_, rfl, KpOk.type, WE.int (WCall.range1 ⟨_, IterOf.rng (by omega) (by omega), fun C' ok' s hsc => ?_⟩)⟩ hkr)) hcap hsk (by rw [hsn]; decide +kernel)
    have kx : ∀ y, C'.env.kindOf y = _ := fun y => by unfold Env.kindOf; rw [hsc, relabel_lookup]
    rw [show rints 0 4 = ([0, 1, 2, 3] : List Int).map .int from rfl]
    refine tell4_W ok' (fc.same s) (ms.same s) F (by rw [kx, hsn]; show ownKind (some (if _ then _ else _)) = true; split <;> rfl) (by rw [kx, hsn]; show ownKind (some (if _ then _ else _)) = true; split <;> rfl) (by rw [kx, hsn]; rfl) (hq w List.mem_cons_self) hline (by decide +kernel) (by decide) (by decide) [0, 1, 2, 3] [] _ (by simp) ?_ ?_ fun lo' h' => ⟨fun y hy => ?_, .inl ⟨by omega, ?_⟩⟩
    · show compLo sc _ "flags" = _
      unfold compLo; rw [hsn]; exact l1
    · show compLo sc _ "way" = _
      unfold compLo; rw [hsn]; rfl
    · have hne : y ≠ "flag" := fun e => by rw [e, hsn] at hy; cases hy
      refine (h' y hne).trans ?_
      show compLo sc _ y = _
      unfold compLo; rw [if_pos hy]
    · refine ih (acc ++ [.lst (row4 m w)]) (lput lo "way" (wcv w)) (by simp; omega) (fun r hr => hq r (List.mem_cons_of_mem _ hr)) l1 fun lo' h' => ?_
      have := q lo' fun y hy => by rw [h' y hy]; simp [lput, hy]
      simpa using this
end
end Mine
open PySem PySem.W PySem.Calls PyProof.Rows
set_option Elab.async false
set_option linter.all false
set_option maxRecDepth 100000
set_option genSizeOf false
namespace Mine
/-- the names are taken off, what waits is set -/
noncomputable def after (m : MS) : MS := dos m [(4, [("a" : Str)], 0), (4, [("b" : Str)], 0), (4, [("a.b" : Str)], 0), (3, [], 0)]
section
variable {C C' : Cx} {dep : Nat} {H : CH} {cl x fa3 fa4 fa5 fa6 fa7 fa8 : Addr} {ow : FO} {m : MS}

theorem LCtx.told {Q : CV → CSt → Prop} {lo : Str → Option CV} {ways : List (List Str)} (ok : C.Ok (dep + 3)) (L : LCtx C cl fa3 fa4 fa5 fa6 fa7 fa8) (F : FM H cl x ow m) (hw : ∀ v ∈ m.w, pgood v) (hn : m.w.length ≤ 900) (hl : ways.length ≤ 10000) (hq : ∀ q ∈ ways, q.length ≤ 1000)
    (h : ∀ H' ow', FM H' cl x ow' (after m) → FK H H' ow ow' → Q (.tup [told4 m ways, told4 (after m) ways]) ⟨lo, H'⟩) : WCall C (.ref fa5) [.loc x, .lst (ways.map wcv)] [] [] ⟨lo, H⟩ Q := by
  obtain ⟨fd, l⟩ := L.f5
  refine l.call ok (by decide +kernel) rfl fun C' ok' s hk => ?_
  have L' := L.same s
  have hkf : C'.env.kindOf "flags" = some .cell := by rw [hk]; rfl
  have cap : ∀ {names : List (Str × NameKind)}, (names.all fun y => y.2 != .free || decide (y.1 = "flags")) = true → (names.all fun y => y.2 != .free || C'.env.kindOf y.1 == some .cell) = true := fun {names} hn => by
    rw [List.all_eq_true] at hn ⊢
    intro y hy
    have := hn y hy
    rw [Bool.or_eq_true] at this ⊢
    refine this.imp id fun e => ?_
    rw [of_decide_eq_true e, hkf]; rfl
  -- a comprehension over the ways
  have comp : ∀ {C2 : Cx} {H2 : CH} {ow2 : FO} {m2 : MS} {lo2 : Str → Option CV} {elt t : Expr} {sc sc2 : Scope} {Q2 : List CV → CSt → Prop} (ok2 : C2.Ok (dep + 2)) (s2 : C'.Same C2) (hsc : C2.env.scope = relabel sc C'.env), FM H2 cl x ow2 m2 → sc.names = [((".0" : Str), NameKind.local), (("way" : Str), NameKind.cell), (("range" : Str), NameKind.globalImplicit), (("flags" : Str), NameKind.free)] →
      (∃ p, t = .Name "way" p) → sc2.kind = .function → sc2.names = [((".0" : Str), NameKind.local), (("flag" : Str), NameKind.local), (("flags" : Str), NameKind.free), (("way" : Str), NameKind.free)] →
      (∃ p1 p2 p3 p4 p5 p6 p7 k p8 p9 p10, elt = .ListComp (.Call (.Attribute (.Name "flags" p1) "is_" p2) [.Name "way" p3, .Name "flag" p4] [] p5) [⟨.Name "flag" p6, .Call (.Name "range" p7) [.Constant (.int 4) k p8] [] p9, [], 0⟩] sc2 p10 ∧ (p2.endLine == p5.line) = true) →
      lo2 "flags" = some (.loc x) → (∀ lo', (∀ y : Str, y ≠ "way" → lo' y = lo2 y) → Q2 (ways.map fun q => .lst (row4 m2 q)) ⟨lo', H2⟩) → WCI C2 (emitOf C2 elt []) t [] (ways.map wcv) ⟨lo2, H2⟩ [] Q2 := by
    intro C2 H2 ow2 m2 lo2 elt t sc sc2 Q2 ok2 s2 hsc F2 hsn ht h2k h2n he l1 q
    have kx : ∀ y, C2.env.kindOf y = _ := fun y => by unfold Env.kindOf; rw [hsc, relabel_lookup]
    have kf : C2.env.kindOf "flags" = some .cell := by
      rw [kx, hsn]
      show some (if (NameKind.free == .free && C'.env.scope.kind == .function && C'.env.kindOf "flags" == some .cell) = true then NameKind.cell else _) = _
      rw [hkf, ok'.fun_]; rfl
    have kw : C2.env.kindOf "way" = some .cell := by rw [kx, hsn]; rfl
    refine rows4_W ok2 (L'.fc.same s2) (L'.ms.same s2) F2 (L'.g.same s2).sub (.inl kf) kw (by rw [kx, hsn]; rfl) ?_ ht h2k h2n he ways [] lo2 (by simpa using hl) hq l1 fun lo' h' => by simpa using q lo' h'
    rw [h2n]
    simp only [List.all_cons, List.all_nil, kf, kw]
    rfl
  refine WSs.cons (WS.assignComp ok' (WE.nm ok' hk rfl ⟨_, IterOf.lst, fun C2 ok2 s2 hsc => ?_⟩) (cap rfl) (by rw [hk]; rfl) ?_)
  · refine comp ok2 s2 hsc F rfl ⟨_, rfl⟩ rfl rfl ⟨_, _, _, _, _, _, _, _, _, _, _, rfl, rfl⟩ rfl fun lo' h' => ⟨fun y hy => ?_, .inl ?_⟩
    · have := mem_of_lookupK hy
      simp at this
      subst this
      exact h' _ (by decide)
    · refine WSs.cons (WS.for_ ok' (WE.listF (WE.str (WE.str (WE.str ⟨by simp, _, IterOf.lst, ?_⟩)))))
      refine WA.nm ok' hk (WSs.cons (WS.expr ok' (WE.mcall ok' (FM.cut (key := [("a" : Str)]) (dep := dep + 1) ok' L'.fc L'.ms F (by simp) (by simp) fun H1 F1 K1 => ⟨rfl, WSs.nil ?_⟩) (WE.nm ok' hk (v := .loc x) rfl ⟨rfl, rfl⟩) (WE.tuple (WE.nm ok' hk (v := .str "a") rfl ⟨by simp, rfl, rfl, rfl, rfl⟩)))))
      refine WA.nm ok' hk (WSs.cons (WS.expr ok' (WE.mcall ok' (FM.cut (key := [("b" : Str)]) (dep := dep + 1) ok' L'.fc L'.ms F1 (by simp) (by simp) fun H2 F2 K2 => ⟨rfl, WSs.nil ?_⟩) (WE.nm ok' hk (v := .loc x) rfl ⟨rfl, rfl⟩) (WE.tuple (WE.nm ok' hk (v := .str "b") rfl ⟨by simp, rfl, rfl, rfl, rfl⟩)))))
      refine WA.nm ok' hk (WSs.cons (WS.expr ok' (WE.mcall ok' (FM.cut (key := [("a.b" : Str)]) (dep := dep + 1) ok' L'.fc L'.ms F2 (by simp) (by simp) fun H3 F3 K3 => ⟨rfl, WSs.nil (WSs.nil ?_)⟩) (WE.nm ok' hk (v := .loc x) rfl ⟨rfl, rfl⟩) (WE.tuple (WE.nm ok' hk (v := .str "a.b") rfl ⟨by simp, rfl, rfl, rfl, rfl⟩)))))
      refine WSs.cons (WS.expr ok' (WE.mcall ok' (FM.fin (dep := dep) ok' L'.fc L'.ms F3 hw hn fun H4 ow4 F4 K4 => ⟨rfl, ?_⟩) (WE.nm ok' hk (v := .loc x) rfl ⟨rfl, rfl⟩) ⟨rfl, rfl, rfl, rfl⟩))
      have F4' : FM H4 cl x ow4 (after m) := by simpa [after, dos, MS.do] using F4
      refine WSs.cons (WS.ret (WE.tuple (WE.nm ok' hk (v := told4 m ways) rfl (WE.comp ok' (WE.nm ok' hk rfl ⟨_, IterOf.lst, fun C2 ok2 s2 hsc => ?_⟩) (cap rfl)))))
      refine comp ok2 s2 hsc F4' rfl ⟨_, rfl⟩ rfl rfl ⟨_, _, _, _, _, _, _, _, _, _, _, rfl, rfl⟩ rfl fun lo' h' => ⟨fun y hy => ?_, .inl ⟨by simp, ?_⟩⟩
      · have := mem_of_lookupK hy
        simp at this
        subst this
        exact h' _ (by decide)
      · exact h H4 ow4 F4' (((K1.trans K2).trans K3).trans K4)
  · have k1 : C'.env.kindOf "told" = some .local := by rw [hk]; rfl
    have k3 : C'.env.blockKind = .function := blockKind_of ok'
    unfold swapsWith
    dsimp only
    rewrite [k1, k3]
    rfl
end
end Mine
open PySem PySem.W PySem.Calls PyProof.Rows
set_option Elab.async false
set_option linter.all false
set_option maxRecDepth 100000
set_option genSizeOf false
namespace Mine
section
variable {C : Cx} {dep : Nat} {KF I J : IM} {st : CSt} {s : Shared} {Q : CV → CSt → Prop}
theorem W2.inL {b : CV} {cs : List CV} (ok : C.Ok dep) (pa : isPys cs = true) (pb : isPy b = true) (hd : (toPy b).depth ≤ 100) (h : Q (.bool (cs.any fun c => ceq c b)) st) : W2 C (compareOp .In) b (.lst cs) st Q := fun I v u r1 r2 KF s S => by
  simp only [VR] at r2
  obtain ⟨a, n, xs, rfl, hi, hr⟩ := r2
  refine SeqAt.in_listAt (eqTo s.heap (toPy b)) ⟨_, S.imm _ _ hi, rfl, n, rfl⟩ (fun y hy => eqAt_items S ok pb hd r1 pa hr y (by simpa using hy)) ?_
  rw [← Array.any_toList, any_eqTo S pa hr]
  exact ⟨I, st, .refl I, S, _, by simp [VR], h⟩
theorem W2.notInL {b : CV} {cs : List CV} (ok : C.Ok dep) (pa : isPys cs = true) (pb : isPy b = true) (hd : (toPy b).depth ≤ 100) (h : Q (.bool (!cs.any fun c => ceq c b)) st) : W2 C (compareOp .NotIn) b (.lst cs) st Q := fun I v u r1 r2 KF s S => by
  simp only [VR] at r2
  obtain ⟨a, n, xs, rfl, hi, hr⟩ := r2
  refine SeqAt.notIn_listAt (eqTo s.heap (toPy b)) ⟨_, S.imm _ _ hi, rfl, n, rfl⟩ (fun y hy => eqAt_items S ok pb hd r1 pa hr y (by simpa using hy)) ?_
  rw [← Array.any_toList, any_eqTo S pa hr]
  exact ⟨I, st, .refl I, S, _, by simp [VR], h⟩
theorem W2.subI {a b : Int} (h : Q (.int (a - b)) st) : W2 C (binaryOp .Sub) (.int a) (.int b) st Q := fun I v u r1 r2 KF s S => by
  simp only [VR] at r1 r2; obtain ⟨t, rfl⟩ := r1; obtain ⟨t', rfl⟩ := r2
  exact PySem.P.sub_int ⟨I, st, .refl I, S.toks _, _, by simp [VR], h⟩
theorem WCall.append {a : Addr} {cs : List CV} {c : CV} (hH : st.H a = some (.list cs)) (hs : cs.length ≤ 2 ^ 23) (h : Q .none { st with H := hput st.H a (.list (cs ++ [c])) }) : WCall C (.builtin "list.append") [.loc a, c] [] [] st Q := fun I us vs' r1 r2 KF s S => by
  obtain ⟨x, us1, rfl, ra, r1⟩ := r1.uncons
  obtain ⟨y, us2, rfl, rc, r1⟩ := r1.uncons
  have := r1.nil_iff; subst this
  rw [zip_nil_left]
  simp only [VR] at ra; subst ra
  obtain ⟨n, xs, ho, hr, e⟩ := list_at S hH
  refine call_meets F.slot_list_append ⟨_, ho, rfl⟩ F.entry_list_append (F.args_list_append_2 _ _) (AutoListH.list_append_list_val_0 a xs n y (by rw [sizeLine_eq]; omega)) ⟨ho, ?_⟩
  exact ⟨I, _, .refl I, list_set S hH ho rfl (by simpa using hr.append (.cons rc .nil)) s.toks, .none, by simp [VR], h⟩
end

/-- each once, the first ones -/
noncomputable def onceF {α : Type} [DecidableEq α] (seen : List α) : List α → List α
  | [] => []
  | x :: xs => if x ∈ seen then onceF (seen ++ [x]) xs else x :: onceF (seen ++ [x]) xs
noncomputable def once {α : Type} [DecidableEq α] (l : List α) : List α := onceF [] l
/-- a coding of data as clean values that are compared by `==` -/
structure Coded {α : Type} [DecidableEq α] (f : α → CV) (l : List α) : Prop where
  eq : ∀ a b, ceq (f a) (f b) = decide (a = b)
  py : ∀ a ∈ l, isPy (f a) = true
  dp : ∀ a, (toPy (f a)).depth ≤ 100
theorem any_coded {α : Type} [DecidableEq α] {f : α → CV} (h : ∀ a b, ceq (f a) (f b) = decide (a = b)) (l : List α) (b : α) : (l.map f).any (fun c => ceq c (f b)) = decide (b ∈ l) := by
  induction l with
  | nil => simp
  | cons a l ih =>
    rw [List.map_cons, List.any_cons, ih, h, Bool.eq_iff_iff, Bool.or_eq_true, decide_eq_true_eq, decide_eq_true_eq, decide_eq_true_eq, List.mem_cons]
    exact ⟨fun e => e.imp Eq.symm id, fun e => e.imp Eq.symm id⟩
theorem filterMap_range {α : Type} (cs : List α) : ∀ k, (List.range k).filterMap (cs[·]?) = cs.take k
  | 0 => by simp
  | k + 1 => by
    rw [List.range_succ, List.filterMap_append, filterMap_range cs k, List.take_add_one]
    simp only [List.filterMap_cons, List.filterMap_nil]
    cases cs[k]? <;> rfl
theorem cpick_to {cs : List CV} {k : Nat} (hk : k ≤ cs.length) : cpick cs none (some (k : Int)) none = cs.take k := by
  unfold cpick sliceBounds
  simp only [Option.getD_none, show (1 : Int) > 0 by decide, if_true, show ¬ (k : Int) < 0 by simp, if_false]
  rw [Int.min_eq_left (Int.ofNat_le.mpr hk), Int.max_eq_right (Int.natCast_nonneg _)]
  unfold sliceRange
  simp only [show (1 : Int) > 0 by decide, if_true]
  have e : ((if (0 : Int) < (k : Int) then ((k : Int) - 0 + 1 - 1) / 1 else 0 : Int)).toNat = k := by split <;> omega
  rw [e]
  have e2 : ((List.range k).map fun (j : Nat) => ((0 : Int) + 1 * (j : Int)).toNat) = List.range k := by
    rw [show (fun (j : Nat) => ((0 : Int) + 1 * (j : Int)).toNat) = id from funext fun j => by simp]; simp
  rw [e2, filterMap_range]
theorem isPys_coded {α : Type} {f : α → CV} : ∀ {l : List α}, (∀ a ∈ l, isPy (f a) = true) → isPys (l.map f) = true
  | [], _ => rfl
  | a :: l, h => by
    rw [List.map_cons]
    simp only [isPys, Bool.and_eq_true]
    exact ⟨h a List.mem_cons_self, isPys_coded fun b hb => h b (List.mem_cons_of_mem _ hb)⟩
section
variable {C C' : Cx} {dep : Nat} {H : CH} {cl x fa3 fa4 fa5 fa6 fa7 fa8 : Addr} {ow : FO} {m : MS}

theorem onceLoop_W {α : Type} [DecidableEq α] {f : α → CV} {l : List α} {p0 p1 p2 p3 p4 p5 p6 p7 p8 p9 p10 p11 : Pos} {Q : List CV → CSt → Prop} (ok : C.Ok dep) (hkr : ownKind (C.env.kindOf "rows") = true) (hkk : C.env.kindOf "k" = some .local) (hf : Coded f l) (hl : l.length ≤ 10000) :
    ∀ (suf pre : List α) (acc : List CV) (lo : Str → Option CV), l = pre ++ suf → acc.length ≤ pre.length → lo "rows" = some (.lst (l.map f)) → (∀ lo', (∀ y : Str, y ≠ "k" → lo' y = lo y) → Q (acc ++ (onceF pre suf).map f) ⟨lo', H⟩) →
      WCI C (emitOf C (.Subscript (.Name "rows" p1) (.Name "k" p2) p3) []) (.Name "k" p0) [.Compare (.Subscript (.Name "rows" p4) (.Name "k" p5) p6) [.NotIn] [.Subscript (.Name "rows" p7) (.Slice none (some (.Name "k" p8)) none p9) p10] p11]
        ((List.range' pre.length suf.length).map fun i => CV.int (i : Nat)) ⟨lo, H⟩ acc Q := by
  intro suf
  induction suf with
  | nil => intro pre acc lo _ _ l1 q; have := q lo fun _ _ => rfl; simpa [WCI, onceF] using this
  | cons a suf ih =>
    intro pre acc lo e ha l1 q
    have hlen : l.length = pre.length + (suf.length + 1) := by rw [e]; simp
    have hat : (l.map f)[cidx (l.map f).length (pre.length : Int)]? = some (f a) := by rw [cidx_nat, e]; simp
    have hmem : a ∈ l := by rw [e]; simp
    have htake : (l.map f).take pre.length = pre.map f := by rw [e]; simp
    rw [List.length_cons, List.range'_succ, List.map_cons]
    refine WA.name ok (by rw [hkk]; rfl) ?_
    have it : ∀ {p1 p2 p3 : Pos} {lo1 : Str → Option CV} {Q1 : CV → CSt → Prop}, lo1 "rows" = some (.lst (l.map f)) → lo1 "k" = some (.int pre.length) → Q1 (f a) ⟨lo1, H⟩ → WE C (.Subscript (.Name "rows" p1) (.Name "k" p2) p3) ⟨lo1, H⟩ Q1 := fun h1 h2 hq =>
      WE.sub (WE.name ok.fun_ h1 (WE.name ok.fun_ h2 (W2.itemL (by simp <;> omega) (by simp <;> omega) (by simp <;> omega) hat hq) (by rw [hkk]; rfl)) hkr)
    refine WT.cmp1 (it l1 rfl (WE.slice (WE.name ok.fun_ (v := .lst (l.map f)) l1 (WE.name ok.fun_ (v := .int pre.length) rfl ⟨_, rfl, WSl.lst (by simp) (by simp; omega) ?_⟩ (by rw [hkk]; rfl)) hkr)))
    rw [cpick_to (by simp; omega), htake]
    refine W2.notInL ok (isPys_coded fun b hb => hf.py b (by rw [e]; exact List.mem_append_left _ hb)) (hf.py a hmem) (hf.dp a) (Wtr.bool ?_)
    rw [any_coded hf.eq]
    have ih' := fun acc' (h1 : acc'.length ≤ pre.length + 1) (q' : ∀ lo', (∀ y : Str, y ≠ "k" → lo' y = lput lo "k" (.int pre.length) y) → Q (acc' ++ (onceF (pre ++ [a]) suf).map f) ⟨lo', H⟩) => ih (pre ++ [a]) acc' (lput lo "k" (.int pre.length)) (by rw [e]; simp) (by simpa using h1) l1 q'
    rw [List.length_append, List.length_singleton] at ih'
    refine cB (fun hb => ?_) fun hb => cF ?_
    · have hn : a ∉ pre := by simpa using hb
      refine it l1 rfl ⟨by omega, ?_⟩
      refine ih' (acc ++ [f a]) (by simp; omega) fun lo' h' => ?_
      have := q lo' fun y hy => by rw [h' y hy]; simp [lput, hy]
      simpa [onceF, hn] using this
    · have hn : a ∈ pre := by simpa using hb
      refine ih' acc (by omega) fun lo' h' => ?_
      have := q lo' fun y hy => by rw [h' y hy]; simp [lput, hy]
      simpa [onceF, hn] using this

theorem LCtx.once {α : Type} [DecidableEq α] {f : α → CV} {l : List α} {Q : CV → CSt → Prop} {st : CSt} (ok : C.Ok (dep + 1)) (L : LCtx C cl fa3 fa4 fa5 fa6 fa7 fa8) (hf : Coded f l) (hl : l.length ≤ 10000) (h : Q (.lst ((once l).map f)) st) : WCall C (.ref fa6) [.lst (l.map f)] [] [] st Q := by
  obtain ⟨fd, l6⟩ := L.f6
  refine l6.call ok (by decide +kernel) rfl fun C' ok' s hk => ?_
  have L' := L.same s
  have hkr : C'.env.kindOf "rows" = some .cell := by rw [hk]; rfl
  refine WSs.cons (WS.ret (WE.comp ok' (WE.call ok' (WE.glob ok' L'.g (v := .type "range") rfl ⟨_, rfl, KpOk.type, WE.call ok' (WE.glob ok' L'.g (v := .builtin "len") rfl ⟨_, rfl, KpOk.builtin, WE.nm ok' hk (v := .lst (l.map f)) rfl (WCall.lenL (by simp; omega) (WCall.range1 ⟨_, IterOf.rng (by omega) (by simp <;> omega), fun C2 ok2 s2 hsc => ?_⟩))⟩ (by rw [hk]; rfl))⟩ (by rw [hk]; rfl))) ?_))
  · have kx : ∀ y, C2.env.kindOf y = _ := fun y => by unfold Env.kindOf; rw [hsc, relabel_lookup]
    have er : rints 0 ((l.map f).length : Int) = (List.range' 0 l.length).map fun i => CV.int (i : Nat) := by simp [rints, List.range_eq_range']
    rw [er]
    refine onceLoop_W (f := f) (l := l) ok2 (by rw [kx, hk, ok'.fun_]; rfl) (by rw [kx]; rfl) hf hl l [] [] _ rfl (by simp) rfl fun lo' h' => ⟨fun y hy => ?_, .inl ?_⟩
    · have := mem_of_lookupK hy
      simp at this
      subst this
      exact h' _ (by decide)
    · exact h
  · simp only [List.all_cons, List.all_nil, hkr]
    rfl
end
end Mine
open PySem PySem.W PySem.Calls PyProof.Rows
set_option Elab.async false
set_option linter.all false
set_option maxRecDepth 100000
set_option genSizeOf false
namespace Mine
theorem pre_slice {q way : List Str} : CV.tup ((q.map CV.str).take (upk (q.map CV.str).length ((way.map CV.str).length : Int))) = wcv (q.take way.length) := by
  unfold wcv upk
  rw [if_neg (by simp), List.map_take]
  simp only [List.length_map, Int.toNat_natCast]
  congr 1
  by_cases hle : way.length ≤ q.length
  · rw [Nat.min_eq_left hle]
  · rw [Nat.min_eq_right (Nat.le_of_lt (Nat.not_le.mp hle)), List.take_of_length_le (l := q.map CV.str) (i := q.length) (by simp), List.take_of_length_le (by simp; omega)]
theorem strOk_take {q : List Str} {n : Nat} (h : q.all PyData.strOk = true) : (q.take n).all PyData.strOk = true := by
  rw [List.all_eq_true] at h ⊢
  exact fun x hx => h x (List.mem_of_mem_take hx)
theorem depthAll_le {n : Nat} : ∀ {cs : List CV}, (∀ c ∈ cs, (toPy c).depth ≤ n) → PyData.depthAll (toPys cs) ≤ n
  | [], _ => by simp [toPys, PyData.depthAll]
  | c :: cs, h => by
    simp only [toPys, PyData.depthAll]
    exact Nat.max_le.mpr ⟨h c List.mem_cons_self, depthAll_le fun d hd => h d (List.mem_cons_of_mem _ hd)⟩
theorem depth_lst {n : Nat} {cs : List CV} (h : ∀ c ∈ cs, (toPy c).depth ≤ n) : (toPy (.lst cs)).depth ≤ n + 1 := by
  simp only [toPy, PyData.depth]
  exact Nat.add_le_add_right (depthAll_le h) 1
theorem ceq_nil (cs : List CV) : ceq (.lst cs) (.lst []) = cs.isEmpty := by
  cases cs with
  | nil => rfl
  | cons c cs => rfl
/-- a way goes on behind another one of these -/
noncomputable def covered (way : List Str) (others : List (List Str)) : Bool := others.any fun u => !decide (u = way) && u.isPrefixOf way
theorem covered_filter (way : List Str) (others : List (List Str)) : (!((others.filter fun u => !decide (u = way) && u.isPrefixOf way).map wcv).isEmpty) = covered way others := by
  unfold covered
  induction others with
  | nil => rfl
  | cons u us ih =>
    rw [List.filter_cons, List.any_cons]
    cases hb : (!decide (u = way) && u.isPrefixOf way) with
    | true => rfl
    | false => exact ih
theorem depth_wcv2 (q : List Str) : (toPy (wcv q)).depth ≤ 2 := by
  have := depth_strs q
  simp only [wcv, toPy, PyData.depth]
  omega
section
variable {C C' : Cx} {dep : Nat} {H : CH} {cl x fa3 fa4 fa5 fa6 fa7 fa8 : Addr} {ow : FO} {m : MS}

theorem covLoop_W {way : List Str} {p0 p1 p2 p3 p4 p5 p6 p7 p8 p9 p10 p11 p12 p13 : Pos} {Q : List CV → CSt → Prop} (ok : C.Ok dep) (hg : GOk C [("len", .builtin "len")]) (hkw : ownKind (C.env.kindOf "way") = true) (hku : C.env.kindOf "u" = some .local) (hkl : C.env.kindOf "len" = some .globalImplicit) (hwo : way.all PyData.strOk = true) (hwl : way.length ≤ 1000) :
    ∀ (ws : List (List Str)) (acc : List CV) (lo : Str → Option CV), acc.length + ws.length ≤ 20000 → (∀ u ∈ ws, u.all PyData.strOk = true ∧ u.length ≤ 1000) → lo "way" = some (wcv way) → (∀ lo', (∀ y : Str, y ≠ "u" → lo' y = lo y) → Q (acc ++ (ws.filter fun u => !decide (u = way) && u.isPrefixOf way).map wcv) ⟨lo', H⟩) →
      WCI C (emitOf C (.Name "u" p1) []) (.Name "u" p0) [.BoolOp .And [.Compare (.Name "u" p2) [.NotEq] [.Name "way" p3] p4, .Compare (.Subscript (.Name "way" p5) (.Slice none (some (.Call (.Name "len" p6) [.Name "u" p7] [] p8)) none p9) p10) [.Eq] [.Name "u" p11] p12] p13] (ws.map wcv) ⟨lo, H⟩ acc Q := by
  intro ws
  induction ws with
  | nil => intro acc lo _ _ l1 q; have := q lo fun _ _ => rfl; simpa [WCI] using this
  | cons u us ih =>
    intro acc lo hl hu l1 q
    simp only [List.length_cons] at hl
    obtain ⟨u1, u2⟩ := hu u List.mem_cons_self
    have ih' := fun acc' h1 (q' : ∀ lo', (∀ y : Str, y ≠ "u" → lo' y = lput lo "u" (wcv u) y) → Q (acc' ++ (us.filter fun u => !decide (u = way) && u.isPrefixOf way).map wcv) ⟨lo', H⟩) => ih acc' (lput lo "u" (wcv u)) h1 (fun v hv => hu v (List.mem_cons_of_mem _ hv)) l1 q'
    have rest : ∀ {lo' : Str → Option CV}, (∀ y : Str, y ≠ "u" → lo' y = lput lo "u" (wcv u) y) → ∀ y : Str, y ≠ "u" → lo' y = lo y := fun h' y hy => by rw [h' y hy]; simp [lput, hy]
    refine WA.name ok (by rw [hku]; rfl) ?_
    refine WT.boolop (WT.cmp1 (WE.name ok.fun_ (v := wcv u) rfl (WE.name ok.fun_ (v := wcv way) l1 (W2.neP ok (isPy_wcv u1) (isPy_wcv hwo) (depth_wcv u) (Wtr.bool ?_)) hkw) (by rw [hku]; rfl)))
    rw [ceq_wcv]
    by_cases hw : u = way
    · rw [decide_eq_true hw]
      refine cF ?_
      refine ih' acc (by omega) fun lo' h' => ?_
      have := q lo' (rest h')
      simpa [hw] using this
    · rw [decide_eq_false hw]
      refine WT.cmp1 (WE.slice (WE.name ok.fun_ (v := wcv way) l1 (WE.call ok (WE.glob ok hg (v := .builtin "len") rfl ⟨_, rfl, KpOk.builtin, WE.name ok.fun_ (v := wcv u) rfl (WCall.lenT (by simp; omega) ⟨_, rfl, WSl.tupTo (by simp; omega) ?_⟩) (by rw [hku]; rfl)⟩ hkl)) hkw))
      rw [pre_slice]
      refine WE.name ok.fun_ (v := wcv u) rfl (W2.eqP ok (isPy_wcv (strOk_take hwo)) (isPy_wcv u1) (depth_wcv _) (Wtr.bool ?_)) (by rw [hku]; rfl)
      rw [ceq_wcv, isPrefixOf_take]
      cases hb : u.isPrefixOf way with
      | true =>
        refine WE.name ok.fun_ (v := wcv u) rfl ⟨by omega, ?_⟩ (by rw [hku]; rfl)
        refine ih' (acc ++ [wcv u]) (by simp; omega) fun lo' h' => ?_
        have := q lo' (rest h')
        simpa [hw, hb] using this
      | false =>
        refine cF ?_
        refine ih' acc (by omega) fun lo' h' => ?_
        have := q lo' (rest h')
        simpa [hw, hb] using this

theorem LCtx.covered {way : List Str} {ws : List (List Str)} {Q : CV → CSt → Prop} {st : CSt} (ok : C.Ok (dep + 1)) (L : LCtx C cl fa3 fa4 fa5 fa6 fa7 fa8) (hwo : way.all PyData.strOk = true) (hwl : way.length ≤ 1000) (hl : ws.length ≤ 10000) (hu : ∀ u ∈ ws, u.all PyData.strOk = true ∧ u.length ≤ 1000)
    (h : Q (.bool (Mine.covered way ws)) st) : WCall C (.ref fa7) [wcv way, .lst (ws.map wcv)] [] [] st Q := by
  obtain ⟨fd, l7⟩ := L.f7
  refine l7.call ok (by decide +kernel) rfl fun C' ok' s hk => ?_
  have L' := L.same s
  have hkw : C'.env.kindOf "way" = some .cell := by rw [hk]; rfl
  refine WSs.cons (WS.ret (WE.cmp1 (WE.comp ok' (WE.nm ok' hk (v := .lst (ws.map wcv)) rfl ⟨_, IterOf.lst, fun C2 ok2 s2 hsc => ?_⟩) ?_)))
  · have kx : ∀ y, C2.env.kindOf y = _ := fun y => by unfold Env.kindOf; rw [hsc, relabel_lookup]
    refine covLoop_W (way := way) ok2 (L'.g.same s2).sub (by rw [kx, hk, ok'.fun_]; rfl) (by rw [kx]; rfl) (by rw [kx]; rfl) hwo hwl ws [] _ (by simp; omega) hu rfl fun lo' h' => ⟨fun y hy => ?_, .inl ?_⟩
    · have := mem_of_lookupK hy
      simp at this
      subst this
      exact h' _ (by decide)
    · refine WE.listF ⟨by simp, W2.neP ok' (isPys_coded fun u hu' => isPy_wcv (hu u (List.mem_filter.mp hu').1).1) rfl (Nat.le_trans (depth_lst (n := 2) fun c hc => ?_) (by decide)) ?_⟩
      · obtain ⟨u, _, rfl⟩ := List.mem_map.mp hc
        exact depth_wcv2 u
      · rw [ceq_nil, List.nil_append, covered_filter]
        exact h
  · simp only [List.all_cons, List.all_nil, hkw]
    rfl
end
end Mine
open PySem PySem.W PySem.Calls PyProof.Rows
set_option Elab.async false
set_option linter.all false
set_option maxRecDepth 100000
set_option genSizeOf false
namespace Mine
section
variable {C C' : Cx} {dep : Nat} {H : CH} {cl x fa3 fa4 fa5 fa6 fa7 fa8 : Addr} {ow : FO} {m : MS}

/-- the marks that stand when all at a way and below it is taken off -/
theorem filtLoop_W {way : List Str} {p0 p1 p2 p3 p4 p5 p6 p7 p8 p9 p10 p11 : Pos} {k0 : Nat} {Q : List CV → CSt → Prop} (ok : C.Ok dep) (hg : GOk C [("len", .builtin "len")]) (hkw : ownKind (C.env.kindOf "way") = true) (hku : C.env.kindOf "mark" = some .local) (hkl : C.env.kindOf "len" = some .globalImplicit) (hwo : way.all PyData.strOk = true) (hwl : way.length ≤ 1000) :
    ∀ (ms : List (Int × List Str × Int)) (acc : List CV) (lo : Str → Option CV), acc.length + ms.length ≤ 20000 → (∀ c ∈ ms, c.2.1.all PyData.strOk = true ∧ c.2.1.length ≤ 1000) → lo "way" = some (wcv way) → (∀ lo', (∀ y : Str, y ≠ "mark" → lo' y = lo y) → Q (acc ++ (ms.filter fun c => !way.isPrefixOf c.2.1).map callC) ⟨lo', H⟩) →
      WCI C (emitOf C (.Name "mark" p1) []) (.Name "mark" p0) [.Compare (.Subscript (.Subscript (.Name "mark" p2) (.Constant (.int 1) k0 p3) p4) (.Slice none (some (.Call (.Name "len" p5) [.Name "way" p6] [] p7)) none p8) p9) [.NotEq] [.Name "way" p10] p11] (ms.map callC) ⟨lo, H⟩ acc Q := by
  intro ms
  induction ms with
  | nil => intro acc lo _ _ l1 q; have := q lo fun _ _ => rfl; simpa [WCI] using this
  | cons c cs ih =>
    intro acc lo hl hu l1 q
    simp only [List.length_cons] at hl
    obtain ⟨u1, u2⟩ := hu c List.mem_cons_self
    have ih' := fun acc' h1 (q' : ∀ lo', (∀ y : Str, y ≠ "mark" → lo' y = lput lo "mark" (callC c) y) → Q (acc' ++ (cs.filter fun c => !way.isPrefixOf c.2.1).map callC) ⟨lo', H⟩) => ih acc' (lput lo "mark" (callC c)) h1 (fun v hv => hu v (List.mem_cons_of_mem _ hv)) l1 q'
    have rest : ∀ {lo' : Str → Option CV}, (∀ y : Str, y ≠ "mark" → lo' y = lput lo "mark" (callC c) y) → ∀ y : Str, y ≠ "mark" → lo' y = lo y := fun h' y hy => by rw [h' y hy]; simp [lput, hy]
    refine WA.name ok (by rw [hku]; rfl) ?_
    refine WT.cmp1 (WE.slice (WE.sub (WE.name ok.fun_ (v := .tup [.int c.1, wcv c.2.1, .int c.2.2]) rfl (WE.int (W2.itemT (c := wcv c.2.1) (by simp) (by simp) (by simp) rfl (WE.call ok (WE.glob ok hg (v := .builtin "len") rfl ⟨_, rfl, KpOk.builtin, WE.name ok.fun_ (v := wcv way) l1 (WCall.lenT (by simp; omega) ⟨_, rfl, WSl.tupTo (by simp; omega) ?_⟩) hkw⟩ hkl)))) (by rw [hku]; rfl))))
    rw [pre_slice]
    refine WE.name ok.fun_ (v := wcv way) l1 (W2.neP ok (isPy_wcv (strOk_take u1)) (isPy_wcv hwo) (depth_wcv _) (Wtr.bool ?_)) hkw
    rw [ceq_wcv, isPrefixOf_take]
    refine cB (fun hb => ?_) fun hb => cF ?_
    · have hn : way.isPrefixOf c.2.1 = false := by simpa using hb
      refine WE.name ok.fun_ (v := callC c) rfl ⟨by omega, ?_⟩ (by rw [hku]; rfl)
      refine ih' (acc ++ [callC c]) (by simp; omega) fun lo' h' => ?_
      have := q lo' (rest h')
      simpa [hn] using this
    · have hn : way.isPrefixOf c.2.1 = true := by simpa using hb
      refine ih' acc (by omega) fun lo' h' => ?_
      have := q lo' (rest h')
      simpa [hn] using this

/-- what waits is made a call of a kind -/
theorem kindLoop_W {kd : Int} {p1 p2 p3 p4 p5 p6 p7 : Pos} {k0 k1 k2 : Nat} {Q : List CV → CSt → Prop} (ok : C.Ok dep) (hkw : C.env.kindOf "w" = some .local) (hkg : C.env.kindOf "g" = some .local) :
    ∀ (us : List (List Str × Int)) (acc : List CV) (lo : Str → Option CV), acc.length + us.length ≤ 20000 → (∀ lo', (∀ y : Str, y ≠ "w" → y ≠ "g" → lo' y = lo y) → Q (acc ++ us.map fun u => callC (kd, u.1, u.2)) ⟨lo', H⟩) →
      WCI C (emitOf C (.Tuple [.Constant (.int kd) k0 p1, .Name "w" p2, .Name "g" p3] k1 p4) []) (.Tuple [.Name "w" p5, .Name "g" p6] k2 p7) [] (us.map pcv) ⟨lo, H⟩ acc Q := by
  intro us
  induction us with
  | nil => intro acc lo _ q; have := q lo fun _ _ _ => rfl; simpa [WCI] using this
  | cons u us ih =>
    intro acc lo hl q
    simp only [List.length_cons] at hl
    refine WA.tuple (vs := [wcv u.1, .int u.2]) ok rfl (WA.name ok (by rw [hkw]; rfl) (WA.name ok (by rw [hkg]; rfl) ?_))
    refine WE.tuple (WE.int (WE.name ok.fun_ (v := wcv u.1) rfl (WE.name ok.fun_ (v := .int u.2) rfl ⟨by simp, by omega, ?_⟩ (by rw [hkg]; rfl)) (by rw [hkw]; rfl)))
    refine ih (acc ++ [callC (kd, u.1, u.2)]) (lput (lput lo "w" (wcv u.1)) "g" (.int u.2)) (by simp; omega) fun lo' h' => ?_
    have := q lo' fun y h1 h2 => by rw [h' y h1 h2]; simp [lput, h1, h2]
    simpa using this
end
end Mine
open PySem PySem.W PySem.Calls PyProof.Rows
set_option Elab.async false
set_option linter.all false
set_option maxRecDepth 100000
set_option genSizeOf false
namespace Mine
/-- lists that stand apart, made behind a heap -/
structure Held (H0 H : CH) (ps : List (Addr × List CV)) : Prop where
  nd : (ps.map (·.1)).Nodup
  at_ : ∀ p ∈ ps, H p.1 = some (.list p.2)
  new : ∀ p ∈ ps, H0 p.1 = none
  keep : ∀ b, H0 b ≠ none → H b = H0 b
section
variable {H0 H : CH} {ps qs : List (Addr × List CV)} {a D : Addr} {cs ds : List CV}
theorem Held.nil (H : CH) : Held H H [] := ⟨List.nodup_nil, fun p hp => (by cases hp), fun p hp => (by cases hp), fun _ _ => rfl⟩
theorem Held.perm (h : Held H0 H ps) (p : ps.Perm qs) : Held H0 H qs :=
  ⟨(p.map _).nodup_iff.mp h.nd, fun q hq => h.at_ q (p.mem_iff.mpr hq), fun q hq => h.new q (p.mem_iff.mpr hq), h.keep⟩
theorem Held.head (h : Held H0 H ((a, cs) :: ps)) : H a = some (.list cs) := h.at_ _ List.mem_cons_self
theorem Held.ne (h : Held H0 H ((a, cs) :: ps)) {p : Addr × List CV} (hp : p ∈ ps) : p.1 ≠ a := fun e => by
  have := h.nd
  rw [List.map_cons, List.nodup_cons] at this
  exact this.1 (List.mem_map.mpr ⟨p, hp, e⟩)
theorem Held.put (h : Held H0 H ((a, cs) :: ps)) (ds : List CV) : Held H0 (hput H a (.list ds)) ((a, ds) :: ps) := by
  refine ⟨h.nd, fun p hp => ?_, fun p hp => ?_, fun b hb => ?_⟩
  · rcases List.mem_cons.mp hp with e | hp
    · rw [e]; exact hput_self
    · rw [hput_ne (h.ne hp)]; exact h.at_ p (List.mem_cons_of_mem _ hp)
  · rcases List.mem_cons.mp hp with e | hp
    · rw [e]; exact h.new (a, cs) List.mem_cons_self
    · exact h.new p (List.mem_cons_of_mem _ hp)
  · rw [hput_ne fun e => hb (by rw [e]; exact h.new (a, cs) List.mem_cons_self)]; exact h.keep b hb
theorem Held.del (h : Held H0 H ((a, cs) :: ps)) : Held H0 (hdel H a) ps := by
  refine ⟨?_, fun p hp => ?_, fun p hp => h.new p (List.mem_cons_of_mem _ hp), fun b hb => ?_⟩
  · have := h.nd
    rw [List.map_cons, List.nodup_cons] at this
    exact this.2
  · rw [hdel_ne (h.ne hp)]; exact h.at_ p (List.mem_cons_of_mem _ hp)
  · rw [hdel_ne fun e => hb (by rw [e]; exact h.new (a, cs) List.mem_cons_self)]; exact h.keep b hb
theorem Held.add (h : Held H0 H ps) (hD : H D = none) (ds : List CV) : Held H0 (hput H D (.list ds)) ((D, ds) :: ps) := by
  have hn : ∀ p ∈ ps, p.1 ≠ D := fun p hp e => by have := h.at_ p hp; rw [e, hD] at this; cases this
  have h0 : H0 D = none := by
    cases e : H0 D with
    | none => rfl
    | some c => have := h.keep D (by rw [e]; simp); rw [hD, e] at this; cases this
  refine ⟨?_, fun p hp => ?_, fun p hp => ?_, fun b hb => ?_⟩
  · rw [List.map_cons, List.nodup_cons]
    refine ⟨fun hm => ?_, h.nd⟩
    obtain ⟨p, hp, e⟩ := List.mem_map.mp hm
    exact hn p hp e
  · rcases List.mem_cons.mp hp with e | hp
    · rw [e]; exact hput_self
    · rw [hput_ne (hn p hp)]; exact h.at_ p hp
  · rcases List.mem_cons.mp hp with e | hp
    · rw [e]; exact h0
    · exact h.new p hp
  · rw [hput_ne fun e => hb (by rw [e]; exact h0)]; exact h.keep b hb
end

/-- what the short form gathers -/
structure SS where
  e : List (List Str)
  l : List (List Str)
  md : List (Int × List Str × Int)
  w : List (List Str × Int)
  mid : Bool
noncomputable def SS.step (s : SS) (c : Int × List Str × Int) : SS :=
  if c.1 < 2 then { s with md := s.md ++ [c] }
  else if c.1 = 2 then { s with w := s.w ++ [(c.2.1, c.2.2)] }
  else if c.1 = 3 then { s with md := s.md ++ s.w.map (fun u => (0, u.1, u.2)), w := [], mid := true }
  else if s.mid then { s with md := s.md.filter (fun k => !c.2.1.isPrefixOf k.2.1), l := s.l ++ [c.2.1] }
  else { s with md := s.md.filter (fun k => !c.2.1.isPrefixOf k.2.1), e := s.e ++ [c.2.1] }
noncomputable def SS.n (s : SS) : Nat := s.e.length + s.l.length + s.md.length + s.w.length
noncomputable def wgood (q : List Str) : Prop := q.all PyData.strOk = true ∧ q.length ≤ 1000
noncomputable def SS.good (s : SS) : Prop := ((∀ q ∈ s.e, wgood q) ∧ ∀ q ∈ s.l, wgood q) ∧ (∀ c ∈ s.md, wgood c.2.1) ∧ ∀ u ∈ s.w, wgood u.1
noncomputable def midL (b : Bool) : List CV := if b then [callC (3, [], 0)] else []
theorem mem_snoc {α : Type} {P : α → Prop} {l : List α} {a : α} (h : ∀ x ∈ l, P x) (ha : P a) : ∀ x ∈ l ++ [a], P x := fun x hx => by
  rcases List.mem_append.mp hx with hx | hx
  · exact h x hx
  · rw [List.mem_singleton.mp hx]; exact ha
theorem SS.step_good {s : SS} {c : Int × List Str × Int} (h : s.good) (hc : wgood c.2.1) : (s.step c).good := by
  obtain ⟨⟨h1, h2⟩, h3, h4⟩ := h
  unfold SS.step
  split
  · exact ⟨⟨h1, h2⟩, mem_snoc h3 hc, h4⟩
  · split
    · exact ⟨⟨h1, h2⟩, h3, mem_snoc h4 hc⟩
    · split
      · refine ⟨⟨h1, h2⟩, fun k hk => ?_, fun u hu => by cases hu⟩
        rcases List.mem_append.mp hk with hk | hk
        · exact h3 k hk
        · obtain ⟨u, hu, rfl⟩ := List.mem_map.mp hk
          exact h4 u hu
      · split
        · exact ⟨⟨h1, mem_snoc h2 hc⟩, fun k hk => h3 k (List.mem_filter.mp hk).1, h4⟩
        · exact ⟨⟨mem_snoc h1 hc, h2⟩, fun k hk => h3 k (List.mem_filter.mp hk).1, h4⟩
theorem SS.step_n {s : SS} {c : Int × List Str × Int} : (s.step c).n ≤ s.n + 1 := by
  unfold SS.step SS.n
  have hf := List.length_filter_le (fun k : Int × List Str × Int => !c.2.1.isPrefixOf k.2.1) s.md
  split
  · simp; omega
  · split
    · simp; omega
    · split
      · simp; omega
      · split <;> simp <;> omega
end Mine
open PySem PySem.W PySem.Calls PyProof.Rows
set_option Elab.async false
set_option linter.all false
set_option maxRecDepth 100000
set_option genSizeOf false
namespace Mine
section
variable {C C' : Cx} {dep : Nat} {H0 H : CH} {cl x fa3 fa4 fa5 fa6 fa7 fa8 : Addr}

noncomputable def SS.cells (s : SS) (ae al am aw : Addr) : List (Addr × List CV) := [(ae, s.e.map wcv), (al, s.l.map wcv), (am, s.md.map callC), (aw, s.w.map pcv)]

theorem shortLoop_W {t : Expr} {body : List Stmt} {Q : CF → CSt → Prop} (ok : C.Ok dep) (hk : HK C (scopeOf (lawF 8))) (hg : GOk C [("len", .builtin "len")]) (e : ∃ it o p, nth (bodyOf (lawF 8)) 1 = .For t it body o p) :
    ∀ (cs : List (Int × List Str × Int)) (s : SS) (ae al am aw : Addr) (H : CH) (lo : Str → Option CV), Held H0 H (s.cells ae al am aw) → s.n + cs.length ≤ 5000 → s.good → (∀ c ∈ cs, wgood c.2.1) →
      lo "early" = some (.loc ae) → lo "late" = some (.loc al) → lo "made" = some (.loc am) → lo "waits" = some (.loc aw) → lo "middle" = some (.lst (midL s.mid)) →
      (∀ ae' al' am' aw' H' lo', Held H0 H' ((cs.foldl SS.step s).cells ae' al' am' aw') → lo' "early" = some (.loc ae') → lo' "late" = some (.loc al') → lo' "made" = some (.loc am') → lo' "waits" = some (.loc aw') → lo' "middle" = some (.lst (midL (cs.foldl SS.step s).mid)) → Q .next ⟨lo', H'⟩) →
      WFor C t body [] (cs.map callC) ⟨lo, H⟩ Q := by
  apply forE (t := t) (body := body) e
  intro cs
  induction cs with
  | nil => intro s ae al am aw H lo h _ _ _ l1 l2 l3 l4 l5 q; exact WSs.nil (q ae al am aw H lo h l1 l2 l3 l4 l5)
  | cons c cs ih =>
    intro s ae al am aw H lo h hn hgd hc l1 l2 l3 l4 l5 q
    simp only [List.length_cons] at hn
    have hc1 := hc c List.mem_cons_self
    have hs1 := SS.step_good hgd hc1
    have hs2 := SS.step_n (s := s) (c := c)
    have ih' := fun ae' al' am' aw' H' lo' (h' : Held H0 H' ((s.step c).cells ae' al' am' aw')) l1 l2 l3 l4 l5 => ih (s.step c) ae' al' am' aw' H' lo' h' (by omega) hs1 (fun k hk => hc k (List.mem_cons_of_mem _ hk)) l1 l2 l3 l4 l5 q
    have hE : s.e.length ≤ 5000 := by unfold SS.n at hn; omega
    have hL : s.l.length ≤ 5000 := by unfold SS.n at hn; omega
    have hM : s.md.length ≤ 5000 := by unfold SS.n at hn; omega
    have hW : s.w.length ≤ 5000 := by unfold SS.n at hn; omega
    have pm : (s.cells ae al am aw).Perm [(am, s.md.map callC), (ae, s.e.map wcv), (al, s.l.map wcv), (aw, s.w.map pcv)] := by unfold SS.cells; exact ((List.Perm.swap _ _ _).cons _).trans (List.Perm.swap _ _ _)
    have pw : (s.cells ae al am aw).Perm [(aw, s.w.map pcv), (ae, s.e.map wcv), (al, s.l.map wcv), (am, s.md.map callC)] := by unfold SS.cells; exact (((List.Perm.swap _ _ _).cons _).cons _).trans (((List.Perm.swap _ _ _).cons _).trans (List.Perm.swap _ _ _))
    have hm := (h.perm pm).head
    have hw := (h.perm pw).head
    obtain ⟨c1, c2, c3⟩ := c
    refine WA.tuple (vs := [.int c1, wcv c2, .int c3]) ok rfl (WA.nm ok hk (WA.nm ok hk (WA.nm ok hk ?_)))
    refine WSs.cons (WS.if_ (WT.cmp1 (WE.nm ok hk rfl (WE.int (W2.ltI (Wtr.bool (cB (fun hc => ?_) fun hc => ?_)))))))
    · have hlt : c1 < 2 := by simpa using hc
      refine WSs.cons (WS.expr ok (WE.meth ok (WE.nm ok hk (v := .loc am) l3 ⟨_, KpOk.builtin, WMeth.listLoc (cs := s.md.map callC) hm PySem.F.slot_list_append PySem.F.type_list_append, WE.tuple (WE.nm ok hk rfl (WE.nm ok hk rfl (WE.nm ok hk rfl ⟨by simp, WCall.append hm (by simp; omega) ⟨rfl, WSs.nil (WSs.nil (ih' ae al am aw _ _ ?_ l1 l2 l3 l4 ?_))⟩⟩)))⟩)))
      · have := ((h.perm pm).put (s.md.map callC ++ [callC (c1, c2, c3)])).perm (((List.Perm.swap _ _ _).trans ((List.Perm.swap _ _ _).cons _)))
        rw [show s.step (c1, c2, c3) = { s with md := s.md ++ [(c1, c2, c3)] } by simp [SS.step, hlt]]
        show Held _ _ [_, _, (am, (s.md ++ [(c1, c2, c3)]).map callC), _]
        rw [List.map_append]; exact this
      · rw [show s.step (c1, c2, c3) = { s with md := s.md ++ [(c1, c2, c3)] } by simp [SS.step, hlt]]; exact l5
    have hge : ¬ c1 < 2 := by simpa using hc
    refine WSs.cons (WS.if_ (WT.cmp1 (WE.nm ok hk rfl (WE.int (W2.eqI (Wtr.bool (cB (fun hc => ?_) fun hc => ?_)))))))
    · have he : c1 = 2 := by simpa using hc
      refine WSs.cons (WS.expr ok (WE.meth ok (WE.nm ok hk (v := .loc aw) l4 ⟨_, KpOk.builtin, WMeth.listLoc (cs := s.w.map pcv) hw PySem.F.slot_list_append PySem.F.type_list_append, WE.tuple (WE.nm ok hk rfl (WE.nm ok hk rfl ⟨by simp, WCall.append hw (by simp; omega) ⟨rfl, WSs.nil (WSs.nil (WSs.nil (ih' ae al am aw _ _ ?_ l1 l2 l3 l4 ?_)))⟩⟩))⟩)))
      · have := ((h.perm pw).put (s.w.map pcv ++ [pcv (c2, c3)])).perm ((List.Perm.swap _ _ _).trans (((List.Perm.swap _ _ _).cons _).trans (((List.Perm.swap _ _ _).cons _).cons _)))
        rw [show s.step (c1, c2, c3) = { s with w := s.w ++ [(c2, c3)] } by simp [SS.step, he]]
        show Held _ _ [_, _, _, (aw, (s.w ++ [(c2, c3)]).map pcv)]
        rw [List.map_append]; exact this
      · rw [show s.step (c1, c2, c3) = { s with w := s.w ++ [(c2, c3)] } by simp [SS.step, he]]; exact l5
    have hne : ¬ c1 = 2 := by simpa using hc
    refine WSs.cons (WS.if_ (WT.cmp1 (WE.nm ok hk rfl (WE.int (W2.eqI (Wtr.bool (cB (fun hc => ?_) fun hc => ?_)))))))
    · have he : c1 = 3 := by simpa using hc
      have est : s.step (c1, c2, c3) = { s with md := s.md ++ s.w.map (fun u => (0, u.1, u.2)), w := [], mid := true } := by simp [SS.step, he]
      have h1 := (h.perm pw).del
      have pm1 : [(ae, s.e.map wcv), (al, s.l.map wcv), (am, s.md.map callC)].Perm [(am, s.md.map callC), (ae, s.e.map wcv), (al, s.l.map wcv)] := ((List.Perm.swap _ _ _).cons _).trans (List.Perm.swap _ _ _)
      have h2 := h1.perm pm1
      refine WSs.freeze (x := "waits") (a := aw) (cs := s.w.map pcv) l4 hw ?_
      refine WSs.cons (WS.expr ok (WE.meth ok (WE.nm ok hk (v := .loc am) l3 ⟨_, KpOk.builtin, WMeth.listLoc (cs := s.md.map callC) h2.head PySem.F.slot_list_extend PySem.F.type_list_extend, WE.comp ok (WE.nm ok hk (v := .lst (s.w.map pcv)) rfl ⟨_, IterOf.lst, fun C2 ok2 s2 hsc => ?_⟩) (by rfl)⟩)))
      have kx : ∀ y, C2.env.kindOf y = _ := fun y => by unfold Env.kindOf; rw [hsc, relabel_lookup]
      refine kindLoop_W ok2 (by rw [kx]; rfl) (by rw [kx]; rfl) s.w [] _ (by simp; omega) fun lo' h' => ⟨fun y hy => by have := mem_of_lookupK hy; simp at this, .inl ?_⟩
      refine WCall.extend h2.head (by simp; omega) ⟨rfl, ?_⟩
      have h3 := h2.put (s.md.map callC ++ ([] ++ s.w.map fun u => callC (0, u.1, u.2)))
      refine WSs.cons (WS.assign1 (WE.list ⟨by simp, fun a ha => WA.nm ok hk ?_⟩))
      refine WSs.cons (WS.assign1 (WE.listF (WE.tuple (WE.int (WE.tuple ⟨by simp, WE.int ⟨by simp, by simp, WA.nm ok hk (WSs.nil (WSs.nil (WSs.nil (WSs.nil ?_))))⟩⟩)))))
      have h4 := h3.add ha []
      refine ih' ae al am a _ _ ?_ l1 l2 l3 rfl ?_
      · rw [est]
        show Held _ _ [(ae, s.e.map wcv), (al, s.l.map wcv), (am, (s.md ++ s.w.map fun u : List Str × Int => ((0 : Int), u.1, u.2)).map callC), (a, [])]
        rw [List.map_append, List.map_map]
        exact h4.perm ((List.reverse_perm _).symm.trans (List.Perm.swap _ _ _))
      · rw [est]; rfl
    have hne3 : ¬ c1 = 3 := by simpa using hc
    have h1 := (h.perm pm).del
    refine WSs.freeze (x := "made") (a := am) (cs := s.md.map callC) l3 hm ?_
    have hkw : C.env.kindOf "way" = some .cell := by rw [hk]; rfl
    obtain ⟨g1, g2⟩ := hc1
    refine WSs.cons (WS.assignComp ok (WE.nm ok hk (v := .lst (s.md.map callC)) rfl ⟨_, IterOf.lst, fun C2 ok2 s2 hsc => ?_⟩) ?_ (by rw [hk]; rfl) ?_)
    · have kx : ∀ y, C2.env.kindOf y = _ := fun y => by unfold Env.kindOf; rw [hsc, relabel_lookup]
      refine filtLoop_W (way := c2) ok2 (hg.same s2) (by rw [kx, hk, ok.fun_]; rfl) (by rw [kx]; rfl) (by rw [kx]; rfl) g1 g2 s.md [] _ (by simp; omega) hgd.2.1 rfl fun lo' h' => ⟨fun y hy => ?_, .inr fun D hD => ?_⟩
      · have := mem_of_lookupK hy
        simp at this
        subst this
        exact h' _ (by decide)
      · have h2 := h1.add hD ((s.md.filter fun k => !c2.isPrefixOf k.2.1).map callC)
        have pe : [(D, (s.md.filter fun k => !c2.isPrefixOf k.2.1).map callC), (ae, s.e.map wcv), (al, s.l.map wcv), (aw, s.w.map pcv)].Perm [(ae, s.e.map wcv), (al, s.l.map wcv), (D, (s.md.filter fun k => !c2.isPrefixOf k.2.1).map callC), (aw, s.w.map pcv)] := (List.Perm.swap _ _ _).trans ((List.Perm.swap _ _ _).cons _)
        refine WSs.cons (WS.if_ (WT.cmp1 (WE.nm ok hk (v := .lst (midL s.mid)) l5 (WE.listF ⟨by simp, W2.eqP ok (by cases s.mid <;> rfl) rfl (by cases s.mid <;> decide) (Wtr.bool ?_)⟩))))
        rw [ceq_nil]
        refine cB (fun hb => ?_) fun hb => ?_
        · have hmid : s.mid = false := by cases hm : s.mid with | false => rfl | true => rw [hm] at hb; cases hb
          have h3 := h2.perm pe
          refine WSs.cons (WS.expr ok (WE.meth ok (WE.nm ok hk (v := .loc ae) l1 ⟨_, KpOk.builtin, WMeth.listLoc (cs := s.e.map wcv) h3.head PySem.F.slot_list_append PySem.F.type_list_append, WE.nm ok hk (v := wcv c2) rfl (WCall.append h3.head (by simp; omega) ⟨rfl, WSs.nil (WSs.nil (WSs.nil (WSs.nil (WSs.nil (ih' ae al D aw _ _ ?_ l1 l2 rfl l4 ?_)))))⟩)⟩)))
          · rw [show s.step (c1, c2, c3) = { s with md := s.md.filter (fun k => !c2.isPrefixOf k.2.1), e := s.e ++ [c2] } by simp [SS.step, hge, hne, hne3, hmid]]
            show Held _ _ [(ae, (s.e ++ [c2]).map wcv), _, _, _]
            rw [List.map_append]
            exact h3.put _
          · rw [show s.step (c1, c2, c3) = { s with md := s.md.filter (fun k => !c2.isPrefixOf k.2.1), e := s.e ++ [c2] } by simp [SS.step, hge, hne, hne3, hmid]]
            exact l5
        · have hmid : s.mid = true := by cases hm : s.mid with | true => rfl | false => rw [hm] at hb; cases hb
          have h3 := (h2.perm pe).perm (List.Perm.swap _ _ _)
          refine WSs.cons (WS.expr ok (WE.meth ok (WE.nm ok hk (v := .loc al) l2 ⟨_, KpOk.builtin, WMeth.listLoc (cs := s.l.map wcv) h3.head PySem.F.slot_list_append PySem.F.type_list_append, WE.nm ok hk (v := wcv c2) rfl (WCall.append h3.head (by simp; omega) ⟨rfl, WSs.nil (WSs.nil (WSs.nil (WSs.nil (WSs.nil (ih' ae al D aw _ _ ?_ l1 l2 rfl l4 ?_)))))⟩)⟩)))
          · rw [show s.step (c1, c2, c3) = { s with md := s.md.filter (fun k => !c2.isPrefixOf k.2.1), l := s.l ++ [c2] } by simp [SS.step, hge, hne, hne3, hmid]]
            show Held _ _ [_, (al, (s.l ++ [c2]).map wcv), _, _]
            rw [List.map_append]
            exact (h3.put _).perm (List.Perm.swap _ _ _)
          · rw [show s.step (c1, c2, c3) = { s with md := s.md.filter (fun k => !c2.isPrefixOf k.2.1), l := s.l ++ [c2] } by simp [SS.step, hge, hne, hne3, hmid]]
            exact l5
    · simp only [List.all_cons, List.all_nil, hkw]
      rfl
    · have k1 : C.env.kindOf "made" = some .local := by rw [hk]; rfl
      have k3 : C.env.blockKind = .function := blockKind_of ok
      unfold swapsWith
      dsimp only
      rewrite [k1, k3]
      rfl
end
end Mine
open PySem PySem.W PySem.Calls PyProof.Rows
set_option Elab.async false
set_option linter.all false
set_option maxRecDepth 100000
set_option genSizeOf false
namespace Mine
section
variable {C C' : Cx} {dep : Nat} {H0 H : CH} {cl x fa3 fa4 fa5 fa6 fa7 fa8 : Addr}

/-- a list's items for which a test holds -/
theorem filtGen_W {α : Type} {f : α → CV} {P : α → Bool} {l : List α} {nm : Str} {c : Expr} {p0 p1 : Pos} {lo0 : Str → Option CV} {Q : List CV → CSt → Prop} (ok : C.Ok dep) (hku : C.env.kindOf nm = some .local) (hd : (nm == ("__debug__" : Str)) = false) (hcd : (nm == ("__classdict__" : Str)) = false)
    (test : ∀ a ∈ l, ∀ (lo' : Str → Option CV) (QT : Bool → CSt → Prop), lo' nm = some (f a) → (∀ y : Str, y ≠ nm → lo' y = lo0 y) → QT (P a) ⟨lo', H⟩ → WT C c ⟨lo', H⟩ QT) :
    ∀ (xs : List α) (acc : List CV) (lo : Str → Option CV), (∀ a ∈ xs, a ∈ l) → acc.length + xs.length ≤ 20000 → (∀ y : Str, y ≠ nm → lo y = lo0 y) → (∀ lo', (∀ y : Str, y ≠ nm → lo' y = lo0 y) → Q (acc ++ (xs.filter P).map f) ⟨lo', H⟩) →
      WCI C (emitOf C (.Name nm p1) []) (.Name nm p0) [c] (xs.map f) ⟨lo, H⟩ acc Q := by
  intro xs
  induction xs with
  | nil => intro acc lo _ _ h0 q; have := q lo h0; simpa [WCI] using this
  | cons a xs ih =>
    intro acc lo hx hl h0 q
    simp only [List.length_cons] at hl
    have h0' : ∀ y : Str, y ≠ nm → lput lo nm (f a) y = lo0 y := fun y hy => by rw [← h0 y hy]; simp [lput, hy]
    have hat : lput lo nm (f a) nm = some (f a) := by simp [lput]
    refine WA.name ok (by rw [hku]; rfl) ?_
    refine test a (hx a List.mem_cons_self) _ _ hat h0' ?_
    cases hb : P a with
    | true =>
      refine WE.name ok.fun_ (v := f a) hat ⟨by omega, ?_⟩ (by rw [hku]; rfl) hd hcd
      refine ih (acc ++ [f a]) _ (fun b hb => hx b (List.mem_cons_of_mem _ hb)) (by simp; omega) h0' fun lo' h' => ?_
      have := q lo' h'
      simpa [hb] using this
    | false =>
      refine cF ?_
      refine ih acc _ (fun b hb => hx b (List.mem_cons_of_mem _ hb)) (by omega) h0' fun lo' h' => ?_
      have := q lo' h'
      simpa [hb] using this

/-- the ways over a mark's -/
noncomputable def over (md : List (Int × List Str × Int)) (g : Int) : List (List Str) := (md.filter fun c => decide (c.1 = 1) && decide (c.2.2 = g)).map (·.2.1)
theorem overLoop_W {g : Int} {p1 p2 p3 p4 p5 p6 p7 p8 p9 p10 p11 p12 : Pos} {k0 k1 : Nat} {Q : List CV → CSt → Prop} (ok : C.Ok dep) (hkk : C.env.kindOf "k" = some .local) (hkw : C.env.kindOf "w" = some .local) (hkg : C.env.kindOf "g" = some .local) (hkf : ownKind (C.env.kindOf "flag") = true) :
    ∀ (ms : List (Int × List Str × Int)) (acc : List CV) (lo : Str → Option CV), acc.length + ms.length ≤ 20000 → lo "flag" = some (.int g) → (∀ lo', lo' "flag" = lo "flag" → Q (acc ++ (over ms g).map wcv) ⟨lo', H⟩) →
      WCI C (emitOf C (.Name "w" p1) []) (.Tuple [.Name "k" p2, .Name "w" p3, .Name "g" p4] k0 p5) [.BoolOp .And [.Compare (.Name "k" p6) [.Eq] [.Constant (.int 1) k1 p7] p8, .Compare (.Name "g" p9) [.Eq] [.Name "flag" p10] p11] p12] (ms.map callC) ⟨lo, H⟩ acc Q := by
  intro ms
  induction ms with
  | nil => intro acc lo _ l1 q; have := q lo rfl; simpa [WCI, over] using this
  | cons c ms ih =>
    intro acc lo hl l1 q
    simp only [List.length_cons] at hl
    have ih' := fun acc' h1 (q' : ∀ lo', lo' "flag" = lo "flag" → Q (acc' ++ (over ms g).map wcv) ⟨lo', H⟩) => ih acc' (lput (lput (lput lo "k" (.int c.1)) "w" (wcv c.2.1)) "g" (.int c.2.2)) h1 l1 q'
    refine WA.tuple (vs := [.int c.1, wcv c.2.1, .int c.2.2]) ok rfl (WA.name ok (by rw [hkk]; rfl) (WA.name ok (by rw [hkw]; rfl) (WA.name ok (by rw [hkg]; rfl) ?_)))
    refine WT.boolop (WT.cmp1 (WE.name ok.fun_ (v := .int c.1) rfl (WE.int (W2.eqI (Wtr.bool ?_))) (by rw [hkk]; rfl)))
    by_cases h1 : c.1 = 1
    · rw [decide_eq_true h1]
      refine WT.cmp1 (WE.name ok.fun_ (v := .int c.2.2) rfl (WE.name ok.fun_ (v := .int g) l1 (W2.eqI (Wtr.bool ?_)) hkf) (by rw [hkg]; rfl))
      by_cases h2 : c.2.2 = g
      · rw [decide_eq_true h2]
        refine WE.name ok.fun_ (v := wcv c.2.1) rfl ⟨by omega, ?_⟩ (by rw [hkw]; rfl)
        refine ih' (acc ++ [wcv c.2.1]) (by simp; omega) fun lo' h' => ?_
        have := q lo' h'
        simpa [over, h1, h2] using this
      · rw [decide_eq_false h2]
        refine cF ?_
        refine ih' acc (by omega) fun lo' h' => ?_
        have := q lo' h'
        simpa [over, h1, h2] using this
    · rw [decide_eq_false h1]
      refine cF ?_
      refine ih' acc (by omega) fun lo' h' => ?_
      have := q lo' h'
      simpa [over, h1] using this

/-- ways are made calls of the fourth kind -/
theorem cutLoop_W {p1 p2 p3 p4 p5 : Pos} {k0 k1 k2 : Nat} {Q : List CV → CSt → Prop} (ok : C.Ok dep) (hku : C.env.kindOf "u" = some .local) :
    ∀ (us : List (List Str)) (acc : List CV) (lo : Str → Option CV), acc.length + us.length ≤ 20000 → (∀ lo', (∀ y : Str, y ≠ "u" → lo' y = lo y) → Q (acc ++ us.map fun u => callC (4, u, 0)) ⟨lo', H⟩) →
      WCI C (emitOf C (.Tuple [.Constant (.int 4) k0 p1, .Name "u" p2, .Constant (.int 0) k1 p3] k2 p4) []) (.Name "u" p5) [] (us.map wcv) ⟨lo, H⟩ acc Q := by
  intro us
  induction us with
  | nil => intro acc lo _ q; have := q lo fun _ _ => rfl; simpa [WCI] using this
  | cons u us ih =>
    intro acc lo hl q
    simp only [List.length_cons] at hl
    refine WA.name ok (by rw [hku]; rfl) ?_
    refine WE.tuple (WE.int (WE.name ok.fun_ (v := wcv u) rfl (WE.int ⟨by simp, by omega, ?_⟩) (by rw [hku]; rfl)))
    refine ih (acc ++ [callC (4, u, 0)]) (lput lo "u" (wcv u)) (by simp; omega) fun lo' h' => ?_
    have := q lo' fun y h1 => by rw [h' y h1]; simp [lput, h1]
    simpa using this
end
end Mine
open PySem PySem.W PySem.Calls PyProof.Rows
set_option Elab.async false
set_option linter.all false
set_option maxRecDepth 100000
set_option genSizeOf false
namespace Mine
theorem ceq_callC (a b : Int × List Str × Int) : ceq (callC a) (callC b) = decide (a = b) := by
  obtain ⟨a1, a2, a3⟩ := a; obtain ⟨b1, b2, b3⟩ := b
  simp only [ceq, callC, toPy, toPys, PyData.eqv, PyData.eqvAll, eqv_strs]
  by_cases h1 : a1 = b1 <;> by_cases h2 : a2 = b2 <;> by_cases h3 : a3 = b3 <;> simp [h1, h2, h3]
theorem depth_callC (a : Int × List Str × Int) : (toPy (callC a)).depth ≤ 100 := by
  have := depth_strs a.2.1
  simp only [callC, toPy, toPys, PyData.depth, PyData.depthAll]
  omega
theorem Coded.ways {l : List (List Str)} (h : ∀ q ∈ l, wgood q) : Coded wcv l := ⟨ceq_wcv, fun q hq => isPy_wcv (h q hq).1, depth_wcv⟩
theorem Coded.calls {l : List (Int × List Str × Int)} (h : ∀ c ∈ l, wgood c.2.1) : Coded callC l := ⟨ceq_callC, fun c hc => by simp [callC, isPy, isPys, isPys_strs (h c hc).1], depth_callC⟩
theorem Coded.waits {l : List (List Str × Int)} (h : ∀ c ∈ l, wgood c.1) : Coded pcv l := ⟨ceq_pcv, fun c hc => by simp [pcv, isPy, isPys, isPys_strs (h c hc).1], fun p => Nat.le_trans (depth_pcv p) (by decide)⟩
theorem onceF_sub {α : Type} [DecidableEq α] : ∀ (l seen : List α), ∀ x ∈ onceF seen l, x ∈ l
  | [], _, x, h => by cases h
  | a :: l, seen, x, h => by
    unfold onceF at h
    split at h
    · exact List.mem_cons_of_mem _ (onceF_sub l _ x h)
    · rcases List.mem_cons.mp h with e | h
      · rw [e]; exact List.mem_cons_self
      · exact List.mem_cons_of_mem _ (onceF_sub l _ x h)
theorem onceF_len {α : Type} [DecidableEq α] : ∀ (l seen : List α), (onceF seen l).length ≤ l.length
  | [], _ => Nat.le_refl _
  | a :: l, seen => by
    unfold onceF
    split
    · exact Nat.le_succ_of_le (onceF_len l _)
    · exact Nat.succ_le_succ (onceF_len l _)
theorem once_sub {α : Type} [DecidableEq α] {l : List α} : ∀ x ∈ once l, x ∈ l := onceF_sub l []
theorem once_len {α : Type} [DecidableEq α] (l : List α) : (once l).length ≤ l.length := onceF_len l []
theorem over_good {md : List (Int × List Str × Int)} {g : Int} (h : ∀ c ∈ md, wgood c.2.1) : ∀ q ∈ over md g, wgood q := fun q hq => by
  obtain ⟨c, hc, rfl⟩ := List.mem_map.mp hq
  exact h c (List.mem_filter.mp hc).1
theorem over_len {md : List (Int × List Str × Int)} {g : Int} : (over md g).length ≤ md.length := by
  unfold over
  rw [List.length_map]
  exact List.length_filter_le _ _
theorem any_ways {ways : List (List Str)} {q : List Str} : (ways.map wcv).any (fun c => ceq c (wcv q)) = decide (q ∈ ways) := by
  rw [Bool.eq_iff_iff, List.any_eq_true, decide_eq_true_eq]
  constructor
  · rintro ⟨c, hc, h⟩
    obtain ⟨b, hb, rfl⟩ := List.mem_map.mp hc
    rw [ceq_wcv, decide_eq_true_eq] at h
    exact h ▸ hb
  · exact fun h => ⟨wcv q, List.mem_map_of_mem h, by rw [ceq_wcv]; exact decide_eq_true rfl⟩
/-- a mark that stays -/
noncomputable def stayP (md : List (Int × List Str × Int)) (c : Int × List Str × Int) : Bool := !covered c.2.1 (over md c.2.2) && (decide (c.1 = 1) || !decide (c.2.1 ∈ over md c.2.2))
section
variable {C C' : Cx} {dep : Nat} {H0 H : CH} {cl x fa3 fa4 fa5 fa6 fa7 fa8 : Addr}

theorem stayLoop_W {t : Expr} {body : List Stmt} {Q : CF → CSt → Prop} {md : List (Int × List Str × Int)} {a : Addr} (ok : C.Ok (dep + 1)) (hk : HK C (scopeOf (lawF 8))) (L : LCtx C cl fa3 fa4 fa5 fa6 fa7 fa8) (hm : ∀ c ∈ md, wgood c.2.1) (hl : md.length ≤ 5000) (e : ∃ it o p, nth (bodyOf (lawF 8)) 5 = .For t it body o p) :
    ∀ (ms acc : List (Int × List Str × Int)) (H : CH) (lo : Str → Option CV), Held H0 H [(a, acc.map callC)] → acc.length + ms.length ≤ 5000 → (∀ c ∈ ms, wgood c.2.1) → lo "made" = some (.lst (md.map callC)) → lo "stay" = some (.loc a) →
      (∀ H' lo', Held H0 H' [(a, (acc ++ ms.filter (stayP md)).map callC)] → (∀ y : Str, y ≠ "kind" → y ≠ "way" → y ≠ "flag" → y ≠ "over" → lo' y = lo y) → Q .next ⟨lo', H'⟩) → WFor C t body [] (ms.map callC) ⟨lo, H⟩ Q := by
  apply forE (t := t) (body := body) e
  have keep7 : keepIn C.K (.ref fa7) = true := by obtain ⟨fd, l⟩ := L.f7; exact l.keep
  intro ms
  induction ms with
  | nil => intro acc H lo h _ _ l1 l2 q; exact WSs.nil (q H lo (by simpa using h) fun _ _ _ _ _ => rfl)
  | cons c ms ih =>
    intro acc H lo h hn hc l1 l2 q
    simp only [List.length_cons] at hn
    obtain ⟨c1, c2, c3⟩ := c
    obtain ⟨g1, g2⟩ := hc _ List.mem_cons_self
    have hov := over_good (g := c3) hm
    have hol := Nat.le_trans (over_len (md := md) (g := c3)) hl
    have hkf : C.env.kindOf "flag" = some .cell := by rw [hk]; rfl
    have rest : ∀ {lo' : Str → Option CV} , (∀ y : Str, y ≠ "kind" → y ≠ "way" → y ≠ "flag" → y ≠ "over" → lo' y = lput (lput (lput (lput lo "kind" (.int c1)) "way" (wcv c2)) "flag" (.int c3)) "over" (.lst ((over md c3).map wcv)) y) → ∀ y : Str, y ≠ "kind" → y ≠ "way" → y ≠ "flag" → y ≠ "over" → lo' y = lo y := fun h' y e1 e2 e3 e4 => by rw [h' y e1 e2 e3 e4]; simp [lput, e1, e2, e3, e4]
    have ih' := fun acc' H' (h' : Held H0 H' [(a, acc'.map callC)]) hn' q' => ih acc' H' (lput (lput (lput (lput lo "kind" (.int c1)) "way" (wcv c2)) "flag" (.int c3)) "over" (.lst ((over md c3).map wcv))) h' hn' (fun k hk => hc k (List.mem_cons_of_mem _ hk)) l1 l2 q'
    have skip : stayP md (c1, c2, c3) = false → WFor C (forT (nth (bodyOf (lawF 8)) 5)) (forB (nth (bodyOf (lawF 8)) 5)) [] (ms.map callC) ⟨lput (lput (lput (lput lo "kind" (.int c1)) "way" (wcv c2)) "flag" (.int c3)) "over" (.lst ((over md c3).map wcv)), H⟩ Q := fun hs =>
      ih' acc H h (by omega) fun H' lo' h' k' => q H' lo' (by simpa [hs] using h') (rest k')
    refine WA.tuple (vs := [.int c1, wcv c2, .int c3]) ok rfl (WA.nm ok hk (WA.nm ok hk (WA.nm ok hk ?_)))
    refine WSs.cons (WS.assignComp ok (WE.nm ok hk (v := .lst (md.map callC)) l1 ⟨_, IterOf.lst, fun C2 ok2 s2 hsc => ?_⟩) ?_ (by rw [hk]; rfl) ?_)
    · have kx : ∀ y, C2.env.kindOf y = _ := fun y => by unfold Env.kindOf; rw [hsc, relabel_lookup]
      refine overLoop_W (g := c3) ok2 (by rw [kx]; rfl) (by rw [kx]; rfl) (by rw [kx]; rfl) (by rw [kx, hk, ok.fun_]; rfl) md [] _ (by simp; omega) rfl fun lo' h' => ⟨fun y hy => ?_, .inl ?_⟩
      · have := mem_of_lookupK hy
        simp at this
        subst this
        exact h'
      · refine WSs.cons (WS.if_ (WT.boolop (WT.not (WT.value rfl (WE.call ok (WE.glob ok L.g (v := .ref fa7) rfl ⟨_, rfl, KpOk.ref keep7, WE.nm ok hk (v := wcv c2) rfl (WE.nm ok hk (v := .lst ((over md c3).map wcv)) rfl (L.covered ok g1 g2 (by omega) hov (Wtr.bool ?_)))⟩ (by rw [hk]; rfl)))))))
        cases hcv : covered c2 (over md c3) with
        | true => exact WSs.nil (WSs.nil (skip (by simp [stayP, hcv])))
        | false =>
          have take : stayP md (c1, c2, c3) = true → ∀ (st : CSt), st = ⟨lput (lput (lput (lput lo "kind" (.int c1)) "way" (wcv c2)) "flag" (.int c3)) "over" (.lst ((over md c3).map wcv)), H⟩ → WFor C (forT (nth (bodyOf (lawF 8)) 5)) (forB (nth (bodyOf (lawF 8)) 5)) [] (ms.map callC) { st with H := hput st.H a (.list (acc.map callC ++ [callC (c1, c2, c3)])) } Q := fun hs st est => by
            subst est
            have h2 := h.put (acc.map callC ++ [callC (c1, c2, c3)])
            refine ih' (acc ++ [(c1, c2, c3)]) _ (by rw [List.map_append]; exact h2) (by simp; omega) fun H' lo' h' k' => q H' lo' ?_ (rest k')
            simpa [hs] using h'
          refine WT.boolop (WT.cmp1 (WE.nm ok hk (v := .int c1) rfl (WE.int (W2.eqI (Wtr.bool ?_)))))
          by_cases h1 : c1 = 1
          · rw [decide_eq_true h1]
            refine WSs.cons (WS.expr ok (WE.meth ok (WE.nm ok hk (v := .loc a) l2 ⟨_, KpOk.builtin, WMeth.listLoc (cs := acc.map callC) h.head PySem.F.slot_list_append PySem.F.type_list_append, WE.tuple (WE.nm ok hk rfl (WE.nm ok hk rfl (WE.nm ok hk rfl ⟨by simp, WCall.append h.head (by simp; omega) ⟨rfl, WSs.nil (WSs.nil ?_)⟩⟩)))⟩)))
            exact take (by simp [stayP, hcv, h1]) _ rfl
          · rw [decide_eq_false h1]
            refine WT.cmp1 (WE.nm ok hk (v := wcv c2) rfl (WE.nm ok hk (v := .lst ((over md c3).map wcv)) rfl (W2.notInL ok (isPys_coded fun b hb => isPy_wcv (hov b hb).1) (isPy_wcv g1) (depth_wcv _) (Wtr.bool ?_))))
            rw [any_ways]
            by_cases h2 : c2 ∈ over md c3
            · rw [decide_eq_true h2]
              exact WSs.nil (WSs.nil (skip (by simp [stayP, hcv, h1, h2])))
            · rw [decide_eq_false h2]
              refine WSs.cons (WS.expr ok (WE.meth ok (WE.nm ok hk (v := .loc a) l2 ⟨_, KpOk.builtin, WMeth.listLoc (cs := acc.map callC) h.head PySem.F.slot_list_append PySem.F.type_list_append, WE.tuple (WE.nm ok hk rfl (WE.nm ok hk rfl (WE.nm ok hk rfl ⟨by simp, WCall.append h.head (by simp; omega) ⟨rfl, WSs.nil (WSs.nil ?_)⟩⟩)))⟩)))
              exact take (by simp [stayP, hcv, h2]) _ rfl
    · simp only [List.all_cons, List.all_nil, hkf]
      rfl
    · have k1 : C.env.kindOf "over" = some .local := by rw [hk]; rfl
      have k3 : C.env.blockKind = .function := blockKind_of ok
      unfold swapsWith
      dsimp only
      rewrite [k1, k3]
      rfl
end
end Mine
open PySem PySem.W PySem.Calls PyProof.Rows
set_option Elab.async false
set_option linter.all false
set_option maxRecDepth 100000
set_option genSizeOf false
namespace Mine
noncomputable def ss (row : List (Int × List Str × Int)) : SS := row.foldl SS.step ⟨[], [], [], [], false⟩
noncomputable def earlyP (s : SS) (u : List Str) : Bool := !decide (u ∈ s.l) && !covered u (s.e ++ s.l)
noncomputable def lateP (s : SS) (u : List Str) : Bool := !covered u s.l
/-- the short form, the last one first -/
noncomputable def shortR (s : SS) : List (Int × List Str × Int) :=
  (once s.w).map (fun u => (2, u.1, u.2)) ++ (once s.md).filter (stayP s.md) ++ ((once s.l).filter (lateP s)).map (fun u => (4, u, 0)) ++ (if s.mid then [(3, [], 0)] else []) ++ ((once s.e).filter (earlyP s)).map (fun u => (4, u, 0))
noncomputable def shortOf (row : List (Int × List Str × Int)) : List (Int × List Str × Int) := (shortR (ss row)).reverse
theorem ss_good : ∀ {cs : List (Int × List Str × Int)} {s : SS}, s.good → (∀ c ∈ cs, wgood c.2.1) → (cs.foldl SS.step s).good ∧ (cs.foldl SS.step s).n ≤ s.n + cs.length
  | [], s, h, _ => ⟨h, Nat.le_refl _⟩
  | c :: cs, s, h, hc => by
    obtain ⟨a, b⟩ := ss_good (cs := cs) (SS.step_good h (hc c List.mem_cons_self)) fun k hk => hc k (List.mem_cons_of_mem _ hk)
    refine ⟨a, Nat.le_trans b ?_⟩
    have := SS.step_n (s := s) (c := c)
    simp only [List.length_cons]; omega
section
variable {C C' : Cx} {dep : Nat} {H0 H : CH} {cl x fa3 fa4 fa5 fa6 fa7 fa8 : Addr}

/-- the ways that are taken off ahead, behind: the two comprehensions -/
theorem early_W {Q : CF → CSt → Prop} {s : SS} {lo : Str → Option CV} (ok : C.Ok (dep + 1)) (hk : HK C (scopeOf (lawF 8))) (L : LCtx C cl fa3 fa4 fa5 fa6 fa7 fa8) (hg : s.good) (hn : s.n ≤ 5000) (l1 : lo "early" = some (.lst (s.e.map wcv))) (l2 : lo "late" = some (.lst (s.l.map wcv)))
    (h : Q .next ⟨lput lo "early" (.lst (((once s.e).filter (earlyP s)).map wcv)), H⟩) : WS C (nth (bodyOf (lawF 8)) 2) ⟨lo, H⟩ Q := by
  have keep6 : keepIn C.K (.ref fa6) = true := by obtain ⟨fd, l⟩ := L.f6; exact l.keep
  have keep7 : keepIn C.K (.ref fa7) = true := by obtain ⟨fd, l⟩ := L.f7; exact l.keep
  have hE : s.e.length ≤ 5000 := by unfold SS.n at hn; omega
  have hL : s.l.length ≤ 5000 := by unfold SS.n at hn; omega
  have hke : C.env.kindOf "early" = some .cell := by rw [hk]; rfl
  have hkl : C.env.kindOf "late" = some .cell := by rw [hk]; rfl
  refine WS.assign1 (WE.comp ok (WE.call ok (WE.glob ok L.g (v := .ref fa6) rfl ⟨_, rfl, KpOk.ref keep6, WE.nm ok hk (v := .lst (s.e.map wcv)) l1 (L.once ok (Coded.ways hg.1.1) (by omega) ⟨_, IterOf.lst, fun C2 ok2 s2 hsc => ?_⟩)⟩ (by rw [hk]; rfl))) ?_) ?_
  · have kx : ∀ y, C2.env.kindOf y = _ := fun y => by unfold Env.kindOf; rw [hsc, relabel_lookup]
    have L2 := L.same s2
    have hol := once_len s.e
    have ke : ownKind (C2.env.kindOf "early") = true := by rw [kx, hk, ok.fun_]; rfl
    have kl : ownKind (C2.env.kindOf "late") = true := by rw [kx, hk, ok.fun_]; rfl
    have ku : C2.env.kindOf "u" = some .local := by rw [kx]; rfl
    refine filtGen_W (P := earlyP s) (l := once s.e) (lo0 := compLo _ lo) ok2 ku (by decide) (by decide) (fun a ha lo' QT e1 e2 hq => ?_) (once s.e) [] _ (fun a ha => ha) (by simp; omega) (fun _ _ => rfl) fun lo' h' => ⟨fun y hy => ?_, .inl (WA.nm ok hk (by simpa using h))⟩
    · have m1 : lo' "early" = some (.lst (s.e.map wcv)) := (e2 _ (by decide)).trans l1
      have m2 : lo' "late" = some (.lst (s.l.map wcv)) := (e2 _ (by decide)).trans l2
      have ag := hg.1.1 a (once_sub a ha)
      refine WT.boolop (WT.cmp1 (WE.name ok2.fun_ e1 (WE.name ok2.fun_ m2 (W2.notInL ok2 (isPys_coded fun b hb => isPy_wcv (hg.1.2 b hb).1) (isPy_wcv ag.1) (depth_wcv _) (Wtr.bool ?_)) kl) (by rw [ku]; rfl)))
      rw [any_ways]
      by_cases hm : a ∈ s.l
      · rw [decide_eq_true hm]
        have : earlyP s a = false := by simp [earlyP, hm]
        rw [this] at hq
        exact hq
      · rw [decide_eq_false hm]
        refine WT.not (WT.value rfl (WE.call ok2 (WE.glob ok2 L2.g (v := .ref fa7) rfl ⟨_, rfl, KpOk.ref (by rw [s2.K]; exact keep7), WE.name ok2.fun_ e1 (WE.binop (WE.name ok2.fun_ m1 (WE.name ok2.fun_ m2 (W2.addL (by simp; omega) ?_) kl) ke)) (by rw [ku]; rfl)⟩ (by rw [kx]; rfl))))
        rw [← List.map_append]
        refine L2.covered ok2 ag.1 ag.2 (by simp; omega) (fun u hu => (List.mem_append.mp hu).elim (hg.1.1 u) (hg.1.2 u)) (Wtr.bool ?_)
        have : earlyP s a = !covered a (s.e ++ s.l) := by simp [earlyP, hm]
        rw [this] at hq
        cases hcv : covered a (s.e ++ s.l) <;> rw [hcv] at hq <;> exact hq
    · have := mem_of_lookupK hy
      simp at this
      rcases this with e | e <;> subst e <;> exact h' _ (by decide)
  · simp only [List.all_cons, List.all_nil, hke, hkl]
    rfl
  · have k3 : C.env.blockKind = .function := blockKind_of ok
    unfold swapsWithSole
    dsimp only
    unfold swapsWith
    dsimp only
    simp only [hke, k3]
    rfl
end
end Mine
open PySem PySem.W PySem.Calls PyProof.Rows
set_option Elab.async false
set_option linter.all false
set_option maxRecDepth 100000
set_option genSizeOf false
namespace Mine
theorem ss0_good : SS.good ⟨[], [], [], [], false⟩ := by simp [SS.good]
theorem cpick_rev (cs : List CV) : cpick cs none none (some (-1)) = cs.reverse := by
  unfold cpick sliceBounds
  simp only [Option.getD_some, show ¬ ((-1 : Int) > 0) by decide, if_false]
  unfold sliceRange
  simp only [show ¬ ((-1 : Int) > 0) by decide, if_false]
  have e : (if (cs.length : Int) - 1 > -1 then ((cs.length : Int) - 1 - -1 - -1 - 1) / (- -1) else 0 : Int).toNat = cs.length := by split <;> omega
  rw [e]
  have e2 : ((List.range cs.length).map fun (k : Nat) => ((cs.length : Int) - 1 + -1 * (k : Int)).toNat) = (List.range cs.length).reverse := by
    rw [show (List.range cs.length).reverse = (List.range' 0 cs.length).reverse by rw [List.range_eq_range'], List.reverse_range']
    refine List.map_congr_left fun k hk => ?_
    have := List.mem_range.mp hk
    omega
  rw [e2, List.filterMap_reverse, filterMap_range, List.take_length]
section
variable {C C' : Cx} {dep : Nat} {H0 H : CH} {cl x fa3 fa4 fa5 fa6 fa7 fa8 : Addr}

theorem late_W {Q : CF → CSt → Prop} {s : SS} {lo : Str → Option CV} (ok : C.Ok (dep + 1)) (hk : HK C (scopeOf (lawF 8))) (L : LCtx C cl fa3 fa4 fa5 fa6 fa7 fa8) (hg : s.good) (hn : s.n ≤ 5000) (l2 : lo "late" = some (.lst (s.l.map wcv)))
    (h : Q .next ⟨lput lo "late" (.lst (((once s.l).filter (lateP s)).map wcv)), H⟩) : WS C (nth (bodyOf (lawF 8)) 3) ⟨lo, H⟩ Q := by
  have keep6 : keepIn C.K (.ref fa6) = true := by obtain ⟨fd, l⟩ := L.f6; exact l.keep
  have keep7 : keepIn C.K (.ref fa7) = true := by obtain ⟨fd, l⟩ := L.f7; exact l.keep
  have hL : s.l.length ≤ 5000 := by unfold SS.n at hn; omega
  have hkl : C.env.kindOf "late" = some .cell := by rw [hk]; rfl
  refine WS.assign1 (WE.comp ok (WE.call ok (WE.glob ok L.g (v := .ref fa6) rfl ⟨_, rfl, KpOk.ref keep6, WE.nm ok hk (v := .lst (s.l.map wcv)) l2 (L.once ok (Coded.ways hg.1.2) (by omega) ⟨_, IterOf.lst, fun C2 ok2 s2 hsc => ?_⟩)⟩ (by rw [hk]; rfl))) ?_) ?_
  · have kx : ∀ y, C2.env.kindOf y = _ := fun y => by unfold Env.kindOf; rw [hsc, relabel_lookup]
    have L2 := L.same s2
    have hol := once_len s.l
    have kl : ownKind (C2.env.kindOf "late") = true := by rw [kx, hk, ok.fun_]; rfl
    have ku : C2.env.kindOf "u" = some .local := by rw [kx]; rfl
    refine filtGen_W (P := lateP s) (l := once s.l) (lo0 := compLo _ lo) ok2 ku (by decide) (by decide) (fun a ha lo' QT e1 e2 hq => ?_) (once s.l) [] _ (fun a ha => ha) (by simp; omega) (fun _ _ => rfl) fun lo' h' => ⟨fun y hy => ?_, .inl (WA.nm ok hk (by simpa using h))⟩
    · have m2 : lo' "late" = some (.lst (s.l.map wcv)) := (e2 _ (by decide)).trans l2
      have ag := hg.1.2 a (once_sub a ha)
      refine WT.not (WT.value rfl (WE.call ok2 (WE.glob ok2 L2.g (v := .ref fa7) rfl ⟨_, rfl, KpOk.ref (by rw [s2.K]; exact keep7), WE.name ok2.fun_ e1 (WE.name ok2.fun_ m2 (L2.covered ok2 ag.1 ag.2 (by omega) hg.1.2 (Wtr.bool hq)) kl) (by rw [ku]; rfl)⟩ (by rw [kx]; rfl))))
    · have := mem_of_lookupK hy
      simp at this
      subst this
      exact h' _ (by decide)
  · simp only [List.all_cons, List.all_nil, hkl]
    rfl
  · have k3 : C.env.blockKind = .function := blockKind_of ok
    unfold swapsWithSole
    dsimp only
    unfold swapsWith
    dsimp only
    simp only [hkl, k3]
    rfl

set_option maxHeartbeats 1000000 in
theorem shortEnd_W {Q : CF → CSt → Prop} {s1 : SS} {H5 : CH} {lo5 : Str → Option CV} {ae al am aw : Addr} (ok : C.Ok (dep + 1)) (hk : HK C (scopeOf (lawF 8))) (L : LCtx C cl fa3 fa4 fa5 fa6 fa7 fa8) (hgd : s1.good) (hn : s1.n ≤ 5000) (h5 : Held H H5 (s1.cells ae al am aw))
    (m1 : lo5 "early" = some (.loc ae)) (m2 : lo5 "late" = some (.loc al)) (m3 : lo5 "made" = some (.loc am)) (m4 : lo5 "waits" = some (.loc aw)) (m5 : lo5 "middle" = some (.lst (midL s1.mid)))
    (h : ∀ lo' H', (∀ b, H b ≠ none → H' b = H b) → Q (.ret (.lst ((shortR s1).reverse.map callC))) ⟨lo', H'⟩) : WSs C ((bodyOf (lawF 8)).drop 2) ⟨lo5, H5⟩ Q := by
  have keep6 : keepIn C.K (.ref fa6) = true := by obtain ⟨fd, l⟩ := L.f6; exact l.keep
  have hE : s1.e.length ≤ 5000 := by unfold SS.n at hn; omega
  have hL : s1.l.length ≤ 5000 := by unfold SS.n at hn; omega
  have hM : s1.md.length ≤ 5000 := by unfold SS.n at hn; omega
  have hW : s1.w.length ≤ 5000 := by unfold SS.n at hn; omega
  have h5' : Held H H5 [(ae, s1.e.map wcv), (al, s1.l.map wcv), (am, s1.md.map callC), (aw, s1.w.map pcv)] := h5
  refine WSs.freeze (x := "early") (a := ae) (cs := s1.e.map wcv) m1 h5'.head ?_
  have h6 := h5'.del
  refine WSs.freeze (x := "late") (a := al) (cs := s1.l.map wcv) m2 h6.head ?_
  have h7 := h6.del
  refine WSs.freeze (x := "made") (a := am) (cs := s1.md.map callC) m3 h7.head ?_
  have h8 := h7.del
  refine WSs.freeze (x := "waits") (a := aw) (cs := s1.w.map pcv) m4 h8.head ?_
  have h9 := h8.del
  refine WSs.cons (early_W ok hk L hgd hn rfl rfl ?_)
  refine WSs.cons (late_W ok hk L hgd hn rfl ?_)
  refine WSs.cons (WS.assign1 (WE.list ⟨by simp, fun a ha => WA.nm ok hk ?_⟩))
  have h10 := h9.add ha []
  refine WSs.cons (WS.for_ ok (WE.call ok (WE.glob ok L.g (v := .ref fa6) rfl ⟨_, rfl, KpOk.ref keep6, WE.nm ok hk (v := .lst (s1.md.map callC)) rfl (L.once ok (Coded.calls hgd.2.1) (by omega) ⟨_, IterOf.lst, ?_⟩)⟩ (by rw [hk]; rfl))))
  have hom := once_len s1.md
  have how := once_len s1.w
  have hoe := once_len s1.e
  have hol := once_len s1.l
  have hfm := List.length_filter_le (stayP s1.md) (once s1.md)
  have hfl := List.length_filter_le (lateP s1) (once s1.l)
  have hfe := List.length_filter_le (earlyP s1) (once s1.e)
  refine stayLoop_W (H0 := H) (md := s1.md) (a := a) ok hk L hgd.2.1 hM ⟨_, _, _, rfl⟩ (once s1.md) [] _ _ h10 (by simp; omega) (fun c hc => hgd.2.1 c (once_sub c hc)) rfl rfl fun H11 lo11 h11 k11 => ?_
  refine WSs.freeze (x := "stay") (a := a) (cs := ((once s1.md).filter (stayP s1.md)).map callC) ((k11 "stay" (by decide) (by decide) (by decide) (by decide)).trans rfl) (by simpa using h11.head) ?_
  have h12 := h11.del
  have n1 : lput lo11 "stay" (.lst (((once s1.md).filter (stayP s1.md)).map callC)) "early" = some (.lst (((once s1.e).filter (earlyP s1)).map wcv)) := (k11 "early" (by decide) (by decide) (by decide) (by decide)).trans rfl
  have n2 : lput lo11 "stay" (.lst (((once s1.md).filter (stayP s1.md)).map callC)) "late" = some (.lst (((once s1.l).filter (lateP s1)).map wcv)) := (k11 "late" (by decide) (by decide) (by decide) (by decide)).trans rfl
  have n4 : lput lo11 "stay" (.lst (((once s1.md).filter (stayP s1.md)).map callC)) "waits" = some (.lst (s1.w.map pcv)) := (k11 "waits" (by decide) (by decide) (by decide) (by decide)).trans rfl
  have n5 : lput lo11 "stay" (.lst (((once s1.md).filter (stayP s1.md)).map callC)) "middle" = some (.lst (midL s1.mid)) := (k11 "middle" (by decide) (by decide) (by decide) (by decide)).trans m5
  have mid_eq : midL s1.mid = (if s1.mid then [((3 : Int), ([] : List Str), (0 : Int))] else []).map callC := by cases s1.mid <;> rfl
  have hml : (midL s1.mid).length ≤ 1 := by cases s1.mid <;> decide
  refine WSs.cons (WS.assign1 (WE.binop (WE.binop (WE.binop (WE.binop (WE.comp ok (WE.call ok (WE.glob ok L.g (v := .ref fa6) rfl ⟨_, rfl, KpOk.ref keep6, WE.nm ok hk (v := .lst (s1.w.map pcv)) n4 (L.once ok (Coded.waits hgd.2.2) (by omega) ⟨_, IterOf.lst, fun C2 ok2 s2 hsc => ?_⟩)⟩ (by rw [hk]; rfl))) (by rfl)))))))
  have kx : ∀ y, C2.env.kindOf y = _ := fun y => by unfold Env.kindOf; rw [hsc, relabel_lookup]
  refine kindLoop_W ok2 (by rw [kx]; rfl) (by rw [kx]; rfl) (once s1.w) [] _ (by simp; omega) fun lo' h' => ⟨fun y hy => by have := mem_of_lookupK hy; simp at this, .inl (WE.nm ok hk rfl (W2.addL (by simp; omega) ?_))⟩
  refine WE.comp ok (WE.nm ok hk n2 ⟨_, IterOf.lst, fun C3 ok3 s3 hsc3 => ?_⟩) (by rfl)
  have kx3 : ∀ y, C3.env.kindOf y = _ := fun y => by unfold Env.kindOf; rw [hsc3, relabel_lookup]
  refine cutLoop_W ok3 (by rw [kx3]; rfl) ((once s1.l).filter (lateP s1)) [] _ (by simp; omega) fun lo' h' => ⟨fun y hy => by have := mem_of_lookupK hy; simp at this, .inl (W2.addL (by simp; omega) (WE.nm ok hk n5 (W2.addL (by simp; omega) ?_)))⟩
  refine WE.comp ok (WE.nm ok hk n1 ⟨_, IterOf.lst, fun C4 ok4 s4 hsc4 => ?_⟩) (by rfl)
  have kx4 : ∀ y, C4.env.kindOf y = _ := fun y => by unfold Env.kindOf; rw [hsc4, relabel_lookup]
  refine cutLoop_W ok4 (by rw [kx4]; rfl) ((once s1.e).filter (earlyP s1)) [] _ (by simp; omega) fun lo' h' => ⟨fun y hy => by have := mem_of_lookupK hy; simp at this, .inl (W2.addL (by simp; omega) (WA.nm ok hk ?_))⟩
  refine WSs.cons (WS.ret (WE.slice (WE.nm ok hk rfl (WE.neg1 ⟨_, rfl, WSl.lst (by decide) (by simp; omega) ?_⟩))))
  rw [cpick_rev]
  have e : (([] ++ ((once s1.w).map fun u : List Str × Int => callC (2, u.1, u.2))) ++ ((once s1.md).filter (stayP s1.md)).map callC ++ ([] ++ ((once s1.l).filter (lateP s1)).map fun u => callC (4, u, 0)) ++ midL s1.mid ++ ([] ++ ((once s1.e).filter (earlyP s1)).map fun u => callC (4, u, 0))).reverse = (shortR s1).reverse.map callC := by
    rw [List.map_reverse, mid_eq]; simp [shortR, Function.comp_def]
  rw [e]
  exact h _ _ (fun b hb => h12.keep b hb)
end
end Mine
open PySem PySem.W PySem.Calls PyProof.Rows
set_option Elab.async false
set_option linter.all false
set_option maxRecDepth 100000
set_option genSizeOf false
namespace Mine
section
variable {C C' : Cx} {dep : Nat} {H0 H : CH} {cl x fa3 fa4 fa5 fa6 fa7 fa8 : Addr}

set_option maxHeartbeats 4000000 in
theorem shortBegin_W {Q : CF → CSt → Prop} {lo : Str → Option CV} (ok : C.Ok dep) (hk : HK C (scopeOf (lawF 8)))
    (h : ∀ ae al am aw H', Held H H' ((⟨[], [], [], [], false⟩ : SS).cells ae al am aw) → Q .next ⟨lput (lput (lput (lput (lput lo "early" (.loc ae)) "late" (.loc al)) "made" (.loc am)) "waits" (.loc aw)) "middle" (.lst []), H'⟩) : WS C (nth (bodyOf (lawF 8)) 0) ⟨lo, H⟩ Q := by
  refine WS.assign1 (t := .Tuple _ _ _) (value := .Tuple _ _ _) (hs := ?_) (hw := ?_) (he := ?_) ?_
  case refine_2 => rfl
  case refine_3 => rfl
  case refine_4 => rfl
  refine WE.tuple ?_
  refine WE.list ⟨Nat.zero_le _, fun ae z1 => ?_⟩
  refine WE.list ⟨Nat.zero_le _, fun al z2 => ?_⟩
  refine WE.list ⟨Nat.zero_le _, fun am z3 => ?_⟩
  refine WE.list ⟨Nat.zero_le _, fun aw z4 => ?_⟩
  refine WE.listF ⟨Nat.zero_le _, (show (5 : Nat) ≤ 2 ^ 24 by decide), ?_⟩
  refine WA.tuple (vs := [.loc ae, .loc al, .loc am, .loc aw, .lst []]) ok rfl (WA.nm ok hk (WA.nm ok hk (WA.nm ok hk (WA.nm ok hk (WA.nm ok hk ?_)))))
  exact h ae al am aw _ (((((Held.nil H).add z1 []).add z2 []).add z3 []).add z4 [] |>.perm (List.reverse_perm _).symm)

set_option maxHeartbeats 4000000 in
theorem LCtx.short {Q : CV → CSt → Prop} {lo : Str → Option CV} {row : List (Int × List Str × Int)} (ok : C.Ok (dep + 2)) (L : LCtx C cl fa3 fa4 fa5 fa6 fa7 fa8) (hr : ∀ c ∈ row, wgood c.2.1) (hl : row.length ≤ 4000)
    (h : ∀ H', (∀ b, H b ≠ none → H' b = H b) → Q (.lst ((shortOf row).map callC)) ⟨lo, H'⟩) : WCall C (.ref fa8) [.lst (row.map callC)] [] [] ⟨lo, H⟩ Q := by
  obtain ⟨fd, l8⟩ := L.f8
  refine l8.call ok (by decide +kernel) rfl fun C' ok' s hk => ?_
  have L' := L.same s
  have hsg := ss_good (cs := row) ss0_good hr
  have hn : (ss row).n ≤ 5000 := by
    have := hsg.2
    have e : (⟨[], [], [], [], false⟩ : SS).n = 0 := rfl
    rw [e] at this
    show (row.foldl SS.step _).n ≤ _
    omega
  refine WSs.cons (shortBegin_W ok' hk fun ae al am aw H1 h1 => ?_)
  refine WSs.cons (WS.for_ ok' (WE.nm ok' hk (v := .lst (row.map callC)) rfl ⟨_, IterOf.lst, ?_⟩))
  refine shortLoop_W (H0 := H) ok' hk L'.g.sub ⟨_, _, _, rfl⟩ row ⟨[], [], [], [], false⟩ ae al am aw H1 _ h1 (by show 0 + _ ≤ _; omega) ss0_good hr rfl rfl rfl rfl rfl fun ae al am aw H5 lo5 h5 m1 m2 m3 m4 m5 => ?_
  exact shortEnd_W (H := H) (s1 := ss row) ok' hk L' hsg.1 hn h5 m1 m2 m3 m4 m5 fun lo' H' hk' => h H' hk'
end
end Mine
open PySem PySem.W PySem.Calls PyProof.Rows
set_option Elab.async false
set_option linter.all false
set_option maxRecDepth 100000
set_option genSizeOf false
namespace Mine
section
variable {C : Cx} {dep : Nat} {st : CSt}
/-- the truth of a list that is turned no more -/
theorem Wtr.lst {cs : List CV} {Q : Bool → CSt → Prop} (hs : cs.length ≤ 2 ^ 24) (h : Q (!cs.isEmpty) st) : Wtr C (.lst cs) st Q := fun I v r KF s S => by
  simp only [VR] at r
  obtain ⟨a, n, xs, rfl, hi, hr⟩ := r
  have ht : s.heap.IsList a xs := ⟨_, S.imm _ _ hi, rfl, n, rfl⟩
  have e : cs.length = xs.size := by have := hr.length; simpa using this
  have e2 : xs.isEmpty = cs.isEmpty := by
    cases cs with
    | nil => simp at e ⊢; exact Array.eq_empty_of_size_eq_zero e.symm
    | cons _ _ => simp at e ⊢; intro q; rw [q] at e; simp at e
  refine wpAny_truthy_list ht (by omega) ?_
  rw [e2]
  exact ⟨I, st, .refl I, S.toks _, h⟩
end
end Mine
open PySem PySem.W PySem.Calls PyProof.Rows
set_option Elab.async false
set_option linter.all false
set_option maxRecDepth 100000
set_option genSizeOf false
namespace Mine
section
variable {C : Cx} {dep : Nat} {H : CH} {cl fa3 fa4 fa5 fa6 fa7 fa8 : Addr}
/-- the calls of a list of numbers -/
theorem callsLoop_W {p1 p2 p3 p4 : Pos} {Q : List CV → CSt → Prop} (ok : C.Ok (dep + 1)) (L : LCtx C cl fa3 fa4 fa5 fa6 fa7 fa8) (hkx : C.env.kindOf "x" = some .local) (hkc : C.env.kindOf "_law_call" = some .globalImplicit) :
    ∀ (xs : List Int) (acc : List CV) (lo : Str → Option CV), acc.length + xs.length ≤ 20000 → (∀ lo', (∀ y : Str, y ≠ "x" → lo' y = lo y) → Q (acc ++ xs.map fun x => callC (callOf x)) ⟨lo', H⟩) →
      WCI C (emitOf C (.Call (.Name "_law_call" p1) [.Name "x" p2] [] p3) []) (.Name "x" p4) [] (xs.map .int) ⟨lo, H⟩ acc Q := by
  have keep3 : keepIn C.K (.ref fa3) = true := by obtain ⟨fd, l⟩ := L.f3; exact l.keep
  intro xs
  induction xs with
  | nil => intro acc lo _ q; have := q lo fun _ _ => rfl; simpa [WCI] using this
  | cons x xs ih =>
    intro acc lo hl q
    simp only [List.length_cons] at hl
    refine WA.name ok (by rw [hkx]; rfl) ?_
    refine WE.call ok (WE.glob ok L.g (v := .ref fa3) rfl ⟨_, rfl, KpOk.ref keep3, WE.name ok.fun_ (v := .int x) rfl (L.call ok ⟨by omega, ?_⟩) (by rw [hkx]; rfl)⟩ hkc)
    refine ih (acc ++ [callC (callOf x)]) (lput lo "x" (.int x)) (by simp; omega) fun lo' h' => ?_
    have := q lo' fun y hy => by rw [h' y hy]; simp [lput, hy]
    simpa using this
end
end Mine
open PySem PySem.W PySem.Calls PyProof.Rows
set_option Elab.async false
set_option linter.all false
set_option maxRecDepth 100000
set_option genSizeOf false
namespace Mine
theorem filterMap_from {α : Type} (cs : List α) (k : Nat) : ∀ n, k + n ≤ cs.length → (List.range n).filterMap (fun j => cs[k + j]?) = (cs.drop k).take n
  | 0, _ => by simp
  | n + 1, h => by
    rw [List.range_succ, List.filterMap_append, filterMap_from cs k n (Nat.le_of_succ_le h), List.take_add_one]
    simp only [List.filterMap_cons, List.filterMap_nil, List.getElem?_drop]
    cases cs[k + n]? <;> rfl
theorem cpick_from {cs : List CV} {k : Nat} (hk : k ≤ cs.length) : cpick cs (some (k : Int)) none none = cs.drop k := by
  unfold cpick sliceBounds
  simp only [Option.getD_none, show (1 : Int) > 0 by decide, if_true, show ¬ (k : Int) < 0 by simp, if_false]
  rw [Int.min_eq_left (Int.ofNat_le.mpr hk), Int.max_eq_right (Int.natCast_nonneg _)]
  unfold sliceRange
  simp only [show (1 : Int) > 0 by decide, if_true]
  have e : ((if (k : Int) < (cs.length : Int) then ((cs.length : Int) - k + 1 - 1) / 1 else 0 : Int)).toNat = cs.length - k := by split <;> omega
  rw [e, List.filterMap_map]
  rw [show ((cs[·]?) ∘ fun (j : Nat) => ((k : Int) + 1 * (j : Int)).toNat) = fun j => cs[k + j]? from funext fun j => by
    show cs[((k : Int) + 1 * (j : Int)).toNat]? = _
    rw [show ((k : Int) + 1 * (j : Int)).toNat = k + j by omega]]
  rw [filterMap_from cs k _ (by omega), List.take_of_length_le (by simp)]
end Mine
open PySem PySem.W PySem.Calls PyProof.Rows
set_option Elab.async false
set_option linter.all false
set_option maxRecDepth 100000
set_option genSizeOf false
namespace Mine
noncomputable def startOf (script : List Int) : List (Int × List Str × Int) := (script.take (script.length / 2)).map callOf
noncomputable def rowNums (script : List Int) : List Int := if (script.drop (script.length / 2)).isEmpty then [2, 3, 4, 10, 12] else script.drop (script.length / 2)
noncomputable def rowOf (script : List Int) : List (Int × List Str × Int) := (rowNums script).map callOf
section
variable {C : Cx} {dep : Nat} {H : CH} {cl fa3 fa4 fa5 fa6 fa7 fa8 : Addr}
theorem begin_W {Q : CF → CSt → Prop} {script : List Int} {lo : Str → Option CV} (ok : C.Ok (dep + 1)) (hk : HK C (scopeOf (lawF 9))) (L : LCtx C cl fa3 fa4 fa5 fa6 fa7 fa8) (hs : script.length ≤ 63) (l0 : lo "script" = some (.lst (script.map .int)))
    (h : WSs C ((bodyOf (lawF 9)).drop 3) ⟨lput (lput (lput lo "half" (.int ((script.length / 2 : Nat) : Int))) "start" (.lst ((startOf script).map callC))) "row" (.lst ((rowOf script).map callC)), H⟩ Q) : WSs C (bodyOf (lawF 9)) ⟨lo, H⟩ Q := by
  refine WSs.cons (WS.assign1 (WE.binop (WE.call ok (WE.glob ok L.g (v := .builtin "len") rfl ⟨_, rfl, KpOk.builtin, WE.nm ok hk l0 (WCall.lenL (by simp; omega) (WE.int (W2.divI (by decide) (by decide) ?_)))⟩ (by rw [hk]; rfl)))))
  rw [show ((script.map CV.int).length : Int) / 2 = ((script.length / 2 : Nat) : Int) by rw [List.length_map]; omega]
  refine WA.nm ok hk ?_
  refine WSs.cons (WS.assignComp ok (WE.slice (WE.nm ok hk l0 (WE.nm ok hk rfl ⟨_, rfl, WSl.lst (by simp) (by simp; omega) ⟨_, IterOf.lst, fun C2 ok2 s2 hsc => ?_⟩⟩))) (by rfl) (by rw [hk]; rfl) ?_)
  · have kx : ∀ y, C2.env.kindOf y = _ := fun y => by unfold Env.kindOf; rw [hsc, relabel_lookup]
    rw [cpick_to (by simp; omega), ← List.map_take]
    refine callsLoop_W ok2 (L.same s2) (by rw [kx]; rfl) (by rw [kx]; rfl) (script.take (script.length / 2)) [] _ (by simp; omega) fun lo' h' => ⟨fun y hy => by have := mem_of_lookupK hy; simp at this, .inl ?_⟩
    have hd : ((script.map CV.int).drop (script.length / 2)).isEmpty = (script.drop (script.length / 2)).isEmpty := by rw [← List.map_drop, List.isEmpty_map]
    refine WSs.cons (WS.assignComp ok (WE.boolop (WE.slice (WE.nm ok hk l0 (WE.nm ok hk rfl ⟨_, rfl, WSl.lst (by simp) (by simp; omega) ?_⟩)))) (by rfl) (by rw [hk]; rfl) ?_)
    · rw [cpick_from (by simp; omega)]
      refine Wtr.lst (by simp; omega) ?_
      rw [hd]
      cases hE : (script.drop (script.length / 2)).isEmpty with
      | true =>
        refine WE.listF (WE.int (WE.int (WE.int (WE.int (WE.int ⟨by simp, _, IterOf.lst, fun C2 ok2 s2 hsc => ?_⟩)))))
        have kx : ∀ y, C2.env.kindOf y = _ := fun y => by unfold Env.kindOf; rw [hsc, relabel_lookup]
        refine callsLoop_W ok2 (L.same s2) (by rw [kx]; rfl) (by rw [kx]; rfl) [2, 3, 4, 10, 12] [] _ (by simp) fun lo' h' => ⟨fun y hy => by have := mem_of_lookupK hy; simp at this, .inl ?_⟩
        have e : rowOf script = [2, 3, 4, 10, 12].map callOf := by unfold rowOf rowNums; rw [hE]; rfl
        rw [e] at h
        unfold startOf at h
        rw [List.map_map, List.map_map] at h
        exact h
      | false =>
        rw [← List.map_drop]
        refine ⟨_, IterOf.lst, fun C2 ok2 s2 hsc => ?_⟩
        have kx : ∀ y, C2.env.kindOf y = _ := fun y => by unfold Env.kindOf; rw [hsc, relabel_lookup]
        refine callsLoop_W ok2 (L.same s2) (by rw [kx]; rfl) (by rw [kx]; rfl) (script.drop (script.length / 2)) [] _ (by simp; omega) fun lo' h' => ⟨fun y hy => by have := mem_of_lookupK hy; simp at this, .inl ?_⟩
        have e : rowOf script = (script.drop (script.length / 2)).map callOf := by unfold rowOf rowNums; rw [hE]; rfl
        rw [e] at h
        unfold startOf at h
        rw [List.map_map, List.map_map] at h
        exact h
    · have k1 : C.env.kindOf "row" = some .local := by rw [hk]; rfl
      have k3 : C.env.blockKind = .function := blockKind_of ok
      unfold swapsWith
      dsimp only
      rewrite [k1, k3]
      rfl
  · have k1 : C.env.kindOf "start" = some .local := by rw [hk]; rfl
    have k3 : C.env.blockKind = .function := blockKind_of ok
    unfold swapsWith
    dsimp only
    rewrite [k1, k3]
    rfl
end
end Mine
open PySem PySem.W PySem.Calls PyProof.Rows
set_option Elab.async false
set_option linter.all false
set_option maxRecDepth 100000
set_option genSizeOf false
namespace Mine
section
variable {C : Cx} {dep : Nat} {H : CH} {cl fa3 fa4 fa5 fa6 fa7 fa8 : Addr}
theorem short_W {Q : CF → CSt → Prop} {row : List (Int × List Str × Int)} {lo : Str → Option CV} (ok : C.Ok (dep + 2)) (hk : HK C (scopeOf (lawF 9))) (L : LCtx C cl fa3 fa4 fa5 fa6 fa7 fa8) (hr : ∀ c ∈ row, wgood c.2.1) (hl : row.length ≤ 4000) (l0 : lo "row" = some (.lst (row.map callC)))
    (h : ∀ H', (∀ b, H b ≠ none → H' b = H b) → Q .next ⟨lput lo "short" (.lst ((shortOf row).map callC)), H'⟩) : WS C (nth (bodyOf (lawF 9)) 3) ⟨lo, H⟩ Q := by
  have keep8 : keepIn C.K (.ref fa8) = true := by obtain ⟨fd, l⟩ := L.f8; exact l.keep
  exact WS.assign1 (WE.call ok (WE.glob ok L.g (v := .ref fa8) rfl ⟨_, rfl, KpOk.ref keep8, WE.nm ok hk l0 (L.short ok hr hl fun H' hH => WA.nm ok hk (h H' hH))⟩ (by rw [hk]; rfl)))
end
end Mine
open PySem PySem.W PySem.Calls PyProof.Rows
set_option Elab.async false
set_option linter.all false
set_option maxRecDepth 100000
set_option genSizeOf false
namespace Mine
/-- the beginnings of a way, each with a name more -/
noncomputable def begins2 (way : List Str) (k m : Nat) : List (List Str) := (List.range' k m).flatMap fun i => [way.take i, way.take i ++ [("b.a" : Str)]]
theorem upk_nat {n k : Nat} (h : k ≤ n) : upk n (k : Int) = k := by unfold upk; rw [if_neg (by simp), Int.toNat_natCast, Nat.min_eq_left h]
section
variable {C : Cx} {dep : Nat} {H : CH} {cl fa3 fa4 fa5 fa6 fa7 fa8 W : Addr}
theorem begin2_W {t : Expr} {body : List Stmt} {Q : CF → CSt → Prop} {way : List Str} (ok : C.Ok dep) (hk : HK C (scopeOf (lawF 9))) (hwl : way.length ≤ 100)
    (e : ∃ t1 it o p it2 o2 p2, nth (bodyOf (lawF 9)) 5 = .For t1 it [.For t it2 body o2 p2] o p) :
    ∀ (m k : Nat) (acc : List (List Str)) (lo : Str → Option CV), k + m = way.length + 1 → acc.length + 2 * m ≤ 100000 → lo "ways" = some (.loc W) → lo "way" = some (wcv way) →
      (∀ lo', lo' "ways" = some (.loc W) → (∀ y : Str, y ≠ "k" → lo' y = lo y) → Q .next ⟨lo', hput H W (.list ((acc ++ begins2 way k m).map wcv))⟩) →
      WFor C t body [] ((List.range' k m).map fun i => CV.int (i : Nat)) ⟨lo, hput H W (.list (acc.map wcv))⟩ Q := by
  apply forE2 (t := t) (body := body) e
  intro m
  induction m with
  | zero => intro k acc lo _ _ l1 l2 q; exact WSs.nil (by simpa [begins2] using q lo l1 fun _ _ => rfl)
  | succ m ih =>
    intro k acc lo hkm hn l1 l2 q
    rw [List.range'_succ, List.map_cons]
    have hkl : k ≤ way.length := by omega
    have hsl : CV.tup ((way.map CV.str).take (upk (way.map CV.str).length (k : Int))) = wcv (way.take k) := by rw [upk_nat (by simpa using hkl)]; unfold wcv; rw [List.map_take]
    refine WA.nm ok hk ?_
    refine WSs.cons (WS.expr ok (WE.meth ok (WE.nm ok hk (v := .loc W) l1 ⟨_, KpOk.builtin, WMeth.listLoc (cs := acc.map wcv) (by show hput H W _ W = _; simp) PySem.F.slot_list_extend PySem.F.type_list_extend, ?_⟩)))
    refine WE.listF ?_
    refine WE.slice (WE.nm ok hk (v := wcv way) l2 (WE.nm ok hk (v := .int k) rfl ⟨_, rfl, WSl.tupTo (by simp; omega) ?_⟩))
    rw [hsl]
    refine WE.binop (WE.slice (WE.nm ok hk (v := wcv way) l2 (WE.nm ok hk (v := .int k) rfl ⟨_, rfl, WSl.tupTo (by simp; omega) ?_⟩)))
    rw [hsl]
    refine WE.tuple (WE.str ⟨by simp, W2.addT (by simp; omega) ⟨by simp, ?_⟩⟩)
    refine WCall.extend (cs := acc.map wcv) (by show hput H W _ W = _; simp) (by simp; omega) ⟨rfl, WSs.nil ?_⟩
    have e2 : ((way.take k).map CV.str ++ [CV.str ("b.a" : Str)]) = (way.take k ++ [("b.a" : Str)]).map CV.str := by simp
    show WFor C _ _ [] _ ⟨_, hput (hput H W _) W _⟩ _
    rw [hput_hput, e2, show acc.map wcv ++ [wcv (way.take k), CV.tup ((way.take k ++ [("b.a" : Str)]).map CV.str)] = (acc ++ [way.take k, way.take k ++ [("b.a" : Str)]]).map wcv by simp [wcv]]
    refine ih (k + 1) _ (lput lo "k" (.int k)) (by omega) (by simp; omega) l1 l2 fun lo' h1 h2 => ?_
    have := q lo' h1 fun y hy => by rw [h2 y hy]; simp [lput, hy]
    simpa [begins2, List.range'_succ] using this
end
end Mine
open PySem PySem.W PySem.Calls PyProof.Rows
set_option Elab.async false
set_option linter.all false
set_option maxRecDepth 100000
set_option genSizeOf false
namespace Mine
noncomputable def begins2s (cs : List (Int × List Str × Int)) : List (List Str) := cs.flatMap fun c => begins2 c.2.1 0 (c.2.1.length + 1)
theorem begins2_len (way : List Str) : ∀ m k, (begins2 way k m).length = 2 * m
  | 0, k => rfl
  | m + 1, k => by
    have := begins2_len way m (k + 1)
    unfold begins2 at this ⊢
    rw [List.range'_succ, List.flatMap_cons, List.length_append, this]
    simp; omega
section
variable {C : Cx} {dep : Nat} {H : CH} {cl fa3 fa4 fa5 fa6 fa7 fa8 W : Addr}
theorem waysLoop2_W {t : Expr} {body : List Stmt} {Q : CF → CSt → Prop} (ok : C.Ok dep) (hk : HK C (scopeOf (lawF 9))) (L : LCtx C cl fa3 fa4 fa5 fa6 fa7 fa8)
    (e : ∃ it o p, nth (bodyOf (lawF 9)) 5 = .For t it body o p) :
    ∀ (cs : List (Int × List Str × Int)) (acc : List (List Str)) (lo : Str → Option CV), (∀ c ∈ cs, c.2.1.length ≤ 10) → acc.length + 100 * cs.length ≤ 50000 → lo "ways" = some (.loc W) →
      (∀ lo', lo' "ways" = some (.loc W) → (∀ y : Str, y ≠ "k" → y ≠ "kind" → y ≠ "way" → y ≠ "flag" → lo' y = lo y) → Q .next ⟨lo', hput H W (.list ((acc ++ begins2s cs).map wcv))⟩) →
      WFor C t body [] (cs.map callC) ⟨lo, hput H W (.list (acc.map wcv))⟩ Q := by
  apply forE (t := t) (body := body) e
  intro cs
  induction cs with
  | nil => intro acc lo _ _ l1 q; exact WSs.nil (by simpa [begins2s] using q lo l1 fun _ _ _ _ _ => rfl)
  | cons c cs ih =>
    intro acc lo hc hn l1 q
    simp only [List.length_cons] at hn
    have hc1 := hc c List.mem_cons_self
    refine WA.tuple (vs := [.int c.1, wcv c.2.1, .int c.2.2]) ok rfl (WA.nm ok hk (WA.nm ok hk (WA.nm ok hk ?_)))
    refine WSs.cons (WS.for_ ok (WE.call ok (WE.glob ok L.g (v := .type "range") rfl ⟨_, rfl, KpOk.type, WE.binop (WE.call ok (WE.glob ok L.g (v := .builtin "len") rfl ⟨_, rfl, KpOk.builtin, WE.nm ok hk (v := wcv c.2.1) rfl (WCall.lenT (by simp; omega) (WE.int (W2.addI (WCall.range1 ⟨_, IterOf.rng (by omega) (by simp <;> omega), ?_⟩))))⟩ (by rw [hk]; rfl)))⟩ (by rw [hk]; rfl))))
    have er : rints 0 (((c.2.1.map CV.str).length : Int) + 1) = (List.range' 0 (c.2.1.length + 1)).map fun i => CV.int (i : Nat) := by
      simp only [rints, List.length_map, Int.sub_zero, show ((c.2.1.length : Int) + 1).toNat = c.2.1.length + 1 by omega, List.range_eq_range', Int.zero_add]
    rw [er]
    have hb : (begins2 c.2.1 0 (c.2.1.length + 1)).length = 2 * (c.2.1.length + 1) := begins2_len _ _ _
    refine begin2_W (way := c.2.1) ok hk (by omega) ⟨_, _, _, _, _, _, _, rfl⟩ (c.2.1.length + 1) 0 acc _ (by omega) (by omega) l1 rfl fun lo1 n1 n2 => WSs.nil ?_
    refine ih (acc ++ begins2 c.2.1 0 (c.2.1.length + 1)) lo1 (fun k hk => hc k (List.mem_cons_of_mem _ hk)) (by rw [List.length_append, hb]; omega) n1 fun lo' h1 h2 => ?_
    have := q lo' h1 fun y e1 e2 e3 e4 => by rw [h2 y e1 e2 e3 e4, n2 y e1]; simp [CSt.put, lput, e2, e3, e4]
    simpa [begins2s] using this
end
end Mine
open PySem PySem.W PySem.Calls PyProof.Rows
set_option Elab.async false
set_option linter.all false
set_option maxRecDepth 100000
set_option genSizeOf false
namespace Mine
noncomputable def fullOf (row : List (Int × List Str × Int)) : List (Int × List Str × Int) := row.flatMap fun c => [(0, c.2.1, 2), (2, c.2.1, 3)]
section
variable {C : Cx} {dep : Nat} {H : CH} {cl fa3 fa4 fa5 fa6 fa7 fa8 W : Addr}
theorem fullLoop_W {t : Expr} {body : List Stmt} {Q : CF → CSt → Prop} (ok : C.Ok dep) (hk : HK C (scopeOf (lawF 9)))
    (e : ∃ it o p, nth (bodyOf (lawF 9)) 8 = .For t it body o p) :
    ∀ (cs acc : List (Int × List Str × Int)) (lo : Str → Option CV), acc.length + 2 * cs.length ≤ 50000 → lo "full" = some (.loc W) →
      (∀ lo', lo' "full" = some (.loc W) → (∀ y : Str, y ≠ "kind" → y ≠ "way" → y ≠ "flag" → lo' y = lo y) → Q .next ⟨lo', hput H W (.list ((acc ++ fullOf cs).map callC))⟩) →
      WFor C t body [] (cs.map callC) ⟨lo, hput H W (.list (acc.map callC))⟩ Q := by
  apply forE (t := t) (body := body) e
  intro cs
  induction cs with
  | nil => intro acc lo _ l1 q; exact WSs.nil (by simpa [fullOf] using q lo l1 fun _ _ _ _ => rfl)
  | cons c cs ih =>
    intro acc lo hn l1 q
    simp only [List.length_cons] at hn
    refine WA.tuple (vs := [.int c.1, wcv c.2.1, .int c.2.2]) ok rfl (WA.nm ok hk (WA.nm ok hk (WA.nm ok hk ?_)))
    refine WSs.cons (WS.expr ok (WE.meth ok (WE.nm ok hk (v := .loc W) l1 ⟨_, KpOk.builtin, WMeth.listLoc (cs := acc.map callC) (by show hput H W _ W = _; simp) PySem.F.slot_list_extend PySem.F.type_list_extend, ?_⟩)))
    refine WE.listF (WE.tuple (WE.int (WE.nm ok hk (v := wcv c.2.1) rfl (WE.int ⟨by simp, WE.tuple (WE.int (WE.nm ok hk (v := wcv c.2.1) rfl (WE.int ⟨by simp, by simp, ?_⟩)))⟩))))
    refine WCall.extend (cs := acc.map callC) (by show hput H W _ W = _; simp) (by simp; omega) ⟨rfl, WSs.nil ?_⟩
    show WFor C _ _ [] _ ⟨_, hput (hput H W _) W _⟩ _
    rw [hput_hput, show acc.map callC ++ [CV.tup [.int 0, wcv c.2.1, .int 2], CV.tup [.int 2, wcv c.2.1, .int 3]] = (acc ++ [((0 : Int), c.2.1, (2 : Int)), (2, c.2.1, 3)]).map callC by simp [callC, wcv]]
    refine ih _ (lput (lput (lput lo "kind" (.int c.1)) "way" (wcv c.2.1)) "flag" (.int c.2.2)) (by simp; omega) l1 fun lo' h1 h2 => ?_
    have := q lo' h1 fun y e1 e2 e3 => by rw [h2 y e1 e2 e3]; simp [lput, e1, e2, e3]
    simpa [fullOf] using this
end
end Mine
open PySem PySem.W PySem.Calls PyProof.Rows
set_option Elab.async false
set_option linter.all false
set_option maxRecDepth 100000
set_option genSizeOf false
namespace Mine
/-- a call of the text -/
noncomputable abbrev Cal := Int × List Str × Int
theorem ceq_lst_map {α : Type} (f g : α → CV) : ∀ xs : List α, ceq (.lst (xs.map f)) (.lst (xs.map g)) = xs.all fun x => ceq (f x) (g x)
  | [] => rfl
  | x :: xs => congrArg (ceq (f x) (g x) && ·) (ceq_lst_map f g xs)
/-- the same is told of a way -/
noncomputable def same4 (m n : MS) (q : List Str) : Bool := fnums.all fun g => m.tell q g == n.tell q g
theorem ceq_told4 (m n : MS) (ways : List (List Str)) : ceq (told4 m ways) (told4 n ways) = ways.all (same4 m n) := by
  unfold told4
  rw [ceq_lst_map]
  exact congrArg ways.all (funext fun q => ceq_lst_map (fun g => .bool (m.tell q g)) (fun g => .bool (n.tell q g)) fnums)
theorem isPy_told4 (m : MS) (ways : List (List Str)) : isPy (told4 m ways) = true := by
  unfold told4
  exact isPys_coded fun q _ => rfl
theorem depth_told4 (m : MS) (ways : List (List Str)) : (toPy (told4 m ways)).depth ≤ 3 := by
  unfold told4
  refine depth_lst (n := 2) fun c hc => ?_
  obtain ⟨q, _, rfl⟩ := List.mem_map.mp hc
  exact Nat.le_of_ble_eq_true rfl
/-- what _law_told answers -/
noncomputable def toldC (m : MS) (ways : List (List Str)) : CV := .tup [told4 m ways, told4 (after m) ways]
theorem isPy_toldC (m : MS) (ways : List (List Str)) : isPy (toldC m ways) = true := by
  show (isPy (told4 m ways) && (isPy (told4 (after m) ways) && true)) = true
  rw [isPy_told4, isPy_told4]; rfl
theorem depth_toldC (m : MS) (ways : List (List Str)) : (toPy (toldC m ways)).depth ≤ 100 := by
  have h : (toPy (toldC m ways)).depth ≤ 3 + 1 := Nat.add_le_add_right (depthAll_le (n := 3) (cs := [told4 m ways, told4 (after m) ways]) fun c hc => by
    rcases List.mem_cons.mp hc with rfl | hc
    · exact depth_told4 _ _
    · rw [List.mem_singleton.mp hc]; exact depth_told4 _ _) 1
  exact Nat.le_trans h (by decide)
noncomputable def sameAll (m n : MS) (ways : List (List Str)) : Bool := ways.all (same4 m n) && ways.all (same4 (after m) (after n))
theorem ceq_toldC (m n : MS) (ways : List (List Str)) : ceq (toldC m ways) (toldC n ways) = sameAll m n ways := by
  show (ceq (told4 m ways) (told4 n ways) && (ceq (told4 (after m) ways) (told4 (after n) ways) && true)) = _
  rw [ceq_told4, ceq_told4, Bool.and_true]; rfl
theorem dos_w : ∀ {cs : List Cal} {m : MS}, (∀ v ∈ m.w, pgood v) → (∀ c ∈ cs, rgood c) → (∀ v ∈ (dos m cs).w, pgood v) ∧ (dos m cs).w.length ≤ m.w.length + cs.length
  | [], m, h, _ => ⟨h, Nat.le_refl _⟩
  | c :: cs, m, h, hc => by
    have ih := dos_w (cs := cs) (m := m.do c) (MS.do_w_good h (hc c List.mem_cons_self)) fun d hd => hc d (List.mem_cons_of_mem _ hd)
    refine ⟨ih.1, Nat.le_trans ih.2 ?_⟩
    have := MS.do_w_len (m := m) (c := c)
    rw [List.length_cons]; omega
section
variable {C C' : Cx} {dep : Nat} {H : CH} {cl x fa3 fa4 fa5 fa6 fa7 fa8 : Addr} {ow : FO} {m : MS}
/-- Flags that went through these calls are asked of all ways -/
theorem LCtx.told' {Q : CV → CSt → Prop} {lo : Str → Option CV} {cs : List Cal} {ways : List (List Str)} (ok : C.Ok (dep + 3)) (L : LCtx C cl fa3 fa4 fa5 fa6 fa7 fa8) (F : FM H cl x ow (dos MS.zero cs)) (hc : ∀ c ∈ cs, rgood c) (hn : cs.length ≤ 900) (hl : ways.length ≤ 10000) (hq : ∀ q ∈ ways, q.length ≤ 1000)
    (h : ∀ H' ow', FK H H' ow ow' → Q (toldC (dos MS.zero cs) ways) ⟨lo, H'⟩) : WCall C (.ref fa5) [.loc x, .lst (ways.map wcv)] [] [] ⟨lo, H⟩ Q := by
  have hw := dos_w (cs := cs) (m := MS.zero) (fun v hv => by cases hv) hc
  exact L.told ok F hw.1 (Nat.le_trans hw.2 (by show 0 + _ ≤ _; omega)) hl hq fun H' ow' _ K => h H' ow' K
/-- _law_told(_law_run(e), ways) -/
theorem LCtx.runTold {Q : CV → CSt → Prop} {lo : Str → Option CV} {cs : List Cal} {ways : List (List Str)} {e : Expr} {p1 p2 p3 p4 p5 : Pos} (ok : C.Ok (dep + 3)) (hk : HK C (scopeOf (lawF 9))) (L : LCtx C cl fa3 fa4 fa5 fa6 fa7 fa8) (hc : ∀ c ∈ cs, rgood c) (hn : cs.length ≤ 900) (hl : ways.length ≤ 10000) (hq : ∀ q ∈ ways, q.length ≤ 1000)
    (lw : lo "ways" = some (.lst (ways.map wcv))) (hns : noStar e = true) (he : ∀ Q', Q' (.lst (cs.map callC)) ⟨lo, H⟩ → WE C e ⟨lo, H⟩ Q') (h : ∀ H', Q (toldC (dos MS.zero cs) ways) ⟨lo, H'⟩) : WE C (.Call (.Name "_law_told" p1) [.Call (.Name "_law_run" p2) [e] [] p3, .Name "ways" p4] [] p5) ⟨lo, H⟩ Q := by
  have keep4 : keepIn C.K (.ref fa4) = true := by obtain ⟨fd, l⟩ := L.f4; exact l.keep
  have keep5 : keepIn C.K (.ref fa5) = true := by obtain ⟨fd, l⟩ := L.f5; exact l.keep
  refine WE.call ok (WE.glob ok L.g (v := .ref fa5) rfl ⟨_, rfl, KpOk.ref keep5, ?_⟩ (by rw [hk]; rfl))
  exact WE.call ok (WE.glob ok L.g (v := .ref fa4) rfl ⟨_, rfl, KpOk.ref keep4, he _ (L.run ok hc hn fun H1 x ow1 F1 K1 => WE.nm ok hk lw (L.told' ok F1 hc hn hl hq fun H2 ow2 K2 => h H2))⟩ (by rw [hk]; rfl)) (hs := by rw [List.all_cons, hns]; rfl)
/-- the two runs, compared -/
theorem cmpBody_W {t : Expr} {body : List Stmt} {Q : CF → CSt → Prop} {ahead row short : List Cal} {ways : List (List Str)} {lo : Str → Option CV} (ok : C.Ok (dep + 3)) (hk : HK C (scopeOf (lawF 9))) (L : LCtx C cl fa3 fa4 fa5 fa6 fa7 fa8)
    (e : ∃ it o p, nth (bodyOf (lawF 9)) 9 = .For t it body o p) (ha : ∀ c ∈ ahead, rgood c) (hr : ∀ c ∈ row, rgood c) (hs : ∀ c ∈ short, rgood c) (na : ahead.length ≤ 300) (nr : row.length ≤ 300) (ns : short.length ≤ 300) (hl : ways.length ≤ 10000) (hq : ∀ q ∈ ways, q.length ≤ 1000)
    (la : lo "ahead" = some (.lst (ahead.map callC))) (lr : lo "row" = some (.lst (row.map callC))) (ls : lo "short" = some (.lst (short.map callC))) (lw : lo "ways" = some (.lst (ways.map wcv)))
    (hsame : sameAll (dos MS.zero (ahead ++ row)) (dos MS.zero (ahead ++ short)) ways = true)
    (q : ∀ lo' H', (∀ y : Str, y ≠ "long_one" → y ≠ "short_one" → lo' y = lo y) → Q .next ⟨lo', H'⟩) : WSs C body ⟨lo, H⟩ Q := by
  revert lo
  apply forE (t := t) (body := body) (P := fun _ body => ∀ {lo : Str → Option CV}, lo "ahead" = some (.lst (ahead.map callC)) → lo "row" = some (.lst (row.map callC)) → lo "short" = some (.lst (short.map callC)) → lo "ways" = some (.lst (ways.map wcv)) → (∀ lo' H', (∀ y : Str, y ≠ "long_one" → y ≠ "short_one" → lo' y = lo y) → Q .next ⟨lo', H'⟩) → WSs C body ⟨lo, H⟩ Q) e
  intro lo la lr ls lw q
  have keep4 : keepIn C.K (.ref fa4) = true := by obtain ⟨fd, l⟩ := L.f4; exact l.keep
  have keep5 : keepIn C.K (.ref fa5) = true := by obtain ⟨fd, l⟩ := L.f5; exact l.keep
  have good : ∀ {bs : List Cal}, (∀ c ∈ bs, rgood c) → ∀ c ∈ ahead ++ bs, rgood c := fun hb c hc => (List.mem_append.mp hc).elim (ha c) (hb c)
  refine WSs.cons (WS.swap2 ok (WE.tuple ?_) (by rw [hk]; rfl) (by rw [hk]; rfl) rfl ?_)
  · refine WE.call ok (WE.glob ok L.g (v := .ref fa4) rfl ⟨_, rfl, KpOk.ref keep4, WE.binop (WE.nm ok hk la (WE.nm ok hk lr (W2.addL (by simp; omega) ?_)))⟩ (by rw [hk]; rfl))
    rw [← List.map_append]
    refine L.run ok (good hr) (by simp; omega) fun H1 x1 ow1 F1 K1 => ?_
    refine WE.call ok (WE.glob ok L.g (v := .ref fa4) rfl ⟨_, rfl, KpOk.ref keep4, WE.binop (WE.nm ok hk la (WE.nm ok hk ls (W2.addL (by simp; omega) ?_)))⟩ (by rw [hk]; rfl))
    rw [← List.map_append]
    refine L.run ok (good hs) (by simp; omega) fun H2 x2 ow2 F2 K2 => ?_
    have F1' := F1.keep K2 fun _ _ => rfl
    refine ⟨by simp, _, _, rfl, ?_⟩
    refine WSs.cons (WS.if_ (WT.cmp1 (WE.call ok (WE.glob ok L.g (v := .ref fa5) rfl ⟨_, rfl, KpOk.ref keep5, WE.nm ok hk (v := .loc x1) rfl (WE.nm ok hk (v := .lst (ways.map wcv)) lw (L.told' ok F1'.1 (good hr) (by simp; omega) hl hq fun H3 ow3 K3 => ?_))⟩ (by rw [hk]; rfl)))))
    have F2' := (F2.keep K3 fun a h => by
      cases q1 : ow1 a with
      | none => rfl
      | some v => exact absurd (F1'.2 a (by rw [q1]; simp)) h).1
    refine WE.call ok (WE.glob ok L.g (v := .ref fa5) rfl ⟨_, rfl, KpOk.ref keep5, WE.nm ok hk (v := .loc x2) rfl (WE.nm ok hk (v := .lst (ways.map wcv)) lw (L.told' ok F2' (good hs) (by simp; omega) hl hq fun H4 ow4 K4 => W2.neP ok (isPy_toldC _ _) (isPy_toldC _ _) (depth_toldC _ _) (Wtr.bool ?_)))⟩ (by rw [hk]; rfl))
    rw [ceq_toldC, hsame]
    refine cF (WSs.nil (WSs.nil (q _ H4 fun y h1 h2 => ?_)))
    simp [CSt.put, lput, h1, h2]
  · have k1 : C.env.kindOf "long_one" = some .local := by rw [hk]; rfl
    have k2 : C.env.kindOf "short_one" = some .local := by rw [hk]; rfl
    have k3 : C.env.blockKind = .function := blockKind_of ok
    unfold swappedStores
    dsimp only [List.filterMap]
    simp only [k1, k2, k3]
    rfl
end
end Mine
open PySem PySem.W PySem.Calls PyProof.Rows
set_option Elab.async false
set_option linter.all false
set_option maxRecDepth 100000
set_option genSizeOf false
namespace Mine
/-- what is told of a way: the flag, the other flag -/
noncomputable def tellsOf (m : MS) (g : Int) (w : List Str) : List Bool := [m.tell w g, m.tell w (1 - g)]
noncomputable def aloneWays (way : List Str) : List (List Str) := [way.dropLast, way, way ++ [("b.a" : Str)]]
noncomputable def dueOf (kind : Int) : List Bool := [false, false, true, false, decide (kind = 1), false]
noncomputable def aloneRow (c : Cal) : List Cal := [c, (3, c.2.1, c.2.2)]
theorem init_slice {way : List Str} (h : way ≠ []) : CV.tup ((way.map CV.str).take (upk (way.map CV.str).length (-1))) = wcv way.dropLast := by
  rw [List.length_map, upk_init (List.length_pos_iff.mpr h), ← List.map_take, ← List.dropLast_eq_take]; rfl
section
variable {C C' : Cx} {dep : Nat} {H : CH} {cl x fa3 fa4 fa5 fa6 fa7 fa8 : Addr} {ow : FO} {m : MS}
theorem aloneOut_W {k : Nat} {p1 p2 p3 p4 p5 p6 p7 p8 p9 p10 p11 p12 : Pos} {Q : List CV → CSt → Prop} {g : Int} (ok : C.Ok (dep + 1)) (fc : FCls C cl) (ms : FMs C cl) (F : FM H cl x ow m) (hka : ownKind (C.env.kindOf "alone") = true) (hkw : C.env.kindOf "w" = some .local) (hkf : C.env.kindOf "f" = some .local) (hkg : ownKind (C.env.kindOf "flag") = true)
    (hline : (p2.endLine == p5.line) = true) :
    ∀ (ws : List (List Str)) (acc : List CV) (lo : Str → Option CV), acc.length + 2 * ws.length ≤ 100 → (∀ w ∈ ws, w.length ≤ 1000) → lo "alone" = some (.loc x) → lo "flag" = some (.int g) → (∀ lo', (∀ y : Str, y ≠ "w" → y ≠ "f" → lo' y = lo y) → Q (acc ++ (ws.flatMap (tellsOf m g)).map .bool) ⟨lo', H⟩) →
      WCI C (emitOf C (.Call (.Attribute (.Name "alone" p1) "is_" p2) [.Name "w" p3, .Name "f" p4] [] p5) [⟨.Name "f" p6, .List [.Name "flag" p7, .BinOp (.Constant (.int 1) k p8) .Sub (.Name "flag" p9) p10] p11, [], 0⟩]) (.Name "w" p12) [] (ws.map wcv) ⟨lo, H⟩ acc Q := by
  intro ws
  induction ws with
  | nil => intro acc lo _ _ l1 l2 q; have := q lo fun _ _ _ => rfl; simpa [WCI] using this
  | cons w ws ih =>
    intro acc lo hl hw l1 l2 q
    simp only [List.length_cons] at hl
    refine WA.name ok (by rw [hkw]; rfl) ?_
    refine WE.listF (WE.name ok.fun_ (v := .int g) l2 (WE.binop (WE.int (WE.name ok.fun_ (v := .int g) l2 (W2.subI ⟨by simp, _, IterOf.lst, ?_⟩) hkg))) hkg)
    refine tell4_W (nf := "alone") (nw := "w") (ng := "f") ok fc ms F hka (by rw [hkw]; rfl) hkf (hw w List.mem_cons_self) hline (by decide +kernel) (by decide) (by decide) [g, 1 - g] acc (lput lo "w" (wcv w)) (by simp; omega) l1 rfl fun lo1 h1 => ?_
    refine ih (acc ++ (tellsOf m g w).map .bool) lo1 (by simp [tellsOf]; omega) (fun v hv => hw v (List.mem_cons_of_mem _ hv)) ((h1 _ (by decide)).trans l1) ((h1 _ (by decide)).trans l2) fun lo' h' => ?_
    have := q lo' fun y e1 e2 => by rw [h' y e1 e2, h1 y e2]; simp [lput, e1]
    simpa using this
/-- no item is another one than is due -/
theorem isnt_W {p1 p2 p3 p4 p5 p6 p7 p8 p9 : Pos} {Q : List CV → CSt → Prop} {ts : List Bool} (ok : C.Ok dep) (hkt : ownKind (C.env.kindOf "told") = true) (hkd : ownKind (C.env.kindOf "due") = true) (hkk : C.env.kindOf "k" = some .local) (hts : ts.length ≤ 1000) :
    ∀ (ks : List Nat) (acc : List CV) (lo : Str → Option CV), (∀ k ∈ ks, k < ts.length) → lo "told" = some (.lst (ts.map .bool)) → lo "due" = some (.lst (ts.map .bool)) → (∀ lo', (∀ y : Str, y ≠ "k" → lo' y = lo y) → Q acc ⟨lo', H⟩) →
      WCI C (emitOf C (.Name "k" p1) []) (.Name "k" p2) [.Compare (.Subscript (.Name "told" p3) (.Name "k" p4) p5) [.IsNot] [.Subscript (.Name "due" p6) (.Name "k" p7) p8] p9] (ks.map fun i => CV.int (i : Nat)) ⟨lo, H⟩ acc Q := by
  intro ks
  induction ks with
  | nil => intro acc lo _ l1 l2 q; have := q lo fun _ _ => rfl; simpa [WCI] using this
  | cons k ks ih =>
    intro acc lo hks l1 l2 q
    have hk := hks k List.mem_cons_self
    obtain ⟨b, hb⟩ : ∃ b, ts[k]? = some b := ⟨ts[k], by simp [hk]⟩
    have hc : (ts.map CV.bool)[k]? = some (.bool b) := by rw [List.getElem?_map, hb]; rfl
    refine WA.name ok (by rw [hkk]; rfl) ?_
    refine WT.cmp1 (WE.sub (WE.name ok.fun_ (v := .lst (ts.map .bool)) l1 (WE.name ok.fun_ (v := .int k) rfl (W2.itL hc (by simp; omega) (WE.sub (WE.name ok.fun_ (v := .lst (ts.map .bool)) l2 (WE.name ok.fun_ (v := .int k) rfl (W2.itL hc (by simp; omega) (W2.isNotB (Wtr.bool ?_))) (by rw [hkk]; rfl)) hkd))) (by rw [hkk]; rfl)) hkt))
    rw [bne_self_eq_false]
    refine cF (ih acc (lput lo "k" (.int k)) (fun i hi => hks i (List.mem_cons_of_mem _ hi)) l1 l2 fun lo' h' => ?_)
    exact q lo' fun y hy => by rw [h' y hy]; simp [lput, hy]
end
end Mine
open PySem PySem.W PySem.Calls PyProof.Rows
set_option Elab.async false
set_option linter.all false
set_option maxRecDepth 100000
set_option genSizeOf false
namespace Mine
noncomputable def aloneBools (c : Cal) : List Bool := (aloneWays c.2.1).flatMap (tellsOf (dos MS.zero (aloneRow c)) c.2.2)
section
variable {C C' : Cx} {dep : Nat} {H : CH} {cl x fa3 fa4 fa5 fa6 fa7 fa8 : Addr} {ow : FO} {m : MS}
theorem aloneLoop_W {t : Expr} {body : List Stmt} {Q : CF → CSt → Prop} (ok : C.Ok (dep + 3)) (hk : HK C (scopeOf (lawF 9))) (L : LCtx C cl fa3 fa4 fa5 fa6 fa7 fa8) (e : ∃ it o p, nth (bodyOf (lawF 9)) 10 = .For t it body o p) :
    ∀ (cs : List Cal) (H : CH) (lo : Str → Option CV), (∀ c ∈ cs, c.1 < 3 → (rgood c ∧ c.2.1.length ≤ 10) ∧ aloneBools c = dueOf c.1) →
      (∀ lo' H', (∀ y : Str, y ≠ "kind" → y ≠ "way" → y ≠ "flag" → y ≠ "alone" → y ≠ "told" → y ≠ "due" → lo' y = lo y) → Q .next ⟨lo', H'⟩) → WFor C t body [] (cs.map callC) ⟨lo, H⟩ Q := by
  apply forE (t := t) (body := body) e
  have keep4 : keepIn C.K (.ref fa4) = true := by obtain ⟨fd, l⟩ := L.f4; exact l.keep
  have kal : C.env.kindOf "alone" = some .cell := by rw [hk]; rfl
  have kfl : C.env.kindOf "flag" = some .cell := by rw [hk]; rfl
  have kto : C.env.kindOf "told" = some .cell := by rw [hk]; rfl
  have kdu : C.env.kindOf "due" = some .cell := by rw [hk]; rfl
  intro cs
  induction cs with
  | nil => intro H lo _ q; exact WSs.nil (q lo H fun _ _ _ _ _ _ _ => rfl)
  | cons c cs ih =>
    intro H lo hc q
    have hc1 := hc c List.mem_cons_self
    have ih' := fun H' lo' => ih H' lo' fun d hd => hc d (List.mem_cons_of_mem _ hd)
    obtain ⟨c1, c2, c3⟩ := c
    refine WA.tuple (vs := [.int c1, wcv c2, .int c3]) ok rfl (WA.nm ok hk (WA.nm ok hk (WA.nm ok hk ?_)))
    refine WSs.cons (WS.if_ (WT.cmp1 (WE.nm ok hk (v := .int c1) rfl (WE.int (W2.ltI (Wtr.bool (cB (fun hb => ?_) fun hb => ?_)))))))
    case refine_2 =>
      refine WSs.nil (WSs.nil (ih' H _ fun lo' H' h' => q lo' H' fun y e1 e2 e3 e4 e5 e6 => ?_))
      rw [h' y e1 e2 e3 e4 e5 e6]; simp [CSt.put, lput, e1, e2, e3]
    have hlt : c1 < 3 := by simpa using hb
    obtain ⟨⟨hr, hlen⟩, hd⟩ := hc1 hlt
    dsimp only at hlen
    have hp : pgood (c2, c3) := hr.2.2.resolve_left (by show c1 ≠ 3; omega)
    refine WSs.cons (WS.assign1 (WE.call ok (WE.glob ok L.g (v := .ref fa4) rfl ⟨_, rfl, KpOk.ref keep4, ?_⟩ (by rw [hk]; rfl))))
    refine WE.listF (WE.tuple (WE.nm ok hk (v := .int c1) rfl (WE.nm ok hk (v := wcv c2) rfl (WE.nm ok hk (v := .int c3) rfl ⟨by simp, WE.tuple (WE.int (WE.nm ok hk (v := wcv c2) rfl (WE.nm ok hk (v := .int c3) rfl ⟨by simp, by simp, ?_⟩)))⟩))))
    refine L.run (cs := aloneRow (c1, c2, c3)) ok (fun d hd => ?_) (by simp [aloneRow]) fun H1 x ow F K => WA.nm ok hk ?_
    · simp only [aloneRow, List.mem_cons, List.not_mem_nil, or_false] at hd
      rcases hd with rfl | rfl
      · exact hr
      · exact ⟨(by decide : (0 : Int) ≤ 3), (by decide : (3 : Int) < 5), .inl rfl⟩
    refine WSs.cons (WS.assign1 (WE.comp ok (WE.listF (WE.slice (WE.nm ok hk (v := wcv c2) rfl (WE.neg1 ⟨_, rfl, WSl.tupTo (by simp; omega) (WE.nm ok hk (v := wcv c2) rfl (WE.binop (WE.nm ok hk (v := wcv c2) rfl (WE.tuple (WE.str ⟨by simp, W2.addT (by simp; omega) ⟨by simp, _, IterOf.lst, fun C2 ok2 s2 hsc => ?_⟩⟩)))))⟩)))) ?_) (hs := ?_))
    · have kx : ∀ y, C2.env.kindOf y = _ := fun y => by unfold Env.kindOf; rw [hsc, relabel_lookup]
      have e2 : CV.tup (c2.map CV.str ++ [CV.str ("b.a" : Str)]) = wcv (c2 ++ [("b.a" : Str)]) := by simp [wcv]
      rw [init_slice hp.1, e2]
      refine aloneOut_W (g := c3) (x := x) ok2 (L.fc.same s2) (L.ms.same s2) F (by rw [kx, hk, ok.fun_]; rfl) (by rw [kx]; rfl) (by rw [kx]; rfl) (by rw [kx, hk, ok.fun_]; rfl) rfl (aloneWays c2) [] _ (by simp [aloneWays]) (fun w hw => ?_) rfl rfl fun lo' h' => ⟨fun y hy => ?_, .inl ?_⟩
      · simp only [aloneWays, List.mem_cons, List.not_mem_nil, or_false] at hw
        rcases hw with rfl | rfl | rfl
        · rw [List.length_dropLast]; omega
        · omega
        · rw [List.length_append, List.length_singleton]; omega
      · have := mem_of_lookupK hy
        simp at this
        rcases this with rfl | rfl <;> exact h' _ (by decide) (by decide)
      · show WA C _ (.lst ([] ++ (aloneBools (c1, c2, c3)).map .bool)) _ _
        rw [hd, List.nil_append]
        refine WA.nm ok hk ?_
        refine WSs.cons (WS.assign1 (WE.listF (WE.bool (WE.bool (WE.bool (WE.bool (WE.cmp1 (WE.nm ok hk (v := .int c1) rfl (WE.int (W2.eqI (WE.bool ⟨by simp, WA.nm ok hk ?_⟩)))))))))))
        refine WSs.cons (WS.if_ (WT.cmp1 (WE.comp ok (WE.call ok (WE.glob ok L.g (v := .type "range") rfl ⟨_, rfl, KpOk.type, WE.int (WCall.range1 ⟨_, IterOf.rng (by omega) (by omega), fun C3 ok3 s3 hsc3 => ?_⟩)⟩ (by rw [hk]; rfl))) ?_)))
        · have kx3 : ∀ y, C3.env.kindOf y = _ := fun y => by unfold Env.kindOf; rw [hsc3, relabel_lookup]
          rw [show rints 0 6 = [0, 1, 2, 3, 4, 5].map fun i : Nat => CV.int i from rfl]
          refine isnt_W (ts := dueOf c1) ok3 (by rw [kx3, hk, ok.fun_]; rfl) (by rw [kx3, hk, ok.fun_]; rfl) (by rw [kx3]; rfl) (by simp [dueOf]) [0, 1, 2, 3, 4, 5] [] _ (by simp [dueOf]) rfl rfl fun lo' h' => ⟨fun y hy => ?_, .inl ?_⟩
          · have := mem_of_lookupK hy
            simp at this
            rcases this with rfl | rfl <;> exact h' _ (by decide)
          · refine WE.listF ⟨by simp, W2.neP ok rfl rfl (by decide) (Wtr.bool (cF (WSs.nil (WSs.nil (WSs.nil (ih' H1 _ fun lo' H' h' => q lo' H' fun y e1 e2 e3 e4 e5 e6 => ?_))))))⟩
            rw [h' y e1 e2 e3 e4 e5 e6]; simp [CSt.put, lput, e1, e2, e3, e4, e5, e6]
        · simp only [List.all_cons, List.all_nil, kto, kdu]
          rfl
    · simp only [List.all_cons, List.all_nil, kal, kfl]
      rfl
    · have k3 : C.env.blockKind = .function := blockKind_of ok
      unfold swapsWithSole swapsWith
      dsimp only
      rewrite [kto, k3]
      rfl
end
end Mine
open PySem PySem.W PySem.Calls PyProof.Rows
set_option Elab.async false
set_option linter.all false
set_option maxRecDepth 100000
set_option genSizeOf false
namespace Mine
section
variable {C C' : Cx} {dep : Nat} {H : CH} {cl x fa3 fa4 fa5 fa6 fa7 fa8 : Addr} {ow : FO} {m : MS}
theorem spareLoop_W {t : Expr} {body : List Stmt} {Q : CF → CSt → Prop} {full short : List Cal} {ways : List (List Str)} (ok : C.Ok (dep + 3)) (hk : HK C (scopeOf (lawF 9))) (L : LCtx C cl fa3 fa4 fa5 fa6 fa7 fa8) (e : ∃ it o p, nth (bodyOf (lawF 9)) 12 = .For t it body o p)
    (hf : ∀ c ∈ full, rgood c) (hs : ∀ c ∈ short, rgood c) (nf : full.length ≤ 300) (ns : short.length ≤ 300) (hl : ways.length ≤ 10000) (hq : ∀ q ∈ ways, q.length ≤ 1000)
    (hne : ∀ i, i < short.length → sameAll (dos MS.zero (full ++ short.take i ++ short.drop (i + 1))) (dos MS.zero (full ++ short)) ways = false) :
    ∀ (n k : Nat) (H : CH) (lo : Str → Option CV), k + n = short.length → lo "full" = some (.lst (full.map callC)) → lo "short" = some (.lst (short.map callC)) → lo "ways" = some (.lst (ways.map wcv)) → lo "whole" = some (toldC (dos MS.zero (full ++ short)) ways) →
      (∀ lo' H', (∀ y : Str, y ≠ "k" → lo' y = lo y) → Q .next ⟨lo', H'⟩) → WFor C t body [] ((List.range' k n).map fun i => CV.int (i : Nat)) ⟨lo, H⟩ Q := by
  apply forE (t := t) (body := body) e
  intro n
  induction n with
  | zero => intro k H lo _ _ _ _ _ q; exact WSs.nil (q lo H fun _ _ => rfl)
  | succ n ih =>
    intro k H lo hkn l1 l2 l3 l4 q
    rw [List.range'_succ, List.map_cons]
    have hkl : k < short.length := by omega
    refine WA.nm ok hk ?_
    have hc : ∀ c ∈ full ++ short.take k ++ short.drop (k + 1), rgood c := fun c hc => by
      rcases List.mem_append.mp hc with hc | hc
      · rcases List.mem_append.mp hc with hc | hc
        · exact hf c hc
        · exact hs c (List.mem_of_mem_take hc)
      · exact hs c (List.mem_of_mem_drop hc)
    refine WSs.cons (WS.if_ (WT.cmp1 (L.runTold (cs := full ++ short.take k ++ short.drop (k + 1)) ok hk hc (by simp; omega) hl hq l3 rfl (fun Q' hQ => ?_) fun H1 => ?_)))
    · refine WE.binop (WE.binop (WE.nm ok hk (v := .lst (full.map callC)) l1 (WE.slice (WE.nm ok hk (v := .lst (short.map callC)) l2 (WE.nm ok hk (v := .int k) rfl ⟨_, rfl, WSl.lst (by simp) (by simp; omega) ?_⟩)))))
      rw [cpick_to (by simp; omega), ← List.map_take]
      refine W2.addL (by simp; omega) ?_
      refine WE.slice (WE.nm ok hk (v := .lst (short.map callC)) l2 (WE.binop (WE.nm ok hk (v := .int k) rfl (WE.int (W2.addI ⟨_, rfl, WSl.lst (by simp) (by simp; omega) ?_⟩)))))
      rw [show ((k : Int) + 1) = ((k + 1 : Nat) : Int) from rfl, cpick_from (by simp; omega), ← List.map_drop]
      refine W2.addL (by simp; omega) ?_
      rw [← List.map_append, ← List.map_append]
      exact hQ
    · refine WE.nm ok hk (v := toldC (dos MS.zero (full ++ short)) ways) l4 (W2.eqP ok (isPy_toldC _ _) (isPy_toldC _ _) (depth_toldC _ _) (Wtr.bool ?_))
      rw [ceq_toldC, hne k hkl]
      refine cF (WSs.nil (WSs.nil (ih (k + 1) H1 _ (by omega) l1 l2 l3 l4 fun lo' H' h' => ?_)))
      exact q lo' H' fun y hy => by rw [h' y hy]; simp [CSt.put, lput, hy]
theorem tell_zero (q : List Str) (g : Int) : MS.zero.tell q g = false := by simp [MS.tell, MS.zero]
theorem noneIn_W {k : Nat} {p1 p2 p3 p4 p5 p6 p7 p8 p9 : Pos} {Q : List CV → CSt → Prop} {way : List Str} (ok : C.Ok (dep + 1)) (fc : FCls C cl) (ms : FMs C cl) (F : FM H cl x ow MS.zero) (hkn : ownKind (C.env.kindOf "new") = true) (hkw : C.env.kindOf "way" = some .local) (hkf : C.env.kindOf "flag" = some .local)
    (hw : way.length ≤ 1000) (hline : (p4.endLine == p7.line) = true) :
    ∀ (gs : List Int) (acc : List CV) (lo : Str → Option CV), lo "new" = some (.loc x) → lo "way" = some (wcv way) → (∀ lo', (∀ y : Str, y ≠ "flag" → lo' y = lo y) → Q acc ⟨lo', H⟩) →
      WCI C (emitOf C (.Name "way" p1) []) (.Name "flag" p2) [.Compare (.Call (.Attribute (.Name "new" p3) "is_" p4) [.Name "way" p5, .Name "flag" p6] [] p7) [.IsNot] [.Constant (.bool false) k p8] p9] (gs.map .int) ⟨lo, H⟩ acc Q := by
  intro gs
  induction gs with
  | nil => intro acc lo l1 l2 q; exact q lo fun _ _ => rfl
  | cons g gs ih =>
    intro acc lo l1 l2 q
    refine WA.name ok (by rw [hkf]; rfl) ?_
    refine WT.cmp1 (WE.mcall ok (FM.is (key := way) (f := g) ok fc ms F hw (WE.bool (W2.isNotB (Wtr.bool ?_)))) (WE.name ok.fun_ (v := .loc x) l1 ⟨rfl, rfl⟩ hkn) (WE.name ok.fun_ (v := wcv way) l2 (WE.name ok.fun_ (v := .int g) rfl ⟨rfl, rfl, rfl, rfl⟩ (by rw [hkf]; rfl)) (by rw [hkw]; rfl)) rfl rfl rfl rfl hline)
    rw [tell_zero]
    refine cF (ih acc (lput lo "flag" (.int g)) l1 l2 fun lo' h' => ?_)
    exact q lo' fun y hy => by rw [h' y hy]; simp [lput, hy]
theorem noneOut_W {k k2 : Nat} {p1 p2 p3 p4 p5 p6 p7 p8 p9 p10 p11 p12 p13 : Pos} {Q : List CV → CSt → Prop} (ok : C.Ok (dep + 1)) (fc : FCls C cl) (ms : FMs C cl) (F : FM H cl x ow MS.zero) (hg : GOk C [("range", .type "range")]) (hkn : ownKind (C.env.kindOf "new") = true) (hkw : C.env.kindOf "way" = some .local) (hkf : C.env.kindOf "flag" = some .local) (hkr : C.env.kindOf "range" = some .globalImplicit)
    (hline : (p4.endLine == p7.line) = true) :
    ∀ (ws : List (List Str)) (acc : List CV) (lo : Str → Option CV), (∀ w ∈ ws, w.length ≤ 1000) → lo "new" = some (.loc x) → (∀ lo', (∀ y : Str, y ≠ "flag" → y ≠ "way" → lo' y = lo y) → Q acc ⟨lo', H⟩) →
      WCI C (emitOf C (.Name "way" p1) [⟨.Name "flag" p2, .Call (.Name "range" p10) [.Constant (.int 4) k2 p11] [] p12, [.Compare (.Call (.Attribute (.Name "new" p3) "is_" p4) [.Name "way" p5, .Name "flag" p6] [] p7) [.IsNot] [.Constant (.bool false) k p8] p9], 0⟩]) (.Name "way" p13) [] (ws.map wcv) ⟨lo, H⟩ acc Q := by
  intro ws
  induction ws with
  | nil => intro acc lo _ l1 q; exact q lo fun _ _ _ => rfl
  | cons w ws ih =>
    intro acc lo hw l1 q
    refine WA.name ok (by rw [hkw]; rfl) ?_
    refine WE.call ok (WE.glob ok hg (v := .type "range") rfl ⟨_, rfl, KpOk.type, WE.int (WCall.range1 ⟨_, IterOf.rng (by omega) (by omega), ?_⟩)⟩ hkr)
    rw [show rints 0 4 = ([0, 1, 2, 3] : List Int).map .int from rfl]
    refine noneIn_W (way := w) (x := x) ok fc ms F hkn hkw hkf (hw w List.mem_cons_self) hline [0, 1, 2, 3] acc (lput lo "way" (wcv w)) l1 rfl fun lo1 h1 => ?_
    refine ih acc lo1 (fun v hv => hw v (List.mem_cons_of_mem _ hv)) ((h1 _ (by decide)).trans l1) fun lo' h' => ?_
    exact q lo' fun y e1 e2 => by rw [h' y e1 e2, h1 y e1]; simp [lput, e2]
end
end Mine
open PySem PySem.W PySem.Calls PyProof.Rows
set_option Elab.async false
set_option linter.all false
set_option maxRecDepth 100000
set_option genSizeOf false
namespace Mine
/-- taken off by one of these -/
noncomputable def Cut (us : List (List Str)) (q : List Str) : Prop := ∃ u ∈ us, u <+: q
theorem cut_append {us vs : List (List Str)} {q : List Str} : Cut (us ++ vs) q ↔ Cut us q ∨ Cut vs q := by
  unfold Cut
  constructor
  · rintro ⟨u, hu, h⟩
    rcases List.mem_append.mp hu with hu | hu
    · exact .inl ⟨u, hu, h⟩
    · exact .inr ⟨u, hu, h⟩
  · rintro (⟨u, hu, h⟩ | ⟨u, hu, h⟩)
    · exact ⟨u, List.mem_append_left _ hu, h⟩
    · exact ⟨u, List.mem_append_right _ hu, h⟩
theorem cut_one {u q : List Str} : Cut [u] q ↔ u <+: q := ⟨fun ⟨v, hv, h⟩ => List.mem_singleton.mp hv ▸ h, fun h => ⟨u, List.mem_singleton.mpr rfl, h⟩⟩
theorem cut_nil {q : List Str} : ¬ Cut [] q := fun ⟨_, h, _⟩ => by cases h
/-- how the marks come about -/
structure Rel (m0 : MS) (s : SS) (m : MS) : Prop where
  h : ∀ q g, m.h q g = true ↔ (m0.h q g = true ∧ ¬ Cut (s.e ++ s.l) q) ∨ (s.mid = true ∧ (q, g) ∈ m0.w ∧ ¬ Cut s.l q) ∨ ((0 : Int), q, g) ∈ s.md
  r : ∀ q g, m.r q g = true ↔ (m0.r q g = true ∧ ¬ Cut (s.e ++ s.l) q) ∨ ((1 : Int), q, g) ∈ s.md
  w : m.w = (if s.mid then [] else m0.w) ++ s.w
  nl : s.mid = false → s.l = []
theorem Rel.init (m : MS) : Rel m ⟨[], [], [], [], false⟩ m := ⟨fun q g => by simp [cut_nil], fun q g => by simp [cut_nil], by simp, fun _ => rfl⟩
theorem Rel.step {m0 m : MS} {s : SS} {c : Cal} (R : Rel m0 s m) (h0 : 0 ≤ c.1) (h5 : c.1 < 5) : Rel m0 (s.step c) (m.do c) := by
  obtain ⟨c1, c2, c3⟩ := c
  obtain ⟨Rh, Rr, Rw, Rn⟩ := R
  dsimp only at h0 h5
  unfold SS.step MS.do
  dsimp only
  by_cases h2 : c1 < 2
  · rw [if_pos h2, if_pos h2]
    have hk : c1 = 0 ∨ c1 = 1 := by omega
    refine ⟨fun q g => ?_, fun q g => ?_, Rw, Rn⟩
    · rw [Bool.or_eq_true, Rh q g, List.mem_append, List.mem_singleton]
      simp only [Bool.and_eq_true, Bool.not_eq_true', decide_eq_false_iff_not, decide_eq_true_eq, Prod.mk.injEq, or_assoc]
      rcases hk with rfl | rfl
      · simp [and_assoc]
      · simp
    · rw [Bool.or_eq_true, Rr q g, List.mem_append, List.mem_singleton]
      simp only [Bool.and_eq_true, decide_eq_true_eq, Prod.mk.injEq, or_assoc]
      rcases hk with rfl | rfl
      · simp
      · simp [and_assoc]
  rw [if_neg h2, if_neg h2]
  by_cases h3 : c1 = 2
  · rw [if_pos h3, if_pos h3]
    exact ⟨Rh, Rr, by show m.w ++ _ = _ ++ (s.w ++ _); rw [Rw, List.append_assoc], Rn⟩
  rw [if_neg h3, if_neg h3]
  by_cases h4 : c1 = 3
  · rw [if_pos h4, if_pos h4]
    refine ⟨fun q g => ?_, fun q g => ?_, rfl, fun e => by cases e⟩
    · have e : ((0 : Int), q, g) ∈ s.md ++ s.w.map (fun u => ((0 : Int), u.1, u.2)) ↔ (0, q, g) ∈ s.md ∨ (q, g) ∈ s.w := by
        rw [List.mem_append, List.mem_map]
        refine or_congr Iff.rfl ⟨fun ⟨u, hu, e⟩ => ?_, fun h => ⟨(q, g), h, rfl⟩⟩
        simp only [Prod.mk.injEq, true_and] at e
        rw [← e.1, ← e.2]; exact hu
      rw [Bool.or_eq_true, Rh q g, decide_eq_true_eq, Rw, List.mem_append]
      show _ ↔ _ ∨ _ ∨ ((0 : Int), q, g) ∈ s.md ++ _
      rw [e]
      cases hm : s.mid with
      | true => simp; grind
      | false =>
        have := Rn hm
        simp [this, cut_nil]; grind
    · rw [Rr q g, List.mem_append, List.mem_map]
      simp
  rw [if_neg h4, if_neg h4]
  have fil : ∀ (k : Int) (q : List Str) (g : Int), (k, q, g) ∈ s.md.filter (fun k => !c2.isPrefixOf k.2.1) ↔ (k, q, g) ∈ s.md ∧ ¬ c2 <+: q := fun k q g => by
    rw [List.mem_filter, Bool.not_eq_true', ← Bool.not_eq_true, List.isPrefixOf_iff_prefix]
  have pre : ∀ q : List Str, (!c2.isPrefixOf q) = true ↔ ¬ c2 <+: q := fun q => by rw [Bool.not_eq_true', ← Bool.not_eq_true, List.isPrefixOf_iff_prefix]
  cases hm : s.mid with
  | true =>
    rw [if_pos rfl]
    rw [hm] at Rh Rw
    refine ⟨fun q g => ?_, fun q g => ?_, Rw, fun e => by cases e⟩
    · rw [Bool.and_eq_true, Rh q g]
      show _ ↔ (_ ∧ ¬ Cut (s.e ++ (s.l ++ [c2])) q) ∨ (_ ∧ _ ∧ ¬ Cut (s.l ++ [c2]) q) ∨ _ ∈ List.filter _ _
      rw [fil, pre, ← List.append_assoc, cut_append (us := s.e ++ s.l), cut_append (us := s.l), cut_one]
      grind
    · rw [Bool.and_eq_true, Rr q g]
      show _ ↔ (_ ∧ ¬ Cut (s.e ++ (s.l ++ [c2])) q) ∨ _ ∈ List.filter _ _
      rw [fil, pre, ← List.append_assoc, cut_append (us := s.e ++ s.l), cut_one]
      grind
  | false =>
    rw [if_neg (by decide)]
    have hl := Rn hm
    rw [hm] at Rh Rw
    rw [hl] at Rh Rr
    refine ⟨fun q g => ?_, fun q g => ?_, Rw, fun _ => hl⟩
    · rw [Bool.and_eq_true, Rh q g]
      show _ ↔ (_ ∧ ¬ Cut ((s.e ++ [c2]) ++ s.l) q) ∨ (_ ∧ _ ∧ ¬ Cut s.l q) ∨ _ ∈ List.filter _ _
      rw [fil, pre, hl, List.append_nil, List.append_nil, cut_append, cut_one]
      simp only [Bool.false_eq_true, false_and, false_or]
      grind
    · rw [Bool.and_eq_true, Rr q g]
      show _ ↔ (_ ∧ ¬ Cut ((s.e ++ [c2]) ++ s.l) q) ∨ _ ∈ List.filter _ _
      rw [fil, pre, hl, List.append_nil, List.append_nil, cut_append, cut_one]
      grind
theorem Rel.all {m0 : MS} : ∀ {cs : List Cal} {s : SS} {m : MS}, Rel m0 s m → (∀ c ∈ cs, 0 ≤ c.1 ∧ c.1 < 5) → Rel m0 (cs.foldl SS.step s) (dos m cs)
  | [], s, m, R, _ => R
  | c :: cs, s, m, R, h => Rel.all (cs := cs) (R.step (h c List.mem_cons_self).1 (h c List.mem_cons_self).2) fun d hd => h d (List.mem_cons_of_mem _ hd)
theorem rel_ss (m : MS) {cs : List Cal} (h : ∀ c ∈ cs, 0 ≤ c.1 ∧ c.1 < 5) : Rel m (ss cs) (dos m cs) := Rel.all (Rel.init m) h
end Mine
open PySem PySem.W PySem.Calls PyProof.Rows
set_option Elab.async false
set_option linter.all false
set_option maxRecDepth 100000
set_option genSizeOf false
namespace Mine
theorem mem_onceF {α : Type} [DecidableEq α] {a : α} : ∀ (l seen : List α), a ∈ onceF seen l ↔ a ∈ l ∧ a ∉ seen
  | [], seen => by simp [onceF]
  | x :: l, seen => by
    unfold onceF
    have ih := mem_onceF (a := a) l (seen ++ [x])
    rw [List.mem_append, List.mem_singleton, not_or] at ih
    split
    · rename_i hx
      rw [ih, List.mem_cons]
      exact ⟨fun ⟨h1, h2, h3⟩ => ⟨.inr h1, h2⟩, fun ⟨h1, h2⟩ => h1.elim (fun e => absurd (e ▸ hx) h2) fun h1 => ⟨h1, h2, fun e => h2 (e ▸ hx)⟩⟩
    · rename_i hx
      rw [List.mem_cons, ih, List.mem_cons]
      by_cases e : a = x
      · subst e; exact ⟨fun _ => ⟨.inl rfl, hx⟩, fun _ => .inl rfl⟩
      · exact ⟨fun h => h.elim (fun q => absurd q e) fun ⟨h1, h2, _⟩ => ⟨.inr h1, h2⟩, fun ⟨h1, h2⟩ => .inr ⟨h1.resolve_left e, h2, e⟩⟩
theorem nodup_onceF {α : Type} [DecidableEq α] : ∀ (l seen : List α), (onceF seen l).Nodup
  | [], seen => List.nodup_nil
  | x :: l, seen => by
    unfold onceF
    split
    · exact nodup_onceF l _
    · refine List.nodup_cons.mpr ⟨fun h => ?_, nodup_onceF l _⟩
      exact ((mem_onceF l _).mp h).2 (List.mem_append_right _ (List.mem_singleton.mpr rfl))
theorem mem_once {α : Type} [DecidableEq α] {a : α} {l : List α} : a ∈ once l ↔ a ∈ l := by
  unfold once; rw [mem_onceF]; simp
theorem nodup_once {α : Type} [DecidableEq α] (l : List α) : (once l).Nodup := nodup_onceF l []
theorem covered_iff {way : List Str} {us : List (List Str)} : covered way us = true ↔ ∃ u ∈ us, u ≠ way ∧ u <+: way := by
  unfold covered
  rw [List.any_eq_true]
  simp only [Bool.and_eq_true, Bool.not_eq_true', decide_eq_false_iff_not, List.isPrefixOf_iff_prefix]
/-- the shortest one -/
theorem shortest {us : List (List Str)} : ∀ (n : Nat) (u : List Str), u.length ≤ n → u ∈ us → ∃ v ∈ us, v <+: u ∧ covered v us = false
  | n, u, hn, hu => by
    cases hc : covered u us with
    | false => exact ⟨u, hu, List.prefix_refl u, hc⟩
    | true =>
      obtain ⟨v, hv, hne, hp⟩ := covered_iff.mp hc
      have hlt : v.length < u.length := Nat.lt_of_le_of_ne hp.length_le fun e => hne (hp.eq_of_length e)
      cases n with
      | zero => exact absurd (Nat.lt_of_lt_of_le hlt hn) (Nat.not_lt_zero _)
      | succ n =>
        obtain ⟨w, h1, h2, h3⟩ := shortest n v (Nat.le_of_lt_succ (Nat.lt_of_lt_of_le hlt hn)) hv
        exact ⟨w, h1, h2.trans hp, h3⟩
theorem cut_min {us vs : List (List Str)} {q : List Str} (h : ∀ v ∈ us, covered v us = false → v ∈ vs) (h2 : ∀ v ∈ vs, v ∈ us) : Cut vs q ↔ Cut us q :=
  ⟨fun ⟨u, hu, p⟩ => ⟨u, h2 u hu, p⟩, fun ⟨u, hu, p⟩ => let ⟨v, h3, h4, h5⟩ := shortest u.length u (Nat.le_refl _) hu; ⟨v, h v h3 h5, h4.trans p⟩⟩
/-- the parts of the short form -/
noncomputable def lateS (s : SS) : List (List Str) := ((once s.l).filter (lateP s)).reverse
noncomputable def earlyS (s : SS) : List (List Str) := ((once s.e).filter (earlyP s)).reverse
noncomputable def stayS (s : SS) : List Cal := ((once s.md).filter (stayP s.md)).reverse
noncomputable def waitS (s : SS) : List (List Str × Int) := (once s.w).reverse
noncomputable def cutC (u : List Str) : Cal := (4, u, 0)
noncomputable def waitC (u : List Str × Int) : Cal := (2, u.1, u.2)
noncomputable def shape (E : List (List Str)) (b : Bool) (L : List (List Str)) (S : List Cal) (W : List (List Str × Int)) : List Cal :=
  E.map cutC ++ ((if b then [((3 : Int), [], 0)] else []) ++ (L.map cutC ++ (S ++ W.map waitC)))
theorem short_shape (row : List Cal) : shortOf row = shape (earlyS (ss row)) (ss row).mid (lateS (ss row)) (stayS (ss row)) (waitS (ss row)) := by
  unfold shortOf shortR shape earlyS lateS stayS waitS cutC waitC
  simp only [List.reverse_append, List.map_reverse, List.append_assoc]
  congr 2
  split <;> rfl
theorem mem_lateS {s : SS} {u : List Str} : u ∈ lateS s ↔ u ∈ s.l ∧ covered u s.l = false := by
  unfold lateS lateP
  rw [List.mem_reverse, List.mem_filter, mem_once, Bool.not_eq_true']
theorem mem_earlyS {s : SS} {u : List Str} : u ∈ earlyS s ↔ u ∈ s.e ∧ u ∉ s.l ∧ covered u (s.e ++ s.l) = false := by
  unfold earlyS earlyP
  rw [List.mem_reverse, List.mem_filter, mem_once, Bool.and_eq_true, Bool.not_eq_true', Bool.not_eq_true', decide_eq_false_iff_not]
theorem mem_stayS {s : SS} {c : Cal} : c ∈ stayS s ↔ c ∈ s.md ∧ covered c.2.1 (over s.md c.2.2) = false ∧ (c.1 = 1 ∨ c.2.1 ∉ over s.md c.2.2) := by
  unfold stayS stayP
  rw [List.mem_reverse, List.mem_filter, mem_once, Bool.and_eq_true, Bool.not_eq_true', Bool.or_eq_true, decide_eq_true_eq, Bool.not_eq_true', decide_eq_false_iff_not]
theorem mem_waitS {s : SS} {u : List Str × Int} : u ∈ waitS s ↔ u ∈ s.w := by
  unfold waitS; rw [List.mem_reverse, mem_once]
theorem mem_over {md : List Cal} {g : Int} {u : List Str} : u ∈ over md g ↔ ((1 : Int), u, g) ∈ md := by
  unfold over
  rw [List.mem_map]
  constructor
  · rintro ⟨⟨k, w, f⟩, h, rfl⟩
    rw [List.mem_filter, Bool.and_eq_true, decide_eq_true_eq, decide_eq_true_eq] at h
    obtain ⟨h, e1, e2⟩ := h
    dsimp only at e1 e2
    subst e1 e2; exact h
  · exact fun h => ⟨_, List.mem_filter.mpr ⟨h, by simp⟩, rfl⟩
theorem cut_late {s : SS} {q : List Str} : Cut (lateS s) q ↔ Cut s.l q := cut_min (fun v h1 h2 => mem_lateS.mpr ⟨h1, h2⟩) fun v h => (mem_lateS.mp h).1
theorem cut_both {s : SS} {q : List Str} : Cut (earlyS s ++ lateS s) q ↔ Cut (s.e ++ s.l) q := by
  refine cut_min (fun v h1 h2 => ?_) fun v h => ?_
  · rw [List.mem_append]
    by_cases hl : v ∈ s.l
    · refine .inr (mem_lateS.mpr ⟨hl, ?_⟩)
      cases hc : covered v s.l with
      | false => rfl
      | true =>
        obtain ⟨u, hu, hp⟩ := covered_iff.mp hc
        rw [covered_iff.mpr ⟨u, List.mem_append_right _ hu, hp⟩] at h2; cases h2
    · exact .inl (mem_earlyS.mpr ⟨(List.mem_append.mp h1).resolve_right hl, hl, h2⟩)
  · rw [List.mem_append] at h ⊢
    exact h.imp (fun h => (mem_earlyS.mp h).1) fun h => (mem_lateS.mp h).1
/-- a mark made is one that stays or is hidden by one that does -/
theorem md_stay {s : SS} {k : Int} {w : List Str} {g : Int} (h : (k, w, g) ∈ s.md) : (k, w, g) ∈ stayS s ∨ ∃ v, v <+: w ∧ ((1 : Int), v, g) ∈ stayS s := by
  have key : ∀ u ∈ over s.md g, u <+: w → ∃ v, v <+: w ∧ ((1 : Int), v, g) ∈ stayS s := fun u hu hp => by
    obtain ⟨v, h1, h2, h3⟩ := shortest u.length u (Nat.le_refl _) hu
    exact ⟨v, h2.trans hp, mem_stayS.mpr ⟨mem_over.mp h1, h3, .inl rfl⟩⟩
  cases hc : covered w (over s.md g) with
  | true =>
    obtain ⟨u, hu, _, hp⟩ := covered_iff.mp hc
    exact .inr (key u hu hp)
  | false =>
    by_cases ho : w ∈ over s.md g
    · exact .inr (key w ho (List.prefix_refl w))
    · exact .inl (mem_stayS.mpr ⟨h, hc, .inr ho⟩)
/-- the state of a list of the short form's shape -/
theorem ss_shape (E : List (List Str)) (b : Bool) (L : List (List Str)) (S : List Cal) (W : List (List Str × Int)) (hS : ∀ c ∈ S, c.1 < 2) :
    ss (shape E b L S W) = ⟨if b then E else E ++ L, if b then L else [], S, W, b⟩ := by
  have cuts : ∀ (us e l : List (List Str)) (mid : Bool), (us.map cutC).foldl SS.step ⟨e, l, [], [], mid⟩ = ⟨if mid then e else e ++ us, if mid then l ++ us else l, [], [], mid⟩ := by
    intro us
    induction us with
    | nil => intro e l mid; cases mid <;> simp
    | cons u us ih =>
      intro e l mid
      rw [List.map_cons, List.foldl_cons]
      have : SS.step ⟨e, l, [], [], mid⟩ (cutC u) = ⟨if mid then e else e ++ [u], if mid then l ++ [u] else l, [], [], mid⟩ := by cases mid <;> rfl
      rw [this, ih]
      cases mid <;> simp
  have sets : ∀ (S : List Cal) (e l : List (List Str)) (md : List Cal) (mid : Bool), (∀ c ∈ S, c.1 < 2) → S.foldl SS.step ⟨e, l, md, [], mid⟩ = ⟨e, l, md ++ S, [], mid⟩ := by
    intro S
    induction S with
    | nil => intro e l md mid _; simp
    | cons c S ih =>
      intro e l md mid h
      rw [List.foldl_cons]
      have : SS.step ⟨e, l, md, [], mid⟩ c = ⟨e, l, md ++ [c], [], mid⟩ := by unfold SS.step; rw [if_pos (h c List.mem_cons_self)]
      rw [this, ih _ _ _ _ fun d hd => h d (List.mem_cons_of_mem _ hd)]
      simp
  have waits : ∀ (W w : List (List Str × Int)) (e l : List (List Str)) (md : List Cal) (mid : Bool), (W.map waitC).foldl SS.step ⟨e, l, md, w, mid⟩ = ⟨e, l, md, w ++ W, mid⟩ := by
    intro W
    induction W with
    | nil => intro w e l md mid; simp
    | cons u W ih =>
      intro w e l md mid
      rw [List.map_cons, List.foldl_cons]
      have : SS.step ⟨e, l, md, w, mid⟩ (waitC u) = ⟨e, l, md, w ++ [u], mid⟩ := rfl
      rw [this, ih]
      simp
  unfold ss shape
  rw [List.foldl_append, List.foldl_append, List.foldl_append, List.foldl_append, cuts]
  cases b with
  | true =>
    show List.foldl _ (List.foldl _ (List.foldl _ (⟨[] ++ E, [], [], [], true⟩ : SS) _) _) _ = _
    rw [cuts, sets _ _ _ _ _ hS, waits]; simp
  | false =>
    show List.foldl _ (List.foldl _ (List.foldl _ (⟨[] ++ E, [], [], [], false⟩ : SS) _) _) _ = _
    rw [cuts, sets _ _ _ _ _ hS, waits]; simp
end Mine
open PySem PySem.W PySem.Calls PyProof.Rows
set_option Elab.async false
set_option linter.all false
set_option maxRecDepth 100000
set_option genSizeOf false
namespace Mine
/-- a call of a script -/
noncomputable def cok (c : Cal) : Prop := cgood c ∧ c.2.1.length ≤ 3 ∧ (c.2.2 = 0 ∨ c.2.2 = 1)
theorem callOf_ok (x : Int) : cok (callOf x) := by
  have hl : (callOf x).2.1.length = ((x / 10) % 3 + 1).toNat := wayOf_length _ _
  refine ⟨⟨?_, ?_, ?_, ?_, fun k hk => wayOf_mem _ _ k hk, ?_⟩, ?_, ?_⟩
  · show 0 ≤ x % 5; omega
  · show x % 5 < 5; omega
  · intro e
    have e : (callOf x).2.1 = [] := e
    rw [e] at hl
    have : (0 : Nat) = ((x / 10) % 3 + 1).toNat := hl
    omega
  · show (callOf x).2.1.length ≤ 1000; omega
  · show x / 5 % 2 ∈ fnums
    have : x / 5 % 2 = 0 ∨ x / 5 % 2 = 1 := by omega
    rcases this with h | h <;> rw [h] <;> decide
  · omega
  · show x / 5 % 2 = 0 ∨ x / 5 % 2 = 1; omega
/-- all that is gathered is out of the row -/
structure Out (P : List Str → Int → Prop) (s : SS) : Prop where
  e : ∀ u ∈ s.e, ∃ g, P u g
  l : ∀ u ∈ s.l, ∃ g, P u g
  md : ∀ c ∈ s.md, (c.1 = 0 ∨ c.1 = 1) ∧ P c.2.1 c.2.2
  w : ∀ u ∈ s.w, P u.1 u.2
theorem Out.step {P : List Str → Int → Prop} {s : SS} {c : Cal} (o : Out P s) (h0 : 0 ≤ c.1) (h : P c.2.1 c.2.2) : Out P (s.step c) := by
  obtain ⟨o1, o2, o3, o4⟩ := o
  unfold SS.step
  split
  · rename_i h2
    exact ⟨o1, o2, mem_snoc o3 ⟨by omega, h⟩, o4⟩
  split
  · exact ⟨o1, o2, o3, mem_snoc o4 h⟩
  split
  · refine ⟨o1, o2, fun d hd => ?_, fun u hu => by cases hu⟩
    rcases List.mem_append.mp hd with hd | hd
    · exact o3 d hd
    · obtain ⟨u, hu, rfl⟩ := List.mem_map.mp hd
      exact ⟨.inl rfl, o4 u hu⟩
  split
  · exact ⟨o1, mem_snoc o2 ⟨_, h⟩, fun d hd => o3 d (List.mem_filter.mp hd).1, o4⟩
  · exact ⟨mem_snoc o1 ⟨_, h⟩, o2, fun d hd => o3 d (List.mem_filter.mp hd).1, o4⟩
theorem Out.all {P : List Str → Int → Prop} : ∀ {cs : List Cal} {s : SS}, Out P s → (∀ c ∈ cs, 0 ≤ c.1 ∧ P c.2.1 c.2.2) → Out P (cs.foldl SS.step s)
  | [], s, o, _ => o
  | c :: cs, s, o, h => Out.all (cs := cs) (o.step (h c List.mem_cons_self).1 (h c List.mem_cons_self).2) fun d hd => h d (List.mem_cons_of_mem _ hd)
/-- a way with its flag stands in the row -/
noncomputable def InRow (row : List Cal) (w : List Str) (g : Int) : Prop := ∃ c ∈ row, c.2.1 = w ∧ c.2.2 = g
theorem out_ss {row : List Cal} (h : ∀ c ∈ row, cok c) : Out (InRow row) (ss row) :=
  Out.all ⟨fun u hu => (by cases hu), fun u hu => (by cases hu), fun u hu => (by cases hu), fun u hu => (by cases hu)⟩ fun c hc => ⟨(h c hc).1.1, c, hc, rfl, rfl⟩
theorem InRow.ok {row : List Cal} {w : List Str} {g : Int} (h : ∀ c ∈ row, cok c) (i : InRow row w g) : pgood (w, g) ∧ w.length ≤ 3 ∧ (g = 0 ∨ g = 1) := by
  obtain ⟨c, hc, rfl, rfl⟩ := i
  exact ⟨(h c hc).1.2.2, (h c hc).2⟩
theorem pgood.zero {w : List Str} {g : Int} (h : pgood (w, g)) : pgood (w, 0) := ⟨h.1, h.2.1, h.2.2.1, (by decide : (0 : Int) ∈ fnums)⟩
/-- the calls of a list of the short form's shape -/
theorem mem_shape {E : List (List Str)} {b : Bool} {L : List (List Str)} {S : List Cal} {W : List (List Str × Int)} {c : Cal} (h : c ∈ shape E b L S W) :
    (∃ u ∈ E, c = cutC u) ∨ (b = true ∧ c = (3, [], 0)) ∨ (∃ u ∈ L, c = cutC u) ∨ c ∈ S ∨ ∃ u ∈ W, c = waitC u := by
  unfold shape at h
  simp only [List.mem_append, List.mem_map] at h
  rcases h with ⟨u, hu, rfl⟩ | h | ⟨u, hu, rfl⟩ | h | ⟨u, hu, rfl⟩
  · exact .inl ⟨u, hu, rfl⟩
  · cases b with
    | true => exact .inr (.inl ⟨rfl, List.mem_singleton.mp h⟩)
    | false => cases h
  · exact .inr (.inr (.inl ⟨u, hu, rfl⟩))
  · exact .inr (.inr (.inr (.inl h)))
  · exact .inr (.inr (.inr (.inr ⟨u, hu, rfl⟩)))
theorem short_good {row : List Cal} (h : ∀ c ∈ row, cok c) {c : Cal} (hc : c ∈ shortOf row) : rgood c ∧ c.2.1.length ≤ 3 ∧ (c.2.2 = 0 ∨ c.2.2 = 1) := by
  have o := out_ss h
  rw [short_shape] at hc
  have cut : ∀ u g, InRow row u g → rgood (cutC u) ∧ (cutC u).2.1.length ≤ 3 ∧ ((cutC u).2.2 = 0 ∨ (cutC u).2.2 = 1) := fun u g i =>
    ⟨⟨(by decide : (0 : Int) ≤ 4), (by decide : (4 : Int) < 5), .inr (i.ok h).1.zero⟩, (i.ok h).2.1, .inl rfl⟩
  rcases mem_shape hc with ⟨u, hu, rfl⟩ | ⟨_, rfl⟩ | ⟨u, hu, rfl⟩ | hc | ⟨u, hu, rfl⟩
  · obtain ⟨g, i⟩ := o.e u (mem_earlyS.mp hu).1
    exact cut u g i
  · exact ⟨⟨by decide, by decide, .inl rfl⟩, by decide, .inl rfl⟩
  · obtain ⟨g, i⟩ := o.l u (mem_lateS.mp hu).1
    exact cut u g i
  · obtain ⟨hk, i⟩ := o.md c (mem_stayS.mp hc).1
    exact ⟨⟨by omega, by omega, .inr (i.ok h).1⟩, (i.ok h).2⟩
  · have i := o.w u (mem_waitS.mp hu)
    exact ⟨⟨(by decide : (0 : Int) ≤ 2), (by decide : (2 : Int) < 5), .inr (i.ok h).1⟩, (i.ok h).2⟩
theorem rgood.kind {c : Cal} (h : rgood c) : 0 ≤ c.1 ∧ c.1 < 5 := ⟨h.1, h.2.1⟩
theorem cok.rgood {c : Cal} (h : cok c) : rgood c := ⟨h.1.1, h.1.2.1, .inr h.1.2.2⟩
theorem dos_append (m : MS) (a b : List Cal) : dos m (a ++ b) = dos (dos m a) b := List.foldl_append
/-- marks stand at ways of the three names alone -/
noncomputable def goodAt (q : List Str) : Prop := q ≠ [] ∧ ∀ k ∈ q, k ∈ fnames
structure MOK (m : MS) : Prop where
  h : ∀ q g, m.h q g = true → goodAt q
  r : ∀ q g, m.r q g = true → goodAt q
  w : ∀ v ∈ m.w, pgood v
theorem MOK.do {m : MS} {c : Cal} (k : MOK m) (hc : rgood c) : MOK (m.do c) := by
  refine ⟨fun q g e => ?_, fun q g e => ?_, MS.do_w_good k.w hc⟩
  · unfold MS.do at e
    split at e
    · rename_i h2
      simp only [Bool.or_eq_true, Bool.and_eq_true, decide_eq_true_eq] at e
      rcases e with e | ⟨⟨_, rfl⟩, _⟩
      · exact k.h q g e
      · have := hc.2.2.resolve_left (by omega); exact ⟨this.1, this.2.2.1⟩
    split at e
    · exact k.h q g e
    split at e
    · simp only [Bool.or_eq_true, decide_eq_true_eq] at e
      rcases e with e | e
      · exact k.h q g e
      · exact ⟨(k.w _ e).1, (k.w _ e).2.2.1⟩
    · exact k.h q g (Bool.and_eq_true_iff.mp e).2
  · unfold MS.do at e
    split at e
    · rename_i h2
      simp only [Bool.or_eq_true, Bool.and_eq_true, decide_eq_true_eq] at e
      rcases e with e | ⟨⟨_, rfl⟩, _⟩
      · exact k.r q g e
      · have := hc.2.2.resolve_left (by omega); exact ⟨this.1, this.2.2.1⟩
    split at e
    · exact k.r q g e
    split at e
    · exact k.r q g e
    · exact k.r q g (Bool.and_eq_true_iff.mp e).2
theorem MOK.dos {cs : List Cal} : ∀ {m : MS}, MOK m → (∀ c ∈ cs, rgood c) → MOK (dos m cs) := by
  induction cs with
  | nil => exact fun k _ => k
  | cons c cs ih => exact fun k h => ih (k.do (h c List.mem_cons_self)) fun d hd => h d (List.mem_cons_of_mem _ hd)
theorem MOK.zero : MOK MS.zero := ⟨fun q g e => (by cases e), fun q g e => (by cases e), fun v hv => (by cases hv)⟩
/-- when all names have been taken off and what waits is set -/
theorem tell_after {m : MS} (k : MOK m) (q : List Str) (f : Int) : (after m).tell q f = true ↔ (q, f) ∈ m.w := by
  have R := rel_ss m (cs := [(4, [("a" : Str)], 0), (4, [("b" : Str)], 0), (4, [("a.b" : Str)], 0), (3, [], 0)]) (by decide)
  have e : ss [(4, [("a" : Str)], 0), (4, [("b" : Str)], 0), (4, [("a.b" : Str)], 0), (3, [], 0)] = ⟨[[("a" : Str)], [("b" : Str)], [("a.b" : Str)]], [], [], [], true⟩ := rfl
  rw [e] at R
  have cut : ∀ q, goodAt q → Cut ([[("a" : Str)], [("b" : Str)], [("a.b" : Str)]] ++ []) q := fun q hq => by
    cases q with
    | nil => exact absurd rfl hq.1
    | cons x t =>
      have := hq.2 x List.mem_cons_self
      refine ⟨[x], ?_, t, rfl⟩
      simp only [fnames, List.mem_cons, List.not_mem_nil, or_false] at this
      rcases this with rfl | rfl | rfl <;> simp
  have hr : ∀ q g, (after m).r q g = false := fun q g => by
    cases hb : (after m).r q g with
    | false => rfl
    | true =>
      rcases (R.r q g).mp hb with ⟨h1, h2⟩ | h1
      · exact absurd (cut q (k.r q g h1)) h2
      · cases h1
  have hh : ∀ q g, (after m).h q g = true ↔ (q, g) ∈ m.w := fun q g => by
    refine (R.h q g).trans ⟨fun h => ?_, fun h => .inr (.inl ⟨rfl, h, cut_nil⟩)⟩
    rcases h with ⟨h1, h2⟩ | ⟨_, h1, _⟩ | h1
    · exact absurd (cut q (k.h q g h1)) h2
    · exact h1
    · cases h1
  rw [MS.tell_iff]
  constructor
  · rintro (⟨w, _, _, h⟩ | ⟨_, h⟩)
    · rw [hr] at h; cases h
    · exact (hh q f).mp h
  · exact fun h => .inr ⟨(k.w _ h).1, (hh q f).mpr h⟩
theorem sameAll_iff {m n : MS} {ways : List (List Str)} : sameAll m n ways = true ↔ ∀ q ∈ ways, ∀ f ∈ fnums, (m.tell q f = true ↔ n.tell q f = true) ∧ ((after m).tell q f = true ↔ (after n).tell q f = true) := by
  have e4 : ∀ (m n : MS) (q : List Str), same4 m n q = true ↔ ∀ f ∈ fnums, (m.tell q f = true ↔ n.tell q f = true) := fun m n q => by
    unfold same4
    rw [List.all_eq_true]
    exact forall_congr' fun f => imp_congr Iff.rfl (by rw [beq_iff_eq, Bool.eq_iff_iff])
  unfold sameAll
  rw [Bool.and_eq_true, List.all_eq_true, List.all_eq_true]
  exact ⟨fun h q hq f hf => ⟨(e4 _ _ _).mp (h.1 q hq) f hf, (e4 _ _ _).mp (h.2 q hq) f hf⟩, fun h => ⟨fun q hq => (e4 _ _ _).mpr fun f hf => (h q hq f hf).1, fun q hq => (e4 _ _ _).mpr fun f hf => (h q hq f hf).2⟩⟩
end Mine
open PySem PySem.W PySem.Calls PyProof.Rows
set_option Elab.async false
set_option linter.all false
set_option maxRecDepth 100000
set_option genSizeOf false
namespace Mine
/-- marks behind a list of the short form's shape -/
structure RelS (m0 : MS) (E : List (List Str)) (b : Bool) (L : List (List Str)) (S : List Cal) (W : List (List Str × Int)) (m : MS) : Prop where
  h : ∀ q g, m.h q g = true ↔ (m0.h q g = true ∧ ¬ Cut (E ++ L) q) ∨ (b = true ∧ (q, g) ∈ m0.w ∧ ¬ Cut L q) ∨ ((0 : Int), q, g) ∈ S
  r : ∀ q g, m.r q g = true ↔ (m0.r q g = true ∧ ¬ Cut (E ++ L) q) ∨ ((1 : Int), q, g) ∈ S
  w : m.w = (if b then [] else m0.w) ++ W
theorem rel_shape (m0 : MS) {E : List (List Str)} {b : Bool} {L : List (List Str)} {S : List Cal} {W : List (List Str × Int)} (hS : ∀ c ∈ S, 0 ≤ c.1 ∧ c.1 < 2) : RelS m0 E b L S W (dos m0 (shape E b L S W)) := by
  have R := rel_ss m0 (cs := shape E b L S W) fun c hc => by
    rcases mem_shape hc with ⟨u, _, rfl⟩ | ⟨_, rfl⟩ | ⟨u, _, rfl⟩ | hc | ⟨u, _, rfl⟩
    · exact ⟨(by decide : (0 : Int) ≤ 4), (by decide : (4 : Int) < 5)⟩
    · exact ⟨by decide, by decide⟩
    · exact ⟨(by decide : (0 : Int) ≤ 4), (by decide : (4 : Int) < 5)⟩
    · have := hS c hc; omega
    · exact ⟨(by decide : (0 : Int) ≤ 2), (by decide : (2 : Int) < 5)⟩
  rw [ss_shape E b L S W fun c hc => (hS c hc).2] at R
  obtain ⟨h, r, w, _⟩ := R
  cases b with
  | true => exact ⟨h, r, w⟩
  | false =>
    simp only [Bool.false_eq_true, if_false, List.append_nil, false_and, false_or] at h r w
    exact ⟨fun q g => by rw [h q g]; simp, r, w⟩
section
variable {row : List Cal} (hr : ∀ c ∈ row, cok c)
include hr
theorem stay_kind {c : Cal} (hc : c ∈ stayS (ss row)) : 0 ≤ c.1 ∧ c.1 < 2 := by
  have := ((out_ss hr).md c (mem_stayS.mp hc).1).1
  omega
theorem late_nil (hm : (ss row).mid = false) : lateS (ss row) = [] := by
  have R := rel_ss MS.zero (cs := row) fun c hc => (hr c hc).rgood.kind
  have := R.nl hm
  unfold lateS; rw [this]; rfl
theorem rel_short (m0 : MS) : RelS m0 (earlyS (ss row)) (ss row).mid (lateS (ss row)) (stayS (ss row)) (waitS (ss row)) (dos m0 (shortOf row)) := by
  rw [short_shape]
  exact rel_shape m0 fun c hc => stay_kind hr hc
theorem md_way {k : Int} {w : List Str} {g : Int} (h : (k, w, g) ∈ (ss row).md) : w ≠ [] := (InRow.ok hr ((out_ss hr).md _ h).2).1.1
theorem same_law {ahead : List Cal} (ha : ∀ c ∈ ahead, rgood c) (ways : List (List Str)) : sameAll (dos MS.zero (ahead ++ row)) (dos MS.zero (ahead ++ shortOf row)) ways = true := by
  have k0 := MOK.dos MOK.zero ha
  have k1 := MOK.dos k0 fun c hc => (hr c hc).rgood
  have k2 := MOK.dos k0 fun c hc => (short_good hr hc).1
  rw [dos_append, dos_append, sameAll_iff]
  have R1 := rel_ss (dos MS.zero ahead) (cs := row) fun c hc => (hr c hc).rgood.kind
  have R2 := rel_short hr (dos MS.zero ahead)
  generalize dos MS.zero ahead = m0 at *
  intro q _ f _
  constructor
  · rw [MS.tell_iff, MS.tell_iff]
    have hid : ∀ {v w : List Str}, v <+: w → w <+: q → ((1 : Int), v, f) ∈ stayS (ss row) → ∃ w, w ≠ [] ∧ w <+: q ∧ (dos m0 (shortOf row)).r w f = true := fun {v w} h1 h2 h3 =>
      ⟨v, md_way hr (mem_stayS.mp h3).1, h1.trans h2, (R2.r v f).mpr (.inr h3)⟩
    constructor
    · rintro (⟨w, h1, h2, h3⟩ | ⟨h1, h3⟩)
      · rcases (R1.r w f).mp h3 with ⟨h4, h5⟩ | h4
        · exact .inl ⟨w, h1, h2, (R2.r w f).mpr (.inl ⟨h4, fun h => h5 (cut_both.mp h)⟩)⟩
        · rcases md_stay h4 with h5 | ⟨v, h5, h6⟩
          · exact .inl (hid (List.prefix_refl w) h2 h5)
          · exact .inl (hid h5 h2 h6)
      · rcases (R1.h q f).mp h3 with ⟨h4, h5⟩ | ⟨h4, h5, h6⟩ | h4
        · exact .inr ⟨h1, (R2.h q f).mpr (.inl ⟨h4, fun h => h5 (cut_both.mp h)⟩)⟩
        · exact .inr ⟨h1, (R2.h q f).mpr (.inr (.inl ⟨h4, h5, fun h => h6 (cut_late.mp h)⟩))⟩
        · rcases md_stay h4 with h5 | ⟨v, h5, h6⟩
          · exact .inr ⟨h1, (R2.h q f).mpr (.inr (.inr h5))⟩
          · exact .inl (hid h5 (List.prefix_refl q) h6)
    · rintro (⟨w, h1, h2, h3⟩ | ⟨h1, h3⟩)
      · refine .inl ⟨w, h1, h2, (R1.r w f).mpr (((R2.r w f).mp h3).imp (fun h => ⟨h.1, fun h' => h.2 (cut_both.mpr h')⟩) fun h => (mem_stayS.mp h).1)⟩
      · refine .inr ⟨h1, (R1.h q f).mpr (((R2.h q f).mp h3).imp (fun h => ⟨h.1, fun h' => h.2 (cut_both.mpr h')⟩) (Or.imp (fun h => ⟨h.1, h.2.1, fun h' => h.2.2 (cut_late.mpr h')⟩) fun h => (mem_stayS.mp h).1))⟩
  · rw [tell_after k1, tell_after k2, R1.w, R2.w, List.mem_append, List.mem_append, mem_waitS]
end
/-- a mark alone, told -/
theorem alone_law {c : Cal} (hc : rgood c) (h3 : c.1 < 3) (hg : c.2.2 = 0 ∨ c.2.2 = 1) : aloneBools c = dueOf c.1 := by
  obtain ⟨k, w, g⟩ := c
  have hp : pgood (w, g) := hc.2.2.resolve_left (by show k ≠ 3; dsimp only at h3; omega)
  have h0 : 0 ≤ k := hc.1
  dsimp only at h3 hg
  have hw : w ≠ [] := hp.1
  have hne : g ≠ 1 - g := by omega
  have dl : ∀ v : List Str, v <+: w.dropLast → v ≠ w := fun v hv e => by
    have := hv.length_le
    rw [e, List.length_dropLast] at this
    have := List.length_pos_iff.mpr hw
    omega
  have wb : w ++ [("b.a" : Str)] ≠ w := fun e => by have := congrArg List.length e; simp at this
  -- the marks
  have hh : ∀ q f, (dos MS.zero (aloneRow (k, w, g))).h q f = true ↔ k ≠ 1 ∧ q = w ∧ f = g := fun q f => by
    have hk : k = 0 ∨ k = 1 ∨ k = 2 := by omega
    rcases hk with rfl | rfl | rfl <;> simp [dos, aloneRow, MS.do, MS.zero]
  have hr : ∀ q f, (dos MS.zero (aloneRow (k, w, g))).r q f = true ↔ k = 1 ∧ q = w ∧ f = g := fun q f => by
    have hk : k = 0 ∨ k = 1 ∨ k = 2 := by omega
    rcases hk with rfl | rfl | rfl <;> simp [dos, aloneRow, MS.do, MS.zero]
  have tell : ∀ q f, (dos MS.zero (aloneRow (k, w, g))).tell q f = true ↔ f = g ∧ ((k = 1 ∧ w <+: q) ∨ (k ≠ 1 ∧ q = w)) := fun q f => by
    rw [MS.tell_iff]
    constructor
    · rintro (⟨v, _, h2, h⟩ | ⟨_, h⟩)
      · obtain ⟨h4, rfl, h6⟩ := (hr v f).mp h
        exact ⟨h6, .inl ⟨h4, h2⟩⟩
      · obtain ⟨h4, h5, h6⟩ := (hh q f).mp h
        exact ⟨h6, .inr ⟨h4, h5⟩⟩
    · rintro ⟨rfl, ⟨h4, h5⟩ | ⟨h4, rfl⟩⟩
      · exact .inl ⟨w, hw, h5, (hr w f).mpr ⟨h4, rfl, rfl⟩⟩
      · exact .inr ⟨hw, (hh q f).mpr ⟨h4, rfl, rfl⟩⟩
  have no : ∀ q, (dos MS.zero (aloneRow (k, w, g))).tell q (1 - g) = false := fun q => by
    rw [← Bool.not_eq_true, tell]; exact fun h => hne h.1.symm
  have t1 : (dos MS.zero (aloneRow (k, w, g))).tell w.dropLast g = false := by
    rw [← Bool.not_eq_true, tell]
    rintro ⟨_, ⟨_, h⟩ | ⟨_, h⟩⟩
    · exact dl _ h rfl
    · exact dl _ (List.prefix_refl _) h
  have t2 : (dos MS.zero (aloneRow (k, w, g))).tell w g = true := (tell w g).mpr ⟨rfl, (Decidable.em (k = 1)).imp (fun h => ⟨h, List.prefix_refl w⟩) fun h => ⟨h, rfl⟩⟩
  have t3 : (dos MS.zero (aloneRow (k, w, g))).tell (w ++ [("b.a" : Str)]) g = decide (k = 1) := by
    rw [Bool.eq_iff_iff, tell, decide_eq_true_eq]
    constructor
    · rintro ⟨_, ⟨h, _⟩ | ⟨_, h⟩⟩
      · exact h
      · exact absurd h wb
    · exact fun h => ⟨rfl, .inl ⟨h, List.prefix_append _ _⟩⟩
  show [_, _, _, _, _, _] = [_, _, _, _, _, _]
  rw [no, no, no, t1, t2, t3]
end Mine
open PySem PySem.W PySem.Calls PyProof.Rows
set_option Elab.async false
set_option linter.all false
set_option maxRecDepth 100000
set_option genSizeOf false
namespace Mine
theorem split_at {α : Type} {c : α} {B Q : List α} : ∀ {A P : List α}, A ++ c :: B = P ++ Q → (∃ P1 P2, P = P1 ++ c :: P2 ∧ A ++ B = P1 ++ P2 ++ Q) ∨ ∃ Q1 Q2, Q = Q1 ++ c :: Q2 ∧ A ++ B = P ++ (Q1 ++ Q2)
  | [], [], h => .inr ⟨[], B, h.symm, rfl⟩
  | [], p :: P, h => by
    obtain ⟨rfl, h2⟩ := List.cons.inj h
    exact .inl ⟨[], P, rfl, h2⟩
  | a :: A, [], h => .inr ⟨a :: A, B, h.symm, rfl⟩
  | a :: A, p :: P, h => by
    obtain ⟨rfl, h2⟩ := List.cons.inj h
    rcases split_at h2 with ⟨P1, P2, rfl, e⟩ | ⟨Q1, Q2, rfl, e⟩
    · exact .inl ⟨a :: P1, P2, rfl, congrArg (List.cons a) e⟩
    · exact .inr ⟨Q1, Q2, rfl, congrArg (List.cons a) e⟩
theorem split_map {α β : Type} {f : α → β} {c : β} {P2 : List β} : ∀ {l : List α} {P1 : List β}, l.map f = P1 ++ c :: P2 → ∃ l1 u l2, l = l1 ++ u :: l2 ∧ c = f u ∧ P1 = l1.map f ∧ P2 = l2.map f
  | [], P1, h => by cases P1 <;> cases h
  | a :: l, [], h => by
    obtain ⟨rfl, rfl⟩ := List.cons.inj h
    exact ⟨[], a, l, rfl, rfl, rfl, rfl⟩
  | a :: l, p :: P1, h => by
    obtain ⟨rfl, h2⟩ := List.cons.inj h
    obtain ⟨l1, u, l2, rfl, e1, rfl, e2⟩ := split_map h2
    exact ⟨a :: l1, u, l2, rfl, e1, rfl, e2⟩
theorem nodup_mid {α : Type} {a : α} {A B : List α} (h : (A ++ a :: B).Nodup) : a ∉ A ++ B := (List.nodup_cons.mp (List.perm_middle.nodup_iff.mp h)).1
/-- what is left when one call is left out -/
theorem split_shape {E : List (List Str)} {b : Bool} {L : List (List Str)} {S : List Cal} {W : List (List Str × Int)} {A B : List Cal} {c : Cal} (h : A ++ c :: B = shape E b L S W) :
    (∃ E1 u E2, E = E1 ++ u :: E2 ∧ A ++ B = shape (E1 ++ E2) b L S W) ∨ (b = true ∧ A ++ B = shape E false L S W) ∨ (∃ L1 u L2, L = L1 ++ u :: L2 ∧ A ++ B = shape E b (L1 ++ L2) S W) ∨ (∃ S1 S2, S = S1 ++ c :: S2 ∧ A ++ B = shape E b L (S1 ++ S2) W) ∨
      ∃ W1 u W2, W = W1 ++ u :: W2 ∧ A ++ B = shape E b L S (W1 ++ W2) := by
  unfold shape at h ⊢
  rcases split_at h with ⟨P1, P2, h, e⟩ | ⟨Q1, Q2, h, e⟩
  · obtain ⟨E1, u, E2, rfl, rfl, rfl, rfl⟩ := split_map h
    exact .inl ⟨E1, u, E2, rfl, by rw [e, List.map_append]⟩
  rcases split_at h.symm with ⟨P1, P2, h, e2⟩ | ⟨R1, R2, h, e2⟩
  · refine .inr (.inl ?_)
    cases b with
    | false => cases P1 <;> cases h
    | true =>
      refine ⟨rfl, ?_⟩
      cases P1 with
      | nil =>
        obtain ⟨_, rfl⟩ := List.cons.inj h
        rw [e, e2]; rfl
      | cons p P1 =>
        have := (List.cons.inj h).2
        cases P1 <;> cases this
  rcases split_at h.symm with ⟨P1, P2, h, e3⟩ | ⟨T1, T2, h, e3⟩
  · obtain ⟨L1, u, L2, rfl, rfl, rfl, rfl⟩ := split_map h
    exact .inr (.inr (.inl ⟨L1, u, L2, rfl, by rw [e, e2, e3, List.map_append]⟩))
  rcases split_at h.symm with ⟨P1, P2, h, e4⟩ | ⟨U1, U2, h, e4⟩
  · exact .inr (.inr (.inr (.inl ⟨P1, P2, h, by rw [e, e2, e3, e4]⟩)))
  · obtain ⟨W1, u, W2, rfl, rfl, rfl, rfl⟩ := split_map h
    exact .inr (.inr (.inr (.inr ⟨W1, u, W2, rfl, by rw [e, e2, e3, e4, List.map_append]⟩)))
/-- flag 2 stands, flag 3 waits at each way of the row -/
theorem full_marks : ∀ (row : List Cal) (m : MS), (∀ q g, (dos m (fullOf row)).h q g = true ↔ m.h q g = true ∨ (g = 2 ∧ ∃ c ∈ row, c.2.1 = q)) ∧ (∀ q g, (dos m (fullOf row)).r q g = m.r q g) ∧ (dos m (fullOf row)).w = m.w ++ row.map fun c => (c.2.1, 3)
  | [], m => ⟨fun q g => by simp [fullOf, dos], fun q g => rfl, by simp [fullOf, dos]⟩
  | c :: row, m => by
    have ih := full_marks row ((m.do (0, c.2.1, 2)).do (2, c.2.1, 3))
    have e : dos m (fullOf (c :: row)) = dos ((m.do (0, c.2.1, 2)).do (2, c.2.1, 3)) (fullOf row) := rfl
    rw [e]
    refine ⟨fun q g => (ih.1 q g).trans ?_, fun q g => (ih.2.1 q g).trans ?_, ih.2.2.trans ?_⟩
    · simp only [MS.do, List.mem_cons, exists_eq_or_imp]
      simp
      constructor
      · rintro ((h | ⟨h1, h2⟩) | ⟨h1, h2⟩)
        · exact .inl h
        · exact .inr ⟨h2, .inl h1.symm⟩
        · exact .inr ⟨h1, .inr h2⟩
      · rintro (h | ⟨h1, h2 | h2⟩)
        · exact .inl (.inl h)
        · exact .inl (.inr ⟨h2.symm, h1⟩)
        · exact .inr ⟨h1, h2⟩
    · simp [MS.do]
    · simp [MS.do]
end Mine
open PySem PySem.W PySem.Calls PyProof.Rows
set_option Elab.async false
set_option linter.all false
set_option maxRecDepth 100000
set_option genSizeOf false
namespace Mine
section
variable {row : List Cal} (hr : ∀ c ∈ row, cok c)
include hr
theorem full_good {c : Cal} (hc : c ∈ fullOf row) : rgood c ∧ c.2.1.length ≤ 3 := by
  obtain ⟨d, hd, h⟩ := List.mem_flatMap.mp hc
  have k := (hr d hd).1.2.2
  simp only [List.mem_cons, List.not_mem_nil, or_false] at h
  rcases h with rfl | rfl
  · exact ⟨⟨(by decide : (0 : Int) ≤ 0), (by decide : (0 : Int) < 5), .inr ⟨k.1, k.2.1, k.2.2.1, (by decide : (2 : Int) ∈ fnums)⟩⟩, (hr d hd).2.1⟩
  · exact ⟨⟨(by decide : (0 : Int) ≤ 2), (by decide : (2 : Int) < 5), .inr ⟨k.1, k.2.1, k.2.2.1, (by decide : (3 : Int) ∈ fnums)⟩⟩, (hr d hd).2.1⟩
theorem spare_law {ways : List (List Str)} (hw : ∀ c ∈ row, c.2.1 ∈ ways ∧ c.2.1 ++ [("b.a" : Str)] ∈ ways) {A B : List Cal} {c : Cal} (hs : A ++ c :: B = shortOf row) :
    sameAll (dos MS.zero (fullOf row ++ (A ++ B))) (dos MS.zero (fullOf row ++ shortOf row)) ways = false := by
  rw [← Bool.not_eq_true]
  intro same
  have o := out_ss hr
  have kf := MOK.dos MOK.zero fun c hc => (full_good hr hc).1
  have sg : ∀ d ∈ A ++ B, rgood d := fun d hd => (short_good hr (c := d) (by rw [← hs]; exact (List.mem_append.mp hd).elim (List.mem_append_left _) fun h => List.mem_append_right _ (List.mem_cons_of_mem _ h))).1
  have k1 := MOK.dos kf sg
  have k2 := MOK.dos kf fun c hc => (short_good hr hc).1
  rw [dos_append _ (fullOf row) (A ++ B), dos_append _ (fullOf row) (shortOf row), sameAll_iff] at same
  have R2 := rel_short hr (dos MS.zero (fullOf row))
  obtain ⟨f1, f2, f3⟩ := full_marks row MS.zero
  have hz : ∀ q g, MS.zero.h q g ≠ true := fun q g e => by cases e
  have rz : ∀ q g, MS.zero.r q g ≠ true := fun q g e => by cases e
  have fw : ∀ q g, (q, g) ∈ (dos MS.zero (fullOf row)).w ↔ g = 3 ∧ ∃ c ∈ row, c.2.1 = q := fun q g => by
    rw [f3]
    show _ ∈ [] ++ _ ↔ _
    rw [List.nil_append, List.mem_map]
    constructor
    · rintro ⟨c, hc, e⟩
      cases e
      exact ⟨rfl, c, hc, rfl⟩
    · rintro ⟨rfl, c, hc, rfl⟩
      exact ⟨c, hc, rfl⟩
  have fh : ∀ q g, (dos MS.zero (fullOf row)).h q g = true ↔ g = 2 ∧ ∃ c ∈ row, c.2.1 = q := fun q g => (f1 q g).trans ⟨fun h => h.resolve_left (hz q g), .inr⟩
  have fr : ∀ q g, ¬ (dos MS.zero (fullOf row)).r q g = true := fun q g e => rz q g ((f2 q g).symm.trans e)
  clear f1 f2 f3 hz rz
  generalize dos MS.zero (fullOf row) = m0 at *
  -- what stays has the flags 0, 1 and ways of the row
  have Sok : ∀ d ∈ stayS (ss row), (d.1 = 0 ∨ d.1 = 1) ∧ InRow row d.2.1 d.2.2 := fun d hd => o.md d (mem_stayS.mp hd).1
  have inW : ∀ {w g}, InRow row w g → w ∈ ways ∧ w ++ [("b.a" : Str)] ∈ ways := fun ⟨c, hc, e, _⟩ => e ▸ hw c hc
  have rowOf : ∀ {w g}, InRow row w g → ∃ c ∈ row, c.2.1 = w := fun ⟨c, hc, e, _⟩ => ⟨c, hc, e⟩
  have nba : ∀ {w g v}, InRow row v g → v ≠ w ++ [("b.a" : Str)] := fun {w g v} i e => by
    have := (i.ok hr).1.2.2.1 ("b.a" : Str) (by show _ ∈ v; rw [e]; exact List.mem_append_right _ (List.mem_singleton.mpr rfl))
    revert this; decide +kernel
  have two : ∀ {S' : List Cal} {k q g}, (∀ d ∈ S', d ∈ stayS (ss row)) → (k, q, g) ∈ S' → g = 0 ∨ g = 1 := fun hS h => ((Sok _ (hS _ h)).2.ok hr).2.2
  rcases split_shape (hs.trans (short_shape row)) with ⟨E1, u, E2, hE, e⟩ | ⟨hb, e⟩ | ⟨L1, u, L2, hL, e⟩ | ⟨S1, S2, hS, e⟩ | ⟨W1, u, W2, hW, e⟩
  · -- a way taken off ahead
    have hu : u ∈ earlyS (ss row) := by rw [hE]; simp
    obtain ⟨u1, u2, u3⟩ := mem_earlyS.mp hu
    obtain ⟨g, i⟩ := o.e u u1
    have nd : (earlyS (ss row)).Nodup := (List.reverse_perm _).nodup_iff.mpr ((nodup_once _).filter _)
    rw [hE] at nd
    have R1 := rel_shape m0 (E := E1 ++ E2) (b := (ss row).mid) (L := lateS (ss row)) (W := waitS (ss row)) fun d hd => stay_kind hr (c := d) hd
    rw [← e] at R1
    have := (same u (inW i).1 2 (by decide)).1.mp (MS.tell_iff.mpr (.inr ⟨(i.ok hr).1.1, (R1.h u 2).mpr (.inl ⟨(fh u 2).mpr ⟨rfl, rowOf i⟩, fun ⟨v, hv, hp⟩ => ?_⟩)⟩))
    · rcases MS.tell_iff.mp this with ⟨w, _, _, h⟩ | ⟨_, h⟩
      · rcases (R2.r w 2).mp h with ⟨h, _⟩ | h
        · exact fr _ _ h
        · have := two (fun _ h => h) h; omega
      · rcases (R2.h u 2).mp h with ⟨_, h⟩ | ⟨_, h, _⟩ | h
        · exact h ⟨u, List.mem_append_left _ hu, List.prefix_refl u⟩
        · have := ((fw _ _).mp h).1; omega
        · have := two (fun _ h => h) h; omega
    · have hne : v ≠ u := fun q => by
        subst q
        rcases List.mem_append.mp hv with hv | hv
        · exact nodup_mid nd hv
        · exact u2 (mem_lateS.mp hv).1
      have : v ∈ (ss row).e ++ (ss row).l := by
        rw [List.mem_append]
        rcases List.mem_append.mp hv with hv | hv
        · have hv' : v ∈ earlyS (ss row) := by
            rw [hE]
            exact (List.mem_append.mp hv).elim (List.mem_append_left _) fun h => List.mem_append_right _ (List.mem_cons_of_mem _ h)
          exact .inl (mem_earlyS.mp hv').1
        · exact .inr (mem_lateS.mp hv).1
      rw [covered_iff.mpr ⟨v, this, hne, hp⟩] at u3; cases u3
  · -- the finalize_pending
    have R1 := rel_shape m0 (E := earlyS (ss row)) (b := false) (L := lateS (ss row)) (W := waitS (ss row)) fun d hd => stay_kind hr (c := d) hd
    rw [← e] at R1
    obtain ⟨d, hd⟩ : ∃ d, d ∈ row := by
      cases row with
      | nil => cases hb
      | cons d _ => exact ⟨d, List.mem_cons_self⟩
    have h1 : (d.2.1, (3 : Int)) ∈ (dos m0 (A ++ B)).w := by rw [R1.w]; exact List.mem_append_left _ ((fw _ _).mpr ⟨rfl, d, hd, rfl⟩)
    have h2 := (tell_after k2 _ _).mp ((same d.2.1 (hw d hd).1 3 (by decide)).2.mp ((tell_after k1 _ _).mpr h1))
    rw [R2.w, hb] at h2
    have := ((o.w _ (mem_waitS.mp h2)).ok hr).2.2
    dsimp only at this; omega
  · -- a way taken off behind it
    have hu : u ∈ lateS (ss row) := by rw [hL]; simp
    obtain ⟨u1, u3⟩ := mem_lateS.mp hu
    obtain ⟨g, i⟩ := o.l u u1
    have hb : (ss row).mid = true := by
      cases hm : (ss row).mid with
      | true => rfl
      | false => rw [late_nil hr hm] at hu; cases hu
    have nd : (lateS (ss row)).Nodup := (List.reverse_perm _).nodup_iff.mpr ((nodup_once _).filter _)
    rw [hL] at nd
    have R1 := rel_shape m0 (E := earlyS (ss row)) (b := (ss row).mid) (L := L1 ++ L2) (W := waitS (ss row)) fun d hd => stay_kind hr (c := d) hd
    rw [← e] at R1
    have := (same u (inW i).1 3 (by decide)).1.mp (MS.tell_iff.mpr (.inr ⟨(i.ok hr).1.1, (R1.h u 3).mpr (.inr (.inl ⟨hb, (fw u 3).mpr ⟨rfl, rowOf i⟩, fun ⟨v, hv, hp⟩ => ?_⟩))⟩))
    · rcases MS.tell_iff.mp this with ⟨w, _, _, h⟩ | ⟨_, h⟩
      · rcases (R2.r w 3).mp h with ⟨h, _⟩ | h
        · exact fr _ _ h
        · have := two (fun _ h => h) h; omega
      · rcases (R2.h u 3).mp h with ⟨h, _⟩ | ⟨_, _, h⟩ | h
        · have := ((fh _ _).mp h).1; omega
        · exact h ⟨u, hu, List.prefix_refl u⟩
        · have := two (fun _ h => h) h; omega
    · have hne : v ≠ u := fun q => by subst q; exact nodup_mid nd hv
      have : v ∈ (ss row).l := by
        have hv' : v ∈ lateS (ss row) := by
          rw [hL]
          exact (List.mem_append.mp hv).elim (List.mem_append_left _) fun h => List.mem_append_right _ (List.mem_cons_of_mem _ h)
        exact (mem_lateS.mp hv').1
      rw [covered_iff.mpr ⟨v, this, hne, hp⟩] at u3; cases u3
  · -- a mark made
    have hu : c ∈ stayS (ss row) := by rw [hS]; simp
    have nd : (stayS (ss row)).Nodup := (List.reverse_perm _).nodup_iff.mpr ((nodup_once _).filter _)
    rw [hS] at nd
    have hc' := nodup_mid nd
    have hsub : ∀ d ∈ S1 ++ S2, d ∈ stayS (ss row) := fun d hd => by
      rw [hS]
      exact (List.mem_append.mp hd).elim (List.mem_append_left _) fun h => List.mem_append_right _ (List.mem_cons_of_mem _ h)
    have R1 := rel_shape m0 (E := earlyS (ss row)) (b := (ss row).mid) (L := lateS (ss row)) (W := waitS (ss row)) (S := S1 ++ S2) fun d hd => stay_kind hr (c := d) (hsub d hd)
    rw [← e] at R1
    obtain ⟨k, w, g⟩ := c
    obtain ⟨u1, u2, u3⟩ := mem_stayS.mp hu
    obtain ⟨hk, i⟩ := Sok _ hu
    dsimp only at u2 u3 hk i
    have hg := (i.ok hr).2.2
    have hw0 := (i.ok hr).1.1
    -- no other mark for all below hides it
    have noR : ∀ v, v <+: w → v ≠ w → ((1 : Int), v, g) ∉ S1 ++ S2 := fun v hp hne h => by
      rw [covered_iff.mpr ⟨v, mem_over.mpr (mem_stayS.mp (hsub _ h)).1, hne, hp⟩] at u2; cases u2
    have noH : ∀ q, (dos m0 (A ++ B)).h q g = true → ((0 : Int), q, g) ∈ S1 ++ S2 := fun q h => by
      rcases (R1.h q g).mp h with ⟨h, _⟩ | ⟨_, h, _⟩ | h
      · have := ((fh _ _).mp h).1; omega
      · have := ((fw _ _).mp h).1; omega
      · exact h
    have noR' : ∀ q, (dos m0 (A ++ B)).r q g = true → ((1 : Int), q, g) ∈ S1 ++ S2 := fun q h => ((R1.r q g).mp h).resolve_left fun h => fr _ _ h.1
    have gf : g ∈ fnums := by rcases hg with rfl | rfl <;> decide
    rcases hk with rfl | rfl
    · have := (same w (inW i).1 g gf).1.mpr (MS.tell_iff.mpr (.inr ⟨hw0, (R2.h w g).mpr (.inr (.inr hu))⟩))
      rcases MS.tell_iff.mp this with ⟨v, _, hp, h⟩ | ⟨_, h⟩
      · have h := noR' v h
        by_cases hv : v = w
        · subst hv
          exact (u3.resolve_left (by decide)) (mem_over.mpr (mem_stayS.mp (hsub _ h)).1)
        · exact noR v hp hv h
      · exact hc' (noH w h)
    · have := (same _ (inW i).2 g gf).1.mpr (MS.tell_iff.mpr (.inl ⟨w, hw0, List.prefix_append _ _, (R2.r w g).mpr (.inr hu)⟩))
      rcases MS.tell_iff.mp this with ⟨v, _, hp, h⟩ | ⟨_, h⟩
      · have h := noR' v h
        rcases List.prefix_concat_iff.mp hp with rfl | hp
        · exact nba (Sok _ (hsub _ h)).2 rfl
        · by_cases hv : v = w
          · subst hv; exact hc' h
          · exact noR v hp hv h
      · exact nba (Sok _ (hsub _ (noH _ h))).2 rfl
  · -- a mark that waits
    have hu : u ∈ waitS (ss row) := by rw [hW]; simp
    have nd : (waitS (ss row)).Nodup := (List.reverse_perm _).nodup_iff.mpr (nodup_once _)
    rw [hW] at nd
    have i := o.w u (mem_waitS.mp hu)
    obtain ⟨w, g⟩ := u
    have hg := (i.ok hr).2.2
    have gf : g ∈ fnums := by dsimp only at hg; rcases hg with rfl | rfl <;> decide
    have R1 := rel_shape m0 (E := earlyS (ss row)) (b := (ss row).mid) (L := lateS (ss row)) (W := W1 ++ W2) fun d hd => stay_kind hr (c := d) hd
    rw [← e] at R1
    have h2 : (w, g) ∈ (dos m0 (shortOf row)).w := by rw [R2.w]; exact List.mem_append_right _ hu
    have h1 := (tell_after k1 _ _).mp ((same w (inW i).1 g gf).2.mpr ((tell_after k2 _ _).mpr h2))
    rw [R1.w] at h1
    rcases List.mem_append.mp h1 with h1 | h1
    · cases hm : (ss row).mid with
      | true => rw [hm] at h1; cases h1
      | false =>
        rw [hm] at h1
        have := ((fw _ _).mp h1).1
        dsimp only at hg; omega
    · exact nodup_mid nd h1
end
end Mine
open PySem PySem.W PySem.Calls PyProof.Rows
set_option Elab.async false
set_option linter.all false
set_option maxRecDepth 100000
set_option genSizeOf false
namespace Mine
theorem len_short {row : List Cal} : (shortOf row).length ≤ row.length + 1 := by
  have hn : (ss row).n ≤ row.length := by
    have key : ∀ (cs : List Cal) (s : SS), (cs.foldl SS.step s).n ≤ s.n + cs.length := by
      intro cs
      induction cs with
      | nil => intro s; exact Nat.le_refl _
      | cons c cs ih =>
        intro s
        have h1 := ih (s.step c)
        have h2 := SS.step_n (s := s) (c := c)
        rw [List.foldl_cons, List.length_cons]; omega
    have := key row ⟨[], [], [], [], false⟩
    exact Nat.le_trans this (by show 0 + _ ≤ _; omega)
  have a1 : (waitS (ss row)).length ≤ (ss row).w.length := by unfold waitS; rw [List.length_reverse]; exact once_len _
  have a2 : (stayS (ss row)).length ≤ (ss row).md.length := by unfold stayS; rw [List.length_reverse]; exact Nat.le_trans (List.length_filter_le _ _) (once_len _)
  have a3 : (lateS (ss row)).length ≤ (ss row).l.length := by unfold lateS; rw [List.length_reverse]; exact Nat.le_trans (List.length_filter_le _ _) (once_len _)
  have a4 : (earlyS (ss row)).length ≤ (ss row).e.length := by unfold earlyS; rw [List.length_reverse]; exact Nat.le_trans (List.length_filter_le _ _) (once_len _)
  unfold SS.n at hn
  rw [short_shape]
  unfold shape
  simp only [List.length_append, List.length_map]
  have a5 : (if (ss row).mid then [((3 : Int), ([] : List Str), (0 : Int))] else []).length ≤ 1 := by split <;> decide
  omega
theorem len_begins : ∀ {cs : List Cal}, (∀ c ∈ cs, c.2.1.length ≤ 3) → (begins2s cs).length ≤ 8 * cs.length
  | [], _ => Nat.le_refl _
  | c :: cs, h => by
    have ih := len_begins (cs := cs) fun d hd => h d (List.mem_cons_of_mem _ hd)
    have h1 := h c List.mem_cons_self
    unfold begins2s at ih ⊢
    rw [List.flatMap_cons, List.length_append, begins2_len, List.length_cons]
    omega
/-- the ways that are asked -/
noncomputable def waysAll (start row : List Cal) : List (List Str) := once (begins2s (start ++ row))
theorem mem_begins {cs : List Cal} {q : List Str} : q ∈ begins2s cs ↔ ∃ c ∈ cs, ∃ i, i ≤ c.2.1.length ∧ (q = c.2.1.take i ∨ q = c.2.1.take i ++ [("b.a" : Str)]) := by
  unfold begins2s begins2
  simp only [List.mem_flatMap, List.mem_range'_1, List.mem_cons, List.not_mem_nil, or_false]
  exact ⟨fun ⟨c, hc, i, ⟨_, hi⟩, h⟩ => ⟨c, hc, i, by omega, h⟩, fun ⟨c, hc, i, hi, h⟩ => ⟨c, hc, i, by omega, h⟩⟩
theorem ways_row {start row : List Cal} {c : Cal} (hc : c ∈ row) : c.2.1 ∈ waysAll start row ∧ c.2.1 ++ [("b.a" : Str)] ∈ waysAll start row := by
  have h := List.mem_append_right start hc
  exact ⟨mem_once.mpr (mem_begins.mpr ⟨c, h, c.2.1.length, Nat.le_refl _, .inl (List.take_length).symm⟩), mem_once.mpr (mem_begins.mpr ⟨c, h, c.2.1.length, Nat.le_refl _, .inr (by rw [List.take_length])⟩)⟩
theorem fnames_ok : ∀ k ∈ ("b.a" : Str) :: fnames, PyData.strOk k = true := by decide +kernel
theorem begins_ok {cs : List Cal} (h : ∀ c ∈ cs, cok c) {q : List Str} (hq : q ∈ begins2s cs) : wgood q := by
  obtain ⟨c, hc, i, hi, h2⟩ := mem_begins.mp hq
  have hk := (h c hc).1.2.2.2.2.1
  have hl := (h c hc).2.1
  have h1 : ∀ k ∈ c.2.1.take i, PyData.strOk k = true := fun k hk' => fnames_ok k (List.mem_cons_of_mem _ (hk k (List.mem_of_mem_take hk')))
  have l1 : (c.2.1.take i).length ≤ 3 := Nat.le_trans (List.length_take_le' _ _) hl
  rcases h2 with rfl | rfl
  · exact ⟨List.all_eq_true.mpr h1, by omega⟩
  · refine ⟨List.all_eq_true.mpr fun k hk' => ?_, by rw [List.length_append, List.length_singleton]; omega⟩
    rcases List.mem_append.mp hk' with hk' | hk'
    · exact h1 k hk'
    · rw [List.mem_singleton.mp hk']; exact fnames_ok _ List.mem_cons_self
theorem row_ok (script : List Int) : (∀ c ∈ startOf script, cok c) ∧ ∀ c ∈ rowOf script, cok c := by
  constructor
  · intro c hc; obtain ⟨x, _, rfl⟩ := List.mem_map.mp hc; exact callOf_ok x
  · intro c hc; obtain ⟨x, _, rfl⟩ := List.mem_map.mp hc; exact callOf_ok x
theorem row_len {script : List Int} (h : script.length ≤ 63) : (startOf script).length ≤ 63 ∧ (rowOf script).length ≤ 63 := by
  unfold startOf rowOf rowNums
  constructor
  · rw [List.length_map, List.length_take]; omega
  · rw [List.length_map]
    split
    · decide
    · rw [List.length_drop]; omega
theorem len_full (row : List Cal) : (fullOf row).length = 2 * row.length := by
  unfold fullOf
  induction row with
  | nil => rfl
  | cons c row ih => rw [List.flatMap_cons, List.length_append, ih]; simp; omega
end Mine
open PySem PySem.W PySem.Calls PyProof.Rows
set_option Elab.async false
set_option linter.all false
set_option maxRecDepth 100000
set_option genSizeOf false
namespace Mine
section
variable {C C' : Cx} {dep : Nat} {H : CH} {cl fa3 fa4 fa5 fa6 fa7 fa8 : Addr}
/-- the statements behind the lists: all is a list that is turned no more -/
theorem lawEnd_W {Q : CF → CSt → Prop} {start row : List Cal} {lo : Str → Option CV} (ok : C.Ok (dep + 3)) (hk : HK C (scopeOf (lawF 9))) (L : LCtx C cl fa3 fa4 fa5 fa6 fa7 fa8) (hst : ∀ c ∈ start, cok c) (hr : ∀ c ∈ row, cok c) (nst : start.length ≤ 63) (nr : row.length ≤ 63)
    (ls : lo "start" = some (.lst (start.map callC))) (lr : lo "row" = some (.lst (row.map callC))) (lsh : lo "short" = some (.lst ((shortOf row).map callC))) (lw : lo "ways" = some (.lst ((waysAll start row).map wcv))) (lf : lo "full" = some (.lst ((fullOf row).map callC)))
    (h : ∀ lo' H', Q (.ret (.bool true)) ⟨lo', H'⟩) : WSs C ((bodyOf (lawF 9)).drop 9) ⟨lo, H⟩ Q := by
  have gst : ∀ c ∈ start, rgood c := fun c hc => (hst c hc).rgood
  have gr : ∀ c ∈ row, rgood c := fun c hc => (hr c hc).rgood
  have gsh : ∀ c ∈ shortOf row, rgood c := fun c hc => (short_good hr hc).1
  have gf : ∀ c ∈ fullOf row, rgood c := fun c hc => (full_good hr hc).1
  have nsh := len_short (row := row)
  have nf := len_full row
  have hall : ∀ c ∈ start ++ row, cok c := fun c hc => (List.mem_append.mp hc).elim (hst c) (hr c)
  have nw : (waysAll start row).length ≤ 10000 := by
    have h1 := once_len (begins2s (start ++ row))
    have h2 := len_begins (cs := start ++ row) fun c hc => (hall c hc).2.1
    rw [List.length_append] at h2
    exact Nat.le_trans h1 (by omega)
  have gw : ∀ q ∈ waysAll start row, q.length ≤ 1000 := fun q hq => (begins_ok hall (mem_once.mp hq)).2
  have kn : C.env.kindOf "new" = some .cell := by rw [hk]; rfl
  refine WSs.cons (WS.for_ ok (WE.listF (WE.nm ok hk (v := .lst (start.map callC)) ls (WE.nm ok hk (v := .lst ((fullOf row).map callC)) lf ⟨by simp, _, IterOf.lst, ?_⟩))))
  refine WA.nm ok hk ?_
  refine cmpBody_W (ahead := start) (row := row) (short := shortOf row) (ways := waysAll start row) ok hk L ⟨_, _, _, rfl⟩ gst gr gsh (by omega) (by omega) (by omega) nw gw rfl lr lsh lw (same_law hr gst _) fun lo1 H1 h1 => ?_
  refine WA.nm ok hk ?_
  refine cmpBody_W (ahead := fullOf row) (row := row) (short := shortOf row) (ways := waysAll start row) ok hk L ⟨_, _, _, rfl⟩ gf gr gsh (by omega) (by omega) (by omega) nw gw rfl ((h1 _ (by decide) (by decide)).trans lr) ((h1 _ (by decide) (by decide)).trans lsh) ((h1 _ (by decide) (by decide)).trans lw) (same_law hr gf _) fun lo2 H2 h2 => WSs.nil ?_
  have k2 : ∀ y : Str, y ≠ "ahead" → y ≠ "long_one" → y ≠ "short_one" → lo2 y = lo y := fun y e1 e2 e3 => by rw [h2 y e2 e3]; show lput lo1 "ahead" _ y = _; rw [lput_ne e1, h1 y e2 e3]; exact lput_ne e1
  clear h1 h2
  refine WSs.cons (WS.for_ ok (WE.nm ok hk (v := .lst ((shortOf row).map callC)) ((k2 _ (by decide) (by decide) (by decide)).trans lsh) ⟨_, IterOf.lst, ?_⟩))
  refine aloneLoop_W ok hk L ⟨_, _, _, rfl⟩ (shortOf row) H2 lo2 (fun c hc h3 => ?_) fun lo3 H3 h3 => ?_
  · obtain ⟨g1, g2, g3⟩ := short_good hr hc
    exact ⟨⟨g1, Nat.le_trans g2 (by decide)⟩, alone_law g1 h3 g3⟩
  have k3 : ∀ y : Str, y ≠ "kind" → y ≠ "way" → y ≠ "flag" → y ≠ "alone" → y ≠ "told" → y ≠ "due" → y ≠ "ahead" → y ≠ "long_one" → y ≠ "short_one" → lo3 y = lo y := fun y e1 e2 e3 e4 e5 e6 e7 e8 e9 => (h3 y e1 e2 e3 e4 e5 e6).trans (k2 y e7 e8 e9)
  have m1 : lo3 "short" = some (.lst ((shortOf row).map callC)) := (k3 _ (by decide) (by decide) (by decide) (by decide) (by decide) (by decide) (by decide) (by decide) (by decide)).trans lsh
  have m2 : lo3 "full" = some (.lst ((fullOf row).map callC)) := (k3 _ (by decide) (by decide) (by decide) (by decide) (by decide) (by decide) (by decide) (by decide) (by decide)).trans lf
  have m3 : lo3 "ways" = some (.lst ((waysAll start row).map wcv)) := (k3 _ (by decide) (by decide) (by decide) (by decide) (by decide) (by decide) (by decide) (by decide) (by decide)).trans lw
  clear h3 k3 k2
  refine WSs.cons (WS.assign1 (L.runTold (cs := fullOf row ++ shortOf row) ok hk (fun c hc => (List.mem_append.mp hc).elim (gf c) (gsh c)) (by rw [List.length_append]; omega) nw gw m3 rfl (fun Q' hQ => ?_) fun H4 => WA.nm ok hk ?_))
  · refine WE.binop (WE.nm ok hk (v := .lst ((fullOf row).map callC)) m2 (WE.nm ok hk (v := .lst ((shortOf row).map callC)) m1 (W2.addL (by simp; omega) ?_)))
    rw [← List.map_append]; exact hQ
  refine WSs.cons (WS.for_ ok (WE.call ok (WE.glob ok L.g (v := .type "range") rfl ⟨_, rfl, KpOk.type, WE.call ok (WE.glob ok L.g (v := .builtin "len") rfl ⟨_, rfl, KpOk.builtin, WE.nm ok hk (v := .lst ((shortOf row).map callC)) m1 (WCall.lenL (by simp; omega) (WCall.range1 ⟨_, IterOf.rng (by omega) (by simp <;> omega), ?_⟩))⟩ (by rw [hk]; rfl))⟩ (by rw [hk]; rfl))))
  have er : rints 0 (((shortOf row).map callC).length : Int) = (List.range' 0 (shortOf row).length).map fun i => CV.int (i : Nat) := by simp [rints, List.range_eq_range']
  rw [er]
  refine spareLoop_W ok hk L ⟨_, _, _, rfl⟩ gf gsh (by omega) (by omega) nw gw (fun i hi => ?_) (shortOf row).length 0 H4 _ (by omega) m2 m1 m3 rfl fun lo5 H5 h5 => ?_
  · rw [List.append_assoc]
    exact spare_law hr (fun c hc => ways_row hc) (c := (shortOf row)[i]) (by rw [← List.drop_eq_getElem_cons hi, List.take_append_drop])
  have m5 : lo5 "ways" = some (.lst ((waysAll start row).map wcv)) := (h5 _ (by decide)).trans m3
  refine WSs.cons (WS.assign1 (WE.call ok (WE.glob ok L.g (v := .ref cl) rfl ⟨_, rfl, KpOk.ref L.keepCl, FM.new (dep := dep + 1) ok L.fc L.ms fun H6 x ow F _ => WA.nm ok hk ?_⟩ (by rw [hk]; rfl))))
  refine WSs.cons (WS.ret (WE.cmp1 (WE.comp ok (WE.nm ok hk (v := .lst ((waysAll start row).map wcv)) m5 ⟨_, IterOf.lst, fun C2 ok2 s2 hsc => ?_⟩) ?_)))
  · have kx : ∀ y, C2.env.kindOf y = _ := fun y => by unfold Env.kindOf; rw [hsc, relabel_lookup]
    refine noneOut_W (x := x) ok2 (L.fc.same s2) (L.ms.same s2) F (L.g.same s2).sub (by rw [kx, hk, ok.fun_]; rfl) (by rw [kx]; rfl) (by rw [kx]; rfl) (by rw [kx]; rfl) rfl (waysAll start row) [] _ gw rfl fun lo' h' => ⟨fun y hy => ?_, .inl ?_⟩
    · have := mem_of_lookupK hy
      simp at this
      subst this
      exact h' _ (by decide) (by decide)
    · exact WE.listF ⟨by simp, W2.eqP ok rfl rfl (by decide) (h _ _)⟩
  · simp only [List.all_cons, List.all_nil, kn]
    rfl
theorem law_W' {Q : CF → CSt → Prop} {script : List Int} (ok : C.Ok (dep + 3)) (hk : HK C (scopeOf (lawF 9))) (L : LCtx C cl fa3 fa4 fa5 fa6 fa7 fa8) (hs : script.length ≤ 63) (h : ∀ lo' H', Q (.ret (.bool true)) ⟨lo', H'⟩) :
    WSs C (bodyOf (lawF 9)) ⟨fun y => ([("script" : Str)].zip [.lst (script.map .int)]).lookup y, H⟩ Q := by
  obtain ⟨hst, hr⟩ := row_ok script
  obtain ⟨nst, nr⟩ := row_len hs
  refine begin_W (dep := dep + 2) ok hk L hs rfl ?_
  generalize startOf script = start at *
  generalize rowOf script = row at *
  have hall : ∀ c ∈ start ++ row, cok c := fun c hc => (List.mem_append.mp hc).elim (hst c) (hr c)
  have nb : (begins2s (start ++ row)).length ≤ 10000 := by
    have h2 := len_begins (cs := start ++ row) fun c hc => (hall c hc).2.1
    rw [List.length_append] at h2
    omega
  have wr : ∀ c ∈ row, wgood c.2.1 := fun c hc => ⟨List.all_eq_true.mpr fun k hk => fnames_ok k (List.mem_cons_of_mem _ ((hr c hc).1.2.2.2.2.1 k hk)), Nat.le_trans (hr c hc).2.1 (by decide)⟩
  refine WSs.cons (short_W (dep := dep + 1) ok hk L wr (by omega) rfl fun H1 _ => ?_)
  refine WSs.cons (WS.assign1 (WE.list ⟨by simp, fun W hW => WA.nm ok hk ?_⟩))
  refine WSs.cons (WS.for_ ok (WE.binop (WE.nm ok hk (v := .lst (start.map callC)) rfl (WE.nm ok hk (v := .lst (row.map callC)) rfl (W2.addL (by simp; omega) ⟨_, IterOf.lst, ?_⟩)))))
  rw [← List.map_append]
  refine waysLoop2_W (W := W) ok hk L ⟨_, _, _, rfl⟩ (start ++ row) [] _ (fun c hc => Nat.le_trans (hall c hc).2.1 (by decide)) (by simp; omega) rfl fun lo2 m1 h2 => ?_
  refine WSs.freeze m1 hput_self ?_
  refine WSs.cons (WS.assign1 (WE.call ok (WE.glob ok L.g (v := .ref fa6) rfl ⟨_, rfl, KpOk.ref (by obtain ⟨fd, l⟩ := L.f6; exact l.keep), WE.nm ok hk (v := .lst ((begins2s (start ++ row)).map wcv)) rfl (L.once (dep := dep + 2) ok ⟨ceq_wcv, fun q hq => isPy_wcv (begins_ok hall hq).1, depth_wcv⟩ nb (WA.nm ok hk ?_))⟩ (by rw [hk]; rfl))))
  refine WSs.cons (WS.assign1 (WE.list ⟨by simp, fun W2 hW2 => WA.nm ok hk ?_⟩))
  have l2 : ∀ (y : Str) (v : CV), y ≠ "k" → y ≠ "kind" → y ≠ "way" → y ≠ "flag" → y ≠ "ways" → y ≠ "full" → lo2 y = some v → ∀ a b c, lput (lput (lput lo2 "ways" a) "ways" b) "full" c y = some v := fun y v _ _ _ _ e5 e6 e a b c => by rw [lput_ne e6, lput_ne e5, lput_ne e5, e]
  have r2 := l2 "row" (.lst (row.map callC)) (by decide) (by decide) (by decide) (by decide) (by decide) (by decide) ((h2 "row" (by decide) (by decide) (by decide) (by decide)).trans rfl)
  have s2 := l2 "start" (.lst (start.map callC)) (by decide) (by decide) (by decide) (by decide) (by decide) (by decide) ((h2 "start" (by decide) (by decide) (by decide) (by decide)).trans rfl)
  have t2 := l2 "short" (.lst ((shortOf row).map callC)) (by decide) (by decide) (by decide) (by decide) (by decide) (by decide) ((h2 "short" (by decide) (by decide) (by decide) (by decide)).trans rfl)
  clear l2
  refine WSs.cons (WS.for_ ok (WE.nm ok hk (v := .lst (row.map callC)) (r2 (.lst (([] ++ begins2s (start ++ row)).map wcv)) (.lst ((once (begins2s (start ++ row))).map wcv)) (.loc W2)) ⟨_, IterOf.lst, ?_⟩))
  refine fullLoop_W (W := W2) ok hk ⟨_, _, _, rfl⟩ row [] _ (by simp; omega) rfl fun lo3 m3 h3 => ?_
  refine WSs.freeze m3 hput_self ?_
  exact lawEnd_W (start := start) (row := row) ok hk L hst hr nst nr ((lput_ne (by decide)).trans ((h3 "start" (by decide) (by decide) (by decide)).trans (s2 (.lst (([] ++ begins2s (start ++ row)).map wcv)) (.lst ((once (begins2s (start ++ row))).map wcv)) (.loc W2)))) ((lput_ne (by decide)).trans ((h3 "row" (by decide) (by decide) (by decide)).trans (r2 (.lst (([] ++ begins2s (start ++ row)).map wcv)) (.lst ((once (begins2s (start ++ row))).map wcv)) (.loc W2))))
    ((lput_ne (by decide)).trans ((h3 "short" (by decide) (by decide) (by decide)).trans (t2 (.lst (([] ++ begins2s (start ++ row)).map wcv)) (.lst ((once (begins2s (start ++ row))).map wcv)) (.loc W2)))) ((lput_ne (by decide)).trans ((h3 "ways" (by decide) (by decide) (by decide)).trans rfl)) rfl h
end
end Mine
open PySem PySem.W PySem.Calls PyProof.Rows
set_option Elab.async false
set_option linter.all false
set_option maxRecDepth 100000
set_option genSizeOf false
namespace Mine
noncomputable def stArgs : Stmt → Arguments
  | .FunctionDef _ a .. => a
  | _ => default
noncomputable def stScope : Stmt → Scope
  | .FunctionDef (scope := s) .. => s
  | _ => default
noncomputable def fnO (st : Stmt) (nm q md : Str) (mt : Nat) (cd : Addr) : Obj := { cls := .type "function", data := .func { name := nm, qualname := q, params := stArgs st, body := .stmts (bodyOf st), scope := stScope st, globals := 3, closure := [], defaults := .none, kwdefaults := .none, pyModule := .str md mt, code := .ref cd } }
noncomputable def coO (nm q : Str) (t : Nat) (line ac kw : Int) (r : Nat) (cells : Bool) (x : Int) : Obj := { cls := .type "code", data := .fields #[.str nm t, .str q (t + 1), .str "/claim/cut.py" (t + 2), .int line 0, .int ac 0, .int 0 0, .int kw 0, .int 3 0, .ref r, .bool true, .int 181 0, .ref (r + 1), .none, (if cells then .none else .ref (r + 2)), (if cells then .none else .ref (r + 3)), .ref (if cells then r + 2 else r + 4), .int x 0, .int line 0, .str "/claim/cut.py" (x.toNat + 1)] }
noncomputable def ent (P : Params) (nm : Str) (t : Nat) (v : Value) : DictEntry := ⟨PyData.keyHash P nm, .str nm t, v⟩
noncomputable def dcO (es : List DictEntry) (n : Nat) : Obj := { cls := .type "dict", data := .dict es.toArray n }
/-- of the heap behind the top: the names, the class, the defs and their codes -/
noncomputable def KK : Params → Frag := fun P => [
  (3, dcO [ent P "__name__" 165 (.str "law_kq0032_01" 277), ent P "__doc__" 166 .none, ent P "__package__" 167 .none, ent P "__loader__" 168 (.builtin "__main__.__loader__#opaque"), ent P "__spec__" 169 .none, ent P "__annotations__" 170 (.ref 6), ent P "__builtins__" 171 (.ref 4), ent P "__file__" 173 (.str "/claim/cut.py" 172), ent P "__cached__" 174 .none, ent P "Flags" 276 (.ref 66), ent P "_law_call" 289 (.ref 77), ent P "_law_run" 300 (.ref 84), ent P "_law_told" 306 (.ref 89), ent P "_law_once" 312 (.ref 94), ent P "_law_covered" 318 (.ref 99), ent P "_law_short" 324 (.ref 104), ent P "law" 330 (.ref 109)] 17),
  (65, dcO [ent P "__module__" 196 (.str "cpy313.tomllib._parser" 187), ent P "__firstlineno__" 200 (.int 2 199), ent P "FROZEN" 202 (.int 0 201), ent P "EXPLICIT_NEST" 204 (.int 1 203), ent P "__init__" 211 (.ref 28), ent P "add_pending" 220 (.ref 35), ent P "finalize_pending" 229 (.ref 42), ent P "unset_all" 239 (.ref 49), ent P "set" 253 (.ref 56), ent P "is_" 266 (.ref 63), ent P "__static_attributes__" 269 (.ref 64), ent P "__dict__" 271 (.ref 67), ent P "__weakref__" 273 (.ref 68), ent P "__doc__" 274 .none] 4),
  (66, { cls := .type "type", data := .cls { name := "Flags", bases := [.type "object"], mro := [.ref 66, .type "object"], ns := 65, qualname := "Flags" }, slots := #[none, none, some (.str "Flags" 189), some (.str "Flags" 197), some (.builtin "object.__new__"), some (.bool true)] }),
  (27, coO "__init__" "Flags.__init__" 205 6 1 0 22 false 209),
  (28, fnO (flagsM 2) "__init__" "Flags.__init__" "cpy313.tomllib._parser" 187 27),
  (34, coO "add_pending" "Flags.add_pending" 212 10 3 0 29 false 218),
  (35, fnO (flagsM 3) "add_pending" "Flags.add_pending" "cpy313.tomllib._parser" 187 34),
  (41, coO "finalize_pending" "Flags.finalize_pending" 221 13 1 0 36 false 227),
  (42, fnO (flagsM 4) "finalize_pending" "Flags.finalize_pending" "cpy313.tomllib._parser" 187 41),
  (48, coO "unset_all" "Flags.unset_all" 230 18 2 0 43 false 237),
  (49, fnO (flagsM 5) "unset_all" "Flags.unset_all" "cpy313.tomllib._parser" 187 48),
  (55, coO "set" "Flags.set" 240 26 3 1 50 false 251),
  (56, fnO (flagsM 6) "set" "Flags.set" "cpy313.tomllib._parser" 187 55),
  (62, coO "is_" "Flags.is_" 254 37 3 0 57 false 264),
  (63, fnO (flagsM 7) "is_" "Flags.is_" "cpy313.tomllib._parser" 187 62),
  (76, coO "_law_call" "_law_call" 279 54 1 0 71 false 287),
  (77, fnO (lawF 3) "_law_call" "_law_call" "law_kq0032_01" 277 76),
  (83, coO "_law_run" "_law_run" 290 63 1 0 78 false 298),
  (84, fnO (lawF 4) "_law_run" "_law_run" "law_kq0032_01" 277 83),
  (88, coO "_law_told" "_law_told" 301 75 2 0 85 true 304),
  (89, fnO (lawF 5) "_law_told" "_law_told" "law_kq0032_01" 277 88),
  (93, coO "_law_once" "_law_once" 307 81 1 0 90 true 310),
  (94, fnO (lawF 6) "_law_once" "_law_once" "law_kq0032_01" 277 93),
  (98, coO "_law_covered" "_law_covered" 313 83 2 0 95 true 316),
  (99, fnO (lawF 7) "_law_covered" "_law_covered" "law_kq0032_01" 277 98),
  (103, coO "_law_short" "_law_short" 319 85 1 0 100 true 322),
  (104, fnO (lawF 8) "_law_short" "_law_short" "law_kq0032_01" 277 103),
  (108, coO "law" "law" 325 111 1 0 105 true 328),
  (109, fnO (lawF 9) "law" "law" "law_kq0032_01" 277 108)]
noncomputable def asK : List Addr := [3, 65, 66, 27, 28, 34, 35, 41, 42, 48, 49, 55, 56, 62, 63, 76, 77, 83, 84, 88, 89, 93, 94, 98, 99, 103, 104, 108, 109]
theorem asK_eq (P : Params) : asK = (KK P).map (·.1) := by kernel_rfl
end Mine
open PySem PySem.W PySem.Calls PyProof.Rows
set_option Elab.async false
set_option linter.all false
set_option maxRecDepth 100000
set_option genSizeOf false
namespace Mine
set_option maxHeartbeats 8000000
/-- a def that stands in the top's heap -/
structure FnIn (K : Frag) (fa : Addr) (body : List Stmt) (names : List (Str × NameKind)) (fd : FuncData) : Prop where
  at_ : ∃ oc od sl, K.lookup fa = some ⟨oc, od, .func fd, sl⟩
  keep : keepIn K (.ref fa) = true
  code : codeIn K fd.code fd.qualname = true
  body : fd.body = .stmts body
  clo : fd.closure = []
  gl : fd.globals = mainGlobals
  bl : fd.builtins = builtinsNs
  co : fd.scope.isCoroutine = false
  gen : fd.scope.isGenerator = false
  kind : fd.scope.kind = .function
  scope : fd.scope.names = names
theorem FnIn.fnAt {K : Frag} {fa : Addr} {body : List Stmt} {names : List (Str × NameKind)} {fd : FuncData} {C : Cx} (f : FnIn K fa body names fd) (X : K.In C.base) : FnAt C fa fd body := by
  (refine el_3_0 f.at_ fun oc od sl e => ?_)
  exact ⟨(in_1_1 _ (X _ _ e) rfl), codeRec_of X f.code, f.body, f.clo, f.gl, f.bl, f.co, f.gen, f.kind⟩
variable (P : Params)
theorem exact1 {us : List Value} (h : us.length = 1) : ∃ u0, us = [u0] := by
  (refine el_2_0 (List.exists_cons_of_length_eq_add_one h) fun a t xEl2 => ?_; obtain rfl := xEl2)
  obtain rfl := List.length_eq_zero_iff.mp (Nat.succ.inj h)
  exact (in_1_0 a rfl)
theorem exact2 {us : List Value} (h : us.length = 2) : ∃ u0 u1, us = [u0, u1] := by
  (refine el_2_0 (List.exists_cons_of_length_eq_add_one h) fun a t xEl2 => ?_; obtain rfl := xEl2)
  (refine el_1_0 (exact1 (Nat.succ.inj h)) fun b xEl1 => ?_; obtain rfl := xEl1)
  exact (in_2_0 a b rfl)
theorem exact3 {us : List Value} (h : us.length = 3) : ∃ u0 u1 u2, us = [u0, u1, u2] := by
  (refine el_2_0 (List.exists_cons_of_length_eq_add_one h) fun a t xEl2 => ?_; obtain rfl := xEl2)
  (refine el_2_0 (exact2 (Nat.succ.inj h)) fun b c xEl2 => ?_; obtain rfl := xEl2)
  exact (in_3_0 a b c rfl)
theorem exact4 {us : List Value} (h : us.length = 4) : ∃ u0 u1 u2 u3, us = [u0, u1, u2, u3] := by
  (refine el_2_0 (List.exists_cons_of_length_eq_add_one h) fun a t xEl2 => ?_; obtain rfl := xEl2)
  (refine el_3_0 (exact3 (Nat.succ.inj h)) fun b c d xEl3 => ?_; obtain rfl := xEl3)
  exact (in_4_0 a b c d rfl)
theorem kf3 : ∃ fd, FnIn (KK P) 77 (bodyOf (lawF 3)) (scopeOf (lawF 3)) fd ∧ ∀ us : List Value, us.length = 1 → bindArgs fd ⟨us, []⟩ = pure ((["x"] : List Str).zip us) :=
  ⟨_, ⟨⟨_, _, _, rfl⟩, by kernel_rfl, by kernel_rfl, by kernel_rfl, rfl, rfl, rfl, rfl, rfl, rfl, by kernel_rfl⟩, fun us h => by
    obtain ⟨u0, rfl⟩ := exact1 h
    kernel_rfl⟩
theorem kf4 : ∃ fd, FnIn (KK P) 84 (bodyOf (lawF 4)) (scopeOf (lawF 4)) fd ∧ ∀ us : List Value, us.length = 1 → bindArgs fd ⟨us, []⟩ = pure ((["calls"] : List Str).zip us) :=
  ⟨_, ⟨⟨_, _, _, rfl⟩, by kernel_rfl, by kernel_rfl, by kernel_rfl, rfl, rfl, rfl, rfl, rfl, rfl, by kernel_rfl⟩, fun us h => by
    obtain ⟨u0, rfl⟩ := exact1 h
    kernel_rfl⟩
theorem kf5 : ∃ fd, FnIn (KK P) 89 (bodyOf (lawF 5)) (scopeOf (lawF 5)) fd ∧ ∀ us : List Value, us.length = 2 → bindArgs fd ⟨us, []⟩ = pure ((["flags", "ways"] : List Str).zip us) :=
  ⟨_, ⟨⟨_, _, _, rfl⟩, by kernel_rfl, by kernel_rfl, by kernel_rfl, rfl, rfl, rfl, rfl, rfl, rfl, by kernel_rfl⟩, fun us h => by
    obtain ⟨u0, u1, rfl⟩ := exact2 h
    kernel_rfl⟩
theorem kf6 : ∃ fd, FnIn (KK P) 94 (bodyOf (lawF 6)) (scopeOf (lawF 6)) fd ∧ ∀ us : List Value, us.length = 1 → bindArgs fd ⟨us, []⟩ = pure ((["rows"] : List Str).zip us) :=
  ⟨_, ⟨⟨_, _, _, rfl⟩, by kernel_rfl, by kernel_rfl, by kernel_rfl, rfl, rfl, rfl, rfl, rfl, rfl, by kernel_rfl⟩, fun us h => by
    obtain ⟨u0, rfl⟩ := exact1 h
    kernel_rfl⟩
theorem kf7 : ∃ fd, FnIn (KK P) 99 (bodyOf (lawF 7)) (scopeOf (lawF 7)) fd ∧ ∀ us : List Value, us.length = 2 → bindArgs fd ⟨us, []⟩ = pure ((["way", "others"] : List Str).zip us) :=
  ⟨_, ⟨⟨_, _, _, rfl⟩, by kernel_rfl, by kernel_rfl, by kernel_rfl, rfl, rfl, rfl, rfl, rfl, rfl, by kernel_rfl⟩, fun us h => by
    obtain ⟨u0, u1, rfl⟩ := exact2 h
    kernel_rfl⟩
theorem kf8 : ∃ fd, FnIn (KK P) 104 (bodyOf (lawF 8)) (scopeOf (lawF 8)) fd ∧ ∀ us : List Value, us.length = 1 → bindArgs fd ⟨us, []⟩ = pure ((["row"] : List Str).zip us) :=
  ⟨_, ⟨⟨_, _, _, rfl⟩, by kernel_rfl, by kernel_rfl, by kernel_rfl, rfl, rfl, rfl, rfl, rfl, rfl, by kernel_rfl⟩, fun us h => by
    obtain ⟨u0, rfl⟩ := exact1 h
    kernel_rfl⟩
theorem kf9 : ∃ fd, FnIn (KK P) 109 (bodyOf (lawF 9)) (scopeOf (lawF 9)) fd ∧ ∀ us : List Value, us.length = 1 → bindArgs fd ⟨us, []⟩ = pure ((["script"] : List Str).zip us) :=
  ⟨_, ⟨⟨_, _, _, rfl⟩, by kernel_rfl, by kernel_rfl, by kernel_rfl, rfl, rfl, rfl, rfl, rfl, rfl, by kernel_rfl⟩, fun us h => by
    obtain ⟨u0, rfl⟩ := exact1 h
    kernel_rfl⟩
theorem km2 : ∃ fd, FnIn (KK P) 28 (bodyOf (flagsM 2)) (scopeOf (flagsM 2)) fd ∧ findIn (KK P) (.ref 66) "__init__" = some (some (.ref 28)) ∧ typeIn (KK P) (.ref 28) = some (.type "function") ∧
    ∀ us vs : List Value, us.length + ([] : List Str).length = (["self"] : List Str).length → vs.length = ([] : List Str).length → bindArgs fd ⟨us, ([] : List Str).zip vs⟩ = pure ((["self"] : List Str).zip (us ++ vs)) :=
  ⟨_, ⟨⟨_, _, _, rfl⟩, by kernel_rfl, by kernel_rfl, by kernel_rfl, rfl, rfl, rfl, rfl, rfl, rfl, by kernel_rfl⟩, by kernel_rfl, by kernel_rfl, fun us vs h1 h2 => by
    obtain ⟨u0, rfl⟩ := exact1 (us := us) (Nat.add_right_cancel h1)
    obtain rfl := List.length_eq_zero_iff.mp h2
    kernel_rfl⟩
theorem km3 : ∃ fd, FnIn (KK P) 35 (bodyOf (flagsM 3)) (scopeOf (flagsM 3)) fd ∧ findIn (KK P) (.ref 66) "add_pending" = some (some (.ref 35)) ∧ typeIn (KK P) (.ref 35) = some (.type "function") ∧
    ∀ us vs : List Value, us.length + ([] : List Str).length = (["self", "key", "flag"] : List Str).length → vs.length = ([] : List Str).length → bindArgs fd ⟨us, ([] : List Str).zip vs⟩ = pure ((["self", "key", "flag"] : List Str).zip (us ++ vs)) :=
  ⟨_, ⟨⟨_, _, _, rfl⟩, by kernel_rfl, by kernel_rfl, by kernel_rfl, rfl, rfl, rfl, rfl, rfl, rfl, by kernel_rfl⟩, by kernel_rfl, by kernel_rfl, fun us vs h1 h2 => by
    obtain ⟨u0, u1, u2, rfl⟩ := exact3 (us := us) (Nat.add_right_cancel h1)
    obtain rfl := List.length_eq_zero_iff.mp h2
    kernel_rfl⟩
theorem km4 : ∃ fd, FnIn (KK P) 42 (bodyOf (flagsM 4)) (scopeOf (flagsM 4)) fd ∧ findIn (KK P) (.ref 66) "finalize_pending" = some (some (.ref 42)) ∧ typeIn (KK P) (.ref 42) = some (.type "function") ∧
    ∀ us vs : List Value, us.length + ([] : List Str).length = (["self"] : List Str).length → vs.length = ([] : List Str).length → bindArgs fd ⟨us, ([] : List Str).zip vs⟩ = pure ((["self"] : List Str).zip (us ++ vs)) :=
  ⟨_, ⟨⟨_, _, _, rfl⟩, by kernel_rfl, by kernel_rfl, by kernel_rfl, rfl, rfl, rfl, rfl, rfl, rfl, by kernel_rfl⟩, by kernel_rfl, by kernel_rfl, fun us vs h1 h2 => by
    obtain ⟨u0, rfl⟩ := exact1 (us := us) (Nat.add_right_cancel h1)
    obtain rfl := List.length_eq_zero_iff.mp h2
    kernel_rfl⟩
theorem km5 : ∃ fd, FnIn (KK P) 49 (bodyOf (flagsM 5)) (scopeOf (flagsM 5)) fd ∧ findIn (KK P) (.ref 66) "unset_all" = some (some (.ref 49)) ∧ typeIn (KK P) (.ref 49) = some (.type "function") ∧
    ∀ us vs : List Value, us.length + ([] : List Str).length = (["self", "key"] : List Str).length → vs.length = ([] : List Str).length → bindArgs fd ⟨us, ([] : List Str).zip vs⟩ = pure ((["self", "key"] : List Str).zip (us ++ vs)) :=
  ⟨_, ⟨⟨_, _, _, rfl⟩, by kernel_rfl, by kernel_rfl, by kernel_rfl, rfl, rfl, rfl, rfl, rfl, rfl, by kernel_rfl⟩, by kernel_rfl, by kernel_rfl, fun us vs h1 h2 => by
    obtain ⟨u0, u1, rfl⟩ := exact2 (us := us) (Nat.add_right_cancel h1)
    obtain rfl := List.length_eq_zero_iff.mp h2
    kernel_rfl⟩
theorem km6 : ∃ fd, FnIn (KK P) 56 (bodyOf (flagsM 6)) (scopeOf (flagsM 6)) fd ∧ findIn (KK P) (.ref 66) "set" = some (some (.ref 56)) ∧ typeIn (KK P) (.ref 56) = some (.type "function") ∧
    ∀ us vs : List Value, us.length + (["recursive"] : List Str).length = (["self", "key", "flag", "recursive"] : List Str).length → vs.length = (["recursive"] : List Str).length → bindArgs fd ⟨us, (["recursive"] : List Str).zip vs⟩ = pure ((["self", "key", "flag", "recursive"] : List Str).zip (us ++ vs)) :=
  ⟨_, ⟨⟨_, _, _, rfl⟩, by kernel_rfl, by kernel_rfl, by kernel_rfl, rfl, rfl, rfl, rfl, rfl, rfl, by kernel_rfl⟩, by kernel_rfl, by kernel_rfl, fun us vs h1 h2 => by
    obtain ⟨u0, u1, u2, rfl⟩ := exact3 (us := us) (Nat.add_right_cancel h1)
    obtain ⟨v0, rfl⟩ := exact1 (us := vs) h2
    kernel_rfl⟩
theorem km7 : ∃ fd, FnIn (KK P) 63 (bodyOf (flagsM 7)) (scopeOf (flagsM 7)) fd ∧ findIn (KK P) (.ref 66) "is_" = some (some (.ref 63)) ∧ typeIn (KK P) (.ref 63) = some (.type "function") ∧
    ∀ us vs : List Value, us.length + ([] : List Str).length = (["self", "key", "flag"] : List Str).length → vs.length = ([] : List Str).length → bindArgs fd ⟨us, ([] : List Str).zip vs⟩ = pure ((["self", "key", "flag"] : List Str).zip (us ++ vs)) :=
  ⟨_, ⟨⟨_, _, _, rfl⟩, by kernel_rfl, by kernel_rfl, by kernel_rfl, rfl, rfl, rfl, rfl, rfl, rfl, by kernel_rfl⟩, by kernel_rfl, by kernel_rfl, fun us vs h1 h2 => by
    obtain ⟨u0, u1, u2, rfl⟩ := exact3 (us := us) (Nat.add_right_cancel h1)
    obtain rfl := List.length_eq_zero_iff.mp h2
    kernel_rfl⟩
theorem kcls : plainGet (KK P) 66 "" = true ∧ hasDictIn (KK P) 66 = true ∧ plainOver (KK P) 66 = true ∧ findIn (KK P) (.ref 66) "__setattr__" = some (some (.builtin "object.__setattr__")) ∧ makesIn (KK P) 66 = true ∧ keepIn (KK P) (.ref 66) = true :=
  ⟨by kernel_rfl, by kernel_rfl, by kernel_rfl, by kernel_rfl, by kernel_rfl, by kernel_rfl⟩
theorem kattr : findIn (KK P) (.ref 66) "_flags" = some none ∧ findIn (KK P) (.ref 66) "_pending_flags" = some none ∧ takerIn (KK P) 66 "_flags" = some none ∧ takerIn (KK P) 66 "_pending_flags" = some none :=
  ⟨by kernel_rfl, by kernel_rfl, by kernel_rfl, by kernel_rfl⟩
noncomputable def globs : List (Str × Option Value) := [("Flags", some (.ref 66)), ("_law_call", some (.ref 77)), ("_law_run", some (.ref 84)), ("_law_told", some (.ref 89)), ("_law_once", some (.ref 94)), ("_law_covered", some (.ref 99)), ("_law_short", some (.ref 104)), ("law", some (.ref 109)), ("len", none), ("range", none), ("set", none)]
theorem kglob : ∀ x v, (x, v) ∈ globs → nsIn (KK P) mainGlobals x = some v := by
  have h : ∀ g ∈ globs, nsIn (KK P) mainGlobals g.1 = some g.2 := by
    unfold globs
    refine List.forall_mem_cons.mpr ⟨by kernel_rfl, ?_⟩
    refine List.forall_mem_cons.mpr ⟨by kernel_rfl, ?_⟩
    refine List.forall_mem_cons.mpr ⟨by kernel_rfl, ?_⟩
    refine List.forall_mem_cons.mpr ⟨by kernel_rfl, ?_⟩
    refine List.forall_mem_cons.mpr ⟨by kernel_rfl, ?_⟩
    refine List.forall_mem_cons.mpr ⟨by kernel_rfl, ?_⟩
    refine List.forall_mem_cons.mpr ⟨by kernel_rfl, ?_⟩
    refine List.forall_mem_cons.mpr ⟨by kernel_rfl, ?_⟩
    refine List.forall_mem_cons.mpr ⟨by kernel_rfl, ?_⟩
    refine List.forall_mem_cons.mpr ⟨by kernel_rfl, ?_⟩
    refine List.forall_mem_cons.mpr ⟨by kernel_rfl, ?_⟩
    exact fun g hg => (by cases hg)
  exact fun x v hx => h _ hx
/-- the context of the law, from the facts of the top -/
theorem lctx_of {C : Cx} {P : Params} (hK : C.K = KK P) (X : C.K.In C.base) (hg : C.base.Ns mainGlobals C.mg) (hb : ∀ x : Str, x ≠ "__name__" → C.mb x = bootBuiltins x) : LCtx C 66 77 84 89 94 99 104 := by
  obtain ⟨prog, w, A, env, base, outer, K, mg, mb, KF, s0⟩ := C
  dsimp only at hK X hg hb
  subst hK
  obtain ⟨c1, c2, c3, c4, c5, c6⟩ := kcls P
  obtain ⟨a1, a2, a3, a4⟩ := kattr P
  have gr : ∀ (x : Str) (a : Addr), (x, some (.ref a)) ∈ globs → mg x = some (.ref a) := fun x a h => mg_of X hg (kglob P x _ h)
  have gn : ∀ (x : Str) (v : Value), (x, none) ∈ globs → x ≠ "__name__" → bootBuiltins x = some v → mg x = none ∧ mb x = some v := fun x v h h1 h2 => ⟨mg_none_of X hg (kglob P x _ h), (hb x h1).trans h2⟩
  refine ⟨⟨⟨c1, c2, c3, c4, c5⟩, a1, a2, a3, a4, fun x v e => ?_⟩, ⟨?_, ?_, ?_, ?_, ?_, ?_⟩, c6, ?_, ?_, ?_, ?_, ?_, ?_, fun x v e => ?_⟩
  · obtain ⟨rfl, rfl⟩ := Prod.mk.inj (List.mem_singleton.mp (mem_of_lookup e))
    exact .inr (gn _ _ (by decide +kernel) (by decide) (by kernel_rfl))
  · obtain ⟨fd, f, h1, h2, h3⟩ := km6 P; exact ⟨56, fd, ⟨h1, h2, f.keep, f.fnAt X, f.scope, h3⟩⟩
  · obtain ⟨fd, f, h1, h2, h3⟩ := km3 P; exact ⟨35, fd, ⟨h1, h2, f.keep, f.fnAt X, f.scope, h3⟩⟩
  · obtain ⟨fd, f, h1, h2, h3⟩ := km4 P; exact ⟨42, fd, ⟨h1, h2, f.keep, f.fnAt X, f.scope, h3⟩⟩
  · obtain ⟨fd, f, h1, h2, h3⟩ := km5 P; exact ⟨49, fd, ⟨h1, h2, f.keep, f.fnAt X, f.scope, h3⟩⟩
  · obtain ⟨fd, f, h1, h2, h3⟩ := km7 P; exact ⟨63, fd, ⟨h1, h2, f.keep, f.fnAt X, f.scope, h3⟩⟩
  · obtain ⟨fd, f, h1, h2, h3⟩ := km2 P; exact ⟨28, fd, ⟨h1, h2, f.keep, f.fnAt X, f.scope, h3⟩⟩
  · obtain ⟨fd, f, h⟩ := kf3 P; exact ⟨fd, ⟨f.keep, f.fnAt X, f.scope, h⟩⟩
  · obtain ⟨fd, f, h⟩ := kf4 P; exact ⟨fd, ⟨f.keep, f.fnAt X, f.scope, h⟩⟩
  · obtain ⟨fd, f, h⟩ := kf5 P; exact ⟨fd, ⟨f.keep, f.fnAt X, f.scope, h⟩⟩
  · obtain ⟨fd, f, h⟩ := kf6 P; exact ⟨fd, ⟨f.keep, f.fnAt X, f.scope, h⟩⟩
  · obtain ⟨fd, f, h⟩ := kf7 P; exact ⟨fd, ⟨f.keep, f.fnAt X, f.scope, h⟩⟩
  · obtain ⟨fd, f, h⟩ := kf8 P; exact ⟨fd, ⟨f.keep, f.fnAt X, f.scope, h⟩⟩
  · have e := mem_of_lookup e
    simp only [List.mem_cons, List.not_mem_nil, or_false, Prod.mk.injEq] at e
    rcases e with ⟨rfl, rfl⟩ | ⟨rfl, rfl⟩ | ⟨rfl, rfl⟩ | ⟨rfl, rfl⟩ | ⟨rfl, rfl⟩ | ⟨rfl, rfl⟩ | ⟨rfl, rfl⟩ | ⟨rfl, rfl⟩ | ⟨rfl, rfl⟩
    · exact .inr (gn _ _ (by decide +kernel) (by decide) (by kernel_rfl))
    · exact .inr (gn _ _ (by decide +kernel) (by decide) (by kernel_rfl))
    · exact .inl (gr _ _ (by decide +kernel))
    · exact .inl (gr _ _ (by decide +kernel))
    · exact .inl (gr _ _ (by decide +kernel))
    · exact .inl (gr _ _ (by decide +kernel))
    · exact .inl (gr _ _ (by decide +kernel))
    · exact .inl (gr _ _ (by decide +kernel))
    · exact .inl (gr _ _ (by decide +kernel))

end Mine
open PySem PySem.W PySem.Calls PyProof.Rows
set_option Elab.async false
set_option linter.all false
set_option maxRecDepth 100000
set_option genSizeOf false
namespace Mine
set_option maxHeartbeats 8000000
theorem vrs_ints {P : Params} {h : Heap} {I : IM} : ∀ {vs : List Value} {xs : List Int}, WellAll P h vs (ofPys (xs.map PyData.int)) → VRs I (xs.map .int) vs
  | vs, [], x => by cases x; exact .nil
  | vs, n :: xs, x => by
    cases x with
    | cons a b =>
      cases a
      exact .cons (by simp only [VR]; exact (in_1_0 _ rfl)) (vrs_ints b)
theorem final {w : PySem.World} {q : Program} {s₀ s₁ : Shared} {mg mb : Str → Option Value} {loose : List Str} {xs : List Int} {a : Addr} (KX : (KK w.params).In s₁.heap) (T : Top q loose (ExcName.means s₀.heap) mg mb s₁.heap) (hg : s₁.gens = #[])
    (hw : Well w.params s₁.heap (.ref a) (ofPy (PyData.list (xs.map PyData.int)))) (hlen : ¬ (63 : Int) < xs.length) :
    codeAny (model PySem.Challenge.rw_kq0032_01.row.prog w) callerA (.call (.ref 109) { pos := [.ref a] }) (GoodW PySem.Challenge.rw_kq0032_01.row.claim (classAt s₀.heap) (ExcName.means s₀.heap) [ofPy (PyData.list (xs.map PyData.int))] s₁) s₁ := by
  obtain ⟨fd, f, hbind⟩ := kf9 w.params
  obtain ⟨oc, od, sl, e⟩ := f.at_
  have hlist : VR (fun b => s₁.heap.get? b) (.lst (xs.map .int)) (.ref a) := by
    simp only [ofPy] at hw
    cases hw with
    | list h1 h2 =>
      simp only [VR]
      exact (in_3_2 a _ _ rfl h1 (by simpa using vrs_ints h2))
  refine codeAny_mono (topCall_W (dep := 3) (K := KK w.params) (mg := mg) (mb := mb) (pn := ["script"]) (args := [.lst (xs.map .int)]) (us := [.ref a]) KX T.g T.b T.nolimit T.builtins rfl (by decide) (by decide) rfl ⟨109, _, by decide, KX _ _ e⟩ (KX _ _ e) rfl (codeRec_of KX f.code) f.body f.clo f.gl f.bl f.co f.gen f.kind (hbind _ rfl)
    (by rw [f.scope]; decide +kernel) (by decide) (by rw [f.scope]; decide +kernel) (by rw [f.scope]; decide +kernel) (.cons hlist .nil) fun C' ok c1 c2 c3 c4 c5 c6 c7 => ?_) fun r s' ⟨er, keep, h, tk, dr, es⟩ => ?_
  · have hk : HK C' (scopeOf (lawF 9)) := fun y => by unfold Env.kindOf; rw [c7, f.scope]
    have L := lctx_of (P := w.params) c2 ok.K ok.g ok.boot
    exact law_W' (dep := 0) ok hk L (by omega) fun lo' H' => rfl
  · subst er
    exact ⟨.inl ⟨.bool true, .bool true, [], rfl, fun _ => rfl, .bool true, by kernel_rfl, fun _ => ⟨List.nodup_nil, fun a h => by cases h⟩⟩, keep, by rw [es], by rw [es]; exact hg⟩
/-- the law alone, seen at the top -/
noncomputable def QV : Program := { PySem.Challenge.pw_kq0032_01 with main := { PySem.Challenge.pw_kq0032_01.main with body := [lawF 2, lawF 9] } }
noncomputable def LS : List Str := ["Flags", "_law_call", "_law_run", "_law_told", "_law_once", "_law_covered", "_law_short"]
noncomputable def HH : Hook := kHook KK asK asK_eq
end Mine
theorem PySem.Challenge.cw_kq0032_01_holds : PySem.Challenge.rw_kq0032_01.Holds := by
  w_on
  o_law
  refine holds_open (q := Mine.QV) (loose := Mine.LS) (Xt := fun s => xlAt Mine.QV [] s && recOk (RowW.records (OpenRow.toRowW PySem.Challenge.rw_kq0032_01.row)) s) (XP := XL Mine.QV []) (Yf := Hook.obs Mine.HH) (Ya := Hook.val Mine.HH) (YP := Hook.says Mine.HH) (N := 1388) ?hl (Hook.of Mine.HH) (Hook.keeps Mine.HH) (fun s e => xl_of s (Bool.and_eq_true_iff.mp e).1) XL.keeps (by rfl) (by rfl) (by rfl) (fun s e => recFacts_of (Bool.and_eq_true_iff.mp e).2) (by rfl) (by first | assumption | decide +kernel) (by decide +kernel) ⟨rfl, rfl, rfl, rfl, rfl, by decide +kernel⟩ ?hw ?hc
  case hw => w_witness2
  case hl => intro w; kernel_rfl
  intro w s₀ s₁ mg mb G Y fa o pm cd doc dV kV ho hd' hcd hD hmg hg args vals as hpre hlay hrd hwl hlo
  have KX := kIn_of Y
  clear hd' hcd hD
  refine Ground.open G ?_
  intro T B D TE TW
  have hfa : fa = 109 := by
    have := mg_of KX T.g (Mine.kglob w.params "law" (some (.ref 109)) (by decide +kernel))
    have h2 : mg "law" = some (.ref fa) := hmg
    rw [h2] at this
    cases this; rfl
  clear hmg
  subst hfa
  wrow_args hpre hlay hrd hwl hlo
  first | refine callC_kw (enter_call ?_) | refine enter_call ?_ | refine callC_kw (enter_callW ?_) | refine enter_callW ?_
  refine codeAny_mono ?_ (fun _ _ g => GoodW.toG g)
  exact Mine.final KX T hg (by assumption) (by assumption)
