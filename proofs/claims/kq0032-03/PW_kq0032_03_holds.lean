import PyProof.Rows.All
import Wide.All
import OpenK.AllK
import Wide.FinOn
import Lean
import PySem.Challenge.RW_kq0032_03
open PySem PySem.W PyProof.Rows
set_option Elab.async false
set_option maxRecDepth 100000
set_option maxHeartbeats 8000000
namespace Mine
open_top hd for PySem.Challenge.rw_kq0032_03
end Mine
local macro_rules | `(tactic| omega) => `(tactic| first | lia | omega +splitDisjunctions)
set_option Elab.async false
set_option linter.all false
namespace Mine
theorem el_0_1 {A0 A1 : Prop} {P : Prop} (h : A0 ∧ A1) (k : A0 → A1 → P) : P := k h.1 h.2
theorem in_0_1 {A0 A1 : Prop} (a0 : A0) (a1 : A1) : A0 ∧ A1 := ⟨a0, a1⟩
theorem el_1_0.{u0} {α0 : Sort u0} {A0 : α0 → Prop} {P : Prop} (h : ∃ x0, A0 x0) (k : ∀ x0, A0 x0 → P) : P := Exists.elim h fun x0 h => k x0 h
theorem in_1_0.{u0} {α0 : Sort u0} {A0 : α0 → Prop} (x0 : α0) (a0 : A0 x0) : ∃ x0, A0 x0 := ⟨x0, a0⟩
theorem el_0_2 {A0 A1 A2 : Prop} {P : Prop} (h : A0 ∧ A1 ∧ A2) (k : A0 → A1 → A2 → P) : P := k h.1 h.2.1 h.2.2
theorem in_0_2 {A0 A1 A2 : Prop} (a0 : A0) (a1 : A1) (a2 : A2) : A0 ∧ A1 ∧ A2 := ⟨a0, a1, a2⟩
theorem el_1_1.{u0} {α0 : Sort u0} {A0 A1 : α0 → Prop} {P : Prop} (h : ∃ x0, A0 x0 ∧ A1 x0) (k : ∀ x0, A0 x0 → A1 x0 → P) : P := Exists.elim h fun x0 h => k x0 h.1 h.2
theorem in_1_1.{u0} {α0 : Sort u0} {A0 A1 : α0 → Prop} (x0 : α0) (a0 : A0 x0) (a1 : A1 x0) : ∃ x0, A0 x0 ∧ A1 x0 := ⟨x0, a0, a1⟩
theorem el_2_0.{u0, u1} {α0 : Sort u0} {α1 : Sort u1} {A0 : α0 → α1 → Prop} {P : Prop} (h : ∃ x0 x1, A0 x0 x1) (k : ∀ x0 x1, A0 x0 x1 → P) : P := Exists.elim h fun x0 h => Exists.elim h fun x1 h => k x0 x1 h
theorem in_2_0.{u0, u1} {α0 : Sort u0} {α1 : Sort u1} {A0 : α0 → α1 → Prop} (x0 : α0) (x1 : α1) (a0 : A0 x0 x1) : ∃ x0 x1, A0 x0 x1 := ⟨x0, x1, a0⟩
theorem el_0_3 {A0 A1 A2 A3 : Prop} {P : Prop} (h : A0 ∧ A1 ∧ A2 ∧ A3) (k : A0 → A1 → A2 → A3 → P) : P := k h.1 h.2.1 h.2.2.1 h.2.2.2
theorem in_0_3 {A0 A1 A2 A3 : Prop} (a0 : A0) (a1 : A1) (a2 : A2) (a3 : A3) : A0 ∧ A1 ∧ A2 ∧ A3 := ⟨a0, a1, a2, a3⟩
theorem el_1_2.{u0} {α0 : Sort u0} {A0 A1 A2 : α0 → Prop} {P : Prop} (h : ∃ x0, A0 x0 ∧ A1 x0 ∧ A2 x0) (k : ∀ x0, A0 x0 → A1 x0 → A2 x0 → P) : P := Exists.elim h fun x0 h => k x0 h.1 h.2.1 h.2.2
theorem in_1_2.{u0} {α0 : Sort u0} {A0 A1 A2 : α0 → Prop} (x0 : α0) (a0 : A0 x0) (a1 : A1 x0) (a2 : A2 x0) : ∃ x0, A0 x0 ∧ A1 x0 ∧ A2 x0 := ⟨x0, a0, a1, a2⟩
theorem el_2_1.{u0, u1} {α0 : Sort u0} {α1 : Sort u1} {A0 A1 : α0 → α1 → Prop} {P : Prop} (h : ∃ x0 x1, A0 x0 x1 ∧ A1 x0 x1) (k : ∀ x0 x1, A0 x0 x1 → A1 x0 x1 → P) : P := Exists.elim h fun x0 h => Exists.elim h fun x1 h => k x0 x1 h.1 h.2
theorem in_2_1.{u0, u1} {α0 : Sort u0} {α1 : Sort u1} {A0 A1 : α0 → α1 → Prop} (x0 : α0) (x1 : α1) (a0 : A0 x0 x1) (a1 : A1 x0 x1) : ∃ x0 x1, A0 x0 x1 ∧ A1 x0 x1 := ⟨x0, x1, a0, a1⟩
theorem el_3_0.{u0, u1, u2} {α0 : Sort u0} {α1 : Sort u1} {α2 : Sort u2} {A0 : α0 → α1 → α2 → Prop} {P : Prop} (h : ∃ x0 x1 x2, A0 x0 x1 x2) (k : ∀ x0 x1 x2, A0 x0 x1 x2 → P) : P := Exists.elim h fun x0 h => Exists.elim h fun x1 h => Exists.elim h fun x2 h => k x0 x1 x2 h
theorem in_3_0.{u0, u1, u2} {α0 : Sort u0} {α1 : Sort u1} {α2 : Sort u2} {A0 : α0 → α1 → α2 → Prop} (x0 : α0) (x1 : α1) (x2 : α2) (a0 : A0 x0 x1 x2) : ∃ x0 x1 x2, A0 x0 x1 x2 := ⟨x0, x1, x2, a0⟩
theorem el_0_4 {A0 A1 A2 A3 A4 : Prop} {P : Prop} (h : A0 ∧ A1 ∧ A2 ∧ A3 ∧ A4) (k : A0 → A1 → A2 → A3 → A4 → P) : P := k h.1 h.2.1 h.2.2.1 h.2.2.2.1 h.2.2.2.2
theorem in_0_4 {A0 A1 A2 A3 A4 : Prop} (a0 : A0) (a1 : A1) (a2 : A2) (a3 : A3) (a4 : A4) : A0 ∧ A1 ∧ A2 ∧ A3 ∧ A4 := ⟨a0, a1, a2, a3, a4⟩
theorem el_1_3.{u0} {α0 : Sort u0} {A0 A1 A2 A3 : α0 → Prop} {P : Prop} (h : ∃ x0, A0 x0 ∧ A1 x0 ∧ A2 x0 ∧ A3 x0) (k : ∀ x0, A0 x0 → A1 x0 → A2 x0 → A3 x0 → P) : P := Exists.elim h fun x0 h => k x0 h.1 h.2.1 h.2.2.1 h.2.2.2
theorem in_1_3.{u0} {α0 : Sort u0} {A0 A1 A2 A3 : α0 → Prop} (x0 : α0) (a0 : A0 x0) (a1 : A1 x0) (a2 : A2 x0) (a3 : A3 x0) : ∃ x0, A0 x0 ∧ A1 x0 ∧ A2 x0 ∧ A3 x0 := ⟨x0, a0, a1, a2, a3⟩
theorem el_2_2.{u0, u1} {α0 : Sort u0} {α1 : Sort u1} {A0 A1 A2 : α0 → α1 → Prop} {P : Prop} (h : ∃ x0 x1, A0 x0 x1 ∧ A1 x0 x1 ∧ A2 x0 x1) (k : ∀ x0 x1, A0 x0 x1 → A1 x0 x1 → A2 x0 x1 → P) : P := Exists.elim h fun x0 h => Exists.elim h fun x1 h => k x0 x1 h.1 h.2.1 h.2.2
theorem in_2_2.{u0, u1} {α0 : Sort u0} {α1 : Sort u1} {A0 A1 A2 : α0 → α1 → Prop} (x0 : α0) (x1 : α1) (a0 : A0 x0 x1) (a1 : A1 x0 x1) (a2 : A2 x0 x1) : ∃ x0 x1, A0 x0 x1 ∧ A1 x0 x1 ∧ A2 x0 x1 := ⟨x0, x1, a0, a1, a2⟩
theorem el_3_1.{u0, u1, u2} {α0 : Sort u0} {α1 : Sort u1} {α2 : Sort u2} {A0 A1 : α0 → α1 → α2 → Prop} {P : Prop} (h : ∃ x0 x1 x2, A0 x0 x1 x2 ∧ A1 x0 x1 x2) (k : ∀ x0 x1 x2, A0 x0 x1 x2 → A1 x0 x1 x2 → P) : P := Exists.elim h fun x0 h => Exists.elim h fun x1 h => Exists.elim h fun x2 h => k x0 x1 x2 h.1 h.2
theorem in_3_1.{u0, u1, u2} {α0 : Sort u0} {α1 : Sort u1} {α2 : Sort u2} {A0 A1 : α0 → α1 → α2 → Prop} (x0 : α0) (x1 : α1) (x2 : α2) (a0 : A0 x0 x1 x2) (a1 : A1 x0 x1 x2) : ∃ x0 x1 x2, A0 x0 x1 x2 ∧ A1 x0 x1 x2 := ⟨x0, x1, x2, a0, a1⟩
theorem el_4_0.{u0, u1, u2, u3} {α0 : Sort u0} {α1 : Sort u1} {α2 : Sort u2} {α3 : Sort u3} {A0 : α0 → α1 → α2 → α3 → Prop} {P : Prop} (h : ∃ x0 x1 x2 x3, A0 x0 x1 x2 x3) (k : ∀ x0 x1 x2 x3, A0 x0 x1 x2 x3 → P) : P := Exists.elim h fun x0 h => Exists.elim h fun x1 h => Exists.elim h fun x2 h => Exists.elim h fun x3 h => k x0 x1 x2 x3 h
theorem in_4_0.{u0, u1, u2, u3} {α0 : Sort u0} {α1 : Sort u1} {α2 : Sort u2} {α3 : Sort u3} {A0 : α0 → α1 → α2 → α3 → Prop} (x0 : α0) (x1 : α1) (x2 : α2) (x3 : α3) (a0 : A0 x0 x1 x2 x3) : ∃ x0 x1 x2 x3, A0 x0 x1 x2 x3 := ⟨x0, x1, x2, x3, a0⟩
theorem el_0_5 {A0 A1 A2 A3 A4 A5 : Prop} {P : Prop} (h : A0 ∧ A1 ∧ A2 ∧ A3 ∧ A4 ∧ A5) (k : A0 → A1 → A2 → A3 → A4 → A5 → P) : P := k h.1 h.2.1 h.2.2.1 h.2.2.2.1 h.2.2.2.2.1 h.2.2.2.2.2
theorem in_0_5 {A0 A1 A2 A3 A4 A5 : Prop} (a0 : A0) (a1 : A1) (a2 : A2) (a3 : A3) (a4 : A4) (a5 : A5) : A0 ∧ A1 ∧ A2 ∧ A3 ∧ A4 ∧ A5 := ⟨a0, a1, a2, a3, a4, a5⟩
theorem el_2_3.{u0, u1} {α0 : Sort u0} {α1 : Sort u1} {A0 A1 A2 A3 : α0 → α1 → Prop} {P : Prop} (h : ∃ x0 x1, A0 x0 x1 ∧ A1 x0 x1 ∧ A2 x0 x1 ∧ A3 x0 x1) (k : ∀ x0 x1, A0 x0 x1 → A1 x0 x1 → A2 x0 x1 → A3 x0 x1 → P) : P := Exists.elim h fun x0 h => Exists.elim h fun x1 h => k x0 x1 h.1 h.2.1 h.2.2.1 h.2.2.2
theorem in_2_3.{u0, u1} {α0 : Sort u0} {α1 : Sort u1} {A0 A1 A2 A3 : α0 → α1 → Prop} (x0 : α0) (x1 : α1) (a0 : A0 x0 x1) (a1 : A1 x0 x1) (a2 : A2 x0 x1) (a3 : A3 x0 x1) : ∃ x0 x1, A0 x0 x1 ∧ A1 x0 x1 ∧ A2 x0 x1 ∧ A3 x0 x1 := ⟨x0, x1, a0, a1, a2, a3⟩
theorem el_3_2.{u0, u1, u2} {α0 : Sort u0} {α1 : Sort u1} {α2 : Sort u2} {A0 A1 A2 : α0 → α1 → α2 → Prop} {P : Prop} (h : ∃ x0 x1 x2, A0 x0 x1 x2 ∧ A1 x0 x1 x2 ∧ A2 x0 x1 x2) (k : ∀ x0 x1 x2, A0 x0 x1 x2 → A1 x0 x1 x2 → A2 x0 x1 x2 → P) : P := Exists.elim h fun x0 h => Exists.elim h fun x1 h => Exists.elim h fun x2 h => k x0 x1 x2 h.1 h.2.1 h.2.2
theorem in_3_2.{u0, u1, u2} {α0 : Sort u0} {α1 : Sort u1} {α2 : Sort u2} {A0 A1 A2 : α0 → α1 → α2 → Prop} (x0 : α0) (x1 : α1) (x2 : α2) (a0 : A0 x0 x1 x2) (a1 : A1 x0 x1 x2) (a2 : A2 x0 x1 x2) : ∃ x0 x1 x2, A0 x0 x1 x2 ∧ A1 x0 x1 x2 ∧ A2 x0 x1 x2 := ⟨x0, x1, x2, a0, a1, a2⟩
theorem el_4_1.{u0, u1, u2, u3} {α0 : Sort u0} {α1 : Sort u1} {α2 : Sort u2} {α3 : Sort u3} {A0 A1 : α0 → α1 → α2 → α3 → Prop} {P : Prop} (h : ∃ x0 x1 x2 x3, A0 x0 x1 x2 x3 ∧ A1 x0 x1 x2 x3) (k : ∀ x0 x1 x2 x3, A0 x0 x1 x2 x3 → A1 x0 x1 x2 x3 → P) : P := Exists.elim h fun x0 h => Exists.elim h fun x1 h => Exists.elim h fun x2 h => Exists.elim h fun x3 h => k x0 x1 x2 x3 h.1 h.2
theorem in_4_1.{u0, u1, u2, u3} {α0 : Sort u0} {α1 : Sort u1} {α2 : Sort u2} {α3 : Sort u3} {A0 A1 : α0 → α1 → α2 → α3 → Prop} (x0 : α0) (x1 : α1) (x2 : α2) (x3 : α3) (a0 : A0 x0 x1 x2 x3) (a1 : A1 x0 x1 x2 x3) : ∃ x0 x1 x2 x3, A0 x0 x1 x2 x3 ∧ A1 x0 x1 x2 x3 := ⟨x0, x1, x2, x3, a0, a1⟩
theorem el_5_0.{u0, u1, u2, u3, u4} {α0 : Sort u0} {α1 : Sort u1} {α2 : Sort u2} {α3 : Sort u3} {α4 : Sort u4} {A0 : α0 → α1 → α2 → α3 → α4 → Prop} {P : Prop} (h : ∃ x0 x1 x2 x3 x4, A0 x0 x1 x2 x3 x4) (k : ∀ x0 x1 x2 x3 x4, A0 x0 x1 x2 x3 x4 → P) : P := Exists.elim h fun x0 h => Exists.elim h fun x1 h => Exists.elim h fun x2 h => Exists.elim h fun x3 h => Exists.elim h fun x4 h => k x0 x1 x2 x3 x4 h
theorem in_5_0.{u0, u1, u2, u3, u4} {α0 : Sort u0} {α1 : Sort u1} {α2 : Sort u2} {α3 : Sort u3} {α4 : Sort u4} {A0 : α0 → α1 → α2 → α3 → α4 → Prop} (x0 : α0) (x1 : α1) (x2 : α2) (x3 : α3) (x4 : α4) (a0 : A0 x0 x1 x2 x3 x4) : ∃ x0 x1 x2 x3 x4, A0 x0 x1 x2 x3 x4 := ⟨x0, x1, x2, x3, x4, a0⟩
theorem el_0_6 {A0 A1 A2 A3 A4 A5 A6 : Prop} {P : Prop} (h : A0 ∧ A1 ∧ A2 ∧ A3 ∧ A4 ∧ A5 ∧ A6) (k : A0 → A1 → A2 → A3 → A4 → A5 → A6 → P) : P := k h.1 h.2.1 h.2.2.1 h.2.2.2.1 h.2.2.2.2.1 h.2.2.2.2.2.1 h.2.2.2.2.2.2
theorem el_1_5.{u0} {α0 : Sort u0} {A0 A1 A2 A3 A4 A5 : α0 → Prop} {P : Prop} (h : ∃ x0, A0 x0 ∧ A1 x0 ∧ A2 x0 ∧ A3 x0 ∧ A4 x0 ∧ A5 x0) (k : ∀ x0, A0 x0 → A1 x0 → A2 x0 → A3 x0 → A4 x0 → A5 x0 → P) : P := Exists.elim h fun x0 h => k x0 h.1 h.2.1 h.2.2.1 h.2.2.2.1 h.2.2.2.2.1 h.2.2.2.2.2
theorem in_1_5.{u0} {α0 : Sort u0} {A0 A1 A2 A3 A4 A5 : α0 → Prop} (x0 : α0) (a0 : A0 x0) (a1 : A1 x0) (a2 : A2 x0) (a3 : A3 x0) (a4 : A4 x0) (a5 : A5 x0) : ∃ x0, A0 x0 ∧ A1 x0 ∧ A2 x0 ∧ A3 x0 ∧ A4 x0 ∧ A5 x0 := ⟨x0, a0, a1, a2, a3, a4, a5⟩
theorem el_2_4.{u0, u1} {α0 : Sort u0} {α1 : Sort u1} {A0 A1 A2 A3 A4 : α0 → α1 → Prop} {P : Prop} (h : ∃ x0 x1, A0 x0 x1 ∧ A1 x0 x1 ∧ A2 x0 x1 ∧ A3 x0 x1 ∧ A4 x0 x1) (k : ∀ x0 x1, A0 x0 x1 → A1 x0 x1 → A2 x0 x1 → A3 x0 x1 → A4 x0 x1 → P) : P := Exists.elim h fun x0 h => Exists.elim h fun x1 h => k x0 x1 h.1 h.2.1 h.2.2.1 h.2.2.2.1 h.2.2.2.2
theorem in_2_4.{u0, u1} {α0 : Sort u0} {α1 : Sort u1} {A0 A1 A2 A3 A4 : α0 → α1 → Prop} (x0 : α0) (x1 : α1) (a0 : A0 x0 x1) (a1 : A1 x0 x1) (a2 : A2 x0 x1) (a3 : A3 x0 x1) (a4 : A4 x0 x1) : ∃ x0 x1, A0 x0 x1 ∧ A1 x0 x1 ∧ A2 x0 x1 ∧ A3 x0 x1 ∧ A4 x0 x1 := ⟨x0, x1, a0, a1, a2, a3, a4⟩
theorem el_3_3.{u0, u1, u2} {α0 : Sort u0} {α1 : Sort u1} {α2 : Sort u2} {A0 A1 A2 A3 : α0 → α1 → α2 → Prop} {P : Prop} (h : ∃ x0 x1 x2, A0 x0 x1 x2 ∧ A1 x0 x1 x2 ∧ A2 x0 x1 x2 ∧ A3 x0 x1 x2) (k : ∀ x0 x1 x2, A0 x0 x1 x2 → A1 x0 x1 x2 → A2 x0 x1 x2 → A3 x0 x1 x2 → P) : P := Exists.elim h fun x0 h => Exists.elim h fun x1 h => Exists.elim h fun x2 h => k x0 x1 x2 h.1 h.2.1 h.2.2.1 h.2.2.2
theorem in_3_3.{u0, u1, u2} {α0 : Sort u0} {α1 : Sort u1} {α2 : Sort u2} {A0 A1 A2 A3 : α0 → α1 → α2 → Prop} (x0 : α0) (x1 : α1) (x2 : α2) (a0 : A0 x0 x1 x2) (a1 : A1 x0 x1 x2) (a2 : A2 x0 x1 x2) (a3 : A3 x0 x1 x2) : ∃ x0 x1 x2, A0 x0 x1 x2 ∧ A1 x0 x1 x2 ∧ A2 x0 x1 x2 ∧ A3 x0 x1 x2 := ⟨x0, x1, x2, a0, a1, a2, a3⟩
theorem in_1_6.{u0} {α0 : Sort u0} {A0 A1 A2 A3 A4 A5 A6 : α0 → Prop} (x0 : α0) (a0 : A0 x0) (a1 : A1 x0) (a2 : A2 x0) (a3 : A3 x0) (a4 : A4 x0) (a5 : A5 x0) (a6 : A6 x0) : ∃ x0, A0 x0 ∧ A1 x0 ∧ A2 x0 ∧ A3 x0 ∧ A4 x0 ∧ A5 x0 ∧ A6 x0 := ⟨x0, a0, a1, a2, a3, a4, a5, a6⟩
theorem in_3_4.{u0, u1, u2} {α0 : Sort u0} {α1 : Sort u1} {α2 : Sort u2} {A0 A1 A2 A3 A4 : α0 → α1 → α2 → Prop} (x0 : α0) (x1 : α1) (x2 : α2) (a0 : A0 x0 x1 x2) (a1 : A1 x0 x1 x2) (a2 : A2 x0 x1 x2) (a3 : A3 x0 x1 x2) (a4 : A4 x0 x1 x2) : ∃ x0 x1 x2, A0 x0 x1 x2 ∧ A1 x0 x1 x2 ∧ A2 x0 x1 x2 ∧ A3 x0 x1 x2 ∧ A4 x0 x1 x2 := ⟨x0, x1, x2, a0, a1, a2, a3, a4⟩
theorem el_4_3.{u0, u1, u2, u3} {α0 : Sort u0} {α1 : Sort u1} {α2 : Sort u2} {α3 : Sort u3} {A0 A1 A2 A3 : α0 → α1 → α2 → α3 → Prop} {P : Prop} (h : ∃ x0 x1 x2 x3, A0 x0 x1 x2 x3 ∧ A1 x0 x1 x2 x3 ∧ A2 x0 x1 x2 x3 ∧ A3 x0 x1 x2 x3) (k : ∀ x0 x1 x2 x3, A0 x0 x1 x2 x3 → A1 x0 x1 x2 x3 → A2 x0 x1 x2 x3 → A3 x0 x1 x2 x3 → P) : P := Exists.elim h fun x0 h => Exists.elim h fun x1 h => Exists.elim h fun x2 h => Exists.elim h fun x3 h => k x0 x1 x2 x3 h.1 h.2.1 h.2.2.1 h.2.2.2
theorem in_4_3.{u0, u1, u2, u3} {α0 : Sort u0} {α1 : Sort u1} {α2 : Sort u2} {α3 : Sort u3} {A0 A1 A2 A3 : α0 → α1 → α2 → α3 → Prop} (x0 : α0) (x1 : α1) (x2 : α2) (x3 : α3) (a0 : A0 x0 x1 x2 x3) (a1 : A1 x0 x1 x2 x3) (a2 : A2 x0 x1 x2 x3) (a3 : A3 x0 x1 x2 x3) : ∃ x0 x1 x2 x3, A0 x0 x1 x2 x3 ∧ A1 x0 x1 x2 x3 ∧ A2 x0 x1 x2 x3 ∧ A3 x0 x1 x2 x3 := ⟨x0, x1, x2, x3, a0, a1, a2, a3⟩
theorem el_6_1.{u0, u1, u2, u3, u4, u5} {α0 : Sort u0} {α1 : Sort u1} {α2 : Sort u2} {α3 : Sort u3} {α4 : Sort u4} {α5 : Sort u5} {A0 A1 : α0 → α1 → α2 → α3 → α4 → α5 → Prop} {P : Prop} (h : ∃ x0 x1 x2 x3 x4 x5, A0 x0 x1 x2 x3 x4 x5 ∧ A1 x0 x1 x2 x3 x4 x5) (k : ∀ x0 x1 x2 x3 x4 x5, A0 x0 x1 x2 x3 x4 x5 → A1 x0 x1 x2 x3 x4 x5 → P) : P := Exists.elim h fun x0 h => Exists.elim h fun x1 h => Exists.elim h fun x2 h => Exists.elim h fun x3 h => Exists.elim h fun x4 h => Exists.elim h fun x5 h => k x0 x1 x2 x3 x4 x5 h.1 h.2
theorem el_7_0.{u0, u1, u2, u3, u4, u5, u6} {α0 : Sort u0} {α1 : Sort u1} {α2 : Sort u2} {α3 : Sort u3} {α4 : Sort u4} {α5 : Sort u5} {α6 : Sort u6} {A0 : α0 → α1 → α2 → α3 → α4 → α5 → α6 → Prop} {P : Prop} (h : ∃ x0 x1 x2 x3 x4 x5 x6, A0 x0 x1 x2 x3 x4 x5 x6) (k : ∀ x0 x1 x2 x3 x4 x5 x6, A0 x0 x1 x2 x3 x4 x5 x6 → P) : P := Exists.elim h fun x0 h => Exists.elim h fun x1 h => Exists.elim h fun x2 h => Exists.elim h fun x3 h => Exists.elim h fun x4 h => Exists.elim h fun x5 h => Exists.elim h fun x6 h => k x0 x1 x2 x3 x4 x5 x6 h
theorem in_7_0.{u0, u1, u2, u3, u4, u5, u6} {α0 : Sort u0} {α1 : Sort u1} {α2 : Sort u2} {α3 : Sort u3} {α4 : Sort u4} {α5 : Sort u5} {α6 : Sort u6} {A0 : α0 → α1 → α2 → α3 → α4 → α5 → α6 → Prop} (x0 : α0) (x1 : α1) (x2 : α2) (x3 : α3) (x4 : α4) (x5 : α5) (x6 : α6) (a0 : A0 x0 x1 x2 x3 x4 x5 x6) : ∃ x0 x1 x2 x3 x4 x5 x6, A0 x0 x1 x2 x3 x4 x5 x6 := ⟨x0, x1, x2, x3, x4, x5, x6, a0⟩
theorem el_0_8 {A0 A1 A2 A3 A4 A5 A6 A7 A8 : Prop} {P : Prop} (h : A0 ∧ A1 ∧ A2 ∧ A3 ∧ A4 ∧ A5 ∧ A6 ∧ A7 ∧ A8) (k : A0 → A1 → A2 → A3 → A4 → A5 → A6 → A7 → A8 → P) : P := k h.1 h.2.1 h.2.2.1 h.2.2.2.1 h.2.2.2.2.1 h.2.2.2.2.2.1 h.2.2.2.2.2.2.1 h.2.2.2.2.2.2.2.1 h.2.2.2.2.2.2.2.2
theorem in_0_8 {A0 A1 A2 A3 A4 A5 A6 A7 A8 : Prop} (a0 : A0) (a1 : A1) (a2 : A2) (a3 : A3) (a4 : A4) (a5 : A5) (a6 : A6) (a7 : A7) (a8 : A8) : A0 ∧ A1 ∧ A2 ∧ A3 ∧ A4 ∧ A5 ∧ A6 ∧ A7 ∧ A8 := ⟨a0, a1, a2, a3, a4, a5, a6, a7, a8⟩
theorem in_3_5.{u0, u1, u2} {α0 : Sort u0} {α1 : Sort u1} {α2 : Sort u2} {A0 A1 A2 A3 A4 A5 : α0 → α1 → α2 → Prop} (x0 : α0) (x1 : α1) (x2 : α2) (a0 : A0 x0 x1 x2) (a1 : A1 x0 x1 x2) (a2 : A2 x0 x1 x2) (a3 : A3 x0 x1 x2) (a4 : A4 x0 x1 x2) (a5 : A5 x0 x1 x2) : ∃ x0 x1 x2, A0 x0 x1 x2 ∧ A1 x0 x1 x2 ∧ A2 x0 x1 x2 ∧ A3 x0 x1 x2 ∧ A4 x0 x1 x2 ∧ A5 x0 x1 x2 := ⟨x0, x1, x2, a0, a1, a2, a3, a4, a5⟩
theorem el_8_0.{u0, u1, u2, u3, u4, u5, u6, u7} {α0 : Sort u0} {α1 : Sort u1} {α2 : Sort u2} {α3 : Sort u3} {α4 : Sort u4} {α5 : Sort u5} {α6 : Sort u6} {α7 : Sort u7} {A0 : α0 → α1 → α2 → α3 → α4 → α5 → α6 → α7 → Prop} {P : Prop} (h : ∃ x0 x1 x2 x3 x4 x5 x6 x7, A0 x0 x1 x2 x3 x4 x5 x6 x7) (k : ∀ x0 x1 x2 x3 x4 x5 x6 x7, A0 x0 x1 x2 x3 x4 x5 x6 x7 → P) : P := Exists.elim h fun x0 h => Exists.elim h fun x1 h => Exists.elim h fun x2 h => Exists.elim h fun x3 h => Exists.elim h fun x4 h => Exists.elim h fun x5 h => Exists.elim h fun x6 h => Exists.elim h fun x7 h => k x0 x1 x2 x3 x4 x5 x6 x7 h
theorem in_8_0.{u0, u1, u2, u3, u4, u5, u6, u7} {α0 : Sort u0} {α1 : Sort u1} {α2 : Sort u2} {α3 : Sort u3} {α4 : Sort u4} {α5 : Sort u5} {α6 : Sort u6} {α7 : Sort u7} {A0 : α0 → α1 → α2 → α3 → α4 → α5 → α6 → α7 → Prop} (x0 : α0) (x1 : α1) (x2 : α2) (x3 : α3) (x4 : α4) (x5 : α5) (x6 : α6) (x7 : α7) (a0 : A0 x0 x1 x2 x3 x4 x5 x6 x7) : ∃ x0 x1 x2 x3 x4 x5 x6 x7, A0 x0 x1 x2 x3 x4 x5 x6 x7 := ⟨x0, x1, x2, x3, x4, x5, x6, x7, a0⟩
theorem el_3_6.{u0, u1, u2} {α0 : Sort u0} {α1 : Sort u1} {α2 : Sort u2} {A0 A1 A2 A3 A4 A5 A6 : α0 → α1 → α2 → Prop} {P : Prop} (h : ∃ x0 x1 x2, A0 x0 x1 x2 ∧ A1 x0 x1 x2 ∧ A2 x0 x1 x2 ∧ A3 x0 x1 x2 ∧ A4 x0 x1 x2 ∧ A5 x0 x1 x2 ∧ A6 x0 x1 x2) (k : ∀ x0 x1 x2, A0 x0 x1 x2 → A1 x0 x1 x2 → A2 x0 x1 x2 → A3 x0 x1 x2 → A4 x0 x1 x2 → A5 x0 x1 x2 → A6 x0 x1 x2 → P) : P := Exists.elim h fun x0 h => Exists.elim h fun x1 h => Exists.elim h fun x2 h => k x0 x1 x2 h.1 h.2.1 h.2.2.1 h.2.2.2.1 h.2.2.2.2.1 h.2.2.2.2.2.1 h.2.2.2.2.2.2
theorem in_3_6.{u0, u1, u2} {α0 : Sort u0} {α1 : Sort u1} {α2 : Sort u2} {A0 A1 A2 A3 A4 A5 A6 : α0 → α1 → α2 → Prop} (x0 : α0) (x1 : α1) (x2 : α2) (a0 : A0 x0 x1 x2) (a1 : A1 x0 x1 x2) (a2 : A2 x0 x1 x2) (a3 : A3 x0 x1 x2) (a4 : A4 x0 x1 x2) (a5 : A5 x0 x1 x2) (a6 : A6 x0 x1 x2) : ∃ x0 x1 x2, A0 x0 x1 x2 ∧ A1 x0 x1 x2 ∧ A2 x0 x1 x2 ∧ A3 x0 x1 x2 ∧ A4 x0 x1 x2 ∧ A5 x0 x1 x2 ∧ A6 x0 x1 x2 := ⟨x0, x1, x2, a0, a1, a2, a3, a4, a5, a6⟩
theorem in_6_3.{u0, u1, u2, u3, u4, u5} {α0 : Sort u0} {α1 : Sort u1} {α2 : Sort u2} {α3 : Sort u3} {α4 : Sort u4} {α5 : Sort u5} {A0 A1 A2 A3 : α0 → α1 → α2 → α3 → α4 → α5 → Prop} (x0 : α0) (x1 : α1) (x2 : α2) (x3 : α3) (x4 : α4) (x5 : α5) (a0 : A0 x0 x1 x2 x3 x4 x5) (a1 : A1 x0 x1 x2 x3 x4 x5) (a2 : A2 x0 x1 x2 x3 x4 x5) (a3 : A3 x0 x1 x2 x3 x4 x5) : ∃ x0 x1 x2 x3 x4 x5, A0 x0 x1 x2 x3 x4 x5 ∧ A1 x0 x1 x2 x3 x4 x5 ∧ A2 x0 x1 x2 x3 x4 x5 ∧ A3 x0 x1 x2 x3 x4 x5 := ⟨x0, x1, x2, x3, x4, x5, a0, a1, a2, a3⟩
theorem el_2_8.{u0, u1} {α0 : Sort u0} {α1 : Sort u1} {A0 A1 A2 A3 A4 A5 A6 A7 A8 : α0 → α1 → Prop} {P : Prop} (h : ∃ x0 x1, A0 x0 x1 ∧ A1 x0 x1 ∧ A2 x0 x1 ∧ A3 x0 x1 ∧ A4 x0 x1 ∧ A5 x0 x1 ∧ A6 x0 x1 ∧ A7 x0 x1 ∧ A8 x0 x1) (k : ∀ x0 x1, A0 x0 x1 → A1 x0 x1 → A2 x0 x1 → A3 x0 x1 → A4 x0 x1 → A5 x0 x1 → A6 x0 x1 → A7 x0 x1 → A8 x0 x1 → P) : P := Exists.elim h fun x0 h => Exists.elim h fun x1 h => k x0 x1 h.1 h.2.1 h.2.2.1 h.2.2.2.1 h.2.2.2.2.1 h.2.2.2.2.2.1 h.2.2.2.2.2.2.1 h.2.2.2.2.2.2.2.1 h.2.2.2.2.2.2.2.2
theorem in_2_8.{u0, u1} {α0 : Sort u0} {α1 : Sort u1} {A0 A1 A2 A3 A4 A5 A6 A7 A8 : α0 → α1 → Prop} (x0 : α0) (x1 : α1) (a0 : A0 x0 x1) (a1 : A1 x0 x1) (a2 : A2 x0 x1) (a3 : A3 x0 x1) (a4 : A4 x0 x1) (a5 : A5 x0 x1) (a6 : A6 x0 x1) (a7 : A7 x0 x1) (a8 : A8 x0 x1) : ∃ x0 x1, A0 x0 x1 ∧ A1 x0 x1 ∧ A2 x0 x1 ∧ A3 x0 x1 ∧ A4 x0 x1 ∧ A5 x0 x1 ∧ A6 x0 x1 ∧ A7 x0 x1 ∧ A8 x0 x1 := ⟨x0, x1, a0, a1, a2, a3, a4, a5, a6, a7, a8⟩
theorem el_4_6.{u0, u1, u2, u3} {α0 : Sort u0} {α1 : Sort u1} {α2 : Sort u2} {α3 : Sort u3} {A0 A1 A2 A3 A4 A5 A6 : α0 → α1 → α2 → α3 → Prop} {P : Prop} (h : ∃ x0 x1 x2 x3, A0 x0 x1 x2 x3 ∧ A1 x0 x1 x2 x3 ∧ A2 x0 x1 x2 x3 ∧ A3 x0 x1 x2 x3 ∧ A4 x0 x1 x2 x3 ∧ A5 x0 x1 x2 x3 ∧ A6 x0 x1 x2 x3) (k : ∀ x0 x1 x2 x3, A0 x0 x1 x2 x3 → A1 x0 x1 x2 x3 → A2 x0 x1 x2 x3 → A3 x0 x1 x2 x3 → A4 x0 x1 x2 x3 → A5 x0 x1 x2 x3 → A6 x0 x1 x2 x3 → P) : P := Exists.elim h fun x0 h => Exists.elim h fun x1 h => Exists.elim h fun x2 h => Exists.elim h fun x3 h => k x0 x1 x2 x3 h.1 h.2.1 h.2.2.1 h.2.2.2.1 h.2.2.2.2.1 h.2.2.2.2.2.1 h.2.2.2.2.2.2
theorem in_4_6.{u0, u1, u2, u3} {α0 : Sort u0} {α1 : Sort u1} {α2 : Sort u2} {α3 : Sort u3} {A0 A1 A2 A3 A4 A5 A6 : α0 → α1 → α2 → α3 → Prop} (x0 : α0) (x1 : α1) (x2 : α2) (x3 : α3) (a0 : A0 x0 x1 x2 x3) (a1 : A1 x0 x1 x2 x3) (a2 : A2 x0 x1 x2 x3) (a3 : A3 x0 x1 x2 x3) (a4 : A4 x0 x1 x2 x3) (a5 : A5 x0 x1 x2 x3) (a6 : A6 x0 x1 x2 x3) : ∃ x0 x1 x2 x3, A0 x0 x1 x2 x3 ∧ A1 x0 x1 x2 x3 ∧ A2 x0 x1 x2 x3 ∧ A3 x0 x1 x2 x3 ∧ A4 x0 x1 x2 x3 ∧ A5 x0 x1 x2 x3 ∧ A6 x0 x1 x2 x3 := ⟨x0, x1, x2, x3, a0, a1, a2, a3, a4, a5, a6⟩
theorem el_10_0.{u0, u1, u2, u3, u4, u5, u6, u7, u8, u9} {α0 : Sort u0} {α1 : Sort u1} {α2 : Sort u2} {α3 : Sort u3} {α4 : Sort u4} {α5 : Sort u5} {α6 : Sort u6} {α7 : Sort u7} {α8 : Sort u8} {α9 : Sort u9} {A0 : α0 → α1 → α2 → α3 → α4 → α5 → α6 → α7 → α8 → α9 → Prop} {P : Prop} (h : ∃ x0 x1 x2 x3 x4 x5 x6 x7 x8 x9, A0 x0 x1 x2 x3 x4 x5 x6 x7 x8 x9) (k : ∀ x0 x1 x2 x3 x4 x5 x6 x7 x8 x9, A0 x0 x1 x2 x3 x4 x5 x6 x7 x8 x9 → P) : P := Exists.elim h fun x0 h => Exists.elim h fun x1 h => Exists.elim h fun x2 h => Exists.elim h fun x3 h => Exists.elim h fun x4 h => Exists.elim h fun x5 h => Exists.elim h fun x6 h => Exists.elim h fun x7 h => Exists.elim h fun x8 h => Exists.elim h fun x9 h => k x0 x1 x2 x3 x4 x5 x6 x7 x8 x9 h
theorem in_10_0.{u0, u1, u2, u3, u4, u5, u6, u7, u8, u9} {α0 : Sort u0} {α1 : Sort u1} {α2 : Sort u2} {α3 : Sort u3} {α4 : Sort u4} {α5 : Sort u5} {α6 : Sort u6} {α7 : Sort u7} {α8 : Sort u8} {α9 : Sort u9} {A0 : α0 → α1 → α2 → α3 → α4 → α5 → α6 → α7 → α8 → α9 → Prop} (x0 : α0) (x1 : α1) (x2 : α2) (x3 : α3) (x4 : α4) (x5 : α5) (x6 : α6) (x7 : α7) (x8 : α8) (x9 : α9) (a0 : A0 x0 x1 x2 x3 x4 x5 x6 x7 x8 x9) : ∃ x0 x1 x2 x3 x4 x5 x6 x7 x8 x9, A0 x0 x1 x2 x3 x4 x5 x6 x7 x8 x9 := ⟨x0, x1, x2, x3, x4, x5, x6, x7, x8, x9, a0⟩
theorem in_4_7.{u0, u1, u2, u3} {α0 : Sort u0} {α1 : Sort u1} {α2 : Sort u2} {α3 : Sort u3} {A0 A1 A2 A3 A4 A5 A6 A7 : α0 → α1 → α2 → α3 → Prop} (x0 : α0) (x1 : α1) (x2 : α2) (x3 : α3) (a0 : A0 x0 x1 x2 x3) (a1 : A1 x0 x1 x2 x3) (a2 : A2 x0 x1 x2 x3) (a3 : A3 x0 x1 x2 x3) (a4 : A4 x0 x1 x2 x3) (a5 : A5 x0 x1 x2 x3) (a6 : A6 x0 x1 x2 x3) (a7 : A7 x0 x1 x2 x3) : ∃ x0 x1 x2 x3, A0 x0 x1 x2 x3 ∧ A1 x0 x1 x2 x3 ∧ A2 x0 x1 x2 x3 ∧ A3 x0 x1 x2 x3 ∧ A4 x0 x1 x2 x3 ∧ A5 x0 x1 x2 x3 ∧ A6 x0 x1 x2 x3 ∧ A7 x0 x1 x2 x3 := ⟨x0, x1, x2, x3, a0, a1, a2, a3, a4, a5, a6, a7⟩
theorem in_11_0.{u0, u1, u2, u3, u4, u5, u6, u7, u8, u9, u10} {α0 : Sort u0} {α1 : Sort u1} {α2 : Sort u2} {α3 : Sort u3} {α4 : Sort u4} {α5 : Sort u5} {α6 : Sort u6} {α7 : Sort u7} {α8 : Sort u8} {α9 : Sort u9} {α10 : Sort u10} {A0 : α0 → α1 → α2 → α3 → α4 → α5 → α6 → α7 → α8 → α9 → α10 → Prop} (x0 : α0) (x1 : α1) (x2 : α2) (x3 : α3) (x4 : α4) (x5 : α5) (x6 : α6) (x7 : α7) (x8 : α8) (x9 : α9) (x10 : α10) (a0 : A0 x0 x1 x2 x3 x4 x5 x6 x7 x8 x9 x10) : ∃ x0 x1 x2 x3 x4 x5 x6 x7 x8 x9 x10, A0 x0 x1 x2 x3 x4 x5 x6 x7 x8 x9 x10 := ⟨x0, x1, x2, x3, x4, x5, x6, x7, x8, x9, x10, a0⟩
theorem in_4_8.{u0, u1, u2, u3} {α0 : Sort u0} {α1 : Sort u1} {α2 : Sort u2} {α3 : Sort u3} {A0 A1 A2 A3 A4 A5 A6 A7 A8 : α0 → α1 → α2 → α3 → Prop} (x0 : α0) (x1 : α1) (x2 : α2) (x3 : α3) (a0 : A0 x0 x1 x2 x3) (a1 : A1 x0 x1 x2 x3) (a2 : A2 x0 x1 x2 x3) (a3 : A3 x0 x1 x2 x3) (a4 : A4 x0 x1 x2 x3) (a5 : A5 x0 x1 x2 x3) (a6 : A6 x0 x1 x2 x3) (a7 : A7 x0 x1 x2 x3) (a8 : A8 x0 x1 x2 x3) : ∃ x0 x1 x2 x3, A0 x0 x1 x2 x3 ∧ A1 x0 x1 x2 x3 ∧ A2 x0 x1 x2 x3 ∧ A3 x0 x1 x2 x3 ∧ A4 x0 x1 x2 x3 ∧ A5 x0 x1 x2 x3 ∧ A6 x0 x1 x2 x3 ∧ A7 x0 x1 x2 x3 ∧ A8 x0 x1 x2 x3 := ⟨x0, x1, x2, x3, a0, a1, a2, a3, a4, a5, a6, a7, a8⟩
end Mine
open PySem PySem.W PySem.Calls PyProof.Rows
set_option Elab.async false
set_option linter.all false
set_option maxRecDepth 100000
set_option genSizeOf false
namespace Mine

/-- clean values -/
inductive CV where
  | none | bool (b : Bool) | int (i : Int) | str (s : Str) | tup (vs : List CV) | lst (vs : List CV) | loc (a : Addr) | raw (v : Value)
  | rng (a b : Int) | obj (C : Addr) (as : List (Str × CV))
  deriving Inhabited

/-- clean objects -/
inductive CO where
  | list (vs : List CV) | dict (es : List (Str × CV)) | iset (vs : List Int) | set (vs : List (List Str × Int)) | inst (C d : Addr) | froz (o : Obj)
  deriving Inhabited

noncomputable abbrev IM := Addr → Option Obj
noncomputable abbrev CH := Addr → Option CO

mutual
noncomputable def VR (I : IM) : CV → Value → Prop
  | .none, v => v = .none
  | .bool b, v => v = .bool b
  | .int i, v => ∃ t, v = .int i t
  | .str s, v => ∃ t, v = .str s t
  | .tup vs, v => ∃ a n xs, v = .ref a ∧ I a = some ⟨.type "tuple", .none, .seq xs n, #[]⟩ ∧ VRs I vs xs.toList
  | .lst vs, v => ∃ a n xs, v = .ref a ∧ I a = some ⟨.type "list", .none, .seq xs n, #[]⟩ ∧ VRs I vs xs.toList
  | .loc a, v => v = .ref a
  | .raw u, v => v = u
  | .rng a b, v => ∃ ad t u x, v = .ref ad ∧ I ad = some ⟨.type "range", .none, .fields #[.int a t, .int b u, .int 1 x], #[]⟩
  | .obj C as, v => ∃ ad d ds n, v = .ref ad ∧ I ad = some ⟨.ref C, some d, .plain, #[]⟩ ∧ I d = some ⟨.type "dict", .none, .dict ds n, #[]⟩ ∧ VAs I as ds.toList
noncomputable def VAs (I : IM) : List (Str × CV) → List DictEntry → Prop
  | [], ds => ds = []
  | (k, c) :: as, ds => ∃ d ds', ds = d :: ds' ∧ (∃ t, d.key = .str k t) ∧ VR I c d.val ∧ VAs I as ds'
noncomputable def VRs (I : IM) : List CV → List Value → Prop
  | [], xs => xs = []
  | c :: cs, xs => ∃ x xs', xs = x :: xs' ∧ VR I c x ∧ VRs I cs xs'
end

noncomputable def ILe (I I' : IM) : Prop := ∀ a o, I a = some o → I' a = some o
theorem ILe.refl (I : IM) : ILe I I := fun _ _ e => e
theorem ILe.trans {I J K : IM} (x : ILe I J) (y : ILe J K) : ILe I K := fun a o e => y a o (x a o e)

mutual
theorem VR.mono {I J : IM} (h : ILe I J) : ∀ (c : CV) (v : Value), VR I c v → VR J c v
  | .none, v, x => by simpa [VR] using x
  | .bool b, v, x => by simpa [VR] using x
  | .int i, v, x => by simpa [VR] using x
  | .str s, v, x => by simpa [VR] using x
  | .tup vs, v, x => by
    simp only [VR] at x ⊢
    (refine el_3_2 x fun a n xs e hi hr => ?_; try clear x)
    exact (in_3_2 a n xs e (h _ _ hi) (VRs.mono h vs _ hr))
  | .lst vs, v, x => by
    simp only [VR] at x ⊢
    (refine el_3_2 x fun a n xs e hi hr => ?_; try clear x)
    exact (in_3_2 a n xs e (h _ _ hi) (VRs.mono h vs _ hr))
  | .loc a, v, x => by simpa [VR] using x
  | .raw u, v, x => by simpa [VR] using x
  | .rng a b, v, x => by
    simp only [VR] at x ⊢
    (refine el_4_1 x fun ad t u y e hi => ?_; try clear x)
    exact (in_4_1 ad t u y e (h _ _ hi))
  | .obj C as, v, x => by
    simp only [VR] at x ⊢
    (refine el_4_3 x fun ad d ds n e hi hj hr => ?_; try clear x)
    exact (in_4_3 ad d ds n e (h _ _ hi) (h _ _ hj) (VAs.mono h as _ hr))
theorem VAs.mono {I J : IM} (h : ILe I J) : ∀ (as : List (Str × CV)) (ds : List DictEntry), VAs I as ds → VAs J as ds
  | [], ds, x => by simpa [VAs] using x
  | (k, c) :: as, ds, x => by
    simp only [VAs] at x ⊢
    (refine el_2_3 x fun d ds' e h1 h2 h3 => ?_; try clear x)
    exact (in_2_3 d ds' e h1 (VR.mono h c _ h2) (VAs.mono h as ds' h3))
theorem VRs.mono {I J : IM} (h : ILe I J) : ∀ (cs : List CV) (vs : List Value), VRs I cs vs → VRs J cs vs
  | [], vs, x => by simpa [VRs] using x
  | c :: cs, vs, x => by
    simp only [VRs] at x ⊢
    (refine el_2_2 x fun y ys e h1 h2 => ?_; try clear x)
    exact (in_2_2 y ys e (VR.mono h c y h1) (VRs.mono h cs ys h2))
end

theorem VRs.nil {I : IM} : VRs I [] [] := by simp [VRs]
theorem VRs.cons {I : IM} {c : CV} {cs : List CV} {v : Value} {vs : List Value} (h : VR I c v) (hs : VRs I cs vs) : VRs I (c :: cs) (v :: vs) := by
  simp only [VRs]; exact (in_2_2 v vs rfl h hs)
theorem VRs.length {I : IM} : ∀ {cs : List CV} {vs : List Value}, VRs I cs vs → cs.length = vs.length
  | [], vs, x => by simp [VRs] at x; subst x; rfl
  | c :: cs, vs, x => by
    simp only [VRs] at x
    (refine el_2_1 x fun y ys xEl2 rEl => ?_; try clear x; obtain rfl := xEl2; (refine el_0_1 rEl fun _ h2 => ?_; try clear rEl))
    simp [h2.length]
theorem VRs.get {I : IM} : ∀ {cs : List CV} {vs : List Value} {i : Nat} {c : CV}, VRs I cs vs → cs[i]? = some c → ∃ v, vs[i]? = some v ∧ VR I c v
  | [], vs, i, c, x, h => by simp at h
  | d :: cs, vs, i, c, x, h => by
    simp only [VRs] at x
    (refine el_2_1 x fun y ys xEl2 rEl => ?_; try clear x; obtain rfl := xEl2; (refine el_0_1 rEl fun h1 h2 => ?_; try clear rEl))
    cases i with
    | zero => simp at h; subst h; exact (in_1_1 y (by rfl) h1)
    | succ i => simpa using h2.get (by simpa using h)
theorem VRs.append {I : IM} : ∀ {cs : List CV} {vs : List Value} {cs' : List CV} {vs' : List Value}, VRs I cs vs → VRs I cs' vs' → VRs I (cs ++ cs') (vs ++ vs')
  | [], vs, cs', vs', x, y => by simp [VRs] at x; subst x; simpa using y
  | c :: cs, vs, cs', vs', x, y => by
    simp only [VRs] at x
    (refine el_2_1 x fun u ys xEl2 rEl => ?_; try clear x; obtain rfl := xEl2; (refine el_0_1 rEl fun h1 h2 => ?_; try clear rEl))
    exact .cons h1 (h2.append y)
theorem VRs.split {I : IM} : ∀ {cs : List CV} {vs : List Value} (n : Nat), VRs I cs vs → VRs I (cs.take n) (vs.take n) ∧ VRs I (cs.drop n) (vs.drop n)
  | cs, vs, 0, x => by simpa [VRs] using x
  | [], vs, n + 1, x => by simp [VRs] at x; subst x; simp [VRs]
  | c :: cs, vs, n + 1, x => by
    simp only [VRs] at x
    (refine el_2_1 x fun u ys xEl2 rEl => ?_; try clear x; obtain rfl := xEl2; (refine el_0_1 rEl fun h1 h2 => ?_; try clear rEl))
    (refine el_0_1 (h2.split n) fun a b => ?_)
    exact ⟨.cons h1 a, b⟩
theorem VRs.take {I : IM} {cs : List CV} {vs : List Value} (n : Nat) (x : VRs I cs vs) : VRs I (cs.take n) (vs.take n) := (x.split n).1
theorem VRs.drop {I : IM} {cs : List CV} {vs : List Value} (n : Nat) (x : VRs I cs vs) : VRs I (cs.drop n) (vs.drop n) := (x.split n).2
theorem VRs.uncons {I : IM} {c : CV} {cs : List CV} {vs : List Value} (x : VRs I (c :: cs) vs) : ∃ y ys, vs = y :: ys ∧ VR I c y ∧ VRs I cs ys := by
  simpa only [VRs] using x
theorem VRs.nil_iff {I : IM} {vs : List Value} (x : VRs I [] vs) : vs = [] := by simpa only [VRs] using x
theorem VRs.set {I : IM} : ∀ {cs : List CV} {vs : List Value} {c : CV} {v : Value} (i : Nat), VRs I cs vs → VR I c v → VRs I (cs.set i c) (vs.set i v)
  | [], vs, c, v, i, x, h => by have := x.nil_iff; subst this; simpa using VRs.nil
  | d :: cs, vs, c, v, i, x, h => by
    (refine el_2_1 x.uncons fun y ys xEl2 rEl => ?_; obtain rfl := xEl2; (refine el_0_1 rEl fun h1 h2 => ?_; try clear rEl))
    cases i with
    | zero => exact .cons h h2
    | succ i => exact .cons h1 (h2.set i h)
end Mine
open PySem PySem.W PySem.Calls PyProof.Rows
set_option Elab.async false
set_option linter.all false
set_option maxRecDepth 100000
set_option genSizeOf false
namespace Mine

/-- entries of a dict with str keys -/
noncomputable def ERs (w : World) (I : IM) : List (Str × CV) → List DictEntry → Prop
  | [], ds => ds = []
  | (k, v) :: es, ds => ∃ d ds', ds = d :: ds' ∧ d.hash = hashStr w k ∧ (∃ t, d.key = .str k t) ∧ VR I v d.val ∧ ERs w I es ds'

theorem ERs.mono {w : World} {I J : IM} (h : ILe I J) : ∀ (es : List (Str × CV)) (ds : List DictEntry), ERs w I es ds → ERs w J es ds
  | [], ds, x => by simpa [ERs] using x
  | (k, v) :: es, ds, x => by
    simp only [ERs] at x ⊢
    (refine el_2_4 x fun d ds' e h1 h2 h3 h4 => ?_; try clear x)
    exact (in_2_4 d ds' e h1 h2 (VR.mono h _ _ h3) (ERs.mono h es ds' h4))
theorem ERs.length {w : World} {I : IM} : ∀ {es : List (Str × CV)} {ds : List DictEntry}, ERs w I es ds → es.length = ds.length
  | [], ds, x => by simp [ERs] at x; subst x; rfl
  | (k, v) :: es, ds, x => by
    simp only [ERs] at x
    (refine el_2_1 x fun d ds' xEl2 rEl => ?_; try clear x; obtain rfl := xEl2; (refine el_0_3 rEl fun h1 h2 h3 h4 => ?_; try clear rEl))
    simp [h4.length]

/-- a set of ints, by its members -/
noncomputable def ISet (prog : Program) (w : World) (vs : List Int) (o : Obj) : Prop :=
  ∃ es ep t, o.ExactSet ∧ o.data = .set es ep t ∧ ElemsOf (intKind prog w) es.toList ∧ (∀ k, decide (k ∈ vs) = true ↔ ∃ e ∈ es.toList, (intKind prog w).is k e.2 = true)
    ∧ es.size < scanBound ∧ t.fits es.size = true ∧ es.size = vs.length

/-- strictly rising -/
noncomputable def Rise (xs : Array Nat) : Prop := ∀ i j, i < j → j < xs.size → xs.getD i 0 < xs.getD j 0
/-- the table of a set is well built: the places rise, lie within the mask, no dummies, there is room -/
structure TOk (t : SetTable) (n : Nat) : Prop where
  size : t.place.size = n
  dum : t.dummies = #[]
  rise : Rise t.place
  le : ∀ i, i < t.place.size → t.place.getD i 0 ≤ t.mask
  pow : ∃ m, t.mask + 1 = 2 ^ m
  room : n * 5 < t.mask * 3
  top : t.mask ≤ 8 * n + 7

/-- a pair of a way and a number, as a clean value -/
noncomputable def pcv (p : List Str × Int) : CV := .tup [.tup (p.1.map .str), .int p.2]

noncomputable def pok (p : List Str × Int) : Bool := !p.1.isEmpty && p.1.all PyData.strOk
/-- a set of pairs: what it holds (as often as you like, in any order) -/
noncomputable def PSet (w : World) (I : IM) (vs : List (List Str × Int)) (o : Obj) : Prop :=
  ∃ (es : Array (Int × Value)) (ep : Nat) (t : SetTable) (us : List (List Str × Int)), o.ExactSet ∧ o.data = .set es ep t ∧ (∀ v, v ∈ us ↔ v ∈ vs) ∧ (∀ v, v ∈ vs → pok v = true) ∧ us.length ≤ vs.length ∧ VRs I (us.map pcv) (es.toList.map (·.2)) ∧ TOk t es.size ∧ (0 < es.size → t.plain = false) ∧ (w.params.followText "set-order" = false → t.led = true)
theorem PSet.mono {w : World} {I J : IM} (h : ILe I J) (vs : List (List Str × Int)) (o : Obj) : PSet w I vs o → PSet w J vs o := by
  intro hEl
  (refine el_4_6 hEl fun es ep t us a b c c' d e f => ?_; try clear hEl)
  exact (in_4_6 es ep t us a b c c' d (VRs.mono h _ _ e) f)

noncomputable def OR (prog : Program) (w : World) (I : IM) : CO → Obj → Prop
  | .iset vs, o => ISet prog w vs o
  | .list vs, o => ∃ n xs, o = ⟨.type "list", .none, .seq xs n, #[]⟩ ∧ VRs I vs xs.toList
  | .dict es, o => ∃ n ds, o = ⟨.type "dict", .none, .dict ds n, #[]⟩ ∧ ERs w I es ds.toList
  | .set vs, o => PSet w I vs o
  | .inst C d, o => o = instObj C d
  | .froz o', o => o = o' ∧ ∃ es ep t, o'.data = .set es ep t

theorem OR.mono {prog : Program} {w : World} {I J : IM} (h : ILe I J) : ∀ (c : CO) (o : Obj), OR prog w I c o → OR prog w J c o
  | .iset vs, o, x => x
  | .list vs, o, ⟨n, xs, e, r⟩ => (in_2_1 n xs e (VRs.mono h _ _ r))
  | .dict es, o, ⟨n, ds, e, r⟩ => (in_2_1 n ds e (ERs.mono h _ _ r))
  | .set vs, o, x => PSet.mono h vs o x
  | .inst C d, o, x => x
  | .froz o', o, x => x
end Mine
open PySem PySem.W PySem.Calls PyProof.Rows
set_option Elab.async false
set_option linter.all false
set_option maxRecDepth 100000
set_option genSizeOf false
namespace Mine

set_option genInjectivity false in
/-- what stands still through an activation -/
structure Cx where
  prog : Program
  w : World
  A : Around
  env : Env
  base : Heap
  outer : List Env
  K : Frag
  mg : Str → Option Value
  mb : Str → Option Value
  KF : IM
  s0 : Shared

/-- a clean state: the names of the frame, the objects that may be turned -/
structure CSt where
  lo : Str → Option CV
  H : CH

set_option genInjectivity false in
/-- an exception in flight -/
structure CX where
  cls : Value
  args : List CV

noncomputable def Cx.Own (C : Cx) (a : Addr) : Prop := a = C.env.locals ∨ ∃ x, C.env.kindOf x = some .cell ∧ C.env.cells.lookup x = some a

/-- the names -/
structure LR (C : Cx) (I : IM) (lo : Str → Option CV) (h : Heap) : Prop where
  ns : ∃ m, h.Ns C.env.locals m ∧ ∀ x v, lo x = some v → C.env.kindOf x = some .local → ∃ u, m x = some u ∧ VR I v u
  cell : ∀ x v, lo x = some v → C.env.kindOf x = some .cell → ∃ c u, C.env.cells.lookup x = some c ∧ h.IsCell c (some u) ∧ VR I v u
  free : ∀ x v, lo x = some v → C.env.kindOf x = some .free → ∃ c o u, C.env.cells.lookup x = some c ∧ C.KF c = some o ∧ o.data = .cell (some u) ∧ VR I v u
  cells : ∀ x, C.env.kindOf x = some .cell → ∃ c v₀, C.env.cells.lookup x = some c ∧ h.IsCell c v₀

structure SR (C : Cx) (KF I : IM) (st : CSt) (s : Shared) : Prop where
  kle : ILe C.KF KF
  low : (∃ b o, sysModules < b ∧ C.base.get? b = some o) ∧ ∀ a c, st.H a = some c → sysModules < a
  same : ∃ h tk dr, s = { C.s0 with heap := h, toks := tk, drawn := dr }
  base : ∀ b o, C.base.get? b = some o → I b = some o
  imm : ∀ a o, I a = some o → s.heap.get? a = some o
  frs : ∀ a o, KF a = some o → I a = none ∧ s.heap.get? a = some o
  own : ∀ a, C.Own a → I a = none ∧ KF a = none ∧ st.H a = none
  mu : ∀ a c, st.H a = some c → I a = none ∧ KF a = none ∧ ∃ o, s.heap.get? a = some o ∧ OR C.prog C.w I c o
  loc : LR C I st.lo s.heap

/-- what is static about a context and holds of it -/
structure Cx.Ok (C : Cx) (dep : Nat) : Prop where
  fun_ : C.env.scope.kind = .function
  gl : C.env.globals = mainGlobals
  bl : C.env.builtins = builtinsNs
  K : C.K.In C.base
  g : C.base.Ns mainGlobals C.mg
  b : C.base.Ns builtinsNs C.mb
  nolimit : C.base.NoLimit
  boot : ∀ x : Str, x ≠ "__name__" → C.mb x = bootBuiltins x
  hd : C.A.handled = none
  units : C.A.units + 10 * dep + 200 < cLine
  depth : C.A.depth + 3 * dep + 20 < recursionLimit
  /-- names that are cells of the frame are apart -/
  cellInj : ∀ x y c, C.env.kindOf x = some .cell → C.env.kindOf y = some .cell → C.env.cells.lookup x = some c → C.env.cells.lookup y = some c → x = y
  cellNe : ∀ x, C.env.kindOf x = some .cell → C.env.cells.lookup x ≠ some C.env.locals
  lbase : C.base.get? C.env.locals = none

/-- an end without an exception -/
inductive OkP (C : Cx) (KF I : IM) (s' : Shared) (Q : IM → CSt → Prop) : Prop
  | mk (J : IM) (st' : CSt) (l : ILe I J) (S : SR C KF J st' s') (q : Q J st')
/-- an end with one -/
noncomputable abbrev ErP (C : Cx) (KF I : IM) (n : Bool) (e : Value) (s' : Shared) : Prop := False
/-- a value of the model by way of a clean one -/
inductive ValP (J : IM) (v : Value) (Q : CV → CSt → Prop) (st' : CSt) : Prop
  | mk (b : CV) (r : VR J b v) (q : Q b st')

theorem OkP.use {C : Cx} {KF I : IM} {s' : Shared} {Q : IM → CSt → Prop} {P : Prop} (h : OkP C KF I s' Q) (k : ∀ (J : IM) (st' : CSt), ILe I J → SR C KF J st' s' → Q J st' → P) : P := by cases h; exact k _ _ ‹_› ‹_› ‹_›
theorem ValP.use {J : IM} {v : Value} {Q : CV → CSt → Prop} {st' : CSt} {P : Prop} (h : ValP J v Q st') (k : ∀ b : CV, VR J b v → Q b st' → P) : P := by cases h; exact k _ ‹_› ‹_›
/-- the logic: a tree, from a clean state -/
noncomputable def WL (C : Cx) {α : Type} (t : Sem α) (I : IM) (st : CSt) (Q : IM → α → CSt → Prop) : Prop :=
  ∀ KF s, SR C KF I st s → wpAny (model C.prog C.w) C.A t (fun a s' => OkP C KF I s' fun I' st' => Q I' a st')
    (fun e s' => ErP C KF I false e s') s

section
variable {C : Cx} {α β : Type} {KF I : IM} {st : CSt} {s : Shared}

theorem WL.pure {a : α} {Q : IM → α → CSt → Prop} (h : Q I a st) : WL C (Pure.pure a : Sem α) I st Q := fun KF s S => wpAny_pure ⟨I, st, .refl I, S, h⟩

theorem WL.mono {t : Sem α} {Q Q' : IM → α → CSt → Prop} (h : WL C t I st Q) (hQ : ∀ J a st', ILe I J → Q J a st' → Q' J a st') : WL C t I st Q' :=
  fun KF s S => wpAny_mono (h KF s S) (fun a s' hh => hh.use fun J st' l S' q => ⟨J, st', l, S', hQ J a st' l q⟩) fun e s' hF => hF.elim

theorem WL.bind {m : Sem α} {f : α → Sem β} {Q : IM → β → CSt → Prop} (h : WL C m I st (fun J a st' => WL C (f a) J st' Q)) : WL C (m >>= f) I st Q := fun KF s S => by
  refine wpAny_bind (wpAny_mono (h KF s S) (fun a s' hh => hh.use fun J st' l S' q => ?_) fun e s' h' => h')
  exact wpAny_mono (q KF s' S') (fun b s'' hh => hh.use fun J' st'' l' S'' q' => ⟨J', st'', l.trans l', S'', q'⟩) fun e s'' hF => hF.elim

theorem WL.standAt {pos : Pos} {Q : IM → Unit → CSt → Prop} (h : Q I () st) : WL C (standAt pos) I st Q := fun KF s S => wpAny_standAt ⟨I, st, .refl I, S, h⟩
theorem WL.rule {tag : String} {Q : IM → Unit → CSt → Prop} (h : Q I () st) : WL C (rule tag) I st Q := fun KF s S => wpAny_rule ⟨I, st, .refl I, S, h⟩
theorem WL.point {Q : IM → Unit → CSt → Prop} (h : Q I () st) : WL C point I st Q := fun KF s S => wpAny_point ⟨I, st, .refl I, S, h⟩
theorem WL.holding {vs : List Value} {m : Sem α} {Q : IM → α → CSt → Prop} (h : WL C m I st Q) : WL C (holding vs m) I st Q := fun KF s S => wpAny_holding (h KF s S)
theorem WL.operate {vs : List Value} {m : Sem Value} {Q : IM → Value → CSt → Prop} (h : WL C m I st Q) : WL C (operate vs m) I st Q := fun KF s S => wpAny_operateT (h KF s S)

theorem notHeld {a b : Addr} (hb : I a ≠ none ∨ KF a ≠ none ∨ st.H a ≠ none ∨ C.Own a) (q : a = b) (n1 : I b = none) (n2 : KF b = none) (n3 : st.H b = none) (n4 : ¬ C.Own b) : False := by
  rw [q] at hb
  rcases hb with hb | hb | hb | hb
  · exact hb n1
  · exact hb n2
  · exact hb n3
  · exact n4 hb
/-- a state that differs where nothing is known -/
theorem SR.heap (S : SR C KF I st s) {h' : Heap} {tk : Nat} (k : ∀ a o, s.heap.get? a = some o → (I a ≠ none ∨ KF a ≠ none ∨ st.H a ≠ none ∨ C.Own a) → h'.get? a = some o) : SR C KF I st { s with heap := h', toks := tk } := by
  refine ⟨S.kle, S.low, ?_, S.base, fun a o e => k a o (S.imm a o e) (.inl (by rw [e]; simp)), fun a o e => ?_, S.own, fun a c e => ?_, ?_⟩
  · (refine el_3_0 S.same fun h t d e => ?_); exact (in_3_0 h' tk d (by rw [e]))
  · (refine el_0_1 (S.frs a o e) fun h1 h2 => ?_); exact ⟨h1, k a _ h2 (.inr (.inl (by rw [e]; simp)))⟩
  · (refine el_0_2 (S.mu a c e) fun h1 h2 rEl => ?_; (refine el_1_1 rEl fun o h3 h4 => ?_; try clear rEl)); exact (in_0_2 h1 h2 (in_1_1 o (k a o h3 (.inr (.inr (.inl (by rw [e]; simp))))) h4))
  · obtain ⟨⟨m, ⟨oL, es, ep, hL, hr⟩, h1⟩, h2, h3, h4⟩ := S.loc
    have kc : ∀ x c v, C.env.kindOf x = some .cell → C.env.cells.lookup x = some c → s.heap.IsCell c v → h'.IsCell c v := fun x c v hx hl ⟨o, ho, hd⟩ => (in_1_1 o (k c o ho (.inr (.inr (.inr (.inr (in_1_1 x hx hl)))))) hd)
    refine ⟨(in_1_1 m (in_3_1 oL es ep (k _ _ hL (.inr (.inr (.inr (.inl rfl))))) hr) h1), fun x v e hk => ?_, h3, fun x hx => ?_⟩
    · (refine el_2_2 (h2 x v e hk) fun c u a1 a2 a3 => ?_); exact (in_2_2 c u a1 (kc x c _ hk a1 a2) a3)
    · (refine el_2_1 (h4 x hx) fun c v0 a1 a2 => ?_); exact (in_2_1 c v0 a1 (kc x c _ hx a1 a2))
theorem SR.toks (S : SR C KF I st s) (tk : Nat) : SR C KF I st { s with toks := tk } := S.heap fun a o e _ => e
theorem SR.keeps (S : SR C KF I st s) {h' : Heap} {tk : Nat} (k : ∀ a o, s.heap.get? a = some o → h'.get? a = some o) : SR C KF I st { s with heap := h', toks := tk } := S.heap fun a o e _ => k a o e
theorem SR.draw (S : SR C KF I st s) (d : Drawn) : SR C KF I st { s with drawn := d } := by
  (refine el_3_0 S.same fun h t d0 e => ?_)
  exact ⟨S.kle, S.low, (in_3_0 h t d (by rw [e])), S.base, S.imm, S.frs, S.own, S.mu, S.loc⟩
theorem SR.push (S : SR C KF I st s) (o : Obj) : SR C KF I st { s with heap := s.heap.push o } := S.keeps (tk := s.toks) fun a o' e => Heap.get?_push_of_some o e

/-- an object of which nothing is known -/
theorem SR.fresh (S : SR C KF I st s) {a : Addr} (h : s.heap.get? a = none) : I a = none ∧ KF a = none ∧ st.H a = none ∧ ¬ C.Own a := by
  refine (in_0_3 ?_ ?_ ?_ ?_)
  · cases e : I a with
    | none => rfl
    | some o => rw [S.imm a o e] at h; cases h
  · cases e : KF a with
    | none => rfl
    | some o => (refine el_0_1 (S.frs a o e) fun _ h2 => ?_); rw [h2] at h; cases h
  · cases e : st.H a with
    | none => rfl
    | some c => (refine el_0_2 (S.mu a c e) fun _ _ rEl => ?_; (refine el_1_1 rEl fun o h3 _ => ?_; try clear rEl)); rw [h3] at h; cases h
  · rintro (rfl | ⟨x, hx, hl⟩)
    · (refine el_1_1 S.loc.ns fun m xEl1 _ => ?_; (refine el_3_1 xEl1 fun oL es ep hL hr => ?_; try clear xEl1)); rw [hL] at h; cases h
    · (refine el_2_1 (S.loc.cells x hx) fun c v0 a1 xEl3 => ?_; (refine el_1_1 xEl3 fun o ho _ => ?_; try clear xEl3))
      rw [hl] at a1; cases a1; rw [ho] at h; cases h
theorem heap_size (h : Heap) : h.get? h.objs.size = none := by
  cases e : h.get? h.objs.size with
  | none => rfl
  | some o => exact absurd (Heap.lt_size e) (Nat.lt_irrefl _)
theorem SR.fresh' (S : SR C KF I st s) : I s.heap.objs.size = none ∧ KF s.heap.objs.size = none ∧ st.H s.heap.objs.size = none ∧ ¬ C.Own s.heap.objs.size := S.fresh (heap_size _)

noncomputable def iput (I : IM) (a : Addr) (o : Obj) : IM := fun b => if b = a then some o else I b
noncomputable def hput (H : CH) (a : Addr) (c : CO) : CH := fun b => if b = a then some c else H b
noncomputable def hdel (H : CH) (a : Addr) : CH := fun b => if b = a then none else H b
theorem iput_le {a : Addr} {o : Obj} (h : I a = none) : ILe I (iput I a o) := fun b o' e => by
  unfold iput; split
  · rename_i q; rw [q, h] at e; cases e
  · exact e
@[simp] theorem iput_self {a : Addr} {o : Obj} : iput I a o a = some o := by simp [iput]
@[simp] theorem hput_self {H : CH} {a : Addr} {c : CO} : hput H a c a = some c := by simp [hput]
theorem hput_ne {H : CH} {a b : Addr} {c : CO} (h : b ≠ a) : hput H a c b = H b := by simp [hput, h]
theorem hdel_ne {H : CH} {a b : Addr} (h : b ≠ a) : hdel H a b = H b := by simp [hdel, h]

theorem LR.mono {J : IM} {lo : Str → Option CV} {h : Heap} (L : LR C I lo h) (l : ILe I J) : LR C J lo h := by
  obtain ⟨⟨m, hn, h1⟩, h2, h3, h4⟩ := L
  refine ⟨(in_1_1 m hn (fun x v e hk => ?_)), fun x v e hk => ?_, fun x v e hk => ?_, h4⟩
  · (refine el_1_1 (h1 x v e hk) fun u a1 a2 => ?_); exact (in_1_1 u a1 (a2.mono l))
  · (refine el_2_2 (h2 x v e hk) fun c u a1 a2 a3 => ?_); exact (in_2_2 c u a1 a2 (a3.mono l))
  · (refine el_3_3 (h3 x v e hk) fun c o u a1 a2 a3 a4 => ?_); exact (in_3_3 c o u a1 a2 a3 (a4.mono l))

/-- a new object that is never turned -/
theorem SR.addI (S : SR C KF I st s) {a : Addr} {o : Obj} (ho : s.heap.get? a = some o) (h1 : I a = none) (h2 : KF a = none) (h3 : st.H a = none) (h4 : ¬ C.Own a) : SR C KF (iput I a o) st s := by
  have l : ILe I (iput I a o) := iput_le h1
  refine ⟨S.kle, S.low, S.same, fun b o' e => l _ _ (S.base b o' e), fun b o' e => ?_, fun b o' e => ?_, fun b hb => ?_, fun b c e => ?_, S.loc.mono l⟩
  · unfold iput at e; split at e
    · rename_i q; subst q; cases e; exact ho
    · exact S.imm b o' e
  · (refine el_0_1 (S.frs b o' e) fun a1 a2 => ?_)
    refine ⟨?_, a2⟩
    unfold iput; split
    · rename_i q; subst q; rw [h2] at e; cases e
    · exact a1
  · (refine el_0_2 (S.own b hb) fun a1 a2 a3 => ?_)
    refine (in_0_2 ?_ a2 a3)
    unfold iput; split
    · rename_i q; subst q; exact absurd hb h4
    · exact a1
  · (refine el_0_2 (S.mu b c e) fun a1 a2 rEl => ?_; (refine el_1_1 rEl fun o' a3 a4 => ?_; try clear rEl))
    refine (in_0_2 ?_ a2 (in_1_1 o' a3 (OR.mono l _ _ a4)))
    unfold iput; split
    · rename_i q; subst q; rw [h3] at e; cases e
    · exact a1
theorem SR.big (S : SR C KF I st s) : sysModules < s.heap.objs.size := let ⟨_, o, h1, h2⟩ := S.low.1; Nat.lt_trans h1 (Heap.lt_size (S.imm _ o (S.base _ o h2)))
theorem SR.addH (S : SR C KF I st s) {a : Addr} {o : Obj} {c : CO} (hlow : sysModules < a) (ho : s.heap.get? a = some o) (h1 : I a = none) (h2 : KF a = none) (h4 : ¬ C.Own a) (hr : OR C.prog C.w I c o) : SR C KF I { st with H := hput st.H a c } s := by
  refine ⟨S.kle, ⟨S.low.1, fun b c' e => ?_⟩, S.same, S.base, S.imm, S.frs, fun b hb => ?_, fun b c' e => ?_, S.loc⟩
  · change hput st.H a c b = some c' at e
    unfold hput at e; split at e
    · rename_i q; subst q; exact hlow
    · exact S.low.2 b c' e
  · (refine el_0_2 (S.own b hb) fun a1 a2 a3 => ?_)
    refine (in_0_2 a1 a2 ?_)
    show hput st.H a c b = none
    unfold hput; split
    · rename_i q; subst q; exact absurd hb h4
    · exact a3
  · change hput st.H a c b = some c' at e
    unfold hput at e; split at e
    · rename_i q; subst q; cases e; exact (in_0_2 h1 h2 (in_1_1 o ho hr))
    · exact S.mu b c' e
theorem SR.delH (S : SR C KF I st s) (a : Addr) : SR C KF I { st with H := hdel st.H a } s := by
  refine ⟨S.kle, ⟨S.low.1, fun b c' e => ?_⟩, S.same, S.base, S.imm, S.frs, fun b hb => ?_, fun b c' e => ?_, S.loc⟩
  · change hdel st.H a b = some c' at e
    unfold hdel at e; split at e
    · cases e
    · exact S.low.2 b c' e
  · (refine el_0_2 (S.own b hb) fun a1 a2 a3 => ?_)
    refine (in_0_2 a1 a2 ?_)
    show hdel st.H a b = none
    unfold hdel; split
    · rfl
    · exact a3
  · change hdel st.H a b = some c' at e
    unfold hdel at e; split at e
    · cases e
    · exact S.mu b c' e
theorem SR.iterIn {D : Addr} {o : Obj} (S : SR C (iput KF D o) J st s) : J D = none ∧ st.H D = none ∧ ¬ C.Own D := by
  refine (in_0_2 ((S.frs D o (by simp)).1) ?_ (fun hb => by have := (S.own D hb).2.1; simp at this))
  cases e : st.H D with
  | none => rfl
  | some c => have := (S.mu D c e).2.1; simp at this
/-- an object of the clean heap is turned -/
theorem SR.setH (S : SR C KF I st s) {a : Addr} {c₀ c : CO} {o : Obj} {h' : Heap} {tk : Nat} (hc : st.H a = some c₀) (hs : ∀ b o, b ≠ a → s.heap.get? b = some o → h'.get? b = some o) (ho : h'.get? a = some o) (hr : OR C.prog C.w I c o) :
    SR C KF I { st with H := hput st.H a c } { s with heap := h', toks := tk } := by
  have S' := (S.delH a).heap (h' := h') (tk := tk) fun b o' e hb => hs b o' (fun q => by
    subst q
    (refine el_0_2 (S.mu b c₀ hc) fun a1 a2 _ => ?_)
    rcases hb with hb | hb | hb | hb
    · exact hb a1
    · exact hb a2
    · exact hb (by show hdel st.H b b = none; simp [hdel])
    · have := (S.own b hb).2.2; rw [hc] at this; cases this) e
  (refine el_0_2 (S.mu a c₀ hc) fun a1 a2 _ => ?_)
  have := S'.addH (a := a) (c := c) (S.low.2 a c₀ hc) ho a1 a2 (fun hb => by have := (S.own a hb).2.2; rw [hc] at this; cases this) hr
  have e : hput (hdel st.H a) a c = hput st.H a c := by
    funext b; unfold hput hdel; split <;> simp_all
  rw [← e]; exact this

/-- a list that is turned no more -/
theorem SR.freeze (S : SR C KF I st s) {a : Addr} {vs : List CV} (hc : st.H a = some (.list vs)) : ∃ J, ILe I J ∧ SR C KF J { st with H := hdel st.H a } s ∧ VR J (.lst vs) (.ref a) := by
  (refine el_0_2 (S.mu a _ hc) fun a1 a2 rEl => ?_; (refine el_1_1 rEl fun o a3 sEl => ?_; try clear rEl; obtain ⟨n, xs, rfl, a5⟩ := sEl))
  refine (in_1_2 (iput I a _) (iput_le a1) ((S.delH a).addI a3 a1 a2 (by show hdel st.H a a = none; simp [hdel]) (fun hb => by have := (S.own a hb).2.2; rw [hc] at this; cases this)) ?_)
  simp only [VR]
  exact (in_3_2 a n xs rfl (by simp) (VRs.mono (iput_le a1) _ _ a5))
end
end Mine
open PySem PySem.W PySem.Calls PyProof.Rows
set_option Elab.async false
set_option linter.all false
set_option maxRecDepth 100000
set_option genSizeOf false
namespace Mine

noncomputable abbrev XP := CX → CSt → Prop

noncomputable def WE (C : Cx) (e : Expr) (st : CSt) (Q : CV → CSt → Prop) : Prop := ∀ I, WL C (eval e C.env) I st (fun J v st' => ValP J v Q st')
/-- a list of expressions, one behind the other -/
noncomputable def WEs (C : Cx) : List Expr → CSt → (List CV → CSt → Prop) → Prop
  | [], st, Q => Q [] st
  | e :: es, st, Q => WE C e st (fun a st1 => WEs C es st1 (fun as st2 => Q (a :: as) st2))
noncomputable def WT (C : Cx) (e : Expr) (st : CSt) (Q : Bool → CSt → Prop) : Prop := ∀ I, WL C (isTrue e C.env (eval e C.env)) I st (fun _ b st' => Q b st')
noncomputable def W1 (C : Cx) (f : Value → Sem Value) (a : CV) (st : CSt) (Q : CV → CSt → Prop) : Prop :=
  ∀ I v, VR I a v → WL C (f v) I st (fun J r st' => ValP J r Q st')
noncomputable def W2 (C : Cx) (f : Value → Value → Sem Value) (a b : CV) (st : CSt) (Q : CV → CSt → Prop) : Prop :=
  ∀ I v u, VR I a v → VR I b u → WL C (f v u) I st (fun J r st' => ValP J r Q st')
/-- truth of a value -/
noncomputable def Wtr (C : Cx) (a : CV) (st : CSt) (Q : Bool → CSt → Prop) : Prop :=
  ∀ I v, VR I a v → WL C (truthy v) I st (fun _ b st' => Q b st')
/-- a value is laid somewhere -/
noncomputable def WA (C : Cx) (f : Value → Sem Unit) (a : CV) (st : CSt) (Q : CSt → Prop) : Prop :=
  ∀ I v, VR I a v → WL C (f v) I st (fun _ _ st' => Q st')

inductive CF where
  | next | brk | cont | ret (v : CV)
noncomputable def FR (I : IM) : CF → Flow → Prop
  | .next, f => f = .next
  | .brk, f => f = .brk
  | .cont, f => f = .cont
  | .ret c, f => ∃ v, f = .ret v ∧ VR I c v
/-- a flow of the model by way of a clean one -/
inductive FlP (J : IM) (f : Flow) (Q : CF → CSt → Prop) (st' : CSt) : Prop
  | mk (b : CF) (r : FR J b f) (q : Q b st')
theorem FlP.use {J : IM} {f : Flow} {Q : CF → CSt → Prop} {st' : CSt} {P : Prop} (h : FlP J f Q st') (k : ∀ b : CF, FR J b f → Q b st' → P) : P := by cases h; exact k _ ‹_› ‹_›
noncomputable def WS (C : Cx) (s : Stmt) (st : CSt) (Q : CF → CSt → Prop) : Prop := ∀ I, WL C (exec s C.env) I st (fun J f st' => FlP J f Q st')
noncomputable def WSs (C : Cx) (ss : List Stmt) (st : CSt) (Q : CF → CSt → Prop) : Prop := ∀ I, WL C (execs ss C.env) I st (fun J f st' => FlP J f Q st')

section
variable {C : Cx} {dep : Nat} {st : CSt} {Q : CV → CSt → Prop}


theorem WE.mono {e : Expr} {Q' : CV → CSt → Prop} (h : WE C e st Q) (hQ : ∀ b st', Q b st' → Q' b st') : WE C e st Q' :=
  fun I => (h I).mono (fun J a st' _ hh => hh.use fun b r q => ⟨b, r, hQ b st' q⟩)
theorem WS.mono {e : Stmt} {Q Q' : CF → CSt → Prop} (h : WS C e st Q) (hQ : ∀ b st', Q b st' → Q' b st') : WS C e st Q' :=
  fun I => (h I).mono (fun J a st' _ hh => hh.use fun b r q => ⟨b, r, hQ b st' q⟩)
theorem WE.int {i : Int} {k pos} (h : Q (.int i) st) : WE C (.Constant (.int i) k pos) st Q := fun I KF s S => wpAny_Constant_int ⟨I, st, .refl I, S.toks _, .int i, by simp [VR], h⟩
theorem WE.str {x : Str} {k pos} (h : Q (.str x) st) : WE C (.Constant (.str x) k pos) st Q := fun I KF s S => wpAny_Constant_str ⟨I, st, .refl I, S.toks _, .str x, by simp [VR], h⟩
theorem WE.bool {b : Bool} {k pos} (h : Q (.bool b) st) : WE C (.Constant (.bool b) k pos) st Q := fun I KF s S => wpAny_Constant_bool ⟨I, st, .refl I, S, .bool b, by simp [VR], h⟩
theorem WE.none {k pos} (h : Q .none st) : WE C (.Constant .none k pos) st Q := fun I KF s S => wpAny_Constant_none ⟨I, st, .refl I, S, .none, by simp [VR], h⟩

-- names
noncomputable def ownKind : Option NameKind → Bool
  | some .local => true
  | some .cell => true
  | some .free => true
  | _ => false
theorem WE.name {x : Str} {pos} {v : CV} (hf : C.env.scope.kind = .function) (hv : st.lo x = some v) (h : Q v st) (hk : ownKind (C.env.kindOf x) = true)
    (hd : (x == ("__debug__" : Str)) = false := by decide) (hc : (x == ("__classdict__" : Str)) = false := by decide) : WE C (.Name x pos) st Q := fun I KF s S => by
  refine wpAny_Name ?_ hd
  obtain ⟨⟨m, hn, h1⟩, h2, h3, h4⟩ := S.loc
  cases e : C.env.kindOf x with
  | none => rw [e] at hk; cases hk
  | some k =>
    cases k with
    | «local» =>
      (refine el_1_1 (h1 x v hv e) fun u a1 a2 => ?_)
      exact wpAny_loadName_local hf e hn a1 ⟨I, st, .refl I, S, v, a2, h⟩
    | cell =>
      (refine el_2_2 (h2 x v hv e) fun c u a1 a2 a3 => ?_)
      exact wpAny_loadName_cell hf e a1 a2 ⟨I, st, .refl I, S, v, a3, h⟩
    | free =>
      (refine el_3_3 (h3 x v hv e) fun c o u a1 a2 a3 a4 => ?_)
      (refine el_0_1 (S.frs c o (S.kle _ _ a2)) fun _ a5 => ?_)
      exact wpAny_loadName_free hf e a1 (in_1_1 _ a5 a3) ⟨I, st, .refl I, S, v, a4, h⟩ hc
    | _ => rw [e] at hk; cases hk

/-- the names of the text's top and the built-in ones that are read -/
noncomputable def GOk (C : Cx) (G : List (Str × Value)) : Prop := ∀ x v, G.lookup x = some v → C.mg x = some v ∨ (C.mg x = none ∧ C.mb x = some v)
theorem WE.glob {G : List (Str × Value)} {x : Str} {pos} {v : Value} (ok : C.Ok dep) (hG : GOk C G) (hv : G.lookup x = some v) (h : Q (.raw v) st) (hk : C.env.kindOf x = some .globalImplicit)
    (hd : (x == ("__debug__" : Str)) = false := by decide) : WE C (.Name x pos) st Q := fun I KF s S => by
  have hg : s.heap.Ns C.env.globals C.mg := by rw [ok.gl]; exact ok.g.keeps fun b o e => S.imm b o (S.base b o e)
  have hb : s.heap.Ns C.env.builtins C.mb := by rw [ok.bl]; exact ok.b.keeps fun b o e => S.imm b o (S.base b o e)
  refine Name_function_global ok.fun_ hk ?_ hd
  (refine Or.elim (hG x v hv) (fun e => ?aElo) (fun xElo => ?bElo); (case' bElo => (refine el_0_1 xElo fun e1 e2 => ?_; try clear xElo)); (case' aElo => skip))
  · exact loadGlobal_global hg e ⟨I, st, .refl I, S, .raw v, by simp [VR], h⟩
  · exact loadGlobal_builtin hg e1 hb e2 ⟨I, st, .refl I, S, .raw v, by simp [VR], h⟩

-- the simple expressions
theorem WE.binop {op l r pos} (h : WE C l st (fun a st1 => WE C r st1 (fun b st2 => W2 C (binaryOp op) a b st2 Q))) : WE C (.BinOp l op r pos) st Q := fun I => by
  simp only [eval_BinOp]
  refine WL.bind ((h I).mono (fun J a st1 _ hh => hh.use fun ca ra ha => ?_))
  refine WL.bind (WL.holding ((ha J).mono (fun J2 b st2 l hh => hh.use fun cb rb hb => ?_)))
  exact WL.bind (WL.standAt (WL.operate (hb J2 _ _ (ra.mono l) rb)))
theorem WE.unop {op x pos} (h : WE C x st (fun a st1 => W1 C (unaryOp op) a st1 Q)) : WE C (.UnaryOp op x pos) st Q := fun I => by
  show WL C (do let v ← eval x C.env; standAt pos; holding [v] (unaryOp op v)) I st _
  refine WL.bind ((h I).mono (fun J a st1 _ hh => hh.use fun ca ra ha => ?_))
  exact WL.bind (WL.standAt (WL.holding (ha J _ ra)))
theorem WE.ifexp {t b o pos} (h : WT C t st (fun c st1 => if c then WE C b st1 Q else WE C o st1 Q)) : WE C (.IfExp t b o pos) st Q := fun I => by
  show WL C (do if ← isTrue t C.env (eval t C.env) then eval b C.env else eval o C.env) I st _
  refine WL.bind ((h I).mono (fun J c st1 _ hc => ?_))
  cases c <;> exact hc J

/-- one comparison -/
theorem WE.cmp1 {op l r pos} (h : WE C l st (fun a st1 => WE C r st1 (fun b st2 => W2 C (compareOp op) a b st2 Q))) (hm : behindInMarks op r = false := by rfl) : WE C (.Compare l [op] [r] pos) st Q := fun I => by
  rw [eval_Compare1, markedBehindIn_of_false hm]
  refine WL.bind ((h I).mono (fun J a st1 _ hh => hh.use fun ca ra ha => ?_))
  refine WL.bind (WL.holding ((ha J).mono (fun J2 b st2 l hh => hh.use fun cb rb hb => ?_)))
  exact WL.bind (WL.standAt (WL.operate (hb J2 _ _ (ra.mono l) rb)))
theorem WT.cmp1 {op l r pos} {Q : Bool → CSt → Prop} (h : WE C l st (fun a st1 => WE C r st1 (fun b st2 => W2 C (compareOp op) a b st2 (fun c st3 => Wtr C c st3 Q)))) (hm : behindInMarks op r = false := by rfl) : WT C (.Compare l [op] [r] pos) st Q := fun I => by
  rw [isTrue_Compare1, markedBehindIn_of_false hm]
  refine WL.bind ((h I).mono (fun J a st1 _ hh => hh.use fun ca ra ha => ?_))
  refine WL.bind (WL.holding ((ha J).mono (fun J2 b st2 l hh => hh.use fun cb rb hb => ?_)))
  refine WL.bind (WL.standAt (WL.bind (WL.operate ((hb J2 _ _ (ra.mono l) rb).mono (fun J3 c st3 _ hh => hh.use fun cc rc hc => ?_)))))
  exact WL.holding (hc J3 _ rc)
theorem WT.not {x pos} {Q : Bool → CSt → Prop} (h : WT C x st (fun b st1 => Q (!b) st1)) : WT C (.UnaryOp .Not x pos) st Q := fun I => by
  show WL C (do return !(← isTrue x C.env (eval x C.env))) I st _
  exact WL.bind ((h I).mono (fun J b st1 _ hb => WL.pure hb))

/-- and, or as tests -/
noncomputable def WTs (C : Cx) (op : BoolOp) : List Expr → CSt → (Bool → CSt → Prop) → Prop
  | [], st, Q => Q (op == .And) st
  | e :: es, st, Q => WT C e st (fun b st1 => match op, b with
      | .And, false => Q false st1
      | .Or, true => Q true st1
      | _, _ => WTs C op es st1 Q)
theorem WTs.all {op : BoolOp} : ∀ {es : List Expr} {st : CSt} {Q : Bool → CSt → Prop}, WTs C op es st Q → ∀ I, WL C (allTrue op es C.env) I st (fun _ b st' => Q b st')
  | [], st, Q, h, I => WL.pure h
  | e :: es, st, Q, h, I => by
    show WL C (do match op, ← isTrue e C.env (eval e C.env) with | .And, false => pure false | .Or, true => pure true | _, _ => allTrue op es C.env) I st _
    refine WL.bind ((h I).mono (fun J b st1 _ hb => ?_))
    cases op <;> cases b
    · exact WL.pure hb
    · exact WTs.all hb J
    · exact WTs.all hb J
    · exact WL.pure hb
theorem WT.boolop {op es pos} {Q : Bool → CSt → Prop} (h : WTs C op es st Q) : WT C (.BoolOp op es pos) st Q := fun I => h.all I
/-- and, or as values -/
noncomputable def WBs (C : Cx) (op : BoolOp) : List Expr → CSt → (CV → CSt → Prop) → Prop
  | [], _, _ => False
  | [e], st, Q => WE C e st Q
  | e :: e' :: es, st, Q => WE C e st (fun a st1 => Wtr C a st1 (fun b st2 => match op, b with
      | .And, false => Q a st2
      | .Or, true => Q a st2
      | _, _ => WBs C op (e' :: es) st2 Q))
theorem WBs.all {op : BoolOp} {pos : Pos} : ∀ {es : List Expr} {st : CSt} {Q : CV → CSt → Prop}, WBs C op es st Q → ∀ I, WL C (boolOp pos op (evalEach es C.env)) I st (fun J v st' => ValP J v Q st')
  | [], st, Q, h, I => h.elim
  | [e], st, Q, h, I => h I
  | e :: e' :: es, st, Q, h, I => by
    show WL C (do let v ← eval e C.env; standAt pos; let t ← holding [v] (truthy v); match op, t with | .And, false | .Or, true => pure v | _, _ => boolOp pos op (evalEach (e' :: es) C.env)) I st _
    refine WL.bind ((h I).mono (fun J a st1 _ hh => hh.use fun ca ra ha => ?_))
    refine WL.bind (WL.standAt (WL.bind (WL.holding ((ha J _ ra).mono (fun J2 b st2 l hb => ?_)))))
    cases op <;> cases b
    · exact WL.pure ⟨ca, ra.mono l, hb⟩
    · exact WBs.all hb J2
    · exact WBs.all hb J2
    · exact WL.pure ⟨ca, ra.mono l, hb⟩
theorem WE.boolop {op es pos} (h : WBs C op es st Q) : WE C (.BoolOp op es pos) st Q := fun I => h.all I

/-- a test that is any other expression -/
noncomputable def plainTest : Expr → Bool
  | .UnaryOp .Not _ _ => false
  | .BoolOp .. => false
  | .IfExp .. => false
  | .Compare .. => false
  | _ => true
theorem WT.value {e : Expr} {Q : Bool → CSt → Prop} (hp : plainTest e = true) (h : WE C e st (fun a st1 => Wtr C a st1 Q)) : WT C e st Q := fun I => by
  have : WL C (do let v ← eval e C.env; standAt e.pos; holding [v] (truthy v)) I st (fun _ b st' => Q b st') := by
    refine WL.bind ((h I).mono (fun J a st1 _ hh => hh.use fun ca ra ha => ?_))
    exact WL.bind (WL.standAt (WL.holding (ha J _ ra)))
  cases e <;> first | exact this | (cases hp) | skip
  rename_i op x pos
  cases op <;> first | exact this | (cases hp)
theorem Wtr.bool {b : Bool} {Q : Bool → CSt → Prop} (h : Q b st) : Wtr C (.bool b) st Q := fun I v r KF s S => by
  simp only [VR] at r; subst r
  exact wpAny_truthy_bool ⟨I, st, .refl I, S, h⟩
end
end Mine
open PySem PySem.W PySem.Calls PyProof.Rows
set_option Elab.async false
set_option linter.all false
set_option maxRecDepth 100000
set_option genSizeOf false
namespace Mine
theorem SR.ownNo {C : Cx} {KF I : IM} {st : CSt} {s : Shared} (S : SR C KF I st s) {a : Addr} (h : C.Own a) : ∃ o, s.heap.get? a = some o := by
  (refine Or.elim h (fun xElo => ?aElo) (fun xElo => ?bElo); (case' bElo => try clear h; (refine el_1_1 xElo fun x hx hl => ?_; try clear xElo)); (case' aElo => try clear h; obtain rfl := xElo))
  · (refine el_1_1 S.loc.ns fun m xEl1 _ => ?_; (refine el_3_2 xEl1 fun oL es ep hL hd hr => ?_; try clear xEl1))
    exact (in_1_0 oL hL)
  · (refine el_2_1 (S.loc.cells x hx) fun c v0 a1 xEl3 => ?_; (refine el_1_1 xEl3 fun o ho hd => ?_; try clear xEl3))
    rw [hl] at a1; cases a1
    exact (in_1_0 o ho)
end Mine
open PySem PySem.W PySem.Calls PyProof.Rows
set_option Elab.async false
set_option linter.all false
set_option maxRecDepth 100000
set_option genSizeOf false
namespace Mine

noncomputable def lput (lo : Str → Option CV) (x : Str) (v : CV) : Str → Option CV := fun y => if y = x then some v else lo y
theorem lput_ne {lo : Str → Option CV} {x y : Str} {v : CV} (h : y ≠ x) : lput lo x v y = lo y := by simp [lput, h]
noncomputable abbrev CSt.put (st : CSt) (x : Str) (v : CV) : CSt := { st with lo := lput st.lo x v }

noncomputable def storeKind : Option NameKind → Bool
  | some .local => true
  | some .cell => true
  | _ => false

section
variable {C : Cx} {dep : Nat} {KF I : IM} {st : CSt} {s : Shared}

theorem storeName_W {x : Str} {c : CV} {Q : CSt → Prop} (ok : C.Ok dep) (hk : storeKind (C.env.kindOf x) = true) (h : Q (st.put x c)) : WA C (storeName C.env x) c st Q := fun I v r KF s S => by
  obtain ⟨⟨m, hn, h1⟩, h2, h3, h4⟩ := S.loc
  cases e : C.env.kindOf x with
  | none => rw [e] at hk; cases hk
  | some k =>
    cases k with
    | «local» =>
      refine wpAny_storeName_local e hn (fun h' hn' hs => ⟨I, st.put x c, .refl I, ?_, h⟩) (by rw [ok.fun_]; rfl)
      have keep : ∀ a o, a ≠ C.env.locals → s.heap.get? a = some o → h'.get? a = some o := fun a o hne e => (hs.2 a hne).trans e
      refine ⟨S.kle, S.low, ?_, S.base, fun a o e => keep a o (fun q => ?_) (S.imm a o e), fun a o e => ?_, S.own, fun a c' e => ?_, ?_⟩
      · (refine el_3_0 S.same fun h₀ t d e => ?_); exact (in_3_0 h' (s.toks + 1) d (by rw [e]))
      · have := (S.own a (.inl q)).1; rw [e] at this; cases this
      · (refine el_0_1 (S.frs a o e) fun a1 a2 => ?_)
        exact ⟨a1, keep a _ (fun q => by have := (S.own a (.inl q)).2.1; rw [e] at this; cases this) a2⟩
      · (refine el_0_2 (S.mu a c' e) fun a1 a2 rEl => ?_; (refine el_1_1 rEl fun o a3 a4 => ?_; try clear rEl))
        exact (in_0_2 a1 a2 (in_1_1 o (keep a o (fun q => by have := (S.own a (.inl q)).2.2; rw [e] at this; cases this) a3) a4))
      · have kc : ∀ y c' v, C.env.kindOf y = some .cell → C.env.cells.lookup y = some c' → s.heap.IsCell c' v → h'.IsCell c' v := fun y c' v hy hl ⟨o, ho, hd⟩ =>
          (in_1_1 o (keep c' o (fun q => ok.cellNe y hy (q ▸ hl)) ho) hd)
        refine ⟨(in_1_1 _ hn' (fun y w hy hky => ?_)), fun y w hy hky => ?_, fun y w hy hky => ?_, fun y hky => ?_⟩
        · change lput st.lo x c y = some w at hy
          unfold lput at hy
          by_cases q : y = x
          · subst q; simp at hy; subst hy; exact (in_1_1 v (by simp) r)
          · simp [q] at hy ⊢; exact h1 y w hy hky
        · change lput st.lo x c y = some w at hy
          have q : y ≠ x := fun q => by rw [q, e] at hky; cases hky
          rw [lput_ne q] at hy
          (refine el_2_2 (h2 y w hy hky) fun c' u a1 a2 a3 => ?_)
          exact (in_2_2 c' u a1 (kc y c' _ hky a1 a2) a3)
        · change lput st.lo x c y = some w at hy
          have q : y ≠ x := fun q => by rw [q, e] at hky; cases hky
          rw [lput_ne q] at hy
          exact h3 y w hy hky
        · (refine el_2_1 (h4 y hky) fun c' v0 a1 a2 => ?_)
          exact (in_2_1 c' v0 a1 (kc y c' _ hky a1 a2))
    | cell =>
      (refine el_2_1 (h4 x e) fun ca v0 hl hv => ?_)
      refine wpAny_storeName_cell ok.fun_ e hl hv fun h' hv' hs => ⟨I, st.put x c, .refl I, ?_, h⟩
      have keep : ∀ a o, a ≠ ca → s.heap.get? a = some o → h'.get? a = some o := fun a o hne e => (hs.2 a hne).trans e
      have hown : C.Own ca := .inr (in_1_1 x e hl)
      refine ⟨S.kle, S.low, ?_, S.base, fun a o e => keep a o (fun q => ?_) (S.imm a o e), fun a o e => ?_, S.own, fun a c' e => ?_, ?_⟩
      · (refine el_3_0 S.same fun h₀ t d e => ?_); exact (in_3_0 h' s.toks d (by rw [e]))
      · have := (S.own a (q ▸ hown)).1; rw [e] at this; cases this
      · (refine el_0_1 (S.frs a o e) fun a1 a2 => ?_)
        exact ⟨a1, keep a _ (fun q => by have := (S.own a (q ▸ hown)).2.1; rw [e] at this; cases this) a2⟩
      · (refine el_0_2 (S.mu a c' e) fun a1 a2 rEl => ?_; (refine el_1_1 rEl fun o a3 a4 => ?_; try clear rEl))
        exact (in_0_2 a1 a2 (in_1_1 o (keep a o (fun q => by have := (S.own a (q ▸ hown)).2.2; rw [e] at this; cases this) a3) a4))
      · have kc : ∀ y c' v, y ≠ x → C.env.kindOf y = some .cell → C.env.cells.lookup y = some c' → s.heap.IsCell c' v → h'.IsCell c' v := fun y c' v hyx hy hl' ⟨o, ho, hd⟩ =>
          (in_1_1 o (keep c' o (fun q => hyx (ok.cellInj y x ca hy e (q ▸ hl') hl)) ho) hd)
        refine ⟨(in_1_1 m (hn.sameBut hs (fun q => ok.cellNe x e (q ▸ hl))) (fun y w hy hky => ?_)), fun y w hy hky => ?_, fun y w hy hky => ?_, fun y hky => ?_⟩
        · change lput st.lo x c y = some w at hy
          have q : y ≠ x := fun q => by rw [q, e] at hky; cases hky
          rw [lput_ne q] at hy
          exact h1 y w hy hky
        · change lput st.lo x c y = some w at hy
          by_cases q : y = x
          · subst q
            unfold lput at hy; simp at hy; subst hy
            exact (in_2_2 ca v hl hv' r)
          · rw [lput_ne q] at hy
            (refine el_2_2 (h2 y w hy hky) fun c' u a1 a2 a3 => ?_)
            exact (in_2_2 c' u a1 (kc y c' _ q hky a1 a2) a3)
        · change lput st.lo x c y = some w at hy
          have q : y ≠ x := fun q => by rw [q, e] at hky; cases hky
          rw [lput_ne q] at hy
          exact h3 y w hy hky
        · by_cases q : y = x
          · subst q; exact (in_2_1 ca _ hl hv')
          · (refine el_2_1 (h4 y hky) fun c' v0' a1 a2 => ?_)
            exact (in_2_1 c' v0' a1 (kc y c' _ q hky a1 a2))
    | _ => rw [e] at hk; cases hk

theorem bindName_W {x : Str} {c : CV} {Q : CSt → Prop} (ok : C.Ok dep) (hk : storeKind (C.env.kindOf x) = true) (h : Q (st.put x c)) : WA C (bindName C.env x) c st Q := fun I v r => by
  show WL C (do holding [v] point; storeName C.env x v; point) I st _
  refine WL.bind (WL.holding (WL.point ?_))
  exact WL.bind ((storeName_W ok hk h I v r).mono (fun J _ st' _ q => WL.point q))
theorem WA.name {x : Str} {pos : Pos} {c : CV} {Q : CSt → Prop} (ok : C.Ok dep) (hk : storeKind (C.env.kindOf x) = true) (h : Q (st.put x c)) : WA C (assign (.Name x pos) C.env) c st Q := fun I v r => by
  show WL C (do standAt pos; bindName C.env x v) I st _
  exact WL.bind (WL.standAt (bindName_W ok hk h I v r))

-- statements
theorem WSs.nil {Q : CF → CSt → Prop} (h : Q .next st) : WSs C [] st Q := fun I => WL.pure ⟨.next, rfl, h⟩
/-- what stands behind a statement -/
noncomputable def WThen (C : Cx) (rest : List Stmt) (Q : CF → CSt → Prop) (f : CF) (st : CSt) : Prop :=
  match f with
  | .next => WSs C rest st Q
  | f => Q f st
theorem WSs.cons {t : Stmt} {rest : List Stmt} {Q : CF → CSt → Prop} (h : WS C t st (WThen C rest Q)) : WSs C (t :: rest) st Q := fun I => by
  simp only [execs_cons]
  refine WL.bind ((h I).mono (fun J f st1 _ hh => hh.use fun b r q => ?_))
  cases b with
  | next => cases r; exact q J
  | brk => cases r; exact WL.pure ⟨.brk, rfl, q⟩
  | cont => cases r; exact WL.pure ⟨.cont, rfl, q⟩
  | ret c => (revert r; intro hfEl; refine el_1_1 hfEl fun v xEl1 r => ?_; try clear hfEl; obtain rfl := xEl1); exact WL.pure ⟨.ret c, (in_1_1 v rfl r), q⟩
theorem WS.ret {e pos} {Q : CF → CSt → Prop} (h : WE C e st (fun v st1 => Q (.ret v) st1)) : WS C (.Return (some e) pos) st Q := fun I => by
  simp only [exec_Return_some]
  refine WL.bind (WL.standAt (WL.bind ((h I).mono (fun J v st1 _ hh => hh.use fun c r q => WL.pure ⟨.ret c, (in_1_1 v rfl r), q⟩))))
theorem WS.retNone {pos} {Q : CF → CSt → Prop} (h : Q (.ret .none) st) : WS C (.Return none pos) st Q := fun I => by
  simp only [exec_Return_none]
  exact WL.bind (WL.standAt (WL.pure ⟨.ret .none, (in_1_1 _ rfl (by simp [VR])), h⟩))
theorem cT {A B : Prop} (h : A) : cond true A B := h
theorem cF {A B : Prop} (h : B) : cond false A B := h
theorem cB {c : Bool} {A B : Prop} (h1 : c = true → A) (h2 : c = false → B) : cond c A B := by
  cases c
  · exact h2 rfl
  · exact h1 rfl
theorem WS.if_ {t b o pos} {Q : CF → CSt → Prop} (h : WT C t st (fun c st1 => cond c (WSs C b st1 Q) (WSs C o st1 Q))) : WS C (.If t b o pos) st Q := fun I => by
  simp only [exec_If]
  refine WL.bind (WL.standAt (WL.bind ((h I).mono (fun J c st1 _ q => ?_))))
  cases c
  · exact q J
  · exact q J

theorem WS.expr {e pos} {Q : CF → CSt → Prop} (ok : C.Ok dep) (h : WE C e st (fun v st1 => v = .none ∧ Q .next st1)) (hs : swapsWith e none pos.line C.env = pure false := by rfl) : WS C (.Expr e pos) st Q := fun I => by
  have hi : interactive C.env = false := by unfold interactive; rw [ok.fun_]; rfl
  rw [exec_Expr C.env e pos hi hs]
  refine WL.bind (WL.standAt (WL.bind ((h I).mono (fun J v st1 _ hEl => ?_))))
  obtain ⟨c, r, e, q⟩ := hEl
  subst e
  simp only [VR] at r; subst r
  rw [dropValue_plain (fun a => by simp)]
  exact WL.pure ⟨.next, rfl, q⟩

theorem WS.assign1 {t value pos} {Q : CF → CSt → Prop} (h : WE C value st (fun v st1 => WA C (assign t C.env) v st1 (fun st2 => Q .next st2)))
    (hs : swapsWithSole [t] value pos.line C.env = pure false := by rfl) (hw : swappedStores [t] value C.env = pure none := by rfl) (he : (assignEach [t] C.env).map (·.2) = [assign t C.env] := by rfl) : WS C (.Assign [t] value pos) st Q := fun I => by
  simp only [exec_Assign_arm]
  refine WL.bind (WL.standAt ?_)
  rw [hs]
  refine WL.bind (WL.pure ?_)
  rw [if_neg (by decide)]
  refine WL.bind ((h I).mono (fun J v st1 _ hh => hh.use fun c r q => ?_))
  rw [hw]
  refine WL.bind (WL.pure ?_)
  show WL C (do assignAll v ((assignEach [t] C.env).map (·.2)); pure Flow.next) J st1 _
  rw [he]
  exact WL.bind ((q J v r).mono (fun J2 _ st2 _ q2 => WL.pure ⟨.next, rfl, q2⟩))

noncomputable def WAs (C : Cx) : List Expr → List CV → CSt → (CSt → Prop) → Prop
  | [], [], st, Q => Q st
  | t :: ts, v :: vs, st, Q => WA C (assign t C.env) v st (fun st1 => WAs C ts vs st1 Q)
  | _, _, _, _ => False
theorem WAs.all : ∀ {ts : List Expr} {vs : List CV} {st : CSt} {Q : CSt → Prop}, WAs C ts vs st Q → ∀ I us, VRs I vs us → WL C (assignInOrder (ts.map fun t => assign t C.env) us) I st (fun _ _ st' => Q st')
  | [], [], st, Q, h, I, us, r => by rw [r.nil_iff]; exact WL.pure h
  | t :: ts, v :: vs, st, Q, h, I, us, r => by
    (refine el_2_1 r.uncons fun u us' xEl2 rEl => ?_; obtain rfl := xEl2; (refine el_0_1 rEl fun r1 r2 => ?_; try clear rEl))
    show WL C (do holding us' (assign t C.env u); assignInOrder (ts.map fun t => assign t C.env) us') I st _
    exact WL.bind (WL.holding ((h I u r1).mono (fun J _ st1 l q => WAs.all q J us' (VRs.mono l _ _ r2))))
  | [], _ :: _, _, _, h, _, _, _ => h.elim
  | _ :: _, [], _, _, h, _, _, _ => h.elim

theorem IsTuple.of {I : IM} {h : Heap} (hi : ∀ a o, I a = some o → h.get? a = some o) {vs : List CV} {v : Value} (r : VR I (.tup vs) v) : ∃ a xs, v = .ref a ∧ h.IsTuple a xs ∧ VRs I vs xs.toList := by
  simp only [VR] at r
  (refine el_3_1 r fun a n xs xEl3 rEl => ?_; try clear r; obtain rfl := xEl3; (refine el_0_1 rEl fun hi' hr => ?_; try clear rEl))
  exact (in_2_2 a xs rfl (in_1_2 _ (hi _ _ hi') rfl (in_1_0 n rfl)) hr)

/-- heaps that grow, but for garbage -/
theorem SR.ext (S : SR C KF I st s) {h' : Heap} {tk : Nat} {b : Addr} (hb : s.heap.get? b = none) (k : Heap.ExtBut b s.heap h') : SR C KF I st { s with heap := h', toks := tk } :=
  S.keeps fun a o e => k a o (fun q => by rw [q, hb] at e; cases e) e

/-- a tuple is taken apart -/
theorem unpack_W (ok : C.Ok dep) {vs : List CV} {n : Nat} {v : Value} {Q : IM → List Value → CSt → Prop} (hn : vs.length = n) (r : VR I (.tup vs) v) (h : ∀ us, VRs I vs us → Q I us st) : WL C (unpackItems v n none) I st Q := fun KF s S => by
  (refine el_2_1 (IsTuple.of S.imm r) fun a xs xEl2 rEl => ?_; obtain rfl := xEl2; (refine el_0_1 rEl fun ht hr => ?_; try clear rEl))
  have : xs.size = n := by simp only [← hn, hr.length]; simp
  subst this
  exact wpAny_unpackItems_tuple ok.hd ht fun h' k => ⟨I, st, .refl I, S.ext (tk := s.toks) (heap_size _) k, h _ hr⟩

theorem starsNone {env : Env} : ∀ (es : List Expr), (∀ e ∈ es, ∀ t p, e ≠ .Starred t p) → (assignEach es env).findIdx? (·.1) = none ∧ (assignEach es env).map (·.2) = es.map (fun t => assign t env) ∧ (assignEach es env).length = es.length
  | [], _ => (in_0_2 rfl rfl rfl)
  | e :: es, h => by
    (refine el_0_2 (starsNone (env := env) es fun x hx => h x (List.mem_cons_of_mem _ hx)) fun a b c => ?_)
    have he : assignEach (e :: es) env = (false, assign e env) :: assignEach es env := by
      have := h e (by simp)
      cases e <;> first | rfl | (exact absurd rfl (this _ _))
    rw [he]
    refine (in_0_2 ?_ (by simp [b]) (by simp [c]))
    rw [List.findIdx?_cons]; simp [a]
noncomputable def noStar : Expr → Bool
  | .Starred .. => false
  | _ => true
theorem noStar_all {es : List Expr} (h : es.all noStar = true) : ∀ e ∈ es, ∀ t p, e ≠ .Starred t p := fun e he t p q => by
  have := List.all_eq_true.mp h e he
  rw [q] at this; cases this

theorem WA.tuple {es : List Expr} {k pos} {vs : List CV} {Q : CSt → Prop} (ok : C.Ok dep) (hn : vs.length = es.length) (h : WAs C es vs st Q) (hs : es.all noStar = true := by rfl) : WA C (assign (.Tuple es k pos) C.env) (.tup vs) st Q := fun I v r => by
  (refine el_0_2 (starsNone (env := C.env) es (noStar_all hs)) fun a b c => ?_)
  show WL C (do standAt pos; unpack v (assignEach es C.env)) I st _
  refine WL.bind (WL.standAt ?_)
  unfold unpack
  rw [a, b, c]
  exact WL.bind (WL.holding (unpack_W ok hn r fun us r' => h.all I us r'))

/-- two names, the stores exchanged -/
theorem WS.swap2 {x y : Str} {px py : Pos} {k tpos value pos} {Q : CF → CSt → Prop} (ok : C.Ok dep)
    (h : WE C value st (fun v st1 => ∃ a b, v = .tup [a, b] ∧ Q .next ((st1.put y b).put x a)))
    (hx : storeKind (C.env.kindOf x) = true) (hy : storeKind (C.env.kindOf y) = true)
    (hs : swapsWithSole [.Tuple [.Name x px, .Name y py] k tpos] value pos.line C.env = pure false := by rfl)
    (hw : swappedStores [.Tuple [.Name x px, .Name y py] k tpos] value C.env = pure (some [x, y])) :
    WS C (.Assign [.Tuple [.Name x px, .Name y py] k tpos] value pos) st Q := fun I => by
  simp only [exec_Assign_arm]
  refine WL.bind (WL.standAt ?_)
  rw [hs]
  refine WL.bind (WL.pure ?_)
  rw [if_neg (by decide)]
  refine WL.bind ((h I).mono (fun J v st1 _ hEl => ?_))
  obtain ⟨c, r, a, b, e, q⟩ := hEl
  subst e
  rw [hw]
  refine WL.bind (WL.pure ?_)
  show WL C (do rule "assign.swapped-stores"; let items ← unpackItems v 2 none; assignInOrder [bindName C.env y, bindName C.env x] items.reverse; pure Flow.next) J st1 _
  refine WL.bind (WL.rule (WL.bind (unpack_W ok rfl r fun us r' => ?_)))
  (refine el_2_1 r'.uncons fun u1 us' xEl2 rEl => ?_; obtain rfl := xEl2; (refine el_0_1 rEl fun r1 r2 => ?_; try clear rEl))
  (refine el_2_1 r2.uncons fun u2 us'' xEl2 rEl => ?_; obtain rfl := xEl2; (refine el_0_1 rEl fun r3 r4 => ?_; try clear rEl))
  rw [r4.nil_iff]
  show WL C (do (do holding [u1] (bindName C.env y u2); (do holding [] (bindName C.env x u1); pure ())); pure Flow.next) J st1 _
  refine WL.bind (WL.bind (WL.holding ((bindName_W (Q := fun st' => st' = st1.put y b) ok hy rfl J u2 r3).mono (fun J2 _ st2 l e2 => ?_))))
  subst e2
  refine WL.bind (WL.holding ((bindName_W (Q := fun st' => st' = (st1.put y b).put x a) ok hx rfl J2 u1 (r1.mono l)).mono (fun J3 _ st3 _ e3 => ?_)))
  subst e3
  exact WL.pure (WL.pure ⟨.next, rfl, q⟩)
end
end Mine
open PySem PySem.W PySem.Calls PyProof.Rows
set_option Elab.async false
set_option linter.all false
set_option maxRecDepth 100000
set_option genSizeOf false
namespace Mine

section
variable {C : Cx} {dep : Nat} {KF I : IM} {st : CSt} {s : Shared}

/-- an object of nobody's is kept -/
theorem SR.addK (S : SR C KF I st s) {a : Addr} {o : Obj} (ho : s.heap.get? a = some o) (h1 : I a = none) (h2 : KF a = none) (h3 : st.H a = none) (h4 : ¬ C.Own a) : SR C (iput KF a o) I st s := by
  refine ⟨S.kle.trans (iput_le h2), S.low, S.same, S.base, S.imm, fun b o' e => ?_, fun b hb => ?_, fun b c e => ?_, S.loc⟩
  · unfold iput at e; split at e
    · rename_i q; subst q; cases e; exact ⟨h1, ho⟩
    · exact S.frs b o' e
  · (refine el_0_2 (S.own b hb) fun a1 a2 a3 => ?_)
    refine (in_0_2 a1 ?_ a3)
    unfold iput; split
    · rename_i q; subst q; exact absurd hb h4
    · exact a2
  · (refine el_0_2 (S.mu b c e) fun a1 a2 r => ?_)
    refine (in_0_2 a1 ?_ r)
    unfold iput; split
    · rename_i q; subst q; rw [h3] at e; cases e
    · exact a2
theorem SR.weakK {KF' : IM} (S : SR C KF' I st s) (l : ILe KF KF') (l' : ILe C.KF KF) : SR C KF I st s := by
  have no : ∀ a, KF' a = none → KF a = none := fun a h => by
    cases e : KF a with
    | none => rfl
    | some o => rw [l a o e] at h; cases h
  refine ⟨l', S.low, S.same, S.base, S.imm, fun b o' e => S.frs b o' (l b o' e), fun b hb => ?_, fun b c e => ?_, S.loc⟩
  · (refine el_0_2 (S.own b hb) fun a1 a2 a3 => ?_); exact (in_0_2 a1 (no b a2) a3)
  · (refine el_0_2 (S.mu b c e) fun a1 a2 r => ?_); exact (in_0_2 a1 (no b a2) r)
/-- a walk over clean values: `D i J h` holds while `i` of them have been handed on -/
structure Walk (prog : Program) (w : World) (xs : List CV) (it : Addr) (D : Nat → IM → Heap → Prop) : Prop where
  item : ∀ (A : Around) (J : IM) (s : Shared) (i : Nat) (c : CV) (E : Value → Shared → Prop) (Q : Option Value → Shared → Prop), (∀ a o, J a = some o → s.heap.get? a = some o) → D i J s.heap → xs[i]? = some c →
    (∀ h' tk v, D (i + 1) J h' → VR J c v → (∀ b o, b ≠ it → s.heap.get? b = some o → h'.get? b = some o) → (∃ o, h'.get? it = some o) → Q (some v) { s with heap := h', toks := tk }) → wpAny (model prog w) A (pyNext (.ref it)) Q E s
  fin : ∀ (A : Around) (J : IM) (s : Shared) (E : Value → Shared → Prop) (Q : Option Value → Shared → Prop), A.handled = none → (∀ a o, J a = some o → s.heap.get? a = some o) → D xs.length J s.heap →
    (∀ h' tk, (∀ b o, b ≠ it → s.heap.get? b = some o → h'.get? b = some o) → Q none { s with heap := h', toks := tk }) → wpAny (model prog w) A (pyNext (.ref it)) Q E s
  frame : ∀ (J J' : IM) (h h' : Heap) (i : Nat), D i J h → ILe J J' → (∀ o, h.get? it = some o → h'.get? it = some o) → (∀ a o, J a = some o → h.get? a = some o → h'.get? a = some o) → D i J' h'
  self : ∀ (A : Around) (J : IM) (s : Shared) (i : Nat) (E : Value → Shared → Prop) (Q : Value → Shared → Prop), D i J s.heap → Q (.ref it) s → wpAny (model prog w) A (pyIter (.ref it)) Q E s
  cls : ∀ (J : IM) (h : Heap) (i : Nat), D i J h → ∃ o n, h.get? it = some o ∧ o.cls = .type n ∧ (["enumerate", "zip", "dict_itemiterator", "dict_reverseitemiterator", "odict_iterator", "itertools.zip_longest", "itertools.pairwise"].contains n) = false

/-- what a value hands on when it is walked: for every kept part -/
noncomputable def Iterates (C : Cx) (I : IM) (st : CSt) (v : Value) (xs : List CV) : Prop :=
  ∀ (A : Around) (KF : IM) (s : Shared) (E : Value → Shared → Prop) (Q : Value → Shared → Prop), SR C KF I st s →
    (∀ (h' : Heap) (tk : Nat) (it : Addr) D, Walk C.prog C.w xs it D → D 0 I h' → s.heap.get? it = none → (∃ o, h'.get? it = some o) → (∀ b o, s.heap.get? b = some o → h'.get? b = some o) → Q (.ref it) { s with heap := h', toks := tk }) →
    wpAny (model C.prog C.w) A (pyIter v) Q E s

theorem ownedGo_W {A : Around} {M : Model} {xs : List CV} {it : Addr} {D} (W : Walk C.prog C.w xs it D) {i : Nat} {J : IM} {t : Expr} {v : Value} {E : Value → Shared → Prop} {Q : Unit → Shared → Prop} (hD : D i J s.heap) (h : Q () s) : wpAny M A (letOwnedTupleGo t (.ref it) v) Q E s := by
  (refine el_2_2 (W.cls J s.heap i hD) fun o n ho hc hn => ?_)
  have main : wpAny M A (do
      let (.ref r, .ref a) := (Value.ref it, v) | return
      let o ← load r
      match o.cls, o.data with
      | .type n, .fields vs =>
        if ["enumerate", "zip", "dict_itemiterator", "dict_reverseitemiterator", "odict_iterator", "itertools.zip_longest", "itertools.pairwise"].contains n && vs[0]? == some (rawInt a) then
          rule "for.unpacks-the-owned-tuple"
          updateField r 0 .none
      | _, _ => pure ()) Q E s := by
    cases v with
    | ref a =>
      refine wpAny_bind (wpAny_load ho ?_)
      rw [hc]
      cases o.data <;> first | exact wpAny_pure h | skip
      rename_i vs
      dsimp only
      rw [hn]
      exact wpAny_pure h
    | _ => exact wpAny_pure h
  cases t <;> first | exact wpAny_pure h | exact main

/-- the turns of a loop -/
noncomputable def WFor (C : Cx) (t : Expr) (body orelse : List Stmt) : List CV → CSt → (CF → CSt → Prop) → Prop
  | [], st, Q => WSs C orelse st Q
  | x :: xs, st, Q => WA C (assign t C.env) x st (fun st1 => WSs C body st1 (fun f st2 => match f with
      | .next => WFor C t body orelse xs st2 Q
      | .cont => WFor C t body orelse xs st2 Q
      | .brk => Q .next st2
      | .ret v => Q (.ret v) st2))

theorem for_W {t : Expr} {body orelse : List Stmt} {xs : List CV} {v : Value} {Q : CF → CSt → Prop} (ok : C.Ok dep) (hit : Iterates C I st v xs) (h : WFor C t body orelse xs st Q) :
    WL C (do let it ← holding [v] (pyIter v); runOwn (.forLoop t it body orelse C.env) C.env) I st (fun J f st' => FlP J f Q st') := fun KF s S => by
  refine wpAny_bind (wpAny_holding (hit C.A KF s _ _ S fun h₁ tk₁ it D W hD hnew ⟨oi, hoi⟩ hk₁ => ?_))
  have S₁ : SR C KF I st { s with heap := h₁, toks := tk₁ } := S.keeps hk₁
  (refine el_0_3 (S.fresh hnew) fun n1 n2 n3 n4 => ?_)
  have l₁ : ILe KF (iput KF it oi) := iput_le n2
  have SK := S₁.addK hoi n1 n2 n3 n4
  -- the state of the loop
  let R : Result → Shared → Prop := fun r s' => match r with
    | .ok f => OkP C KF I s' fun I' st' => FlP I' f Q st'
    | .error e => ErP C KF I true e s'
  refine wpAny_runOwn (h := none) (codeAny_mono (R := R) ?lp fun r s' hr => ?bk)
  case bk =>
    cases r with
    | ok f => obtain ⟨I', st', a, b, c⟩ := hr; exact ⟨I', st', a, b, c⟩
    | error e => exact hr.elim
  have hA : C.A.mark none = C.A := by cases C.A; rfl
  rw [hA]
  refine codeAny_forLoop_any (fun n s' => ∃ i J st' o, n = xs.length - i ∧ i ≤ xs.length ∧ ILe I J ∧ SR C (iput KF it o) J st' s' ∧ D i J s'.heap ∧ s'.heap.get? it = some o ∧ WFor C t body orelse (xs.drop i) st' Q) ?_ xs.length
    (in_4_6 0 I st oi (by simp) (by simp) (.refl I) SK hD hoi (by simpa using h))
  intro n s' hEl
  (refine el_4_1 hEl fun i J st' o xEl4 rEl => ?_; try clear hEl; obtain rfl := xEl4; (refine el_0_5 rEl fun hi lJ S' hD' hit' hW => ?_; try clear rEl))
  have lo : ILe KF (iput KF it o) := iput_le n2
  by_cases hlt : i < xs.length
  · obtain ⟨c, hc⟩ : ∃ c, xs[i]? = some c := (in_1_0 (xs[i]) (by simp [hlt]))
    have hdrop : xs.drop i = c :: xs.drop (i + 1) := by
      rw [List.drop_eq_getElem_cons hlt]
      rw [List.getElem?_eq_getElem hlt] at hc; cases hc; rfl
    rw [hdrop] at hW
    refine W.item C.A J s' i c _ _ S'.imm hD' hc fun h₂ tk₂ u hD₂ hu hk₂ hEl => ?_
    (refine el_1_0 hEl fun o₂ ho₂ => ?_; try clear hEl)
    -- the walk itself has been turned: forget it, keep it anew
    have Sx : SR C KF J st' { s' with heap := h₂, toks := tk₂ } := by
      have := (S'.weakK lo S.kle)
      refine this.heap fun a ob e hb => hk₂ a ob (fun q => notHeld hb q S'.iterIn.1 n2 S'.iterIn.2.1 S'.iterIn.2.2) e
    have m1 : J it = none := (S'.frs it o (by simp)).1
    have m3 : st'.H it = none := by
      cases e : st'.H it with
      | none => rfl
      | some cc => have := (S'.mu it cc e).2.1; simp at this
    have m4 : ¬ C.Own it := fun hb => by have := (S'.own it hb).2.1; simp at this
    have Sy := Sx.addK ho₂ m1 n2 m3 m4
    have lo₂ : ILe KF (iput KF it o₂) := iput_le n2
    refine ownedGo_W W hD₂ ?_
    refine wpAny_mono (hW J u hu _ _ Sy) (fun _ s3 hh => hh.use fun J3 st3 l3 S3 q3 => ?_) fun e s3 hF => hF.elim
    refine wpAny_mono (q3 J3 _ _ S3) (fun f s4 hh => hh.use fun J4 st4 l4 S4 hv => hv.use fun b hb q4 => ?_) fun e s4 hF => hF.elim
    have again : ∀ st4, SR C (iput KF it o₂) J4 st4 s4 → WFor C t body orelse (xs.drop (i + 1)) st4 Q → ∃ m, m < xs.length - i ∧ ∃ i J st' o, m = xs.length - i ∧ i ≤ xs.length ∧ ILe I J ∧ SR C (iput KF it o) J st' s4 ∧ D i J s4.heap ∧ s4.heap.get? it = some o ∧ WFor C t body orelse (xs.drop i) st' Q := by
      intro st4 S4 hw
      (refine el_0_1 (S4.frs it o₂ (by simp)) fun _ e4 => ?_)
      refine (in_1_1 (xs.length - (i + 1)) (by (exact Nat.sub_lt_sub_left (by assumption) (Nat.lt_succ_self _))) (in_4_6 (i + 1) J4 st4 o₂ rfl hlt (lJ.trans (l3.trans l4)) S4 ?_ e4 hw))
      exact W.frame J J4 h₂ s4.heap (i + 1) hD₂ (l3.trans l4) (fun o' e => by rw [ho₂] at e; cases e; exact e4) fun a o' e1 e2 => S4.imm a o' ((l3.trans l4) a o' e1)
    cases b with
    | next => cases hb; exact again st4 S4 q4
    | cont => cases hb; exact again st4 S4 q4
    | brk => cases hb; exact ⟨J4, st4, lJ.trans (l3.trans l4), S4.weakK lo₂ S.kle, .next, rfl, q4⟩
    | ret c => (refine el_1_1 hb fun u' xEl1 r' => ?_; try clear hb; obtain rfl := xEl1); exact ⟨J4, st4, lJ.trans (l3.trans l4), S4.weakK lo₂ S.kle, .ret c, (in_1_1 u' rfl r'), q4⟩
  · have hin : i = xs.length := by (exact (Nat.le_antisymm (by assumption) (Nat.le_of_not_lt (by assumption))))
    subst hin
    refine W.fin C.A J s' _ _ ok.hd S'.imm hD' fun h₂ tk₂ hk₂ => ?_
    have Sx : SR C KF J st' { s' with heap := h₂, toks := tk₂ } := by
      have := (S'.weakK lo S.kle)
      refine this.heap fun a ob e hb => hk₂ a ob (fun q => notHeld hb q S'.iterIn.1 n2 S'.iterIn.2.1 S'.iterIn.2.2) e
    rw [List.drop_length] at hW
    exact wpAny_mono (hW J KF _ Sx) (fun f s3 hh => hh.use fun J3 st3 l3 S3 q3 => ⟨J3, st3, lJ.trans l3, S3, q3⟩) fun e s3 hF => hF.elim

/-- what a clean value hands on when it is walked -/
noncomputable def IterOf (C : Cx) (a : CV) (st : CSt) (xs : List CV) : Prop := ∀ I v, VR I a v → Iterates C I st v xs

theorem WS.for_ {t iter body orelse pos} {Q : CF → CSt → Prop} (ok : C.Ok dep) (h : WE C iter st (fun a st1 => ∃ xs, IterOf C a st1 xs ∧ WFor C t body orelse xs st1 Q))
    (hs : ∀ x, foldedSetIterable iter C.env x = pure x := by intro _; rfl) : WS C (.For t iter body orelse pos) st Q := fun I => by
  simp only [exec_For]
  refine WL.bind (WL.standAt (WL.bind ((h I).mono (fun J v st1 _ hEl => ?_))))
  obtain ⟨a, r, xs, hi, hw⟩ := hEl
  rw [hs v]
  exact WL.bind (WL.pure (WL.bind (WL.standAt (for_W ok (hi J v r) hw))))
end
end Mine
open PySem PySem.W PySem.Calls PyProof.Rows
set_option Elab.async false
set_option linter.all false
set_option maxRecDepth 100000
set_option genSizeOf false
namespace Mine

section
variable {C : Cx} {KF I : IM} {st : CSt} {s : Shared}

/-- a walk by the sequence's iterator -/
theorem walk_list {xs : List CV} {us : Array Value} {l it : Addr} (hne : it ≠ l) :
    Walk C.prog C.w xs it (fun i J h => h.IsListIter it l i ∧ (∃ n, J l = some ⟨.type "list", .none, .seq us n, #[]⟩ ∧ h.get? l = some ⟨.type "list", .none, .seq us n, #[]⟩) ∧ VRs J xs us.toList) := by
  refine ⟨fun A J s i c E Q S ⟨h1, ⟨n, h2, h2'⟩, h3⟩ hc k => ?_, fun A J s E Q hA S ⟨h1, ⟨n, h2, h2'⟩, h3⟩ k => ?_, fun J J' h h' i ⟨h1, ⟨n, h2, h2'⟩, h3⟩ l k1 k2 => ?_, fun A J s i E Q ⟨h1, _⟩ q => wpAny_pyIter_listiter h1 q, fun J h i ⟨⟨o, h1, h2, _⟩, _⟩ => (in_2_2 o _ h1 h2 (by decide +kernel))⟩
  · (refine el_1_1 (h3.get hc) fun v hv hr => ?_)
    have hl : s.heap.IsList l us := (in_1_2 _ (S _ _ h2) rfl (in_1_0 n rfl))
    refine wpAny_pyNext_list_item h1 hl (x := v) (by simpa using hv) fun h' hit hs => ?_
    refine k h' s.toks v (in_0_2 hit (in_1_1 n h2 ((hs.2 l (Ne.symm hne)).trans (S _ _ h2))) h3) hr (fun b o hb e => (hs.2 b hb).trans e) ?_
    (refine el_1_1 hit fun o ho _ => ?_; try clear hit); exact (in_1_0 o ho)
  · have hl : s.heap.IsList l us := (in_1_2 _ (S _ _ h2) rfl (in_1_0 n rfl))
    refine wpAny_pyNext_list_end hA h1 hl ?_ fun h' hs => k h' s.toks fun b o hb e => hs b o hb e
    rw [Array.getElem?_eq_none_iff, h3.length]; simp
  · (refine el_1_2 h1 fun o a1 a2 a3 => ?_; try clear h1)
    exact (in_0_2 (in_1_2 _ (k1 o a1) a2 a3) (in_1_1 n (l _ _ h2) (k2 _ _ h2 h2')) (VRs.mono l _ _ h3))
theorem walk_tup {xs : List CV} {us : Array Value} {l it : Addr} (hne : it ≠ l) :
    Walk C.prog C.w xs it (fun i J h => h.IsTupleIter it l i ∧ (∃ n, J l = some ⟨.type "tuple", .none, .seq us n, #[]⟩ ∧ h.get? l = some ⟨.type "tuple", .none, .seq us n, #[]⟩) ∧ VRs J xs us.toList) := by
  refine ⟨fun A J s i c E Q S ⟨h1, ⟨n, h2, h2'⟩, h3⟩ hc k => ?_, fun A J s E Q hA S ⟨h1, ⟨n, h2, h2'⟩, h3⟩ k => ?_, fun J J' h h' i ⟨h1, ⟨n, h2, h2'⟩, h3⟩ l k1 k2 => ?_, fun A J s i E Q ⟨h1, _⟩ q => wpAny_pyIter_tupleiter h1 q, fun J h i ⟨⟨o, h1, h2, _⟩, _⟩ => (in_2_2 o _ h1 h2 (by decide +kernel))⟩
  · (refine el_1_1 (h3.get hc) fun v hv hr => ?_)
    have hl : s.heap.IsTuple l us := (in_1_2 _ (S _ _ h2) rfl (in_1_0 n rfl))
    refine wpAny_pyNext_tuple_item h1 hl (x := v) (by simpa using hv) fun h' hit hs => ?_
    refine k h' s.toks v (in_0_2 hit (in_1_1 n h2 ((hs.2 l (Ne.symm hne)).trans (S _ _ h2))) h3) hr (fun b o hb e => (hs.2 b hb).trans e) ?_
    (refine el_1_1 hit fun o ho _ => ?_; try clear hit); exact (in_1_0 o ho)
  · have hl : s.heap.IsTuple l us := (in_1_2 _ (S _ _ h2) rfl (in_1_0 n rfl))
    refine wpAny_pyNext_tuple_end hA h1 hl ?_ fun h' hs => k h' s.toks fun b o hb e => hs b o hb e
    rw [Array.getElem?_eq_none_iff, h3.length]; simp
  · (refine el_1_2 h1 fun o a1 a2 a3 => ?_; try clear h1)
    exact (in_0_2 (in_1_2 _ (k1 o a1) a2 a3) (in_1_1 n (l _ _ h2) (k2 _ _ h2 h2')) (VRs.mono l _ _ h3))

theorem IterOf.lst {xs : List CV} : IterOf C (.lst xs) st xs := fun I v r A KF s E Q S k => by
  simp only [VR] at r
  (refine el_3_1 r fun l n us xEl3 rEl => ?_; try clear r; obtain rfl := xEl3; (refine el_0_1 rEl fun hi hr => ?_; try clear rEl))
  have hl : s.heap.IsList l us := (in_1_2 _ (S.imm _ _ hi) rfl (in_1_0 n rfl))
  refine wpAny_pyIter_list hl ?_
  have hne : s.heap.objs.size ≠ l := Nat.ne_of_gt (Heap.lt_size (S.imm _ _ hi))
  have hg := Heap.get?_push_size s.heap (o := { cls := .type "list_iterator", data := .fields #[.ref l, .int 0 0] }) rfl
  exact k _ s.toks _ _ (walk_list hne) (in_0_2 (in_1_2 _ hg rfl rfl) (in_1_1 n hi (Heap.get?_push_of_some _ (S.imm _ _ hi))) hr) (heap_size _) (in_1_0 _ hg) fun b o e => Heap.get?_push_of_some _ e
theorem IterOf.tup {xs : List CV} : IterOf C (.tup xs) st xs := fun I v r A KF s E Q S k => by
  simp only [VR] at r
  (refine el_3_1 r fun l n us xEl3 rEl => ?_; try clear r; obtain rfl := xEl3; (refine el_0_1 rEl fun hi hr => ?_; try clear rEl))
  have hl : s.heap.IsTuple l us := (in_1_2 _ (S.imm _ _ hi) rfl (in_1_0 n rfl))
  refine wpAny_pyIter_tuple hl ?_
  have hne : s.heap.objs.size ≠ l := Nat.ne_of_gt (Heap.lt_size (S.imm _ _ hi))
  have hg := Heap.get?_push_size s.heap (o := { cls := .type "tuple_iterator", data := .fields #[.ref l, .int 0 0] }) rfl
  exact k _ s.toks _ _ (walk_tup hne) (in_0_2 (in_1_2 _ hg rfl rfl) (in_1_1 n hi (Heap.get?_push_of_some _ (S.imm _ _ hi))) hr) (heap_size _) (in_1_0 _ hg) fun b o e => Heap.get?_push_of_some _ e

/-- the ints of a range by ones -/
noncomputable def rints (a b : Int) : List CV := (List.range (b - a).toNat).map fun i => CV.int (a + (i : Nat))
theorem rints_length (a b : Int) : (rints a b).length = (b - a).toNat := by simp [rints]
theorem walk_rng {a b : Int} {it : Addr} :
    Walk C.prog C.w (rints a b) it (fun i J h => IsRangeIter h it (a + (i : Nat)) (((b - a).toNat : Int) - (i : Nat)) 1 ∧ i ≤ (b - a).toNat) := by
  refine ⟨fun A J s i c E Q S ⟨h1, h2⟩ hc k => ?_, fun A J s E Q hA S ⟨h1, h2⟩ k => ?_, fun J J' h h' i ⟨h1, h2⟩ l k1 k2 => ⟨k1 _ h1, h2⟩, fun A J s i E Q ⟨h1, _⟩ q => wpAny_pyIter_rangeiter h1 q, fun J h i ⟨h1, _⟩ => (in_2_2 _ _ h1 rfl (by decide +kernel))⟩
  · obtain ⟨hlt, rfl⟩ : i < (b - a).toNat ∧ CV.int (a + (i : Nat)) = c := by
      have := (List.getElem?_eq_some_iff.mp hc)
      (refine el_1_0 this fun h1 h2 => ?_; try clear this)
      rw [rints_length] at h1
      exact ⟨h1, by rw [← h2]; simp [rints]⟩
    refine wpAny_pyNext_range_item h1 (by omega +splitDisjunctions) fun h' hit hs => ?_
    refine k h' _ _ ⟨?_, hlt⟩ (by simp [VR]) (fun b o hb e => (hs.2 b hb).trans e) (in_1_0 _ hit)
    have e1 : a + ((i : Nat) : Int) + 1 = a + ((i + 1 : Nat) : Int) := by omega
    have e2 : ((b - a).toNat : Int) - ((i : Nat) : Int) - 1 = ((b - a).toNat : Int) - ((i + 1 : Nat) : Int) := by omega
    rw [← e1, ← e2]; exact hit
  · rw [rints_length] at h1
    exact wpAny_pyNext_range_end hA h1 (by simp) fun h' he => k h' s.toks fun b o hb e => he b o hb e
theorem IterOf.rng {a b : Int} (ha : -(2 ^ 62) ≤ a ∧ a < 2 ^ 62) (hb : -(2 ^ 62) ≤ b ∧ b < 2 ^ 62) : IterOf C (.rng a b) st (rints a b) := fun I v r A KF s E Q S k => by
  simp only [VR] at r
  (refine el_4_1 r fun ad t u x xEl4 hi => ?_; try clear r; obtain rfl := xEl4)
  have hr : IsRange s.heap ad a b 1 t u x := S.imm _ _ hi
  refine wpAny_pyIter_range hr (small_one ha.1 ha.2 hb.1 hb.2) ?_
  have hsz : Builtin.Range.rangeSize a b 1 = ((b - a).toNat : Int) := by rw [rangeSize_one]; split <;> omega
  rw [hsz]
  have hg := Heap.get?_push_size s.heap (o := { cls := .type "range_iterator", data := .fields #[rawInt a, rawInt ((b - a).toNat : Int), rawInt 1] }) rfl
  refine k _ s.toks _ _ walk_rng ⟨by simpa using hg, Nat.zero_le _⟩ (heap_size _) (in_1_0 _ hg) fun b o e => Heap.get?_push_of_some _ e
end
end Mine
open PySem PySem.W PySem.Calls PyProof.Rows
set_option Elab.async false
set_option linter.all false
set_option maxRecDepth 100000
set_option genSizeOf false
namespace Mine

theorem bindL_other (kindOf : Str → Option NameKind) (x : Str) : ∀ (binds : List (Str × Value)) (m : Str → Option Value), (∀ b ∈ binds, b.1 ≠ x) → bindL kindOf binds m x = m x
  | [], m, _ => rfl
  | (n, v) :: r, m, h => by
    unfold bindL
    rw [bindL_other kindOf x r _ fun b hb => h b (List.mem_cons_of_mem _ hb)]
    split
    · have : x ≠ n := fun q => h (n, v) (by simp) q.symm
      simp [this]
    · rfl
theorem bindC_other (kindOf : Str → Option NameKind) (x : Str) : ∀ (binds : List (Str × Value)) (m : Str → Option Value), (∀ b ∈ binds, b.1 ≠ x) → bindC kindOf binds m x = m x
  | [], m, _ => rfl
  | (n, v) :: r, m, h => by
    unfold bindC
    rw [bindC_other kindOf x r _ fun b hb => h b (List.mem_cons_of_mem _ hb)]
    split
    · rfl
    · have : x ≠ n := fun q => h (n, v) (by simp) q.symm
      simp [this]
theorem bindL_of (kindOf : Str → Option NameKind) (x : Str) (u : Value) (hk : kindOf x = some .local) : ∀ (binds : List (Str × Value)) (m : Str → Option Value), (binds.map (·.1)).Nodup → binds.lookup x = some u → bindL kindOf binds m x = some u
  | [], m, _, h => by cases h
  | (n, v) :: r, m, hnd, h => by
    rw [List.map_cons, List.nodup_cons] at hnd
    unfold bindL
    simp only [List.lookup_cons] at h
    by_cases q : x = n
    · subst q
      simp at h; subst h
      rw [bindL_other _ _ _ _ fun b hb e => hnd.1 (List.mem_map.mpr (in_1_1 b hb e)), if_pos hk]; simp
    · have : (x == n) = false := by simpa using q
      rw [this] at h
      exact bindL_of kindOf x u hk r _ hnd.2 h
theorem bindC_of (kindOf : Str → Option NameKind) (x : Str) (u : Value) (hk : kindOf x ≠ some .local) : ∀ (binds : List (Str × Value)) (m : Str → Option Value), (binds.map (·.1)).Nodup → binds.lookup x = some u → bindC kindOf binds m x = some u
  | [], m, _, h => by cases h
  | (n, v) :: r, m, hnd, h => by
    rw [List.map_cons, List.nodup_cons] at hnd
    unfold bindC
    simp only [List.lookup_cons] at h
    by_cases q : x = n
    · subst q
      simp at h; subst h
      rw [bindC_other _ _ _ _ fun b hb e => hnd.1 (List.mem_map.mpr (in_1_1 b hb e)), if_neg hk]; simp
    · have : (x == n) = false := by simpa using q
      rw [this] at h
      exact bindC_of kindOf x u hk r _ hnd.2 h

theorem zip_lookup {I : IM} {x : Str} : ∀ {pn : List Str} {cs : List CV} {us : List Value} {c : CV}, VRs I cs us → (pn.zip cs).lookup x = some c → ∃ u, (pn.zip us).lookup x = some u ∧ VR I c u
  | [], cs, us, c, r, h => by cases h
  | p :: pn, [], us, c, r, h => by cases h
  | p :: pn, d :: cs, us, c, r, h => by
    (refine el_2_1 r.uncons fun u us' xEl2 rEl => ?_; obtain rfl := xEl2; (refine el_0_1 rEl fun r1 r2 => ?_; try clear rEl))
    simp only [List.zip_cons_cons, List.lookup_cons] at h ⊢
    split at h
    · cases h; exact (in_1_1 u rfl r1)
    · exact zip_lookup r2 h
theorem zip_map_fst {α β : Type} : ∀ (l : List α) (r : List β), ((l.zip r).map (·.1)).Sublist l
  | [], r => by simp
  | a :: l, [] => by simp
  | a :: l, b :: r => by simp [zip_map_fst l r]

/-- the data of a def, laid at the top -/
structure FnAt (C : Cx) (fa : Addr) (fd : FuncData) (body : List Stmt) : Prop where
  at_ : ∃ o, C.base.get? fa = some o ∧ o.data = .func fd
  code : C.base.CodeRec fd.code fd.qualname
  body : fd.body = .stmts body
  clo : fd.closure = []
  gl : fd.globals = mainGlobals
  bl : fd.builtins = builtinsNs
  co : fd.scope.isCoroutine = false
  gen : fd.scope.isGenerator = false
  kind : fd.scope.kind = .function

/-- the part of a context that a call keeps -/
structure Cx.Same (C C' : Cx) : Prop where
  prog : C'.prog = C.prog
  w : C'.w = C.w
  base : C'.base = C.base
  K : C'.K = C.K
  mg : C'.mg = C.mg
  mb : C'.mb = C.mb
  s0 : C'.s0 = C.s0

/-- a call, by keywords or none -/
noncomputable def WCall (C : Cx) (f : Value) (args : List CV) (kn : List Str) (ks : List CV) (st : CSt) (Q : CV → CSt → Prop) : Prop :=
  ∀ I us vs, VRs I args us → VRs I ks vs → WL C (call f us (kn.zip vs)) I st (fun J r st' => ValP J r Q st')

noncomputable def CF.val : CF → CV
  | .ret v => v
  | _ => .none

section
variable {C : Cx} {dep : Nat} {KF I : IM} {st : CSt} {s : Shared}

open Classical in
theorem codeCall_W {fa : Addr} {fd : FuncData} {body : List Stmt} {args ks : List CV} {kn pn : List Str} {Q : CV → CSt → Prop} (ok : C.Ok (dep + 1)) (fn : FnAt C fa fd body)
    (hb : ∀ us vs : List Value, us.length = args.length → vs.length = ks.length → bindArgs fd ⟨us, kn.zip vs⟩ = pure (pn.zip (us ++ vs)))
    (hkind : (pn.all fun x => storeKind (fd.scope.names.lookup x)) = true) (hnd : pn.Nodup) (hfree : (fd.scope.names.all fun x => x.2 != .free) = true)
    (hcn : ((fd.scope.names.filter fun x => x.2 == .cell).map (·.1)).Nodup)
    (h : ∀ C' : Cx, C'.Ok dep → C.Same C' → C'.env.scope = fd.scope → WSs C' body ⟨fun x => (pn.zip (args ++ ks)).lookup x, st.H⟩ (fun f st' => Q f.val ⟨st.lo, st'.H⟩)) :
    ∀ I us vs, VRs I args us → VRs I ks vs → ∀ KF s, SR C KF I st s → codeAny (model C.prog C.w) C.A (.call (.ref fa) ⟨us, kn.zip vs⟩) (fun r s' => match r with
      | .ok (.ret v) => OkP C KF I s' fun I' st' => ValP I' v Q st'
      | .ok _ => False
      | .error e => ErP C KF I false e s') s := fun I us vs r1 r2 KF s S => by
  (refine el_1_1 fn.at_ fun fo hfo hfd => ?_)
  have bk : ∀ b o, C.base.get? b = some o → s.heap.get? b = some o := fun b o e => S.imm b o (S.base b o e)
  have lu := r1.length
  have lv := r2.length
  refine codeAny_call_function (A := C.A) (by have := ok.depth; omega) (bk _ _ hfo) hfd fn.co fn.gen fn.body (fn.code.keeps bk) ?_
  rw [hb us vs lu.symm lv.symm]
  refine wpAny_pure ?_
  rw [fn.clo, fn.gl, fn.bl]
  have rr := r1.append r2
  refine wpAny_newFunctionEnv_cells fn.kind (fun x hx => ?_) fun env' he s₁ x => ?_
  · have hm : x.1 ∈ pn := by
      have := List.mem_map_of_mem (f := Prod.fst) hx
      exact (zip_map_fst _ _).subset this
    have := List.all_eq_true.mp hkind _ hm
    cases q : fd.scope.names.lookup x.1 with
    | none => rw [q] at this; cases this
    | some k =>
      rw [q] at this
      cases k <;> first | exact .inl rfl | (cases this; done) | skip
      exact .inr ⟨rfl, cellsFrom_some _ _ _ (.inl q)⟩
  (refine el_2_0 x.toInCall.same fun h₁ tk₁ hs₁ => ?_)
  have keep := x.toInCall.keep
  have hL : env'.locals = s.heap.objs.size := by rw [he]; rfl
  have hcl : env'.cells = cellsFrom (s.heap.objs.size + 1) fd.scope.names [] := by rw [he]; rfl
  have hsc : env'.scope = fd.scope := by rw [he]; rfl
  have hfr : env'.frame = some env'.locals := by rw [he]; rfl
  have hgl : env'.globals = mainGlobals := by rw [he]; rfl
  have hbl : env'.builtins = builtinsNs := by rw [he]; rfl
  have hkd : ∀ y, env'.kindOf y = fd.scope.names.lookup y := fun y => by unfold Env.kindOf; rw [hsc]
  have noGet : ∀ a, s.heap.objs.size ≤ a → s.heap.get? a = none := fun a ha => by
    cases q : s.heap.get? a with
    | none => rfl
    | some o => exact absurd (Heap.lt_size q) (Nat.not_lt.mpr ha)
  have noL : s.heap.get? env'.locals = none := by rw [hL]; exact noGet _ (Nat.le_refl _)
  -- the context of the call
  let KFc : IM := fun a => if C.Own a then s.heap.get? a else C.KF a
  let KF' : IM := fun a => if C.Own a then s.heap.get? a else KF a
  let C' : Cx := { C with A := C.A.deeper env', env := env', KF := KFc }
  have own' : ∀ a, C'.Own a → s.heap.get? a = none := by
    intro a ha
    (refine Or.elim ha (fun ha => ?aElo) (fun xElo => ?bElo); (case' bElo => try clear ha; (refine el_1_1 xElo fun y hy hl => ?_; try clear xElo)); (case' aElo => skip))
    · exact (congrArg s.heap.get? ha).trans noL
    · have := x.above y a (mem_of_lookup hl)
      rw [hL] at this; exact noGet a (Nat.le_of_lt this)
  have apart := x.apart
  have names : ∀ y c, env'.kindOf y = some .cell → env'.cells.lookup y = some c → (y, c) ∈ env'.cells := fun y c _ h => mem_of_lookup h
  have ok' : C'.Ok dep := by
    refine ⟨by show env'.scope.kind = _; rw [hsc]; exact fn.kind, hgl, hbl, ok.K, ok.g, ok.b, ok.nolimit, ok.boot, ok.hd, ?_, ?_, fun y z c hy hz h1 h2 => ?_, fun y hy h1 => ?_, ?_⟩
    · show C.A.units + 3 + _ + 200 < cLine
      have := ok.units; omega
    · show C.A.depth + 1 + _ + 20 < recursionLimit
      have := ok.depth; omega
    · exact name_of_addr apart (mem_of_lookup h1) (mem_of_lookup h2)
    · have := x.above y _ (mem_of_lookup h1)
      exact absurd this (Nat.lt_irrefl _)
    · show C.base.get? env'.locals = none
      cases q : C.base.get? env'.locals with
      | none => rfl
      | some o => rw [bk _ _ q] at noL; cases noL
  have S' : SR C' KF' I ⟨fun x => (pn.zip (args ++ ks)).lookup x, st.H⟩ s₁ := by
    refine ⟨fun a o e => ?_, S.low, ?_, S.base, fun a o e => keep a o (S.imm a o e), fun a o e => ?_, fun a ha => ?_, fun a c e => ?_, ?_⟩
    · change (if C.Own a then s.heap.get? a else C.KF a) = some o at e
      show (if C.Own a then s.heap.get? a else KF a) = some o
      by_cases q : C.Own a
      · rw [if_pos q] at e ⊢; exact e
      · rw [if_neg q] at e ⊢; exact S.kle a o e
    · (refine el_3_0 S.same fun h0 t0 d0 e0 => ?_)
      exact (in_3_0 h₁ tk₁ d0 (by rw [hs₁, e0]))
    · change (if C.Own a then s.heap.get? a else KF a) = some o at e
      by_cases q : C.Own a
      · rw [if_pos q] at e
        exact ⟨(S.own a q).1, keep a o e⟩
      · rw [if_neg q] at e
        (refine el_0_1 (S.frs a o e) fun h1 h2 => ?_)
        exact ⟨h1, keep a _ h2⟩
    · have hn := own' a ha
      (refine el_0_3 (S.fresh hn) fun h1 h2 h3 h4 => ?_)
      exact (in_0_2 h1 (by show (if C.Own a then _ else _) = _; rw [if_neg h4]; exact h2) h3)
    · (refine el_0_2 (S.mu a c e) fun h1 h2 rEl => ?_; (refine el_1_1 rEl fun o h3 h4 => ?_; try clear rEl))
      refine (in_0_2 h1 ?_ (in_1_1 o (keep a o h3) h4))
      show (if C.Own a then _ else _) = _
      rw [if_neg fun q => by have := (S.own a q).2.2; rw [e] at this; cases this]; exact h2
    · have ndz : ((pn.zip (us ++ vs)).map (·.1)).Nodup := (zip_map_fst _ _).nodup hnd
      refine ⟨(in_1_1 _ x.toInCall.ns (fun y v hy hky => ?_)), fun y v hy hky => ?_, fun y v hy hky => ?_, fun y hky => ?_⟩
      · (refine el_1_1 (zip_lookup rr hy) fun u h1 h2 => ?_)
        exact (in_1_1 u (bindL_of _ y u hky _ _ ndz h1) h2)
      · (refine el_1_1 (zip_lookup rr hy) fun u h1 h2 => ?_)
        obtain ⟨c, hc⟩ : ∃ c, env'.cells.lookup y = some c := by
          rw [hcl]; exact Option.isSome_iff_exists.mp (cellsFrom_some _ _ _ (.inl ((hkd y).symm.trans hky)))
        refine (in_2_2 c u hc ?_ h2)
        have hce := x.cell y c hc
        rwa [bindC_of _ y u (by rw [hky]; decide) _ _ ndz h1] at hce
      · exfalso
        change env'.kindOf y = _ at hky
        rw [hkd y] at hky
        have := List.all_eq_true.mp hfree (y, .free) (mem_of_lookup hky)
        simp at this
      · obtain ⟨c, hc⟩ : ∃ c, env'.cells.lookup y = some c := by
          rw [hcl]; exact Option.isSome_iff_exists.mp (cellsFrom_some _ _ _ (.inl ((hkd y).symm.trans hky)))
        exact (in_2_1 c _ hc (x.cell y c hc))
  -- back
  have back : ∀ {J st' s'}, ILe I J → SR C' KF' J st' s' → SR C KF J ⟨st.lo, st'.H⟩ s' := by
    intro J st' s' lJ S2
    have frs2 : ∀ a, C.Own a → ∀ o, s.heap.get? a = some o → J a = none ∧ s'.heap.get? a = some o := fun a q o e => S2.frs a o (by show (if C.Own a then _ else _) = _; rw [if_pos q]; exact e)
    have ownGet : ∀ a, C.Own a → ∃ o, s.heap.get? a = some o := fun a q => S.ownNo q
    have cellK : ∀ y c v, C.env.kindOf y = some .cell → C.env.cells.lookup y = some c → s.heap.IsCell c v → s'.heap.IsCell c v := fun y c v hy hl ⟨o, ho, hd⟩ => by
      (refine el_0_1 (frs2 c (.inr (in_1_1 y hy hl)) o ho) fun _ e => ?_)
      exact (in_1_1 _ e hd)
    refine ⟨S.kle, S2.low, S2.same, S2.base, S2.imm, fun a o e => ?_, fun a ha => ?_, fun a c e => ?_, ?_⟩
    · have hq : ¬ C.Own a := fun q => by have := (S.own a q).2.1; rw [e] at this; cases this
      exact S2.frs a o (by show (if C.Own a then _ else _) = _; rw [if_neg hq]; exact e)
    · (refine el_1_0 (ownGet a ha) fun o ho => ?_)
      refine (in_0_2 ((frs2 a ha o ho).1) ((S.own a ha).2.1) ?_)
      show st'.H a = none
      cases q : st'.H a with
      | none => rfl
      | some c =>
        have := (S2.mu a c q).2.1
        change (if C.Own a then s.heap.get? a else KF a) = none at this
        rw [if_pos ha, ho] at this; cases this
    · (refine el_0_2 (S2.mu a c e) fun h1 h2 h3 => ?_)
      refine (in_0_2 h1 ?_ h3)
      change (if C.Own a then s.heap.get? a else KF a) = none at h2
      by_cases q : C.Own a
      · exact (S.own a q).2.1
      · rw [if_neg q] at h2; exact h2
    · obtain ⟨⟨m, ⟨oL, es, ep, hL', hd, hr⟩, h1⟩, h2, h3, h4⟩ := S.loc.mono lJ
      (refine el_0_1 (frs2 _ (.inl rfl) oL hL') fun _ eL => ?_)
      refine ⟨(in_1_1 m (in_3_2 _ es ep eL hd hr) h1), fun y v e hk => ?_, h3, fun y hy => ?_⟩
      · (refine el_2_2 (h2 y v e hk) fun c u a1 a2 a3 => ?_); exact (in_2_2 c u a1 (cellK y c _ hk a1 a2) a3)
      · (refine el_2_1 (h4 y hy) fun c v0 a1 a2 => ?_); exact (in_2_1 c v0 a1 (cellK y c _ hy a1 a2))
  refine ⟨(ok.nolimit.keeps bk).keeps keep, ?_⟩
  refine codeAny_func ?_
  refine wpAny_mono (h C' ok' ⟨rfl, rfl, rfl, rfl, rfl, rfl, rfl⟩ hsc I KF' s₁ S') (fun f s2 hh => hh.use fun J st2 l2 S2 hv => hv.use fun b hb2 q2 => ?_) fun e s2 hF => hF.elim
  · refine ⟨J, ⟨st.lo, st2.H⟩, l2, back l2 S2, b.val, ?_, q2⟩
    cases b with
    | next => cases hb2; rfl
    | brk => cases hb2; rfl
    | cont => cases hb2; rfl
    | ret c => (refine el_1_1 hb2 fun u xEl1 r => ?_; try clear hb2; obtain rfl := xEl1); exact r
theorem call_W {fa : Addr} {fd : FuncData} {body : List Stmt} {args ks : List CV} {kn pn : List Str} {Q : CV → CSt → Prop} (ok : C.Ok (dep + 1)) (fn : FnAt C fa fd body)
    (hb : ∀ us vs : List Value, us.length = args.length → vs.length = ks.length → bindArgs fd ⟨us, kn.zip vs⟩ = pure (pn.zip (us ++ vs)))
    (hkind : (pn.all fun x => storeKind (fd.scope.names.lookup x)) = true) (hnd : pn.Nodup) (hfree : (fd.scope.names.all fun x => x.2 != .free) = true)
    (hcn : ((fd.scope.names.filter fun x => x.2 == .cell).map (·.1)).Nodup)
    (h : ∀ C' : Cx, C'.Ok dep → C.Same C' → C'.env.scope = fd.scope → WSs C' body ⟨fun x => (pn.zip (args ++ ks)).lookup x, st.H⟩ (fun f st' => Q f.val ⟨st.lo, st'.H⟩)) :
    WCall C (.ref fa) args kn ks st Q := fun I us vs r1 r2 KF s S =>
  wpAny_call (codeCall_W ok fn hb hkind hnd hfree hcn h I us vs r1 r2 KF s S)
end
end Mine
open PySem PySem.W PySem.Calls PyProof.Rows
set_option Elab.async false
set_option linter.all false
set_option maxRecDepth 100000
set_option genSizeOf false
namespace Mine

noncomputable def WIfs (C : Cx) : List Expr → CSt → (Bool → CSt → Prop) → Prop
  | [], st, Q => Q true st
  | c :: cs, st, Q => WT C c st (fun b st1 => cond b (WIfs C cs st1 Q) (Q false st1))

/-- the turns of one `for` of a comprehension; what is gathered goes along -/
noncomputable def WCI (C : Cx) (emit : CSt → List CV → (List CV → CSt → Prop) → Prop) (t : Expr) (ifs : List Expr) : List CV → CSt → List CV → (List CV → CSt → Prop) → Prop
  | [], st, acc, Q => Q acc st
  | x :: xs, st, acc, Q => WA C (assign t C.env) x st (fun st1 => WIfs C ifs st1 (fun ok st2 =>
      cond ok (emit st2 acc (fun acc' st3 => WCI C emit t ifs xs st3 acc' Q)) (WCI C emit t ifs xs st2 acc Q)))
noncomputable def emitOf (C : Cx) (elt : Expr) : List Comprehension → CSt → List CV → (List CV → CSt → Prop) → Prop
  | [], st, acc, Q => WE C elt st (fun v st' => acc.length < 2 ^ 24 ∧ Q (acc ++ [v]) st')
  | g :: gs, st, acc, Q => WE C g.iter st (fun a st1 => ∃ ys, IterOf C a st1 ys ∧ WCI C (emitOf C elt gs) g.target g.ifs ys st1 acc Q)

section
variable {C : Cx} {dep : Nat} {KF I J : IM} {st : CSt} {s : Shared}

/-- the list that is gathered -/
structure AccAt (C : Cx) (D : Addr) (ys : List CV) (J KF : IM) (st : CSt) (s : Shared) : Prop where
  at_ : ∃ n xs, s.heap.get? D = some ⟨.type "list", .none, .seq xs n, #[]⟩ ∧ VRs J ys xs.toList
  i : J D = none
  k : KF D = none
  h : st.H D = none
  o : ¬ C.Own D

theorem iput_ne {I : IM} {a b : Addr} {o : Obj} (h : b ≠ a) : iput I a o b = I b := by simp [iput, h]

theorem wpAny_append_exact {prog : Program} {w : World} {A : Around} {E : Value → Shared → Prop} {l : Addr} {xs : Array Value} {n : Nat} {x : Value} {Q : Value → Shared → Prop} (hl : s.heap.get? l = some ⟨.type "list", .none, .seq xs n, #[]⟩)
    (hQ : ∀ h', h'.get? l = some ⟨.type "list", .none, .seq (xs.push x) (n + 1), #[]⟩ → Heap.SameBut l s.heap h' → Q .none { s with heap := h' }) (hsz : xs.size ≤ sizeLine) :
    wpAny (model prog w) A (call (.builtin "list.append") [.ref l, x]) Q E s := by
  have hl' : s.heap.IsList l xs := (in_1_2 _ hl rfl (in_1_0 n rfl))
  refine wpAny_call_entry slot_list_append hl'.typeIs entry_list_append ?_ (args_list_append _ _)
  show wpAny _ _ (updateSeq l (·.push x) >>= fun _ => ret .none) _ _ s
  refine wpAny_bind ?_
  refine wpAny_updateSeq hl rfl (wpAny_pure (in_1_1 (.none) rfl (hQ _ ?_ (Heap.SameBut.update ..))))
  have := Heap.get?_update_self (Obj.mapSeq (·.push x)) hl rfl
  rw [this]; simp [Obj.mapSeq]


theorem compTurn_eq (elt gens scope pos depth it acc env) (g : Comprehension) (hg : gens[depth]? = some g) (ha : g.is_async = 0) : compTurn (.ListComp elt gens scope pos) depth it acc env = (do
      standAt g.iter.pos
      match ← pyNext it with
      | none => pure (.done .next)
      | some v =>
        letOwnedTupleGo g.target it v
        assign g.target env v
        let ok ← forIn g.ifs true fun c r => if r = true then do let ok ← PySem.isTrue c env (eval c env); pure (ForInStep.yield ok) else pure (ForInStep.yield r)
        if ok = true then
          match gens[depth + 1]? with
          | some g' => do
            let x ← eval g'.iter env
            standAt g'.iter.pos
            if (g'.is_async != 0) = true then do
              let x ← foldedIterable g'.iter x
              let _ ← runOwn (.compStart (.ListComp elt gens scope pos) (depth + 1) (← holding [x] (if (g'.is_async != 0) = true then asyncIter x else pyIter x)) acc env) env
              again (.compLoop (.ListComp elt gens scope pos) depth it acc env)
            else do
              let x ← foldedSetIterable g'.iter env x
              let _ ← runOwn (.compStart (.ListComp elt gens scope pos) (depth + 1) (← holding [x] (if (g'.is_async != 0) = true then asyncIter x else pyIter x)) acc env) env
              again (.compLoop (.ListComp elt gens scope pos) depth it acc env)
          | none => ((eval elt env >>= fun x => call (.builtin "list.append") [acc, x] >>= fun _ => pure ()) >>= fun _ : PUnit => again (.compLoop (.ListComp elt gens scope pos) depth it acc env))
        else again (.compLoop (.ListComp elt gens scope pos) depth it acc env)) := by
  unfold compTurn
  dsimp only
  rw [hg]
  dsimp only
  rw [ha]
  simp only [bne_self_eq_false, Bool.false_eq_true, if_false]
  rfl

theorem WIfs.all : ∀ {cs : List Expr} {st : CSt} {Q : Bool → CSt → Prop}, WIfs C cs st Q → ∀ I, WL C (forIn cs true fun c r => if r = true then do let ok ← PySem.isTrue c C.env (eval c C.env); pure (ForInStep.yield ok) else pure (ForInStep.yield r)) I st (fun _ b st' => Q b st')
  | [], st, Q, h, I => by simp only [List.forIn_nil]; exact WL.pure h
  | c :: cs, st, Q, h, I => by
    rw [List.forIn_cons]
    simp only [if_true]
    refine WL.bind (WL.bind ((h I).mono (fun J b st1 _ q => ?_)))
    refine WL.pure ?_
    cases b with
    | true => exact WIfs.all q J
    | false =>
      have : ∀ cs : List Expr, (forIn cs false fun c r => if r = true then do let ok ← PySem.isTrue c C.env (eval c C.env); pure (ForInStep.yield ok) else pure (ForInStep.yield r) : Sem Bool) = pure false := by
        intro cs
        induction cs with
        | nil => rfl
        | cons c cs ih => rw [List.forIn_cons]; simp only [Bool.false_eq_true, if_false, pure_bind]; exact ih
      show WL C (forIn cs false _) J st1 _
      rw [this cs]
      exact WL.pure q

/-- the list is gathered -/
inductive AcP (C : Cx) (KF I : IM) (D : Addr) (s' : Shared) (Q : List CV → CSt → Prop) : Prop
  | mk (J : IM) (st' : CSt) (ys : List CV) (l : ILe I J) (S : SR C KF J st' s') (A : AccAt C D ys J KF st' s') (q : Q ys st')

/-- what a comprehension's activations hand back -/
noncomputable def CompPost (C : Cx) (I KF : IM) (D : Addr) (Q : List CV → CSt → Prop) (r : Result) (s' : Shared) : Prop :=
  match r with
  | .ok _ => AcP C KF I D s' Q
  | .error e => ErP C KF I true e s'

theorem compStart_of {elt : Expr} {gens : List Comprehension} {scope : Scope} {pos : Pos} {depth : Nat} {it acc : Value} {env : Env} {R : Result → Shared → Prop} {M : Program} {w : World} {A : Around} {g : Comprehension}
    (hg : gens[depth]? = some g) (ha : g.is_async = 0)
    (h0 : codeAny (model M w) A (.compLoop (.ListComp elt gens scope pos) depth it acc env) R s)
    (h : wpAny (model M w) A (pyIter it) (fun it' s' => codeAny (model M w) A (.compLoop (.ListComp elt gens scope pos) depth it' acc env) R s') (notedBy (model M w) A env fun x s' => R (.error x) s') s) :
    codeAny (model M w) A (.compStart (.ListComp elt gens scope pos) depth it acc env) R s := by
  refine codeAny_of_tree ?_
  show wpAny _ _ ((compStart (.ListComp elt gens scope pos) depth it acc env).onRaise (fun x => do noteFrame x env; standAt theWindowsPlace)) _ _ s
  refine wpAny_notedAt ?_
  unfold compStart
  have e1 : (((clausesOf (.ListComp elt gens scope pos))[depth]?).elim false fun x => x.is_async != 0) = false := by
    show ((gens[depth]?).elim false fun x => x.is_async != 0) = false
    rw [hg]; simp [ha]
  rw [e1]
  simp only [Bool.false_eq_true, if_false]
  have e2 : (clausesOf (.ListComp elt gens scope pos))[depth]? = some g := hg
  rw [e2]
  show wpAny _ _ (ask >>= _) _ _ s
  refine wpAny_bind (wpAny_askSetting (wpAny_ite ?_))
  split
  · first
      | exact wpAny_bind (wpAny_pure (wpAny_pure (And.intro rfl h0)))
      | exact wpAny_pure (And.intro rfl h0)
  · refine wpAny_bind (wpAny_rule ?_)
    show wpAny _ _ (standAt g.iter.pos >>= _) _ _ s
    exact wpAny_bind (wpAny_standAt (wpAny_bind (wpAny_mono h (fun it' s' h' => wpAny_pure (And.intro rfl h')) fun _ _ x => x)))

theorem compLoop_W {elt : Expr} {gens : List Comprehension} {scope : Scope} {pos : Pos} {D : Addr} (ok : C.Ok dep) (has : ∀ g ∈ gens, g.is_async = 0) (hfold : ∀ g ∈ gens, ∀ x, foldedSetIterable g.iter C.env x = pure x) :
    ∀ (depth : Nat) (g : Comprehension), gens.drop depth = [g] → ∀ (KF I J : IM) (st : CSt) (s : Shared) (xs : List CV) (it : Addr) (Dw) (i : Nat) (ys : List CV) (Q : List CV → CSt → Prop),
      ILe I J → Walk C.prog C.w xs it Dw → SR C KF J st s → AccAt C D ys J KF st s → Dw i J s.heap → (∃ o, s.heap.get? it = some o) → J it = none → KF it = none → st.H it = none → ¬ C.Own it → it ≠ D → i ≤ xs.length →
      WCI C (emitOf C elt []) g.target g.ifs (xs.drop i) st ys Q →
      codeAny (model C.prog C.w) C.A (.compLoop (.ListComp elt gens scope pos) depth (.ref it) (.ref D) C.env) (CompPost C I KF D Q) s := by
    intro depth g hdr KF I J st s xs it Dw i ys Q lJ W S AC hD hit n1 n2 n3 n4 hne hi hW
    have hg : gens[depth]? = some g := by
      have := congrArg List.head? hdr
      rwa [List.head?_drop] at this
    have hg1 : gens[depth + 1]? = none := by
      have : (gens.drop depth)[1]? = none := by rw [hdr]; rfl
      rwa [List.getElem?_drop] at this
    have hgm : g ∈ gens := List.mem_of_getElem? hg
    refine codeAny_loop rfl (fun n s' => ∃ i J st ys, n = xs.length - i ∧ i ≤ xs.length ∧ ILe I J ∧ SR C KF J st s' ∧ AccAt C D ys J KF st s' ∧ Dw i J s'.heap ∧ (∃ o, s'.heap.get? it = some o) ∧ J it = none ∧ st.H it = none ∧ WCI C (emitOf C elt []) g.target g.ifs (xs.drop i) st ys Q) ?_ (xs.length - i)
      ⟨i, J, st, ys, rfl, hi, lJ, S, AC, hD, hit, n1, n3, hW⟩
    clear lJ S AC hD hit n1 n3 hW hi i J st ys
    intro n s' hEl
    (refine el_4_1 hEl fun i J st ys xEl4 rEl => ?_; try clear hEl; obtain rfl := xEl4; (refine el_0_6 rEl fun hi lJ S AC hD yEl5 sEl => ?_; try clear rEl; obtain ⟨oi, hit⟩ := yEl5; obtain ⟨n1, n3, hW⟩ := sEl))
    have hU : C.A.under (.compLoop (.ListComp elt gens scope pos) depth (.ref it) (.ref D) C.env) = C.A := Around.under_of_weight rfl
    rw [hU]
    show wpAny _ C.A ((compTurn (.ListComp elt gens scope pos) depth (.ref it) (.ref D) C.env).onRaise (fun x => do noteFrame x C.env; theTreesLotGoes x)) _ _ s'
    refine wpAny_noted ?_
    rw [compTurn_eq _ _ _ _ _ _ _ _ g hg (has g hgm)]
    refine wpAny_bind (wpAny_standAt (wpAny_bind ?_))
    by_cases hlt : i < xs.length
    · obtain ⟨c, hc⟩ : ∃ c, xs[i]? = some c := (in_1_0 (xs[i]) (by simp [hlt]))
      have hdrop : xs.drop i = c :: xs.drop (i + 1) := by
        rw [List.drop_eq_getElem_cons hlt]
        rw [List.getElem?_eq_getElem hlt] at hc; cases hc; rfl
      rw [hdrop] at hW
      refine W.item _ J s' i c _ _ S.imm hD hc fun h₂ tk₂ u hD₂ hu hk₂ hEl => ?_
      (refine el_1_0 hEl fun o₂ ho₂ => ?_; try clear hEl)
      have S2 : SR C KF J st { s' with heap := h₂, toks := tk₂ } := S.heap fun a ob e hb => hk₂ a ob (fun q => notHeld hb q n1 n2 n3 n4) e
      obtain ⟨⟨nD, xD, hDo, hDr⟩, d1, d2, d3, d4⟩ := AC
      have hDo2 : h₂.get? D = some ⟨.type "list", .none, .seq xD nD, #[]⟩ := hk₂ D _ (Ne.symm hne) hDo
      -- both are hidden
      have S3 := S2.addK ho₂ n1 n2 n3 n4
      have d2' : iput KF it o₂ D = none := by rw [iput_ne (Ne.symm hne)]; exact d2
      have S4 := S3.addK (a := D) hDo2 d1 d2' d3 d4
      have l4 : ILe KF (iput (iput KF it o₂) D ⟨.type "list", .none, .seq xD nD, #[]⟩) := (iput_le n2).trans (iput_le d2')
      refine wpAny_bind (ownedGo_W W hD₂ ?_)
      refine wpAny_bind (wpAny_mono (hW J u hu _ _ S4) (fun _ s5 hh => hh.use fun J5 st5 l5 S5 q5 => ?_) fun e s5 hF => hF.elim)
      refine wpAny_bind (wpAny_mono (q5.all J5 _ _ S5) (fun b s6 hh => hh.use fun J6 st6 l6 S6 q6 => ?_) fun e s6 hF => hF.elim)
      have fin : ∀ {J7 st7 s7 ys7}, ILe I J7 → SR C KF J7 st7 s7 → ILe J J7 → AccAt C D ys7 J7 KF st7 s7 → s7.heap.get? it = some o₂ → J7 it = none → st7.H it = none → WCI C (emitOf C elt []) g.target g.ifs (xs.drop (i + 1)) st7 ys7 Q →
          ∃ m, m < xs.length - i ∧ ∃ i J st ys, m = xs.length - i ∧ i ≤ xs.length ∧ ILe I J ∧ SR C KF J st s7 ∧ AccAt C D ys J KF st s7 ∧ Dw i J s7.heap ∧ (∃ o, s7.heap.get? it = some o) ∧ J it = none ∧ st.H it = none ∧ WCI C (emitOf C elt []) g.target g.ifs (xs.drop i) st ys Q :=
        fun lI S7 lJ7 A7 hit7 m1 m3 hw => (in_1_1 (xs.length - (i + 1)) (by (exact Nat.sub_lt_sub_left (by assumption) (Nat.lt_succ_self _))) ⟨i + 1, _, _, _, rfl, hlt, lI, S7, A7, W.frame J _ h₂ _ (i + 1) hD₂ lJ7 (fun o' e => by rw [ho₂] at e; cases e; exact hit7) (fun a o' e1 e2 => S7.imm a o' (lJ7 a o' e1)), (in_1_0 _ hit7), m1, m3, hw⟩)
      have unhide : ∀ {J7 st7 s7}, SR C (iput (iput KF it o₂) D ⟨.type "list", .none, .seq xD nD, #[]⟩) J7 st7 s7 → s7.heap.get? it = some o₂ ∧ J7 it = none ∧ st7.H it = none ∧ s7.heap.get? D = some ⟨.type "list", .none, .seq xD nD, #[]⟩ ∧ J7 D = none ∧ st7.H D = none := by
        intro J7 st7 s7 S7
        have a1 := S7.iterIn
        (refine el_0_1 (S7.frs D ⟨.type "list", .none, .seq xD nD, #[]⟩ (by simp)) fun _ e1 => ?_)
        have kit : iput (iput KF it o₂) D ⟨.type "list", .none, .seq xD nD, #[]⟩ it = some o₂ := by rw [iput_ne hne]; simp
        (refine el_0_1 (S7.frs it o₂ kit) fun b1 e4 => ?_)
        refine (in_0_5 e4 b1 ?_ e1 a1.1 a1.2.1)
        cases e : st7.H it with
        | none => rfl
        | some c => have := (S7.mu it c e).2.1; rw [kit] at this; cases this
      have l6' := (l5.trans l6)
      cases b with
      | false =>
        simp only [Bool.false_eq_true, if_false]
        (refine el_0_5 (unhide S6) fun u1 u2 u3 u4 u5 u6 => ?_)
        exact wpAny_pure ⟨rfl, fin (lJ.trans l6') (S6.weakK l4 S.kle) l6' ⟨(in_2_1 nD xD u4 (VRs.mono l6' _ _ hDr)), u5, d2, u6, d4⟩ u1 u2 u3 q6⟩
      | true =>
        simp only [if_true]
        rw [hg1]
        refine wpAny_bind (wpAny_bind (wpAny_mono (q6 J6 _ _ S6) (fun v s7 ⟨J7, st7, l7, S7, cv, hv, hlen, q7⟩ => ?_) fun e s7 hF => hF.elim))
        (refine el_0_5 (unhide S7) fun u1 u2 u3 u4 u5 u6 => ?_)
        have lJ7 := l6'.trans l7
        have hDr7 := VRs.mono lJ7 _ _ hDr
        refine wpAny_bind (wpAny_append_exact u4 (fun h' e1 hs => ?_) (by rw [sizeLine_eq]; have := hDr7.length; simp at this; omega))
        have S7' := S7.weakK l4 S.kle
        have S8 : SR C KF J7 st7 { s7 with heap := h', toks := s7.toks } := S7'.heap fun a ob e hb => (hs.2 a fun q => notHeld hb q u5 d2 u6 d4).trans e
        refine wpAny_pure (wpAny_pure ⟨rfl, fin (lJ.trans lJ7) S8 lJ7 ⟨(in_2_1 (nD + 1) (xD.push v) e1 ?_), u5, d2, u6, d4⟩ ((hs.2 it hne).trans u1) u2 u3 q7⟩)
        rw [Array.toList_push]
        exact hDr7.append (.cons hv .nil)
    · have hin : i = xs.length := by (exact (Nat.le_antisymm (by assumption) (Nat.le_of_not_lt (by assumption))))
      subst hin
      refine W.fin _ J s' _ _ ok.hd S.imm hD fun h₂ tk₂ hk₂ => ?_
      have S2 : SR C KF J st { s' with heap := h₂, toks := tk₂ } := S.heap fun a ob e hb => hk₂ a ob (fun q => notHeld hb q n1 n2 n3 n4) e
      rw [List.drop_length] at hW
      obtain ⟨⟨nD, xD, hDo, hDr⟩, d1, d2, d3, d4⟩ := AC
      exact wpAny_pure ⟨J, st, ys, lJ, S2, ⟨(in_2_1 nD xD (hk₂ D _ (Ne.symm hne) hDo) hDr), d1, d2, d3, d4⟩, hW⟩
end
end Mine
open PySem PySem.W PySem.Calls PyProof.Rows
set_option Elab.async false
set_option linter.all false
set_option maxRecDepth 100000
set_option genSizeOf false
namespace Mine

noncomputable def cloL (env : Env) : List (Str × NameKind) → List (Str × Addr) → List (Str × Addr)
  | [], acc => acc
  | (n, k) :: r, acc => if k == .free then cloL env r ((n, (env.cells.lookup n).getD 0) :: acc) else cloL env r acc
theorem closureFor_eq {scope : Scope} {env : Env} (h : ∀ n k, (n, k) ∈ scope.names → k = .free → (env.cells.lookup n).isSome = true) : closureFor scope env = pure (cloL env scope.names []) := by
  unfold closureFor
  have main : ∀ (names : List (Str × NameKind)) (acc : List (Str × Addr)), (∀ n k, (n, k) ∈ names → k = .free → (env.cells.lookup n).isSome = true) →
      (forIn names acc fun x cs => (if (x.2 == NameKind.free) = true then do let a ← cellOf env x.1; pure (ForInStep.yield ((x.1, a) :: cs)) else pure (ForInStep.yield cs) : Sem _)) = pure (cloL env names acc) := by
    intro names
    induction names with
    | nil => intro acc _; rfl
    | cons x r ih =>
      intro acc hx
      obtain ⟨n, k⟩ := x
      rw [List.forIn_cons]
      unfold cloL
      by_cases hk : (k == NameKind.free) = true
      · (refine el_1_0 (Option.isSome_iff_exists.mp (hx n k (by simp) (beq_iff_eq.mp hk))) fun a ha => ?_)
        simp only [hk, if_true]
        unfold cellOf
        rw [ha]
        simp only [pure_bind, Option.getD_some]
        exact ih _ fun n' k' hm => hx n' k' (List.mem_cons_of_mem _ hm)
      · have hk' : (k == NameKind.free) = false := by simpa using hk
        simp only [hk', Bool.false_eq_true, if_false, pure_bind]
        exact ih _ fun n' k' hm => hx n' k' (List.mem_cons_of_mem _ hm)
  have := main scope.names [] h
  simpa using this
theorem cloL_acc (env : Env) (x : Str) : ∀ (names : List (Str × NameKind)) (acc : List (Str × Addr)), (∀ n k, (n, k) ∈ names → k = .free → n ≠ x) → (cloL env names acc).lookup x = acc.lookup x
  | [], acc, _ => rfl
  | (n, k) :: r, acc, h => by
    unfold cloL
    split
    · rename_i hk
      rw [cloL_acc env x r _ fun n' k' hm => h n' k' (List.mem_cons_of_mem _ hm)]
      have : (x == n) = false := by simpa using fun q : x = n => h n k (by simp) (beq_iff_eq.mp hk) q.symm
      simp only [List.lookup_cons, this]
    · exact cloL_acc env x r _ fun n' k' hm => h n' k' (List.mem_cons_of_mem _ hm)
theorem cloL_lookup (env : Env) (x : Str) : ∀ (names : List (Str × NameKind)) (acc : List (Str × Addr)), (names.map (·.1)).Nodup → names.lookup x = some .free → (env.cells.lookup x).isSome = true → (cloL env names acc).lookup x = env.cells.lookup x
  | [], acc, _, h, _ => by cases h
  | (n, k) :: r, acc, hnd, h, hs => by
    rw [List.map_cons, List.nodup_cons] at hnd
    simp only [List.lookup_cons] at h
    unfold cloL
    by_cases q : x = n
    · subst q
      simp at h; subst h
      simp only [beq_self_eq_true, if_true]
      rw [cloL_acc env x r _ fun n' k' hm _ e => hnd.1 (List.mem_map.mpr (in_1_1 (n', k') hm e))]
      (refine el_1_0 (Option.isSome_iff_exists.mp hs) fun a ha => ?_)
      simp [ha]
    · have : (x == n) = false := by simpa using q
      rw [this] at h
      split
      · exact cloL_lookup env x r _ hnd.2 h hs
      · exact cloL_lookup env x r _ hnd.2 h hs

theorem cellsFrom_app : ∀ (names : List (Str × NameKind)) (k : Nat) (acc : List (Str × Addr)), cellsFrom k names acc = cellsFrom k names [] ++ acc
  | [], k, acc => rfl
  | (n, kd) :: r, k, acc => by
    unfold cellsFrom
    split
    · rw [cellsFrom_app r (k + 1) ((n, k) :: acc), cellsFrom_app r (k + 1) [(n, k)]]; simp
    · exact cellsFrom_app r k acc
theorem cellsFrom_names' (x : Str) (c : Addr) : ∀ (names : List (Str × NameKind)) (k : Nat), (x, c) ∈ cellsFrom k names [] → (x, NameKind.cell) ∈ names
  | [], k, h => by simp [cellsFrom] at h
  | (n, kd) :: r, k, h => by
    unfold cellsFrom at h
    split at h
    · rename_i hk
      rw [cellsFrom_app] at h
      rcases List.mem_append.mp h with h | h
      · exact List.mem_cons_of_mem _ (cellsFrom_names' x c r _ h)
      · simp at h; rw [h.1, beq_iff_eq.mp hk]; simp
    · exact List.mem_cons_of_mem _ (cellsFrom_names' x c r _ h)
theorem lookup_app {α : Type} (x : Str) : ∀ (l r : List (Str × α)), (l ++ r).lookup x = (l.lookup x).or (r.lookup x)
  | [], r => by simp
  | (n, v) :: l, r => by
    simp only [List.cons_append, List.lookup_cons]
    split
    · rfl
    · exact lookup_app x l r

theorem relabel_lookup {scope : Scope} {env : Env} (x : Str) : (relabel scope env).names.lookup x = (scope.names.lookup x).map fun k => if (k == .free && env.scope.kind == .function && env.kindOf x == some .cell) = true then .cell else k := by
  unfold relabel
  show List.lookup x (List.map _ scope.names) = _
  induction scope.names with
  | nil => rfl
  | cons y r ih =>
    obtain ⟨n, k⟩ := y
    rw [List.map_cons]
    show List.lookup x ((if (k == NameKind.free && env.scope.kind == .function && env.kindOf n == some .cell) = true then (n, NameKind.cell) else (n, k)) :: _) = _
    by_cases hc : (k == NameKind.free && env.scope.kind == .function && env.kindOf n == some .cell) = true
    · rw [if_pos hc, List.lookup_cons, List.lookup_cons]
      by_cases hx : x = n
      · subst hx
        simp only [beq_self_eq_true, Option.map_some]
        rw [if_pos hc]
      · have hx' : (x == n) = false := by simpa using hx
        rw [hx']; exact ih
    · rw [if_neg hc, List.lookup_cons, List.lookup_cons]
      by_cases hx : x = n
      · subst hx
        simp only [beq_self_eq_true, Option.map_some]
        rw [if_neg hc]
      · have hx' : (x == n) = false := by simpa using hx
        rw [hx']; exact ih

theorem mem_of_lookupK {names : List (Str × NameKind)} {x : Str} {k : NameKind} (h : names.lookup x = some k) : (x, k) ∈ names := mem_of_lookup h
theorem lookup_of_memK : ∀ {names : List (Str × NameKind)} {x : Str} {k : NameKind}, (names.map (·.1)).Nodup → (x, k) ∈ names → names.lookup x = some k
  | (n, k') :: r, x, k, hnd, h => by
    rw [List.map_cons, List.nodup_cons] at hnd
    simp only [List.lookup_cons]
    rcases List.mem_cons.mp h with e | h
    · cases e; simp
    · have : (x == n) = false := by simpa using fun q : x = n => hnd.1 (List.mem_map.mpr (in_1_1 (x, k) h q))
      rw [this]; exact lookup_of_memK hnd.2 h

/-- the names of a comprehension's own block, as it begins -/
noncomputable def compLo (scope : Scope) (lo : Str → Option CV) : Str → Option CV := fun x => if scope.names.lookup x = some .free then lo x else none

section
variable {C : Cx} {dep : Nat} {KF I J : IM} {st : CSt} {s : Shared}

/-- the block of a comprehension, its source walked already -/
noncomputable def WComp (C : Cx) (dep : Nat) (elt : Expr) (g : Comprehension) (scope : Scope) (xs : List CV) (st : CSt) (Q : CV → CSt → Prop) : Prop :=
  ∀ C' : Cx, C'.Ok dep → C.Same C' → C'.env.scope = relabel scope C.env → WCI C' (emitOf C' elt []) g.target g.ifs xs ⟨compLo scope st.lo, st.H⟩ []
    (fun ys st2 => (∀ x, scope.names.lookup x = some .free → st2.lo x = st.lo x) ∧ (Q (.lst ys) ⟨st.lo, st2.H⟩ ∨ ∀ D, st2.H D = none → Q (.loc D) ⟨st.lo, hput st2.H D (.list ys)⟩))

open Classical in
theorem comp_W {elt : Expr} {g : Comprehension} {scope : Scope} {pos pos' : Pos} {use : Option (Value → Sem Unit)} {Q : IM → Value → CSt → Prop} (ok : C.Ok dep) (hk : scope.kind = .function)
    (hnd : (scope.names.map (·.1)).Nodup) (hcap : (scope.names.all fun x => x.2 != .free || C.env.kindOf x.1 == some .cell) = true) (has : ∀ g' ∈ [g], g'.is_async = 0)
    (hfold : ∀ g' ∈ [g], ∀ env x, foldedSetIterable g'.iter env x = pure x)
    {Qc : CV → CSt → Prop} (hq : ∀ c st2, Qc c st2 → match use with
      | none => ∀ J v, VR J c v → Q J v st2
      | some u => ∀ J v, VR J c v → WL C (u v) J st2 (fun J' _ st3 => Q J' .none st3))
    (h : WE C g.iter st (fun a st1 => ∃ xs, IterOf C a st1 xs ∧ WComp C dep elt g scope xs st1 Qc)) :
    WL C (comprehension (.ListComp elt [g] scope pos) scope C.env pos' (newList []) false (eval g.iter C.env) use) I st Q := fun KF s S => by
  have hfun := ok.fun_
  have capK : ∀ x, scope.names.lookup x = some .free → C.env.kindOf x = some .cell := fun x hx => by
    have := List.all_eq_true.mp hcap _ (mem_of_lookupK hx)
    simpa using this
  have cellSome : ∀ x, C.env.kindOf x = some .cell → ∃ c v₀, C.env.cells.lookup x = some c ∧ s.heap.IsCell c v₀ := S.loc.cells
  have hclos : closureFor scope C.env = pure (cloL C.env scope.names []) := closureFor_eq fun n k hm hkf => by
    subst hkf
    (refine el_2_1 (cellSome n (capK n (lookup_of_memK hnd hm))) fun c _ hc _ => ?_)
    rw [hc]; rfl
  have hnames : ∀ x ∈ scope.names, x.2 = .local → scope.names.lookup x.1 = some .local := fun x hx hl => by
    obtain ⟨n, k⟩ := x; simp at hl; subst hl; exact lookup_of_memK hnd hx
  refine wpAny_comprehension_free (use := use) (g := g) (gs := []) rfl (fun x => hfold g (by simp) _ x) hclos hk hnames ?_
  refine wpAny_mono (h I KF s S) (fun v s₁ hEl => ?_) fun e s' hF => hF.elim
  obtain ⟨J₁, st₁, l₁, S₁, a, ha, xs, hit, hw⟩ := hEl
  refine hit J₁ v ha _ _ s₁ _ _ S₁ fun h₂ tk₂ it Dw W hD hnew ⟨oi, hoi⟩ hk₂ => ?_
  have S₂ : SR C KF J₁ st₁ { s₁ with heap := h₂, toks := tk₂ } := S₁.keeps hk₂
  (refine el_0_3 (S₁.fresh hnew) fun i1 i2 i3 i4 => ?_)
  -- the list
  refine wpAny_newObj_type ?_ (by size_fits)
  have hA0 := Heap.get?_push_size h₂ (o := { cls := .type "list", dict := .none, data := .seq ([] : List Value).toArray }) rfl
  have hDnone : h₂.get? h₂.objs.size = none := heap_size _
  (refine el_0_3 (S₂.fresh (a := h₂.objs.size) hDnone) fun d1 d2 d3 d4 => ?_)
  have S₃ : SR C KF J₁ st₁ { s₁ with heap := h₂.push { cls := .type "list", dict := .none, data := .seq ([] : List Value).toArray }, toks := tk₂ } := S₂.keeps fun a o e => Heap.get?_push_of_some _ e
  have dlow : sysModules < h₂.objs.size := S₂.big
  generalize hgD : h₂.objs.size = D at hA0 hDnone d1 d2 d3 d4 dlow ⊢
  generalize hg3 : h₂.push { cls := .type "list", dict := .none, data := .seq ([] : List Value).toArray } = h₃ at hA0 S₃ ⊢
  have hit3 : h₃.get? it = some oi := by rw [← hg3]; exact Heap.get?_push_of_some _ hoi
  have hne : it ≠ D := fun q => by rw [q] at hoi; rw [hDnone] at hoi; cases hoi
  have W3 : Dw 0 J₁ h₃ := W.frame J₁ J₁ h₂ h₃ 0 hD (.refl _) (fun o e => by rw [← hg3]; exact Heap.get?_push_of_some _ e) fun a o e1 e2 => by rw [← hg3]; exact Heap.get?_push_of_some _ e2
  -- the block's names
  simp only [newFunctionEnv, Option.isSome_some, if_true]
  refine wpAny_bind (wpAny_alloc ?_)
  refine wpAny_bind (wpAny_layCells _ (fun name kind cells => by cases hkc : kind == NameKind.cell <;> rfl) _ _ _ _ ?_)
  rw [List.forIn_nil]
  refine wpAny_bind (wpAny_pure (wpAny_pure ?_))
  dsimp only
  have hsz : (h₃.push { cls := .type "dict", data := .dict #[] }).objs.size = h₃.objs.size + 1 := Heap.size_push ..
  rw [hsz]
  generalize hL : h₃.objs.size = L
  generalize hg4 : pushCells (h₃.push { cls := .type "dict", data := .dict #[] }) scope.names = h₄
  have k4 : ∀ a o, h₃.get? a = some o → h₄.get? a = some o := fun a o e => by rw [← hg4]; exact pushCells_keeps _ _ a o (Heap.get?_push_of_some _ e)
  have hLns : h₄.Ns L fun _ => none := by rw [← hg4, ← hL]; exact (Heap.Ns.new h₃ (.type "dict")).keeps (pushCells_keeps _ _)
  have noL : h₃.get? L = none := by rw [← hL]; exact heap_size _
  have cok := cellsFrom_ok scope.names (h₃.push { cls := .type "dict", data := .dict #[] }) (L + 1) [] ⟨fun _ _ hm => (nomatch hm), List.Pairwise.nil⟩ (by rw [hsz, hL]; exact Nat.le_refl _)
  rw [hsz, hL, hg4] at cok
  generalize hcs : cellsFrom (L + 1) scope.names (cloL C.env scope.names []) = cs
  have hcs' : cs = cellsFrom (L + 1) scope.names [] ++ cloL C.env scope.names [] := by rw [← hcs, cellsFrom_app]
  -- what a name of the block is
  let cenv : Env := { scope := relabel scope C.env, locals := L, globals := C.env.globals, cells := cs, qual := C.env.qual, func := none, code := C.env.code, frame := C.env.frame, builtins := C.env.builtins }
  have kO : ∀ x, cenv.kindOf x = (scope.names.lookup x).map fun k => if (k == .free && C.env.scope.kind == .function && C.env.kindOf x == some .cell) = true then .cell else k := fun x => relabel_lookup x
  have kFree : ∀ x, scope.names.lookup x = some .free → cenv.kindOf x = some .cell := fun x hx => by
    rw [kO, hx]; simp [hfun, capK x hx]
  have kCell : ∀ x, cenv.kindOf x = some .cell → scope.names.lookup x = some .cell ∨ scope.names.lookup x = some .free := fun x hx => by
    rw [kO] at hx
    cases q : scope.names.lookup x with
    | none => rw [q] at hx; cases hx
    | some k =>
      rw [q] at hx
      by_cases hkf : k = .free
      · subst hkf; exact .inr rfl
      · have : (k == NameKind.free) = false := by simpa using hkf
        simp only [Option.map_some, Option.some.injEq, this, Bool.false_and, Bool.false_eq_true, if_false] at hx
        subst hx; exact .inl rfl
  have lkOwn : ∀ x, scope.names.lookup x = some .cell → ∃ c, cs.lookup x = some c ∧ (x, c) ∈ cellsFrom (L + 1) scope.names [] := fun x hx => by
    obtain ⟨c, hc⟩ : ∃ c, (cellsFrom (L + 1) scope.names []).lookup x = some c := Option.isSome_iff_exists.mp (cellsFrom_some _ _ _ (.inl hx))
    exact (in_1_1 c (by rw [hcs', lookup_app, hc]; rfl) (mem_of_lookup hc))
  have lkFree : ∀ x, scope.names.lookup x = some .free → cs.lookup x = C.env.cells.lookup x := fun x hx => by
    have : (cellsFrom (L + 1) scope.names []).lookup x = none := by
      cases q : (cellsFrom (L + 1) scope.names []).lookup x with
      | none => rfl
      | some c =>
        have := cellsFrom_names' x c _ _ (mem_of_lookup q)
        rw [lookup_of_memK hnd this] at hx; cases hx
    simp only [hcs', lookup_app, this]
    (refine el_2_1 (cellSome x (capK x hx)) fun c _ hc _ => ?_)
    show (cloL C.env scope.names []).lookup x = _
    exact cloL_lookup _ x _ _ hnd hx (by rw [hc]; rfl)
  -- the context
  let cap : Addr → Prop := fun a => ∃ x, scope.names.lookup x = some .free ∧ C.env.cells.lookup x = some a
  have capOwn : ∀ a, cap a → C.Own a := fun a ⟨x, hx, hl⟩ => .inr (in_1_1 x (capK x hx) hl)
  let KFc : IM := fun a => if C.Own a ∧ ¬ cap a then h₃.get? a else C.KF a
  let KF' : IM := fun a => if C.Own a ∧ ¬ cap a then h₃.get? a else KF a
  let C' : Cx := { C with env := cenv, KF := KFc }
  have own' : ∀ a, C'.Own a → h₃.get? a = none ∨ cap a := by
    intro a ha
    (refine Or.elim ha (fun ha => ?aElo) (fun xElo => ?bElo); (case' bElo => try clear ha; (refine el_1_1 xElo fun y hy hl => ?_; try clear xElo)); (case' aElo => skip))
    · exact .inl (by rw [show a = L from ha]; exact noL)
    · rcases kCell y hy with q | q
      · (refine el_1_1 (lkOwn y q) fun c h1 h2 => ?_)
        change cs.lookup y = some a at hl
        rw [h1] at hl; cases hl
        left
        cases q : h₃.get? a with
        | none => rfl
        | some o =>
          have a1 := (cok.empty y a h2).2
          have a2 := Heap.lt_size q
          rw [hL] at a2
          exact absurd (Nat.lt_of_succ_le a1) (Nat.lt_asymm a2)
      · change cs.lookup y = some a at hl
        rw [lkFree y q] at hl
        exact .inr (in_1_1 y q hl)
  have Lcap : ¬ cap C.env.locals := fun ⟨x, hx, hl⟩ => ok.cellNe x (capK x hx) hl
  have S₃own := S₃.own
  have newNotOwn : ∀ a, h₃.get? a = none → ¬ C.Own a := fun a e => (S₃.fresh e).2.2.2
  have ok' : C'.Ok dep := by
    refine ⟨by show (relabel scope C.env).kind = _; exact hk, ok.gl, ok.bl, ok.K, ok.g, ok.b, ok.nolimit, ok.boot, ok.hd, ok.units, ok.depth, fun y z c hy hz h1 h2 => ?_, fun y hy h1 => ?_, ?_⟩
    · change cs.lookup y = some c at h1
      change cs.lookup z = some c at h2
      rcases kCell y hy with qy | qy <;> rcases kCell z hz with qz | qz
      · (refine el_1_1 (lkOwn y qy) fun c1 a1 b1 => ?_)
        (refine el_1_1 (lkOwn z qz) fun c2 a2 b2 => ?_)
        rw [h1] at a1; cases a1; rw [h2] at a2; cases a2
        exact name_of_addr cok.apart b1 b2
      · (refine el_1_1 (lkOwn y qy) fun c1 a1 b1 => ?_)
        rw [h1] at a1; cases a1
        rw [lkFree z qz] at h2
        have n1 : ¬ C.Own c := newNotOwn c (by
          cases q : h₃.get? c with
          | none => rfl
          | some o =>
            have a1 := (cok.empty y c b1).2
            have a2 := Heap.lt_size q
            rw [hL] at a2
            exact absurd (Nat.lt_of_succ_le a1) (Nat.lt_asymm a2))
        exact absurd (.inr (in_1_1 z (capK z qz) h2)) n1
      · (refine el_1_1 (lkOwn z qz) fun c1 a1 b1 => ?_)
        rw [h2] at a1; cases a1
        rw [lkFree y qy] at h1
        have n1 : ¬ C.Own c := newNotOwn c (by
          cases q : h₃.get? c with
          | none => rfl
          | some o =>
            have a1 := (cok.empty z c b1).2
            have a2 := Heap.lt_size q
            rw [hL] at a2
            exact absurd (Nat.lt_of_succ_le a1) (Nat.lt_asymm a2))
        exact absurd (.inr (in_1_1 y (capK y qy) h1)) n1
      · rw [lkFree y qy] at h1; rw [lkFree z qz] at h2
        exact ok.cellInj y z c (capK y qy) (capK z qz) h1 h2
    · change cs.lookup y = some L at h1
      rcases kCell y hy with q | q
      · (refine el_1_1 (lkOwn y q) fun c1 a1 b1 => ?_)
        rw [h1] at a1; cases a1
        exact absurd (cok.empty y L b1).2 (Nat.not_succ_le_self _)
      · rw [lkFree y q] at h1
        exact newNotOwn L noL (.inr (in_1_1 y (capK y q) h1))
    · show C.base.get? L = none
      cases q : C.base.get? L with
      | none => rfl
      | some o => have := S₃.imm _ _ (S₃.base _ _ q); rw [noL] at this; cases this
  have S' : SR C' KF' J₁ ⟨compLo scope st₁.lo, st₁.H⟩ { s₁ with heap := h₄, toks := tk₂ } := by
    refine ⟨fun a o e => ?_, S₃.low, ?_, S₃.base, fun a o e => k4 a o (S₃.imm a o e), fun a o e => ?_, fun a ha => ?_, fun a c e => ?_, ?_⟩
    · change (if C.Own a ∧ ¬ cap a then h₃.get? a else C.KF a) = some o at e
      show (if C.Own a ∧ ¬ cap a then h₃.get? a else KF a) = some o
      by_cases q : C.Own a ∧ ¬ cap a
      · rw [if_pos q] at e ⊢; exact e
      · rw [if_neg q] at e ⊢; exact S.kle a o e
    · (refine el_3_0 S₁.same fun h0 t0 d0 e0 => ?_)
      exact (in_3_0 h₄ tk₂ d0 (by rw [e0]))
    · change (if C.Own a ∧ ¬ cap a then h₃.get? a else KF a) = some o at e
      by_cases q : C.Own a ∧ ¬ cap a
      · rw [if_pos q] at e
        exact ⟨(S₃.own a q.1).1, k4 a o e⟩
      · rw [if_neg q] at e
        (refine el_0_1 (S₃.frs a o e) fun f1 f2 => ?_)
        exact ⟨f1, k4 a _ f2⟩
    · rcases own' a ha with hn | hc
      · (refine el_0_3 (S₃.fresh hn) fun f1 f2 f3 f4 => ?_)
        exact (in_0_2 f1 (by show (if C.Own a ∧ ¬ cap a then _ else _) = _; rw [if_neg fun q => f4 q.1]; exact f2) f3)
      · (refine el_0_2 (S₃.own a (capOwn a hc)) fun f1 f2 f3 => ?_)
        exact (in_0_2 f1 (by show (if C.Own a ∧ ¬ cap a then _ else _) = _; rw [if_neg fun q => q.2 hc]; exact f2) f3)
    · (refine el_0_2 (S₃.mu a c e) fun f1 f2 rEl => ?_; (refine el_1_1 rEl fun o f3 f4 => ?_; try clear rEl))
      refine (in_0_2 f1 ?_ (in_1_1 o (k4 a o f3) f4))
      show (if C.Own a ∧ ¬ cap a then _ else _) = _
      rw [if_neg fun q => by have := (S₃.own a q.1).2.2; change st₁.H a = none at this; change st₁.H a = some c at e; rw [e] at this; cases this]; exact f2
    · have lkc : ∀ y v, compLo scope st₁.lo y = some v → scope.names.lookup y = some .free ∧ st₁.lo y = some v := fun y v hy => by
        unfold compLo at hy
        split at hy
        · rename_i q; exact ⟨q, hy⟩
        · cases hy
      refine ⟨(in_1_1 _ hLns (fun y v hy hky => ?_)), fun y v hy hky => ?_, fun y v hy hky => ?_, fun y hky => ?_⟩
      · (refine el_0_1 (lkc y v hy) fun q _ => ?_)
        have := kFree y q
        change cenv.kindOf y = _ at hky
        rw [hky] at this; cases this
      · (refine el_0_1 (lkc y v hy) fun q q2 => ?_)
        (refine el_2_2 (S₃.loc.cell y v q2 (capK y q)) fun c u a1 xEl3 a4 => ?_; (refine el_1_1 xEl3 fun o a2 a3 => ?_; try clear xEl3))
        exact (in_2_2 c u ((lkFree y q).trans a1) (in_1_1 o (k4 c o a2) a3) a4)
      · (refine el_0_1 (lkc y v hy) fun q _ => ?_)
        have := kFree y q
        change cenv.kindOf y = _ at hky
        rw [hky] at this; cases this
      · rcases kCell y hky with q | q
        · (refine el_1_1 (lkOwn y q) fun c a1 a2 => ?_)
          exact (in_2_1 c _ a1 ((cok.empty y c a2).1))
        · (refine el_2_1 (S₃.loc.cells y (capK y q)) fun c v0 a1 xEl3 => ?_; (refine el_1_1 xEl3 fun o a2 a3 => ?_; try clear xEl3))
          exact (in_2_1 c v0 ((lkFree y q).trans a1) (in_1_1 o (k4 c o a2) a3))
  -- back again
  have back : ∀ {J st' s'}, ILe J₁ J → SR C' KF' J st' s' → (∀ x, scope.names.lookup x = some .free → st'.lo x = st₁.lo x) → SR C KF J ⟨st₁.lo, st'.H⟩ s' := by
    intro J st' s' lJ T hlo
    have frs2 : ∀ a, C.Own a → ¬ cap a → ∀ o, h₃.get? a = some o → J a = none ∧ s'.heap.get? a = some o := fun a q1 q2 o e => T.frs a o (by show (if C.Own a ∧ ¬ cap a then _ else _) = _; rw [if_pos ⟨q1, q2⟩]; exact e)
    have capOwn' : ∀ a, cap a → C'.Own a := fun a ⟨x, hx, hl⟩ => .inr (in_1_1 x (kFree x hx) ((lkFree x hx).trans hl))
    refine ⟨S.kle, T.low, T.same, T.base, T.imm, fun a o e => ?_, fun a ha => ?_, fun a c e => ?_, ?_⟩
    · have hq : ¬ (C.Own a ∧ ¬ cap a) := fun q => by have := (S₃.own a q.1).2.1; rw [e] at this; cases this
      exact T.frs a o (by show (if C.Own a ∧ ¬ cap a then _ else _) = _; rw [if_neg hq]; exact e)
    · by_cases hc : cap a
      · (refine el_0_2 (T.own a (capOwn' a hc)) fun f1 f2 f3 => ?_)
        exact (in_0_2 f1 ((S₃.own a ha).2.1) f3)
      · (refine el_1_0 (S₃.ownNo ha) fun o ho => ?_)
        change h₃.get? a = some o at ho
        refine (in_0_2 ((frs2 a ha hc o ho).1) ((S₃.own a ha).2.1) ?_)
        show st'.H a = none
        cases q : st'.H a with
        | none => rfl
        | some c =>
          have := (T.mu a c q).2.1
          change (if C.Own a ∧ ¬ cap a then h₃.get? a else KF a) = none at this
          rw [if_pos ⟨ha, hc⟩, ho] at this; cases this
    · (refine el_0_2 (T.mu a c e) fun f1 f2 f3 => ?_)
      refine (in_0_2 f1 ?_ f3)
      change (if C.Own a ∧ ¬ cap a then h₃.get? a else KF a) = none at f2
      by_cases q : C.Own a ∧ ¬ cap a
      · exact (S₃.own a q.1).2.1
      · rw [if_neg q] at f2; exact f2
    · obtain ⟨⟨m, ⟨oL, es, ep, hL', hd, hr⟩, f1⟩, f2, f3, f4⟩ := S₃.loc.mono lJ
      (refine el_0_1 (frs2 _ (.inl rfl) Lcap oL hL') fun _ eL => ?_)
      have cellK : ∀ y c v, C.env.kindOf y = some .cell → ¬ cap c → C.env.cells.lookup y = some c → h₃.IsCell c v → s'.heap.IsCell c v := fun y c v hy hc hl ⟨o, ho, hd⟩ => by
        (refine el_0_1 (frs2 c (.inr (in_1_1 y hy hl)) hc o ho) fun _ e => ?_)
        exact (in_1_1 _ e hd)
      refine ⟨(in_1_1 m (in_3_2 _ es ep eL hd hr) f1), fun y v e hky => ?_, f3, fun y hy => ?_⟩
      · (refine el_2_2 (f2 y v e hky) fun c u a1 a2 a3 => ?_)
        by_cases hc : cap c
        · (refine el_1_1 hc fun z hz hzl => ?_; try clear hc)
          have : z = y := ok.cellInj z y c (capK z hz) hky hzl a1
          subst this
          (refine el_2_2 (T.loc.cell z v ((hlo z hz).trans e) (kFree z hz)) fun c' u' b1 b2 b3 => ?_)
          change cs.lookup z = some c' at b1
          rw [lkFree z hz, a1] at b1; cases b1
          exact (in_2_2 c u' a1 b2 b3)
        · exact (in_2_2 c u a1 (cellK y c _ hky hc a1 a2) a3)
      · (refine el_2_1 (f4 y hy) fun c v0 a1 a2 => ?_)
        by_cases hc : cap c
        · (refine el_1_1 hc fun z hz hzl => ?_; try clear hc)
          have : z = y := ok.cellInj z y c (capK z hz) hy hzl a1
          subst this
          (refine el_2_1 (T.loc.cells z (kFree z hz)) fun c' v' b1 b2 => ?_)
          change cs.lookup z = some c' at b1
          rw [lkFree z hz, a1] at b1; cases b1
          exact (in_2_1 c v' a1 b2)
        · exact (in_2_1 c v0 a1 (cellK y c _ hy hc a1 a2))
  have Lfresh : ∀ {J st' s'}, SR C' KF' J st' s' → J L = none ∧ st'.H L = none := fun T => ⟨(T.own L (.inl rfl)).1, (T.own L (.inl rfl)).2.2⟩
  have KL : KF L = none ∧ ¬ C.Own L := ⟨(S₃.fresh noL).2.1, (S₃.fresh noL).2.2.2⟩
  -- the walk
  have itOwn' : ¬ C'.Own it := fun hb => by
    rcases own' it hb with q | q
    · rw [hit3] at q; cases q
    · exact i4 (capOwn it q)
  have DOwn' : ¬ C'.Own D := fun hb => by
    rcases own' D hb with q | q
    · rw [hA0] at q; cases q
    · exact d4 (capOwn D q)
  have KF'it : KF' it = none := by show (if C.Own it ∧ ¬ cap it then _ else _) = _; rw [if_neg fun q => i4 q.1]; exact i2
  have KF'D : KF' D = none := by show (if C.Own D ∧ ¬ cap D then _ else _) = _; rw [if_neg fun q => d4 q.1]; exact d2
  have W4 : Dw 0 J₁ h₄ := W.frame J₁ J₁ h₃ h₄ 0 W3 (.refl _) (fun o e => k4 _ _ e) fun a o e1 e2 => k4 _ _ e2
  have AC : AccAt C' D [] J₁ KF' ⟨compLo scope st₁.lo, st₁.H⟩ { s₁ with heap := h₄, toks := tk₂ } := ⟨(in_2_1 0 (#[]) (k4 _ _ hA0) (.nil)), d1, KF'D, d3, DOwn'⟩
  have loop := compLoop_W (C := C') (elt := elt) (gens := [g]) (scope := scope) (pos := pos) (D := D) ok' has (fun g' hg' x => hfold g' hg' _ x) 0 g rfl KF' J₁ J₁ _ _ xs it Dw 0 [] _ (.refl _) W S' AC W4 (in_1_0 oi (k4 _ _ hit3)) i1 KF'it i3 itOwn' hne (Nat.zero_le _) (by simpa using hw C' ok' ⟨rfl, rfl, rfl, rfl, rfl, rfl, rfl⟩ rfl)
  refine codeAny_mono (compStart_of rfl (has g (by simp)) loop (W.self C'.A J₁ _ 0 _ _ W4 loop)) fun r s' hr => ?_
  cases r with
  | ok f =>
    obtain ⟨J', st', ys, l', T, A', hlo, hQ0⟩ := hr
    obtain ⟨⟨nD, xD, hDo, hDr⟩, b1, b2, b3, b4⟩ := A'
    have Sb := back l' T hlo
    have Ln := Lfresh T
    have hLns' : ∃ m, s'.heap.Ns L m := by (refine el_1_1 T.loc.ns fun m hm _ => ?_); exact (in_1_0 m hm)
    have hLD : L ≠ D := fun q => DOwn' (.inl q.symm)
    -- the list is turned no more, or may be turned
    obtain ⟨c, Jf, Hf, lJf, Sf, hv, Lf, LH, hQ0⟩ : ∃ c Jf Hf, ILe J' Jf ∧ SR C KF Jf ⟨st₁.lo, Hf⟩ s' ∧ VR Jf c (.ref D) ∧ Jf L = none ∧ Hf L = none ∧ Qc c ⟨st₁.lo, Hf⟩ := by
      rcases hQ0 with hQ0 | hQ0
      · refine (in_3_5 (.lst ys) (iput J' D ⟨.type "list", .none, .seq xD nD, #[]⟩) st'.H (iput_le b1) (Sb.addI hDo b1 d2 b3 d4) ?_ (by rw [iput_ne hLD]; exact Ln.1) Ln.2 hQ0)
        simp only [VR]
        exact (in_3_2 D nD xD rfl (by simp) (VRs.mono (iput_le b1) _ _ hDr))
      · exact (in_3_5 (.loc D) J' (hput st'.H D (.list ys)) (.refl _) (Sb.addH dlow hDo b1 d2 d4 (in_2_1 nD xD rfl hDr)) (by simp [VR]) Ln.1 (by rw [hput_ne hLD]; exact Ln.2) (hQ0 D b3))
    have hQ := hq _ _ hQ0
    have lf : ILe I Jf := (l₁.trans l').trans lJf
    cases use with
    | none =>
      (refine el_1_0 hLns' fun m hm => ?_; try clear hLns')
      refine (in_1_1 m hm (fun h'' hs'' => ⟨_, _, lf, Sf.heap (tk := s'.toks) fun a o e hb => (hs''.2 a fun q => notHeld hb q Lf KL.1 LH KL.2).trans e, hQ _ _ hv⟩))
    | some u =>
      (refine el_1_0 hLns' fun m hm => ?_; try clear hLns')
      (refine el_3_3 hm fun oL es ep hLo hLd hLk hLf => ?_; try clear hm)
      -- the block's names are kept while the list is laid
      have SK := Sf.addK (a := L) hLo Lf KL.1 LH KL.2
      have lk : ILe KF (iput KF L oL) := iput_le KL.1
      show wpAny (model C.prog C.w) C.A (u (.ref D)) _ _ s'
      refine wpAny_mono (hQ _ _ hv _ s' SK) (fun _ s'' hh => hh.use fun J3 st3 l3 S3 q3 => ?_) fun e s'' hF => hF.elim
      (refine el_0_1 (S3.frs L oL (by simp)) fun z1 z2 => ?_)
      refine (in_1_1 m (in_3_3 _ es ep z2 hLd hLk hLf) (fun h'' hs'' => ⟨J3, st3, lf.trans l3, (S3.weakK lk S.kle).heap (tk := s''.toks) fun a o e hb => (hs''.2 a fun q => notHeld hb q S3.iterIn.1 KL.1 S3.iterIn.2.1 KL.2).trans e, q3⟩))
  | error e => exact hr.elim
end
end Mine
open PySem PySem.W PySem.Calls PyProof.Rows
set_option Elab.async false
set_option linter.all false
set_option maxRecDepth 100000
set_option genSizeOf false
namespace Mine

section
variable {C : Cx} {dep : Nat} {KF I J : IM} {st : CSt} {s : Shared}

-- a comprehension as a value, and laid under a name
theorem WE.comp {elt t iter : Expr} {ifs : List Expr} {scope : Scope} {pos : Pos} {Q : CV → CSt → Prop} (ok : C.Ok dep)
    (h : WE C iter st (fun a st1 => ∃ xs, IterOf C a st1 xs ∧ WComp C dep elt ⟨t, iter, ifs, 0⟩ scope xs st1 Q))
    (hcap : (scope.names.all fun x => x.2 != .free || C.env.kindOf x.1 == some .cell) = true)
    (hk : scope.kind = .function := by rfl) (hnd : (scope.names.map (·.1)).Nodup := by decide +kernel) 
    (hfold : ∀ env x, foldedSetIterable iter env x = pure x := by intros; rfl) :
    WE C (.ListComp elt [⟨t, iter, ifs, 0⟩] scope pos) st Q := fun I =>
  comp_W (use := Option.none) (g := ⟨t, iter, ifs, 0⟩) (Qc := Q) (Q := fun J v st' => ValP J v Q st') ok hk hnd hcap (fun g' hg => by cases hg with | head => rfl | tail _ h => cases h) (fun g' hg env x => by cases hg with | head => exact hfold env x | tail _ h => cases h) (fun c st2 q J v r => ⟨c, r, q⟩) h

theorem WS.assignComp {x : Str} {px : Pos} {elt t iter : Expr} {ifs : List Expr} {scope : Scope} {pos spos : Pos} {Q : CF → CSt → Prop} (ok : C.Ok dep)
    (h : WE C iter st (fun a st1 => ∃ xs, IterOf C a st1 xs ∧ WComp C dep elt ⟨t, iter, ifs, 0⟩ scope xs st1 (fun c st2 => Q .next (st2.put x c))))
    (hcap : (scope.names.all fun x => x.2 != .free || C.env.kindOf x.1 == some .cell) = true) (hx : storeKind (C.env.kindOf x) = true)
    (hs : swapsWith (.ListComp elt [⟨t, iter, ifs, 0⟩] scope pos) (some (.Name x px)) spos.line C.env = pure true)
    (hk : scope.kind = .function := by rfl) (hnd : (scope.names.map (·.1)).Nodup := by decide +kernel) 
    (hfold : ∀ env x, foldedSetIterable iter env x = pure x := by intros; rfl) :
    WS C (.Assign [.Name x px] (.ListComp elt [⟨t, iter, ifs, 0⟩] scope pos) spos) st Q := fun I => by
  simp only [exec_Assign_arm]
  refine WL.bind (WL.standAt ?_)
  show WL C (do if ← swapsWith (.ListComp elt [⟨t, iter, ifs, 0⟩] scope pos) (some (.Name x px)) spos.line C.env then (do
      (do let _ ← comprehension (.ListComp elt [⟨t, iter, ifs, 0⟩] scope pos) scope C.env (firstIterPos [⟨t, iter, ifs, 0⟩] pos) (newList []) false (eval iter C.env) (some fun v => assign (.Name x px) C.env v))
      pure Flow.next) else _) I st _
  rw [hs]
  refine WL.bind (WL.pure ?_)
  rw [if_pos rfl]
  refine WL.bind (WL.bind ((comp_W (use := some fun v => assign (.Name x px) C.env v) (g := ⟨t, iter, ifs, 0⟩) (Qc := fun c st2 => Q .next (st2.put x c)) (Q := fun J v st' => Q .next st') ok hk hnd hcap (fun g' hg => by cases hg with | head => rfl | tail _ h => cases h) (fun g' hg env x => by cases hg with | head => exact hfold env x | tail _ h => cases h)
    (fun c st2 q J v r => ?_) h : WL C _ I st _).mono (fun J v st' _ q => WL.pure (WL.pure ⟨.next, rfl, q⟩))))
  exact WA.name (Q := fun st' => Q .next st') ok hx q J v r
end
end Mine
open PySem PySem.W PySem.Calls PyProof.Rows
set_option Elab.async false
set_option linter.all false
set_option maxRecDepth 100000
set_option genSizeOf false
namespace Mine

section
variable {C : Cx} {dep : Nat} {KF I J : IM} {st : CSt} {s : Shared} {Q : CV → CSt → Prop}

-- ints
theorem W2.addI {a b : Int} (h : Q (.int (a + b)) st) : W2 C (binaryOp .Add) (.int a) (.int b) st Q := fun I v u r1 r2 KF s S => by
  simp only [VR] at r1 r2; (refine el_1_0 r1 fun t xEl1 => ?_; try clear r1; obtain rfl := xEl1); (refine el_1_0 r2 fun t' xEl1 => ?_; try clear r2; obtain rfl := xEl1)
  exact wpAny_add_int ⟨I, st, .refl I, S.toks _, _, by simp [VR], h⟩
theorem W2.modI {a b : Int} (hb : 0 < b) (h : Q (.int (a % b)) st) : W2 C (binaryOp .Mod) (.int a) (.int b) st Q := fun I v u r1 r2 KF s S => by
  simp only [VR] at r1 r2; (refine el_1_0 r1 fun t xEl1 => ?_; try clear r1; obtain rfl := xEl1); (refine el_1_0 r2 fun t' xEl1 => ?_; try clear r2; obtain rfl := xEl1)
  refine mod_int' (by omega) ?_
  rw [Int.fmod_eq_emod_of_nonneg _ (by omega)]
  exact ⟨I, st, .refl I, S.toks _, _, by simp [VR], h⟩
theorem W2.divI {a b : Int} (hb : 0 < b) (hs : b < 2 ^ 30) (h : Q (.int (a / b)) st) : W2 C (binaryOp .FloorDiv) (.int a) (.int b) st Q := fun I v u r1 r2 KF s S => by
  simp only [VR] at r1 r2; (refine el_1_0 r1 fun t xEl1 => ?_; try clear r1; obtain rfl := xEl1); (refine el_1_0 r2 fun t' xEl1 => ?_; try clear r2; obtain rfl := xEl1)
  refine floordiv_int (by omega) ?_ (Or.inl (PyProof.noPylong_small (by omega +splitDisjunctions)))
  rw [Int.fdiv_eq_ediv_of_nonneg _ (by omega)]
  exact ⟨I, st, .refl I, S.toks _, _, by simp [VR], h⟩
theorem W2.eqI {a b : Int} (h : Q (.bool (decide (a = b))) st) : W2 C (compareOp .Eq) (.int a) (.int b) st Q := fun I v u r1 r2 KF s S => by
  simp only [VR] at r1 r2; (refine el_1_0 r1 fun t xEl1 => ?_; try clear r1; obtain rfl := xEl1); (refine el_1_0 r2 fun t' xEl1 => ?_; try clear r2; obtain rfl := xEl1)
  refine PySem.P.eq_int ⟨I, st, .refl I, S, .bool (decide (a = b)), ?_, h⟩
  simp only [VR]; congr 1
theorem W2.ltI {a b : Int} (h : Q (.bool (decide (a < b))) st) : W2 C (compareOp .Lt) (.int a) (.int b) st Q := fun I v u r1 r2 KF s S => by
  simp only [VR] at r1 r2; (refine el_1_0 r1 fun t xEl1 => ?_; try clear r1; obtain rfl := xEl1); (refine el_1_0 r2 fun t' xEl1 => ?_; try clear r2; obtain rfl := xEl1)
  exact PySem.P.lt_int ⟨I, st, .refl I, S, _, by simp [VR], h⟩
theorem W2.isNotB {a b : Bool} (h : Q (.bool (a != b)) st) : W2 C (compareOp .IsNot) (.bool a) (.bool b) st Q := fun I v u r1 r2 KF s S => by
  simp only [VR] at r1 r2; subst r1; subst r2
  exact isnot_bool ⟨I, st, .refl I, S, _, by simp [VR], h⟩

/-- a new object that is never turned -/
theorem SR.newI (S : SR C KF I st s) {o : Obj} (hf : o.isFreed = false) : ILe I (iput I s.heap.objs.size o) ∧ SR C KF (iput I s.heap.objs.size o) st { s with heap := s.heap.push o } := by
  (refine el_0_3 S.fresh' fun h1 h2 h3 h4 => ?_)
  exact ⟨iput_le h1, (S.push o).addI (Heap.get?_push_size _ hf) h1 h2 h3 h4⟩
/-- a new object of the clean heap -/
theorem SR.newH (S : SR C KF I st s) {o : Obj} {c : CO} (hf : o.isFreed = false) (hr : OR C.prog C.w I c o) : st.H s.heap.objs.size = none ∧ SR C KF I { st with H := hput st.H s.heap.objs.size c } { s with heap := s.heap.push o } := by
  (refine el_0_3 S.fresh' fun h1 h2 h3 h4 => ?_)
  exact ⟨h3, (S.push o).addH S.big (Heap.get?_push_size _ hf) h1 h2 h4 hr⟩

-- tuples and lists are displayed
theorem spliced_W {pos : Pos} : ∀ {es : List Expr} {st : CSt} {Q : List CV → CSt → Prop}, WEs C es st Q → (∀ e ∈ es, ∀ t p, e ≠ .Starred t p) → ∀ I, WL C (spliced (backTo pos (starEach es C.env))) I st (fun J vs st' => ∃ cs, VRs J cs vs ∧ Q cs st')
  | [], st, Q, h, _, I => WL.pure (in_1_1 ([]) (.nil) h)
  | e :: es, st, Q, h, hs, I => by
    have he : starEach (e :: es) C.env = (false, eval e C.env) :: starEach es C.env := by
      have := hs e (by simp)
      cases e <;> first | rfl | (exact absurd rfl (this _ _))
    rw [he]
    show WL C (do let v ← eval e C.env; let here ← (pure [v] : Sem (List Value)); return here ++ (← holding here (spliced (backTo pos (starEach es C.env))))) I st _
    refine WL.bind ((h I).mono (fun J v st1 _ hh => hh.use fun c r q => ?_))
    refine WL.bind (WL.pure (WL.bind (WL.holding ((spliced_W q (fun x hx => hs x (List.mem_cons_of_mem _ hx)) J).mono (fun J2 vs st2 l hEl => ?_)))))
    (refine el_1_1 hEl fun cs rs q2 => ?_; try clear hEl)
    exact WL.pure (in_1_1 (c :: cs) (.cons (r.mono l) rs) q2)
theorem WE.tuple {es : List Expr} {k pos} (h : WEs C es st (fun cs st' => cs.length ≤ 2 ^ 24 ∧ Q (.tup cs) st')) (hs : es.all noStar = true := by rfl) : WE C (.Tuple es k pos) st Q := fun I => by
  show WL C (do standAt pos; newTuple (← spliced (backTo pos (starEach es C.env)))) I st _
  refine WL.bind (WL.standAt (WL.bind ((spliced_W h (noStar_all hs) I).mono (fun J vs st1 _ hEl => ?_))))
  (refine el_1_2 hEl fun cs r hl q => ?_; try clear hEl)
  intro KF s S
  refine wpAny_newObj_type ?_ (by show vs.toArray.size ≤ sizeLine; rw [sizeLine_eq]; have := r.length; simp; omega)
  (refine el_0_1 (S.newI (o := { cls := .type "tuple", dict := .none, data := .seq vs.toArray }) rfl) fun l S' => ?_)
  refine ⟨_, st1, l, S', .tup cs, ?_, q⟩
  simp only [VR]
  exact (in_3_2 _ _ _ rfl iput_self (VRs.mono l _ _ (by simpa using r)))
/-- a list that is never turned -/
theorem WE.listF {es : List Expr} {pos} (h : WEs C es st (fun cs st' => cs.length ≤ 2 ^ 24 ∧ Q (.lst cs) st')) (hs : es.all noStar = true := by rfl) : WE C (.List es pos) st Q := fun I => by
  show WL C (do standAt pos; newList (← spliced (backTo pos (starEach es C.env)))) I st _
  refine WL.bind (WL.standAt (WL.bind ((spliced_W h (noStar_all hs) I).mono (fun J vs st1 _ hEl => ?_))))
  (refine el_1_2 hEl fun cs r hl q => ?_; try clear hEl)
  intro KF s S
  refine wpAny_newObj_type ?_ (by show vs.toArray.size ≤ sizeLine; rw [sizeLine_eq]; have := r.length; simp; omega)
  (refine el_0_1 (S.newI (o := { cls := .type "list", dict := .none, data := .seq vs.toArray }) rfl) fun l S' => ?_)
  refine ⟨_, st1, l, S', .lst cs, ?_, q⟩
  simp only [VR]
  exact (in_3_2 _ _ _ rfl iput_self (VRs.mono l _ _ (by simpa using r)))
/-- a list that may be turned -/
theorem WE.list {es : List Expr} {pos} (h : WEs C es st (fun cs st' => cs.length ≤ 2 ^ 24 ∧ ∀ a, st'.H a = Option.none → Q (.loc a) { st' with H := hput st'.H a (.list cs) })) (hs : es.all noStar = true := by rfl) : WE C (.List es pos) st Q := fun I => by
  show WL C (do standAt pos; newList (← spliced (backTo pos (starEach es C.env)))) I st _
  refine WL.bind (WL.standAt (WL.bind ((spliced_W h (noStar_all hs) I).mono (fun J vs st1 _ hEl => ?_))))
  (refine el_1_2 hEl fun cs r hl q => ?_; try clear hEl)
  intro KF s S
  refine wpAny_newObj_type ?_ (by show vs.toArray.size ≤ sizeLine; rw [sizeLine_eq]; have := r.length; simp; omega)
  (refine el_0_1 (S.newH (o := { cls := .type "list", dict := .none, data := .seq vs.toArray }) (c := .list cs) rfl (in_2_1 _ _ rfl (by simpa using r))) fun hn S' => ?_)
  exact ⟨J, _, .refl _, S', .loc s.heap.objs.size, by simp [VR], q _ hn⟩

-- sums of sequences
theorem W2.addT {as bs : List CV} (hl : as.length + bs.length ≤ 2 ^ 24) (h : Q (.tup (as ++ bs)) st) : W2 C (binaryOp .Add) (.tup as) (.tup bs) st Q := fun I v u r1 r2 KF s S => by
  have r1' := r1; have r2' := r2
  simp only [VR] at r1 r2
  (refine el_3_1 r1 fun a n xs xEl3 rEl => ?_; try clear r1; obtain rfl := xEl3; (refine el_0_1 rEl fun hi hr => ?_; try clear rEl))
  (refine el_3_1 r2 fun b m ys xEl3 rEl => ?_; try clear r2; obtain rfl := xEl3; (refine el_0_1 rEl fun hj hr' => ?_; try clear rEl))
  have ha := S.imm _ _ hi
  have hb := S.imm _ _ hj
  have e := hr.length
  have e' := hr'.length
  by_cases h0 : xs.isEmpty = true
  · refine concat_meets (in_1_1 _ ha rfl) (in_1_1 _ hb rfl) noFill_tuple_add seq_tuple_add F.slot_tuple_add F.entry_tuple_add (F.args_tuple_add_2 _ _) (tuple_addW0 a b xs ys n m none none #[] #[] h0) (in_0_2 ha hb ?_)
    have : as = [] := by
      have hx : xs.toList = [] := by simpa using h0
      rw [hx] at e; exact List.eq_nil_of_length_eq_zero e
    subst this
    exact ⟨I, st, .refl I, S, _, r2', h⟩
  · by_cases h1 : ys.isEmpty = true
    · refine concat_meets (in_1_1 _ ha rfl) (in_1_1 _ hb rfl) noFill_tuple_add seq_tuple_add F.slot_tuple_add F.entry_tuple_add (F.args_tuple_add_2 _ _) (tuple_addW1 a b xs ys n m none none #[] #[] h0 h1) (in_0_2 ha hb ?_)
      have : bs = [] := by
        have hx : ys.toList = [] := by simpa using h1
        rw [hx] at e'; exact List.eq_nil_of_length_eq_zero e'
      subst this
      rw [List.append_nil] at h
      exact ⟨I, st, .refl I, S, _, r1', h⟩
    · refine concat_meets (in_1_1 _ ha rfl) (in_1_1 _ hb rfl) noFill_tuple_add seq_tuple_add F.slot_tuple_add F.entry_tuple_add (F.args_tuple_add_2 _ _) (tuple_addW2 a b xs ys n m none none #[] #[] h0 h1 (by rw [sizeLine_eq]; simp at e e'; omega)) (in_0_2 ha hb ?_)
      (refine el_0_1 (S.newI (o := { cls := .type "tuple", dict := .none, data := .seq (xs ++ ys) }) rfl) fun l S' => ?_)
      refine ⟨_, st, l, S', .tup (as ++ bs), ?_, h⟩
      simp only [VR]
      exact (in_3_2 _ _ _ rfl iput_self (VRs.mono l _ _ (by simpa using hr.append hr')))
theorem W2.addL {as bs : List CV} (hl : as.length + bs.length ≤ 2 ^ 24) (h : Q (.lst (as ++ bs)) st) : W2 C (binaryOp .Add) (.lst as) (.lst bs) st Q := fun I v u r1 r2 KF s S => by
  simp only [VR] at r1 r2
  (refine el_3_1 r1 fun a n xs xEl3 rEl => ?_; try clear r1; obtain rfl := xEl3; (refine el_0_1 rEl fun hi hr => ?_; try clear rEl))
  (refine el_3_1 r2 fun b m ys xEl3 rEl => ?_; try clear r2; obtain rfl := xEl3; (refine el_0_1 rEl fun hj hr' => ?_; try clear rEl))
  have ha := S.imm _ _ hi
  have hb := S.imm _ _ hj
  have e := hr.length
  have e' := hr'.length
  refine concat_meets (in_1_1 _ ha rfl) (in_1_1 _ hb rfl) noFill_list_add seq_list_add F.slot_list_add F.entry_list_add (F.args_list_add_2 _ _) (list_addW a b xs ys n m none none #[] #[] (by rw [sizeLine_eq]; simp at e e'; omega)) (in_0_2 ha hb ?_)
  (refine el_0_1 (S.newI (o := { cls := .type "list", dict := .none, data := .seq (xs ++ ys) }) rfl) fun l S' => ?_)
  refine ⟨_, st, l, S', .lst (as ++ bs), ?_, h⟩
  simp only [VR]
  exact (in_3_2 _ _ _ rfl iput_self (VRs.mono l _ _ (by simpa using hr.append hr')))

-- subscripts
theorem WE.sub {value slice pos} (h : WE C value st (fun a st1 => WE C slice st1 (fun b st2 => W2 C (subscriptTail value slice) a b st2 Q))) : WE C (.Subscript value slice pos) st Q := fun I => by
  simp only [eval_Subscript]
  refine WL.bind ((h I).mono (fun J a st1 _ hh => hh.use fun ca ra ha => ?_))
  refine WL.bind (WL.holding ((ha J).mono (fun J2 b st2 l hh => hh.use fun cb rb hb => ?_)))
  exact WL.bind (WL.standAt (hb J2 _ _ (ra.mono l) rb))

/-- the place of an index -/
noncomputable def cidx (n : Nat) (k : Int) : Nat := if k < 0 then (k + n).toNat else k.toNat
theorem cidx_nat {n k : Nat} : cidx n (k : Int) = k := by unfold cidx; rw [if_neg (by simp)]; rfl
theorem cidx_last {n : Nat} (h : 0 < n) : cidx n (-1) = n - 1 := by unfold cidx; rw [if_pos (by decide)]; omega
theorem lt_min {u m k c b : Nat} (hm : m ≤ b) (h : u + b < c) : u + min m k < c := Nat.lt_of_le_of_lt (Nat.add_le_add_left (Nat.le_trans (Nat.min_le_left m k) hm) u) h
theorem seqIndex_of {k : Int} {n : Nat} (h : -(n : Int) ≤ k) (h2 : k < n) : seqIndex? k n = some (cidx n k) := by
  unfold seqIndex? cidx
  by_cases hk : k < 0
  · simp only [hk, if_true]
    have h1 : ¬ k + (n : Int) < 0 := by omega
    have h3 : ¬ k + (n : Int) ≥ n := by omega
    simp [h1, h3]
    try omega
  · simp only [hk, if_false]
    have h3 : ¬ k ≥ (n : Int) := by omega
    simp [hk, h3]
    try omega
end
end Mine
open PySem PySem.W PySem.Calls PyProof.Rows
set_option Elab.async false
set_option linter.all false
set_option maxRecDepth 100000
set_option genSizeOf false
namespace Mine

mutual
noncomputable def toPy : CV → PyData
  | .bool b => .bool b
  | .int i => .int i
  | .str s => .str s
  | .tup vs => .tuple (toPys vs)
  | .lst vs => .list (toPys vs)
  | _ => .none
noncomputable def toPys : List CV → List PyData
  | [] => []
  | v :: vs => toPy v :: toPys vs
end
mutual
noncomputable def isPy : CV → Bool
  | .none => true
  | .bool _ => true
  | .int _ => true
  | .str s => PyData.strOk s
  | .tup vs => isPys vs
  | .lst vs => isPys vs
  | _ => false
noncomputable def isPys : List CV → Bool
  | [] => true
  | v :: vs => isPy v && isPys vs
end
noncomputable def ceq (a b : CV) : Bool := PyData.eqv (toPy a) (toPy b)

mutual
theorem VR.reads {I : IM} {h : Heap} (hi : ∀ a o, I a = some o → h.get? a = some o) : ∀ (c : CV) (v : Value), isPy c = true → VR I c v → (∃ as, Reads h v (toPy c) as) ∧ (toPy c).canLay0 = true
  | .none, v, _, r => by simp only [VR] at r; subst r; exact ⟨(in_1_0 _ (.none)), rfl⟩
  | .bool b, v, _, r => by simp only [VR] at r; subst r; exact ⟨(in_1_0 _ (.bool b)), rfl⟩
  | .int i, v, _, r => by simp only [VR] at r; (refine el_1_0 r fun t xEl1 => ?_; try clear r; obtain rfl := xEl1); exact ⟨(in_1_0 _ (.int i t)), rfl⟩
  | .str s, v, p, r => by simp only [VR] at r; (refine el_1_0 r fun t xEl1 => ?_; try clear r; obtain rfl := xEl1); exact ⟨(in_1_0 _ (.str s t)), by simpa [isPy, toPy, PyData.canLay0] using p⟩
  | .tup vs, v, p, r => by
    simp only [VR] at r
    (refine el_3_1 r fun a n xs xEl3 rEl => ?_; try clear r; obtain rfl := xEl3; (refine el_0_1 rEl fun h1 h2 => ?_; try clear rEl))
    (refine el_0_1 (VRs.reads hi vs xs.toList (by simpa [isPy] using p) h2) fun xEl0 hl => ?_; (refine el_1_0 xEl0 fun as ra => ?_; try clear xEl0))
    exact ⟨(in_1_0 as (.tuple (hi _ _ h1) rfl rfl ra)), by simpa [toPy, PyData.canLay0] using hl⟩
  | .lst vs, v, p, r => by
    simp only [VR] at r
    (refine el_3_1 r fun a n xs xEl3 rEl => ?_; try clear r; obtain rfl := xEl3; (refine el_0_1 rEl fun h1 h2 => ?_; try clear rEl))
    (refine el_0_1 (VRs.reads hi vs xs.toList (by simpa [isPy] using p) h2) fun xEl0 hl => ?_; (refine el_1_0 xEl0 fun as ra => ?_; try clear xEl0))
    exact ⟨(in_1_0 _ (.list (hi _ _ h1) rfl rfl ra)), by simpa [toPy, PyData.canLay0] using hl⟩
  | .loc _, _, p, _ => by simp [isPy] at p
  | .raw _, _, p, _ => by simp [isPy] at p
  | .rng _ _, _, p, _ => by simp [isPy] at p
  | .obj _ _, _, p, _ => by simp [isPy] at p
theorem VRs.reads {I : IM} {h : Heap} (hi : ∀ a o, I a = some o → h.get? a = some o) : ∀ (cs : List CV) (vs : List Value), isPys cs = true → VRs I cs vs → (∃ as, ReadsAll h vs (toPys cs) as) ∧ PyData.canLayAll0 (toPys cs) = true
  | [], vs, _, r => by have := r.nil_iff; subst this; exact ⟨(in_1_0 _ (.nil)), rfl⟩
  | c :: cs, vs, p, r => by
    (refine el_2_1 r.uncons fun y ys xEl2 rEl => ?_; obtain rfl := xEl2; (refine el_0_1 rEl fun r1 r2 => ?_; try clear rEl))
    simp only [isPys, Bool.and_eq_true] at p
    (refine el_0_1 (VR.reads hi c y p.1 r1) fun xEl0 a2 => ?_; (refine el_1_0 xEl0 fun as a1 => ?_; try clear xEl0))
    (refine el_0_1 (VRs.reads hi cs ys p.2 r2) fun xEl0 b2 => ?_; (refine el_1_0 xEl0 fun bs b1 => ?_; try clear xEl0))
    exact ⟨(in_1_0 _ (.cons a1 b1)), by simp [toPys, PyData.canLayAll0, a2, b2]⟩
end
theorem isPys_all : ∀ {cs : List CV}, isPys cs = true ↔ ∀ c ∈ cs, isPy c = true
  | [] => by decide
  | c :: cs => by simp [isPys, isPys_all (cs := cs)]
section
variable {C : Cx} {dep : Nat} {KF I J : IM} {st : CSt} {s : Shared} {Q : CV → CSt → Prop}

theorem W2.eqP {a b : CV} (ok : C.Ok dep) (pa : isPy a = true) (pb : isPy b = true) (hd : (toPy a).depth ≤ 100) (h : Q (.bool (ceq a b)) st) : W2 C (compareOp .Eq) a b st Q := fun I v u r1 r2 KF s S => by
  (refine el_0_1 (VR.reads S.imm a v pa r1) fun xEl0 hx => ?_; (refine el_1_0 xEl0 fun as x => ?_; try clear xEl0))
  (refine el_0_1 (VR.reads S.imm b u pb r2) fun xEl0 hy => ?_; (refine el_1_0 xEl0 fun bs y => ?_; try clear xEl0))
  exact SeqAt.compareEq_reads x y hx hy (lt_min hd (by have := ok.units; omega)) ⟨I, st, .refl I, S, .bool (ceq a b), by simp [VR, ceq], h⟩
theorem W2.neP {a b : CV} (ok : C.Ok dep) (pa : isPy a = true) (pb : isPy b = true) (hd : (toPy a).depth ≤ 100) (h : Q (.bool (!ceq a b)) st) : W2 C (compareOp .NotEq) a b st Q := fun I v u r1 r2 KF s S => by
  (refine el_0_1 (VR.reads S.imm a v pa r1) fun xEl0 hx => ?_; (refine el_1_0 xEl0 fun as x => ?_; try clear xEl0))
  (refine el_0_1 (VR.reads S.imm b u pb r2) fun xEl0 hy => ?_; (refine el_1_0 xEl0 fun bs y => ?_; try clear xEl0))
  exact SeqAt.compareNe_reads x y hx hy (lt_min hd (by have := ok.units; omega)) ⟨I, st, .refl I, S, .bool (!ceq a b), by simp [VR, ceq], h⟩

open Classical in
noncomputable def eqTo (h : Heap) (d : PyData) (y : Value) : Bool := if q : ∃ e : PyData, e.canLay0 = true ∧ ∃ as, Reads h y e as then PyData.eqv (Classical.choose q) d else false
theorem eqTo_of {h : Heap} {d e : PyData} {y : Value} {as : List Addr} (he : e.canLay0 = true) (r : Reads h y e as) : eqTo h d y = PyData.eqv e d := by
  have q : ∃ e : PyData, e.canLay0 = true ∧ ∃ as, Reads h y e as := (in_1_1 e he (in_1_0 as r))
  unfold eqTo
  rw [dif_pos q]
  (refine el_0_1 (Classical.choose_spec q) fun h1 rEl => ?_; (refine el_1_0 rEl fun bs h2 => ?_; try clear rEl))
  rw [SeqAt.Reads.unique _ _ _ _ _ h1 h2 r]
theorem any_eqTo (S : SR C KF I st s) {b : CV} : ∀ {cs : List CV} {vs : List Value}, isPys cs = true → VRs I cs vs → vs.any (eqTo s.heap (toPy b)) = cs.any fun c => ceq c b
  | [], vs, _, r => by have := r.nil_iff; subst this; rfl
  | c :: cs, vs, p, r => by
    (refine el_2_1 r.uncons fun y ys xEl2 rEl => ?_; obtain rfl := xEl2; (refine el_0_1 rEl fun r1 r2 => ?_; try clear rEl))
    simp only [isPys, Bool.and_eq_true] at p
    (refine el_0_1 (VR.reads S.imm c y p.1 r1) fun xEl0 a2 => ?_; (refine el_1_0 xEl0 fun as a1 => ?_; try clear xEl0))
    simp only [List.any_cons, List.any_cons, any_eqTo S p.2 r2, eqTo_of a2 a1]; rfl
theorem eqAt_items (S : SR C KF I st s) (ok : C.Ok dep) {b : CV} {u : Value} (pb : isPy b = true) (hd : (toPy b).depth ≤ 100) (rb : VR I b u) : ∀ {cs : List CV} {vs : List Value}, isPys cs = true → VRs I cs vs →
    ∀ y ∈ vs, SeqAt.EqAt C.A.in1 s y u (eqTo s.heap (toPy b) y)
  | [], vs, _, r, y, hy => by have := r.nil_iff; subst this; cases hy
  | c :: cs, vs, p, r, y, hy => by
    (refine el_2_1 r.uncons fun z zs xEl2 rEl => ?_; obtain rfl := xEl2; (refine el_0_1 rEl fun r1 r2 => ?_; try clear rEl))
    simp only [isPys, Bool.and_eq_true] at p
    rcases List.mem_cons.mp hy with rfl | hy
    · (refine el_0_1 (VR.reads S.imm c y p.1 r1) fun xEl0 a2 => ?_; (refine el_1_0 xEl0 fun as a1 => ?_; try clear xEl0))
      (refine el_0_1 (VR.reads S.imm b u pb rb) fun xEl0 b2 => ?_; (refine el_1_0 xEl0 fun bs b1 => ?_; try clear xEl0))
      rw [eqTo_of a2 a1]
      refine SeqAt.eqAt_reads _ _ _ _ _ _ _ _ a1 b1 a2 b2 ?_
      have := ok.units
      show C.A.units + 1 + min _ _ < _
      rw [Nat.min_comm]
      exact lt_min hd (by omega)
    · exact eqAt_items S ok pb hd rb p.2 r2 y hy

theorem W2.notInLoc {b : CV} {a : Addr} {cs : List CV} (ok : C.Ok dep) (hH : st.H a = some (.list cs)) (pa : isPys cs = true) (pb : isPy b = true) (hd : (toPy b).depth ≤ 100) (h : Q (.bool (!cs.any fun c => ceq c b)) st) : W2 C (compareOp .NotIn) b (.loc a) st Q := fun I v u r1 r2 KF s S => by
  simp only [VR] at r2
  subst r2
  (refine el_0_2 (S.mu a _ hH) fun _ _ rEl => ?_; (refine el_1_1 rEl fun o ho sEl => ?_; try clear rEl; obtain ⟨n, xs, rfl, hr⟩ := sEl))
  refine SeqAt.notIn_listAt (eqTo s.heap (toPy b)) (in_1_2 _ ho rfl (in_1_0 n rfl)) (fun y hy => eqAt_items S ok pb hd r1 pa hr y (by simpa using hy)) ?_
  rw [← Array.any_toList, any_eqTo S pa hr]
  exact ⟨I, st, .refl I, S, _, by simp [VR], h⟩

-- items
theorem W2.itemT {value slice : Expr} {cs : List CV} {k : Int} {c : CV} (h1 : -(cs.length : Int) ≤ k) (h2 : k < cs.length) (hs : (cs.length : Int) < 2 ^ 62) (hc : cs[cidx cs.length k]? = some c) (h : Q c st)
    (hsl : ∀ o i, subscripted slice false o i = operate [o, i] (getItem o i) := by intros; rfl) : W2 C (subscriptTail value slice) (.tup cs) (.int k) st Q := fun I v u r1 r2 KF s S => by
  simp only [VR] at r1 r2
  (refine el_3_1 r1 fun a n xs xEl3 rEl => ?_; try clear r1; obtain rfl := xEl3; (refine el_0_1 rEl fun hi hr => ?_; try clear rEl))
  (refine el_1_0 r2 fun t xEl1 => ?_; try clear r2; obtain rfl := xEl1)
  have ht : IsTup s.heap a xs := (in_1_2 _ (S.imm _ _ hi) rfl (in_1_0 n rfl))
  (refine el_1_1 (hr.get hc) fun x hx rx => ?_)
  have e := hr.length
  refine tail_any ht.typeIs slot_tuple_getitem.lookup (PyProof.Rows.getItem_tuple ht (by omega) (by omega) (seqIndex_of (by simp at e; omega) (by simp at e; omega)) ?_ ⟨I, st, .refl I, S, c, rx, h⟩) (hsl _ _)
  have : xs.size = cs.length := by simp at e; exact e.symm
  rw [this]
  simpa using hx
theorem getItem_list_any {prog : Program} {w : World} {A : Around} {E : Value → Shared → Prop} {l : Addr} {items : Array Value} {k : Int} {t : Tok} {x : Value} {Q : Value → Shared → Prop} (hl : s.heap.IsList l items)
    (h1 : -(items.size : Int) ≤ k) (h2 : k < items.size) (hs : (items.size : Int) < 2 ^ 62) (hx : items[cidx items.size k]? = some x) (h : Q x s) : wpAny (model prog w) A (getItem (.ref l) (.int k t)) Q E s := by
  by_cases hk : k < 0
  · unfold cidx at hx
    rw [if_pos hk] at hx
    exact wpAny_getItem_list_neg hl hk (by omega +splitDisjunctions) (by omega) hx h
  · unfold cidx at hx
    rw [if_neg hk] at hx
    exact wpAny_getItem_list hl (by omega) (by omega) hx h
theorem W2.itemL {value slice : Expr} {cs : List CV} {k : Int} {c : CV} (h1 : -(cs.length : Int) ≤ k) (h2 : k < cs.length) (hs : (cs.length : Int) < 2 ^ 62) (hc : cs[cidx cs.length k]? = some c) (h : Q c st)
    (hsl : ∀ o i, subscripted slice false o i = operate [o, i] (getItem o i) := by intros; rfl) : W2 C (subscriptTail value slice) (.lst cs) (.int k) st Q := fun I v u r1 r2 KF s S => by
  simp only [VR] at r1 r2
  (refine el_3_1 r1 fun a n xs xEl3 rEl => ?_; try clear r1; obtain rfl := xEl3; (refine el_0_1 rEl fun hi hr => ?_; try clear rEl))
  (refine el_1_0 r2 fun t xEl1 => ?_; try clear r2; obtain rfl := xEl1)
  have hl : s.heap.IsList a xs := (in_1_2 _ (S.imm _ _ hi) rfl (in_1_0 n rfl))
  (refine el_1_1 (hr.get hc) fun x hx rx => ?_)
  have e : xs.size = cs.length := by have := hr.length; simp at this; exact this.symm
  refine tail_any hl.typeIs slot_list_getitem.lookup (getItem_list_any hl (by omega) (by omega) (by omega) ?_ ⟨I, st, .refl I, S, c, rx, h⟩) (hsl _ _)
  rw [e]; simpa using hx
theorem W2.itemLoc {value slice : Expr} {a : Addr} {cs : List CV} {k : Int} {c : CV} (hH : st.H a = some (.list cs)) (h1 : -(cs.length : Int) ≤ k) (h2 : k < cs.length) (hs : (cs.length : Int) < 2 ^ 62) (hc : cs[cidx cs.length k]? = some c) (h : Q c st)
    (hsl : ∀ o i, subscripted slice false o i = operate [o, i] (getItem o i) := by intros; rfl) : W2 C (subscriptTail value slice) (.loc a) (.int k) st Q := fun I v u r1 r2 KF s S => by
  simp only [VR] at r1 r2
  subst r1
  (refine el_1_0 r2 fun t xEl1 => ?_; try clear r2; obtain rfl := xEl1)
  (refine el_0_2 (S.mu a _ hH) fun _ _ rEl => ?_; (refine el_1_1 rEl fun o ho sEl => ?_; try clear rEl; obtain ⟨n, xs, rfl, hr⟩ := sEl))
  have hl : s.heap.IsList a xs := (in_1_2 _ ho rfl (in_1_0 n rfl))
  (refine el_1_1 (hr.get hc) fun x hx rx => ?_)
  have e : xs.size = cs.length := by have := hr.length; simp at this; exact this.symm
  refine tail_any hl.typeIs slot_list_getitem.lookup (getItem_list_any hl (by omega) (by omega) (by omega) ?_ ⟨I, st, .refl I, S, c, rx, h⟩) (hsl _ _)
  rw [e]; simpa using hx
theorem W2.itL {value slice : Expr} {cs : List CV} {k : Nat} {c : CV} (hc : cs[k]? = some c) (hs : cs.length ≤ 2 ^ 24) (h : Q c st) (hsl : ∀ o i, subscripted slice false o i = operate [o, i] (getItem o i) := by intros; rfl) : W2 C (subscriptTail value slice) (.lst cs) (.int k) st Q := by
  have hk := (List.getElem?_eq_some_iff.mp hc).1
  have e : cidx cs.length (k : Int) = k := cidx_nat
  exact W2.itemL (by simp) (by (exact Int.ofNat_lt.mpr (by assumption))) (by omega) (by rw [e]; exact hc) h hsl
theorem W2.itLoc {value slice : Expr} {a : Addr} {cs : List CV} {k : Nat} {c : CV} (hH : st.H a = some (.list cs)) (hc : cs[k]? = some c) (hs : cs.length ≤ 2 ^ 24) (h : Q c st) (hsl : ∀ o i, subscripted slice false o i = operate [o, i] (getItem o i) := by intros; rfl) : W2 C (subscriptTail value slice) (.loc a) (.int k) st Q := by
  have hk := (List.getElem?_eq_some_iff.mp hc).1
  have e : cidx cs.length (k : Int) = k := cidx_nat
  exact W2.itemLoc hH (by simp) (by (exact Int.ofNat_lt.mpr (by assumption))) (by omega) (by rw [e]; exact hc) h hsl
theorem W2.itL0 {value slice : Expr} {cs : List CV} {c : CV} (h : Q c st) (hs : (c :: cs).length ≤ 2 ^ 24 := by exact Nat.le_of_ble_eq_true rfl) (hsl : ∀ o i, subscripted slice false o i = operate [o, i] (getItem o i) := by intros; rfl) : W2 C (subscriptTail value slice) (.lst (c :: cs)) (.int 0) st Q := W2.itL (k := 0) rfl hs h hsl
theorem W2.itL1 {value slice : Expr} {a : CV} {cs : List CV} {c : CV} (h : Q c st) (hs : (a :: c :: cs).length ≤ 2 ^ 24 := by exact Nat.le_of_ble_eq_true rfl) (hsl : ∀ o i, subscripted slice false o i = operate [o, i] (getItem o i) := by intros; rfl) : W2 C (subscriptTail value slice) (.lst (a :: c :: cs)) (.int 1) st Q := W2.itL (k := 1) rfl hs h hsl
theorem W2.itL2 {value slice : Expr} {a b : CV} {cs : List CV} {c : CV} (h : Q c st) (hs : (a :: b :: c :: cs).length ≤ 2 ^ 24 := by exact Nat.le_of_ble_eq_true rfl) (hsl : ∀ o i, subscripted slice false o i = operate [o, i] (getItem o i) := by intros; rfl) : W2 C (subscriptTail value slice) (.lst (a :: b :: c :: cs)) (.int 2) st Q := W2.itL (k := 2) rfl hs h hsl
end
end Mine
open PySem PySem.W PySem.Calls PyProof.Rows
set_option Elab.async false
set_option linter.all false
set_option maxRecDepth 100000
set_option genSizeOf false
namespace Mine

section
variable {C : Cx} {dep : Nat} {KF I : IM} {st : CSt} {s : Shared} {Q : CV → CSt → Prop}

theorem SR.kin (S : SR C KF I st s) (ok : C.Ok dep) : C.K.In s.heap := ok.K.keeps fun b o e => S.imm b o (S.base b o e)

noncomputable def kwn (kws : List Keyword) : List Str := kws.filterMap (·.arg)
theorem kw_all {pos : Pos} {env : Env} : ∀ {kws : List Keyword}, kws.all (·.arg.isSome) = true → (backToKw pos (keywordEach kws env)).all (·.1.isSome) = true
  | [], _ => rfl
  | ⟨a, v, p⟩ :: kws, h => by
    simp only [List.all_cons, Bool.and_eq_true] at h
    show (a.isSome && (backToKw pos (keywordEach kws env)).all (·.1.isSome)) = true
    rw [kw_all h.2, h.1]; rfl
theorem kw_none {pos : Pos} {env : Env} : ∀ {kws : List Keyword}, kws.all (·.arg.isSome) = true → (backToKw pos (keywordEach kws env)).any (·.1.isNone) = false
  | [], _ => rfl
  | ⟨a, v, p⟩ :: kws, h => by
    simp only [List.all_cons, Bool.and_eq_true] at h
    show (a.isNone || (backToKw pos (keywordEach kws env)).any (·.1.isNone)) = false
    rw [kw_none h.2]
    cases a <;> simp_all
theorem kw_names {pos : Pos} {env : Env} : ∀ {kws : List Keyword}, (backToKw pos (keywordEach kws env)).filterMap (·.1) = kwn kws
  | [] => rfl
  | ⟨a, v, p⟩ :: kws => by
    show List.filterMap _ ((a, _) :: backToKw pos (keywordEach kws env)) = kwn (⟨a, v, p⟩ :: kws)
    cases a <;> simp [kwn, List.filterMap_cons, kw_names (kws := kws)] <;> exact kw_names
theorem noStar_any {pos : Pos} {env : Env} : ∀ {es : List Expr}, es.all noStar = true → (backTo pos (starEach es env)).any (·.1) = false
  | [], _ => rfl
  | e :: es, h => by
    simp only [List.all_cons, Bool.and_eq_true] at h
    have ih := noStar_any (pos := pos) (env := env) h.2
    cases e <;> first | (simp [noStar] at h; done) | exact ih
theorem kwEval_W {pos : Pos} : ∀ {kws : List Keyword} {st : CSt} {Q : List CV → CSt → Prop}, WEs C (kws.map (·.value)) st Q → ∀ I, WL C (evalAll ((backToKw pos (keywordEach kws C.env)).map (·.2))) I st (fun J vs st' => ∃ cs, VRs J cs vs ∧ Q cs st')
  | [], st, Q, h, I => WL.pure (in_1_1 ([]) (.nil) h)
  | ⟨a, v, p⟩ :: kws, st, Q, h, I => by
    show WL C (do let v ← (do let v ← eval v C.env; standAt pos; pure v); return v :: (← holding [v] (evalAll ((backToKw pos (keywordEach kws C.env)).map (·.2))))) I st _
    refine WL.bind (WL.bind ((h I).mono (fun J u st1 _ hh => hh.use fun c r q => WL.bind (WL.standAt (WL.pure ?_)))))
    refine WL.bind (WL.holding ((kwEval_W (kws := kws) q J).mono (fun J2 vs st2 l hEl => ?_)))
    (refine el_1_1 hEl fun cs rs q2 => ?_; try clear hEl)
    exact WL.pure (in_1_1 (c :: cs) (.cons (r.mono l) rs) q2)

theorem evalArgs_W {f : Value} {pos : Pos} {es : List Expr} {kws : List Keyword} {Q : List CV → List CV → CSt → Prop} (h : WEs C es st (fun as st1 => WEs C (kws.map (·.value)) st1 (fun ks st2 => Q as ks st2))) (hs : es.all noStar = true) (hk : kws.all (·.arg.isSome) = true) (I : IM) :
    WL C (evalArgs f true (backTo pos (starEach es C.env)) (backToKw pos (keywordEach kws C.env))) I st (fun J a st' => ∃ as ks vs, VRs J as a.pos ∧ a.kw = (kwn kws).zip vs ∧ VRs J ks vs ∧ Q as ks st') := fun KF s S => by
  cases es with
  | nil =>
    refine evalArgs_kw2_nil (kw_all hk) (wpAny_mono (kwEval_W h I KF s S) (fun vs s' hh => hh.use fun J st' l S' ⟨cs, r, q⟩ => ⟨J, st', l, S', [], cs, vs, .nil, ?_, r, q⟩) fun _ _ x => x)
    rw [kw_names]
  | cons e es =>
    have he : starEach (e :: es) C.env = (false, eval e C.env) :: starEach es C.env := by
      simp only [List.all_cons, Bool.and_eq_true] at hs
      cases e <;> first | rfl | (simp [noStar] at hs; done)
    refine evalArgs_kw2 (kw_all hk) (wpAny_mono (spliced_W h (noStar_all hs) I KF s S) (fun vs s' hh => hh.use fun J st' l S' ⟨cs, r, q⟩ => ?_) fun _ _ x => x) he
    refine wpAny_mono (kwEval_W q J KF s' S') (fun us s2 hh => hh.use fun J2 st2 l2 S2 ⟨ks, r2, q2⟩ => ⟨J2, st2, l.trans l2, S2, cs, ks, us, VRs.mono l2 _ _ r, ?_, r2, q2⟩) fun e s2 hF => hF.elim
    rw [kw_names]

/-- a call of it leaves nothing on the machine's own stack -/
noncomputable def KpOk (C : Cx) (f : Value) : Prop := ∀ h, C.K.In h → ∃ k, (k = Keeper.frame ∨ k = Keeper.machine ∨ k = Keeper.boundFrame) ∧ Looks (model C.prog C.w) h (keeperOf f) k
theorem KpOk.ref {f : Value} (h : keepIn C.K f = true) : KpOk C f := fun hp XK => keeps_K h hp XK
theorem KpOk.builtin {id : String} : KpOk C (.builtin id) := fun hp XK => (in_1_1 (.machine) (.inr (.inl rfl)) (Looks.of_pure rfl))
theorem KpOk.type {id : String} : KpOk C (.type id) := fun hp XK => (in_1_1 (.machine) (.inr (.inl rfl)) (Looks.of_pure rfl))

theorem callWith_W {f : Value} {pos : Pos} {fst : List CV} {fv : List Value} {es : List Expr} {kws : List Keyword} (ok : C.Ok dep) (hf : KpOk C f) (rf : VRs I fst fv)
    (h : WEs C es st (fun as st1 => WEs C (kws.map (·.value)) st1 (fun ks st2 => WCall C f (fst ++ as) (kwn kws) ks st2 Q))) (hs : es.all noStar = true) (hk : kws.all (·.arg.isSome) = true) :
    WL C (callWith pos f fv (backTo pos (starEach es C.env)) (backToKw pos (keywordEach kws C.env))) I st (fun J r st' => ValP J r Q st') := fun KF s S => by
  refine callWith_of (P := fun h => C.K.In h) (by rw [noStar_any hs, kw_none hk]; rfl) hf (wpAny_mono (evalArgs_W (f := f) (pos := pos) h hs hk I KF s S) (fun a s' ⟨J, st', l, S', as, ks, vs, r1, e, r2, q⟩ => ⟨S'.kin ok, ?_⟩) fun _ _ x => x)
  rw [e]
  refine wpAny_mono (q J _ _ ((VRs.mono l _ _ rf).append r1) r2 KF s' S') (fun v s2 hh => hh.use fun J2 st2 l2 S2 hv => hv.use fun b r q2 => ⟨J2, st2, l.trans l2, S2, b, r, q2⟩) fun e s2 hF => hF.elim

/-- a function's name is called -/
theorem WE.call {x : Str} {px : Pos} {es : List Expr} {kws : List Keyword} {pos : Pos} (ok : C.Ok dep)
    (h : WE C (.Name x px) st (fun f st1 => ∃ fv, f = .raw fv ∧ KpOk C fv ∧ WEs C es st1 (fun as st2 => WEs C (kws.map (·.value)) st2 (fun ks st3 => WCall C fv as (kwn kws) ks st3 Q))))
    (hs : es.all noStar = true := by rfl) (hk : kws.all (·.arg.isSome) = true := by rfl) : WE C (.Call (.Name x px) es kws pos) st Q := fun I => by
  show WL C (do callWith pos (← eval (.Name x px) C.env) [] (backTo pos (starEach es C.env)) (backToKw pos (keywordEach kws C.env))) I st _
  refine WL.bind ((h I).mono (fun J f st1 _ hEl => ?_))
  obtain ⟨c, r, fv, e, hf, q⟩ := hEl
  subst e
  simp only [VR] at r
  subst r
  exact callWith_W ok hf .nil q hs hk

/-- what a name is of a value, when it is called -/
noncomputable def WMeth (C : Cx) (a : CV) (name : Str) (f : Value) (st : CSt) : Prop :=
  ∀ (I : IM) (v : Value) (KF : IM) (s : Shared) (pl : Sem Bool) (E : Value → Shared → Prop) (Q : Value × List Value → Shared → Prop), VR I a v → SR C KF I st s → (∀ tk, Q (f, [v]) { s with toks := tk }) → wpAny (model C.prog C.w) C.A (getMethod v name pl) Q E s

theorem WE.meth {o : Expr} {name : Str} {apos pos : Pos} {es : List Expr} {kws : List Keyword} (ok : C.Ok dep)
    (h : WE C o st (fun a st1 => ∃ f, KpOk C f ∧ WMeth C a name f st1 ∧ WEs C es st1 (fun as st2 => WEs C (kws.map (·.value)) st2 (fun ks st3 => WCall C f (a :: as) (kwn kws) ks st3 Q))))
    (hs : es.all noStar = true := by rfl) (hk : kws.all (·.arg.isSome) = true := by rfl) (hb : attributeBase o name C.env (eval o C.env) = eval o C.env := by rfl)
    (hfew : methodCallForm (es.length + kws.length) (backTo pos (starEach es C.env)) (backToKw pos (keywordEach kws C.env)) = true := by rfl) (hline : (apos.endLine == pos.line) = true := by rfl) :
    WE C (.Call (.Attribute o name apos) es kws pos) st Q := fun I => by
  rw [arm_eval_Call, hb]
  refine WL.bind ((h I).mono (fun J v st1 _ hEl => ?_))
  obtain ⟨a, r, f, hf, hm, q⟩ := hEl
  refine WL.bind (WL.standAt ?_)
  unfold methodCall
  rw [hfew]
  have hpos : methodCallPos true o C.env apos pos = pure pos := by unfold methodCallPos; simp [hline]
  rw [hpos]
  refine WL.bind (WL.holding fun KF s S => ?_)
  refine hm J v KF s _ _ _ r S fun tk => ⟨J, st1, .refl J, S.toks tk, ?_⟩
  refine WL.bind (WL.pure ?_)
  exact callWith_W (fst := [a]) ok hf (.cons r .nil) q hs hk

/-- an attribute is read -/
noncomputable def WAttr (C : Cx) (a : CV) (name : Str) (st : CSt) (Q : CV → CSt → Prop) : Prop := W1 C (fun v => getAttr v name true) a st Q
theorem WE.attr {x : Str} {px pos : Pos} {name : Str} (h : WE C (.Name x px) st (fun a st1 => WAttr C a name st1 Q)) : WE C (.Attribute (.Name x px) name pos) st Q := fun I => by
  simp only [arm_eval_Attribute]
  refine WL.bind ((h I).mono (fun J v st1 _ hh => hh.use fun a r q => ?_))
  refine WL.bind (WL.standAt (WL.bind (WL.holding ((q J v r).mono (fun J2 u st2 l2 hh => hh.use fun b r2 q2 => ?_)))))
  exact WL.bind (WL.pure (WL.pure ⟨b, r2, q2⟩))
end
end Mine
open PySem PySem.W PySem.Calls PyProof.Rows
set_option Elab.async false
set_option linter.all false
set_option maxRecDepth 100000
set_option genSizeOf false
namespace Mine

theorem isStr_key (x y : Str) (t : Tok) : Value.isStr (.str y t) x = decide (y = x) := by
  show (y == x) = _
  by_cases h : y = x <;> rfl
theorem keyHash_eq (w : World) (x : Str) : PyData.keyHash w.params x = hashStr w x := rfl

theorem ERs.getL_some {w : World} {I : IM} {name : Str} {c : CV} : ∀ {es : List (Str × CV)} {ds : List DictEntry}, ERs w I es ds → es.lookup name = some c → ∃ v, getL name ds = some (some v) ∧ VR I c v
  | [], ds, r, h => by cases h
  | (k, u) :: es, ds, r, h => by
    simp only [ERs] at r
    (refine el_2_1 r fun d ds' xEl2 rEl => ?_; try clear r; obtain rfl := xEl2; (refine el_0_2 rEl fun h1 yEl1 sEl => ?_; try clear rEl; obtain ⟨t, h2⟩ := yEl1; obtain ⟨h3, h4⟩ := sEl))
    unfold getL
    simp only [List.find?_cons, h2, isStr_key]
    simp only [List.lookup_cons] at h
    by_cases q : k = name
    · subst q; simp at h; subst h; simpa using h3
    · have q' : (name == k) = false := by simpa using Ne.symm q
      rw [q'] at h
      (refine el_1_1 (ERs.getL_some h4 h) fun v e1 e2 => ?_)
      refine (in_1_1 v ?_ e2)
      unfold getL at e1
      simp only [decide_eq_false q]
      revert e1
      cases hf : List.find? (fun x => x.key.isStr name) ds' with
      | some e => exact id
      | none =>
        dsimp only
        intro e1
        split at e1 <;> cases e1
theorem ERs.noRef {w : World} {I : IM} : ∀ {es : List (Str × CV)} {ds : List DictEntry}, ERs w I es ds → ds.any (·.refKey) = false
  | [], ds, r => by simp only [ERs] at r; subst r; rfl
  | (k, u) :: es, ds, r => by
    simp only [ERs] at r
    (refine el_2_1 r fun d ds' xEl2 rEl => ?_; try clear r; obtain rfl := xEl2; (refine el_0_2 rEl fun h1 yEl1 sEl => ?_; try clear rEl; obtain ⟨t, h2⟩ := yEl1; obtain ⟨h3, h4⟩ := sEl))
    simp only [List.any_cons, ERs.noRef h4, Bool.or_false]
    show DictEntry.refKey d = false
    unfold DictEntry.refKey
    rw [h2]
theorem ERs.noKey {w : World} {I : IM} {name : Str} : ∀ {es : List (Str × CV)} {ds : List DictEntry}, ERs w I es ds → es.lookup name = none → ds.any (·.key.isStr name) = false
  | [], ds, r, _ => by simp only [ERs] at r; subst r; rfl
  | (k, u) :: es, ds, r, h => by
    simp only [ERs] at r
    (refine el_2_1 r fun d ds' xEl2 rEl => ?_; try clear r; obtain rfl := xEl2; (refine el_0_2 rEl fun h1 yEl1 sEl => ?_; try clear rEl; obtain ⟨t, h2⟩ := yEl1; obtain ⟨h3, h4⟩ := sEl))
    simp only [List.lookup_cons] at h
    by_cases q : k = name
    · subst q; simp at h
    · have q' : (name == k) = false := by simpa using Ne.symm q
      rw [q'] at h
      simp only [List.any_cons, ERs.noKey h4 h, h2, isStr_key, decide_eq_false q]; rfl
theorem ERs.getL_none {w : World} {I : IM} {name : Str} {es : List (Str × CV)} {ds : List DictEntry} (r : ERs w I es ds) (h : es.lookup name = none) : getL name ds = some none := by
  unfold getL
  have h1 := r.noKey h
  have : ds.find? (fun x => x.key.isStr name) = none := by
    rw [List.find?_eq_none]
    intro d hd
    have := List.any_eq_false.mp h1 d hd
    simpa using this
  rw [this]
  dsimp only
  rw [r.noRef, if_neg (by decide)]

/-- a name is laid in a dict -/
noncomputable def aput : List (Str × CV) → Str → CV → List (Str × CV)
  | [], k, c => [(k, c)]
  | (k', v) :: es, k, c => if k' = k then (k', c) :: es else (k', v) :: aput es k c
theorem ERs.put {w : World} {I : IM} {name : Str} {c : CV} {v : Value} {t : Tok} (rv : VR I c v) : ∀ {es : List (Str × CV)} {ds : List DictEntry}, ERs w I es ds → ERs w I (aput es name c) (putL name (hashStr w name) (.str name t) v ds)
  | [], ds, r => by simp only [ERs] at r; subst r; simp only [aput, putL, ERs]; exact (in_2_4 _ ([]) rfl rfl (in_1_0 t rfl) rv rfl)
  | (k, u) :: es, ds, r => by
    simp only [ERs] at r
    (refine el_2_1 r fun d ds' xEl2 rEl => ?_; try clear r; obtain rfl := xEl2; (refine el_0_2 rEl fun h1 yEl1 sEl => ?_; try clear rEl; obtain ⟨t', h2⟩ := yEl1; obtain ⟨h3, h4⟩ := sEl))
    simp only [aput, putL]
    rw [h2, isStr_key]
    by_cases q : k = name
    · rw [if_pos q, if_pos (by simpa using q)]
      simp only [ERs]
      exact (in_2_4 _ _ rfl h1 (in_1_0 t' rfl) rv h4)
    · rw [if_neg q, if_neg (by simpa using q)]
      simp only [ERs]
      exact (in_2_4 _ _ rfl h1 (in_1_0 t' h2) h3 (ERs.put rv h4))

theorem VR.handed {I : IM} {c : CV} {v : Value} (r : VR I c v) (h : ∀ u, c ≠ .raw u) : handedIn v = true := by
  cases c <;> simp only [VR] at r <;> first | (subst r; rfl) | ((refine el_1_0 r fun _ xEl1 => ?_; try clear r; obtain rfl := xEl1); rfl) | ((refine el_3_1 r fun _ _ _ xEl3 _ => ?_; try clear r; obtain rfl := xEl3); rfl) | (obtain ⟨_, _, rfl, _⟩ := r; rfl) | ((refine el_4_1 r fun _ _ _ _ xEl4 _ => ?_; try clear r; obtain rfl := xEl4); rfl) | (exact absurd rfl (h _)) | skip

/-- what is known of a class of the text -/
structure ClsOk (K : Frag) (cl : Addr) : Prop where
  get : plainGet K cl "" = true
  dict : hasDictIn K cl = true
  over : plainOver K cl = true
  set : findIn K (.ref cl) "__setattr__" = some (some (.builtin "object.__setattr__"))
  makes : makesIn K cl = true

section
variable {C : Cx} {dep : Nat} {KF I : IM} {st : CSt} {s : Shared} {Q : CV → CSt → Prop}

theorem inst_at {x d cl : Addr} {es : List (Str × CV)} (S : SR C KF I st s) (hx : st.H x = some (.inst cl d)) (hd : st.H d = some (.dict es)) :
    ∃ ds n, InstAt s.heap x (instObj cl d) cl (some (dictOf ds n)) ∧ ERs C.w I es ds ∧ s.heap.get? d = some (dictOf ds n) := by
  (refine el_0_2 (S.mu x _ hx) fun _ _ rEl => ?_; (refine el_1_1 rEl fun ox h1 h2 => ?_; try clear rEl))
  (refine el_0_2 (S.mu d _ hd) fun _ _ rEl => ?_; (refine el_1_1 rEl fun od h3 sEl => ?_; try clear rEl; obtain ⟨n, ds, h4, h5⟩ := sEl))
  subst h4
  simp only [OR] at h2
  subst h2
  refine (in_2_2 ds.toList n ⟨h1, rfl, rfl, ?_⟩ h5 ?_)
  · show s.heap.get? d = some _; rw [h3]
  · rw [h3]

theorem WAttr.inst {x d cl : Addr} {es : List (Str × CV)} {name : Str} {c : CV} {attr : Option Value} (ok : C.Ok dep) (hc : ClsOk C.K cl) (hx : st.H x = some (.inst cl d)) (hd : st.H d = some (.dict es)) (hl : es.lookup name = some c)
    (ha : findIn C.K (.ref cl) name = some attr) (hn : noGet C.K attr = true) (hr : ∀ u, c ≠ .raw u) (h : Q c st) : WAttr C (.loc x) name st Q := fun I v r KF s S => by
  simp only [VR] at r; subst r
  (refine el_2_2 (inst_at S hx hd) fun ds n hi he _ => ?_)
  (refine el_1_1 (he.getL_some hl) fun v hv rv => ?_)
  exact get_value (S.kin ok) hi (plainGet_of hc.get).1 (findObj_own hc.dict ha hn (by simp only [lookIn_dict]; exact hv)) (rv.handed hr) ⟨I, st, .refl I, S.toks _, c, rv, h⟩

theorem WMeth.inst {x d cl f : Addr} {es : List (Str × CV)} {name : Str} (ok : C.Ok dep) (hc : ClsOk C.K cl) (hx : st.H x = some (.inst cl d)) (hd : st.H d = some (.dict es)) (hl : es.lookup name = none)
    (hf : findIn C.K (.ref cl) name = some (some (.ref f))) (ht : typeIn C.K (.ref f) = some (.type "function")) : WMeth C (.loc x) name (.ref f) st := fun I v KF s pl E Q r S q => by
  simp only [VR] at r; subst r
  (refine el_2_2 (inst_at S hx hd) fun ds n hi he _ => ?_)
  refine method_fn (S.kin ok) hi (plainGet_of hc.get).1 (plainGet_of hc.get).2 hf ht (by show (lookIn name (dictOf ds n)).map _ = _; simp only [lookIn_dict, he.getL_none hl]; rfl) ?_
  have := q s.toks; exact this

/-- an object's attribute is laid -/
theorem setattr_W {x d cl : Addr} {es : List (Str × CV)} {name : Str} {c : CV} {v : Value} {Q : CSt → Prop} (ok : C.Ok dep) (hc : ClsOk C.K cl) (hx : st.H x = some (.inst cl d)) (hd : st.H d = some (.dict es)) (ht : takerIn C.K cl name = some none) (hz : es.length ≤ 900)
    (r : VR I c v) (h : Q { st with H := hput st.H d (.dict (aput es name c)) }) : WL C (setAttr (.ref x) name v) I st (fun _ _ st' => Q st') := fun KF s S => by
  (refine el_2_2 (inst_at S hx hd) fun ds n hi he hD => ?_)
  refine set_plain (S.kin ok) hi hc.set ?_
  refine osa_open (s := { s with toks := s.toks + 1 }) (S.kin ok) hi hc.over ht fun b => ?_
  (refine el_1_1 (any_some hc.dict) fun cd hcd hd' => ?_)
  obtain ⟨hxo, _, _, -⟩ := hi
  have X0 := S.kin ok
  refine wpAny_bind (wpAny_pure (wpAny_bind (wpAny_bind (wpAny_loadPart hxo (wpAny_bind (Looks.here (s := { s with toks := s.toks + 1 }) (looks_clsIn X0 hcd) ?_))))))
  rw [hd']
  refine wpAny_pure (a := some d) (wpAny_bind (wpAny_pure (wpAny_bind ?_)))
  unfold nsSet
  refine wpAny_bind (wpAny_bind (wpAny_askSetting (wpAny_pure (wpAny_bind (wpAny_mkText (wpAny_bind (wpAny_loadPart hD ?_)))))))
  have hnr : (ds.toArray.any (·.refKey)) = false := by have := he.noRef; simpa using this
  have cnd : (!ds.toArray.any (·.key.isStr name) && ds.toArray.any (·.refKey)) = false := by rw [hnr, Bool.and_false]
  dsimp only
  rw [aRefKeyMayBeTheName_at, cnd]
  have e1 : Obj.putName name (PyData.keyHash C.w.params name) (.str name (s.toks + 1)) v (dictOf ds n) = dictOf (putL name (PyData.keyHash C.w.params name) (.str name (s.toks + 1)) v ds) (putN name ds n) := putName_dict _ _ _ _ _ _
  refine wpAny_updatePart hD ?_
  have D' : (s.heap.update d (Obj.putName name (PyData.keyHash C.w.params name) (.str name (s.toks + 1)) v)).get? d = some (dictOf (putL name (PyData.keyHash C.w.params name) (.str name (s.toks + 1)) v ds) (putN name ds n)) := by
    have := Heap.get?_update_self (Obj.putName name (PyData.keyHash C.w.params name) (.str name (s.toks + 1)) v) hD (by rw [e1]; rfl)
    rw [e1] at this; exact this
  have her := he.put (name := name) (t := s.toks + 1) r
  have hlen : (putL name (PyData.keyHash C.w.params name) (.str name (s.toks + 1)) v ds).length ≤ 1000 := by
    have h1 := her.length
    have h2 : ∀ es : List (Str × CV), (aput es name c).length ≤ es.length + 1 := by
      intro es
      induction es with
      | nil => simp [aput]
      | cons e es ih => obtain ⟨k, u⟩ := e; unfold aput; split <;> simp; omega +splitDisjunctions
    have h3 := h2 es
    simp only [keyHash_eq]; omega
  refine wpAny_bind (wpAny_lookBehind D' (pastItsLine_dict (by rw [List.size_toArray, sizeLine_eq]; (exact Nat.le_trans (by assumption) (by decide)))) ?_)
  refine wpAny_pure ?_
  refine ⟨I, _, .refl I, S.setH (tk := s.toks + 2) (c := .dict (aput es name c)) hd (fun b o hb e => ((Heap.SameBut.update s.heap d _).2 b hb).trans e) D' (in_2_1 _ _ rfl ?_), h⟩
  simp only [← keyHash_eq] at her
  simpa using her

theorem WA.attr {y : Str} {py pos : Pos} {name : Str} {c : CV} {Q : CSt → Prop} (ok : C.Ok dep)
    (h : WE C (.Name y py) st (fun a st1 => ∃ x d cl es, a = .loc x ∧ ClsOk C.K cl ∧ st1.H x = some (.inst cl d) ∧ st1.H d = some (.dict es) ∧ takerIn C.K cl name = some none ∧ es.length ≤ 900 ∧ Q { st1 with H := hput st1.H d (.dict (aput es name c)) })) :
    WA C (assign (.Attribute (.Name y py) name pos) C.env) c st Q := fun I v r => by
  show WL C (do
    let ov ← holding [v] (eval (.Name y py) C.env)
    standAt pos.atName
    holding [v, ov] (setAttr ov name v)
    release [v, ov] []) I st _
  refine WL.bind (WL.holding ((h I).mono (fun J u st1 l hEl => ?_)))
  obtain ⟨a, ra, q0⟩ := hEl
  (refine el_4_6 q0 fun x d cl es e hc hx hd ht hz q => ?_; try clear q0)
  subst e
  simp only [VR] at ra; subst ra
  refine WL.bind (WL.standAt (WL.bind (WL.holding ((setattr_W ok hc hx hd ht hz (r.mono l) q).mono (fun J2 _ st2 l2 q2 => ?_)))))
  exact fun KF s S => wpAny_release ⟨J2, st2, .refl _, S, q2⟩
end
end Mine
open PySem PySem.W PySem.Calls PyProof.Rows
set_option Elab.async false
set_option linter.all false
set_option maxRecDepth 100000
set_option genSizeOf false
namespace Mine

section
variable {C : Cx} {dep : Nat} {KF I : IM} {st : CSt} {s : Shared} {Q : CV → CSt → Prop}

/-- the context within a builtin's own call -/
noncomputable def Cx.at (C : Cx) (A : Around) : Cx := { C with A := A }
theorem SR.at_ {A : Around} (S : SR C KF I st s) : SR (C.at A) KF I st s := ⟨S.kle, S.low, S.same, S.base, S.imm, S.frs, S.own, S.mu, ⟨S.loc.ns, S.loc.cell, S.loc.free, S.loc.cells⟩⟩
theorem SR.back {A : Around} (S : SR (C.at A) KF I st s) : SR C KF I st s := ⟨S.kle, S.low, S.same, S.base, S.imm, S.frs, S.own, S.mu, ⟨S.loc.ns, S.loc.cell, S.loc.free, S.loc.cells⟩⟩
theorem Cx.Ok.at_ {A : Around} (ok : C.Ok (dep + 1)) (hh : A.handled = C.A.handled) (hd : A.depth ≤ C.A.depth + 1) (hu : A.units ≤ C.A.units + 5) : (C.at A).Ok dep := by
  refine ⟨ok.fun_, ok.gl, ok.bl, ok.K, ok.g, ok.b, ok.nolimit, ok.boot, hh.trans ok.hd, ?_, ?_, ok.cellInj, ok.cellNe, ok.lbase⟩
  · have := ok.units; show A.units + _ + _ < _; omega
  · have := ok.depth; show A.depth + _ + _ < _; omega

/-- a call as a piece of code -/
noncomputable def WCode (C : Cx) (f : Value) (args : List CV) (kn : List Str) (ks : List CV) (st : CSt) (Q : CV → CSt → Prop) : Prop :=
  ∀ I us vs, VRs I args us → VRs I ks vs → ∀ KF s, SR C KF I st s → codeAny (model C.prog C.w) C.A (.call f ⟨us, kn.zip vs⟩) (fun r s' => match r with
      | .ok (.ret v) => OkP C KF I s' fun I' st' => ValP I' v Q st'
      | .ok _ => False
      | .error e => ErP C KF I false e s') s
theorem cls_W {cl fI : Addr} {args ks : List CV} {kn : List Str} (ok : C.Ok (dep + 1)) (hc : ClsOk C.K cl) (hi : findIn C.K (.ref cl) "__init__" = some (some (.ref fI))) (hf : typeIn C.K (.ref fI) = some (.type "function"))
    (h : ∀ (A : Around) (x d : Addr), (C.at A).Ok dep → x ≠ d → st.H x = none → st.H d = none → WCode (C.at A) (.ref fI) (.loc x :: args) kn ks { st with H := hput (hput st.H d (.dict [])) x (.inst cl d) } (fun v st' => v = .none ∧ Q (.loc x) st')) :
    WCall C (.ref cl) args kn ks st Q := fun I us vs r1 r2 KF s S => by
  have X0 := S.kin ok
  obtain ⟨hp, g, dr, tk, os⟩ := s
  refine wpAny_call (make_core (makes_of X0 hc.makes) (looks_findIn X0 hi) (fun self => bind_fn X0 self hf) (.inl rfl) ?_)
  have ok2 : (C.at (C.A.under (.builtin "type.__call__" ⟨.ref cl :: us, kn.zip vs⟩))).Ok dep := ok.at_ rfl (by show C.A.depth + 1 ≤ _; (exact Nat.lt_succ_self _)) (by show C.A.units + 1 ≤ _; simp)
  -- the dict
  (refine el_0_1 (S.newH (o := emptyDict) (c := .dict []) rfl (in_2_1 0 (#[]) rfl rfl)) fun n1 S1 => ?_)
  (refine el_0_1 (S1.newH (o := instObj cl hp.objs.size) (c := .inst cl hp.objs.size) rfl rfl) fun n2 S2 => ?_)
  have hsz : (hp.push emptyDict).objs.size = hp.objs.size + 1 := Heap.size_push _ _
  have hne : hp.objs.size + 1 ≠ hp.objs.size := by simp
  change (hput st.H hp.objs.size (CO.dict [])) (hp.push emptyDict).objs.size = none at n2
  rw [hsz] at n2
  have n2' : st.H (hp.objs.size + 1) = none := by rwa [hput_ne hne] at n2
  have S3 : SR C KF I { st with H := hput (hput st.H hp.objs.size (.dict [])) (hp.objs.size + 1) (.inst cl hp.objs.size) } ⟨(hp.push emptyDict).push (instObj cl hp.objs.size), g, dr, tk, os⟩ := by
    have := S2
    change SR C KF I { st with H := hput (hput st.H hp.objs.size (.dict [])) (hp.push emptyDict).objs.size (.inst cl hp.objs.size) } _ at this
    rw [hsz] at this
    exact this
  have := h _ (hp.objs.size + 1) hp.objs.size ok2 hne n2' n1 I (.ref (hp.objs.size + 1) :: us) vs (.cons (by simp [VR]) r1) r2 KF _ S3.at_
  refine codeAny_mono this fun r s' hr => ?_
  cases r with
  | error e => exact hr.elim
  | ok f =>
    cases f with
    | ret v =>
      obtain ⟨I', st', l, S', b, rb, rfl, q⟩ := hr
      simp only [VR] at rb
      exact (in_0_1 rb ⟨I', st', l, S'.back, _, by simp [VR], q⟩)
    | _ => exact hr
end
end Mine
open PySem PySem.W PySem.Calls PyProof.Rows
set_option Elab.async false
set_option linter.all false
set_option maxRecDepth 100000
set_option genSizeOf false
namespace Mine
open SetTable

-- the full cycle of i ↦ 5i + 1 mod 2^m
noncomputable def it : Nat → Nat → Nat
  | 0, x => x
  | n + 1, x => it n (5 * x + 1)
theorem it_add : ∀ a b x, it (a + b) x = it a (it b x)
  | a, 0, x => rfl
  | a, b + 1, x => by show it (a + b + 1) x = _; show it (a + b) (5 * x + 1) = _; rw [it_add a b]; rfl
noncomputable def Bc : Nat → Nat
  | 0 => 1
  | m + 1 => Bc m * (2 + 4 * Bc m)
theorem it_pow : ∀ m x, it (2 ^ m) x = (1 + 4 * Bc m) * x + Bc m
  | 0, x => by show 5 * x + 1 = _; rfl
  | m + 1, x => by
    simp only [Nat.pow_succ, Nat.mul_two, it_add, it_pow m, it_pow m, Bc]
    generalize Bc m = b
    rw [show (1 + 4 * (b * (2 + 4 * b))) = (1 + 4 * b) * (1 + 4 * b) by
      simp only [Nat.mul_add, Nat.add_mul, Nat.mul_one, Nat.one_mul]
      rw [show b * (4 * b) = 4 * (b * b) by simp only [Nat.mul_left_comm], show 4 * b * (4 * b) = 16 * (b * b) by rw [Nat.mul_assoc, Nat.mul_left_comm b 4 b, ← Nat.mul_assoc]]
      omega]
    rw [Nat.mul_add, ← Nat.mul_assoc, Nat.add_assoc]
    congr 1
    rw [Nat.add_mul, Nat.one_mul, Nat.mul_add, show b * (4 * b) = 4 * b * b by rw [Nat.mul_comm b (4 * b)]]
    omega
theorem Bc_odd : ∀ m, ∃ c, Bc m = 2 ^ m * (2 * c + 1)
  | 0 => (in_1_0 0 rfl)
  | m + 1 => by
    (refine el_1_0 (Bc_odd m) fun c e => ?_)
    refine (in_1_0 (2 * c * Bc m + c + Bc m) ?_)
    simp only [Bc]
    have : 2 + 4 * Bc m = 2 * (1 + 2 * Bc m) := by omega
    rw [this, ← Nat.mul_assoc, Nat.mul_comm (Bc m) 2]
    conv => lhs; lhs; rw [e]
    rw [Nat.pow_succ, ← Nat.mul_assoc, Nat.mul_comm 2 (2 ^ m), Nat.mul_assoc]
    congr 1
    generalize Bc m = b
    simp only [Nat.mul_add, Nat.add_mul, Nat.mul_one, Nat.one_mul]
    have h1 : 2 * c * (2 * b) = 4 * (c * b) := by rw [Nat.mul_mul_mul_comm]
    have h2 : 2 * (2 * c * b) = 4 * (c * b) := by rw [Nat.mul_assoc, ← Nat.mul_assoc]
    rw [h1, h2]; omega
theorem it_mod (M : Nat) : ∀ n x, it n (x % M) % M = it n x % M
  | 0, x => by simp [it]
  | n + 1, x => by
    show it n (5 * (x % M) + 1) % M = it n (5 * x + 1) % M
    rw [← it_mod M n (5 * (x % M) + 1), ← it_mod M n (5 * x + 1)]
    congr 2
    simp [Nat.add_mod, Nat.mul_mod]
theorem cyc : ∀ m i j, i < 2 ^ m → j < 2 ^ m → ∃ n, n < 2 ^ m ∧ it n i % 2 ^ m = j
  | 0, i, j, hi, hj => (in_1_1 0 (by decide) (by simp [it] at *; omega))
  | m + 1, i, j, hi, hj => by
    (refine el_1_1 (cyc m (i % 2 ^ m) (j % 2 ^ m) (Nat.mod_lt _ (Nat.two_pow_pos m)) (Nat.mod_lt _ (Nat.two_pow_pos m))) fun n hn e => ?_)
    rw [it_mod] at e
    have hp := Nat.two_pow_pos m
    simp only [Nat.pow_succ] at hi hj ⊢
    generalize hz : it n i = z at e
    by_cases hj' : z % (2 ^ m * 2) = j
    · exact (in_1_1 n (by omega) (by rw [hz]; exact hj'))
    refine (in_1_1 (2 ^ m + n) (by omega) ?_)
    rw [it_add, hz, it_pow]
    (refine el_1_0 (Bc_odd m) fun c ec => ?_)
    have key : (1 + 4 * Bc m) * z + Bc m = z + 2 ^ m + (2 ^ m * 2) * (2 * ((2 * c + 1) * z) + c) := by
      rw [ec]
      generalize 2 ^ m = P
      rw [Nat.add_mul, Nat.one_mul, Nat.mul_add (P * 2), show 4 * (P * (2 * c + 1)) * z = P * 2 * (2 * ((2 * c + 1) * z)) by
        rw [show P * 2 * (2 * ((2 * c + 1) * z)) = P * 2 * 2 * ((2 * c + 1) * z) by rw [Nat.mul_assoc (P * 2)]]
        rw [← Nat.mul_assoc 4, ← Nat.mul_assoc (P * 2 * 2)]
        congr 2; omega]
      rw [Nat.mul_add P, Nat.mul_one, ← Nat.mul_assoc P 2 c]
      omega
    rw [key, Nat.add_mul_mod_self_left]
    have h1 : z % (2 ^ m * 2) % 2 ^ m = z % 2 ^ m := Nat.mod_mul_right_mod z (2 ^ m) 2
    have h2 : z % (2 ^ m * 2) < 2 ^ m * 2 := Nat.mod_lt _ (by (exact Nat.le_trans (Nat.le_add_left _ _) (by assumption)))
    rw [Nat.add_mod, Nat.mod_eq_of_lt (a := 2 ^ m) (b := 2 ^ m * 2) (by omega)]
    generalize z % (2 ^ m * 2) = y at *
    rw [e] at h1
    generalize 2 ^ m = P at *
    have a1 := Nat.div_add_mod y P
    have a2 := Nat.div_add_mod j P
    have b1 : y / P < 2 := by first | exact Nat.div_lt_of_lt_mul h2 | exact Nat.div_lt_of_lt_mul (by rw [Nat.mul_comm]; exact h2)
    have b2 : j / P < 2 := by first | exact Nat.div_lt_of_lt_mul hj | exact Nat.div_lt_of_lt_mul (by rw [Nat.mul_comm]; exact hj)
    rw [h1] at a1
    have c0 : ∀ u : Nat, u < 2 → u = 0 ∨ u = 1 := fun u h => by omega
    have c1 := c0 _ b1
    have c2 := c0 _ b2
    rcases c1 with c1 | c1 <;> rcases c2 with c2 | c2 <;> rw [c1] at a1 <;> rw [c2] at a2 <;> simp only [Nat.mul_zero, Nat.mul_one] at a1 a2
    · omega
    · rw [Nat.mod_eq_of_lt (by omega +splitDisjunctions)]; omega
    · rw [show y + P = j + P * 2 by omega, Nat.add_mod_right, Nat.mod_eq_of_lt (by omega +splitDisjunctions)]
    · omega

noncomputable def leaps (mask : Nat) : Nat → Nat × Nat → Nat × Nat
  | 0, p => p
  | n + 1, p => leaps mask n (leap mask p.1 p.2)
theorem leaps_add (mask : Nat) : ∀ a b p, leaps mask (a + b) p = leaps mask b (leaps mask a p)
  | 0, b, p => by rw [Nat.zero_add]; rfl
  | a + 1, b, p => by rw [show a + 1 + b = a + b + 1 by (exact Nat.add_right_comm _ _ _)]; show leaps mask (a + b) _ = _; rw [leaps_add mask a b]; rfl
theorem leaps_snd (mask : Nat) : ∀ n p, (leaps mask n p).2 = p.2 / 32 ^ n
  | 0, p => by simp [leaps]
  | n + 1, p => by
    show (leaps mask n (leap mask p.1 p.2)).2 = _
    rw [leaps_snd mask n]
    show p.2 / 32 / 32 ^ n = _
    simp only [Nat.div_div_eq_div_mul, Nat.pow_succ, Nat.mul_comm]
theorem leaps_lt (mask : Nat) : ∀ n p, p.1 ≤ mask → (leaps mask n p).1 ≤ mask
  | 0, p, h => h
  | n + 1, p, h => leaps_lt mask n _ (by show (_ % (mask + 1)) ≤ mask; have := Nat.mod_lt (p.1 * 5 + 1 + p.2 / 32) (show mask + 1 > 0 by (exact Nat.zero_lt_succ _)); (exact Nat.le_of_lt_succ (by assumption)))
theorem leaps_zero (mask : Nat) : ∀ n i, (leaps mask n (i, 0)) = (if n = 0 then i else it n i % (mask + 1), 0)
  | 0, i => rfl
  | n + 1, i => by
    show leaps mask n ((i * 5 + 1 + 0 / 32) % (mask + 1), 0 / 32) = _
    rw [show (0 : Nat) / 32 = 0 from rfl, leaps_zero mask n, if_neg (show n + 1 ≠ 0 by omega)]
    have e : (if n = 0 then (i * 5 + 1 + 0) % (mask + 1) else it n ((i * 5 + 1 + 0) % (mask + 1)) % (mask + 1)) = it n (5 * i + 1) % (mask + 1) := by
      by_cases h : n = 0
      · subst h; rw [if_pos rfl]; simp [it, Nat.mul_comm]
      · rw [if_neg h, it_mod, Nat.mul_comm, Nat.add_zero]
    rw [e]; rfl
theorem leaps_hit {m mask : Nat} (hm : mask + 1 = 2 ^ m) {i pt e : Nat} (hi : i ≤ mask) (hp : pt < 2 ^ 64) (he : e ≤ mask) : ∃ n, n ≤ mask + 13 ∧ (leaps mask n (i, pt)).1 = e := by
  have h0 : (leaps mask 13 (i, pt)).2 = 0 := by rw [leaps_snd]; exact Nat.div_eq_of_lt (Nat.lt_trans hp (by decide))
  have h1 : (leaps mask 13 (i, pt)).1 ≤ mask := leaps_lt mask 13 (i, pt) hi
  generalize hq : leaps mask 13 (i, pt) = q at h0 h1
  obtain ⟨a, b⟩ := q
  simp only at h0 h1
  subst h0
  (refine el_1_1 (cyc m a e (by omega) (by omega)) fun n hn hc => ?_)
  refine (in_1_1 (13 + n) (by omega) ?_)
  rw [leaps_add, hq, leaps_zero]
  show (if n = 0 then a else it n a % (mask + 1)) = e
  split
  · rename_i h; subst h; rw [← hc]; show a = a % _; rw [Nat.mod_eq_of_lt (by omega +splitDisjunctions)]
  · rw [hm]; exact hc

-- below
theorem below_go {xs : Array Nat} {j : Nat} (hR : Rise xs) : ∀ fuel lo hi, hi ≤ xs.size → hi - lo ≤ fuel → lo ≤ hi → (∀ i, i < lo → xs.getD i 0 < j) → (∀ i, hi ≤ i → i < xs.size → j ≤ xs.getD i 0) →
    below.go xs j fuel lo hi ≤ xs.size ∧ (∀ i, i < below.go xs j fuel lo hi → xs.getD i 0 < j) ∧ (∀ i, below.go xs j fuel lo hi ≤ i → i < xs.size → j ≤ xs.getD i 0)
  | 0, lo, hi, h1, h2, h3, h4, h5 => by
    unfold below.go
    exact (in_0_2 (by (exact Nat.le_trans (by assumption) (by assumption))) h4 (fun i hi' => h5 i (by omega)))
  | fuel + 1, lo, hi, h1, h2, h3, h4, h5 => by
    unfold below.go
    by_cases hlt : lo < hi
    · rw [if_pos hlt]
      dsimp only
      have m1 : lo ≤ (lo + hi) / 2 := by omega
      have m2 : (lo + hi) / 2 < hi := by omega
      generalize (lo + hi) / 2 = m at m1 m2 ⊢
      have m3 : m < xs.size := Nat.lt_of_lt_of_le m2 h1
      rw [show xs.getD m j = xs.getD m 0 by simp [Array.getD, m3]]
      by_cases hm : xs.getD m 0 < j
      · rw [if_pos hm]
        refine below_go hR fuel _ hi h1 (by omega) m2 (fun i hi' => ?_) h5
        by_cases he : i = m
        · rw [he]; exact hm
        · exact Nat.lt_trans (hR i m (Nat.lt_of_le_of_ne (Nat.le_of_lt_succ hi') he) m3) hm
      · rw [if_neg hm]
        refine below_go hR fuel lo _ (Nat.le_of_lt m3) (by omega) m1 h4 (fun i hi' hs => ?_)
        by_cases he : i = m
        · rw [he]; exact Nat.not_lt.mp hm
        · exact Nat.le_trans (Nat.not_lt.mp hm) (Nat.le_of_lt (hR m i (Nat.lt_of_le_of_ne hi' (Ne.symm he)) hs))
    · rw [if_neg hlt]
      exact (in_0_2 (by (exact Nat.le_trans (by assumption) (by assumption))) h4 (fun i hi' => h5 i (by omega)))
theorem below_spec {xs : Array Nat} (hR : Rise xs) (j : Nat) : below xs j ≤ xs.size ∧ (∀ i, i < below xs j → xs.getD i 0 < j) ∧ (∀ i, below xs j ≤ i → i < xs.size → j ≤ xs.getD i 0) :=
  below_go hR xs.size 0 xs.size (Nat.le_refl _) (by (exact Nat.sub_le _ _)) (by simp) (fun i h => by (exact absurd (by assumption) (Nat.not_lt_zero _))) (fun i h h' => by (exact absurd (by assumption) (Nat.not_lt_of_le (by assumption))))

theorem getD_eq {xs : Array Nat} {i : Nat} (h : i < xs.size) : xs[i]? = some (xs.getD i 0) := by
  simp [Array.getD, h]
/-- a table with no dummies: a slot is live or empty -/
theorem slot_cases {t : SetTable} (hR : Rise t.place) (hd : t.dummies = #[]) (j : Nat) :
    (t.slot j = .empty ∧ ∀ i, i < t.place.size → t.place.getD i 0 ≠ j) ∨ (∃ i, t.slot j = .live i ∧ i < t.place.size ∧ t.place.getD i 0 = j) := by
  (refine el_0_2 (below_spec hR j) fun h1 h2 h3 => ?_)
  by_cases hb : t.place[below t.place j]? = some j
  · refine .inr (in_1_1 (below t.place j) ?_ ?_)
    · simp [slot, hb]
    · have hlt : below t.place j < t.place.size := by
        by_cases hl : below t.place j < t.place.size
        · exact hl
        · rw [Array.getElem?_eq_none (by (exact Nat.le_of_not_lt (by assumption)))] at hb; cases hb
      rw [getD_eq hlt] at hb
      exact ⟨hlt, Option.some.inj hb⟩
  · refine .inl ⟨?_, fun i hi he => ?_⟩
    · have : (t.place[below t.place j]? == some j) = false := by simpa using hb
      have hh : SetTable.has (#[] : Array Nat) j = false := by rfl
      simp [slot, this, hd, hh]
    · have a1 : ¬ i < below t.place j := fun h => by have := h2 i h; omega
      have a2 : ¬ below t.place j < i := fun h => by
        have h4 := h3 (below t.place j) (Nat.le_refl _) (by (exact Nat.lt_trans (by assumption) (by assumption)))
        have := hR _ i h hi
        omega +splitDisjunctions
      have : i = below t.place j := by omega
      subst this
      rw [getD_eq hi, he] at hb
      exact hb rfl
theorem slot_empty {t : SetTable} (hR : Rise t.place) (hd : t.dummies = #[]) {j : Nat} (h : ∀ i, i < t.place.size → t.place.getD i 0 ≠ j) : t.slot j = .empty := by
  (refine Or.elim (slot_cases hR hd j) (fun h' => ?aElo) (fun xElo => ?bElo); (case' bElo => (refine el_1_2 xElo fun i _ h1 h2 => ?_; try clear xElo)); (case' aElo => skip))
  · exact h'.1
  · exact absurd h2 (h i h1)

-- the probe
inductive Near (t : SetTable) : Nat → Probe → Prop
  | here {n : Nat} {p : Probe} : t.slot p.j = .empty → Near t n p
  | step {n : Nat} {p : Probe} : Near t n (t.advance p) → Near t (n + 1) p
theorem Near.mono {t : SetTable} {a b : Nat} {p : Probe} (h : Near t a p) : a ≤ b → Near t b p := by
  induction h generalizing b with
  | here h => exact fun _ => .here h
  | @step n p h ih => intro hb; obtain ⟨c, rfl⟩ : ∃ c, b = c + 1 := (in_1_0 (b - 1) (by omega)); exact .step (ih (by (exact Nat.le_of_lt_succ (by assumption))))
noncomputable def PInv (t : SetTable) (p : Probe) : Prop := p.j + p.more ≤ t.mask ∧ p.dummy = none
theorem runEnd_le {mask i : Nat} (h : i ≤ mask) : runEnd mask i ≤ mask ∧ i ≤ runEnd mask i ∧ runEnd mask i ≤ i + 9 := by
  unfold runEnd; split <;> omega
theorem PInv.adv {t : SetTable} {p : Probe} (h : PInv t p) : PInv t (t.advance p) := by
  unfold advance
  split
  · exact ⟨by show p.j + 1 + (p.more - 1) ≤ _; have := h.1; omega, h.2⟩
  · have hm : (leap t.mask p.i p.perturb).1 ≤ t.mask := by
      show _ % _ ≤ _; have := Nat.mod_lt (p.i * 5 + 1 + p.perturb / 32) (show t.mask + 1 > 0 by (exact Nat.zero_lt_succ _)); (exact Nat.le_of_lt_succ (by assumption))
    have := runEnd_le hm
    exact ⟨by show (leap t.mask p.i p.perturb).1 + (runEnd t.mask (leap t.mask p.i p.perturb).1 - (leap t.mask p.i p.perturb).1) ≤ _; omega, h.2⟩
theorem go_near {t : SetTable} (hR : Rise t.place) (hd : t.dummies = #[]) (hashAt : Nat → Int) (h : Int) : ∀ fuel n p, Near t n p → PInv t p → n < fuel →
    (∃ j, probe.go t hashAt h fuel p = some (.empty j none) ∧ t.slot j = .empty ∧ j ≤ t.mask) ∨
    (∃ j i next m, probe.go t hashAt h fuel p = some (.candidate j i next) ∧ t.slot j = .live i ∧ hashAt i = h ∧ i < t.place.size ∧ Near t m next ∧ m < n ∧ PInv t next)
  | 0, n, p, _, _, hn => by (exact absurd (by assumption) (Nat.not_lt_zero _))
  | fuel + 1, n, p, hN, hI, hn => by
    unfold probe.go
    (refine Or.elim (slot_cases hR hd p.j) (fun h1 => ?aElo) (fun xElo => ?bElo); (case' bElo => (refine el_1_2 xElo fun i h1 h2 h3 => ?_; try clear xElo)); (case' aElo => skip))
    · rw [h1.1]
      exact .inl (in_1_2 p.j (by simp [hI.2]) h1.1 (by have := hI.1; (exact Nat.le_trans (Nat.le_add_right _ _) (by assumption))))
    · rw [h1]
      dsimp only
      cases hN with
      | here he => rw [h1] at he; cases he
      | @step n _ hN =>
        by_cases hh : hashAt i = h
        · rw [if_pos (by simpa using hh)]
          exact .inr (in_4_6 p.j i _ n rfl h1 hh h2 hN (by (exact Nat.lt_succ_self _)) hI.adv)
        · rw [if_neg (by simpa using hh)]
          rcases go_near hR hd hashAt h fuel n _ hN hI.adv (by omega) with a | ⟨j, i, next, m, e, a1, a2, a3, a4, a5, a6⟩
          · exact .inl a
          · exact .inr (in_4_6 j i next m e a1 a2 a3 a4 (by (exact Nat.lt_succ_of_lt (by assumption))) a6)

noncomputable def rs (t : SetTable) (i pt : Nat) : Probe := { j := i, more := runEnd t.mask i - i, i, perturb := pt, dummy := none }
theorem near_run {t : SetTable} {N : Nat} : ∀ (m j i pt : Nat), Near t N (rs t (leap t.mask i pt).1 (leap t.mask i pt).2) → Near t (N + m + 1) { j := j, more := m, i := i, perturb := pt, dummy := none }
  | 0, j, i, pt, h => by refine .step ?_; simpa [advance, rs] using h
  | m + 1, j, i, pt, h => by
    refine .step ?_
    have := near_run m (j + 1) i pt h
    have e : t.advance { j := j, more := m + 1, i := i, perturb := pt, dummy := none } = { j := j + 1, more := m, i := i, perturb := pt, dummy := none } := by rfl
    rw [e]; exact this
theorem near_leaps {t : SetTable} : ∀ (n i pt : Nat), i ≤ t.mask → t.slot (leaps t.mask n (i, pt)).1 = .empty → Near t (10 * n) (rs t i pt)
  | 0, i, pt, hi, h => .here h
  | n + 1, i, pt, hi, h => by
    have hl : (leap t.mask i pt).1 ≤ t.mask := leaps_lt t.mask 1 (i, pt) hi
    have := near_leaps n (leap t.mask i pt).1 (leap t.mask i pt).2 hl h
    have hr := runEnd_le hi
    exact (near_run (runEnd t.mask i - i) i i pt this).mono (by omega)

theorem exists_free {n M : Nat} (f : Nat → Nat) (h : n < M) : ∃ e, e < M ∧ ∀ i, i < n → f i ≠ e := by
  refine Classical.byContradiction fun hc => ?_
  have hc' : ∀ e, e < M → ∃ i, i < n ∧ f i = e := fun e he => Classical.byContradiction fun h2 => hc (in_1_1 e he (fun i hi he' => h2 (in_1_1 i hi he')))
  have hs : (List.range M) ⊆ ((List.range n).map f) := fun e he => by
    (refine el_1_1 (hc' e (List.mem_range.mp he)) fun i hi hf => ?_)
    exact List.mem_map.mpr (in_1_1 i (List.mem_range.mpr hi) hf)
  have := List.Nodup.length_le_of_subset List.nodup_range hs
  simp at this
  (exact absurd (by assumption) (Nat.not_lt_of_le (by assumption)))
end Mine
open PySem PySem.W PySem.Calls PyProof.Rows
set_option Elab.async false
set_option linter.all false
set_option maxRecDepth 100000
set_option genSizeOf false
namespace Mine
open SetTable

theorem sizeAbove_go (n : Nat) : ∀ fuel size, 0 < size → n < size * 2 ^ fuel → ∃ k, sizeAbove.go n fuel size = size * 2 ^ k ∧ n < size * 2 ^ k ∧ (k = 0 ∨ size * 2 ^ k ≤ 2 * n)
  | 0, size, h0, h => (in_1_2 0 (by simp [sizeAbove.go]) (by simpa using h) (.inl rfl))
  | fuel + 1, size, h0, h => by
    unfold sizeAbove.go
    by_cases hs : size ≤ n
    · rw [if_pos hs]
      (refine el_1_2 (sizeAbove_go n fuel (size * 2) (by omega) (by simp only [Nat.pow_succ] at h; rwa [Nat.mul_assoc, Nat.mul_comm 2])) fun k e h1 h2 => ?_)
      have e2 : size * 2 * 2 ^ k = size * 2 ^ (k + 1) := by simp only [Nat.pow_succ, Nat.mul_assoc, Nat.mul_comm 2]
      refine (in_1_2 (k + 1) (by rw [e, e2]) (by rw [← e2]; exact h1) (.inr ?_))
      rcases h2 with rfl | h2
      · simp; omega
      · rw [← e2]; exact h2
    · rw [if_neg hs]
      exact (in_1_2 0 (by simp) (by simp; (exact Nat.lt_of_not_le (by assumption))) (.inl rfl))
theorem sizeAbove_spec {n : Nat} (h : n < 100000) : ∃ k, sizeAbove n = 8 * 2 ^ k ∧ n < 8 * 2 ^ k ∧ (k = 0 ∨ 8 * 2 ^ k ≤ 2 * n) := by
  unfold sizeAbove
  exact sizeAbove_go n 64 8 (by decide) (Nat.lt_trans h (by decide))

theorem free_some {mask m : Nat} (hm : mask + 1 = 2 ^ m) {owner : Array (Option Nat)} (hs : owner.size = mask + 1) : ∀ n fuel i pt, n < fuel → i ≤ mask → (owner.getD (leaps mask n (i, pt)).1 (some 0)) = none →
    ∃ j, layClean.free mask owner fuel i pt = some j ∧ j ≤ mask ∧ owner.getD j (some 0) = none
  | n, 0, i, pt, h, _, _ => by (exact absurd (by assumption) (Nat.not_lt_zero _))
  | n, fuel + 1, i, pt, h, hi, he => by
    unfold layClean.free
    have hr := runEnd_le hi
    cases hf : (List.range (runEnd mask i + 1 - i)).find? (fun k => (owner.getD (i + k) (some 0)).isNone) with
    | some k =>
      dsimp only
      have h1 := List.find?_some hf
      have h2 := List.mem_range.mp (List.mem_of_find?_eq_some hf)
      exact (in_1_2 (i + k) rfl (by omega) (by simpa using h1))
    | none =>
      dsimp only
      cases n with
      | zero =>
        exfalso
        have := List.find?_eq_none.mp hf 0 (List.mem_range.mpr (by omega))
        simp [leaps] at he this
        exact this he
      | succ n =>
        exact free_some hm hs n fuel _ _ (by (exact Nat.lt_of_succ_lt_succ (by assumption))) (leaps_lt mask 1 (i, pt) hi) he

theorem bits_lt (h : Int) : bits h < 2 ^ 64 := by unfold bits; omega

theorem filterMap_set {k : Nat} : ∀ (l : List (Option Nat)) (j : Nat), l[j]? = some none → ((l.set j (some k)).filterMap id).Perm (k :: l.filterMap id)
  | [], j, h => by simp at h
  | x :: l, 0, h => by
    simp at h; subst h; rfl
  | x :: l, j + 1, h => by
    simp at h
    have := filterMap_set (k := k) l j h
    cases x with
    | none => simpa using this
    | some a =>
      simp only [List.set_cons_succ, List.filterMap_cons, id]
      exact (this.cons a).trans (List.Perm.swap _ _ _)
theorem exists_none : ∀ (l : List (Option Nat)), (l.filterMap id).length < l.length → ∃ j, j < l.length ∧ l[j]? = some none
  | [], h => by simp at h
  | none :: l, h => (in_1_1 0 (by simp) rfl)
  | some a :: l, h => by
    (refine el_1_1 (exists_none l (by simp only [List.filterMap_cons, id, List.length_cons] at h; (exact Nat.lt_of_succ_lt_succ (by assumption)))) fun j h1 h2 => ?_)
    exact (in_1_1 (j + 1) (by simpa using h1) (by simpa using h2))

theorem layClean_go {mask m : Nat} (hm : mask + 1 = 2 ^ m) : ∀ (hs : List Int) (owner : Array (Option Nat)) (k : Nat), owner.size = mask + 1 → (owner.toList.filterMap id).Perm (List.range k) → k + hs.length ≤ mask →
    ∃ owner', hs.foldl (init := some (owner, k)) (fun acc h => do
    let (owner, k) ← acc
    let j ← layClean.free mask owner (turns mask) (bits h % (mask + 1)) (bits h)
    pure (owner.setIfInBounds j (some k), k + 1)) = some (owner', k + hs.length) ∧ owner'.size = mask + 1 ∧ (owner'.toList.filterMap id).Perm (List.range (k + hs.length))
  | [], owner, k, h1, h2, h3 => (in_1_2 owner rfl h1 h2)
  | h :: hs, owner, k, h1, h2, h3 => by
    simp only [List.length_cons] at h3
    (refine el_1_1 (exists_none owner.toList (by rw [h2.length_eq]; simp; omega)) fun e he1 he2 => ?_)
    have hi : bits h % (mask + 1) ≤ mask := by have := Nat.mod_lt (bits h) (show mask + 1 > 0 by (exact Nat.zero_lt_succ _)); (exact Nat.le_of_lt_succ (by assumption))
    have hee : e ≤ mask := by simp [h1] at he1; (exact Nat.le_of_lt_succ (by assumption))
    (refine el_1_1 (leaps_hit hm hi (bits_lt h) hee) fun n hn hn' => ?_)
    obtain ⟨j, hj, hj1, hj2⟩ := free_some hm h1 n (turns mask) (bits h % (mask + 1)) (bits h) (by unfold turns; omega) hi (by
      rw [hn']
      have : owner[e]? = some none := by simpa using he2
      simp [Array.getD_eq_getD_getElem?, this])
    have hjn : owner.toList[j]? = some none := by
      have hlt : j < owner.size := by omega
      have : owner[j]? = some none := by
        simp [Array.getD, hlt] at hj2
        simp [hlt, hj2]
      simpa using this
    have hp : ((owner.setIfInBounds j (some k)).toList.filterMap id).Perm (List.range (k + 1)) := by
      rw [Array.toList_setIfInBounds, List.range_succ]
      exact (filterMap_set _ _ hjn).trans ((h2.cons k).trans (List.perm_append_singleton _ _).symm)
    (refine el_1_2 (layClean_go hm hs (owner.setIfInBounds j (some k)) (k + 1) (by simpa using h1) hp (by omega)) fun owner' e1 e2 e3 => ?_)
    refine (in_1_2 owner' ?_ e2 (by simpa [Nat.add_assoc, Nat.add_comm 1] using e3))
    simp only [List.foldl_cons]
    have : (do
        let (owner, k) ← some (owner, k)
        let j ← layClean.free mask owner (turns mask) (bits h % (mask + 1)) (bits h)
        pure (owner.setIfInBounds j (some k), k + 1) : Option (Array (Option Nat) × Nat)) = some (owner.setIfInBounds j (some k), k + 1) := by simp [hj]
    rw [this, e1]
    simp [Nat.add_assoc, Nat.add_comm 1]

theorem filterMap_range_get (l : List (Option Nat)) : (List.range l.length).filterMap (fun j => l.getD j none) = l.filterMap id := by
  induction l with
  | nil => rfl
  | cons x l ih =>
    rw [List.length_cons, List.range_succ_eq_map, List.filterMap_cons, List.filterMap_map]
    have : ((fun j => (x :: l).getD j none) ∘ Nat.succ) = fun j => l.getD j none := by funext j; rfl
    rw [this, ih]
    cases x <;> rfl
theorem rise_of_pairwise {l : List Nat} (h : l.Pairwise (· < ·)) : Rise l.toArray := fun i j hij hj => by
  simp at hj
  have := List.pairwise_iff_getElem.mp h i j (by (exact Nat.lt_trans (by assumption) (by assumption))) hj hij
  simpa [Array.getD, hj, show i < l.length by (exact Nat.lt_trans (by assumption) (by assumption))] using this

/-- the relaid table -/
theorem laid_some {mask m : Nat} (hm : mask + 1 = 2 ^ m) {hashes : Array Int} (hn : hashes.size ≤ mask) {finger moves : Nat} {led plain : Bool} :
    ∃ t order, laid mask finger moves led plain hashes = some (t, order) ∧ order.toList.Perm (List.range hashes.size) ∧ Rise t.place ∧ (∀ i, i < t.place.size → t.place.getD i 0 ≤ mask) ∧ t.place.size = hashes.size ∧ t.dummies = #[] ∧ t.mask = mask ∧ t.plain = plain ∧ t.led = led := by
  have h0 : ((Array.replicate (mask + 1) (none : Option Nat)).toList.filterMap id).Perm (List.range 0) := by simp
  (refine el_1_2 (layClean_go hm hashes.toList (Array.replicate (mask + 1) none) 0 (by simp) h0 (by simpa using hn)) fun owner e1 e2 e3 => ?_)
  rw [Nat.zero_add] at e1 e3
  have hc : layClean mask hashes = some owner := by
    unfold layClean
    rw [← Array.foldl_toList]
    simp only [e1, Option.map_some]
  have hlive2 : ((List.range (mask + 1)).filterMap (fun j => (owner.getD j none).map (j, ·))).map (·.2) = owner.toList.filterMap id := by
    rw [List.map_filterMap]
    have : (fun j => ((owner.getD j none).map (j, ·)).map (·.2)) = fun j => owner.toList.getD j none := by
      funext j
      rw [Option.map_map]
      have : ((fun (x : Nat × Nat) => x.2) ∘ fun x => (j, x)) = id := rfl
      rw [this, Option.map_id]
      simp [Array.getD_eq_getD_getElem?]
    simp only [this, ← e2, ← Array.length_toList, filterMap_range_get]
  have hmem : ∀ x ∈ (((List.range (mask + 1)).filterMap (fun j => (owner.getD j none).map (j, ·))).map (·.1)), x ≤ mask := by
    intro x hx
    (refine el_1_0 (List.mem_map.mp hx) fun xEl0 rEl => ?_; obtain ⟨a, b⟩ := xEl0; (refine el_0_1 rEl fun hp yEl1 => ?_; try clear rEl; obtain rfl := yEl1))
    (refine el_1_1 (List.mem_filterMap.mp hp) fun j hj hj2 => ?_)
    have := List.mem_range.mp hj
    simp at hj2
    (refine el_0_1 hj2 fun _ rEl => ?_; try clear hj2; obtain ⟨_, rfl, _⟩ := rEl)
    (exact Nat.le_of_lt_succ (by assumption))
  have hpw : ((((List.range (mask + 1)).filterMap (fun j => (owner.getD j none).map (j, ·))).map (·.1))).Pairwise (· < ·) := by
    rw [List.map_filterMap]
    refine List.Pairwise.filterMap _ ?_ (List.pairwise_lt_range)
    intro a a' haa b hb b' hb'
    simp at hb hb'
    (refine el_0_1 hb fun _ xEl1 => ?_; try clear hb; obtain rfl := xEl1)
    (refine el_0_1 hb' fun _ xEl1 => ?_; try clear hb'; obtain rfl := xEl1)
    exact haa
  have hlen : (((List.range (mask + 1)).filterMap (fun j => (owner.getD j none).map (j, ·))).map (·.2)).length = hashes.size := by
    rw [hlive2, e3.length_eq]; simp
  refine (in_2_8 _ _ (by unfold laid; rw [hc]; rfl) ?_ (rise_of_pairwise hpw) ?_ ?_ rfl rfl rfl rfl)
  · show (((List.range (mask + 1)).filterMap (fun j => (owner.getD j none).map (j, ·))).map (·.2)).Perm _
    rw [hlive2]; simpa using e3
  · intro i hi
    refine hmem _ ?_
    have hi' : i < (((List.range (mask + 1)).filterMap (fun j => (owner.getD j none).map (j, ·))).map (·.1)).length := by simpa using hi
    have : (((((List.range (mask + 1)).filterMap (fun j => (owner.getD j none).map (j, ·))).map (·.1))).toArray.getD i 0) = (((List.range (mask + 1)).filterMap (fun j => (owner.getD j none).map (j, ·))).map (·.1))[i] := by
      simp only [Array.getD, List.size_toArray, hi', dif_pos]; rfl
    rw [this]
    exact List.getElem_mem hi'
  · simpa using hlen
theorem order_perm {es : Array (Int × Value)} {order : Array Nat} (h : order.toList.Perm (List.range es.size)) : (order.filterMap (es[·]?)).toList.Perm es.toList := by
  rw [Array.toList_filterMap]
  refine (h.filterMap _).trans ?_
  have : (List.range es.size).filterMap (fun i => es[i]?) = es.toList := by
    have e : ∀ (l : List (Int × Value)), (List.range l.length).filterMap (fun i => l[i]?) = l := by
      intro l
      induction l with
      | nil => rfl
      | cons x l ih =>
        simp only [List.length_cons, List.range_succ_eq_map, List.filterMap_cons, List.filterMap_map]
        have : ((fun i => (x :: l)[i]?) ∘ Nat.succ) = fun i => l[i]? := by funext j; simp
        rw [this, ih]; rfl
    have := e es.toList
    simpa using this
  rw [this]

/-- put at a free place -/
theorem insertAt_toList {α : Type} {xs : Array α} {p : Nat} {x : α} (hp : p ≤ xs.size) : (insertAt xs p x).toList = xs.toList.take p ++ x :: xs.toList.drop p := by
  unfold insertAt
  simp [Array.toList_extract, List.extract_eq_take_drop]
  exact List.take_of_length_le (by simp)
theorem insertAt_size {α : Type} {xs : Array α} {p : Nat} {x : α} (hp : p ≤ xs.size) : (insertAt xs p x).size = xs.size + 1 := by
  rw [← Array.length_toList, insertAt_toList hp]; simp; rw [Nat.min_eq_left hp, ← Nat.add_assoc, Nat.add_sub_cancel' hp]
theorem insertAt_getD {xs : Array Nat} {p x i : Nat} (hp : p ≤ xs.size) (hi : i < xs.size + 1) : (insertAt xs p x).getD i 0 = if i < p then xs.getD i 0 else if i = p then x else xs.getD (i - 1) 0 := by
  have h1 : (insertAt xs p x).getD i 0 = (insertAt xs p x).toList.getD i 0 := by simp [Array.getD_eq_getD_getElem?]
  have h2 : ∀ j, xs.getD j 0 = xs.toList.getD j 0 := fun j => by simp [Array.getD_eq_getD_getElem?]
  rw [h1, insertAt_toList hp, h2, h2]
  have hpl : p ≤ xs.toList.length := by simpa using hp
  generalize xs.toList = l at *
  rw [List.getD_eq_getElem?_getD, List.getD_eq_getElem?_getD, List.getD_eq_getElem?_getD]
  by_cases h : i < p
  · rw [if_pos h, List.getElem?_append_left (by simp; omega), List.getElem?_take, if_pos h]
  · rw [if_neg h, List.getElem?_append_right (by simp; omega)]
    rw [List.length_take, Nat.min_eq_left hpl]
    by_cases h' : i = p
    · subst h'; simp
    · rw [if_neg h']
      obtain ⟨d, rfl⟩ : ∃ d, i = p + 1 + d := (in_1_0 (i - p - 1) (by rw [Nat.sub_sub]; exact (Nat.add_sub_cancel' (Nat.lt_of_le_of_ne (Nat.not_lt.mp h) (Ne.symm h'))).symm))
      rw [show p + 1 + d - p = d + 1 by rw [Nat.add_assoc, Nat.add_sub_cancel_left, Nat.add_comm], List.getElem?_cons_succ, List.getElem?_drop]
      congr 2; simp
theorem rise_insert {xs : Array Nat} {x : Nat} (hR : Rise xs) (hx : ∀ i, i < xs.size → xs.getD i 0 ≠ x) : Rise (insertAt xs (below xs x) x) := by
  (refine el_0_2 (below_spec hR x) fun h1 h2 h3 => ?_)
  intro i j hij hj
  rw [insertAt_size h1] at hj
  rw [insertAt_getD h1 (by omega +splitDisjunctions), insertAt_getD h1 hj]
  generalize below xs x = p at *
  by_cases a : i < p
  · rw [if_pos a]
    by_cases b : j < p
    · rw [if_pos b]; exact hR i j hij (by (exact Nat.lt_of_lt_of_le (by assumption) (by assumption)))
    · rw [if_neg b]
      by_cases c : j = p
      · rw [if_pos c]; exact h2 i a
      · rw [if_neg c]; exact hR i (j - 1) (Nat.lt_of_lt_of_le a (Nat.le_sub_one_of_lt (Nat.lt_of_le_of_ne (Nat.not_lt.mp b) (Ne.symm c)))) (Nat.sub_one_lt_of_le (Nat.zero_lt_of_lt hij) (Nat.le_of_lt_succ hj))
  · rw [if_neg a, if_neg (show ¬ j < p from fun q => a (Nat.lt_trans hij q)), if_neg (show ¬ j = p from fun q => a (q ▸ hij))]
    by_cases c : i = p
    · rw [if_pos c]
      have := h3 (j - 1) (c ▸ Nat.le_sub_one_of_lt hij) (Nat.sub_one_lt_of_le (Nat.zero_lt_of_lt hij) (Nat.le_of_lt_succ hj))
      have := hx (j - 1) (Nat.sub_one_lt_of_le (Nat.zero_lt_of_lt hij) (Nat.le_of_lt_succ hj))
      (exact Nat.lt_of_le_of_ne (by assumption) (Ne.symm (by assumption)))
    · rw [if_neg c]; exact hR (i - 1) (j - 1) (Nat.sub_lt_sub_right (Nat.zero_lt_of_lt (Nat.lt_of_le_of_ne (Nat.not_lt.mp a) (Ne.symm c))) hij) (Nat.sub_one_lt_of_le (Nat.zero_lt_of_lt hij) (Nat.le_of_lt_succ hj))
end Mine
open PySem PySem.W PySem.Calls PyProof.Rows
set_option Elab.async false
set_option linter.all false
set_option maxRecDepth 100000
set_option genSizeOf false
namespace Mine
open SetTable

section
variable {prog : Program} {w : World} {A : Around} {E : Value → Shared → Prop} {s : Shared}

/-- hash of a tuple, whatever it is -/
theorem hash_items : ∀ (vs : List Value) (A : Around) (s : Shared) (b : Array Int) (Q : Array Int → Shared → Prop),
    (∀ y ∈ vs, ∀ tk (Q' : Int → Shared → Prop), (∀ n tk, Q' n { s with toks := tk }) → wpAny (model prog w) A (pyHash y) Q' E { s with toks := tk }) → (∀ tk b', Q b' { s with toks := tk }) →
    wpAny (model prog w) A (forIn vs b fun x r => do let h ← pyHash x; pure PUnit.unit; pure (ForInStep.yield (r.push h))) Q E s
  | [], A, s, b, Q, _, h => wpAny_pure (h s.toks b)
  | y :: vs, A, s, b, Q, hy, h => by
    rw [List.forIn_cons]
    have := hy y List.mem_cons_self s.toks
    refine wpAny_bind (wpAny_bind (this _ fun n tk => ?_))
    refine wpAny_bind (wpAny_pure (wpAny_pure ?_))
    exact hash_items vs A { s with toks := tk } _ Q (fun z hz tk' Q' k => hy z (List.mem_cons_of_mem _ hz) tk' Q' k) fun tk b' => h tk b'
theorem hash_tuple {a : Addr} {xs : Array Value} {Q : Int → Shared → Prop} (ht : IsTup s.heap a xs) (hu : A.units < cLine)
    (hi : ∀ y ∈ xs.toList, ∀ tk (Q' : Int → Shared → Prop), (∀ n tk, Q' n { s with toks := tk }) → wpAny (model prog w) A.in1 (pyHash y) Q' E { s with toks := tk }) (h : ∀ n tk, Q n { s with toks := tk }) :
    wpAny (model prog w) A (pyHash (.ref a)) Q E s := by
  (refine el_1_2 ht fun o ho hc rEl => ?_; try clear ht; (refine el_1_0 rEl fun n hd => ?_; try clear rEl))
  refine pyHash_slot (T := "tuple") (in_1_1 o ho hc) F.slot_tuple_hash F.entry_tuple_hash (F.args_tuple_hash_1 _) (beq_builtin_none _) (.inr hu) ?_
  show wpAny _ _ (Builtin.Tuple.tupleItemsOf (.ref a) >>= _) _ _ s
  refine wpAny_bind (wpAny_tupleItemsOf ho hd ?_)
  refine wpAny_bind ?_
  rw [← Array.forIn_toList]
  refine hash_items xs.toList A.in1 s #[] _ hi fun tk b => ?_
  show wpAny _ _ (retInt (Builtin.Tuple.tupleHashOf b.toList)) _ _ _
  exact wpAny_bind (wpAny_mkInt (wpAny_pure (in_2_1 _ _ rfl (h _ _))))

/-- a pair in the heap -/
theorem pair_shape {I : IM} {p : List Str × Int} {v : Value} (r : VR I (pcv p) v) : ∃ a n b m t us, v = .ref a ∧ I a = some ⟨.type "tuple", .none, .seq #[.ref b, .int p.2 t] n, #[]⟩ ∧ I b = some ⟨.type "tuple", .none, .seq us m, #[]⟩ ∧ VRs I (p.1.map .str) us.toList := by
  simp only [pcv, VR] at r
  (refine el_3_1 r fun a n xs xEl3 rEl => ?_; try clear r; obtain rfl := xEl3; (refine el_0_1 rEl fun h1 h2 => ?_; try clear rEl))
  (refine el_2_2 h2.uncons fun y ys e r1 r2 => ?_)
  (refine el_2_1 r2.uncons fun z zs xEl2 rEl => ?_; obtain rfl := xEl2; (refine el_0_1 rEl fun r3 r4 => ?_; try clear rEl))
  have := r4.nil_iff; subst this
  simp only [VR] at r1 r3
  (refine el_3_1 r1 fun b m us xEl3 rEl => ?_; try clear r1; obtain rfl := xEl3; (refine el_0_1 rEl fun h3 h4 => ?_; try clear rEl))
  (refine el_1_0 r3 fun t xEl1 => ?_; try clear r3; obtain rfl := xEl1)
  have : xs = #[.ref b, .int p.2 t] := Array.toList_inj.mp (by rw [e])
  subst this
  exact (in_6_3 a n b m t us rfl h1 h3 h4)
theorem strs_shape {I : IM} : ∀ {ks : List Str} {us : List Value}, VRs I (ks.map .str) us → ∀ y ∈ us, ∃ x t, y = .str x t
  | [], us, r, y, hy => by have := r.nil_iff; subst this; cases hy
  | k :: ks, us, r, y, hy => by
    (refine el_2_1 (VRs.uncons r) fun z zs xEl2 rEl => ?_; obtain rfl := xEl2; (refine el_0_1 rEl fun r1 r2 => ?_; try clear rEl))
    simp only [VR] at r1
    (refine el_1_0 r1 fun t xEl1 => ?_; try clear r1; obtain rfl := xEl1)
    rcases List.mem_cons.mp hy with rfl | hy
    · exact (in_2_0 k t rfl)
    · exact strs_shape r2 y hy

theorem hash_pair {I : IM} {p : List Str × Int} {v : Value} {Q : Int → Shared → Prop} (r : VR I (pcv p) v) (hi : ∀ a o, I a = some o → s.heap.get? a = some o) (hu : A.units + 2 < cLine) (h : ∀ n tk, Q n { s with toks := tk }) :
    wpAny (model prog w) A (pyHash v) Q E s := by
  (refine el_6_1 (pair_shape r) fun a n b m t us xEl6 rEl => ?_; obtain rfl := xEl6; (refine el_0_2 rEl fun h1 h2 h3 => ?_; try clear rEl))
  refine hash_tuple (in_1_2 _ (hi _ _ h1) rfl (in_1_0 n rfl)) (by (exact Nat.lt_of_le_of_lt (Nat.le_add_right _ _) (by assumption))) (fun y hy tk Q' k => ?_) h
  have hy' : y = .ref b ∨ y = .int p.2 t := by simpa using hy
  rcases hy' with rfl | rfl
  · refine hash_tuple (s := { s with toks := tk }) (in_1_2 _ (hi _ _ h2) rfl (in_1_0 m rfl)) (by simp only [Around.in1_units]; (exact Nat.le_of_lt (by assumption))) (fun y hy tk Q' k => ?_) fun n tk => k n tk
    (refine el_2_0 (strs_shape h3 y hy) fun x t xEl2 => ?_; obtain rfl := xEl2)
    exact wpAny_pyHash_str (k _ _)
  · exact wpAny_pyHash_int (k _ _)

-- nobody sees the search
theorem quiet_tuple {d : Nat} {a : Addr} {xs : Array Value} {Q : Bool → Shared → Prop} (ht : IsTup s.heap a xs) (hi : ∀ y ∈ xs.toList, ∀ Q' : Bool → Shared → Prop, Q' true s → wpAny (model prog w) A (eqIsQuiet d y) Q' E s) (h : Q true s) :
    wpAny (model prog w) A (eqIsQuiet (d + 1) (.ref a)) Q E s := by
  (refine el_1_2 ht fun o ho hc rEl => ?_; try clear ht; (refine el_1_0 rEl fun n hd => ?_; try clear rEl))
  have hT : s.TypeIs (.ref a) "tuple" := (in_1_1 o ho hc)
  unfold eqIsQuiet
  refine wpAny_bind (wpAny_specialOf hT F.slot_tuple_eq.lookup ?_)
  show wpAny _ _ (isInstance (.ref a) (.type "tuple") >>= _) _ _ s
  refine wpAny_bind (wpAny_isInstance hT isSubtype_tuple_tuple ?_)
  simp only [Bool.not_true, Bool.false_eq_true, if_false]
  refine wpAny_bind (wpAny_seqItems ho hd ?_)
  refine wpAny_bind ?_
  show wpAny _ _ (forIn xs _ _) _ _ s
  rw [← Array.forIn_toList]
  refine wpAny_forIn_list _ (fun rest r s' => r.1 = none ∧ s' = s ∧ ∀ v ∈ rest, v ∈ xs.toList) _ ?_ ?_ _ _ (in_0_2 rfl rfl (fun v h => h))
  · intro v rest r s' hEl
    (refine el_0_2 hEl fun hr xEl1 hall => ?_; try clear hEl; obtain rfl := xEl1)
    refine wpAny_bind (hi v (hall v List.mem_cons_self) _ ?_)
    simp only [Bool.not_true, Bool.false_eq_true, if_false]
    exact wpAny_pure (in_0_2 rfl rfl (fun u hu' => hall u (List.mem_cons_of_mem _ hu')))
  · rintro ⟨r1, r2⟩ s' ⟨hr, rfl, _⟩
    simp only at hr
    subst hr
    exact wpAny_pure h
theorem quiet_pair {I : IM} {p : List Str × Int} {v : Value} {d : Nat} {Q : Bool → Shared → Prop} (r : VR I (pcv p) v) (hi : ∀ a o, I a = some o → s.heap.get? a = some o) (h : Q true s) :
    wpAny (model prog w) A (eqIsQuiet (d + 2) v) Q E s := by
  (refine el_6_1 (pair_shape r) fun a n b m t us xEl6 rEl => ?_; obtain rfl := xEl6; (refine el_0_2 rEl fun h1 h2 h3 => ?_; try clear rEl))
  refine quiet_tuple (in_1_2 _ (hi _ _ h1) rfl (in_1_0 n rfl)) (fun y hy Q' k => ?_) h
  have hy' : y = .ref b ∨ y = .int p.2 t := by simpa using hy
  rcases hy' with rfl | rfl
  · refine quiet_tuple (in_1_2 _ (hi _ _ h2) rfl (in_1_0 m rfl)) (fun y hy Q' k => ?_) k
    (refine el_2_0 (strs_shape h3 y hy) fun x t xEl2 => ?_; obtain rfl := xEl2)
    rw [eqIsQuiet_byValue _ rfl]; exact wpAny_pure k
  · rw [eqIsQuiet_byValue _ rfl]; exact wpAny_pure k

theorem ofA_byValue (n : Nat) {v : Value} (h : carriedByValue v = true) : ofAClassStatement n v = pure false := by
  cases v with
  | ref a => simp [carriedByValue] at h
  | _ => first | rfl | (unfold ofAClassStatement; rfl)
theorem ofA_tuple {d : Nat} {a : Addr} {xs : Array Value} {Q : Bool → Shared → Prop} (ht : IsTup s.heap a xs) (hi : ∀ y ∈ xs.toList, ∀ Q' : Bool → Shared → Prop, Q' false s → wpAny (model prog w) A (ofAClassStatement d y) Q' E s) (h : Q false s) :
    wpAny (model prog w) A (ofAClassStatement (d + 1) (.ref a)) Q E s := by
  (refine el_1_2 ht fun o ho hc rEl => ?_; try clear ht; (refine el_1_0 rEl fun n hd => ?_; try clear rEl))
  have hT : s.TypeIs (.ref a) "tuple" := (in_1_1 o ho hc)
  unfold ofAClassStatement
  refine wpAny_bind (wpAny_typeOf hT ?_)
  dsimp only
  rw [if_pos (by decide)]
  refine wpAny_bind (wpAny_pure ?_)
  simp only [Bool.not_true, Bool.false_eq_true, if_false]
  refine wpAny_bind (wpAny_seqItems ho hd ?_)
  dsimp only
  refine wpAny_bind ?_
  show wpAny _ _ (forIn xs _ _) _ _ s
  rw [← Array.forIn_toList]
  refine wpAny_forIn_list _ (fun rest r s' => r.1 = none ∧ s' = s ∧ ∀ v ∈ rest, v ∈ xs.toList) _ ?_ ?_ _ _ (in_0_2 rfl rfl (fun v h => h))
  · intro v rest r s' hEl
    (refine el_0_2 hEl fun hr xEl1 hall => ?_; try clear hEl; obtain rfl := xEl1)
    refine wpAny_bind (hi v (hall v List.mem_cons_self) _ ?_)
    simp only [Bool.false_eq_true, if_false]
    exact wpAny_pure (in_0_2 rfl rfl (fun u hu' => hall u (List.mem_cons_of_mem _ hu')))
  · rintro ⟨r1, r2⟩ s' ⟨hr, rfl, _⟩
    simp only at hr
    subst hr
    exact wpAny_pure h
theorem ofA_pair {I : IM} {p : List Str × Int} {v : Value} {d : Nat} {Q : Bool → Shared → Prop} (r : VR I (pcv p) v) (hi : ∀ a o, I a = some o → s.heap.get? a = some o) (h : Q false s) :
    wpAny (model prog w) A (ofAClassStatement (d + 2) v) Q E s := by
  (refine el_6_1 (pair_shape r) fun a n b m t us xEl6 rEl => ?_; obtain rfl := xEl6; (refine el_0_2 rEl fun h1 h2 h3 => ?_; try clear rEl))
  refine ofA_tuple (in_1_2 _ (hi _ _ h1) rfl (in_1_0 n rfl)) (fun y hy Q' k => ?_) h
  have hy' : y = .ref b ∨ y = .int p.2 t := by simpa using hy
  rcases hy' with rfl | rfl
  · refine ofA_tuple (in_1_2 _ (hi _ _ h2) rfl (in_1_0 m rfl)) (fun y hy Q' k => ?_) k
    (refine el_2_0 (strs_shape h3 y hy) fun x t xEl2 => ?_; obtain rfl := xEl2)
    rw [ofA_byValue _ rfl]; exact wpAny_pure k
  · rw [ofA_byValue _ rfl]; exact wpAny_pure k
theorem seen_pairs {I : IM} {p : List Str × Int} {x : Value} {Q : Bool → Shared → Prop} (r : VR I (pcv p) x) (hi : ∀ a o, I a = some o → s.heap.get? a = some o) {ys : List Value} (hy : ∀ y ∈ ys, ∃ q, VR I (pcv q) y) (h : Q false s) :
    wpAny (model prog w) A (searchCouldBeSeen x ys) Q E s := by
  unfold searchCouldBeSeen
  refine wpAny_bind ?_
  refine wpAny_forIn_list _ (fun rest r s' => r.1 = none ∧ s' = s ∧ ∀ v ∈ rest, v ∈ ys) _ ?_ ?_ _ _ (in_0_2 rfl rfl (fun v h => h))
  · intro v rest b s' hEl
    (refine el_0_2 hEl fun hr xEl1 hall => ?_; try clear hEl; obtain rfl := xEl1)
    have nxt : ∀ v ∈ rest, v ∈ ys := fun u hu' => hall u (List.mem_cons_of_mem _ hu')
    (refine el_1_0 (hy v (hall v List.mem_cons_self)) fun q hq => ?_)
    (refine el_6_1 (pair_shape r) fun a _ _ _ _ _ xEl6 _ => ?_; obtain rfl := xEl6)
    (refine el_6_1 (pair_shape hq) fun c _ _ _ _ _ xEl6 _ => ?_; obtain rfl := xEl6)
    dsimp only
    split
    · exact wpAny_pure (in_0_2 rfl rfl nxt)
    · refine wpAny_bind (quiet_pair r hi ?_)
      simp only [Bool.not_true, Bool.false_eq_true, if_false]
      refine wpAny_bind (quiet_pair hq hi ?_)
      simp only [Bool.not_true, Bool.false_eq_true, if_false]
      refine wpAny_bind (ofA_pair r hi ?_)
      simp only [Bool.false_eq_true, if_false]
      refine wpAny_bind (ofA_pair hq hi ?_)
      simp only [Bool.false_eq_true, if_false]
      exact wpAny_pure (in_0_2 rfl rfl nxt)
  · rintro ⟨r1, r2⟩ s' ⟨hr, rfl, _⟩
    simp only at hr
    subst hr
    exact wpAny_pure h

-- a pair is never hashed by its value
theorem byValue_tuple {d : Nat} {a : Addr} {xs : Array Value} {Q : Bool → Shared → Prop} (ht : IsTup s.heap a xs) {y : Value} {ys : List Value} (hx : xs.toList = y :: ys) (hi : ∀ Q' : Bool → Shared → Prop, Q' false s → wpAny (model prog w) A (hashByValue d y) Q' E s) (h : Q false s) :
    wpAny (model prog w) A (hashByValue (d + 1) (.ref a)) Q E s := by
  (refine el_1_2 ht fun o ho hc rEl => ?_; try clear ht; (refine el_1_0 rEl fun n hd => ?_; try clear rEl))
  have hT : s.TypeIs (.ref a) "tuple" := (in_1_1 o ho hc)
  unfold hashByValue
  refine wpAny_bind (wpAny_specialOf hT F.slot_tuple_hash.lookup ?_)
  dsimp only
  refine wpAny_bind (wpAny_seqItems ho hd ?_)
  refine wpAny_bind ?_
  show wpAny _ _ (forIn xs _ _) _ _ s
  rw [← Array.forIn_toList, hx, List.forIn_cons]
  refine wpAny_bind (wpAny_bind (hi _ ?_))
  simp only [Bool.not_false, if_true]
  exact wpAny_pure (wpAny_pure (wpAny_pure h))
theorem byValue_pair {I : IM} {p : List Str × Int} {v : Value} {d : Nat} {Q : Bool → Shared → Prop} (r : VR I (pcv p) v) (hne : p.1 ≠ []) (hi : ∀ a o, I a = some o → s.heap.get? a = some o) (h : Q false s) :
    wpAny (model prog w) A (hashByValue (d + 2) v) Q E s := by
  (refine el_6_1 (pair_shape r) fun a n b m t us xEl6 rEl => ?_; obtain rfl := xEl6; (refine el_0_2 rEl fun h1 h2 h3 => ?_; try clear rEl))
  refine byValue_tuple (in_1_2 _ (hi _ _ h1) rfl (in_1_0 n rfl)) (y := .ref b) (ys := [.int p.2 t]) rfl (fun Q' k => ?_) h
  cases hp : p.1 with
  | nil => exact absurd hp hne
  | cons x xs =>
    rw [hp] at h3
    (refine el_2_2 (VRs.uncons h3) fun y ys e r1 r2 => ?_)
    simp only [VR] at r1
    (refine el_1_0 r1 fun t xEl1 => ?_; try clear r1; obtain rfl := xEl1)
    refine byValue_tuple (in_1_2 _ (hi _ _ h2) rfl (in_1_0 m rfl)) e (fun Q' k => ?_) k
    cases d <;> exact wpAny_pure k
end
end Mine
open PySem PySem.W PySem.Calls PyProof.Rows
set_option Elab.async false
set_option linter.all false
set_option maxRecDepth 100000
set_option genSizeOf false
namespace Mine
open SetTable

theorem eqv_strs : ∀ xs ys : List Str, PyData.eqvAll (toPys (xs.map .str)) (toPys (ys.map .str)) = decide (xs = ys)
  | [], [] => rfl
  | [], _ :: _ => rfl
  | _ :: _, [] => rfl
  | x :: xs, y :: ys => by
    simp only [List.map_cons, toPys, toPy, PyData.eqvAll, PyData.eqv]
    rw [eqv_strs xs ys]
    by_cases h1 : x = y <;> by_cases h2 : xs = ys <;> simp [h1, h2]
theorem ceq_pcv (p q : List Str × Int) : ceq (pcv p) (pcv q) = decide (p = q) := by
  obtain ⟨a, b⟩ := p; obtain ⟨c, d⟩ := q
  simp only [ceq, pcv, toPy, toPys, PyData.eqv, PyData.eqvAll, eqv_strs]
  by_cases h1 : a = c <;> by_cases h2 : b = d <;> simp [h1, h2]
theorem isPys_strs : ∀ {xs : List Str}, xs.all PyData.strOk = true → isPys (xs.map .str) = true
  | [], _ => rfl
  | x :: xs, h => by simp only [List.all_cons, Bool.and_eq_true] at h; simp [isPys, isPy, h.1, isPys_strs h.2]
theorem isPy_pcv {p : List Str × Int} (h : pok p = true) : isPy (pcv p) = true := by
  simp only [pok, Bool.and_eq_true] at h
  simp [pcv, isPy, isPys, isPys_strs h.2]
theorem depth_strs : ∀ (xs : List Str), PyData.depthAll (toPys (xs.map .str)) ≤ 1
  | [] => by decide
  | x :: xs => by
    have := depth_strs xs
    simp only [List.map_cons, toPys, toPy, PyData.depthAll, PyData.depth]
    assumption
theorem depth_pcv (p : List Str × Int) : (toPy (pcv p)).depth ≤ 10 := by
  have := depth_strs p.1
  simp only [pcv, toPy, toPys, PyData.depth, PyData.depthAll]
  omega

section
variable {prog : Program} {w : World} {A : Around} {E : Value → Shared → Prop} {s : Shared} {I : IM}
theorem eq_pairs (hi : ∀ a o, I a = some o → s.heap.get? a = some o) {p q : List Str × Int} {v u : Value} (hp : pok p = true) (hq : pok q = true) (hu : A.units + 20 < cLine) (ra : VR I (pcv p) v) (rb : VR I (pcv q) u) : SeqAt.EqAt A s v u (decide (p = q)) := by
  (refine el_0_1 (VR.reads hi _ v (isPy_pcv hp) ra) fun xEl0 hx => ?_; (refine el_1_0 xEl0 fun as x => ?_; try clear xEl0))
  (refine el_0_1 (VR.reads hi _ u (isPy_pcv hq) rb) fun xEl0 hy => ?_; (refine el_1_0 xEl0 fun bs y => ?_; try clear xEl0))
  rw [← ceq_pcv]
  refine SeqAt.eqAt_reads _ _ _ _ _ _ _ _ x y hx hy ?_
  exact lt_min (depth_pcv p) (by omega)

theorem go_of {t : SetTable} (hR : Rise t.place) (hd : t.dummies = #[]) {hashAt : Nat → Int} {h : Int} {n : Nat} {p : Probe} {r : Option Met} (e : t.probe hashAt h p = r) (hN : Near t n p) (hI : PInv t p) (hn : n < 10 * turns t.mask) :
    (∃ j, r = some (.empty j none) ∧ t.slot j = .empty ∧ j ≤ t.mask) ∨
    (∃ j i next m, r = some (.candidate j i next) ∧ t.slot j = .live i ∧ hashAt i = h ∧ i < t.place.size ∧ Near t m next ∧ m < n ∧ PInv t next) := by
  (refine Or.elim (go_near hR hd hashAt h _ n p hN hI hn) (fun xElo => ?aElo) (fun xElo => ?bElo); (case' bElo => (refine el_4_1 xElo fun j i next m a b => ?_; try clear xElo)); (case' aElo => (refine el_1_2 xElo fun j a b c => ?_; try clear xElo)))
  · exact .inl (in_1_2 j (e.symm.trans a) b c)
  · exact .inr (in_4_1 j i next m (e.symm.trans a) b)
theorem TOk.fits {t : SetTable} {n : Nat} (h : TOk t n) : t.fits n = true := by
  have h1 := h.size
  have h2 := h.room
  simp only [SetTable.fits, SetTable.fill, h.dum, Bool.and_eq_true, beq_iff_eq, decide_eq_true_eq, Array.size_empty]
  omega
theorem TOk.odd {t : SetTable} {n : Nat} (h : TOk t n) : t.gaveWay = false := by
  (refine el_1_0 h.pow fun m hm => ?_)
  have h2 := h.room
  have : t.mask % 2 ≠ 0 := by
    cases m with
    | zero => simp at hm; omega
    | succ m => simp only [Nat.pow_succ] at hm; omega
  simp [SetTable.gaveWay, this]

theorem get_item {es : Array (Int × Value)} {us : List (List Str × Int)} (r : VRs I (us.map pcv) (es.toList.map (·.2))) {i : Nat} (hi : i < es.size) : ∃ hh y q, es[i]? = some (hh, y) ∧ q ∈ us ∧ VR I (pcv q) y := by
  have hl := r.length
  simp at hl
  have hlt : i < us.length := by omega
  (refine el_1_1 (r.get (i := i) (c := pcv us[i]) (by simp [hlt])) fun v hv hr => ?_)
  refine (in_3_2 (es[i].1) (es[i].2) (us[i]) (by simp [hi]) (List.getElem_mem hlt) ?_)
  simp [hi] at hv
  rw [hv]; exact hr

theorem search_any {a : Addr} {o : Obj} {es : Array (Int × Value)} {ep : Nat} {t : SetTable} {us : List (List Str × Int)} {x : Value} {p : List Str × Int} {Q : SetFound → Shared → Prop} {h : Int}
    (ho : s.heap.get? a = some o) (hd : o.data = .set es ep t) (hT : TOk t es.size) (hi : ∀ a o, I a = some o → s.heap.get? a = some o) (hus : VRs I (us.map pcv) (es.toList.map (·.2))) (hok : ∀ v ∈ us, pok v = true)
    (r : VR I (pcv p) x) (hp : pok p = true) (hu : A.units + 20 < cLine) (q1 : p ∈ us → Q (.there none) s) (q2 : ∀ j, t.slot j = .empty → j ≤ t.mask → Q (.free j false) s) :
    ∀ fuel n (stand : Option Probe), Near t n (stand.getD (t.probeStart h)) → PInv t (stand.getD (t.probeStart h)) → n < fuel → n < 10 * turns t.mask → wpAny (model prog w) A (setSearchFrom a x h true fuel stand) Q E s
  | 0, n, stand, _, _, hn, _ => by (exact absurd (by assumption) (Nat.not_lt_zero _))
  | fuel + 1, n, stand, hN, hI, hn, hn' => by
    unfold setSearchFrom
    refine wpAny_bind (wpAny_setState_of ho hd hT.fits ?_)
    dsimp only
    rw [hT.odd]
    simp only [Bool.false_eq_true, if_false]
    split
    · rename_i met heq
      (refine Or.elim (go_of hT.rise hT.dum heq hN hI hn') (fun xElo => ?aElo) (fun xElo => ?bElo); (case' bElo => (refine el_4_6 xElo fun j i next m e a1 a2 a3 a4 a5 a6 => ?_; try clear xElo)); (case' aElo => (refine el_1_2 xElo fun j e a1 a2 => ?_; try clear xElo)))
      · cases e
        exact wpAny_pure (q2 j a1 a2)
      · cases e
        dsimp only
        rw [hT.size] at a3
        (refine el_3_2 (get_item hus a3) fun hh y q hy hq ry => ?_)
        have main : wpAny (model prog w) A (do
            let some (_, y) := es[i]? | unsupported "internal:set-entry"
            let equal ← holding [y] (eqBool y x)
            let (es', _, t') ← setState a
            if true && equal then return .there none
            let some same := t'.sameMemory t.moves t.mask | unsupported "set.changed-during-lookup:is-the-new-block-at-the-old-address"
            let still ← match (if same then t'.slot j else .empty) with
              | .live i' => match es'[i']? with
                | some (_, y') => do pure (if ← isSame y' y then some i' else none)
                | none => pure none
              | _ => pure none
            match still with
            | none => rule "set.search.anew"; setSearchFrom a x h true fuel none
            | some i' => if equal then return .there (some i') else setSearchFrom a x h true fuel (some next)) Q E s := by
          rw [hy]
          dsimp only
          refine wpAny_bind (wpAny_holding (eq_pairs hi (hok q hq) hp hu ry r prog w _ _ ?_))
          refine wpAny_bind (wpAny_setState_of ho hd hT.fits ?_)
          dsimp only
          by_cases hqp : q = p
          · subst hqp
            rw [decide_eq_true rfl]
            exact wpAny_pure (q1 hq)
          · rw [decide_eq_false hqp]
            simp only [Bool.and_false, Bool.false_eq_true, if_false]
            have hsame : t.sameMemory t.moves t.mask = some true := by simp [SetTable.sameMemory]
            rw [hsame]
            dsimp only
            rw [if_pos rfl, a1]
            dsimp only
            rw [hy]
            dsimp only
            (refine el_6_1 (pair_shape ry) fun b _ _ _ _ _ xEl6 _ => ?_; obtain rfl := xEl6)
            refine wpAny_bind (wpAny_isSame_ref_self (wpAny_bind (wpAny_pure ?_)))
            exact search_any ho hd hT hi hus hok r hp hu q1 q2 fuel m (some next) a4 a6 (by omega) (by (exact Nat.lt_trans (by assumption) (by assumption)))
        by_cases hl : t.led = true
        · rw [hl]
          exact main
        · simp only [Bool.not_eq_true] at hl
          rw [hl]
          simp only [Bool.not_false, if_true]
          refine wpAny_bind (seen_pairs r hi (fun z hz => ?_) ?_)
          · (refine el_1_0 (List.mem_map.mp hz) fun xEl0 rEl => ?_; obtain ⟨h1, z'⟩ := xEl0; (refine el_0_1 rEl fun hz1 yEl1 => ?_; try clear rEl; obtain rfl := yEl1))
            have hz2 : (h1, z') ∈ es.toList := by simp at hz1 ⊢; exact hz1.1
            (refine el_1_0 (List.getElem_of_mem hz2) fun k rEl => ?_; (refine el_1_0 rEl fun hk hk' => ?_; try clear rEl))
            have hks : k < es.size := by simpa using hk
            (refine el_3_2 (get_item hus hks) fun hh2 y2 q2' hy2 _ ry2 => ?_)
            simp [hks] at hy2 hk'
            rw [hk'] at hy2; cases hy2
            exact (in_1_0 q2' ry2)
          · exact main
    · rename_i heq
      exfalso
      have : ∃ r, r = none ∧ ((∃ j, r = some (Met.empty j none) ∧ t.slot j = .empty ∧ j ≤ t.mask) ∨ (∃ j i next m, r = some (Met.candidate j i next) ∧ Near t m next)) := by
        generalize hr : t.probe _ h _ = rr at heq
        rcases go_of hT.rise hT.dum hr hN hI hn' with ⟨j, e, a1, a2⟩ | ⟨j, i, next, m, e, a1, a2, a3, a4, a5, a6⟩
        · exact (in_1_1 rr (by cases rr <;> simp_all) (.inl (in_1_2 j e a1 a2)))
        · exact (in_1_1 rr (by cases rr <;> simp_all) (.inr (in_4_1 j i next m e a4)))
      (refine el_1_1 this fun r' e xEl2 => ?_; try clear this; obtain ⟨j, e1, _⟩ | ⟨j, i, next, m, e1, _⟩ := xEl2) <;> rw [e] at e1 <;> cases e1
end
end Mine
open PySem PySem.W PySem.Calls PyProof.Rows
set_option Elab.async false
set_option linter.all false
set_option maxRecDepth 100000
set_option genSizeOf false
namespace Mine
open SetTable

theorem perm_pcv {I : IM} {l1 l2 : List Value} (h : l1.Perm l2) : ∀ {us : List (List Str × Int)}, VRs I (us.map pcv) l1 → ∃ us2 : List (List Str × Int), us2.Perm us ∧ VRs I (us2.map pcv) l2 := by
  induction h with
  | nil => intro us r; exact (in_1_1 us (.refl _) r)
  | @cons x l1 l2 _ ih =>
    intro us r
    cases us with
    | nil => have := r.nil_iff; cases this
    | cons u us =>
      (refine el_2_2 (VRs.uncons r) fun y ys e r1 r2 => ?_)
      cases e
      (refine el_1_1 (ih r2) fun us2 p r3 => ?_)
      exact (in_1_1 (u :: us2) (p.cons u) (.cons r1 r3))
  | swap x y l =>
    intro us r
    cases us with
    | nil => have := r.nil_iff; cases this
    | cons u us =>
      (refine el_2_2 (VRs.uncons r) fun y' ys e r1 r2 => ?_)
      cases e
      cases us with
      | nil => have := r2.nil_iff; cases this
      | cons u2 us =>
        (refine el_2_2 (VRs.uncons r2) fun y' ys e r3 r4 => ?_)
        cases e
        exact (in_1_1 (u2 :: u :: us) (.swap _ _ _) (.cons r3 (.cons r1 r4)))
  | trans _ _ ih1 ih2 =>
    intro us r
    (refine el_1_1 (ih1 r) fun us2 p r2 => ?_)
    (refine el_1_1 (ih2 r2) fun us3 p3 r3 => ?_)
    exact (in_1_1 us3 (p3.trans p) r3)

section
variable {prog : Program} {w : World} {A : Around} {E : Value → Shared → Prop} {s : Shared} {I : IM}

theorem put_eq {t : SetTable} (hd : t.dummies = #[]) (j : Nat) : t.put j = ({ t with place := insertAt t.place (below t.place j) j }, below t.place j) := by
  unfold SetTable.put
  have hh : SetTable.has t.dummies j = false := by rw [hd]; simp [SetTable.has]
  simp only [hh, Bool.false_eq_true, if_false]
theorem near_start {t : SetTable} {n : Nat} (hT : TOk t n) (h : Int) : ∃ N, Near t N (t.probeStart h) ∧ PInv t (t.probeStart h) ∧ N ≤ 10 * (t.mask + 13) := by
  (refine el_1_0 hT.pow fun m hm => ?_)
  have hr := hT.room
  (refine el_1_1 (exists_free (n := t.place.size) (M := t.mask + 1) (fun i => t.place.getD i 0) (by rw [hT.size]; omega)) fun e he hf => ?_)
  have hi : bits h % (t.mask + 1) ≤ t.mask := by have := Nat.mod_lt (bits h) (show t.mask + 1 > 0 by omega); omega
  (refine el_1_1 (leaps_hit hm hi (bits_lt h) (show e ≤ t.mask by omega)) fun N hN hN' => ?_)
  have he' : t.slot e = .empty := slot_empty hT.rise hT.dum hf
  refine (in_1_2 (10 * N) (near_leaps N _ _ hi (by rw [hN']; exact he')) ?_ (by omega))
  have hre := runEnd_le hi
  exact ⟨by show bits h % (t.mask + 1) + (runEnd t.mask (bits h % (t.mask + 1)) - bits h % (t.mask + 1)) ≤ _; omega, rfl⟩

theorem add_any {a : Addr} {o : Obj} {vs : List (List Str × Int)} {x : Value} {p : List Str × Int} {h : Int} {Q : Bool → Shared → Prop} (ho : s.heap.get? a = some o) (hP : PSet w I vs o) (hi : ∀ a o, I a = some o → s.heap.get? a = some o)
    (hia : I a = none) (r : VR I (pcv p) x) (hp : pok p = true) (hu : A.units + 20 < cLine) (hvs : vs.length ≤ 900)
    (k : ∀ b h' o', (∀ c, c ≠ a → h'.get? c = s.heap.get? c) → h'.get? a = some o' → PSet w I (vs ++ [p]) o' → Q b { s with heap := h' }) : wpAny (model prog w) A (setAddHashed a x h) Q E s := by
  (refine el_4_6 hP fun es ep t us hex hd hmem hok hlen hus rEl => ?_; try clear hP; (refine el_0_2 rEl fun hT hpl hled => ?_; try clear rEl))
  have hokus : ∀ v ∈ us, pok v = true := fun v hv => hok v ((hmem v).mp hv)
  have hnes : es.size = us.length := by have := hus.length; simp at this; exact this.symm
  unfold setAddHashed setAddHashedIn
  refine wpAny_holding (wpAny_bind (wpAny_setState_of ho hd hT.fits ?_))
  dsimp only
  (refine el_6_1 (pair_shape r) fun b _ _ _ _ _ xEl6 _ => ?_; obtain rfl := xEl6)
  have hbs : byScan (.ref b) es = false := rfl
  rw [hbs]
  simp only [Bool.false_eq_true, if_false]
  (refine el_1_2 (near_start hT h) fun N hN1 hN2 hN3 => ?_)
  have htop := hT.top
  refine wpAny_bind ?_
  refine search_any ho hd hT hi hus hokus r hp hu (fun hin => ?_) (fun j hj1 hj2 => ?_) 100000 N none hN1 hN2 (by omega) (by unfold turns; omega)
  · dsimp only
    refine wpAny_pure ?_
    have := k false s.heap o (fun _ _ => rfl) ho (in_4_8 es ep t us hex hd (fun v => ?_) (fun v hv => ?_) (by simp; omega) hus hT hpl hled)
    · exact this
    · rw [hmem v, List.mem_append, List.mem_singleton]
      exact ⟨.inl, fun q => q.elim id fun q => q ▸ (hmem p).mp hin⟩
    · rcases List.mem_append.mp hv with q | q
      · exact hok v q
      · rw [List.mem_singleton.mp q]; exact hp
  · dsimp only
    refine wpAny_bind (wpAny_setState_of ho hd hT.fits ?_)
    dsimp only
    rw [put_eq hT.dum]
    dsimp only
    have hbelow := (below_spec hT.rise j).1
    generalize hbl : below t.place j = pp at hbelow ⊢
    have hpp : pp ≤ es.size := by rw [← hT.size]; exact hbelow
    have hnotin : ∀ i, i < t.place.size → t.place.getD i 0 ≠ j := by
      (refine Or.elim (slot_cases hT.rise hT.dum j) (fun q => ?aElo) (fun xElo => ?bElo); (case' bElo => (refine el_1_2 xElo fun i q _ _ => ?_; try clear xElo)); (case' aElo => skip))
      · exact q.2
      · rw [hj1] at q; cases q
    have hrise : Rise (insertAt t.place pp j) := by rw [← hbl]; exact rise_insert hT.rise hnotin
    have hsz1 : (insertAt t.place pp j).size = es.size + 1 := by rw [insertAt_size hbelow, hT.size]
    have hes1 : (insertAt es pp (h, .ref b)).size = es.size + 1 := insertAt_size hpp
    have hle1 : ∀ i, i < (insertAt t.place pp j).size → (insertAt t.place pp j).getD i 0 ≤ t.mask := by
      intro i hi'
      rw [insertAt_size hbelow] at hi'
      rw [insertAt_getD hbelow hi']
      split
      · exact hT.le i (by omega)
      · split
        · exact hj2
        · exact hT.le (i - 1) (by omega)
    have hvr1 : VRs I ((us.take pp ++ p :: us.drop pp).map pcv) ((insertAt es pp (h, .ref b)).toList.map (·.2)) := by
      rw [insertAt_toList hpp, List.map_append, List.map_cons, List.map_append, List.map_cons, List.map_take, List.map_drop, List.map_take, List.map_drop]
      exact (hus.take pp).append (.cons r (hus.drop pp))
    have hmem1 : ∀ us1 : List (List Str × Int), us1.Perm (us.take pp ++ p :: us.drop pp) → (∀ v, v ∈ us1 ↔ v ∈ vs ++ [p]) ∧ us1.length ≤ (vs ++ [p]).length := by
      intro us1 hp1
      have e1 : (us.take pp ++ p :: us.drop pp).Perm (p :: us) := by
        refine List.perm_middle.trans ?_
        rw [List.take_append_drop]
      refine ⟨fun v => ?_, ?_⟩
      · rw [(hp1.trans e1).mem_iff, List.mem_cons, List.mem_append, List.mem_singleton, hmem v]
        exact ⟨fun q => q.elim .inr .inl, fun q => q.elim .inr .inl⟩
      · rw [(hp1.trans e1).length_eq]; simp; omega
    have hok1 : ∀ v, v ∈ vs ++ [p] → pok v = true := fun v hv => by
      rcases List.mem_append.mp hv with q | q
      · exact hok v q
      · rw [List.mem_singleton.mp q]; exact hp
    have hline : ∀ n, n ≤ 100000 → n ≤ sizeLine := fun n hn => by rw [sizeLine_eq]; omega
    -- from the table on
    have tail : ∀ t1 : SetTable, t1 = { t with place := insertAt t.place pp j, plain := false } → wpAny (model prog w) A (do
        storeSet a (insertAt es pp (h, .ref b)) t1
        if (!false && t1.tooFull) = true then do
          setRelay a (grown (es.size + 1))
          pure true
        else pure true) Q E s := by
      intro t1 ht1
      refine wpAny_bind (wpAny_storeSet_of ho hd ?_ (hline _ (by omega)))
      have hT1 : t1.mask = t.mask ∧ t1.place = insertAt t.place pp j ∧ t1.dummies = #[] ∧ t1.plain = false ∧ t1.led = t.led := by subst ht1; exact (in_0_4 rfl rfl hT.dum rfl rfl)
      (refine el_0_4 hT1 fun m1 m2 m3 m4 m5 => ?_; try clear hT1)
      have ho1 : (s.heap.update a (Obj.putSet (insertAt es pp (h, .ref b)) t1)).get? a = some { o with data := .set (insertAt es pp (h, .ref b)) (ep + 1) t1 } := by
        have := Heap.get?_update_self (Obj.putSet (insertAt es pp (h, .ref b)) t1) ho (by rw [putSet_of _ _ hd]; rfl)
        rw [putSet_of _ _ hd] at this; exact this
      have hsb1 := Heap.SameBut.update s.heap a (Obj.putSet (insertAt es pp (h, .ref b)) t1)
      have hfits : t1.fits (insertAt es pp (h, .ref b)).size = true := by
        have hr := hT.room
        have hf1 : t1.place.size = (insertAt es pp (h, .ref b)).size := by rw [m2, hsz1, hes1]
        have hf2 : t1.fill ≤ t1.mask := by
          have e : t1.fill = es.size + 1 + 0 := by unfold SetTable.fill; rw [m2, m3, hsz1]; rfl
          rw [e, m1]; omega
        simp only [SetTable.fits, Bool.and_eq_true, beq_iff_eq, decide_eq_true_eq]
        exact ⟨hf1, hf2⟩
      by_cases hfull : t1.tooFull = true
      · rw [hfull]
        simp only [Bool.not_false, Bool.and_self, if_true]
        refine wpAny_bind ?_
        unfold setRelay
        refine wpAny_bind (wpAny_setState_of ho1 rfl hfits ?_)
        dsimp only
        have hg : grown (es.size + 1) = (es.size + 1) * 4 := by unfold grown; rw [if_neg (by omega)]
        rw [hg]
        (refine el_1_2 (sizeAbove_spec (n := (es.size + 1) * 4) (by omega)) fun kk hk1 hk2 hk3 => ?_)
        have hsa : sizeAbove ((es.size + 1) * 4) ≤ 100000 := by rw [hk1]; rcases hk3 with rfl | hk3 <;> omega
        rw [if_neg (Nat.not_lt.mpr (hline _ hsa))]
        have hM : sizeAbove ((es.size + 1) * 4) - 1 + 1 = 2 ^ (kk + 3) := by
          rw [hk1, Nat.pow_add]
          have := Nat.two_pow_pos kk
          omega
        (refine el_2_8 (laid_some (finger := t1.finger) (moves := t1.movedTo (sizeAbove ((es.size + 1) * 4) - 1)) (led := t1.led) (plain := t1.plain) hM (hashes := (insertAt es pp (h, .ref b)).map (·.1)) (by rw [Array.size_map, hes1, hk1]; omega)) fun t2 order hl1 hl2 hl3 hl4 hl5 hl6 hl7 hl8 hl9 => ?_)
        have hrel : t1.relaid ((insertAt es pp (h, .ref b)).map (·.1)) ((es.size + 1) * 4) = some (t2, order) := hl1
        rw [hrel]
        rw [Array.size_map] at hl2 hl5
        have hperm := order_perm hl2
        have hsz2 : (order.filterMap ((insertAt es pp (h, .ref b))[·]?)).size = es.size + 1 := by
          rw [← Array.length_toList, hperm.length_eq, Array.length_toList, hes1]
        refine wpAny_bind ?_
        show wpAny _ _ (if ((order.filterMap ((insertAt es pp (h, .ref b))[·]?)).size != (insertAt es pp (h, .ref b)).size) = true then _ else pure (order.filterMap ((insertAt es pp (h, .ref b))[·]?), t2)) _ _ _
        rw [if_neg (by rw [hsz2, hes1]; simp)]
        refine wpAny_pure ?_
        dsimp only
        refine wpAny_storeSet_of ho1 rfl (wpAny_pure ?_) (hline _ (by omega))
        (refine el_1_1 (perm_pcv (hperm.map (·.2)).symm hvr1) fun us2 hu1 hu2 => ?_)
        refine k true _ { o with data := .set (order.filterMap ((insertAt es pp (h, .ref b))[·]?)) (ep + 1 + 1) t2 } (fun c hc => ?_) ?_ (in_4_8 _ _ t2 us2 ?_ rfl ((hmem1 us2 hu1).1) hok1 ((hmem1 us2 hu1).2) hu2 ?_ (fun _ => by rw [hl8]; exact m4) (fun q => by rw [hl9, m5]; exact hled q))
        · exact ((Heap.SameBut.update _ a _).2 c hc).trans (hsb1.2 c hc)
        · have := Heap.get?_update_self (Obj.putSet (order.filterMap ((insertAt es pp (h, .ref b))[·]?)) t2) ho1 (by rw [putSet_of _ _ rfl]; rfl)
          rw [putSet_of _ _ rfl] at this; exact this
        · exact hex
        · rw [hsz2]
          refine ⟨by rw [hl5, hes1], hl6, hl3, fun i hi => by rw [hl7]; exact hl4 i hi, (in_1_0 (kk + 3) (by rw [hl7]; exact hM)), ?_, ?_⟩
          · rw [hl7, hk1]; omega
          · rw [hl7, hk1]; rcases hk3 with rfl | hk3 <;> omega
      · rw [Bool.not_eq_true] at hfull
        rw [hfull]
        simp only [Bool.and_false, Bool.false_eq_true, if_false]
        refine wpAny_pure ?_
        refine k true _ _ (fun c hc => hsb1.2 c hc) ho1 (in_4_8 _ _ t1 _ hex rfl ((hmem1 _ (.refl _)).1) hok1 ((hmem1 _ (.refl _)).2) hvr1 ?_ (fun _ => m4) (fun q => by rw [m5]; exact hled q))
        rw [hes1]
        refine ⟨by rw [m2, hsz1], m3, by rw [m2]; exact hrise, fun i hi => by rw [m1, m2]; rw [m2] at hi; exact hle1 i hi, by rw [m1]; exact hT.pow, ?_, by rw [m1]; omega⟩
        have hx : (t1.tooFull = true) ↔ t.mask * 3 ≤ (es.size + 1) * 5 := by
          simp [SetTable.tooFull, SetTable.fill, m1, m2, m3, hsz1]
        have hy : ¬ (t.mask * 3 ≤ (es.size + 1) * 5) := fun q => by rw [hx.mpr q] at hfull; cases hfull
        rw [m1]; omega
    by_cases hplain : t.plain = true
    · simp only [hplain, if_true]
      refine wpAny_bind (byValue_pair r (fun q => ?_) hi ?_)
      · simp only [pok, q, List.isEmpty_nil, Bool.not_true, Bool.false_and] at hp; cases hp
      · simp only [Bool.false_eq_true, if_false]
        exact tail _ rfl
    · rw [Bool.not_eq_true] at hplain
      simp only [hplain, Bool.false_eq_true, if_false]
      refine wpAny_bind (wpAny_pure ?_)
      simp only [if_true]
      refine tail _ ?_
      cases t; simp only at hplain; subst hplain; rfl
end
end Mine
open PySem PySem.W PySem.Calls PyProof.Rows
set_option Elab.async false
set_option linter.all false
set_option maxRecDepth 100000
set_option genSizeOf false
namespace Mine
open SetTable

section
variable {prog : Program} {w : World} {A : Around} {E : Value → Shared → Prop} {s : Shared} {I : IM}

theorem walk_any {M : Model} {a : Addr} {o : Obj} {es : Array (Int × Value)} {ep : Nat} {t : SetTable} {Q : Array (Int × Value) → Shared → Prop} (ho : s.heap.get? a = some o) (hd : o.data = .set es ep t) (hf : t.fits es.size = true)
    (hb : w.params.followText "set-order" = true ∨ es.size ≤ 1) (h : ∀ x, Q x s) : wpAny (model prog w) A (setWalk a) Q E s := by
  unfold setWalk
  refine wpAny_bind (wpAny_setState_of ho hd hf ?_)
  dsimp only
  unfold setsByText
  refine wpAny_bind (wpAny_bind (wpAny_askSetting (wpAny_pure ?_)))
  show wpAny _ _ (if w.params.followText "set-order" = true then _ else _) _ _ _
  by_cases hq : w.params.followText "set-order" = true
  · rw [if_pos hq]
    exact wpAny_bind (wpAny_askSetting (wpAny_pure (h _)))
  · rw [if_neg hq]
    have hs : es.size ≤ 1 := hb.resolve_left hq
    show wpAny _ _ (if (!t.plain && decide (es.size > 1)) = true then _ else _) _ _ _
    have e1 : (!t.plain && decide (es.size > 1)) = false := by rw [decide_eq_false (by (exact Nat.not_lt_of_le (by assumption)))]; simp
    rw [e1, if_neg (by decide)]
    refine wpAny_bind ?_
    show wpAny _ _ (if (!t.led && decide (es.size > 1)) = true then unsupported _ else pure ()) _ _ _
    have e2 : (!t.led && decide (es.size > 1)) = false := by rw [decide_eq_false (by (exact Nat.not_lt_of_le (by assumption)))]; simp
    rw [e2, if_neg (by decide)]
    exact wpAny_pure (wpAny_pure (h _))

theorem clear_any {a : Addr} {o : Obj} {vs : List (List Str × Int)} {Q : Unit → Shared → Prop} (ho : s.heap.get? a = some o) (hP : PSet w I vs o)
    (k : ∀ h' o', (∀ c, c ≠ a → h'.get? c = s.heap.get? c) → h'.get? a = some o' → PSet w I [] o' → Q () { s with heap := h' }) : wpAny (model prog w) A (Builtin.Frozenset.clearAll a) Q E s := by
  (refine el_4_6 hP fun es ep t us hex hd hmem hok hlen hus rEl => ?_; try clear hP; (refine el_0_2 rEl fun hT hpl hled => ?_; try clear rEl))
  unfold Builtin.Frozenset.clearAll
  suffices H : ∀ g : Option (List Value) → Sem Unit, (∀ old s', Q () s' → wpAny (model prog w) A (g old) Q E s') → wpAny (model prog w) A (setClear a >>= g) Q E s by
    refine H _ fun old s' h => ?_
    cases old with
    | none => exact wpAny_point h
    | some l => exact wpAny_letGo h
  intro g hg
  unfold setClear
  have last : ∀ old : Option (List Value), ∀ b : Bool, (w.params.followText "set-order" = false → b = true) → wpAny (model prog w) A (do storeSet a #[] (t.cleared b); pure old) (fun r s' => wpAny (model prog w) A (g r) Q E s') E s := by
    intro old b hb
    refine wpAny_bind (wpAny_storeSet_of ho hd (wpAny_pure ?_) (by show 0 ≤ sizeLine; simp))
    have h1 : (s.heap.update a (Obj.putSet #[] (t.cleared b))).get? a = some { o with data := .set #[] (ep + 1) (t.cleared b) } := by
      have := Heap.get?_update_self (Obj.putSet #[] (t.cleared b)) ho (by rw [putSet_of _ _ hd]; rfl)
      rw [putSet_of _ _ hd] at this; exact this
    have fin : Q () { s with heap := s.heap.update a (Obj.putSet #[] (t.cleared b)) } := by
      refine k _ _ (fun c hc => (Heap.SameBut.update s.heap a _).2 c hc) h1 (in_4_8 (#[]) (ep + 1) (t.cleared b) ([]) hex rfl (fun v => .rfl) (fun v hv => by simp at hv) (Nat.le_refl _) (.nil) ?_ (fun h => by simp at h) hb)
      exact ⟨rfl, rfl, fun i j _ h => by simp [SetTable.cleared, SetTable.fresh] at h, fun i h => by simp [SetTable.cleared, SetTable.fresh] at h, (in_1_0 3 rfl), by show 0 * 5 < 7 * 3; (exact Nat.zero_lt_succ _), by show 7 ≤ 8 * 0 + 7; (exact Nat.le_add_left _ _)⟩
    exact hg old _ fin
  refine wpAny_bind ?_
  refine wpAny_bind ?_
  unfold setDeathsKnown
  refine wpAny_bind (wpAny_setState_of ho hd hT.fits ?_)
  dsimp only
  unfold setsByText
  refine wpAny_bind (wpAny_bind (wpAny_askSetting (wpAny_pure ?_)))
  refine wpAny_pure ?_
  have rest : ∀ old : Option (List Value), wpAny (model prog w) A (do
      let t := (← setState a).2.2
      storeSet a #[] (t.cleared (led := !(← setsByText) && (t.led || t.finger == 0)))
      return old) (fun r s' => wpAny (model prog w) A (g r) Q E s') E s := by
    intro old
    refine wpAny_bind (wpAny_setState_of ho hd hT.fits ?_)
    dsimp only
    unfold setsByText
    refine wpAny_bind (wpAny_bind (wpAny_askSetting (wpAny_pure ?_)))
    exact last old _ fun q => by show (!w.params.followText "set-order" && (t.led || t.finger == 0)) = true; rw [q, hled q]; rfl
  split
  · rename_i hc
    refine wpAny_bind ?_
    unfold setItems
    refine wpAny_bind (walk_any (M := model prog w) ho hd hT.fits ?_ fun x => ?_)
    · rcases Bool.or_eq_true_iff.mp hc with hc | hc
      · rcases Bool.or_eq_true_iff.mp hc with hc | hc
        · exact .inl hc
        · right
          have hp := (Bool.and_eq_true_iff.mp hc).2
          by_cases hz : 0 < es.size
          · rw [hpl hz] at hp; cases hp
          · omega
      · right; simpa using hc
    · exact wpAny_pure (wpAny_bind (wpAny_pure (rest _)))
  · exact wpAny_bind (wpAny_pure (rest _))
end

section
variable {C : Cx} {dep : Nat} {KF I : IM} {st : CSt} {s : Shared} {Q : CV → CSt → Prop}
theorem zip_nil_left {α β : Type} (l : List β) : (([] : List α).zip l) = [] := by cases l <;> rfl

theorem WMeth.set {vs} {a : Addr} {name : Str} {id : String} (hH : st.H a = some (.set vs)) (slot : Slot "set" name id) (hty : typeOf (.builtin id) = pure (.type "method_descriptor")) : WMeth C (.loc a) name (.builtin id) st := fun I v KF s pl E Q r S q => by
  simp only [VR] at r; subst r
  (refine el_0_2 (S.mu a _ hH) fun _ _ rEl => ?_; (refine el_1_1 rEl fun o ho sEl => ?_; try clear rEl; obtain ⟨es, ep, t, us, hex, _⟩ := sEl))
  exact getMethod_builtin (in_1_1 o ho hex.1) F.plainAttrs_set slot hty (fun b e => by cases e; exact (in_1_1 o ho hex.2.1)) (q s.toks)
theorem WMeth.iset {vs} {a : Addr} {name : Str} {id : String} (hH : st.H a = some (.iset vs)) (slot : Slot "set" name id) (hty : typeOf (.builtin id) = pure (.type "method_descriptor")) : WMeth C (.loc a) name (.builtin id) st := fun I v KF s pl E Q r S q => by
  simp only [VR] at r; subst r
  (refine el_0_2 (S.mu a _ hH) fun _ _ rEl => ?_; (refine el_1_1 rEl fun o ho sEl => ?_; try clear rEl; obtain ⟨es, ep, t, hex, _⟩ := sEl))
  exact getMethod_builtin (in_1_1 o ho hex.1) F.plainAttrs_set slot hty (fun b e => by cases e; exact (in_1_1 o ho hex.2.1)) (q s.toks)

theorem WCall.addPair {a : Addr} {vs : List (List Str × Int)} {p : List Str × Int} (ok : C.Ok dep) (hH : st.H a = some (.set vs)) (hp : pok p = true) (hn : vs.length ≤ 900) (h : Q .none { st with H := hput st.H a (.set (vs ++ [p])) }) :
    WCall C (.builtin "set.add") [.loc a, pcv p] [] [] st Q := fun I us vs' r1 r2 KF s S => by
  (revert r1; intro hfEl; refine el_2_1 hfEl.uncons fun x us1 xEl2 rEl => ?_; try clear hfEl; obtain rfl := xEl2; (refine el_0_1 rEl fun ra r1 => ?_; try clear rEl))
  (revert r1; intro hfEl; refine el_2_1 hfEl.uncons fun y us2 xEl2 rEl => ?_; try clear hfEl; obtain rfl := xEl2; (refine el_0_1 rEl fun rp r1 => ?_; try clear rEl))
  have := r1.nil_iff; subst this
  rw [zip_nil_left]
  simp only [VR] at ra; subst ra
  (refine el_0_2 (S.mu a _ hH) fun hi _ rEl => ?_; (refine el_1_1 rEl fun o ho hP => ?_; try clear rEl))
  have hu := ok.units
  have hT : s.TypeIs (.ref a) "set" := by (refine el_4_1 hP fun es ep t us hex _ => ?_; try clear hP); exact (in_1_1 o ho hex.1)
  refine wpAny_call_entry F.slot_set_add hT F.entry_set_add ?_ (F.args_set_add_2 _ _)
  unfold Builtin.«set.add» Builtin.Frozenset.oneOther
  simp only [List.isEmpty_nil, bind_assoc]
  unfold Builtin.Frozenset.addrOf setAdd
  refine wpAny_bind (wpAny_pure ?_)
  try dsimp only
  refine wpAny_bind (wpAny_pure ?_)
  try dsimp only
  refine wpAny_bind ?_
  refine wpAny_holding ?_
  refine wpAny_bind (hash_pair rp S.imm (by simp only [Around.in1_units]; omega) fun n tk => ?_)
  refine add_any (s := { s with toks := tk }) ho hP S.imm hi rp hp (by simp only [Around.in1_units]; omega) hn fun b h' o' hs ho' hP' => ?_
  refine wpAny_pure (in_1_1 _ rfl ⟨I, _, .refl I, S.setH (tk := tk) (c := .set (vs ++ [p])) hH (fun c o hc e => (hs c hc).trans e) ho' hP', .none, by simp [VR], h⟩)

theorem WCall.clearPairs {a : Addr} {vs : List (List Str × Int)} (ok : C.Ok dep) (hH : st.H a = some (.set vs)) (h : Q .none { st with H := hput st.H a (.set []) }) :
    WCall C (.builtin "set.clear") [.loc a] [] [] st Q := fun I us vs' r1 r2 KF s S => by
  (revert r1; intro hfEl; refine el_2_1 hfEl.uncons fun x us1 xEl2 rEl => ?_; try clear hfEl; obtain rfl := xEl2; (refine el_0_1 rEl fun ra r1 => ?_; try clear rEl))
  have := r1.nil_iff; subst this
  rw [zip_nil_left]
  simp only [VR] at ra; subst ra
  (refine el_0_2 (S.mu a _ hH) fun hi _ rEl => ?_; (refine el_1_1 rEl fun o ho hP => ?_; try clear rEl))
  have hT : s.TypeIs (.ref a) "set" := by (refine el_4_1 hP fun es ep t us hex _ => ?_; try clear hP); exact (in_1_1 o ho hex.1)
  refine wpAny_call_entry F.slot_set_clear hT F.entry_set_clear ?_ (F.args_set_clear_1 _)
  unfold Builtin.«set.clear» Builtin.Frozenset.noArgs
  simp only [List.isEmpty_nil, bind_assoc]
  unfold Builtin.Frozenset.addrOf
  refine wpAny_bind (wpAny_pure ?_)
  try dsimp only
  try refine wpAny_bind (wpAny_pure ?_)
  try dsimp only
  refine wpAny_bind (clear_any ho hP fun h' o' hs ho' hP' => ?_)
  exact wpAny_pure (in_1_1 _ rfl ⟨I, _, .refl I, S.setH (tk := s.toks) (c := .set []) hH (fun c o hc e => (hs c hc).trans e) ho' hP', .none, by simp [VR], h⟩)

set_option maxHeartbeats 1000000 in
/-- a new set, its maker known -/
theorem setMade_any {prog : Program} {w : World} {A : Around} {E : Value → Shared → Prop} {s : Shared} {R : Value → Shared → Prop}
    (h : R (.ref s.heap.objs.size) { s with heap := s.heap.push { cls := .type "set", dict := Option.none, data := .set #[] 0 (.fresh 0 0 (!w.params.followText "set-order")) } }) :
    codeAny (model prog w) A (.call (.builtin "set.__new__") ⟨[.type "set"], []⟩) (wants R E) s := by
  refine codeAny_of_tree ?_
  show wpAny _ A.in1 (do checkBuiltinCall "set.__new__" ⟨[.type "set"], []⟩; again (.builtin "set.__new__" ⟨[.type "set"], []⟩)) _ _ s
  refine wpAny_bind (wpAny_of_eq F.newCall_set_0 (wpAny_pure ⟨plainId_quiet F.plain_set_new _, codeAny_builtin F.entry_set_new ?_⟩))
  rw [Around.under_plainId F.plain_set_new _]
  unfold Builtin.«set.__new__» Builtin.Frozenset.newClass
  have hsub := sub_set_self
  obtain ⟨hp, g, d, tk, os⟩ := s
  dsimp only
  wp_walk
  refine wpAny_askSetting (wpAny_pure ?_)
  dsimp only
  simp only [newObj]
  exact wpAny_bind (wpAny_alloc (wpAny_pure (wpAny_pure h)))
set_option maxHeartbeats 1000000 in
theorem setCalled_any {prog : Program} {w : World} {A : Around} {E : Value → Shared → Prop} {s : Shared} {R : Value → Shared → Prop}
    (h : R (.ref s.heap.objs.size) { s with heap := s.heap.push { cls := .type "set", dict := Option.none, data := .set #[] 0 (.fresh 0 0 (!w.params.followText "set-order")) } }) :
    wpAny (model prog w) A (PySem.call (.type "set") []) R E s := by
  (refine el_2_0 F.called_set.mro fun c tl hmro => ?_)
  have hmade := F.called_set.made
  have hsub := F.called_set.sub
  refine wpAny_call (codeAny_of_tree ?_)
  show wpAny _ _ (callAny (.type "set") _) _ _ _
  refine wpAny_pure ⟨Code.quiet_builtin _ (by decide +kernel), codeAny_builtin F.entry_type_call ?_⟩
  rw [Around.under_plain (weight_type_call_type "set" [] []) rfl]
  have h1 := F.called_set.notType
  have h2 := F.called_set.canCreate
  have hct := F.typeCall_set_0
  repeat (any_goals (first | assumption | wp_step))
  refine codeAny_mono (setMade_any (E := E) (R := fun obj s₁ => obj = .ref s.heap.objs.size ∧ s₁ = { s with heap := s.heap.push { cls := .type "set", dict := Option.none, data := .set #[] 0 (.fresh 0 0 (!w.params.followText "set-order")) } }) ⟨rfl, rfl⟩) fun r s₁ hr => ?_
  cases r with
  | error e => exact hr
  | ok fl =>
    cases fl with
    | ret obj =>
      (refine el_0_1 hr fun xEl0 xEl1 => ?_; try clear hr; obtain rfl := xEl0; obtain rfl := xEl1)
      have hT : Shared.TypeIs { s with heap := s.heap.push { cls := .type "set", dict := Option.none, data := .set #[] 0 (.fresh 0 0 (!w.params.followText "set-order")) } } (.ref s.heap.objs.size) "set" := (in_1_1 _ (Heap.get?_push_size _ rfl) rfl)
      have hli := F.called_set.init.lookup
      have hbi := F.called_set.init.bind (.ref s.heap.objs.size)
      repeat (any_goals (first | assumption | wp_step))
      refine codeAny_mono (codeAny_call_builtin (R := wants (fun r s₂ => r = .none ∧ R (.ref s.heap.objs.size) s₂) E) F.called_set.init.plain F.entry_set_init (check_set_init hT ?_)) fun r₂ s₂ hr₂ => ?_
      · unfold Builtin.«set.__init__» noKeywords
        wp_walk
        exact ⟨rfl, h⟩
      · cases r₂ with
        | error e => exact hr₂
        | ok fl₂ =>
          cases fl₂ with
          | ret v => (refine el_0_1 hr₂ fun xEl0 hq => ?_; try clear hr₂; obtain rfl := xEl0); first | exact hq | exact wpAny_pure hq | (repeat (any_goals (first | assumption | wp_step)))
          | _ => exact hr₂
    | _ => exact hr
theorem WCall.setNewP (h : ∀ a, st.H a = none → Q (.loc a) { st with H := hput st.H a (.set []) }) : WCall C (.type "set") [] [] [] st Q := fun I us vs' r1 r2 KF s S => by
  have := r1.nil_iff; subst this
  rw [zip_nil_left]
  refine setCalled_any ?_
  obtain ⟨hn, S'⟩ := S.newH (o := { cls := .type "set", dict := .none, data := .set #[] 0 (.fresh 0 0 (!C.w.params.followText "set-order")) }) (c := .set []) rfl
    (in_4_8 (#[]) 0 (.fresh 0 0 (!C.w.params.followText "set-order")) ([]) (in_0_2 rfl rfl rfl) rfl (fun v => .rfl) (fun v hv => by simp at hv) (Nat.le_refl _) (.nil) ⟨rfl, rfl, fun i j _ h => by simp [SetTable.fresh] at h, fun i h => by simp [SetTable.fresh] at h, (in_1_0 3 rfl), by show 0 * 5 < 7 * 3; (exact Nat.zero_lt_succ _), by show 7 ≤ 8 * 0 + 7; (exact Nat.le_add_left _ _)⟩ (fun h => by simp at h) (fun q => by show (!C.w.params.followText "set-order") = true; rw [q]; rfl))
  exact ⟨I, _, .refl I, S', .loc _, by simp [VR], h _ hn⟩
theorem WCall.setNewI (h : ∀ a, st.H a = none → Q (.loc a) { st with H := hput st.H a (.iset []) }) : WCall C (.type "set") [] [] [] st Q := fun I us vs' r1 r2 KF s S => by
  have := r1.nil_iff; subst this
  rw [zip_nil_left]
  refine call_set_0 fun led => ?_
  obtain ⟨hn, S'⟩ := S.newH (o := { cls := .type "set", dict := .none, data := .set #[] 0 (.fresh 0 0 led) }) (c := .iset []) rfl
    (in_3_6 (#[]) 0 (.fresh 0 0 led) (in_0_2 rfl rfl rfl) rfl (fun e he => by simp at he) (fun k => by simp) (by decide) (by rfl) rfl)
  exact ⟨I, _, .refl I, S', .loc _, by simp [VR], h _ hn⟩

theorem iset_of {s : Shared} {a : Addr} {vs : List Int} {o : Obj} (ho : s.heap.get? a = some o) (h : ISet C.prog C.w vs o) : s.heap.SetOf (intKind C.prog C.w) a (fun k => decide (k ∈ vs)) vs.length := by
  (refine el_3_6 h fun es ep t h1 h2 h3 h4 h5 h6 h7 => ?_; try clear h)
  exact (in_4_7 o es ep t ho h1 h2 h3 h4 h5 h6 h7)

theorem WCall.isetAdd {a : Addr} {vs : List Int} {k : Int} (hH : st.H a = some (.iset vs)) (hn : vs.length ≤ 900) (h : Q .none { st with H := hput st.H a (.iset (if k ∈ vs then vs else vs ++ [k])) }) :
    WCall C (.builtin "set.add") [.loc a, .int k] [] [] st Q := fun I us vs' r1 r2 KF s S => by
  (revert r1; intro hfEl; refine el_2_1 hfEl.uncons fun x us1 xEl2 rEl => ?_; try clear hfEl; obtain rfl := xEl2; (refine el_0_1 rEl fun ra r1 => ?_; try clear rEl))
  (revert r1; intro hfEl; refine el_2_1 hfEl.uncons fun y us2 xEl2 rEl => ?_; try clear hfEl; obtain rfl := xEl2; (refine el_0_1 rEl fun rp r1 => ?_; try clear rEl))
  have := r1.nil_iff; subst this
  rw [zip_nil_left]
  simp only [VR] at ra rp; subst ra
  (refine el_1_0 rp fun tk xEl1 => ?_; try clear rp; obtain rfl := xEl1)
  (refine el_0_2 (S.mu a _ hH) fun hi _ rEl => ?_; (refine el_1_1 rEl fun o ho hP => ?_; try clear rEl))
  refine call_set_add (knd := intKind C.prog C.w) (k := k) (by simp [intKind, Value.isInt]) rfl (iset_of ho hP) (by show _ < 4096; omega) fun h' hs hS => ?_
  (refine el_4_6 hS fun o' es ep t b1 b2 b3 b4 b5 b6 rEl => ?_; try clear hS; (refine el_0_1 rEl fun b7 b8 => ?_; try clear rEl))
  refine ⟨I, _, .refl I, S.setH (tk := s.toks + 1) (c := .iset (if k ∈ vs then vs else vs ++ [k])) hH (fun c o hc e => (hs.2 c hc).trans e) b1 (in_3_6 es ep t b2 b3 b4 (fun j => ?_) b6 b7 ?_), .none, by simp [VR], h⟩
  · rw [← b5 j]
    by_cases q : k ∈ vs <;> by_cases q2 : j = k <;> simp [q, q2]
  · rw [b8]; by_cases q : k ∈ vs <;> simp [q]

theorem W2.inISet {a : Addr} {vs : List Int} {k : Int} (hH : st.H a = some (.iset vs)) (h : Q (.bool (decide (k ∈ vs))) st) : W2 C (compareOp .In) (.int k) (.loc a) st Q := fun I v u r1 r2 KF s S => by
  simp only [VR] at r1 r2; subst r2
  (refine el_1_0 r1 fun tk xEl1 => ?_; try clear r1; obtain rfl := xEl1)
  (refine el_0_2 (S.mu a _ hH) fun hi _ rEl => ?_; (refine el_1_1 rEl fun o ho hP => ?_; try clear rEl))
  exact wpAny_inSet_of (knd := intKind C.prog C.w) (k := k) (by simp [intKind, Value.isInt]) rfl (iset_of ho hP) ⟨I, st, .refl I, S.toks _, .bool _, by simp [VR], h⟩
end
end Mine
open PySem PySem.W PySem.Calls PyProof.Rows
set_option Elab.async false
set_option linter.all false
set_option maxRecDepth 100000
set_option genSizeOf false
namespace Mine
open SetTable

theorem slot_set_iterator_next : Slot "set_iterator" "__next__" "set_iterator.__next__" :=
  .of (owner := "set_iterator") (n := "__next__") (by rw [typeLookup_type, builtinLookup_eq_fast]; kernel_rfl) (by decide +kernel) (by decide +kernel) (by decide +kernel) (.inl (by decide +kernel)) (by rw [isSubtype_type]; kernel_rfl)
theorem entry_set_iterator_next : entryFor table "set_iterator.__next__" = some Builtin.«set_iterator.__next__» := entryFor_of_tree (by kernel_rfl)
theorem owner_set_iterator : Manifest.owners.lookup (String.ofList ['r', 'o', 't', 'a', 'r', 'e', 't', 'i', '_', 't', 'e', 's'].reverse) = some Manifest.sig_set_iterator := by kernel_rfl
theorem args_set_iterator_next (a : Value) : argsOk "set_iterator.__next__" ⟨[a], []⟩ := by
  unfold argsOk; rw [signature?_of (id := "set_iterator.__next__") (n := ['_', '_', 't', 'x', 'e', 'n', '_', '_']) (o := ['r', 'o', 't', 'a', 'r', 'e', 't', 'i', '_', 't', 'e', 's']) (by kernel_rfl) owner_set_iterator]; kernel_rfl
theorem entry_set_iter : entryFor table "set.__iter__" = some Builtin.«frozenset.__iter__» := entryFor_alias (id' := "frozenset.__iter__") (by kernel_rfl) rfl (by decide +kernel) (by kernel_rfl)

theorem erase_perm {α : Type} : ∀ (l : List α) (i : Nat) (h : i < l.length), (l[i] :: l.eraseIdx i).Perm l
  | [], i, h => by simp at h
  | x :: l, 0, h => .refl _
  | x :: l, i + 1, h => by
    have := erase_perm l i (by simpa using h)
    simp only [List.getElem_cons_succ, List.eraseIdx_cons_succ]
    exact (List.Perm.swap _ _ _).trans (this.cons x)
theorem pick_perm {α : Type} (next : Nat → Nat) : ∀ (fuel k : Nat) (left : List α) (out : Array α), left.length ≤ fuel → (pickOrder.go next fuel k left out).toList.Perm (out.toList ++ left)
  | 0, k, left, out, h => by
    have : left = [] := by cases left with | nil => rfl | cons _ _ => simp at h
    subst this; unfold pickOrder.go; simp
  | fuel + 1, k, left, out, h => by
    unfold pickOrder.go
    cases e : left[next k % left.length]? with
    | none =>
      dsimp only
      have : left = [] := by
        cases left with
        | nil => rfl
        | cons x l =>
          have hlt : next k % (x :: l).length < (x :: l).length := Nat.mod_lt _ (by simp)
          rw [List.getElem?_eq_getElem hlt] at e; cases e
      subst this; simp
    | some x =>
      dsimp only
      (refine el_1_0 (List.getElem?_eq_some_iff.mp e) fun hlt hx => ?_)
      refine (pick_perm next fuel (k + 1) _ _ (by rw [List.length_eraseIdx_of_lt hlt]; (exact Nat.sub_le_of_le_add (by assumption)))).trans ?_
      rw [Array.toList_push, List.append_assoc]
      refine List.Perm.append_left _ ?_
      have : left.Perm (x :: left.eraseIdx (next k % left.length)) := by
        rw [← hx]; exact (erase_perm _ _ hlt).symm
      exact this.symm
theorem pickOrder_perm {α : Type} (next : Nat → Nat) (xs : Array α) : (pickOrder next xs).toList.Perm xs.toList := by
  unfold pickOrder
  have := pick_perm next xs.size 0 xs.toList #[] (by simp)
  simpa using this

section
variable {prog : Program} {w : World} {A : Around} {E : Value → Shared → Prop} {s : Shared} {I : IM}
theorem wpAny_choose {M : Model} {src : Source} {n : Nat} {Q : Nat → Shared → Prop} (hn : n ≠ 0) (h : ∀ i d, i < n → Q i { s with drawn := d }) : wpAny M A (choose src n) Q E s := fun Γ p _ => by
  show Sem.wp M Γ (Sem.choose src n Sem.pure) _ _ p s
  rw [Sem.wp_choose]
  exact ⟨hn, h _ _ (Nat.mod_lt _ (Nat.pos_of_ne_zero hn))⟩
theorem drawOrder_any {M : Model} {α : Type} : ∀ (n : Nat) (xs : List α) (s : Shared) (Q : List α → Shared → Prop), xs.length = n → (∀ l d, l.Perm xs → Q l { s with drawn := d }) → wpAny M A (drawOrder n xs) Q E s
  | 0, xs, s, Q, hn, h => by
    have : xs = [] := by cases xs with | nil => rfl | cons _ _ => simp at hn
    subst this
    unfold drawOrder
    exact wpAny_pure (h [] s.drawn (.refl _))
  | n + 1, [], s, Q, hn, h => by simp at hn
  | n + 1, x :: xs, s, Q, hn, h => by
    unfold drawOrder
    refine wpAny_bind (wpAny_choose (by simp) fun i d hi => ?_)
    have hlt : i < (x :: xs).length := hi
    rw [List.getElem?_eq_getElem hlt]
    dsimp only
    refine wpAny_bind (drawOrder_any n _ _ _ (by rw [List.length_eraseIdx_of_lt hlt, hn]; rfl) fun l d' hl => ?_)
    exact wpAny_pure (h _ d' ((hl.cons _).trans (erase_perm _ _ hlt)))

/-- the end of a walk over a set -/
theorem stop_any {it : Addr} {o : Obj} {vs : Array Value} {k : Nat} {Q : Option Value → Shared → Prop} (hA : A.handled = none) (ho : s.heap.get? it = some o) (hc : o.cls = .type "set_iterator") (hd : o.data = .fields vs) (hk : k < vs.size)
    (hQ : ∀ h', Heap.ExtBut it s.heap h' → Q none { s with heap := h' }) :
    wpAny (model prog w) A.in1 (do setField (.ref it) k .none; raiseNew (← newExc (.type "StopIteration") [])) (fun fin s' => ∃ v, fin = Fin.done (.ret v) ∧ Q (some v) s') (fun e s' => wpAny (model prog w) A (do if ← isInstance e (.type "StopIteration") then pure none else throw e) Q E s') s := by
  refine wpAny_bind (wpAny_setField ho hd hk ?_)
  refine wpAny_bind ?_
  simp only [newExc, newTuple]
  refine wpAny_bind (wpAny_newObj_type ?_ (by size_fits))
  refine wpAny_bind (m := firstArgMember _ _) (wpAny_of_eq (a := Value.none) (by first | rfl | (simp only [firstArgMember]; rfl)) ?_)
  refine wpAny_newObj_type ?_ (by size_fits)
  simp only [raiseNew]
  refine wpAny_bind (wpAny_handled ?_)
  first | rw [show A.in1.handled = none from hA] | rw [hA]
  refine wpAny_bind (wpAny_pure (wpAny_throw ?_))
  refine wpAny_bind (wpAny_isInstance (T := "StopIteration") (b := true) (in_1_1 _ (Heap.get?_push_size _ rfl) rfl) isSubtype_stop ?_)
  exact wpAny_pure (hQ _ (((Heap.SameBut.update ..).extBut.push _).push _))
end
end Mine
open PySem PySem.W PySem.Calls PyProof.Rows
set_option Elab.async false
set_option linter.all false
set_option maxRecDepth 100000
set_option genSizeOf false
namespace Mine
open SetTable

/-- the walk over a set, by whichever first field -/
noncomputable def SIt (h : Heap) (it : Addr) (first : Value) (i : Nat) (a : Addr) (n ep : Nat) : Prop := ∃ o, h.get? it = some o ∧ o.cls = .type "set_iterator" ∧ o.data = .fields #[first, .int i 0, .ref a, .int n 0, .int ep 0]

section
variable {prog : Program} {w : World} {A : Around} {E : Value → Shared → Prop} {s : Shared} {I : IM}

theorem SIt.typeIs {it first i a n ep} (h : SIt s.heap it first i a n ep) : s.TypeIs (.ref it) "set_iterator" := let ⟨o, a, b, _⟩ := h; (in_1_1 o a b)

theorem head_any {it : Addr} {first : Value} {i n ep : Nat} {a : Addr} {oa : Obj} {es : Array (Int × Value)} {t : SetTable} {Q : Option Value → Shared → Prop} (hi : SIt s.heap it first i a n ep) (hoa : s.heap.get? a = some oa) (hda : oa.data = .set es ep t) (hf : t.fits es.size = true) (hn : es.size = n)
    (h : wpAny (model prog w) A.in1 (if let .int slot _ := first then (do
    match ← setNext a slot.toNat i ep with
    | some (x, next) =>
      setField (.ref it) 0 (rawInt next)
      setField (.ref it) 1 (rawInt (i + 1))
      ret x
    | none => setField (.ref it) 2 .none; raiseNew (← newExc (.type "StopIteration") []))
  else (do
    let some places ← seqItems? first | unsupported "internal:set_iterator"
    match places[i]? with
    | some (.int place _) =>
      let x ← setNextDrawn a place.toNat ep
      setField (.ref it) 1 (rawInt (i + 1))
      ret x
    | some _ => unsupported "internal:set_iterator"
    | none => setField (.ref it) 0 (rawInt 0); setField (.ref it) 2 .none; raiseNew (← newExc (.type "StopIteration") []))) (fun fin s' => ∃ v, fin = Fin.done (.ret v) ∧ Q (some v) s') (fun e s' => wpAny (model prog w) A (do if ← isInstance e (.type "StopIteration") then pure none else throw e) Q E s') s) :
    wpAny (model prog w) A (pyNext (.ref it)) Q E s := by
  (refine el_1_2 (id hi) fun o ho hc hd => ?_)
  unfold pyNext
  refine wpAny_bind (wpAny_attempt (wpAny_callSpecial?_slot (name := Str.ofString "__next__") hi.typeIs slot_set_iterator_next
    (wpAny_call_entry slot_set_iterator_next hi.typeIs entry_set_iterator_next ?_ (args_set_iterator_next _))))
  unfold Builtin.«set_iterator.__next__»
  show wpAny _ _ (fieldsOf (.ref it) >>= _) _ _ s
  refine wpAny_bind (wpAny_fieldsOf ho hd ?_)
  dsimp only
  refine wpAny_bind (wpAny_setEntries_of hoa hda hf ?_)
  have e : (((es.size : Nat) : Int) != (n : Int)) = false := by rw [hn]; simp
  rw [e]
  simp only [Bool.false_eq_true, if_false, Int.toNat_natCast]
  refine wpAny_mono h ?_ fun _ _ x => x
  intro fin s' hEl
  (refine el_1_1 hEl fun v xEl1 q => ?_; try clear hEl; obtain rfl := xEl1)
  exact (in_1_1 v rfl (wpAny_pure q))

theorem SIt.set {h : Heap} {it : Addr} {first : Value} {i n ep : Nat} {a : Addr} (hi : SIt h it first i a n ep) : SIt (h.update it (Obj.mapFields (·.setIfInBounds 1 (rawInt ((i : Int) + 1))))) it first (i + 1) a n ep := by
  (refine el_1_2 hi fun o ho hc hd => ?_; try clear hi)
  exact (in_1_2 _ (Heap.get?_update_self _ ho (Obj.isFreed_of_fields (Obj.data_mapFields hd _))) ((Obj.cls_mapFields ..).trans hc) (by rw [Obj.data_mapFields hd]; rfl))
theorem SIt.set0 {h : Heap} {it : Addr} {first : Value} {i n ep nx : Nat} {a : Addr} (hi : SIt h it first i a n ep) : SIt (h.update it (Obj.mapFields (·.setIfInBounds 0 (rawInt (nx : Int))))) it (.int nx 0) i a n ep := by
  (refine el_1_2 hi fun o ho hc hd => ?_; try clear hi)
  exact (in_1_2 _ (Heap.get?_update_self _ ho (Obj.isFreed_of_fields (Obj.data_mapFields hd _))) ((Obj.cls_mapFields ..).trans hc) (by rw [Obj.data_mapFields hd]; rfl))

/-- a walk over clean values, with an object that is kept beside it -/
structure Walk2 (prog : Program) (w : World) (xs : List CV) (it l : Addr) (D : Nat → IM → Heap → Prop) : Prop where
  item : ∀ (A : Around) (J : IM) (s : Shared) (i : Nat) (c : CV) (E : Value → Shared → Prop) (Q : Option Value → Shared → Prop), (∀ a o, J a = some o → s.heap.get? a = some o) → D i J s.heap → xs[i]? = some c →
    (∀ h' tk v, D (i + 1) J h' → VR J c v → (∀ b o, b ≠ it → s.heap.get? b = some o → h'.get? b = some o) → (∃ o, h'.get? it = some o) → Q (some v) { s with heap := h', toks := tk }) → wpAny (model prog w) A (pyNext (.ref it)) Q E s
  fin : ∀ (A : Around) (J : IM) (s : Shared) (E : Value → Shared → Prop) (Q : Option Value → Shared → Prop), A.handled = none → (∀ a o, J a = some o → s.heap.get? a = some o) → D xs.length J s.heap →
    (∀ h' tk, (∀ b o, b ≠ it → s.heap.get? b = some o → h'.get? b = some o) → Q none { s with heap := h', toks := tk }) → wpAny (model prog w) A (pyNext (.ref it)) Q E s
  frame : ∀ (J J' : IM) (h h' : Heap) (i : Nat), D i J h → ILe J J' → (∀ o, h.get? it = some o → h'.get? it = some o) → (∀ o, h.get? l = some o → h'.get? l = some o) → (∀ a o, J a = some o → h.get? a = some o → h'.get? a = some o) → D i J' h'
  cls : ∀ (J : IM) (h : Heap) (i : Nat), D i J h → ∃ o n, h.get? it = some o ∧ o.cls = .type n ∧ (["enumerate", "zip", "dict_itemiterator", "dict_reverseitemiterator", "odict_iterator", "itertools.zip_longest", "itertools.pairwise"].contains n) = false

theorem walk2_int {it a : Addr} {oa : Obj} {es : Array (Int × Value)} {t : SetTable} {n ep : Nat} {slot : Nat → Nat} {xs : List CV} {vals : List Value} (hne : it ≠ a) (hda : oa.data = .set es ep t) (hf : t.fits es.size = true) (hn : es.size = n) 
    (hstep : ∀ (A : Around) (s : Shared) (i : Nat) (x : Value) (E : Value → Shared → Prop) (Q : Option (Value × Nat) → Shared → Prop), s.heap.get? a = some oa → vals[i]? = some x → Q (some (x, slot (i + 1))) s → wpAny (model prog w) A (setNext a (slot i) i ep) Q E s)
    (hend : ∀ (A : Around) (s : Shared) (E : Value → Shared → Prop) (Q : Option (Value × Nat) → Shared → Prop), s.heap.get? a = some oa → Q none s → wpAny (model prog w) A (setNext a (slot vals.length) vals.length ep) Q E s) :
    Walk2 prog w xs it a (fun i J h => SIt h it (.int (slot i) 0) i a n ep ∧ h.get? a = some oa ∧ VRs J xs vals) := by
  refine ⟨fun A J s i c E Q S ⟨h1, h2, h3⟩ hc k => ?_, fun A J s E Q hA S ⟨h1, h2, h3⟩ k => ?_, fun J J' h h' i ⟨h1, h2, h3⟩ l k1 k2 k3 => ?_, fun J h i ⟨⟨o, h1, h2, _⟩, _⟩ => (in_2_2 o _ h1 h2 (by decide +kernel))⟩
  · (refine el_1_1 (h3.get hc) fun v hv hr => ?_)
    refine head_any h1 h2 hda hf hn ?_
    dsimp only
    simp only [Int.toNat_natCast]
    refine wpAny_bind (hstep _ _ _ _ _ _ h2 hv ?_)
    dsimp only
    (refine el_1_2 (id h1) fun o ho hc' hd => ?_)
    refine wpAny_bind (wpAny_setField ho hd (by simp) ?_)
    have g1 := h1.set0 (nx := slot (i + 1))
    (refine el_1_2 (id g1) fun o1 ho1 hc1 hd1 => ?_)
    refine wpAny_bind (wpAny_setField (s := { s with heap := _ }) ho1 hd1 (by simp) ?_)
    refine wpAny_pure (in_1_1 v rfl ?_)
    have sb := (Heap.SameBut.update s.heap it (Obj.mapFields (·.setIfInBounds 0 (rawInt (slot (i + 1) : Int))))).trans (Heap.SameBut.update _ it (Obj.mapFields (·.setIfInBounds 1 (rawInt ((i : Int) + 1)))))
    exact k _ s.toks v (in_0_2 g1.set ((sb.2 a (Ne.symm hne)).trans h2) h3) hr (fun b o hb e => (sb.2 b hb).trans e) (let ⟨o, ho, _⟩ := g1.set; (in_1_0 o ho))
  · refine head_any h1 h2 hda hf hn ?_
    dsimp only
    simp only [Int.toNat_natCast]
    have e : xs.length = vals.length := h3.length
    rw [e]
    refine wpAny_bind (hend _ _ _ _ h2 ?_)
    dsimp only
    (refine el_1_2 (id h1) fun o ho hc' hd => ?_)
    exact stop_any hA ho hc' hd (by simp) fun h' he => k h' s.toks fun b o hb e => he b o hb e
  · (refine el_1_2 h1 fun o a1 a2 a3 => ?_; try clear h1)
    exact (in_0_2 (in_1_2 o (k1 o a1) a2 a3) (k2 _ h2) (VRs.mono l _ _ h3))

theorem walk2_drawn {it a tp : Addr} {oa : Obj} {es : Array (Int × Value)} {t : SetTable} {n ep m : Nat} {ps : List Nat} {xs : List CV} {vals : List Value} (hne : it ≠ a) (hda : oa.data = .set es ep t) (hf : t.fits es.size = true) (hn : es.size = n)
    (hps : ∀ (i : Nat) (x : Value), vals[i]? = some x → ∃ p hh, ps[i]? = some p ∧ es[p]? = some (hh, x)) (hlen : ps.length = vals.length) :
    Walk2 prog w xs it a (fun i J h => SIt h it (.ref tp) i a n ep ∧ h.get? a = some oa ∧ VRs J xs vals ∧ J tp = some ⟨.type "tuple", .none, .seq (ps.map fun (j : Nat) => rawInt (j : Int)).toArray m, #[]⟩) := by
  refine ⟨fun A J s i c E Q S ⟨h1, h2, h3, h4⟩ hc k => ?_, fun A J s E Q hA S ⟨h1, h2, h3, h4⟩ k => ?_, fun J J' h h' i ⟨h1, h2, h3, h4⟩ l k1 k2 k3 => ?_, fun J h i ⟨⟨o, h1, h2, _⟩, _⟩ => (in_2_2 o _ h1 h2 (by decide +kernel))⟩
  · (refine el_1_1 (h3.get hc) fun v hv hr => ?_)
    (refine el_2_1 (hps i v hv) fun p hh hp1 hp2 => ?_)
    refine head_any h1 h2 hda hf hn ?_
    dsimp only
    refine wpAny_bind (wpAny_seqItems (S _ _ h4) rfl ?_)
    dsimp only
    have e1 : (ps.map fun (j : Nat) => rawInt (j : Int)).toArray[i]? = some (.int p 0) := by simp [hp1, rawInt]
    rw [e1]
    dsimp only
    refine wpAny_bind ?_
    unfold setNextDrawn
    refine wpAny_bind (wpAny_setState_of h2 hda hf ?_)
    dsimp only
    rw [if_neg (by simp), Int.toNat_natCast, hp2]
    refine wpAny_pure ?_
    (refine el_1_2 (id h1) fun o ho hc' hd => ?_)
    refine wpAny_bind (wpAny_setField ho hd (by simp) ?_)
    refine wpAny_pure (in_1_1 v rfl ?_)
    have sb := (Heap.SameBut.update s.heap it (Obj.mapFields (·.setIfInBounds 1 (rawInt ((i : Int) + 1)))))
    exact k _ s.toks v (in_0_3 h1.set ((sb.2 a (Ne.symm hne)).trans h2) h3 h4) hr (fun b o hb e => (sb.2 b hb).trans e) (let ⟨o, ho, _⟩ := h1.set; (in_1_0 o ho))
  · refine head_any h1 h2 hda hf hn ?_
    dsimp only
    refine wpAny_bind (wpAny_seqItems (S _ _ h4) rfl ?_)
    dsimp only
    have e : xs.length = vals.length := h3.length
    have e1 : (ps.map fun (j : Nat) => rawInt (j : Int)).toArray[xs.length]? = none := by simp; omega
    rw [e1]
    dsimp only
    (refine el_1_2 (id h1) fun o ho hc' hd => ?_)
    refine wpAny_bind (wpAny_setField ho hd (by simp) ?_)
    (refine el_1_2 (h1.set0 (nx := 0)) fun o1 ho1 hc1 hd1 => ?_)
    have sb := (Heap.SameBut.update s.heap it (Obj.mapFields (·.setIfInBounds 0 (rawInt ((0 : Nat) : Int)))))
    exact stop_any (s := { s with heap := _ }) hA ho1 hc1 hd1 (by simp) fun h' he => k h' s.toks fun b o hb e => he b o hb ((sb.2 b hb).trans e)
  · (refine el_1_2 h1 fun o a1 a2 a3 => ?_; try clear h1)
    exact (in_0_3 (in_1_2 o (k1 o a1) a2 a3) (k2 _ h2) (VRs.mono l _ _ h3) (l _ _ h4))
end
end Mine
open PySem PySem.W PySem.Calls PyProof.Rows
set_option Elab.async false
set_option linter.all false
set_option maxRecDepth 100000
set_option genSizeOf false
namespace Mine
open SetTable

section
variable {C : Cx} {dep : Nat} {KF I : IM} {st : CSt} {s : Shared}

theorem setNext_text {prog : Program} {w : World} {A : Around} {s : Shared} {E : Value → Shared → Prop} {a : Addr} {oa : Obj} {es : Array (Int × Value)} {ep slot i : Nat} {t : SetTable} {Q : Option (Value × Nat) → Shared → Prop} (hb : w.params.followText "set-order" = true)
    (ho : s.heap.get? a = some oa) (hd : oa.data = .set es ep t) (hf : t.fits es.size = true) (h : Q ((((pickOrder (w.params.setOrder a ep) es)[i]?).map fun e => (e.2, slot))) s) : wpAny (model prog w) A (setNext a slot i ep) Q E s := by
  unfold setNext
  refine wpAny_bind (wpAny_setState_of ho hd hf ?_)
  dsimp only
  unfold setsByText
  refine wpAny_bind (wpAny_bind (wpAny_askSetting (wpAny_pure ?_)))
  show wpAny _ _ (if w.params.followText "set-order" = true then _ else _) _ _ _
  rw [if_pos hb]
  rw [if_neg (by simp)]
  unfold setWalk
  refine wpAny_bind (wpAny_bind (wpAny_setState_of ho hd hf ?_))
  dsimp only
  unfold setsByText
  refine wpAny_bind (wpAny_bind (wpAny_askSetting (wpAny_pure ?_)))
  show wpAny _ _ (if w.params.followText "set-order" = true then _ else _) _ _ _
  rw [if_pos hb]
  exact wpAny_bind (wpAny_askSetting (wpAny_pure (wpAny_pure h)))
theorem setNext_one {prog : Program} {w : World} {A : Around} {s : Shared} {E : Value → Shared → Prop} {a : Addr} {oa : Obj} {es : Array (Int × Value)} {ep slot i : Nat} {t : SetTable} {Q : Option (Value × Nat) → Shared → Prop} (hb : w.params.followText "set-order" = false)
    (ho : s.heap.get? a = some oa) (hd : oa.data = .set es ep t) (hf : t.fits es.size = true) (hs : es.size ≤ 1) (hl : t.led = true) (h : Q (match es[below t.place slot]?, t.place[below t.place slot]? with | some (_, x), some j => some (x, j + 1) | _, _ => none) s) : wpAny (model prog w) A (setNext a slot i ep) Q E s := by
  unfold setNext
  refine wpAny_bind (wpAny_setState_of ho hd hf ?_)
  dsimp only
  unfold setsByText
  refine wpAny_bind (wpAny_bind (wpAny_askSetting (wpAny_pure ?_)))
  show wpAny _ _ (if w.params.followText "set-order" = true then _ else _) _ _ _
  rw [if_neg (by rw [hb]; decide)]
  show wpAny _ _ (if (!t.plain && decide (es.size > 1)) = true then _ else _) _ _ _
  have e1 : (!t.plain && decide (es.size > 1)) = false := by rw [decide_eq_false (by (exact Nat.not_lt_of_le (by assumption)))]; simp
  rw [e1, if_neg (by decide)]
  refine wpAny_bind ?_
  show wpAny _ _ (if (!t.led && !es.isEmpty) = true then unsupported _ else pure ()) _ _ _
  rw [hl, if_neg (by simp)]
  exact wpAny_pure (wpAny_pure h)

theorem iter_pairs {A : Around} {a : Addr} {vs : List (List Str × Int)} {oa : Obj} {E : Value → Shared → Prop} {Q : Value → Shared → Prop} (S : SR C KF I st s) (hH : st.H a = some (.set vs)) (hoa : s.heap.get? a = some oa) (hn : vs.length ≤ 1000)
    (k : ∀ J h' d it (us : List (List Str × Int)) D, ILe I J → SR C KF J st { s with heap := h', drawn := d } → (∀ v, v ∈ us ↔ v ∈ vs) → Walk2 C.prog C.w (us.map pcv) it a D → D 0 J h' → (J it = none ∧ KF it = none ∧ st.H it = none ∧ ¬ C.Own it) → (∃ o, h'.get? it = some o) → h'.get? a = some oa → Q (.ref it) { s with heap := h', drawn := d }) :
    wpAny (model C.prog C.w) A (pyIter (.ref a)) Q E s := by
  (refine el_0_2 (S.mu a _ hH) fun hia _ rEl => ?_; (refine el_1_1 rEl fun o ho hP => ?_; try clear rEl))
  rw [hoa] at ho; cases ho
  (refine el_4_6 hP fun es ep t us hex hd hmem hok hlen hus rEl => ?_; try clear hP; (refine el_0_2 rEl fun hT hpl hled => ?_; try clear rEl))
  have hT' : s.TypeIs (.ref a) "set" := (in_1_1 oa hoa hex.1)
  have hf := hT.fits
  have hnes : es.size = us.length := by have := hus.length; simp at this; exact this.symm
  refine wpAny_pyIter_slot hT' F.slot_set_iter (wpAny_call_entry F.slot_set_iter hT' entry_set_iter ?_ (F.args_set_iter_1 _))
  unfold Builtin.«frozenset.__iter__» Builtin.Frozenset.slot0
  simp only [List.isEmpty_nil, bind_assoc]
  unfold Builtin.Frozenset.addrOf Builtin.Frozenset.sizeOf
  refine wpAny_bind (wpAny_pure ?_)
  try dsimp only
  refine wpAny_bind (wpAny_pure ?_)
  try dsimp only
  refine wpAny_bind (wpAny_bind (wpAny_setEntries_of hoa hd hf (wpAny_pure ?_)))
  refine wpAny_bind ?_
  unfold setDrawn
  refine wpAny_bind (wpAny_setState_of hoa hd hf ?_)
  dsimp only
  unfold setsByText
  refine wpAny_bind (wpAny_bind (wpAny_askSetting (wpAny_pure ?_)))
  refine wpAny_pure ?_
  -- from the first field on
  have fin : ∀ (J : IM) (h1 : Heap) (d1 : Drawn) (first : Value) (ws : List (List Str × Int)) (D : Addr → Nat → IM → Heap → Prop), ILe I J → SR C KF J st { s with heap := h1, drawn := d1 } → h1.get? a = some oa → (∀ v, v ∈ ws ↔ v ∈ vs) →
      (∀ it, it ≠ a → Walk2 C.prog C.w (ws.map pcv) it a (D it)) → (∀ h2, (∀ b o, h1.get? b = some o → h2.get? b = some o) → SIt h2 h1.objs.size first 0 a es.size ep → D h1.objs.size 0 J h2) → 
      wpAny (model C.prog C.w) A.in1 (do
        let e ← setEpoch a
        let f ← newFields "set_iterator" [first, rawInt 0, .ref a, rawInt es.size, rawInt e]
        ret f) (fun fin s' => ∃ v, fin = Fin.done (Flow.ret v) ∧ ∃ T' r, s'.TypeIs v T' ∧ typeLookup (.type T') (Str.ofString "__next__") = pure (some r) ∧ Q v s') E { s with heap := h1, drawn := d1 } := by
    intro J h1 d1 first ws D l S1 h1a hws hW hD
    refine wpAny_bind (wpAny_setEpoch_of (s := { s with heap := h1, drawn := d1 }) h1a hd hf ?_)
    refine wpAny_bind (wpAny_newObj_type ?_ (by size_fits))
    refine wpAny_pure (in_1_1 _ rfl (in_2_2 ("set_iterator") _ (in_1_1 _ (Heap.get?_push_size _ rfl) rfl) slot_set_iterator_next.lookup ?_))
    have hg := Heap.get?_push_size h1 (o := { cls := .type "set_iterator", data := .fields #[first, rawInt 0, .ref a, rawInt (es.size : Int), rawInt (ep : Int)] }) rfl
    have hne : h1.objs.size ≠ a := Nat.ne_of_gt (Heap.lt_size h1a)
    exact k J _ d1 _ ws (D h1.objs.size) l (S1.push _) hws (hW _ hne) (hD _ (fun b o e => Heap.get?_push_of_some _ e) (in_1_2 _ hg rfl rfl)) S1.fresh' (in_1_0 _ hg) (Heap.get?_push_of_some _ h1a)
  show wpAny _ _ (if (!C.w.params.followText "set-order" && (!t.plain && decide (es.size > 1))) = true then _ else _) _ _ _
  have hs : s = { s with heap := s.heap, drawn := s.drawn } := rfl
  cases hb : C.w.params.followText "set-order" with
  | true =>
    rw [if_neg (by simp)]
    refine wpAny_bind (wpAny_pure ?_)
    have hp := pickOrder_perm (C.w.params.setOrder a ep) es
    (refine el_1_1 (perm_pcv (hp.map (·.2)).symm hus) fun ws hw1 hw2 => ?_)
    refine fin I s.heap s.drawn _ ws _ (.refl I) S hoa (fun v => hw1.mem_iff.trans (hmem v)) (fun it hne => walk2_int (xs := ws.map pcv) (slot := fun _ => 0) (vals := (pickOrder (C.w.params.setOrder a ep) es).toList.map (·.2)) hne hd hf rfl ?_ ?_) ?_
    · intro A' s' i x E' Q' h1 h2 h3
      refine setNext_text hb h1 hd hf ?_
      have : (pickOrder (C.w.params.setOrder a ep) es)[i]?.map (fun e => (e.2, 0)) = some (x, 0) := by
        simp at h2
        (revert h2; intro hfEl; refine el_1_0 hfEl fun y h2 => ?_; try clear hfEl)
        simp [h2]
      rw [this]; exact h3
    · intro A' s' E' Q' h1 h3
      refine setNext_text hb h1 hd hf ?_
      have : (pickOrder (C.w.params.setOrder a ep) es)[((pickOrder (C.w.params.setOrder a ep) es).toList.map (·.2)).length]?.map (fun e => (e.2, 0)) = none := by simp
      rw [this]; exact h3
    · intro h2 hk hS
      exact (in_0_2 hS (hk _ _ hoa) hw2)
  | false =>
    by_cases hsz : es.size ≤ 1
    · rw [if_neg (by simp; intro _; omega +splitDisjunctions)]
      refine wpAny_bind (wpAny_pure ?_)
      have hl := hled hb
      have hbel : ∀ j, es.size = 1 → below t.place j = if t.place.getD 0 0 < j then 1 else 0 := by
        intro j h1
        (refine el_0_2 (below_spec hT.rise j) fun a1 a2 a3 => ?_)
        rw [hT.size, h1] at a1
        rw [hT.size, h1] at a3
        split
        · rename_i q
          by_cases hz : below t.place j = 0
          · have := a3 0 (by (exact Nat.le_of_eq (by assumption))) (by (exact Nat.zero_lt_succ _)); (exact absurd (by assumption) (Nat.not_lt_of_le (by assumption)))
          · omega
        · rename_i q
          by_cases hz : below t.place j = 0
          · exact hz
          · have := a2 0 (by (exact Nat.pos_of_ne_zero (by assumption))); contradiction
      refine fin I s.heap s.drawn _ us _ (.refl I) S hoa hmem (fun it hne => walk2_int (xs := us.map pcv) (slot := fun i => if i = 0 then 0 else t.place.getD 0 0 + 1) (vals := es.toList.map (·.2)) hne hd hf rfl ?_ ?_) ?_
      · intro A' s' i x E' Q' h1 h2 h3
        have hi : i < es.size := by
          have := (List.getElem?_eq_some_iff.mp h2).1
          simpa using this
        have hi0 : i = 0 := by omega
        subst hi0
        refine setNext_one hb h1 hd hf hsz hl ?_
        have h1' : es.size = 1 := by (exact (Nat.le_antisymm (by assumption) (by assumption)))
        simp only [if_true]
        rw [hbel 0 h1', if_neg (by omega +splitDisjunctions)]
        have hpl0 : t.place[0]? = some (t.place.getD 0 0) := getD_eq (by rw [hT.size]; omega +splitDisjunctions)
        simp at h2
        (revert h2; intro hfEl; refine el_1_0 hfEl fun y h2 => ?_; try clear hfEl)
        rw [h2, hpl0]
        simpa using h3
      · intro A' s' E' Q' h1 h3
        refine setNext_one hb h1 hd hf hsz hl ?_
        have : es[below t.place (if (es.toList.map (·.2)).length = 0 then 0 else t.place.getD 0 0 + 1)]? = none := by
          simp only [List.length_map, Array.length_toList]
          by_cases h0 : es.size = 0
          · rw [Array.getElem?_eq_none]; omega +splitDisjunctions
          · rw [if_neg h0, hbel _ (by omega), if_pos (by omega +splitDisjunctions), Array.getElem?_eq_none]; omega +splitDisjunctions
        rw [this]; exact h3
      · intro h2 hk hS
        exact (in_0_2 hS (hk _ _ hoa) hus)
    · have hpl' := hpl (by omega)
      rw [if_pos (by simp [hpl']; (exact Nat.lt_of_not_le (by assumption)))]
      refine wpAny_bind (drawOrder_any _ _ _ _ (by simp) fun l d hl => ?_)
      refine wpAny_bind (wpAny_newObj_type ?_ (by show (l.map _).toArray.size ≤ sizeLine; rw [sizeLine_eq]; have := hl.length_eq; simp at this ⊢; omega))
      have Sd := S.draw d
      (refine el_0_1 (Sd.newI (o := { cls := .type "tuple", dict := none, data := .seq (l.map fun (j : Nat) => rawInt (j : Int)).toArray }) rfl) fun lJ SJ => ?_)
      have hp : (l.filterMap (es[·]?)).Perm es.toList := by
        have := order_perm (es := es) (order := l.toArray) (by simpa using hl)
        simpa using this
      (refine el_1_1 (perm_pcv (hp.map (·.2)).symm hus) fun ws hw1 hw2 => ?_)
      have hall : ∀ (l : List Nat), (∀ j ∈ l, j < es.size) → (l.filterMap (es[·]?)).length = l.length ∧ ∀ (i : Nat) (x : Value), ((l.filterMap (es[·]?)).map (·.2))[i]? = some x → ∃ p hh, l[i]? = some p ∧ es[p]? = some (hh, x) := by
        intro l
        induction l with
        | nil => intro _; exact ⟨rfl, fun i x h => by simp at h⟩
        | cons j l ih =>
          intro hj
          (refine el_0_1 (ih fun j hj' => hj j (List.mem_cons_of_mem _ hj')) fun i1 i2 => ?_)
          have hjl : j < es.size := hj j List.mem_cons_self
          have hjs : es[j]? = some es[j] := by simp [hjl]
          rw [List.filterMap_cons, hjs]
          refine ⟨by simp [i1], fun i x h => ?_⟩
          cases i with
          | zero => simp at h; exact (in_2_1 j (es[j].1) (by rfl) (by rw [hjs, ← h]))
          | succ i => simp only [List.map_cons, List.getElem?_cons_succ] at h ⊢; exact i2 i x h
      (refine el_0_1 (hall l fun j hj => by have := hl.mem_iff.mp hj; simpa using this) fun hall1 hall2 => ?_)
      refine fin _ _ d _ ws _ lJ SJ (Heap.get?_push_of_some _ hoa) (fun v => hw1.mem_iff.trans (hmem v)) (fun it hne => walk2_drawn (tp := s.heap.objs.size) (m := 0) (ps := l) (xs := ws.map pcv) (vals := (l.filterMap (es[·]?)).map (·.2)) hne hd hf rfl hall2 (by simp [hall1])) ?_
      intro h2 hk hS
      exact (in_0_3 hS (hk _ _ (Heap.get?_push_of_some _ hoa)) (VRs.mono lJ _ _ hw2) (by simp))
end
end Mine
open PySem PySem.W PySem.Calls PyProof.Rows
set_option Elab.async false
set_option linter.all false
set_option maxRecDepth 100000
set_option genSizeOf false
namespace Mine

section
variable {C : Cx} {dep : Nat} {KF I : IM} {st : CSt} {s : Shared}

theorem ownedGo2_W {A : Around} {M : Model} {xs : List CV} {it l : Addr} {D} (W : Walk2 C.prog C.w xs it l D) {i : Nat} {J : IM} {t : Expr} {v : Value} {E : Value → Shared → Prop} {Q : Unit → Shared → Prop} (hD : D i J s.heap) (h : Q () s) : wpAny M A (letOwnedTupleGo t (.ref it) v) Q E s := by
  (refine el_2_2 (W.cls J s.heap i hD) fun o n ho hc hn => ?_)
  have main : wpAny M A (do
      let (.ref r, .ref a) := (Value.ref it, v) | return
      let o ← load r
      match o.cls, o.data with
      | .type n, .fields vs =>
        if ["enumerate", "zip", "dict_itemiterator", "dict_reverseitemiterator", "odict_iterator", "itertools.zip_longest", "itertools.pairwise"].contains n && vs[0]? == some (rawInt a) then
          rule "for.unpacks-the-owned-tuple"
          updateField r 0 .none
      | _, _ => pure ()) Q E s := by
    cases v with
    | ref a =>
      refine wpAny_bind (wpAny_load ho ?_)
      rw [hc]
      cases o.data <;> first | exact wpAny_pure h | skip
      rename_i vs
      dsimp only
      rw [hn]
      exact wpAny_pure h
    | _ => exact wpAny_pure h
  cases t <;> first | exact wpAny_pure h | exact main

/-- the turns of a loop beside which an object is kept as it is -/
noncomputable def WForL (C : Cx) (l : Addr) (ol : Obj) (t : Expr) (body orelse : List Stmt) : List CV → CSt → (CF → CSt → Prop) → Prop
  | [], st, Q => WSs C orelse st Q
  | x :: xs, st, Q => WA C (assign t C.env) x st (fun st1 => WSs C body st1 (fun f st2 => match f with
      | .next => st2.H l = some (.froz ol) ∧ WForL C l ol t body orelse xs st2 Q
      | .cont => st2.H l = some (.froz ol) ∧ WForL C l ol t body orelse xs st2 Q
      | .brk => Q .next st2
      | .ret v => Q (.ret v) st2))

theorem forCore {t : Expr} {body orelse : List Stmt} {xs : List CV} {it l : Addr} {D : Nat → IM → Heap → Prop} {Q : CF → CSt → Prop} {h₁ : Heap} (ok : C.Ok dep) (ol : Obj) (hl : st.H l = some (.froz ol)) (W : Walk2 C.prog C.w xs it l D) (hD : D 0 I h₁)
    (hnew : I it = none ∧ KF it = none ∧ st.H it = none ∧ ¬ C.Own it) (hoi0 : ∃ o, h₁.get? it = some o) {d₁ : Drawn} {tk₁ : Nat} (S₁ : SR C KF I st { s with heap := h₁, drawn := d₁, toks := tk₁ }) (h : WForL C l ol t body orelse xs st Q) :
    wpAny (model C.prog C.w) C.A (runOwn (.forLoop t (.ref it) body orelse C.env) C.env) (fun f s' => OkP C KF I s' fun I' st' => FlP I' f Q st') (fun e s' => ErP C KF I false e s') { s with heap := h₁, drawn := d₁, toks := tk₁ } := by
  (refine el_1_0 hoi0 fun oi hoi => ?_; try clear hoi0)
  (refine el_0_3 hnew fun n1 n2 n3 n4 => ?_; try clear hnew)
  have hli : l ≠ it := fun q => by rw [q, n3] at hl; cases hl
  have l₁ : ILe KF (iput KF it oi) := iput_le n2
  have SK := S₁.addK hoi n1 n2 n3 n4
  let R : Result → Shared → Prop := fun r s' => match r with
    | .ok f => OkP C KF I s' fun I' st' => FlP I' f Q st'
    | .error e => ErP C KF I true e s'
  refine wpAny_runOwn (h := none) (codeAny_mono (R := R) ?lp fun r s' hr => ?bk)
  case bk =>
    cases r with
    | ok f => obtain ⟨I', st', a, b, c⟩ := hr; exact ⟨I', st', a, b, c⟩
    | error e =>
      exact hr.elim
  have hA : C.A.mark none = C.A := by cases C.A; rfl
  rw [hA]
  have lAt : ∀ {J st' s' KF'}, st'.H l = some (.froz ol) → SR C KF' J st' s' → s'.heap.get? l = some ol := fun l' S' => by
    (refine el_0_2 (S'.mu l _ l') fun _ _ rEl => ?_; (refine el_1_1 rEl fun o e1 e2 => ?_; try clear rEl))
    simp only [OR] at e2
    rw [e1, e2.1]
  refine codeAny_forLoop_any (fun n s' => ∃ i J st' o, n = xs.length - i ∧ i ≤ xs.length ∧ ILe I J ∧ SR C (iput KF it o) J st' s' ∧ D i J s'.heap ∧ s'.heap.get? it = some o ∧ st'.H l = some (.froz ol) ∧ WForL C l ol t body orelse (xs.drop i) st' Q) ?_ xs.length
    (in_4_7 0 I st oi (by simp) (by simp) (.refl I) SK hD hoi hl (by simpa using h))
  intro n s' hEl
  (refine el_4_1 hEl fun i J st' o xEl4 rEl => ?_; try clear hEl; obtain rfl := xEl4; (refine el_0_6 rEl fun hi lJ S' hD' hit' hl' hW => ?_; try clear rEl))
  have lo : ILe KF (iput KF it o) := iput_le n2
  by_cases hlt : i < xs.length
  · obtain ⟨c, hc⟩ : ∃ c, xs[i]? = some c := (in_1_0 (xs[i]) (by simp [hlt]))
    have hdrop : xs.drop i = c :: xs.drop (i + 1) := by
      rw [List.drop_eq_getElem_cons hlt]
      rw [List.getElem?_eq_getElem hlt] at hc; cases hc; rfl
    rw [hdrop] at hW
    refine W.item C.A J s' i c _ _ S'.imm hD' hc fun h₂ tk₂ u hD₂ hu hk₂ hEl => ?_
    (refine el_1_0 hEl fun o₂ ho₂ => ?_; try clear hEl)
    have hl₂ : h₂.get? l = some ol := hk₂ l ol hli (lAt hl' S')
    have Sx : SR C KF J st' { s' with heap := h₂, toks := tk₂ } := by
      have := (S'.weakK lo S₁.kle)
      refine this.heap fun a ob e hb => hk₂ a ob (fun q => notHeld hb q S'.iterIn.1 n2 S'.iterIn.2.1 S'.iterIn.2.2) e
    have m1 : J it = none := (S'.frs it o (by simp)).1
    have m3 : st'.H it = none := by
      cases e : st'.H it with
      | none => rfl
      | some cc => have := (S'.mu it cc e).2.1; simp at this
    have m4 : ¬ C.Own it := fun hb => by have := (S'.own it hb).2.1; simp at this
    have Sy := Sx.addK ho₂ m1 n2 m3 m4
    have lo₂ : ILe KF (iput KF it o₂) := iput_le n2
    refine ownedGo2_W W hD₂ ?_
    refine wpAny_mono (hW J u hu _ _ Sy) (fun _ s3 hh => hh.use fun J3 st3 l3 S3 q3 => ?_) fun e s3 hF => hF.elim
    refine wpAny_mono (q3 J3 _ _ S3) (fun f s4 hh => hh.use fun J4 st4 l4 S4 hv => hv.use fun b hb q4 => ?_) fun e s4 hF => hF.elim
    have again : ∀ st4, SR C (iput KF it o₂) J4 st4 s4 → st4.H l = some (.froz ol) ∧ WForL C l ol t body orelse (xs.drop (i + 1)) st4 Q → ∃ m, m < xs.length - i ∧ ∃ i J st' o, m = xs.length - i ∧ i ≤ xs.length ∧ ILe I J ∧ SR C (iput KF it o) J st' s4 ∧ D i J s4.heap ∧ s4.heap.get? it = some o ∧ st'.H l = some (.froz ol) ∧ WForL C l ol t body orelse (xs.drop i) st' Q := by
      intro st4 S4 ⟨hl4, hw⟩
      (refine el_0_1 (S4.frs it o₂ (by simp)) fun _ e4 => ?_)
      refine (in_1_1 (xs.length - (i + 1)) (by (exact Nat.sub_lt_sub_left (by assumption) (Nat.lt_succ_self _))) (in_4_7 (i + 1) J4 st4 o₂ rfl hlt (lJ.trans (l3.trans l4)) S4 ?_ e4 hl4 hw))
      exact W.frame J J4 h₂ s4.heap (i + 1) hD₂ (l3.trans l4) (fun o' e => by rw [ho₂] at e; cases e; exact e4) (fun o' e => by rw [hl₂] at e; cases e; exact lAt hl4 S4) fun a o' e1 e2 => S4.imm a o' ((l3.trans l4) a o' e1)
    cases b with
    | next => cases hb; exact again st4 S4 q4
    | cont => cases hb; exact again st4 S4 q4
    | brk => cases hb; exact ⟨J4, st4, lJ.trans (l3.trans l4), S4.weakK lo₂ S₁.kle, .next, rfl, q4⟩
    | ret c => (refine el_1_1 hb fun u' xEl1 r' => ?_; try clear hb; obtain rfl := xEl1); exact ⟨J4, st4, lJ.trans (l3.trans l4), S4.weakK lo₂ S₁.kle, .ret c, (in_1_1 u' rfl r'), q4⟩
  · have hin : i = xs.length := by (exact (Nat.le_antisymm (by assumption) (Nat.le_of_not_lt (by assumption))))
    subst hin
    refine W.fin C.A J s' _ _ ok.hd S'.imm hD' fun h₂ tk₂ hk₂ => ?_
    have Sx : SR C KF J st' { s' with heap := h₂, toks := tk₂ } := by
      have := (S'.weakK lo S₁.kle)
      refine this.heap fun a ob e hb => hk₂ a ob (fun q => notHeld hb q S'.iterIn.1 n2 S'.iterIn.2.1 S'.iterIn.2.2) e
    rw [List.drop_length] at hW
    exact wpAny_mono (hW J KF _ Sx) (fun f s3 hh => hh.use fun J3 st3 l3 S3 q3 => ⟨J3, st3, lJ.trans l3, S3, q3⟩) fun e s3 hF => hF.elim

/-- a loop over a set of pairs, in whatever order -/
theorem WS.forPairs {t iter body orelse pos} {Q : CF → CSt → Prop} (ok : C.Ok dep)
    (h : WE C iter st (fun c st1 => ∃ a vs, c = .loc a ∧ st1.H a = some (.set vs) ∧ vs.length ≤ 1000 ∧ ∀ (us : List (List Str × Int)) (o : Obj), (∀ v, v ∈ us ↔ v ∈ vs) →
      WForL C a o t body orelse (us.map pcv) { st1 with H := hput st1.H a (.froz o) } (fun f st2 => st2.H a = some (.froz o) ∧ Q f { st2 with H := hput st2.H a (.set vs) })))
    (hs : ∀ x, foldedSetIterable iter C.env x = pure x := by intro _; rfl) : WS C (.For t iter body orelse pos) st Q := fun I => by
  simp only [exec_For]
  refine WL.bind (WL.standAt (WL.bind ((h I).mono (fun J v st1 _ hEl => ?_))))
  obtain ⟨c, r, a, vs, e, hH, hn, hw⟩ := hEl
  subst e
  simp only [VR] at r; subst r
  rw [hs]
  refine WL.bind (WL.pure (WL.bind (WL.standAt ?_)))
  intro KF s S
  (refine el_0_2 (S.mu a _ hH) fun h1 h2 rEl => ?_; (refine el_1_1 rEl fun o ho hr => ?_; try clear rEl))
  refine wpAny_bind (wpAny_holding (iter_pairs S hH ho hn fun J2 h' d it us D l S2 hus W hD hnew hoi hla => ?_))
  (refine el_0_3 hnew fun n1 n2 n3 n4 => ?_; try clear hnew)
  have S3 := S2.setH (h' := h') (tk := s.toks) (c := .froz o) hH (fun b o' _ e => e) hla ⟨rfl, (let ⟨es, ep, t, _, _, hd, _⟩ := hr; (in_3_0 es ep t hd))⟩
  have hne : it ≠ a := fun q => by rw [← q, n3] at hH; cases hH
  refine wpAny_mono (forCore (s := s) (KF := KF) (tk₁ := s.toks) ok o (by show hput st1.H a _ a = _; simp) W hD (in_0_3 n1 n2 (by show hput st1.H a _ it = none; rw [hput_ne hne]; exact n3) n4) hoi S3 (hw us o hus)) (fun f s' hEl => ?_) fun e s' hF => hF.elim
  obtain ⟨I', st', l', S', b, hb, hfz, q⟩ := hEl
  (refine el_0_2 (S'.mu a _ hfz) fun g1 g2 rEl => ?_; (refine el_1_1 rEl fun o' g3 g4 => ?_; try clear rEl))
  simp only [OR] at g4
  (revert g4; intro hfEl; refine el_0_1 hfEl fun g4 _ => ?_; try clear hfEl)
  subst g4
  have hPJ : OR C.prog C.w I' (.set vs) o' := OR.mono (l.trans l') _ _ hr
  have S4 := S'.setH (h' := s'.heap) (tk := s'.toks) (c := .set vs) hfz (fun b o' _ e => e) g3 hPJ
  exact ⟨I', _, l.trans l', S4, b, hb, q⟩
end
end Mine
open PySem PySem.W PySem.Calls PyProof.Rows
set_option Elab.async false
set_option linter.all false
set_option maxRecDepth 100000
set_option genSizeOf false
namespace Mine

theorem strOf_is (k x : Str) (t : Tok) : Value.isStrOf x (.str k t) = decide (k = x) := by
  show (k == x) = _
  by_cases h : k = x <;> rfl

/-- a clean dict is a dict of pairs -/
theorem pairs_of {prog : Program} {w : World} {I : IM} : ∀ {es : List (Str × CV)} {ds : List DictEntry}, ERs w I es ds → KeysOf (strKind prog w) ds.toArray ∧ ∃ kvs, Pairs (strKind prog w) ds kvs ∧ kvs.map (·.1) = es.map (·.1) ∧ VRs I (es.map (·.2)) (kvs.map (·.2))
  | [], ds, r => by simp only [ERs] at r; subst r; exact (in_0_1 (fun e he => by simp at he) (in_1_2 ([]) (.nil) rfl (.nil)))
  | (k, c) :: es, ds, r => by
    simp only [ERs] at r
    (refine el_2_1 r fun d ds' xEl2 rEl => ?_; try clear r; obtain rfl := xEl2; (refine el_0_2 rEl fun h1 yEl1 sEl => ?_; try clear rEl; obtain ⟨t, h2⟩ := yEl1; obtain ⟨h3, h4⟩ := sEl))
    (refine el_0_1 (pairs_of (prog := prog) h4) fun i1 rEl => ?_; (refine el_1_2 rEl fun kvs i2 i3 i4 => ?_; try clear rEl))
    refine (in_0_1 (fun e he => ?_) (in_1_2 ((k, d.val) :: kvs) (.cons (by show Value.isStrOf k d.key = true; rw [h2, strOf_is]; simp) rfl i2) (by simp [i3]) (.cons h3 i4)))
    have he' : e = d ∨ e ∈ ds' := by simpa using he
    rcases he' with rfl | he
    · exact (in_1_1 k (by show Value.isStrOf k e.key = true; rw [h2, strOf_is]; simp) h1)
    · exact i1 e (by simpa using he)
theorem ers_of {prog : Program} {w : World} {I : IM} : ∀ {es : List (Str × CV)} {ds : List DictEntry} {kvs : List (Str × Value)}, KeysOf (strKind prog w) ds.toArray → Pairs (strKind prog w) ds kvs → kvs.map (·.1) = es.map (·.1) → VRs I (es.map (·.2)) (kvs.map (·.2)) → ERs w I es ds
  | [], ds, kvs, hk, p, e, r => by
    have : kvs = [] := by simpa using e
    subst this
    cases p
    simp [ERs]
  | (k, c) :: es, ds, kvs, hk, p, e, r => by
    cases p with
    | nil => simp at e
    | @cons d kv ds' kvs' p1 p2 p3 =>
      obtain ⟨k', v⟩ := kv
      simp only [List.map_cons, List.cons.injEq] at e
      (refine el_0_1 e fun e1 e2 => ?_; try clear e)
      (refine el_2_2 (VRs.uncons r) fun y ys e3 r1 r2 => ?_)
      cases e3
      simp only at e1 p1 p2
      subst e1
      (refine el_1_1 (hk d (by simp)) fun k2 q1 q2 => ?_)
      (refine el_1_0 (Value.isStrOf_shape (show Value.isStrOf k' d.key = true from p1)) fun t ht => ?_)
      have : k' = k2 := Value.isStrOf_inj d.key _ _ p1 q1
      subst this
      simp only [ERs]
      refine (in_2_4 d ds' rfl q2 (in_1_0 t ht) (by rw [p2]; exact r1) (ers_of (fun e he => hk e (by simp at he ⊢; exact .inr he)) p3 e2 r2))

section
variable {C : Cx} {dep : Nat} {KF I : IM} {st : CSt} {s : Shared} {Q : CV → CSt → Prop}

theorem dict_of {d : Addr} {es : List (Str × CV)} (S : SR C KF I st s) (hH : st.H d = some (.dict es)) (hnd : (es.map (·.1)).Nodup) :
    ∃ kvs, s.heap.DictOf (strKind C.prog C.w) d kvs ∧ kvs.map (·.1) = es.map (·.1) ∧ VRs I (es.map (·.2)) (kvs.map (·.2)) := by
  (refine el_0_2 (S.mu d _ hH) fun _ _ rEl => ?_; (refine el_1_1 rEl fun o ho sEl => ?_; try clear rEl; obtain ⟨n, ds, rfl, he⟩ := sEl))
  (refine el_0_1 (pairs_of (prog := C.prog) he) fun h1 rEl => ?_; (refine el_1_2 rEl fun kvs h2 h3 h4 => ?_; try clear rEl))
  exact (in_1_2 kvs (in_3_5 _ ds n ho (in_0_2 rfl rfl rfl) rfl (by simpa using h1) h2 (by rw [h3]; exact hnd)) h3 h4)
theorem dict_back {d : Addr} {es : List (Str × CV)} {kvs : List (Str × Value)} {h : Heap} (hm : h.DictOf (strKind C.prog C.w) d kvs) (e : kvs.map (·.1) = es.map (·.1)) (r : VRs I (es.map (·.2)) (kvs.map (·.2))) :
    ∃ o, h.get? d = some o ∧ OR C.prog C.w I (.dict es) o := by
  (refine el_3_2 hm fun o ds n ho xEl4 rEl => ?_; try clear hm; (refine el_0_2 xEl4 fun h1 h2 h3 => ?_; try clear xEl4); (refine el_0_3 rEl fun h4 h5 h6 _ => ?_; try clear rEl))
  refine (in_1_1 o ho (in_2_1 n ds ?_ (ers_of (prog := C.prog) (by simpa using h5) h6 e r)))
  obtain ⟨a, b, c, f⟩ := o
  simp only at h1 h2 h3 h4
  subst h1 h2 h3 h4
  rfl

/-- what a clean dict holds under a name -/
theorem value_of {I : IM} {k : Str} : ∀ {es : List (Str × CV)} {kvs : List (Str × Value)}, kvs.map (·.1) = es.map (·.1) → VRs I (es.map (·.2)) (kvs.map (·.2)) → match es.lookup k with | some c => ∃ v, valueAt kvs k = some v ∧ VR I c v | none => valueAt kvs k = none
  | [], kvs, e, r => by
    have : kvs = [] := by simpa using e
    subst this; rfl
  | (k', c) :: es, [], e, r => by simp at e
  | (k', c) :: es, (k2, v) :: kvs, e, r => by
    simp only [List.map_cons, List.cons.injEq] at e
    (refine el_0_1 e fun xEl0 e2 => ?_; try clear e; obtain rfl := xEl0)
    (refine el_2_2 (VRs.uncons r) fun y ys e3 r1 r2 => ?_)
    cases e3
    simp only [List.lookup_cons]
    by_cases q : k2 = k
    · subst q; simp [valueAt]; exact r1
    · have q' : (k == k2) = false := by simpa using Ne.symm q
      rw [q']
      have ih := value_of (k := k) e2 r2
      have : valueAt ((k2, v) :: kvs) k = valueAt kvs k := by simp [valueAt, List.find?_cons, q]
      rw [this]
      exact ih
theorem stored_of {I : IM} {k : Str} {c : CV} {v : Value} (rv : VR I c v) : ∀ {es : List (Str × CV)} {kvs : List (Str × Value)}, (es.map (·.1)).Nodup → kvs.map (·.1) = es.map (·.1) → VRs I (es.map (·.2)) (kvs.map (·.2)) → (stored kvs k v).map (·.1) = (aput es k c).map (·.1) ∧ VRs I ((aput es k c).map (·.2)) ((stored kvs k v).map (·.2))
  | [], kvs, _, e, r => by
    have : kvs = [] := by simpa using e
    subst this; exact ⟨rfl, .cons rv .nil⟩
  | (k', c') :: es, [], _, e, r => by simp at e
  | (k', c') :: es, (k2, v') :: kvs, hnd, e, r => by
    simp only [List.map_cons, List.cons.injEq] at e
    (refine el_0_1 e fun xEl0 e2 => ?_; try clear e; obtain rfl := xEl0)
    (refine el_2_2 (VRs.uncons r) fun y ys e3 r1 r2 => ?_)
    cases e3
    rw [List.map_cons, List.nodup_cons] at hnd
    by_cases q : k2 = k
    · subst q
      have hnot : ∀ kv ∈ kvs, kv.1 ≠ k2 := fun kv hkv q => hnd.1 (by simp only; simp only [← e2, ← q]; exact List.mem_map_of_mem hkv)
      have hmap : kvs.map (fun kv => if kv.1 = k2 then (kv.1, v) else kv) = kvs := by
        conv => rhs; rw [← List.map_id kvs]
        apply List.map_congr_left
        intro kv hkv
        rw [if_neg (hnot kv hkv)]; rfl
      have : stored ((k2, v') :: kvs) k2 v = (k2, v) :: kvs := by
        simp only [stored, List.any_cons, decide_true, Bool.true_or, if_true, List.map_cons, hmap]
      rw [this]
      simp only [aput, if_true, List.map_cons]
      exact ⟨by rw [e2], .cons rv r2⟩
    · obtain ⟨i1, i2⟩ := stored_of rv hnd.2 e2 r2
      have : stored ((k2, v') :: kvs) k v = (k2, v') :: stored kvs k v := by
        unfold stored
        simp only [List.any_cons, decide_eq_false q, Bool.false_or, List.map_cons, if_neg q]
        split <;> rfl
      rw [this]
      simp only [aput, if_neg q, List.map_cons]
      exact ⟨by rw [i1], .cons r1 i2⟩
noncomputable def adel (es : List (Str × CV)) (k : Str) : List (Str × CV) := es.filter fun e => decide (e.1 ≠ k)
theorem without_of {I : IM} {k : Str} : ∀ {es : List (Str × CV)} {kvs : List (Str × Value)}, kvs.map (·.1) = es.map (·.1) → VRs I (es.map (·.2)) (kvs.map (·.2)) → (without kvs k).map (·.1) = (adel es k).map (·.1) ∧ VRs I ((adel es k).map (·.2)) ((without kvs k).map (·.2))
  | [], kvs, e, r => by
    have : kvs = [] := by simpa using e
    subst this; exact ⟨rfl, .nil⟩
  | (k', c') :: es, [], e, r => by simp at e
  | (k', c') :: es, (k2, v') :: kvs, e, r => by
    simp only [List.map_cons, List.cons.injEq] at e
    (refine el_0_1 e fun xEl0 e2 => ?_; try clear e; obtain rfl := xEl0)
    (refine el_2_2 (VRs.uncons r) fun y ys e3 r1 r2 => ?_)
    cases e3
    (refine el_0_1 (without_of (k := k) e2 r2) fun i1 i2 => ?_)
    by_cases q : k2 = k
    · have a1 : without ((k2, v') :: kvs) k = without kvs k := by simp [without, q]
      have a2 : adel ((k2, c') :: es) k = adel es k := by simp [adel, q]
      rw [a1, a2]; exact ⟨i1, i2⟩
    · have a1 : without ((k2, v') :: kvs) k = (k2, v') :: without kvs k := by simp [without, q]
      have a2 : adel ((k2, c') :: es) k = (k2, c') :: adel es k := by simp [adel, q]
      rw [a1, a2]
      exact ⟨by simp [i1], .cons r1 i2⟩

theorem notSys (S : SR C KF I st s) {d : Addr} {c : CO} (hH : st.H d = some c) : (d == sysModules) = false := by
  have := S.low.2 d c hH
  simpa using Nat.ne_of_gt this
theorem str_key (C : Cx) (k : Str) (t : Tok) : (strKind C.prog C.w).is k (.str k t) = true := by show Value.isStrOf k (.str k t) = true; rw [strOf_is]; simp

theorem valueAt_map {kvs : List (Str × Value)} {d : Addr} {h : Heap} (hm : h.DictOf (strKind C.prog C.w) d kvs) : h.MapOf (strKind C.prog C.w) d (valueAt kvs) := hm.mapOf

theorem W2.inDict {d : Addr} {es : List (Str × CV)} {k : Str} (hH : st.H d = some (.dict es)) (hnd : (es.map (·.1)).Nodup) (h : Q (.bool (es.lookup k).isSome) st) : W2 C (compareOp .In) (.str k) (.loc d) st Q := fun I v u r1 r2 KF s S => by
  simp only [VR] at r1 r2; subst r2
  (refine el_1_0 r1 fun t xEl1 => ?_; try clear r1; obtain rfl := xEl1)
  (refine el_1_2 (dict_of S hH hnd) fun kvs hm e r => ?_)
  refine wpAny_in_of (str_key C k t) (notSys S hH) (valueAt_map hm) ?_
  have hv := value_of (k := k) e r
  refine ⟨I, st, .refl I, S.toks _, .bool (es.lookup k).isSome, ?_, h⟩
  simp only [VR]
  revert hv
  cases es.lookup k with
  | none => intro hv; rw [hv]; rfl
  | some c => rintro ⟨v, hv, _⟩; rw [hv]; rfl
theorem W2.notInDict {d : Addr} {es : List (Str × CV)} {k : Str} (hH : st.H d = some (.dict es)) (hnd : (es.map (·.1)).Nodup) (h : Q (.bool (!(es.lookup k).isSome)) st) : W2 C (compareOp .NotIn) (.str k) (.loc d) st Q := fun I v u r1 r2 KF s S => by
  simp only [VR] at r1 r2; subst r2
  (refine el_1_0 r1 fun t xEl1 => ?_; try clear r1; obtain rfl := xEl1)
  (refine el_1_2 (dict_of S hH hnd) fun kvs hm e r => ?_)
  refine wpAny_notIn_of (str_key C k t) (notSys S hH) (valueAt_map hm) ?_
  have hv := value_of (k := k) e r
  refine ⟨I, st, .refl I, S.toks _, CV.bool (!(es.lookup k).isSome), ?_, h⟩
  simp only [VR]
  revert hv
  cases es.lookup k with
  | none => intro hv; rw [hv]; rfl
  | some c => rintro ⟨v, hv, _⟩; rw [hv]; rfl

theorem W2.itemD {value slice : Expr} {d : Addr} {es : List (Str × CV)} {k : Str} {c : CV} (hH : st.H d = some (.dict es)) (hnd : (es.map (·.1)).Nodup) (hc : es.lookup k = some c) (h : Q c st)
    (hsl : ∀ o i, subscripted slice false o i = operate [o, i] (getItem o i) := by intros; rfl) : W2 C (subscriptTail value slice) (.loc d) (.str k) st Q := fun I v u r1 r2 KF s S => by
  simp only [VR] at r1 r2; subst r1
  (refine el_1_0 r2 fun t xEl1 => ?_; try clear r2; obtain rfl := xEl1)
  (refine el_1_2 (dict_of S hH hnd) fun kvs hm e r => ?_)
  have hv := value_of (k := k) e r
  rw [hc] at hv
  (revert hv; intro hfEl; refine el_1_1 hfEl fun v hv rv => ?_; try clear hfEl)
  exact tail_any hm.typeIs slot_dict_getitem.lookup (wpAny_getItem_of (str_key C k t) (valueAt_map hm) hv ⟨I, st, .refl I, S.toks _, c, rv, h⟩) (hsl _ _)

theorem dictLe_of {d : Addr} {kvs : List (Str × Value)} {h : Heap} (hm : h.DictOf (strKind C.prog C.w) d kvs) (hn : kvs.length ≤ 1000) : kvs.length ≤ sizeLine := by rw [sizeLine_eq]; (exact Nat.le_trans (by assumption) (by decide))
theorem setItemD_W {d : Addr} {es : List (Str × CV)} {k : Str} {c : CV} {t : Tok} {v : Value} {Q : CSt → Prop} (hH : st.H d = some (.dict es)) (hnd : (es.map (·.1)).Nodup) (hn : es.length ≤ 1000) (rv : VR I c v) (h : Q { st with H := hput st.H d (.dict (aput es k c)) }) :
    WL C (setItem (.ref d) (.str k t) v) I st (fun _ _ st' => Q st') := fun KF s S => by
  (refine el_1_2 (dict_of S hH hnd) fun kvs hm e r => ?_)
  have hl : kvs.length = es.length := by have := congrArg List.length e; simpa using this
  refine wpAny_setItem_pairs (hsz := dictLe_of hm (by omega)) (str_key C k t) hm fun h' hm' hs => ?_
  obtain ⟨e', r'⟩ := stored_of rv hnd e r
  (refine el_1_1 (dict_back hm' e' r') fun o ho hr => ?_)
  exact ⟨I, _, .refl I, S.setH (tk := s.toks + 1) (c := .dict (aput es k c)) hH (fun b o hb e => (hs.2 b hb).trans e) ho hr, h⟩
theorem dictSet_W {d : Addr} {es : List (Str × CV)} {k : Str} {c : CV} {t : Tok} {v : Value} {Q : CSt → Prop} (hH : st.H d = some (.dict es)) (hnd : (es.map (·.1)).Nodup) (hn : es.length ≤ 1000) (rv : VR I c v) (h : Q { st with H := hput st.H d (.dict (aput es k c)) }) :
    WL C (dictSet d (.str k t) v) I st (fun _ _ st' => Q st') := fun KF s S => by
  (refine el_1_2 (dict_of S hH hnd) fun kvs hm e r => ?_)
  have hl : kvs.length = es.length := by have := congrArg List.length e; simpa using this
  refine wpAny_dictSet_pairs (hsz := dictLe_of hm (by omega)) (str_key C k t) hm fun h' hm' hs => ?_
  obtain ⟨e', r'⟩ := stored_of rv hnd e r
  (refine el_1_1 (dict_back hm' e' r') fun o ho hr => ?_)
  exact ⟨I, _, .refl I, S.setH (tk := s.toks + 1) (c := .dict (aput es k c)) hH (fun b o hb e => (hs.2 b hb).trans e) ho hr, h⟩

noncomputable def relOf (i : Expr) (v ov iv : Value) : List Value := match i with | .Slice _ _ none _ => [iv, v, ov] | _ => [v, ov, iv]
/-- a subscript is laid -/
theorem WA.sub {o i : Expr} {pos : Pos} {c : CV} {Q : CSt → Prop} (h : WE C o st (fun a st1 => WE C i st1 (fun b st2 => ∀ I v u w, VR I a v → VR I b u → VR I c w → WL C (setItem v u w) I st2 (fun _ _ st3 => Q st3)))) :
    WA C (assign (.Subscript o i pos) C.env) c st Q := fun I v r => by
  show WL C (do
    let ov ← holding [v] (eval o C.env)
    let iv ← holding [v, ov] (eval i C.env)
    standAt pos
    holding [v, ov, iv] (setItem ov iv v)
    release (relOf i v ov iv) []) I st _
  refine WL.bind (WL.holding ((h I).mono (fun J u st1 l hh => hh.use fun a ra q => ?_)))
  refine WL.bind (WL.holding ((q J).mono (fun J2 w st2 l2 hh => hh.use fun b rb q2 => ?_)))
  refine WL.bind (WL.standAt (WL.bind (WL.holding ((q2 J2 u w v (ra.mono l2) rb ((r.mono l).mono l2)).mono (fun J3 _ st3 l3 q3 => ?_)))))
  exact fun KF s S => wpAny_release ⟨J3, st3, .refl _, S, q3⟩
theorem WA.subD {o i : Expr} {pos : Pos} {c : CV} {Q : CSt → Prop} (h : WE C o st (fun a st1 => WE C i st1 (fun b st2 => ∃ d es k, a = .loc d ∧ b = .str k ∧ st2.H d = some (.dict es) ∧ (es.map (·.1)).Nodup ∧ es.length ≤ 1000 ∧ Q { st2 with H := hput st2.H d (.dict (aput es k c)) }))) :
    WA C (assign (.Subscript o i pos) C.env) c st Q :=
  WA.sub (h.mono (fun a st1 q0 => q0.mono (fun b st2 ⟨d, es, k, e1, e2, hH, hnd, hn, q⟩ I v u w r1 r2 r3 => by
    subst e1 e2
    simp only [VR] at r1 r2; subst r1
    (refine el_1_0 r2 fun t xEl1 => ?_; try clear r2; obtain rfl := xEl1)
    exact setItemD_W hH hnd hn r3 q)))

theorem WMeth.dict {es} {a : Addr} {name : Str} {id : String} (hH : st.H a = some (.dict es)) (slot : Slot "dict" name id) (hty : typeOf (.builtin id) = pure (.type "method_descriptor")) : WMeth C (.loc a) name (.builtin id) st := fun I v KF s pl E Q r S q => by
  simp only [VR] at r; subst r
  (refine el_0_2 (S.mu a _ hH) fun _ _ rEl => ?_; (refine el_1_1 rEl fun o ho sEl => ?_; try clear rEl; obtain ⟨n, ds, rfl, _⟩ := sEl))
  exact getMethod_builtin (in_1_1 _ ho rfl) F.plainAttrs_dict slot hty (fun b e => by cases e; exact (in_1_1 _ ho rfl)) (q s.toks)

/-- d.pop(k, None) -/
theorem WCall.dictPop {d : Addr} {es : List (Str × CV)} {k : Str} (hH : st.H d = some (.dict es)) (hnd : (es.map (·.1)).Nodup) (hn : es.length ≤ 1000) (h : Q ((es.lookup k).getD .none) { st with H := hput st.H d (.dict (adel es k)) }) :
    WCall C (.builtin "dict.pop") [.loc d, .str k, .none] [] [] st Q := fun I us vs' r1 r2 KF s S => by
  (revert r1; intro hfEl; refine el_2_1 hfEl.uncons fun x us1 xEl2 rEl => ?_; try clear hfEl; obtain rfl := xEl2; (refine el_0_1 rEl fun ra r1 => ?_; try clear rEl))
  (revert r1; intro hfEl; refine el_2_1 hfEl.uncons fun y us2 xEl2 rEl => ?_; try clear hfEl; obtain rfl := xEl2; (refine el_0_1 rEl fun rk r1 => ?_; try clear rEl))
  (revert r1; intro hfEl; refine el_2_1 hfEl.uncons fun z us3 xEl2 rEl => ?_; try clear hfEl; obtain rfl := xEl2; (refine el_0_1 rEl fun rz r1 => ?_; try clear rEl))
  have := r1.nil_iff; subst this
  rw [zip_nil_left]
  simp only [VR] at ra rk rz; subst ra; subst rz
  (refine el_1_0 rk fun t xEl1 => ?_; try clear rk; obtain rfl := xEl1)
  (refine el_1_2 (dict_of S hH hnd) fun kvs hm e r => ?_)
  have hl : kvs.length = es.length := by have := congrArg List.length e; simpa using this
  have hv := value_of (k := k) e r
  (refine el_0_1 (without_of (k := k) e r) fun w1 w2 => ?_)
  cases hlk : es.lookup k with
  | some c =>
    rw [hlk] at hv h
    (revert hv; intro hfEl; refine el_1_1 hfEl fun v hv rv => ?_; try clear hfEl)
    refine call_meetsIn PySem.F.slot_dict_pop hm.typeIs PySem.F.entry_dict_pop (F.args_dict_pop_3 _ _ _) (meets_dict_pop_there _ d (str_key C k t) [.none] (.inr (in_1_0 _ rfl)) rfl) (in_2_3 kvs v hm (dictLe_of hm (by omega)) hv (fun h' hm' hs => ?_))
    (refine el_1_1 (dict_back hm' w1 w2) fun o ho hr => ?_)
    exact ⟨I, _, .refl I, S.setH (tk := s.toks + 1) (c := .dict (adel es k)) hH (fun b o hb e => (hs.2 b hb).trans e) ho hr, c, rv, h⟩
  | none =>
    rw [hlk] at hv h
    have hdel : adel es k = es := by
      unfold adel
      rw [List.filter_eq_self]
      rintro ⟨k', c⟩ hk
      simp only [decide_eq_true_eq]
      intro q; subst q
      have : ∀ (l : List (Str × CV)), (k', c) ∈ l → l.lookup k' ≠ none := by
        intro l
        induction l with
        | nil => intro h; cases h
        | cons p l ih =>
          obtain ⟨a, b⟩ := p
          intro h
          simp only [List.lookup_cons]
          by_cases q : k' = a
          · subst q; simp
          · have q' : (k' == a) = false := by simpa using q
            rw [q']
            rcases List.mem_cons.mp h with h | h
            · cases h; exact absurd rfl q
            · exact ih h
      exact this es hk hlk
    refine call_meetsIn PySem.F.slot_dict_pop hm.typeIs PySem.F.entry_dict_pop (F.args_dict_pop_3 _ _ _) (meets_dict_pop_default _ d (str_key C k t) (notSys S hH) rfl .none) (in_1_2 kvs hm hv ?_)
    rw [hdel] at h
    have hid : hput st.H d (.dict es) = st.H := by
      funext b; unfold hput; split
      · rename_i q; subst q; exact hH.symm
      · rfl
    rw [hid] at h
    exact ⟨I, st, .refl I, S.toks _, .none, by simp [VR], h⟩
end
end Mine
open PySem PySem.W PySem.Calls PyProof.Rows
set_option Elab.async false
set_option linter.all false
set_option maxRecDepth 100000
set_option genSizeOf false
namespace Mine

theorem aput_keys (k : Str) (c : CV) : ∀ es : List (Str × CV), (aput es k c).map (·.1) = if k ∈ es.map (·.1) then es.map (·.1) else es.map (·.1) ++ [k]
  | [] => rfl
  | (k', v) :: es => by
    unfold aput
    by_cases q : k' = k
    · subst q; simp
    · rw [if_neg q, List.map_cons, aput_keys k c es]
      have : k ≠ k' := fun h => q h.symm
      simp only [List.map_cons, List.mem_cons, this, false_or]
      split <;> simp
theorem aput_nodup {k : Str} {c : CV} {es : List (Str × CV)} (h : (es.map (·.1)).Nodup) : ((aput es k c).map (·.1)).Nodup := by
  rw [aput_keys]
  split
  · exact h
  · rename_i q
    rw [List.nodup_append]
    exact (in_0_2 h (by simp) (fun a ha b hb => by simp at hb; subst hb; exact fun e => q (e ▸ ha)))
theorem aput_length {k : Str} {c : CV} {es : List (Str × CV)} : (aput es k c).length ≤ es.length + 1 := by
  have := congrArg List.length (aput_keys k c es)
  simp only [List.length_map] at this
  rw [this]; split <;> simp
noncomputable def aputs (es : List (Str × CV)) (l : List (Str × CV)) : List (Str × CV) := l.foldl (fun es p => aput es p.1 p.2) es

section
variable {C : Cx} {dep : Nat} {KF I : IM} {st : CSt} {s : Shared} {Q : CV → CSt → Prop}

/-- pairs of a dict's display -/
noncomputable def WPairs (C : Cx) : List (Expr × Expr) → CSt → (List (Str × CV) → CSt → Prop) → Prop
  | [], st, Q => Q [] st
  | (k, v) :: r, st, Q => WE C k st (fun a st1 => ∃ x, a = .str x ∧ WE C v st1 (fun c st2 => WPairs C r st2 (fun l st3 => Q ((x, c) :: l) st3)))

/-- pairs of values -/
inductive PRs (I : IM) : List (Str × CV) → List (Value × Value) → Prop
  | nil : PRs I [] []
  | cons {x c t v l r} : VR I c v → PRs I l r → PRs I ((x, c) :: l) ((.str x t, v) :: r)
theorem PRs.mono {I J : IM} (h : ILe I J) {l r} (p : PRs I l r) : PRs J l r := by
  induction p with
  | nil => exact .nil
  | cons a _ ih => exact .cons (VR.mono h _ _ a) ih

noncomputable def ptree (env : Env) (pos : Pos) (p : Expr × Expr) : Sem Value × Sem Value := (eval p.1 env, do let x ← eval p.2 env; standAt pos; pure x)
theorem evalPairs_W {pos : Pos} : ∀ {items : List (Expr × Expr)} {st : CSt} {Q : List (Str × CV) → CSt → Prop}, WPairs C items st Q → ∀ I, WL C (evalPairs (items.map (ptree C.env pos))) I st (fun J vs st' => ∃ l, PRs J l vs ∧ Q l st')
  | [], st, Q, h, I => WL.pure (in_1_1 ([]) (.nil) h)
  | (k, v) :: r, st, Q, h, I => by
    show WL C (do
      let kv ← eval k C.env
      let vv ← holding [kv] (do let x ← eval v C.env; standAt pos; pure x)
      return (kv, vv) :: (← holding [kv, vv] (evalPairs (r.map (ptree C.env pos))))) I st _
    refine WL.bind ((h I).mono (fun J u st1 _ hEl => ?_))
    obtain ⟨a, ra, x, e, q⟩ := hEl
    subst e
    simp only [VR] at ra
    (refine el_1_0 ra fun t xEl1 => ?_; try clear ra; obtain rfl := xEl1)
    refine WL.bind (WL.holding (WL.bind ((q J).mono (fun J2 w st2 l2 hh => hh.use fun c rc q2 => WL.bind (WL.standAt (WL.pure ?_))))))
    refine WL.bind (WL.holding ((evalPairs_W q2 J2).mono (fun J3 vs st3 l3 hEl => ?_)))
    (refine el_1_1 hEl fun l rl q3 => ?_; try clear hEl)
    exact WL.pure (in_1_1 ((x, c) :: l) (.cons (rc.mono l3) rl) q3)
theorem sets_W {d : Addr} {Q : CSt → Prop} : ∀ {I : IM} {l : List (Str × CV)} {vs : List (Value × Value)} {es : List (Str × CV)} {st : CSt}, PRs I l vs → st.H d = some (.dict es) → (es.map (·.1)).Nodup → es.length + l.length ≤ 900 → Q { st with H := hput st.H d (.dict (aputs es l)) } →
    WL C (forIn vs PUnit.unit fun x __s => match x with | (k, v) => do dictSet d k v; pure (ForInStep.yield PUnit.unit)) I st (fun _ _ st' => Q st')
  | I, [], vs, es, st, r, hH, _, _, h => by
    cases r
    simp only [List.forIn_nil]
    have hid : hput st.H d (.dict es) = st.H := by
      funext b; unfold hput; split
      · rename_i q; subst q; exact hH.symm
      · rfl
    have : ({ st with H := hput st.H d (.dict (aputs es [])) } : CSt) = st := by show CSt.mk st.lo (hput st.H d (.dict es)) = st; rw [hid]
    rw [this] at h
    exact WL.pure h
  | I, (x, c) :: l, vs, es, st, r, hH, hnd, hn, h => by
    cases r with
    | @cons _ _ t v _ vs' rc rl =>
      simp only [List.length_cons] at hn
      rw [List.forIn_cons]
      have step : WL C (dictSet d (.str x t) v) I st (fun _ _ st' => st' = { st with H := hput st.H d (.dict (aput es x c)) }) := dictSet_W (Q := fun st' => st' = { st with H := hput st.H d (.dict (aput es x c)) }) hH hnd (by omega) rc rfl
      refine WL.bind (WL.bind (step.mono (fun J _ st' l2 e => WL.pure ?_)))
      subst e
      have hl := aput_length (k := x) (c := c) (es := es)
      refine sets_W (I := J) (es := aput es x c) (PRs.mono l2 rl) hput_self (aput_nodup hnd) (by omega) ?_
      have : hput (hput st.H d (.dict (aput es x c))) d (.dict (aputs (aput es x c) l)) = hput st.H d (.dict (aputs es ((x, c) :: l))) := by
        funext b; unfold hput; split <;> rfl
      show Q ⟨st.lo, hput (hput st.H d (.dict (aput es x c))) d (.dict (aputs (aput es x c) l))⟩
      rw [this]; exact h

theorem WE.dict {keys : List (Option Expr)} {values : List Expr} {pos : Pos} (items : List (Expr × Expr)) 
    (h : ∀ d, st.H d = Option.none → WPairs C items { st with H := hput st.H d (.dict []) } (fun l st1 => st1.H d = some (.dict []) ∧ l.length ≤ 15 ∧ Q (.loc d) { st1 with H := hput st1.H d (.dict (aputs [] l)) }))
    (hshape : (evalEachOpt keys C.env).zip ((evalEach values C.env).map fun v => do let x ← v; standAt pos; pure x) = (items.map (ptree C.env pos)).map fun p => (some p.1, p.2) := by rfl) (h0 : items ≠ [] := by decide) (hlen : items.length ≤ 15 := by decide) :
    WE C (.Dict keys values pos) st Q := fun I => by
  rw [arm_eval_Dict, hshape, dictDisplay_pairs _ (by simpa using h0) (by simp; (exact Nat.lt_of_le_of_lt (by assumption) (by decide)))]
  refine WL.bind (WL.standAt (WL.bind ?_))
  unfold subDict
  intro KF s S
  refine wpAny_bind (wpAny_alloc ?_)
  (refine el_0_1 (S.newH (o := { cls := .type "dict", data := .dict #[] }) (c := .dict []) rfl (in_2_1 0 (#[]) rfl rfl)) fun hn S1 => ?_)
  have main : WL C (holding [.ref s.heap.objs.size] (do
      if (items.map (ptree C.env pos)).length ≤ 15 then
        let vs ← evalPairs (items.map (ptree C.env pos))
        holding (vs.flatMap fun (k, v) => [k, v]) do
          for (k, v) in vs do dictSet s.heap.objs.size k v
      else
        rule "dict.display.long"
        for (k, v) in items.map (ptree C.env pos) do
          let kv ← k
          let vv ← holding [kv] v
          holding [kv, vv] (dictSet s.heap.objs.size kv vv)) >>= fun _ => pure s.heap.objs.size) I { st with H := hput st.H s.heap.objs.size (.dict []) } (fun J d st' => d = s.heap.objs.size ∧ Q (.loc s.heap.objs.size) st') := by
    refine WL.bind (WL.holding ?_)
    rw [if_pos (by simpa using hlen)]
    refine WL.bind ((evalPairs_W (h _ hn) I).mono (fun J vs st1 l hEl => ?_))
    (refine el_1_3 hEl fun l' rl hd hl q => ?_; try clear hEl)
    refine WL.holding ?_
    refine WL.bind ((sets_W (es := []) rl hd (by simp) (by simp; (exact Nat.le_trans (by assumption) (by decide))) (Q := fun st' => Q (.loc s.heap.objs.size) st') q).mono (fun J2 _ st2 l2 q2 => WL.pure (WL.pure ⟨rfl, q2⟩)))
  refine wpAny_mono (main KF _ S1) (fun d s' ⟨J, st', l, S', e, q⟩ => ?_) fun _ _ x => x
  subst e
  exact ⟨J, st', l, S', WL.pure ⟨.loc _, by simp [VR], q⟩⟩
end
end Mine
open PySem PySem.W PySem.Calls PyProof.Rows
set_option Elab.async false
set_option linter.all false
set_option maxRecDepth 100000
set_option genSizeOf false
namespace Mine

noncomputable def cpick (cs : List CV) (lo hi st : Option Int) : List CV := (sliceRange (sliceBounds lo hi st cs.length).1 (sliceBounds lo hi st cs.length).2.1 (sliceBounds lo hi st cs.length).2.2).filterMap (cs[·]?)
theorem VRs.pick {I : IM} {cs : List CV} {vs : Array Value} (r : VRs I cs vs.toList) : ∀ idx : List Nat, VRs I (idx.filterMap (cs[·]?)) (idx.filterMap (vs[·]?))
  | [] => .nil
  | i :: idx => by
    have ih := VRs.pick r idx
    simp only [List.filterMap_cons, List.filterMap_cons]
    have e : cs.length = vs.size := by have := r.length; simpa using this
    by_cases h : i < cs.length
    · (refine el_1_1 (r.get (i := i) (c := cs[i]) (by simp [h])) fun v hv rv => ?_)
      have hv' : vs[i]? = some v := by simpa using hv
      rw [List.getElem?_eq_getElem h, hv']
      exact .cons rv ih
    · rw [List.getElem?_eq_none (by (exact Nat.le_of_not_lt (by assumption))), Array.getElem?_eq_none (by omega)]
      exact ih

/-- as many as stand ahead of an index -/
noncomputable def upk (n : Nat) (k : Int) : Nat := if k < 0 then (k + n).toNat else min k.toNat n
theorem upk_le (n : Nat) (k : Int) : upk n k ≤ n := by unfold upk; split <;> omega
theorem adjust_upto (k : Int) (n : Nat) : Builtin.Slice.sliceAdjust none (some k) 1 (n : Int) = (0, (upk n k : Int)) := by
  unfold Builtin.Slice.sliceAdjust upk
  have h1 : ¬ ((1 : Int) < 0) := by decide
  simp only [h1, if_false]
  congr 1
  split <;> omega
theorem places_upto (k : Nat) : Builtin.Slice.slicePlaces 0 (k : Int) 1 = k := by
  unfold Builtin.Slice.slicePlaces
  have h1 : (1 : Int) > 0 := by (exact Int.natCast_nonneg _)
  simp only [h1, if_true, Int.ediv_one]
  split <;> omega
theorem pick_upto (xs : Array Value) (k : Nat) (hk : k ≤ xs.size) : ((List.range k).filterMap fun (j : Nat) => xs[((0 : Int) + (j : Int) * 1).toNat]?) = xs.toList.take k := by
  have e : (fun (j : Nat) => xs[((0 : Int) + (j : Int) * 1).toNat]?) = fun j => xs[j]? := by
    funext j
    have : ((0 : Int) + (j : Int) * 1).toNat = j := by simp
    rw [this]
  rw [e]
  have gen : ∀ (l : List Value) (k : Nat), k ≤ l.length → (List.range k).filterMap (fun j => l[j]?) = l.take k := by
    intro l
    induction l with
    | nil => intro k hk; simp at hk; subst hk; rfl
    | cons x l ih =>
      intro k hk
      cases k with
      | zero => rfl
      | succ k =>
        rw [List.range_succ_eq_map, List.filterMap_cons, List.filterMap_map]
        have : ((fun j => (x :: l)[j]?) ∘ Nat.succ) = fun j => l[j]? := by funext j; simp
        rw [this, ih k (by simpa using hk)]; rfl
  have := gen xs.toList k (by simpa using hk)
  simpa using this

section
variable {prog : Program} {w : World} {A : Around} {E : Value → Shared → Prop} {s : Shared}
theorem slicePart_any {v : Value} {k : Option Int} {Q : Option Int → Shared → Prop} (hv : IsPart v k) (h : Q k s) : wpAny (model prog w) A (Builtin.Slice.slicePartIndex v) Q E s := by
  cases hv with
  | none => exact slicePart_none h
  | int i t => exact slicePart_int h
theorem getItem_tuple_upto {t sl : Addr} {items : Array Value} {k : Int} {vl vu vs : Value} {Q : Value → Shared → Prop} (ht : IsTup s.heap t items) (hs : s.heap.IsSliceOf sl vl vu vs) (pl : IsPart vl none) (pu : IsPart vu (some k)) (ps : IsPart vs none)
    (h1 : upk items.size k = items.size → Q (.ref t) s) (h2 : Q (.ref s.heap.objs.size) { s with heap := s.heap.push { cls := .type "tuple", data := .seq (items.toList.take (upk items.size k)).toArray } })
    (hsz : items.size ≤ sizeLine) : wpAny (model prog w) A (getItem (.ref t) (.ref sl)) Q E s := by
  have hk := upk_le items.size k
  have htake : sizeOk (.seq (items.toList.take (upk items.size k)).toArray) := by
    show (items.toList.take (upk items.size k)).toArray.size ≤ sizeLine
    simp only [List.size_toArray, List.length_take, Array.length_toList]
    omega
  (refine el_1_2 (id hs) fun os hos hcs hds => ?_)
  have hTs : s.TypeIs (.ref sl) "slice" := (in_1_1 os hos hcs)
  unfold getItem
  try with_reducible refine wpAny_holding ?_
  first | refine wpAny_bind (wpAny_pure ?_) | skip
  refine wpAny_bind (wpAny_sequenceKey ht.typeIs (by decide) ?_)
  refine wpAny_bind (wpAny_callSpecial?_slot (name := Str.ofString "__getitem__") ht.typeIs slot_tuple_getitem
    (wpAny_call_entry slot_tuple_getitem ht.typeIs entry_tuple_getitem ?_ (args_tuple_getitem _ _)))
  show wpAny _ _ (Builtin.Tuple.tupleItemsOf (.ref t) >>= _) _ _ s
  refine wpAny_bind (tupleItemsOf_ ht ?_)
  refine wpAny_bind (wpAny_typeOf hTs ?_)
  rw [if_pos (by decide)]
  refine wpAny_bind ?_
  unfold Builtin.Slice.sliceApplied Builtin.Slice.sliceFields
  refine wpAny_bind (wpAny_bind (wpAny_field hos hds (x := vl) rfl (wpAny_bind (wpAny_field hos hds (x := vu) rfl (wpAny_bind (wpAny_field hos hds (x := vs) rfl (wpAny_pure ?_)))))))
  refine wpAny_bind (slicePart_any ps ?_)
  show wpAny _ _ (if ((1 : Int) == 0) = true then _ else _) _ _ s
  rw [if_neg (by decide)]
  refine wpAny_bind (slicePart_any pl (wpAny_bind (slicePart_any pu (wpAny_bind (wpAny_pure ?_)))))
  show wpAny _ _ (match Builtin.Slice.sliceAdjust none (some k) 1 (items.size : Int) with | (lo, hi) => pure (lo, (1 : Int), Builtin.Slice.slicePlaces lo hi 1)) _ _ s
  rw [adjust_upto k items.size]
  show wpAny _ _ (pure ((0 : Int), (1 : Int), Builtin.Slice.slicePlaces (0 : Int) (upk items.size k : Int) 1)) _ _ s
  rw [places_upto]
  refine wpAny_pure ?_
  show wpAny _ _ (if ((0 : Int) == 0 && (1 : Int) == 1 && (upk items.size k == items.size)) = true then _ else _) _ _ s
  by_cases hw : upk items.size k = items.size
  · rw [if_pos (by simp [hw])]
    unfold Builtin.Tuple.tupleIsExact
    refine wpAny_bind (wpAny_bind (wpAny_typeOf ht.typeIs (wpAny_pure ?_)))
    rw [if_pos (by decide)]
    refine wpAny_bind (wpAny_rule ?_)
    exact wpAny_pure (in_1_1 _ rfl (wpAny_pure (h1 hw)))
  · rw [if_neg (by simp [hw]), pick_upto items _ hk]
    first
      | exact wpAny_bind (m := Builtin.Tuple.tupleExact _) (wpAny_newObj_type (wpAny_pure (in_1_1 _ rfl (wpAny_pure h2))) htake)
      | exact wpAny_bind (m := Builtin.Tuple.tupleExact _) (wpAny_newObj_type (wpAny_bind (wpAny_pure (wpAny_pure ⟨_, rfl, wpAny_pure h2⟩))) htake)
      | exact wpAny_bind (wpAny_bind (m := Builtin.Tuple.tupleExact _) (wpAny_newObj_type (wpAny_pure (wpAny_pure ⟨_, rfl, wpAny_pure h2⟩)) htake))
end

section
variable {C : Cx} {dep : Nat} {KF I : IM} {st : CSt} {s : Shared} {Q : CV → CSt → Prop}

theorem WE.dict0 {pos : Pos} (h : ∀ d, st.H d = Option.none → Q (.loc d) { st with H := hput st.H d (.dict []) }) : WE C (.Dict [] [] pos) st Q := fun I KF s S => by
  refine wpAny_Dict_empty ?_
  (refine el_0_1 (S.newH (o := { cls := .type "dict", data := .dict #[] }) (c := .dict []) rfl (in_2_1 0 (#[]) rfl rfl)) fun hn S1 => ?_)
  exact ⟨I, _, .refl I, S1, .loc _, by simp [VR], h _ hn⟩

/-- a part of a slice -/
noncomputable def WP (C : Cx) : Option Expr → CSt → (Option Int → CSt → Prop) → Prop
  | none, st, Q => Q none st
  | some e, st, Q => WE C e st (fun c st' => ∃ i, c = .int i ∧ Q (some i) st')
theorem part_W {e : Option Expr} {Q : Option Int → CSt → Prop} (h : WP C e st Q) (I : IM) : WL C (valueOrNone (evalOpt e C.env)) I st (fun J v st' => ∃ k, IsPart v k ∧ Q k st') := by
  cases e with
  | none => exact WL.pure (in_1_1 none (.none) h)
  | some e =>
    refine (h I).mono (fun J v st' _ hEl => ?_)
    obtain ⟨c, r, i, e, q⟩ := hEl
    subst e
    simp only [VR] at r
    (refine el_1_0 r fun t xEl1 => ?_; try clear r; obtain rfl := xEl1)
    exact (in_1_1 (some i) (.int i t) q)

noncomputable def WSl (C : Cx) (a : CV) (lo hi stp : Option Int) (st : CSt) (Q : CV → CSt → Prop) : Prop :=
  ∀ I v KF s sl vl vu vs, VR I a v → SR C KF I st s → s.heap.IsSliceOf sl vl vu vs → IsPart vl lo → IsPart vu hi → IsPart vs stp →
    (∃ T id, typeLookup (.type T) "__getitem__" = pure (some (.builtin id)) ∧ s.TypeIs v T) ∧
    wpAny (model C.prog C.w) C.A (getItem v (.ref sl)) (fun r s' => OkP C KF I s' fun J st' => ValP J r Q st') (fun e s' => ErP C KF I false e s') s

theorem WE.slice {value : Expr} {lo up stp : Option Expr} {p pos : Pos} (h : WE C value st (fun a st1 => WP C lo st1 (fun l st2 => WP C up st2 (fun u st3 => WP C stp st3 (fun k st4 => WSl C a l u k st4 Q)))))
    (hsl : ∃ ops : Value → Value → List Value, ∀ o i, subscripted (.Slice lo up stp p) false o i = operate (ops o i) (getItem o i) := by first | exact ⟨fun o i => [i, o], fun _ _ => rfl⟩ | exact ⟨fun o i => [o, i], fun _ _ => rfl⟩) : WE C (.Subscript value (.Slice lo up stp p) pos) st Q := fun I => by
  simp only [eval_Subscript]
  refine WL.bind ((h I).mono (fun J a st1 _ hh => hh.use fun ca ra ha => ?_))
  simp only [arm_eval_Slice]
  refine WL.bind (WL.holding (WL.bind ((part_W ha J).mono (fun J2 vl st2 l2 hEl => ?_))))
  (refine el_1_1 hEl fun kl pl q2 => ?_; try clear hEl)
  refine WL.bind (WL.holding ((part_W q2 J2).mono (fun J3 vu st3 l3 hEl => ?_)))
  (refine el_1_1 hEl fun ku pu q3 => ?_; try clear hEl)
  refine WL.bind (WL.holding ((part_W q3 J3).mono (fun J4 vs st4 l4 hEl => ?_)))
  (refine el_1_1 hEl fun ks ps q4 => ?_; try clear hEl)
  intro KF s S
  refine wpAny_newObj_type ?_ (by size_fits)
  (refine el_0_1 (S.newI (o := { cls := .type "slice", data := .fields #[vl, vu, vs] }) rfl) fun l5 S1 => ?_)
  refine ⟨_, st4, l5, S1, ?_⟩
  refine WL.bind (WL.standAt ?_)
  intro KF2 s2 S2
  have hsl2 : s2.heap.IsSliceOf s.heap.objs.size vl vu vs := (in_1_2 _ (S2.imm _ _ (iput_self (I := J4))) rfl rfl)
  (refine el_0_1 (q4 _ _ KF2 s2 _ _ _ _ ((((ra.mono l2).mono l3).mono l4).mono l5) S2 hsl2 pl pu ps) fun xEl0 hg => ?_; (refine el_2_1 xEl0 fun T id hl hT => ?_; try clear xEl0))
  (refine el_1_0 hsl fun ops hops => ?_; try clear hsl)
  exact tail_any hT hl hg (hops _ _)

theorem WSl.tupTo {cs : List CV} {k : Int} (hs : cs.length ≤ 2 ^ 24) (h : Q (.tup (cs.take (upk cs.length k))) st) : WSl C (.tup cs) none (some k) none st Q := fun I v KF s sl vl vu vs r S hsl pl pu ps => by
  have r0 := r
  simp only [VR] at r
  (refine el_3_1 r fun a n xs xEl3 rEl => ?_; try clear r; obtain rfl := xEl3; (refine el_0_1 rEl fun hi hr => ?_; try clear rEl))
  have ht : IsTup s.heap a xs := (in_1_2 _ (S.imm _ _ hi) rfl (in_1_0 n rfl))
  have e : cs.length = xs.size := by have := hr.length; simpa using this
  refine ⟨(in_2_1 ("tuple") _ slot_tuple_getitem.lookup ht.typeIs), getItem_tuple_upto ht hsl pl pu ps (fun hk => ?_) ?_ (by rw [sizeLine_eq]; omega)⟩
  · rw [e, hk, ← e, List.take_length] at h
    exact ⟨I, st, .refl I, S, _, r0, h⟩
  · (refine el_0_1 (S.newI (o := { cls := .type "tuple", data := .seq (xs.toList.take (upk xs.size k)).toArray }) rfl) fun l5 S1 => ?_)
    refine ⟨_, st, l5, S1, _, ?_, h⟩
    simp only [VR]
    refine (in_3_2 _ _ _ rfl iput_self ?_)
    rw [e]
    exact VRs.mono l5 _ _ (by simpa using hr.take (upk xs.size k))

theorem listSlice_W {cs : List CV} {lo hi stp : Option Int} {v : Value} {a sl : Addr} {xs : Array Value} {vl vu vs : Value} (hl : s.heap.IsList a xs) (hr : VRs I cs xs.toList) (S : SR C KF I st s) (hsl : s.heap.IsSliceOf sl vl vu vs) (pl : IsPart vl lo) (pu : IsPart vu hi) (ps : IsPart vs stp)
    (h0 : stp ≠ some 0) (hs : cs.length ≤ 2 ^ 24) (h : Q (.lst (cpick cs lo hi stp)) st) : wpAny (model C.prog C.w) C.A (getItem (.ref a) (.ref sl)) (fun r s' => OkP C KF I s' fun J st' => ValP J r Q st') (fun e s' => ErP C KF I false e s') s := by
  have e : cs.length = xs.size := by have := hr.length; simpa using this
  refine wpAny_getItem_list_slice hl hsl pl pu ps h0 ?_ (by rw [sizeLine_eq]; omega)
  (refine el_0_1 (S.newI (o := { cls := .type "list", data := .seq (slicePick xs lo hi stp) }) rfl) fun l5 S1 => ?_)
  refine ⟨_, st, l5, S1, _, ?_, h⟩
  simp only [VR]
  refine (in_3_2 _ _ _ rfl iput_self (VRs.mono l5 _ _ ?_))
  unfold cpick slicePick
  rw [e]
  exact hr.pick _
theorem WSl.lst {cs : List CV} {lo hi stp : Option Int} (h0 : stp ≠ some 0) (hs : cs.length ≤ 2 ^ 24) (h : Q (.lst (cpick cs lo hi stp)) st) : WSl C (.lst cs) lo hi stp st Q := fun I v KF s sl vl vu vs r S hsl pl pu ps => by
  simp only [VR] at r
  (refine el_3_1 r fun a n xs xEl3 rEl => ?_; try clear r; obtain rfl := xEl3; (refine el_0_1 rEl fun hi' hr => ?_; try clear rEl))
  have hl : s.heap.IsList a xs := (in_1_2 _ (S.imm _ _ hi') rfl (in_1_0 n rfl))
  exact ⟨(in_2_1 ("list") _ slot_list_getitem.lookup hl.typeIs), listSlice_W (v := .none) hl hr S hsl pl pu ps h0 hs h⟩
end
end Mine
open PySem PySem.W PySem.Calls PyProof.Rows
set_option Elab.async false
set_option linter.all false
set_option maxRecDepth 100000
set_option genSizeOf false
namespace Mine

theorem mapSeq_exact (xs : Array Value) (n : Nat) (f : Array Value → Array Value) : ∃ m, Obj.mapSeq f ⟨.type "list", none, .seq xs n, #[]⟩ = ⟨.type "list", none, .seq (f xs) m, #[]⟩ := by
  unfold Obj.mapSeq
  exact (in_1_0 _ rfl)

section
variable {C : Cx} {dep : Nat} {KF I : IM} {st : CSt} {s : Shared} {Q : CV → CSt → Prop}

theorem list_at {a : Addr} {cs : List CV} (S : SR C KF I st s) (hH : st.H a = some (.list cs)) : ∃ n xs, s.heap.get? a = some ⟨.type "list", none, .seq xs n, #[]⟩ ∧ VRs I cs xs.toList ∧ cs.length = xs.size := by
  (refine el_0_2 (S.mu a _ hH) fun _ _ rEl => ?_; (refine el_1_1 rEl fun o ho sEl => ?_; try clear rEl; obtain ⟨n, xs, rfl, hr⟩ := sEl))
  exact (in_2_2 n xs ho hr (by have := hr.length; simpa using this))
theorem list_set {a : Addr} {cs cs' : List CV} {xs ys : Array Value} {n : Nat} {f : Array Value → Array Value} (S : SR C KF I st s) (hH : st.H a = some (.list cs)) (ho : s.heap.get? a = some ⟨.type "list", none, .seq xs n, #[]⟩) (e : f xs = ys) (hr : VRs I cs' ys.toList) (tk : Nat) :
    SR C KF I { st with H := hput st.H a (.list cs') } { s with heap := s.heap.update a (Obj.mapSeq f), toks := tk } := by
  (refine el_1_0 (mapSeq_exact xs n f) fun m hm => ?_)
  refine S.setH (tk := tk) (c := .list cs') hH (fun b o hb e => ((Heap.SameBut.update s.heap a _).2 b hb).trans e) (Heap.get?_update_self (Obj.mapSeq f) ho (by rw [hm]; rfl)) ?_
  rw [hm, e]
  exact (in_2_1 _ _ rfl hr)

-- lengths
theorem WCall.lenT {cs : List CV} (hs : cs.length ≤ 2 ^ 24) (h : Q (.int cs.length) st) : WCall C (.builtin "len") [.tup cs] [] [] st Q := fun I us vs' r1 r2 KF s S => by
  (revert r1; intro hfEl; refine el_2_1 hfEl.uncons fun x us1 xEl2 rEl => ?_; try clear hfEl; obtain rfl := xEl2; (refine el_0_1 rEl fun ra r1 => ?_; try clear rEl))
  have := r1.nil_iff; subst this
  rw [zip_nil_left]
  simp only [VR] at ra
  (refine el_3_1 ra fun a n xs xEl3 rEl => ?_; try clear ra; obtain rfl := xEl3; (refine el_0_1 rEl fun hi hr => ?_; try clear rEl))
  have ht : IsTup s.heap a xs := (in_1_2 _ (S.imm _ _ hi) rfl (in_1_0 n rfl))
  have e : cs.length = xs.size := by have := hr.length; simpa using this
  refine Calls.call_function_entry kind_len plain_len entry_len (args_len1 _) (len_body_tuple ht (by omega) ?_)
  exact ⟨I, st, .refl I, S.toks _, .int cs.length, by simp only [VR]; exact (in_1_0 _ (by rw [e])), h⟩
theorem WCall.lenL {cs : List CV} (hs : cs.length ≤ 2 ^ 24) (h : Q (.int cs.length) st) : WCall C (.builtin "len") [.lst cs] [] [] st Q := fun I us vs' r1 r2 KF s S => by
  (revert r1; intro hfEl; refine el_2_1 hfEl.uncons fun x us1 xEl2 rEl => ?_; try clear hfEl; obtain rfl := xEl2; (refine el_0_1 rEl fun ra r1 => ?_; try clear rEl))
  have := r1.nil_iff; subst this
  rw [zip_nil_left]
  simp only [VR] at ra
  (refine el_3_1 ra fun a n xs xEl3 rEl => ?_; try clear ra; obtain rfl := xEl3; (refine el_0_1 rEl fun hi hr => ?_; try clear rEl))
  have hl : s.heap.IsList a xs := (in_1_2 _ (S.imm _ _ hi) rfl (in_1_0 n rfl))
  have e : cs.length = xs.size := by have := hr.length; simpa using this
  exact call_len_list hl (by omega) ⟨I, st, .refl I, S.toks _, .int cs.length, by simp only [VR]; exact (in_1_0 _ (by rw [e])), h⟩
theorem WCall.range1 {b : Int} (h : Q (.rng 0 b) st) : WCall C (.type "range") [.int b] [] [] st Q := fun I us vs' r1 r2 KF s S => by
  (revert r1; intro hfEl; refine el_2_1 hfEl.uncons fun x us1 xEl2 rEl => ?_; try clear hfEl; obtain rfl := xEl2; (refine el_0_1 rEl fun ra r1 => ?_; try clear rEl))
  have := r1.nil_iff; subst this
  rw [zip_nil_left]
  simp only [VR] at ra
  (refine el_1_0 ra fun t xEl1 => ?_; try clear ra; obtain rfl := xEl1)
  refine call_range_1 ?_
  (refine el_0_1 (S.newI (o := { cls := .type "range", data := .fields #[.int 0 s.toks, .int b t, .int 1 (s.toks + 1)] }) rfl) fun l5 S1 => ?_)
  refine ⟨_, st, l5, S1.toks _, .rng 0 b, ?_, h⟩
  simp only [VR]
  exact (in_4_1 _ _ _ _ rfl iput_self)

-- truth
theorem Wtr.tup {cs : List CV} {Q : Bool → CSt → Prop} (hs : cs.length ≤ 2 ^ 24) (h : Q (!cs.isEmpty) st) : Wtr C (.tup cs) st Q := fun I v r KF s S => by
  simp only [VR] at r
  (refine el_3_1 r fun a n xs xEl3 rEl => ?_; try clear r; obtain rfl := xEl3; (refine el_0_1 rEl fun hi hr => ?_; try clear rEl))
  have ht : IsTup s.heap a xs := (in_1_2 _ (S.imm _ _ hi) rfl (in_1_0 n rfl))
  have e : cs.length = xs.size := by have := hr.length; simpa using this
  have e2 : xs.isEmpty = cs.isEmpty := by
    cases cs with
    | nil => simp at e ⊢; exact Array.eq_empty_of_size_eq_zero e.symm
    | cons _ _ => simp at e ⊢; intro q; rw [q] at e; simp at e
  refine truthy_tuple ht (by omega) ?_
  rw [e2]
  exact ⟨I, st, .refl I, S.toks _, h⟩

-- a list's methods
theorem WMeth.listLoc {cs} {a : Addr} {name : Str} {id : String} (hH : st.H a = some (.list cs)) (slot : Slot "list" name id) (hty : typeOf (.builtin id) = pure (.type "method_descriptor")) : WMeth C (.loc a) name (.builtin id) st := fun I v KF s pl E Q r S q => by
  simp only [VR] at r; subst r
  (refine el_2_1 (list_at S hH) fun n xs ho _ => ?_)
  exact getMethod_builtin (in_1_1 _ ho rfl) F.plainAttrs_list slot hty (fun b e => by cases e; exact (in_1_1 _ ho rfl)) (q s.toks)
theorem WMeth.lst {cs : List CV} {name : Str} {id : String} (slot : Slot "list" name id) (hty : typeOf (.builtin id) = pure (.type "method_descriptor")) : WMeth C (.lst cs) name (.builtin id) st := fun I v KF s pl E Q r S q => by
  simp only [VR] at r
  (refine el_3_1 r fun a n xs xEl3 rEl => ?_; try clear r; obtain rfl := xEl3; (refine el_0_1 rEl fun hi hr => ?_; try clear rEl))
  exact getMethod_builtin (in_1_1 _ (S.imm _ _ hi) rfl) F.plainAttrs_list slot hty (fun b e => by cases e; exact (in_1_1 _ (S.imm _ _ hi) rfl)) (q s.toks)

theorem WCall.extend {a : Addr} {cs ds : List CV} (hH : st.H a = some (.list cs)) (hs : cs.length + ds.length ≤ 2 ^ 23) (h : Q .none { st with H := hput st.H a (.list (cs ++ ds)) }) : WCall C (.builtin "list.extend") [.loc a, .lst ds] [] [] st Q := fun I us vs' r1 r2 KF s S => by
  (revert r1; intro hfEl; refine el_2_1 hfEl.uncons fun x us1 xEl2 rEl => ?_; try clear hfEl; obtain rfl := xEl2; (refine el_0_1 rEl fun ra r1 => ?_; try clear rEl))
  (revert r1; intro hfEl; refine el_2_1 hfEl.uncons fun y us2 xEl2 rEl => ?_; try clear hfEl; obtain rfl := xEl2; (refine el_0_1 rEl fun rc r1 => ?_; try clear rEl))
  have := r1.nil_iff; subst this
  rw [zip_nil_left]
  simp only [VR] at ra rc; subst ra
  (refine el_3_1 rc fun b m ys xEl3 rEl => ?_; try clear rc; obtain rfl := xEl3; (refine el_0_1 rEl fun hi hr' => ?_; try clear rEl))
  (refine el_2_2 (list_at S hH) fun n xs ho hr e => ?_)
  have e' : ds.length = ys.size := by have := hr'.length; simpa using this
  have hz : xs.size ≤ sizeLine := by rw [sizeLine_eq]; omega
  have hz2 : xs.size + ys.size ≤ sizeLine := by rw [sizeLine_eq]; omega
  refine call_meets F.slot_list_extend (in_1_1 _ ho rfl) F.entry_list_extend (F.args_list_extend_2 _ _) (AutoSeq1.list_extend_list_list_0 a xs n b ys m (by
    unfold Builtin.List.listTooLong
    simp only [Bool.and_eq_true, decide_eq_true_eq, not_and]
    intro _
    rw [sizeLine_eq] at *
    (exact Nat.not_lt_of_le (by assumption))) hz (by (exact Nat.le_succ_of_le (by assumption)))) (in_0_2 ho (S.imm _ _ hi) ?_)
  exact ⟨I, _, .refl I, list_set S hH ho rfl (by simpa using hr.append hr') s.toks, .none, by simp [VR], h⟩

/-- list(x) -/
theorem WCall.listOf {cs : List CV} (hs : cs.length ≤ 2 ^ 23) (h : ∀ a, st.H a = Option.none → Q (.loc a) { st with H := hput st.H a (.list cs) }) : WCall C (.type "list") [.lst cs] [] [] st Q := fun I us vs' r1 r2 KF s S => by
  (revert r1; intro hfEl; refine el_2_1 hfEl.uncons fun x us1 xEl2 rEl => ?_; try clear hfEl; obtain rfl := xEl2; (refine el_0_1 rEl fun ra r1 => ?_; try clear rEl))
  have := r1.nil_iff; subst this
  rw [zip_nil_left]
  simp only [VR] at ra
  (refine el_3_1 ra fun a n xs xEl3 rEl => ?_; try clear ra; obtain rfl := xEl3; (refine el_0_1 rEl fun hi hr => ?_; try clear rEl))
  have e : cs.length = xs.size := by have := hr.length; simpa using this
  refine call_list_seq a (.inl rfl) (S.imm _ _ hi) rfl rfl (fun h' c' hk ho => ?_) (by rw [sizeLine_eq]; omega)
  (refine el_0_3 S.fresh' fun n1 n2 n3 n4 => ?_)
  have S1 : SR C KF I st { s with heap := h', toks := s.toks } := S.keeps hk
  exact ⟨I, _, .refl I, S1.addH (c := .list cs) S.big ho n1 n2 n4 (in_2_1 _ _ rfl hr), .loc _, by simp [VR], h _ n3⟩

/-- l.index(x) -/
theorem indexIn_W {a : Addr} {cs : List CV} {b : CV} {xs : Array Value} {n j : Nat} {u : Value} (S : SR C KF I st s) (ok : C.Ok dep) (ho : s.heap.get? a = some ⟨.type "list", none, .seq xs n, #[]⟩) (hr : VRs I cs xs.toList) (rb : VR I b u) (pa : isPys cs = true) (pb : isPy b = true) (hd : (toPy b).depth ≤ 100)
    (hs : cs.length ≤ 2 ^ 24) (hj : j < cs.length) (hit : (cs[j]?.map fun c => ceq c b) = some true) (hno : ∀ m, m < j → (cs[m]?.map fun c => ceq c b) = some false) (h : Q (.int j) st) :
    wpAny (model C.prog C.w) C.A (PySem.call (.builtin "list.index") [.ref a, u]) (fun r s' => OkP C KF I s' fun J st' => ValP J r Q st') (fun e s' => ErP C KF I false e s') s := by
  have e : cs.length = xs.size := by have := hr.length; simpa using this
  have at_ : ∀ m (hm : m < xs.size), (cs[m]?.map fun c => ceq c b) = some (eqTo s.heap (toPy b) xs[m]) := by
    intro m hm
    (refine el_1_1 (hr.get (i := m) (c := cs[m]) (by simp [show m < cs.length by omega])) fun v hv rv => ?_)
    have hv' : xs[m] = v := by simp [hm] at hv; exact hv
    rw [hv', List.getElem?_eq_getElem (show m < cs.length by omega)]
    (refine el_0_1 (VR.reads S.imm _ v (isPys_all.mp pa _ (List.getElem_mem (show m < cs.length by omega))) rv) fun xEl0 a2 => ?_; (refine el_1_0 xEl0 fun as a1 => ?_; try clear xEl0))
    rw [eqTo_of a2 a1]; rfl
  refine call_meets F.slot_list_index (in_1_1 _ ho rfl) F.entry_list_index (F.args_list_index_2 _ _) (SeqAt.list_indexAt a xs n none #[] u (eqTo s.heap (toPy b)) j (by omega) (by omega) ?_ ?_) (in_0_2 ho (fun y hy => eqAt_items S ok pb hd rb pa hr y (by simpa using hy)) ?_)
  · have := at_ j (by omega); rw [hit] at this; exact (Option.some.inj this).symm
  · intro m hm hmj; have := at_ m hm; rw [hno m hmj] at this; exact (Option.some.inj this).symm
  · exact ⟨I, st, .refl I, S.toks _, .int j, by simp [VR], h⟩
theorem WCall.indexL {cs : List CV} {b : CV} {j : Nat} (ok : C.Ok dep) (pa : isPys cs = true) (pb : isPy b = true) (hd : (toPy b).depth ≤ 100) (hs : cs.length ≤ 2 ^ 24) (hj : j < cs.length) (hit : (cs[j]?.map fun c => ceq c b) = some true)
    (hno : ∀ m, m < j → (cs[m]?.map fun c => ceq c b) = some false) (h : Q (.int j) st) : WCall C (.builtin "list.index") [.lst cs, b] [] [] st Q := fun I us vs' r1 r2 KF s S => by
  (revert r1; intro hfEl; refine el_2_1 hfEl.uncons fun x us1 xEl2 rEl => ?_; try clear hfEl; obtain rfl := xEl2; (refine el_0_1 rEl fun ra r1 => ?_; try clear rEl))
  (revert r1; intro hfEl; refine el_2_1 hfEl.uncons fun y us2 xEl2 rEl => ?_; try clear hfEl; obtain rfl := xEl2; (refine el_0_1 rEl fun rc r1 => ?_; try clear rEl))
  have := r1.nil_iff; subst this
  rw [zip_nil_left]
  simp only [VR] at ra
  (refine el_3_1 ra fun a n xs xEl3 rEl => ?_; try clear ra; obtain rfl := xEl3; (refine el_0_1 rEl fun hi hr => ?_; try clear rEl))
  exact indexIn_W S ok (S.imm _ _ hi) hr rc pa pb hd hs hj hit hno h

/-- a list's item is laid -/
theorem setAt_any {prog : Program} {w : World} {A : Around} {E : Value → Shared → Prop} {s : Shared} {l : Addr} {items : Array Value} {n : Nat} {k : Int} {t : Tok} {v : Value} {Q : Unit → Shared → Prop} (ho : s.heap.get? l = some ⟨.type "list", none, .seq items n, #[]⟩)
    (h0 : 0 ≤ k) (hfit : k < 2 ^ 63) (hn : k < items.size) (hQ : Q () { s with heap := s.heap.update l (Obj.mapSeq (·.setIfInBounds k.toNat v)) }) : wpAny (model prog w) A (setItem (.ref l) (.int k t) v) Q E s := by
  have hl : s.heap.IsList l items := (in_1_2 _ ho rfl (in_1_0 n rfl))
  unfold setItem
  try with_reducible refine wpAny_holding ?_
  first | refine wpAny_bind (wpAny_pure ?_) | skip
  refine wpAny_bind (wpAny_sequenceKey hl.typeIs (by decide) ?_)
  refine wpAny_bind (wpAny_callSpecial?_slot (name := Str.ofString "__setitem__") hl.typeIs slot_list_setitem
    (wpAny_call_entry slot_list_setitem hl.typeIs entry_list_setitem ?_ (args_list_setitem _ _ _)))
  show wpAny _ _ (Builtin.List.listSubscript? (.int k t) >>= _) _ _ s
  refine wpAny_bind (wpAny_listSubscript_int (fitsIndex_of h0 hfit) ?_)
  clear hfit
  (refine el_1_0 (Int.eq_ofNat_of_zero_le h0) fun j xEl1 => ?_; obtain rfl := xEl1)
  have hj : j < items.size := by omega
  have hx' : items[j]? = some items[j] := Array.getElem?_eq_getElem hj
  show wpAny _ _ ((seqItemAt l j >>= fun r => pure (r.map (j, ·))) >>= _) _ _ s
  refine wpAny_bind (wpAny_bind (wpAny_seqItemAt ho rfl (wpAny_pure ?_)))
  rw [hx']
  show wpAny _ _ (setSeqItemAt l j v >>= _) _ _ s
  refine wpAny_bind (wpAny_setSeqItemAt ho rfl ?_)
  first
    | exact wpAny_bind (wpAny_pure (wpAny_pure (in_1_1 (.none) rfl (wpAny_pure hQ))))
    | exact wpAny_pure (in_1_1 (.none) rfl (wpAny_pure hQ))
theorem setItemL_W {a : Addr} {cs : List CV} {k : Nat} {c : CV} {t : Tok} {v : Value} {Q : CSt → Prop} (hH : st.H a = some (.list cs)) (hk : k < cs.length) (hn : cs.length ≤ 2 ^ 24) (rv : VR I c v) (h : Q { st with H := hput st.H a (.list (cs.set k c)) }) :
    WL C (setItem (.ref a) (.int k t) v) I st (fun _ _ st' => Q st') := fun KF s S => by
  (refine el_2_2 (list_at S hH) fun n xs ho hr e => ?_)
  refine setAt_any ho (by (exact Int.natCast_nonneg _)) (by omega) (by omega) ?_
  have := list_set (cs' := cs.set k c) (ys := xs.setIfInBounds k v) (f := fun x => x.setIfInBounds (k : Int).toNat v) S hH ho (by simp only [Int.toNat_natCast]) (by simpa using hr.set k rv) s.toks
  exact ⟨I, _, .refl I, this, h⟩
theorem WA.subL {o i : Expr} {pos : Pos} {c : CV} {Q : CSt → Prop} (h : WE C o st (fun a st1 => WE C i st1 (fun b st2 => ∃ l cs, ∃ k : Nat, a = .loc l ∧ b = .int k ∧ st2.H l = some (.list cs) ∧ k < cs.length ∧ cs.length ≤ 2 ^ 24 ∧ Q { st2 with H := hput st2.H l (.list (cs.set k c)) }))) :
    WA C (assign (.Subscript o i pos) C.env) c st Q :=
  WA.sub (h.mono (fun a st1 q0 => q0.mono (fun b st2 ⟨d, cs, k, e1, e2, hH, hnd, hn, q⟩ I v u w r1 r2 r3 => by
    subst e1 e2
    simp only [VR] at r1 r2; subst r1
    (refine el_1_0 r2 fun t xEl1 => ?_; try clear r2; obtain rfl := xEl1)
    exact setItemL_W hH hnd hn r3 q)))
end
end Mine
open PySem PySem.W PySem.Calls PyProof.Rows
set_option Elab.async false
set_option linter.all false
set_option maxRecDepth 100000
set_option genSizeOf false
namespace Mine

section
variable {C : Cx} {dep : Nat} {KF I J : IM} {st : CSt} {s : Shared} {H : CH}

/-- a name's value is known otherwise as well -/
theorem SR.rename {x : Str} {c c' : CV} (S : SR C KF I st s) (hx : st.lo x = some c) (h : ∀ u, VR I c u → VR I c' u) : SR C KF I ⟨lput st.lo x c', st.H⟩ s := by
  obtain ⟨⟨m, hn, h1⟩, h2, h3, h4⟩ := S.loc
  refine ⟨S.kle, S.low, S.same, S.base, S.imm, S.frs, S.own, S.mu, ⟨(in_1_1 m hn (fun y v hy hk => ?_)), fun y v hy hk => ?_, fun y v hy hk => ?_, h4⟩⟩
  · change lput st.lo x c' y = some v at hy
    unfold lput at hy
    by_cases q : y = x
    · subst q; simp at hy; subst hy
      (refine el_1_1 (h1 y c hx hk) fun u a b => ?_)
      exact (in_1_1 u a (h u b))
    · simp [q] at hy; exact h1 y v hy hk
  · change lput st.lo x c' y = some v at hy
    unfold lput at hy
    by_cases q : y = x
    · subst q; simp at hy; subst hy
      (refine el_2_2 (h2 y c hx hk) fun cc u a b e => ?_)
      exact (in_2_2 cc u a b (h u e))
    · simp [q] at hy; exact h2 y v hy hk
  · change lput st.lo x c' y = some v at hy
    unfold lput at hy
    by_cases q : y = x
    · subst q; simp at hy; subst hy
      (refine el_3_3 (h3 y c hx hk) fun cc o u a b e f => ?_)
      exact (in_3_3 cc o u a b e (h u f))
    · simp [q] at hy; exact h3 y v hy hk

/-- a list is turned no more -/
theorem WSs.freeze {ss : List Stmt} {x : Str} {a : Addr} {cs : List CV} {Q : CF → CSt → Prop} (hx : st.lo x = some (.loc a)) (hH : st.H a = some (.list cs)) (h : WSs C ss ⟨lput st.lo x (.lst cs), hdel st.H a⟩ Q) : WSs C ss st Q := fun I KF s S => by
  (refine el_1_2 (S.freeze hH) fun J l S' r => ?_)
  have S2 : SR C KF J ⟨lput st.lo x (.lst cs), hdel st.H a⟩ s := S'.rename (c := .loc a) hx fun u hu => by simp only [VR] at hu; subst hu; exact r
  refine wpAny_mono (h J KF s S2) (fun f s' hh => hh.use fun J2 st' l2 S3 q => ⟨J2, st', l.trans l2, S3, q⟩) fun e s' hF => hF.elim

/-- the lists within a list are turned no more -/
noncomputable def without' (H : CH) (ps : List Addr) : CH := fun b => if b ∈ ps then none else H b
theorem SR.freezeIn {a : Addr} : ∀ (ps : List (Addr × List CV)) (pre : List CV) {I : IM} {H : CH} {lo : Str → Option CV}, SR C KF I ⟨lo, H⟩ s → (ps.map (·.1)).Nodup → a ∉ ps.map (·.1) → (∀ p ∈ ps, H p.1 = some (.list p.2)) → H a = some (.list (pre ++ ps.map fun p => CV.loc p.1)) →
    ∃ J, ILe I J ∧ SR C KF J ⟨lo, hput (without' H (ps.map (·.1))) a (.list (pre ++ ps.map fun p => CV.lst p.2))⟩ s
  | [], pre, I, H, lo, S, _, _, _, hH => by
    refine (in_1_1 I (.refl I) ?_)
    have : hput (without' H (([] : List (Addr × List CV)).map (·.1))) a (.list (pre ++ ([] : List (Addr × List CV)).map fun p => CV.lst p.2)) = H := by
      funext b
      unfold hput without'
      split
      · rename_i q; subst q; rw [hH]; rfl
      · rfl
    rw [this]; exact S
  | (p, ds) :: ps, pre, I, H, lo, S, hnd, ha, hp, hH => by
    rw [List.map_cons, List.nodup_cons] at hnd
    simp only [List.map_cons, List.mem_cons, not_or] at ha
    have hap : a ≠ p := ha.1
    (refine el_1_2 (S.freeze (hp (p, ds) List.mem_cons_self)) fun J l S' r => ?_)
    have hHa : hdel H p a = some (.list (pre ++ CV.loc p :: ps.map fun p => CV.loc p.1)) := by rw [hdel_ne hap, hH]; rfl
    (refine el_0_2 (S'.mu a _ hHa) fun i1 i2 rEl => ?_; (refine el_1_1 rEl fun o ho sEl => ?_; try clear rEl; obtain ⟨n, xs, rfl, hr⟩ := sEl))
    have S2 : SR C KF J ⟨lo, hput (hdel H p) a (.list ((pre ++ [CV.lst ds]) ++ ps.map fun p => CV.loc p.1))⟩ s := by
      refine S'.setH (h' := s.heap) (tk := s.toks) (c := .list ((pre ++ [CV.lst ds]) ++ ps.map fun p => CV.loc p.1)) hHa (fun b o _ e => e) ho (in_2_1 n xs rfl ?_)
      (refine el_0_1 (VRs.split pre.length hr) fun r1 r2 => ?_)
      rw [List.take_left' rfl] at r1
      rw [List.drop_left' rfl] at r2
      (refine el_2_2 r2.uncons fun y ys e2 r3 r4 => ?_)
      simp only [VR] at r3; subst r3
      rw [← List.take_append_drop pre.length xs.toList, e2, List.append_assoc]
      exact r1.append (.cons r r4)
    obtain ⟨J2, l2, S3⟩ := SR.freezeIn ps (pre ++ [CV.lst ds]) S2 hnd.2 ha.2 (fun q hq => by
      have h1 : q.1 ≠ a := fun e => ha.2 (by rw [← e]; exact List.mem_map_of_mem hq)
      have h2 : q.1 ≠ p := fun e => hnd.1 (by show p ∈ _; rw [← e]; exact List.mem_map_of_mem hq)
      show hput (hdel H p) a _ q.1 = _
      rw [hput_ne h1, hdel_ne h2]; exact hp q (List.mem_cons_of_mem _ hq)) (by show hput (hdel H p) a _ a = _; simp)
    refine (in_1_1 J2 (l.trans l2) ?_)
    have e : hput (without' (hput (hdel H p) a (.list ((pre ++ [CV.lst ds]) ++ ps.map fun p => CV.loc p.1))) (ps.map (·.1))) a (.list ((pre ++ [CV.lst ds]) ++ ps.map fun p => CV.lst p.2)) = hput (without' H (((p, ds) :: ps).map (·.1))) a (.list (pre ++ ((p, ds) :: ps).map fun p => CV.lst p.2)) := by
      funext b
      unfold hput without' hdel
      by_cases q : b = a
      · subst q; simp
      · by_cases q2 : b = p
        · subst q2; simp [q]
        · have e3 : b ∈ List.map (fun x => x.1) ((p, ds) :: ps) ↔ b ∈ List.map (fun x => x.1) ps := by
            rw [List.map_cons, List.mem_cons]; exact ⟨fun h => h.resolve_left q2, .inr⟩
          simp only [if_neg q, if_neg q2, e3]
    rw [e] at S3; exact S3
theorem WSs.freezeIn {ss : List Stmt} {a : Addr} {ps : List (Addr × List CV)} {Q : CF → CSt → Prop} (hnd : (ps.map (·.1)).Nodup) (ha : a ∉ ps.map (·.1)) (hp : ∀ p ∈ ps, st.H p.1 = some (.list p.2)) (hH : st.H a = some (.list (ps.map fun p => CV.loc p.1)))
    (h : WSs C ss ⟨st.lo, hput (without' st.H (ps.map (·.1))) a (.list (ps.map fun p => CV.lst p.2))⟩ Q) : WSs C ss st Q := fun I KF s S => by
  (refine el_1_1 (SR.freezeIn ps [] (lo := st.lo) (H := st.H) S hnd ha hp (by simpa using hH)) fun J l S' => ?_)
  exact wpAny_mono (h J KF s S') (fun f s' hh => hh.use fun J2 st' l2 S3 q => ⟨J2, st', l.trans l2, S3, q⟩) fun e s' hF => hF.elim
end
end Mine
open PySem PySem.W PySem.Calls PyProof.Rows
set_option Elab.async false
set_option linter.all false
set_option maxRecDepth 100000
set_option genSizeOf false
namespace Mine
/-- a def is called from outside; it answers True -/
theorem topCall_W {prog : Program} {w : World} {A : Around} {s : Shared} {K : Frag} {mg mb : Str → Option Value} {fa : Addr} {fo : Obj} {fd : FuncData} {body : List Stmt} {args : List CV} {pn : List Str} {dep : Nat} {us : List Value}
    (hK : K.In s.heap) (hg : s.heap.Ns mainGlobals mg) (hbn : s.heap.Ns builtinsNs mb) (hnl : s.heap.NoLimit) (hboot : ∀ x : Str, x ≠ "__name__" → mb x = bootBuiltins x) (hh : A.handled = none) (hu : A.units + 10 * (dep + 1) + 200 < cLine) (hdp : A.depth + 3 * (dep + 1) + 20 < recursionLimit) (hf : A.frames = some [])
    (hlow : ∃ b o, sysModules < b ∧ s.heap.get? b = some o) (hfo : s.heap.get? fa = some fo) (hfd : fo.data = .func fd) (hcode : s.heap.CodeRec fd.code fd.qualname) (hbody : fd.body = .stmts body) (hclo : fd.closure = []) (hgl0 : fd.globals = mainGlobals) (hbl0 : fd.builtins = builtinsNs) (hco : fd.scope.isCoroutine = false) (hgen : fd.scope.isGenerator = false) (hfk : fd.scope.kind = .function)
    (hb : bindArgs fd ⟨us, []⟩ = pure (pn.zip us)) (hkind : (pn.all fun x => storeKind (fd.scope.names.lookup x)) = true) (hnd : pn.Nodup) (hfree : (fd.scope.names.all fun x => x.2 != .free) = true) (hcn : ((fd.scope.names.filter fun x => x.2 == .cell).map (·.1)).Nodup)
    (rr : VRs (fun a => s.heap.get? a) args us)
    (h : ∀ C' : Cx, C'.Ok dep → C'.base = s.heap → C'.K = K → C'.mg = mg → C'.mb = mb → C'.prog = prog → C'.w = w → C'.env.scope = fd.scope → WSs C' body ⟨fun x => (pn.zip args).lookup x, fun _ => none⟩ (fun f _ => f.val = .bool true)) :
    codeAny (model prog w) A (.call (.ref fa) ⟨us, []⟩) (fun r s' => r = .ok (.ret (.bool true)) ∧ (∀ b o, s.heap.get? b = some o → s'.heap.get? b = some o) ∧ ∃ h tk dr, s' = { s with heap := h, toks := tk, drawn := dr }) s := by
  refine codeAny_call_function (A := A) (by omega) hfo hfd hco hgen hbody hcode ?_
  rw [hb]
  refine wpAny_pure ?_
  rw [hclo, hgl0, hbl0]
  refine wpAny_newFunctionEnv_cells hfk (fun x hx => ?_) fun env' he s₁ x => ?_
  · have hm : x.1 ∈ pn := by
      have := List.mem_map_of_mem (f := Prod.fst) hx
      exact (zip_map_fst _ _).subset this
    have := List.all_eq_true.mp hkind _ hm
    cases q : fd.scope.names.lookup x.1 with
    | none => rw [q] at this; cases this
    | some k =>
      rw [q] at this
      cases k <;> first | exact .inl rfl | (cases this; done) | skip
      exact .inr ⟨rfl, cellsFrom_some _ _ _ (.inl q)⟩
  (refine el_2_0 x.toInCall.same fun h₁ tk₁ hs₁ => ?_)
  have keep := x.toInCall.keep
  have hL : env'.locals = s.heap.objs.size := by rw [he]; rfl
  have hcl : env'.cells = cellsFrom (s.heap.objs.size + 1) fd.scope.names [] := by rw [he]; rfl
  have hsc : env'.scope = fd.scope := by rw [he]; rfl
  have hfr : env'.frame = some env'.locals := by rw [he]; rfl
  have hgl : env'.globals = mainGlobals := by rw [he]; rfl
  have hbl : env'.builtins = builtinsNs := by rw [he]; rfl
  have hkd : ∀ y, env'.kindOf y = fd.scope.names.lookup y := fun y => by unfold Env.kindOf; rw [hsc]
  have noGet : ∀ a, s.heap.objs.size ≤ a → s.heap.get? a = none := fun a ha => by
    cases q : s.heap.get? a with
    | none => rfl
    | some o => exact absurd (Heap.lt_size q) (Nat.not_lt.mpr ha)
  have noL : s.heap.get? env'.locals = none := by rw [hL]; exact noGet _ (Nat.le_refl _)
  let C' : Cx := { prog := prog, w := w, A := A.deeper env', env := env', base := s.heap, outer := [], K := K, mg := mg, mb := mb, KF := fun _ => none, s0 := s }
  let I : IM := fun a => s.heap.get? a
  have own' : ∀ a, C'.Own a → s.heap.get? a = none := by
    intro a ha
    (refine Or.elim ha (fun ha => ?aElo) (fun xElo => ?bElo); (case' bElo => try clear ha; (refine el_1_1 xElo fun y hy hl => ?_; try clear xElo)); (case' aElo => skip))
    · exact (congrArg s.heap.get? ha).trans noL
    · have := x.above y a (mem_of_lookup hl)
      rw [hL] at this; exact noGet a (Nat.le_of_lt this)
  have apart := x.apart
  have ok' : C'.Ok dep := by
    refine ⟨by show env'.scope.kind = _; rw [hsc]; exact hfk, hgl, hbl, hK, hg, hbn, hnl, hboot, hh, ?_, ?_, fun y z c hy hz h1 h2 => ?_, fun y hy h1 => ?_, noL⟩
    · show A.units + 3 + _ + 200 < cLine
      omega
    · show A.depth + 1 + _ + 20 < recursionLimit
      omega
    · exact name_of_addr apart (mem_of_lookup h1) (mem_of_lookup h2)
    · have := x.above y _ (mem_of_lookup h1)
      exact absurd this (Nat.lt_irrefl _)
  have S' : SR C' (fun _ => none) I ⟨fun x => (pn.zip args).lookup x, fun _ => none⟩ s₁ := by
    refine ⟨fun a o e => (by cases e), ⟨hlow, fun a c e => (by cases e)⟩, (in_3_0 h₁ tk₁ s.drawn (by rw [hs₁])), fun b o e => e, fun a o e => keep a o e, fun a o e => (by cases e), fun a ha => (in_0_2 (own' a ha) rfl rfl), fun a c e => (by cases e), ?_⟩
    have ndz : ((pn.zip us).map (·.1)).Nodup := (zip_map_fst _ _).nodup hnd
    refine ⟨(in_1_1 _ x.toInCall.ns (fun y v hy hky => ?_)), fun y v hy hky => ?_, fun y v hy hky => ?_, fun y hky => ?_⟩
    · (refine el_1_1 (zip_lookup rr hy) fun u h1 h2 => ?_)
      exact (in_1_1 u (bindL_of _ y u hky _ _ ndz h1) h2)
    · (refine el_1_1 (zip_lookup rr hy) fun u h1 h2 => ?_)
      obtain ⟨c, hc⟩ : ∃ c, env'.cells.lookup y = some c := by
        rw [hcl]; exact Option.isSome_iff_exists.mp (cellsFrom_some _ _ _ (.inl ((hkd y).symm.trans hky)))
      refine (in_2_2 c u hc ?_ h2)
      have hce := x.cell y c hc
      rwa [bindC_of _ y u (by rw [hky]; decide) _ _ ndz h1] at hce
    · exfalso
      change env'.kindOf y = _ at hky
      rw [hkd y] at hky
      have := List.all_eq_true.mp hfree (y, .free) (mem_of_lookup hky)
      simp at this
    · obtain ⟨c, hc⟩ : ∃ c, env'.cells.lookup y = some c := by
        rw [hcl]; exact Option.isSome_iff_exists.mp (cellsFrom_some _ _ _ (.inl ((hkd y).symm.trans hky)))
      exact (in_2_1 c _ hc (x.cell y c hc))
  refine ⟨hnl.keeps keep, ?_⟩
  refine codeAny_func ?_
  refine wpAny_mono (h C' ok' rfl rfl rfl rfl rfl rfl hsc I _ s₁ S') (fun f s2 ⟨J, st2, l2, S2, b, hb2, q2⟩ => ?_) fun e s2 hF => hF.elim
  refine (in_0_2 ?_ (fun b o e => S2.imm b o (S2.base b o e)) S2.same)
  cases b with
  | next => cases q2
  | brk => cases q2
  | cont => cases q2
  | ret c =>
    (refine el_1_1 hb2 fun u xEl1 r => ?_; try clear hb2; obtain rfl := xEl1)
    have : c = .bool true := q2
    subst this
    simp only [VR] at r
    rw [r]
end Mine
open PySem PySem.W PySem.Calls PyProof.Rows
set_option Elab.async false
set_option linter.all false
set_option maxRecDepth 100000
set_option genSizeOf false
namespace Mine

set_option genInjectivity false in
/-- a node of the flags' tree: its own dict, the two sets, the dict below; the flags, those for all below, the names below -/
structure FNode where
  node : Addr
  fa : Addr
  ra : Addr
  da : Addr
  fs : List Int
  rs : List Int
  ks : List Str

noncomputable def fnames : List Str := ["a", "b", "a.b"]
noncomputable def fnums : List Int := [0, 1, 2, 3]
noncomputable abbrev FN := List Str → Option FNode
noncomputable abbrev FO := Addr → Option (List Str × Nat)
noncomputable def na (N : FN) (q : List Str) : Addr := match N q with | some nd => nd.node | none => 0
noncomputable def kids (N : FN) (p : List Str) (nd : FNode) : List (Str × CV) := nd.ks.map fun k => (k, CV.loc (na N (p ++ [k])))
noncomputable def nodeD (nd : FNode) : List (Str × CV) := [("flags", .loc nd.fa), ("recursive_flags", .loc nd.ra), ("nested", .loc nd.da)]

/-- a Flags object of the clean heap -/
structure FW (H : CH) (cl x d pa : Addr) (N : FN) (ow : FO) (pend : CO) : Prop where
  obj : H x = some (.inst cl d)
  attrs : ∃ r, N [] = some r ∧ H d = some (.dict [("_flags", .loc r.da), ("_pending_flags", .loc pa)])
  pend : H pa = some pend
  dict : ∀ p nd, N p = some nd → H nd.da = some (.dict (kids N p nd))
  kid : ∀ p nd k, N p = some nd → (k ∈ nd.ks ↔ (N (p ++ [k])).isSome = true)
  par : ∀ p k, (N (p ++ [k])).isSome = true → (N p).isSome = true
  own : ∀ p nd, p ≠ [] → N p = some nd → H nd.node = some (.dict (nodeD nd)) ∧ H nd.fa = some (.iset nd.fs) ∧ H nd.ra = some (.iset nd.rs)
  ksok : ∀ p nd, N p = some nd → nd.ks.Nodup ∧ ∀ k ∈ nd.ks, k ∈ fnames
  fsok : ∀ p nd, N p = some nd → (nd.fs.Nodup ∧ ∀ f ∈ nd.fs, f ∈ fnums) ∧ nd.rs.Nodup ∧ ∀ f ∈ nd.rs, f ∈ fnums
  ow0 : ow x = some ([], 10) ∧ ow d = some ([], 11) ∧ ow pa = some ([], 12)
  ow1 : ∀ p nd, N p = some nd → ow nd.da = some (p, 3)
  ow2 : ∀ p nd, p ≠ [] → N p = some nd → ow nd.node = some (p, 0) ∧ ow nd.fa = some (p, 1) ∧ ow nd.ra = some (p, 2)
  owH : ∀ a, (ow a).isSome = true → (H a).isSome = true

/-- what a Flags object keeps of the heap: everything but its own -/
structure FK (H H' : CH) (ow ow' : FO) : Prop where
  same : ∀ a, ow a = none → H a ≠ none → H' a = H a ∧ ow' a = none
  grow : ∀ a, ow a ≠ none → ow' a = ow a
  new : ∀ a, ow a = none → ow' a ≠ none → H a = none
theorem FK.refl (H : CH) (ow : FO) : FK H H ow ow := ⟨fun a h _ => ⟨rfl, h⟩, fun a _ => rfl, fun a h h' => absurd h h'⟩
theorem FK.trans {H H' H'' : CH} {o o' o'' : FO} (a : FK H H' o o') (b : FK H' H'' o' o'') : FK H H'' o o'' := by
  refine ⟨fun x h1 h2 => ?_, fun x h1 => ?_, fun x h1 h2 => ?_⟩
  · (refine el_0_1 (a.same x h1 h2) fun e1 e2 => ?_)
    (refine el_0_1 (b.same x e2 (by rw [e1]; exact h2)) fun e3 e4 => ?_)
    exact ⟨e3.trans e1, e4⟩
  · have e := a.grow x h1
    rw [← e] at h1 ⊢
    exact b.grow x h1
  · by_cases q : o' x = none
    · have hn := b.new x q h2
      by_cases q2 : H x = none
      · exact q2
      · have := (a.same x h1 q2).1; rw [hn] at this; exact this.symm
    · exact a.new x h1 q

variable {H : CH} {cl x d pa : Addr} {N : FN} {ow : FO} {pend : CO}

theorem FW.pre' (F : FW H cl x d pa N ow pend) : ∀ (n : Nat) (q p : List Str), q.length = n → (N (p ++ q)).isSome = true → (N p).isSome = true
  | 0, q, p, hn, h => by
    have : q = [] := List.length_eq_zero_iff.mp hn
    subst this; simpa using h
  | n + 1, q, p, hn, h => by
    have hne : q ≠ [] := by intro e; subst e; simp at hn
    have hq := (List.dropLast_concat_getLast hne).symm
    rw [hq, ← List.append_assoc] at h
    exact FW.pre' F n q.dropLast p (by simp [hn]) (F.par _ _ h)
theorem FW.pre (F : FW H cl x d pa N ow pend) (q p : List Str) (h : (N (p ++ q)).isSome = true) : (N p).isSome = true := FW.pre' F q.length q p rfl h

noncomputable def fput (N : FN) (p : List Str) (nd : FNode) : FN := fun q => if q = p then some nd else N q
noncomputable def oput (ow : FO) (a : Addr) (v : List Str × Nat) : FO := fun b => if b = a then some v else ow b
@[simp] theorem fput_self {nd : FNode} {p : List Str} : fput N p nd p = some nd := by simp [fput]
theorem fput_ne {nd : FNode} {p q : List Str} (h : q ≠ p) : fput N p nd q = N q := by simp [fput, h]
theorem na_fput {nd nd' : FNode} {p q : List Str} (h : N p = some nd') (e : nd.node = nd'.node) : na (fput N p nd) q = na N q := by
  unfold na fput
  by_cases hq : q = p
  · subst hq; simp [h, e]
  · simp [hq]

theorem slot_ne {p q : List Str} {k : Nat} {rec : Bool} (h : k ≠ 1) (h2 : k ≠ 2) : ((q, k) : List Str × Nat) ≠ (p, if rec then 2 else 1) := by
  intro e
  have := congrArg Prod.snd e
  cases rec
  · exact h this
  · exact h2 this
theorem ins_ok {f : Int} (hf : f ∈ fnums) {l : List Int} (hl : l.Nodup) (hl2 : ∀ g ∈ l, g ∈ fnums) : (if f ∈ l then l else l ++ [f]).Nodup ∧ ∀ g ∈ (if f ∈ l then l else l ++ [f]), g ∈ fnums := by
  split
  · exact ⟨hl, hl2⟩
  · rename_i hnot
    refine ⟨?_, fun g hg => ?_⟩
    · rw [List.nodup_append]
      exact (in_0_2 hl (by simp) (fun a ha b hb => by simp at hb; subst hb; exact fun e => hnot (e ▸ ha)))
    · rcases List.mem_append.mp hg with hg | hg
      · exact hl2 g hg
      · rw [List.mem_singleton.mp hg]; exact hf
theorem flagged_ok {nd : FNode} {f : Int} {rec : Bool} (hf : f ∈ fnums) (h : (nd.fs.Nodup ∧ ∀ f ∈ nd.fs, f ∈ fnums) ∧ nd.rs.Nodup ∧ ∀ f ∈ nd.rs, f ∈ fnums) {nd' : FNode}
    (e : (if rec then { nd with rs := if f ∈ nd.rs then nd.rs else nd.rs ++ [f] } else { nd with fs := if f ∈ nd.fs then nd.fs else nd.fs ++ [f] } : FNode) = nd') : (nd'.fs.Nodup ∧ ∀ f ∈ nd'.fs, f ∈ fnums) ∧ nd'.rs.Nodup ∧ ∀ f ∈ nd'.rs, f ∈ fnums := by
  subst e
  cases rec
  · exact ⟨ins_ok hf h.1.1 h.1.2, h.2⟩
  · exact ⟨h.1, ins_ok hf h.2.1 h.2.2⟩
theorem flagged_eq {nd : FNode} {f : Int} {rec : Bool} {nd' : FNode}
    (e : (if rec then { nd with rs := if f ∈ nd.rs then nd.rs else nd.rs ++ [f] } else { nd with fs := if f ∈ nd.fs then nd.fs else nd.fs ++ [f] } : FNode) = nd') :
    (nd'.node = nd.node ∧ nd'.fa = nd.fa ∧ nd'.ra = nd.ra ∧ nd'.da = nd.da ∧ nd'.ks = nd.ks) ∧ (rec = true → nd'.fs = nd.fs ∧ nd'.rs = if f ∈ nd.rs then nd.rs else nd.rs ++ [f]) ∧ (rec ≠ true → nd'.rs = nd.rs ∧ nd'.fs = if f ∈ nd.fs then nd.fs else nd.fs ++ [f]) := by
  subst e
  cases rec
  · exact (in_0_2 (in_0_4 rfl rfl rfl rfl rfl) (fun h => absurd h (by decide)) (fun _ => ⟨rfl, rfl⟩))
  · exact (in_0_2 (in_0_4 rfl rfl rfl rfl rfl) (fun _ => ⟨rfl, rfl⟩) (fun h => absurd rfl h))
theorem flagged_slot {nd : FNode} {rec : Bool} {p : List Str} (a : ow nd.fa = some (p, 1)) (b : ow nd.ra = some (p, 2)) : ow (if rec then nd.ra else nd.fa) = some (p, if rec then 2 else 1) := by
  cases rec
  · exact a
  · exact b

/-- a flag is laid at a node that stands -/
theorem FW.flag {H' : CH} {p : List Str} {nd : FNode} {f : Int} {rec : Bool} (F : FW H cl x d pa N ow pend) (hp : p ≠ []) (hN : N p = some nd) (hf : f ∈ fnums) 
    (h1 : H' (if rec then nd.ra else nd.fa) = some (.iset (let l := if rec then nd.rs else nd.fs; if f ∈ l then l else l ++ [f]))) (h2 : ∀ b, b ≠ (if rec then nd.ra else nd.fa) → H' b = H b) :
    FW H' cl x d pa (fput N p (if rec then { nd with rs := if f ∈ nd.rs then nd.rs else nd.rs ++ [f] } else { nd with fs := if f ∈ nd.fs then nd.fs else nd.fs ++ [f] })) ow pend := by
  have slot : ow (if rec then nd.ra else nd.fa) = some (p, if rec then 2 else 1) := by
    have w := F.ow2 p nd hp hN
    exact flagged_slot w.2.1 w.2.2
  have keep : ∀ b v, ow b = some v → v ≠ (p, if rec then 2 else 1) → H' b = H b := fun b v hb hv => h2 b fun q => by
    subst q; rw [slot] at hb; exact hv (Option.some.inj hb).symm
  generalize hnd' : (if rec then { nd with rs := if f ∈ nd.rs then nd.rs else nd.rs ++ [f] } else { nd with fs := if f ∈ nd.fs then nd.fs else nd.fs ++ [f] } : FNode) = nd'
  have fe := flagged_eq hnd'
  (refine el_0_4 fe.1 fun e1 e2 e3 e4 e5 => ?_)
  have old : ∀ q m', fput N p nd' q = some m' → ∃ m, N q = some m ∧ m'.node = m.node ∧ m'.fa = m.fa ∧ m'.ra = m.ra ∧ m'.da = m.da ∧ m'.ks = m.ks := by
    intro q m' hq
    by_cases hqp : q = p
    · cases hqp; rw [fput_self] at hq; cases hq; exact (in_1_5 nd hN e1 e2 e3 e4 e5)
    · rw [fput_ne hqp] at hq; exact (in_1_5 m' hq rfl rfl rfl rfl rfl)
  have some_ : ∀ q, (fput N p nd' q).isSome = (N q).isSome := by
    intro q
    by_cases hqp : q = p
    · cases hqp; rw [fput_self, hN]; rfl
    · rw [fput_ne hqp]
  have hkids : ∀ q m m', m'.ks = m.ks → kids (fput N p nd') q m' = kids N q m := by
    intro q m m' e
    unfold kids
    rw [e]
    congr 1
    funext k
    rw [na_fput hN e1]
  (refine el_0_2 F.ow0 fun o1 o2 o3 => ?_)
  refine ⟨?_, ?_, ?_, fun q m' hq => ?_, fun q m' k hq => ?_, fun q k hq => ?_, fun q m' hq0 hq => ?_, fun q m' hq => ?_, fun q m' hq => ?_, F.ow0, fun q m' hq => ?_, fun q m' hq0 hq => ?_, fun b hb => ?_⟩
  · rw [keep x _ o1 (slot_ne (by decide) (by decide))]; exact F.obj
  · (refine el_1_1 F.attrs fun r hr hd => ?_)
    refine (in_1_1 r (by rw [fput_ne (Ne.symm hp)]; exact hr) ?_)
    rw [keep d _ o2 (slot_ne (by decide) (by decide))]; exact hd
  · rw [keep pa _ o3 (slot_ne (by decide) (by decide))]; exact F.pend
  · (refine el_1_5 (old q m' hq) fun m hm _ _ _ c4 c5 => ?_)
    rw [c4, keep m.da _ (F.ow1 q m hm) (slot_ne (by decide) (by decide)), hkids q m m' c5]
    exact F.dict q m hm
  · (refine el_1_5 (old q m' hq) fun m hm _ _ _ c4 c5 => ?_)
    rw [c5, some_]; exact F.kid q m k hm
  · rw [some_] at hq ⊢; exact F.par q k hq
  · (refine el_1_5 (old q m' hq) fun m hm c1 c2 c3 c4 c5 => ?_)
    (refine el_0_2 (F.own q m hq0 hm) fun a1 a2 a3 => ?_)
    (refine el_0_2 (F.ow2 q m hq0 hm) fun b1 b2 b3 => ?_)
    have hD : nodeD m' = nodeD m := by simp [nodeD, c2, c3, c4]
    refine (in_0_2 (by rw [c1, hD, keep m.node _ b1 (slot_ne (by decide) (by decide))]; exact a1) ?_ ?_)
    · by_cases hqp : q = p
      · cases hqp
        rw [fput_self] at hq; cases hq
        rw [hN] at hm; cases hm
        by_cases hr : rec = true
        · rw [c2, keep nd.fa _ b2 (by rw [hr]; simp), a2, (fe.2.1 hr).1]
        · simp only [if_neg hr] at h1
          rw [c2, (fe.2.2 hr).2]; exact h1
      · rw [fput_ne hqp] at hq
        rw [hq] at hm; cases hm
        rw [keep m'.fa _ b2 fun e => hqp (congrArg Prod.fst e)]; exact a2
    · by_cases hqp : q = p
      · cases hqp
        rw [fput_self] at hq; cases hq
        rw [hN] at hm; cases hm
        by_cases hr : rec = true
        · simp only [if_pos hr] at h1
          rw [c3, (fe.2.1 hr).2]; exact h1
        · rw [c3, keep nd.ra _ b3 (by rw [Bool.eq_false_iff.mpr hr]; simp), a3, (fe.2.2 hr).1]
      · rw [fput_ne hqp] at hq
        rw [hq] at hm; cases hm
        rw [keep m'.ra _ b3 fun e => hqp (congrArg Prod.fst e)]; exact a3
  · (refine el_1_5 (old q m' hq) fun m hm c1 c2 c3 c4 c5 => ?_)
    rw [c5]; exact F.ksok q m hm
  · by_cases hqp : q = p
    · cases hqp
      rw [fput_self] at hq; cases hq
      exact flagged_ok hf (F.fsok p nd hN) hnd'
    · rw [fput_ne hqp] at hq; exact F.fsok q m' hq
  · (refine el_1_5 (old q m' hq) fun m hm c1 c2 c3 c4 c5 => ?_)
    rw [c4]; exact F.ow1 q m hm
  · (refine el_1_5 (old q m' hq) fun m hm c1 c2 c3 c4 c5 => ?_)
    rw [c1, c2, c3]; exact F.ow2 q m hq0 hm
  · by_cases hbe : b = (if rec then nd.ra else nd.fa)
    · rw [hbe, h1]; rfl
    · rw [h2 b hbe]; exact F.owH b hb
end Mine
open PySem PySem.W PySem.Calls PyProof.Rows
set_option Elab.async false
set_option linter.all false
set_option maxRecDepth 100000
set_option genSizeOf false
namespace Mine
variable {H : CH} {cl x d pa : Addr} {N : FN} {ow : FO} {pend : CO}

noncomputable def hr (N : FN) (q : List Str) (f : Int) : Bool := match N q with | some nd => decide (f ∈ nd.fs) | none => false
noncomputable def rc (N : FN) (q : List Str) (f : Int) : Bool := match N q with | some nd => decide (f ∈ nd.rs) | none => false

theorem FK.flag {H' : CH} {b : Addr} {v : List Str × Nat} (hb : ow b = some v) (h2 : ∀ c, c ≠ b → H' c = H c) : FK H H' ow ow :=
  ⟨fun a h _ => ⟨h2 a (fun q => by subst q; rw [hb] at h; cases h), h⟩, fun _ _ => rfl, fun a h h' => absurd h h'⟩

theorem hr_flag {p : List Str} {nd : FNode} {f : Int} {rec : Bool} (hN : N p = some nd) (q : List Str) (g : Int) :
    hr (fput N p (if rec then { nd with rs := if f ∈ nd.rs then nd.rs else nd.rs ++ [f] } else { nd with fs := if f ∈ nd.fs then nd.fs else nd.fs ++ [f] })) q g = (hr N q g || (!rec && decide (q = p) && decide (g = f))) := by
  unfold hr fput
  by_cases hq : q = p
  · subst hq
    rw [if_pos rfl, hN]
    cases rec
    · by_cases h1 : f ∈ nd.fs <;> by_cases h2 : g = f <;> simp_all
    · simp
  · rw [if_neg hq]; simp [hq]
theorem rc_flag {p : List Str} {nd : FNode} {f : Int} {rec : Bool} (hN : N p = some nd) (q : List Str) (g : Int) :
    rc (fput N p (if rec then { nd with rs := if f ∈ nd.rs then nd.rs else nd.rs ++ [f] } else { nd with fs := if f ∈ nd.fs then nd.fs else nd.fs ++ [f] })) q g = (rc N q g || (rec && decide (q = p) && decide (g = f))) := by
  unfold rc fput
  by_cases hq : q = p
  · subst hq
    rw [if_pos rfl, hN]
    cases rec
    · simp
    · by_cases h1 : f ∈ nd.rs <;> by_cases h2 : g = f <;> simp_all
  · rw [if_neg hq]; simp [hq]

theorem snoc_inj {α : Type} {p q : List α} {j k : α} (h : p ++ [j] = q ++ [k]) : p = q ∧ j = k := by
  have := List.append_inj' h rfl
  exact ⟨this.1, by simpa using this.2⟩
theorem snoc_ne {α : Type} (p : List α) (k : α) : p ++ [k] ≠ p := fun h => by have := congrArg List.length h; simp at this

/-- a node is added -/
noncomputable def fadd (N : FN) (p : List Str) (nd : FNode) (k : Str) (n f r e : Addr) : FN := fput (fput N p { nd with ks := nd.ks ++ [k] }) (p ++ [k]) ⟨n, f, r, e, [], [], []⟩
noncomputable def oadd (ow : FO) (p : List Str) (k : Str) (n f r e : Addr) : FO := oput (oput (oput (oput ow n (p ++ [k], 0)) f (p ++ [k], 1)) r (p ++ [k], 2)) e (p ++ [k], 3)

theorem FW.add {H' : CH} {p : List Str} {nd : FNode} {k : Str} {n f r e : Addr} (F : FW H cl x d pa N ow pend) (hN : N p = some nd) (hk : k ∉ nd.ks) (hkn : k ∈ fnames)
    (z1 : H n = none) (z2 : H f = none) (z3 : H r = none) (z4 : H e = none) (dis : n ≠ f ∧ n ≠ r ∧ n ≠ e ∧ f ≠ r ∧ f ≠ e ∧ r ≠ e)
    (h1 : H' n = some (.dict [("flags", .loc f), ("recursive_flags", .loc r), ("nested", .loc e)])) (h2 : H' f = some (.iset [])) (h3 : H' r = some (.iset [])) (h4 : H' e = some (.dict []))
    (h5 : H' nd.da = some (.dict (kids N p nd ++ [(k, .loc n)]))) (h6 : ∀ b, b ≠ n → b ≠ f → b ≠ r → b ≠ e → b ≠ nd.da → H' b = H b) :
    FW H' cl x d pa (fadd N p nd k n f r e) (oadd ow p k n f r e) pend ∧ FK H H' ow (oadd ow p k n f r e) := by
  (refine el_0_5 dis fun d1 d2 d3 d4 d5 d6 => ?_; try clear dis)
  have hnew : N (p ++ [k]) = none := by
    cases q : N (p ++ [k]) with
    | none => rfl
    | some m => exact absurd ((F.kid p nd k hN).mpr (by rw [q]; rfl)) hk
  have inH : ∀ b v, ow b = some v → H b ≠ none := fun b v hb => by
    have := F.owH b (by rw [hb]; rfl)
    intro q; rw [q] at this; cases this
  have owne : ∀ b v, ow b = some v → b ≠ n ∧ b ≠ f ∧ b ≠ r ∧ b ≠ e := fun b v hb => by
    have := inH b v hb
    exact (in_0_3 (fun q => this (q ▸ z1)) (fun q => this (q ▸ z2)) (fun q => this (q ▸ z3)) (fun q => this (q ▸ z4)))
  have owk : ∀ b v, ow b = some v → oadd ow p k n f r e b = some v := fun b v hb => by
    (refine el_0_3 (owne b v hb) fun a1 a2 a3 a4 => ?_)
    simp [oadd, oput, a1, a2, a3, a4, hb]
  have keep : ∀ b v, ow b = some v → v ≠ (p, 3) → H' b = H b := fun b v hb hv => by
    (refine el_0_3 (owne b v hb) fun a1 a2 a3 a4 => ?_)
    exact h6 b a1 a2 a3 a4 fun q => by rw [q, F.ow1 p nd hN] at hb; exact hv (Option.some.inj hb).symm
  have hpk : p ++ [k] ≠ p := snoc_ne p k
  have atNew : fadd N p nd k n f r e (p ++ [k]) = some ⟨n, f, r, e, [], [], []⟩ := by simp [fadd]
  have atP : fadd N p nd k n f r e p = some { nd with ks := nd.ks ++ [k] } := by unfold fadd; rw [fput_ne hpk.symm]; simp
  have atO : ∀ q, q ≠ p → q ≠ p ++ [k] → fadd N p nd k n f r e q = N q := fun q a b => by unfold fadd; rw [fput_ne b, fput_ne a]
  have some_ : ∀ q, (fadd N p nd k n f r e q).isSome = ((N q).isSome || decide (q = p ++ [k])) := by
    intro q
    by_cases a : q = p ++ [k]
    · rw [a, atNew]; simp
    · by_cases b : q = p
      · rw [b, atP, hN]; rfl
      · rw [atO q b a]; simp [a]
  have na_ : ∀ q, q ≠ p ++ [k] → na (fadd N p nd k n f r e) q = na N q := by
    intro q a
    unfold na
    by_cases b : q = p
    · simp only [b, atP, hN]
    · rw [atO q b a]
  have naN : na (fadd N p nd k n f r e) (p ++ [k]) = n := by unfold na; rw [atNew]
  -- the cases of a node
  have cases_ : ∀ q m', fadd N p nd k n f r e q = some m' → (q = p ++ [k] ∧ m' = ⟨n, f, r, e, [], [], []⟩) ∨ (p = q ∧ m' = { nd with ks := nd.ks ++ [k] }) ∨ (q ≠ p ∧ q ≠ p ++ [k] ∧ N q = some m') := by
    intro q m' hq
    by_cases a : q = p ++ [k]
    · rw [a, atNew] at hq; exact .inl ⟨a, (Option.some.inj hq).symm⟩
    · by_cases b : q = p
      · rw [b, atP] at hq; exact .inr (.inl ⟨b.symm, (Option.some.inj hq).symm⟩)
      · rw [atO q b a] at hq; exact .inr (.inr (in_0_2 b a hq))
  (refine el_0_2 F.ow0 fun o1 o2 o3 => ?_)
  refine ⟨⟨?_, ?_, ?_, fun q m' hq => ?_, fun q m' j hq => ?_, fun q j hq => ?_, fun q m' hq0 hq => ?_, fun q m' hq => ?_, fun q m' hq => ?_, (in_0_2 (owk _ _ o1) (owk _ _ o2) (owk _ _ o3)), fun q m' hq => ?_, fun q m' hq0 hq => ?_, fun b hb => ?_⟩, ?_⟩
  · rw [keep x _ o1 (by simp)]; exact F.obj
  · (refine el_1_1 F.attrs fun rt hrt hd => ?_)
    by_cases hp : p = []
    · rw [← hp, hN] at hrt; cases hrt
      exact (in_1_1 _ ((congrArg (fadd N p nd k n f r e) hp.symm).trans atP) (by rw [keep d _ o2 (by simp)]; exact hd))
    · exact (in_1_1 rt (by rw [atO [] (Ne.symm hp) (by simp)]; exact hrt) (by rw [keep d _ o2 (by simp)]; exact hd))
  · rw [keep pa _ o3 (by simp)]; exact F.pend
  · rcases cases_ q m' hq with ⟨rfl, rfl⟩ | ⟨rfl, rfl⟩ | ⟨a, b, hq'⟩
    · exact h4
    · show H' nd.da = _
      rw [h5]
      unfold kids
      show some (CO.dict (nd.ks.map _ ++ _)) = some (CO.dict ((nd.ks ++ [k]).map _))
      rw [List.map_append]
      congr 2
      congr 1
      · apply List.map_congr_left
        intro j hj
        rw [na_ _ fun q => hk ((snoc_inj q).2 ▸ hj)]
      · simp [naN]
    · rw [keep m'.da _ (F.ow1 q m' hq') (by simp [a]), F.dict q m' hq']
      unfold kids
      congr 2
      apply List.map_congr_left
      intro j _
      rw [na_ _ fun q' => a (snoc_inj q').1]
  · rw [some_]
    rcases cases_ q m' hq with ⟨rfl, rfl⟩ | ⟨rfl, rfl⟩ | ⟨a, b, hq'⟩
    · have h1 : N (p ++ [k] ++ [j]) = none := by
        cases hh : N (p ++ [k] ++ [j]) with
        | none => rfl
        | some m => have := F.par (p ++ [k]) j (by rw [hh]; rfl); rw [hnew] at this; cases this
      rw [h1]
      have : ¬ (p ++ [k] ++ [j] = p ++ [k]) := snoc_ne _ _
      simp [this]
    · show j ∈ nd.ks ++ [k] ↔ _
      rw [List.mem_append, List.mem_singleton, F.kid p nd j hN, Bool.or_eq_true, decide_eq_true_eq]
      exact ⟨fun h => h.elim .inl fun h => .inr (by rw [h]), fun h => h.elim .inl fun h => .inr (snoc_inj h).2⟩
    · simp only [F.kid q m' j hq', Bool.or_eq_true, decide_eq_true_eq]
      exact ⟨.inl, fun h => h.elim id fun h => absurd (snoc_inj h).1 a⟩
  · rw [some_, Bool.or_eq_true, decide_eq_true_eq] at hq ⊢
    rcases hq with hq | hq
    · exact .inl (F.par q j hq)
    · rw [(snoc_inj hq).1, hN]; exact .inl rfl
  · rcases cases_ q m' hq with ⟨rfl, rfl⟩ | ⟨rfl, rfl⟩ | ⟨a, b, hq'⟩
    · exact (in_0_2 h1 h2 h3)
    · (refine el_0_2 (F.own p nd hq0 hN) fun a1 a2 a3 => ?_)
      (refine el_0_2 (F.ow2 p nd hq0 hN) fun b1 b2 b3 => ?_)
      exact (in_0_2 (by show H' nd.node = _; rw [keep nd.node _ b1 (by simp)]; exact a1) (by show H' nd.fa = _; rw [keep nd.fa _ b2 (by simp)]; exact a2) (by show H' nd.ra = _; rw [keep nd.ra _ b3 (by simp)]; exact a3))
    · (refine el_0_2 (F.own q m' hq0 hq') fun a1 a2 a3 => ?_)
      (refine el_0_2 (F.ow2 q m' hq0 hq') fun b1 b2 b3 => ?_)
      exact (in_0_2 (by rw [keep m'.node _ b1 (by simp)]; exact a1) (by rw [keep m'.fa _ b2 (by simp)]; exact a2) (by rw [keep m'.ra _ b3 (by simp)]; exact a3))
  · rcases cases_ q m' hq with ⟨rfl, rfl⟩ | ⟨rfl, rfl⟩ | ⟨a, b, hq'⟩
    · exact ⟨List.nodup_nil, fun j hj => by cases hj⟩
    · (refine el_0_1 (F.ksok p nd hN) fun g1 g2 => ?_)
      refine ⟨?_, fun j hj => ?_⟩
      · show (nd.ks ++ [k]).Nodup
        rw [List.nodup_append]
        exact (in_0_2 g1 (by simp) (fun a ha b hb => by simp at hb; exact fun e => hk (hb ▸ e ▸ ha)))
      · rcases List.mem_append.mp hj with hj | hj
        · exact g2 j hj
        · rw [List.mem_singleton.mp hj]; exact hkn
    · exact F.ksok q m' hq'
  · rcases cases_ q m' hq with ⟨rfl, rfl⟩ | ⟨rfl, rfl⟩ | ⟨a, b, hq'⟩
    · exact (in_0_2 ⟨List.nodup_nil, fun j hj => by cases hj⟩ List.nodup_nil (fun j hj => by cases hj))
    · exact F.fsok p nd hN
    · exact F.fsok q m' hq'
  · rcases cases_ q m' hq with ⟨rfl, rfl⟩ | ⟨rfl, rfl⟩ | ⟨a, b, hq'⟩
    · simp [oadd, oput]
    · exact owk _ _ (F.ow1 p nd hN)
    · exact owk _ _ (F.ow1 q m' hq')
  · rcases cases_ q m' hq with ⟨rfl, rfl⟩ | ⟨rfl, rfl⟩ | ⟨a, b, hq'⟩
    · simp [oadd, oput, d1, d2, d3, d4, d5, d6]
    · (refine el_0_2 (F.ow2 p nd hq0 hN) fun b1 b2 b3 => ?_)
      exact (in_0_2 (owk _ _ b1) (owk _ _ b2) (owk _ _ b3))
    · (refine el_0_2 (F.ow2 q m' hq0 hq') fun b1 b2 b3 => ?_)
      exact (in_0_2 (owk _ _ b1) (owk _ _ b2) (owk _ _ b3))
  · by_cases c1 : b = n
    · rw [c1, h1]; rfl
    by_cases c2 : b = f
    · rw [c2, h2]; rfl
    by_cases c3 : b = r
    · rw [c3, h3]; rfl
    by_cases c4 : b = e
    · rw [c4, h4]; rfl
    by_cases c5 : b = nd.da
    · rw [c5, h5]; rfl
    rw [h6 b c1 c2 c3 c4 c5]
    exact F.owH b (by simpa [oadd, oput, c1, c2, c3, c4] using hb)
  · refine ⟨fun a h hH => ?_, fun a h => ?_, fun a h h' => ?_⟩
    · have c : a ≠ n ∧ a ≠ f ∧ a ≠ r ∧ a ≠ e := by exact (in_0_3 (fun q => hH (q ▸ z1)) (fun q => hH (q ▸ z2)) (fun q => hH (q ▸ z3)) (fun q => hH (q ▸ z4)))
      (refine el_0_3 c fun c1 c2 c3 c4 => ?_; try clear c)
      refine ⟨h6 a c1 c2 c3 c4 (fun q => by rw [q, F.ow1 p nd hN] at h; cases h), by simp [oadd, oput, c1, c2, c3, c4, h]⟩
    · (refine el_1_0 (Option.ne_none_iff_exists'.mp h) fun v hv => ?_)
      simp only [owk a v hv, hv]
    · by_cases c1 : a = n
      · rw [c1]; exact z1
      by_cases c2 : a = f
      · rw [c2]; exact z2
      by_cases c3 : a = r
      · rw [c3]; exact z3
      by_cases c4 : a = e
      · rw [c4]; exact z4
      exact absurd (by simpa [oadd, oput, c1, c2, c3, c4] using h) h'

theorem hr_add {p : List Str} {nd : FNode} {k : Str} {n f r e : Addr} (hN : N p = some nd) (hnew : N (p ++ [k]) = none) (q : List Str) (g : Int) : hr (fadd N p nd k n f r e) q g = hr N q g := by
  unfold hr fadd fput
  by_cases a : q = p ++ [k]
  · subst a; simp [hnew]
  · by_cases b : q = p
    · subst b; simp [hN]
    · simp [a, b]
theorem rc_add {p : List Str} {nd : FNode} {k : Str} {n f r e : Addr} (hN : N p = some nd) (hnew : N (p ++ [k]) = none) (q : List Str) (g : Int) : rc (fadd N p nd k n f r e) q g = rc N q g := by
  unfold rc fadd fput
  by_cases a : q = p ++ [k]
  · subst a; simp [hnew]
  · by_cases b : q = p
    · subst b; simp [hN]
    · simp [a, b]
end Mine
open PySem PySem.W PySem.Calls PyProof.Rows
set_option Elab.async false
set_option linter.all false
set_option maxRecDepth 100000
set_option genSizeOf false
namespace Mine
variable {H : CH} {cl x d pa : Addr} {N : FN} {ow : FO} {pend : CO}

/-- all at a way and below it is taken off -/
noncomputable def fcut (N : FN) (p : List Str) (k : Str) : FN := fun q => if (p ++ [k]).isPrefixOf q then none else if q = p then (N p).map fun nd => { nd with ks := nd.ks.filter fun j => decide (j ≠ k) } else N q

theorem pre_snoc {p q : List Str} {k j : Str} : (p ++ [k]).isPrefixOf (q ++ [j]) = ((p ++ [k]).isPrefixOf q || decide (p = q ∧ k = j)) := by
  rw [Bool.eq_iff_iff, Bool.or_eq_true, decide_eq_true_eq, List.isPrefixOf_iff_prefix, List.isPrefixOf_iff_prefix]
  constructor
  · rintro ⟨t, ht⟩
    by_cases hne : t = []
    · subst hne; rw [List.append_nil] at ht; exact .inr (snoc_inj ht)
    · left
      have hq := (List.dropLast_concat_getLast hne).symm
      rw [hq, ← List.append_assoc] at ht
      exact (in_1_0 t.dropLast ((snoc_inj ht).1))
  · rintro (⟨t, ht⟩ | ⟨rfl, rfl⟩)
    · exact (in_1_0 (t ++ [j]) (by rw [← List.append_assoc, ht]))
    · exact List.prefix_refl _

theorem FW.cut {H' : CH} {p : List Str} {nd : FNode} {k : Str} (F : FW H cl x d pa N ow pend) (hN : N p = some nd) (h5 : H' nd.da = some (.dict (adel (kids N p nd) k))) (h6 : ∀ b, b ≠ nd.da → H' b = H b) :
    FW H' cl x d pa (fcut N p k) ow pend ∧ FK H H' ow ow := by
  have hda := F.ow1 p nd hN
  have keep : ∀ b v, ow b = some v → v ≠ (p, 3) → H' b = H b := fun b v hb hv => h6 b fun q => by rw [q, hda] at hb; exact hv (Option.some.inj hb).symm
  have notPre : (p ++ [k]).isPrefixOf p = false := by
    cases h : (p ++ [k]).isPrefixOf p with
    | false => rfl
    | true =>
      (refine el_1_0 (List.isPrefixOf_iff_prefix.mp h) fun t ht => ?_)
      have := congrArg List.length ht
      simp at this
  have cases_ : ∀ q m', fcut N p k q = some m' → (p ++ [k]).isPrefixOf q = false ∧ ((p = q ∧ m' = { nd with ks := nd.ks.filter fun j => decide (j ≠ k) }) ∨ (q ≠ p ∧ N q = some m')) := by
    intro q m' hq
    unfold fcut at hq
    cases h : (p ++ [k]).isPrefixOf q with
    | true => rw [h] at hq; simp at hq
    | false =>
      rw [h] at hq
      simp only [Bool.false_eq_true, if_false] at hq
      refine ⟨rfl, ?_⟩
      by_cases b : q = p
      · rw [if_pos b, hN] at hq; exact .inl ⟨b.symm, (Option.some.inj hq).symm⟩
      · rw [if_neg b] at hq; exact .inr ⟨b, hq⟩
  have some_ : ∀ q, (fcut N p k q).isSome = (!(p ++ [k]).isPrefixOf q && (N q).isSome) := by
    intro q
    unfold fcut
    cases h : (p ++ [k]).isPrefixOf q with
    | true => rfl
    | false =>
      simp only [Bool.false_eq_true, if_false, Bool.not_false, Bool.true_and]
      by_cases b : q = p
      · rw [if_pos b, b, hN]; rfl
      · rw [if_neg b]
  have na_ : ∀ q, (p ++ [k]).isPrefixOf q = false → na (fcut N p k) q = na N q := by
    intro q h
    unfold na fcut
    rw [h]
    simp only [Bool.false_eq_true, if_false]
    by_cases b : q = p
    · rw [if_pos b, b, hN]; rfl
    · rw [if_neg b]
  (refine el_0_2 F.ow0 fun o1 o2 o3 => ?_)
  have hroot : (p ++ [k]).isPrefixOf ([] : List Str) = false := by cases p <;> rfl
  refine ⟨⟨?_, ?_, ?_, fun q m' hq => ?_, fun q m' j hq => ?_, fun q j hq => ?_, fun q m' hq0 hq => ?_, fun q m' hq => ?_, fun q m' hq => ?_, F.ow0, fun q m' hq => ?_, fun q m' hq0 hq => ?_, fun b hb => ?_⟩, FK.flag hda h6⟩
  · rw [keep x _ o1 (by simp)]; exact F.obj
  · (refine el_1_1 F.attrs fun rt hrt hd => ?_)
    by_cases hp : p = []
    · rw [← hp, hN] at hrt; cases hrt
      refine (in_1_1 ({ nd with ks := nd.ks.filter fun j => decide (j ≠ k) }) ?_ (by rw [keep d _ o2 (by simp)]; exact hd))
      unfold fcut; rw [hroot]; simp [← hp, hN]
    · refine (in_1_1 rt ?_ (by rw [keep d _ o2 (by simp)]; exact hd))
      unfold fcut; rw [hroot]; simp [Ne.symm hp, hrt]
  · rw [keep pa _ o3 (by simp)]; exact F.pend
  · (refine el_0_1 (cases_ q m' hq) fun h0 xEl1 => ?_; obtain ⟨rfl, rfl⟩ | ⟨a, hq'⟩ := xEl1)
    · show H' nd.da = _
      rw [h5]
      congr 2
      unfold kids adel
      rw [List.filter_map]
      show (nd.ks.filter (fun j => decide (j ≠ k))).map _ = (nd.ks.filter _).map _
      apply List.map_congr_left
      intro j hj
      have hjk : j ≠ k := by have := (List.mem_filter.mp hj).2; simpa using this
      rw [na_ _ (by rw [pre_snoc, notPre]; simp; exact fun e => hjk e.symm)]
    · rw [keep m'.da _ (F.ow1 q m' hq') (by simp [a]), F.dict q m' hq']
      unfold kids
      congr 2
      apply List.map_congr_left
      intro j _
      rw [na_ _ (by rw [pre_snoc, h0]; simp; exact fun e => absurd e.symm a)]
  · rw [some_, pre_snoc]
    (refine el_0_1 (cases_ q m' hq) fun h0 xEl1 => ?_; obtain ⟨rfl, rfl⟩ | ⟨a, hq'⟩ := xEl1)
    · rw [notPre]
      show j ∈ nd.ks.filter _ ↔ _
      rw [List.mem_filter, F.kid p nd j hN]
      simp
      constructor
      · rintro ⟨a, b⟩; exact ⟨fun e => b e.symm, a⟩
      · rintro ⟨a, b⟩; exact ⟨b, fun e => a e.symm⟩
    · rw [h0, F.kid q m' j hq']
      simp
      intro _
      exact .inl (Ne.symm a)
  · rw [some_, Bool.and_eq_true, pre_snoc] at hq
    rw [some_, Bool.and_eq_true]
    (refine el_0_1 hq fun h1 h2 => ?_; try clear hq)
    simp only [Bool.not_eq_true', Bool.or_eq_false_iff] at h1 ⊢
    exact ⟨h1.1, F.par q j h2⟩
  · (refine el_0_1 (cases_ q m' hq) fun h0 xEl1 => ?_; obtain ⟨rfl, rfl⟩ | ⟨a, hq'⟩ := xEl1)
    · (refine el_0_2 (F.own p nd hq0 hN) fun a1 a2 a3 => ?_)
      (refine el_0_2 (F.ow2 p nd hq0 hN) fun b1 b2 b3 => ?_)
      exact (in_0_2 (by show H' nd.node = _; rw [keep nd.node _ b1 (by simp)]; exact a1) (by show H' nd.fa = _; rw [keep nd.fa _ b2 (by simp)]; exact a2) (by show H' nd.ra = _; rw [keep nd.ra _ b3 (by simp)]; exact a3))
    · (refine el_0_2 (F.own q m' hq0 hq') fun a1 a2 a3 => ?_)
      (refine el_0_2 (F.ow2 q m' hq0 hq') fun b1 b2 b3 => ?_)
      exact (in_0_2 (by rw [keep m'.node _ b1 (by simp)]; exact a1) (by rw [keep m'.fa _ b2 (by simp)]; exact a2) (by rw [keep m'.ra _ b3 (by simp)]; exact a3))
  · (refine el_0_1 (cases_ q m' hq) fun h0 xEl1 => ?_; obtain ⟨rfl, rfl⟩ | ⟨a, hq'⟩ := xEl1)
    · (refine el_0_1 (F.ksok p nd hN) fun g1 g2 => ?_)
      exact ⟨g1.filter _, fun j hj => g2 j (List.mem_filter.mp hj).1⟩
    · exact F.ksok q m' hq'
  · (refine el_0_1 (cases_ q m' hq) fun h0 xEl1 => ?_; obtain ⟨rfl, rfl⟩ | ⟨a, hq'⟩ := xEl1)
    · exact F.fsok p nd hN
    · exact F.fsok q m' hq'
  · (refine el_0_1 (cases_ q m' hq) fun h0 xEl1 => ?_; obtain ⟨rfl, rfl⟩ | ⟨a, hq'⟩ := xEl1)
    · exact F.ow1 p nd hN
    · exact F.ow1 q m' hq'
  · (refine el_0_1 (cases_ q m' hq) fun h0 xEl1 => ?_; obtain ⟨rfl, rfl⟩ | ⟨a, hq'⟩ := xEl1)
    · exact F.ow2 p nd hq0 hN
    · exact F.ow2 q m' hq0 hq'
  · by_cases c : b = nd.da
    · rw [c, h5]; rfl
    · rw [h6 b c]; exact F.owH b hb

theorem hr_cut {p : List Str} {k : Str} {nd : FNode} (hN : N p = some nd) (q : List Str) (g : Int) : hr (fcut N p k) q g = (!(p ++ [k]).isPrefixOf q && hr N q g) := by
  unfold hr fcut
  cases (p ++ [k]).isPrefixOf q with
  | true => rfl
  | false =>
    by_cases b : q = p
    · subst b; simp [hN]
    · simp [b]
theorem rc_cut {p : List Str} {k : Str} {nd : FNode} (hN : N p = some nd) (q : List Str) (g : Int) : rc (fcut N p k) q g = (!(p ++ [k]).isPrefixOf q && rc N q g) := by
  unfold rc fcut
  cases (p ++ [k]).isPrefixOf q with
  | true => rfl
  | false =>
    by_cases b : q = p
    · subst b; simp [hN]
    · simp [b]

/-- the marks that wait are others -/
theorem FW.wait {H' : CH} {pend' : CO} (F : FW H cl x d pa N ow pend) (h5 : H' pa = some pend') (h6 : ∀ b, b ≠ pa → H' b = H b) : FW H' cl x d pa N ow pend' ∧ FK H H' ow ow := by
  (refine el_0_2 F.ow0 fun o1 o2 o3 => ?_)
  have keep : ∀ b v, ow b = some v → v ≠ ([], 12) → H' b = H b := fun b v hb hv => h6 b fun q => by subst q; rw [o3] at hb; exact hv (Option.some.inj hb).symm
  refine ⟨⟨?_, ?_, h5, fun q m hq => ?_, F.kid, F.par, fun q m hq0 hq => ?_, F.ksok, F.fsok, F.ow0, F.ow1, F.ow2, fun b hb => ?_⟩, FK.flag o3 h6⟩
  · rw [keep x _ o1 (by decide)]; exact F.obj
  · (refine el_1_1 F.attrs fun rt hrt hd => ?_); exact (in_1_1 rt hrt (by rw [keep d _ o2 (by decide)]; exact hd))
  · rw [keep m.da _ (F.ow1 q m hq) (by simp)]; exact F.dict q m hq
  · (refine el_0_2 (F.own q m hq0 hq) fun a1 a2 a3 => ?_)
    (refine el_0_2 (F.ow2 q m hq0 hq) fun b1 b2 b3 => ?_)
    exact (in_0_2 (by rw [keep m.node _ b1 (by simp)]; exact a1) (by rw [keep m.fa _ b2 (by simp)]; exact a2) (by rw [keep m.ra _ b3 (by simp)]; exact a3))
  · by_cases c : b = pa
    · subst c; rw [h5]; rfl
    · rw [h6 b c]; exact F.owH b hb

/-- what is kept of an object by another's work -/
theorem FW.keep {H' : CH} {oo oo' : FO} (F : FW H cl x d pa N ow pend) (K : FK H H' oo oo') (ap : ∀ a, ow a ≠ none → oo a = none) : FW H' cl x d pa N ow pend ∧ ∀ a, ow a ≠ none → oo' a = none := by
  have k : ∀ a v, ow a = some v → H' a = H a ∧ oo' a = none := fun a v h => K.same a (ap a (by rw [h]; simp)) (fun q => by
    have := F.owH a (by rw [h]; rfl); rw [q] at this; cases this)
  (refine el_0_2 F.ow0 fun o1 o2 o3 => ?_)
  refine ⟨⟨?_, ?_, ?_, fun q m hq => ?_, F.kid, F.par, fun q m hq0 hq => ?_, F.ksok, F.fsok, F.ow0, F.ow1, F.ow2, fun b hb => ?_⟩, fun a h => ?_⟩
  · rw [(k x _ o1).1]; exact F.obj
  · (refine el_1_1 F.attrs fun rt hrt hd => ?_); exact (in_1_1 rt hrt (by rw [(k d _ o2).1]; exact hd))
  · rw [(k pa _ o3).1]; exact F.pend
  · rw [(k _ _ (F.ow1 q m hq)).1]; exact F.dict q m hq
  · (refine el_0_2 (F.own q m hq0 hq) fun a1 a2 a3 => ?_)
    (refine el_0_2 (F.ow2 q m hq0 hq) fun b1 b2 b3 => ?_)
    exact (in_0_2 (by rw [(k _ _ b1).1]; exact a1) (by rw [(k _ _ b2).1]; exact a2) (by rw [(k _ _ b3).1]; exact a3))
  · (refine el_1_0 (Option.isSome_iff_exists.mp hb) fun v hv => ?_)
    rw [(k b v hv).1]; exact F.owH b hb
  · (refine el_1_0 (Option.ne_none_iff_exists'.mp h) fun v hv => ?_)
    exact (k a v hv).2

/-- an object is made -/
theorem FW.new {H' : CH} {cl x d r pa : Addr} (dis : x ≠ d ∧ x ≠ r ∧ x ≠ pa ∧ d ≠ r ∧ d ≠ pa ∧ r ≠ pa) (h1 : H' x = some (.inst cl d)) (h2 : H' d = some (.dict [("_flags", .loc r), ("_pending_flags", .loc pa)])) (h3 : H' r = some (.dict [])) (h4 : H' pa = some (.set [])) :
    FW H' cl x d pa (fun (q : List Str) => if q = [] then some ⟨0, 0, 0, r, [], [], []⟩ else none) (oput (oput (oput (oput (fun _ => none) x ([], 10)) d ([], 11)) pa ([], 12)) r ([], 3)) (.set []) := by
  (refine el_0_5 dis fun d1 d2 d3 d4 d5 d6 => ?_; try clear dis)
  have root : ∀ (q : List Str) m, (if q = [] then some (⟨0, 0, 0, r, [], [], []⟩ : FNode) else none) = some m → q = [] ∧ m = ⟨0, 0, 0, r, [], [], []⟩ := by
    intro q m h
    split at h
    · rename_i e; exact ⟨e, (Option.some.inj h).symm⟩
    · cases h
  refine ⟨h1, (in_1_1 _ rfl h2), h4, fun q m hq => ?_, fun q m j hq => ?_, fun q j hq => ?_, fun q m hq0 hq => absurd (root q m hq).1 hq0, fun q m hq => ?_, fun q m hq => ?_, ?_, fun q m hq => ?_, fun q m hq0 hq => absurd (root q m hq).1 hq0, fun b hb => ?_⟩
  · (refine el_0_1 (root q m hq) fun xEl0 xEl1 => ?_; obtain rfl := xEl0; obtain rfl := xEl1); exact h3
  · (refine el_0_1 (root q m hq) fun xEl0 xEl1 => ?_; obtain rfl := xEl0; obtain rfl := xEl1); simp
  · simp at hq
  · (refine el_0_1 (root q m hq) fun xEl0 xEl1 => ?_; obtain rfl := xEl0; obtain rfl := xEl1); exact ⟨List.nodup_nil, fun j hj => by cases hj⟩
  · (refine el_0_1 (root q m hq) fun xEl0 xEl1 => ?_; obtain rfl := xEl0; obtain rfl := xEl1); exact (in_0_2 ⟨List.nodup_nil, fun j hj => by cases hj⟩ List.nodup_nil (fun j hj => by cases hj))
  · simp [oput, d1, d2, d3, d4, d5, d6, Ne.symm d1, Ne.symm d2, Ne.symm d3, Ne.symm d4, Ne.symm d5, Ne.symm d6]
  · (refine el_0_1 (root q m hq) fun xEl0 xEl1 => ?_; obtain rfl := xEl0; obtain rfl := xEl1); simp [oput]
  · by_cases c1 : b = x
    · subst c1; rw [h1]; rfl
    by_cases c2 : b = d
    · subst c2; rw [h2]; rfl
    by_cases c3 : b = pa
    · subst c3; rw [h4]; rfl
    by_cases c4 : b = r
    · subst c4; rw [h3]; rfl
    simp [oput, c1, c2, c3, c4] at hb

/-- what is told of a way -/
noncomputable def isT (N : FN) (key : List Str) (f : Int) : Bool := ((List.range key.length).any fun i => rc N (key.take (i + 1)) f) || (!key.isEmpty && hr N key f)
end Mine
open PySem PySem.W PySem.Calls PyProof.Rows
set_option Elab.async false
set_option linter.all false
set_option maxRecDepth 100000
set_option genSizeOf false
namespace Mine
noncomputable def bodyOf : Stmt → List Stmt
  | .FunctionDef (body := b) .. => b
  | .ClassDef (body := b) .. => b
  | _ => []
noncomputable def scopeOf : Stmt → List (Str × NameKind)
  | .FunctionDef (scope := b) .. => b.names
  | _ => []
noncomputable def nth (l : List Stmt) (i : Nat) : Stmt := l.getD i (.Pass default)
/-- the parts of a loop -/
noncomputable def forT : Stmt → Expr
  | .For t .. => t
  | _ => .Constant .none 0 default
noncomputable def forI : Stmt → Expr
  | .For _ it .. => it
  | _ => .Constant .none 0 default
noncomputable def forB : Stmt → List Stmt
  | .For _ _ b .. => b
  | _ => []
noncomputable def forO : Stmt → List Stmt
  | .For _ _ _ o _ => o
  | _ => []
noncomputable def forP : Stmt → Pos
  | .For _ _ _ _ p => p
  | _ => default
noncomputable def inner (s : Stmt) (i : Nat) : Stmt := nth (forB s) i
/-- a loop's parts are put in by their names, once for all -/
theorem forE {s : Stmt} {t : Expr} {body : List Stmt} {P : Expr → List Stmt → Prop} (e : ∃ it o p, s = .For t it body o p) (h : P (forT s) (forB s)) : P t body := by
  (revert e; intro hfEl; refine el_3_0 hfEl fun _ _ _ e => ?_; try clear hfEl); subst e; exact h
theorem forE1 {s : Stmt} {body : List Stmt} {P : List Stmt → Prop} (e : ∃ t1 it1 o1 p1 t it o p, s = .For t1 it1 [.For t it body o p] o1 p1) (h : P (forB (inner s 0))) : P body := by
  (revert e; intro hfEl; refine el_8_0 hfEl fun _ _ _ _ _ _ _ _ e => ?_; try clear hfEl); subst e; exact h
theorem forE2 {s : Stmt} {t : Expr} {body : List Stmt} {P : Expr → List Stmt → Prop} (e : ∃ t1 it o p it2 o2 p2, s = .For t1 it [.For t it2 body o2 p2] o p) (h : P (forT (inner s 0)) (forB (inner s 0))) : P t body := by
  (revert e; intro hfEl; refine el_7_0 hfEl fun _ _ _ _ _ _ _ e => ?_; try clear hfEl); subst e; exact h
theorem forE3 {s : Stmt} {t : Expr} {body : List Stmt} {P : Expr → List Stmt → Prop} (e : ∃ t1 it1 o1 p1 t2 it2 o2 p2 it o p, s = .For t1 it1 [.For t2 it2 [.For t it body o p] o2 p2] o1 p1) (h : P (forT (inner (inner s 0) 0)) (forB (inner (inner s 0) 0))) : P t body := by
  (revert e; intro hfEl; refine el_10_0 hfEl fun _ _ _ _ _ _ _ _ _ _ rEl => ?_; try clear hfEl; (refine el_1_0 rEl fun _ e => ?_; try clear rEl)); subst e; exact h
theorem forE5 {s : Stmt} {t2 t it : Expr} {body o : List Stmt} {p : Pos} {P : Expr → Expr → List Stmt → List Stmt → Pos → Prop} (e : ∃ t1 it1 o1 p1 it2 o2 p2, s = .For t1 it1 [.For t2 it2 [.For t it body o p] o2 p2] o1 p1)
    (h : P (forT (inner (inner s 0) 0)) (forI (inner (inner s 0) 0)) (forB (inner (inner s 0) 0)) (forO (inner (inner s 0) 0)) (forP (inner (inner s 0) 0))) : P t it body o p := by
  (revert e; intro hfEl; refine el_7_0 hfEl fun _ _ _ _ _ _ _ e => ?_; try clear hfEl); subst e; exact h
theorem forE6 {s : Stmt} {t it : Expr} {body o : List Stmt} {p : Pos} {P : Expr → Expr → List Stmt → List Stmt → Pos → Prop} (e : ∃ t1 it1 o1 p1, s = .For t1 it1 [.For t it body o p] o1 p1)
    (h : P (forT (inner s 0)) (forI (inner s 0)) (forB (inner s 0)) (forO (inner s 0)) (forP (inner s 0))) : P t it body o p := by
  (revert e; intro hfEl; refine el_4_0 hfEl fun _ _ _ _ e => ?_; try clear hfEl); subst e; exact h
theorem forE7 {s : Stmt} {t it : Expr} {body o : List Stmt} {p : Pos} {P : List Stmt → Prop} (e : ∃ t1 it1 o1 p1 a b c t2 it2 o2 p2, s = .For t1 it1 [a, b, c, .For t2 it2 [.For t it body o p] o2 p2] o1 p1) (h : P (forB (inner (inner s 3) 0))) : P body := by
  (revert e; intro hfEl; refine el_10_0 hfEl fun _ _ _ _ _ _ _ _ _ _ rEl => ?_; try clear hfEl; (refine el_1_0 rEl fun _ e => ?_; try clear rEl)); subst e; exact h
theorem forE4 {s : Stmt} {t : Expr} {body : List Stmt} {P : Expr → List Stmt → Prop} (e : ∃ t1 it1 o1 p1 a b c it o p, s = .For t1 it1 [a, b, c, .For t it body o p] o1 p1) (h : P (forT (inner s 3)) (forB (inner s 3))) : P t body := by
  (revert e; intro hfEl; refine el_10_0 hfEl fun _ _ _ _ _ _ _ _ _ _ e => ?_; try clear hfEl); subst e; exact h
noncomputable def compE : Stmt → Expr
  | .Assign _ (.ListComp e ..) _ => e
  | .For _ (.ListComp e ..) .. => e
  | _ => .Constant .none 0 default
noncomputable def compG : Stmt → Comprehension
  | .Assign _ (.ListComp _ [g] ..) _ => g
  | .For _ (.ListComp _ [g] ..) .. => g
  | _ => ⟨.Constant .none 0 default, .Constant .none 0 default, [], 0⟩
theorem compE1 {s : Stmt} {elt t : Expr} {P : Expr → Expr → Prop} (e : ∃ tx it sc p p2, s = .Assign [tx] (.ListComp elt [⟨t, it, [], 0⟩] sc p) p2) (h : P (compE s) (compG s).target) : P elt t := by
  (revert e; intro hfEl; refine el_5_0 hfEl fun _ _ _ _ _ e => ?_; try clear hfEl); subst e; exact h
theorem compE2 {s : Stmt} {elt t : Expr} {ifs : List Expr} {P : Expr → Expr → List Expr → Prop} (e : ∃ t1 it sc p b o p1, s = .For t1 (.ListComp elt [⟨t, it, ifs, 0⟩] sc p) b o p1) (h : P (compE s) (compG s).target (compG s).ifs) : P elt t ifs := by
  (revert e; intro hfEl; refine el_7_0 hfEl fun _ _ _ _ _ _ _ e => ?_; try clear hfEl); subst e; exact h
noncomputable def flagsM (i : Nat) : Stmt := nth (bodyOf (nth PySem.Challenge.pw_kq0032_03.main.body 1)) i

section
variable {C : Cx} {dep : Nat} {KF I : IM} {st : CSt} {s : Shared} {Q : CV → CSt → Prop}
/-- the kinds of a function's names -/
noncomputable def HK (C : Cx) (sc : List (Str × NameKind)) : Prop := ∀ x, C.env.kindOf x = sc.lookup x
theorem WE.nm {sc : List (Str × NameKind)} {x : Str} {pos} {v : CV} (ok : C.Ok dep) (hk : HK C sc) (hv : st.lo x = some v) (h : Q v st) (hkk : ownKind (sc.lookup x) = true := by rfl)
    (hd : (x == ("__debug__" : Str)) = false := by decide) (hc : (x == ("__classdict__" : Str)) = false := by decide) : WE C (.Name x pos) st Q := WE.name ok.fun_ hv h (by rw [hk]; exact hkk) hd hc
theorem WA.nm {sc : List (Str × NameKind)} {x : Str} {pos : Pos} {c : CV} {Q : CSt → Prop} (ok : C.Ok dep) (hk : HK C sc) (h : Q (st.put x c)) (hkk : storeKind (sc.lookup x) = true := by rfl) : WA C (assign (.Name x pos) C.env) c st Q := WA.name ok (by rw [hk]; exact hkk) h
theorem W1.neg {a : Int} (h : Q (.int (-a)) st) : W1 C (unaryOp .USub) (.int a) st Q := fun I v r KF s S => by
  simp only [VR] at r
  (refine el_1_0 r fun t xEl1 => ?_; try clear r; obtain rfl := xEl1)
  exact PyProof.Rows.neg_int ⟨I, st, .refl I, S.toks _, _, by simp [VR], h⟩
theorem WE.neg1 {i : Int} {k p pos} (h : Q (.int (-i)) st) : WE C (.UnaryOp .USub (.Constant (.int i) k p) pos) st Q := WE.unop (WE.int (W1.neg h))
theorem WS.exprAny {e pos} {Q : CF → CSt → Prop} (ok : C.Ok dep) (h : WE C e st (fun v st1 => Q .next st1)) (hs : swapsWith e none pos.line C.env = pure false := by rfl) : WS C (.Expr e pos) st Q := fun I => by
  have hi : interactive C.env = false := by unfold interactive; rw [ok.fun_]; rfl
  rw [exec_Expr C.env e pos hi hs]
  refine WL.bind (WL.standAt (WL.bind ((h I).mono (fun J v st1 _ hEl => ?_))))
  obtain ⟨c, r, q⟩ := hEl
  exact fun KF s S => wpAny_dropValue ⟨J, st1, .refl _, S, .next, rfl, q⟩
end

/-- the class of the flags, its methods -/
structure FCls (C : Cx) (cl : Addr) : Prop where
  ok : ClsOk C.K cl
  flags : findIn C.K (.ref cl) "_flags" = some none
  pendf : findIn C.K (.ref cl) "_pending_flags" = some none
  tflags : takerIn C.K cl "_flags" = some none
  tpend : takerIn C.K cl "_pending_flags" = some none
  gset : GOk C [("set", .type "set")]

section
variable {C : Cx} {dep : Nat} {H : CH} {cl x d pa : Addr} {N : FN} {ow : FO} {pend : CO}

theorem FW.self_flags {Q : CV → CSt → Prop} {lo : Str → Option CV} {r : FNode} (F : FW H cl x d pa N ow pend) (ok : C.Ok dep) (fc : FCls C cl) (hr : N [] = some r) (h : Q (.loc r.da) ⟨lo, H⟩) : WAttr C (.loc x) "_flags" ⟨lo, H⟩ Q := by
  (refine el_1_1 F.attrs fun r' hr' hd => ?_)
  rw [hr] at hr'; cases hr'
  exact WAttr.inst ok fc.ok F.obj hd rfl fc.flags rfl (fun u h => by cases h) h
theorem FW.self_pend {Q : CV → CSt → Prop} {lo : Str → Option CV} (F : FW H cl x d pa N ow pend) (ok : C.Ok dep) (fc : FCls C cl) (h : Q (.loc pa) ⟨lo, H⟩) : WAttr C (.loc x) "_pending_flags" ⟨lo, H⟩ Q := by
  (refine el_1_1 F.attrs fun r' hr' hd => ?_)
  exact WAttr.inst ok fc.ok F.obj hd rfl fc.pendf rfl (fun u h => by cases h) h

theorem FW.nodup {p : List Str} {nd : FNode} (F : FW H cl x d pa N ow pend) (h : N p = some nd) : ((kids N p nd).map (·.1)).Nodup := by
  have : (kids N p nd).map (·.1) = nd.ks := by unfold kids; rw [List.map_map]; simp [Function.comp_def]
  rw [this]; exact (F.ksok p nd h).1
theorem kids_lookup (p : List Str) (nd : FNode) (k : Str) : (kids N p nd).lookup k = if k ∈ nd.ks then some (.loc (na N (p ++ [k]))) else none := by
  unfold kids
  induction nd.ks with
  | nil => rfl
  | cons j ks ih =>
    (simp only [List.map_cons]; simp only [List.lookup_cons])
    by_cases q : k = j
    · subst q; simp
    · have q' : (k == j) = false := by simpa using q
      rw [q', ih]; simp [q]
theorem FW.kidAt {p : List Str} {nd : FNode} {k : Str} (F : FW H cl x d pa N ow pend) (h : N p = some nd) : (kids N p nd).lookup k = (N (p ++ [k])).map fun m => .loc m.node := by
  rw [kids_lookup]
  have := F.kid p nd k h
  cases hk : N (p ++ [k]) with
  | none => rw [hk] at this; rw [if_neg (by rw [this]; simp)]; rfl
  | some m => rw [hk] at this; rw [if_pos (this.mpr rfl)]; simp [na, hk]
theorem FW.klen {p : List Str} {nd : FNode} (F : FW H cl x d pa N ow pend) (h : N p = some nd) : (kids N p nd).length ≤ 3 := by
  (refine el_0_1 (F.ksok p nd h) fun a b => ?_)
  have := List.Nodup.length_le_of_subset a b
  have e : (kids N p nd).length = nd.ks.length := by simp [kids]
  rw [e]; exact this
theorem nodeD_nodup (nd : FNode) : ((nodeD nd).map (·.1)).Nodup := by
  show ([("flags" : Str), "recursive_flags", "nested"]).Nodup
  decide

/-- is_: the loop, plain -/
noncomputable def isLoop (N : FN) (f : Int) (p : List Str) : List Str → Option Bool
  | [] => none
  | k :: ks => match N (p ++ [k]) with
    | none => some false
    | some nd => if f ∈ nd.rs then some true else isLoop N f (p ++ [k]) ks

theorem isLoop_W {t : Expr} {body : List Stmt} {Q : CF → CSt → Prop} {f : Int} {keyc : CV} (ok : C.Ok dep) (fc : FCls C cl) (hk : HK C (scopeOf (flagsM 7))) (F : FW H cl x d pa N ow pend)
    (e : ∃ it o p, nth (bodyOf (flagsM 7)) 2 = .For t it body o p) :
    ∀ (ks : List Str) (p : List Str) (nd : FNode) (lo : Str → Option CV), N p = some nd → lo "cont" = some (.loc nd.da) → lo "flag" = some (.int f) → lo "key" = some keyc →
      (∀ b lo', isLoop N f p ks = some b → Q (.ret (.bool b)) ⟨lo', H⟩) → (∀ lo' nd', isLoop N f p ks = none → N (p ++ ks) = some nd' → lo' "cont" = some (.loc nd'.da) → lo' "flag" = some (.int f) → lo' "key" = some keyc → Q .next ⟨lo', H⟩) →
      WFor C t body [] (ks.map .str) ⟨lo, H⟩ Q := by
  apply forE (t := t) (body := body) e
  intro ks
  induction ks with
  | nil => intro p nd lo hN h1 h2 h3 q1 q2; exact WSs.nil (q2 lo nd rfl (by simpa using hN) h1 h2 h3)
  | cons k ks ih =>
    intro p nd lo hN h1 h2 h3 q1 q2
    refine WA.nm ok hk ?_
    have hkid := F.kidAt (k := k) hN
    refine WSs.cons (WS.if_ (WT.cmp1 (WE.nm ok hk rfl (WE.nm ok hk h1 (W2.notInDict (F.dict p nd hN) (F.nodup hN) (Wtr.bool (cB (fun hc => ?_) fun hc => ?_)))))))
    · have hn : N (p ++ [k]) = none := by
        cases q : N (p ++ [k]) with
        | none => rfl
        | some m => rw [hkid, q] at hc; cases hc
      refine WSs.cons (WS.ret (WE.bool (q1 false _ ?_)))
      simp [isLoop, hn]
    · obtain ⟨m, hm⟩ : ∃ m, N (p ++ [k]) = some m := by
        cases q : N (p ++ [k]) with
        | some m => exact (in_1_0 m rfl)
        | none => rw [hkid, q] at hc; cases hc
      have hloop : isLoop N f p (k :: ks) = if f ∈ m.rs then some true else isLoop N f (p ++ [k]) ks := by simp [isLoop, hm]
      rw [hm] at hkid
      (refine el_0_2 (F.own _ m (by simp) hm) fun a1 a2 a3 => ?_)
      refine WSs.nil (WSs.cons (WS.assign1 (WE.sub (WE.nm ok hk h1 (WE.nm ok hk rfl (W2.itemD (F.dict p nd hN) (F.nodup hN) hkid (WA.nm ok hk ?_)))))))
      refine WSs.cons (WS.if_ (WT.cmp1 (WE.nm ok hk h2 (WE.sub (WE.nm ok hk rfl (WE.str (W2.itemD a1 (nodeD_nodup m) (c := .loc m.ra) rfl (W2.inISet a3 (Wtr.bool (cB (fun hc => ?_) fun hc => ?_))))))))))
      · refine WSs.cons (WS.ret (WE.bool (q1 true _ ?_)))
        rw [hloop, if_pos (by simpa using hc)]
      · have hnot : ¬ f ∈ m.rs := by simpa using hc
        rw [if_neg hnot] at hloop
        refine WSs.nil (WSs.cons (WS.assign1 (WE.sub (WE.nm ok hk rfl (WE.str (W2.itemD a1 (nodeD_nodup m) (c := .loc m.da) rfl (WA.nm ok hk (WSs.nil ?_))))))))
        refine ih (p ++ [k]) m _ hm rfl h2 h3 (fun b lo' hb => q1 b lo' (by rw [hloop]; exact hb)) fun lo' nd' hb hN' => q2 lo' nd' (by rw [hloop]; exact hb) (by rw [List.append_assoc] at hN'; exact hN')

theorem upk_init {n : Nat} (h : 0 < n) : upk n (-1) = n - 1 := by unfold upk; rw [if_pos (by omega +splitDisjunctions)]; omega

/-- what is_ gives back, plain -/
noncomputable def isP (N : FN) (f : Int) (key : List Str) : Bool := if key = [] then false else match isLoop N f [] key.dropLast with
  | some b => b
  | none => hr N key f || rc N key f

theorem is_W {Q : CF → CSt → Prop} {f : Int} {key : List Str} (ok : C.Ok dep) (fc : FCls C cl) (hk : HK C (scopeOf (flagsM 7))) (F : FW H cl x d pa N ow pend) (hl : key.length ≤ 1000) 
    (h : ∀ lo', Q (.ret (.bool (isP N f key))) ⟨lo', H⟩) : WSs C (bodyOf (flagsM 7)) ⟨fun y => ([("self" : Str), "key", "flag"].zip [.loc x, .tup (key.map .str), .int f]).lookup y, H⟩ Q := by
  (refine el_1_1 F.attrs fun r hr0 hd0 => ?_)
  refine WSs.cons (WS.if_ (WT.not (WT.value rfl (WE.nm ok hk rfl (Wtr.tup (by simp; (exact Nat.le_trans (by assumption) (by decide))) (cB (fun hc => ?_) fun hc => ?_))))))
  · have hkey : key = [] := by simpa using hc
    subst hkey
    exact WSs.cons (WS.ret (WE.bool (h _)))
  have hkey : key ≠ [] := by intro q; subst q; simp at hc
  have hlen : 0 < key.length := by cases key with | nil => exact absurd rfl hkey | cons _ _ => simp
  have hP : isP N f key = match isLoop N f [] key.dropLast with | some b => b | none => hr N key f || rc N key f := by unfold isP; rw [if_neg hkey]
  refine WSs.nil (WSs.cons (WS.assign1 (WE.attr (WE.nm ok hk rfl (F.self_flags ok fc hr0 (WA.nm ok hk ?_))))))
  refine WSs.cons (WS.for_ ok (WE.slice (WE.nm ok hk rfl (WE.neg1 (in_1_1 _ rfl (WSl.tupTo (by simp; (exact Nat.le_trans (by assumption) (by decide))) (in_1_1 _ IterOf.tup ?_)))))))
  rw [List.length_map, upk_init hlen, ← List.map_take, ← List.dropLast_eq_take]
  refine isLoop_W (f := f) (keyc := .tup (key.map .str)) ok fc hk F (in_3_0 _ _ _ rfl) key.dropLast [] r _ hr0 rfl rfl rfl (fun b lo' hb => ?_) fun lo' nd hb hN h1 h2 h3 => ?_
  · rw [hb] at hP
    have := h lo'; rw [hP] at this; exact this
  simp only [List.nil_append] at hN
  rw [hb] at hP
  have hlast : (key.map CV.str)[cidx (key.map CV.str).length (-1)]? = some (.str (key.getLast hkey)) := by
    have : cidx (key.map CV.str).length (-1) = key.length - 1 := (cidx_last (by rw [List.length_map]; exact hlen)).trans (by rw [List.length_map])
    rw [this, List.getElem?_map, List.getLast_eq_getElem]
    simp [show key.length - 1 < key.length by (exact Nat.sub_lt_sub_left (by assumption) (Nat.lt_succ_self _))]
  refine WSs.cons (WS.assign1 (WE.sub (WE.nm ok hk h3 (WE.neg1 (W2.itemT (by simp; (exact Int.ofNat_le.mpr (by assumption))) (by simp; (exact Int.natCast_nonneg _)) (by simp; omega) hlast (WA.nm ok hk ?_))))))
  have hkeyE : key.dropLast ++ [key.getLast hkey] = key := List.dropLast_concat_getLast hkey
  have hkid := F.kidAt (k := key.getLast hkey) hN
  rw [hkeyE] at hkid
  refine WSs.cons (WS.if_ (WT.cmp1 (WE.nm ok hk rfl (WE.nm ok hk h1 (W2.inDict (F.dict _ nd hN) (F.nodup hN) (Wtr.bool (cB (fun hc => ?_) fun hc => ?_)))))))
  · obtain ⟨m, hm⟩ : ∃ m, N key = some m := by
      cases q : N key with
      | some m => exact (in_1_0 m rfl)
      | none => rw [hkid, q] at hc; cases hc
    rw [hm] at hkid
    (refine el_0_2 (F.own _ m hkey hm) fun a1 a2 a3 => ?_)
    refine WSs.cons (WS.assign1 (WE.sub (WE.nm ok hk h1 (WE.nm ok hk rfl (W2.itemD (F.dict _ nd hN) (F.nodup hN) hkid (WA.nm ok hk ?_))))))
    have e1 : hr N key f = decide (f ∈ m.fs) := by simp [hr, hm]
    have e2 : rc N key f = decide (f ∈ m.rs) := by simp [rc, hm]
    simp only [e1, e2] at hP
    refine WSs.cons (WS.ret (WE.boolop ?_))
    refine WE.cmp1 (WE.nm ok hk h2 (WE.sub (WE.nm ok hk rfl (WE.str (W2.itemD a1 (nodeD_nodup m) (c := .loc m.fa) rfl (W2.inISet a2 (Wtr.bool ?_)))))))
    cases hq : decide (f ∈ m.fs) with
    | true =>
      rw [hq] at hP
      have := h (CSt.put (CSt.put ⟨lo', H⟩ "key_stem" (.str (key.getLast hkey))) "cont" (.loc m.node)).lo
      rw [hP] at this; exact this
    | false =>
      rw [hq] at hP
      refine WE.cmp1 (WE.nm ok hk h2 (WE.sub (WE.nm ok hk rfl (WE.str (W2.itemD a1 (nodeD_nodup m) (c := .loc m.ra) rfl (W2.inISet a3 ?_))))))
      have := h (CSt.put (CSt.put ⟨lo', H⟩ "key_stem" (.str (key.getLast hkey))) "cont" (.loc m.node)).lo
      rw [hP] at this; exact this
  · have hn : N key = none := by
      cases q : N key with
      | none => rfl
      | some m => rw [hkid, q] at hc; cases hc
    have e1 : hr N key f = false := by simp [hr, hn]
    have e2 : rc N key f = false := by simp [rc, hn]
    simp only [e1, e2] at hP
    refine WSs.nil (WSs.cons (WS.ret (WE.bool ?_)))
    have := h (CSt.put ⟨lo', H⟩ "key_stem" (.str (key.getLast hkey))).lo
    rw [hP] at this; exact this
end
end Mine
open PySem PySem.W PySem.Calls PyProof.Rows
set_option Elab.async false
set_option linter.all false
set_option maxRecDepth 100000
set_option genSizeOf false
namespace Mine

theorem aput_new {k : Str} {c : CV} : ∀ {es : List (Str × CV)}, es.lookup k = none → aput es k c = es ++ [(k, c)]
  | [], _ => rfl
  | (k', v) :: es, h => by
    simp only [List.lookup_cons] at h
    by_cases q : k = k'
    · subst q; simp at h
    · have q' : (k == k') = false := by simpa using q
      rw [q'] at h
      unfold aput
      rw [if_neg (Ne.symm q), aput_new h]; rfl

section
variable {C : Cx} {dep : Nat} {H : CH} {cl x d pa : Addr} {N : FN} {ow : FO} {pend : CO} {st : CSt}

theorem WE.dictK {Q : CV → CSt → Prop} {keys : List (Option Expr)} {values : List Expr} {pos : Pos}
    (h : ∀ d, st.H d = Option.none → WPairs C ((keys.filterMap id).zip values) { st with H := hput st.H d (.dict []) } (fun l st1 => st1.H d = some (.dict []) ∧ l.length ≤ 15 ∧ Q (.loc d) { st1 with H := hput st1.H d (.dict (aputs [] l)) }))
    (hshape : (evalEachOpt keys C.env).zip ((evalEach values C.env).map fun v => do let x ← v; standAt pos; pure x) = (((keys.filterMap id).zip values).map (ptree C.env pos)).map fun p => (some p.1, p.2) := by rfl) (h0 : (keys.filterMap id).zip values ≠ [] := by simp) (hlen : ((keys.filterMap id).zip values).length ≤ 15 := by decide) :
    WE C (.Dict keys values pos) st Q := WE.dict _ h hshape h0 hlen

theorem blockKind_of (ok : C.Ok dep) : C.env.blockKind = .function := by
  unfold Env.blockKind
  rw [ok.fun_]
  rfl
/-- a set is made: set() -/
theorem WE.newI {Q : CV → CSt → Prop} {p1 p2 : Pos} (ok : C.Ok dep) (hg : GOk C [("set", .type "set")]) (hk : C.env.kindOf "set" = some .globalImplicit) (h : ∀ a, st.H a = Option.none → Q (.loc a) { st with H := hput st.H a (.iset []) }) : WE C (.Call (.Name "set" p1) [] [] p2) st Q :=
  WE.call ok (WE.glob ok hg (v := .type "set") rfl (in_1_2 _ rfl KpOk.type (WCall.setNewI h)) hk)
theorem WE.newP {Q : CV → CSt → Prop} {p1 p2 : Pos} (ok : C.Ok dep) (hg : GOk C [("set", .type "set")]) (hk : C.env.kindOf "set" = some .globalImplicit) (h : ∀ a, st.H a = Option.none → Q (.loc a) { st with H := hput st.H a (.set []) }) : WE C (.Call (.Name "set" p1) [] [] p2) st Q :=
  WE.call ok (WE.glob ok hg (v := .type "set") rfl (in_1_2 _ rfl KpOk.type (WCall.setNewP h)) hk)

/-- the heap behind a new node -/
theorem FW.added {p : List Str} {nd : FNode} {k : Str} {n f r e : Addr} (F : FW H cl x d pa N ow pend) (hN : N p = some nd) (hk : N (p ++ [k]) = none) (hkn : k ∈ fnames)
    (z1 : H n = none) (z2 : hput H n (.dict []) f = none) (z3 : hput (hput H n (.dict [])) f (.iset []) r = none) (z4 : hput (hput (hput H n (.dict [])) f (.iset [])) r (.iset []) e = none) :
    ∃ H' N' ow' nd', H' = hput (hput (hput (hput (hput (hput H n (.dict [])) f (.iset [])) r (.iset [])) e (.dict [])) n (.dict [("flags", .loc f), ("recursive_flags", .loc r), ("nested", .loc e)])) nd.da (.dict (aput (kids N p nd) k (.loc n))) ∧
      FW H' cl x d pa N' ow' pend ∧ FK H H' ow ow' ∧ N' p = some nd' ∧ nd'.da = nd.da ∧ (N' (p ++ [k])).isSome = true ∧ (∀ q g, hr N' q g = hr N q g) ∧ (∀ q g, rc N' q g = rc N q g) := by
  have hda : H nd.da ≠ none := by rw [F.dict p nd hN]; simp
  have hne : ∀ {H : CH} {a b : Addr} {c : CO}, hput H a c b = none → b ≠ a ∧ H b = none := fun {H a b c} h => by
    unfold hput at h; split at h
    · cases h
    · rename_i q; exact ⟨q, h⟩
  (refine el_0_1 (hne z2) fun y1 w2 => ?_)
  (refine el_0_1 (hne z3) fun y2 w3 => ?_)
  (refine el_0_1 (hne w3) fun y3 w3 => ?_)
  (refine el_0_1 (hne z4) fun y4 w4 => ?_)
  (refine el_0_1 (hne w4) fun y5 w4 => ?_)
  (refine el_0_1 (hne w4) fun y6 w4 => ?_)
  have c1 : nd.da ≠ n := fun q => hda (q ▸ z1)
  have c2 : nd.da ≠ f := fun q => hda (q ▸ w2)
  have c3 : nd.da ≠ r := fun q => hda (q ▸ w3)
  have c4 : nd.da ≠ e := fun q => hda (q ▸ w4)
  have hkk : k ∉ nd.ks := fun h => by have := (F.kid p nd k hN).mp h; rw [hk] at this; cases this
  have hlk : (kids N p nd).lookup k = none := by rw [F.kidAt hN, hk]; rfl
  have main := F.add (H' := hput (hput (hput (hput (hput (hput H n (.dict [])) f (.iset [])) r (.iset [])) e (.dict [])) n (.dict [("flags", .loc f), ("recursive_flags", .loc r), ("nested", .loc e)])) nd.da (.dict (aput (kids N p nd) k (.loc n))))
    hN hkk hkn z1 w2 w3 w4 (in_0_5 (Ne.symm y1) (Ne.symm y3) (Ne.symm y6) (Ne.symm y2) (Ne.symm y5) (Ne.symm y4)) (by simp [hput, Ne.symm c1]) (by simp [hput, y1, Ne.symm c2, Ne.symm y2, Ne.symm y5]) (by simp [hput, y3, Ne.symm c3, Ne.symm y4]) (by simp [hput, y6, Ne.symm c4])
    (by simp [hput, aput_new hlk]) (fun b h1 h2 h3 h4 h5 => by simp [hput, h1, h2, h3, h4, h5])
  refine (in_4_7 _ _ _ ({ nd with ks := nd.ks ++ [k] }) rfl main.1 main.2 ?_ ?_ ?_ (hr_add hN hk) (rc_add hN hk))
  · unfold fadd; rw [fput_ne (snoc_ne p k).symm]; simp
  · rfl
  · simp [fadd]

/-- a node is there, if need be a new one -/
noncomputable def Ens (cl x d pa : Addr) (pend : CO) (lo : Str → Option CV) (p : List Str) (k : Str) (da : Addr) (H : CH) (N : FN) (ow : FO) : CF → CSt → Prop := fun f st' => f = .next ∧ st'.lo = lo ∧
  ∃ N' ow' nd' m, FW st'.H cl x d pa N' ow' pend ∧ FK H st'.H ow ow' ∧ N' p = some nd' ∧ nd'.da = da ∧ N' (p ++ [k]) = some m ∧ (∀ q g, hr N' q g = hr N q g) ∧ (∀ q g, rc N' q g = rc N q g)

theorem WS.ens {s : Stmt} {st : CSt} {lo : Str → Option CV} {p : List Str} {k : Str} {da : Addr} {Q : CF → CSt → Prop} (h : WS C s st (Ens cl x d pa pend lo p k da H N ow))
    (hQ : ∀ H' N' ow' nd' m, FW H' cl x d pa N' ow' pend → FK H H' ow ow' → N' p = some nd' → nd'.da = da → N' (p ++ [k]) = some m → (∀ q g, hr N' q g = hr N q g) → (∀ q g, rc N' q g = rc N q g) → Q .next ⟨lo, H'⟩) : WS C s st Q := WS.mono h fun b st' hE => by
  (refine el_0_2 hE fun e1 e2 rEl => ?_; try clear hE; (refine el_4_6 rEl fun N1 ow1 nd1 m F1 K1 g1 g2 g3 g4 g5 => ?_; try clear rEl))
  have := hQ _ _ _ _ _ F1 K1 g1 g2 g3 g4 g5
  rw [← e2] at this
  rw [e1]
  exact this
theorem hput_old {H : CH} {a b : Addr} {c v : CO} (h : H b = some v) (q : H a = none) : hput H a c b = some v := by
  rw [hput_ne fun e => by rw [e, q] at h; cases h]; exact h
theorem ne_of_old {H : CH} {a b : Addr} {v : CO} (h : H b = some v) (q : H a = none) : b ≠ a := fun e => by rw [e, q] at h; cases h

theorem setLoop_W {t : Expr} {body : List Stmt} {Q : CF → CSt → Prop} {c1 c2 c3 : CV} (ok : C.Ok dep) (fc : FCls C cl) (hk : HK C (scopeOf (flagsM 6))) 
    (e : ∃ it o p, nth (bodyOf (flagsM 6)) 2 = .For t it body o p) :
    ∀ (ks : List Str) (p : List Str) (nd : FNode) (N : FN) (ow : FO) (H : CH) (lo : Str → Option CV), FW H cl x d pa N ow pend → (∀ k ∈ ks, k ∈ fnames) → N p = some nd → lo "cont" = some (.loc nd.da) → lo "key_stem" = some c1 → lo "flag" = some c2 → lo "recursive" = some c3 →
      (∀ H' N' ow' nd' lo', FW H' cl x d pa N' ow' pend → FK H H' ow ow' → N' (p ++ ks) = some nd' → lo' "cont" = some (.loc nd'.da) → lo' "key_stem" = some c1 → lo' "flag" = some c2 → lo' "recursive" = some c3 → (∀ q g, hr N' q g = hr N q g) → (∀ q g, rc N' q g = rc N q g) → Q .next ⟨lo', H'⟩) →
      WFor C t body [] (ks.map .str) ⟨lo, H⟩ Q := by
  apply forE (t := t) (body := body) e
  intro ks
  induction ks with
  | nil => intro p nd N ow H lo F _ hN h1 h2 h3 h4 q; exact WSs.nil (q H N ow nd lo F (.refl _ _) (by simpa using hN) h1 h2 h3 h4 (fun _ _ => rfl) fun _ _ => rfl)
  | cons k ks ih =>
    intro p nd N ow H lo F hks hN h1 h2 h3 h4 q
    have hkn := hks k List.mem_cons_self
    have hkid := F.kidAt (k := k) hN
    refine WA.nm ok hk (WSs.cons (WS.ens (x := x) (d := d) (cl := cl) (pa := pa) (pend := pend) (lo := ((CSt.mk lo H).put "k" (.str k)).lo) (p := p) (k := k) (da := nd.da) (H := H) (N := N) (ow := ow) ?_ fun H1 N1 ow1 nd1 m F1 K1 g1 g2 g3 g4 g5 => ?_))
    · refine WS.if_ (WT.cmp1 (WE.nm ok hk rfl (WE.nm ok hk h1 (W2.notInDict (F.dict p nd hN) (F.nodup hN) (Wtr.bool (cB (fun hc => ?_) fun hc => ?_))))))
      · have hn : N (p ++ [k]) = none := by
          cases q : N (p ++ [k]) with
          | none => rfl
          | some m => rw [hkid, q] at hc; cases hc
        refine WSs.cons (WS.assign1 (WE.dictK fun n z1 => ?_))
        refine WE.str (in_1_1 _ rfl (WE.newI ok fc.gset (by rw [hk]; rfl) fun f z2 => ?_))
        refine WE.str (in_1_1 _ rfl (WE.newI ok fc.gset (by rw [hk]; rfl) fun r z3 => ?_))
        refine WE.str (in_1_1 _ rfl (WE.dict0 fun e z4 => ?_))
        (refine el_4_6 (F.added hN hn hkn z1 z2 z3 z4) fun H' N' ow' nd' eH F' K' g1 g2 g3 rEl => ?_; (refine el_0_1 rEl fun g4 g5 => ?_; try clear rEl))
        have dn : hput (hput (hput (hput H n (.dict [])) f (.iset [])) r (.iset [])) e (.dict []) n = some (.dict []) := hput_old (hput_old (hput_old hput_self z2) z3) z4
        refine (in_0_2 dn (by simp) ?_)
        have hdc : nd.da ≠ n := ne_of_old (F.dict p nd hN) z1
        have hH5 : hput (hput (hput (hput (hput H n (.dict [])) f (.iset [])) r (.iset [])) e (.dict [])) n (.dict (aputs [] [("flags", .loc f), ("recursive_flags", .loc r), ("nested", .loc e)])) nd.da = some (.dict (kids N p nd)) := (hput_ne hdc).trans (hput_old (hput_old (hput_old (hput_old (F.dict p nd hN) z1) z2) z3) z4)
        refine WA.subD (WE.nm ok hk h1 (WE.nm ok hk rfl (in_3_5 _ _ _ rfl rfl hH5 (F.nodup hN) (by have := F.klen hN; (exact Nat.le_trans (by assumption) (by decide))) ?_)))
        refine WSs.nil (in_0_2 rfl rfl (in_3_0 N' ow' nd' ?_))
        (refine el_1_0 (Option.isSome_iff_exists.mp g3) fun m hm => ?_)
        rw [eH] at F' K'
        exact (in_1_6 m F' K' g1 g2 hm g4 g5)
      · obtain ⟨m, hm⟩ : ∃ m, N (p ++ [k]) = some m := by
          cases q : N (p ++ [k]) with
          | some m => exact (in_1_0 m rfl)
          | none => rw [hkid, q] at hc; cases hc
        exact WSs.nil (in_0_2 rfl rfl (in_4_6 N ow nd m F (.refl _ _) hN rfl hm (fun _ _ => rfl) (fun _ _ => rfl)))

    · have hk1 := F1.kidAt (k := k) g1
      rw [g3] at hk1
      (refine el_0_2 (F1.own _ m (by simp) g3) fun a1 a2 a3 => ?_)
      have h1' : lo "cont" = some (.loc nd1.da) := by rw [g2]; exact h1
      refine WSs.cons (WS.assign1 (WE.sub (WE.sub (WE.nm ok hk h1' (WE.nm ok hk rfl (W2.itemD (F1.dict p nd1 g1) (F1.nodup g1) hk1 (WE.str (W2.itemD a1 (nodeD_nodup m) (c := .loc m.da) rfl (WA.nm ok hk (WSs.nil ?_))))))))))
      refine ih (p ++ [k]) m N1 ow1 H1 _ F1 (fun j hj => hks j (List.mem_cons_of_mem _ hj)) g3 rfl h2 h3 h4 fun H' N' ow' nd' lo' F' K' b1 b2 b3 b4 b5 b6 b7 => ?_
      rw [List.append_assoc] at b1
      exact q H' N' ow' nd' lo' F' (K1.trans K') b1 b2 b3 b4 b5 (fun q g => (b6 q g).trans (g4 q g)) fun q g => (b7 q g).trans (g5 q g)

theorem set_W {Q : CF → CSt → Prop} {f : Int} {b : Bool} {key : List Str} (ok : C.Ok dep) (fc : FCls C cl) (hk : HK C (scopeOf (flagsM 6))) (F : FW H cl x d pa N ow pend) (hl : key.length ≤ 1000) (hkey : key ≠ []) (hks : ∀ k ∈ key, k ∈ fnames) (hf : f ∈ fnums)
    (h : ∀ lo' H' N' ow', FW H' cl x d pa N' ow' pend → FK H H' ow ow' → (∀ q g, hr N' q g = (hr N q g || (!b && decide (q = key) && decide (g = f)))) → (∀ q g, rc N' q g = (rc N q g || (b && decide (q = key) && decide (g = f)))) → Q .next ⟨lo', H'⟩) :
    WSs C (bodyOf (flagsM 6)) ⟨fun y => ([("self" : Str), "key", "flag", "recursive"].zip [.loc x, .tup (key.map .str), .int f, .bool b]).lookup y, H⟩ Q := by
  (refine el_1_1 F.attrs fun r hr0 hd0 => ?_)
  have hlen : 0 < key.length := by cases key with | nil => exact absurd rfl hkey | cons _ _ => simp
  have hlast : (key.map CV.str)[cidx (key.map CV.str).length (-1)]? = some (.str (key.getLast hkey)) := by
    have : cidx (key.map CV.str).length (-1) = key.length - 1 := (cidx_last (by rw [List.length_map]; exact hlen)).trans (by rw [List.length_map])
    rw [this, List.getElem?_map, List.getLast_eq_getElem]
    simp [show key.length - 1 < key.length by (exact Nat.sub_lt_sub_left (by assumption) (Nat.lt_succ_self _))]
  have hkeyE : key.dropLast ++ [key.getLast hkey] = key := List.dropLast_concat_getLast hkey
  refine WSs.cons (WS.assign1 (WE.attr (WE.nm ok hk rfl (F.self_flags ok fc hr0 (WA.nm ok hk ?_)))))
  refine WSs.cons (WS.swap2 ok (WE.tuple ?_) (by rw [hk]; rfl) (by rw [hk]; rfl) rfl ?_)
  case refine_2 =>
    have k1 : C.env.kindOf "key_parent" = some .local := by rw [hk]; rfl
    have k2 : C.env.kindOf "key_stem" = some .local := by rw [hk]; rfl
    have k3 : C.env.blockKind = .function := blockKind_of ok
    unfold swappedStores
    dsimp only [List.filterMap]
    simp only [k1, k2, k3]
    rfl
  refine WE.slice (WE.nm ok hk rfl (WE.neg1 (in_1_1 _ rfl (WSl.tupTo (by simp; (exact Nat.le_trans (by assumption) (by decide))) ?_))))
  refine WE.sub (WE.nm ok hk rfl (WE.neg1 (W2.itemT (by simp; (exact Int.ofNat_le.mpr (by assumption))) (by simp; (exact Int.natCast_nonneg _)) (by simp; omega) hlast (in_0_1 (by simp) (in_2_1 _ _ rfl ?_)))))
  rw [List.length_map, upk_init hlen, ← List.map_take, ← List.dropLast_eq_take]
  refine WSs.cons (WS.for_ ok (WE.nm ok hk rfl (in_1_1 _ IterOf.tup ?_)))
  refine setLoop_W ok fc hk (in_3_0 _ _ _ rfl) key.dropLast [] r N ow H _ F (fun k hk' => hks k (List.dropLast_subset _ hk')) hr0 rfl rfl rfl rfl fun H1 N1 ow1 nd lo1 F1 K1 hN1 h1 h2 h3 h4 g4 g5 => ?_
  simp only [List.nil_append] at hN1
  have more : ∀ (p : List Str) (k : Str), p = key.dropLast → k = key.getLast hkey → ∀ (N : FN) (ow : FO) (H : CH) (lo : Str → Option CV), FW H cl x d pa N ow pend → N p = some nd → lo "cont" = some (.loc nd.da) → lo "key_stem" = some (.str k) → k ∈ fnames → WS C (nth (bodyOf (flagsM 6)) 3) ⟨lo, H⟩ (Ens cl x d pa pend lo p k nd.da H N ow) := by
    intro p k hp0 hk0 N ow H lo F hN h1 h2 hkn
    have hkid := F.kidAt (k := k) hN
    refine WS.if_ (WT.cmp1 (WE.nm ok hk h2 (WE.nm ok hk h1 (W2.notInDict (F.dict p nd hN) (F.nodup hN) (Wtr.bool (cB (fun hc => ?_) fun hc => ?_))))))
    · have hn : N (p ++ [k]) = none := by
        cases q : N (p ++ [k]) with
        | none => rfl
        | some m => rw [hkid, q] at hc; cases hc
      refine WSs.cons (WS.assign1 (WE.dictK fun n z1 => ?_))
      refine WE.str (in_1_1 _ rfl (WE.newI ok fc.gset (by rw [hk]; rfl) fun f z2 => ?_))
      refine WE.str (in_1_1 _ rfl (WE.newI ok fc.gset (by rw [hk]; rfl) fun r z3 => ?_))
      refine WE.str (in_1_1 _ rfl (WE.dict0 fun e z4 => ?_))
      (refine el_4_6 (F.added hN hn hkn z1 z2 z3 z4) fun H' N' ow' nd' eH F' K' g1 g2 g3 rEl => ?_; (refine el_0_1 rEl fun g4 g5 => ?_; try clear rEl))
      have dn : hput (hput (hput (hput H n (.dict [])) f (.iset [])) r (.iset [])) e (.dict []) n = some (.dict []) := hput_old (hput_old (hput_old hput_self z2) z3) z4
      refine (in_0_2 dn (by simp) ?_)
      have hdc : nd.da ≠ n := ne_of_old (F.dict p nd hN) z1
      have hH5 : hput (hput (hput (hput (hput H n (.dict [])) f (.iset [])) r (.iset [])) e (.dict [])) n (.dict (aputs [] [("flags", .loc f), ("recursive_flags", .loc r), ("nested", .loc e)])) nd.da = some (.dict (kids N p nd)) := (hput_ne hdc).trans (hput_old (hput_old (hput_old (hput_old (F.dict p nd hN) z1) z2) z3) z4)
      refine WA.subD (WE.nm ok hk h1 (WE.nm ok hk h2 (in_3_5 _ _ _ rfl rfl hH5 (F.nodup hN) (by have := F.klen hN; (exact Nat.le_trans (by assumption) (by decide))) ?_)))
      refine WSs.nil (in_0_2 rfl rfl (in_3_0 N' ow' nd' ?_))
      (refine el_1_0 (Option.isSome_iff_exists.mp g3) fun m hm => ?_)
      rw [eH] at F' K'
      exact (in_1_6 m F' K' g1 g2 hm g4 g5)
    · obtain ⟨m, hm⟩ : ∃ m, N (p ++ [k]) = some m := by
        cases q : N (p ++ [k]) with
        | some m => exact (in_1_0 m rfl)
        | none => rw [hkid, q] at hc; cases hc
      exact WSs.nil (in_0_2 rfl rfl (in_4_6 N ow nd m F (.refl _ _) hN rfl hm (fun _ _ => rfl) (fun _ _ => rfl)))
  refine WSs.cons (WS.ens (more key.dropLast (key.getLast hkey) rfl rfl N1 ow1 H1 lo1 F1 hN1 h1 h2 (hks _ (List.getLast_mem hkey))) fun H2 N2 ow2 nd2 m F2 K2 b1 b2 b3 b4 b5 => ?_)
  have hk1 := F2.kidAt (k := key.getLast hkey) b1
  rw [b3] at hk1
  rw [hkeyE] at b3
  (refine el_0_2 (F2.own _ m hkey b3) fun a1 a2 a3 => ?_)
  have h1' : lo1 "cont" = some (.loc nd2.da) := by rw [b2]; exact h1
  refine WSs.cons (WS.expr ok (WE.meth ok (WE.sub (WE.sub (WE.nm ok hk h1' (WE.nm ok hk h2 (W2.itemD (F2.dict _ nd2 b1) (F2.nodup b1) hk1 (WE.ifexp (WT.value rfl (WE.nm ok hk h4 (Wtr.bool ?_)))))))))))
  have done : ∀ H3, H3 = hput H2 (if b then m.ra else m.fa) (.iset (let l := if b then m.rs else m.fs; if f ∈ l then l else l ++ [f])) → WSs C [] ⟨lo1, H3⟩ Q := by
    intro H3 e3
    have F3 := F2.flag (H' := H3) (f := f) (rec := b) hkey b3 hf (by rw [e3]; simp) (fun c hc => by rw [e3, hput_ne hc])
    have slot : ow2 (if b then m.ra else m.fa) = some (key, if b then 2 else 1) := by
      (refine el_0_2 (F2.ow2 key m hkey b3) fun _ a c => ?_)
      cases b <;> assumption
    refine WSs.nil (h lo1 H3 _ ow2 F3 ((K1.trans K2).trans (FK.flag slot fun c hc => by rw [e3, hput_ne hc])) (fun q g => ?_) fun q g => ?_)
    · rw [hr_flag b3, b4, g4]
    · rw [rc_flag b3, b5, g5]
  (refine el_0_1 (F2.fsok key m b3) fun xEl0 rEl => ?_; (refine el_0_1 xEl0 fun n1 n2 => ?_; try clear xEl0); (refine el_0_1 rEl fun n3 n4 => ?_; try clear rEl))
  have len : ∀ l : List Int, l.Nodup → (∀ g ∈ l, g ∈ fnums) → l.length ≤ 900 := fun l q1 q2 => by
    have := List.Nodup.length_le_of_subset q1 q2
    have e : fnums.length = 4 := rfl
    (exact Nat.le_trans (by assumption) (by decide))
  cases b with
  | true =>
    refine WE.str (W2.itemD a1 (nodeD_nodup m) (c := .loc m.ra) rfl (in_1_2 _ KpOk.builtin (WMeth.iset a3 PySem.F.slot_set_add PySem.F.type_set_add) (WE.nm ok hk h3 (WCall.isetAdd a3 (len _ n3 n4) ⟨rfl, done _ rfl⟩))))
  | false =>
    refine WE.str (W2.itemD a1 (nodeD_nodup m) (c := .loc m.fa) rfl (in_1_2 _ KpOk.builtin (WMeth.iset a2 PySem.F.slot_set_add PySem.F.type_set_add) (WE.nm ok hk h3 (WCall.isetAdd a2 (len _ n1 n2) ⟨rfl, done _ rfl⟩))))
end
end Mine
open PySem PySem.W PySem.Calls PyProof.Rows
set_option Elab.async false
set_option linter.all false
set_option maxRecDepth 100000
set_option genSizeOf false
namespace Mine

/-- a method of the flags -/
structure MethAt (C : Cx) (cl : Addr) (name : Str) (i : Nat) (pn kn : List Str) (fa : Addr) (fd : FuncData) : Prop where
  find : findIn C.K (.ref cl) name = some (some (.ref fa))
  typ : typeIn C.K (.ref fa) = some (.type "function")
  keep : keepIn C.K (.ref fa) = true
  fn : FnAt C fa fd (bodyOf (flagsM i))
  scope : fd.scope.names = scopeOf (flagsM i)
  bind : ∀ us vs : List Value, us.length + kn.length = pn.length → vs.length = kn.length → bindArgs fd ⟨us, kn.zip vs⟩ = pure (pn.zip (us ++ vs))

noncomputable def goodNames (sc : List (Str × NameKind)) (pn : List Str) : Bool :=
  (pn.all fun x => storeKind (sc.lookup x)) && decide pn.Nodup && (sc.all fun x => x.2 != .free) && decide ((sc.filter fun x => x.2 == .cell).map (·.1)).Nodup

section
variable {C C' : Cx} {dep : Nat} {H : CH} {cl x d pa : Addr} {N : FN} {ow : FO} {pend : CO}

theorem GOk.same {G : List (Str × Value)} (h : GOk C G) (s : C.Same C') : GOk C' G := fun x v e => by rw [s.mg, s.mb]; exact h x v e
theorem FCls.same (fc : FCls C cl) (s : C.Same C') : FCls C' cl := by
  have hK := s.K
  exact ⟨by rw [hK]; exact fc.ok, by rw [hK]; exact fc.flags, by rw [hK]; exact fc.pendf, by rw [hK]; exact fc.tflags, by rw [hK]; exact fc.tpend, fc.gset.same s⟩
theorem FnAt.same {fa : Addr} {fd : FuncData} {body : List Stmt} (f : FnAt C fa fd body) (s : C.Same C') : FnAt C' fa fd body := by
  have hb := s.base
  exact ⟨by rw [hb]; exact f.at_, by rw [hb]; exact f.code, f.body, f.clo, f.gl, f.bl, f.co, f.gen, f.kind⟩
theorem MethAt.same {name : Str} {i : Nat} {pn kn : List Str} {fa : Addr} {fd : FuncData} (m : MethAt C cl name i pn kn fa fd) (s : C.Same C') : MethAt C' cl name i pn kn fa fd := by
  have hK := s.K
  exact ⟨by rw [hK]; exact m.find, by rw [hK]; exact m.typ, by rw [hK]; exact m.keep, m.fn.same s, m.scope, m.bind⟩

/-- a method is called upon a Flags object -/
theorem FW.meth {Q : CV → CSt → Prop} {lo : Str → Option CV} {name : Str} {i : Nat} {pn kn : List Str} {fa : Addr} {fd : FuncData} {args ks : List CV} (ok : C.Ok (dep + 1)) (fc : FCls C cl) (F : FW H cl x d pa N ow pend) (m : MethAt C cl name i pn kn fa fd)
    (hne : name ≠ "_flags" ∧ name ≠ "_pending_flags") (hg : goodNames (scopeOf (flagsM i)) pn = true) (ha : args.length + 1 + kn.length = pn.length) (hks : ks.length = kn.length)
    (h : ∀ C' : Cx, C'.Ok dep → C.Same C' → HK C' (scopeOf (flagsM i)) → WSs C' (bodyOf (flagsM i)) ⟨fun y => (pn.zip (.loc x :: args ++ ks)).lookup y, H⟩ (fun f st' => Q f.val ⟨lo, st'.H⟩)) :
    KpOk C (.ref fa) ∧ WMeth C (.loc x) name (.ref fa) ⟨lo, H⟩ ∧ WCall C (.ref fa) (.loc x :: args) kn ks ⟨lo, H⟩ Q := by
  (refine el_1_1 F.attrs fun r hr0 hd => ?_)
  simp only [goodNames, Bool.and_eq_true, decide_eq_true_eq] at hg
  (refine el_0_1 hg fun xEl0 g4 => ?_; try clear hg; (refine el_0_1 xEl0 fun yEl0 g3 => ?_; try clear xEl0; obtain ⟨g1, g2⟩ := yEl0))
  refine (in_0_2 (KpOk.ref m.keep) (WMeth.inst ok fc.ok F.obj hd ?_ m.find m.typ) ?_)
  · have h1 : (name == ("_flags" : Str)) = false := by simpa using hne.1
    have h2 : (name == ("_pending_flags" : Str)) = false := by simpa using hne.2
    simp [List.lookup_cons, h1, h2]
  · refine call_W (pn := pn) ok m.fn (fun us vs e1 e2 => m.bind us vs (by simp at e1; omega) (by omega)) (by rw [m.scope]; exact g1) g2 (by rw [m.scope]; exact g3) (by rw [m.scope]; exact g4) fun C' ok' s hs => ?_
    exact h C' ok' s fun y => by unfold Env.kindOf; rw [hs, m.scope]

theorem unset_W {Q : CF → CSt → Prop} {key : List Str} (ok : C.Ok dep) (fc : FCls C cl) (hk : HK C (scopeOf (flagsM 5))) (F : FW H cl x d pa N ow pend) (hl : key.length ≤ 1000) (hkey : key ≠ [])
    (h : ∀ fl lo' H' N', (fl = .next ∨ fl = .ret .none) → FW H' cl x d pa N' ow pend → FK H H' ow ow → (∀ q g, hr N' q g = (!key.isPrefixOf q && hr N q g)) → (∀ q g, rc N' q g = (!key.isPrefixOf q && rc N q g)) → Q fl ⟨lo', H'⟩) :
    WSs C (bodyOf (flagsM 5)) ⟨fun y => ([("self" : Str), "key"].zip [.loc x, .tup (key.map .str)]).lookup y, H⟩ Q := by
  (refine el_1_1 F.attrs fun r hr0 hd0 => ?_)
  have hlen : 0 < key.length := by cases key with | nil => exact absurd rfl hkey | cons _ _ => simp
  have hlast : (key.map CV.str)[cidx (key.map CV.str).length (-1)]? = some (.str (key.getLast hkey)) := by
    have : cidx (key.map CV.str).length (-1) = key.length - 1 := (cidx_last (by rw [List.length_map]; exact hlen)).trans (by rw [List.length_map])
    rw [this, List.getElem?_map, List.getLast_eq_getElem]
    simp [show key.length - 1 < key.length by (exact Nat.sub_lt_sub_left (by assumption) (Nat.lt_succ_self _))]
  have hkeyE : key.dropLast ++ [key.getLast hkey] = key := List.dropLast_concat_getLast hkey
  have early : ∀ (p ks : List Str), N p = none → p ++ ks = key → ∀ lo', Q (.ret .none) ⟨lo', H⟩ := by
    intro p ks hn e lo'
    have none_ : ∀ q, key.isPrefixOf q = true → N q = none := fun q hq => by
      (refine el_1_0 (List.isPrefixOf_iff_prefix.mp hq) fun t ht => ?_)
      cases hN : N q with
      | none => rfl
      | some m =>
        have := F.pre (ks ++ t) p (by rw [← List.append_assoc, e, ht, hN]; rfl)
        rw [hn] at this; cases this
    refine h _ lo' H N (.inr rfl) F (.refl _ _) (fun q g => ?_) fun q g => ?_
    · cases hq : key.isPrefixOf q with
      | false => rfl
      | true => simp [hr, none_ q hq]
    · cases hq : key.isPrefixOf q with
      | false => rfl
      | true => simp [rc, none_ q hq]
  refine WSs.cons (WS.assign1 (WE.attr (WE.nm ok hk rfl (F.self_flags ok fc hr0 (WA.nm ok hk ?_)))))
  refine WSs.cons (WS.for_ ok (WE.slice (WE.nm ok hk rfl (WE.neg1 (in_1_1 _ rfl (WSl.tupTo (by simp; (exact Nat.le_trans (by assumption) (by decide))) (in_1_1 _ IterOf.tup ?_)))))))
  rw [List.length_map, upk_init hlen, ← List.map_take, ← List.dropLast_eq_take]
  have loop : ∀ (ks p : List Str) (nd : FNode) (lo : Str → Option CV), p ++ ks = key.dropLast → N p = some nd → lo "cont" = some (.loc nd.da) → lo "key" = some (.tup (key.map .str)) →
      (∀ lo' nd', N (p ++ ks) = some nd' → lo' "cont" = some (.loc nd'.da) → lo' "key" = some (.tup (key.map .str)) → WSs C ((bodyOf (flagsM 5)).drop 2) ⟨lo', H⟩ Q) →
      ∀ it t b o pp, nth (bodyOf (flagsM 5)) 1 = .For t it b o pp → WFor C t b [] (ks.map .str) ⟨lo, H⟩ (WThen C ((bodyOf (flagsM 5)).drop 2) Q) := by
    intro ks
    induction ks with
    | nil => intro p nd lo _ hN h1 h2 q it t b o pp e; exact WSs.nil (q lo nd (by simpa using hN) h1 h2)
    | cons k ks ih =>
      intro p nd lo hp hN h1 h2 q it t b o pp e
      have e0 := e
      cases e
      have hkid := F.kidAt (k := k) hN
      refine WA.nm ok hk (WSs.cons (WS.if_ (WT.cmp1 (WE.nm ok hk rfl (WE.nm ok hk h1 (W2.notInDict (F.dict p nd hN) (F.nodup hN) (Wtr.bool (cB (fun hc => ?_) fun hc => ?_))))))))
      · have hn : N (p ++ [k]) = none := by
          cases q : N (p ++ [k]) with
          | none => rfl
          | some m => rw [hkid, q] at hc; cases hc
        have eKey : p ++ [k] ++ (ks ++ [key.getLast hkey]) = key := by
          have := hkeyE
          rw [← hp] at this
          simpa using this
        exact WSs.cons (WS.retNone (early (p ++ [k]) (ks ++ [key.getLast hkey]) hn eKey _))
      · obtain ⟨m, hm⟩ : ∃ m, N (p ++ [k]) = some m := by
          cases q : N (p ++ [k]) with
          | some m => exact (in_1_0 m rfl)
          | none => rw [hkid, q] at hc; cases hc
        rw [hm] at hkid
        (refine el_0_2 (F.own _ m (by simp) hm) fun a1 a2 a3 => ?_)
        refine WSs.nil (WSs.cons (WS.assign1 (WE.sub (WE.sub (WE.nm ok hk h1 (WE.nm ok hk rfl (W2.itemD (F.dict p nd hN) (F.nodup hN) hkid (WE.str (W2.itemD a1 (nodeD_nodup m) (c := .loc m.da) rfl (WA.nm ok hk (WSs.nil ?_)))))))))))
        refine ih (p ++ [k]) m (((CSt.mk lo H).put "k" (.str k)).put "cont" (.loc m.da)).lo (by rw [← hp]; simp) hm rfl h2 (fun lo' nd' hN' => q lo' nd' (by rw [List.append_assoc] at hN'; exact hN')) _ _ _ _ _ e0
  refine loop key.dropLast [] r _ rfl hr0 rfl rfl (fun lo' nd hN h1 h2 => ?_) _ _ _ _ _ rfl
  simp only [List.nil_append] at hN
  refine WSs.cons (WS.exprAny ok (WE.meth ok (WE.nm ok hk h1 (in_1_2 _ KpOk.builtin (WMeth.dict (F.dict _ nd hN) PySem.F.slot_dict_pop PySem.F.type_dict_pop) ?_))))
  refine WE.sub (WE.nm ok hk h2 (WE.neg1 (W2.itemT (by simp; (exact Int.ofNat_le.mpr (by assumption))) (by simp; (exact Int.natCast_nonneg _)) (by simp; omega) hlast (WE.none ?_))))
  refine WCall.dictPop (F.dict _ nd hN) (F.nodup hN) (by have := F.klen hN; (exact Nat.le_trans (by assumption) (by decide))) (WSs.nil ?_)
  (refine el_0_1 (F.cut (H' := hput H nd.da (.dict (adel (kids N key.dropLast nd) (key.getLast hkey)))) (k := key.getLast hkey) hN (by simp) fun b hb => hput_ne hb) fun F' K' => ?_)
  refine h _ lo' _ _ (.inl rfl) F' K' (fun q g => ?_) fun q g => ?_
  · rw [hr_cut hN, hkeyE]
  · rw [rc_cut hN, hkeyE]

/-- a pair of a way and a flag that is in use -/
noncomputable def pgood (v : List Str × Int) : Prop := v.1 ≠ [] ∧ v.1.length ≤ 1000 ∧ (∀ k ∈ v.1, k ∈ fnames) ∧ v.2 ∈ fnums
theorem pgood.pok {v : List Str × Int} (h : pgood v) : pok v = true := by
  (refine el_0_3 h fun h1 _ h3 _ => ?_; try clear h)
  rewrite [Mine.pok, Bool.and_eq_true, Bool.not_eq_true', List.isEmpty_eq_false_iff, List.all_eq_true]
  refine ⟨h1, fun k hk => ?_⟩
  have : ∀ k ∈ fnames, PyData.strOk k = true := by decide +kernel
  exact this k (h3 k hk)

theorem wait_W {Q : CF → CSt → Prop} {f : Int} {key : List Str} {vs : List (List Str × Int)} (ok : C.Ok dep) (fc : FCls C cl) (hk : HK C (scopeOf (flagsM 3))) (F : FW H cl x d pa N ow (.set vs)) (hp : pgood (key, f)) (hn : vs.length ≤ 900)
    (h : ∀ lo' H', FW H' cl x d pa N ow (.set (vs ++ [(key, f)])) → FK H H' ow ow → Q .next ⟨lo', H'⟩) :
    WSs C (bodyOf (flagsM 3)) ⟨fun y => ([("self" : Str), "key", "flag"].zip [.loc x, .tup (key.map .str), .int f]).lookup y, H⟩ Q := by
  refine WSs.cons (WS.expr ok (WE.meth ok (WE.attr (WE.nm ok hk rfl (F.self_pend ok fc (in_1_2 _ KpOk.builtin (WMeth.set F.pend PySem.F.slot_set_add PySem.F.type_set_add) ?_))))))
  refine WE.tuple (WE.nm ok hk rfl (WE.nm ok hk rfl ⟨by simp, ?_⟩))
  (refine el_0_1 (F.wait (H' := hput H pa (.set (vs ++ [(key, f)]))) (pend' := .set (vs ++ [(key, f)])) (by simp) fun b hb => hput_ne hb) fun F' K' => ?_)
  exact WCall.addPair (p := (key, f)) ok F.pend hp.pok hn ⟨rfl, WSs.nil (h _ _ F' K')⟩

theorem init_W {Q : CF → CSt → Prop} {H0 : CH} (ok : C.Ok dep) (fc : FCls C cl) (hk : HK C (scopeOf (flagsM 2))) (hxd : x ≠ d) (z1 : H0 x = none) (z2 : H0 d = none)
    (h : ∀ lo' H' r pa, FW H' cl x d pa (fun (q : List Str) => if q = [] then some ⟨0, 0, 0, r, [], [], []⟩ else none) (oput (oput (oput (oput (fun _ => none) x ([], 10)) d ([], 11)) pa ([], 12)) r ([], 3)) (.set []) →
      (∀ a, H0 a ≠ none → H' a = H0 a) → H0 r = none → H0 pa = none → Q .next ⟨lo', H'⟩) :
    WSs C (bodyOf (flagsM 2)) ⟨fun y => ([("self" : Str)].zip [.loc x]).lookup y, hput (hput H0 d (.dict [])) x (.inst cl d)⟩ Q := by
  have hne : ∀ {H : CH} {a b : Addr} {c : CO}, hput H a c b = none → b ≠ a ∧ H b = none := fun {H a b c} h => by
    unfold hput at h; split at h
    · cases h
    · rename_i q; exact ⟨q, h⟩
  refine WSs.cons (WS.assign1 (WE.dict0 fun r z3 => ?_))
  (refine el_0_1 (hne z3) fun y1 y2 => ?_)
  (refine el_0_1 (hne y2) fun y2 y3 => ?_)
  refine WA.attr ok (WE.nm ok hk rfl (in_4_6 x d cl ([]) rfl fc.ok ?_ ?_ fc.tflags (by simp) ?_))
  · simp [hput, Ne.symm y1]
  · simp [hput, Ne.symm y2, Ne.symm hxd]
  refine WSs.cons (WS.assign1 (WE.newP ok fc.gset (by rw [hk]; rfl) fun p z4 => ?_))
  (refine el_0_1 (hne z4) fun w1 w2 => ?_)
  (refine el_0_1 (hne w2) fun w3 w4 => ?_)
  (refine el_0_1 (hne w4) fun w5 w6 => ?_)
  (refine el_0_1 (hne w6) fun w7 w8 => ?_)
  refine WA.attr ok (WE.nm ok hk rfl (in_4_6 x d cl ([("_flags", .loc r)]) rfl fc.ok ?_ ?_ fc.tpend (by simp) (WSs.nil ?_)))
  · simp [hput, Ne.symm w5, Ne.symm y1, hxd]
  · simp [hput, Ne.symm w1, aput]
  refine h _ _ r p (FW.new (r := r) (in_0_5 hxd (Ne.symm y1) (Ne.symm w5) (Ne.symm y2) (Ne.symm w1) (Ne.symm w3)) ?_ ?_ ?_ ?_) (fun a ha => ?_) y3 w8
  · simp [hput, hxd, Ne.symm w5, Ne.symm y1]
  · have e : aput [(("_flags" : Str), CV.loc r)] "_pending_flags" (.loc p) = ([("_flags", .loc r), ("_pending_flags", .loc p)] : List (Str × CV)) := rfl
    simp [hput, e]
  · simp [hput, y2, Ne.symm w3]
  · simp [hput, w1]
  · have n1 : a ≠ d := fun q => by subst q; exact ha z2
    have n2 : a ≠ x := fun q => by subst q; exact ha z1
    have n3 : a ≠ r := fun q => by subst q; exact ha y3
    have n4 : a ≠ p := fun q => by subst q; exact ha w8
    simp [hput, n1, n2, n3, n4]
end
end Mine
open PySem PySem.W PySem.Calls PyProof.Rows
set_option Elab.async false
set_option linter.all false
set_option maxRecDepth 100000
set_option genSizeOf false
namespace Mine
section
variable {C C' : Cx} {dep : Nat} {H : CH} {cl x d pa : Addr} {N : FN} {ow : FO} {pend : CO}

theorem mem_or (b : Bool) (q : List Str) (g : Int) (u : List Str × Int) (us : List (List Str × Int)) : (b || (!false && decide (q = u.1) && decide (g = u.2)) || decide ((q, g) ∈ us)) = (b || decide ((q, g) ∈ u :: us)) := by
  obtain ⟨u1, u2⟩ := u
  rw [Bool.eq_iff_iff]
  simp [List.mem_cons, Prod.ext_iff, or_assoc]
/-- self.set(key, flag, recursive=..) of the class is the text's own -/
noncomputable abbrev SetAt (C : Cx) (cl fa : Addr) (fd : FuncData) : Prop := MethAt C cl "set" 6 ["self", "key", "flag", "recursive"] ["recursive"] fa fd

theorem finLoop_W {t : Expr} {body : List Stmt} {Q : CF → CSt → Prop} {o : Obj} {fa : Addr} {fd : FuncData} (ok : C.Ok (dep + 1)) (fc : FCls C cl) (ms : SetAt C cl fa fd) (hk : HK C (scopeOf (flagsM 4))) 
    (e : ∃ it o p, nth (bodyOf (flagsM 4)) 0 = .For t it body o p) :
    ∀ (us : List (List Str × Int)) (N : FN) (ow : FO) (H : CH) (lo : Str → Option CV), FW H cl x d pa N ow (.froz o) → (∀ u ∈ us, pgood u) → lo "self" = some (.loc x) →
      (∀ H' N' ow' lo', FW H' cl x d pa N' ow' (.froz o) → FK H H' ow ow' → lo' "self" = some (.loc x) → (∀ q g, hr N' q g = (hr N q g || decide ((q, g) ∈ us))) → (∀ q g, rc N' q g = rc N q g) → Q .next ⟨lo', H'⟩) →
      WForL C pa o t body [] (us.map pcv) ⟨lo, H⟩ Q := by
  apply forE (t := t) (body := body) e
  intro us
  induction us with
  | nil => intro N ow H lo F _ h1 q; exact WSs.nil (q H N ow lo F (.refl _ _) h1 (fun _ _ => by simp) fun _ _ => rfl)
  | cons u us ih =>
    intro N ow H lo F hus h1 q
    (refine el_0_3 (hus u List.mem_cons_self) fun g1 g2 g3 g4 => ?_)
    refine WA.tuple (vs := [.tup (u.1.map .str), .int u.2]) ok rfl (WA.nm ok hk (WA.nm ok hk ?_))
    have call := fun Q' => F.meth (Q := Q') (lo := (((CSt.mk lo H).put "key" (.tup (u.1.map .str))).put "flag" (.int u.2)).lo) (args := [.tup (u.1.map .str), .int u.2]) (ks := [.bool false]) ok fc ms ⟨by decide, by decide⟩ (by decide +kernel) rfl rfl
    refine WSs.cons (WS.expr ok (WE.meth ok (WE.nm ok hk h1 (in_1_2 _ (KpOk.ref ms.keep) ?_ (WE.nm ok hk rfl (WE.nm ok hk rfl (WE.bool ?_)))))))
    · exact (call (fun _ _ => True) fun C' ok' s hk' => set_W ok' (fc.same s) hk' F g2 g1 g3 g4 fun _ _ _ _ _ _ _ _ => trivial).2.1
    · refine (call _ fun C' ok' s hk' => set_W ok' (fc.same s) hk' F g2 g1 g3 g4 fun lo' H' N' ow' F' K' b1 b2 => ?_).2.2
      refine ⟨rfl, WSs.nil ⟨F'.pend, ?_⟩⟩
      refine ih N' ow' H' _ F' (fun v hv => hus v (List.mem_cons_of_mem _ hv)) h1 fun H2 N2 ow2 lo2 F2 K2 c1 c2 c3 => ?_
      refine q H2 N2 ow2 lo2 F2 (K'.trans K2) c1 (fun q g => ?_) fun q g => ?_
      · rw [c2, b1]
        exact mem_or _ _ _ _ _
      · rw [c3, b2]; simp

theorem fin_W {Q : CF → CSt → Prop} {vs : List (List Str × Int)} {fa : Addr} {fd : FuncData} (ok : C.Ok (dep + 1)) (fc : FCls C cl) (ms : SetAt C cl fa fd) (hk : HK C (scopeOf (flagsM 4))) (F : FW H cl x d pa N ow (.set vs)) (hv : ∀ v ∈ vs, pgood v) (hn : vs.length ≤ 900)
    (h : ∀ lo' H' N' ow', FW H' cl x d pa N' ow' (.set []) → FK H H' ow ow' → (∀ q g, hr N' q g = (hr N q g || decide ((q, g) ∈ vs))) → (∀ q g, rc N' q g = rc N q g) → Q .next ⟨lo', H'⟩) :
    WSs C (bodyOf (flagsM 4)) ⟨fun y => ([("self" : Str)].zip [.loc x]).lookup y, H⟩ Q := by
  refine WSs.cons (WS.forPairs ok (WE.attr (WE.nm ok hk rfl (F.self_pend ok fc (in_2_3 pa vs rfl F.pend (by (exact Nat.le_trans (by assumption) (by decide))) (fun us o hus => ?_))))))
  (refine el_0_1 (F.wait (H' := hput H pa (.froz o)) (pend' := .froz o) (by simp) fun b hb => hput_ne hb) fun F1 K1 => ?_)
  refine finLoop_W ok fc ms hk (in_3_0 _ _ _ rfl) us N ow _ _ F1 (fun u hu => hv u ((hus u).mp hu)) rfl fun H2 N2 ow2 lo2 F2 K2 c1 c2 c3 => ⟨F2.pend, ?_⟩
  (refine el_0_1 (F2.wait (H' := hput H2 pa (.set vs)) (pend' := .set vs) (by simp) fun b hb => hput_ne hb) fun F3 K3 => ?_)
  refine WSs.cons (WS.expr ok (WE.meth ok (WE.attr (WE.nm ok hk c1 (F3.self_pend ok fc (in_1_2 _ KpOk.builtin (WMeth.set F3.pend PySem.F.slot_set_clear PySem.F.type_set_clear) ?_))))))
  (refine el_0_1 (F3.wait (H' := hput (hput H2 pa (.set vs)) pa (.set [])) (pend' := .set []) (by simp) fun b hb => hput_ne hb) fun F4 K4 => ?_)
  refine WCall.clearPairs ok F3.pend ⟨rfl, WSs.nil (h _ _ N2 ow2 F4 (((K1.trans K2).trans K3).trans K4) (fun q g => ?_) fun q g => c3 q g)⟩
  simp only [c2, Bool.eq_iff_iff, Bool.or_eq_true, Bool.or_eq_true, decide_eq_true_eq, decide_eq_true_eq, hus]
end
end Mine
open PySem PySem.W PySem.Calls PyProof.Rows
set_option Elab.async false
set_option linter.all false
set_option maxRecDepth 100000
set_option genSizeOf false
namespace Mine
noncomputable def lawF (i : Nat) : Stmt := nth PySem.Challenge.pw_kq0032_03.main.body i

noncomputable def nameOf (r : Int) : Str := fnames.getD (r % 3).toNat ""
noncomputable def wayOf : Nat → Int → List Str
  | 0, _ => []
  | n + 1, r => nameOf r :: wayOf n (r / 3)
/-- a number as a call: kind, way, flag -/
noncomputable def callOf (x : Int) : Int × List Str × Int := (x % 5, wayOf ((x / 10) % 3 + 1).toNat (x / 10 / 3), x / 5 % 2)
noncomputable def callC (c : Int × List Str × Int) : CV := .tup [.int c.1, .tup (c.2.1.map .str), .int c.2.2]

theorem wayOf_length : ∀ (n : Nat) (r : Int), (wayOf n r).length = n
  | 0, _ => rfl
  | n + 1, r => by simp [wayOf, wayOf_length n]
theorem nameOf_mem (r : Int) : nameOf r ∈ fnames := by
  unfold nameOf
  have h1 : r % 3 = 0 ∨ r % 3 = 1 ∨ r % 3 = 2 := by omega
  rcases h1 with h | h | h <;> rw [h] <;> decide
theorem wayOf_mem : ∀ (n : Nat) (r : Int), ∀ k ∈ wayOf n r, k ∈ fnames
  | 0, _, k, hk => by cases hk
  | n + 1, r, k, hk => by
    rcases List.mem_cons.mp hk with rfl | hk
    · exact nameOf_mem r
    · exact wayOf_mem n _ k hk

section
variable {C C' : Cx} {dep : Nat} {H : CH}

theorem callLoop_W {t : Expr} {body : List Stmt} {Q : CF → CSt → Prop} {x : Int} (ok : C.Ok dep) (hk : HK C (scopeOf (lawF 3))) (e : ∃ it o p, nth (bodyOf (lawF 3)) 4 = .For t it body o p) :
    ∀ (l : List CV) (way : List Str) (r : Int) (lo : Str → Option CV), way.length + l.length ≤ 10 → lo "way" = some (.tup (way.map .str)) → lo "rest" = some (.int r) → lo "x" = some (.int x) →
      (∀ lo', lo' "way" = some (.tup ((way ++ wayOf l.length r).map .str)) → lo' "x" = some (.int x) → Q .next ⟨lo', H⟩) → WFor C t body [] l ⟨lo, H⟩ Q := by
  apply forE (t := t) (body := body) e
  intro l
  induction l with
  | nil => intro way r lo _ h1 h2 h3 q; exact WSs.nil (q lo (by simpa [wayOf] using h1) h3)
  | cons c l ih =>
    intro way r lo hl h1 h2 h3 q
    simp only [List.length_cons] at hl
    refine WA.nm ok hk (WSs.cons (WS.assign1 (WE.binop (WE.nm ok hk h1 (WE.tuple (WE.sub (WE.listF (WE.str (WE.str (WE.str ⟨by decide, WE.binop (WE.nm ok hk h2 (WE.int (W2.modI (by (exact Int.natCast_nonneg _)) ?_)))⟩))))))))))
    have hr : (r % 3) = 0 ∨ (r % 3) = 1 ∨ (r % 3) = 2 := by omega
    have hit : ([.str "a", .str "b", .str "a.b"] : List CV)[cidx 3 (r % 3)]? = some (.str (nameOf r)) := by
      unfold nameOf cidx
      rcases hr with h | h | h <;> rw [h] <;> rfl
    refine W2.itemL (by simp; omega) (by simp; (exact Int.emod_lt_of_pos _ (by decide))) (by decide) hit ⟨by simp, W2.addT (by simp; omega) (WA.nm ok hk ?_)⟩
    refine WSs.cons (WS.assign1 (WE.binop (WE.nm ok hk h2 (WE.int (W2.divI (by (exact Int.natCast_nonneg _)) (by (exact Int.natCast_nonneg _)) (WA.nm ok hk (WSs.nil ?_)))))))
    refine ih (way ++ [nameOf r]) (r / 3) _ (by simp; omega) ?_ rfl h3 fun lo' c1 c2 => q lo' ?_ c2
    · show some (CV.tup (way.map .str ++ [.str (nameOf r)])) = _; simp
    · rw [c1]; simp [wayOf]

theorem call_W' {Q : CF → CSt → Prop} {x : Int} (ok : C.Ok dep) (hk : HK C (scopeOf (lawF 3))) (hg : GOk C [("range", .type "range")]) (h : ∀ lo', Q (.ret (callC (callOf x))) ⟨lo', H⟩) :
    WSs C (bodyOf (lawF 3)) ⟨fun y => ([("x" : Str)].zip [.int x]).lookup y, H⟩ Q := by
  refine WSs.cons (WS.assign1 (WE.binop (WE.nm ok hk rfl (WE.int (W2.divI (by (exact Int.natCast_nonneg _)) (by (exact Int.natCast_nonneg _)) (WA.nm ok hk ?_))))))
  refine WSs.cons (WS.assign1 (WE.binop (WE.binop (WE.nm ok hk rfl (WE.int (W2.modI (by (exact Int.natCast_nonneg _)) (WE.int (W2.addI (WA.nm ok hk ?_)))))))))
  refine WSs.cons (WS.assign1 (WE.binop (WE.nm ok hk rfl (WE.int (W2.divI (by (exact Int.natCast_nonneg _)) (by (exact Int.natCast_nonneg _)) (WA.nm ok hk ?_))))))
  refine WSs.cons (WS.assign1 (WE.tuple ⟨by simp, WA.nm ok hk ?_⟩))
  have hs : 0 ≤ x / 10 % 3 ∧ x / 10 % 3 ≤ 2 := by omega
  refine WSs.cons (WS.for_ ok (WE.call ok (WE.glob ok hg (v := .type "range") rfl (in_1_2 _ rfl KpOk.type (WE.nm ok hk rfl (WCall.range1 (in_1_1 _ (IterOf.rng (by decide) (by omega)) ?_)))) (by rw [hk]; rfl))))
  refine callLoop_W (x := x) ok hk (in_3_0 _ _ _ rfl) _ [] _ _ (by rw [rints_length]; simp; omega) rfl rfl rfl fun lo' c1 c2 => ?_
  rw [List.nil_append, rints_length, Int.sub_zero] at c1
  refine WSs.cons (WS.ret (WE.tuple (WE.binop (WE.nm ok hk c2 (WE.int (W2.modI (by (exact Int.natCast_nonneg _)) (WE.nm ok hk c1 (WE.binop (WE.binop (WE.nm ok hk c2 (WE.int (W2.divI (by (exact Int.natCast_nonneg _)) (by (exact Int.natCast_nonneg _)) (WE.int (W2.modI (by (exact Int.natCast_nonneg _)) ⟨by simp, ?_⟩))))))))))))))
  have := h lo'
  exact this
end
end Mine
open PySem PySem.W PySem.Calls PyProof.Rows
set_option Elab.async false
set_option linter.all false
set_option maxRecDepth 100000
set_option genSizeOf false
namespace Mine

/-- the marks of a Flags object: here, for all below, waiting -/
structure MS where
  h : List Str → Int → Bool
  r : List Str → Int → Bool
  w : List (List Str × Int)
noncomputable def MS.zero : MS := ⟨fun _ _ => false, fun _ _ => false, []⟩
/-- a call upon the marks -/
noncomputable def MS.do (m : MS) (c : Int × List Str × Int) : MS :=
  if c.1 < 2 then ⟨fun q g => m.h q g || (!decide (c.1 = 1) && decide (q = c.2.1) && decide (g = c.2.2)), fun q g => m.r q g || (decide (c.1 = 1) && decide (q = c.2.1) && decide (g = c.2.2)), m.w⟩
  else if c.1 = 2 then ⟨m.h, m.r, m.w ++ [(c.2.1, c.2.2)]⟩
  else if c.1 = 3 then ⟨fun q g => m.h q g || decide ((q, g) ∈ m.w), m.r, []⟩
  else ⟨fun q g => !c.2.1.isPrefixOf q && m.h q g, fun q g => !c.2.1.isPrefixOf q && m.r q g, m.w⟩

/-- a Flags object of these marks -/
noncomputable def FM (H : CH) (cl x : Addr) (ow : FO) (m : MS) : Prop := ∃ d pa N, FW H cl x d pa N ow (.set m.w) ∧ (∀ q g, hr N q g = m.h q g) ∧ ∀ q g, rc N q g = m.r q g
theorem FM.keep {H H' : CH} {cl x : Addr} {ow oo oo' : FO} {m : MS} (F : FM H cl x ow m) (K : FK H H' oo oo') (ap : ∀ a, ow a ≠ none → oo a = none) : FM H' cl x ow m ∧ ∀ a, ow a ≠ none → oo' a = none := by
  (revert F; intro hfEl; refine el_3_2 hfEl fun d pa N F h1 h2 => ?_; try clear hfEl)
  (refine el_0_1 (F.keep K ap) fun F' k => ?_)
  exact ⟨(in_3_2 d pa N F' h1 h2), k⟩

/-- the methods of the class -/
structure FMs (C : Cx) (cl : Addr) : Prop where
  set : ∃ fa fd, SetAt C cl fa fd
  wait : ∃ fa fd, MethAt C cl "add_pending" 3 ["self", "key", "flag"] [] fa fd
  fin : ∃ fa fd, MethAt C cl "finalize_pending" 4 ["self"] [] fa fd
  cut : ∃ fa fd, MethAt C cl "unset_all" 5 ["self", "key"] [] fa fd
  is : ∃ fa fd, MethAt C cl "is_" 7 ["self", "key", "flag"] [] fa fd
  init : ∃ fa fd, MethAt C cl "__init__" 2 ["self"] [] fa fd

section
variable {C C' : Cx} {dep : Nat} {H : CH} {cl x : Addr} {ow : FO} {m : MS} {Q : CV → CSt → Prop} {lo : Str → Option CV}
theorem FMs.same (ms : FMs C cl) (s : C.Same C') : FMs C' cl :=
  ⟨let ⟨a, b, c⟩ := ms.set; (in_2_0 a b (c.same s)), let ⟨a, b, c⟩ := ms.wait; (in_2_0 a b (c.same s)), let ⟨a, b, c⟩ := ms.fin; (in_2_0 a b (c.same s)), let ⟨a, b, c⟩ := ms.cut; (in_2_0 a b (c.same s)), let ⟨a, b, c⟩ := ms.is; (in_2_0 a b (c.same s)), let ⟨a, b, c⟩ := ms.init; (in_2_0 a b (c.same s))⟩

/-- how a method is called -/
noncomputable def MCall (C : Cx) (x : Addr) (name : Str) (args : List CV) (kn : List Str) (ks : List CV) (st : CSt) (Q : CV → CSt → Prop) : Prop := ∃ f, KpOk C f ∧ WMeth C (.loc x) name f st ∧ WCall C f (.loc x :: args) kn ks st Q

theorem FM.set {key : List Str} {f : Int} {b : Bool} (ok : C.Ok (dep + 1)) (fc : FCls C cl) (ms : FMs C cl) (F : FM H cl x ow m) (hp : pgood (key, f))
    (h : ∀ H' ow', FM H' cl x ow' ⟨fun q g => m.h q g || (!b && decide (q = key) && decide (g = f)), fun q g => m.r q g || (b && decide (q = key) && decide (g = f)), m.w⟩ → FK H H' ow ow' → Q .none ⟨lo, H'⟩) :
    MCall C x "set" [.tup (key.map .str), .int f] ["recursive"] [.bool b] ⟨lo, H⟩ Q := by
  (revert F; intro hfEl; refine el_3_2 hfEl fun d pa N F h1 h2 => ?_; try clear hfEl)
  (refine el_2_0 ms.set fun fa fd mm => ?_)
  (refine el_0_3 hp fun g1 g2 g3 g4 => ?_; try clear hp)
  exact (in_1_0 _ (F.meth ok fc mm ⟨by decide, by decide⟩ (by decide +kernel) rfl rfl fun C' ok' s hk => set_W ok' (fc.same s) hk F g2 g1 g3 g4 fun lo' H' N' ow' F' K' b1 b2 => h H' ow' (in_3_2 d pa N' F' (fun q g => by rw [b1, h1]) (fun q g => by rw [b2, h2])) K'))
theorem FM.wait {key : List Str} {f : Int} (ok : C.Ok (dep + 1)) (fc : FCls C cl) (ms : FMs C cl) (F : FM H cl x ow m) (hp : pgood (key, f)) (hn : m.w.length ≤ 900)
    (h : ∀ H', FM H' cl x ow ⟨m.h, m.r, m.w ++ [(key, f)]⟩ → FK H H' ow ow → Q .none ⟨lo, H'⟩) : MCall C x "add_pending" [.tup (key.map .str), .int f] [] [] ⟨lo, H⟩ Q := by
  (revert F; intro hfEl; refine el_3_2 hfEl fun d pa N F h1 h2 => ?_; try clear hfEl)
  (refine el_2_0 ms.wait fun fa fd mm => ?_)
  exact (in_1_0 _ (F.meth ok fc mm ⟨by decide, by decide⟩ (by decide +kernel) rfl rfl fun C' ok' s hk => wait_W ok' (fc.same s) hk F hp hn fun lo' H' F' K' => h H' (in_3_2 d pa N F' h1 h2) K'))
theorem FM.fin (ok : C.Ok (dep + 2)) (fc : FCls C cl) (ms : FMs C cl) (F : FM H cl x ow m) (hp : ∀ v ∈ m.w, pgood v) (hn : m.w.length ≤ 900)
    (h : ∀ H' ow', FM H' cl x ow' ⟨fun q g => m.h q g || decide ((q, g) ∈ m.w), m.r, []⟩ → FK H H' ow ow' → Q .none ⟨lo, H'⟩) : MCall C x "finalize_pending" [] [] [] ⟨lo, H⟩ Q := by
  (revert F; intro hfEl; refine el_3_2 hfEl fun d pa N F h1 h2 => ?_; try clear hfEl)
  (refine el_2_0 ms.fin fun fa fd mm => ?_)
  (refine el_2_0 ms.set fun fa2 fd2 mm2 => ?_)
  exact (in_1_0 _ (F.meth (dep := dep + 1) ok fc mm ⟨by decide, by decide⟩ (by decide +kernel) rfl rfl fun C' ok' s hk => fin_W ok' (fc.same s) (mm2.same s) hk F hp hn fun lo' H' N' ow' F' K' b1 b2 => h H' ow' (in_3_2 d pa N' F' (fun q g => by rw [b1, h1]) (fun q g => by rw [b2, h2])) K'))
theorem FM.cut {key : List Str} (ok : C.Ok (dep + 1)) (fc : FCls C cl) (ms : FMs C cl) (F : FM H cl x ow m) (hkey : key ≠ []) (hl : key.length ≤ 1000)
    (h : ∀ H', FM H' cl x ow ⟨fun q g => !key.isPrefixOf q && m.h q g, fun q g => !key.isPrefixOf q && m.r q g, m.w⟩ → FK H H' ow ow → Q .none ⟨lo, H'⟩) : MCall C x "unset_all" [.tup (key.map .str)] [] [] ⟨lo, H⟩ Q := by
  (revert F; intro hfEl; refine el_3_2 hfEl fun d pa N F h1 h2 => ?_; try clear hfEl)
  (refine el_2_0 ms.cut fun fa fd mm => ?_)
  refine (in_1_0 _ (F.meth ok fc mm ⟨by decide, by decide⟩ (by decide +kernel) rfl rfl fun C' ok' s hk => unset_W ok' (fc.same s) hk F hl hkey fun fl lo' H' N' hfl F' K' b1 b2 => ?_))
  have e : fl.val = .none := by rcases hfl with rfl | rfl <;> rfl
  rw [e]
  exact h H' (in_3_2 d pa N' F' (fun q g => by rw [b1, h1]) (fun q g => by rw [b2, h2])) K'

/-- what is told of a way by its marks -/
noncomputable def MS.tell (m : MS) (key : List Str) (f : Int) : Bool := ((List.range key.length).any fun i => m.r (key.take (i + 1)) f) || (!key.isEmpty && m.h key f)

theorem isLoop_eq {N : FN} {f : Int} {H : CH} {d pa : Addr} {pend : CO} (F : FW H cl x d pa N ow pend) : ∀ (ks p : List Str), isLoop N f p ks = (if (List.range ks.length).any (fun i => rc N (p ++ ks.take (i + 1)) f) then some true else if (N (p ++ ks)).isNone && !ks.isEmpty then some false else none)
  | [], p => by simp [isLoop]
  | k :: ks, p => by
    unfold isLoop
    have ih := isLoop_eq (f := f) F ks (p ++ [k])
    have hr : (List.range (k :: ks).length).any (fun i => rc N (p ++ (k :: ks).take (i + 1)) f) = (rc N (p ++ [k]) f || (List.range ks.length).any (fun i => rc N (p ++ [k] ++ ks.take (i + 1)) f)) := by
      simp only [List.length_cons, List.range_succ_eq_map, List.any_cons, List.any_map]
      congr 1
      congr 1
      funext i
      simp
    have hn : N (p ++ k :: ks) = N (p ++ [k] ++ ks) := by simp
    rw [hr, hn]
    cases hN : N (p ++ [k]) with
    | none =>
      have none_ : ∀ t, N (p ++ [k] ++ t) = none := fun t => by
        cases q : N (p ++ [k] ++ t) with
        | none => rfl
        | some m => have := F.pre t (p ++ [k]) (by rw [q]; rfl); rw [hN] at this; cases this
      have e1 : rc N (p ++ [k]) f = false := by simp [rc, hN]
      have e2 : (List.range ks.length).any (fun i => rc N (p ++ [k] ++ ks.take (i + 1)) f) = false := by
        rw [List.any_eq_false]; intro i _; simp only [rc, none_]; decide
      rw [e1, e2, none_]; rfl
    | some nd =>
      dsimp only
      have e1 : rc N (p ++ [k]) f = decide (f ∈ nd.rs) := by simp [rc, hN]
      rw [e1]
      by_cases hf : f ∈ nd.rs
      · simp [hf]
      · rw [if_neg hf, ih, decide_eq_false hf, Bool.false_or]
        cases ks with
        | nil => simp [hN]
        | cons j ks => rfl
theorem isP_tell {N : FN} {f : Int} {key : List Str} {d pa : Addr} {pend : CO} (F : FW H cl x d pa N ow pend) (h1 : ∀ q g, hr N q g = m.h q g) (h2 : ∀ q g, rc N q g = m.r q g) : isP N f key = m.tell key f := by
  unfold isP MS.tell
  by_cases hk : key = []
  · subst hk; rfl
  rw [if_neg hk, isLoop_eq F]
  have hE : key.dropLast ++ [key.getLast hk] = key := List.dropLast_concat_getLast hk
  have hlen : key.length = key.dropLast.length + 1 := by rw [List.length_dropLast]; have := List.length_pos_iff.mpr hk; omega
  have e1 : (List.range key.length).any (fun i => m.r (key.take (i + 1)) f) = ((List.range key.dropLast.length).any (fun i => rc N ([] ++ key.dropLast.take (i + 1)) f) || rc N key f) := by
    simp only [hlen, List.range_succ, List.any_append, List.any_cons, List.any_nil, Bool.or_false]
    congr 1
    · have : ∀ i ∈ List.range key.dropLast.length, m.r (key.take (i + 1)) f = rc N ([] ++ key.dropLast.take (i + 1)) f := fun i hi => by
        have hi' := List.mem_range.mp hi
        simp only [List.nil_append, h2]
        congr 1
        rw [List.dropLast_eq_take, List.take_take]
        congr 1
        rw [List.length_dropLast] at hi'
        omega
      rw [Bool.eq_iff_iff, List.any_eq_true, List.any_eq_true]
      exact ⟨fun ⟨i, hi, q⟩ => (in_1_1 i hi (by rw [← this i hi]; exact q)), fun ⟨i, hi, q⟩ => (in_1_1 i hi (by rw [this i hi]; exact q))⟩
    · rw [h2, ← hlen, List.take_length]
  have e2 : (!key.isEmpty) = true := by cases key with | nil => exact absurd rfl hk | cons _ _ => rfl
  simp only [e1, e2, Bool.true_and, ← h1]
  generalize (List.range key.dropLast.length).any (fun i => rc N ([] ++ key.dropLast.take (i + 1)) f) = b
  cases b with
  | true => rfl
  | false =>
    simp only [Bool.false_eq_true, if_false, Bool.false_or, List.nil_append]
    by_cases hn : ((N key.dropLast).isNone && !key.dropLast.isEmpty) = true
    · rw [if_pos hn]
      have hnone : N key = none := by
        cases q : N key with
        | none => rfl
        | some mm =>
          have := F.pre [key.getLast hk] key.dropLast (by rw [hE, q]; rfl)
          rw [Bool.and_eq_true] at hn
          cases q2 : N key.dropLast with
          | none => rw [q2] at this; cases this
          | some _ => rw [q2] at hn; cases hn.1
      simp [hr, rc, hnone]
    · rw [if_neg hn, Bool.or_comm]

theorem FM.is {key : List Str} {f : Int} (ok : C.Ok (dep + 1)) (fc : FCls C cl) (ms : FMs C cl) (F : FM H cl x ow m) (hl : key.length ≤ 1000) (h : Q (.bool (m.tell key f)) ⟨lo, H⟩) : MCall C x "is_" [.tup (key.map .str), .int f] [] [] ⟨lo, H⟩ Q := by
  (revert F; intro hfEl; refine el_3_2 hfEl fun d pa N F h1 h2 => ?_; try clear hfEl)
  (refine el_2_0 ms.is fun fa fd mm => ?_)
  exact (in_1_0 _ (F.meth ok fc mm ⟨by decide, by decide⟩ (by decide +kernel) rfl rfl fun C' ok' s hk => is_W ok' (fc.same s) hk F hl fun lo' => by rw [isP_tell F h1 h2]; exact h))
end
end Mine
open PySem PySem.W PySem.Calls PyProof.Rows
set_option Elab.async false
set_option linter.all false
set_option maxRecDepth 100000
set_option genSizeOf false
namespace Mine

section
variable {C C' : Cx} {dep : Nat} {H : CH} {cl x : Addr} {ow : FO} {m : MS}

/-- a call that is good to make upon marks -/
noncomputable def cgood (c : Int × List Str × Int) : Prop := 0 ≤ c.1 ∧ c.1 < 5 ∧ pgood (c.2.1, c.2.2)

theorem do_W {Q : CF → CSt → Prop} {c : Int × List Str × Int} (ok : C.Ok (dep + 2)) (fc : FCls C cl) (ms : FMs C cl) (hk : HK C (scopeOf (lawF 4))) (F : FM H cl x ow m) (hc : cgood c) (hw : ∀ v ∈ m.w, pgood v) (hn : m.w.length ≤ 900)
    (h : ∀ lo' H' ow', FM H' cl x ow' (m.do c) → FK H H' ow ow' → Q .next ⟨lo', H'⟩) :
    WSs C (bodyOf (lawF 4)) ⟨fun y => ([("flags" : Str), "call"].zip [.loc x, callC c]).lookup y, H⟩ Q := by
  obtain ⟨c1, c2, c3⟩ := c
  (refine el_0_2 hc fun h0 h5 hp => ?_; try clear hc)
  dsimp only at h0 h5 hp
  refine WSs.cons (WS.assign1 (WE.nm ok hk rfl (WA.tuple (vs := [.int c1, .tup (c2.map .str), .int c3]) ok rfl (WA.nm ok hk (WA.nm ok hk (WA.nm ok hk ?_))))))
  refine WSs.cons (WS.if_ (WT.cmp1 (WE.nm ok hk rfl (WE.int (W2.ltI (Wtr.bool (cB (fun hc => ?_) fun hc => ?_)))))))
  · have hlt : c1 < 2 := by simpa using hc
    have key := fun Q' h' => FM.set (Q := Q') (C := C) (lo := (((((CSt.mk (fun y => ([("flags" : Str), "call"].zip [.loc x, callC (c1, c2, c3)]).lookup y) H).put "kind" (.int c1)).put "way" (.tup (c2.map .str))).put "flag" (.int c3))).lo) (b := decide (c1 = 1)) (dep := dep + 1) ok fc ms F hp h'
    (refine el_1_2 (key (fun v st1 => v = .none ∧ WThen C [] (WThen C [] Q) .next st1) fun H' ow' F' K' => ⟨rfl, WSs.nil (WSs.nil (h _ H' ow' (by simpa [MS.do, hlt] using F') K'))⟩) fun f k1 k2 k3 => ?_)
    exact WSs.cons (WS.expr ok (WE.meth ok (WE.nm ok hk rfl (in_1_2 f k1 k2 (WE.nm ok hk rfl (WE.nm ok hk rfl (WE.cmp1 (WE.nm ok hk rfl (WE.int (W2.eqI k3))))))))))
  · have hge : ¬ c1 < 2 := by simpa using hc
    refine WSs.cons (WS.if_ (WT.cmp1 (WE.nm ok hk rfl (WE.int (W2.eqI (Wtr.bool (cB (fun hc => ?_) fun hc => ?_)))))))
    · have he : c1 = 2 := by simpa using hc
      have key := fun Q' h' => FM.wait (Q := Q') (C := C) (lo := (((((CSt.mk (fun y => ([("flags" : Str), "call"].zip [.loc x, callC (c1, c2, c3)]).lookup y) H).put "kind" (.int c1)).put "way" (.tup (c2.map .str))).put "flag" (.int c3))).lo) (dep := dep + 1) ok fc ms F hp hn h'
      (refine el_1_2 (key (fun v st1 => v = .none ∧ WThen C [] (WThen C [] (WThen C [] Q)) .next st1) fun H' F' K' => ⟨rfl, WSs.nil (WSs.nil (WSs.nil (h _ H' ow (by simpa [MS.do, he] using F') K')))⟩) fun f k1 k2 k3 => ?_)
      exact WSs.cons (WS.expr ok (WE.meth ok (WE.nm ok hk rfl (in_1_2 f k1 k2 (WE.nm ok hk rfl (WE.nm ok hk rfl k3))))))
    · have hne : ¬ c1 = 2 := by simpa using hc
      refine WSs.cons (WS.if_ (WT.cmp1 (WE.nm ok hk rfl (WE.int (W2.eqI (Wtr.bool (cB (fun hc => ?_) fun hc => ?_)))))))
      · have he : c1 = 3 := by simpa using hc
        have key := fun Q' h' => FM.fin (Q := Q') (C := C) (lo := (((((CSt.mk (fun y => ([("flags" : Str), "call"].zip [.loc x, callC (c1, c2, c3)]).lookup y) H).put "kind" (.int c1)).put "way" (.tup (c2.map .str))).put "flag" (.int c3))).lo) (dep := dep) ok fc ms F hw hn h'
        (refine el_1_2 (key (fun v st1 => v = .none ∧ WThen C [] (WThen C [] (WThen C [] (WThen C [] Q))) .next st1) fun H' ow' F' K' => ⟨rfl, WSs.nil (WSs.nil (WSs.nil (WSs.nil (h _ H' ow' (by simpa [MS.do, he] using F') K'))))⟩) fun f k1 k2 k3 => ?_)
        exact WSs.cons (WS.expr ok (WE.meth ok (WE.nm ok hk rfl (in_1_2 f k1 k2 k3))))
      · have hne3 : ¬ c1 = 3 := by simpa using hc
        have key := fun Q' h' => FM.cut (Q := Q') (C := C) (lo := (((((CSt.mk (fun y => ([("flags" : Str), "call"].zip [.loc x, callC (c1, c2, c3)]).lookup y) H).put "kind" (.int c1)).put "way" (.tup (c2.map .str))).put "flag" (.int c3))).lo) (dep := dep + 1) ok fc ms F hp.1 hp.2.1 h'
        (refine el_1_2 (key (fun v st1 => v = .none ∧ WThen C [] (WThen C [] (WThen C [] (WThen C [] Q))) .next st1) fun H' F' K' => ⟨rfl, WSs.nil (WSs.nil (WSs.nil (WSs.nil (h _ H' ow (by simpa [MS.do, hge, hne, hne3] using F') K'))))⟩) fun f k1 k2 k3 => ?_)
        exact WSs.cons (WS.expr ok (WE.meth ok (WE.nm ok hk rfl (in_1_2 f k1 k2 (WE.nm ok hk rfl k3)))))
end
end Mine
open PySem PySem.W PySem.Calls PyProof.Rows
set_option Elab.async false
set_option linter.all false
set_option maxRecDepth 100000
set_option genSizeOf false
namespace Mine

section
variable {C C' : Cx} {dep : Nat} {H : CH} {cl x : Addr} {ow : FO} {m : MS}

theorem FM.new {Q : CV → CSt → Prop} {lo : Str → Option CV} (ok : C.Ok (dep + 2)) (fc : FCls C cl) (ms : FMs C cl) (h : ∀ H' x ow', FM H' cl x ow' MS.zero → FK H H' (fun _ => none) ow' → Q (.loc x) ⟨lo, H'⟩) : WCall C (.ref cl) [] [] [] ⟨lo, H⟩ Q := by
  (refine el_2_0 ms.init fun fa fd mm => ?_)
  refine cls_W (dep := dep + 1) ok fc.ok mm.find mm.typ fun A x d ok' hxd z1 z2 => ?_
  have s : C.Same (C.at A) := ⟨rfl, rfl, rfl, rfl, rfl, rfl, rfl⟩
  have m2 := mm.same s
  have hg : goodNames (scopeOf (flagsM 2)) ["self"] = true := by decide +kernel
  simp only [goodNames, Bool.and_eq_true, decide_eq_true_eq] at hg
  (refine el_0_1 hg fun xEl0 g4 => ?_; try clear hg; (refine el_0_1 xEl0 fun yEl0 g3 => ?_; try clear xEl0; obtain ⟨g1, g2⟩ := yEl0))
  refine codeCall_W (pn := ["self"]) ok' m2.fn (fun us vs e1 e2 => m2.bind us vs (by simp at e1; assumption) (by simpa using e2)) (by rw [m2.scope]; exact g1) g2 (by rw [m2.scope]; exact g3) (by rw [m2.scope]; exact g4) fun C' ok2 s2 hs => ?_
  have hk : HK C' (scopeOf (flagsM 2)) := fun y => by unfold Env.kindOf; rw [hs, m2.scope]
  refine init_W ok2 ((fc.same s).same s2) hk hxd z1 z2 fun lo' H' r pa F hkeep hr hpa => ⟨rfl, h H' x _ (in_3_2 d pa _ F (fun q g => ?_) (fun q g => ?_)) ⟨fun a _ ha => ⟨hkeep a ha, ?_⟩, fun a ha => absurd rfl ha, fun a _ ha => ?_⟩⟩
  · unfold Mine.hr; by_cases hq : q = [] <;> simp [hq, MS.zero]
  · unfold Mine.rc; by_cases hq : q = [] <;> simp [hq, MS.zero]
  · have n1 : a ≠ x := fun q => ha (q ▸ z1)
    have n2 : a ≠ d := fun q => ha (q ▸ z2)
    have n3 : a ≠ r := fun q => ha (q ▸ hr)
    have n4 : a ≠ pa := fun q => ha (q ▸ hpa)
    simp [oput, n1, n2, n3, n4]
  · by_cases c1 : a = x
    · subst c1; exact z1
    by_cases c2 : a = d
    · subst c2; exact z2
    by_cases c3 : a = r
    · subst c3; exact hr
    by_cases c4 : a = pa
    · subst c4; exact hpa
    exact absurd (by simp [oput, c1, c2, c3, c4]) ha
end
end Mine
open PySem PySem.W PySem.Calls PyProof.Rows
set_option Elab.async false
set_option linter.all false
set_option maxRecDepth 100000
set_option genSizeOf false
namespace Mine

/-- the nonempty beginnings of a way -/
theorem any_take {key : List Str} {P : List Str → Bool} : ((List.range key.length).any fun i => P (key.take (i + 1))) = true ↔ ∃ w, w ≠ [] ∧ w <+: key ∧ P w = true := by
  rw [List.any_eq_true]
  constructor
  · rintro ⟨i, hi, h⟩
    have hi' := List.mem_range.mp hi
    refine (in_1_2 (key.take (i + 1)) ?_ (List.take_prefix _ _) h)
    intro e
    have := congrArg List.length e
    rw [List.length_take, List.length_nil] at this
    omega
  · rintro ⟨w, hw, hp, h⟩
    have hl := hp.length_le
    have hpos : 0 < w.length := List.length_pos_iff.mpr hw
    refine (in_1_1 (w.length - 1) (List.mem_range.mpr (by omega +splitDisjunctions)) ?_)
    have : key.take (w.length - 1 + 1) = w := by
      rw [show w.length - 1 + 1 = w.length by (exact Nat.sub_add_cancel (by assumption))]
      exact (List.prefix_iff_eq_take.mp hp).symm
    rw [this]; exact h
theorem MS.tell_iff {m : MS} {key : List Str} {f : Int} : m.tell key f = true ↔ (∃ w, w ≠ [] ∧ w <+: key ∧ m.r w f = true) ∨ (key ≠ [] ∧ m.h key f = true) := by
  unfold MS.tell
  rw [Bool.or_eq_true, any_take (P := fun w => m.r w f), Bool.and_eq_true]
  refine or_congr Iff.rfl (and_congr ?_ Iff.rfl)
  cases key <;> simp

/-- what is told of the ways, from call to call -/
noncomputable def tdo (T : List Str → Int → Bool) (w : List (List Str × Int)) (c : Int × List Str × Int) : List Str → Int → Bool := fun q g =>
  if c.1 = 2 then T q g
  else if c.1 = 3 then T q g || decide ((q, g) ∈ w)
  else if c.1 = 4 then (if c.2.1.isPrefixOf q then T (c.2.1.dropLast ++ [("b.a" : Str)]) g else T q g)
  else T q g || ((if c.1 = 1 then c.2.1.isPrefixOf q else decide (q = c.2.1)) && decide (g = c.2.2))

/-- no mark is made at a name that is no call's -/
noncomputable def MS.clean (m : MS) : Prop := (∀ q g, m.h q g = true ∨ m.r q g = true → ∀ k ∈ q, k ∈ fnames) ∧ ∀ v ∈ m.w, pgood v
theorem MS.clean.do {m : MS} {c : Int × List Str × Int} (h : m.clean) (hc : cgood c) : (m.do c).clean := by
  obtain ⟨c1, c2, c3⟩ := c
  (refine el_0_2 hc fun h0 h5 hp => ?_; try clear hc)
  (refine el_0_1 h fun hq hw => ?_; try clear h)
  unfold MS.do
  dsimp only at *
  split
  · refine ⟨fun q g hh => ?_, hw⟩
    simp only [Bool.or_eq_true, Bool.and_eq_true, decide_eq_true_eq] at hh
    rcases hh with (hh | ⟨⟨_, e⟩, _⟩) | (hh | ⟨⟨_, e⟩, _⟩)
    · exact hq q g (.inl hh)
    · subst e; exact hp.2.2.1
    · exact hq q g (.inr hh)
    · subst e; exact hp.2.2.1
  · split
    · refine ⟨hq, fun v hv => ?_⟩
      rcases List.mem_append.mp hv with hv | hv
      · exact hw v hv
      · rw [List.mem_singleton.mp hv]; exact hp
    · split
      · refine ⟨fun q g hh => ?_, fun v hv => by cases hv⟩
        simp only [Bool.or_eq_true, decide_eq_true_eq] at hh
        rcases hh with (hh | hh) | hh
        · exact hq q g (.inl hh)
        · exact (hw _ hh).2.2.1
        · exact hq q g (.inr hh)
      · refine ⟨fun q g hh => ?_, hw⟩
        simp only [Bool.and_eq_true] at hh
        rcases hh with hh | hh
        · exact hq q g (.inl hh.2)
        · exact hq q g (.inr hh.2)

theorem tell_do {m : MS} {c : Int × List Str × Int} (h : m.clean) (hc : cgood c) (q : List Str) (g : Int) : (m.do c).tell q g = tdo m.tell m.w c q g := by
  obtain ⟨c1, w, f⟩ := c
  (refine el_0_5 hc fun h0 h5 hw0 hwl hwn hf => ?_; try clear hc)
  (refine el_0_1 h fun hm hmw => ?_; try clear h)
  dsimp only at *
  rw [Bool.eq_iff_iff, MS.tell_iff]
  unfold tdo MS.do
  dsimp only
  by_cases e2 : c1 = 2
  · subst e2
    simp only [show ¬ (2 : Int) < 2 by decide, if_false, if_true]
    exact MS.tell_iff.symm
  by_cases e3 : c1 = 3
  · subst e3
    simp only [show ¬ (3 : Int) < 2 by decide, show ¬ (3 : Int) = 2 by omega +splitDisjunctions, if_false, if_true]
    simp only [Bool.or_eq_true, MS.tell_iff, decide_eq_true_eq]
    constructor
    · rintro (a | ⟨a, b | b⟩)
      · exact .inl (.inl a)
      · exact .inl (.inr ⟨a, b⟩)
      · exact .inr b
    · rintro ((a | ⟨a, b⟩) | b)
      · exact .inl a
      · exact .inr ⟨a, .inl b⟩
      · exact .inr ⟨(hmw _ b).1, .inr b⟩
  by_cases e4 : c1 = 4
  · subst e4
    simp only [show ¬ (4 : Int) < 2 by decide, show ¬ (4 : Int) = 2 by omega +splitDisjunctions, show ¬ (4 : Int) = 3 by omega +splitDisjunctions, if_false, if_true]
    simp only [Bool.and_eq_true, Bool.not_eq_true']
    by_cases hp : w.isPrefixOf q = true
    · rw [if_pos hp]
      have hp' := List.isPrefixOf_iff_prefix.mp hp
      have hba : ∀ u : List Str, ("b.a" : Str) ∈ u → m.h u g = false ∧ m.r u g = false := fun u hu => by
        constructor
        · cases hh : m.h u g with
          | false => rfl
          | true => exact absurd (hm u g (.inl hh) _ hu) (by decide)
        · cases hh : m.r u g with
          | false => rfl
          | true => exact absurd (hm u g (.inr hh) _ hu) (by decide)
      simp only [MS.tell_iff]
      constructor
      · rintro (⟨u, hu, hpu, hn, hr⟩ | ⟨_, hn, _⟩)
        · left
          refine (in_1_2 u hu ?_ hr)
          have hlt : u.length < w.length := by
            by_cases hge : w.length ≤ u.length
            · have : w.isPrefixOf u = true := List.isPrefixOf_iff_prefix.mpr (List.prefix_of_prefix_length_le hp' hpu hge)
              rw [this] at hn; cases hn
            · (exact Nat.lt_of_not_le (by assumption))
          have h1 : u <+: w := List.prefix_of_prefix_length_le hpu hp' (by (exact Nat.le_of_lt (by assumption)))
          have h2 : w.dropLast <+: w := List.dropLast_prefix w
          have h3 : u <+: w.dropLast := List.prefix_of_prefix_length_le h1 h2 (by rw [List.length_dropLast]; (exact Nat.le_sub_of_add_le (by assumption)))
          exact h3.trans (List.prefix_append _ _)
        · rw [hp] at hn; cases hn
      · rintro (⟨u, hu, hpu, hr⟩ | ⟨_, hh⟩)
        · left
          have hnb : ("b.a" : Str) ∉ u := fun hb => by rw [(hba u hb).2] at hr; cases hr
          have hlt : u.length ≤ w.dropLast.length := by
            by_cases hge : u.length ≤ w.dropLast.length
            · exact hge
            · exfalso
              have : u = w.dropLast ++ [("b.a" : Str)] := hpu.eq_of_length_le (by simp at *; assumption)
              rw [this] at hnb; simp at hnb
          have h3 : u <+: w.dropLast := List.prefix_of_prefix_length_le hpu (List.prefix_append _ _) hlt
          have h1 : u <+: w := h3.trans (List.dropLast_prefix w)
          refine (in_1_3 u hu (h1.trans hp') ?_ hr)
          cases hwu : w.isPrefixOf u with
          | false => rfl
          | true =>
            have := (List.isPrefixOf_iff_prefix.mp hwu).length_le
            have hpos := List.length_pos_iff.mpr hw0
            rw [List.length_dropLast] at hlt
            omega
        · rw [(hba _ (by simp)).1] at hh; cases hh
    · rw [if_neg hp, MS.tell_iff]
      simp only [Bool.not_eq_true] at hp
      constructor
      · rintro (⟨u, hu, hpu, hn, hr⟩ | ⟨a, hn, b⟩)
        · exact .inl (in_1_2 u hu hpu hr)
        · exact .inr ⟨a, b⟩
      · rintro (⟨u, hu, hpu, hr⟩ | ⟨a, b⟩)
        · refine .inl (in_1_3 u hu hpu ?_ hr)
          cases hwu : w.isPrefixOf u with
          | false => rfl
          | true =>
            have := List.isPrefixOf_iff_prefix.mpr ((List.isPrefixOf_iff_prefix.mp hwu).trans hpu)
            rw [hp] at this; cases this
        · exact .inr (in_0_2 a hp b)
  · have hlt : c1 < 2 := by omega
    simp only [if_pos hlt, if_neg e2, if_neg e3, if_neg e4]
    simp only [Bool.or_eq_true, MS.tell_iff, Bool.and_eq_true, decide_eq_true_eq]
    by_cases e1 : c1 = 1
    · simp only [e1, decide_true, if_true, Bool.not_true, Bool.false_eq_true, true_and, false_and, or_false]
      rw [List.isPrefixOf_iff_prefix]
      constructor
      · rintro (⟨u, hu, hpu, hr | ⟨rfl, rfl⟩⟩ | a)
        · exact .inl (.inl (in_1_2 u hu hpu hr))
        · exact .inr ⟨hpu, rfl⟩
        · exact .inl (.inr a)
      · rintro ((⟨u, hu, hpu, hr⟩ | a) | ⟨a, b⟩)
        · exact .inl (in_1_2 u hu hpu (.inl hr))
        · exact .inr a
        · exact .inl (in_1_2 w hw0 a (.inr ⟨rfl, b⟩))
    · simp only [e1, decide_false, if_false, Bool.not_false, true_and, false_and, or_false, Bool.false_eq_true]
      constructor
      · rintro (⟨u, hu, hpu, hr⟩ | ⟨a, b | b⟩)
        · exact .inl (.inl (in_1_2 u hu hpu hr))
        · exact .inl (.inr ⟨a, b⟩)
        · exact .inr (by simpa using b)
      · rintro ((⟨u, hu, hpu, hr⟩ | ⟨a, b⟩) | b)
        · exact .inl (in_1_2 u hu hpu hr)
        · exact .inr ⟨a, .inl b⟩
        · simp only [decide_eq_true_eq] at b
          exact .inr ⟨by rw [b.1]; exact hw0, .inr (by simpa using b)⟩
end Mine
open PySem PySem.W PySem.Calls PyProof.Rows
set_option Elab.async false
set_option linter.all false
set_option maxRecDepth 100000
set_option genSizeOf false
namespace Mine

/-- what is told of a way with a name more: of its beginnings only -/
theorem tell_below {m : MS} (h : m.clean) {q : List Str} {g : Int} : m.tell (q ++ [("b.a" : Str)]) g = true ↔ ∃ u, u ≠ [] ∧ u <+: q ∧ m.r u g = true := by
  rw [MS.tell_iff]
  have hno : ∀ u : List Str, ("b.a" : Str) ∈ u → m.h u g ≠ true ∧ m.r u g ≠ true := fun u hu =>
    ⟨fun hh => absurd (h.1 u g (.inl hh) _ hu) (by decide), fun hh => absurd (h.1 u g (.inr hh) _ hu) (by decide)⟩
  constructor
  · rintro (⟨u, hu, hp, hr⟩ | ⟨_, hh⟩)
    · refine (in_1_2 u hu ?_ hr)
      by_cases hl : u.length ≤ q.length
      · exact List.prefix_of_prefix_length_le hp (List.prefix_append _ _) hl
      · exfalso
        have : u = q ++ [("b.a" : Str)] := hp.eq_of_length_le (by simp; (exact Nat.lt_of_not_le (by assumption)))
        exact (hno u (by rw [this]; simp)).2 hr
    · exact absurd hh (hno _ (by simp)).1
  · rintro ⟨u, hu, hp, hr⟩
    exact .inl (in_1_2 u hu (hp.trans (List.prefix_append _ _)) hr)
theorem below_here {m : MS} (h : m.clean) {q : List Str} {g : Int} (hb : m.tell (q ++ [("b.a" : Str)]) g = true) : m.tell q g = true := by
  (refine el_1_2 ((tell_below h).mp hb) fun u hu hp hr => ?_)
  exact MS.tell_iff.mpr (.inl (in_1_2 u hu hp hr))
theorem below_up {m : MS} (h : m.clean) {p q : List Str} {g : Int} (hpq : p <+: q) (hb : m.tell (p ++ [("b.a" : Str)]) g = true) : m.tell (q ++ [("b.a" : Str)]) g = true := by
  (refine el_1_2 ((tell_below h).mp hb) fun u hu hp hr => ?_)
  exact (tell_below h).mpr (in_1_2 u hu (hp.trans hpq) hr)

/-- marks that are made by what is asked: for all below where `b` holds, else here where `a` holds; upon the ways of B -/
structure Made (m : MS) (B : List Str → Prop) (a b : List Str → Int → Bool) : Prop where
  h : ∀ q g, m.h q g = true ↔ B q ∧ g ∈ ([0, 1] : List Int) ∧ b q g = false ∧ a q g = true
  r : ∀ q g, m.r q g = true ↔ B q ∧ g ∈ ([0, 1] : List Int) ∧ b q g = true

theorem made_tell {m : MS} {B : List Str → Prop} {a b : List Str → Int → Bool} (M : Made m B a b) (hB : ∀ p q, p ≠ [] → p <+: q → B q → B p) (hne : ∀ q, B q → q ≠ []) (hab : ∀ q g, b q g = true → a q g = true) (hup : ∀ p q g, p <+: q → b p g = true → b q g = true) {q : List Str} (hq : B q) {g : Int} (hg : g ∈ ([0, 1] : List Int)) : m.tell q g = a q g := by
  rw [Bool.eq_iff_iff, MS.tell_iff]
  constructor
  · rintro (⟨u, hu, hp, hr⟩ | ⟨_, hh⟩)
    · exact hab q g (hup u q g hp ((M.r u g).mp hr).2.2)
    · exact ((M.h q g).mp hh).2.2.2
  · intro ha
    cases hb : b q g with
    | true => exact .inl (in_1_2 q (hne q hq) (List.prefix_refl q) ((M.r q g).mpr (in_0_2 hq hg hb)))
    | false => exact .inr ⟨hne q hq, (M.h q g).mpr (in_0_3 hq hg hb ha)⟩
theorem made_below {m : MS} {B : List Str → Prop} {a b : List Str → Int → Bool} (M : Made m B a b) (hm : m.clean) (hup : ∀ p q g, p <+: q → b p g = true → b q g = true) (hne : ∀ q, B q → q ≠ []) {q : List Str} (hq : B q) {g : Int} (hg : g ∈ ([0, 1] : List Int)) : m.tell (q ++ [("b.a" : Str)]) g = b q g := by
  rw [Bool.eq_iff_iff, tell_below hm]
  constructor
  · rintro ⟨u, hu, hp, hr⟩; exact hup u q g hp ((M.r u g).mp hr).2.2
  · intro hb; exact (in_1_2 q (hne q hq) (List.prefix_refl q) ((M.r q g).mpr (in_0_2 hq hg hb)))
end Mine
open PySem PySem.W PySem.Calls PyProof.Rows
set_option Elab.async false
set_option linter.all false
set_option maxRecDepth 100000
set_option genSizeOf false
namespace Mine

/-- many lists stand in the heap -/
noncomputable def hmany (H : CH) (ps : List (Addr × List CV)) : CH := fun b => match ps.find? (fun p => p.1 == b) with | some p => some (.list p.2) | none => H b
theorem hmany_none {H : CH} {ps : List (Addr × List CV)} {b : Addr} (h : b ∉ ps.map (·.1)) : hmany H ps b = H b := by
  unfold hmany
  have : ps.find? (fun p => p.1 == b) = none := by
    rw [List.find?_eq_none]
    intro p hp
    rewrite [beq_iff_eq]
    exact fun e => h (e ▸ List.mem_map_of_mem hp)
  rw [this]
theorem hmany_mem {H : CH} : ∀ {ps : List (Addr × List CV)} {p : Addr × List CV}, (ps.map (·.1)).Nodup → p ∈ ps → hmany H ps p.1 = some (.list p.2)
  | [], p, _, h => by cases h
  | q :: ps, p, hnd, h => by
    rw [List.map_cons, List.nodup_cons] at hnd
    unfold hmany
    simp only [List.find?_cons]
    rcases List.mem_cons.mp h with rfl | h
    · simp
    · have : (q.1 == p.1) = false := by
        rw [beq_eq_false_iff_ne]
        exact fun e => hnd.1 (by show q.1 ∈ _; rw [e]; exact List.mem_map_of_mem h)
      rw [this]
      exact hmany_mem (H := H) hnd.2 h
theorem hmany_put {H : CH} {ps : List (Addr × List CV)} {a : Addr} {cs : List CV} (h : a ∉ ps.map (·.1)) : hput (hmany H ps) a (.list cs) = hmany H (ps ++ [(a, cs)]) := by
  funext b
  unfold hput
  by_cases q : b = a
  · subst q
    rw [if_pos rfl]
    unfold hmany
    have : ps.find? (fun p => p.1 == b) = none := by
      rw [List.find?_eq_none]
      intro p hp
      simp only [beq_iff_eq]
      exact fun e => h (e ▸ List.mem_map_of_mem hp)
    rw [List.find?_append, this]; simp
  · rw [if_neg q]
    unfold hmany
    rw [List.find?_append]
    have : ([(a, cs)] : List (Addr × List CV)).find? (fun p => p.1 == b) = none := by
      rw [List.find?_cons]; simp [show (a == b) = false by simpa using Ne.symm q]
    rw [this]
    cases ps.find? (fun p => p.1 == b) <;> rfl

section
variable {C C' : Cx} {dep : Nat} {H : CH}

/-- the copies of a list's lists -/
theorem copies_W {elt t : Expr} {Q : List CV → CSt → Prop} (ok : C.Ok dep) (hg : GOk C [("list", .type "list")]) (hkl : C.env.kindOf "list" = some .globalImplicit) (hkp : C.env.kindOf "pair" = some .local)
    (ht : ∃ p, t = .Name "pair" p) (he : ∃ p1 p2 p3, elt = .Call (.Name "list" p1) [.Name "pair" p2] [] p3) :
    ∀ (rest : List (List CV)) (ps : List (Addr × List CV)) (lo : Str → Option CV), (∀ r ∈ rest, r.length ≤ 1000) → ps.length + rest.length ≤ 100000 → (ps.map (·.1)).Nodup → (∀ p ∈ ps, H p.1 = none) →
      (∀ new lo', new.map (·.2) = rest → ((ps ++ new).map (·.1)).Nodup → (∀ p ∈ ps ++ new, H p.1 = none) → (∀ y : Str, y ≠ "pair" → lo' y = lo y) → Q ((ps ++ new).map fun p => CV.loc p.1) ⟨lo', hmany H (ps ++ new)⟩) →
      WCI C (emitOf C elt []) t [] (rest.map .lst) ⟨lo, hmany H ps⟩ (ps.map fun p => CV.loc p.1) Q := by
  (refine el_1_0 ht fun p0 xEl1 => ?_; try clear ht; obtain rfl := xEl1)
  (refine el_3_0 he fun p1 p2 p3 xEl3 => ?_; try clear he; obtain rfl := xEl3)
  intro rest
  induction rest with
  | nil => intro ps lo _ _ hnd hH q; have := q [] lo rfl (by simpa using hnd) (by simpa using hH) (fun _ _ => rfl); simpa [WCI] using this
  | cons r rest ih =>
    intro ps lo hr hl hnd hH q
    simp only [List.length_cons] at hl
    have hr1 := hr r List.mem_cons_self
    refine WA.name ok (by rw [hkp]; rfl) ?_
    refine WE.call ok (WE.glob ok hg (v := .type "list") rfl (in_1_2 _ rfl KpOk.type (WE.name ok.fun_ (v := .lst r) rfl ?_ (by rw [hkp]; rfl))) hkl)
    refine WCall.listOf (by (exact Nat.le_trans (by assumption) (by decide))) fun a ha => ⟨by simp; omega, ?_⟩
    have hap : a ∉ ps.map (·.1) := fun hm => by
      (refine el_1_1 (List.mem_map.mp hm) fun p hp xEl2 => ?_; obtain rfl := xEl2)
      have := hmany_mem (H := H) hnd hp
      rw [show hmany H ps p.1 = none from ha] at this; cases this
    have haH : H a = none := by rw [← hmany_none (H := H) hap]; exact ha
    have e1 : hput (hmany H ps) a (.list r) = hmany H (ps ++ [(a, r)]) := hmany_put hap
    have e2 : (ps.map fun p => CV.loc p.1) ++ [CV.loc a] = (ps ++ [(a, r)]).map fun p => CV.loc p.1 := by simp
    show WCI C (emitOf C _ []) _ [] (rest.map .lst) ⟨_, hput (hmany H ps) a (.list r)⟩ _ Q
    rw [e1, e2]
    refine ih (ps ++ [(a, r)]) _ (fun s hs => hr s (List.mem_cons_of_mem _ hs)) (by simp; omega) ?_ ?_ fun new lo' n1 n2 n3 n4 => ?_
    · rw [List.map_append, List.nodup_append]
      exact (in_0_2 hnd (by simp) (fun x hx y hy => by simp at hy; subst hy; exact fun e => hap (e ▸ hx)))
    · intro p hp
      rcases List.mem_append.mp hp with hp | hp
      · exact hH p hp
      · rw [List.mem_singleton.mp hp]; exact haH
    · have := q ((a, r) :: new) lo' (by simp [n1]) (by simpa using n2) (by simpa using n3) (fun y hy => by rw [n4 y hy]; simp [CSt.put, lput, hy])
      simpa using this
end
end Mine
open PySem PySem.W PySem.Calls PyProof.Rows
set_option Elab.async false
set_option linter.all false
set_option maxRecDepth 100000
set_option genSizeOf false
namespace Mine

noncomputable def wcv (q : List Str) : CV := .tup (q.map .str)
noncomputable def row (T : List Str → Int → Bool) (q : List Str) : List CV := [.bool (T q 0), .bool (T q 1)]
noncomputable def toldC (ways : List (List Str)) (T : List Str → Int → Bool) : CV := .lst (ways.map fun q => .lst (row T q))

/-- the copy of what is told, as it is worked on -/
structure Due (H0 H : CH) (D : Addr) (ps : List (Addr × List CV)) : Prop where
  at_ : H D = some (.list (ps.map fun p => CV.loc p.1))
  rows : ∀ p ∈ ps, H p.1 = some (.list p.2)
  nd : (D :: ps.map (·.1)).Nodup
  new : ∀ b, H0 b ≠ none → H b = H0 b
  fresh : H0 D = none ∧ ∀ p ∈ ps, H0 p.1 = none

theorem Due.start {H0 : CH} {D : Addr} {ps : List (Addr × List CV)} (hnd : (ps.map (·.1)).Nodup) (hf : ∀ p ∈ ps, H0 p.1 = none) (hD : hmany H0 ps D = none) : Due H0 (hput (hmany H0 ps) D (.list (ps.map fun p => CV.loc p.1))) D ps := by
  have hDp : D ∉ ps.map (·.1) := fun h => by
    (refine el_1_1 (List.mem_map.mp h) fun p hp xEl2 => ?_; obtain rfl := xEl2)
    rw [hmany_mem hnd hp] at hD; cases hD
  have hD0 : H0 D = none := by rw [← hmany_none (H := H0) hDp]; exact hD
  refine ⟨by simp, fun p hp => ?_, List.nodup_cons.mpr ⟨hDp, hnd⟩, fun b hb => ?_, hD0, hf⟩
  · rw [hput_ne (fun e => hDp (by rw [← e]; exact List.mem_map_of_mem hp)), hmany_mem hnd hp]
  · have h1 : b ≠ D := fun e => hb (e ▸ hD0)
    rw [hput_ne h1, hmany_none fun h => by
      (refine el_1_1 (List.mem_map.mp h) fun p hp xEl2 => ?_; obtain rfl := xEl2)
      exact hb (hf p hp)]

theorem nodup_set {α : Type} : ∀ {l : List α} {i : Nat} {a : α}, l.Nodup → a ∉ l → (l.set i a).Nodup
  | [], _, _, h, _ => h
  | x :: l, 0, a, h, ha => by
    rw [List.nodup_cons] at h
    rw [List.set_cons_zero, List.nodup_cons]
    exact ⟨fun q => ha (List.mem_cons_of_mem _ q), h.2⟩
  | x :: l, i + 1, a, h, ha => by
    rw [List.nodup_cons] at h
    rw [List.set_cons_succ, List.nodup_cons]
    refine ⟨fun q => ?_, nodup_set h.2 fun q => ha (List.mem_cons_of_mem _ q)⟩
    rcases List.mem_or_eq_of_mem_set q with q | q
    · exact h.1 q
    · exact ha (q ▸ List.mem_cons_self)
/-- a row is turned -/
theorem Due.turn {H0 H : CH} {D : Addr} {ps : List (Addr × List CV)} {i : Nat} {p : Addr × List CV} {cs : List CV} (d : Due H0 H D ps) (hi : ps[i]? = some p) : Due H0 (hput H p.1 (.list cs)) D (ps.set i (p.1, cs)) := by
  (refine el_1_0 (List.getElem?_eq_some_iff.mp hi) fun hlt hp => ?_)
  have hpm : p ∈ ps := hp ▸ List.getElem_mem hlt
  have hm : (ps.set i (p.1, cs)).map (·.1) = ps.map (·.1) := by
    rw [List.map_set]
    apply List.ext_getElem (by simp)
    intro j h1 h2
    rw [List.getElem_set]
    split
    · rename_i e; subst e; simp [hp]
    · rfl
  have hm2 : (ps.set i (p.1, cs)).map (fun p => CV.loc p.1) = ps.map fun p => CV.loc p.1 := by
    have : ∀ l : List (Addr × List CV), l.map (fun p => CV.loc p.1) = (l.map (·.1)).map CV.loc := fun l => by simp [Function.comp_def]
    simp only [this, this, hm]
  (refine el_0_1 (List.nodup_cons.mp d.nd) fun n1 n2 => ?_)
  have hDp : D ≠ p.1 := fun e => n1 (e ▸ List.mem_map_of_mem hpm)
  refine ⟨by rw [hput_ne hDp, hm2]; exact d.at_, fun q hq => ?_, by rw [hm]; exact d.nd, fun b hb => ?_, d.fresh.1, fun q hq => ?_⟩
  · by_cases e : q.1 = p.1
    · rw [e, hput_self]
      congr 2
      (refine el_1_0 (List.getElem_of_mem hq) fun j rEl => ?_; (refine el_1_0 rEl fun hj hq' => ?_; try clear rEl))
      have hj' : j < ps.length := by simpa using hj
      by_cases hji : i = j
      · subst hji; simp at hq'; rw [← hq']
      · exfalso
        rw [List.getElem_set, if_neg hji] at hq'
        have h1 : (ps.map (·.1))[j]'(by simpa using hj') = (ps.map (·.1))[i]'(by simpa using hlt) := by simp [hq', hp, e]
        rcases Nat.lt_or_gt_of_ne hji with h | h
        · exact (List.pairwise_iff_getElem.mp n2 i j (by simpa using hlt) (by simpa using hj') h) h1.symm
        · exact (List.pairwise_iff_getElem.mp n2 j i (by simpa using hj') (by simpa using hlt) h) h1
    · rw [hput_ne e]
      (refine el_1_0 (List.getElem_of_mem hq) fun j rEl => ?_; (refine el_1_0 rEl fun hj hq' => ?_; try clear rEl))
      by_cases hji : i = j
      · subst hji; simp at hq'; exact absurd (by rw [← hq']) e
      · rw [List.getElem_set, if_neg hji] at hq'
        exact d.rows q (hq' ▸ List.getElem_mem _)
  · have h1 : b ≠ p.1 := fun e => hb (e ▸ d.fresh.2 p hpm)
    rw [hput_ne h1]; exact d.new b hb
  · have : q.1 ∈ ps.map (·.1) := by rw [← hm]; exact List.mem_map_of_mem hq
    (refine el_1_1 (List.mem_map.mp this) fun r hr e => ?_)
    rw [← e]; exact d.fresh.2 r hr

/-- a row is another one -/
theorem Due.swap {H0 H : CH} {D a : Addr} {ps : List (Addr × List CV)} {i : Nat} {cs : List CV} (d : Due H0 H D ps) (hi : i < ps.length) (ha : H a = none) :
    Due H0 (hput (hput H a (.list cs)) D (.list ((ps.map fun p => CV.loc p.1).set i (.loc a)))) D (ps.set i (a, cs)) := by
  have hm : (ps.set i (a, cs)).map (·.1) = (ps.map (·.1)).set i a := by rw [List.map_set]
  have hm2 : (ps.set i (a, cs)).map (fun p => CV.loc p.1) = (ps.map fun p => CV.loc p.1).set i (.loc a) := by rw [List.map_set]
  (refine el_0_1 (List.nodup_cons.mp d.nd) fun n1 n2 => ?_)
  have haD : a ≠ D := fun e => by rw [e, d.at_] at ha; cases ha
  have hap : a ∉ ps.map (·.1) := fun h => by
    (refine el_1_1 (List.mem_map.mp h) fun p hp xEl2 => ?_; obtain rfl := xEl2)
    rw [d.rows p hp] at ha; cases ha
  have ha0 : H0 a = none := by
    cases q : H0 a with
    | none => rfl
    | some c => have := d.new a (by rw [q]; simp); rw [ha, q] at this; cases this
  have mem_ : ∀ q ∈ ps.set i (a, cs), q = (a, cs) ∨ q ∈ ps := fun q hq => by
    rcases List.mem_or_eq_of_mem_set hq with h | h
    · exact .inr h
    · exact .inl h
  refine ⟨by rw [hput_self, hm2], fun q hq => ?_, ?_, fun b hb => ?_, d.fresh.1, fun q hq => ?_⟩
  · rcases mem_ q hq with rfl | h
    · rw [hput_ne haD]; simp
    · have h1 : q.1 ≠ D := fun e => n1 (by rw [← e]; exact List.mem_map_of_mem h)
      have h2 : q.1 ≠ a := fun e => hap (by rw [← e]; exact List.mem_map_of_mem h)
      rw [hput_ne h1, hput_ne h2]; exact d.rows q h
  · rw [hm, List.nodup_cons]
    refine ⟨fun h => ?_, ?_⟩
    · rcases List.mem_or_eq_of_mem_set h with h | h
      · exact n1 h
      · exact haD h.symm
    · exact nodup_set n2 hap
  · have h1 : b ≠ D := fun e => hb (e ▸ d.fresh.1)
    have h2 : b ≠ a := fun e => hb (e ▸ ha0)
    rw [hput_ne h1, hput_ne h2]; exact d.new b hb
  · rcases mem_ q hq with rfl | h
    · exact ha0
    · exact d.fresh.2 q h

section
variable {C : Cx}
/-- the copy is turned no more -/
theorem Due.done {H0 H : CH} {D : Addr} {ps : List (Addr × List CV)} {ss : List Stmt} {lo : Str → Option CV} {Q : CF → CSt → Prop} (d : Due H0 H D ps) (hx : lo "due" = some (.loc D))
    (h : ∀ H', (∀ b, H0 b ≠ none → H' b = H0 b) → WSs C ss ⟨lput lo "due" (.lst (ps.map fun p => .lst p.2)), H'⟩ Q) : WSs C ss ⟨lo, H⟩ Q := by
  (refine el_0_1 (List.nodup_cons.mp d.nd) fun n1 n2 => ?_)
  refine WSs.freezeIn n2 n1 d.rows d.at_ (WSs.freeze hx (by show hput _ D _ D = _; simp) (h _ fun b hb => ?_))
  have h1 : b ≠ D := fun e => hb (e ▸ d.fresh.1)
  have h2 : b ∉ ps.map (·.1) := fun hm => by
    (refine el_1_1 (List.mem_map.mp hm) fun p hp xEl2 => ?_; obtain rfl := xEl2)
    exact hb (d.fresh.2 p hp)
  show hdel (hput (without' H (ps.map (·.1))) D _) D b = _
  rw [hdel_ne h1, hput_ne h1]
  unfold without'
  rw [if_neg h2]
  exact d.new b hb
end
end Mine
open PySem PySem.W PySem.Calls PyProof.Rows
set_option Elab.async false
set_option linter.all false
set_option maxRecDepth 100000
set_option genSizeOf false
namespace Mine
section
variable {C : Cx} {dep : Nat} {H : CH}

theorem nextDue_W {Q : CF → CSt → Prop} {ways : List (List Str)} {T : List Str → Int → Bool} {lo : Str → Option CV} (ok : C.Ok dep) (hk : HK C (scopeOf (lawF 5))) (hg : GOk C [("list", .type "list")]) (hw : ways.length ≤ 10000) (h1 : lo "told" = some (toldC ways T))
    (h : ∀ D ps H', ps.map (·.2) = ways.map (row T) → Due H H' D ps → Q .next ⟨lput lo "due" (.loc D), H'⟩) : WS C (nth (bodyOf (lawF 5)) 1) ⟨lo, H⟩ Q := by
  refine WS.assignComp ok (WE.nm ok hk h1 (in_1_1 _ IterOf.lst (fun C' ok' s hsc => ?_))) ?_ ?_ ?_
  · have kx : ∀ y, C'.env.kindOf y = _ := fun y => by unfold Env.kindOf; rw [hsc, relabel_lookup]
    have e : (ways.map fun q => CV.lst (row T q)) = (ways.map (row T)).map CV.lst := by simp [Function.comp_def]
    show WCI C' _ _ _ (ways.map fun q => CV.lst (row T q)) _ _ _
    rw [e]
    refine copies_W (H := H) ok' (hg.same s) (by rw [kx]; rfl) (by rw [kx]; rfl) (in_1_0 _ rfl) (in_3_0 _ _ _ rfl) (ways.map (row T)) [] _ (fun r hr => ?_) (by simp; (exact Nat.le_trans (by assumption) (by decide))) (by decide) (fun p hp => by cases hp) fun new lo' n1 n2 n3 n4 => ⟨fun x hx => ?_, .inr fun D hD => ?_⟩
    · (refine el_1_1 (List.mem_map.mp hr) fun q _ xEl2 => ?_; obtain rfl := xEl2); simp [row]
    · have := mem_of_lookupK hx; simp at this
    · rw [List.nil_append] at n2 n3 hD ⊢
      exact h D new _ n1 (Due.start n2 n3 hD)
  · rfl
  · rw [hk]; rfl
  · have k1 : C.env.kindOf "due" = some .local := by rw [hk]; rfl
    have k3 : C.env.blockKind = .function := blockKind_of ok
    unfold swapsWith
    dsimp only
    rewrite [k1, k3]
    rfl
end
end Mine
open PySem PySem.W PySem.Calls PyProof.Rows
set_option Elab.async false
set_option linter.all false
set_option maxRecDepth 100000
set_option genSizeOf false
namespace Mine

theorem ceq_wcv (a b : List Str) : ceq (wcv a) (wcv b) = decide (a = b) := by
  simp only [ceq, wcv, toPy, PyData.eqv, eqv_strs]
theorem isPy_wcv {q : List Str} (h : q.all PyData.strOk = true) : isPy (wcv q) = true := by simp [wcv, isPy, isPys_strs h]
theorem depth_wcv (q : List Str) : (toPy (wcv q)).depth ≤ 100 := by
  have := depth_strs q
  simp only [wcv, toPy, PyData.depth]
  (exact Nat.lt_of_le_of_lt (by assumption) (by decide))
theorem isPys_wcv : ∀ {ways : List (List Str)}, (∀ q ∈ ways, q.all PyData.strOk = true) → isPys (ways.map wcv) = true
  | [], _ => rfl
  | q :: ways, h => by simp [isPys, isPy_wcv (h q List.mem_cons_self), isPys_wcv fun p hp => h p (List.mem_cons_of_mem _ hp)]

section
variable {C : Cx} {dep : Nat} {H : CH}

/-- ways.index(q) -/
theorem index_W {Q : CV → CSt → Prop} {st : CSt} {ways : List (List Str)} {q : List Str} {j : Nat} (ok : C.Ok dep) (hok : ∀ q ∈ ways, q.all PyData.strOk = true) (hnd : ways.Nodup) (hl : ways.length ≤ 10000) (hj : ways[j]? = some q) (h : Q (.int j) st) : WCall C (.builtin "list.index") [.lst (ways.map wcv), wcv q] [] [] st Q := by
  (refine el_1_0 (List.getElem?_eq_some_iff.mp hj) fun hlt hq => ?_)
  refine WCall.indexL ok (isPys_wcv hok) (isPy_wcv (hok q (hq ▸ List.getElem_mem hlt))) (depth_wcv q) (by simp; (exact Nat.le_trans (by assumption) (by decide))) (j := j) (by simpa using hlt) ?_ (fun m hm => ?_) h
  · rw [List.getElem?_map, hj]; simp [ceq_wcv]
  · rw [List.getElem?_map, List.getElem?_eq_getElem (show m < ways.length by (exact Nat.lt_trans (by assumption) (by assumption)))]
    simp only [Option.map_some, ceq_wcv]
    have : ways[m] ≠ q := by
      rw [← hq]
      exact List.pairwise_iff_getElem.mp hnd m j (by (exact Nat.lt_trans (by assumption) (by assumption))) hlt hm
    rw [decide_eq_false this]

theorem row_set {T : List Str → Int → Bool} {q : List Str} {g : Int} (hg : g = 0 ∨ g = 1) : (row T q).set g.toNat (.bool true) = row (fun p f => T p f || (decide (p = q) && decide (f = g))) q := by
  rcases hg with rfl | rfl <;> simp [row]
theorem rows_set {ways : List (List Str)} {T : List Str → Int → Bool} {q : List Str} {g : Int} {j : Nat} (hnd : ways.Nodup) (hj : ways[j]? = some q) (hg : g = 0 ∨ g = 1) : (ways.map (row T)).set j ((row T q).set g.toNat (.bool true)) = ways.map (row fun p f => T p f || (decide (p = q) && decide (f = g))) := by
  (refine el_1_0 (List.getElem?_eq_some_iff.mp hj) fun hlt hq => ?_)
  rw [row_set hg]
  apply List.ext_getElem (by simp)
  intro i h1 h2
  rw [List.getElem_set]
  split
  · rename_i e; subst e; simp [hq]
  · rename_i e
    have h3 : i < ways.length := by simpa using h2
    have : ways[i] ≠ q := by
      rw [← hq]
      rcases Nat.lt_or_gt_of_ne e with h | h
      · exact (List.pairwise_iff_getElem.mp hnd j i hlt h3 h).symm
      · exact List.pairwise_iff_getElem.mp hnd i j h3 hlt h
    simp [row, this]
end
end Mine
open PySem PySem.W PySem.Calls PyProof.Rows
set_option Elab.async false
set_option linter.all false
set_option maxRecDepth 100000
set_option genSizeOf false
namespace Mine
noncomputable def thenOf : Stmt → List Stmt
  | .If _ b _ _ => b
  | _ => []
section
variable {C : Cx} {dep : Nat} {H0 : CH}

/-- the marks that waited are told -/
theorem waitLoop_W {t : Expr} {body : List Stmt} {Q : CF → CSt → Prop} {ways : List (List Str)} {D : Addr} (ok : C.Ok dep) (hk : HK C (scopeOf (lawF 5))) (hok : ∀ q ∈ ways, q.all PyData.strOk = true) (hnd : ways.Nodup) (hl : ways.length ≤ 10000)
    (e : ∃ it o p, nth (thenOf (nth (bodyOf (lawF 5)) 3)) 0 = .For t it body o p) :
    ∀ (us : List (List Str × Int)) (T : List Str → Int → Bool) (ps : List (Addr × List CV)) (H : CH) (lo : Str → Option CV), Due H0 H D ps → ps.map (·.2) = ways.map (row T) → (∀ u ∈ us, u.1 ∈ ways ∧ (u.2 = 0 ∨ u.2 = 1)) → lo "due" = some (.loc D) → lo "ways" = some (.lst (ways.map wcv)) →
      (∀ H' ps' lo', Due H0 H' D ps' → ps'.map (·.2) = ways.map (row fun q g => T q g || decide ((q, g) ∈ us)) → lo' "due" = some (.loc D) → Q .next ⟨lo', H'⟩) →
      WFor C t body [] (us.map pcv) ⟨lo, H⟩ Q := by
  apply forE (t := t) (body := body) e
  intro us
  induction us with
  | nil => intro T ps H lo d hT _ h1 h2 q; exact WSs.nil (q H ps lo d (by simpa using hT) h1)
  | cons u us ih =>
    intro T ps H lo d hT hus h1 h2 q
    (refine el_0_1 (hus u List.mem_cons_self) fun hu1 hu2 => ?_)
    (refine el_1_0 (List.mem_iff_getElem?.mp hu1) fun j hj => ?_)
    (refine el_1_0 (List.getElem?_eq_some_iff.mp hj) fun hjl hjq => ?_)
    have hlen : ps.length = ways.length := by have := congrArg List.length hT; simpa using this
    have hpj : j < ps.length := by omega
    have hrow : ps[j].2 = row T u.1 := by
      have : (ps.map (·.2))[j]? = (ways.map (row T))[j]? := by rw [hT]
      rw [List.getElem?_map, List.getElem?_map, hj, List.getElem?_eq_getElem hpj] at this
      simpa using this
    refine WA.tuple (vs := [.tup (u.1.map .str), .int u.2]) ok rfl (WA.nm ok hk (WA.nm ok hk ?_))
    refine WSs.cons (WS.assign1 (WE.bool (WA.subL (WE.sub (WE.nm ok hk h1 (WE.meth ok (WE.nm ok hk h2 (in_1_2 _ KpOk.builtin (WMeth.lst PySem.F.slot_list_index PySem.F.type_list_index) (WE.nm ok hk rfl (index_W ok hok hnd hl hj ?_))))))))))
    have hcx : (ps.map fun p => CV.loc p.1)[cidx (ps.map fun p => CV.loc p.1).length (j : Int)]? = some (.loc ps[j].1) := by
      have : cidx (ps.map fun p => CV.loc p.1).length (j : Int) = j := cidx_nat
      rw [this]; simp [hpj]
    refine W2.itemLoc d.at_ (by simp <;> omega) (by simp <;> omega +splitDisjunctions) (by simp <;> omega) hcx ?_
    have hg : ((u.2.toNat : Nat) : Int) = u.2 := by rcases hu2 with h | h <;> rw [h] <;> rfl
    refine WE.nm ok hk (v := .int u.2) rfl (in_3_5 (ps[j].1) (ps[j].2) u.2.toNat rfl (by rw [hg]) (d.rows _ (List.getElem_mem hpj)) ?_ (by rw [hrow]; simp [row]) (WSs.nil ?_))
    · rw [hrow]; rcases hu2 with h | h <;> rw [h] <;> simp [row]
    have d' := d.turn (cs := ps[j].2.set u.2.toNat (.bool true)) (List.getElem?_eq_getElem hpj)
    refine ih (fun p f => T p f || (decide (p = u.1) && decide (f = u.2))) _ _ _ d' ?_ (fun v hv => hus v (List.mem_cons_of_mem _ hv)) h1 h2 fun H' ps' lo' d2 e2 c1 => q H' ps' lo' d2 ?_ c1
    · rw [List.map_set, hT, hrow]; exact rows_set hnd hj hu2
    · rw [e2]
      congr 1
      funext p
      unfold row
      have := fun g => mem_or (T p g) p g u us
      rewrite [Bool.not_false, Bool.true_and] at this
      dsimp only
      rw [this, this]
end
end Mine
open PySem PySem.W PySem.Calls PyProof.Rows
set_option Elab.async false
set_option linter.all false
set_option maxRecDepth 100000
set_option genSizeOf false
namespace Mine

theorem isPrefixOf_take {way q : List Str} : decide (q.take way.length = way) = way.isPrefixOf q := by
  rw [Bool.eq_iff_iff, decide_eq_true_eq, List.isPrefixOf_iff_prefix, List.prefix_iff_eq_take]
  exact ⟨fun h => h.symm, fun h => h.symm⟩
section
variable {C : Cx} {dep : Nat} {H0 H : CH}

/-- ways[k][:len(way)] == way -/
theorem pre_W {Q : Bool → CSt → Prop} {ways : List (List Str)} {q way : List Str} {j : Nat} {lo : Str → Option CV} {p1 p2 p3 p4 p5 p6 p7 p8 p9 p10 : Pos} (ok : C.Ok dep) (hk : HK C (scopeOf (lawF 5))) (hg : GOk C [("len", .builtin "len"), ("list", .type "list"), ("range", .type "range")])
    (hok : ∀ q ∈ ways, q.all PyData.strOk = true) (hl : ways.length ≤ 10000) (hq1 : q.length ≤ 1000) (hw1 : way.length ≤ 1000) (hwo : way.all PyData.strOk = true) (hj : ways[j]? = some q) (h1 : lo "ways" = some (.lst (ways.map wcv))) (h2 : lo "k" = some (.int j)) (h3 : lo "way" = some (wcv way))
    (h : Q (way.isPrefixOf q) ⟨lo, H⟩) : WT C (.Compare (.Subscript (.Subscript (.Name "ways" p1) (.Name "k" p2) p3) (.Slice none (some (.Call (.Name "len" p4) [.Name "way" p5] [] p6)) none p7) p8) [.Eq] [.Name "way" p9] p10) ⟨lo, H⟩ Q := by
  (refine el_1_0 (List.getElem?_eq_some_iff.mp hj) fun hlt hq => ?_)
  have hc : (ways.map wcv)[cidx (ways.map wcv).length (j : Int)]? = some (wcv q) := by
    have : cidx (ways.map wcv).length (j : Int) = j := cidx_nat
    simp only [this, List.getElem?_map, hj]; rfl
  refine WT.cmp1 (WE.slice (WE.sub (WE.nm ok hk h1 (WE.nm ok hk h2 (W2.itemL (by simp <;> omega) (by simp <;> omega +splitDisjunctions) (by simp <;> omega) hc ?_)))))
  refine WE.call ok (WE.glob ok hg (v := .builtin "len") rfl (in_1_2 _ rfl KpOk.builtin (WE.nm ok hk h3 (WCall.lenT (by simp; (exact Nat.le_trans (by assumption) (by decide))) (in_1_1 _ rfl ?_)))) (by rw [hk]; rfl))
  have hqok := hok q (hq ▸ List.getElem_mem hlt)
  have e : CV.tup (((q.map CV.str)).take (upk (q.map CV.str).length ((way.map CV.str).length : Int))) = wcv (q.take way.length) := by
    unfold wcv upk
    rw [if_neg (by omega), List.map_take]
    simp only [List.length_map, Int.toNat_natCast]
    congr 1
    by_cases hle : way.length ≤ q.length
    · rw [Nat.min_eq_left hle]
    · rw [Nat.min_eq_right (by omega +splitDisjunctions), List.take_of_length_le (l := q.map CV.str) (i := q.length) (by simp), List.take_of_length_le (by simp; omega)]
  refine WSl.tupTo (by simp; (exact Nat.le_trans (by assumption) (by decide))) ?_
  rw [e]
  have htok : (q.take way.length).all PyData.strOk = true := by
    rw [List.all_eq_true] at hqok ⊢
    exact fun x hx => hqok x (List.mem_of_mem_take hx)
  refine WE.nm ok hk h3 (W2.eqP ok (isPy_wcv htok) (isPy_wcv hwo) (depth_wcv _) ?_)
  rw [ceq_wcv, isPrefixOf_take]
  exact Wtr.bool h

theorem W2.eqIF {Q : CV → CSt → Prop} {st : CSt} {a b : Int} (e : a ≠ b) (h : Q (.bool false) st) : W2 C (compareOp .Eq) (.int a) (.int b) st Q := W2.eqI (by rw [decide_eq_false e]; exact h)
theorem W2.eqIT {Q : CV → CSt → Prop} {st : CSt} {a b : Int} (e : a = b) (h : Q (.bool true) st) : W2 C (compareOp .Eq) (.int a) (.int b) st Q := W2.eqI (by rw [decide_eq_true e]; exact h)

/-- how far the rows are turned -/
noncomputable def Rows (ways : List (List Str)) (T T' : List Str → Int → Bool) (j : Nat) (ps : List (Addr × List CV)) : Prop := ps.length = ways.length ∧ ∀ i q, ways[i]? = some q → (ps[i]?).map (·.2) = some (row (if i < j then T' else T) q)
theorem Rows.start {ways : List (List Str)} {T T' : List Str → Int → Bool} {ps : List (Addr × List CV)} (h : ps.map (·.2) = ways.map (row T)) : Rows ways T T' 0 ps := by
  refine ⟨by have := congrArg List.length h; simpa using this, fun i q hi => ?_⟩
  have : (ps.map (·.2))[i]? = (ways.map (row T))[i]? := by rw [h]
  rw [List.getElem?_map, List.getElem?_map, hi] at this
  rw [this]; rfl
theorem Rows.done {ways : List (List Str)} {T T' : List Str → Int → Bool} {ps : List (Addr × List CV)} (h : Rows ways T T' ways.length ps) : ps.map (·.2) = ways.map (row T') := by
  apply List.ext_getElem?
  intro i
  rw [List.getElem?_map, List.getElem?_map]
  cases hi : ways[i]? with
  | none =>
    have : ps[i]? = none := by
      rw [List.getElem?_eq_none_iff] at hi ⊢
      rw [h.1]; exact hi
    rw [this]; rfl
  | some q =>
    rw [h.2 i q hi]
    have := (List.getElem?_eq_some_iff.mp hi).1
    rw [if_pos this]; rfl
theorem Rows.step {ways : List (List Str)} {T T' : List Str → Int → Bool} {j : Nat} {ps : List (Addr × List CV)} {q : List Str} {p : Addr × List CV} (h : Rows ways T T' j ps) (hj : ways[j]? = some q) (hp : p.2 = row T' q) : Rows ways T T' (j + 1) (ps.set j p) := by
  refine ⟨by simpa using h.1, fun i q' hi => ?_⟩
  have hjl := (List.getElem?_eq_some_iff.mp hj).1
  by_cases e : i = j
  · subst e
    have hq : q = q' := by rw [hj] at hi; exact Option.some.inj hi
    subst hq
    rw [List.getElem?_set_self (by rw [h.1]; exact hjl), if_pos (by omega +splitDisjunctions)]
    simp [hp]
  · rw [List.getElem?_set_ne (Ne.symm e), h.2 i q' hi]
    congr 2
    by_cases hlt : i < j
    · rw [if_pos hlt, if_pos (by (exact Nat.lt_succ_of_lt (by assumption)))]
    · rw [if_neg hlt, if_neg (by omega +splitDisjunctions)]
theorem Rows.skip {ways : List (List Str)} {T T' : List Str → Int → Bool} {j : Nat} {ps : List (Addr × List CV)} {q : List Str} (h : Rows ways T T' j ps) (hj : ways[j]? = some q) (hp : row T q = row T' q) : Rows ways T T' (j + 1) ps := by
  refine ⟨h.1, fun i q' hi => ?_⟩
  by_cases e : i = j
  · subst e
    have hq : q = q' := by rw [hj] at hi; exact Option.some.inj hi
    subst hq
    rw [h.2 i q hi, if_neg (by simp), if_pos (by (exact Nat.lt_succ_self _)), hp]
  · rw [h.2 i q' hi]
    congr 2
    by_cases hlt : i < j
    · rw [if_pos hlt, if_pos (by (exact Nat.lt_succ_of_lt (by assumption)))]
    · rw [if_neg hlt, if_neg (by omega +splitDisjunctions)]

theorem turnLoop_W {t : Expr} {body : List Stmt} {Q : CF → CSt → Prop} {ways : List (List Str)} {D : Addr} {T : List Str → Int → Bool} {w : List (List Str × Int)} {c1 f : Int} {way : List Str} (ok : C.Ok dep) (hk : HK C (scopeOf (lawF 5))) (hg : GOk C [("len", .builtin "len"), ("list", .type "list"), ("range", .type "range")])
    (hok : ∀ q ∈ ways, q.all PyData.strOk = true) (hql : ∀ q ∈ ways, q.length ≤ 1000) (hl : ways.length ≤ 10000) (hw1 : way.length ≤ 1000) (hwo : way.all PyData.strOk = true) (hf : f = 0 ∨ f = 1) (hc : c1 = 0 ∨ c1 = 1 ∨ c1 = 4)
    (e : ∃ it o p, nth (bodyOf (lawF 5)) 5 = .For t it body o p) :
    ∀ (m j : Nat) (ps : List (Addr × List CV)) (H : CH) (lo : Str → Option CV), j + m = ways.length → Due H0 H D ps → Rows ways T (tdo T w (c1, way, f)) j ps → lo "due" = some (.loc D) → lo "ways" = some (.lst (ways.map wcv)) → lo "way" = some (wcv way) → lo "kind" = some (.int c1) → lo "flag" = some (.int f) →
      lo "over" = some (.lst (row T (way.dropLast ++ [("b.a" : Str)]))) →
      (∀ H' ps' lo', Due H0 H' D ps' → ps'.map (·.2) = ways.map (row (tdo T w (c1, way, f))) → lo' "due" = some (.loc D) → (∀ y : Str, y ≠ "k" → lo' y = lo y) → Q .next ⟨lo', H'⟩) →
      WFor C t body [] ((List.range' j m).map fun i => CV.int (i : Nat)) ⟨lo, H⟩ Q := by
  apply forE (t := t) (body := body) e
  intro m
  induction m with
  | zero =>
    intro j ps H lo hjm d R h1 h2 h3 h4 h5 h6 q
    have hj : j = ways.length := by omega +splitDisjunctions
    subst hj
    exact WSs.nil (q H ps lo d R.done h1 fun _ _ => rfl)
  | succ m ih =>
    intro j ps H lo hjm d R h1 h2 h3 h4 h5 h6 q
    have hjl : j < ways.length := by omega
    have hj : ways[j]? = some ways[j] := List.getElem?_eq_getElem hjl
    have hpj : j < ps.length := by rw [R.1]; exact hjl
    have hpl : ps.length ≤ 10000 := by rw [R.1]; exact hl
    have hrow : ps[j].2 = row T ways[j] := by
      have := R.2 j _ hj
      rw [List.getElem?_eq_getElem hpj, if_neg (by omega)] at this
      simpa using this
    have next := fun (H' : CH) (ps' : List (Addr × List CV)) (d' : Due H0 H' D ps') (R' : Rows ways T (tdo T w (c1, way, f)) (j + 1) ps') =>
      ih (j + 1) ps' H' (lput lo "k" (.int j)) (by omega) d' R' h1 h2 h3 h4 h5 h6 fun H2 ps2 lo2 d2 e2 c1 c2 => q H2 ps2 lo2 d2 e2 c1 fun y hy => by rw [c2 y hy]; simp [lput, hy]
    have hqm : ways[j] ∈ ways := List.getElem_mem hjl
    have hcx : (ps.map fun p => CV.loc p.1)[cidx (ps.map fun p => CV.loc p.1).length (j : Int)]? = some (.loc ps[j].1) := by
      have : cidx (ps.map fun p => CV.loc p.1).length (j : Int) = j := cidx_nat
      rw [this]; simp [hpj]
    have hcw : (ways.map wcv)[cidx (ways.map wcv).length (j : Int)]? = some (wcv ways[j]) := by
      have : cidx (ways.map wcv).length (j : Int) = j := cidx_nat
      simp only [this, List.getElem?_map, hj]; rfl
    have hg2 : ((f.toNat : Nat) : Int) = f := by rcases hf with h | h <;> rw [h] <;> rfl
    have hset : ∀ b : Bool, (b = true → (row T ways[j]).set f.toNat (.bool true) = row (tdo T w (c1, way, f)) ways[j]) → b = true → Rows ways T (tdo T w (c1, way, f)) (j + 1) (ps.set j (ps[j].1, ps[j].2.set f.toNat (.bool true))) := fun b h hb => R.step hj (by dsimp only; rw [hrow]; exact h hb)
    have hfl : f.toNat < ps[j].2.length := by rw [hrow]; rcases hf with h | h <;> rw [h] <;> simp [row]
    rw [List.range'_succ, List.map_cons]
    refine WA.nm ok hk ?_
    rcases hc with rfl | rfl | rfl
    · refine WSs.cons (WS.if_ (WT.boolop (WT.cmp1 (WE.nm ok hk h4 (WE.int (W2.eqIF (by decide) (Wtr.bool ?_)))))))
      refine WSs.cons (WS.if_ (WT.boolop (WT.boolop (WT.cmp1 (WE.nm ok hk h4 (WE.int (W2.eqIT rfl (Wtr.bool ?_))))))))
      refine WT.cmp1 (WE.sub (WE.nm ok hk h2 (WE.nm ok hk rfl (W2.itemL (by simp <;> omega) (by simp <;> omega +splitDisjunctions) (by simp <;> omega) hcw (WE.nm ok hk h3 (W2.eqP ok (isPy_wcv (hok _ hqm)) (isPy_wcv hwo) (depth_wcv _) (Wtr.bool ?_)))))))
      rw [ceq_wcv]
      cases hb : decide (ways[j] = way) with
      | true =>
        refine WSs.cons (WS.assign1 (WE.bool (WA.subL (WE.sub (WE.nm ok hk h1 (WE.nm ok hk rfl (W2.itemLoc d.at_ (by simp <;> omega) (by simp <;> omega +splitDisjunctions) (by simp <;> omega) hcx (WE.nm ok hk h5 (in_3_5 (ps[j].1) (ps[j].2) f.toNat rfl (by rw [hg2]) (d.rows _ (List.getElem_mem hpj)) hfl (by rw [hrow]; simp [row]) ?_)))))))))
        exact WSs.nil (WSs.nil (WSs.nil (next _ _ (d.turn (List.getElem?_eq_getElem hpj)) (hset true (fun _ => by
          rw [row_set hf]; have := of_decide_eq_true hb; subst this; rfl) rfl))))
      | false =>
        refine WT.boolop (WT.cmp1 (WE.nm ok hk h4 (WE.int (W2.eqIF (by decide) (Wtr.bool ?_)))))
        exact WSs.nil (WSs.nil (WSs.nil (next _ _ d (R.skip hj (by simp [row, tdo, hb])))))
    · refine WSs.cons (WS.if_ (WT.boolop (WT.cmp1 (WE.nm ok hk h4 (WE.int (W2.eqIF (by decide) (Wtr.bool ?_)))))))
      refine WSs.cons (WS.if_ (WT.boolop (WT.boolop (WT.cmp1 (WE.nm ok hk h4 (WE.int (W2.eqIF (by decide) (Wtr.bool ?_))))))))
      refine WT.boolop (WT.cmp1 (WE.nm ok hk h4 (WE.int (W2.eqIT rfl (Wtr.bool ?_)))))
      refine pre_W ok hk hg hok hl (hql _ hqm) hw1 hwo hj h2 rfl h3 ?_
      cases hb : way.isPrefixOf ways[j] with
      | true =>
        refine WSs.cons (WS.assign1 (WE.bool (WA.subL (WE.sub (WE.nm ok hk h1 (WE.nm ok hk rfl (W2.itemLoc d.at_ (by simp <;> omega) (by simp <;> omega +splitDisjunctions) (by simp <;> omega) hcx (WE.nm ok hk h5 (in_3_5 (ps[j].1) (ps[j].2) f.toNat rfl (by rw [hg2]) (d.rows _ (List.getElem_mem hpj)) hfl (by rw [hrow]; simp [row]) ?_)))))))))
        exact WSs.nil (WSs.nil (WSs.nil (next _ _ (d.turn (List.getElem?_eq_getElem hpj)) (hset true (fun _ => by
          rw [row_set hf]; simp [row, tdo, hb]) rfl))))
      | false =>
        exact WSs.nil (WSs.nil (WSs.nil (next _ _ d (R.skip hj (by simp [row, tdo, hb])))))
    · refine WSs.cons (WS.if_ (WT.boolop (WT.cmp1 (WE.nm ok hk h4 (WE.int (W2.eqIT rfl (Wtr.bool ?_)))))))
      refine pre_W ok hk hg hok hl (hql _ hqm) hw1 hwo hj h2 rfl h3 ?_
      cases hb : way.isPrefixOf ways[j] with
      | true =>
        refine WSs.cons (WS.assign1 (WE.call ok (WE.glob ok hg (v := .type "list") rfl ⟨_, rfl, KpOk.type, WE.nm ok hk h6 (WCall.listOf (by simp [row]) fun a ha => WA.subL (WE.nm ok hk h1 (WE.nm ok hk rfl ⟨D, _, j, rfl, rfl, (by
          show hput H a _ D = _
          rw [hput_ne (fun e => by
            have ha' : H a = none := ha
            rw [← e, d.at_] at ha'; cases ha')]; exact d.at_), by simpa using hpj, by simp; (exact Nat.le_trans (by assumption) (by decide)), ?_⟩)))⟩ (by rw [hk]; rfl))))
        exact WSs.nil (WSs.nil (next _ _ (d.swap hpj ha) (R.step hj (by simp [row, tdo, hb]))))
      | false =>
        refine WSs.cons (WS.if_ (WT.boolop (WT.boolop (WT.cmp1 (WE.nm ok hk h4 (WE.int (W2.eqIF (by decide) (Wtr.bool ?_))))))))
        refine WT.boolop (WT.cmp1 (WE.nm ok hk h4 (WE.int (W2.eqIF (by decide) (Wtr.bool ?_)))))
        exact WSs.nil (WSs.nil (WSs.nil (next _ _ d (R.skip hj (by simp [row, tdo, hb])))))
end
end Mine
open PySem PySem.W PySem.Calls PyProof.Rows
set_option Elab.async false
set_option linter.all false
set_option maxRecDepth 100000
set_option genSizeOf false
namespace Mine

theorem GOk.sub {C : Cx} {G G' : List (Str × Value)} (hg : GOk C G) (h : (G'.map fun p => G.lookup p.1) = (G'.map fun p => some p.2) := by rfl) : GOk C G' := fun x v e => hg x v (List.map_inj_left.mp h (x, v) (mem_of_lookup e))
/-- what waits behind a call -/
noncomputable def wdo (w : List (List Str × Int)) (c : Int × List Str × Int) : List (List Str × Int) := if c.1 = 2 then w ++ [(c.2.1, c.2.2)] else if c.1 = 3 then [] else w
theorem MS.do_w (m : MS) (c : Int × List Str × Int) : (m.do c).w = wdo m.w c := by
  unfold MS.do wdo
  by_cases h1 : c.1 < 2
  · rw [if_pos h1, if_neg (by omega), if_neg (by omega)]
  · rw [if_neg h1]
    split
    · rfl
    · split <;> rfl
theorem toldC_of {ways : List (List Str)} {T : List Str → Int → Bool} {ps : List (Addr × List CV)} (h : ps.map (·.2) = ways.map (row T)) : CV.lst (ps.map fun p => .lst p.2) = toldC ways T := by
  unfold toldC
  have : (ps.map fun p => CV.lst p.2) = (ps.map (·.2)).map CV.lst := by simp
  rw [this, h]; simp
section
variable {C : Cx} {dep : Nat} {H : CH}

theorem next_W' {Q : CF → CSt → Prop} {ways : List (List Str)} {T : List Str → Int → Bool} {waits : List (List Str × Int)} {c : Int × List Str × Int} (ok : C.Ok dep) (hk : HK C (scopeOf (lawF 5))) (hg : GOk C [("len", .builtin "len"), ("list", .type "list"), ("range", .type "range")])
    (hok : ∀ q ∈ ways, q.all PyData.strOk = true) (hql : ∀ q ∈ ways, q.length ≤ 1000) (hnd : ways.Nodup) (hl : ways.length ≤ 10000) (hc : cgood c) (hwo : c.2.1.all PyData.strOk = true) (hf : c.2.2 = 0 ∨ c.2.2 = 1) (hcw : c.2.1.dropLast ++ [("b.a" : Str)] ∈ ways)
    (hws : ∀ u ∈ waits, u.1 ∈ ways ∧ (u.2 = 0 ∨ u.2 = 1)) (hwl : waits.length ≤ 1000)
    (h : ∀ lo' H', (∀ b, H b ≠ none → H' b = H b) → Q (.ret (.tup [toldC ways (tdo T waits c), .lst ((wdo waits c).map pcv)])) ⟨lo', H'⟩) :
    WSs C (bodyOf (lawF 5)) ⟨fun y => ([("ways" : Str), "told", "waits", "call"].zip [.lst (ways.map wcv), toldC ways T, .lst (waits.map pcv), callC c]).lookup y, H⟩ Q := by
  obtain ⟨c1, way, f⟩ := c
  (refine el_0_2 hc fun h0 h5 hp => ?_; try clear hc)
  dsimp only at h0 h5 hp hwo hf hcw
  refine WSs.cons (WS.assign1 (WE.nm ok hk rfl (WA.tuple (vs := [.int c1, .tup (way.map .str), .int f]) ok rfl (WA.nm ok hk (WA.nm ok hk (WA.nm ok hk ?_))))))
  refine WSs.cons (nextDue_W ok hk hg.sub hl rfl fun D ps H' hT d => ?_)
  refine WSs.cons (WS.if_ (WT.cmp1 (WE.nm ok hk rfl (WE.int (W2.eqI (Wtr.bool (cB (fun hc => ?_) fun hc => ?_)))))))
  · have he : c1 = 2 := by simpa using hc
    refine d.done rfl fun H2 k2 => WSs.cons (WS.ret (WE.tuple (WE.nm ok hk rfl (WE.binop (WE.nm ok hk rfl (WE.listF (WE.tuple (WE.nm ok hk rfl (WE.nm ok hk rfl (in_0_2 (by simp) (by simp) (W2.addL (by simp; (exact Nat.le_trans (by assumption) (by decide))) ⟨by simp, ?_⟩)))))))))))
    have this := fun lo' => h lo' H2 k2
    rw [toldC_of hT]
    simp only [tdo, wdo, he, if_true, List.map_append, List.map_cons, List.map_nil] at this
    exact this _
  have hwl1 : way.length ≤ 1000 := hp.2.1
  have hn2 : c1 ≠ 2 := by simpa using hc
  refine WSs.nil ?_
  refine WSs.cons (WS.if_ (WT.cmp1 (WE.nm ok hk rfl (WE.int (W2.eqI (Wtr.bool (cB (fun hc => ?_) fun hc => ?_)))))))
  · have he : c1 = 3 := by simpa using hc
    refine WSs.cons (WS.for_ ok (WE.nm ok hk rfl (in_1_1 _ IterOf.lst ?_)))
    refine waitLoop_W ok hk hok hnd hl (in_3_0 _ _ _ rfl) waits T ps H' _ d hT hws rfl rfl fun H3 ps3 lo3 d3 e3 c3 => ?_
    refine d3.done c3 fun H2 k2 => WSs.cons (WS.ret (WE.tuple (WE.nm ok hk rfl (WE.listF (in_0_2 (by simp) (by simp) ?_)))))
    have this := fun lo' => h lo' H2 k2
    rw [toldC_of e3]
    have e : tdo T waits (c1, way, f) = fun q g => T q g || decide ((q, g) ∈ waits) := by funext q g; simp [tdo, he]
    rw [e] at this
    simp only [wdo, he] at this
    exact this _
  have hn3 : c1 ≠ 3 := by simpa using hc
  refine WSs.nil ?_
  (refine el_1_0 (List.mem_iff_getElem?.mp hcw) fun j hj => ?_)
  (refine el_1_0 (List.getElem?_eq_some_iff.mp hj) fun hjl hjq => ?_)
  have hcx : (ways.map fun q => CV.lst (row T q))[cidx (ways.map fun q => CV.lst (row T q)).length (j : Int)]? = some (.lst (row T (way.dropLast ++ [("b.a" : Str)]))) := by
    have : cidx (ways.map fun q => CV.lst (row T q)).length (j : Int) = j := cidx_nat
    simp only [this, List.getElem?_map, hj]; rfl
  have hup : (way.map CV.str).take (upk (way.map CV.str).length (-1)) ++ [CV.str "b.a"] = (way.dropLast ++ [("b.a" : Str)]).map CV.str := by
    unfold upk
    rw [if_pos (by decide), List.map_append, List.dropLast_eq_take, List.map_take, List.length_map]
    congr 2
    omega
  refine WSs.cons (WS.assign1 (WE.sub (WE.nm ok hk rfl (WE.meth ok (WE.nm ok hk rfl (in_1_2 _ KpOk.builtin (WMeth.lst PySem.F.slot_list_index PySem.F.type_list_index) (WE.binop (WE.slice (WE.nm ok hk rfl (WE.neg1 (in_1_1 _ rfl (WSl.tupTo (by simp; (exact Nat.le_trans (by assumption) (by decide))) (WE.tuple (WE.str ⟨by decide, W2.addT (by have := upk_le (way.map CV.str).length (-1); simp at this ⊢; omega) ?_⟩))))))))))))))
  rw [hup]
  refine index_W ok hok hnd hl hj (W2.itemL (by simp <;> omega) (by simp <;> omega +splitDisjunctions) (by simp <;> omega) hcx (WA.nm ok hk ?_))
  refine WSs.cons (WS.for_ ok (WE.call ok (WE.glob ok hg (v := .type "range") rfl (in_1_2 _ rfl KpOk.type (WE.call ok (WE.glob ok hg (v := .builtin "len") rfl (in_1_2 _ rfl KpOk.builtin (WE.nm ok hk rfl (WCall.lenL (by simp; (exact Nat.le_trans (by assumption) (by decide))) (WCall.range1 (in_1_1 _ (IterOf.rng (by decide) (by simp <;> omega)) ?_))))) (by rw [hk]; rfl)))) (by rw [hk]; rfl))))
  have er : rints 0 ((ways.map wcv).length : Int) = (List.range' 0 ways.length).map fun i => CV.int (i : Nat) := by
    simp [rints, List.range_eq_range']
  rw [er]
  refine turnLoop_W (w := waits) (way := way) ok hk hg hok hql hl hp.2.1 hwo hf (by omega) (in_3_0 _ _ _ rfl) ways.length 0 ps H' _ (by simp) d (Rows.start hT) rfl rfl rfl rfl rfl rfl fun H3 ps3 lo3 d3 e3 c3 k3 => ?_
  have kw : lo3 "waits" = some (.lst (waits.map pcv)) := (k3 "waits" (by decide)).trans rfl
  refine d3.done c3 fun H2 k2 => WSs.cons (WS.ret (WE.tuple (WE.nm ok hk (v := .lst (ps3.map fun p => .lst p.2)) rfl (WE.nm ok hk (v := .lst (waits.map pcv)) ?_ ⟨by simp, ?_⟩))))
  · exact kw
  rw [toldC_of e3]
  have this := fun lo' => h lo' H2 k2
  simp only [wdo, hn2, hn3, if_false] at this
  exact this _
end
end Mine
open PySem PySem.W PySem.Calls PyProof.Rows
set_option Elab.async false
set_option linter.all false
set_option maxRecDepth 100000
set_option genSizeOf false
namespace Mine

/-- a def of the law's text, at the top -/
structure LawAt (C : Cx) (i : Nat) (pn : List Str) (fa : Addr) (fd : FuncData) : Prop where
  keep : keepIn C.K (.ref fa) = true
  fn : FnAt C fa fd (bodyOf (lawF i))
  scope : fd.scope.names = scopeOf (lawF i)
  bind : ∀ us : List Value, us.length = pn.length → bindArgs fd ⟨us, []⟩ = pure (pn.zip us)

section
variable {C C' : Cx} {dep : Nat} {H : CH} {cl x : Addr} {ow : FO} {m : MS}
theorem LawAt.same {i : Nat} {pn : List Str} {fa : Addr} {fd : FuncData} (l : LawAt C i pn fa fd) (s : C.Same C') : LawAt C' i pn fa fd := by
  have hK := s.K
  have hb := s.base
  obtain ⟨a, b, c, d⟩ := l
  refine ⟨by rw [hK]; exact a, ?_, c, d⟩
  obtain ⟨b1, b2, b3, b4, b5, b6, b7, b8, b9⟩ := b
  exact ⟨by rw [hb]; exact b1, by rw [hb]; exact b2, b3, b4, b5, b6, b7, b8, b9⟩

theorem LawAt.call {i : Nat} {pn : List Str} {fa : Addr} {fd : FuncData} {args : List CV} {st : CSt} {Q : CV → CSt → Prop} (ok : C.Ok (dep + 1)) (l : LawAt C i pn fa fd) (hg : goodNames (scopeOf (lawF i)) pn = true) (hl : args.length = pn.length)
    (h : ∀ C' : Cx, C'.Ok dep → C.Same C' → HK C' (scopeOf (lawF i)) → WSs C' (bodyOf (lawF i)) ⟨fun y => (pn.zip args).lookup y, st.H⟩ (fun f st' => Q f.val ⟨st.lo, st'.H⟩)) : WCall C (.ref fa) args [] [] st Q := by
  simp only [goodNames, Bool.and_eq_true, decide_eq_true_eq] at hg
  (refine el_0_1 hg fun xEl0 g4 => ?_; try clear hg; (refine el_0_1 xEl0 fun yEl0 g3 => ?_; try clear xEl0; obtain ⟨g1, g2⟩ := yEl0))
  refine call_W (pn := pn) ok l.fn (fun us vs e1 e2 => ?_) (by rw [l.scope]; exact g1) g2 (by rw [l.scope]; exact g3) (by rw [l.scope]; exact g4) fun C' ok2 s2 hs => ?_
  · have : vs = [] := List.length_eq_zero_iff.mp (by simpa using e2)
    subst this
    rw [List.append_nil]
    exact l.bind us (by omega)
  · have hk : HK C' (scopeOf (lawF i)) := fun y => by unfold Env.kindOf; rw [hs, l.scope]
    have := h C' ok2 s2 hk
    rw [List.append_nil]
    exact this

/-- what the law's body finds at the top -/
structure LCtx (C : Cx) (cl fa3 fa4 fa5 : Addr) : Prop where
  fc : FCls C cl
  ms : FMs C cl
  keepCl : keepIn C.K (.ref cl) = true
  f3 : ∃ fd, LawAt C 3 ["x"] fa3 fd
  f4 : ∃ fd, LawAt C 4 ["flags", "call"] fa4 fd
  f5 : ∃ fd, LawAt C 5 ["ways", "told", "waits", "call"] fa5 fd
  g : GOk C [("len", .builtin "len"), ("list", .type "list"), ("range", .type "range"), ("Flags", .ref cl), ("_law_call", .ref fa3), ("_law_do", .ref fa4), ("_law_next", .ref fa5)]
variable {fa3 fa4 fa5 : Addr}
theorem LCtx.same (L : LCtx C cl fa3 fa4 fa5) (s : C.Same C') : LCtx C' cl fa3 fa4 fa5 :=
  ⟨L.fc.same s, L.ms.same s, by rw [s.K]; exact L.keepCl, let ⟨f, l⟩ := L.f3; (in_1_0 f (l.same s)), let ⟨f, l⟩ := L.f4; (in_1_0 f (l.same s)), let ⟨f, l⟩ := L.f5; (in_1_0 f (l.same s)), L.g.same s⟩

theorem LCtx.call {Q : CV → CSt → Prop} {st : CSt} {x : Int} (ok : C.Ok (dep + 1)) (L : LCtx C cl fa3 fa4 fa5) (h : Q (callC (callOf x)) st) : WCall C (.ref fa3) [.int x] [] [] st Q := by
  (refine el_1_0 L.f3 fun fd l => ?_)
  exact l.call ok (by decide +kernel) rfl fun C' ok' s hk => call_W' ok' hk (L.g.same s).sub fun lo' => h
theorem LCtx.do {Q : CV → CSt → Prop} {lo : Str → Option CV} {c : Int × List Str × Int} (ok : C.Ok (dep + 3)) (L : LCtx C cl fa3 fa4 fa5) (F : FM H cl x ow m) (hc : cgood c) (hw : ∀ v ∈ m.w, pgood v) (hn : m.w.length ≤ 900)
    (h : ∀ H' ow', FM H' cl x ow' (m.do c) → FK H H' ow ow' → Q .none ⟨lo, H'⟩) : WCall C (.ref fa4) [.loc x, callC c] [] [] ⟨lo, H⟩ Q := by
  (refine el_1_0 L.f4 fun fd l => ?_)
  exact l.call ok (by decide +kernel) rfl fun C' ok' s hk => do_W ok' (L.fc.same s) (L.ms.same s) hk F hc hw hn fun lo' H' ow' F' K' => h H' ow' F' K'
theorem LCtx.next {Q : CV → CSt → Prop} {lo : Str → Option CV} {ways : List (List Str)} {T : List Str → Int → Bool} {waits : List (List Str × Int)} {c : Int × List Str × Int} (ok : C.Ok (dep + 1)) (L : LCtx C cl fa3 fa4 fa5)
    (hok : ∀ q ∈ ways, q.all PyData.strOk = true) (hql : ∀ q ∈ ways, q.length ≤ 1000) (hnd : ways.Nodup) (hl : ways.length ≤ 10000) (hc : cgood c) (hwo : c.2.1.all PyData.strOk = true) (hf : c.2.2 = 0 ∨ c.2.2 = 1) (hcw : c.2.1.dropLast ++ [("b.a" : Str)] ∈ ways)
    (hws : ∀ u ∈ waits, u.1 ∈ ways ∧ (u.2 = 0 ∨ u.2 = 1)) (hwl : waits.length ≤ 1000)
    (h : ∀ H', (∀ b, H b ≠ none → H' b = H b) → Q (.tup [toldC ways (tdo T waits c), .lst ((wdo waits c).map pcv)]) ⟨lo, H'⟩) :
    WCall C (.ref fa5) [.lst (ways.map wcv), toldC ways T, .lst (waits.map pcv), callC c] [] [] ⟨lo, H⟩ Q := by
  (refine el_1_0 L.f5 fun fd l => ?_)
  exact l.call ok (by decide +kernel) rfl fun C' ok' s hk => next_W' ok' hk (L.g.same s).sub hok hql hnd hl hc hwo hf hcw hws hwl fun lo' H' k => h H' k
end
end Mine
open PySem PySem.W PySem.Calls PyProof.Rows
set_option Elab.async false
set_option linter.all false
set_option maxRecDepth 100000
set_option genSizeOf false
namespace Mine

/-- every third item, from r on -/
noncomputable def spick {α : Type} (l : List α) (r : Int) : List α := (sliceRange (max 0 (min r l.length)) l.length 3).filterMap (l[·]?)
theorem cpick_map {α : Type} (f : α → CV) (l : List α) {r : Int} (hr : 0 ≤ r) : cpick (l.map f) (some r) none (some 3) = (spick l r).map f := by
  unfold cpick spick sliceBounds
  simp only [Option.getD_some, List.length_map, show (3 : Int) > 0 by (exact Int.natCast_nonneg _), if_true, show ¬ r < 0 by omega, if_false]
  rw [List.map_filterMap]
  congr 1
  funext i
  simp
theorem filterMap_length {α β : Type} {f : α → Option β} : ∀ {l : List α}, (∀ x ∈ l, (f x).isSome = true) → (l.filterMap f).length = l.length
  | [], _ => rfl
  | x :: l, h => by
    have hx := h x List.mem_cons_self
    (refine el_1_0 (Option.isSome_iff_exists.mp hx) fun y hy => ?_)
    simp only [List.filterMap_cons, hy, List.length_cons, List.length_cons, filterMap_length fun z hz => h z (List.mem_cons_of_mem _ hz)]
theorem spick_length {α : Type} {l : List α} {r : Int} (hr : 0 ≤ r) : ((spick l r).length : Int) = if r < l.length then (l.length - r + 2) / 3 else 0 := by
  unfold spick
  rw [Int.max_eq_right (Int.le_min.mpr ⟨hr, Int.natCast_nonneg _⟩), filterMap_length]
  · unfold sliceRange
    rw [List.length_map, List.length_range]
    simp only [show (3 : Int) > 0 by decide, if_true]
    by_cases h : r < l.length
    · rw [Int.min_eq_left (Int.le_of_lt h), if_pos h, if_pos h, show (l.length : Int) - r + 3 - 1 = l.length - r + 2 by omega, Int.toNat_of_nonneg (Int.ediv_nonneg (by omega +splitDisjunctions) (by decide))]
    · rw [Int.min_eq_right (Int.not_lt.mp h), if_neg (Int.lt_irrefl _), if_neg h]; rfl
  · intro i hi
    unfold sliceRange at hi
    (refine el_1_1 (List.mem_map.mp hi) fun k hk xEl2 => ?_; obtain rfl := xEl2)
    rw [List.mem_range] at hk
    simp only [show (3 : Int) > 0 by decide, if_true] at hk
    have hlt : (min r ↑l.length + 3 * (k : Int)).toNat < l.length := by
      by_cases h : r < l.length
      · rw [Int.min_eq_left (Int.le_of_lt h), if_pos h] at hk
        rw [Int.min_eq_left (Int.le_of_lt h)]
        have := Int.mul_le_of_le_ediv (by decide) (Int.add_one_le_of_lt (Int.lt_toNat.mp hk))
        exact (Int.toNat_lt (Int.add_nonneg hr (Int.mul_nonneg (by decide) (Int.natCast_nonneg k)))).mpr (by omega)
      · rw [Int.min_eq_right (Int.not_lt.mp h), if_neg (Int.lt_irrefl _)] at hk
        exact absurd hk (Nat.not_lt_zero _)
    rw [List.getElem?_eq_getElem hlt]; rfl
theorem spick_le {α : Type} {script : List α} (hs : script.length ≤ 63) {r : Int} (hr : 0 ≤ r) : (spick script r).length ≤ 63 := by
  have := spick_length (l := script) hr
  split at this <;> omega
noncomputable def rowsOf (script : List Int) : List (List Int) := [[1] ++ spick script 0 ++ [3], [10] ++ spick script 1 ++ [3], [3, 14] ++ spick script 2 ++ [3]]

section
variable {C C' : Cx} {dep : Nat} {H : CH} {cl fa3 fa4 fa5 : Addr}

theorem rows_W {Q : CF → CSt → Prop} {lo : Str → Option CV} {script : List Int} (ok : C.Ok dep) (hk : HK C (scopeOf (lawF 6))) (hs : script.length ≤ 63) (h1 : lo "script" = some (.lst (script.map .int)))
    (h : Q .next ⟨lput lo "rows" (.lst ((rowsOf script).map fun r => .lst (r.map .int))), H⟩) : WS C (nth (bodyOf (lawF 6)) 0) ⟨lo, H⟩ Q := by
  have l0 : (cpick (script.map CV.int) (some 0) none (some 3)).length ≤ 63 := by rw [cpick_map _ _ (by decide), List.length_map]; exact spick_le hs (by decide)
  have l1 : (cpick (script.map CV.int) (some 1) none (some 3)).length ≤ 63 := by rw [cpick_map _ _ (by decide), List.length_map]; exact spick_le hs (by decide)
  have l2 : (cpick (script.map CV.int) (some 2) none (some 3)).length ≤ 63 := by rw [cpick_map _ _ (by decide), List.length_map]; exact spick_le hs (by decide)
  have hsl : (script.map CV.int).length ≤ 2 ^ 24 := by simp; (exact Nat.le_trans (by assumption) (by decide))
  refine WS.assign1 (WE.listF ?_)
  refine WE.binop (WE.binop (WE.listF (WE.int ⟨by decide, WE.slice (WE.nm ok hk h1 (WE.int (in_1_1 _ rfl (WE.int (in_1_1 _ rfl (WSl.lst (by decide) hsl (W2.addL (by simp; omega) (WE.listF (WE.int ⟨by decide, W2.addL (by simp; (exact Nat.le_trans (by assumption) (by decide))) ?_⟩)))))))))⟩)))
  refine WE.binop (WE.binop (WE.listF (WE.int ⟨by decide, WE.slice (WE.nm ok hk h1 (WE.int (in_1_1 _ rfl (WE.int (in_1_1 _ rfl (WSl.lst (by decide) hsl (W2.addL (by simp; omega) (WE.listF (WE.int ⟨by decide, W2.addL (by simp; (exact Nat.le_trans (by assumption) (by decide))) ?_⟩)))))))))⟩)))
  refine WE.binop (WE.binop (WE.listF (WE.int (WE.int ⟨by decide, WE.slice (WE.nm ok hk h1 (WE.int (in_1_1 _ rfl (WE.int (in_1_1 _ rfl (WSl.lst (by decide) hsl (W2.addL (by simp; omega) (WE.listF (WE.int ⟨by decide, W2.addL (by simp; (exact Nat.le_trans (by assumption) (by decide))) ⟨by simp, WA.nm ok hk ?_⟩⟩)))))))))⟩))))
  rw [cpick_map _ _ (by decide), cpick_map _ _ (by decide), cpick_map _ _ (by decide)]
  simpa [rowsOf] using h

/-- the calls of a row -/
theorem rowCalls_W {elt t : Expr} {Q : List CV → CSt → Prop} (ok : C.Ok (dep + 1)) (L : LCtx C cl fa3 fa4 fa5) (hkl : C.env.kindOf "_law_call" = some .globalImplicit) (hkp : C.env.kindOf "x" = some .local)
    (ht : ∃ p, t = .Name "x" p) (he : ∃ p1 p2 p3, elt = .Call (.Name "_law_call" p1) [.Name "x" p2] [] p3) :
    ∀ (xs : List Int) (acc : List CV) (lo : Str → Option CV), acc.length + xs.length ≤ 10000 → (∀ lo', Q (acc ++ xs.map fun x => callC (callOf x)) ⟨lo', H⟩) → WCI C (emitOf C elt []) t [] (xs.map .int) ⟨lo, H⟩ acc Q := by
  (refine el_1_0 ht fun p0 xEl1 => ?_; try clear ht; obtain rfl := xEl1)
  (refine el_3_0 he fun p1 p2 p3 xEl3 => ?_; try clear he; obtain rfl := xEl3)
  intro xs
  induction xs with
  | nil => intro acc lo _ q; have := q lo; simpa [WCI] using this
  | cons x xs ih =>
    intro acc lo hl q
    simp only [List.length_cons] at hl
    refine WA.name ok (by rw [hkp]; rfl) ?_
    refine WE.call ok (WE.glob ok L.g (v := .ref fa3) rfl (in_1_2 _ rfl (KpOk.ref ?_) (WE.name ok.fun_ (v := .int x) rfl (L.call ok ⟨by simp; omega, ?_⟩) (by rw [hkp]; rfl))) hkl)
    · (refine el_1_0 L.f3 fun fd l => ?_); exact l.keep
    refine ih (acc ++ [callC (callOf x)]) _ (by simp; omega) fun lo' => ?_
    have := q lo'
    simpa using this
end
end Mine
open PySem PySem.W PySem.Calls PyProof.Rows
set_option Elab.async false
set_option linter.all false
set_option maxRecDepth 100000
set_option genSizeOf false
namespace Mine
noncomputable def rowCs (r : List Int) : List (Int × List Str × Int) := r.map callOf
noncomputable def rowC (cs : List (Int × List Str × Int)) : CV := .lst (cs.map callC)
section
variable {C C' : Cx} {dep : Nat} {H : CH} {cl fa3 fa4 fa5 : Addr}

theorem rowsCalls_W {elt t : Expr} {Q : List CV → CSt → Prop} (ok : C.Ok (dep + 1)) (L : LCtx C cl fa3 fa4 fa5) (hkp : C.env.kindOf "row" = some .local)
    (e : ∃ tx it sc p p2, nth (bodyOf (lawF 6)) 1 = .Assign [tx] (.ListComp elt [⟨t, it, [], 0⟩] sc p) p2) :
    ∀ (rs : List (List Int)) (acc : List CV) (lo : Str → Option CV), acc.length + rs.length ≤ 10000 → (∀ r ∈ rs, r.length ≤ 1000) → (∀ lo', Q (acc ++ rs.map fun r => rowC (rowCs r)) ⟨lo', H⟩) → WCI C (emitOf C elt []) t [] (rs.map fun r => .lst (r.map .int)) ⟨lo, H⟩ acc Q := by
  apply compE1 (elt := elt) (t := t) e
  intro rs
  induction rs with
  | nil => intro acc lo _ _ q; have := q lo; simpa [WCI] using this
  | cons r rs ih =>
    intro acc lo hl hr q
    simp only [List.length_cons] at hl
    have hr1 := hr r List.mem_cons_self
    refine WA.name ok (by rw [hkp]; rfl) ?_
    refine WE.comp ok (WE.name ok.fun_ (v := .lst (r.map .int)) rfl (in_1_1 _ IterOf.lst (fun C' ok' s hsc => ?_)) (by rw [hkp]; rfl)) (by rfl)
    have kx : ∀ y, C'.env.kindOf y = _ := fun y => by unfold Env.kindOf; rw [hsc, relabel_lookup]
    refine rowCalls_W (dep := dep) ok' (L.same s) (by rw [kx]; rfl) (by rw [kx]; rfl) (in_1_0 _ rfl) (in_3_0 _ _ _ rfl) r [] _ (by simp; (exact Nat.le_trans (by assumption) (by decide))) fun lo' => ⟨fun y hy => by have := mem_of_lookupK hy; simp at this, .inl ⟨by simp; omega, ?_⟩⟩
    rw [show CV.lst ([] ++ List.map (fun x => callC (callOf x)) r) = rowC (rowCs r) by simp [rowC, rowCs]]
    refine ih (acc ++ [rowC (rowCs r)]) _ (by simp; omega) (fun r' h' => hr r' (List.mem_cons_of_mem _ h')) fun lo' => ?_
    have := q lo'
    simpa using this

theorem calls_W {Q : CF → CSt → Prop} {lo : Str → Option CV} {rs : List (List Int)} (ok : C.Ok (dep + 1)) (hk : HK C (scopeOf (lawF 6))) (L : LCtx C cl fa3 fa4 fa5) (hn : rs.length ≤ 100) (hr : ∀ r ∈ rs, r.length ≤ 1000) (h1 : lo "rows" = some (.lst (rs.map fun r => .lst (r.map .int))))
    (h : Q .next ⟨lput lo "rows" (.lst (rs.map fun r => rowC (rowCs r))), H⟩) : WS C (nth (bodyOf (lawF 6)) 1) ⟨lo, H⟩ Q := by
  refine WS.assignComp ok (WE.nm ok hk h1 (in_1_1 _ IterOf.lst (fun C' ok' s hsc => ?_))) (by rfl) (by rw [hk]; rfl) ?_
  · have kx : ∀ y, C'.env.kindOf y = _ := fun y => by unfold Env.kindOf; rw [hsc, relabel_lookup]
    refine rowsCalls_W (dep := dep) ok' (L.same s) (by rw [kx]; rfl) (in_5_0 _ _ _ _ _ rfl) rs [] _ (by simp; (exact Nat.le_trans (by assumption) (by decide))) hr fun lo' => ⟨fun y hy => by have := mem_of_lookupK hy; simp at this, .inl ?_⟩
    simpa using h
  · have k1 : C.env.kindOf "rows" = some .local := by rw [hk]; rfl
    have k3 : C.env.blockKind = .function := blockKind_of ok
    unfold swapsWith
    dsimp only
    rewrite [k1, k3]
    rfl

/-- the ways, one beginning more -/
noncomputable def wstep (ways : List (List Str)) (q : List Str) : List (List Str) := ways ++ [q, q ++ [("b.a" : Str)]].filter (fun w => !decide (w ∈ ways))
noncomputable def wsteps (ways : List (List Str)) (qs : List (List Str)) : List (List Str) := qs.foldl wstep ways
noncomputable def begins (way : List Str) : List (List Str) := (List.range (way.length + 1)).map way.take
noncomputable def waysOf (cs : List (Int × List Str × Int)) : List (List Str) := wsteps [] (cs.flatMap fun c => begins c.2.1)

theorem any_ceq {ways : List (List Str)} {q : List Str} : (ways.map wcv).any (fun c => ceq c (wcv q)) = decide (q ∈ ways) := by
  rw [Bool.eq_iff_iff, List.any_eq_true, decide_eq_true_eq]
  constructor
  · rintro ⟨c, hc, h⟩
    (refine el_1_1 (List.mem_map.mp hc) fun p hp xEl2 => ?_; obtain rfl := xEl2)
    rw [ceq_wcv, decide_eq_true_eq] at h
    exact h ▸ hp
  · intro h
    exact (in_1_1 (wcv q) (List.mem_map_of_mem h) (by rw [ceq_wcv]; exact decide_eq_true rfl))
end
end Mine
open PySem PySem.W PySem.Calls PyProof.Rows
set_option Elab.async false
set_option linter.all false
set_option maxRecDepth 100000
set_option genSizeOf false
namespace Mine
theorem hput_hput {H : CH} {a : Addr} {c d : CO} : hput (hput H a c) a d = hput H a d := by
  funext b; unfold hput; by_cases h : b = a <;> simp [h]
theorem wsteps_append {ways : List (List Str)} {a b : List (List Str)} : wsteps ways (a ++ b) = wsteps (wsteps ways a) b := List.foldl_append
theorem wstep_length {ways : List (List Str)} {q : List Str} : (wstep ways q).length ≤ ways.length + 2 := by
  unfold wstep
  rw [List.length_append]
  have := List.length_filter_le (fun w => !decide (w ∈ ways)) [q, q ++ [("b.a" : Str)]]
  simp only [List.length_cons, List.length_nil] at this
  omega
theorem wsteps_length : ∀ {qs : List (List Str)} {ways : List (List Str)}, (wsteps ways qs).length ≤ ways.length + 2 * qs.length
  | [], ways => by simp [wsteps]
  | q :: qs, ways => by
    have h1 := wsteps_length (qs := qs) (ways := wstep ways q)
    have h2 := wstep_length (ways := ways) (q := q)
    show (wsteps (wstep ways q) qs).length ≤ _
    simp only [List.length_cons]; omega

section
variable {C C' : Cx} {dep : Nat} {H : CH} {cl fa3 fa4 fa5 : Addr}

theorem notIn_W {elt t : Expr} {ifs : List Expr} {ways : List (List Str)} {W : Addr} {Q : List CV → CSt → Prop} (ok : C.Ok dep) (hkw : ownKind (C.env.kindOf "ways") = true) (hkp : C.env.kindOf "w" = some .local) (hok : ∀ q ∈ ways, q.all PyData.strOk = true) (hH : H W = some (.list (ways.map wcv)))
    (ht : ∃ p, t = .Name "w" p) (he : ∃ p, elt = .Name "w" p) (hi : ∃ p1 p2 p3, ifs = [.Compare (.Name "w" p1) [.NotIn] [.Name "ways" p2] p3]) :
    ∀ (qs : List (List Str)) (acc : List CV) (lo : Str → Option CV), acc.length + qs.length ≤ 10000 → (∀ q ∈ qs, q.all PyData.strOk = true) → lo "ways" = some (.loc W) → (∀ lo', lo' "ways" = some (.loc W) → Q (acc ++ (qs.filter fun w => !decide (w ∈ ways)).map wcv) ⟨lo', H⟩) →
      WCI C (emitOf C elt []) t ifs (qs.map wcv) ⟨lo, H⟩ acc Q := by
  (refine el_1_0 ht fun p0 xEl1 => ?_; try clear ht; obtain rfl := xEl1)
  (refine el_1_0 he fun p1 xEl1 => ?_; try clear he; obtain rfl := xEl1)
  (refine el_3_0 hi fun p2 p3 p4 xEl3 => ?_; try clear hi; obtain rfl := xEl3)
  intro qs
  induction qs with
  | nil => intro acc lo _ _ hw q; have := q lo hw; simpa [WCI] using this
  | cons x qs ih =>
    intro acc lo hl hqs hw q
    simp only [List.length_cons] at hl
    have hx := hqs x List.mem_cons_self
    refine WA.name ok (by rw [hkp]; rfl) (WT.cmp1 (WE.name ok.fun_ (v := wcv x) rfl (WE.name ok.fun_ (v := .loc W) hw (W2.notInLoc ok hH (isPys_wcv hok) (isPy_wcv hx) (depth_wcv x) (Wtr.bool ?_)) hkw) (by rw [hkp]; rfl)))
    rw [any_ceq]
    have ih' := fun acc' h => ih acc' (lput lo "w" (wcv x)) h (fun r hr => hqs r (List.mem_cons_of_mem _ hr)) hw
    by_cases hm : x ∈ ways
    · refine cB (fun h => by simp [hm] at h) fun _ => cF ?_
      refine ih' acc (by (exact Nat.le_of_lt (by assumption))) fun lo' hw' => ?_
      have := q lo' hw'
      simpa [hm] using this
    · refine cB (fun _ => ?_) fun h => by simp [hm] at h
      refine WE.name ok.fun_ (v := wcv x) rfl ⟨by omega, ?_⟩ (by rw [hkp]; rfl)
      refine ih' (acc ++ [wcv x]) (by simp; omega) fun lo' hw' => ?_
      have := q lo' hw'
      simpa [hm] using this

theorem beginLoop_W {t : Expr} {body : List Stmt} {Q : CF → CSt → Prop} {W : Addr} {way : List Str} (ok : C.Ok dep) (hk : HK C (scopeOf (lawF 6))) (hwl : way.length ≤ 100) (hwo : way.all PyData.strOk = true)
    (e : ∃ t1 it o p it2 o2 p2, nth (bodyOf (lawF 6)) 3 = .For t1 it [.For t it2 body o2 p2] o p) :
    ∀ (m k : Nat) (ways : List (List Str)) (lo : Str → Option CV), k + m = way.length + 1 → ways.length + 2 * m ≤ 100000 → (∀ q ∈ ways, q.all PyData.strOk = true) → lo "ways" = some (.loc W) → lo "way" = some (wcv way) →
      (∀ lo', lo' "ways" = some (.loc W) → (∀ y : Str, y ≠ "k" → lo' y = lo y) → Q .next ⟨lo', hput H W (.list ((wsteps ways ((List.range' k m).map way.take)).map wcv))⟩) →
      WFor C t body [] ((List.range' k m).map fun i => CV.int (i : Nat)) ⟨lo, hput H W (.list (ways.map wcv))⟩ Q := by
  apply forE2 (t := t) (body := body) e
  intro m
  induction m with
  | zero => intro k ways lo _ _ _ h1 h2 q; exact WSs.nil (q lo h1 fun _ _ => rfl)
  | succ m ih =>
    intro k ways lo hkm hl hok h1 h2 q
    have hkl : k ≤ way.length := by omega
    have hup : ((way.map CV.str)).take (upk (way.map CV.str).length (k : Int)) = (way.take k).map CV.str := by
      unfold upk
      rw [if_neg (by omega), List.map_take]
      congr 1
      simp; omega
    have htok : (way.take k).all PyData.strOk = true := by
      rw [List.all_eq_true] at hwo ⊢
      exact fun x hx => hwo x (List.mem_of_mem_take hx)
    have htok2 : (way.take k ++ [("b.a" : Str)]).all PyData.strOk = true := by
      rw [List.all_append, htok]; decide +kernel
    rw [List.range'_succ, List.map_cons]
    refine WA.nm ok hk ?_
    refine WSs.cons (WS.expr ok (WE.meth ok (WE.nm ok hk (v := .loc W) h1 (in_1_2 _ KpOk.builtin (WMeth.listLoc (cs := ways.map wcv) (by show hput H W _ W = _; simp) PySem.F.slot_list_extend PySem.F.type_list_extend) ?_))))
    refine WE.comp ok (WE.listF (WE.slice (WE.nm ok hk h2 (WE.nm ok hk rfl (in_1_1 _ rfl (WSl.tupTo (by simp; (exact Nat.le_trans (by assumption) (by decide))) (WE.binop (WE.slice (WE.nm ok hk h2 (WE.nm ok hk rfl (in_1_1 _ rfl (WSl.tupTo (by simp; (exact Nat.le_trans (by assumption) (by decide))) (WE.tuple (WE.str ⟨by decide, W2.addT ?_ (in_0_1 (by simp) (in_1_1 _ IterOf.lst (fun C' ok' s hsc => ?_)))⟩)))))))))))))) ?_
    · have := upk_le (way.map CV.str).length (k : Int); simp at this ⊢; omega
    · have kx : ∀ y, C'.env.kindOf y = _ := fun y => by unfold Env.kindOf; rw [hsc, relabel_lookup]
      have e1 : [CV.tup ((way.map CV.str).take (upk (way.map CV.str).length (k : Int))), CV.tup ((way.map CV.str).take (upk (way.map CV.str).length (k : Int)) ++ [CV.str "b.a"])] = [way.take k, way.take k ++ [("b.a" : Str)]].map wcv := by
        rw [hup]; simp [wcv]
      rw [e1]
      refine notIn_W (W := W) (ways := ways) ok' ?_ (by rw [kx]; rfl) hok hput_self (in_1_0 _ rfl) (in_1_0 _ rfl) (in_3_0 _ _ _ rfl) _ [] _ (by simp) (fun q hq => ?_) h1 fun lo' hw' => ⟨fun y hy => ?_, .inl ?_⟩
      · rw [kx, hk, ok.fun_]; rfl
      · rcases List.mem_cons.mp hq with rfl | hq
        · exact htok
        · rw [List.mem_singleton.mp hq]; exact htok2
      · have := mem_of_lookupK hy
        simp at this
        subst this
        exact hw'.trans h1.symm
      · have e2 : ways.map wcv ++ ([] ++ ([way.take k, way.take k ++ [("b.a" : Str)]].filter fun w => !decide (w ∈ ways)).map wcv) = (wstep ways (way.take k)).map wcv := by
          unfold wstep; simp
        have hws := wstep_length (ways := ways) (q := way.take k)
        have hmap := congrArg List.length e2
        refine WCall.extend (cs := ways.map wcv) hput_self ?_ ⟨rfl, ?_⟩
        · rw [List.length_append, List.length_map, List.length_map] at hmap; rw [List.length_map]; omega
        · rw [e2]
          show WSs C [] ⟨_, hput (hput H W _) W _⟩ _
          rw [hput_hput]
          refine WSs.nil (ih (k + 1) (wstep ways (way.take k)) _ (by omega) (by omega) (fun q hq => ?_) h1 h2 fun lo2 w2 w3 => ?_)
          · unfold wstep at hq
            rcases List.mem_append.mp hq with hq | hq
            · exact hok q hq
            · rcases List.mem_cons.mp (List.mem_filter.mp hq).1 with rfl | hq
              · exact htok
              · rw [List.mem_singleton.mp hq]; exact htok2
          · have := q lo2 w2 fun y hy => by rw [w3 y hy]; simp [CSt.put, lput, hy]
            rw [List.range'_succ, List.map_cons] at this
            exact this
    · have hw : C.env.kindOf "ways" = some .cell := by rw [hk]; rfl
      simp only [List.all_cons, List.all_nil, hw]
      rfl
end
end Mine
open PySem PySem.W PySem.Calls PyProof.Rows
set_option Elab.async false
set_option linter.all false
set_option maxRecDepth 100000
set_option genSizeOf false
namespace Mine
theorem begins_range' (way : List Str) : (List.range' 0 (way.length + 1)).map way.take = begins way := by unfold begins; rw [List.range_eq_range']
theorem begins_length (way : List Str) : (begins way).length = way.length + 1 := by simp [begins]
/-- a call's way is short and of fit names -/
noncomputable def cway (c : Int × List Str × Int) : Prop := c.2.1.length ≤ 3 ∧ ∀ k ∈ c.2.1, k ∈ fnames
theorem fnames_ok : ∀ k ∈ fnames, PyData.strOk k = true := by decide +kernel
theorem cway.ok {c : Int × List Str × Int} (h : cway c) : c.2.1.all PyData.strOk = true := List.all_eq_true.mpr fun k hk => fnames_ok k (h.2 k hk)
theorem wstep_all {P : List Str → Prop} {ways : List (List Str)} {q : List Str} (h : ∀ p ∈ ways, P p) (h1 : P q) (h2 : P (q ++ [("b.a" : Str)])) : ∀ p ∈ wstep ways q, P p := fun p hp => by
  unfold wstep at hp
  rcases List.mem_append.mp hp with hp | hp
  · exact h p hp
  · rcases List.mem_cons.mp (List.mem_filter.mp hp).1 with rfl | hp
    · exact h1
    · rw [List.mem_singleton.mp hp]; exact h2
theorem wsteps_all {P : List Str → Prop} : ∀ {qs : List (List Str)} {ways : List (List Str)}, (∀ p ∈ ways, P p) → (∀ q ∈ qs, P q ∧ P (q ++ [("b.a" : Str)])) → ∀ p ∈ wsteps ways qs, P p
  | [], ways, h, _ => h
  | q :: qs, ways, h, hq => wsteps_all (qs := qs) (wstep_all h (hq q List.mem_cons_self).1 (hq q List.mem_cons_self).2) fun r hr => hq r (List.mem_cons_of_mem _ hr)
theorem begins_ok {way : List Str} (h : way.all PyData.strOk = true) : ∀ q ∈ begins way, q.all PyData.strOk = true ∧ (q ++ [("b.a" : Str)]).all PyData.strOk = true := fun q hq => by
  (refine el_1_1 (List.mem_map.mp hq) fun k _ xEl2 => ?_; obtain rfl := xEl2)
  have : (way.take k).all PyData.strOk = true := by
    rw [List.all_eq_true] at h ⊢
    exact fun x hx => h x (List.mem_of_mem_take hx)
  refine ⟨this, ?_⟩
  rw [List.all_append, this]; decide +kernel

section
variable {C C' : Cx} {dep : Nat} {H : CH} {cl fa3 fa4 fa5 : Addr}

theorem waysLoop_W {t : Expr} {body : List Stmt} {Q : CF → CSt → Prop} {W : Addr} (ok : C.Ok dep) (hk : HK C (scopeOf (lawF 6))) (hg : GOk C [("len", .builtin "len"), ("range", .type "range")])
    (e : ∃ it o p, nth (bodyOf (lawF 6)) 3 = .For t it body o p) :
    ∀ (cs : List (Int × List Str × Int)) (ways : List (List Str)) (lo : Str → Option CV), (∀ c ∈ cs, cway c) → ways.length + 8 * cs.length ≤ 10000 → (∀ q ∈ ways, q.all PyData.strOk = true) → lo "ways" = some (.loc W) →
      (∀ lo', lo' "ways" = some (.loc W) → lo' "rows" = lo "rows" → Q .next ⟨lo', hput H W (.list ((wsteps ways (cs.flatMap fun c => begins c.2.1)).map wcv))⟩) →
      WFor C t body [] (cs.map callC) ⟨lo, hput H W (.list (ways.map wcv))⟩ Q := by
  apply forE (t := t) (body := body) e
  intro cs
  induction cs with
  | nil => intro ways lo _ _ _ h1 q; exact WSs.nil (q lo h1 rfl)
  | cons c cs ih =>
    intro ways lo hc hl hok h1 q
    have hc1 := hc c List.mem_cons_self
    simp only [List.length_cons] at hl
    obtain ⟨c1, c2, c3⟩ := c
    have hcl : c2.length ≤ 3 := hc1.1
    rw [List.map_cons]
    refine WA.tuple (vs := [.int c1, .tup (c2.map .str), .int c3]) ok rfl (WA.nm ok hk (WA.nm ok hk (WA.nm ok hk ?_)))
    refine WSs.cons (WS.for_ ok (WE.call ok (WE.glob ok hg (v := .type "range") rfl (in_1_2 _ rfl KpOk.type (WE.binop (WE.call ok (WE.glob ok hg (v := .builtin "len") rfl (in_1_2 _ rfl KpOk.builtin (WE.nm ok hk rfl (WCall.lenT (by simp; (exact Nat.le_trans (by assumption) (by decide))) (WE.int (W2.addI (WCall.range1 (in_1_1 _ (IterOf.rng (by decide) (by simp <;> omega)) ?_))))))) (by rw [hk]; rfl))))) (by rw [hk]; rfl))))
    have er : rints 0 (((c2.map CV.str).length : Int) + 1) = (List.range' 0 (c2.length + 1)).map fun i => CV.int (i : Nat) := by
      have : ((c2.length : Int) + 1 - 0).toNat = c2.length + 1 := by rfl
      simp [rints, List.range_eq_range', this]
    rw [er]
    refine beginLoop_W (W := W) (way := c2) ok hk (by (exact Nat.le_trans (by assumption) (by decide))) hc1.ok (in_7_0 _ _ _ _ _ _ _ rfl) (c2.length + 1) 0 ways _ (by (exact Nat.add_comm _ _)) (by omega) hok h1 rfl fun lo2 w2 w3 => ?_
    rw [begins_range']
    have hlen := wsteps_length (qs := begins c2) (ways := ways)
    rw [begins_length] at hlen
    refine WSs.nil (ih (wsteps ways (begins c2)) lo2 (fun c h => hc c (List.mem_cons_of_mem _ h)) (by omega) (wsteps_all hok (begins_ok hc1.ok)) w2 fun lo3 k1 k2 => ?_)
    have := q lo3 k1 (by rw [k2, w3 _ (by decide)]; rfl)
    rw [List.flatMap_cons, wsteps_append] at this
    exact this

/-- the ways of all calls -/
theorem ways_W {Q : CF → CSt → Prop} {W : Addr} {lo : Str → Option CV} {a b c : List (Int × List Str × Int)} (ok : C.Ok dep) (hk : HK C (scopeOf (lawF 6))) (hg : GOk C [("len", .builtin "len"), ("range", .type "range")])
    (hc : ∀ x ∈ a ++ b ++ c, cway x) (hl : (a ++ b ++ c).length ≤ 1000) (h1 : lo "ways" = some (.loc W)) (h2 : lo "rows" = some (.lst [rowC a, rowC b, rowC c]))
    (h : ∀ lo', lo' "ways" = some (.loc W) → lo' "rows" = some (.lst [rowC a, rowC b, rowC c]) → Q .next ⟨lo', hput H W (.list ((waysOf (a ++ b ++ c)).map wcv))⟩) : WS C (nth (bodyOf (lawF 6)) 3) ⟨lo, hput H W (.list [])⟩ Q := by
  have hl' := hl
  simp only [List.length_append] at hl'
  refine WS.for_ ok (WE.binop (WE.binop (WE.sub (WE.nm ok hk h2 (WE.int (W2.itL0 (WE.sub (WE.nm ok hk h2 (WE.int (W2.itL1 ?_))))))))))
  refine W2.addL (by simp; omega) (WE.sub (WE.nm ok hk h2 (WE.int (W2.itL2 (W2.addL (by simp; (exact Nat.le_trans (by assumption) (by decide))) (in_1_1 _ IterOf.lst ?_))))))
  rw [← List.map_append, ← List.map_append]
  exact waysLoop_W ok hk hg (in_3_0 _ _ _ rfl) (a ++ b ++ c) [] lo hc (by simp; omega) (fun q hq => by cases hq) h1 fun lo' k1 k2 => h lo' k1 (k2.trans h2)
end
end Mine
open PySem PySem.W PySem.Calls PyProof.Rows
set_option Elab.async false
set_option linter.all false
set_option maxRecDepth 100000
set_option genSizeOf false
namespace Mine
/-- Flags objects that stand apart, and lists beside them -/
structure World (H : CH) (cl : Addr) (fs : List (Addr × FO × MS)) (ps : List (Addr × CO)) : Prop where
  fm : ∀ f ∈ fs, FM H cl f.1 f.2.1 f.2.2
  apart : fs.Pairwise fun f g => ∀ a, f.2.1 a ≠ none → g.2.1 a = none
  cell : ∀ p ∈ ps, H p.1 = some p.2
  nd : (ps.map (·.1)).Nodup
  out : ∀ f ∈ fs, ∀ p ∈ ps, f.2.1 p.1 = none
section
variable {H H' : CH} {cl : Addr} {fs : List (Addr × FO × MS)} {ps : List (Addr × CO)}
theorem FM.owned {x a : Addr} {ow : FO} {m : MS} (F : FM H cl x ow m) (h : ow a ≠ none) : H a ≠ none := by
  (revert F; intro hfEl; refine el_3_1 hfEl fun d pa N F _ => ?_; try clear hfEl)
  have := F.owH a (by cases q : ow a with | none => exact absurd q h | some _ => rfl)
  intro e; rw [e] at this; cases this
theorem World.keep (w : World H cl fs ps) (K : ∀ b, H b ≠ none → H' b = H b) : World H' cl fs ps := by
  have K' : FK H H' (fun _ => none) (fun _ => none) := ⟨fun a _ h => ⟨K a h, rfl⟩, fun a h => absurd rfl h, fun a _ h => absurd rfl h⟩
  exact ⟨fun f hf => ((w.fm f hf).keep K' fun _ _ => rfl).1, w.apart, fun p hp => by rw [K p.1 (by rw [w.cell p hp]; simp)]; exact w.cell p hp, w.nd, w.out⟩
theorem pairwise_set {α : Type} {R : α → α → Prop} : ∀ {l : List α} {i : Nat} {a b : α}, l.Pairwise R → l[i]? = some a → (∀ c ∈ l, R c a → R c b) → (∀ c ∈ l, R a c → R b c) → (l.set i b).Pairwise R
  | x :: l, 0, a, b, h, e, h1, h2 => by
    simp at e; subst e
    rw [List.pairwise_cons] at h
    rw [List.set_cons_zero, List.pairwise_cons]
    exact ⟨fun c hc => h2 c (List.mem_cons_of_mem _ hc) (h.1 c hc), h.2⟩
  | x :: l, i + 1, a, b, h, e, h1, h2 => by
    simp at e
    rw [List.pairwise_cons] at h
    rw [List.set_cons_succ, List.pairwise_cons]
    refine ⟨fun c hc => ?_, pairwise_set h.2 e (fun c hc => h1 c (List.mem_cons_of_mem _ hc)) fun c hc => h2 c (List.mem_cons_of_mem _ hc)⟩
    rcases List.mem_or_eq_of_mem_set hc with hc | rfl
    · exact h.1 c hc
    · exact h1 x List.mem_cons_self (h.1 a (List.mem_of_getElem? e))
/-- a call upon one of them -/
theorem World.call {i : Nat} {x : Addr} {ow ow' : FO} {m m' : MS} (w : World H cl fs ps) (hi : fs[i]? = some (x, ow, m)) (F : FM H' cl x ow' m') (K : FK H H' ow ow') : World H' cl (fs.set i (x, ow', m')) ps := by
  have hlt := (List.getElem?_eq_some_iff.mp hi).1
  have hm : (x, ow, m) ∈ fs := List.mem_of_getElem? hi
  have other : ∀ j (hj : j < fs.length), j ≠ i → ∀ a, fs[j].2.1 a ≠ none → ow a = none := fun j hj hji a ha => by
    have hii := (List.getElem?_eq_some_iff.mp hi).2
    have P := List.pairwise_iff_getElem.mp w.apart
    rcases Nat.lt_or_gt_of_ne hji with h | h
    · have := P j i hj hlt h a ha; rw [hii] at this; exact this
    · have := P i j hlt hj h a
      rw [hii] at this
      cases q : ow a with
      | none => rfl
      | some v => exact absurd (this (by show ow a ≠ none; rw [q]; simp)) ha
  refine ⟨fun f hf => ?_, ?_, fun p hp => ?_, w.nd, fun f hf p hp => ?_⟩
  · (refine el_1_0 (List.getElem_of_mem hf) fun j rEl => ?_; (refine el_1_0 rEl fun hj e => ?_; try clear rEl))
    have hj' : j < fs.length := by simpa using hj
    by_cases hji : i = j
    · subst hji; simp at e; subst e; exact F
    · rw [List.getElem_set, if_neg hji] at e
      subst e
      exact ((w.fm _ (List.getElem_mem hj')).keep K (other j hj' (Ne.symm hji))).1
  · rw [List.pairwise_iff_getElem]
    intro j k hj hk hjk a ha
    have hj' : j < fs.length := by simpa using hj
    have hk' : k < fs.length := by simpa using hk
    by_cases h1 : i = j
    · subst h1
      rw [List.getElem_set, if_neg (by (exact Nat.ne_of_lt (by assumption)))]
      simp at ha
      cases q : fs[k].2.1 a with
      | none => rfl
      | some v =>
        have hne : fs[k].2.1 a ≠ none := by rw [q]; simp
        have := ((w.fm _ (List.getElem_mem hk')).keep K (other k hk' (by (exact Nat.ne_of_gt (by assumption))))).2 a hne
        exact absurd this ha
    · rw [List.getElem_set, if_neg h1] at ha
      by_cases h2 : i = k
      · subst h2
        simp
        exact ((w.fm _ (List.getElem_mem hj')).keep K (other j hj' (by (exact Nat.ne_of_lt (by assumption))))).2 a ha
      · rw [List.getElem_set, if_neg h2]
        exact List.pairwise_iff_getElem.mp w.apart j k hj' hk' hjk a ha
  · rw [(K.same p.1 (w.out _ hm p hp) (by rw [w.cell p hp]; simp)).1]; exact w.cell p hp
  · rcases List.mem_or_eq_of_mem_set hf with hf | rfl
    · exact w.out f hf p hp
    · exact (K.same p.1 (w.out _ hm p hp) (by rw [w.cell p hp]; simp)).2
/-- one more -/
theorem World.flags {x : Addr} {ow : FO} {m : MS} (w : World H cl fs ps) (F : FM H' cl x ow m) (K : FK H H' (fun _ => none) ow) : World H' cl (fs ++ [(x, ow, m)]) ps := by
  refine ⟨fun f hf => ?_, ?_, fun p hp => ?_, w.nd, fun f hf p hp => ?_⟩
  · rcases List.mem_append.mp hf with hf | hf
    · exact ((w.fm f hf).keep K fun _ _ => rfl).1
    · rw [List.mem_singleton.mp hf]; exact F
  · rw [List.pairwise_append]
    refine (in_0_2 w.apart (List.pairwise_singleton _ _) (fun f hf g hg a ha => ?_))
    rw [List.mem_singleton.mp hg]
    exact ((w.fm f hf).keep K fun _ _ => rfl).2 a ha
  · rw [(K.same p.1 rfl (by rw [w.cell p hp]; simp)).1]; exact w.cell p hp
  · rcases List.mem_append.mp hf with hf | hf
    · exact w.out f hf p hp
    · rw [List.mem_singleton.mp hf]
      exact (K.same p.1 rfl (by rw [w.cell p hp]; simp)).2
/-- one more list -/
theorem World.add {a : Addr} {c : CO} (w : World H cl fs ps) (ha : H a = none) : World (hput H a c) cl fs (ps ++ [(a, c)]) := by
  have w' : World (hput H a c) cl fs ps := w.keep fun b hb => hput_ne fun e => hb (e ▸ ha)
  have hap : a ∉ ps.map (·.1) := fun h => by
    (refine el_1_1 (List.mem_map.mp h) fun p hp xEl2 => ?_; obtain rfl := xEl2)
    rw [w.cell p hp] at ha; cases ha
  refine ⟨w'.fm, w.apart, fun p hp => ?_, ?_, fun f hf p hp => ?_⟩
  · rcases List.mem_append.mp hp with hp | hp
    · exact w'.cell p hp
    · rw [List.mem_singleton.mp hp]; exact hput_self
  · rw [List.map_append, List.nodup_append]
    exact (in_0_2 w.nd (by simp) (fun x hx y hy => by simp at hy; subst hy; exact fun e => hap (e ▸ hx)))
  · rcases List.mem_append.mp hp with hp | hp
    · exact w.out f hf p hp
    · rw [List.mem_singleton.mp hp]
      cases q : f.2.1 a with
      | none => rfl
      | some v => exact absurd ha ((w.fm f hf).owned (by rw [q]; simp))
/-- a list is turned -/
theorem World.put {i : Nat} {a : Addr} {c c' : CO} (w : World H cl fs ps) (hi : ps[i]? = some (a, c)) : World (hput H a c') cl fs (ps.set i (a, c')) := by
  have hlt := (List.getElem?_eq_some_iff.mp hi).1
  have hii := (List.getElem?_eq_some_iff.mp hi).2
  have hm : (a, c) ∈ ps := List.mem_of_getElem? hi
  have hmap : (ps.set i (a, c')).map (·.1) = ps.map (·.1) := by
    rw [List.map_set]
    apply List.ext_getElem (by simp)
    intro j h1 h2
    rw [List.getElem_set]
    split
    · rename_i e; subst e; simp [hii]
    · rfl
  refine ⟨fun f hf => ?_, w.apart, fun p hp => ?_, by rw [hmap]; exact w.nd, fun f hf p hp => ?_⟩
  · have hne : ∀ b, f.2.1 b ≠ none → b ≠ a := fun b hb e => by subst e; exact hb (w.out f hf _ hm)
    have K : FK H (hput H a c') (fun b => if b = a then some ([], 0) else none) (fun b => if b = a then some ([], 0) else none) := by
      refine ⟨fun b h1 _ => ?_, fun _ _ => rfl, fun b h1 h2 => absurd h1 h2⟩
      by_cases e : b = a
      · simp [e] at h1
      · exact ⟨hput_ne e, by assumption⟩
    exact ((w.fm f hf).keep K fun b hb => by simp [hne b hb]).1
  · by_cases e : p.1 = a
    · (refine el_1_0 (List.getElem_of_mem hp) fun j rEl => ?_; (refine el_1_0 rEl fun hj hp' => ?_; try clear rEl))
      have hj' : j < ps.length := by simpa using hj
      by_cases hji : i = j
      · subst hji; simp at hp'; rw [← hp']; exact hput_self
      · exfalso
        rw [List.getElem_set, if_neg hji] at hp'
        have h1 : (ps.map (·.1))[j]'(by simpa using hj') = (ps.map (·.1))[i]'(by simpa using hlt) := by simp [hp', hii, e]
        rcases Nat.lt_or_gt_of_ne hji with h | h
        · exact (List.pairwise_iff_getElem.mp w.nd i j (by simpa using hlt) (by simpa using hj') h) h1.symm
        · exact (List.pairwise_iff_getElem.mp w.nd j i (by simpa using hj') (by simpa using hlt) h) h1
    · rw [hput_ne e]
      (refine el_1_0 (List.getElem_of_mem hp) fun j rEl => ?_; (refine el_1_0 rEl fun hj hp' => ?_; try clear rEl))
      by_cases hji : i = j
      · subst hji; simp at hp'; exact absurd (by rw [← hp']) e
      · rw [List.getElem_set, if_neg hji] at hp'
        exact w.cell p (hp' ▸ List.getElem_mem _)
  · have : p.1 ∈ ps.map (·.1) := by rw [← hmap]; exact List.mem_map_of_mem hp
    (refine el_1_1 (List.mem_map.mp this) fun r hr e => ?_)
    rw [← e]; exact w.out f hf r hr
theorem World.init (H : CH) (cl : Addr) : World H cl [] [] := ⟨fun f hf => (by cases hf), List.Pairwise.nil, fun p hp => (by cases hp), List.nodup_nil, fun f hf => (by cases hf)⟩
end
end Mine
open PySem PySem.W PySem.Calls PyProof.Rows
set_option Elab.async false
set_option linter.all false
set_option maxRecDepth 100000
set_option genSizeOf false
namespace Mine
theorem zero_tell : MS.zero.tell = fun _ _ => false := by
  funext q g
  simp [MS.tell, MS.zero]
section
variable {C C' : Cx} {dep : Nat} {H : CH} {cl fa3 fa4 fa5 : Addr}

theorem dueRow_W {elt t : Expr} {Q : List CV → CSt → Prop} (ok : C.Ok dep) (hkp : C.env.kindOf "way" = some .local) (ht : ∃ p, t = .Name "way" p) (he : ∃ k1 p1 k2 p2 p3, elt = .List [.Constant (.bool false) k1 p1, .Constant (.bool false) k2 p2] p3) :
    ∀ (qs : List (List Str)) (acc : List CV) (lo : Str → Option CV), acc.length + qs.length ≤ 100000 → (∀ lo', (∀ y : Str, y ≠ "way" → lo' y = lo y) → Q (acc ++ qs.map fun q => .lst (row (fun _ _ => false) q)) ⟨lo', H⟩) → WCI C (emitOf C elt []) t [] (qs.map wcv) ⟨lo, H⟩ acc Q := by
  (refine el_1_0 ht fun p0 xEl1 => ?_; try clear ht; obtain rfl := xEl1)
  (refine el_5_0 he fun k1 p1 k2 p2 p3 xEl5 => ?_; try clear he; obtain rfl := xEl5)
  intro qs
  induction qs with
  | nil => intro acc lo _ q; have := q lo fun _ _ => rfl; simpa [WCI] using this
  | cons x qs ih =>
    intro acc lo hl q
    simp only [List.length_cons] at hl
    refine WA.name ok (by rw [hkp]; rfl) ?_
    refine WE.listF (WE.bool (WE.bool (in_0_2 (by decide) (by omega) ?_)))
    refine ih (acc ++ [.lst (row (fun _ _ => false) x)]) _ (by simp; omega) fun lo' h' => ?_
    have := q lo' fun y hy => by rw [h' y hy]; simp [CSt.put, lput, hy]
    simpa using this

theorem dueRows_W {elt t : Expr} {ways : List (List Str)} {Q : List CV → CSt → Prop} (ok : C.Ok dep) (hkp : C.env.kindOf "flags" = some .local) (hkw : C.env.kindOf "ways" = some .cell) (hl : ways.length ≤ 10000)
    (e : ∃ tx it sc p p2, nth (bodyOf (lawF 6)) 5 = .Assign [tx] (.ListComp elt [⟨t, it, [], 0⟩] sc p) p2) :
    ∀ (xs acc : List CV) (lo : Str → Option CV), acc.length + xs.length ≤ 10000 → lo "ways" = some (.lst (ways.map wcv)) → (∀ lo', lo' "ways" = lo "ways" → Q (acc ++ xs.map fun _ => toldC ways fun _ _ => false) ⟨lo', H⟩) → WCI C (emitOf C elt []) t [] xs ⟨lo, H⟩ acc Q := by
  apply compE1 (elt := elt) (t := t) e
  intro xs
  induction xs with
  | nil => intro acc lo _ _ q; have := q lo rfl; simpa [WCI] using this
  | cons x xs ih =>
    intro acc lo hl1 h1 q
    simp only [List.length_cons] at hl1
    refine WA.name ok (by rw [hkp]; rfl) ?_
    refine WE.comp ok (WE.name ok.fun_ (v := .lst (ways.map wcv)) h1 (in_1_1 _ IterOf.lst (fun C' ok' s hsc => ?_)) (by rw [hkw]; rfl)) (by rfl)
    have kx : ∀ y, C'.env.kindOf y = _ := fun y => by unfold Env.kindOf; rw [hsc, relabel_lookup]
    refine dueRow_W ok' (by rw [kx]; rfl) (in_1_0 _ rfl) (in_5_0 _ _ _ _ _ rfl) ways [] _ (by simp; (exact Nat.le_trans (by assumption) (by decide))) fun lo' h' => ⟨fun y hy => by have := mem_of_lookupK hy; simp at this, .inl ⟨by simp; omega, ?_⟩⟩
    rw [show CV.lst ([] ++ ways.map fun q => CV.lst (row (fun _ _ => false) q)) = toldC ways (fun _ _ => false) by simp [toldC]]
    refine ih (acc ++ [toldC ways fun _ _ => false]) _ (by simp; omega) h1 fun lo' h' => ?_
    have := q lo' h'
    simpa using this

theorem dues_W {Q : CF → CSt → Prop} {lo : Str → Option CV} {ways : List (List Str)} {xs : List CV} (ok : C.Ok dep) (hk : HK C (scopeOf (lawF 6))) (hl : ways.length ≤ 10000) (hx : xs.length ≤ 1000) (h1 : lo "pair" = some (.lst xs)) (h2 : lo "ways" = some (.lst (ways.map wcv)))
    (h : ∀ D, H D = none → Q .next ⟨lput lo "dues" (.loc D), hput H D (.list (xs.map fun _ => toldC ways fun _ _ => false))⟩) : WS C (nth (bodyOf (lawF 6)) 5) ⟨lo, H⟩ Q := by
  have hw : C.env.kindOf "ways" = some .cell := by rw [hk]; rfl
  refine WS.assignComp ok (WE.nm ok hk h1 (in_1_1 _ IterOf.lst (fun C' ok' s hsc => ?_))) ?_ (by rw [hk]; rfl) ?_
  · have kx : ∀ y, C'.env.kindOf y = _ := fun y => by unfold Env.kindOf; rw [hsc, relabel_lookup]
    refine dueRows_W ok' (by rw [kx]; rfl) (by rw [kx, hk, ok.fun_]; rfl) hl (in_5_0 _ _ _ _ _ rfl) xs [] _ (by simp; (exact Nat.le_trans (by assumption) (by decide))) h2 fun lo' h' => ⟨fun y hy => ?_, .inr fun D hD => ?_⟩
    · have := mem_of_lookupK hy
      simp at this
      subst this
      exact h'
    · have := h D hD
      simpa using this
  · simp only [List.all_cons, List.all_nil, hw]
    rfl
  · have k1 : C.env.kindOf "dues" = some .local := by rw [hk]; rfl
    have k3 : C.env.blockKind = .function := blockKind_of ok
    unfold swapsWith
    dsimp only
    rewrite [k1, k3]
    rfl

/-- two new Flags -/
theorem pair_W {Q : CF → CSt → Prop} {lo : Str → Option CV} {fs : List (Addr × FO × MS)} {ps : List (Addr × CO)} (ok : C.Ok (dep + 2)) (hk : HK C (scopeOf (lawF 6))) (L : LCtx C cl fa3 fa4 fa5) (w : World H cl fs ps)
    (h : ∀ H' x0 x1 ow0 ow1, World H' cl (fs ++ [(x0, ow0, MS.zero)] ++ [(x1, ow1, MS.zero)]) ps → Q .next ⟨lput lo "pair" (.lst [.loc x0, .loc x1]), H'⟩) : WS C (nth (bodyOf (lawF 6)) 4) ⟨lo, H⟩ Q := by
  refine WS.assign1 (WE.listF (WE.call ok (WE.glob ok L.g (v := .ref cl) rfl (in_1_2 _ rfl (KpOk.ref L.keepCl) (FM.new ok L.fc L.ms fun H1 x0 ow0 F0 K0 => ?_)) (by rw [hk]; rfl))))
  refine WE.call ok (WE.glob ok L.g (v := .ref cl) rfl (in_1_2 _ rfl (KpOk.ref L.keepCl) (FM.new ok L.fc L.ms fun H2 x1 ow1 F1 K1 => ⟨by simp, WA.nm ok hk ?_⟩)) (by rw [hk]; rfl))
  exact h H2 x0 x1 ow0 ow1 ((w.flags F0 K0).flags F1 K1)
end
end Mine
open PySem PySem.W PySem.Calls PyProof.Rows
set_option Elab.async false
set_option linter.all false
set_option maxRecDepth 100000
set_option genSizeOf false
namespace Mine
structure WaysOk (ways : List (List Str)) : Prop where
  ok : ∀ q ∈ ways, q.all PyData.strOk = true
  len : ∀ q ∈ ways, q.length ≤ 1000
  nd : ways.Nodup
  n : ways.length ≤ 10000
structure CallOk (ways : List (List Str)) (c : Int × List Str × Int) : Prop where
  good : cgood c
  way : cway c
  f : c.2.2 = 0 ∨ c.2.2 = 1
  here : c.2.1 ∈ ways
  up : c.2.1.dropLast ++ [("b.a" : Str)] ∈ ways
structure MOk (ways : List (List Str)) (m : MS) (n : Nat) : Prop where
  clean : m.clean
  ws : ∀ u ∈ m.w, u.1 ∈ ways ∧ (u.2 = 0 ∨ u.2 = 1)
  n : m.w.length ≤ n
theorem MOk.zero {ways : List (List Str)} : MOk ways MS.zero 0 := ⟨⟨fun q g h => (by rcases h with h | h <;> cases h), fun v hv => (by cases hv)⟩, fun u hu => (by cases hu), Nat.le_refl _⟩
theorem wdo_ok {ways : List (List Str)} {w : List (List Str × Int)} {c : Int × List Str × Int} {n : Nat} (h : ∀ u ∈ w, u.1 ∈ ways ∧ (u.2 = 0 ∨ u.2 = 1)) (hn : w.length ≤ n) (hc : CallOk ways c) : (∀ u ∈ wdo w c, u.1 ∈ ways ∧ (u.2 = 0 ∨ u.2 = 1)) ∧ (wdo w c).length ≤ n + 1 := by
  unfold wdo
  split
  · refine ⟨fun u hu => ?_, by simp; omega +splitDisjunctions⟩
    rcases List.mem_append.mp hu with hu | hu
    · exact h u hu
    · rw [List.mem_singleton.mp hu]; exact ⟨hc.here, hc.f⟩
  · split
    · exact ⟨fun u hu => (by cases hu), by simp⟩
    · exact ⟨h, by (exact Nat.le_succ_of_le (by assumption))⟩
theorem MOk.do {ways : List (List Str)} {m : MS} {n : Nat} {c : Int × List Str × Int} (h : MOk ways m n) (hc : CallOk ways c) : MOk ways (m.do c) (n + 1) := by
  (refine el_0_1 (wdo_ok h.ws h.n hc) fun h1 h2 => ?_)
  exact ⟨h.clean.do hc.good, by rw [MS.do_w]; exact h1, by rw [MS.do_w]; exact h2⟩
noncomputable def dos (m : MS) (cs : List (Int × List Str × Int)) : MS := cs.foldl MS.do m
theorem MOk.dos {ways : List (List Str)} : ∀ {cs : List (Int × List Str × Int)} {m : MS} {n : Nat}, MOk ways m n → (∀ c ∈ cs, CallOk ways c) → MOk ways (dos m cs) (n + cs.length)
  | [], m, n, h, _ => h
  | c :: cs, m, n, h, hc => by
    have := MOk.dos (h.do (hc c List.mem_cons_self)) fun d hd => hc d (List.mem_cons_of_mem _ hd)
    simp only [List.length_cons, show n + (cs.length + 1) = n + 1 + cs.length by omega]
    exact this
theorem MOk.mono {ways : List (List Str)} {m : MS} {n k : Nat} (h : MOk ways m n) (hk : n ≤ k) : MOk ways m k := ⟨h.clean, h.ws, by have := h.n; (exact Nat.le_trans (by assumption) (by assumption))⟩

noncomputable abbrev TW := (List Str → Int → Bool) × List (List Str × Int)
noncomputable def dcell (ways : List (List Str)) (tw : List TW) : CO := .list (tw.map fun p => toldC ways p.1)
noncomputable def wcell (tw : List TW) : CO := .list (tw.map fun p => .lst (p.2.map pcv))
section
variable {C C' : Cx} {dep : Nat} {H : CH} {cl fa3 fa4 fa5 : Addr}


theorem nextAssign_W {Q : CF → CSt → Prop} {lo : Str → Option CV} {ways : List (List Str)} {fs : List (Addr × FO × MS)} {tw : List TW} {D E : Addr} {T : List Str → Int → Bool} {w : List (List Str × Int)} {c : Int × List Str × Int} {k : Nat}
    {p1 p2 p3 p4 p5 p6 p7 p8 p9 p10 p11 p12 p13 p14 p15 p16 p17 p18 : Pos} {k0 : Nat} (ok : C.Ok (dep + 1)) (hk : HK C (scopeOf (lawF 6))) (L : LCtx C cl fa3 fa4 fa5) (wo : WaysOk ways) (co : CallOk ways c) (ws : ∀ u ∈ w, u.1 ∈ ways ∧ (u.2 = 0 ∨ u.2 = 1)) (wl : w.length ≤ 1000)
    (W : World H cl fs [(D, dcell ways tw), (E, wcell tw)]) (htl : tw.length ≤ 100) (hi : tw[k]? = some (T, w)) (l1 : lo "ways" = some (.lst (ways.map wcv))) (l2 : lo "dues" = some (.loc D)) (l3 : lo "waits" = some (.loc E)) (l4 : lo "k" = some (.int k)) (l5 : lo "call" = some (callC c))
    (h : ∀ H', World H' cl fs [(D, dcell ways (tw.set k (tdo T w c, wdo w c))), (E, wcell (tw.set k (tdo T w c, wdo w c)))] → Q .next ⟨lo, H'⟩) :
    WS C (.Assign [.Tuple [.Subscript (.Name "dues" p1) (.Name "k" p2) p3, .Subscript (.Name "waits" p4) (.Name "k" p5) p6] k0 p7] (.Call (.Name "_law_next" p8) [.Name "ways" p9, .Subscript (.Name "dues" p10) (.Name "k" p11) p12, .Subscript (.Name "waits" p13) (.Name "k" p14) p15, .Name "call" p16] [] p17) p18) ⟨lo, H⟩ Q := by
  have hkl := (List.getElem?_eq_some_iff.mp hi).1
  have hD : H D = some (dcell ways tw) := W.cell (D, dcell ways tw) (by simp)
  have hE : H E = some (wcell tw) := W.cell (E, wcell tw) (by simp)
  have keep5 : keepIn C.K (.ref fa5) = true := by (refine el_1_0 L.f5 fun fd l => ?_); exact l.keep
  refine WS.assign1 (WE.call ok (WE.glob ok L.g (v := .ref fa5) rfl (in_1_2 _ rfl (KpOk.ref keep5) (WE.nm ok hk l1 ?_)) (by rw [hk]; rfl)))
  refine WE.sub (WE.nm ok hk l2 (WE.nm ok hk l4 (W2.itLoc (c := toldC ways T) hD (by rw [List.getElem?_map, hi]; rfl) (by simp; (exact Nat.le_trans (by assumption) (by decide))) ?_)))
  refine WE.sub (WE.nm ok hk l3 (WE.nm ok hk l4 (W2.itLoc (c := .lst (w.map pcv)) hE (by rw [List.getElem?_map, hi]; rfl) (by simp; (exact Nat.le_trans (by assumption) (by decide))) ?_)))
  refine WE.nm ok hk l5 (L.next ok wo.ok wo.len wo.nd wo.n co.good co.way.ok co.f co.up ws wl fun H1 k1 => ?_)
  have W1 := W.keep k1
  have hD1 : H1 D = some (dcell ways tw) := W1.cell (D, dcell ways tw) (by simp)
  have W2' := W1.put (i := 0) (c' := dcell ways (tw.set k (tdo T w c, wdo w c))) rfl
  have W3 := W2'.put (i := 1) (a := E) (c := wcell tw) (c' := wcell (tw.set k (tdo T w c, wdo w c))) rfl
  have hE2 := W2'.cell (E, wcell tw) (by simp)
  refine WA.tuple (vs := [_, _]) ok rfl (WA.subL (WE.nm ok hk l2 (WE.nm ok hk l4 (in_3_5 D _ k rfl rfl hD1 (by simpa using hkl) (by simp; (exact Nat.le_trans (by assumption) (by decide))) ?_))))
  have e1 : CO.list ((tw.map fun p => toldC ways p.1).set k (toldC ways (tdo T w c))) = dcell ways (tw.set k (tdo T w c, wdo w c)) := by
    unfold dcell; rw [List.map_set]
  have e2 : CO.list ((tw.map fun p => CV.lst (p.2.map pcv)).set k (.lst ((wdo w c).map pcv))) = wcell (tw.set k (tdo T w c, wdo w c)) := by
    unfold wcell; rw [List.map_set]
  rw [e1]
  refine WA.subL (WE.nm ok hk l3 (WE.nm ok hk l4 (in_3_5 E _ k rfl rfl hE2 (by simpa using hkl) (by simp; (exact Nat.le_trans (by assumption) (by decide))) ?_)))
  rw [e2]
  exact h _ W3
end
end Mine
open PySem PySem.W PySem.Calls PyProof.Rows
set_option Elab.async false
set_option linter.all false
set_option maxRecDepth 100000
set_option genSizeOf false
namespace Mine
noncomputable abbrev FSt := Addr × FO × MS
noncomputable def twOf (fs : List FSt) : List TW := fs.map fun f => (f.2.2.tell, f.2.2.w)
noncomputable def pairC (fs : List FSt) : CV := .lst (fs.map fun f => .loc f.1)
theorem pairC_set {fs : List FSt} {k : Nat} {x : Addr} {ow ow' : FO} {m m' : MS} (h : fs[k]? = some (x, ow, m)) : pairC (fs.set k (x, ow', m')) = pairC fs := by
  unfold pairC
  rw [List.map_set]
  congr 1
  apply List.ext_getElem (by simp)
  intro i h1 h2
  rw [List.getElem_set]
  split
  · rename_i e; subst e
    have := (List.getElem?_eq_some_iff.mp h).2
    simp [this]
  · rfl
theorem twOf_set {ways : List (List Str)} {fs : List FSt} {k : Nat} {x : Addr} {ow' : FO} {m : MS} {c : Int × List Str × Int} (hm : m.clean) (hc : cgood c) : (twOf fs).set k (tdo m.tell m.w c, wdo m.w c) = twOf (fs.set k (x, ow', m.do c)) := by
  unfold twOf
  rw [List.map_set]
  congr 2
  · funext q g; exact (tell_do hm hc q g).symm
  · exact (MS.do_w m c).symm
theorem set_set_self {α : Type} {l : List α} {k : Nat} {a b : α} : (l.set k a).set k b = l.set k b := by simp
theorem cpick_at {α : Type} (f : α → CV) (l : List α) (j : Nat) : cpick (l.map f) (some (j : Int)) (some ((j : Int) + 1)) none = ((l.drop j).take 1).map f := by
  unfold cpick sliceBounds
  simp only [Option.getD_none, List.length_map, show (1 : Int) > 0 by (exact Int.natCast_nonneg _), if_true, show ¬ (j : Int) < 0 by simp, if_false, show ¬ (j : Int) + 1 < 0 by omega]
  unfold sliceRange
  simp only [show (1 : Int) > 0 by (exact Int.natCast_nonneg _), if_true]
  by_cases h : j < l.length
  · have e1 : (max 0 (min (j : Int) l.length)) = j := by rw [Int.min_eq_left (Int.ofNat_le.mpr (Nat.le_of_lt h)), Int.max_eq_right (Int.natCast_nonneg _)]
    have e2 : (max 0 (min ((j : Int) + 1) l.length)) = j + 1 := by rw [Int.min_eq_left (Int.ofNat_lt.mpr h), Int.max_eq_right (Int.le_of_lt (Int.lt_add_one_of_le (Int.natCast_nonneg j)))]
    rw [e1, e2, if_pos (by omega +splitDisjunctions)]
    have e3 : (((j : Int) + 1 - j + 1 - 1) / 1).toNat = 1 := by simp
    rw [e3]
    simp only [List.drop_eq_getElem_cons h, List.take_succ_cons, List.take_zero]
    simp [List.range_succ, h]
  · have e1 : (max 0 (min (j : Int) l.length)) = l.length := by rw [Int.min_eq_right (Int.ofNat_le.mpr (Nat.not_lt.mp h)), Int.max_eq_right (Int.natCast_nonneg _)]
    have e2 : (max 0 (min ((j : Int) + 1) l.length)) = l.length := by rw [Int.min_eq_right (Int.le_trans (Int.ofNat_le.mpr (Nat.not_lt.mp h)) (Int.le_add_of_nonneg_right (by decide))), Int.max_eq_right (Int.natCast_nonneg _)]
    rw [e1, e2, if_neg (by omega +splitDisjunctions)]
    rw [List.drop_of_length_le (by (exact Nat.le_of_not_lt (by assumption)))]
    rfl
theorem dos_take {m : MS} {r : List (Int × List Str × Int)} {j : Nat} : dos (dos m (r.take j)) ((r.drop j).take 1) = dos m (r.take (j + 1)) := by
  unfold dos
  rw [← List.foldl_append]
  congr 1
  rw [List.take_add]
section
variable {C C' : Cx} {dep : Nat} {H : CH} {cl fa3 fa4 fa5 D E : Addr}

theorem callsFor_W {t : Expr} {body : List Stmt} {Q : CF → CSt → Prop} {ways : List (List Str)} {k : Nat} (ok : C.Ok (dep + 3)) (hk : HK C (scopeOf (lawF 6))) (L : LCtx C cl fa3 fa4 fa5) (wo : WaysOk ways)
    (e : ∃ t1 it1 o1 p1 t2 it2 o2 p2 it o p, nth (bodyOf (lawF 6)) 7 = .For t1 it1 [.For t2 it2 [.For t it body o p] o2 p2] o1 p1) :
    ∀ (cs : List (Int × List Str × Int)) (H : CH) (fs : List FSt) (lo : Str → Option CV) (x : Addr) (ow : FO) (m : MS) (n : Nat), World H cl fs [(D, dcell ways (twOf fs)), (E, wcell (twOf fs))] → fs.length ≤ 100 → fs[k]? = some (x, ow, m) → MOk ways m n → n + cs.length ≤ 900 → (∀ c ∈ cs, CallOk ways c) →
      lo "ways" = some (.lst (ways.map wcv)) → lo "dues" = some (.loc D) → lo "waits" = some (.loc E) → lo "k" = some (.int k) → lo "pair" = some (pairC fs) →
      (∀ H' ow' lo', World H' cl (fs.set k (x, ow', dos m cs)) [(D, dcell ways (twOf (fs.set k (x, ow', dos m cs)))), (E, wcell (twOf (fs.set k (x, ow', dos m cs))))] → (∀ y : Str, y ≠ "call" → lo' y = lo y) → Q .next ⟨lo', H'⟩) →
      WFor C t body [] (cs.map callC) ⟨lo, H⟩ Q := by
  apply forE3 (t := t) (body := body) e
  have keep4 : keepIn C.K (.ref fa4) = true := by (refine el_1_0 L.f4 fun fd l => ?_); exact l.keep
  intro cs
  induction cs with
  | nil =>
    intro H fs lo x ow m n W _ hi _ _ _ l1 l2 l3 l4 l5 q
    refine WSs.nil (q H ow lo ?_ fun _ _ => rfl)
    have e : fs.set k (x, ow, dos m []) = fs := by
      (refine el_1_0 (List.getElem?_eq_some_iff.mp hi) fun hlt e => ?_)
      show fs.set k (x, ow, m) = fs
      rw [← e]; exact List.set_getElem_self hlt
    rw [e]; exact W
  | cons c cs ih =>
    intro H fs lo x ow m n W hfl hi mo hn hc l1 l2 l3 l4 l5 q
    have hlt := (List.getElem?_eq_some_iff.mp hi).1
    have hc1 := hc c List.mem_cons_self
    simp only [List.length_cons] at hn
    have F : FM H cl x ow m := W.fm (x, ow, m) (List.mem_of_getElem? hi)
    refine WA.nm ok hk ?_
    refine WSs.cons (WS.expr ok (WE.call ok (WE.glob ok L.g (v := .ref fa4) rfl (in_1_2 _ rfl (KpOk.ref keep4) (WE.sub (WE.nm ok hk l5 (WE.nm ok hk l4 (W2.itL (c := .loc x) (by rw [List.getElem?_map, hi]; rfl) (by simp; (exact Nat.le_trans (by assumption) (by decide))) (WE.nm ok hk rfl (L.do ok F hc1.good mo.clean.2 (by have := mo.n; omega) fun H1 ow1 F1 K1 => ⟨rfl, ?_⟩))))))) (by rw [hk]; rfl))))
    have W1 := W.call hi F1 K1
    refine WSs.cons (nextAssign_W (k := k) (dep := dep + 2) ok hk L wo hc1 mo.ws (by have := mo.n; omega) W1 (by unfold twOf; simpa using hfl) (T := m.tell) (w := m.w) (by unfold twOf; rw [List.getElem?_map, hi]; rfl) l1 l2 l3 l4 rfl fun H2 W2 => ?_)
    rw [twOf_set (ways := ways) (x := x) (ow' := ow1) mo.clean hc1.good] at W2
    refine WSs.nil (ih H2 (fs.set k (x, ow1, m.do c)) _ x ow1 (m.do c) (n + 1) W2 (by simpa using hfl) (by rw [List.getElem?_set_self hlt]) (mo.do hc1) (by omega) (fun d hd => hc d (List.mem_cons_of_mem _ hd)) l1 l2 l3 l4 (by rw [pairC_set hi]; exact l5) fun H3 ow3 lo3 W3 k3 => ?_)
    rw [set_set_self] at W3
    exact q H3 ow3 lo3 W3 fun y hy => by rw [k3 y hy]; simp [CSt.put, lput, hy]
end
end Mine
open PySem PySem.W PySem.Calls PyProof.Rows
set_option Elab.async false
set_option linter.all false
set_option maxRecDepth 100000
set_option genSizeOf false
namespace Mine
section
variable {C C' : Cx} {dep : Nat} {H : CH} {cl fa3 fa4 fa5 D E : Addr}
noncomputable def cells (D E : Addr) (ways : List (List Str)) (tw : List TW) : List (Addr × CO) := [(D, dcell ways tw), (E, wcell tw)]

/-- one turn of one of the two -/
theorem turn_W {t2 it : Expr} {body o : List Stmt} {p : Pos} {t : Expr} {Q : CF → CSt → Prop} {ways : List (List Str)} {k j : Nat} {fs : List FSt} {rows : List (List (Int × List Str × Int))} {r : List (Int × List Str × Int)} {lo : Str → Option CV} {x : Addr} {ow : FO} (ok : C.Ok (dep + 3)) (hk : HK C (scopeOf (lawF 6))) (L : LCtx C cl fa3 fa4 fa5) (wo : WaysOk ways)
    (e : ∃ t1 it1 o1 p1 it2 o2 p2, nth (bodyOf (lawF 6)) 7 = .For t1 it1 [.For t2 it2 [.For t it body o p] o2 p2] o1 p1) 
    (W : World H cl fs (cells D E ways (twOf fs))) (hfl : fs.length ≤ 100) (hr : rows[k]? = some r) (hrl : rows.length ≤ 100) (hi : fs[k]? = some (x, ow, dos MS.zero (r.take j))) (hjr : j ≤ 100) (hrl2 : r.length ≤ 100) (hc : ∀ c ∈ r, CallOk ways c)
    (l1 : lo "ways" = some (.lst (ways.map wcv))) (l2 : lo "dues" = some (.loc D)) (l3 : lo "waits" = some (.loc E)) (l4 : lo "k" = some (.int k)) (l5 : lo "pair" = some (pairC fs)) (l6 : lo "rows" = some (.lst (rows.map rowC))) (l7 : lo "j" = some (.int j))
    (q : ∀ H' ow' lo', World H' cl (fs.set k (x, ow', dos MS.zero (r.take (j + 1)))) (cells D E ways (twOf (fs.set k (x, ow', dos MS.zero (r.take (j + 1)))))) → (∀ y : Str, y ≠ "call" → lo' y = lo y) → Q .next ⟨lo', H'⟩) :
    WS C (.For t it body o p) ⟨lo, H⟩ Q := by
  apply forE5 (t := t) (it := it) (body := body) (o := o) (p := p) e
  have hlt := (List.getElem?_eq_some_iff.mp hr).1
  refine WS.for_ ok (WE.slice (WE.sub (WE.nm ok hk l6 (WE.nm ok hk l4 (W2.itL (c := rowC r) (by rw [List.getElem?_map, hr]; rfl) (by simp; (exact Nat.le_trans (by assumption) (by decide))) ?_)))))
  refine WE.nm ok hk l7 (in_1_1 _ rfl (WE.binop (WE.nm ok hk l7 (WE.int (W2.addI (in_1_1 _ rfl (WSl.lst (by decide) (by simp; (exact Nat.le_trans (by assumption) (by decide))) (in_1_1 _ IterOf.lst ?_))))))))
  rw [cpick_at]
  have mo : MOk ways (dos MS.zero (r.take j)) (0 + (r.take j).length) := MOk.zero.dos fun c h => hc c (List.mem_of_mem_take h)
  refine callsFor_W (k := k) (ways := ways) (D := D) (E := E) ok hk L wo (in_11_0 _ _ _ _ _ _ _ _ _ _ _ rfl) ((r.drop j).take 1) H fs lo x ow _ 110 W hfl hi (mo.mono (by simp; omega +splitDisjunctions)) (by simp; omega +splitDisjunctions) (fun c h => hc c (List.mem_of_mem_drop (List.mem_of_mem_take h))) l1 l2 l3 l4 l5 fun H1 ow1 lo1 W1 k1 => ?_
  rw [dos_take] at W1
  exact q H1 ow1 lo1 W1 k1

theorem turns_W {t : Expr} {body : List Stmt} {Q : CF → CSt → Prop} {ways : List (List Str)} {r0 r1 r2 : List (Int × List Str × Int)} {x0 x1 : Addr} (ok : C.Ok (dep + 3)) (hk : HK C (scopeOf (lawF 6))) (L : LCtx C cl fa3 fa4 fa5) (wo : WaysOk ways)
    (e : ∃ it o p, nth (bodyOf (lawF 6)) 7 = .For t it body o p) (hl0 : r0.length ≤ 100) (hl1 : r1.length ≤ 100) (hc : ∀ c ∈ r0 ++ r1, CallOk ways c) :
    ∀ (n j : Nat) (H : CH) (ow0 ow1 : FO) (lo : Str → Option CV), j + n = r0.length → World H cl [(x0, ow0, dos MS.zero (r0.take j)), (x1, ow1, dos MS.zero (r1.take j))] (cells D E ways (twOf [(x0, ow0, dos MS.zero (r0.take j)), (x1, ow1, dos MS.zero (r1.take j))])) →
      lo "ways" = some (.lst (ways.map wcv)) → lo "dues" = some (.loc D) → lo "waits" = some (.loc E) → lo "pair" = some (.lst [.loc x0, .loc x1]) → lo "rows" = some (.lst [rowC r0, rowC r1, rowC r2]) →
      (∀ H' ow0' ow1' lo', World H' cl [(x0, ow0', dos MS.zero r0), (x1, ow1', dos MS.zero (r1.take r0.length))] (cells D E ways (twOf [(x0, ow0', dos MS.zero r0), (x1, ow1', dos MS.zero (r1.take r0.length))])) → (∀ y : Str, y ≠ "call" → y ≠ "k" → y ≠ "j" → lo' y = lo y) → Q .next ⟨lo', H'⟩) →
      WFor C t body [] ((List.range' j n).map fun i => CV.int (i : Nat)) ⟨lo, H⟩ Q := by
  apply forE (t := t) (body := body) e
  intro n
  induction n with
  | zero =>
    intro j H ow0 ow1 lo hj W l1 l2 l3 l5 l6 q
    have : j = r0.length := by omega +splitDisjunctions
    subst this
    rw [List.take_length] at W
    exact WSs.nil (q H ow0 ow1 lo W fun _ _ _ _ => rfl)
  | succ n ih =>
    intro j H ow0 ow1 lo hj W l1 l2 l3 l5 l6 q
    rw [List.range'_succ, List.map_cons]
    refine WA.nm ok hk (WSs.cons (WS.for_ ok (WE.listF (WE.int (WE.int (in_0_1 (by decide) (in_1_1 _ IterOf.lst (WA.nm ok hk ?_))))))))
    refine WSs.cons (turn_W (k := 0) (j := j) (D := D) (E := E) (ways := ways) (rows := [r0, r1, r2]) (r := r0) ok hk L wo (in_7_0 _ _ _ _ _ _ _ rfl) W (by simp) rfl (by simp) rfl (by omega) hl0 (fun c h => hc c (List.mem_append_left _ h)) l1 l2 l3 rfl l5 l6 rfl fun H1 o1 lo1 W1 k1 => WSs.nil ?_)
    have l1' := (k1 "ways" (by decide)).trans l1
    have l2' := (k1 "dues" (by decide)).trans l2
    have l3' := (k1 "waits" (by decide)).trans l3
    have l5' := (k1 "pair" (by decide)).trans l5
    have l6' := (k1 "rows" (by decide)).trans l6
    have lj' := (k1 "j" (by decide)).trans (rfl : _ = some (CV.int (j : Nat)))
    refine WA.nm ok hk (WSs.cons (turn_W (k := 1) (j := j) (D := D) (E := E) (ways := ways) (rows := [r0, r1, r2]) (r := r1) ok hk L wo (in_7_0 _ _ _ _ _ _ _ rfl) W1 (by simp) rfl (by simp) rfl (by omega) hl1 (fun c h => hc c (List.mem_append_right _ h)) l1' l2' l3' rfl l5' l6' lj' fun H2 o2 lo2 W2 k2 => WSs.nil (WSs.nil ?_)))
    have go : ∀ y : Str, y ≠ "call" → y ≠ "k" → y ≠ "j" → lo2 y = lo y := fun y h1 h2 h3 => by
      rw [k2 y h1]; simp [CSt.put, lput, h2]
      rw [k1 y h1]; simp [CSt.put, lput, h2, h3]
    refine WSs.nil (ih (j + 1) H2 o1 o2 lo2 (by omega) W2 ((go _ (by decide) (by decide) (by decide)).trans l1) ((go _ (by decide) (by decide) (by decide)).trans l2) ((go _ (by decide) (by decide) (by decide)).trans l3) ((go _ (by decide) (by decide) (by decide)).trans l5) ((go _ (by decide) (by decide) (by decide)).trans l6) fun H3 o3 o4 lo3 W3 k3 => ?_)
    exact q H3 o3 o4 lo3 W3 fun y h1 h2 h3 => (k3 y h1 h2 h3).trans (go y h1 h2 h3)
end
end Mine
open PySem PySem.W PySem.Calls PyProof.Rows
set_option Elab.async false
set_option linter.all false
set_option maxRecDepth 100000
set_option genSizeOf false
namespace Mine
noncomputable def mset (m : MS) (q : List Str) (g : Int) (b : Bool) : MS := ⟨fun p f => m.h p f || (!b && decide (p = q) && decide (f = g)), fun p f => m.r p f || (b && decide (p = q) && decide (f = g)), m.w⟩
/-- a mark is made by what is told: below, here -/
noncomputable def mk1 (m : MS) (q : List Str) (g : Int) (b a : Bool) : MS := if b then mset m q g true else if a then mset m q g false else m
section
variable {C C' : Cx} {dep : Nat} {H : CH} {cl fa3 fa4 fa5 D E : Addr}

theorem phase1_W {Q : CF → CSt → Prop} {ways : List (List Str)} {r0 r1 r2 : List (Int × List Str × Int)} {x0 x1 : Addr} {ow0 ow1 : FO} {lo : Str → Option CV} (ok : C.Ok (dep + 3)) (hk : HK C (scopeOf (lawF 6))) (L : LCtx C cl fa3 fa4 fa5) (wo : WaysOk ways)
    (hl0 : r0.length ≤ 100) (hl1 : r1.length ≤ r0.length) (hc : ∀ c ∈ r0 ++ r1, CallOk ways c) (W : World H cl [(x0, ow0, MS.zero), (x1, ow1, MS.zero)] (cells D E ways (twOf [(x0, ow0, MS.zero), (x1, ow1, MS.zero)])))
    (l1 : lo "ways" = some (.lst (ways.map wcv))) (l2 : lo "dues" = some (.loc D)) (l3 : lo "waits" = some (.loc E)) (l5 : lo "pair" = some (.lst [.loc x0, .loc x1])) (l6 : lo "rows" = some (.lst [rowC r0, rowC r1, rowC r2]))
    (q : ∀ H' ow0' ow1' lo', World H' cl [(x0, ow0', dos MS.zero r0), (x1, ow1', dos MS.zero r1)] (cells D E ways (twOf [(x0, ow0', dos MS.zero r0), (x1, ow1', dos MS.zero r1)])) → (∀ y : Str, y ≠ "call" → y ≠ "k" → y ≠ "j" → lo' y = lo y) → Q .next ⟨lo', H'⟩) :
    WS C (nth (bodyOf (lawF 6)) 7) ⟨lo, H⟩ Q := by
  refine WS.for_ ok (WE.call ok (WE.glob ok L.g (v := .type "range") rfl (in_1_2 _ rfl KpOk.type (WE.call ok (WE.glob ok L.g (v := .builtin "len") rfl (in_1_2 _ rfl KpOk.builtin (WE.sub (WE.nm ok hk l6 (WE.int (W2.itL0 (WCall.lenL (by simp; (exact Nat.le_trans (by assumption) (by decide))) (WCall.range1 (in_1_1 _ (IterOf.rng (by decide) (by simp <;> omega)) ?_)))))))) (by rw [hk]; rfl)))) (by rw [hk]; rfl)))
  have er : rints 0 ((r0.map callC).length : Int) = (List.range' 0 r0.length).map fun i => CV.int (i : Nat) := by
    simp [rints, List.range_eq_range']
  rw [er]
  refine turns_W (D := D) (E := E) (r0 := r0) (r1 := r1) (r2 := r2) (ways := ways) (x0 := x0) (x1 := x1) ok hk L wo (in_3_0 _ _ _ rfl) hl0 (by (exact Nat.le_trans (by assumption) (by assumption))) hc r0.length 0 H ow0 ow1 lo (by (exact Nat.add_comm _ _)) W l1 l2 l3 l5 l6 fun H' o0 o1 lo' W' k' => ?_
  rw [List.take_of_length_le hl1] at W'
  exact q H' o0 o1 lo' W' k'

/-- two Flags more -/
theorem both_W {Q : CF → CSt → Prop} {lo : Str → Option CV} {fs : List FSt} {ps : List (Addr × CO)} (ok : C.Ok (dep + 2)) (hk : HK C (scopeOf (lawF 6))) (L : LCtx C cl fa3 fa4 fa5) (w : World H cl fs ps)
    (h : ∀ H' x0 x1 ow0 ow1, World H' cl (fs ++ [(x0, ow0, MS.zero)] ++ [(x1, ow1, MS.zero)]) ps → Q .next ⟨lput (lput lo "either" (.loc x1)) "both" (.loc x0), H'⟩) : WS C (nth (bodyOf (lawF 6)) 8) ⟨lo, H⟩ Q := by
  refine WS.swap2 ok (WE.tuple (WE.call ok (WE.glob ok L.g (v := .ref cl) rfl (in_1_2 _ rfl (KpOk.ref L.keepCl) (FM.new ok L.fc L.ms fun H1 x0 ow0 F0 K0 => ?_)) (by rw [hk]; rfl)))) (by rw [hk]; rfl) (by rw [hk]; rfl) rfl ?_
  · refine WE.call ok (WE.glob ok L.g (v := .ref cl) rfl (in_1_2 _ rfl (KpOk.ref L.keepCl) (FM.new ok L.fc L.ms fun H2 x1 ow1 F1 K1 => (in_0_1 (by simp) (in_2_1 _ _ rfl ?_)))) (by rw [hk]; rfl))
    exact h H2 x0 x1 ow0 ow1 ((w.flags F0 K0).flags F1 K1)
  · have k1 : C.env.kindOf "both" = some .local := by rw [hk]; rfl
    have k2 : C.env.kindOf "either" = some .local := by rw [hk]; rfl
    have k3 : C.env.blockKind = .function := blockKind_of ok
    unfold swappedStores
    dsimp only [List.filterMap]
    simp only [k1, k2, k3]
    rfl

theorem WEs.mono : ∀ {es : List Expr} {st : CSt} {Q Q' : List CV → CSt → Prop}, WEs C es st Q → (∀ b st', Q b st' → Q' b st') → WEs C es st Q'
  | [], st, Q, Q', h, hQ => hQ _ _ h
  | e :: es, st, Q, Q', h, hQ => WE.mono h (fun b st' q => WEs.mono q fun bs st2 q2 => hQ _ _ q2)
/-- a method is called, its arguments being at hand -/
theorem WE.mcall {o : Expr} {x : Addr} {name : Str} {apos pos : Pos} {es : List Expr} {kws : List Keyword} {st : CSt} {Q : CV → CSt → Prop} {as0 ks0 : List CV} (ok : C.Ok dep) (hm : MCall C x name as0 (kwn kws) ks0 st Q)
    (ho : WE C o st (fun a st1 => a = .loc x ∧ st1 = st)) (ha : WEs C es st (fun as st1 => as = as0 ∧ st1 = st ∧ WEs C (kws.map (·.value)) st (fun ks st2 => ks = ks0 ∧ st2 = st)))
    (hs : es.all noStar = true := by rfl) (hk : kws.all (·.arg.isSome) = true := by rfl) (hb : attributeBase o name C.env (eval o C.env) = eval o C.env := by rfl)
    (hfew : methodCallForm (es.length + kws.length) (backTo pos (starEach es C.env)) (backToKw pos (keywordEach kws C.env)) = true := by rfl) (hline : (apos.endLine == pos.line) = true := by rfl) :
    WE C (.Call (.Attribute o name apos) es kws pos) st Q := by
  (refine el_1_2 hm fun f k1 k2 k3 => ?_; try clear hm)
  refine WE.meth ok (ho.mono (fun a st1 ⟨e1, e2⟩ => ?_)) hs hk hb hfew hline
  subst e1 e2
  refine (in_1_2 f k1 k2 (ha.mono fun as st2 hEl => ?_))
  (refine el_0_2 hEl fun e3 e4 q => ?_; try clear hEl)
  subst e3 e4
  refine q.mono fun ks st3 hEl => ?_
  (refine el_0_1 hEl fun e5 e6 => ?_; try clear hEl)
  subst e5 e6
  exact k3

/-- two truths are joined -/
noncomputable def join (op : BoolOp) (a b : Bool) : Bool := match op with | .And => a && b | .Or => a || b
theorem two_W {op : BoolOp} {y : Str} {Q : Bool → CSt → Prop} {lo : Str → Option CV} {b0 b1 : Bool} {p1 p2 p3 p4 p5 p6 p7 : Pos} {k1 k2 : Nat} (ok : C.Ok dep) (hk : HK C (scopeOf (lawF 6))) (hy : ownKind ((scopeOf (lawF 6)).lookup y) = true) (hd : (y == ("__debug__" : Str)) = false) (hc : (y == ("__classdict__" : Str)) = false)
    (h1 : lo y = some (.lst [.bool b0, .bool b1])) (h : Q (join op b0 b1) ⟨lo, H⟩) : WT C (.BoolOp op [.Subscript (.Name y p1) (.Constant (.int 0) k1 p2) p3, .Subscript (.Name y p4) (.Constant (.int 1) k2 p5) p6] p7) ⟨lo, H⟩ Q := by
  have g : ∀ {p p' p'' : Pos} {k : Nat} {R : Bool → CSt → Prop}, R b1 ⟨lo, H⟩ → WT C (.Subscript (.Name y p) (.Constant (.int 1) k p') p'') ⟨lo, H⟩ R := fun r =>
    WT.value rfl (WE.sub (WE.nm ok hk h1 (WE.int (W2.itL1 (Wtr.bool r))) hy hd hc))
  refine WT.boolop (WT.value rfl (WE.sub (WE.nm ok hk h1 (WE.int (W2.itL0 (Wtr.bool ?_))) hy hd hc)))
  cases op <;> cases b0
  · exact h
  · refine g ?_
    cases b1 <;> exact h
  · refine g ?_
    cases b1 <;> exact h
  · exact h
end
end Mine
open PySem PySem.W PySem.Calls PyProof.Rows
set_option Elab.async false
set_option linter.all false
set_option maxRecDepth 100000
set_option genSizeOf false
namespace Mine
section
variable {C C' : Cx} {dep : Nat} {H : CH} {cl fa3 fa4 fa5 D E : Addr}

theorem tells_W {ke t : Expr} {p1 p2 p3 p4 : Pos} {Q : List CV → CSt → Prop} {way key : List Str} {g : Int} (ok : C.Ok (dep + 1)) (L : LCtx C cl fa3 fa4 fa5) (hkf : C.env.kindOf "flags" = some .local) (hkg : ownKind (C.env.kindOf "flag") = true) (hl : key.length ≤ 1000)
    (hke : ∀ (lo : Str → Option CV) (Q : CV → CSt → Prop), lo "way" = some (wcv way) → Q (wcv key) ⟨lo, H⟩ → WE C ke ⟨lo, H⟩ Q) (ht : ∃ p, t = .Name "flags" p) (hst : [ke, .Name "flag" p2].all noStar = true) (hline : (p3.endLine == p4.line) = true)
    (hfew : methodCallForm 2 (backTo p4 (starEach [ke, .Name "flag" p2] C.env)) (backToKw p4 (keywordEach [] C.env)) = true) :
    ∀ (xs : List FSt) (acc : List CV) (lo : Str → Option CV), (∀ f ∈ xs, FM H cl f.1 f.2.1 f.2.2) → acc.length + xs.length ≤ 1000 → lo "way" = some (wcv way) → lo "flag" = some (.int g) → (∀ lo', lo' "way" = some (wcv way) → lo' "flag" = some (.int g) → Q (acc ++ xs.map fun f => .bool (f.2.2.tell key g)) ⟨lo', H⟩) →
      WCI C (emitOf C (.Call (.Attribute (.Name "flags" p1) "is_" p3) [ke, .Name "flag" p2] [] p4) []) t [] (xs.map fun f => .loc f.1) ⟨lo, H⟩ acc Q := by
  (refine el_1_0 ht fun p0 xEl1 => ?_; try clear ht; obtain rfl := xEl1)
  intro xs
  induction xs with
  | nil => intro acc lo _ _ l1 l2 q; have := q lo l1 l2; simpa [WCI] using this
  | cons f xs ih =>
    intro acc lo hf hl2 l1 l2 q
    simp only [List.length_cons] at hl2
    refine WA.name ok (by rw [hkf]; rfl) ?_
    refine WE.mcall ok (FM.is (key := key) (f := g) ok L.fc L.ms (hf f List.mem_cons_self) hl ⟨by omega, ?_⟩) (WE.name ok.fun_ (v := .loc f.1) rfl ⟨rfl, rfl⟩ (by rw [hkf]; rfl)) (hke _ _ l1 (WE.name ok.fun_ l2 (in_0_3 rfl rfl rfl rfl) hkg)) hst rfl rfl hfew hline
    refine ih (acc ++ [.bool (f.2.2.tell key g)]) (lput lo "flags" (.loc f.1)) (fun f' h' => hf f' (List.mem_cons_of_mem _ h')) (by simp; omega) l1 l2 fun lo' h1 h2 => ?_
    have := q lo' h1 h2
    simpa using this

theorem here_W {Q : CF → CSt → Prop} {lo : Str → Option CV} {way : List Str} {g : Int} {fs : List FSt} {body : List Stmt} (ok : C.Ok (dep + 1)) (hk : HK C (scopeOf (lawF 6))) (L : LCtx C cl fa3 fa4 fa5) (e : ∃ t1 it1 o1 p1 t it o p, nth (bodyOf (lawF 6)) 9 = .For t1 it1 [.For t it body o p] o1 p1)
    (hf : ∀ f ∈ fs, FM H cl f.1 f.2.1 f.2.2) (hfl : fs.length ≤ 100) (hl : way.length ≤ 100) (l0 : lo "pair" = some (pairC fs)) (l1 : lo "way" = some (wcv way)) (l2 : lo "flag" = some (.int g))
    (h : Q .next ⟨lput lo "here" (.lst (fs.map fun f => .bool (f.2.2.tell way g))), H⟩) : WS C (nth body 0) ⟨lo, H⟩ Q := by
  apply forE1 (body := body) e
  have hw : C.env.kindOf "way" = some .cell := by rw [hk]; rfl
  have hfg : C.env.kindOf "flag" = some .cell := by rw [hk]; rfl
  refine WS.assignComp ok (WE.nm ok hk l0 (in_1_1 _ IterOf.lst (fun C' ok' s hsc => ?_))) ?_ (by rw [hk]; rfl) ?_
  · have kx : ∀ y, C'.env.kindOf y = _ := fun y => by unfold Env.kindOf; rw [hsc, relabel_lookup]
    refine tells_W (dep := dep) (way := way) (key := way) (g := g) ok' (L.same s) (by rw [kx]; rfl) (by rw [kx, hk, ok.fun_]; rfl) (by (exact Nat.le_trans (by assumption) (by decide))) (fun lo Q h1 q => WE.name ok'.fun_ h1 q (by rw [kx, hk, ok.fun_]; rfl)) (in_1_0 _ rfl) rfl rfl rfl fs [] _ hf (by simp; (exact Nat.le_trans (by assumption) (by decide))) l1 l2 fun lo' h1 h2 => ⟨fun y hy => ?_, .inl ?_⟩
    · have := mem_of_lookupK hy
      simp at this
      rcases this with rfl | rfl
      · exact h2.trans l2.symm
      · exact h1.trans l1.symm
    · simpa using h
  · simp only [List.all_cons, List.all_nil, hw, hfg]
    rfl
  · have k1 : C.env.kindOf "here" = some .local := by rw [hk]; rfl
    have k3 : C.env.blockKind = .function := blockKind_of ok
    unfold swapsWith
    dsimp only
    rewrite [k1, k3]
    rfl
theorem below_W {Q : CF → CSt → Prop} {lo : Str → Option CV} {way : List Str} {g : Int} {fs : List FSt} {body : List Stmt} (ok : C.Ok (dep + 1)) (hk : HK C (scopeOf (lawF 6))) (L : LCtx C cl fa3 fa4 fa5) (e : ∃ t1 it1 o1 p1 t it o p, nth (bodyOf (lawF 6)) 9 = .For t1 it1 [.For t it body o p] o1 p1)
    (hf : ∀ f ∈ fs, FM H cl f.1 f.2.1 f.2.2) (hfl : fs.length ≤ 100) (hl : way.length ≤ 100) (l0 : lo "pair" = some (pairC fs)) (l1 : lo "way" = some (wcv way)) (l2 : lo "flag" = some (.int g))
    (h : Q .next ⟨lput lo "below" (.lst (fs.map fun f => .bool (f.2.2.tell (way ++ [("b.a" : Str)]) g))), H⟩) : WS C (nth body 1) ⟨lo, H⟩ Q := by
  apply forE1 (body := body) e
  have hw : C.env.kindOf "way" = some .cell := by rw [hk]; rfl
  have hfg : C.env.kindOf "flag" = some .cell := by rw [hk]; rfl
  refine WS.assignComp ok (WE.nm ok hk l0 (in_1_1 _ IterOf.lst (fun C' ok' s hsc => ?_))) ?_ (by rw [hk]; rfl) ?_
  · have kx : ∀ y, C'.env.kindOf y = _ := fun y => by unfold Env.kindOf; rw [hsc, relabel_lookup]
    refine tells_W (dep := dep) (way := way) (key := way ++ [("b.a" : Str)]) (g := g) ok' (L.same s) (by rw [kx]; rfl) (by rw [kx, hk, ok.fun_]; rfl) (by simp; (exact Nat.le_trans (by assumption) (by decide))) ?hke (in_1_0 _ rfl) rfl rfl rfl fs [] _ hf (by simp; (exact Nat.le_trans (by assumption) (by decide))) l1 l2 fun lo' h1 h2 => ⟨fun y hy => ?_, .inl ?_⟩
    case hke =>
      intro lo Q h1 q
      refine WE.binop (WE.name ok'.fun_ h1 (WE.tuple (WE.str ⟨by decide, W2.addT (by simp; (exact Nat.le_trans (by assumption) (by decide))) ?_⟩)) (by rw [kx, hk, ok.fun_]; rfl))
      have e1 : CV.tup (way.map CV.str ++ [CV.str "b.a"]) = wcv (way ++ [("b.a" : Str)]) := by simp [wcv]
      rw [e1]; exact q
    · have := mem_of_lookupK hy
      simp at this
      rcases this with rfl | rfl
      · exact h2.trans l2.symm
      · exact h1.trans l1.symm
    · simpa using h
  · simp only [List.all_cons, List.all_nil, hw, hfg]
    rfl
  · have k1 : C.env.kindOf "below" = some .local := by rw [hk]; rfl
    have k3 : C.env.blockKind = .function := blockKind_of ok
    unfold swapsWith
    dsimp only
    rewrite [k1, k3]
    rfl

/-- z.set(way, flag, recursive=..) -/
theorem setStmt_W {z : Str} {b : Bool} {p1 p2 p3 p4 p5 p6 p7 p8 : Pos} {k0 : Nat} {Q : CF → CSt → Prop} {lo : Str → Option CV} {x : Addr} {ow : FO} {m : MS} {way : List Str} {g : Int} (ok : C.Ok (dep + 1)) (hk : HK C (scopeOf (lawF 6))) (L : LCtx C cl fa3 fa4 fa5) (hz : ownKind ((scopeOf (lawF 6)).lookup z) = true) (hd : (z == ("__debug__" : Str)) = false) (hc : (z == ("__classdict__" : Str)) = false)
    (F : FM H cl x ow m) (hp : pgood (way, g)) (l0 : lo z = some (.loc x)) (l1 : lo "way" = some (wcv way)) (l2 : lo "flag" = some (.int g)) (hline : (p2.endLine == p7.line) = true)
    (h : ∀ H' ow', FM H' cl x ow' (mset m way g b) → FK H H' ow ow' → Q .next ⟨lo, H'⟩) : WS C (.Expr (.Call (.Attribute (.Name z p1) "set" p2) [.Name "way" p3, .Name "flag" p4] [⟨some "recursive", .Constant (.bool b) k0 p5, p6⟩] p7) p8) ⟨lo, H⟩ Q := by
  refine WS.expr ok (WE.mcall ok (FM.set (key := way) (f := g) (b := b) ok L.fc L.ms F hp fun H' ow' F' K' => ⟨rfl, h H' ow' F' K'⟩) (WE.nm ok hk l0 ⟨rfl, rfl⟩ hz hd hc) (WE.nm ok hk l1 (WE.nm ok hk l2 (in_0_2 rfl rfl (WE.bool ⟨rfl, rfl⟩)))) rfl rfl rfl rfl hline)
end
end Mine
open PySem PySem.W PySem.Calls PyProof.Rows
set_option Elab.async false
set_option linter.all false
set_option maxRecDepth 100000
set_option genSizeOf false
namespace Mine
noncomputable abbrev subA (y : Str) (i : Int) (p1 p2 p3 : Pos) (k : Nat) : Expr := .Subscript (.Name y p1) (.Constant (.int i) k p2) p3
noncomputable abbrev setA (z : Str) (b : Bool) (p1 p2 p3 p4 p5 p6 p7 p8 : Pos) (k0 : Nat) : Stmt := .Expr (.Call (.Attribute (.Name z p1) "set" p2) [.Name "way" p3, .Name "flag" p4] [⟨some "recursive", .Constant (.bool b) k0 p5, p6⟩] p7) p8
section
variable {C C' : Cx} {dep : Nat} {H : CH} {cl fa3 fa4 fa5 D E : Addr}

theorem made1_W {op : BoolOp} {z : Str} {a1 a2 a3 a4 a5 a6 a7 b1 b2 b3 b4 b5 b6 b7 c1 c2 c3 c4 c5 c6 c7 c8 d1 d2 d3 d4 d5 d6 d7 d8 e1 e2 : Pos} {k1 k2 k3 k4 k5 k6 : Nat} {Q : CF → CSt → Prop} {lo : Str → Option CV} {fs : List FSt} {ps : List (Addr × CO)} {i : Nat} {x : Addr} {ow : FO} {m : MS} {way : List Str} {g : Int} {u0 u1 v0 v1 : Bool}
    (ok : C.Ok (dep + 1)) (hk : HK C (scopeOf (lawF 6))) (L : LCtx C cl fa3 fa4 fa5) (hz : ownKind ((scopeOf (lawF 6)).lookup z) = true) (hd : (z == ("__debug__" : Str)) = false) (hc : (z == ("__classdict__" : Str)) = false)
    (W : World H cl fs ps) (hi : fs[i]? = some (x, ow, m)) (hp : pgood (way, g)) (l0 : lo z = some (.loc x)) (l1 : lo "way" = some (wcv way)) (l2 : lo "flag" = some (.int g)) (l3 : lo "here" = some (.lst [.bool u0, .bool u1])) (l4 : lo "below" = some (.lst [.bool v0, .bool v1])) 
    (h1 : (c2.endLine == c7.line) = true) (h2 : (d2.endLine == d7.line) = true)
    (h : ∀ H' ow', World H' cl (fs.set i (x, ow', mk1 m way g (join op v0 v1) (join op u0 u1))) ps → Q .next ⟨lo, H'⟩) :
    WS C (.If (.BoolOp op [subA "below" 0 a1 a2 a3 k1, subA "below" 1 a4 a5 a6 k2] a7) [setA z true c1 c2 c3 c4 c5 c6 c7 c8 k5] [.If (.BoolOp op [subA "here" 0 b1 b2 b3 k3, subA "here" 1 b4 b5 b6 k4] b7) [setA z false d1 d2 d3 d4 d5 d6 d7 d8 k6] [] e1] e2) ⟨lo, H⟩ Q := by
  have F : FM H cl x ow m := W.fm (x, ow, m) (List.mem_of_getElem? hi)
  refine WS.if_ (two_W ok hk (by rfl) (by decide) (by decide) l4 (cB (fun hj => ?_) fun hj => ?_))
  · refine WSs.cons (setStmt_W ok hk L hz hd hc F hp l0 l1 l2 h1 fun H' ow' F' K' => WSs.nil (h H' ow' ?_))
    have := W.call hi F' K'
    rw [hj]; exact this
  · refine WSs.cons (WS.if_ (two_W ok hk (by rfl) (by decide) (by decide) l3 (cB (fun hj2 => ?_) fun hj2 => ?_)))
    · refine WSs.cons (setStmt_W ok hk L hz hd hc F hp l0 l1 l2 h2 fun H' ow' F' K' => WSs.nil (WSs.nil (h H' ow' ?_)))
      have := W.call hi F' K'
      rw [hj, hj2]; exact this
    · refine WSs.nil (WSs.nil (h H ow ?_))
      rw [hj, hj2]
      have e : fs.set i (x, ow, mk1 m way g false false) = fs := by
        (refine el_1_0 (List.getElem?_eq_some_iff.mp hi) fun hlt e => ?_)
        show fs.set i (x, ow, m) = fs
        rw [← e]; exact List.set_getElem_self hlt
      rw [e]; exact W
/-- the four -/
noncomputable def Four (H : CH) (cl x0 x1 xb xe : Addr) (m0 m1 mb me : MS) (ps : List (Addr × CO)) : Prop := ∃ o0 o1 ob oe, World H cl [(x0, o0, m0), (x1, o1, m1), (xb, ob, mb), (xe, oe, me)] ps
noncomputable def mBoth (m0 m1 mb : MS) (q : List Str) (g : Int) : MS := mk1 mb q g (m0.tell (q ++ [("b.a" : Str)]) g && m1.tell (q ++ [("b.a" : Str)]) g) (m0.tell q g && m1.tell q g)
noncomputable def mEither (m0 m1 me : MS) (q : List Str) (g : Int) : MS := mk1 me q g (m0.tell (q ++ [("b.a" : Str)]) g || m1.tell (q ++ [("b.a" : Str)]) g) (m0.tell q g || m1.tell q g)

variable {x0 x1 xb xe : Addr} {m0 m1 : MS} {ps : List (Addr × CO)}
theorem madeStep_W {t it : Expr} {body o : List Stmt} {p : Pos} {Q : CF → CSt → Prop} {lo : Str → Option CV} {way : List Str} {g : Int} {mb me : MS} (ok : C.Ok (dep + 1)) (hk : HK C (scopeOf (lawF 6))) (L : LCtx C cl fa3 fa4 fa5) (e : ∃ t1 it1 o1 p1, nth (bodyOf (lawF 6)) 9 = .For t1 it1 [.For t it body o p] o1 p1)
    (W : Four H cl x0 x1 xb xe m0 m1 mb me ps) (hp : pgood (way, g)) (hl : way.length ≤ 100) (l0 : lo "pair" = some (.lst [.loc x0, .loc x1])) (l1 : lo "way" = some (wcv way)) (l2 : lo "flag" = some (.int g)) (l3 : lo "both" = some (.loc xb)) (l4 : lo "either" = some (.loc xe))
    (h : ∀ H' lo', Four H' cl x0 x1 xb xe m0 m1 (mBoth m0 m1 mb way g) (mEither m0 m1 me way g) ps → (∀ y : Str, y ≠ "here" → y ≠ "below" → lo' y = lo y) → Q .next ⟨lo', H'⟩) : WSs C body ⟨lo, H⟩ Q := by
  apply forE6 (t := t) (it := it) (body := body) (o := o) (p := p) e
  (revert W; intro hfEl; refine el_4_0 hfEl fun o0 o1' ob oe W => ?_; try clear hfEl)
  have hf : ∀ f ∈ [(x0, o0, m0), (x1, o1', m1)], FM H cl f.1 f.2.1 f.2.2 := fun f hf => W.fm f (by
    simp only [List.mem_cons, List.not_mem_nil, or_false] at hf ⊢
    rcases hf with rfl | rfl <;> simp)
  refine WSs.cons (here_W (fs := [(x0, o0, m0), (x1, o1', m1)]) (way := way) (g := g) ok hk L (in_8_0 _ _ _ _ _ _ _ _ rfl) hf (by simp) hl l0 l1 l2 ?_)
  refine WSs.cons (below_W (fs := [(x0, o0, m0), (x1, o1', m1)]) (way := way) (g := g) ok hk L (in_8_0 _ _ _ _ _ _ _ _ rfl) hf (by simp) hl l0 l1 l2 ?_)
  refine WSs.cons (made1_W (op := .And) (z := "both") (i := 2) (way := way) (g := g) (dep := dep) ok hk L (by rfl) (by decide) (by decide) W rfl hp l3 l1 l2 rfl rfl rfl rfl fun H2 ob2 W2 => ?_)
  refine WSs.cons (made1_W (op := .Or) (z := "either") (i := 3) (way := way) (g := g) (dep := dep) ok hk L (by rfl) (by decide) (by decide) W2 rfl hp l4 l1 l2 rfl rfl rfl rfl fun H3 oe2 W3 => WSs.nil ?_)
  exact h H3 _ (in_4_0 _ _ _ _ W3) fun y n1 n2 => by simp [lput, n1, n2]
end
end Mine
open PySem PySem.W PySem.Calls PyProof.Rows
set_option Elab.async false
set_option linter.all false
set_option maxRecDepth 100000
set_option genSizeOf false
namespace Mine
/-- a way that is asked -/
noncomputable def isB (w : List Str) : Bool := !decide (w = []) && !decide (w.getLast? = some ("b.a" : Str))
noncomputable def madeAll (f : MS → List Str → Int → MS) (m : MS) (bs : List (List Str)) : MS := bs.foldl (fun m q => f (f m q 0) q 1) m
section
variable {C C' : Cx} {dep : Nat} {H : CH} {cl fa3 fa4 fa5 D E : Addr}

theorem asked_W {elt t : Expr} {ifs : List Expr} {Q : List CV → CSt → Prop} (ok : C.Ok dep) (hkp : C.env.kindOf "w" = some .local) (e : ∃ t1 it sc p b o p1, nth (bodyOf (lawF 6)) 9 = .For t1 (.ListComp elt [⟨t, it, ifs, 0⟩] sc p) b o p1) :
    ∀ (qs : List (List Str)) (acc : List CV) (lo : Str → Option CV), acc.length + qs.length ≤ 100000 → (∀ q ∈ qs, q.all PyData.strOk = true ∧ q.length ≤ 1000) → (∀ lo', Q (acc ++ (qs.filter isB).map wcv) ⟨lo', H⟩) → WCI C (emitOf C elt []) t ifs (qs.map wcv) ⟨lo, H⟩ acc Q := by
  apply compE2 (elt := elt) (t := t) (ifs := ifs) e
  intro qs
  induction qs with
  | nil => intro acc lo _ _ q; have := q lo; simpa [WCI] using this
  | cons x qs ih =>
    intro acc lo hl hqs q
    simp only [List.length_cons] at hl
    (refine el_0_1 (hqs x List.mem_cons_self) fun hx hxl => ?_)
    have ih' := fun acc' h => ih acc' (lput lo "w" (wcv x)) h (fun r hr => hqs r (List.mem_cons_of_mem _ hr))
    refine WA.name ok (by rw [hkp]; rfl) ?_
    refine WT.boolop (WT.cmp1 (WE.name ok.fun_ (v := wcv x) rfl (WE.tuple ⟨by simp, W2.neP ok (isPy_wcv hx) (b := wcv []) rfl (depth_wcv x) (Wtr.bool ?_)⟩) (by rw [hkp]; rfl)))
    rw [ceq_wcv]
    by_cases hx0 : x = []
    · rw [decide_eq_true hx0]
      refine cF (cF ?_)
      refine ih' acc (by (exact Nat.le_of_lt (by assumption))) fun lo' => ?_
      have := q lo'
      simpa [isB, hx0] using this
    · rw [decide_eq_false hx0]
      have hlast : (x.map CV.str)[cidx (x.map CV.str).length (-1)]? = some (.str (x.getLast hx0)) := by
        have hpos := List.length_pos_iff.mpr hx0
        have : cidx (x.map CV.str).length (-1) = x.length - 1 := (cidx_last (by rw [List.length_map]; exact hpos)).trans (by rw [List.length_map])
        rw [this, List.getElem?_map, List.getLast_eq_getElem]
        simp [show x.length - 1 < x.length by (exact Nat.sub_lt_sub_left (by assumption) (Nat.lt_succ_self _))]
      have hpos := List.length_pos_iff.mpr hx0
      have hlok : PyData.strOk (x.getLast hx0) = true := List.all_eq_true.mp hx _ (List.getLast_mem hx0)
      refine WT.cmp1 (WE.sub (WE.name ok.fun_ (v := wcv x) rfl (WE.neg1 (W2.itemT (by simp; (exact Int.ofNat_le.mpr (by assumption))) (by simp; (exact Int.natCast_nonneg _)) (by simp; omega) hlast (WE.str (W2.neP ok ?_ ?_ ?_ (Wtr.bool ?_))))) (by rw [hkp]; rfl)))
      · assumption
      · decide +kernel
      · simp [toPy, PyData.depth]
      have hc : ceq (.str (x.getLast hx0)) (.str "b.a") = decide (x.getLast? = some ("b.a" : Str)) := by
        rw [List.getLast?_eq_some_getLast hx0]
        simp only [ceq, toPy, PyData.eqv, Option.some.injEq]
        rw [Bool.eq_iff_iff]; rfl
      rw [hc]
      by_cases hb : x.getLast? = some ("b.a" : Str)
      · rw [decide_eq_true hb]
        refine cF (cF ?_)
        refine ih' acc (by (exact Nat.le_of_lt (by assumption))) fun lo' => ?_
        have := q lo'
        simpa [isB, hx0, hb] using this
      · rw [decide_eq_false hb]
        refine WE.name ok.fun_ (v := wcv x) rfl ⟨by omega, ?_⟩ (by rw [hkp]; rfl)
        refine ih' (acc ++ [wcv x]) (by simp; omega) fun lo' => ?_
        have := q lo'
        simpa [isB, hx0, hb] using this

variable {x0 x1 xb xe : Addr} {m0 m1 : MS} {ps : List (Addr × CO)}
theorem madeLoop_W {t : Expr} {body : List Stmt} {Q : CF → CSt → Prop} (ok : C.Ok (dep + 1)) (hk : HK C (scopeOf (lawF 6))) (L : LCtx C cl fa3 fa4 fa5) (e : ∃ it o p, nth (bodyOf (lawF 6)) 9 = .For t it body o p) :
    ∀ (bs : List (List Str)) (H : CH) (lo : Str → Option CV) (mb me : MS), Four H cl x0 x1 xb xe m0 m1 mb me ps → (∀ q ∈ bs, pgood (q, 0) ∧ q.length ≤ 100) → lo "pair" = some (.lst [.loc x0, .loc x1]) → lo "both" = some (.loc xb) → lo "either" = some (.loc xe) →
      (∀ H' lo', Four H' cl x0 x1 xb xe m0 m1 (madeAll (mBoth m0 m1) mb bs) (madeAll (mEither m0 m1) me bs) ps → (∀ y : Str, y ≠ "here" → y ≠ "below" → y ≠ "way" → y ≠ "flag" → lo' y = lo y) → Q .next ⟨lo', H'⟩) → WFor C t body [] (bs.map wcv) ⟨lo, H⟩ Q := by
  apply forE (t := t) (body := body) e
  intro bs
  induction bs with
  | nil => intro H lo mb me W _ _ _ _ q; exact WSs.nil (q H lo W fun _ _ _ _ _ => rfl)
  | cons w bs ih =>
    intro H lo mb me W hb l0 l3 l4 q
    (refine el_0_1 (hb w List.mem_cons_self) fun hp hl => ?_)
    have hp1 : pgood (w, 1) := (in_0_3 hp.1 hp.2.1 hp.2.2.1 (by simp [fnums]))
    refine WA.nm ok hk (WSs.cons (WS.for_ ok (WE.listF (WE.int (WE.int (in_0_1 (by decide) (in_1_1 _ IterOf.lst (WA.nm ok hk ?_))))))))
    refine madeStep_W (way := w) (g := 0) (x0 := x0) (x1 := x1) (xb := xb) (xe := xe) (ps := ps) ok hk L (in_4_0 _ _ _ _ rfl) W hp hl l0 rfl rfl l3 l4 fun H1 lo1 W1 k1 => WA.nm ok hk ?_
    have l0' := (k1 "pair" (by decide) (by decide)).trans l0
    have l1' := (k1 "way" (by decide) (by decide)).trans (rfl : _ = some (wcv w))
    have l3' := (k1 "both" (by decide) (by decide)).trans l3
    have l4' := (k1 "either" (by decide) (by decide)).trans l4
    refine madeStep_W (way := w) (g := 1) (x0 := x0) (x1 := x1) (xb := xb) (xe := xe) (ps := ps) ok hk L (in_4_0 _ _ _ _ rfl) W1 hp1 hl l0' l1' rfl l3' l4' fun H2 lo2 W2 k2 => WSs.nil (WSs.nil ?_)
    have go : ∀ y : Str, y ≠ "here" → y ≠ "below" → y ≠ "way" → y ≠ "flag" → lo2 y = lo y := fun y h1 h2 h3 h4 => by
      rw [k2 y h1 h2]; simp [CSt.put, lput, h4]
      rw [k1 y h1 h2]; simp [CSt.put, lput, h3, h4]
    refine ih H2 lo2 _ _ W2 (fun r hr => hb r (List.mem_cons_of_mem _ hr)) ((go _ (by decide) (by decide) (by decide) (by decide)).trans l0) ((go _ (by decide) (by decide) (by decide) (by decide)).trans l3) ((go _ (by decide) (by decide) (by decide) (by decide)).trans l4) fun H3 lo3 W3 k3 => ?_
    exact q H3 lo3 W3 fun y h1 h2 h3 h4 => (k3 y h1 h2 h3 h4).trans (go y h1 h2 h3 h4)

theorem made_W {Q : CF → CSt → Prop} {lo : Str → Option CV} {ways : List (List Str)} {mb me : MS} (ok : C.Ok (dep + 1)) (hk : HK C (scopeOf (lawF 6))) (L : LCtx C cl fa3 fa4 fa5) (wo : WaysOk ways) (hb : ∀ q ∈ ways.filter isB, pgood (q, 0) ∧ q.length ≤ 100)
    (W : Four H cl x0 x1 xb xe m0 m1 mb me ps) (l0 : lo "pair" = some (.lst [.loc x0, .loc x1])) (l1 : lo "ways" = some (.lst (ways.map wcv))) (l3 : lo "both" = some (.loc xb)) (l4 : lo "either" = some (.loc xe))
    (h : ∀ H' lo', Four H' cl x0 x1 xb xe m0 m1 (madeAll (mBoth m0 m1) mb (ways.filter isB)) (madeAll (mEither m0 m1) me (ways.filter isB)) ps → (∀ y : Str, y ≠ "here" → y ≠ "below" → y ≠ "way" → y ≠ "flag" → lo' y = lo y) → Q .next ⟨lo', H'⟩) : WS C (nth (bodyOf (lawF 6)) 9) ⟨lo, H⟩ Q := by
  refine WS.for_ ok (WE.comp ok (WE.nm ok hk l1 (in_1_1 _ IterOf.lst (fun C' ok' s hsc => ?_))) (by rfl))
  have kx : ∀ y, C'.env.kindOf y = _ := fun y => by unfold Env.kindOf; rw [hsc, relabel_lookup]
  refine asked_W ok' (by rw [kx]; rfl) (in_7_0 _ _ _ _ _ _ _ rfl) ways [] _ (by have := wo.n; simp; (exact Nat.le_trans (by assumption) (by decide))) (fun q hq => ⟨wo.ok q hq, wo.len q hq⟩) fun lo' => ⟨fun y hy => by have := mem_of_lookupK hy; simp at this, .inl (in_1_1 _ IterOf.lst ?_)⟩
  rw [List.nil_append]
  exact madeLoop_W (x0 := x0) (x1 := x1) (xb := xb) (xe := xe) (ps := ps) ok hk L (in_3_0 _ _ _ rfl) _ H lo mb me W hb l0 l3 l4 h
end
end Mine
open PySem PySem.W PySem.Calls PyProof.Rows
set_option Elab.async false
set_option linter.all false
set_option maxRecDepth 100000
set_option genSizeOf false
namespace Mine
theorem tdo_and1 {T A B : List Str → Int → Bool} {w : List (List Str × Int)} {c : Int × List Str × Int} {S : List Str → Prop} {g : Int} (h : ∀ q, S q → T q g = (A q g && B q g)) (hc : S (c.2.1.dropLast ++ [("b.a" : Str)])) (q : List Str) (hq : S q) :
    tdo T w c q g = (tdo A w c q g && tdo B w c q g) := by
  unfold tdo
  rw [h q hq, h _ hc]
  split
  · rfl
  · split
    · cases A q g <;> cases B q g <;> simp
    · split
      · split <;> rfl
      · generalize ((if c.1 = 1 then c.2.1.isPrefixOf q else decide (q = c.2.1)) && decide (g = c.2.2)) = b
        cases A q g <;> cases B q g <;> cases b <;> rfl
theorem tdo_or1 {T A B : List Str → Int → Bool} {w : List (List Str × Int)} {c : Int × List Str × Int} {S : List Str → Prop} {g : Int} (h : ∀ q, S q → T q g = (A q g || B q g)) (hc : S (c.2.1.dropLast ++ [("b.a" : Str)])) (q : List Str) (hq : S q) :
    tdo T w c q g = (tdo A w c q g || tdo B w c q g) := by
  unfold tdo
  rw [h q hq, h _ hc]
  split
  · rfl
  · split
    · cases A q g <;> cases B q g <;> simp
    · split
      · split <;> rfl
      · generalize ((if c.1 = 1 then c.2.1.isPrefixOf q else decide (q = c.2.1)) && decide (g = c.2.2)) = b
        cases A q g <;> cases B q g <;> cases b <;> rfl
section
variable {C C' : Cx} {dep : Nat} {H : CH} {cl fa3 fa4 fa5 D E : Addr} {x0 x1 xb xe : Addr} {m0 m1 mb me : MS} {ps : List (Addr × CO)}

theorem checkStep_W {t it : Expr} {body o : List Stmt} {p : Pos} {Q : CF → CSt → Prop} {lo : Str → Option CV} {ways : List (List Str)} {T0 T1 : List Str → Int → Bool} {w0 w1 : List (List Str × Int)} {q : List Str} {k : Nat} {g : Int} (ok : C.Ok (dep + 1)) (hk : HK C (scopeOf (lawF 6))) (L : LCtx C cl fa3 fa4 fa5) (wo : WaysOk ways)
    (e : ∃ t1 it1 o1 p1 a b c t2 it2 o2 p2, nth (bodyOf (lawF 6)) 10 = .For t1 it1 [a, b, c, .For t2 it2 [.For t it body o p] o2 p2] o1 p1)
    (W : Four H cl x0 x1 xb xe m0 m1 mb me (cells D E ways [(T0, w0), (T1, w1)])) (hq : ways[k]? = some q) (hg : g = 0 ∨ g = 1) (hb : mb.tell q g = (T0 q g && T1 q g)) (he : me.tell q g = (T0 q g || T1 q g))
    (l1 : lo "ways" = some (.lst (ways.map wcv))) (l2 : lo "dues" = some (.loc D)) (l3 : lo "both" = some (.loc xb)) (l4 : lo "either" = some (.loc xe)) (l5 : lo "k" = some (.int k)) (l6 : lo "flag" = some (.int g))
    (h : ∀ lo', (∀ y : Str, y ≠ "one" → y ≠ "other" → lo' y = lo y) → Q .next ⟨lo', H⟩) : WSs C body ⟨lo, H⟩ Q := by
  apply forE7 (body := body) e
  (revert W; intro hfEl; refine el_4_0 hfEl fun w0' w1' wb we W => ?_; try clear hfEl)
  (refine el_1_0 (List.getElem?_eq_some_iff.mp hq) fun hlt hqe => ?_)
  have hn := wo.n
  have hql := wo.len q (hqe ▸ List.getElem_mem hlt)
  have hD : H D = some (dcell ways [(T0, w0), (T1, w1)]) := W.cell (D, dcell ways [(T0, w0), (T1, w1)]) List.mem_cons_self
  have Fb : FM H cl xb wb mb := W.fm (xb, wb, mb) (by simp)
  have Fe : FM H cl xe we me := W.fm (xe, we, me) (by simp)
  have hrow : ∀ T : List Str → Int → Bool, (row T q)[cidx (row T q).length g]? = some (.bool (T q g)) := fun T => by rcases hg with rfl | rfl <;> rfl
  have hrows : ∀ T : List Str → Int → Bool, (ways.map fun q => CV.lst (row T q))[cidx (ways.map fun q => CV.lst (row T q)).length (k : Int)]? = some (.lst (row T q)) := fun T => by simp only [cidx_nat, List.getElem?_map, hq]; rfl
  have hways : (ways.map wcv)[cidx (ways.map wcv).length (k : Int)]? = some (wcv q) := by simp only [cidx_nat, List.getElem?_map, hq]; rfl
  have hrl : ∀ T : List Str → Int → Bool, -((row T q).length : Int) ≤ g ∧ g < ((row T q).length : Int) ∧ ((row T q).length : Int) < 2 ^ 62 := fun T => by rcases hg with rfl | rfl <;> simp [row]
  refine WSs.cons (WS.swap2 ok (WE.tuple ?_) (by rw [hk]; rfl) (by rw [hk]; rfl) rfl ?_)
  case refine_2 =>
    have k1 : C.env.kindOf "one" = some .local := by rw [hk]; rfl
    have k2 : C.env.kindOf "other" = some .local := by rw [hk]; rfl
    have k3 : C.env.blockKind = .function := blockKind_of ok
    unfold swappedStores
    dsimp only [List.filterMap]
    simp only [k1, k2, k3]
    rfl
  refine WE.sub (WE.sub (WE.sub (WE.nm ok hk l2 (WE.int (W2.itemLoc (c := toldC ways T0) hD (by simp) (by simp) (by simp) rfl (WE.nm ok hk l5 (W2.itemL (c := .lst (row T0 q)) (by simp <;> omega) (by simp <;> omega +splitDisjunctions) (by simp <;> omega) (hrows T0) (WE.nm ok hk l6 (W2.itemL (c := .bool (T0 q g)) (hrl T0).1 (hrl T0).2.1 (hrl T0).2.2 (hrow T0) ?_)))))))))
  refine WE.sub (WE.sub (WE.sub (WE.nm ok hk l2 (WE.int (W2.itemLoc (c := toldC ways T1) hD (by simp) (by simp) (by simp) rfl (WE.nm ok hk l5 (W2.itemL (c := .lst (row T1 q)) (by simp <;> omega) (by simp <;> omega +splitDisjunctions) (by simp <;> omega) (hrows T1) (WE.nm ok hk l6 (W2.itemL (c := .bool (T1 q g)) (hrl T1).1 (hrl T1).2.1 (hrl T1).2.2 (hrow T1) (in_0_1 (by simp) (in_2_1 _ _ rfl ?_)))))))))))
  have arg : ∀ {p1 p2 p3 p4 : Pos} {lo' : Str → Option CV}, lo' "ways" = some (.lst (ways.map wcv)) → lo' "k" = some (.int k) → lo' "flag" = some (.int g) → WEs C [.Subscript (.Name "ways" p1) (.Name "k" p2) p3, .Name "flag" p4] ⟨lo', H⟩ (fun as st1 => as = [wcv q, .int g] ∧ st1 = ⟨lo', H⟩ ∧ WEs C (([] : List Keyword).map (·.value)) ⟨lo', H⟩ (fun ks st2 => ks = [] ∧ st2 = ⟨lo', H⟩)) := fun h1 h2 h3 =>
    WE.sub (WE.nm ok hk h1 (WE.nm ok hk h2 (W2.itemL (c := wcv q) (by simp <;> omega) (by simp <;> omega +splitDisjunctions) (by simp <;> omega) hways (WE.nm ok hk h3 (in_0_3 rfl rfl rfl rfl)))))
  refine WSs.cons (WS.if_ (WT.cmp1 (WE.mcall ok (FM.is (key := q) (f := g) (dep := dep) ok L.fc L.ms Fb hql ?_) (WE.nm ok hk (v := .loc xb) l3 ⟨rfl, rfl⟩) (arg l1 l5 l6))))
  refine WE.boolop (WE.nm ok hk (v := .bool (T0 q g)) rfl (Wtr.bool ?_))
  rw [hb]
  have fin : Q .next ⟨lput (lput lo "other" (.bool (T1 q g))) "one" (.bool (T0 q g)), H⟩ := h _ fun y n1 n2 => by simp [lput, n1, n2]
  cases h0 : T0 q g with
  | true =>
    rw [h0] at fin
    refine WE.nm ok hk (v := .bool (T1 q g)) rfl (W2.isNotB (Wtr.bool (cB (fun hh => by simp at hh) fun _ => WSs.nil ?_)))
    refine WSs.cons (WS.if_ (WT.cmp1 (WE.mcall ok (FM.is (key := q) (f := g) (dep := dep) ok L.fc L.ms Fe hql ?_) (WE.nm ok hk (v := .loc xe) l4 ⟨rfl, rfl⟩) (arg l1 l5 l6))))
    refine WE.boolop (WE.nm ok hk (v := .bool true) rfl (Wtr.bool ?_))
    rw [he, h0]
    refine W2.isNotB (Wtr.bool (cB (fun hh => by simp at hh) fun _ => WSs.nil (WSs.nil fin)))
  | false =>
    rw [h0] at fin
    refine W2.isNotB (Wtr.bool (cB (fun hh => by simp at hh) fun _ => WSs.nil ?_))
    refine WSs.cons (WS.if_ (WT.cmp1 (WE.mcall ok (FM.is (key := q) (f := g) (dep := dep) ok L.fc L.ms Fe hql ?_) (WE.nm ok hk (v := .loc xe) l4 ⟨rfl, rfl⟩) (arg l1 l5 l6))))
    refine WE.boolop (WE.nm ok hk (v := .bool false) rfl (Wtr.bool ?_))
    rw [he, h0]
    refine WE.nm ok hk (v := .bool (T1 q g)) rfl (W2.isNotB (Wtr.bool (cB (fun hh => by simp at hh) fun _ => WSs.nil (WSs.nil fin))))
end
end Mine
open PySem PySem.W PySem.Calls PyProof.Rows
set_option Elab.async false
set_option linter.all false
set_option maxRecDepth 100000
set_option genSizeOf false
namespace Mine
section
variable {C C' : Cx} {dep : Nat} {H : CH} {cl fa3 fa4 fa5 D E : Addr} {x0 x1 xb xe : Addr} {m0 m1 mb me : MS} {ps : List (Addr × CO)}

theorem checkLoop_W {t : Expr} {body : List Stmt} {Q : CF → CSt → Prop} {ways : List (List Str)} {T0 T1 : List Str → Int → Bool} {w0 w1 : List (List Str × Int)} (ok : C.Ok (dep + 1)) (hk : HK C (scopeOf (lawF 6))) (L : LCtx C cl fa3 fa4 fa5) (wo : WaysOk ways)
    (e : ∃ t1 it1 o1 p1 a b c it o p, nth (bodyOf (lawF 6)) 10 = .For t1 it1 [a, b, c, .For t it body o p] o1 p1)
    (W : Four H cl x0 x1 xb xe m0 m1 mb me (cells D E ways [(T0, w0), (T1, w1)])) (hb : ∀ q ∈ ways, ∀ g : Int, g = 0 ∨ g = 1 → mb.tell q g = (T0 q g && T1 q g)) (he : ∀ q ∈ ways, ∀ g : Int, g = 0 ∨ g = 1 → me.tell q g = (T0 q g || T1 q g)) :
    ∀ (n k : Nat) (lo : Str → Option CV), k + n = ways.length → lo "ways" = some (.lst (ways.map wcv)) → lo "dues" = some (.loc D) → lo "both" = some (.loc xb) → lo "either" = some (.loc xe) →
    (∀ lo', (∀ y : Str, y ≠ "one" → y ≠ "other" → y ≠ "k" → y ≠ "flag" → lo' y = lo y) → Q .next ⟨lo', H⟩) → WFor C t body [] ((List.range' k n).map fun i => CV.int (i : Nat)) ⟨lo, H⟩ Q := by
  apply forE4 (t := t) (body := body) e
  intro n
  induction n with
  | zero => intro k lo _ _ _ _ _ h; exact WSs.nil (h lo fun _ _ _ _ _ => rfl)
  | succ n ih =>
    intro k lo hkn l1 l2 l3 l4 h
    have hlt : k < ways.length := by omega
    have hq : ways[k]? = some ways[k] := List.getElem?_eq_getElem hlt
    have hm : ways[k] ∈ ways := List.getElem_mem hlt
    rw [List.range'_succ, List.map_cons]
    refine WA.nm ok hk (WSs.cons (WS.for_ ok (WE.listF (WE.int (WE.int (in_0_1 (by decide) (in_1_1 _ IterOf.lst (WA.nm ok hk ?_))))))))
    refine checkStep_W (g := 0) (q := ways[k]) (k := k) (x0 := x0) (x1 := x1) (xb := xb) (xe := xe) (D := D) (E := E) ok hk L wo (in_11_0 _ _ _ _ _ _ _ _ _ _ _ rfl) W hq (.inl rfl) (hb _ hm 0 (.inl rfl)) (he _ hm 0 (.inl rfl)) l1 l2 l3 l4 rfl rfl fun lo1 k1 => WA.nm ok hk ?_
    have go1 : ∀ y : Str, y ≠ "one" → y ≠ "other" → y ≠ "k" → y ≠ "flag" → lo1 y = lo y := fun y h1 h2 h3 h4 => by
      rw [k1 y h1 h2]; simp [CSt.put, lput, h3, h4]
    have lk : lo1 "k" = some (.int (k : Nat)) := (k1 "k" (by decide) (by decide)).trans rfl
    refine checkStep_W (g := 1) (q := ways[k]) (k := k) (x0 := x0) (x1 := x1) (xb := xb) (xe := xe) (D := D) (E := E) ok hk L wo (in_11_0 _ _ _ _ _ _ _ _ _ _ _ rfl) W hq (.inr rfl) (hb _ hm 1 (.inr rfl)) (he _ hm 1 (.inr rfl)) ((go1 _ (by decide) (by decide) (by decide) (by decide)).trans l1) ((go1 _ (by decide) (by decide) (by decide) (by decide)).trans l2) ((go1 _ (by decide) (by decide) (by decide) (by decide)).trans l3) ((go1 _ (by decide) (by decide) (by decide) (by decide)).trans l4) lk rfl fun lo2 k2 => WSs.nil (WSs.nil ?_)
    have go2 : ∀ y : Str, y ≠ "one" → y ≠ "other" → y ≠ "k" → y ≠ "flag" → lo2 y = lo y := fun y h1 h2 h3 h4 => by
      rw [k2 y h1 h2]; simp [CSt.put, lput, h4]; exact go1 y h1 h2 h3 h4
    exact ih (k + 1) lo2 (by omega) ((go2 _ (by decide) (by decide) (by decide) (by decide)).trans l1) ((go2 _ (by decide) (by decide) (by decide) (by decide)).trans l2) ((go2 _ (by decide) (by decide) (by decide) (by decide)).trans l3) ((go2 _ (by decide) (by decide) (by decide) (by decide)).trans l4) fun lo3 k3 => h lo3 fun y h1 h2 h3 h4 => (k3 y h1 h2 h3 h4).trans (go2 y h1 h2 h3 h4)

/-- what holds between the last calls -/
structure Joined (ways : List (List Str)) (mb me : MS) (T0 T1 : List Str → Int → Bool) (w : List (List Str × Int)) (n : Nat) : Prop where
  b : ∀ q ∈ ways, ∀ g : Int, g = 0 ∨ g = 1 → mb.tell q g = (T0 q g && T1 q g)
  e : ∀ q ∈ ways, ∀ g : Int, g = 0 ∨ g = 1 → me.tell q g = (T0 q g || T1 q g)
  wb : mb.w = w
  we : me.w = w
  ob : MOk ways mb n
  oe : MOk ways me n
theorem Joined.do {ways : List (List Str)} {T0 T1 : List Str → Int → Bool} {w : List (List Str × Int)} {n : Nat} {c : Int × List Str × Int} (J : Joined ways mb me T0 T1 w n) (hc : CallOk ways c) : Joined ways (mb.do c) (me.do c) (tdo T0 w c) (tdo T1 w c) (wdo w c) (n + 1) := by
  refine ⟨fun q hq g hg => ?_, fun q hq g hg => ?_, by rw [MS.do_w, J.wb], by rw [MS.do_w, J.we], J.ob.do hc, J.oe.do hc⟩
  · rw [tell_do J.ob.clean hc.good, J.wb]
    exact tdo_and1 (S := (· ∈ ways)) (fun q hq => J.b q hq g hg) hc.up q hq
  · rw [tell_do J.oe.clean hc.good, J.we]
    exact tdo_or1 (S := (· ∈ ways)) (fun q hq => J.e q hq g hg) hc.up q hq

theorem lastLoop_W {t : Expr} {body : List Stmt} {Q : CF → CSt → Prop} {ways : List (List Str)} (ok : C.Ok (dep + 3)) (hk : HK C (scopeOf (lawF 6))) (L : LCtx C cl fa3 fa4 fa5) (wo : WaysOk ways)
    (e : ∃ it o p, nth (bodyOf (lawF 6)) 10 = .For t it body o p) :
    ∀ (cs : List (Int × List Str × Int)) (H : CH) (lo : Str → Option CV) (mb me : MS) (T0 T1 : List Str → Int → Bool) (w : List (List Str × Int)) (n : Nat), Four H cl x0 x1 xb xe m0 m1 mb me (cells D E ways [(T0, w), (T1, w)]) → Joined ways mb me T0 T1 w n → n + cs.length ≤ 900 → (∀ c ∈ cs, CallOk ways c) →
      lo "ways" = some (.lst (ways.map wcv)) → lo "dues" = some (.loc D) → lo "waits" = some (.loc E) → lo "both" = some (.loc xb) → lo "either" = some (.loc xe) →
      (∀ H' lo', Q .next ⟨lo', H'⟩) → WFor C t body [] (cs.map callC) ⟨lo, H⟩ Q := by
  apply forE (t := t) (body := body) e
  have keep4 : keepIn C.K (.ref fa4) = true := by (refine el_1_0 L.f4 fun fd l => ?_); exact l.keep
  intro cs
  induction cs with
  | nil => intro H lo mb me T0 T1 w n W J hn hc l1 l2 l3 l4 l5 q; exact WSs.nil (q H lo)
  | cons c cs ih =>
    intro H lo mb me T0 T1 w n W J hn hc l1 l2 l3 l4 l5 q
    simp only [List.length_cons] at hn
    have hc1 := hc c List.mem_cons_self
    (revert W; intro hfEl; refine el_4_0 hfEl fun o0 o1 ob oe W => ?_; try clear hfEl)
    have nb := J.ob.n
    have ne := J.oe.n
    have nw : w.length ≤ n := by rw [← J.wb]; exact nb
    have ws : ∀ u ∈ w, u.1 ∈ ways ∧ (u.2 = 0 ∨ u.2 = 1) := by rw [← J.wb]; exact J.ob.ws
    have Fb : FM H cl xb ob mb := W.fm (xb, ob, mb) (by simp)
    refine WA.nm ok hk ?_
    refine WSs.cons (WS.expr ok (WE.call ok (WE.glob ok L.g (v := .ref fa4) rfl (in_1_2 _ rfl (KpOk.ref keep4) (WE.nm ok hk (v := .loc xb) l4 (WE.nm ok hk rfl (L.do ok Fb hc1.good J.ob.clean.2 (by omega) fun H1 ob1 F1 K1 => ⟨rfl, ?_⟩)))) (by rw [hk]; rfl))))
    have W1 := W.call (i := 2) rfl F1 K1
    have Fe : FM H1 cl xe oe me := W1.fm (xe, oe, me) (by simp)
    refine WSs.cons (WS.expr ok (WE.call ok (WE.glob ok L.g (v := .ref fa4) rfl (in_1_2 _ rfl (KpOk.ref keep4) (WE.nm ok hk (v := .loc xe) l5 (WE.nm ok hk rfl (L.do ok Fe hc1.good J.oe.clean.2 (by omega) fun H2 oe1 F2 K2 => ⟨rfl, ?_⟩)))) (by rw [hk]; rfl))))
    have W2 := W1.call (i := 3) rfl F2 K2
    refine WSs.cons (WS.for_ ok (WE.listF (WE.int (WE.int (in_0_1 (by decide) (in_1_1 _ IterOf.lst (WA.nm ok hk ?_)))))))
    refine WSs.cons (nextAssign_W (k := 0) (dep := dep + 2) ok hk L wo hc1 ws (by omega) W2 (by simp) (T := T0) (w := w) rfl l1 l2 l3 rfl rfl fun H3 W3 => WSs.nil (WA.nm ok hk ?_))
    refine WSs.cons (nextAssign_W (k := 1) (dep := dep + 2) ok hk L wo hc1 ws (by omega) W3 (by simp) (T := T1) (w := w) rfl l1 l2 l3 rfl rfl fun H4 W4 => WSs.nil (WSs.nil ?_))
    have J' := J.do hc1
    have hn2 := wo.n
    refine WSs.cons (WS.for_ ok (WE.call ok (WE.glob ok L.g (v := .type "range") rfl (in_1_2 _ rfl KpOk.type (WE.call ok (WE.glob ok L.g (v := .builtin "len") rfl (in_1_2 _ rfl KpOk.builtin (WE.nm ok hk l1 (WCall.lenL (by simp; (exact Nat.le_trans (by assumption) (by decide))) (WCall.range1 (in_1_1 _ (IterOf.rng (by decide) (by simp <;> omega)) ?_))))) (by rw [hk]; rfl)))) (by rw [hk]; rfl))))
    have er : rints 0 ((ways.map wcv).length : Int) = (List.range' 0 ways.length).map fun i => CV.int (i : Nat) := by
      simp [rints, List.range_eq_range']
    rw [er]
    have W5 : Four H4 cl x0 x1 xb xe m0 m1 (mb.do c) (me.do c) (cells D E ways [(tdo T0 w c, wdo w c), (tdo T1 w c, wdo w c)]) := (in_4_0 _ _ _ _ W4)
    refine checkLoop_W (dep := dep + 2) (x0 := x0) (x1 := x1) (xb := xb) (xe := xe) (D := D) (E := E) ok hk L wo (in_10_0 _ _ _ _ _ _ _ _ _ _ rfl) W5 J'.b J'.e ways.length 0 _ (by simp) l1 l2 l4 l5 fun lo5 k5 => WSs.nil ?_
    refine ih H4 lo5 _ _ _ _ _ (n + 1) W5 J' (by omega) (fun d hd => hc d (List.mem_cons_of_mem _ hd)) ?_ ?_ ?_ ?_ ?_ q
    · exact (k5 _ (by decide) (by decide) (by decide) (by decide)).trans l1
    · exact (k5 _ (by decide) (by decide) (by decide) (by decide)).trans l2
    · exact (k5 _ (by decide) (by decide) (by decide) (by decide)).trans l3
    · exact (k5 _ (by decide) (by decide) (by decide) (by decide)).trans l4
    · exact (k5 _ (by decide) (by decide) (by decide) (by decide)).trans l5
end
end Mine
open PySem PySem.W PySem.Calls PyProof.Rows
set_option Elab.async false
set_option linter.all false
set_option maxRecDepth 100000
set_option genSizeOf false
namespace Mine
theorem callOf_good (x : Int) : cgood (callOf x) ∧ cway (callOf x) ∧ ((callOf x).2.2 = 0 ∨ (callOf x).2.2 = 1) := by
  have hlen : (callOf x).2.1.length = ((x / 10) % 3 + 1).toNat := wayOf_length _ _
  have hmem : ∀ k ∈ (callOf x).2.1, k ∈ fnames := wayOf_mem _ _
  have h2 : (callOf x).2.2 = x / 5 % 2 := rfl
  have h1 : (callOf x).1 = x % 5 := rfl
  have hf : (callOf x).2.2 = 0 ∨ (callOf x).2.2 = 1 := by rw [h2]; omega
  refine (in_0_2 (in_0_5 (by rw [h1]; (exact Int.emod_nonneg _ (by decide))) (by rw [h1]; (exact Int.emod_lt_of_pos _ (by decide))) (fun e => ?_) (by show (callOf x).2.1.length ≤ 1000; rw [hlen]; omega) hmem ?_) ⟨by rw [hlen]; omega, hmem⟩ hf)
  · have e' : (callOf x).2.1 = [] := e
    rw [e'] at hlen; simp at hlen; omega
  · show (callOf x).2.2 ∈ fnums
    rcases hf with h | h <;> rw [h] <;> decide

theorem mem_wstep {ways : List (List Str)} {q p : List Str} : p ∈ wstep ways q ↔ p ∈ ways ∨ p = q ∨ p = q ++ [("b.a" : Str)] := by
  unfold wstep
  rw [List.mem_append, List.mem_filter]
  simp only [List.mem_cons, List.not_mem_nil, or_false, Bool.not_eq_true', decide_eq_false_iff_not]
  constructor
  · rintro (h | ⟨h, _⟩)
    · exact .inl h
    · exact .inr h
  · rintro (h | h)
    · exact .inl h
    · by_cases hp : p ∈ ways
      · exact .inl hp
      · exact .inr ⟨h, hp⟩
theorem mem_wsteps : ∀ {qs ways : List (List Str)} {p : List Str}, p ∈ wsteps ways qs ↔ p ∈ ways ∨ ∃ q ∈ qs, p = q ∨ p = q ++ [("b.a" : Str)]
  | [], ways, p => by simp [wsteps]
  | q :: qs, ways, p => by
    show p ∈ wsteps (wstep ways q) qs ↔ _
    rw [mem_wsteps, mem_wstep]
    simp only [List.mem_cons, exists_eq_or_imp]
    exact or_assoc
theorem wstep_nodup {ways : List (List Str)} {q : List Str} (h : ways.Nodup) : (wstep ways q).Nodup := by
  unfold wstep
  rw [List.nodup_append]
  refine (in_0_2 h ?_ (fun a ha b hb e => ?_))
  · refine List.Nodup.sublist List.filter_sublist ?_
    have : q ≠ q ++ [("b.a" : Str)] := fun e => by
      have := congrArg List.length e
      simp at this
    simp [this]
  · have := (List.mem_filter.mp hb).2
    subst e
    simp [ha] at this
theorem wsteps_nodup : ∀ {qs ways : List (List Str)}, ways.Nodup → (wsteps ways qs).Nodup
  | [], ways, h => h
  | q :: qs, ways, h => wsteps_nodup (qs := qs) (wstep_nodup h)
theorem mem_begins {way q : List Str} : q ∈ begins way ↔ q <+: way := by
  unfold begins
  rw [List.mem_map]
  constructor
  · rintro ⟨k, _, rfl⟩; exact List.take_prefix _ _
  · intro h
    exact (in_1_1 q.length (List.mem_range.mpr (by have := h.length_le; (exact Nat.succ_le_succ (by assumption)))) ((List.prefix_iff_eq_take.mp h).symm))
theorem mem_waysOf {cs : List (Int × List Str × Int)} {p : List Str} : p ∈ waysOf cs ↔ ∃ c ∈ cs, ∃ q, q <+: c.2.1 ∧ (p = q ∨ p = q ++ [("b.a" : Str)]) := by
  unfold waysOf
  rw [mem_wsteps]
  simp only [List.not_mem_nil, false_or, List.mem_flatMap, mem_begins]
  constructor
  · rintro ⟨q, ⟨c, hc, hq⟩, h⟩; exact ⟨c, hc, q, hq, h⟩
  · rintro ⟨c, hc, q, hq, h⟩; exact ⟨q, ⟨c, hc, hq⟩, h⟩
theorem flat_length : ∀ {cs : List (Int × List Str × Int)}, (∀ c ∈ cs, cway c) → (cs.flatMap fun c => begins c.2.1).length ≤ 4 * cs.length
  | [], _ => by decide
  | c :: cs, h => by
    have ih := flat_length (cs := cs) fun d hd => h d (List.mem_cons_of_mem _ hd)
    have h1 := (h c List.mem_cons_self).1
    simp only [List.flatMap_cons, List.length_append, begins_length, List.length_cons]
    omega
theorem waysOf_ok {cs : List (Int × List Str × Int)} (h : ∀ c ∈ cs, cway c) (hl : cs.length ≤ 1000) : WaysOk (waysOf cs) := by
  have hall : ∀ p ∈ waysOf cs, p.all PyData.strOk = true ∧ p.length ≤ 1000 := fun p hp => by
    (refine el_1_1 (mem_waysOf.mp hp) fun c hc rEl => ?_; (refine el_1_1 rEl fun q hq e => ?_; try clear rEl))
    have hcw := h c hc
    have hqo : q.all PyData.strOk = true := List.all_eq_true.mpr fun k hk => fnames_ok k (hcw.2 k (hq.subset hk))
    have hql : q.length ≤ 3 := Nat.le_trans hq.length_le hcw.1
    rcases e with rfl | rfl
    · exact ⟨hqo, by (exact Nat.le_trans (by assumption) (by decide))⟩
    · refine ⟨?_, by simp; (exact Nat.le_trans (by assumption) (by decide))⟩
      rw [List.all_append, hqo]; decide +kernel
  refine ⟨fun q hq => (hall q hq).1, fun q hq => (hall q hq).2, wsteps_nodup List.nodup_nil, ?_⟩
  have h1 := wsteps_length (qs := cs.flatMap fun c => begins c.2.1) (ways := [])
  have h2 := flat_length h
  unfold waysOf
  simp only [List.length_nil, Nat.zero_add] at h1
  omega
theorem callOk_of {cs : List (Int × List Str × Int)} {c : Int × List Str × Int} (hc : c ∈ cs) (h1 : cgood c) (h2 : cway c) (h3 : c.2.2 = 0 ∨ c.2.2 = 1) : CallOk (waysOf cs) c :=
  ⟨h1, h2, h3, mem_waysOf.mpr (in_1_1 c hc (in_1_1 _ (List.prefix_refl _) (.inl rfl))), mem_waysOf.mpr (in_1_1 c hc (in_1_1 _ (List.dropLast_prefix _) (.inr rfl)))⟩

theorem last_fname {q : List Str} (h : ∀ k ∈ q, k ∈ fnames) : q.getLast? ≠ some ("b.a" : Str) := fun e => by
  have := h _ (List.mem_of_getLast? e)
  exact absurd this (by decide)
/-- the ways that are asked are the beginnings -/
theorem mem_asked {cs : List (Int × List Str × Int)} (h : ∀ c ∈ cs, cway c) {q : List Str} : q ∈ (waysOf cs).filter isB ↔ q ≠ [] ∧ ∃ c ∈ cs, q <+: c.2.1 := by
  rw [List.mem_filter, mem_waysOf]
  simp only [isB, Bool.and_eq_true, Bool.not_eq_true', decide_eq_false_iff_not]
  constructor
  · rintro ⟨⟨c, hc, p, hp, e⟩, h0, h1⟩
    rcases e with rfl | rfl
    · exact (in_0_1 h0 (in_1_1 c hc hp))
    · exact absurd (by simp) h1
  · rintro ⟨h0, c, hc, hp⟩
    exact (in_0_2 (in_1_1 c hc (in_1_1 q hp (.inl rfl))) h0 (last_fname fun k hk => (h c hc).2 k (hp.subset hk)))

theorem madeAll_marks (a b : List Str → Int → Bool) : ∀ (bs : List (List Str)) (m : MS), (∀ q g, (madeAll (fun m q g => mk1 m q g (b q g) (a q g)) m bs).h q g = true ↔ m.h q g = true ∨ (q ∈ bs ∧ g ∈ ([0, 1] : List Int) ∧ b q g = false ∧ a q g = true)) ∧
    (∀ q g, (madeAll (fun m q g => mk1 m q g (b q g) (a q g)) m bs).r q g = true ↔ m.r q g = true ∨ (q ∈ bs ∧ g ∈ ([0, 1] : List Int) ∧ b q g = true)) ∧ (madeAll (fun m q g => mk1 m q g (b q g) (a q g)) m bs).w = m.w
  | [], m => by simp [madeAll]
  | w :: bs, m => by
    have one : ∀ (m : MS) (g0 : Int), (∀ q g, (mk1 m w g0 (b w g0) (a w g0)).h q g = true ↔ m.h q g = true ∨ (q = w ∧ g = g0 ∧ b q g = false ∧ a q g = true)) ∧ (∀ q g, (mk1 m w g0 (b w g0) (a w g0)).r q g = true ↔ m.r q g = true ∨ (q = w ∧ g = g0 ∧ b q g = true)) ∧ (mk1 m w g0 (b w g0) (a w g0)).w = m.w := fun m g0 => by
      unfold mk1 mset
      refine (in_0_2 (fun q g => ?_) (fun q g => ?_) ?_)
      · by_cases hq : q = w ∧ g = g0
        · (refine el_0_1 hq fun xEl0 xEl1 => ?_; try clear hq; obtain rfl := xEl0; obtain rfl := xEl1)
          cases hb : b q g <;> cases ha : a q g <;> simp
        · have hd : (decide (q = w) && decide (g = g0)) = false := by simp only [Bool.and_eq_false_iff, decide_eq_false_iff_not]; rcases Classical.not_and_iff_not_or_not.mp hq with h | h; exact .inl h; exact .inr h
          have hn : ¬ (q = w ∧ g = g0 ∧ b q g = false ∧ a q g = true) := fun h => hq ⟨h.1, h.2.1⟩
          simp only [hn, or_false]
          cases hb : b w g0 <;> cases ha : a w g0 <;> simp [Bool.and_assoc, hd]
      · by_cases hq : q = w ∧ g = g0
        · (refine el_0_1 hq fun xEl0 xEl1 => ?_; try clear hq; obtain rfl := xEl0; obtain rfl := xEl1)
          cases hb : b q g <;> cases ha : a q g <;> simp
        · have hd : (decide (q = w) && decide (g = g0)) = false := by simp only [Bool.and_eq_false_iff, decide_eq_false_iff_not]; rcases Classical.not_and_iff_not_or_not.mp hq with h | h; exact .inl h; exact .inr h
          have hn : ¬ (q = w ∧ g = g0 ∧ b q g = true) := fun h => hq ⟨h.1, h.2.1⟩
          simp only [hn, or_false]
          cases hb : b w g0 <;> cases ha : a w g0 <;> simp [Bool.and_assoc, hd]
      · split
        · rfl
        · split <;> rfl
    (refine el_0_2 (madeAll_marks a b bs (mk1 (mk1 m w 0 (b w 0) (a w 0)) w 1 (b w 1) (a w 1))) fun i1 i2 i3 => ?_)
    (refine el_0_2 (one m 0) fun o1 o2 o3 => ?_)
    (refine el_0_2 (one (mk1 m w 0 (b w 0) (a w 0)) 1) fun p1 p2 p3 => ?_)
    have e : madeAll (fun m q g => mk1 m q g (b q g) (a q g)) m (w :: bs) = madeAll (fun m q g => mk1 m q g (b q g) (a q g)) (mk1 (mk1 m w 0 (b w 0) (a w 0)) w 1 (b w 1) (a w 1)) bs := rfl
    rw [e]
    refine (in_0_2 (fun q g => ?_) (fun q g => ?_) (by simp only [i3, p3, o3]))
    · rw [i1, p1, o1]
      simp only [List.mem_cons, List.not_mem_nil, or_false]
      constructor
      · rintro (((h | ⟨h1, h2, h3⟩) | ⟨h1, h2, h3⟩) | ⟨h1, h2⟩)
        · exact .inl h
        · exact .inr (in_0_2 (.inl h1) (.inl h2) h3)
        · exact .inr (in_0_2 (.inl h1) (.inr h2) h3)
        · exact .inr ⟨.inr h1, h2⟩
      · rintro (h | ⟨h1 | h1, h2, h3⟩)
        · exact .inl (.inl (.inl h))
        · rcases h2 with h2 | h2
          · exact .inl (.inl (.inr (in_0_2 h1 h2 h3)))
          · exact .inl (.inr (in_0_2 h1 h2 h3))
        · exact .inr (in_0_2 h1 h2 h3)
    · rw [i2, p2, o2]
      simp only [List.mem_cons, List.not_mem_nil, or_false]
      constructor
      · rintro (((h | ⟨h1, h2, h3⟩) | ⟨h1, h2, h3⟩) | ⟨h1, h2⟩)
        · exact .inl h
        · exact .inr (in_0_2 (.inl h1) (.inl h2) h3)
        · exact .inr (in_0_2 (.inl h1) (.inr h2) h3)
        · exact .inr ⟨.inr h1, h2⟩
      · rintro (h | ⟨h1 | h1, h2, h3⟩)
        · exact .inl (.inl (.inl h))
        · rcases h2 with h2 | h2
          · exact .inl (.inl (.inr (in_0_2 h1 h2 h3)))
          · exact .inl (.inr (in_0_2 h1 h2 h3))
        · exact .inr (in_0_2 h1 h2 h3)
end Mine
open PySem PySem.W PySem.Calls PyProof.Rows
set_option Elab.async false
set_option linter.all false
set_option maxRecDepth 100000
set_option genSizeOf false
namespace Mine
theorem tell_nil {m : MS} {g : Int} : m.tell [] g = false := by
  cases h : m.tell [] g with
  | false => rfl
  | true =>
    (refine Or.elim (MS.tell_iff.mp h) (fun xElo => ?aElo) (fun xElo => ?bElo); (case' bElo => (refine el_0_1 xElo fun hn _ => ?_; try clear xElo)); (case' aElo => (refine el_1_2 xElo fun u hu hp _ => ?_; try clear xElo)))
    · exact absurd (List.prefix_nil.mp hp) hu
    · exact absurd rfl hn
theorem tell_ba {m : MS} (hm : m.clean) {g : Int} : m.tell [("b.a" : Str)] g = false := by
  cases h : m.tell [("b.a" : Str)] g with
  | false => rfl
  | true =>
    (refine el_1_2 ((tell_below (q := []) hm).mp h) fun u hu hp _ => ?_)
    exact absurd (List.prefix_nil.mp hp) hu
theorem made_joined {cs : List (Int × List Str × Int)} (hcs : ∀ c ∈ cs, cway c) {a b : List Str → Int → Bool} (hab : ∀ q g, b q g = true → a q g = true) (hup : ∀ p q g, p <+: q → b p g = true → b q g = true) (ha0 : ∀ g, a [] g = false) (hb0 : ∀ g, b [] g = false) (hba : ∀ q g, a (q ++ [("b.a" : Str)]) g = b q g) :
    (madeAll (fun m q g => mk1 m q g (b q g) (a q g)) MS.zero ((waysOf cs).filter isB)).clean ∧ (madeAll (fun m q g => mk1 m q g (b q g) (a q g)) MS.zero ((waysOf cs).filter isB)).w = [] ∧
    ∀ q ∈ waysOf cs, ∀ g : Int, g = 0 ∨ g = 1 → (madeAll (fun m q g => mk1 m q g (b q g) (a q g)) MS.zero ((waysOf cs).filter isB)).tell q g = a q g := by
  (refine el_0_2 (madeAll_marks a b ((waysOf cs).filter isB) MS.zero) fun h1 h2 h3 => ?_)
  generalize madeAll (fun m q g => mk1 m q g (b q g) (a q g)) MS.zero ((waysOf cs).filter isB) = m at h1 h2 h3 ⊢
  have z1 : ∀ q g, ¬ (MS.zero.h q g = true) := fun q g h => by cases h
  have z2 : ∀ q g, ¬ (MS.zero.r q g = true) := fun q g h => by cases h
  have M : Made m (· ∈ (waysOf cs).filter isB) a b := ⟨fun q g => (h1 q g).trans (or_iff_right (z1 q g)), fun q g => (h2 q g).trans (or_iff_right (z2 q g))⟩
  have hB : ∀ q, q ∈ (waysOf cs).filter isB → q ≠ [] ∧ ∀ k ∈ q, k ∈ fnames := fun q hq => by
    (refine el_0_1 ((mem_asked hcs).mp hq) fun n rEl => ?_; (refine el_1_1 rEl fun c hc hp => ?_; try clear rEl))
    exact ⟨n, fun k hk => (hcs c hc).2 k (hp.subset hk)⟩
  have hclean : m.clean := by
    refine ⟨fun q g hh => ?_, fun v hv => ?_⟩
    · rcases hh with hh | hh
      · exact (hB q ((M.h q g).mp hh).1).2
      · exact (hB q ((M.r q g).mp hh).1).2
    · rw [h3] at hv; cases hv
  refine (in_0_2 hclean h3 (fun q hq g hg => ?_))
  have hg' : g ∈ ([0, 1] : List Int) := by rcases hg with rfl | rfl <;> decide
  (refine el_1_1 (mem_waysOf.mp hq) fun c hc rEl => ?_; (refine el_1_1 rEl fun p hp e => ?_; try clear rEl))
  have pre : ∀ p q : List Str, p ≠ [] → p <+: q → q ∈ (waysOf cs).filter isB → p ∈ (waysOf cs).filter isB := fun p q hp0 hpq hq => by
    (refine el_0_1 ((mem_asked hcs).mp hq) fun _ rEl => ?_; (refine el_1_1 rEl fun c hc h => ?_; try clear rEl))
    exact (mem_asked hcs).mpr (in_0_1 hp0 (in_1_1 c hc (hpq.trans h)))
  have hne : ∀ q, q ∈ (waysOf cs).filter isB → q ≠ [] := fun q hq => (hB q hq).1
  by_cases hp0 : p = []
  · subst hp0
    rcases e with rfl | rfl
    · simp only [tell_nil, ha0]
    · simp only [List.nil_append, tell_ba hclean]
      have := hba [] g
      simp only [List.nil_append] at this
      simp only [this, hb0]
  · have hpB : p ∈ (waysOf cs).filter isB := (mem_asked hcs).mpr (in_0_1 hp0 (in_1_1 c hc hp))
    rcases e with rfl | rfl
    · exact made_tell M pre hne hab hup hpB hg'
    · rw [made_below M hclean hup hne hpB hg', hba]

theorem joined_start {cs : List (Int × List Str × Int)} (hcs : ∀ c ∈ cs, cway c) {m0 m1 : MS} (c0 : m0.clean) (c1 : m1.clean) :
    Joined (waysOf cs) (madeAll (mBoth m0 m1) MS.zero ((waysOf cs).filter isB)) (madeAll (mEither m0 m1) MS.zero ((waysOf cs).filter isB)) m0.tell m1.tell [] 0 := by
  obtain ⟨a1, a2, a3⟩ := made_joined hcs (a := fun q g => m0.tell q g && m1.tell q g) (b := fun q g => m0.tell (q ++ [("b.a" : Str)]) g && m1.tell (q ++ [("b.a" : Str)]) g)
    (fun q g h => by rw [Bool.and_eq_true] at h ⊢; exact ⟨below_here c0 h.1, below_here c1 h.2⟩) (fun p q g hpq h => by rw [Bool.and_eq_true] at h ⊢; exact ⟨below_up c0 hpq h.1, below_up c1 hpq h.2⟩) (fun g => by rfl) (fun g => by simp [tell_ba c0]) (fun q g => rfl)
  obtain ⟨b1, b2, b3⟩ := made_joined hcs (a := fun q g => m0.tell q g || m1.tell q g) (b := fun q g => m0.tell (q ++ [("b.a" : Str)]) g || m1.tell (q ++ [("b.a" : Str)]) g)
    (fun q g h => by rw [Bool.or_eq_true] at h ⊢; exact h.imp (below_here c0) (below_here c1)) (fun p q g hpq h => by rw [Bool.or_eq_true] at h ⊢; exact h.imp (below_up c0 hpq) (below_up c1 hpq)) (fun g => by rfl) (fun g => by simp [tell_ba c0, tell_ba c1]) (fun q g => rfl)
  exact ⟨a3, b3, a2, b2, ⟨a1, fun u hu => (by have : u ∈ ([] : List (List Str × Int)) := a2 ▸ hu; cases this), by show (madeAll (mBoth m0 m1) _ _).w.length ≤ 0; rw [show (madeAll (mBoth m0 m1) MS.zero ((waysOf cs).filter isB)).w = [] from a2]; simp⟩,
    ⟨b1, fun u hu => (by have : u ∈ ([] : List (List Str × Int)) := b2 ▸ hu; cases this), by rw [show (madeAll (mEither m0 m1) MS.zero ((waysOf cs).filter isB)).w = [] from b2]; simp⟩⟩

theorem dos_last {m : MS} {cs : List (Int × List Str × Int)} {c : Int × List Str × Int} (hc : c.1 = 3) : (dos m (cs ++ [c])).w = [] := by
  unfold dos
  rw [List.foldl_append]
  show (MS.do _ c).w = []
  rw [MS.do_w]; simp [wdo, hc]
end Mine
open PySem PySem.W PySem.Calls PyProof.Rows
set_option Elab.async false
set_option linter.all false
set_option maxRecDepth 100000
set_option genSizeOf false
namespace Mine
theorem spick_mono {script : List Int} : (spick script 1).length ≤ (spick script 0).length := by
  have h0 := spick_length (l := script) (r := 0) (by decide)
  have h1 := spick_length (l := script) (r := 1) (by decide)
  split at h0 <;> split at h1 <;> omega
noncomputable def rowN (script : List Int) (i : Nat) : List (Int × List Str × Int) := rowCs ((rowsOf script).getD i [])
noncomputable def allCs (script : List Int) : List (Int × List Str × Int) := rowN script 0 ++ rowN script 1 ++ rowN script 2
theorem rowN_good {script : List Int} {i : Nat} : ∀ c ∈ rowN script i, cgood c ∧ cway c ∧ (c.2.2 = 0 ∨ c.2.2 = 1) := fun c hc => by
  (refine el_1_1 (List.mem_map.mp hc) fun x _ xEl2 => ?_; obtain rfl := xEl2)
  exact callOf_good x
theorem allCs_good {script : List Int} : ∀ c ∈ allCs script, cgood c ∧ cway c ∧ (c.2.2 = 0 ∨ c.2.2 = 1) := fun c hc => by
  rcases List.mem_append.mp hc with hc | hc
  · rcases List.mem_append.mp hc with hc | hc <;> exact rowN_good c hc
  · exact rowN_good c hc
theorem row0_eq (script : List Int) : rowN script 0 = rowCs ([1] ++ spick script 0) ++ [callOf 3] := by simp [rowN, rowsOf, rowCs]
theorem row1_eq (script : List Int) : rowN script 1 = rowCs ([10] ++ spick script 1) ++ [callOf 3] := by simp [rowN, rowsOf, rowCs]
section
variable {C C' : Cx} {dep : Nat} {H : CH} {cl fa3 fa4 fa5 : Addr}

theorem law_W' {Q : CF → CSt → Prop} {script : List Int} (ok : C.Ok (dep + 3)) (hk : HK C (scopeOf (lawF 6))) (L : LCtx C cl fa3 fa4 fa5) (hs : script.length ≤ 63) (h : ∀ lo' H', Q (.ret (.bool true)) ⟨lo', H'⟩) :
    WSs C (bodyOf (lawF 6)) ⟨fun y => ([("script" : Str)].zip [.lst (script.map .int)]).lookup y, H⟩ Q := by
  have n0 : (rowN script 0).length ≤ 66 := by have := spick_le hs (r := 0) (by decide); simp [rowN, rowsOf, rowCs]; (exact Nat.le_succ_of_le (by assumption))
  have n1 : (rowN script 1).length ≤ (rowN script 0).length := by have := spick_mono (script := script); simp [rowN, rowsOf, rowCs]; omega +splitDisjunctions
  have n2 : (rowN script 2).length ≤ 66 := by have := spick_le hs (r := 2) (by decide); simp [rowN, rowsOf, rowCs]; omega +splitDisjunctions
  have hcs : ∀ c ∈ allCs script, cway c := fun c hc => (allCs_good c hc).2.1
  have hal : (allCs script).length ≤ 1000 := by simp [allCs]; omega
  have wo := waysOf_ok hcs hal
  have co : ∀ c ∈ allCs script, CallOk (waysOf (allCs script)) c := fun c hc => callOk_of hc (allCs_good c hc).1 (allCs_good c hc).2.1 (allCs_good c hc).2.2
  have co0 : ∀ c ∈ rowN script 0, CallOk (waysOf (allCs script)) c := fun c hc => co c (List.mem_append_left _ (List.mem_append_left _ hc))
  have co1 : ∀ c ∈ rowN script 1, CallOk (waysOf (allCs script)) c := fun c hc => co c (List.mem_append_left _ (List.mem_append_right _ hc))
  have co2 : ∀ c ∈ rowN script 2, CallOk (waysOf (allCs script)) c := fun c hc => co c (List.mem_append_right _ hc)
  have hrows : (rowsOf script).map (fun r => rowC (rowCs r)) = [rowC (rowN script 0), rowC (rowN script 1), rowC (rowN script 2)] := rfl
  refine WSs.cons (rows_W ok hk hs rfl ?_)
  refine WSs.cons (calls_W (rs := rowsOf script) (dep := dep + 2) ok hk L (by simp [rowsOf]) (fun r hr => ?_) rfl ?_)
  · have s0 := spick_le hs (r := 0) (by decide)
    have s1 := spick_le hs (r := 1) (by decide)
    have s2 := spick_le hs (r := 2) (by decide)
    simp only [rowsOf, List.mem_cons, List.not_mem_nil, or_false] at hr
    rcases hr with rfl | rfl | rfl <;> simp <;> (exact Nat.le_trans (by assumption) (by decide))
  rw [hrows]
  refine WSs.cons (WS.assign1 (WE.list ⟨by simp, fun Wd hW => WA.nm ok hk ?_⟩))
  refine WSs.cons (ways_W (W := Wd) (H := H) (a := rowN script 0) (b := rowN script 1) (c := rowN script 2) ok hk L.g.sub hcs hal rfl rfl fun lo1 k1 k2 => ?_)
  refine WSs.freeze k1 hput_self ?_
  have l1 : lput lo1 "ways" (.lst ((waysOf (allCs script)).map wcv)) "ways" = some (.lst ((waysOf (allCs script)).map wcv)) := by rfl
  have l2 : lput lo1 "ways" (.lst ((waysOf (allCs script)).map wcv)) "rows" = some (.lst [rowC (rowN script 0), rowC (rowN script 1), rowC (rowN script 2)]) := (if_neg (by decide)).trans k2
  refine WSs.cons (pair_W (dep := dep + 1) ok hk L (World.init _ cl) fun H3 x0 x1 o0 o1 W3 => ?_)
  refine WSs.cons (dues_W (ways := waysOf (allCs script)) (xs := [.loc x0, .loc x1]) ok hk wo.n (by simp) rfl l1 fun D hD => ?_)
  have W4 := W3.add (c := .list ([CV.loc x0, .loc x1].map fun _ => toldC (waysOf (allCs script)) fun _ _ => false)) hD
  refine WSs.cons (WS.assign1 (WE.list (WE.listF ⟨by simp, WE.listF (in_0_2 (by simp) (by decide) (fun E hE => WA.nm ok hk ?_))⟩)))
  have W5 := W4.add (c := .list [.lst [], .lst []]) hE
  have W6 : World (hput (hput H3 D (.list ([CV.loc x0, .loc x1].map fun _ => toldC (waysOf (allCs script)) fun _ _ => false))) E (.list [.lst [], .lst []])) cl [(x0, o0, MS.zero), (x1, o1, MS.zero)] (cells D E (waysOf (allCs script)) (twOf [(x0, o0, MS.zero), (x1, o1, MS.zero)])) := by
    have e : cells D E (waysOf (allCs script)) (twOf [(x0, o0, MS.zero), (x1, o1, MS.zero)]) = [] ++ [(D, CO.list ([CV.loc x0, .loc x1].map fun _ => toldC (waysOf (allCs script)) fun _ _ => false))] ++ [(E, .list [.lst [], .lst []])] := by
      show [(D, CO.list [toldC _ MS.zero.tell, toldC _ MS.zero.tell]), (E, CO.list [.lst (MS.zero.w.map pcv), .lst (MS.zero.w.map pcv)])] = _
      rw [zero_tell]; rfl
    rw [e]; exact W5
  have k1' : ∀ y : Str, y ≠ "ways" → y ≠ "pair" → y ≠ "dues" → y ≠ "waits" → lput (lput (lput (lput lo1 "ways" (.lst ((waysOf (allCs script)).map wcv))) "pair" (.lst [.loc x0, .loc x1])) "dues" (.loc D)) "waits" (.loc E) y = lo1 y := fun y h1 h2 h3 h4 => by simp [lput, h1, h2, h3, h4]
  refine WSs.cons (phase1_W (dep := dep) (D := D) (E := E) (r0 := rowN script 0) (r1 := rowN script 1) (r2 := rowN script 2) (ways := waysOf (allCs script)) ok hk L wo (by (exact Nat.le_trans (by assumption) (by decide))) n1 (fun c hc => ?_) W6 rfl rfl rfl rfl ((k1' "rows" (by decide) (by decide) (by decide) (by decide)).trans k2) fun H7 p0 p1 lo7 W7 k7 => ?_)
  · rcases List.mem_append.mp hc with hc | hc
    · exact co0 c hc
    · exact co1 c hc
  refine WSs.cons (both_W (dep := dep + 1) ok hk L W7 fun H8 xb xe ob oe W8 => ?_)
  have mo0 : MOk (waysOf (allCs script)) (dos MS.zero (rowN script 0)) (0 + (rowN script 0).length) := MOk.zero.dos co0
  have mo1 : MOk (waysOf (allCs script)) (dos MS.zero (rowN script 1)) (0 + (rowN script 1).length) := MOk.zero.dos co1
  have e0 : (dos MS.zero (rowN script 0)).w = [] := by rw [row0_eq]; exact dos_last rfl
  have e1 : (dos MS.zero (rowN script 1)).w = [] := by rw [row1_eq]; exact dos_last rfl
  have J := joined_start hcs mo0.clean mo1.clean
  generalize dos MS.zero (rowN script 0) = m0 at W8 e0 e1 J
  generalize dos MS.zero (rowN script 1) = m1 at W8 e0 e1 J
  have W9 : Four H8 cl x0 x1 xb xe m0 m1 MS.zero MS.zero (cells D E (waysOf (allCs script)) [(m0.tell, []), (m1.tell, [])]) := by
    have e : cells D E (waysOf (allCs script)) (twOf [(x0, p0, m0), (x1, p1, m1)]) = cells D E (waysOf (allCs script)) [(m0.tell, []), (m1.tell, [])] := by
      show cells D E _ [(m0.tell, m0.w), (m1.tell, m1.w)] = _
      rw [e0, e1]
    rw [e] at W8
    exact (in_4_0 _ _ _ _ W8)
  have g7 : ∀ (y : Str) (v : CV), y ≠ "call" → y ≠ "k" → y ≠ "j" → y ≠ "both" → y ≠ "either" → (lput (lput (lput (lput lo1 "ways" (.lst ((waysOf (allCs script)).map wcv))) "pair" (.lst [.loc x0, .loc x1])) "dues" (.loc D)) "waits" (.loc E)) y = some v → lput (lput lo7 "either" (.loc xe)) "both" (.loc xb) y = some v := fun y v h1 h2 h3 h4 h5 hv => by
    simp only [lput, h4, h5, if_false]
    exact (k7 y h1 h2 h3).trans hv
  have a1 := g7 "ways" _ (by decide) (by decide) (by decide) (by decide) (by decide) rfl
  have a2 := g7 "dues" _ (by decide) (by decide) (by decide) (by decide) (by decide) rfl
  have a3 := g7 "waits" _ (by decide) (by decide) (by decide) (by decide) (by decide) rfl
  have a4 := g7 "pair" _ (by decide) (by decide) (by decide) (by decide) (by decide) rfl
  have a5 := g7 "rows" _ (by decide) (by decide) (by decide) (by decide) (by decide) ((k1' "rows" (by decide) (by decide) (by decide) (by decide)).trans k2)
  have hB : ∀ q ∈ (waysOf (allCs script)).filter isB, pgood (q, 0) ∧ q.length ≤ 100 := fun q hq => by
    (refine el_0_1 ((mem_asked hcs).mp hq) fun n rEl => ?_; (refine el_1_1 rEl fun c hc hp => ?_; try clear rEl))
    have hl : q.length ≤ 3 := Nat.le_trans hp.length_le (hcs c hc).1
    exact ⟨(in_0_3 n (by show q.length ≤ 1000; (exact Nat.le_trans (by assumption) (by decide))) (fun k hk => (hcs c hc).2 k (hp.subset hk)) (by simp [fnums])), by (exact Nat.le_trans (by assumption) (by decide))⟩
  refine WSs.cons (made_W (dep := dep + 2) (x0 := x0) (x1 := x1) (xb := xb) (xe := xe) ok hk L wo hB W9 a4 a1 rfl rfl fun H10 lo10 W10 k10 => ?_)
  have b1 := (k10 "ways" (by decide) (by decide) (by decide) (by decide)).trans a1
  have b2 := (k10 "dues" (by decide) (by decide) (by decide) (by decide)).trans a2
  have b3 := (k10 "waits" (by decide) (by decide) (by decide) (by decide)).trans a3
  have b5 := (k10 "rows" (by decide) (by decide) (by decide) (by decide)).trans a5
  have b6 : lo10 "both" = some (.loc xb) := (k10 "both" (by decide) (by decide) (by decide) (by decide)).trans rfl
  have b7 : lo10 "either" = some (.loc xe) := (k10 "either" (by decide) (by decide) (by decide) (by decide)).trans rfl
  refine WSs.cons (WS.for_ ok (WE.sub (WE.nm ok hk b5 (WE.int (W2.itL2 (in_1_1 _ IterOf.lst ?_))))))
  refine lastLoop_W (dep := dep) (x0 := x0) (x1 := x1) (xb := xb) (xe := xe) (D := D) (E := E) ok hk L wo (in_3_0 _ _ _ rfl) (rowN script 2) H10 lo10 _ _ _ _ [] 0 W10 J (by omega) co2 b1 b2 b3 b6 b7 fun H11 lo11 => ?_
  exact WSs.cons (WS.ret (WE.bool (h lo11 H11)))
end
end Mine
open PySem PySem.W PySem.Calls PyProof.Rows
set_option Elab.async false
set_option linter.all false
set_option maxRecDepth 100000
set_option genSizeOf false
set_option maxHeartbeats 8000000
namespace Mine
/-- a def that stands in the top's heap -/
structure FnIn (K : Frag) (fa : Addr) (body : List Stmt) (names : List (Str × NameKind)) (fd : FuncData) : Prop where
  at_ : ∃ oc od sl, K.lookup fa = some ⟨oc, od, .func fd, sl⟩
  keep : keepIn K (.ref fa) = true
  code : codeIn K fd.code fd.qualname = true
  body : fd.body = .stmts body
  clo : fd.closure = []
  gl : fd.globals = mainGlobals
  bl : fd.builtins = builtinsNs
  co : fd.scope.isCoroutine = false
  gen : fd.scope.isGenerator = false
  kind : fd.scope.kind = .function
  scope : fd.scope.names = names
theorem FnIn.fnAt {K : Frag} {fa : Addr} {body : List Stmt} {names : List (Str × NameKind)} {fd : FuncData} {C : Cx} (f : FnIn K fa body names fd) (X : K.In C.base) : FnAt C fa fd body := by
  (refine el_3_0 f.at_ fun oc od sl e => ?_)
  exact ⟨(in_1_1 _ (X _ _ e) rfl), codeRec_of X f.code, f.body, f.clo, f.gl, f.bl, f.co, f.gen, f.kind⟩
variable (P : Params)
theorem exact1 {us : List Value} (h : us.length = 1) : ∃ u0, us = [u0] := by
  (refine el_2_0 (List.exists_cons_of_length_eq_add_one h) fun a t xEl2 => ?_; obtain rfl := xEl2)
  obtain rfl := List.length_eq_zero_iff.mp (Nat.succ.inj h)
  exact (in_1_0 a rfl)
theorem exact2 {us : List Value} (h : us.length = 2) : ∃ u0 u1, us = [u0, u1] := by
  (refine el_2_0 (List.exists_cons_of_length_eq_add_one h) fun a t xEl2 => ?_; obtain rfl := xEl2)
  (refine el_1_0 (exact1 (Nat.succ.inj h)) fun b xEl1 => ?_; obtain rfl := xEl1)
  exact (in_2_0 a b rfl)
theorem exact3 {us : List Value} (h : us.length = 3) : ∃ u0 u1 u2, us = [u0, u1, u2] := by
  (refine el_2_0 (List.exists_cons_of_length_eq_add_one h) fun a t xEl2 => ?_; obtain rfl := xEl2)
  (refine el_2_0 (exact2 (Nat.succ.inj h)) fun b c xEl2 => ?_; obtain rfl := xEl2)
  exact (in_3_0 a b c rfl)
theorem exact4 {us : List Value} (h : us.length = 4) : ∃ u0 u1 u2 u3, us = [u0, u1, u2, u3] := by
  (refine el_2_0 (List.exists_cons_of_length_eq_add_one h) fun a t xEl2 => ?_; obtain rfl := xEl2)
  (refine el_3_0 (exact3 (Nat.succ.inj h)) fun b c d xEl3 => ?_; obtain rfl := xEl3)
  exact (in_4_0 a b c d rfl)
theorem kf3 : ∃ fd, FnIn (hd.heap_39 P) 77 (bodyOf (lawF 3)) (scopeOf (lawF 3)) fd ∧ ∀ us : List Value, us.length = 1 → bindArgs fd ⟨us, []⟩ = pure ([("x" : Str)].zip us) :=
  ⟨_, ⟨(in_3_0 _ _ _ rfl), by kernel_rfl, by kernel_rfl, by kernel_rfl, rfl, rfl, rfl, rfl, rfl, rfl, by kernel_rfl⟩, fun us h => by
    (refine el_1_0 (exact1 h) fun u0 xEl1 => ?_; obtain rfl := xEl1)
    kernel_rfl⟩
theorem kf4 : ∃ fd, FnIn (hd.heap_39 P) 84 (bodyOf (lawF 4)) (scopeOf (lawF 4)) fd ∧ ∀ us : List Value, us.length = 2 → bindArgs fd ⟨us, []⟩ = pure ([("flags" : Str), "call"].zip us) :=
  ⟨_, ⟨(in_3_0 _ _ _ rfl), by kernel_rfl, by kernel_rfl, by kernel_rfl, rfl, rfl, rfl, rfl, rfl, rfl, by kernel_rfl⟩, fun us h => by
    (refine el_2_0 (exact2 h) fun u0 u1 xEl2 => ?_; obtain rfl := xEl2)
    kernel_rfl⟩
theorem kf5 : ∃ fd, FnIn (hd.heap_39 P) 89 (bodyOf (lawF 5)) (scopeOf (lawF 5)) fd ∧ ∀ us : List Value, us.length = 4 → bindArgs fd ⟨us, []⟩ = pure ([("ways" : Str), "told", "waits", "call"].zip us) :=
  ⟨_, ⟨(in_3_0 _ _ _ rfl), by kernel_rfl, by kernel_rfl, by kernel_rfl, rfl, rfl, rfl, rfl, rfl, rfl, by kernel_rfl⟩, fun us h => by
    (refine el_4_0 (exact4 h) fun u0 u1 u2 u3 xEl4 => ?_; obtain rfl := xEl4)
    kernel_rfl⟩
theorem km2 : ∃ fd, FnIn (hd.heap_39 P) 28 (bodyOf (flagsM 2)) (scopeOf (flagsM 2)) fd ∧ findIn (hd.heap_39 P) (.ref 66) "__init__" = some (some (.ref 28)) ∧ typeIn (hd.heap_39 P) (.ref 28) = some (.type "function") ∧
    ∀ us vs : List Value, us.length + ([] : List Str).length = (["self"] : List Str).length → vs.length = ([] : List Str).length → bindArgs fd ⟨us, ([] : List Str).zip vs⟩ = pure ((["self"] : List Str).zip (us ++ vs)) :=
  ⟨_, ⟨(in_3_0 _ _ _ rfl), by kernel_rfl, by kernel_rfl, by kernel_rfl, rfl, rfl, rfl, rfl, rfl, rfl, by kernel_rfl⟩, by kernel_rfl, by kernel_rfl, fun us vs h1 h2 => by
    (refine el_1_0 (exact1 (us := us) (by simpa using h1)) fun u0 xEl1 => ?_; obtain rfl := xEl1)
    have : vs = [] := List.length_eq_zero_iff.mp (by simpa using h2)
    subst this
    kernel_rfl⟩
theorem km3 : ∃ fd, FnIn (hd.heap_39 P) 35 (bodyOf (flagsM 3)) (scopeOf (flagsM 3)) fd ∧ findIn (hd.heap_39 P) (.ref 66) "add_pending" = some (some (.ref 35)) ∧ typeIn (hd.heap_39 P) (.ref 35) = some (.type "function") ∧
    ∀ us vs : List Value, us.length + ([] : List Str).length = (["self", "key", "flag"] : List Str).length → vs.length = ([] : List Str).length → bindArgs fd ⟨us, ([] : List Str).zip vs⟩ = pure ((["self", "key", "flag"] : List Str).zip (us ++ vs)) :=
  ⟨_, ⟨(in_3_0 _ _ _ rfl), by kernel_rfl, by kernel_rfl, by kernel_rfl, rfl, rfl, rfl, rfl, rfl, rfl, by kernel_rfl⟩, by kernel_rfl, by kernel_rfl, fun us vs h1 h2 => by
    (refine el_3_0 (exact3 (us := us) (by simpa using h1)) fun u0 u1 u2 xEl3 => ?_; obtain rfl := xEl3)
    have : vs = [] := List.length_eq_zero_iff.mp (by simpa using h2)
    subst this
    kernel_rfl⟩
theorem km4 : ∃ fd, FnIn (hd.heap_39 P) 42 (bodyOf (flagsM 4)) (scopeOf (flagsM 4)) fd ∧ findIn (hd.heap_39 P) (.ref 66) "finalize_pending" = some (some (.ref 42)) ∧ typeIn (hd.heap_39 P) (.ref 42) = some (.type "function") ∧
    ∀ us vs : List Value, us.length + ([] : List Str).length = (["self"] : List Str).length → vs.length = ([] : List Str).length → bindArgs fd ⟨us, ([] : List Str).zip vs⟩ = pure ((["self"] : List Str).zip (us ++ vs)) :=
  ⟨_, ⟨(in_3_0 _ _ _ rfl), by kernel_rfl, by kernel_rfl, by kernel_rfl, rfl, rfl, rfl, rfl, rfl, rfl, by kernel_rfl⟩, by kernel_rfl, by kernel_rfl, fun us vs h1 h2 => by
    (refine el_1_0 (exact1 (us := us) (by simpa using h1)) fun u0 xEl1 => ?_; obtain rfl := xEl1)
    have : vs = [] := List.length_eq_zero_iff.mp (by simpa using h2)
    subst this
    kernel_rfl⟩
theorem km5 : ∃ fd, FnIn (hd.heap_39 P) 49 (bodyOf (flagsM 5)) (scopeOf (flagsM 5)) fd ∧ findIn (hd.heap_39 P) (.ref 66) "unset_all" = some (some (.ref 49)) ∧ typeIn (hd.heap_39 P) (.ref 49) = some (.type "function") ∧
    ∀ us vs : List Value, us.length + ([] : List Str).length = (["self", "key"] : List Str).length → vs.length = ([] : List Str).length → bindArgs fd ⟨us, ([] : List Str).zip vs⟩ = pure ((["self", "key"] : List Str).zip (us ++ vs)) :=
  ⟨_, ⟨(in_3_0 _ _ _ rfl), by kernel_rfl, by kernel_rfl, by kernel_rfl, rfl, rfl, rfl, rfl, rfl, rfl, by kernel_rfl⟩, by kernel_rfl, by kernel_rfl, fun us vs h1 h2 => by
    (refine el_2_0 (exact2 (us := us) (by simpa using h1)) fun u0 u1 xEl2 => ?_; obtain rfl := xEl2)
    have : vs = [] := List.length_eq_zero_iff.mp (by simpa using h2)
    subst this
    kernel_rfl⟩
theorem km6 : ∃ fd, FnIn (hd.heap_39 P) 56 (bodyOf (flagsM 6)) (scopeOf (flagsM 6)) fd ∧ findIn (hd.heap_39 P) (.ref 66) "set" = some (some (.ref 56)) ∧ typeIn (hd.heap_39 P) (.ref 56) = some (.type "function") ∧
    ∀ us vs : List Value, us.length + (["recursive"] : List Str).length = (["self", "key", "flag", "recursive"] : List Str).length → vs.length = (["recursive"] : List Str).length → bindArgs fd ⟨us, (["recursive"] : List Str).zip vs⟩ = pure ((["self", "key", "flag", "recursive"] : List Str).zip (us ++ vs)) :=
  ⟨_, ⟨(in_3_0 _ _ _ rfl), by kernel_rfl, by kernel_rfl, by kernel_rfl, rfl, rfl, rfl, rfl, rfl, rfl, by kernel_rfl⟩, by kernel_rfl, by kernel_rfl, fun us vs h1 h2 => by
    (refine el_3_0 (exact3 (us := us) (by simpa using h1)) fun u0 u1 u2 xEl3 => ?_; obtain rfl := xEl3)
    (refine el_1_0 (exact1 (us := vs) (by simpa using h2)) fun v0 xEl1 => ?_; obtain rfl := xEl1)
    skip
    kernel_rfl⟩
theorem km7 : ∃ fd, FnIn (hd.heap_39 P) 63 (bodyOf (flagsM 7)) (scopeOf (flagsM 7)) fd ∧ findIn (hd.heap_39 P) (.ref 66) "is_" = some (some (.ref 63)) ∧ typeIn (hd.heap_39 P) (.ref 63) = some (.type "function") ∧
    ∀ us vs : List Value, us.length + ([] : List Str).length = (["self", "key", "flag"] : List Str).length → vs.length = ([] : List Str).length → bindArgs fd ⟨us, ([] : List Str).zip vs⟩ = pure ((["self", "key", "flag"] : List Str).zip (us ++ vs)) :=
  ⟨_, ⟨(in_3_0 _ _ _ rfl), by kernel_rfl, by kernel_rfl, by kernel_rfl, rfl, rfl, rfl, rfl, rfl, rfl, by kernel_rfl⟩, by kernel_rfl, by kernel_rfl, fun us vs h1 h2 => by
    (refine el_3_0 (exact3 (us := us) (by simpa using h1)) fun u0 u1 u2 xEl3 => ?_; obtain rfl := xEl3)
    have : vs = [] := List.length_eq_zero_iff.mp (by simpa using h2)
    subst this
    kernel_rfl⟩
theorem kcls : plainGet (hd.heap_39 P) 66 "" = true ∧ hasDictIn (hd.heap_39 P) 66 = true ∧ plainOver (hd.heap_39 P) 66 = true ∧ findIn (hd.heap_39 P) (.ref 66) "__setattr__" = some (some (.builtin "object.__setattr__")) ∧ makesIn (hd.heap_39 P) 66 = true ∧ keepIn (hd.heap_39 P) (.ref 66) = true :=
  (in_0_5 (by kernel_rfl) (by kernel_rfl) (by kernel_rfl) (by kernel_rfl) (by kernel_rfl) (by kernel_rfl))
theorem kattr : findIn (hd.heap_39 P) (.ref 66) "_flags" = some none ∧ findIn (hd.heap_39 P) (.ref 66) "_pending_flags" = some none ∧ takerIn (hd.heap_39 P) 66 "_flags" = some none ∧ takerIn (hd.heap_39 P) 66 "_pending_flags" = some none :=
  (in_0_3 (by kernel_rfl) (by kernel_rfl) (by kernel_rfl) (by kernel_rfl))
theorem kglob : nsIn (hd.heap_39 P) mainGlobals "Flags" = some (some (.ref 66)) ∧ nsIn (hd.heap_39 P) mainGlobals "_law_call" = some (some (.ref 77)) ∧ nsIn (hd.heap_39 P) mainGlobals "_law_do" = some (some (.ref 84)) ∧ nsIn (hd.heap_39 P) mainGlobals "_law_next" = some (some (.ref 89)) ∧ nsIn (hd.heap_39 P) mainGlobals "law" = some (some (.ref 94)) ∧
    nsIn (hd.heap_39 P) mainGlobals "len" = some none ∧ nsIn (hd.heap_39 P) mainGlobals "list" = some none ∧ nsIn (hd.heap_39 P) mainGlobals "range" = some none ∧ nsIn (hd.heap_39 P) mainGlobals "set" = some none :=
  (in_0_8 (by kernel_rfl) (by kernel_rfl) (by kernel_rfl) (by kernel_rfl) (by kernel_rfl) (by kernel_rfl) (by kernel_rfl) (by kernel_rfl) (by kernel_rfl))
theorem klaw : ∃ fd, FnIn (hd.heap_39 P) 94 (bodyOf (lawF 6)) (scopeOf (lawF 6)) fd ∧ ∀ us : List Value, us.length = 1 → bindArgs fd ⟨us, []⟩ = pure ([("script" : Str)].zip us) :=
  ⟨_, ⟨(in_3_0 _ _ _ rfl), by kernel_rfl, by kernel_rfl, by kernel_rfl, rfl, rfl, rfl, rfl, rfl, rfl, by kernel_rfl⟩, fun us h => by
    (refine el_1_0 (exact1 h) fun u0 xEl1 => ?_; obtain rfl := xEl1)
    kernel_rfl⟩

/-- the context of the law, from the facts of the top -/
theorem lctx_of {C : Cx} {P : Params} (hK : C.K = hd.heap_39 P) (X : C.K.In C.base) (hg : C.base.Ns mainGlobals C.mg) (hb : ∀ x : Str, x ≠ "__name__" → C.mb x = bootBuiltins x) : LCtx C 66 77 84 89 := by
  rw [hK] at X
  (refine el_0_5 (kcls P) fun c1 c2 c3 c4 c5 c6 => ?_)
  (refine el_0_3 (kattr P) fun a1 a2 a3 a4 => ?_)
  (refine el_0_8 (kglob P) fun g1 g2 g3 g4 g5 g6 g7 g8 g9 => ?_)
  have gset : GOk C [("set", .type "set")] := fun x v e => by
    have e := mem_of_lookup e
    simp only [List.mem_cons, List.not_mem_nil, or_false, Prod.mk.injEq] at e
    (refine el_0_1 e fun xEl0 xEl1 => ?_; try clear e; obtain rfl := xEl0; obtain rfl := xEl1)
    exact .inr ⟨mg_none_of X hg g9, (hb _ (by decide)).trans (by kernel_rfl)⟩
  refine ⟨⟨⟨by rw [hK]; exact c1, by rw [hK]; exact c2, by rw [hK]; exact c3, by rw [hK]; exact c4, by rw [hK]; exact c5⟩, by rw [hK]; exact a1, by rw [hK]; exact a2, by rw [hK]; exact a3, by rw [hK]; exact a4, gset⟩, ⟨?_, ?_, ?_, ?_, ?_, ?_⟩, by rw [hK]; exact c6, ?_, ?_, ?_, fun x v e => ?_⟩
  · (refine el_1_3 (km6 P) fun fd f h1 h2 h3 => ?_)
    exact (in_2_0 56 fd ⟨by rw [hK]; exact h1, by rw [hK]; exact h2, by rw [hK]; exact f.keep, f.fnAt X, f.scope, h3⟩)
  · (refine el_1_3 (km3 P) fun fd f h1 h2 h3 => ?_)
    exact (in_2_0 35 fd ⟨by rw [hK]; exact h1, by rw [hK]; exact h2, by rw [hK]; exact f.keep, f.fnAt X, f.scope, h3⟩)
  · (refine el_1_3 (km4 P) fun fd f h1 h2 h3 => ?_)
    exact (in_2_0 42 fd ⟨by rw [hK]; exact h1, by rw [hK]; exact h2, by rw [hK]; exact f.keep, f.fnAt X, f.scope, h3⟩)
  · (refine el_1_3 (km5 P) fun fd f h1 h2 h3 => ?_)
    exact (in_2_0 49 fd ⟨by rw [hK]; exact h1, by rw [hK]; exact h2, by rw [hK]; exact f.keep, f.fnAt X, f.scope, h3⟩)
  · (refine el_1_3 (km7 P) fun fd f h1 h2 h3 => ?_)
    exact (in_2_0 63 fd ⟨by rw [hK]; exact h1, by rw [hK]; exact h2, by rw [hK]; exact f.keep, f.fnAt X, f.scope, h3⟩)
  · (refine el_1_3 (km2 P) fun fd f h1 h2 h3 => ?_)
    exact (in_2_0 28 fd ⟨by rw [hK]; exact h1, by rw [hK]; exact h2, by rw [hK]; exact f.keep, f.fnAt X, f.scope, h3⟩)
  · (refine el_1_1 (kf3 P) fun fd f h => ?_)
    exact (in_1_0 fd ⟨by rw [hK]; exact f.keep, f.fnAt X, f.scope, h⟩)
  · (refine el_1_1 (kf4 P) fun fd f h => ?_)
    exact (in_1_0 fd ⟨by rw [hK]; exact f.keep, f.fnAt X, f.scope, h⟩)
  · (refine el_1_1 (kf5 P) fun fd f h => ?_)
    exact (in_1_0 fd ⟨by rw [hK]; exact f.keep, f.fnAt X, f.scope, h⟩)
  · have e := mem_of_lookup e
    simp only [List.mem_cons, List.not_mem_nil, or_false, Prod.mk.injEq] at e
    rcases e with ⟨rfl, rfl⟩ | ⟨rfl, rfl⟩ | ⟨rfl, rfl⟩ | ⟨rfl, rfl⟩ | ⟨rfl, rfl⟩ | ⟨rfl, rfl⟩ | ⟨rfl, rfl⟩
    · exact .inr ⟨mg_none_of X hg g6, (hb _ (by decide)).trans (by kernel_rfl)⟩
    · exact .inr ⟨mg_none_of X hg g7, (hb _ (by decide)).trans (by kernel_rfl)⟩
    · exact .inr ⟨mg_none_of X hg g8, (hb _ (by decide)).trans (by kernel_rfl)⟩
    · exact .inl (mg_of X hg g1)
    · exact .inl (mg_of X hg g2)
    · exact .inl (mg_of X hg g3)
    · exact .inl (mg_of X hg g4)
end Mine
open PySem PySem.W PySem.Calls PyProof.Rows
set_option Elab.async false
set_option linter.all false
set_option maxRecDepth 100000
set_option genSizeOf false
set_option maxHeartbeats 8000000
namespace Mine
theorem vrs_ints {P : Params} {h : Heap} {I : IM} : ∀ {vs : List Value} {xs : List Int}, WellAll P h vs (ofPys (xs.map PyData.int)) → VRs I (xs.map .int) vs
  | vs, [], x => by cases x; exact .nil
  | vs, n :: xs, x => by
    cases x with
    | cons a b =>
      cases a
      exact .cons (by simp only [VR]; exact (in_1_0 _ rfl)) (vrs_ints b)
theorem final {w : PySem.World} {s₀ s₁ : Shared} {mg mb : Str → Option Value} {loose : List Str} {xs : List Int} {a : Addr} (KX : (hd.heap_39 w.params).In s₁.heap) (T : Top hd.view_39 loose (ExcName.means s₀.heap) mg mb s₁.heap) (hg : s₁.gens = #[])
    (hw : Well w.params s₁.heap (.ref a) (ofPy (PyData.list (xs.map PyData.int)))) (hlen : ¬ (63 : Int) < xs.length) :
    codeAny (model PySem.Challenge.rw_kq0032_03.row.prog w) callerA (.call (.ref 94) { pos := [.ref a] }) (GoodW PySem.Challenge.rw_kq0032_03.row.claim (classAt s₀.heap) (ExcName.means s₀.heap) [ofPy (PyData.list (xs.map PyData.int))] s₁) s₁ := by
  (refine el_1_1 (klaw w.params) fun fd f hbind => ?_)
  (refine el_3_0 f.at_ fun oc od sl e => ?_)
  have hlist : VR (fun b => s₁.heap.get? b) (.lst (xs.map .int)) (.ref a) := by
    simp only [ofPy] at hw
    cases hw with
    | list h1 h2 =>
      simp only [VR]
      exact (in_3_2 a _ _ rfl h1 (by simpa using vrs_ints h2))
  refine codeAny_mono (topCall_W (dep := 3) (K := hd.heap_39 w.params) (mg := mg) (mb := mb) (pn := ["script"]) (args := [.lst (xs.map .int)]) (us := [.ref a]) KX T.g T.b T.nolimit T.builtins rfl (by decide) (by decide) rfl (in_2_1 94 _ (by decide) (KX _ _ e)) (KX _ _ e) rfl (codeRec_of KX f.code) f.body f.clo f.gl f.bl f.co f.gen f.kind (hbind _ rfl)
    (by rw [f.scope]; decide +kernel) (by decide) (by rw [f.scope]; decide +kernel) (by rw [f.scope]; decide +kernel) (.cons hlist .nil) fun C' ok c1 c2 c3 c4 c5 c6 c7 => ?_) fun r s' ⟨er, keep, h, tk, dr, es⟩ => ?_
  · have hk : HK C' (scopeOf (lawF 6)) := fun y => by unfold Env.kindOf; rw [c7, f.scope]
    have L : LCtx C' 66 77 84 89 := lctx_of (P := w.params) c2 ok.K ok.g ok.boot
    exact law_W' (dep := 0) ok hk L (by omega) fun lo' H' => rfl
  · subst er
    refine (in_0_3 (.inl (in_3_4 (.bool true) (.bool true) ([]) rfl (fun _ => rfl) (.bool true) (by kernel_rfl) (fun _ => ⟨List.nodup_nil, fun a h => by cases h⟩))) keep (by rw [es]) (by rw [es]; exact hg))
end Mine
theorem PySem.Challenge.cw_kq0032_03_holds : PySem.Challenge.rw_kq0032_03.Holds := by
  refine Mine.hd ?_
  k_fill
  intro w s₀ s₁ mg mb G Y fa o pm cd doc dV kV ho hd' hcd hD hmg hg args vals as hpre hlay hrd hwl hlo
  have KX := kIn_of Y
  clear hd' hcd hD
  refine Ground.open G ?_
  intro T B D TE TW
  have hfa : fa = 94 := by
    obtain ⟨g1, g2, g3, g4, g5, _⟩ := Mine.kglob w.params
    have := mg_of KX T.g g5
    have h2 : mg "law" = some (.ref fa) := hmg
    rw [h2] at this
    cases this; rfl
  clear hmg
  subst hfa
  wrow_args hpre hlay hrd hwl hlo
  first | refine callC_kw (enter_call ?_) | refine enter_call ?_ | refine callC_kw (enter_callW ?_) | refine enter_callW ?_
  refine codeAny_mono ?_ (fun _ _ g => GoodW.toG g)
  exact Mine.final KX T hg (by assumption) (by assumption)
