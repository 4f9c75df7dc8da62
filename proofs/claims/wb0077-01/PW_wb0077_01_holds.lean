import PyProof.Rows.All
import Wide.All
import OpenK.AllK
import Wide.FinOn
import PySem.Challenge.RW_wb0077_01
set_option Elab.async false
set_option maxRecDepth 100000
set_option linter.unusedVariables false
set_option linter.unusedSimpArgs false
namespace Mine
section
theorem e0a2  {P0 P1 : Prop} {G : Prop} (h : P0 ∧ P1) (k : P0 → P1 → G) : G :=
  k h.1 h.2
theorem e0a3  {P0 P1 P2 : Prop} {G : Prop} (h : P0 ∧ P1 ∧ P2) (k : P0 → P1 → P2 → G) : G :=
  k h.1 h.2.1 h.2.2
theorem e0a4  {P0 P1 P2 P3 : Prop} {G : Prop} (h : P0 ∧ P1 ∧ P2 ∧ P3) (k : P0 → P1 → P2 → P3 → G) : G :=
  e0a3 h.2 (k h.1)
theorem e0a5  {P0 P1 P2 P3 P4 : Prop} {G : Prop} (h : P0 ∧ P1 ∧ P2 ∧ P3 ∧ P4) (k : P0 → P1 → P2 → P3 → P4 → G) : G :=
  e0a4 h.2 (k h.1)
theorem e0a6  {P0 P1 P2 P3 P4 P5 : Prop} {G : Prop} (h : P0 ∧ P1 ∧ P2 ∧ P3 ∧ P4 ∧ P5) (k : P0 → P1 → P2 → P3 → P4 → P5 → G) : G :=
  e0a5 h.2 (k h.1)
theorem e0a7  {P0 P1 P2 P3 P4 P5 P6 : Prop} {G : Prop} (h : P0 ∧ P1 ∧ P2 ∧ P3 ∧ P4 ∧ P5 ∧ P6) (k : P0 → P1 → P2 → P3 → P4 → P5 → P6 → G) : G :=
  e0a6 h.2 (k h.1)
theorem e0a8  {P0 P1 P2 P3 P4 P5 P6 P7 : Prop} {G : Prop} (h : P0 ∧ P1 ∧ P2 ∧ P3 ∧ P4 ∧ P5 ∧ P6 ∧ P7) (k : P0 → P1 → P2 → P3 → P4 → P5 → P6 → P7 → G) : G :=
  e0a7 h.2 (k h.1)
theorem e0a9  {P0 P1 P2 P3 P4 P5 P6 P7 P8 : Prop} {G : Prop} (h : P0 ∧ P1 ∧ P2 ∧ P3 ∧ P4 ∧ P5 ∧ P6 ∧ P7 ∧ P8) (k : P0 → P1 → P2 → P3 → P4 → P5 → P6 → P7 → P8 → G) : G :=
  e0a8 h.2 (k h.1)
theorem e1a1.{u0} {α0 : Sort u0} {P0 : α0 → Prop} {G : Prop} (h : ∃ x0, P0 x0) (k : ∀ x0, P0 x0 → G) : G :=
  h.elim k
theorem e1a2.{u0} {α0 : Sort u0} {P0 P1 : α0 → Prop} {G : Prop} (h : ∃ x0, P0 x0 ∧ P1 x0) (k : ∀ x0, P0 x0 → P1 x0 → G) : G :=
  h.elim fun x h => e0a2 h (k x)
theorem e1a3.{u0} {α0 : Sort u0} {P0 P1 P2 : α0 → Prop} {G : Prop} (h : ∃ x0, P0 x0 ∧ P1 x0 ∧ P2 x0) (k : ∀ x0, P0 x0 → P1 x0 → P2 x0 → G) : G :=
  h.elim fun x h => e0a3 h (k x)
theorem e1a4.{u0} {α0 : Sort u0} {P0 P1 P2 P3 : α0 → Prop} {G : Prop} (h : ∃ x0, P0 x0 ∧ P1 x0 ∧ P2 x0 ∧ P3 x0) (k : ∀ x0, P0 x0 → P1 x0 → P2 x0 → P3 x0 → G) : G :=
  h.elim fun x h => e0a4 h (k x)
theorem e1a5.{u0} {α0 : Sort u0} {P0 P1 P2 P3 P4 : α0 → Prop} {G : Prop} (h : ∃ x0, P0 x0 ∧ P1 x0 ∧ P2 x0 ∧ P3 x0 ∧ P4 x0) (k : ∀ x0, P0 x0 → P1 x0 → P2 x0 → P3 x0 → P4 x0 → G) : G :=
  h.elim fun x h => e0a5 h (k x)
theorem e1a6.{u0} {α0 : Sort u0} {P0 P1 P2 P3 P4 P5 : α0 → Prop} {G : Prop} (h : ∃ x0, P0 x0 ∧ P1 x0 ∧ P2 x0 ∧ P3 x0 ∧ P4 x0 ∧ P5 x0) (k : ∀ x0, P0 x0 → P1 x0 → P2 x0 → P3 x0 → P4 x0 → P5 x0 → G) : G :=
  h.elim fun x h => e0a6 h (k x)
theorem e1a7.{u0} {α0 : Sort u0} {P0 P1 P2 P3 P4 P5 P6 : α0 → Prop} {G : Prop} (h : ∃ x0, P0 x0 ∧ P1 x0 ∧ P2 x0 ∧ P3 x0 ∧ P4 x0 ∧ P5 x0 ∧ P6 x0) (k : ∀ x0, P0 x0 → P1 x0 → P2 x0 → P3 x0 → P4 x0 → P5 x0 → P6 x0 → G) : G :=
  h.elim fun x h => e0a7 h (k x)
theorem e1a8.{u0} {α0 : Sort u0} {P0 P1 P2 P3 P4 P5 P6 P7 : α0 → Prop} {G : Prop} (h : ∃ x0, P0 x0 ∧ P1 x0 ∧ P2 x0 ∧ P3 x0 ∧ P4 x0 ∧ P5 x0 ∧ P6 x0 ∧ P7 x0) (k : ∀ x0, P0 x0 → P1 x0 → P2 x0 → P3 x0 → P4 x0 → P5 x0 → P6 x0 → P7 x0 → G) : G :=
  h.elim fun x h => e0a8 h (k x)
theorem e1a9.{u0} {α0 : Sort u0} {P0 P1 P2 P3 P4 P5 P6 P7 P8 : α0 → Prop} {G : Prop} (h : ∃ x0, P0 x0 ∧ P1 x0 ∧ P2 x0 ∧ P3 x0 ∧ P4 x0 ∧ P5 x0 ∧ P6 x0 ∧ P7 x0 ∧ P8 x0) (k : ∀ x0, P0 x0 → P1 x0 → P2 x0 → P3 x0 → P4 x0 → P5 x0 → P6 x0 → P7 x0 → P8 x0 → G) : G :=
  h.elim fun x h => e0a9 h (k x)
theorem e2a1.{u0, u1} {α0 : Sort u0} {α1 : Sort u1} {P0 : α0 → α1 → Prop} {G : Prop} (h : ∃ x0 x1, P0 x0 x1) (k : ∀ x0 x1, P0 x0 x1 → G) : G :=
  h.elim fun x h => e1a1 h (k x)
theorem e2a2.{u0, u1} {α0 : Sort u0} {α1 : Sort u1} {P0 P1 : α0 → α1 → Prop} {G : Prop} (h : ∃ x0 x1, P0 x0 x1 ∧ P1 x0 x1) (k : ∀ x0 x1, P0 x0 x1 → P1 x0 x1 → G) : G :=
  h.elim fun x h => e1a2 h (k x)
theorem e2a3.{u0, u1} {α0 : Sort u0} {α1 : Sort u1} {P0 P1 P2 : α0 → α1 → Prop} {G : Prop} (h : ∃ x0 x1, P0 x0 x1 ∧ P1 x0 x1 ∧ P2 x0 x1) (k : ∀ x0 x1, P0 x0 x1 → P1 x0 x1 → P2 x0 x1 → G) : G :=
  h.elim fun x h => e1a3 h (k x)
theorem e2a4.{u0, u1} {α0 : Sort u0} {α1 : Sort u1} {P0 P1 P2 P3 : α0 → α1 → Prop} {G : Prop} (h : ∃ x0 x1, P0 x0 x1 ∧ P1 x0 x1 ∧ P2 x0 x1 ∧ P3 x0 x1) (k : ∀ x0 x1, P0 x0 x1 → P1 x0 x1 → P2 x0 x1 → P3 x0 x1 → G) : G :=
  h.elim fun x h => e1a4 h (k x)
theorem e2a5.{u0, u1} {α0 : Sort u0} {α1 : Sort u1} {P0 P1 P2 P3 P4 : α0 → α1 → Prop} {G : Prop} (h : ∃ x0 x1, P0 x0 x1 ∧ P1 x0 x1 ∧ P2 x0 x1 ∧ P3 x0 x1 ∧ P4 x0 x1) (k : ∀ x0 x1, P0 x0 x1 → P1 x0 x1 → P2 x0 x1 → P3 x0 x1 → P4 x0 x1 → G) : G :=
  h.elim fun x h => e1a5 h (k x)
theorem e2a6.{u0, u1} {α0 : Sort u0} {α1 : Sort u1} {P0 P1 P2 P3 P4 P5 : α0 → α1 → Prop} {G : Prop} (h : ∃ x0 x1, P0 x0 x1 ∧ P1 x0 x1 ∧ P2 x0 x1 ∧ P3 x0 x1 ∧ P4 x0 x1 ∧ P5 x0 x1) (k : ∀ x0 x1, P0 x0 x1 → P1 x0 x1 → P2 x0 x1 → P3 x0 x1 → P4 x0 x1 → P5 x0 x1 → G) : G :=
  h.elim fun x h => e1a6 h (k x)
theorem e2a7.{u0, u1} {α0 : Sort u0} {α1 : Sort u1} {P0 P1 P2 P3 P4 P5 P6 : α0 → α1 → Prop} {G : Prop} (h : ∃ x0 x1, P0 x0 x1 ∧ P1 x0 x1 ∧ P2 x0 x1 ∧ P3 x0 x1 ∧ P4 x0 x1 ∧ P5 x0 x1 ∧ P6 x0 x1) (k : ∀ x0 x1, P0 x0 x1 → P1 x0 x1 → P2 x0 x1 → P3 x0 x1 → P4 x0 x1 → P5 x0 x1 → P6 x0 x1 → G) : G :=
  h.elim fun x h => e1a7 h (k x)
theorem e2a8.{u0, u1} {α0 : Sort u0} {α1 : Sort u1} {P0 P1 P2 P3 P4 P5 P6 P7 : α0 → α1 → Prop} {G : Prop} (h : ∃ x0 x1, P0 x0 x1 ∧ P1 x0 x1 ∧ P2 x0 x1 ∧ P3 x0 x1 ∧ P4 x0 x1 ∧ P5 x0 x1 ∧ P6 x0 x1 ∧ P7 x0 x1) (k : ∀ x0 x1, P0 x0 x1 → P1 x0 x1 → P2 x0 x1 → P3 x0 x1 → P4 x0 x1 → P5 x0 x1 → P6 x0 x1 → P7 x0 x1 → G) : G :=
  h.elim fun x h => e1a8 h (k x)
theorem e2a9.{u0, u1} {α0 : Sort u0} {α1 : Sort u1} {P0 P1 P2 P3 P4 P5 P6 P7 P8 : α0 → α1 → Prop} {G : Prop} (h : ∃ x0 x1, P0 x0 x1 ∧ P1 x0 x1 ∧ P2 x0 x1 ∧ P3 x0 x1 ∧ P4 x0 x1 ∧ P5 x0 x1 ∧ P6 x0 x1 ∧ P7 x0 x1 ∧ P8 x0 x1) (k : ∀ x0 x1, P0 x0 x1 → P1 x0 x1 → P2 x0 x1 → P3 x0 x1 → P4 x0 x1 → P5 x0 x1 → P6 x0 x1 → P7 x0 x1 → P8 x0 x1 → G) : G :=
  h.elim fun x h => e1a9 h (k x)
theorem e3a1.{u0, u1, u2} {α0 : Sort u0} {α1 : Sort u1} {α2 : Sort u2} {P0 : α0 → α1 → α2 → Prop} {G : Prop} (h : ∃ x0 x1 x2, P0 x0 x1 x2) (k : ∀ x0 x1 x2, P0 x0 x1 x2 → G) : G :=
  h.elim fun x h => e2a1 h (k x)
theorem e3a2.{u0, u1, u2} {α0 : Sort u0} {α1 : Sort u1} {α2 : Sort u2} {P0 P1 : α0 → α1 → α2 → Prop} {G : Prop} (h : ∃ x0 x1 x2, P0 x0 x1 x2 ∧ P1 x0 x1 x2) (k : ∀ x0 x1 x2, P0 x0 x1 x2 → P1 x0 x1 x2 → G) : G :=
  h.elim fun x h => e2a2 h (k x)
theorem e3a4.{u0, u1, u2} {α0 : Sort u0} {α1 : Sort u1} {α2 : Sort u2} {P0 P1 P2 P3 : α0 → α1 → α2 → Prop} {G : Prop} (h : ∃ x0 x1 x2, P0 x0 x1 x2 ∧ P1 x0 x1 x2 ∧ P2 x0 x1 x2 ∧ P3 x0 x1 x2) (k : ∀ x0 x1 x2, P0 x0 x1 x2 → P1 x0 x1 x2 → P2 x0 x1 x2 → P3 x0 x1 x2 → G) : G :=
  h.elim fun x h => e2a4 h (k x)
theorem e3a5.{u0, u1, u2} {α0 : Sort u0} {α1 : Sort u1} {α2 : Sort u2} {P0 P1 P2 P3 P4 : α0 → α1 → α2 → Prop} {G : Prop} (h : ∃ x0 x1 x2, P0 x0 x1 x2 ∧ P1 x0 x1 x2 ∧ P2 x0 x1 x2 ∧ P3 x0 x1 x2 ∧ P4 x0 x1 x2) (k : ∀ x0 x1 x2, P0 x0 x1 x2 → P1 x0 x1 x2 → P2 x0 x1 x2 → P3 x0 x1 x2 → P4 x0 x1 x2 → G) : G :=
  h.elim fun x h => e2a5 h (k x)
theorem e3a6.{u0, u1, u2} {α0 : Sort u0} {α1 : Sort u1} {α2 : Sort u2} {P0 P1 P2 P3 P4 P5 : α0 → α1 → α2 → Prop} {G : Prop} (h : ∃ x0 x1 x2, P0 x0 x1 x2 ∧ P1 x0 x1 x2 ∧ P2 x0 x1 x2 ∧ P3 x0 x1 x2 ∧ P4 x0 x1 x2 ∧ P5 x0 x1 x2) (k : ∀ x0 x1 x2, P0 x0 x1 x2 → P1 x0 x1 x2 → P2 x0 x1 x2 → P3 x0 x1 x2 → P4 x0 x1 x2 → P5 x0 x1 x2 → G) : G :=
  h.elim fun x h => e2a6 h (k x)
theorem e3a7.{u0, u1, u2} {α0 : Sort u0} {α1 : Sort u1} {α2 : Sort u2} {P0 P1 P2 P3 P4 P5 P6 : α0 → α1 → α2 → Prop} {G : Prop} (h : ∃ x0 x1 x2, P0 x0 x1 x2 ∧ P1 x0 x1 x2 ∧ P2 x0 x1 x2 ∧ P3 x0 x1 x2 ∧ P4 x0 x1 x2 ∧ P5 x0 x1 x2 ∧ P6 x0 x1 x2) (k : ∀ x0 x1 x2, P0 x0 x1 x2 → P1 x0 x1 x2 → P2 x0 x1 x2 → P3 x0 x1 x2 → P4 x0 x1 x2 → P5 x0 x1 x2 → P6 x0 x1 x2 → G) : G :=
  h.elim fun x h => e2a7 h (k x)
theorem e3a8.{u0, u1, u2} {α0 : Sort u0} {α1 : Sort u1} {α2 : Sort u2} {P0 P1 P2 P3 P4 P5 P6 P7 : α0 → α1 → α2 → Prop} {G : Prop} (h : ∃ x0 x1 x2, P0 x0 x1 x2 ∧ P1 x0 x1 x2 ∧ P2 x0 x1 x2 ∧ P3 x0 x1 x2 ∧ P4 x0 x1 x2 ∧ P5 x0 x1 x2 ∧ P6 x0 x1 x2 ∧ P7 x0 x1 x2) (k : ∀ x0 x1 x2, P0 x0 x1 x2 → P1 x0 x1 x2 → P2 x0 x1 x2 → P3 x0 x1 x2 → P4 x0 x1 x2 → P5 x0 x1 x2 → P6 x0 x1 x2 → P7 x0 x1 x2 → G) : G :=
  h.elim fun x h => e2a8 h (k x)
theorem e3a9.{u0, u1, u2} {α0 : Sort u0} {α1 : Sort u1} {α2 : Sort u2} {P0 P1 P2 P3 P4 P5 P6 P7 P8 : α0 → α1 → α2 → Prop} {G : Prop} (h : ∃ x0 x1 x2, P0 x0 x1 x2 ∧ P1 x0 x1 x2 ∧ P2 x0 x1 x2 ∧ P3 x0 x1 x2 ∧ P4 x0 x1 x2 ∧ P5 x0 x1 x2 ∧ P6 x0 x1 x2 ∧ P7 x0 x1 x2 ∧ P8 x0 x1 x2) (k : ∀ x0 x1 x2, P0 x0 x1 x2 → P1 x0 x1 x2 → P2 x0 x1 x2 → P3 x0 x1 x2 → P4 x0 x1 x2 → P5 x0 x1 x2 → P6 x0 x1 x2 → P7 x0 x1 x2 → P8 x0 x1 x2 → G) : G :=
  h.elim fun x h => e2a9 h (k x)
theorem e4a1.{u0, u1, u2, u3} {α0 : Sort u0} {α1 : Sort u1} {α2 : Sort u2} {α3 : Sort u3} {P0 : α0 → α1 → α2 → α3 → Prop} {G : Prop} (h : ∃ x0 x1 x2 x3, P0 x0 x1 x2 x3) (k : ∀ x0 x1 x2 x3, P0 x0 x1 x2 x3 → G) : G :=
  h.elim fun x h => e3a1 h (k x)
theorem e4a2.{u0, u1, u2, u3} {α0 : Sort u0} {α1 : Sort u1} {α2 : Sort u2} {α3 : Sort u3} {P0 P1 : α0 → α1 → α2 → α3 → Prop} {G : Prop} (h : ∃ x0 x1 x2 x3, P0 x0 x1 x2 x3 ∧ P1 x0 x1 x2 x3) (k : ∀ x0 x1 x2 x3, P0 x0 x1 x2 x3 → P1 x0 x1 x2 x3 → G) : G :=
  h.elim fun x h => e3a2 h (k x)
theorem e4a4.{u0, u1, u2, u3} {α0 : Sort u0} {α1 : Sort u1} {α2 : Sort u2} {α3 : Sort u3} {P0 P1 P2 P3 : α0 → α1 → α2 → α3 → Prop} {G : Prop} (h : ∃ x0 x1 x2 x3, P0 x0 x1 x2 x3 ∧ P1 x0 x1 x2 x3 ∧ P2 x0 x1 x2 x3 ∧ P3 x0 x1 x2 x3) (k : ∀ x0 x1 x2 x3, P0 x0 x1 x2 x3 → P1 x0 x1 x2 x3 → P2 x0 x1 x2 x3 → P3 x0 x1 x2 x3 → G) : G :=
  h.elim fun x h => e3a4 h (k x)
theorem e4a5.{u0, u1, u2, u3} {α0 : Sort u0} {α1 : Sort u1} {α2 : Sort u2} {α3 : Sort u3} {P0 P1 P2 P3 P4 : α0 → α1 → α2 → α3 → Prop} {G : Prop} (h : ∃ x0 x1 x2 x3, P0 x0 x1 x2 x3 ∧ P1 x0 x1 x2 x3 ∧ P2 x0 x1 x2 x3 ∧ P3 x0 x1 x2 x3 ∧ P4 x0 x1 x2 x3) (k : ∀ x0 x1 x2 x3, P0 x0 x1 x2 x3 → P1 x0 x1 x2 x3 → P2 x0 x1 x2 x3 → P3 x0 x1 x2 x3 → P4 x0 x1 x2 x3 → G) : G :=
  h.elim fun x h => e3a5 h (k x)
theorem e4a6.{u0, u1, u2, u3} {α0 : Sort u0} {α1 : Sort u1} {α2 : Sort u2} {α3 : Sort u3} {P0 P1 P2 P3 P4 P5 : α0 → α1 → α2 → α3 → Prop} {G : Prop} (h : ∃ x0 x1 x2 x3, P0 x0 x1 x2 x3 ∧ P1 x0 x1 x2 x3 ∧ P2 x0 x1 x2 x3 ∧ P3 x0 x1 x2 x3 ∧ P4 x0 x1 x2 x3 ∧ P5 x0 x1 x2 x3) (k : ∀ x0 x1 x2 x3, P0 x0 x1 x2 x3 → P1 x0 x1 x2 x3 → P2 x0 x1 x2 x3 → P3 x0 x1 x2 x3 → P4 x0 x1 x2 x3 → P5 x0 x1 x2 x3 → G) : G :=
  h.elim fun x h => e3a6 h (k x)
theorem e4a7.{u0, u1, u2, u3} {α0 : Sort u0} {α1 : Sort u1} {α2 : Sort u2} {α3 : Sort u3} {P0 P1 P2 P3 P4 P5 P6 : α0 → α1 → α2 → α3 → Prop} {G : Prop} (h : ∃ x0 x1 x2 x3, P0 x0 x1 x2 x3 ∧ P1 x0 x1 x2 x3 ∧ P2 x0 x1 x2 x3 ∧ P3 x0 x1 x2 x3 ∧ P4 x0 x1 x2 x3 ∧ P5 x0 x1 x2 x3 ∧ P6 x0 x1 x2 x3) (k : ∀ x0 x1 x2 x3, P0 x0 x1 x2 x3 → P1 x0 x1 x2 x3 → P2 x0 x1 x2 x3 → P3 x0 x1 x2 x3 → P4 x0 x1 x2 x3 → P5 x0 x1 x2 x3 → P6 x0 x1 x2 x3 → G) : G :=
  h.elim fun x h => e3a7 h (k x)
theorem e4a8.{u0, u1, u2, u3} {α0 : Sort u0} {α1 : Sort u1} {α2 : Sort u2} {α3 : Sort u3} {P0 P1 P2 P3 P4 P5 P6 P7 : α0 → α1 → α2 → α3 → Prop} {G : Prop} (h : ∃ x0 x1 x2 x3, P0 x0 x1 x2 x3 ∧ P1 x0 x1 x2 x3 ∧ P2 x0 x1 x2 x3 ∧ P3 x0 x1 x2 x3 ∧ P4 x0 x1 x2 x3 ∧ P5 x0 x1 x2 x3 ∧ P6 x0 x1 x2 x3 ∧ P7 x0 x1 x2 x3) (k : ∀ x0 x1 x2 x3, P0 x0 x1 x2 x3 → P1 x0 x1 x2 x3 → P2 x0 x1 x2 x3 → P3 x0 x1 x2 x3 → P4 x0 x1 x2 x3 → P5 x0 x1 x2 x3 → P6 x0 x1 x2 x3 → P7 x0 x1 x2 x3 → G) : G :=
  h.elim fun x h => e3a8 h (k x)
theorem e4a9.{u0, u1, u2, u3} {α0 : Sort u0} {α1 : Sort u1} {α2 : Sort u2} {α3 : Sort u3} {P0 P1 P2 P3 P4 P5 P6 P7 P8 : α0 → α1 → α2 → α3 → Prop} {G : Prop} (h : ∃ x0 x1 x2 x3, P0 x0 x1 x2 x3 ∧ P1 x0 x1 x2 x3 ∧ P2 x0 x1 x2 x3 ∧ P3 x0 x1 x2 x3 ∧ P4 x0 x1 x2 x3 ∧ P5 x0 x1 x2 x3 ∧ P6 x0 x1 x2 x3 ∧ P7 x0 x1 x2 x3 ∧ P8 x0 x1 x2 x3) (k : ∀ x0 x1 x2 x3, P0 x0 x1 x2 x3 → P1 x0 x1 x2 x3 → P2 x0 x1 x2 x3 → P3 x0 x1 x2 x3 → P4 x0 x1 x2 x3 → P5 x0 x1 x2 x3 → P6 x0 x1 x2 x3 → P7 x0 x1 x2 x3 → P8 x0 x1 x2 x3 → G) : G :=
  h.elim fun x h => e3a9 h (k x)
theorem e5a1.{u0, u1, u2, u3, u4} {α0 : Sort u0} {α1 : Sort u1} {α2 : Sort u2} {α3 : Sort u3} {α4 : Sort u4} {P0 : α0 → α1 → α2 → α3 → α4 → Prop} {G : Prop} (h : ∃ x0 x1 x2 x3 x4, P0 x0 x1 x2 x3 x4) (k : ∀ x0 x1 x2 x3 x4, P0 x0 x1 x2 x3 x4 → G) : G :=
  h.elim fun x h => e4a1 h (k x)
theorem e5a4.{u0, u1, u2, u3, u4} {α0 : Sort u0} {α1 : Sort u1} {α2 : Sort u2} {α3 : Sort u3} {α4 : Sort u4} {P0 P1 P2 P3 : α0 → α1 → α2 → α3 → α4 → Prop} {G : Prop} (h : ∃ x0 x1 x2 x3 x4, P0 x0 x1 x2 x3 x4 ∧ P1 x0 x1 x2 x3 x4 ∧ P2 x0 x1 x2 x3 x4 ∧ P3 x0 x1 x2 x3 x4) (k : ∀ x0 x1 x2 x3 x4, P0 x0 x1 x2 x3 x4 → P1 x0 x1 x2 x3 x4 → P2 x0 x1 x2 x3 x4 → P3 x0 x1 x2 x3 x4 → G) : G :=
  h.elim fun x h => e4a4 h (k x)
theorem e5a5.{u0, u1, u2, u3, u4} {α0 : Sort u0} {α1 : Sort u1} {α2 : Sort u2} {α3 : Sort u3} {α4 : Sort u4} {P0 P1 P2 P3 P4 : α0 → α1 → α2 → α3 → α4 → Prop} {G : Prop} (h : ∃ x0 x1 x2 x3 x4, P0 x0 x1 x2 x3 x4 ∧ P1 x0 x1 x2 x3 x4 ∧ P2 x0 x1 x2 x3 x4 ∧ P3 x0 x1 x2 x3 x4 ∧ P4 x0 x1 x2 x3 x4) (k : ∀ x0 x1 x2 x3 x4, P0 x0 x1 x2 x3 x4 → P1 x0 x1 x2 x3 x4 → P2 x0 x1 x2 x3 x4 → P3 x0 x1 x2 x3 x4 → P4 x0 x1 x2 x3 x4 → G) : G :=
  h.elim fun x h => e4a5 h (k x)
theorem e5a8.{u0, u1, u2, u3, u4} {α0 : Sort u0} {α1 : Sort u1} {α2 : Sort u2} {α3 : Sort u3} {α4 : Sort u4} {P0 P1 P2 P3 P4 P5 P6 P7 : α0 → α1 → α2 → α3 → α4 → Prop} {G : Prop} (h : ∃ x0 x1 x2 x3 x4, P0 x0 x1 x2 x3 x4 ∧ P1 x0 x1 x2 x3 x4 ∧ P2 x0 x1 x2 x3 x4 ∧ P3 x0 x1 x2 x3 x4 ∧ P4 x0 x1 x2 x3 x4 ∧ P5 x0 x1 x2 x3 x4 ∧ P6 x0 x1 x2 x3 x4 ∧ P7 x0 x1 x2 x3 x4) (k : ∀ x0 x1 x2 x3 x4, P0 x0 x1 x2 x3 x4 → P1 x0 x1 x2 x3 x4 → P2 x0 x1 x2 x3 x4 → P3 x0 x1 x2 x3 x4 → P4 x0 x1 x2 x3 x4 → P5 x0 x1 x2 x3 x4 → P6 x0 x1 x2 x3 x4 → P7 x0 x1 x2 x3 x4 → G) : G :=
  h.elim fun x h => e4a8 h (k x)
theorem e5a9.{u0, u1, u2, u3, u4} {α0 : Sort u0} {α1 : Sort u1} {α2 : Sort u2} {α3 : Sort u3} {α4 : Sort u4} {P0 P1 P2 P3 P4 P5 P6 P7 P8 : α0 → α1 → α2 → α3 → α4 → Prop} {G : Prop} (h : ∃ x0 x1 x2 x3 x4, P0 x0 x1 x2 x3 x4 ∧ P1 x0 x1 x2 x3 x4 ∧ P2 x0 x1 x2 x3 x4 ∧ P3 x0 x1 x2 x3 x4 ∧ P4 x0 x1 x2 x3 x4 ∧ P5 x0 x1 x2 x3 x4 ∧ P6 x0 x1 x2 x3 x4 ∧ P7 x0 x1 x2 x3 x4 ∧ P8 x0 x1 x2 x3 x4) (k : ∀ x0 x1 x2 x3 x4, P0 x0 x1 x2 x3 x4 → P1 x0 x1 x2 x3 x4 → P2 x0 x1 x2 x3 x4 → P3 x0 x1 x2 x3 x4 → P4 x0 x1 x2 x3 x4 → P5 x0 x1 x2 x3 x4 → P6 x0 x1 x2 x3 x4 → P7 x0 x1 x2 x3 x4 → P8 x0 x1 x2 x3 x4 → G) : G :=
  h.elim fun x h => e4a9 h (k x)
theorem e6a1.{u0, u1, u2, u3, u4, u5} {α0 : Sort u0} {α1 : Sort u1} {α2 : Sort u2} {α3 : Sort u3} {α4 : Sort u4} {α5 : Sort u5} {P0 : α0 → α1 → α2 → α3 → α4 → α5 → Prop} {G : Prop} (h : ∃ x0 x1 x2 x3 x4 x5, P0 x0 x1 x2 x3 x4 x5) (k : ∀ x0 x1 x2 x3 x4 x5, P0 x0 x1 x2 x3 x4 x5 → G) : G :=
  h.elim fun x h => e5a1 h (k x)
theorem e6a5.{u0, u1, u2, u3, u4, u5} {α0 : Sort u0} {α1 : Sort u1} {α2 : Sort u2} {α3 : Sort u3} {α4 : Sort u4} {α5 : Sort u5} {P0 P1 P2 P3 P4 : α0 → α1 → α2 → α3 → α4 → α5 → Prop} {G : Prop} (h : ∃ x0 x1 x2 x3 x4 x5, P0 x0 x1 x2 x3 x4 x5 ∧ P1 x0 x1 x2 x3 x4 x5 ∧ P2 x0 x1 x2 x3 x4 x5 ∧ P3 x0 x1 x2 x3 x4 x5 ∧ P4 x0 x1 x2 x3 x4 x5) (k : ∀ x0 x1 x2 x3 x4 x5, P0 x0 x1 x2 x3 x4 x5 → P1 x0 x1 x2 x3 x4 x5 → P2 x0 x1 x2 x3 x4 x5 → P3 x0 x1 x2 x3 x4 x5 → P4 x0 x1 x2 x3 x4 x5 → G) : G :=
  h.elim fun x h => e5a5 h (k x)
theorem e6a8.{u0, u1, u2, u3, u4, u5} {α0 : Sort u0} {α1 : Sort u1} {α2 : Sort u2} {α3 : Sort u3} {α4 : Sort u4} {α5 : Sort u5} {P0 P1 P2 P3 P4 P5 P6 P7 : α0 → α1 → α2 → α3 → α4 → α5 → Prop} {G : Prop} (h : ∃ x0 x1 x2 x3 x4 x5, P0 x0 x1 x2 x3 x4 x5 ∧ P1 x0 x1 x2 x3 x4 x5 ∧ P2 x0 x1 x2 x3 x4 x5 ∧ P3 x0 x1 x2 x3 x4 x5 ∧ P4 x0 x1 x2 x3 x4 x5 ∧ P5 x0 x1 x2 x3 x4 x5 ∧ P6 x0 x1 x2 x3 x4 x5 ∧ P7 x0 x1 x2 x3 x4 x5) (k : ∀ x0 x1 x2 x3 x4 x5, P0 x0 x1 x2 x3 x4 x5 → P1 x0 x1 x2 x3 x4 x5 → P2 x0 x1 x2 x3 x4 x5 → P3 x0 x1 x2 x3 x4 x5 → P4 x0 x1 x2 x3 x4 x5 → P5 x0 x1 x2 x3 x4 x5 → P6 x0 x1 x2 x3 x4 x5 → P7 x0 x1 x2 x3 x4 x5 → G) : G :=
  h.elim fun x h => e5a8 h (k x)
theorem e6a9.{u0, u1, u2, u3, u4, u5} {α0 : Sort u0} {α1 : Sort u1} {α2 : Sort u2} {α3 : Sort u3} {α4 : Sort u4} {α5 : Sort u5} {P0 P1 P2 P3 P4 P5 P6 P7 P8 : α0 → α1 → α2 → α3 → α4 → α5 → Prop} {G : Prop} (h : ∃ x0 x1 x2 x3 x4 x5, P0 x0 x1 x2 x3 x4 x5 ∧ P1 x0 x1 x2 x3 x4 x5 ∧ P2 x0 x1 x2 x3 x4 x5 ∧ P3 x0 x1 x2 x3 x4 x5 ∧ P4 x0 x1 x2 x3 x4 x5 ∧ P5 x0 x1 x2 x3 x4 x5 ∧ P6 x0 x1 x2 x3 x4 x5 ∧ P7 x0 x1 x2 x3 x4 x5 ∧ P8 x0 x1 x2 x3 x4 x5) (k : ∀ x0 x1 x2 x3 x4 x5, P0 x0 x1 x2 x3 x4 x5 → P1 x0 x1 x2 x3 x4 x5 → P2 x0 x1 x2 x3 x4 x5 → P3 x0 x1 x2 x3 x4 x5 → P4 x0 x1 x2 x3 x4 x5 → P5 x0 x1 x2 x3 x4 x5 → P6 x0 x1 x2 x3 x4 x5 → P7 x0 x1 x2 x3 x4 x5 → P8 x0 x1 x2 x3 x4 x5 → G) : G :=
  h.elim fun x h => e5a9 h (k x)
theorem e7a1.{u0, u1, u2, u3, u4, u5, u6} {α0 : Sort u0} {α1 : Sort u1} {α2 : Sort u2} {α3 : Sort u3} {α4 : Sort u4} {α5 : Sort u5} {α6 : Sort u6} {P0 : α0 → α1 → α2 → α3 → α4 → α5 → α6 → Prop} {G : Prop} (h : ∃ x0 x1 x2 x3 x4 x5 x6, P0 x0 x1 x2 x3 x4 x5 x6) (k : ∀ x0 x1 x2 x3 x4 x5 x6, P0 x0 x1 x2 x3 x4 x5 x6 → G) : G :=
  h.elim fun x h => e6a1 h (k x)
theorem e7a8.{u0, u1, u2, u3, u4, u5, u6} {α0 : Sort u0} {α1 : Sort u1} {α2 : Sort u2} {α3 : Sort u3} {α4 : Sort u4} {α5 : Sort u5} {α6 : Sort u6} {P0 P1 P2 P3 P4 P5 P6 P7 : α0 → α1 → α2 → α3 → α4 → α5 → α6 → Prop} {G : Prop} (h : ∃ x0 x1 x2 x3 x4 x5 x6, P0 x0 x1 x2 x3 x4 x5 x6 ∧ P1 x0 x1 x2 x3 x4 x5 x6 ∧ P2 x0 x1 x2 x3 x4 x5 x6 ∧ P3 x0 x1 x2 x3 x4 x5 x6 ∧ P4 x0 x1 x2 x3 x4 x5 x6 ∧ P5 x0 x1 x2 x3 x4 x5 x6 ∧ P6 x0 x1 x2 x3 x4 x5 x6 ∧ P7 x0 x1 x2 x3 x4 x5 x6) (k : ∀ x0 x1 x2 x3 x4 x5 x6, P0 x0 x1 x2 x3 x4 x5 x6 → P1 x0 x1 x2 x3 x4 x5 x6 → P2 x0 x1 x2 x3 x4 x5 x6 → P3 x0 x1 x2 x3 x4 x5 x6 → P4 x0 x1 x2 x3 x4 x5 x6 → P5 x0 x1 x2 x3 x4 x5 x6 → P6 x0 x1 x2 x3 x4 x5 x6 → P7 x0 x1 x2 x3 x4 x5 x6 → G) : G :=
  h.elim fun x h => e6a8 h (k x)
theorem e8a1.{u0, u1, u2, u3, u4, u5, u6, u7} {α0 : Sort u0} {α1 : Sort u1} {α2 : Sort u2} {α3 : Sort u3} {α4 : Sort u4} {α5 : Sort u5} {α6 : Sort u6} {α7 : Sort u7} {P0 : α0 → α1 → α2 → α3 → α4 → α5 → α6 → α7 → Prop} {G : Prop} (h : ∃ x0 x1 x2 x3 x4 x5 x6 x7, P0 x0 x1 x2 x3 x4 x5 x6 x7) (k : ∀ x0 x1 x2 x3 x4 x5 x6 x7, P0 x0 x1 x2 x3 x4 x5 x6 x7 → G) : G :=
  h.elim fun x h => e7a1 h (k x)
theorem e9a1.{u0, u1, u2, u3, u4, u5, u6, u7, u8} {α0 : Sort u0} {α1 : Sort u1} {α2 : Sort u2} {α3 : Sort u3} {α4 : Sort u4} {α5 : Sort u5} {α6 : Sort u6} {α7 : Sort u7} {α8 : Sort u8} {P0 : α0 → α1 → α2 → α3 → α4 → α5 → α6 → α7 → α8 → Prop} {G : Prop} (h : ∃ x0 x1 x2 x3 x4 x5 x6 x7 x8, P0 x0 x1 x2 x3 x4 x5 x6 x7 x8) (k : ∀ x0 x1 x2 x3 x4 x5 x6 x7 x8, P0 x0 x1 x2 x3 x4 x5 x6 x7 x8 → G) : G :=
  h.elim fun x h => e8a1 h (k x)
end
section
open PySem PySem.Calls
inductive D where
  | none
  | bool (b : Bool)
  | int (i : Int)
  | str (s : Str)
  | ref (a : Addr)
  | val (v : Value)
  | list (l : List D)
  | tuple (l : List D)
  | smap (f : Str → Option Str)
  | imap (f : Str → Option Int)
  | fn (fd : FuncData)
set_option genSizeOf false in
set_option genInjectivity false in
structure Cx where
  prog : Program
  w : World
  G : Heap
  tabs : List (Addr × Addr × Str)
noncomputable def Cx.tP (C : Cx) : List Addr := C.tabs.map (·.2.1)
mutual
inductive VR (C : Cx) (h : Heap) (X : List Addr) : Value → D → Prop
  | none : VR C h X .none .none
  | bool (b) : VR C h X (.bool b) (.bool b)
  | int (i t) : VR C h X (.int i t) (.int i)
  | str (x t) : VR C h X (.str x t) (.str x)
  | ref (a) : VR C h X (.ref a) (.ref a)
  | val (v) : VR C h X v (.val v)
  | list {a vs ds} : a ∉ X → h.IsList a vs → VRs C h X vs.toList ds → VR C h X (.ref a) (.list ds)
  | tuple {a vs ds} : a ∉ X → h.IsTuple a vs → VRs C h X vs.toList ds → VR C h X (.ref a) (.tuple ds)
  | smap {a g f} : a ∉ X → (a == sysModules) = false → h.MapOf (strKind C.prog C.w) a g → (∀ k, f k = Option.none → g k = Option.none) → (∀ k x, f k = some x → ∃ t, g k = some (.str x t)) → VR C h X (.ref a) (.smap f)
  | imap {a g f} : a ∉ X → (a == sysModules) = false → h.MapOf (strKind C.prog C.w) a g → (∀ k, f k = Option.none → g k = Option.none) → (∀ k x, f k = some x → ∃ t, g k = some (.int x t)) → VR C h X (.ref a) (.imap f)
  | fn {a fd o c oc vs tk} : a ∉ X → h.get? a = some o → o.data = .func fd → fd.code = .ref c → c ∉ X → h.get? c = some oc → oc.data = .fields vs → vs[1]? = some (.str fd.qualname tk) → VR C h X (.ref a) (.fn fd)
inductive VRs (C : Cx) (h : Heap) (X : List Addr) : List Value → List D → Prop
  | nil : VRs C h X [] []
  | cons {v d vs ds} : VR C h X v d → VRs C h X vs ds → VRs C h X (v :: vs) (d :: ds)
end
theorem isTuple_at {h h' : Heap} {a items} (x : h.IsTuple a items) (e : ∀ o, h.get? a = some o → h'.get? a = some o) : h'.IsTuple a items :=
  e1a2 (x :) fun o ho r => ⟨o, e _ ho, r⟩
theorem mapOf_at {C : Cx} {h h' : Heap} {a f} (hm : h.MapOf (strKind C.prog C.w) a f) (e : ∀ o, h.get? a = some o → h'.get? a = some o) : h'.MapOf (strKind C.prog C.w) a f :=
  e3a2 (hm :) fun o es ep ho r => ⟨o, es, ep, e _ ho, r⟩
theorem isList_lt {h : Heap} {a items} (x : h.IsList a items) : ∃ o, h.get? a = some o := e1a2 (x :) fun o ho _ => ⟨o, ho⟩
noncomputable def Fz (X : List Addr) (h : Heap) (X' : List Addr) (h' : Heap) : Prop := ∀ b o, b ∉ X → h.get? b = some o → b ∉ X' ∧ h'.get? b = some o
theorem VRs.ind {C : Cx} {h : Heap} {X : List Addr} {m : List Value → List D → Prop} (h0 : m [] []) (h1 : ∀ {v d vs ds}, VR C h X v d → VRs C h X vs ds → m vs ds → m (v :: vs) (d :: ds)) {vs : List Value} {ds : List D} (r : VRs C h X vs ds) : m vs ds :=
  VRs.rec (motive_1 := fun _ _ _ => True) (motive_2 := fun vs ds _ => m vs ds) trivial (fun _ => trivial) (fun _ _ => trivial) (fun _ _ => trivial) (fun _ => trivial) (fun _ => trivial) (fun _ _ _ _ => trivial) (fun _ _ _ _ => trivial) (fun _ _ _ _ _ => trivial) (fun _ _ _ _ _ => trivial) (fun _ _ _ _ _ _ _ _ => trivial) h0 (fun a b _ c => h1 a b c) r
theorem VR.mono {C : Cx} {h h' : Heap} {X X' : List Addr} (k : Fz X h X' h') {v d} (r : VR C h X v d) : VR C h' X' v d :=
  VR.rec (motive_1 := fun v d _ => VR C h' X' v d) (motive_2 := fun vs ds _ => VRs C h' X' vs ds) .none .bool .int .str .ref .val
    (fun hx hl _ hv => .list (e1a1 (isList_lt hl) fun _ ho => (k _ _ hx ho).1) (hl.at fun o e => (k _ _ hx e).2) hv)
    (fun hx hl _ hv => .tuple (e1a2 hl fun _ ho _ => (k _ _ hx ho).1) (isTuple_at hl fun o e => (k _ _ hx e).2) hv)
    (fun hx hy hm h1 h2 => .smap (e3a2 hm fun _ _ _ ho _ => (k _ _ hx ho).1) hy (mapOf_at hm fun o e => (k _ _ hx e).2) h1 h2)
    (fun hx hy hm h1 h2 => .imap (e3a2 hm fun _ _ _ ho _ => (k _ _ hx ho).1) hy (mapOf_at hm fun o e => (k _ _ hx e).2) h1 h2)
    (fun hx ho hd hc hy hoc hv ht => .fn (k _ _ hx ho).1 (k _ _ hx ho).2 hd hc (k _ _ hy hoc).1 (k _ _ hy hoc).2 hv ht)
    .nil (fun _ _ a b => .cons a b) r
theorem VRs.mono {C : Cx} {h h' : Heap} {X X' : List Addr} (k : Fz X h X' h') {vs ds} (r : VRs C h X vs ds) : VRs C h' X' vs ds :=
  VRs.ind .nil (fun a _ b => .cons (a.mono k) b) r
theorem VRs.length {C : Cx} {h : Heap} {X : List Addr} {vs ds} (r : VRs C h X vs ds) : vs.length = ds.length :=
  VRs.ind (m := fun vs ds => vs.length = ds.length) rfl (fun _ _ b => congrArg (· + 1) b) r
theorem VRs.get {C : Cx} {h : Heap} {X : List Addr} {vs ds} {i : Nat} {d : D} (r : VRs C h X vs ds) : ds[i]? = some d → ∃ v, vs[i]? = some v ∧ VR C h X v d :=
  VRs.ind (m := fun vs ds => ∀ i, ds[i]? = some d → ∃ v, vs[i]? = some v ∧ VR C h X v d) (fun _ e => by rw [List.getElem?_nil] at e; cases e) (fun a _ b i => match i with
    | 0 => fun e => ⟨_, rfl, Option.some.inj e ▸ a⟩
    | i + 1 => fun e => b i e) r i
theorem VRs.append {C : Cx} {h : Heap} {X : List Addr} {vs ds us es} (r : VRs C h X vs ds) (y : VRs C h X us es) : VRs C h X (vs ++ us) (ds ++ es) :=
  VRs.ind (m := fun vs ds => VRs C h X (vs ++ us) (ds ++ es)) y (fun a _ b => .cons a b) r
theorem VRs.take {C : Cx} {h : Heap} {X : List Addr} {vs ds} (n : Nat) (r : VRs C h X vs ds) : VRs C h X (vs.take n) (ds.take n) :=
  VRs.ind (m := fun vs ds => ∀ n, VRs C h X (vs.take n) (ds.take n)) (fun n => by rw [List.take_nil, List.take_nil]; exact .nil) (fun a _ b n => match n with
    | 0 => .nil
    | n + 1 => .cons a (b n)) r n
theorem VRs.drop {C : Cx} {h : Heap} {X : List Addr} {vs ds} (n : Nat) (r : VRs C h X vs ds) : VRs C h X (vs.drop n) (ds.drop n) :=
  VRs.ind (m := fun vs ds => ∀ n, VRs C h X (vs.drop n) (ds.drop n)) (fun n => by rw [List.drop_nil, List.drop_nil]; exact .nil) (fun a c b n => match n with
    | 0 => .cons a c
    | n + 1 => b n) r n
theorem VRs.set {C : Cx} {h : Heap} {X : List Addr} {v : Value} {d : D} (hv : VR C h X v d) {vs ds} (n : Nat) (r : VRs C h X vs ds) : VRs C h X (vs.set n v) (ds.set n d) :=
  VRs.ind (m := fun vs ds => ∀ n, VRs C h X (vs.set n v) (ds.set n d)) (fun n => .nil) (fun a c b n => match n with
    | 0 => .cons hv c
    | n + 1 => .cons a (b n)) r n
theorem VRs.reverse {C : Cx} {h : Heap} {X : List Addr} {vs ds} (r : VRs C h X vs ds) : VRs C h X vs.reverse ds.reverse :=
  VRs.ind (m := fun vs ds => VRs C h X vs.reverse ds.reverse) .nil (fun a _ b => by rw [List.reverse_cons, List.reverse_cons]; exact VRs.append b (.cons a .nil)) r
theorem Fz.refl {X : List Addr} {h : Heap} : Fz X h X h := fun _ _ hx e => ⟨hx, e⟩
theorem Fz.trans {X X' X'' : List Addr} {h h' h'' : Heap} (a : Fz X h X' h') (b : Fz X' h' X'' h'') : Fz X h X'' h'' :=
  fun _ _ hx e => e0a2 (a _ _ hx e :) fun p q => b _ _ p q
noncomputable def TabOk (C : Cx) (h : Heap) (X : List Addr) : Prop :=
  ∀ t ∈ C.tabs, ∃ ps, h.get? t.2.1 = some (W.tabObj ps) ∧ TriplesOk ps.toList ∧
    ∀ pos cv, codeAmong pos ps.toList = some cv → ∃ c' o vs tk, cv = .ref c' ∧ c' ∉ X ∧ h.get? c' = some o ∧ o.data = .fields vs ∧ vs[1]? = some (.str t.2.2 tk)
theorem TabOk.mono {C : Cx} {h h' : Heap} {X X' : List Addr} (T : TabOk C h X) (k : Fz X h X' h') (kt : ∀ P ∈ C.tP, ∀ o, h.get? P = some o → h'.get? P = some o) : TabOk C h' X' := by
  intro t ht
  refine e1a3 (T t ht :) fun ps e a b => ?_
  refine ⟨ps, kt _ (List.mem_map_of_mem (f := fun t : Addr × Addr × Str => t.2.1) ht) _ e, a, fun pos cv hc => ?_⟩
  refine e4a4 (b pos cv hc :) fun c' o vs tk h1 h2 h3 h4 => ?_
  have q := k _ _ h2 h3
  exact ⟨c', o, vs, tk, h1, q.1, q.2, h4⟩
structure Bs (C : Cx) (X : List Addr) (s : Shared) : Prop where
  base : ∀ b o, C.G.get? b = some o → b ∉ X ∧ s.heap.get? b = some o
  tab : TabOk C s.heap X
  tx : ∀ P ∈ C.tP, P ∈ X
  bd : ∀ b ∈ X, ∃ o, s.heap.get? b = some o
  tk : 1 ≤ s.toks
theorem TabOk.there {C : Cx} {h : Heap} {X : List Addr} (T : TabOk C h X) : ∀ P ∈ C.tP, ∃ o, h.get? P = some o := by
  intro P hP
  refine e1a2 (List.mem_map.mp hP :) fun t ht r2q => ?_; subst r2q
  refine e1a2 (T t ht :) fun ps e _ => ?_
  exact ⟨_, e⟩
theorem Bs.new {C : Cx} {X : List Addr} {s : Shared} (B : Bs C X s) : s.heap.objs.size ∉ X := fun q => e1a1 (B.bd _ q :) fun _ e => Nat.lt_irrefl _ (Heap.lt_size e)
theorem Bs.newLe {C : Cx} {X : List Addr} {s : Shared} (B : Bs C X s) {a : Addr} (h : s.heap.objs.size ≤ a) : a ∉ X := fun q => e1a1 (B.bd _ q :) fun _ e => Nat.lt_irrefl _ (Nat.lt_of_lt_of_le (Heap.lt_size e) h)
noncomputable def Stp (C : Cx) (X : List Addr) (s s' : Shared) : Prop :=
  ∃ h tk, s' = { s with heap := h, toks := tk } ∧ s.toks ≤ tk ∧ (∀ b o, b ∉ C.tP → s.heap.get? b = some o → h.get? b = some o) ∧ TabOk C h X
theorem Stp.fz {C : Cx} {X : List Addr} {s s' : Shared} (x : Stp C X s s') (tx : ∀ P ∈ C.tP, P ∈ X) : Fz X s.heap X s'.heap := by
  refine e2a4 (x :) fun h tk r2q _ k _ => ?_; subst r2q
  exact fun b o hx e => ⟨hx, k b o (fun q => hx (tx _ q)) e⟩
theorem Stp.tab {C : Cx} {X : List Addr} {s s' : Shared} (x : Stp C X s s') : TabOk C s'.heap X := by
  refine e2a4 (x :) fun h tk r2q _ _ t => ?_; subst r2q; exact t
theorem Stp.keep {C : Cx} {X : List Addr} {s s' : Shared} (x : Stp C X s s') : ∀ b o, b ∉ C.tP → s.heap.get? b = some o → s'.heap.get? b = some o := by
  refine e2a4 (x :) fun h tk r2q _ k _ => ?_; subst r2q; exact k
theorem Stp.trans {C : Cx} {X : List Addr} {s s' s'' : Shared} (a : Stp C X s s') (b : Stp C X s' s'') : Stp C X s s'' := by
  refine e2a4 (a :) fun h tk r2q z k _ => ?_; subst r2q
  refine e2a4 (b :) fun h' tk' r2q z' k' t' => ?_; subst r2q
  exact ⟨h', tk', rfl, Nat.le_trans z z', fun b o hb e => k' b o hb (k b o hb e), t'⟩
theorem Stp.refl {C : Cx} {X : List Addr} {s : Shared} (t : TabOk C s.heap X) : Stp C X s s := ⟨s.heap, s.toks, rfl, Nat.le_refl _, fun _ _ _ e => e, t⟩
theorem Stp.of_keeps {C : Cx} {X : List Addr} {s : Shared} {h : Heap} {tk : Nat} (B : Bs C X s) (k : ∀ b o, s.heap.get? b = some o → h.get? b = some o) (ht : s.toks ≤ tk := by first | exact Nat.le_refl _ | exact Nat.le_succ _ | omega) : Stp C X s { s with heap := h, toks := tk } :=
  ⟨h, tk, rfl, ht, fun b o _ e => k b o e, B.tab.mono (fun b o hx e => ⟨hx, k b o e⟩) fun P _ o e => k P o e⟩
theorem Stp.tok {C : Cx} {X : List Addr} {s : Shared} (B : Bs C X s) (tk : Nat) (ht : s.toks ≤ tk := by first | exact Nat.le_refl _ | exact Nat.le_succ _ | omega) : Stp C X s { s with toks := tk } := Stp.of_keeps (h := s.heap) B (fun _ _ e => e) ht
theorem Stp.tk {C : Cx} {X : List Addr} {s s' : Shared} (x : Stp C X s s') : s.toks ≤ s'.toks := by
  refine e2a3 (x :) fun h tk r2q z _ => ?_; subst r2q; exact z
theorem Bs.step {C : Cx} {X : List Addr} {s s' : Shared} (B : Bs C X s) (x : Stp C X s s') : Bs C X s' :=
  ⟨fun b o e => e0a2 (B.base b o e :) fun p q => ⟨p, x.keep b o (fun r => p (B.tx _ r)) q⟩, x.tab, B.tx, fun b hb => by
    by_cases q : b ∈ C.tP
    · exact x.tab.there b q
    · refine e1a1 (B.bd b hb :) fun o e => ?_
      exact ⟨o, x.keep b o q e⟩, Nat.le_trans B.tk x.tk⟩
inductive Sl where
  | loc | cel | fre | glo | cap
noncomputable abbrev Rho := List (Str × Sl × Option D)
noncomputable abbrev Own := List (Addr × List D)
noncomputable def nameOk (x : Str) : Prop := (x == ("__debug__" : Str)) = false ∧ (x == ("__classdict__" : Str)) = false
noncomputable def GlobV (C : Cx) (x : Str) (v : Value) : Prop :=
  ∃ mg, C.G.Ns mainGlobals mg ∧ (mg x = some v ∨ (mg x = none ∧ ∃ mb, C.G.Ns builtinsNs mb ∧ mb x = some v))
noncomputable def InCell (C : Cx) (X : List Addr) (env : Env) (h : Heap) (x : Str) (od : Option D) : Prop :=
  ∃ c ov, env.cells.lookup x = some c ∧ c ∉ C.tP ∧ h.IsCell c ov ∧ ∀ d, od = some d → ∃ v, ov = some v ∧ VR C h X v d
inductive HasV (C : Cx) (X : List Addr) (env : Env) (h : Heap) (m : Str → Option Value) : Str × Sl × Option D → Prop
  | loc {x od} : nameOk x → env.kindOf x = some .local → (∀ d, od = some d → ∃ v, m x = some v ∧ VR C h X v d) → HasV C X env h m (x, .loc, od)
  | cell {x od} : nameOk x → env.kindOf x = some .cell → InCell C X env h x od → HasV C X env h m (x, .cel, od)
  | free {x od} : nameOk x → env.kindOf x = some .free → InCell C X env h x od → HasV C X env h m (x, .fre, od)
  | cap {x od} : nameOk x → env.kindOf x = some .cell → InCell C X env h x od → HasV C X env h m (x, .cap, od)
  | glob {x od} : nameOk x → env.kindOf x = some .globalImplicit → (∀ d, od = some d → ∃ v, GlobV C x v ∧ VR C C.G [] v d) → HasV C X env h m (x, .glo, od)
noncomputable def SlP (C : Cx) (X : List Addr) (env : Env) (h : Heap) (m : Str → Option Value) (x : Str) (od : Option D) (s : Sl) : Prop :=
  Sl.rec (env.kindOf x = some .local ∧ ∀ d, od = some d → ∃ v, m x = some v ∧ VR C h X v d) (env.kindOf x = some .cell ∧ InCell C X env h x od) (env.kindOf x = some .free ∧ InCell C X env h x od) True (env.kindOf x = some .cell ∧ InCell C X env h x od) s
section
variable {C : Cx} {X : List Addr} {env : Env} {h : Heap} {m : Str → Option Value} {x : Str} {od : Option D} {G : Prop}
theorem HasV.out {p : Str × Sl × Option D} (r : HasV C X env h m p) : nameOk p.1 ∧ SlP C X env h m p.1 p.2.2 p.2.1 :=
  HasV.rec (motive := fun p _ => nameOk p.1 ∧ SlP C X env h m p.1 p.2.2 p.2.1) (fun a b c => ⟨a, b, c⟩) (fun a b c => ⟨a, b, c⟩) (fun a b c => ⟨a, b, c⟩) (fun a b c => ⟨a, b, c⟩) (fun a b c => ⟨a, trivial⟩) r
theorem HasV.elimL (r : HasV C X env h m (x, .loc, od)) (k : nameOk x → env.kindOf x = some .local → (∀ d, od = some d → ∃ v, m x = some v ∧ VR C h X v d) → G) : G := k r.out.1 r.out.2.1 r.out.2.2
theorem HasV.elimC (r : HasV C X env h m (x, .cel, od)) (k : nameOk x → env.kindOf x = some .cell → InCell C X env h x od → G) : G := k r.out.1 r.out.2.1 r.out.2.2
theorem HasV.elimF (r : HasV C X env h m (x, .fre, od)) (k : nameOk x → env.kindOf x = some .free → InCell C X env h x od → G) : G := k r.out.1 r.out.2.1 r.out.2.2
theorem HasV.elimP (r : HasV C X env h m (x, .cap, od)) (k : nameOk x → env.kindOf x = some .cell → InCell C X env h x od → G) : G := k r.out.1 r.out.2.1 r.out.2.2
end
theorem nm_eq {x y : Str} {a b : Sl} {o o' : Option D} (e : (x, a, o) = (y, b, o')) : x = y := congrArg (·.1) e
theorem sl_ne {x y : Str} {a b : Sl} {o o' : Option D} (e : (x, a, o) = (y, b, o')) (h : a ≠ b) {G : Prop} : G := absurd (congrArg (·.2.1) e) h
theorem InCell.mono {C : Cx} {X X' : List Addr} {env : Env} {h h' : Heap} {x : Str} {od : Option D} (k : Fz X h X' h') (kc : ∀ c, env.cells.lookup x = some c → c ∉ C.tP → ∀ o, h.get? c = some o → h'.get? c = some o) (H : InCell C X env h x od) : InCell C X' env h' x od :=
  e2a4 (H :) fun c ov e1 e2 w1q e4 => e1a2 w1q fun o ho hd =>
  ⟨c, ov, e1, e2, ⟨o, kc c e1 e2 o ho, hd⟩, fun d hd => e1a2 (e4 d hd :) fun v q r => ⟨v, q, r.mono k⟩⟩
theorem HasV.mono {C : Cx} {X X' : List Addr} {env : Env} {h h' : Heap} {m m' : Str → Option Value} {p : Str × Sl × Option D} (k : Fz X h X' h') (kc : ∀ c, env.cells.lookup p.1 = some c → c ∉ C.tP → ∀ o, h.get? c = some o → h'.get? c = some o) (km : m' p.1 = m p.1)
    (H : HasV C X env h m p) : HasV C X' env h' m' p := by
  cases H with
  | loc a b c => exact .loc a b fun d hd => e1a2 (c d hd :) fun v q r => ⟨v, by rw [← q]; exact km, r.mono k⟩
  | cell a b c => exact .cell a b (c.mono k kc)
  | free a b c => exact .free a b (c.mono k kc)
  | cap a b c => exact .cap a b (c.mono k kc)
  | glob a b c => exact .glob a b c
structure StR (C : Cx) (X : List Addr) (env : Env) (ρ : Rho) (own : Own) (s : Shared) : Prop extends Bs C X s where
  kf : env.scope.kind = .function
  gl : env.globals = mainGlobals
  bl : env.builtins = builtinsNs
  lt : env.locals ∉ C.tP
  vars : ∃ m, s.heap.Ns env.locals m ∧ ∀ p ∈ ρ, HasV C X env s.heap m p
  owned : ∀ p ∈ own, p.1 ∉ C.tP ∧ ∃ vs, s.heap.PlainList p.1 vs ∧ VRs C s.heap X vs.toList p.2
theorem StR.step {C : Cx} {X : List Addr} {env : Env} {ρ : Rho} {own : Own} {s s' : Shared} (S : StR C X env ρ own s) (x : Stp C X s s') : StR C X env ρ own s' := by
  refine ⟨S.toBs.step x, S.kf, S.gl, S.bl, S.lt, ?_, ?_⟩
  · refine e1a2 (S.vars :) fun m hn hv => ?_
    exact ⟨m, hn.at' fun o e => x.keep _ _ S.lt e, fun p hp => (hv p hp).mono (x.fz S.tx) (fun c _ hc o e => x.keep c o hc e) rfl⟩
  · intro p hp
    refine e0a2 (S.owned p hp :) fun ht w2q => e1a2 w2q fun vs a b => ?_
    exact ⟨ht, vs, a.at fun o e => x.keep _ _ ht e, b.mono (x.fz S.tx)⟩
structure Room (A : Around) (n : Nat) : Prop where
  h : A.handled = Option.none
  d : A.depth + n < recursionLimit
  u : A.units + 8 * n + 200 < cLine
noncomputable def Ev (C : Cx) (n : Nat) (env : Env) (ρ : Rho) (own : Own) (e : Expr) (d : D) : Prop :=
  ∀ (A : Around) (X : List Addr) (s : Shared) (Q : Value → Shared → Prop) (E : Value → Shared → Prop), Room A n → StR C X env ρ own s →
    (∀ v s', Stp C X s s' → VR C s'.heap X v d → Q v s') → wpAny (model C.prog C.w) A (eval e env) Q E s
noncomputable def EvT (C : Cx) (n : Nat) (env : Env) (ρ : Rho) (own : Own) (e : Expr) (b : Bool) : Prop :=
  ∀ (A : Around) (X : List Addr) (s : Shared) (Q : Bool → Shared → Prop) (E : Value → Shared → Prop), Room A n → StR C X env ρ own s →
    (∀ s', Stp C X s s' → Q b s') → wpAny (model C.prog C.w) A (isTrue e env (eval e env)) Q E s
section
variable {C : Cx} {n : Nat} {env : Env} {ρ : Rho} {own : Own}
theorem Ev_int {i : Int} {k : Nat} {pos : Pos} : Ev C n env ρ own (.Constant (.int i) k pos) (.int i) := by
  intro A X s Q E _ S hQ
  exact wpAny_Constant_int (hQ _ _ (Stp.tok S.toBs _) (.int _ _))
theorem Ev_str {x : Str} {k : Nat} {pos : Pos} : Ev C n env ρ own (.Constant (.str x) k pos) (.str x) := by
  intro A X s Q E _ S hQ
  exact wpAny_Constant_str (hQ _ _ (Stp.tok S.toBs _) (.str _ _))
theorem Ev_bool {b : Bool} {k : Nat} {pos : Pos} : Ev C n env ρ own (.Constant (.bool b) k pos) (.bool b) := by
  intro A X s Q E _ S hQ
  exact wpAny_Constant_bool (hQ _ _ (Stp.refl S.tab) (.bool _))
inductive At : Rho → Str → D → Prop
  | head {x b d r} : At ((x, b, some d) :: r) x d
  | tail {p r x d} : At r x d → At (p :: r) x d
theorem At.mem {ρ : Rho} {x d} (h : At ρ x d) : ∃ b, (x, b, some d) ∈ ρ := by
  induction h with
  | head => exact ⟨_, List.mem_cons_self⟩
  | tail _ ih => exact e1a1 ih fun b m => ⟨b, List.mem_cons_of_mem _ m⟩
theorem At.h1 {p x b d r} : At (p :: (x, b, some d) :: r) x d := .tail .head
theorem At.h2 {p q x b d r} : At (p :: q :: (x, b, some d) :: r) x d := .tail .h1
theorem At.h3 {p q u x b d r} : At (p :: q :: u :: (x, b, some d) :: r) x d := .tail .h2
theorem At.tail4 {p q u w r x d} (h : At r x d) : At (p :: q :: u :: w :: r) x d := .tail (.tail (.tail (.tail h)))
theorem StR.load {X : List Addr} {A : Around} {s : Shared} {Q : Value → Shared → Prop} {E : Value → Shared → Prop} {x : Str} {d : D} (S : StR C X env ρ own s) (h : At ρ x d) (hQ : ∀ v, VR C s.heap X v d → Q v s) :
    wpAny (model C.prog C.w) A (loadName env x) Q E s := by
  refine e1a2 (S.vars :) fun m hn hv => ?_
  refine e1a1 (h.mem :) fun b hm => ?_
  cases hv _ hm with
  | loc a b c => refine e1a2 (c d rfl :) fun v hv hr => ?_; exact wpAny_loadName_local S.kf b hn hv (hQ _ hr)
  | cell a b c => refine e2a4 (c :) fun c ov e1 e2 e3 e4 => ?_; refine e1a2 (e4 d rfl :) fun v r1q hr => ?_; subst r1q; exact wpAny_loadName_cell S.kf b e1 e3 (hQ _ hr)
  | free a b c => refine e2a4 (c :) fun c ov e1 e2 e3 e4 => ?_; refine e1a2 (e4 d rfl :) fun v r1q hr => ?_; subst r1q; exact wpAny_loadName_free S.kf b e1 e3 (hQ _ hr) a.2
  | cap a b c => refine e2a4 (c :) fun c ov e1 e2 e3 e4 => ?_; refine e1a2 (e4 d rfl :) fun v r1q hr => ?_; subst r1q; exact wpAny_loadName_cell S.kf b e1 e3 (hQ _ hr)
  | glob a b c =>
    refine e1a2 (c d rfl :) fun v w1q hr => ?_; refine e1a2 (w1q :) fun mg hg hv => ?_
    have kG : ∀ b o, C.G.get? b = some o → s.heap.get? b = some o := fun b o e => (S.base b o e).2
    have hr' : VR C s.heap X v d := hr.mono fun b o _ e => S.base b o e
    rw [PyProof.Rows.loadName_read S.kf b]
    rcases hv with hv | ⟨hv, mb, hb, hv'⟩
    · exact loadGlobal_global (by rw [S.gl]; exact hg.keeps kG) hv (hQ _ hr')
    · exact loadGlobal_builtin (by rw [S.gl]; exact hg.keeps kG) hv (by rw [S.bl]; exact hb.keeps kG) hv' (hQ _ hr')
theorem StR.okName {X : List Addr} {s : Shared} {x : Str} {d : D} (S : StR C X env ρ own s) (h : At ρ x d) : nameOk x := by
  refine e1a2 (S.vars :) fun m hn hv => ?_
  refine e1a1 (h.mem :) fun b hm => ?_
  cases hv _ hm <;> assumption
theorem Ev_name {x : Str} {pos : Pos} {d : D} (h : At ρ x d) : Ev C n env ρ own (.Name x pos) d := by
  intro A X s Q E _ S hQ
  exact wpAny_Name (S.load h fun v r => hQ _ _ (Stp.refl S.tab) r) (S.okName h).1
end
end
section
open PySem PySem.Calls
noncomputable def VP (C : Cx) (h : Heap) (X : List Addr) (v : Value) : D → Prop
  | .none => v = .none
  | .bool b => v = .bool b
  | .int i => ∃ t, v = .int i t
  | .str x => ∃ t, v = .str x t
  | .ref a => v = .ref a
  | .val w => v = w
  | .list ds => ∃ a us, v = .ref a ∧ a ∉ X ∧ h.IsList a us ∧ VRs C h X us.toList ds
  | .tuple ds => ∃ a us, v = .ref a ∧ a ∉ X ∧ h.IsTuple a us ∧ VRs C h X us.toList ds
  | .smap f => ∃ a g, v = .ref a ∧ a ∉ X ∧ (a == sysModules) = false ∧ h.MapOf (strKind C.prog C.w) a g ∧ (∀ k, f k = Option.none → g k = Option.none) ∧ ∀ k x, f k = some x → ∃ t, g k = some (.str x t)
  | .imap f => ∃ a g, v = .ref a ∧ a ∉ X ∧ (a == sysModules) = false ∧ h.MapOf (strKind C.prog C.w) a g ∧ (∀ k, f k = Option.none → g k = Option.none) ∧ ∀ k x, f k = some x → ∃ t, g k = some (.int x t)
  | .fn fd => ∃ a o c oc vs tk, v = .ref a ∧ a ∉ X ∧ h.get? a = some o ∧ o.data = .func fd ∧ fd.code = .ref c ∧ c ∉ X ∧ h.get? c = some oc ∧ oc.data = .fields vs ∧ vs[1]? = some (.str fd.qualname tk)
section
variable {C : Cx} {h : Heap} {X : List Addr} {v : Value} {vs : List Value} {G : Value → Prop} {GG : List Value → Prop}
theorem VR.out {d : D} (r : VR C h X v d) : VP C h X v d :=
  VR.casesOn (motive_1 := fun v d _ => VP C h X v d) r rfl (fun _ => rfl) (fun _ t => ⟨t, rfl⟩) (fun _ t => ⟨t, rfl⟩) (fun _ => rfl) (fun _ => rfl) (fun a b c => ⟨_, _, rfl, a, b, c⟩) (fun a b c => ⟨_, _, rfl, a, b, c⟩) (fun a b c d e => ⟨_, _, rfl, a, b, c, d, e⟩) (fun a b c d e => ⟨_, _, rfl, a, b, c, d, e⟩) (fun a b c d e f g h => ⟨_, _, _, _, _, _, rfl, a, b, c, d, e, f, g, h⟩)
theorem VR.elimN (r : VR C h X v .none) (k : G .none) : G v := (show v = _ from r.out) ▸ k
theorem VR.elimB {b : Bool} (r : VR C h X v (.bool b)) (k : G (.bool b)) : G v := (show v = _ from r.out) ▸ k
theorem VR.elimI {i : Int} (r : VR C h X v (.int i)) (k : ∀ t, G (.int i t)) : G v := e1a1 r.out fun t e => e ▸ k t
theorem VR.elimS {x : Str} (r : VR C h X v (.str x)) (k : ∀ t, G (.str x t)) : G v := e1a1 r.out fun t e => e ▸ k t
theorem VR.elimR {a : Addr} (r : VR C h X v (.ref a)) (k : G (.ref a)) : G v := (show v = _ from r.out) ▸ k
theorem VR.elimV {w : Value} (r : VR C h X v (.val w)) (k : G w) : G v := (show v = _ from r.out) ▸ k
theorem VR.elimL {ds : List D} (r : VR C h X v (.list ds)) (k : ∀ a us, a ∉ X → h.IsList a us → VRs C h X us.toList ds → G (.ref a)) : G v := e2a4 r.out fun a us e x y z => e ▸ k a us x y z
theorem VR.elimT {ds : List D} (r : VR C h X v (.tuple ds)) (k : ∀ a us, a ∉ X → h.IsTuple a us → VRs C h X us.toList ds → G (.ref a)) : G v := e2a4 r.out fun a us e x y z => e ▸ k a us x y z
theorem VR.elimM {f : Str → Option Str} (r : VR C h X v (.smap f)) (k : ∀ a g, a ∉ X → (a == sysModules) = false → h.MapOf (strKind C.prog C.w) a g → (∀ k, f k = Option.none → g k = Option.none) → (∀ k x, f k = some x → ∃ t, g k = some (.str x t)) → G (.ref a)) : G v := e2a6 r.out fun a g e x y z p q => e ▸ k a g x y z p q
theorem VR.elimJ {f : Str → Option Int} (r : VR C h X v (.imap f)) (k : ∀ a g, a ∉ X → (a == sysModules) = false → h.MapOf (strKind C.prog C.w) a g → (∀ k, f k = Option.none → g k = Option.none) → (∀ k x, f k = some x → ∃ t, g k = some (.int x t)) → G (.ref a)) : G v := e2a6 r.out fun a g e x y z p q => e ▸ k a g x y z p q
theorem VR.elimF {fd : FuncData} (r : VR C h X v (.fn fd)) (k : ∀ a o c oc vs tk, a ∉ X → h.get? a = some o → o.data = .func fd → fd.code = .ref c → c ∉ X → h.get? c = some oc → oc.data = .fields vs → vs[1]? = some (.str fd.qualname tk) → G (.ref a)) : G v := e6a9 r.out fun a o c oc vs tk e h1 h2 h3 h4 h5 h6 h7 h8 => e ▸ k a o c oc vs tk h1 h2 h3 h4 h5 h6 h7 h8
theorem VRs.elimN (r : VRs C h X vs []) (k : GG []) : GG vs := by cases r; exact k
theorem VRs.elimC {d : D} {ds : List D} (r : VRs C h X vs (d :: ds)) (k : ∀ v us, VR C h X v d → VRs C h X us ds → GG (v :: us)) : GG vs := by cases r; exact k _ _ ‹_› ‹_›
end
theorem len1 {α : Type} : ∀ {l : List α}, l.length = 1 → ∃ a, l = [a]
  | [a], _ => ⟨a, rfl⟩
theorem lenS {α : Type} {n : Nat} : ∀ {l : List α}, l.length = n + 1 → ∃ a r, l = a :: r ∧ r.length = n
  | a :: r, h => ⟨a, r, rfl, Nat.succ.inj h⟩
theorem len2 {α : Type} {l : List α} (h : l.length = 2) : ∃ a b, l = [a, b] := e2a2 (lenS h) fun a _ e h => e1a1 (len1 h) fun b e' => ⟨a, b, by rw [e, e']⟩
theorem len3 {α : Type} {l : List α} (h : l.length = 3) : ∃ a b c, l = [a, b, c] := e2a2 (lenS h) fun a _ e h => e2a1 (len2 h) fun b c e' => ⟨a, b, c, by rw [e, e']⟩
theorem len4 {α : Type} {l : List α} (h : l.length = 4) : ∃ a b c d, l = [a, b, c, d] := e2a2 (lenS h) fun a _ e h => e3a1 (len3 h) fun b c d e' => ⟨a, b, c, d, by rw [e, e']⟩
theorem len5 {α : Type} {l : List α} (h : l.length = 5) : ∃ a b c d f, l = [a, b, c, d, f] := e2a2 (lenS h) fun a _ e h => e4a1 (len4 h) fun b c d f e' => ⟨a, b, c, d, f, by rw [e, e']⟩
theorem len6 {α : Type} {l : List α} (h : l.length = 6) : ∃ a b c d f g, l = [a, b, c, d, f, g] := e2a2 (lenS h) fun a _ e h => e5a1 (len5 h) fun b c d f g e' => ⟨a, b, c, d, f, g, by rw [e, e']⟩
theorem len7 {α : Type} {l : List α} (h : l.length = 7) : ∃ a b c d f g i, l = [a, b, c, d, f, g, i] := e2a2 (lenS h) fun a _ e h => e6a1 (len6 h) fun b c d f g i e' => ⟨a, b, c, d, f, g, i, by rw [e, e']⟩
theorem len8 {α : Type} {l : List α} (h : l.length = 8) : ∃ a b c d f g i j, l = [a, b, c, d, f, g, i, j] := e2a2 (lenS h) fun a _ e h => e7a1 (len7 h) fun b c d f g i j e' => ⟨a, b, c, d, f, g, i, j, by rw [e, e']⟩
theorem len9 {α : Type} {l : List α} (h : l.length = 9) : ∃ a b c d f g i j k, l = [a, b, c, d, f, g, i, j, k] := e2a2 (lenS h) fun a _ e h => e8a1 (len8 h) fun b c d f g i j k e' => ⟨a, b, c, d, f, g, i, j, k, by rw [e, e']⟩
theorem bind_of {fd : FuncData} {ps : Arguments} (h1 : fd.params = ps) (h2 : fd.defaults = .none) (h3 : fd.kwdefaults = .none) (a : Args) : bindArgs fd a = bindArgs { fd with params := ps, defaults := .none, kwdefaults := .none } a := by
  cases fd; simp only at h1 h2 h3; subst h1 h2 h3; rfl
theorem Stp.elim {C : Cx} {X : List Addr} {s s' : Shared} {G : Shared → Prop} (t : Stp C X s s') (k : ∀ h tk, s.toks ≤ tk → (∀ b o, b ∉ C.tP → s.heap.get? b = some o → h.get? b = some o) → TabOk C h X → Stp C X s { s with heap := h, toks := tk } → G { s with heap := h, toks := tk }) : G s' := by
  refine e2a4 (t :) fun h tk r1q a b c => ?_; subst r1q; exact k h tk a b c ⟨h, tk, rfl, a, b, c⟩
theorem byC {G : Prop} (h : (¬G) → False) : G := Classical.byContradiction h
theorem nn_toNat {x b : Int} (h : 0 ≤ x ∧ x < b) : ((x.toNat : Nat) : Int) = x := Int.toNat_of_nonneg h.1
theorem lt_toNat {x : Int} {k : Nat} (h : 0 ≤ x ∧ x < (k : Int)) : x.toNat < k := (Int.toNat_lt h.1).mpr h.2
theorem lt7 {c : Nat} (h : c < 7) : c = 0 ∨ c = 1 ∨ c = 2 ∨ c = 3 ∨ c = 4 ∨ c = 5 ∨ c = 6 := (by decide : ∀ c < 7, c = 0 ∨ c = 1 ∨ c = 2 ∨ c = 3 ∨ c = 4 ∨ c = 5 ∨ c = 6) c h
theorem le3 {c : Nat} (h : c ≤ 3) : c = 0 ∨ c = 1 ∨ c = 2 ∨ c = 3 := (by decide : ∀ c < 4, c = 0 ∨ c = 1 ∨ c = 2 ∨ c = 3) c (Nat.lt_succ_of_le h)
theorem natc {c k : Nat} : ((k : Nat) : Int) = (c : Int) ↔ c = k := ⟨fun h => (Int.ofNat.inj h).symm, fun h => congrArg Int.ofNat h.symm⟩
theorem evc {c : Nat} : ((0 : Int) = (c : Int) ∨ (2 : Int) = (c : Int) ∨ (4 : Int) = (c : Int)) ↔ (c = 0 ∨ c = 2 ∨ c = 4) := or_congr (natc (k := 0)) (or_congr (natc (k := 2)) (natc (k := 4)))
theorem sub3' {L m R : Nat} (a : L ≤ m) (b : m ≤ R) : R - L = (R - m) + (m - L) := (Nat.sub_add_sub_cancel b a).symm
theorem sub3 {L m R : Nat} (a : L ≤ m) (b : m ≤ R) : R - L = (m - L) + (R - m) := (sub3' a b).trans (Nat.add_comm _ _)
theorem add3 {L m R N : Nat} (a : L ≤ m) (b : m ≤ R) (c : R ≤ N) : L + (m - L) + (R - m) ≤ N := by rw [Nat.add_sub_cancel' a, Nat.add_sub_cancel' b]; exact c
theorem clipE (j : Int) (n : Nat) : max 0 (min j (n : Int)) = max 0 (min (min j (n : Int)) (n : Int)) := congrArg (max 0) (Int.min_eq_left (Int.min_le_right _ _)).symm
theorem lt2 {c : Nat} (h : c < 2) : c = 0 ∨ c = 1 := (by decide : ∀ c < 2, c = 0 ∨ c = 1) c h
theorem predB {N a b : Nat} (ha : 1 ≤ a) (hb : 1 ≤ b) (q : N < a + b - 1) : N ≤ (a - 1) + (b - 1) := by
  refine e1a1 (Nat.exists_eq_add_of_le ha) fun a' ea => e1a1 (Nat.exists_eq_add_of_le hb) fun b' eb => ?_
  rw [ea, eb] at q ⊢
  rw [Nat.add_sub_cancel_left, Nat.add_sub_cancel_left]
  refine Nat.le_of_lt_succ (Nat.lt_of_lt_of_eq q ?_)
  rw [Nat.add_assoc, Nat.add_sub_cancel_left, ← Nat.add_assoc, Nat.add_right_comm]
end
section
open PySem PySem.Calls
noncomputable def Op2 (C : Cx) (n : Nat) (t : Value → Value → Sem Value) (d1 d2 d : D) : Prop :=
  ∀ (A : Around) (X : List Addr) (s : Shared) (Q E : Value → Shared → Prop) (v1 v2 : Value), Room A n → Bs C X s → VR C s.heap X v1 d1 → VR C s.heap X v2 d2 →
    (∀ v s', Stp C X s s' → VR C s'.heap X v d → Q v s') → wpAny (model C.prog C.w) A (t v1 v2) Q E s
section
variable {C : Cx} {n : Nat} {env : Env} {ρ : Rho} {own : Own}
theorem Ev_bin {op : Operator} {l r : Expr} {pos : Pos} {d1 d2 d : D} (hl : Ev C n env ρ own l d1) (hr : Ev C n env ρ own r d2) (ho : Op2 C n (binaryOp op) d1 d2 d) : Ev C n env ρ own (.BinOp l op r pos) d := by
  intro A X s Q E R S hQ
  refine wpAny_BinOp (hl A X s _ E R S fun v1 s1 t1 r1 => hr A X s1 _ E R (S.step t1) fun v2 s2 t2 r2 => ?_)
  exact ho A X s2 Q E v1 v2 R ((S.step t1).step t2).toBs (r1.mono (t2.fz S.tx)) r2 fun v s' t r => hQ v s' ((t1.trans t2).trans t) r
theorem Ev_cmp {op : CmpOp} {l r : Expr} {pos : Pos} {d1 d2 d : D} (hl : Ev C n env ρ own l d1) (hr : Ev C n env ρ own r d2) (ho : Op2 C n (compareOp op) d1 d2 d) (hm : behindInMarks op r = false) : Ev C n env ρ own (.Compare l [op] [r] pos) d := by
  intro A X s Q E R S hQ
  refine wpAny_Compare1 (hl A X s _ E R S fun v1 s1 t1 r1 => hr A X s1 _ E R (S.step t1) fun v2 s2 t2 r2 => ?_) hm
  exact ho A X s2 Q E v1 v2 R ((S.step t1).step t2).toBs (r1.mono (t2.fz S.tx)) r2 fun v s' t r => hQ v s' ((t1.trans t2).trans t) r
theorem EvT_cmp {op : CmpOp} {l r : Expr} {pos : Pos} {d1 d2 : D} {b : Bool} (hl : Ev C n env ρ own l d1) (hr : Ev C n env ρ own r d2) (ho : Op2 C n (compareOp op) d1 d2 (.bool b)) (hm : behindInMarks op r = false) : EvT C n env ρ own (.Compare l [op] [r] pos) b := by
  intro A X s Q E R S hQ
  refine wpAny_isTrue_Compare1 (hl A X s _ E R S fun v1 s1 t1 r1 => hr A X s1 _ E R (S.step t1) fun v2 s2 t2 r2 => ?_) hm
  refine ho A X s2 _ E v1 v2 R ((S.step t1).step t2).toBs (r1.mono (t2.fz S.tx)) r2 fun v s' t r => ?_
  apply VR.elimB r
  exact wpAny_truthy_bool (hQ s' ((t1.trans t2).trans t))
theorem Ev_un {op : UnaryOp} {x : Expr} {pos : Pos} {d1 d : D} (hl : Ev C n env ρ own x d1)
    (ho : ∀ (A : Around) (X : List Addr) (s : Shared) (Q E : Value → Shared → Prop) (v1 : Value), Room A n → Bs C X s → VR C s.heap X v1 d1 → (∀ v s', Stp C X s s' → VR C s'.heap X v d → Q v s') → wpAny (model C.prog C.w) A (unaryOp op v1) Q E s) :
    Ev C n env ρ own (.UnaryOp op x pos) d := by
  intro A X s Q E R S hQ
  refine wpAny_UnaryOp (hl A X s _ E R S fun v1 s1 t1 r1 => ?_)
  exact ho A X s1 Q E v1 R (S.step t1).toBs r1 fun v s' t r => hQ v s' (t1.trans t) r
theorem Ev_neg {x : Expr} {pos : Pos} {i : Int} (hl : Ev C n env ρ own x (.int i)) : Ev C n env ρ own (.UnaryOp .USub x pos) (.int (-i)) :=
  Ev_un hl fun A X s Q E v1 R B r hQ => by
    apply VR.elimI r; intro _
    exact PyProof.Rows.neg_int (hQ _ _ (Stp.tok B _) (.int _ _))
theorem Ev_inv {x : Expr} {pos : Pos} {i : Int} (hl : Ev C n env ρ own x (.int i)) : Ev C n env ρ own (.UnaryOp .Invert x pos) (.int (Builtin.bitNot i)) :=
  Ev_un hl fun A X s Q E v1 R B r hQ => by
    apply VR.elimI r; intro _
    exact PyProof.Rows.invert_int (hQ _ _ (Stp.tok B _) (.int _ _))
theorem op_add {a b : Int} : Op2 C n (binaryOp .Add) (.int a) (.int b) (.int (a + b)) := by
  intro A X s Q E v1 v2 R B r1 r2 hQ
  apply VR.elimI r1; intro _; apply VR.elimI r2; intro _
  exact PyProof.Rows.add_int (hQ _ _ (Stp.tok B _) (.int _ _))
theorem op_sub {a b : Int} : Op2 C n (binaryOp .Sub) (.int a) (.int b) (.int (a - b)) := by
  intro A X s Q E v1 v2 R B r1 r2 hQ
  apply VR.elimI r1; intro _; apply VR.elimI r2; intro _
  exact PyProof.Rows.sub_int (hQ _ _ (Stp.tok B _) (.int _ _))
theorem op_mul {a b : Int} (h : IntMulOk a b) : Op2 C n (binaryOp .Mult) (.int a) (.int b) (.int (a * b)) := by
  intro A X s Q E v1 v2 R B r1 r2 hQ
  apply VR.elimI r1; intro _; apply VR.elimI r2; intro _
  exact PyProof.Rows.mul_int (hQ _ _ (Stp.tok B _) (.int _ _)) h
theorem op_mod {a b : Int} (h : b ≠ 0) : Op2 C n (binaryOp .Mod) (.int a) (.int b) (.int (a.fmod b)) := by
  intro A X s Q E v1 v2 R B r1 r2 hQ
  apply VR.elimI r1; intro _; apply VR.elimI r2; intro _
  exact PyProof.Rows.mod_int' h (hQ _ _ (Stp.tok B _) (.int _ _))
theorem op_div {a b : Int} (h : b ≠ 0) (hp : Builtin.divisionGoesByPylong a b = false) : Op2 C n (binaryOp .FloorDiv) (.int a) (.int b) (.int (a.fdiv b)) := by
  intro A X s Q E v1 v2 R B r1 r2 hQ
  apply VR.elimI r1; intro _; apply VR.elimI r2; intro _
  exact PyProof.Rows.floordiv_int h (hQ _ _ (Stp.tok B _) (.int _ _)) (.inl hp)
theorem op_shl {a b : Int} (h : 0 ≤ b) (hb : (Builtin.Int.intBits a : Int) + b ≤ 2 ^ 27) : Op2 C n (binaryOp .LShift) (.int a) (.int b) (.int (a * 2 ^ b.toNat)) := by
  intro A X s Q E v1 v2 R B r1 r2 hQ
  apply VR.elimI r1; intro _; apply VR.elimI r2; intro _
  exact PyProof.Rows.lshift_int h hb (hQ _ _ (Stp.tok B _) (.int _ _))
theorem op_shr {a b : Int} (h : 0 ≤ b) : Op2 C n (binaryOp .RShift) (.int a) (.int b) (.int (a.fdiv (2 ^ b.toNat))) := by
  intro A X s Q E v1 v2 R B r1 r2 hQ
  apply VR.elimI r1; intro _; apply VR.elimI r2; intro _
  exact PyProof.Rows.rshift_int h (hQ _ _ (Stp.tok B _) (.int _ _))
theorem op_and {a b : Int} : Op2 C n (binaryOp .BitAnd) (.int a) (.int b) (.int (Builtin.bitAnd a b)) := by
  intro A X s Q E v1 v2 R B r1 r2 hQ
  apply VR.elimI r1; intro _; apply VR.elimI r2; intro _
  exact PyProof.Rows.and_int (hQ _ _ (Stp.tok B _) (.int _ _))
theorem op_or {a b : Int} : Op2 C n (binaryOp .BitOr) (.int a) (.int b) (.int (Builtin.bitOr a b)) := by
  intro A X s Q E v1 v2 R B r1 r2 hQ
  apply VR.elimI r1; intro _; apply VR.elimI r2; intro _
  exact PyProof.Rows.or_int (hQ _ _ (Stp.tok B _) (.int _ _))
theorem op_xor {a b : Int} : Op2 C n (binaryOp .BitXor) (.int a) (.int b) (.int (Builtin.bitXor a b)) := by
  intro A X s Q E v1 v2 R B r1 r2 hQ
  apply VR.elimI r1; intro _; apply VR.elimI r2; intro _
  exact PyProof.Rows.xor_int (hQ _ _ (Stp.tok B _) (.int _ _))
theorem op_pow {a b : Int} (hn : 0 ≤ b) (hn2 : b ≤ 1000000) (ha : a.natAbs < 2 ^ 64) : Op2 C n (binaryOp .Pow) (.int a) (.int b) (.int (a ^ b.toNat)) := by
  intro A X s Q E v1 v2 R B r1 r2 hQ
  apply VR.elimI r1; intro _; apply VR.elimI r2; intro _
  exact PyProof.Rows.pow_int_small hn hn2 ha (hQ _ _ (Stp.tok B _) (.int _ _))
theorem iop_add {a b : Int} : Op2 C n (inplaceOp .Add) (.int a) (.int b) (.int (a + b)) := by
  intro A X s Q E v1 v2 R B r1 r2 hQ
  apply VR.elimI r1; intro _; apply VR.elimI r2; intro _
  exact PyProof.Rows.iadd_int (hQ _ _ (Stp.tok B _) (.int _ _))
theorem iop_sub {a b : Int} : Op2 C n (inplaceOp .Sub) (.int a) (.int b) (.int (a - b)) := by
  intro A X s Q E v1 v2 R B r1 r2 hQ
  apply VR.elimI r1; intro _; apply VR.elimI r2; intro _
  exact PyProof.Rows.isub_int (hQ _ _ (Stp.tok B _) (.int _ _))
theorem iop_shl {a b : Int} (h : 0 ≤ b) (hb : (Builtin.Int.intBits a : Int) + b ≤ 2 ^ 27) : Op2 C n (inplaceOp .LShift) (.int a) (.int b) (.int (a * 2 ^ b.toNat)) := by
  intro A X s Q E v1 v2 R B r1 r2 hQ
  apply VR.elimI r1; intro _; apply VR.elimI r2; intro _
  exact PyProof.Rows.ilshift_int h hb (hQ _ _ (Stp.tok B _) (.int _ _))
theorem iop_shr {a b : Int} (h : 0 ≤ b) : Op2 C n (inplaceOp .RShift) (.int a) (.int b) (.int (a.fdiv (2 ^ b.toNat))) := by
  intro A X s Q E v1 v2 R B r1 r2 hQ
  apply VR.elimI r1; intro _; apply VR.elimI r2; intro _
  exact PyProof.Rows.irshift_int h (hQ _ _ (Stp.tok B _) (.int _ _))
theorem op_eq {a b : Int} : Op2 C n (compareOp .Eq) (.int a) (.int b) (.bool (a == b)) := by
  intro A X s Q E v1 v2 R B r1 r2 hQ
  apply VR.elimI r1; intro _; apply VR.elimI r2; intro _
  exact PyProof.Rows.eq_int (hQ _ _ (Stp.refl B.tab) (.bool _))
theorem op_ne {a b : Int} : Op2 C n (compareOp .NotEq) (.int a) (.int b) (.bool (a != b)) := by
  intro A X s Q E v1 v2 R B r1 r2 hQ
  apply VR.elimI r1; intro _; apply VR.elimI r2; intro _
  exact PyProof.Rows.ne_int (hQ _ _ (Stp.refl B.tab) (.bool _))
theorem op_lt {a b : Int} : Op2 C n (compareOp .Lt) (.int a) (.int b) (.bool (decide (a < b))) := by
  intro A X s Q E v1 v2 R B r1 r2 hQ
  apply VR.elimI r1; intro _; apply VR.elimI r2; intro _
  exact PyProof.Rows.lt_int (hQ _ _ (Stp.refl B.tab) (.bool _))
theorem op_le {a b : Int} : Op2 C n (compareOp .LtE) (.int a) (.int b) (.bool (decide (a ≤ b))) := by
  intro A X s Q E v1 v2 R B r1 r2 hQ
  apply VR.elimI r1; intro _; apply VR.elimI r2; intro _
  exact PyProof.Rows.le_int (hQ _ _ (Stp.refl B.tab) (.bool _))
theorem op_gt {a b : Int} : Op2 C n (compareOp .Gt) (.int a) (.int b) (.bool (decide (b < a))) := by
  intro A X s Q E v1 v2 R B r1 r2 hQ
  apply VR.elimI r1; intro _; apply VR.elimI r2; intro _
  exact PyProof.Rows.gt_int (hQ _ _ (Stp.refl B.tab) (.bool _))
theorem op_ge {a b : Int} : Op2 C n (compareOp .GtE) (.int a) (.int b) (.bool (decide (b ≤ a))) := by
  intro A X s Q E v1 v2 R B r1 r2 hQ
  apply VR.elimI r1; intro _; apply VR.elimI r2; intro _
  exact PyProof.Rows.ge_int (hQ _ _ (Stp.refl B.tab) (.bool _))
theorem op_eqS {a b : Str} : Op2 C n (compareOp .Eq) (.str a) (.str b) (.bool (a == b)) := by
  intro A X s Q E v1 v2 R B r1 r2 hQ
  apply VR.elimS r1; intro _; apply VR.elimS r2; intro _
  exact PyProof.Rows.eq_str (hQ _ _ (Stp.refl B.tab) (.bool _))
theorem op_inS {a b : Str} : Op2 C n (compareOp .In) (.str a) (.str b) (.bool (Txt.contains b a)) := by
  intro A X s Q E v1 v2 R B r1 r2 hQ
  apply VR.elimS r1; intro _; apply VR.elimS r2; intro _
  exact SB.contains (hQ _ _ (Stp.refl B.tab) (.bool _))
theorem op_addS {a b : Str} (h : a.length + b.length ≤ sizeLine) : Op2 C n (binaryOp .Add) (.str a) (.str b) (.str (a ++ b)) := by
  intro A X s Q E v1 v2 R B r1 r2 hQ
  apply VR.elimS r1; intro _; apply VR.elimS r2; intro _
  exact wpAny_with_toks (Nat.le_refl s.toks) (SB.add (fun t' k ht => hQ _ _ (Stp.tok B _ ht) (.str _ _)) h)
theorem op_mulS {a : Str} {k : Int} (h : MulOk a k) : Op2 C n (binaryOp .Mult) (.str a) (.int k) (.str (Txt.mul a k)) := by
  intro A X s Q E v1 v2 R B r1 r2 hQ
  apply VR.elimS r1; intro _; apply VR.elimI r2; intro _
  exact wpAny_with_toks (Nat.le_refl s.toks) (SB.mul h (fun t' k ht => hQ _ _ (Stp.tok B _ ht) (.str _ _)))
theorem fz_push {X : List Addr} {h : Heap} (o : Obj) : Fz X h X (h.push o) := fun _ _ hx e => ⟨hx, Heap.get?_push_of_some _ e⟩
theorem push_list {C : Cx} {X : List Addr} {s : Shared} {vs : List Value} {ds : List D} (B : Bs C X s) (h : VRs C s.heap X vs ds) :
    VR C (s.heap.push { cls := .type "list", data := .seq vs.toArray }) X (.ref s.heap.objs.size) (.list ds) :=
  .list B.new ⟨_, Heap.get?_push_size _ rfl, rfl, _, rfl⟩ (by simpa using h.mono (fz_push _))
theorem push_tuple {C : Cx} {X : List Addr} {s : Shared} {vs : List Value} {ds : List D} (B : Bs C X s) (h : VRs C s.heap X vs ds) :
    VR C (s.heap.push { cls := .type "tuple", data := .seq vs.toArray }) X (.ref s.heap.objs.size) (.tuple ds) :=
  .tuple B.new ⟨_, Heap.get?_push_size _ rfl, rfl, _, rfl⟩ (by simpa using h.mono (fz_push _))
theorem Stp.push {C : Cx} {X : List Addr} {s : Shared} (B : Bs C X s) (o : Obj) : Stp C X s { s with heap := s.heap.push o } :=
  Stp.of_keeps (tk := s.toks) B fun _ _ e => Heap.get?_push_of_some _ e
open PyProof.Rows in
theorem op_addL {xs ys : List D} (hs : xs.length + ys.length ≤ sizeLine) : Op2 C n (binaryOp .Add) (.list xs) (.list ys) (.list (xs ++ ys)) := by
  intro A X s Q E v1 v2 R B r1 r2 hQ
  apply VR.elimL r1
  · intro _ _ h1 hl1 hv1
    apply VR.elimL r2
    · intro _ _ h2 hl2 hv2
      rename_i a1 vs1 a2 vs2
      obtain ⟨⟨c1, dd1, da1, sl1⟩, ho1, e1, n1, e1'⟩ := id hl1
      obtain ⟨⟨c2, dd2, da2, sl2⟩, ho2, e2, n2, e2'⟩ := id hl2
      dsimp only at e1 e1' e2 e2'
      subst e1 e1' e2 e2'
      have z1 := hv1.length
      have z2 := hv2.length
      simp only [Array.length_toList] at z1 z2
      refine concat_meets ⟨_, ho1, rfl⟩ ⟨_, ho2, rfl⟩ noFill_list_add seq_list_add PySem.F.slot_list_add PySem.F.entry_list_add (PySem.F.args_list_add_2 _ _) (list_addW _ _ vs1 vs2 n1 n2 dd1 dd2 sl1 sl2 (by lia)) ⟨ho1, ho2, ?_⟩
      have e : vs1 ++ vs2 = (vs1.toList ++ vs2.toList).toArray := by simp
      rw [e]
      exact hQ _ _ (Stp.push B _) (push_list B (hv1.append hv2))
theorem Ev_ifexp {test body orelse : Expr} {pos : Pos} {b : Bool} {d : D} (ht : EvT C n env ρ own test b) (h1 : b = true → Ev C n env ρ own body d) (h2 : b = false → Ev C n env ρ own orelse d) : Ev C n env ρ own (.IfExp test body orelse pos) d := by
  intro A X s Q E R S hQ
  refine wpAny_IfExp (ht A X s _ E R S fun s1 t1 => ?_)
  cases b with
  | true => exact h1 rfl A X s1 Q E R (S.step t1) fun v s' t r => hQ v s' (t1.trans t) r
  | false => exact h2 rfl A X s1 Q E R (S.step t1) fun v s' t r => hQ v s' (t1.trans t) r
theorem EvT_not {x : Expr} {pos : Pos} {b : Bool} (h : EvT C n env ρ own x b) : EvT C n env ρ own (.UnaryOp .Not x pos) (!b) := by
  intro A X s Q E R S hQ
  exact wpAny_isTrue_Not (h A X s _ E R S hQ)
inductive EvA (C : Cx) (n : Nat) (env : Env) (ρ : Rho) (own : Own) : BoolOp → List Expr → Bool → Prop
  | andNil : EvA C n env ρ own .And [] true
  | orNil : EvA C n env ρ own .Or [] false
  | andT {x r b} : EvT C n env ρ own x true → EvA C n env ρ own .And r b → EvA C n env ρ own .And (x :: r) b
  | andF {x r} : EvT C n env ρ own x false → EvA C n env ρ own .And (x :: r) false
  | orF {x r b} : EvT C n env ρ own x false → EvA C n env ρ own .Or r b → EvA C n env ρ own .Or (x :: r) b
  | orT {x r} : EvT C n env ρ own x true → EvA C n env ρ own .Or (x :: r) true
theorem EvA.sound {op : BoolOp} {es : List Expr} {b : Bool} (h : EvA C n env ρ own op es b) : ∀ (A : Around) (X : List Addr) (s : Shared) (Q : Bool → Shared → Prop) (E : Value → Shared → Prop), Room A n → StR C X env ρ own s →
    (∀ s', Stp C X s s' → Q b s') → wpAny (model C.prog C.w) A (allTrue op es env) Q E s := by
  induction h with
  | andNil => intro A X s Q E R S hQ; exact wpAny_allTrue_And_nil (hQ s (Stp.refl S.tab))
  | orNil => intro A X s Q E R S hQ; exact wpAny_allTrue_Or_nil (hQ s (Stp.refl S.tab))
  | andT h1 _ ih =>
    intro A X s Q E R S hQ
    refine wpAny_allTrue_And_cons (h1 A X s _ E R S fun s1 t1 => ?_)
    exact ih A X s1 Q E R (S.step t1) fun s' t => hQ s' (t1.trans t)
  | andF h1 =>
    intro A X s Q E R S hQ
    refine wpAny_allTrue_And_cons (h1 A X s _ E R S fun s1 t1 => ?_)
    exact hQ s1 t1
  | orF h1 _ ih =>
    intro A X s Q E R S hQ
    refine wpAny_allTrue_Or_cons (h1 A X s _ E R S fun s1 t1 => ?_)
    exact ih A X s1 Q E R (S.step t1) fun s' t => hQ s' (t1.trans t)
  | orT h1 =>
    intro A X s Q E R S hQ
    refine wpAny_allTrue_Or_cons (h1 A X s _ E R S fun s1 t1 => ?_)
    exact hQ s1 t1
theorem EvT_bool {op : BoolOp} {es : List Expr} {pos : Pos} {b : Bool} (h : EvA C n env ρ own op es b) : EvT C n env ρ own (.BoolOp op es pos) b := by
  intro A X s Q E R S hQ
  exact wpAny_isTrue_BoolOp (h.sound A X s Q E R S hQ)
end
end
section
open PySem PySem.Calls
section
variable {C : Cx} {n : Nat} {env : Env} {ρ : Rho} {own : Own}
inductive Evs (C : Cx) (n : Nat) (env : Env) (ρ : Rho) (own : Own) : List Expr → List D → Prop
  | nil : Evs C n env ρ own [] []
  | cons {e es d ds} : Ev C n env ρ own e d → Evs C n env ρ own es ds → starEach (e :: es) env = (false, eval e env) :: starEach es env → Evs C n env ρ own (e :: es) (d :: ds)
theorem Evs.sound {es : List Expr} {ds : List D} (h : Evs C n env ρ own es ds) : ∀ (pos : Pos) (A : Around) (X : List Addr) (s : Shared) (Q : List Value → Shared → Prop) (E : Value → Shared → Prop), Room A n → StR C X env ρ own s →
    (∀ vs s', Stp C X s s' → VRs C s'.heap X vs ds → Q vs s') → wpAny (model C.prog C.w) A (spliced (backTo pos (starEach es env))) Q E s := by
  induction h with
  | nil => intro pos A X s Q E _ S hQ; exact wpAny_items_nil (hQ _ _ (Stp.refl S.tab) .nil)
  | cons h1 _ he ih =>
    intro pos A X s Q E R S hQ
    refine wpAny_items_cons (h1 A X s _ E R S fun v1 s1 t1 r1 => ?_) he
    exact ih pos A X s1 _ E R (S.step t1) fun vs s2 t2 r2 => hQ _ _ (t1.trans t2) (.cons (r1.mono (t2.fz S.tx)) r2)
theorem Evs.length {es : List Expr} {ds : List D} (h : Evs C n env ρ own es ds) : es.length = ds.length := by
  induction h with
  | nil => rfl
  | cons _ _ _ ih => simp [ih]
theorem Ev_list {es : List Expr} {pos : Pos} {ds : List D} (h : Evs C n env ρ own es ds) (hz : es.length ≤ 1000 := by decide) : Ev C n env ρ own (.List es pos) (.list ds) := by
  intro A X s Q E R S hQ
  refine wpAny_List (h.sound pos A X s _ E R S fun vs s1 t1 r1 => ⟨?_, ?_⟩)
  · rw [r1.length, ← h.length]; exact Nat.le_trans hz (by decide)
  · exact hQ _ _ (t1.trans (Stp.push (S.step t1).toBs _)) (push_list (S.step t1).toBs r1)
theorem Ev_tuple {es : List Expr} {k : Nat} {pos : Pos} {ds : List D} (h : Evs C n env ρ own es ds) (hz : es.length ≤ 1000 := by decide) : Ev C n env ρ own (.Tuple es k pos) (.tuple ds) := by
  intro A X s Q E R S hQ
  refine wpAny_Tuple (h.sound pos A X s _ E R S fun vs s1 t1 r1 => ⟨?_, ?_⟩)
  · rw [r1.length, ← h.length]; exact Nat.le_trans hz (by decide)
  · exact hQ _ _ (t1.trans (Stp.push (S.step t1).toBs _)) (push_tuple (S.step t1).toBs r1)
noncomputable def ItemOk (C : Cx) (n : Nat) (d1 d2 d : D) : Prop :=
  ∀ (A : Around) (X : List Addr) (s : Shared) (Q E : Value → Shared → Prop) (v1 v2 : Value), Room A n → Bs C X s → VR C s.heap X v1 d1 → VR C s.heap X v2 d2 →
    (∀ v s', Stp C X s s' → VR C s'.heap X v d → Q v s') → ItemOn (model C.prog C.w) A E v1 v2 Q s
theorem subTail {A : Around} {s : Shared} {Q E : Value → Shared → Prop} {value slice : Expr} {o i : Value} {ops : List Value} {prog : Program} {w : World} (h : ItemOn (model prog w) A E o i Q s) (hs : subscripted slice false o i = operate ops (getItem o i)) :
    wpAny (model prog w) A (PyProof.Rows.subscriptTail value slice o i) Q E s :=
  e2a3 (h :) fun _ _ hl hT hg =>
  PyProof.Rows.tail_any hT hl hg hs
theorem Ev_sub {v i : Expr} {pos : Pos} {d1 d2 d : D} (hv : Ev C n env ρ own v d1) (hi : Ev C n env ρ own i d2) (ho : ItemOk C n d1 d2 d) (hs : ∀ o iv, subscripted i false o iv = operate [o, iv] (getItem o iv)) : Ev C n env ρ own (.Subscript v i pos) d := by
  intro A X s Q E R S hQ
  refine PyProof.Rows.Subscript_ (hv A X s _ E R S fun v1 s1 t1 r1 => hi A X s1 _ E R (S.step t1) fun v2 s2 t2 r2 => ?_)
  exact subTail (ho A X s2 Q E v1 v2 R ((S.step t1).step t2).toBs (r1.mono (t2.fz S.tx)) r2 fun v s' t r => hQ v s' ((t1.trans t2).trans t) r) (hs _ _)
theorem it_list {ds : List D} {k : Int} {d : D} (h0 : 0 ≤ k) (hk : k < 2 ^ 63) (hd : ds[k.toNat]? = some d) : ItemOk C n (.list ds) (.int k) d := by
  intro A X s Q E v1 v2 R B r1 r2 hQ
  apply VR.elimI r2; intro _
  apply VR.elimL r1
  · intro _ _ hx hl hv
    refine e1a2 (hv.get hd :) fun v e r => ?_
    exact ⟨"list", _, slot_list_getitem.lookup, hl.typeIs, wpAny_getItem_list hl h0 hk (by simpa using e) (hQ _ _ (Stp.refl B.tab) r)⟩
theorem it_listNeg {ds : List D} {k : Int} {d : D} (h0 : k < 0) (h1 : -(ds.length : Int) ≤ k) (hk : -(2 ^ 63) ≤ k) (hd : ds[(k + ds.length).toNat]? = some d) : ItemOk C n (.list ds) (.int k) d := by
  intro A X s Q E v1 v2 R B r1 r2 hQ
  apply VR.elimI r2; intro _
  apply VR.elimL r1
  · intro _ _ hx hl hv
    rename_i a vs
    have z := hv.length
    simp only [Array.length_toList] at z
    refine e1a2 (hv.get hd :) fun v e r => ?_
    exact ⟨"list", _, slot_list_getitem.lookup, hl.typeIs, wpAny_getItem_list_neg hl h0 (by lia) hk (by rw [z]; simpa using e) (hQ _ _ (Stp.refl B.tab) r)⟩
theorem it_str {x : Str} {k : Int} {c : Nat} (h0 : 0 ≤ k) (hk : k < 2 ^ 63) (hc : (seqIndex? k x.length).bind (x.cps[·]?) = some c) : ItemOk C n (.str x) (.int k) (.str ⟨#[c]⟩) := by
  intro A X s Q E v1 v2 R B r1 r2 hQ
  apply VR.elimI r2; intro _
  apply VR.elimS r1; intro _
  exact ⟨"str", _, F.slot_str_getitem.lookup, typeIs_str _ _ _, PyProof.Rows.getItem_str (by simp only [Bool.or_eq_false_iff, decide_eq_false_iff_not]; lia) hc (hQ _ _ (Stp.tok B _) (.str _ _))⟩
theorem it_smap {f : Str → Option Str} {k x : Str} (hf : f k = some x) : ItemOk C n (.smap f) (.str k) (.str x) := by
  intro A X s Q E v1 v2 R B r1 r2 hQ
  apply VR.elimS r2
  intro t
  apply VR.elimM r1
  · intro _ _ hx hy hm h1 h2
    refine e1a1 (h2 k x hf :) fun u e => ?_
    exact ⟨"dict", _, slot_dict_getitem.lookup, hm.typeIs, wpAny_getItem_of (strKind_is C.prog C.w k t) hm e (hQ _ _ (Stp.tok B _) (.str _ _))⟩
theorem it_imap {f : Str → Option Int} {k : Str} {x : Int} (hf : f k = some x) : ItemOk C n (.imap f) (.str k) (.int x) := by
  intro A X s Q E v1 v2 R B r1 r2 hQ
  apply VR.elimS r2
  intro t
  apply VR.elimJ r1
  · intro _ _ hx hy hm h1 h2
    refine e1a1 (h2 k x hf :) fun u e => ?_
    exact ⟨"dict", _, slot_dict_getitem.lookup, hm.typeIs, wpAny_getItem_of (strKind_is C.prog C.w k t) hm e (hQ _ _ (Stp.tok B _) (.int _ _))⟩
theorem op_inSmap {f : Str → Option Str} {k : Str} : Op2 C n (compareOp .In) (.str k) (.smap f) (.bool (f k).isSome) := by
  intro A X s Q E v1 v2 R B r1 r2 hQ
  apply VR.elimS r1
  intro t
  apply VR.elimM r2
  · intro _ _ hx hy hm h1 h2
    rename_i a g
    have e : (g k).isSome = (f k).isSome := by
      cases q : f k with
      | none => rw [h1 k q]; rfl
      | some x => refine e1a1 (h2 k x q :) fun u e => ?_; rw [e]; rfl
    exact wpAny_in_of (strKind_is C.prog C.w k t) hy hm (by rw [e]; exact hQ _ _ (Stp.tok B _) (.bool _))
theorem op_inImap {f : Str → Option Int} {k : Str} : Op2 C n (compareOp .In) (.str k) (.imap f) (.bool (f k).isSome) := by
  intro A X s Q E v1 v2 R B r1 r2 hQ
  apply VR.elimS r1
  intro t
  apply VR.elimJ r2
  · intro _ _ hx hy hm h1 h2
    rename_i a g
    have e : (g k).isSome = (f k).isSome := by
      cases q : f k with
      | none => rw [h1 k q]; rfl
      | some x => refine e1a1 (h2 k x q :) fun u e => ?_; rw [e]; rfl
    exact wpAny_in_of (strKind_is C.prog C.w k t) hy hm (by rw [e]; exact hQ _ _ (Stp.tok B _) (.bool _))
inductive OAt : Own → Addr → List D → Prop
  | head {a ds r} : OAt ((a, ds) :: r) a ds
  | tail {p r a ds} : OAt r a ds → OAt (p :: r) a ds
theorem OAt.mem {own : Own} {a ds} (h : OAt own a ds) : (a, ds) ∈ own := by
  induction h with
  | head => exact List.mem_cons_self
  | tail _ ih => exact List.mem_cons_of_mem _ ih
theorem Ev_subO {v i : Expr} {pos : Pos} {a : Addr} {ds : List D} {k : Int} {d : D} (hv : Ev C n env ρ own v (.ref a)) (hi : Ev C n env ρ own i (.int k)) (ha : OAt own a ds) (h0 : 0 ≤ k) (hk : k < 2 ^ 63) (hd : ds[k.toNat]? = some d)
    (hs : ∀ o iv, subscripted i false o iv = operate [o, iv] (getItem o iv)) : Ev C n env ρ own (.Subscript v i pos) d := by
  intro A X s Q E R S hQ
  refine PyProof.Rows.Subscript_ (hv A X s _ E R S fun v1 s1 t1 r1 => hi A X s1 _ E R (S.step t1) fun v2 s2 t2 r2 => ?_)
  apply VR.elimR r1; apply VR.elimI r2; intro _
  have S2 := (S.step t1).step t2
  refine e0a2 (S2.owned _ ha.mem :) fun _ w1q => e1a2 w1q fun vs hl hv => ?_
  refine e1a2 (hv.get hd :) fun v e r => ?_
  exact subTail ⟨"list", _, slot_list_getitem.lookup, hl.isList.typeIs, wpAny_getItem_list hl.isList h0 hk (by simpa using e) (hQ _ _ (t1.trans t2) r)⟩ (hs _ _)
theorem Ev_subONeg {v i : Expr} {pos : Pos} {a : Addr} {ds : List D} {k : Int} {d : D} (hv : Ev C n env ρ own v (.ref a)) (hi : Ev C n env ρ own i (.int k)) (ha : OAt own a ds) (h0 : k < 0) (h1 : -(ds.length : Int) ≤ k) (hk : -(2 ^ 63) ≤ k) (hd : ds[(k + ds.length).toNat]? = some d)
    (hs : ∀ o iv, subscripted i false o iv = operate [o, iv] (getItem o iv)) : Ev C n env ρ own (.Subscript v i pos) d := by
  intro A X s Q E R S hQ
  refine PyProof.Rows.Subscript_ (hv A X s _ E R S fun v1 s1 t1 r1 => hi A X s1 _ E R (S.step t1) fun v2 s2 t2 r2 => ?_)
  apply VR.elimR r1; apply VR.elimI r2; intro _
  have S2 := (S.step t1).step t2
  refine e0a2 (S2.owned _ ha.mem :) fun _ w2q => e1a2 w2q fun vs hl hv => ?_
  have z := hv.length
  simp only [Array.length_toList] at z
  refine e1a2 (hv.get hd :) fun v e r => ?_
  exact subTail ⟨"list", _, slot_list_getitem.lookup, hl.isList.typeIs, wpAny_getItem_list_neg hl.isList h0 (by lia) hk (by rw [z]; simpa using e) (hQ _ _ (t1.trans t2) r)⟩ (hs _ _)
inductive EvP (C : Cx) (n : Nat) (env : Env) (ρ : Rho) (own : Own) : Option Expr → Option Int → Prop
  | none : EvP C n env ρ own Option.none Option.none
  | some {e k} : Ev C n env ρ own e (.int k) → EvP C n env ρ own (some e) (some k)
theorem EvP.sound {e : Option Expr} {k : Option Int} (h : EvP C n env ρ own e k) (A : Around) (X : List Addr) (s : Shared) (Q : Value → Shared → Prop) (E : Value → Shared → Prop) (R : Room A n) (S : StR C X env ρ own s)
    (hQ : ∀ v s', Stp C X s s' → IsPart v k → (∃ l, v = partValue l ∧ l.map (·.1) = k) → Q v s') : wpAny (model C.prog C.w) A (evalPart e env) Q E s := by
  cases h with
  | none => exact wpAny_evalPart_none (hQ _ _ (Stp.refl S.tab) .none ⟨Option.none, rfl, rfl⟩)
  | @some e k h => exact wpAny_evalPart_some (h A X s Q E R S fun v s' t r => by apply VR.elimI r; intro u; exact hQ _ _ t (.int _ _) ⟨.some (k, u), rfl, rfl⟩)
theorem Ev_sliceL {v : Expr} {lo hi : Option Expr} {p pos : Pos} {ds : List D} {l u : Option Int} (hv : Ev C n env ρ own v (.list ds)) (hl : EvP C n env ρ own lo l) (hu : EvP C n env ρ own hi u) (hz : ds.length ≤ sizeLine) :
    Ev C n env ρ own (.Subscript v (.Slice lo hi none p) pos) (.list ((ds.drop (W.kms_lo l ds.length)).take (W.kms_hi u ds.length - W.kms_lo l ds.length))) := by
  intro A X s Q E R S hQ
  refine PyProof.Rows.Subscript_ (hv A X s _ E R S fun v1 s1 t1 r1 => wpAny_Slice (hl.sound A X s1 _ E R (S.step t1) fun v2 s2 t2 p2 _ => hu.sound A X s2 _ E R ((S.step t1).step t2) fun v3 s3 t3 p3 _ => ?_))
  rw [evalPart_none]
  refine wpAny_pure ?_
  have S3 := ((S.step t1).step t2).step t3
  have r3 := (r1.mono (t2.fz S.tx)).mono (t3.fz S.tx)
  apply VR.elimL r3
  · intro _ _ hx hli hvs
    rename_i a vs
    have z := hvs.length
    simp only [Array.length_toList] at z
    have hli' := hli.push { cls := .type "slice", data := .fields #[v2, v3, .none] }
    refine subTail ⟨"list", _, slot_list_getitem.lookup, Heap.IsList.typeIs (s := { s3 with heap := _ }) hli', wpAny_getItem_list_slice (s := { s3 with heap := _ }) (st := none) hli' (Heap.IsSliceOf.new ..) p2 p3 .none (by simp) ?_ (by rw [z]; exact hz)⟩ (ops := [.ref s3.heap.objs.size, .ref a]) rfl
    have B4 := S3.toBs.step (Stp.push S3.toBs { cls := .type "slice", data := .fields #[v2, v3, .none] })
    rw [W.kms_pick_eq]
    refine hQ _ _ (((t1.trans t2).trans t3).trans ((Stp.push S3.toBs _).trans (Stp.push B4 _))) ?_
    unfold W.kms_pick
    rw [hvs.length]
    exact push_list B4 (((hvs.mono (fz_push _)).drop _).take _)
theorem Ev_sliceS {v : Expr} {lo hi : Option Expr} {p pos : Pos} {x : Str} {l u : Option Int} (hv : Ev C n env ρ own v (.str x)) (hl : EvP C n env ρ own lo l) (hu : EvP C n env ρ own hi u) (hz : x.length ≤ sizeLine) :
    Ev C n env ρ own (.Subscript v (.Slice lo hi none p) pos) (.str (Txt.slice x l u)) := by
  intro A X s Q E R S hQ
  refine PyProof.Rows.Subscript_ (hv A X s _ E R S fun v1 s1 t1 r1 => wpAny_Slice (hl.sound A X s1 _ E R (S.step t1) fun v2 s2 t2 _ p2 => hu.sound A X s2 _ E R ((S.step t1).step t2) fun v3 s3 t3 _ p3 => ?_))
  rw [evalPart_none]
  refine wpAny_pure ?_
  have S3 := ((S.step t1).step t2).step t3
  apply VR.elimS r1
  intro t
  refine e1a2 (p2 :) fun l2 r3q e2 => ?_; subst r3q e2
  refine e1a2 (p3 :) fun l3 r4q e3 => ?_; subst r4q e3
  have fin := fun (h' : Heap) (t' : Tok) (k : Nat) (hk : ∀ b o, s3.heap.get? b = some o → h'.get? b = some o) (hk' : s3.toks ≤ k) => hQ (.str _ t') { s3 with heap := h', toks := k } (((t1.trans t2).trans t3).trans (Stp.of_keeps S3.toBs hk hk')) (.str _ _)
  have kp : KeptH fun h' => ∀ b o, s3.heap.get? b = some o → h'.get? b = some o := fun h ob k b o e => Heap.get?_push_of_some _ (k b o e)
  have k0 : ∀ b o, s3.heap.get? b = some o → s3.heap.get? b = some o := fun _ _ e => e
  refine wpAny_with_toks (Nat.le_refl s3.toks) (subTail ?_ (ops := [.ref s3.heap.objs.size, .str x t]) rfl)
  exact match l2, l3 with
    | none, none => SBH.sliceItem_nn kp k0 fin hz
    | none, some _ => SBH.sliceItem_ns kp k0 fin hz
    | some _, none => SBH.sliceItem_sn kp k0 fin hz
    | some _, some _ => SBH.sliceItem_ss kp k0 fin hz
end
end
section
open PySem PySem.Calls
noncomputable abbrev Wx (env : Env) (own : Own) : List Addr := env.locals :: (env.cells.map (·.2) ++ own.map (·.1))
structure St (C : Cx) (X : List Addr) (env : Env) (ρ : Rho) (own : Own) (s : Shared) : Prop extends StR C (Wx env own ++ X) env ρ own s where
  nd : (Wx env own).Nodup
  off : ∀ a ∈ Wx env own, a ∉ X
  txx : ∀ P ∈ C.tP, P ∈ X
  nr : (ρ.map (·.1)).Nodup
noncomputable def FreeCell (env : Env) (b : Addr) : Prop := ∃ y, env.cells.lookup y = some b ∧ env.kindOf y = some .free
structure Pst (C : Cx) (X : List Addr) (env : Env) (own own' : Own) (s s' : Shared) : Prop where
  same : ∃ h tk, s' = { s with heap := h, toks := tk } ∧ s.toks ≤ tk
  fz : Fz (Wx env own ++ X) s.heap (Wx env own' ++ X) s'.heap
  hid : ∀ b, (b ∈ X ∨ FreeCell env b) → b ∉ C.tP → ∀ o, s.heap.get? b = some o → s'.heap.get? b = some o
theorem Pst.trans {C : Cx} {X : List Addr} {env : Env} {o1 o2 o3 : Own} {s s' s'' : Shared} (a : Pst C X env o1 o2 s s') (b : Pst C X env o2 o3 s' s'') : Pst C X env o1 o3 s s'' := by
  refine ⟨?_, a.fz.trans b.fz, fun c hc ht o e => b.hid c hc ht o (a.hid c hc ht o e)⟩
  refine e2a2 (a.same :) fun h tk r2q z => ?_; subst r2q
  refine e2a2 (b.same :) fun h' tk' r2q z' => ?_; subst r2q
  exact ⟨h', tk', rfl, Nat.le_trans z z'⟩
theorem Pst.refl {C : Cx} {X : List Addr} {env : Env} {own : Own} {s : Shared} : Pst C X env own own s s := ⟨⟨_, _, rfl, Nat.le_refl _⟩, Fz.refl, fun _ _ _ _ e => e⟩
theorem Stp.pst {C : Cx} {X : List Addr} {env : Env} {own : Own} {s s' : Shared} (x : Stp C (Wx env own ++ X) s s') (tx : ∀ P ∈ C.tP, P ∈ Wx env own ++ X) : Pst C X env own own s s' := by
  refine ⟨?_, x.fz tx, fun b hb ht o e => x.keep b o ht e⟩
  refine e2a3 (x :) fun h tk r2q z _ => ?_; subst r2q
  exact ⟨h, tk, rfl, z⟩
theorem St.stp {C : Cx} {X : List Addr} {env : Env} {ρ : Rho} {own : Own} {s s' : Shared} (S : St C X env ρ own s) (x : Stp C (Wx env own ++ X) s s') : St C X env ρ own s' ∧ Pst C X env own own s s' :=
  ⟨⟨S.toStR.step x, S.nd, S.off, S.txx, S.nr⟩, x.pst S.tx⟩
inductive Out where
  | next (ρ : Rho) (own : Own)
  | ret (d : D) (own : Own)
inductive OutR (C : Cx) (X : List Addr) (env : Env) (own : Own) (s : Shared) : Out → Flow → Shared → Prop
  | next {ρ' own' s'} : Pst C X env own own' s s' → St C X env ρ' own' s' → OutR C X env own s (.next ρ' own') .next s'
  | ret {ρ' own' d v s'} : Pst C X env own own' s s' → St C X env ρ' own' s' → VR C s'.heap (Wx env own' ++ X) v d → OutR C X env own s (.ret d own') (.ret v) s'
theorem OutR.after {C : Cx} {X : List Addr} {env : Env} {o1 o2 : Own} {s s1 s' : Shared} {out : Out} {f : Flow} (p : Pst C X env o1 o2 s s1) (h : OutR C X env o2 s1 out f s') : OutR C X env o1 s out f s' := by
  cases h with
  | next q S => exact .next (p.trans q) S
  | ret q t r => exact .ret (p.trans q) t r
noncomputable def Ex (C : Cx) (n : Nat) (env : Env) (ρ : Rho) (own : Own) (ss : List Stmt) (K : Out → Prop) : Prop :=
  ∀ (A : Around) (X : List Addr) (s : Shared) (Q : Flow → Shared → Prop) (E : Value → Shared → Prop), Room A n → St C X env ρ own s →
    (∀ out f s', K out → OutR C X env own s out f s' → Q f s') → wpAny (model C.prog C.w) A (execs ss env) Q E s
noncomputable def Es (C : Cx) (n : Nat) (env : Env) (ρ : Rho) (own : Own) (st : Stmt) (K : Out → Prop) : Prop :=
  ∀ (A : Around) (X : List Addr) (s : Shared) (Q : Flow → Shared → Prop) (E : Value → Shared → Prop), Room A n → St C X env ρ own s →
    (∀ out f s', K out → OutR C X env own s out f s' → Q f s') → wpAny (model C.prog C.w) A (exec st env) Q E s
noncomputable def Rest (C : Cx) (n : Nat) (env : Env) (rest : List Stmt) (K : Out → Prop) : Out → Prop
  | .next ρ own => Ex C n env ρ own rest K
  | .ret d own => K (.ret d own)
inductive Up : Rho → Str → D → Rho → Prop
  | headL {x o r d} : Up ((x, .loc, o) :: r) x d ((x, .loc, some d) :: r)
  | headC {x o r d} : Up ((x, .cel, o) :: r) x d ((x, .cel, some d) :: r)
  | tail {p r x d r'} : Up r x d r' → Up (p :: r) x d (p :: r')
theorem Up.names {ρ x d ρ'} (h : Up ρ x d ρ') : ρ'.map (·.1) = ρ.map (·.1) := by
  induction h with
  | headL => rfl
  | headC => rfl
  | tail _ ih => exact congrArg (List.cons _) ih
theorem Up.isIn {ρ x d ρ'} (h : Up ρ x d ρ') : x ∈ ρ'.map (·.1) := by
  induction h with
  | headL => exact List.mem_cons_self
  | headC => exact List.mem_cons_self
  | tail _ ih => exact List.mem_cons_of_mem _ ih
theorem Up.mem {ρ x d ρ'} (h : Up ρ x d ρ') : (ρ.map (·.1)).Nodup → ∀ p ∈ ρ', (p = (x, .loc, some d) ∧ ∃ o, (x, .loc, o) ∈ ρ) ∨ (p = (x, .cel, some d) ∧ ∃ o, (x, .cel, o) ∈ ρ) ∨ (p ∈ ρ ∧ p.1 ≠ x) := by
  have hd : ∀ {r : Rho} {x : Str} {p : Str × Sl × Option D} {sl : Sl} {o : Option D}, (List.map (·.1) ((x, sl, o) :: r)).Nodup → p ∈ r → p ∈ (x, sl, o) :: r ∧ p.1 ≠ x := by
    intro r x p sl o nd hp
    refine ⟨List.mem_cons_of_mem _ hp, fun q => ?_⟩
    rw [List.map_cons, List.nodup_cons] at nd
    have hm := List.mem_map_of_mem (f := fun p : Str × Sl × Option D => p.1) hp
    rw [q] at hm
    exact nd.1 hm
  induction h with
  | headL =>
    intro nd p hp
    rcases List.mem_cons.mp hp with rfl | hp
    · exact .inl ⟨rfl, _, List.mem_cons_self⟩
    · exact .inr (.inr (hd nd hp))
  | headC =>
    intro nd p hp
    rcases List.mem_cons.mp hp with rfl | hp
    · exact .inr (.inl ⟨rfl, _, List.mem_cons_self⟩)
    · exact .inr (.inr (hd nd hp))
  | tail h ih =>
    intro nd p hp
    rw [List.map_cons, List.nodup_cons] at nd
    rcases List.mem_cons.mp hp with rfl | hp
    · refine .inr (.inr ⟨List.mem_cons_self, fun q => nd.1 ?_⟩)
      rw [← h.names, q]
      exact h.isIn
    · rcases ih nd.2 p hp with ⟨q, o, m⟩ | ⟨q, o, m⟩ | ⟨q, r⟩
      · exact .inl ⟨q, o, List.mem_cons_of_mem _ m⟩
      · exact .inr (.inl ⟨q, o, List.mem_cons_of_mem _ m⟩)
      · exact .inr (.inr ⟨List.mem_cons_of_mem _ q, r⟩)
theorem Up.old {ρ x d ρ'} (h : Up ρ x d ρ') : (∃ o, (x, .loc, o) ∈ ρ) ∨ ∃ o, (x, .cel, o) ∈ ρ := by
  induction h with
  | headL => exact .inl ⟨_, List.mem_cons_self⟩
  | headC => exact .inr ⟨_, List.mem_cons_self⟩
  | tail _ ih => exact ih.imp (fun q => e1a1 q fun o m => ⟨o, List.mem_cons_of_mem _ m⟩) (fun q => e1a1 q fun o m => ⟨o, List.mem_cons_of_mem _ m⟩)
theorem fz_same {X : List Addr} {h h' : Heap} {a : Addr} (ha : a ∈ X) (hs : Heap.SameBut a h h') : Fz X h X h' := fun b o hx e => ⟨hx, hs.extBut b o (fun q => hx (q ▸ ha)) e⟩
theorem cell_name : ∀ {cs : List (Str × Addr)} {x y : Str} {c : Addr}, (cs.map (·.2)).Nodup → (x, c) ∈ cs → (y, c) ∈ cs → x = y
  | p :: r, x, y, c, nd, h1, h2 => by
    rw [List.map_cons, List.nodup_cons] at nd
    rcases List.mem_cons.mp h1 with e1 | h1 <;> rcases List.mem_cons.mp h2 with e2 | h2
    · rw [← e2] at e1; exact (Prod.mk.inj e1).1
    · exact absurd (List.mem_map_of_mem (f := fun p : Str × Addr => p.2) h2) (by rw [← e1] at nd; exact nd.1)
    · exact absurd (List.mem_map_of_mem (f := fun p : Str × Addr => p.2) h1) (by rw [← e2] at nd; exact nd.1)
    · exact cell_name nd.2 h1 h2
theorem St.ntp {C : Cx} {X : List Addr} {env : Env} {ρ : Rho} {own : Own} {s : Shared} (S : St C X env ρ own s) {a : Addr} (h : a ∈ Wx env own) : a ∉ C.tP := fun q => S.off a h (S.txx a q)
theorem StR.store {C : Cx} {Y : List Addr} {env : Env} {ρ ρ' : Rho} {own : Own} {s : Shared} {x : Str} {v : Value} {d : D} {A : Around} {Q : Unit → Shared → Prop} {E : Value → Shared → Prop} (S : StR C Y env ρ own s)
    (hv : VR C s.heap Y v d) (hu : Up ρ x d ρ') (nr : (ρ.map (·.1)).Nodup) (hLY : env.locals ∈ Y) (hcY : ∀ o, (x, Sl.cel, o) ∈ ρ → ∀ c, env.cells.lookup x = some c → c ∈ Y)
    (hcL : ∀ p ∈ ρ, ∀ c, env.cells.lookup p.1 = some c → c ≠ env.locals) (hoL : ∀ p ∈ own, p.1 ≠ env.locals) (hcc : ∀ o, (x, Sl.cel, o) ∈ ρ → ∀ p ∈ ρ, ∀ c, env.cells.lookup p.1 = some c → env.cells.lookup x = some c → p.1 = x) (hoc : ∀ o, (x, Sl.cel, o) ∈ ρ → ∀ p ∈ own, ∀ c, env.cells.lookup x = some c → p.1 ≠ c)
    (h : ∀ a h' tk, (a = env.locals ∨ ∃ o, (x, Sl.cel, o) ∈ ρ ∧ env.cells.lookup x = some a) → Heap.SameBut a s.heap h' → s.toks ≤ tk → StR C Y env ρ' own { s with heap := h', toks := tk } → Q () { s with heap := h', toks := tk }) :
    wpAny (model C.prog C.w) A (storeName env x v) Q E s := by
  refine e1a2 (S.vars :) fun m hn hvs => ?_
  have chg : ∀ {a : Addr} {h' : Heap} {tk : Nat}, a ∈ Y → a ∉ C.tP → Heap.SameBut a s.heap h' → (∃ o, h'.get? a = some o) → s.toks ≤ tk → Bs C Y { s with heap := h', toks := tk } := by
    intro a h' tk ha hat hs hex htk
    have z := fz_same ha hs
    refine ⟨fun b o e => e0a2 (S.base b o e :) fun p q => z b o p q, S.tab.mono z fun P hP o e => hs.extBut P o (fun q => hat (q ▸ hP)) e, S.tx, fun b hb => ?_, Nat.le_trans S.tk htk⟩
    by_cases q : b = a
    · rw [q]; exact hex
    · refine e1a1 (S.bd b hb :) fun o e => ?_
      exact ⟨o, hs.extBut b o q e⟩
  rcases hu.old with ⟨o, hmem⟩ | ⟨o, hmem⟩
  · refine (hvs _ hmem).elimL fun h0 a b => ?_
    refine wpAny_storeName_local a hn (fun h' hn' hs' => ?_) (by rw [S.kf]; rfl)
    have hexL : ∃ o, h'.get? env.locals = some o := e3a2 (hn' :) fun o _ _ e _ => ⟨o, e⟩
    have z := fz_same hLY hs'
    refine h env.locals h' _ (.inl rfl) hs' (Nat.le_succ _) ⟨chg hLY S.lt hs' hexL (Nat.le_succ _), S.kf, S.gl, S.bl, S.lt, ⟨_, hn', fun p hp => ?_⟩, fun p hp => ?_⟩
    · rcases hu.mem nr p hp with ⟨rfl, _⟩ | ⟨rfl, o', hm'⟩ | ⟨hp, hne⟩
      · exact .loc h0 a fun d' hd => by cases hd; exact ⟨v, by simp, hv.mono z⟩
      · exact (hvs _ hm').elimC fun _ a' _ => by rw [a] at a'; cases a'
      · exact (hvs p hp).mono z (fun c hc _ o e => hs'.extBut c o (hcL p hp c hc) e) (if_neg hne)
    · refine e0a2 (S.owned p hp :) fun ht w1q => e1a2 w1q fun vs a' b' => ?_
      exact ⟨ht, vs, a'.extBut hs'.extBut (hoL p hp), b'.mono z⟩
  · refine (hvs _ hmem).elimC fun h0 a b => ?_
    refine e2a4 (b :) fun c ov e1 e2 e3 e4 => ?_
    have hc := hcY o hmem c e1
    refine wpAny_storeName_cell S.kf a e1 e3 fun h' hc' hs' => ?_
    have hexc : ∃ o, h'.get? c = some o := e1a2 (hc' :) fun o e _ => ⟨o, e⟩
    have z := fz_same hc hs'
    refine h c h' _ (.inr ⟨o, hmem, e1⟩) hs' (Nat.le_refl _) ⟨chg hc e2 hs' hexc (Nat.le_refl _), S.kf, S.gl, S.bl, S.lt, ⟨m, hn.sameBut hs' (Ne.symm (hcL _ hmem c e1)), fun p hp => ?_⟩, fun p hp => ?_⟩
    · rcases hu.mem nr p hp with ⟨rfl, o', hm'⟩ | ⟨rfl, _⟩ | ⟨hp, hne⟩
      · exact (hvs _ hm').elimL fun _ a' _ => by rw [a] at a'; cases a'
      · exact .cell h0 a ⟨c, _, e1, e2, hc', fun d' hd => by cases hd; exact ⟨v, rfl, hv.mono z⟩⟩
      · exact (hvs p hp).mono z (fun c' hc' _ ob e => hs'.extBut c' ob (fun q => hne (hcc o hmem p hp _ hc' (q ▸ e1))) e) rfl
    · refine e0a2 (S.owned p hp :) fun ht w2q => e1a2 w2q fun vs a' b' => ?_
      exact ⟨ht, vs, a'.extBut hs'.extBut (hoc o hmem p hp c e1), b'.mono z⟩
theorem St.store {C : Cx} {X : List Addr} {env : Env} {ρ ρ' : Rho} {own : Own} {s : Shared} {x : Str} {v : Value} {d : D} {A : Around} {Q : Unit → Shared → Prop} {E : Value → Shared → Prop} (S : St C X env ρ own s)
    (hv : VR C s.heap (Wx env own ++ X) v d) (hu : Up ρ x d ρ') (h : ∀ s', Pst C X env own own s s' → St C X env ρ' own s' → Q () s') : wpAny (model C.prog C.w) A (storeName env x v) Q E s := by
  have nr' : (ρ'.map (·.1)).Nodup := by rw [hu.names]; exact S.nr
  have hcm : ∀ {y : Str} {c : Addr}, env.cells.lookup y = some c → c ∈ Wx env own := fun e => List.mem_cons_of_mem _ (List.mem_append_left _ (List.mem_map_of_mem (f := fun p : Str × Addr => p.2) (mem_of_lookup e)))
  have nd1 := List.nodup_cons.mp S.nd
  have nd2 := List.nodup_append.mp nd1.2
  have hneL : ∀ {y : Str} {c : Addr}, env.cells.lookup y = some c → c ≠ env.locals := fun e q => nd1.1 (q ▸ List.mem_append_left _ (List.mem_map_of_mem (f := fun p : Str × Addr => p.2) (mem_of_lookup e)))
  refine S.toStR.store hv hu S.nr (List.mem_append_left _ List.mem_cons_self) (fun _ _ c hc => List.mem_append_left _ (hcm hc)) (fun _ _ c hc => hneL hc)
    (fun p hp q => nd1.1 (q ▸ List.mem_append_right _ (List.mem_map_of_mem (f := fun p : Addr × List D => p.1) hp))) (fun _ _ p hp c h1 h2 => cell_name nd2.1 (mem_of_lookup h1) (mem_of_lookup h2))
    (fun _ _ p hp c hc q => nd2.2.2 c (List.mem_map_of_mem (f := fun p : Str × Addr => p.2) (mem_of_lookup hc)) p.1 (List.mem_map_of_mem (f := fun p : Addr × List D => p.1) hp) q.symm) fun a h' tk ha hs htk S' => ?_
  have haW : a ∈ Wx env own := by
    rcases ha with rfl | ⟨o, _, e⟩
    · exact List.mem_cons_self
    · exact hcm e
  have hne : ∀ b, (b ∈ X ∨ FreeCell env b) → b ≠ a := fun b hb q => by
    subst q
    rcases hb with hb | ⟨y, hy, hk⟩
    · exact S.off b haW hb
    · rcases ha with rfl | ⟨o, hm, e⟩
      · exact hneL hy rfl
      · refine e1a2 (S.vars :) fun m hn hvs => ?_
        have hk' : env.kindOf x = some .cell := (hvs _ hm).elimC fun _ b _ => b
        have : y = x := cell_name nd2.1 (mem_of_lookup hy) (mem_of_lookup e)
        rw [this, hk'] at hk; cases hk
  exact h _ ⟨⟨_, _, rfl, htk⟩, fz_same (List.mem_append_left _ haW) hs, fun b hb ht o e => hs.extBut b o (hne b hb) e⟩ ⟨S', S.nd, S.off, S.txx, nr'⟩
section
variable {C : Cx} {n : Nat} {env : Env} {ρ ρ' : Rho} {own : Own} {K : Out → Prop}
theorem Ex_nil (h : K (.next ρ own)) : Ex C n env ρ own [] K := by
  intro A X s Q E R S hQ
  exact wpAny_execs_nil (hQ _ _ _ h (.next .refl S))
theorem Ex_cons {st : Stmt} {rest : List Stmt} (h : Es C n env ρ own st (Rest C n env rest K)) : Ex C n env ρ own (st :: rest) K := by
  intro A X s Q E R S hQ
  refine wpAny_execs_cons (h A X s _ E R S fun out f s1 k o => ?_)
  cases o with
  | next p S1 => exact k A X s1 Q E R S1 fun out' f' s' k' o' => hQ out' f' s' k' (o'.after p)
  | ret p t r => exact hQ _ _ _ k (.ret p t r)
theorem Ex_mono {ss : List Stmt} {K' : Out → Prop} (h : Ex C n env ρ own ss K) (k : ∀ o, K o → K' o) : Ex C n env ρ own ss K' :=
  fun A X s Q E R S hQ => h A X s Q E R S fun out f s' ko o => hQ out f s' (k _ ko) o
theorem Es_ret {e : Expr} {pos : Pos} {d : D} (he : Ev C n env ρ own e d) (h : K (.ret d own)) : Es C n env ρ own (.Return (some e) pos) K := by
  intro A X s Q E R S hQ
  exact wpAny_Return_some (he A _ s _ E R S.toStR fun v s' t r => hQ _ _ _ h (.ret (S.stp t).2 (S.stp t).1 r))
theorem Es_ret0 {pos : Pos} (h : K (.ret .none own)) : Es C n env ρ own (.Return none pos) K := by
  intro A X s Q E R S hQ
  exact wpAny_Return_none (hQ _ _ _ h (.ret .refl S .none))
theorem Es_set {x : Str} {p pos : Pos} {e : Expr} {d : D} (he : Ev C n env ρ own e d) (hu : Up ρ x d ρ') (h : K (.next ρ' own))
    (hs : swapsWith e (some (.Name x p)) pos.line env = pure false := by rfl) : Es C n env ρ own (.Assign [.Name x p] e pos) K := by
  intro A X s Q E R S hQ
  refine wpAny_Assign_Name (he A _ s _ E R S.toStR fun v s1 t r => ?_) hs
  refine e0a2 (S.stp t :) fun S1 p1 => ?_
  exact S1.store r hu fun s2 p2 S2 => hQ _ _ _ h (.next (p1.trans p2) S2)
theorem Es_if {test : Expr} {body orelse : List Stmt} {pos : Pos} {b : Bool} (ht : EvT C n env ρ own test b) (h1 : b = true → Ex C n env ρ own body K) (h2 : b = false → Ex C n env ρ own orelse K) : Es C n env ρ own (.If test body orelse pos) K := by
  intro A X s Q E R S hQ
  refine wpAny_If (ht A _ s _ E R S.toStR fun s1 t => ?_)
  refine e0a2 (S.stp t :) fun S1 p1 => ?_
  cases b with
  | true => exact h1 rfl A X s1 Q E R S1 fun out f s' k o => hQ out f s' k (o.after p1)
  | false => exact h2 rfl A X s1 Q E R S1 fun out f s' k o => hQ out f s' k (o.after p1)
theorem Es_aug {x : Str} {p pos : Pos} {op : Operator} {e : Expr} {d1 d2 d : D} (hx : At ρ x d1) (he : Ev C n env ρ own e d2) (ho : Op2 C n (inplaceOp op) d1 d2 d) (hu : Up ρ x d ρ') (h : K (.next ρ' own)) :
    Es C n env ρ own (.AugAssign (.Name x p) op e pos) K := by
  intro A X s Q E R S hQ
  refine wpAny_AugAssign_Name (S.toStR.load hx fun v1 r1 => he A _ s _ E R S.toStR fun v2 s2 t2 r2 => ?_)
  refine ho A _ s2 _ E v1 v2 R (S.toStR.step t2).toBs (r1.mono (t2.fz S.tx)) r2 fun v s3 t3 r3 => ?_
  refine e0a2 (S.stp (t2.trans t3) :) fun S3 p3 => ?_
  exact S3.store r3 hu fun s4 p4 S4 => hQ _ _ _ h (.next (p3.trans p4) S4)
theorem Es_while {test : Expr} {body : List Stmt} {pos : Pos} (Inv : Nat → Rho → Own → Prop) (k0 : Nat) (h0 : Inv k0 ρ own)
    (turn : ∀ k ρ own, Inv k ρ own → ∃ b, EvT C n env ρ own test b ∧ (b = true → Ex C n env ρ own body fun o => match o with | .next ρ' own' => ∃ k', k' < k ∧ Inv k' ρ' own' | .ret d o => K (.ret d o)) ∧ (b = false → K (.next ρ own))) :
    Es C n env ρ own (.While test body [] pos) K := by
  intro A X s Q E R S hQ
  refine wpAny_While (codeAny_whileLoop (fun k s' => ∃ ρ1 own1, Inv k ρ1 own1 ∧ Pst C X env own own1 s s' ∧ St C X env ρ1 own1 s') ?_ k0 ⟨ρ, own, h0, .refl, S⟩)
  intro k s1 w1q; refine e2a3 (w1q :) fun ρ1 own1 hI p1 S1 => ?_; clear w1q
  refine e1a3 (turn k ρ1 own1 hI :) fun b ht hb1 hb2 => ?_
  refine ht A _ s1 _ _ R S1.toStR fun s2 t2 => ?_
  refine e0a2 (S1.stp t2 :) fun S2 p2 => ?_
  have p12 := p1.trans p2
  cases b with
  | false =>
    exact wpAny_execs_nil (hQ _ _ _ (hb2 rfl) (.next p12 S2))
  | true =>
    refine hb1 rfl A X s2 _ _ R S2 fun out f s3 ko o => ?_
    cases o with
    | next p3 S3 =>
      refine e1a2 (ko :) fun k' hk hI' => ?_
      exact ⟨k', hk, _, _, hI', p12.trans p3, S3⟩
    | ret p3 t3 r3 => exact hQ _ _ _ ko (.ret (p12.trans p3) t3 r3)
end
end
section
open PySem PySem.Calls
noncomputable def Cal (C : Cx) (n : Nat) (f : Value) (ds : List D) (d : D) : Prop :=
  ∀ (A : Around) (X : List Addr) (s : Shared) (vs : List Value) (Q E : Value → Shared → Prop), Room A n → Bs C X s → VRs C s.heap X vs ds →
    (∀ v s', Stp C X s s' → VR C s'.heap X v d → Q v s') → wpAny (model C.prog C.w) A (call f vs) Q E s
noncomputable def FnObj (C : Cx) (f : Addr) : Prop := ∃ o fd, C.G.get? f = some o ∧ o.data = .func fd
section
variable {C : Cx} {n : Nat} {env : Env} {ρ : Rho} {own : Own}
theorem Evs.plain {es : List Expr} {ds : List D} (h : Evs C n env ρ own es ds) (pos : Pos) : (backTo pos (starEach es env)).any (·.1) = false := by
  induction h with
  | nil => rfl
  | cons _ _ he ih => rw [he]; show (false || (backTo pos (starEach _ env)).any (·.1)) = false; rw [ih]; rfl
theorem Evs.tail1 {e : Expr} {es : List Expr} {ds : List D} (h : Evs C n env ρ own (e :: es) ds) : Evs C n env ρ own es ds.tail ∧ starEach (e :: es) env = (false, eval e env) :: starEach es env := by
  cases h with
  | cons _ h2 he => exact ⟨h2, he⟩
theorem Ev_callF {x : Str} {p pos : Pos} {e : Expr} {rest : List Expr} {f : Addr} {ds : List D} {d : D} (hx : At ρ x (.ref f)) (hf : FnObj C f) (hs : Evs C n env ρ own (e :: rest) ds) (hc : Cal C n (.ref f) ds d) : Ev C n env ρ own (.Call (.Name x p) (e :: rest) [] pos) d := by
  intro A X s Q E R S hQ
  refine PyProof.Rows.Call_Name rfl (Ev_name hx A X s _ E R S fun v1 s1 t1 r1 => ?_)
  apply VR.elimR r1
  refine e2a2 (hf :) fun o fd ho hd => ?_
  refine PyProof.Rows.callWith_def hd (hs.sound pos A X s1 _ E R (S.step t1) fun vs s2 t2 r2 => ?_) hs.tail1.2
  have S2 := (S.step t1).step t2
  exact ⟨(S2.base f o ho).2, hc A X s2 vs Q E R S2.toBs r2 fun v s' t r => hQ v s' ((t1.trans t2).trans t) r⟩
theorem Ev_callB {x : Str} {p pos : Pos} {e : Expr} {rest : List Expr} {id : String} {ds : List D} {d : D} (hx : At ρ x (.val (.builtin id))) (hs : Evs C n env ρ own (e :: rest) ds) (hc : Cal C n (.builtin id) ds d) : Ev C n env ρ own (.Call (.Name x p) (e :: rest) [] pos) d := by
  intro A X s Q E R S hQ
  refine PyProof.Rows.Call_Name rfl (Ev_name hx A X s _ E R S fun v1 s1 t1 r1 => ?_)
  apply VR.elimV r1
  refine PyProof.Rows.callWith_builtin1 (hs.sound pos A X s1 _ E R (S.step t1) fun vs s2 t2 r2 => ?_) hs.tail1.2 (hs.tail1.1.plain pos)
  exact hc A X s2 vs Q E R ((S.step t1).step t2).toBs r2 fun v s' t r => hQ v s' ((t1.trans t2).trans t) r
structure Mth (T : String) (name : Str) (id : String) : Prop where
  pa : PlainAttrs T
  slot : Slot T name id
  ty : typeOf (.builtin id) = pure (.type "method_descriptor")
theorem callArgs {A : Around} {X : List Addr} {s : Shared} {Q E : Value → Shared → Prop} {pos : Pos} {id : String} {v0 : Value} {es : List Expr} {ds : List D} (hs : Evs C n env ρ own es ds) (R : Room A n) (S : StR C X env ρ own s)
    (h : ∀ vs s', Stp C X s s' → VRs C s'.heap X vs ds → wpAny (model C.prog C.w) A (call (.builtin id) (v0 :: vs)) Q E s') :
    wpAny (model C.prog C.w) A (callWith pos (.builtin id) [v0] (backTo pos (starEach es env)) []) Q E s := by
  refine callWith_builtin (hs.plain pos) ?_
  cases es with
  | nil =>
    cases hs
    exact PyProof.Rows.evalArgs_nil3 (h [] s (Stp.refl S.tab) .nil)
  | cons e rest =>
    rw [hs.tail1.2]
    have := hs.sound pos A X s (fun vs s' => wpAny (model C.prog C.w) A (call (.builtin id) (v0 :: vs)) Q E s') E R S h
    rw [hs.tail1.2] at this
    exact evalArgs_plain this
theorem Ev_meth {o : Expr} {name : Str} {apos pos : Pos} {es : List Expr} {T id : String} {d0 d : D} {ds : List D} (M : Mth T name id) (ho : Ev C n env ρ own o d0) (hs : Evs C n env ρ own es ds)
    (hT : ∀ (X : List Addr) (s : Shared) (v : Value), VR C s.heap X v d0 → s.TypeIs v T ∧ (∀ a, v ≠ .ref a))
    (hc : ∀ (A : Around) (X : List Addr) (s : Shared) (v0 : Value) (vs : List Value) (Q E : Value → Shared → Prop), Room A n → Bs C X s → VR C s.heap X v0 d0 → VRs C s.heap X vs ds → (∀ v s', Stp C X s s' → VR C s'.heap X v d → Q v s') → wpAny (model C.prog C.w) A (call (.builtin id) (v0 :: vs)) Q E s)
    (hbase : attributeBase o name env (eval o env) = eval o env) (hline : (apos.endLine == pos.line) = true) (hz : es.length ≤ 20 := by decide) :
    Ev C n env ρ own (.Call (.Attribute o name apos) es [] pos) d := by
  intro A X s Q E R S hQ
  have hfew : ((backTo pos (starEach es env)).all (fun x => !x.1) && (backToKw pos (keywordEach [] env)).all (fun x => x.1.isSome)
      && decide (es.length + ([] : List Keyword).length + (if ([] : List Keyword).isEmpty then 0 else 1) < 30)) = true := by
    have := hs.plain pos
    have e1 : (backTo pos (starEach es env)).all (fun x => !x.1) = true := by
      rw [List.all_eq_not_any_not]
      simpa using this
    rw [e1]
    have e2 : decide (es.length + ([] : List Keyword).length + (if ([] : List Keyword).isEmpty then 0 else 1) < 30) = true := decide_eq_true (by simp; lia)
    rw [e2]
    rfl
  refine wpAny_Call_method hbase hfew hline M.pa M.slot M.ty (ho A X s _ E R S fun v0 s1 t1 r1 => ⟨(hT X s1 v0 r1).1, fun a e => absurd e ((hT X s1 v0 r1).2 a), ?_⟩)
  refine callArgs hs R (S.step t1) fun vs s2 t2 r2 => ?_
  exact hc A X s2 v0 vs Q E R ((S.step t1).step t2).toBs (r1.mono (t2.fz S.tx)) r2 fun v s' t r => hQ v s' ((t1.trans t2).trans t) r
theorem Ev_bitlen {o : Expr} {apos pos : Pos} {i : Int} (ho : Ev C n env ρ own o (.int i))
    (hbase : attributeBase o "bit_length" env (eval o env) = eval o env) (hline : (apos.endLine == pos.line) = true) : Ev C n env ρ own (.Call (.Attribute o "bit_length" apos) [] [] pos) (.int (Builtin.Int.intBits i)) :=
  Ev_meth ⟨F.plainAttrs_int, F.slot_int_bit_length, F.type_int_bit_length⟩ ho .nil (fun X s v r => by apply VR.elimI r; intro _; exact ⟨typeIs_int _ _ _, nofun⟩) (fun A X s v0 vs Q E R B r0 rs hQ => by
    apply VR.elimI r0; intro _; apply VRs.elimN rs
    exact call_gives F.slot_int_bit_length (typeIs_int _ _ _) F.entry_int_bit_length (F.args_int_bit_length_1 _) (AutoIntG2.int_bit_length_int_0 _ _) (hQ _ _ (Stp.tok B _) (.int _ _))) hbase hline
theorem cal_len_list {ds : List D} (hz : ds.length < 2 ^ 60) : Cal C n (.builtin "len") [.list ds] (.int ds.length) := by
  intro A X s vs Q E R B r hQ
  apply VRs.elimC r
  intro _ _ r0 rs
  apply VRs.elimN rs
  apply VR.elimL r0
  · intro _ _ hx hl hv
    rename_i a us
    have z := hv.length
    simp only [Array.length_toList] at z
    rw [← z] at hQ
    exact PyProof.Rows.len_list hl (by lia) (hQ _ _ (Stp.tok B _) (.int _ _))
theorem cal_len_str {x : Str} (hz : x.length < 2 ^ 60) : Cal C n (.builtin "len") [.str x] (.int x.length) := by
  intro A X s vs Q E R B r hQ
  apply VRs.elimC r
  intro _ _ r0 rs
  apply VRs.elimN rs
  apply VR.elimS r0; intro _
  exact PyProof.Rows.len_str (by lia) (hQ _ _ (Stp.tok B _) (.int _ _))
theorem cal_divmod {a b : Int} (hb : b ≠ 0) (hp : Builtin.divisionGoesByPylong a b = false) : Cal C n (.builtin "divmod") [.int a, .int b] (.tuple [.int (a.fdiv b), .int (a.fmod b)]) := by
  intro A X s vs Q E R B r hQ
  apply VRs.elimC r
  intro _ _ r0 rs
  apply VRs.elimC rs
  intro _ _ r1 rs
  apply VRs.elimN rs
  apply VR.elimI r0; intro _; apply VR.elimI r1; intro _
  refine PyProof.Rows.divmod_int hb ?_ (.inl hp)
  exact hQ _ _ (Stp.of_keeps B fun _ _ e => Heap.get?_push_of_some _ e) (.tuple B.new ⟨_, Heap.get?_push_size _ rfl, rfl, _, rfl⟩ (.cons (.int _ _) (.cons (.int _ _) .nil)))
theorem cal_min {a b : Int} : Cal C n (.builtin "min") [.int a, .int b] (.int (if b < a then b else a)) := by
  intro A X s vs Q E R B r hQ
  apply VRs.elimC r
  intro _ _ r0 rs
  apply VRs.elimC rs
  intro _ _ r1 rs
  apply VRs.elimN rs
  apply VR.elimI r0; intro _; apply VR.elimI r1; intro _
  refine wpAny_with_toks (Nat.le_refl s.toks) (min_two_ints R.h fun h' tk hk ht => ?_)
  split
  · rename_i hc; rw [if_pos hc] at hQ; exact hQ _ _ (Stp.of_keeps B hk ht) (.int _ _)
  · rename_i hc; rw [if_neg hc] at hQ; exact hQ _ _ (Stp.of_keeps B hk ht) (.int _ _)
end
end
section
open PySem PySem.Calls
structure Itr (C : Cx) (A : Around) (fp wr : List Addr) (I : Addr) (ds : List D) (S : Nat → Heap → List Addr → Prop) : Prop where
  frame : ∀ i h h' Y Y', S i h Y → Fz Y h Y' h' → (∀ b ∈ fp, ∀ o, h.get? b = some o → h'.get? b = some o) → S i h' Y'
  item : ∀ i (s : Shared) (Q : Option Value → Shared → Prop) (E : Value → Shared → Prop) (Y : List Addr) d, ds[i]? = some d → S i s.heap Y → (∀ b ∈ wr, b ∈ Y) →
    (∀ v h' tk, VR C h' Y v d → S (i + 1) h' Y → (∀ b o, b ∉ wr → s.heap.get? b = some o → h'.get? b = some o) → (∀ b ∈ wr, ∃ o, h'.get? b = some o) → s.toks ≤ tk → Q (some v) { s with heap := h', toks := tk }) → wpAny (model C.prog C.w) A (pyNext (.ref I)) Q E s
  done : ∀ (s : Shared) (Q : Option Value → Shared → Prop) (E : Value → Shared → Prop) (Y : List Addr), S ds.length s.heap Y →
    (∀ h' tk, (∀ b o, b ∉ wr → s.heap.get? b = some o → h'.get? b = some o) → s.toks ≤ tk → Q none { s with heap := h', toks := tk }) → wpAny (model C.prog C.w) A (pyNext (.ref I)) Q E s
  self : ∀ i (s : Shared) (Q : Value → Shared → Prop) (E : Value → Shared → Prop) (Y : List Addr), S i s.heap Y → Q (.ref I) s → wpAny (model C.prog C.w) A (pyIter (.ref I)) Q E s
  go : ∀ i (s : Shared) (Q : Unit → Shared → Prop) (E : Value → Shared → Prop) (Y : List Addr) (target : Expr) v, S i s.heap Y → Q () s → wpAny (model C.prog C.w) A (letOwnedTupleGo target (.ref I) v) Q E s
noncomputable def EvI (C : Cx) (n : Nat) (env : Env) (ρ : Rho) (own : Own) (e : Expr) (ds : List D) (frozen : Bool) : Prop :=
  ∀ (A : Around) (X : List Addr) (s : Shared) (Q : Value → Shared → Prop) (E : Value → Shared → Prop), Room A n → StR C X env ρ own s →
    (∀ I s' fp wr S, Stp C X s s' → TabOk C s'.heap (wr ++ X) → (∀ b ∈ wr, b ∉ C.tP ∧ b ∉ X ∧ s.heap.get? b = none ∧ ∃ o, s'.heap.get? b = some o) → (∀ b ∈ fp, b ∈ wr ∨ (b ∉ C.tP ∧ ∃ o, s'.heap.get? b = some o)) → (frozen = true → fp = wr) → (∀ b ∈ wr, b ∈ fp) → Itr C A fp wr I ds S → S 0 s'.heap (wr ++ X) → Q (.ref I) s') →
    wpAny (model C.prog C.w) A (eval e env) (fun x s₁ => wpAny (model C.prog C.w) A (pyIter x) Q E s₁) E s
theorem go_name {M : Model} {A : Around} {E : Value → Shared → Prop} {s : Shared} {Q : Unit → Shared → Prop} {target : Expr} {I : Addr} {v : Value} {T : String} {vs : Array Value} {o : Obj} (ho : s.heap.get? I = some o) (hc : o.cls = .type T) (hd : o.data = .fields vs)
    (hT : (["enumerate", "zip", "dict_itemiterator", "dict_reverseitemiterator", "odict_iterator", "itertools.zip_longest", "itertools.pairwise"].contains T) = false) (h : Q () s) : wpAny M A (letOwnedTupleGo target (.ref I) v) Q E s := by
  have key : ∀ a, wpAny M A (letOwnedTupleGo (.Tuple [] 0 default) (.ref I) (.ref a)) Q E s := fun a => by
    refine wpAny_bind (wpAny_load ho ?_)
    rw [hc, hd]
    show wpAny M A (if (_ && _) = true then _ else _) Q E s
    rw [hT, Bool.false_and, if_neg Bool.false_ne_true]
    exact wpAny_pure h
  cases target with
  | Tuple => cases v with
    | ref a => exact key a
    | _ => exact wpAny_pure h
  | List => cases v with
    | ref a => exact key a
    | _ => exact wpAny_pure h
  | _ => exact wpAny_pure h
theorem Itr.of_walks {C : Cx} {A : Around} {fp fpW wr : List Addr} {I : Addr} {ds : List D} {P : Nat → Value → Prop} {St : Nat → Heap → Prop} (W : Walks C.prog C.w A I fpW wr ds.length P St)
    (Inv : Heap → List Addr → Prop) (hInv : ∀ h h' Y Y', Inv h Y → Fz Y h Y' h' → (∀ b ∈ fp, ∀ o, h.get? b = some o → h'.get? b = some o) → Inv h' Y')
    (hfp : ∀ h Y, Inv h Y → ∀ b ∈ fpW, b ∈ fp ∨ b ∉ Y)
    (hv : ∀ i v d h Y, P i v → ds[i]? = some d → Inv h Y → VR C h Y v d)
    (hw : ∀ b ∈ wr, b = I) (hfw : ∀ h h' Y, Inv h Y → (∀ b ∈ wr, b ∈ Y) → (∀ b o, b ∉ wr → h.get? b = some o → h'.get? b = some o) → Inv h' Y)
    (hex : ∀ i h, St i h → ∃ o vs T, h.get? I = some o ∧ o.cls = .type T ∧ o.data = .fields vs ∧ (["enumerate", "zip", "dict_itemiterator", "dict_reverseitemiterator", "odict_iterator", "itertools.zip_longest", "itertools.pairwise"].contains T) = false) :
    Itr C A fp wr I ds (fun i h Y => St i h ∧ Inv h Y) where
  frame := fun i h h' Y Y' st z k => ⟨W.frame i h h' st.1 fun b hb o e => (hfp h Y st.2 b hb).elim (fun q => k b q o e) fun q => (z b o q e).2, hInv h h' Y Y' st.2 z k⟩
  item := fun i s Q E Y d hd st hY hQ => by
    have hlt : i < ds.length := (List.getElem?_eq_some_iff.mp hd).1
    refine wpAny_with_toks (Nat.le_refl s.toks) (W.item i s _ _ hlt st.1 fun v h' tk hP hS hk ht => ?_)
    have hI := hfw s.heap h' Y st.2 hY hk
    refine hQ v h' tk (hv i v d h' Y hP hd hI) ⟨hS, hI⟩ hk (fun b hb => ?_) ht
    refine e3a2 (hex (i + 1) h' hS :) fun o vs T ho _ => ?_
    rw [hw b hb]
    exact ⟨o, ho⟩
  done := fun s Q E Y st hQ => wpAny_with_toks (Nat.le_refl s.toks) (W.done s _ _ st.1 fun h' tk hk ht => hQ h' tk hk ht)
  self := fun i s Q E Y st hq => W.self i s Q E st.1 hq
  go := fun i s Q E Y target v st hq => by
    refine e3a4 (hex i s.heap st.1 :) fun o vs T ho hc hd hT => ?_
    exact go_name ho hc hd hT hq
theorem Stp.fresh {C : Cx} {X : List Addr} {s s1 : Shared} (t : Stp C X s s1) (B : Bs C X s1) : s.heap.get? s1.heap.objs.size = none := by
  cases q : s.heap.get? s1.heap.objs.size with
  | none => rfl
  | some o =>
    by_cases ht : s1.heap.objs.size ∈ C.tP
    · exact absurd (B.tx _ ht) B.new
    · exact absurd (Heap.lt_size (t.keep _ _ ht q)) (Nat.lt_irrefl _)
theorem fz_new {X : List Addr} {h : Heap} {o : Obj} (hn : h.objs.size ∉ X) : Fz X h (h.objs.size :: X) (h.push o) := fun b ob hx e =>
  ⟨fun q => (List.mem_cons.mp q).elim (fun r => Nat.ne_of_lt (Heap.lt_size e) r) hx, Heap.get?_push_of_some _ e⟩
section
variable {C : Cx} {n : Nat} {env : Env} {ρ : Rho} {own : Own}
structure InvL (C : Cx) (a : Addr) (vs : Array Value) (ds : List D) (lst : Heap → Prop) (h : Heap) (Y : List Addr) : Prop where
  off : a ∉ Y
  lst : lst h
  vr : VRs C h Y vs.toList ds
structure Lst (a : Addr) (lst : Heap → Prop) : Prop where
  keep : ∀ h h', (∀ o, h.get? a = some o → h'.get? a = some o) → lst h → lst h'
  here : ∀ h, lst h → ∃ o, h.get? a = some o
theorem InvL.fz {a : Addr} {vs : Array Value} {ds : List D} {lst : Heap → Prop} (L : Lst a lst) {h h' : Heap} {Y Y' : List Addr} (i : InvL C a vs ds lst h Y) (z : Fz Y h Y' h') : InvL C a vs ds lst h' Y' :=
  e1a1 (L.here h i.lst :) fun o ho =>
  ⟨(z _ _ i.off ho).1, L.keep h h' (fun o e => (z _ _ i.off e).2) i.lst, i.vr.mono z⟩
theorem InvL.wr {a : Addr} {vs : Array Value} {ds : List D} {lst : Heap → Prop} (L : Lst a lst) {h h' : Heap} {Y wr : List Addr} (i : InvL C a vs ds lst h Y) (hY : ∀ b ∈ wr, b ∈ Y) (k : ∀ b o, b ∉ wr → h.get? b = some o → h'.get? b = some o) : InvL C a vs ds lst h' Y :=
  i.fz L fun b o hb e => ⟨hb, k b o (fun q => hb (hY b q)) e⟩
theorem itr_seq {A : Around} {I a : Addr} {vs : Array Value} {ds : List D} {lst : Heap → Prop} {St : Nat → Heap → Prop} (L : Lst a lst) (W : Walks C.prog C.w A I [I, a] [I] ds.length (fun i v => vs[i]? = some v) St)
    (hex : ∀ i h, St i h → ∃ o vs T, h.get? I = some o ∧ o.cls = .type T ∧ o.data = .fields vs ∧ (["enumerate", "zip", "dict_itemiterator", "dict_reverseitemiterator", "odict_iterator", "itertools.zip_longest", "itertools.pairwise"].contains T) = false) :
    Itr C A [I] [I] I ds (fun i h Y => St i h ∧ InvL C a vs ds lst h Y) :=
  .of_walks W (InvL C a vs ds lst) (fun h h' Y Y' i z _ => i.fz L z)
    (fun h Y i b hb => by
      rcases List.mem_cons.mp hb with rfl | hb
      · exact .inl List.mem_cons_self
      · rw [List.mem_singleton.mp hb]; exact .inr i.off)
    (fun i v d h Y hP hd hI => by
      refine e1a2 (hI.vr.get hd :) fun v' e r => ?_
      have e' : vs[i]? = some v' := by simpa using e
      rw [hP] at e'
      cases e'
      exact r)
    (fun b hb => List.mem_singleton.mp hb) (fun h h' Y i hY k => i.wr L hY k) hex
theorem evi_one {A : Around} {X : List Addr} {s s1 : Shared} {Q : Value → Shared → Prop} {ds : List D} {S : Nat → Heap → List Addr → Prop} {o : Obj} {frozen : Bool} (t1 : Stp C X s s1) (B : Bs C X s1)
    (hQ : ∀ I s' fp wr S, Stp C X s s' → TabOk C s'.heap (wr ++ X) → (∀ b ∈ wr, b ∉ C.tP ∧ b ∉ X ∧ s.heap.get? b = none ∧ ∃ o, s'.heap.get? b = some o) → (∀ b ∈ fp, b ∈ wr ∨ (b ∉ C.tP ∧ ∃ o, s'.heap.get? b = some o)) → (frozen = true → fp = wr) → (∀ b ∈ wr, b ∈ fp) → Itr C A fp wr I ds S → S 0 s'.heap (wr ++ X) → Q (.ref I) s')
    (hfr : o.isFreed = false) (it : Itr C A [s1.heap.objs.size] [s1.heap.objs.size] s1.heap.objs.size ds S) (st : S 0 (s1.heap.push o) (s1.heap.objs.size :: X)) : Q (.ref s1.heap.objs.size) { s1 with heap := s1.heap.push o } :=
  hQ _ _ [s1.heap.objs.size] [s1.heap.objs.size] _ (t1.trans (Stp.push B o)) (B.tab.mono (fz_new B.new) fun _ _ _ e => Heap.get?_push_of_some _ e) (fun b hb => by
      rw [List.mem_singleton.mp hb]
      exact ⟨fun q => B.new (B.tx _ q), B.new, t1.fresh B, _, Heap.get?_push_size _ hfr⟩) (fun b hb => .inl hb) (fun _ => rfl) (fun b hb => hb) it st
theorem EvI_list {e : Expr} {ds : List D} (he : Ev C n env ρ own e (.list ds)) : EvI C n env ρ own e ds true := by
  intro A X s Q E R S hQ
  refine he A X s _ E R S fun v s1 t1 r1 => ?_
  apply VR.elimL r1
  · intro _ _ hx hl hv
    rename_i a vs
    have S1 := S.step t1
    have hlen := hv.length
    simp only [Array.length_toList] at hlen
    refine wpAny_pyIter_list hl ?_
    have ha : a < s1.heap.objs.size := e1a2 (hl :) fun o ho _ => Heap.lt_size ho
    have W := Walks.list (prog := C.prog) (w := C.w) R.h s1.heap.objs.size a (Nat.ne_of_lt ha) vs
    rw [hlen] at W
    have L : Lst a (fun h => h.IsList a vs) := ⟨fun h h' k x => x.at k, fun h x => isList_lt x⟩
    refine evi_one t1 S1.toBs hQ rfl (itr_seq L W fun i h st => ?_) ⟨⟨⟨_, Heap.get?_push_size _ rfl, rfl, rfl⟩, hl.push _⟩, fun q => ?_, hl.push _, hv.mono (fz_new S1.new)⟩
    · refine e0a2 (st :) fun w0q _ => ?_; refine e1a3 (w0q :) fun o ho hc hd => ?_
      exact ⟨o, _, _, ho, hc, hd, by decide⟩
    · rcases List.mem_cons.mp q with q | q
      · exact Nat.ne_of_lt ha q
      · exact hx q
theorem EvI_tuple {e : Expr} {ds : List D} (he : Ev C n env ρ own e (.tuple ds)) : EvI C n env ρ own e ds true := by
  intro A X s Q E R S hQ
  refine he A X s _ E R S fun v s1 t1 r1 => ?_
  apply VR.elimT r1
  · intro _ _ hx hl hv
    rename_i a vs
    have S1 := S.step t1
    have hlen := hv.length
    simp only [Array.length_toList] at hlen
    refine wpAny_pyIter_tuple hl ?_
    have ha : a < s1.heap.objs.size := e1a2 (hl :) fun o ho _ => Heap.lt_size ho
    have W := Walks.tuple (prog := C.prog) (w := C.w) R.h s1.heap.objs.size a (Nat.ne_of_lt ha) vs
    rw [hlen] at W
    have L : Lst a (fun h => h.IsTuple a vs) := ⟨fun h h' k x => isTuple_at x k, fun h x => e1a2 (x :) fun o ho _ => ⟨o, ho⟩⟩
    refine evi_one t1 S1.toBs hQ rfl (itr_seq L W fun i h st => ?_) ⟨⟨⟨_, Heap.get?_push_size _ rfl, rfl, rfl⟩, hl.push _⟩, fun q => ?_, hl.push _, hv.mono (fz_new S1.new)⟩
    · refine e0a2 (st :) fun w0q _ => ?_; refine e1a3 (w0q :) fun o ho hc hd => ?_
      exact ⟨o, _, _, ho, hc, hd, by decide⟩
    · rcases List.mem_cons.mp q with q | q
      · exact Nat.ne_of_lt ha q
      · exact hx q
noncomputable def signsD (x : Str) : List D := x.cps.toList.map fun c => D.str ⟨#[c]⟩
theorem itr_plain {A : Around} {I : Addr} {ds : List D} {P : Nat → Value → Prop} {St : Nat → Heap → Prop} (W : Walks C.prog C.w A I [I] [I] ds.length P St)
    (hv : ∀ i v d h Y, P i v → ds[i]? = some d → VR C h Y v d)
    (hex : ∀ i h, St i h → ∃ o vs T, h.get? I = some o ∧ o.cls = .type T ∧ o.data = .fields vs ∧ (["enumerate", "zip", "dict_itemiterator", "dict_reverseitemiterator", "odict_iterator", "itertools.zip_longest", "itertools.pairwise"].contains T) = false) :
    Itr C A [I] [I] I ds (fun i h Y => St i h ∧ True) :=
  .of_walks W (fun _ _ => True) (fun _ _ _ _ _ _ _ => trivial) (fun _ _ _ b hb => .inl hb) (fun i v d h Y hP hd _ => hv i v d h Y hP hd) (fun b hb => List.mem_singleton.mp hb) (fun _ _ _ _ _ _ => trivial) hex
theorem sign_vr {x : Str} : ∀ i v d h (Y : List Addr), SignAt x i v → (signsD x)[i]? = some d → VR C h Y v d := by
  rintro i v d h Y ⟨c, u, e, rfl⟩ hd
  unfold signsD at hd
  rw [List.getElem?_map] at hd
  have e' : x.cps.toList[i]? = some c := by simpa using e
  rw [e'] at hd
  cases hd
  exact .str _ _
theorem EvI_str {e : Expr} {x : Str} (he : Ev C n env ρ own e (.str x)) : EvI C n env ρ own e (signsD x) true := by
  intro A X s Q E R S hQ
  refine he A X s _ E R S fun v s1 t1 r1 => ?_
  apply VR.elimS r1
  · intro t
    have S1 := S.step t1
    have hlen : (signsD x).length = x.cps.size := by simp [signsD]
    cases ha : x.cps.all (· < 128) with
    | true =>
      refine wpAny_pyIter_ascii ha ?_
      have W := Walks.strAscii (prog := C.prog) (w := C.w) R.h s1.heap.objs.size x t
      rw [← hlen] at W
      exact evi_one t1 S1.toBs hQ rfl (itr_plain W sign_vr fun i h st => e1a3 (st :) fun o ho hc hd => ⟨o, _, _, ho, hc, hd, by decide⟩) ⟨⟨_, Heap.get?_push_size _ rfl, rfl, rfl⟩, trivial⟩
    | false =>
      refine wpAny_pyIter_wide ha ?_
      have W := Walks.strWide (prog := C.prog) (w := C.w) R.h s1.heap.objs.size x t
      rw [← hlen] at W
      exact evi_one t1 S1.toBs hQ rfl (itr_plain W sign_vr fun i h st => e1a3 (st :) fun o ho hc hd => ⟨o, _, _, ho, hc, hd, by decide⟩) ⟨⟨_, Heap.get?_push_size _ rfl, rfl, rfl⟩, trivial⟩
noncomputable def rngD (k : Int) : List D := (List.range k.toNat).map fun i : Nat => D.int (i : Int)
theorem EvI_range {x : Str} {p pos : Pos} {e : Expr} {k : Int} (hx : At ρ x (.val (.type "range"))) (he : Ev C n env ρ own e (.int k)) (hst : starEach [e] env = (false, eval e env) :: starEach [] env) (h0 : 0 ≤ k) (hk : k ≤ 1000000) : EvI C n env ρ own (.Call (.Name x p) [e] [] pos) (rngD k) true := by
  intro A X s Q E R S hQ
  have hs : Evs C n env ρ own [e] [.int k] := .cons he .nil hst
  refine PyProof.Rows.Call_Name rfl (Ev_name hx A X s _ E R S fun v1 s1 t1 r1 => ?_)
  apply VR.elimV r1
  refine PyProof.Rows.callWith_type1 (hs.sound pos A X s1 _ E R (S.step t1) fun vs s2 t2 r2 => ?_) hs.tail1.2 (hs.tail1.1.plain pos)
  apply VRs.elimC r2
  intro _ _ r0 rs
  apply VRs.elimN rs
  apply VR.elimI r0
  intro t
  have S2 := (S.step t1).step t2
  refine call_range_1 ?_
  have B2 := S2.toBs
  have tp : Stp C X s2 { s2 with heap := s2.heap.push { cls := .type "range", data := .fields #[.int 0 s2.toks, .int k t, .int 1 (s2.toks + 1)] }, toks := s2.toks + 1 + 1 } := Stp.of_keeps B2 fun _ _ e => Heap.get?_push_of_some _ e
  have B3 := B2.step tp
  refine wpAny_pyIter_range (IsRange.new ..) (small_one (by decide) (by decide) (by lia) (by lia)) ?_
  have hlen : (rngD k).length = k.toNat := by simp [rngD]
  have W := Walks.range (prog := C.prog) (w := C.w) R.h (s2.heap.push { cls := .type "range", data := .fields #[.int 0 s2.toks, .int k t, .int 1 (s2.toks + 1)] }).objs.size 0 1 k.toNat
  rw [← hlen] at W
  refine evi_one (s1 := { s2 with heap := s2.heap.push { cls := .type "range", data := .fields #[.int 0 s2.toks, .int k t, .int 1 (s2.toks + 1)] }, toks := s2.toks + 1 + 1 }) ((t1.trans t2).trans tp) B3 hQ rfl (itr_plain W (fun i v d h Y hP hd => ?_) fun i h st => ⟨_, _, _, st, rfl, rfl, by decide⟩) ⟨?_, trivial⟩
  · refine e1a1 (hP :) fun t' r1q => ?_; subst r1q
    unfold rngD at hd
    rw [List.getElem?_map] at hd
    cases q : (List.range k.toNat)[i]? with
    | none => rw [q] at hd; cases hd
    | some j =>
      rw [q] at hd
      have hj : j = i := by
        have := List.getElem?_eq_some_iff.mp q
        refine e1a1 (this :) fun h1 h2 => ?_
        simpa using h2.symm
      cases hd
      subst hj
      have : (0 : Int) + (j : Int) * 1 = (j : Int) := by lia
      rw [this]
      exact .int _ _
  · have e1 : Builtin.Range.rangeSize 0 k 1 = (((rngD k).length : Nat) : Int) - ((0 : Nat) : Int) := by
      rw [rangeSize_one, hlen]
      split <;> lia
    show IsRangeIter _ _ ((0 : Int) + ((0 : Nat) : Int) * 1) (((rngD k).length : Nat) - ((0 : Nat) : Int)) 1
    rw [← e1]
    exact Heap.get?_push_size _ rfl
theorem EvI_rev {x : Str} {p pos : Pos} {e : Expr} {ds : List D} (hx : At ρ x (.val (.type "reversed"))) (he : Ev C n env ρ own e (.list ds)) (hst : starEach [e] env = (false, eval e env) :: starEach [] env) : EvI C n env ρ own (.Call (.Name x p) [e] [] pos) ds.reverse true := by
  intro A X s Q E R S hQ
  have hs : Evs C n env ρ own [e] [.list ds] := .cons he .nil hst
  refine PyProof.Rows.Call_Name rfl (Ev_name hx A X s _ E R S fun v1 s1 t1 r1 => ?_)
  apply VR.elimV r1
  refine PyProof.Rows.callWith_type1 (hs.sound pos A X s1 _ E R (S.step t1) fun vs s2 t2 r2 => ?_) hs.tail1.2 (hs.tail1.1.plain pos)
  apply VRs.elimC r2
  intro _ _ r0 rs
  apply VRs.elimN rs
  apply VR.elimL r0
  intro _ _ hx hl hv
  rename_i a vs
  have S2 := (S.step t1).step t2
  have hlen := hv.length
  simp only [Array.length_toList] at hlen
  refine call_reversed_list hl ?_
  have ha : a < s2.heap.objs.size := e1a2 (hl :) fun o ho _ => Heap.lt_size ho
  refine wpAny_pyIter_revIter (i := (vs.size : Int) - 1) ⟨_, Heap.get?_push_size _ rfl, rfl, rfl⟩ ?_
  have W := Walks.listRev (prog := C.prog) (w := C.w) R.h s2.heap.objs.size a (Nat.ne_of_lt ha) vs
  have hl2 : vs.size = ds.reverse.length := by simp [hlen]
  have L : Lst a (fun h => h.IsList a vs) := ⟨fun h h' k x => x.at k, fun h x => isList_lt x⟩
  have itr : Itr C A [s2.heap.objs.size] [s2.heap.objs.size] s2.heap.objs.size ds.reverse (fun i h Y => (i ≤ vs.size ∧ h.IsRevIter s2.heap.objs.size a ((vs.size : Int) - 1 - (i : Int)) ∧ h.IsList a vs) ∧ InvL C a vs ds (fun h => h.IsList a vs) h Y) := by
    have W' : Walks C.prog C.w A s2.heap.objs.size [s2.heap.objs.size, a] [s2.heap.objs.size] ds.reverse.length (fun i v => vs[vs.size - 1 - i]? = some v) (fun i h => i ≤ vs.size ∧ h.IsRevIter s2.heap.objs.size a ((vs.size : Int) - 1 - (i : Int)) ∧ h.IsList a vs) := by
      rw [← hl2]; exact W
    refine .of_walks W' (InvL C a vs ds (fun h => h.IsList a vs)) (fun h h' Y Y' i z _ => i.fz L z) (fun h Y i b hb => ?_) (fun i v d h Y hP hd hI => ?_) (fun b hb => List.mem_singleton.mp hb) (fun h h' Y i hY k => i.wr L hY k) (fun i h st => ?_)
    · rcases List.mem_cons.mp hb with rfl | hb
      · exact .inl List.mem_cons_self
      · rw [List.mem_singleton.mp hb]; exact .inr i.off
    · have hi : i < ds.length := by
        have := (List.getElem?_eq_some_iff.mp hd).1
        simpa using this
      rw [List.getElem?_reverse hi] at hd
      refine e1a2 (hI.vr.get hd :) fun v' e r => ?_
      have e' : vs[vs.size - 1 - i]? = some v' := by rw [hlen]; simpa using e
      rw [hP] at e'
      cases e'
      exact r
    · refine e0a3 (st :) fun _ w1q _ => ?_; refine e1a3 (w1q :) fun o ho hc hd => ?_
      exact ⟨o, _, _, ho, hc, hd, by decide⟩
  refine evi_one (t1.trans t2) S2.toBs hQ rfl itr ⟨⟨Nat.zero_le _, ⟨_, Heap.get?_push_size _ rfl, rfl, by simp; rfl⟩, hl.push _⟩, fun q => ?_, hl.push _, hv.mono (fz_new S2.new)⟩
  rcases List.mem_cons.mp q with q | q
  · exact Nat.ne_of_lt ha q
  · exact hx q
theorem EvI_own {e : Expr} {a : Addr} {ds : List D} (he : Ev C n env ρ own e (.ref a)) (ha : OAt own a ds) : EvI C n env ρ own e ds false := by
  intro A X s Q E R S hQ
  refine he A X s _ E R S fun v s1 t1 r1 => ?_
  apply VR.elimR r1
  have S1 := S.step t1
  refine e0a2 (S1.owned _ ha.mem :) fun hat w1q => e1a2 w1q fun vs hp hv => ?_
  have hl := hp.isList
  have hlen := hv.length
  simp only [Array.length_toList] at hlen
  refine wpAny_pyIter_list hl ?_
  have hlt : a < s1.heap.objs.size := e1a2 (hl :) fun o ho _ => Heap.lt_size ho
  have W := Walks.list (prog := C.prog) (w := C.w) R.h s1.heap.objs.size a (Nat.ne_of_lt hlt) vs
  rw [hlen] at W
  have itr : Itr C A [s1.heap.objs.size, a] [s1.heap.objs.size] s1.heap.objs.size ds (fun i h Y => (h.IsListIter s1.heap.objs.size a i ∧ h.IsList a vs) ∧ VRs C h Y vs.toList ds) := by
    refine .of_walks W (fun h Y => VRs C h Y vs.toList ds) (fun h h' Y Y' i z _ => i.mono z) (fun h Y i b hb => .inl hb) (fun i v d h Y hP hd hI => ?_) (fun b hb => List.mem_singleton.mp hb)
      (fun h h' Y i hY k => i.mono fun b o hb e => ⟨hb, k b o (fun q => hb (hY b q)) e⟩) (fun i h st => ?_)
    · refine e1a2 (hI.get hd :) fun v' e r => ?_
      have e' : vs[i]? = some v' := by simpa using e
      rw [hP] at e'
      cases e'
      exact r
    · refine e0a2 (st :) fun w0q _ => ?_; refine e1a3 (w0q :) fun o ho hc hd => ?_
      exact ⟨o, _, _, ho, hc, hd, by decide⟩
  have tp := Stp.push S1.toBs { cls := .type "list_iterator", data := .fields #[.ref a, .int 0 0] }
  refine hQ _ _ _ _ _ (t1.trans tp) (S1.tab.mono (fz_new S1.new) fun _ _ _ e => Heap.get?_push_of_some _ e) (fun b hb => ?_) (fun b hb => ?_) (fun h => nomatch h) (fun b hb => ?_) itr ⟨⟨⟨_, Heap.get?_push_size _ rfl, rfl, rfl⟩, hl.push _⟩, hv.mono (fz_new S1.new)⟩
  · rw [List.mem_singleton.mp hb]
    exact ⟨fun q => S1.new (S1.tx _ q), S1.new, t1.fresh S1.toBs, _, Heap.get?_push_size _ rfl⟩
  · rcases List.mem_cons.mp hb with rfl | hb
    · exact .inl List.mem_cons_self
    · rw [List.mem_singleton.mp hb]
      refine e1a2 (hl :) fun o ho _ => ?_
      exact .inr ⟨hat, o, Heap.get?_push_of_some _ ho⟩
  · rw [List.mem_singleton.mp hb]; exact List.mem_cons_self
end
end
section
open PySem PySem.Calls
structure Sto (C : Cx) (env : Env) (Y : List Addr) (P : Rho → Shared → Prop) : Prop where
  keeps : ∀ ρ (s : Shared) h tk, P ρ s → (∀ b o, s.heap.get? b = some o → h.get? b = some o) → s.toks ≤ tk → P ρ { s with heap := h, toks := tk }
  store : ∀ (A : Around) ρ ρ' (s : Shared) x v d (Q : Unit → Shared → Prop) (E : Value → Shared → Prop), P ρ s → VR C s.heap Y v d → Up ρ x d ρ' → (∀ s', P ρ' s' → Fz Y s.heap Y s'.heap → Q () s') → wpAny (model C.prog C.w) A (storeName env x v) Q E s
inductive AsgN : List Expr → List D → Rho → Rho → Prop
  | nil {ρ} : AsgN [] [] ρ ρ
  | cons {x p es d ds ρ ρ1 ρ2} : Up ρ x d ρ1 → AsgN es ds ρ1 ρ2 → AsgN (.Name x p :: es) (d :: ds) ρ ρ2
inductive Asg : Expr → D → Rho → Rho → Prop
  | name {x p d ρ ρ'} : Up ρ x d ρ' → Asg (.Name x p) d ρ ρ'
  | tuple {es k p ds ρ ρ'} : AsgN es ds ρ ρ' → Asg (.Tuple es k p) (.tuple ds) ρ ρ'
theorem AsgN.length {es ds ρ ρ'} (h : AsgN es ds ρ ρ') (env : Env) : (assignEach es env).length = ds.length ∧ (assignEach es env).findIdx? (·.1) = none := by
  induction h with
  | nil => exact ⟨rfl, rfl⟩
  | cons _ _ ih =>
    refine e0a2 (ih :) fun a b => ?_
    refine ⟨?_, ?_⟩
    · show (assignEach _ env).length + 1 = _
      rw [a]; rfl
    · show List.findIdx? _ ((false, _) :: assignEach _ env) = none
      rw [List.findIdx?_cons]
      simp [b]
section
variable {C : Cx} {env : Env} {Y : List Addr} {P : Rho → Shared → Prop}
theorem AsgN.sound (Z : Sto C env Y P) {es ds ρ ρ'} (h : AsgN es ds ρ ρ') : ∀ (A : Around) (s : Shared) (vs : List Value) (Q : Unit → Shared → Prop) (E : Value → Shared → Prop), P ρ s → VRs C s.heap Y vs ds → (∀ s', P ρ' s' → Fz Y s.heap Y s'.heap → Q () s') →
    wpAny (model C.prog C.w) A (assignInOrder ((assignEach es env).map (·.2)) vs) Q E s := by
  induction h with
  | nil =>
    intro A s vs Q E p r hQ
    apply VRs.elimN r
    exact wpAny_pure (hQ s p Fz.refl)
  | cons hu _ ih =>
    intro A s vs Q E p r hQ
    apply VRs.elimC r
    intro _ _ r0 rs
    refine wpAny_bind (wpAny_holding (PyProof.Rows.assign_Name (Z.store A _ _ s _ _ _ _ _ p r0 hu fun s1 p1 z1 => ?_)))
    exact ih A s1 _ Q E p1 (rs.mono z1) fun s' p' z' => hQ s' p' (z1.trans z')
theorem Asg.sound (Z : Sto C env Y P) {t d ρ ρ'} (h : Asg t d ρ ρ') (A : Around) (s : Shared) (v : Value) (Q : Unit → Shared → Prop) (E : Value → Shared → Prop) (hh : A.handled = none) (p : P ρ s) (r : VR C s.heap Y v d) (hQ : ∀ s', P ρ' s' → Fz Y s.heap Y s'.heap → Q () s') :
    wpAny (model C.prog C.w) A (assign t env v) Q E s := by
  cases h with
  | name hu => exact PyProof.Rows.assign_Name (Z.store A _ _ s _ _ _ _ _ p r hu hQ)
  | tuple hn =>
    apply VR.elimT r
    · intro _ _ hx hl hv
      refine e0a2 (hn.length env :) fun l1 l2 => ?_
      have hz := hv.length
      simp only [Array.length_toList] at hz
      refine wpAny_assign_Tuple hh hl (by rw [l1, hz]) l2 fun h' he => ?_
      have kp : ∀ b o, s.heap.get? b = some o → h'.get? b = some o := fun b o e => he b o (Nat.ne_of_lt (Heap.lt_size e)) e
      have p' := Z.keeps _ s h' s.toks p kp (Nat.le_refl _)
      refine hn.sound Z A _ _ Q E p' (hv.mono fun b o hb e => ⟨hb, kp b o e⟩) fun s' p2 z2 => hQ s' p2 (Fz.trans (fun b o hb e => ⟨hb, kp b o e⟩) z2)
end
theorem St.sto {C : Cx} {X : List Addr} {env : Env} {own o0 : Own} (s0 : Shared) : Sto C env (Wx env own ++ X) (fun ρ s => St C X env ρ own s ∧ Pst C X env o0 own s0 s) where
  keeps := fun ρ s h tk w1q k ht => e0a2 (w1q :) fun S p => by
    refine e0a2 (S.stp (Stp.of_keeps S.toBs k ht) :) fun S' p' => ?_
    exact ⟨S', p.trans p'⟩
  store := fun A ρ ρ' s x v d Q E w2q r hu hQ => e0a2 (w2q :) fun S p => S.store r hu fun s' p' S' => hQ s' ⟨S', p.trans p'⟩ p'.fz
theorem mem_ins {b : Addr} {W wr X : List Addr} : b ∈ W ++ (wr ++ X) ↔ b ∈ wr ∨ b ∈ W ++ X := by
  simp only [List.mem_append]
  constructor
  · rintro (h | h | h)
    · exact .inr (.inl h)
    · exact .inl h
    · exact .inr (.inr h)
  · rintro (h | h | h)
    · exact .inr (.inl h)
    · exact .inl h
    · exact .inr (.inr h)
structure Fresh (C : Cx) (Y : List Addr) (s s' : Shared) (wr Y' : List Addr) : Prop where
  ok : ∀ b ∈ wr, b ∉ C.tP ∧ s.heap.get? b = none ∧ ∃ o, s'.heap.get? b = some o
  hY : ∀ b, b ∈ Y' ↔ b ∈ wr ∨ b ∈ Y
  tab : TabOk C s'.heap Y'
theorem Fresh.fz {C : Cx} {Y : List Addr} {s s' : Shared} {wr Y' : List Addr} (F : Fresh C Y s s' wr Y') (k : Fz Y s.heap Y s'.heap) : Fz Y s.heap Y' s'.heap := fun b o hb e => by
  refine ⟨fun q => ((F.hY b).mp q).elim (fun r => ?_) hb, (k b o hb e).2⟩
  rw [(F.ok b r).2.1] at e; cases e
theorem StR.hide {C : Cx} {Y : List Addr} {env : Env} {ρ : Rho} {own : Own} {s s' : Shared} {wr Y' : List Addr} (S : StR C Y env ρ own s) (t : Stp C Y s s') (F : Fresh C Y s s' wr Y') : StR C Y' env ρ own s' := by
  have z := F.fz (t.fz S.tx)
  have S' := S.step t
  refine ⟨⟨fun b o e => e0a2 (S.base b o e :) fun p q => z b o p q, F.tab, fun P hP => (F.hY P).mpr (.inr (S.tx P hP)), fun b hb => ((F.hY b).mp hb).elim (fun r => (F.ok b r).2.2) fun r => S'.bd b r, S'.tk⟩, S.kf, S.gl, S.bl, S.lt, ?_, ?_⟩
  · refine e1a2 (S.vars :) fun m hn hv => ?_
    exact ⟨m, hn.at' fun o e => t.keep _ _ S.lt e, fun p hp => (hv p hp).mono z (fun c _ hc o e => t.keep c o hc e) rfl⟩
  · intro p hp
    refine e0a2 (S.owned p hp :) fun ht w4q => e1a2 w4q fun vs a b => ?_
    exact ⟨ht, vs, a.at fun o e => t.keep _ _ ht e, b.mono z⟩
theorem TabOk.less {C : Cx} {h : Heap} {Y Y' : List Addr} (T : TabOk C h Y) (hs : ∀ b ∈ Y', b ∈ Y) : TabOk C h Y' := T.mono (fun b o hb e => ⟨fun q => hb (hs b q), e⟩) fun _ _ _ e => e
theorem fz_less {h : Heap} {Y Y' : List Addr} (hs : ∀ b ∈ Y', b ∈ Y) : Fz Y h Y' h := fun b o hb e => ⟨fun q => hb (hs b q), e⟩
theorem StR.unhide {C : Cx} {Y Y' : List Addr} {env : Env} {ρ : Rho} {own : Own} {s : Shared} (S : StR C Y env ρ own s) (hs : ∀ b ∈ Y', b ∈ Y) (ht : ∀ P ∈ C.tP, P ∈ Y') : StR C Y' env ρ own s := by
  have z := fz_less (h := s.heap) hs
  refine ⟨⟨fun b o e => e0a2 (S.base b o e :) fun p q => z b o p q, S.tab.less hs, ht, fun b hb => S.bd b (hs b hb), S.tk⟩, S.kf, S.gl, S.bl, S.lt, ?_, ?_⟩
  · refine e1a2 (S.vars :) fun m hn hv => ?_
    exact ⟨m, hn, fun p hp => (hv p hp).mono z (fun c _ hc o e => e) rfl⟩
  · intro p hp
    refine e0a2 (S.owned p hp :) fun ht w5q => e1a2 w5q fun vs a b => ?_
    exact ⟨ht, vs, a, b.mono z⟩
theorem StR.wrote {C : Cx} {Y : List Addr} {env : Env} {ρ : Rho} {own : Own} {s : Shared} {wr : List Addr} {h' : Heap} {tk : Nat} (S : StR C Y env ρ own s) (hw : ∀ b ∈ wr, b ∈ Y ∧ b ∉ C.tP ∧ ∃ o, h'.get? b = some o) (k : ∀ b o, b ∉ wr → s.heap.get? b = some o → h'.get? b = some o) (ht : s.toks ≤ tk)
    (hL : env.locals ∉ wr) (hc : ∀ p ∈ ρ, ∀ c, env.cells.lookup p.1 = some c → c ∉ wr) (ho : ∀ p ∈ own, p.1 ∉ wr) : StR C Y env ρ own { s with heap := h', toks := tk } := by
  have z : Fz Y s.heap Y h' := fun b o hb e => ⟨hb, k b o (fun q => hb (hw b q).1) e⟩
  refine ⟨⟨fun b o e => e0a2 (S.base b o e :) fun p q => z b o p q, S.tab.mono z fun P hP o e => k P o (fun q => (hw P q).2.1 hP) e, S.tx, fun b hb => ?_, Nat.le_trans S.tk ht⟩, S.kf, S.gl, S.bl, S.lt, ?_, ?_⟩
  · by_cases q : b ∈ wr
    · exact (hw b q).2.2
    · refine e1a1 (S.bd b hb :) fun o e => ?_
      exact ⟨o, k b o q e⟩
  · refine e1a2 (S.vars :) fun m hn hv => ?_
    exact ⟨m, hn.at' fun o e => k _ _ hL e, fun p hp => (hv p hp).mono z (fun c hcc _ o e => k c o (hc p hp c hcc) e) rfl⟩
  · intro p hp
    refine e0a2 (S.owned p hp :) fun ht w6q => e1a2 w6q fun vs a b => ?_
    exact ⟨ht, vs, a.at fun o e => k _ _ (ho p hp) e, b.mono z⟩
theorem St.hide {C : Cx} {X : List Addr} {env : Env} {ρ : Rho} {own : Own} {s s' : Shared} {wr : List Addr} (S : St C X env ρ own s) (t : Stp C (Wx env own ++ X) s s') (F : Fresh C (Wx env own ++ X) s s' wr (Wx env own ++ (wr ++ X))) : St C (wr ++ X) env ρ own s' := by
  refine ⟨S.toStR.hide t F, S.nd, fun a ha q => ?_, fun P hP => List.mem_append_right _ (S.txx P hP), S.nr⟩
  rcases List.mem_append.mp q with q | q
  · refine e1a1 (S.bd a (List.mem_append_left _ ha) :) fun o e => ?_
    rw [(F.ok a q).2.1] at e; cases e
  · exact S.off a ha q
theorem St.unhide {C : Cx} {X wr : List Addr} {env : Env} {ρ : Rho} {own : Own} {s : Shared} (S : St C (wr ++ X) env ρ own s) (htx : ∀ P ∈ C.tP, P ∈ X) : St C X env ρ own s :=
  ⟨S.toStR.unhide (fun b hb => mem_ins.mpr (.inr hb)) (fun P hP => List.mem_append_right _ (htx P hP)), S.nd, fun a ha q => S.off a ha (List.mem_append_right _ q), htx, S.nr⟩
theorem St.wrote {C : Cx} {X wr : List Addr} {env : Env} {ρ : Rho} {own : Own} {s : Shared} {h' : Heap} {tk : Nat} (S : St C (wr ++ X) env ρ own s) (hw : ∀ b ∈ wr, b ∉ C.tP ∧ ∃ o, h'.get? b = some o) (k : ∀ b o, b ∉ wr → s.heap.get? b = some o → h'.get? b = some o) (ht : s.toks ≤ tk) :
    St C (wr ++ X) env ρ own { s with heap := h', toks := tk } := by
  have off : ∀ a ∈ Wx env own, a ∉ wr := fun a ha q => S.off a ha (List.mem_append_left _ q)
  exact ⟨S.toStR.wrote (fun b hb => ⟨mem_ins.mpr (.inl hb), hw b hb⟩) k ht (off _ List.mem_cons_self)
    (fun _ _ c hc => off c (List.mem_cons_of_mem _ (List.mem_append_left _ (List.mem_map_of_mem (f := fun p : Str × Addr => p.2) (mem_of_lookup hc)))))
    (fun p hp => off p.1 (List.mem_cons_of_mem _ (List.mem_append_right _ (List.mem_map_of_mem (f := fun p : Addr × List D => p.1) hp)))), S.nd, S.off, S.txx, S.nr⟩
theorem StR.dropped {C : Cx} {Y Y' : List Addr} {env : Env} {ρ : Rho} {own : Own} {s : Shared} {wr : List Addr} {h' : Heap} {tk : Nat} (S : StR C Y' env ρ own s) (hY : ∀ b ∈ Y, b ∈ Y' ∧ b ∉ wr) (hwr : ∀ b ∈ wr, b ∈ Y') (htx : ∀ P ∈ C.tP, P ∈ Y) (k : ∀ b o, b ∉ wr → s.heap.get? b = some o → h'.get? b = some o) (ht : s.toks ≤ tk)
    (hL : env.locals ∉ wr) (hc : ∀ p ∈ ρ, ∀ c, env.cells.lookup p.1 = some c → c ∉ wr) (ho : ∀ p ∈ own, p.1 ∉ wr) : StR C Y env ρ own { s with heap := h', toks := tk } := by
  have z : Fz Y' s.heap Y h' := fun b o hb e => ⟨fun q => hb (hY b q).1, k b o (fun q => hb (hwr b q)) e⟩
  refine ⟨⟨fun b o e => e0a2 (S.base b o e :) fun p q => z b o p q, S.tab.mono z fun P hP o e => k P o (hY P (htx P hP)).2 e, htx, fun b hb => ?_, Nat.le_trans S.tk ht⟩, S.kf, S.gl, S.bl, S.lt, ?_, ?_⟩
  · refine e1a1 (S.bd b (hY b hb).1 :) fun o e => ?_
    exact ⟨o, k b o (hY b hb).2 e⟩
  · refine e1a2 (S.vars :) fun m hn hv => ?_
    exact ⟨m, hn.at' fun o e => k _ _ hL e, fun p hp => (hv p hp).mono z (fun c hcc _ o e => k c o (hc p hp c hcc) e) rfl⟩
  · intro p hp
    refine e0a2 (S.owned p hp :) fun ht w7q => e1a2 w7q fun vs a b => ?_
    exact ⟨ht, vs, a.at fun o e => k _ _ (ho p hp) e, b.mono z⟩
theorem St.dropped {C : Cx} {X wr : List Addr} {env : Env} {ρ : Rho} {own : Own} {s : Shared} {h' : Heap} {tk : Nat} (S : St C (wr ++ X) env ρ own s) (htx : ∀ P ∈ C.tP, P ∈ X) (hX : ∀ b ∈ X, b ∉ wr) (k : ∀ b o, b ∉ wr → s.heap.get? b = some o → h'.get? b = some o) (ht : s.toks ≤ tk) :
    St C X env ρ own { s with heap := h', toks := tk } := by
  have off : ∀ a ∈ Wx env own, a ∉ wr := fun a ha q => S.off a ha (List.mem_append_left _ q)
  exact ⟨S.toStR.dropped (fun b hb => ⟨mem_ins.mpr (.inr hb), (List.mem_append.mp hb).elim (off b) (hX b)⟩) (fun b hb => mem_ins.mpr (.inl hb)) (fun P hP => List.mem_append_right _ (htx P hP)) k ht (off _ List.mem_cons_self)
    (fun _ _ c hc => off c (List.mem_cons_of_mem _ (List.mem_append_left _ (List.mem_map_of_mem (f := fun p : Str × Addr => p.2) (mem_of_lookup hc)))))
    (fun p hp => off p.1 (List.mem_cons_of_mem _ (List.mem_append_right _ (List.mem_map_of_mem (f := fun p : Addr × List D => p.1) hp)))), S.nd, fun a ha q => S.off a ha (List.mem_append_right _ q), htx, S.nr⟩
theorem OutR.less {C : Cx} {X wr : List Addr} {env : Env} {o0 own : Own} {s0 s s' : Shared} {out : Out} {f : Flow} (htx : ∀ P ∈ C.tP, P ∈ X) (p0 : Pst C X env o0 own s0 s) (hwr : ∀ b ∈ wr, s0.heap.get? b = none) (h : OutR C (wr ++ X) env own s out f s') : OutR C X env o0 s0 out f s' := by
  have pp : ∀ {own' s'}, Pst C (wr ++ X) env own own' s s' → Pst C X env o0 own' s0 s' := by
    intro own' s' p
    refine ⟨?_, fun b o hb e => ?_, fun b hb ht o e => p.hid b (hb.imp (List.mem_append_right _) id) ht o (p0.hid b hb ht o e)⟩
    · refine e2a2 (p0.same :) fun h tk r2q z => ?_; subst r2q
      refine e2a2 (p.same :) fun h' tk' r2q z' => ?_; subst r2q
      exact ⟨h', tk', rfl, Nat.le_trans z z'⟩
    · refine e0a2 (p0.fz b o hb e :) fun h1 h2 => ?_
      have hb' : b ∉ wr := fun q => by rw [hwr b q] at e; cases e
      refine e0a2 (p.fz b o (fun q => (mem_ins.mp q).elim hb' h1) h2 :) fun h3 h4 => ?_
      exact ⟨fun q => h3 (mem_ins.mpr (.inr q)), h4⟩
  cases h with
  | next p S => exact .next (pp p) (S.unhide htx)
  | ret p S r => exact .ret (pp p) (S.unhide htx) (r.mono (fz_less fun b hb => mem_ins.mpr (.inr hb)))
section
variable {C : Cx} {n : Nat} {env : Env} {ρ ρ' : Rho} {own : Own} {K : Out → Prop}
theorem Es_for {target iter : Expr} {body : List Stmt} {pos : Pos} {ds : List D} (hi : EvI C n env ρ own iter ds true) (Inv : Nat → Rho → Own → Prop) (h0 : Inv 0 ρ own)
    (turn : ∀ i ρ own d, ds[i]? = some d → Inv i ρ own → ∃ ρ1, Asg target d ρ ρ1 ∧ Ex C n env ρ1 own body fun o => match o with | .next ρ' own' => Inv (i + 1) ρ' own' | .ret d o => K (.ret d o))
    (done : ∀ ρ own, Inv ds.length ρ own → K (.next ρ own)) (hs : ∀ x, foldedSetIterable iter env x = pure x := by intro _; rfl) : Es C n env ρ own (.For target iter body [] pos) K := by
  intro A X s Q E R S hQ
  refine wpAny_For ?_ hs
  refine hi A _ s _ E R S.toStR fun I s1 fp wr SI t1 tab1 hwr hfp hfz hsub it st1 => ?_
  have hfe := hfz rfl
  subst hfe
  have hY : ∀ b, b ∈ Wx env own ++ (fp ++ X) ↔ b ∈ fp ∨ b ∈ Wx env own ++ X := fun b => mem_ins
  have F : Fresh C (Wx env own ++ X) s s1 fp (Wx env own ++ (fp ++ X)) := ⟨fun b hb => ⟨(hwr b hb).1, (hwr b hb).2.2.1, (hwr b hb).2.2.2⟩, hY, tab1.mono (fun b o hb e => ⟨fun q => hb (by
      rcases mem_ins.mp q with q | q
      · exact List.mem_append_left _ q
      · exact List.mem_append_right _ q), e⟩) fun _ _ _ e => e⟩
  have S1 := S.hide t1 F
  have p1 : Pst C X env own own s s1 := (S.stp t1).2
  have st1' : SI 0 s1.heap (Wx env own ++ (fp ++ X)) := it.frame 0 _ _ _ _ st1 (fun b o hb e => ⟨fun q => hb (by
      rcases mem_ins.mp q with q | q
      · exact List.mem_append_left _ q
      · exact List.mem_append_right _ q), e⟩) fun _ _ _ e => e
  have hwn : ∀ b ∈ fp, s.heap.get? b = none := fun b hb => (hwr b hb).2.2.1
  refine codeAny_forLoop_any (fun k s' => ∃ i ρi owni, k = ds.length - i ∧ i ≤ ds.length ∧ Inv i ρi owni ∧ St C (fp ++ X) env ρi owni s' ∧ Pst C X env own owni s s' ∧ SI i s'.heap (Wx env owni ++ (fp ++ X))) ?_ ds.length
    ⟨0, ρ, own, rfl, Nat.zero_le _, h0, S1, p1, st1'⟩
  intro k s2 w1q; refine e3a6 (w1q :) fun i ρi owni r2q hle hI S2 p2 st2 => ?_; clear w1q; subst r2q
  by_cases hlt : i < ds.length
  · have hd : ds[i]? = some ds[i] := by simp [hlt]
    refine it.item i s2 _ _ _ ds[i] hd st2 (fun b hb => mem_ins.mpr (.inl hb)) fun v h' tk hv st3 k3 hex ht => ?_
    have S3 := S2.wrote (h' := h') (tk := tk) (fun b hb => ⟨(hwr b hb).1, hex b hb⟩) k3 ht
    have p3 : Pst C X env own owni s { s2 with heap := h', toks := tk } := by
      refine ⟨?_, fun b o hb e => ?_, fun b hb hbt o e => ?_⟩
      · refine e2a2 (p2.same :) fun h tk r2q z => ?_; subst r2q
        exact ⟨h', _, rfl, Nat.le_trans z ht⟩
      · refine e0a2 (p2.fz b o hb e :) fun h1 h2 => ?_
        exact ⟨h1, k3 b o (fun q => by rw [hwn b q] at e; cases e) h2⟩
      · exact k3 b o (fun q => by rw [hwn b q] at e; cases e) (p2.hid b hb hbt o e)
    refine e1a2 (turn i ρi owni ds[i] hd hI :) fun ρ1 ha hb => ?_
    refine it.go (i + 1) _ _ _ _ target v st3 ?_
    refine ha.sound (St.sto (o0 := owni) { s2 with heap := h', toks := tk }) A _ v _ _ R.h ⟨S3, .refl⟩ hv fun s4 w3q z4 => e0a2 (w3q :) fun S4 p4 => ?_
    refine hb A _ s4 _ _ R S4 fun out f s5 ko o => ?_
    have p34 : Pst C X env own owni s s4 := by
      refine ⟨?_, fun b o hb e => ?_, fun b hb hbt o e => p4.hid b (hb.imp (List.mem_append_right _) id) hbt o (p3.hid b hb hbt o e)⟩
      · refine e2a2 (p3.same :) fun h tk e3 z => ?_
        refine e2a2 (p4.same :) fun h4 tk4 e4 z4 => ?_
        rw [e3] at e4
        exact ⟨h4, tk4, e4, Nat.le_trans z (by rw [e3] at z4; exact z4)⟩
      · refine e0a2 (p3.fz b o hb e :) fun h1 h2 => ?_
        have hb' : b ∉ fp := fun q => by rw [hwn b q] at e; cases e
        refine e0a2 (p4.fz b o (fun q => (mem_ins.mp q).elim hb' h1) h2 :) fun h3 h4 => ?_
        exact ⟨fun q => h3 (mem_ins.mpr (.inr q)), h4⟩
    have o' := o.less S.txx p34 hwn
    cases o with
    | next p5 S5 =>
      cases o' with
      | next p6 S6 =>
      refine ⟨ds.length - (i + 1), Nat.sub_lt_sub_left hlt (Nat.lt_succ_self i), i + 1, _, _, rfl, hlt, ko, S5, p6, ?_⟩
      have p45 := p4.trans p5
      exact it.frame (i + 1) _ _ _ _ st3 p45.fz fun b hb o e => p45.hid b (.inl (List.mem_append_left _ hb)) (hwr b hb).1 o e
    | ret p5 t5 r5 => exact hQ _ _ _ ko o'
  · have hi : i = ds.length := Nat.le_antisymm hle (Nat.le_of_not_lt hlt)
    subst hi
    refine it.done s2 _ _ _ st2 fun h' tk k3 ht => ?_
    refine wpAny_execs_nil ?_
    have hX : ∀ b ∈ X, b ∉ fp := fun b hb q => (hwr b q).2.1 (List.mem_append_right _ hb)
    refine hQ _ _ _ (done ρi owni hI) (.next ⟨?_, fun b o hb e => ?_, fun b hb hbt o e => ?_⟩ (S2.dropped S.txx hX k3 ht))
    · refine e2a2 (p2.same :) fun h tk r2q z => ?_; subst r2q
      exact ⟨h', _, rfl, Nat.le_trans z ht⟩
    · refine e0a2 (p2.fz b o hb e :) fun h1 h2 => ?_
      exact ⟨h1, k3 b o (fun q => by rw [hwn b q] at e; cases e) h2⟩
    · exact k3 b o (fun q => by rw [hwn b q] at e; cases e) (p2.hid b hb hbt o e)
end
end
section
open PySem PySem.Calls
inductive AtC : Rho → Str → D → Prop
  | head {x d r} : AtC ((x, .cel, some d) :: r) x d
  | headP {x d r} : AtC ((x, .cap, some d) :: r) x d
  | tail {p r x d} : AtC r x d → AtC (p :: r) x d
theorem AtC.mem {ρ : Rho} {x d} (h : AtC ρ x d) : (x, Sl.cel, some d) ∈ ρ ∨ (x, Sl.cap, some d) ∈ ρ := by
  induction h with
  | head => exact .inl List.mem_cons_self
  | headP => exact .inr List.mem_cons_self
  | tail _ ih => exact ih.imp (List.mem_cons_of_mem _) (List.mem_cons_of_mem _)
inductive AtE : Rho → Str → Prop
  | head {x o r} : AtE ((x, .cel, o) :: r) x
  | headP {x o r} : AtE ((x, .cap, o) :: r) x
  | tail {p r x} : AtE r x → AtE (p :: r) x
theorem AtE.mem {ρ : Rho} {x} (h : AtE ρ x) : ∃ o, (x, Sl.cel, o) ∈ ρ ∨ (x, Sl.cap, o) ∈ ρ := by
  induction h with
  | head => exact ⟨_, .inl List.mem_cons_self⟩
  | headP => exact ⟨_, .inr List.mem_cons_self⟩
  | tail _ ih => exact e1a1 ih fun o m => ⟨o, m.imp (List.mem_cons_of_mem _) (List.mem_cons_of_mem _)⟩
inductive FreeIn (ρ : Rho) : List (Str × NameKind) → Prop
  | nil : FreeIn ρ []
  | skip {x k r} : (k == NameKind.free) = false → FreeIn ρ r → FreeIn ρ ((x, k) :: r)
  | free {x r} : AtE ρ x → FreeIn ρ r → FreeIn ρ ((x, .free) :: r)
noncomputable def clOf (env : Env) : List (Str × NameKind) → List (Str × Addr) → List (Str × Addr)
  | [], acc => acc
  | (y, k) :: r, acc => if k == .free then clOf env r ((y, (env.cells.lookup y).getD 0) :: acc) else clOf env r acc
theorem closureFor_ok {env : Env} {scope : Scope} (h : ∀ y, (y, NameKind.free) ∈ scope.names → ∃ c, env.cells.lookup y = some c) : closureFor scope env = pure (clOf env scope.names []) := by
  have key : ∀ (names : List (Str × NameKind)) (acc : List (Str × Addr)) (f : Str × NameKind → List (Str × Addr) → Sem (ForInStep (List (Str × Addr)))),
      (∀ y, (y, NameKind.free) ∈ names → ∃ c, env.cells.lookup y = some c) →
      (∀ name kind cs, f (name, kind) cs = if kind == .free then (do let c ← cellOf env name; pure (.yield ((name, c) :: cs))) else pure (.yield cs)) →
      (forIn names acc f) = (pure (clOf env names acc) : Sem _) := by
    intro names
    induction names with
    | nil => intro acc f _ _; rw [List.forIn_nil]; rfl
    | cons p r ih =>
      obtain ⟨y, k⟩ := p
      intro acc f hh hf
      rw [List.forIn_cons, hf]
      unfold clOf
      cases hk : (k == NameKind.free) with
      | false =>
        simp only [Bool.false_eq_true, if_false]
        exact ih acc f (fun y' hy' => hh y' (List.mem_cons_of_mem _ hy')) hf
      | true =>
        have hk' : k = .free := by simpa using hk
        subst hk'
        refine e1a1 (hh y List.mem_cons_self :) fun c hc => ?_
        simp only [if_true]
        have e : cellOf env y = pure c := by unfold cellOf; rw [hc]
        rw [e, hc]
        exact ih _ f (fun y' hy' => hh y' (List.mem_cons_of_mem _ hy')) hf
  unfold closureFor
  have e := key scope.names [] (fun x s => match x with
    | (name, kind) => if (kind == NameKind.free) = true then do
        let c ← cellOf env name
        pure (ForInStep.yield ((name, c) :: s))
      else pure (ForInStep.yield s)) h (fun _ _ _ => rfl)
  refine Eq.trans ?_ ((congrArg (fun m : Sem (List (Str × Addr)) => m >>= fun cs => pure cs) e).trans rfl)
  rfl
theorem clOf_look {env : Env} : ∀ (names : List (Str × NameKind)) (acc : List (Str × Addr)), (∀ y, (y, NameKind.free) ∈ names → ∃ c, env.cells.lookup y = some c) → (∀ y c, acc.lookup y = some c → env.cells.lookup y = some c) →
    (∀ y c, (clOf env names acc).lookup y = some c → env.cells.lookup y = some c) ∧ (∀ y, ((y, NameKind.free) ∈ names ∨ ∃ c, acc.lookup y = some c) → (clOf env names acc).lookup y = env.cells.lookup y)
  | [], acc, _, h => ⟨h, fun y hy => by
      rcases hy with hy | ⟨c, hc⟩
      · cases hy
      · show acc.lookup y = _
        rw [hc, h y c hc]⟩
  | (x, k) :: r, acc, hh, h => by
    unfold clOf
    have hr : ∀ y, (y, NameKind.free) ∈ r → ∃ c, env.cells.lookup y = some c := fun y hy => hh y (List.mem_cons_of_mem _ hy)
    cases hk : (k == NameKind.free) with
    | false =>
      simp only [Bool.false_eq_true, if_false]
      refine e0a2 (clOf_look r acc hr h :) fun i1 i2 => ?_
      refine ⟨i1, fun y hy => i2 y ?_⟩
      rcases hy with hy | hy
      · rcases List.mem_cons.mp hy with e | hy
        · cases e; simp at hk
        · exact .inl hy
      · exact .inr hy
    | true =>
      have hk' : k = .free := by simpa using hk
      subst hk'
      refine e1a1 (hh x List.mem_cons_self :) fun c hc => ?_
      simp only [if_true]
      have h' : ∀ y c', List.lookup y ((x, (env.cells.lookup x).getD 0) :: acc) = some c' → env.cells.lookup y = some c' := fun y c' e => by
        rw [List.lookup_cons] at e
        cases hb : y == x with
        | true =>
          rw [hb] at e
          have : y = x := by simpa using hb
          subst this
          rw [hc] at e ⊢
          exact e
        | false => rw [hb] at e; exact h y c' e
      refine e0a2 (clOf_look r _ hr h' :) fun i1 i2 => ?_
      refine ⟨i1, fun y hy => ?_⟩
      by_cases hyx : y = x
      · subst hyx
        exact i2 y (.inr ⟨_, by rw [List.lookup_cons]; simp; rfl⟩)
      · refine i2 y ?_
        rcases hy with hy | ⟨c', hc'⟩
        · rcases List.mem_cons.mp hy with e | hy
          · cases e; exact absurd rfl hyx
          · exact .inl hy
        · exact .inr ⟨c', by rw [List.lookup_cons]; have : (y == x) = false := by simpa using hyx
                             rw [this]; exact hc'⟩
noncomputable def GlobD (C : Cx) (g : Str) (d : D) : Prop := ∃ v, GlobV C g v ∧ VR C C.G [] v d
inductive Inn (C : Cx) (ρ : Rho) (scope : Scope) : Rho → Prop
  | nil : Inn C ρ scope []
  | loc {x r} : nameOk x → scope.names.lookup x = some .local → Inn C ρ scope r → Inn C ρ scope ((x, .loc, none) :: r)
  | cel {x r} : nameOk x → scope.names.lookup x = some .cell → Inn C ρ scope r → Inn C ρ scope ((x, .cel, none) :: r)
  | cap {y d r} : AtC ρ y d → scope.names.lookup y = some .free → Inn C ρ scope r → Inn C ρ scope ((y, .cap, some d) :: r)
  | glo {g d r} : nameOk g → GlobD C g d → scope.names.lookup g = some .globalImplicit → Inn C ρ scope r → Inn C ρ scope ((g, .glo, some d) :: r)
inductive Fgt : Rho → Rho → Prop
  | nil : Fgt [] []
  | same {p r r'} : Fgt r r' → Fgt (p :: r) (p :: r')
  | lose {x sl d r r'} : Fgt r r' → Fgt ((x, sl, some d) :: r) ((x, sl, none) :: r')
theorem Fgt.mem {ρ ρ'} (h : Fgt ρ ρ') : ∀ p ∈ ρ', p ∈ ρ ∨ ∃ x sl d, p = (x, sl, none) ∧ (x, sl, some d) ∈ ρ := by
  induction h with
  | nil => exact fun p hp => .inl hp
  | same _ ih =>
    exact fun p hp => (List.mem_cons.mp hp).elim (fun e => .inl (e ▸ List.mem_cons_self)) fun hp => (ih p hp).imp (List.mem_cons_of_mem _) fun q => e3a2 q fun x sl d e q => ⟨x, sl, d, e, List.mem_cons_of_mem _ q⟩
  | lose _ ih =>
    exact fun p hp => (List.mem_cons.mp hp).elim (fun e => .inr ⟨_, _, _, e, List.mem_cons_self⟩) fun hp => (ih p hp).imp (List.mem_cons_of_mem _) fun q => e3a2 q fun x sl d e q => ⟨x, sl, d, e, List.mem_cons_of_mem _ q⟩
theorem StR.forget {C : Cx} {Y : List Addr} {env : Env} {ρ ρ' : Rho} {own : Own} {s : Shared} (S : StR C Y env ρ own s) (h : Fgt ρ ρ') : StR C Y env ρ' own s := by
  refine ⟨S.toBs, S.kf, S.gl, S.bl, S.lt, ?_, S.owned⟩
  refine e1a2 (S.vars :) fun m hn hv => ?_
  refine ⟨m, hn, fun p hp => ?_⟩
  rcases h.mem p hp with q | ⟨x, sl, d, rfl, q⟩
  · exact hv p q
  · cases hv _ q with
    | loc a b c => exact .loc a b nofun
    | cell a b c => exact .cell a b (e2a4 (c :) fun c ov e1 e2 e3 e4 => ⟨c, ov, e1, e2, e3, nofun⟩)
    | free a b c => exact .free a b (e2a4 (c :) fun c ov e1 e2 e3 e4 => ⟨c, ov, e1, e2, e3, nofun⟩)
    | cap a b c => exact .cap a b (e2a4 (c :) fun c ov e1 e2 e3 e4 => ⟨c, ov, e1, e2, e3, nofun⟩)
    | glob a b c => exact .glob a b nofun
inductive EvTs (C : Cx) (n : Nat) (env : Env) (ρ : Rho) (own : Own) : List Expr → Bool → Prop
  | nil : EvTs C n env ρ own [] true
  | one {c b} : EvT C n env ρ own c b → EvTs C n env ρ own [c] b
noncomputable def Trn (C : Cx) (n : Nat) (cenv : Env) (ρc : Rho) (own : Own) (target elt : Expr) (ifs : List Expr) (d : D) : Option D → Prop
  | some f => ∃ ρ1, Asg target d ρc ρ1 ∧ Fgt ρ1 ρc ∧ EvTs C n cenv ρ1 own ifs true ∧ Ev C n cenv ρ1 own elt f
  | none => ∃ ρ1, Asg target d ρc ρ1 ∧ Fgt ρ1 ρc ∧ EvTs C n cenv ρ1 own ifs false
inductive CompR (C : Cx) (n : Nat) (cenv : Env) (ρc : Rho) (own : Own) (target elt : Expr) (ifs : List Expr) : List D → List D → Prop
  | nil : CompR C n cenv ρc own target elt ifs [] []
  | keep {d f ds fs} : Trn C n cenv ρc own target elt ifs d (some f) → CompR C n cenv ρc own target elt ifs ds fs → CompR C n cenv ρc own target elt ifs (d :: ds) (f :: fs)
  | skip {d ds fs} : Trn C n cenv ρc own target elt ifs d none → CompR C n cenv ρc own target elt ifs ds fs → CompR C n cenv ρc own target elt ifs (d :: ds) fs
theorem lookup_relabel {env : Env} {x : Str} : ∀ {names : List (Str × NameKind)},
    (names.map fun (n, k) => if (k == NameKind.free && env.scope.kind == .function && env.kindOf n == some .cell) then (n, NameKind.cell) else (n, k)).lookup x =
      (names.lookup x).map fun k => if (k == NameKind.free && env.scope.kind == .function && env.kindOf x == some .cell) then .cell else k
  | [] => rfl
  | (n, k) :: r => by
    have ih := @lookup_relabel env x r
    show List.lookup x ((if (k == NameKind.free && env.scope.kind == .function && env.kindOf n == some .cell) = true then (n, NameKind.cell) else (n, k)) :: _) = _
    cases hx : x == n with
    | true =>
      have : x = n := by simpa using hx
      subst this
      by_cases hc : (k == NameKind.free && env.scope.kind == .function && env.kindOf x == some .cell) = true
      · rw [if_pos hc]; simp only [List.lookup_cons, hx, Option.map_some]; rw [if_pos hc]
      · rw [if_neg hc]; simp only [List.lookup_cons, hx, Option.map_some]; rw [if_neg hc]
    | false =>
      by_cases hc : (k == NameKind.free && env.scope.kind == .function && env.kindOf n == some .cell) = true
      · rw [if_pos hc]; simp only [List.lookup_cons, hx]; exact ih
      · rw [if_neg hc]; simp only [List.lookup_cons, hx]; exact ih
theorem cellsFrom_acc : ∀ (names : List (Str × NameKind)) (n : Nat) (acc : List (Str × Addr)), cellsFrom n names acc = cellsFrom n names [] ++ acc
  | [], _, _ => rfl
  | (x, k) :: r, n, acc => by
    unfold cellsFrom
    cases hk : (k == NameKind.cell) with
    | true =>
      simp only [if_true]
      rw [cellsFrom_acc r (n + 1) ((x, n) :: acc), cellsFrom_acc r (n + 1) [(x, n)], List.append_assoc]
      rfl
    | false => simp only [Bool.false_eq_true, if_false]; exact cellsFrom_acc r n acc
theorem cellsFrom_names : ∀ (names : List (Str × NameKind)) (n : Nat) (x : Str) (c : Addr), (x, c) ∈ cellsFrom n names [] → (x, NameKind.cell) ∈ names
  | [], _, _, _, h => nomatch h
  | (y, k) :: r, n, x, c, h => by
    unfold cellsFrom at h
    cases hk : (k == NameKind.cell) with
    | true =>
      have hk' : k = .cell := by simpa using hk
      subst hk'
      simp only [hk, if_true] at h
      rw [cellsFrom_acc] at h
      rcases List.mem_append.mp h with h | h
      · exact List.mem_cons_of_mem _ (cellsFrom_names r _ x c h)
      · cases List.mem_singleton.mp h; exact List.mem_cons_self
    | false =>
      simp only [hk, Bool.false_eq_true, if_false] at h
      exact List.mem_cons_of_mem _ (cellsFrom_names r _ x c h)
theorem cellsFrom_has : ∀ (names : List (Str × NameKind)) (n : Nat) (x : Str), (x, NameKind.cell) ∈ names → ∃ c, (x, c) ∈ cellsFrom n names []
  | [], _, _, h => nomatch h
  | (y, k) :: r, n, x, h => by
    unfold cellsFrom
    cases hk : (k == NameKind.cell) with
    | true =>
      simp only [if_true]
      rw [cellsFrom_acc]
      rcases List.mem_cons.mp h with e | h
      · cases e; exact ⟨n, List.mem_append_right _ List.mem_cons_self⟩
      · refine e1a1 (cellsFrom_has r (n + 1) x h :) fun c hc => ?_; exact ⟨c, List.mem_append_left _ hc⟩
    | false =>
      simp only [Bool.false_eq_true, if_false]
      rcases List.mem_cons.mp h with e | h
      · cases e; simp at hk
      · exact cellsFrom_has r n x h
theorem lookup_app_some {α : Type} : ∀ {l1 l2 : List (Str × α)} {x : Str} {c : α}, l1.lookup x = some c → (l1 ++ l2).lookup x = some c
  | (y, v) :: r, l2, x, c, h => by
    rw [List.lookup_cons] at h
    rw [List.cons_append, List.lookup_cons]
    cases hb : x == y with
    | true => rw [hb] at h; exact h
    | false => rw [hb] at h; exact lookup_app_some h
theorem lookup_app_none {α : Type} : ∀ {l1 l2 : List (Str × α)} {x : Str}, l1.lookup x = none → (l1 ++ l2).lookup x = l2.lookup x
  | [], _, _, _ => rfl
  | (y, v) :: r, l2, x, h => by
    rw [List.lookup_cons] at h
    rw [List.cons_append, List.lookup_cons]
    cases hb : x == y with
    | true => rw [hb] at h; cases h
    | false => rw [hb] at h; exact lookup_app_none h
theorem lookup_of_mem {α : Type} : ∀ {l : List (Str × α)} {x : Str} {c : α}, (x, c) ∈ l → ∃ c', l.lookup x = some c'
  | (y, v) :: r, x, c, h => by
    rw [List.lookup_cons]
    cases hb : x == y with
    | true => exact ⟨v, rfl⟩
    | false =>
      rcases List.mem_cons.mp h with e | h
      · cases e; simp at hb
      · exact lookup_of_mem h
theorem wp_newCompEnv {M : Model} {A : Around} {E : Value → Shared → Prop} {s : Shared} {scope : Scope} {globals : Addr} {cl : List (Str × Addr)} {qual : Str} {outer : Env} {Q : Env → Shared → Prop}
    (hQ : Q { scope, locals := s.heap.objs.size, globals, cells := cellsFrom (s.heap.objs.size + 1) scope.names [] ++ cl, qual, func := none, code := outer.code, frame := outer.frame, builtins := outer.builtins }
      { s with heap := pushCells (s.heap.push { cls := .type "dict", data := .dict #[] }) scope.names }) :
    wpAny M A (newFunctionEnv scope globals cl [] qual none .none (some outer)) Q E s := by
  simp only [newFunctionEnv, Option.isSome_some, if_true]
  refine wpAny_bind (wpAny_alloc ?_)
  refine wpAny_bind (wpAny_layCells _ (fun name kind cells => by cases hkc : kind == NameKind.cell <;> simp [hkc]) _ _ _ _ ?_)
  rw [show ({ s with heap := s.heap.push { cls := .type "dict", data := .dict #[] } } : Shared).heap.objs.size = s.heap.objs.size + 1 from Heap.size_push ..]
  refine wpAny_bind ?_
  rw [List.forIn_nil]
  refine wpAny_pure ?_
  rw [cellsFrom_acc]
  exact wpAny_pure hQ
structure CompS (C : Cx) (ρ ρc : Rho) (scope : Scope) : Prop where
  free : FreeIn ρ scope.names
  inn : Inn C ρ scope ρc
  kind : scope.kind = .function
  names : ∀ x ∈ scope.names, scope.names.lookup x.1 = some x.2
  nr : (ρc.map (·.1)).Nodup
theorem Inn.cell {C : Cx} {ρ : Rho} {scope : Scope} {ρc : Rho} (h : Inn C ρ scope ρc) : ∀ x o, (x, Sl.cel, o) ∈ ρc → scope.names.lookup x = some .cell := by
  induction h with
  | nil => intro x o hm; cases hm
  | loc _ _ _ ih => exact fun x o hm => (List.mem_cons.mp hm).elim (fun e => sl_ne e nofun) (ih x o)
  | cel _ hl _ ih => exact fun x o hm => (List.mem_cons.mp hm).elim (fun e => nm_eq e ▸ hl) (ih x o)
  | cap _ _ _ ih => exact fun x o hm => (List.mem_cons.mp hm).elim (fun e => sl_ne e nofun) (ih x o)
  | glo _ _ _ _ ih => exact fun x o hm => (List.mem_cons.mp hm).elim (fun e => sl_ne e nofun) (ih x o)
theorem StR.capd {C : Cx} {X : List Addr} {env : Env} {ρ : Rho} {own : Own} {s : Shared} (S : StR C X env ρ own s) {y : Str} {d : D} (h : AtC ρ y d) : nameOk y ∧ env.kindOf y = some .cell ∧ InCell C X env s.heap y (some d) := by
  refine e1a2 (S.vars :) fun m hn hv => ?_
  exact h.mem.elim (fun q => (hv _ q).elimC fun a b c => ⟨a, b, c⟩) fun q => (hv _ q).elimP fun a b c => ⟨a, b, c⟩
theorem StR.cape {C : Cx} {X : List Addr} {env : Env} {ρ : Rho} {own : Own} {s : Shared} (S : StR C X env ρ own s) {y : Str} (h : AtE ρ y) : ∃ od, InCell C X env s.heap y od := by
  refine e1a2 (S.vars :) fun m hn hv => ?_
  exact e1a1 (h.mem :) fun o w1q => w1q.elim (fun q => (hv _ q).elimC fun _ _ c => ⟨o, c⟩) fun q => (hv _ q).elimP fun _ _ c => ⟨o, c⟩
theorem FreeIn.has {C : Cx} {X : List Addr} {env : Env} {ρ : Rho} {own : Own} {s : Shared} (S : StR C X env ρ own s) {names : List (Str × NameKind)} (h : FreeIn ρ names) : ∀ y, (y, NameKind.free) ∈ names → ∃ c, env.cells.lookup y = some c := by
  induction h with
  | nil => intro y hm; cases hm
  | skip hk _ ih => intro y hm; rcases List.mem_cons.mp hm with e | hm; · cases e; simp at hk
                    exact ih y hm
  | free ha _ ih => intro y hm; rcases List.mem_cons.mp hm with e | hm
                    · cases e; refine e3a2 (S.cape ha :) fun _ c ov hc _ => ?_; exact ⟨c, hc⟩
                    exact ih y hm
end
section
open PySem PySem.Calls
section
variable {C : Cx} {n : Nat} {env : Env} {ρ ρc : Rho} {own : Own}
theorem comp_frame {X wr : List Addr} {s s2 : Shared} {scope : Scope} {nc cl : List (Str × Addr)} {D L : Addr} {H3 : Heap} (H : CompS C ρ ρc scope) (S : StR C X env ρ own s) (S2 : StR C (wr ++ X) env ρ own s2)
    (old : ∀ b o, s2.heap.get? b = some o → H3.get? b = some o) (hD : ∃ o, H3.get? D = some o) (hL : H3.Ns L (fun _ => none)) (nD : s2.heap.get? D = none) (nL : s2.heap.get? L = none)
    (hnc : nc = cellsFrom (L + 1) scope.names []) (hcl : cl = clOf env scope.names []) (ok : CellsOk H3 (L + 1) nc) (nn : ∀ p ∈ nc, s2.heap.get? p.2 = none) :
    StR C (D :: L :: (nc.map (·.2) ++ (wr ++ X))) (compEnvC scope (nc ++ cl) L env) ρc own { s2 with heap := H3 } := by
  have T2 := S2.tab.there
  have ntp : ∀ b, s2.heap.get? b = none → b ∉ C.tP := fun b hb q => e1a1 (T2 b q :) fun o e => by rw [hb] at e; cases e
  have nY : ∀ b o, s2.heap.get? b = some o → b ∉ wr ++ X → b ∉ D :: L :: (nc.map (·.2) ++ (wr ++ X)) := by
    intro b o e hb q
    rcases List.mem_cons.mp q with r | q
    · rw [r, nD] at e; cases e
    rcases List.mem_cons.mp q with r | q
    · rw [r, nL] at e; cases e
    rcases List.mem_append.mp q with q | q
    · refine e1a2 (List.mem_map.mp q :) fun p hp r2q => ?_; subst r2q
      rw [nn p hp] at e; cases e
    · exact hb q
  have z : Fz (wr ++ X) s2.heap (D :: L :: (nc.map (·.2) ++ (wr ++ X))) H3 := fun b o hb e => ⟨nY b o e hb, old b o e⟩
  refine ⟨⟨fun b o e => e0a2 (S2.base b o e :) fun p q => z b o p q, S2.tab.mono z fun _ _ o e => old _ o e, fun P hP => List.mem_cons_of_mem _ (List.mem_cons_of_mem _ (List.mem_append_right _ (S2.tx P hP))), fun b hb => ?_, S2.tk⟩,
    H.kind, S2.gl, S2.bl, ntp L nL, ⟨_, hL, ?_⟩, fun p hp => e0a2 (S2.owned p hp :) fun ht w3q => e1a2 w3q fun vs a b => ⟨ht, vs, a.at fun o e => old _ o e, b.mono z⟩⟩
  · rcases List.mem_cons.mp hb with rfl | hb
    · exact hD
    rcases List.mem_cons.mp hb with rfl | hb
    · refine e3a2 (hL :) fun o _ _ e _ => ?_; exact ⟨o, e⟩
    rcases List.mem_append.mp hb with hb | hb
    · refine e1a2 (List.mem_map.mp hb :) fun p hp r2q => ?_; subst r2q
      refine e1a2 ((ok.empty p.1 p.2 hp).1 :) fun o e _ => ?_
      exact ⟨o, e⟩
    · refine e1a1 (S2.bd b hb :) fun o e => ?_; exact ⟨o, old b o e⟩
  · have hcells := H.free.has S2
    refine e0a2 (clOf_look (env := env) scope.names [] hcells (fun y c e => nomatch e) :) fun cl1 cl2 => ?_
    rw [← hcl] at cl1 cl2
    have hin := H.inn
    have names := H.names
    clear hcl H
    have kf := S2.kf
    have kind : ∀ x, (compEnvC scope (nc ++ cl) L env).kindOf x = (scope.names.lookup x).map fun k => if (k == NameKind.free && env.scope.kind == .function && env.kindOf x == some .cell) then .cell else k := fun x => lookup_relabel
    induction hin with
    | nil => intro p hp; cases hp
    | loc h0 hl _ ih =>
      intro p hp
      rcases List.mem_cons.mp hp with rfl | hp
      · exact .loc h0 (by rw [kind, hl]; rfl) nofun
      · exact ih p hp
    | cel h0 hl _ ih =>
      intro p hp
      rcases List.mem_cons.mp hp with rfl | hp
      · refine .cell h0 (by rw [kind, hl]; rfl) ?_
        refine e1a1 (cellsFrom_has scope.names (L + 1) _ (mem_of_lookup hl) :) fun c hc => ?_
        rw [← hnc] at hc
        refine e1a1 (lookup_of_mem hc :) fun c' hc' => ?_
        have hm := mem_of_lookup hc'
        exact ⟨c', none, lookup_app_some hc', ntp _ (nn _ hm), (ok.empty _ _ hm).1, nofun⟩
      · exact ih p hp
    | cap ha hl _ ih =>
      rename_i y d r _
      intro p hp
      rcases List.mem_cons.mp hp with rfl | hp
      · refine e0a3 (S2.capd ha :) fun h0 hk w4q => e2a4 w4q fun c ov hc ht hi hv => ?_
        refine .cap h0 (by rw [kind, hl, kf, hk]; rfl) ⟨c, ov, ?_, ht, ?_, fun d' hd => e1a2 (hv d' hd :) fun v q r => ⟨v, q, r.mono z⟩⟩
        · show List.lookup y (nc ++ cl) = some c
          have : nc.lookup y = none := by
            cases q : nc.lookup y with
            | none => rfl
            | some c0 =>
              have h1 := cellsFrom_names scope.names (L + 1) y c0 (hnc ▸ mem_of_lookup q)
              have h2 := names _ h1
              rw [hl] at h2; cases h2
          rw [lookup_app_none this, cl2 y (.inl (mem_of_lookup hl)), hc]
        · refine e1a2 (hi :) fun o e1 e2 => ?_; exact ⟨o, old c o e1, e2⟩
      · exact ih p hp
    | glo h0 hg hl _ ih =>
      intro p hp
      rcases List.mem_cons.mp hp with rfl | hp
      · exact .glob h0 (by rw [kind, hl]; rfl) fun d' hd => by cases hd; exact hg
      · exact ih p hp
theorem Up.slots {ρ x d ρ'} (h : Up ρ x d ρ') : ρ'.map (fun p => (p.1, p.2.1)) = ρ.map (fun p => (p.1, p.2.1)) := by
  induction h with
  | headL => rfl
  | headC => rfl
  | tail _ ih => exact congrArg (List.cons _) ih
theorem comp_sto {Y : List Addr} {s0 : Shared} {scope : Scope} {nc cl : List (Str × Addr)} {L : Addr} (hin : Inn C ρ scope ρc) (names : ∀ x ∈ scope.names, scope.names.lookup x.1 = some x.2) (nr : (ρc.map (·.1)).Nodup) (hLY : L ∈ Y) (hcY : ∀ p ∈ nc, p.2 ∈ Y) (apart : nc.Pairwise fun x y => x.2 ≠ y.2)
    (hncn : ∀ x c, (x, c) ∈ nc → scope.names.lookup x = some .cell) (has : ∀ x, scope.names.lookup x = some .cell → ∃ c, nc.lookup x = some c) (hncL : ∀ p ∈ nc, p.2 ≠ L) (hclL : ∀ p ∈ cl, p.2 ≠ L) (hclN : ∀ p ∈ cl, ∀ q ∈ nc, p.2 ≠ q.2) (hoL : ∀ p ∈ own, p.1 ≠ L) (hoN : ∀ p ∈ own, ∀ q ∈ nc, p.1 ≠ q.2) :
    Sto C (compEnvC scope (nc ++ cl) L env) Y (fun ρ1 s => ρ1.map (fun p => (p.1, p.2.1)) = ρc.map (fun p => (p.1, p.2.1)) ∧ StR C Y (compEnvC scope (nc ++ cl) L env) ρ1 own s ∧ (∃ h tk, s = { s0 with heap := h, toks := tk } ∧ s0.toks ≤ tk) ∧ ∀ b o, b ≠ L → (∀ p ∈ nc, b ≠ p.2) → s0.heap.get? b = some o → s.heap.get? b = some o) where
  keeps := fun ρ1 s h tk w1q kk ht => e0a4 (w1q :) fun e S w5q k => e2a2 w5q fun h0 tk0 hs ht0 => ⟨e, S.step (Stp.of_keeps S.toBs kk ht), ⟨h, tk, by rw [hs], by rw [hs] at ht; exact Nat.le_trans ht0 ht⟩, fun b o h1 h2 e => kk b o (k b o h1 h2 e)⟩
  store := fun A ρ1 ρ' s x v d Q E w2q r hu hQ => e0a4 (w2q :) fun he S w6q k => e2a2 w6q fun h0 tk0 hs ht0 => by
    have hnames : ρ1.map (·.1) = ρc.map (·.1) := by
      have := congrArg (List.map (fun q : Str × Sl => q.1)) he
      simpa [List.map_map, Function.comp_def] using this
    have hmem : ∀ p ∈ ρ1, ∃ o, (p.1, p.2.1, o) ∈ ρc := fun p hp => by
      have : (p.1, p.2.1) ∈ ρc.map (fun p => (p.1, p.2.1)) := he ▸ List.mem_map_of_mem (f := fun p : Str × Sl × Option D => (p.1, p.2.1)) hp
      refine e1a2 (List.mem_map.mp this :) fun q hq e => ?_
      obtain ⟨q1, q2, q3⟩ := q
      simp only [Prod.mk.injEq] at e
      exact ⟨q3, by rw [← e.1, ← e.2]; exact hq⟩
    have own1 : ∀ o, (x, Sl.cel, o) ∈ ρ1 → ∃ c, (x, c) ∈ nc ∧ (nc ++ cl).lookup x = some c := fun o hm => by
      refine e1a1 (hmem _ hm :) fun o' hm' => ?_
      refine e1a1 (has x (hin.cell x o' hm') :) fun c hc => ?_
      exact ⟨c, mem_of_lookup hc, lookup_app_some hc⟩
    have locOf : ∀ y c, (nc ++ cl).lookup y = some c → (y, c) ∈ nc ∨ (y, c) ∈ cl := fun y c hc => List.mem_append.mp (mem_of_lookup hc)
    refine S.store r hu (by rw [hnames]; exact nr) hLY (fun o hm c hc => ?_) (fun p hp c hc => ?_) hoL (fun o hm p hp c h1 h2 => ?_) (fun o hm p hp c hc => ?_) fun a h' tk ha hsb htk S' => ?_
    · refine e1a2 (own1 o hm :) fun c' m' e' => ?_
      have hc' : (nc ++ cl).lookup x = some c := hc
      rw [e'] at hc'; cases hc'
      exact hcY _ m'
    · rcases locOf _ _ hc with q | q
      · exact hncL _ q
      · exact hclL _ q
    · refine e1a2 (own1 o hm :) fun c' m' e' => ?_
      have h2' : (nc ++ cl).lookup x = some c := h2
      rw [e'] at h2'; cases h2'
      rcases locOf _ _ h1 with q | q
      · exact name_of_addr apart q m'
      · exact absurd rfl (hclN (p.1, c) q (x, c) m')
    · refine e1a2 (own1 o hm :) fun c' m' e' => ?_
      have h2' : (nc ++ cl).lookup x = some c := hc
      rw [e'] at h2'; cases h2'
      exact hoN p hp _ m'
    · have haY : a ∈ Y := by
        rcases ha with rfl | ⟨o, hm, e⟩
        · exact hLY
        · refine e1a2 (own1 o hm :) fun c' m' e' => ?_
          have h2' : (nc ++ cl).lookup x = some a := e
          rw [e'] at h2'; cases h2'
          exact hcY _ m'
      have hne : ∀ b, b ≠ L → (∀ p ∈ nc, b ≠ p.2) → b ≠ a := fun b h1 h2 => by
        rcases ha with rfl | ⟨o, hm, e⟩
        · exact h1
        · refine e1a2 (own1 o hm :) fun c' m' e' => ?_
          have h2' : (nc ++ cl).lookup x = some a := e
          rw [e'] at h2'; cases h2'
          exact h2 _ m'
      refine hQ _ ⟨?_, S', ⟨h', tk, by rw [hs], by rw [hs] at htk; exact Nat.le_trans ht0 htk⟩, fun b o h1 h2 e => hsb.extBut b o (hne b h1 h2) (k b o h1 h2 e)⟩ (fz_same haY hsb)
      exact hu.slots.trans he
end
end
section
open PySem PySem.Calls
section
variable {C : Cx} {n : Nat} {env : Env} {ρ ρc : Rho} {own : Own}
theorem clOf_mem {env : Env} : ∀ (names : List (Str × NameKind)) (acc : List (Str × Addr)) (p : Str × Addr), p ∈ clOf env names acc → p ∈ acc ∨ (p.1, NameKind.free) ∈ names ∧ p.2 = (env.cells.lookup p.1).getD 0
  | [], _, _, h => .inl h
  | (x, k) :: r, acc, p, h => by
    unfold clOf at h
    cases hk : (k == NameKind.free) with
    | true =>
      have hk' : k = .free := by simpa using hk
      subst hk'
      simp only [hk, if_true] at h
      rcases clOf_mem r _ p h with q | q
      · rcases List.mem_cons.mp q with rfl | q
        · exact .inr ⟨List.mem_cons_self, rfl⟩
        · exact .inl q
      · exact .inr ⟨List.mem_cons_of_mem _ q.1, q.2⟩
    | false =>
      simp only [hk, Bool.false_eq_true, if_false] at h
      rcases clOf_mem r _ p h with q | q
      · exact .inl q
      · exact .inr ⟨List.mem_cons_of_mem _ q.1, q.2⟩
theorem FreeIn.at {names : List (Str × NameKind)} (h : FreeIn ρ names) : ∀ y, (y, NameKind.free) ∈ names → AtE ρ y := by
  induction h with
  | nil => intro y hm; cases hm
  | skip hk _ ih => intro y hm; rcases List.mem_cons.mp hm with e | hm; · cases e; simp at hk
                    exact ih y hm
  | free ha _ ih => intro y hm; rcases List.mem_cons.mp hm with e | hm
                    · cases e; exact ha
                    exact ih y hm
theorem EvTs.sound {ifs : List Expr} {b : Bool} (h : EvTs C n env ρ own ifs b) {A : Around} {X : List Addr} {s : Shared} {Q : Bool → Shared → Prop} {E : Value → Shared → Prop} (R : Room A n) (S : StR C X env ρ own s) (hQ : ∀ s', Stp C X s s' → Q b s') :
    wpAny (model C.prog C.w) A (forIn ifs true fun c r => if r = true then do let ok ← isTrue c env (eval c env); pure (ForInStep.yield ok) else pure (ForInStep.yield r)) Q E s := by
  cases h with
  | nil => exact wpAny_tests_nil (hQ s (Stp.refl S.tab))
  | one h => exact wpAny_tests_one (h A X s _ E R S hQ)
structure ItrG (C : Cx) (A : Around) (target : Expr) (fp wr : List Addr) (I : Addr) (ds : List D) (S : Nat → Heap → List Addr → Prop) : Prop where
  frame : ∀ i h h' Y Y', S i h Y → Fz Y h Y' h' → (∀ b ∈ fp, ∀ o, h.get? b = some o → h'.get? b = some o) → S i h' Y'
  item : ∀ i (s : Shared) (Q : Option Value → Shared → Prop) (E : Value → Shared → Prop) (Y : List Addr) d, ds[i]? = some d → S i s.heap Y → (∀ b ∈ wr, b ∈ Y) → (∀ b ∈ Y, ∃ o, s.heap.get? b = some o) →
    (∀ v s1, (∀ (Q' : Unit → Shared → Prop) (E' : Value → Shared → Prop), (∀ h' tk, VR C h' Y v d → S (i + 1) h' Y → (∀ b o, b ∉ wr → s.heap.get? b = some o → h'.get? b = some o) → (∀ b ∈ wr, ∃ o, h'.get? b = some o) → s.toks ≤ tk → Q' () { s with heap := h', toks := tk }) →
      wpAny (model C.prog C.w) A (letOwnedTupleGo target (.ref I) v) Q' E' s1) → Q (some v) s1) → wpAny (model C.prog C.w) A (pyNext (.ref I)) Q E s
  done : ∀ (s : Shared) (Q : Option Value → Shared → Prop) (E : Value → Shared → Prop) (Y : List Addr), S ds.length s.heap Y →
    (∀ h' tk, (∀ b o, b ∉ wr → s.heap.get? b = some o → h'.get? b = some o) → s.toks ≤ tk → Q none { s with heap := h', toks := tk }) → wpAny (model C.prog C.w) A (pyNext (.ref I)) Q E s
  self : ∀ i (s : Shared) (Q : Value → Shared → Prop) (E : Value → Shared → Prop) (Y : List Addr), S i s.heap Y → Q (.ref I) s → wpAny (model C.prog C.w) A (pyIter (.ref I)) Q E s
theorem comp_gen {σ τ : Type} {Cont : Heap → Addr → σ → Prop} {Rel : Heap → List Addr → σ → List τ → Prop} {CR : Env → List D → List τ → Prop} {El : Env → Rho → τ → Prop} {emit : Addr → Env → Sem Unit} {o1 : Obj} {c0 : σ} {comp target iter : Expr} {ifs : List Expr} {scope : Scope} {pos' : Pos} {newAcc : Sem Value} {ds : List D} {fs : List τ} {use : Option (Value → Sem Unit)} {A : Around} {X : List Addr} {s : Shared} {E : Value → Shared → Prop} {Q : Value → Shared → Prop}
    (hclo : clausesOf comp = [⟨target, iter, ifs, 0⟩])
    (hund : ∀ I D cenv, A.under (.compLoop comp 0 (.ref I) (.ref D) cenv) = A) (hden : ∀ I D cenv, (model C.prog C.w).den (.compLoop comp 0 (.ref I) (.ref D) cenv) = (compTurn comp 0 (.ref I) (.ref D) cenv).onRaise (fun x => do noteFrame x cenv; theTreesLotGoes x))
    (hturn : ∀ I D cenv, compTurn comp 0 (.ref I) (.ref D) cenv = (do
      standAt iter.pos
      match ← pyNext (.ref I) with
      | none => pure (.done .next)
      | some v =>
        letOwnedTupleGo target (.ref I) v
        assign target cenv v
        let mut ok := true
        for c in ifs do
          if ok then ok ← isTrue c cenv (eval c cenv)
        if ok then
          emit D cenv
        again (.compLoop comp 0 (.ref I) (.ref D) cenv)))
    (hstart : ∀ (it : Value) D cenv R s, codeAny (model C.prog C.w) A (.compLoop comp 0 it (.ref D) cenv) R s → wpAny (model C.prog C.w) A (pyIter it) (fun it' s' => codeAny (model C.prog C.w) A (.compLoop comp 0 it' (.ref D) cenv) R s') (notedBy (model C.prog C.w) A cenv fun x s' => R (.error x) s') s → codeAny (model C.prog C.w) A (.compStart comp 0 it (.ref D) cenv) R s)
    (hnew : ∀ (Q : Value → Shared → Prop) (s : Shared), Q (.ref s.heap.objs.size) { s with heap := s.heap.push o1 } → wpAny (model C.prog C.w) A newAcc Q E s)
    (hC0 : ∀ h : Heap, Cont (h.push o1) h.objs.size c0) (hR0 : ∀ h Y, Rel h Y c0 [])
    (hCk : ∀ {h h' : Heap} {D c}, Cont h D c → (∀ o, h.get? D = some o → h'.get? D = some o) → Cont h' D c) (hCe : ∀ {h : Heap} {D c}, Cont h D c → ∃ o, h.get? D = some o)
    (hRk : ∀ {h h' Y Y' c fd}, Fz Y h Y' h' → Rel h Y c fd → Rel h' Y' c fd)
    (hEm : ∀ cenv ρ1 Y D f c fd fr (s : Shared) (Q : Unit → Shared → Prop) (E : Value → Shared → Prop), El cenv ρ1 f → StR C Y cenv ρ1 own s → D ∉ C.tP → Cont s.heap D c → Rel s.heap Y c fd → fd ++ f :: fr = fs →
      (∀ h7 tk7 h8 tk8 c', Stp C Y s { s with heap := h7, toks := tk7 } → Heap.SameBut D h7 h8 → tk7 ≤ tk8 → Cont h8 D c' → (D ∈ Y → Rel h8 Y c' (fd ++ [f])) → Q () { s with heap := h8, toks := tk8 }) → wpAny (model C.prog C.w) A (emit D cenv) Q E s)
    (hc : ∀ L cells, CR (compEnvC scope cells L env) ds fs)
    (hcr : ∀ {cenv d ds fs}, CR cenv (d :: ds) fs → (∃ f fs' ρ1, fs = f :: fs' ∧ Asg target d ρc ρ1 ∧ Fgt ρ1 ρc ∧ EvTs C n cenv ρ1 own ifs true ∧ El cenv ρ1 f ∧ CR cenv ds fs') ∨ ∃ ρ1, Asg target d ρc ρ1 ∧ Fgt ρ1 ρc ∧ EvTs C n cenv ρ1 own ifs false ∧ CR cenv ds fs)
    (hcr0 : ∀ {cenv fs}, CR cenv [] fs → fs = [])
    (hi : ∀ (Q : Value → Shared → Prop), (∀ I s2 fp wr SI, Stp C X s s2 → TabOk C s2.heap (wr ++ X) → (∀ b ∈ wr, b ∉ C.tP ∧ b ∉ X ∧ s.heap.get? b = none ∧ ∃ o, s2.heap.get? b = some o) → (∀ b ∈ fp, b ∈ wr ∨ (b ∉ C.tP ∧ ∃ o, s2.heap.get? b = some o)) → ItrG C A target fp wr I ds SI → SI 0 s2.heap (wr ++ X) → Q (.ref I) s2) →
      wpAny (model C.prog C.w) A (eval iter env) (fun x s₁ => wpAny (model C.prog C.w) A (pyIter x) Q E s₁) E s)
    (H : CompS C ρ ρc scope) (hs : ∀ x, foldedSetIterable iter env x = pure x) (R : Room A n) (S : StR C X env ρ own s)
    (hQ : ∀ D L s' c m, Stp C X s s' → (∀ b o, b ∉ C.tP → s.heap.get? b = some o → b < D) → s.heap.get? D = none → s.heap.get? L = none → D ≠ L → D ∉ C.tP → L ∉ C.tP → TabOk C s'.heap (D :: L :: X) → Cont s'.heap D c → Rel s'.heap (D :: L :: X) c fs → s'.heap.Ns L m →
      compPost (model C.prog C.w) A E use Q (.ref D) L (.ok .next) s') :
    wpAny (model C.prog C.w) A (comprehension comp scope env pos' newAcc false (eval iter env) use) Q E s := by
  refine wpAny_comprehension_free hclo hs (closureFor_ok (H.free.has S)) H.kind (fun x hx hl => by rw [H.names x hx, hl]) ?_
  refine hi _ fun I s2 fp wr SI t2 tab2 hwr hfp it st => ?_
  have S2 : StR C (wr ++ X) env ρ own s2 := S.hide t2 ⟨fun b hb => ⟨(hwr b hb).1, (hwr b hb).2.2.1, (hwr b hb).2.2.2⟩, fun b => List.mem_append, tab2⟩
  have k2 : ∀ b o, b ∉ C.tP → s.heap.get? b = some o → s2.heap.get? b = some o := t2.keep
  revert S2 k2 hwr hfp st tab2
  apply Stp.elim t2; intro h2 tk2 ht2 _ _ _ tab2 hwr hfp st S2 k2
  refine hnew _ _ (wp_newCompEnv ?_)
  dsimp only
  generalize hH1 : h2.push o1 = H1
  generalize hHa : H1.push { cls := .type "dict", data := .dict #[] } = Ha
  generalize hH3 : pushCells Ha scope.names = H3
  generalize hnc : cellsFrom (H1.objs.size + 1) scope.names [] = nc
  generalize hclE : clOf env scope.names [] = cl
  have z1 : H1.objs.size = h2.objs.size + 1 := by rw [← hH1, Heap.size_push]
  have hDl : Cont H1 h2.objs.size c0 := hH1 ▸ hC0 h2
  have k1 : ∀ b o, h2.get? b = some o → H1.get? b = some o := fun b o e => hH1 ▸ Heap.get?_push_of_some _ e
  have fresh : ∀ a, h2.objs.size ≤ a → h2.get? a = none := fun a ha => by
    cases e : h2.get? a with
    | none => rfl
    | some o' => exact absurd (Heap.lt_size e) (Nat.not_lt.mpr ha)
  have kD : ∀ b o, b ∉ C.tP → s.heap.get? b = some o → b < h2.objs.size := fun b o hb e => Heap.lt_size (k2 b o hb e)
  generalize h2.objs.size = D at z1 hDl fresh kD ⊢
  have z2 : Ha.objs.size = H1.objs.size + 1 := by rw [← hHa, Heap.size_push]
  have hLn' : Ha.Ns H1.objs.size (fun _ => none) := hHa ▸ Heap.Ns.new H1 (.type "dict")
  have ka : ∀ b o, h2.get? b = some o → Ha.get? b = some o := fun b o e => hHa ▸ Heap.get?_push_of_some _ (k1 b o e)
  have kaD : ∀ b o, H1.get? b = some o → Ha.get? b = some o := fun b o e => hHa ▸ Heap.get?_push_of_some _ e
  generalize H1.objs.size = L at *
  have k3 : ∀ b o, Ha.get? b = some o → H3.get? b = some o := fun b o e => hH3 ▸ pushCells_keeps _ _ b o e
  have old : ∀ b o, h2.get? b = some o → H3.get? b = some o := fun b o e => k3 b o (ka b o e)
  have hDl : Cont H3 D c0 := hCk hDl fun o e => k3 _ o (kaD _ o e)
  have hLn := hLn'.keeps k3
  have ok : CellsOk H3 (L + 1) nc := by
    have := cellsFrom_ok scope.names Ha (L + 1) [] ⟨fun _ _ hm => (nomatch hm), List.Pairwise.nil⟩ (Nat.le_of_eq z2.symm)
    rw [hH3, z2, hnc] at this
    exact this
  have hcl : ∀ p ∈ cl, p.2 ∉ C.tP ∧ ∃ o, s.heap.get? p.2 = some o := fun p hp => (clOf_mem scope.names [] p (hclE ▸ hp)).elim (fun q => nomatch q) fun q => by
    refine e3a4 (S.cape (H.free.at _ q.1) :) fun _ c ov hc ht w5q _ => ?_; refine e1a2 (w5q :) fun o e1 _ => ?_
    have e := q.2
    rw [hc] at e
    have e' : p.2 = c := e
    exact ⟨by rw [e']; exact ht, o, by rw [e']; exact e1⟩
  have hDL : D ≠ L := fun q => Nat.ne_of_lt (Nat.lt_succ_self D) (q.trans z1)
  have nD : h2.get? D = none := fresh D (Nat.le_refl _)
  have nL : h2.get? L = none := fresh L (z1 ▸ Nat.le_succ _)
  have nn : ∀ p ∈ nc, h2.get? p.2 = none := fun p hp => fresh _ (Nat.le_of_lt (Nat.lt_trans (z1 ▸ Nat.lt_succ_self D : D < L) (ok.empty p.1 p.2 hp).2))
  have S3 := comp_frame H S S2 old (hCe hDl) hLn nD nL hnc.symm hclE.symm ok nn
  generalize hY : D :: L :: (nc.map (·.2) ++ (wr ++ X)) = Y at S3
  have memY : ∀ b, b ∈ Y ↔ b = D ∨ b = L ∨ (∃ p ∈ nc, p.2 = b) ∨ b ∈ wr ∨ b ∈ X := fun b => by
    rw [← hY]; simp only [List.mem_cons, List.mem_append, List.mem_map]
  have DY : D ∈ Y := (memY D).mpr (.inl rfl)
  have T2 := S2.tab.there
  have ntp : ∀ b, h2.get? b = none → b ∉ C.tP := fun b hb q => e1a1 (T2 b q :) fun o e => by rw [hb] at e; cases e
  have nDtp := ntp D nD
  have ownE : ∀ p ∈ own, ∃ o, h2.get? p.1 = some o := fun p hp => e0a2 (S2.owned p hp :) fun _ w5q => e1a2 w5q fun vs w6q _ => e1a1 w6q fun nn e => ⟨_, e⟩
  have hwr2 : ∀ b ∈ wr, ∃ o, h2.get? b = some o := fun b hb => (hwr b hb).2.2.2
  have hfp2 : ∀ b ∈ fp, ∃ o, h2.get? b = some o := fun b hb => (hfp b hb).elim (hwr2 b) fun q => q.2
  have hfpt : ∀ b ∈ fp, b ∉ C.tP := fun b hb => (hfp b hb).elim (fun q => (hwr b q).1) fun q => q.1
  have neN : ∀ a, (∃ o, h2.get? a = some o) → a ≠ D ∧ a ≠ L ∧ ∀ p ∈ nc, a ≠ p.2 := fun a w1q => e1a1 (w1q :) fun o e => ⟨fun q => (by rw [q, nD] at e; cases e), fun q => (by rw [q, nL] at e; cases e), fun p hp q => (by rw [q, nn p hp] at e; cases e)⟩
  have z2Y : Fz (wr ++ X) h2 Y H3 := fun b o hb e => ⟨fun q => e0a3 (neN b ⟨o, e⟩ :) fun h1 h2 h3 => ((memY b).mp q).elim h1 fun q => q.elim h2 fun q => q.elim (fun q => e1a2 q fun p hp r => h3 p hp r.symm) fun q => hb (List.mem_append.mpr q), old b o e⟩
  have st3 : SI 0 H3 Y := it.frame 0 _ _ _ _ st z2Y fun b _ o e => old b o e
  have sS : ∀ b o, b ∉ C.tP → s.heap.get? b = some o → H3.get? b = some o := fun b o h e => old b o (k2 b o h e)
  have ncL : ∀ p ∈ nc, p.2 ≠ L := fun p hp => Nat.ne_of_gt (ok.empty p.1 p.2 hp).2
  have ncD : ∀ p ∈ nc, p.2 ≠ D := fun p hp => Nat.ne_of_gt (Nat.lt_trans (z1 ▸ Nat.lt_succ_self D : D < L) (ok.empty p.1 p.2 hp).2)
  have wrY : ∀ b ∈ wr, b ∈ Y := fun b hb => (memY b).mpr (.inr (.inr (.inr (.inl hb))))
  have hcl2 : ∀ p ∈ cl, ∃ o, h2.get? p.2 = some o := fun p hp => e0a2 (hcl p hp :) fun a w9q => e1a1 w9q fun o e => ⟨o, k2 _ o a e⟩
  have nWr : ∀ a, (∃ o, s.heap.get? a = some o) → a ∉ wr := fun a w2q q => e1a1 (w2q :) fun o e => by rw [(hwr a q).2.2.1] at e; cases e
  have ownS : ∀ p ∈ own, p.1 ∉ wr := fun p hp => nWr _ (e0a2 (S.owned p hp :) fun _ w10q => e1a2 w10q fun vs w11q _ => e1a1 w11q fun nn e => ⟨_, e⟩)
  have offW : ∀ b, h2.get? b = none → b ∉ wr := fun b hb q => e1a1 (hwr2 b q :) fun o e => by rw [hb] at e; cases e
  have offC : ∀ p ∈ ρc, ∀ c, (nc ++ cl).lookup p.1 = some c → c ∉ wr ∧ c ≠ D := fun p _ c hc => (List.mem_append.mp (mem_of_lookup hc)).elim (fun q => ⟨offW c (nn _ q), ncD _ q⟩) fun q => ⟨nWr c (hcl _ q).2, (neN c (hcl2 _ q)).1⟩
  have sto := fun s0 : Shared => comp_sto (s0 := s0) (C := C) (own := own) (env := env) (Y := Y) (ρc := ρc) (nc := nc) (cl := cl) (L := L) H.inn H.names H.nr ((memY L).mpr (.inr (.inl rfl))) (fun p hp => (memY _).mpr (.inr (.inr (.inl ⟨p, hp, rfl⟩)))) ok.apart
    (fun x c hx => H.names _ (cellsFrom_names scope.names _ x c (hnc ▸ hx)))
    (fun x hx => by refine e1a1 (cellsFrom_has scope.names (L + 1) x (mem_of_lookup hx) :) fun c hc => ?_; rw [hnc] at hc; exact lookup_of_mem hc)
    ncL (fun p hp => (neN _ (hcl2 p hp)).2.1) (fun p hp q hq => (neN _ (hcl2 p hp)).2.2 q hq) (fun p hp => (neN _ (ownE p hp)).2.1) (fun p hp q hq => (neN _ (ownE p hp)).2.2 q hq)
  have hcL := hc L (nc ++ cl)
  have hcenv : ({ scope := relabel scope env, locals := L, globals := env.globals, cells := nc ++ cl, qual := env.qual, func := none, code := env.code, frame := env.frame, builtins := env.builtins } : Env) = compEnvC scope (nc ++ cl) L env := rfl
  rw [hcenv]
  have eL : (compEnvC scope (nc ++ cl) L env).locals = L := rfl
  have eC : (compEnvC scope (nc ++ cl) L env).cells = nc ++ cl := rfl
  generalize compEnvC scope (nc ++ cl) L env = cenv at *
  have loop : codeAny (model C.prog C.w) A (.compLoop comp 0 (.ref I) (.ref D) cenv) (compPost (model C.prog C.w) A E use Q (.ref D) L) { s with heap := H3, toks := tk2 } := by
    refine e1a2 (?_ : ∃ Inv : Nat → Shared → Prop,
      (∀ (i : Nat) (h : Heap) (tk : Nat) c fd fr, i ≤ ds.length → s.toks ≤ tk → StR C Y cenv ρc own { s with heap := h, toks := tk } → Cont h D c → Rel h Y c fd → fd ++ fr = fs → CR cenv (ds.drop i) fr → SI i h Y → (∀ b o, b ∉ C.tP → s.heap.get? b = some o → h.get? b = some o) → Inv (ds.length - i) { s with heap := h, toks := tk }) ∧
      (∀ k s' (G : Prop), Inv k s' → (∀ (i : Nat) (h : Heap) (tk : Nat) c fd fr, k = ds.length - i → s' = { s with heap := h, toks := tk } → i ≤ ds.length → s.toks ≤ tk → StR C Y cenv ρc own { s with heap := h, toks := tk } → Cont h D c → Rel h Y c fd → fd ++ fr = fs → CR cenv (ds.drop i) fr → SI i h Y → (∀ b o, b ∉ C.tP → s.heap.get? b = some o → h.get? b = some o) → G) → G)) fun Inv mk el => ?_
    · exact ⟨fun k s' => ∀ G : Prop, (∀ (i : Nat) (h : Heap) (tk : Nat) c fd fr, k = ds.length - i → s' = { s with heap := h, toks := tk } → i ≤ ds.length → s.toks ≤ tk → StR C Y cenv ρc own { s with heap := h, toks := tk } → Cont h D c → Rel h Y c fd → fd ++ fr = fs → CR cenv (ds.drop i) fr → SI i h Y → (∀ b o, b ∉ C.tP → s.heap.get? b = some o → h.get? b = some o) → G) → G, fun i h tk c fd fr a1 a2 a3 a4 a5 a6 a7 a8 a9 G k => k i h tk c fd fr rfl rfl a1 a2 a3 a4 a5 a6 a7 a8 a9, fun k s' G a b => a G b⟩
    have step : ∀ (i tk : Nat) (h6 : Heap) (tk6 : Nat) c fd fr, i < ds.length → s.toks ≤ tk6 → StR C Y cenv ρc own { s with heap := h6, toks := tk6 } → Cont h6 D c → Rel h6 Y c fd → fd ++ fr = fs → CR cenv (ds.drop (i + 1)) fr → SI (i + 1) h6 Y → (∀ b o, b ∉ C.tP → s.heap.get? b = some o → h6.get? b = some o) → ∃ m, m < ds.length - i ∧ Inv m { s with heap := h6, toks := tk6 } := fun i tk h6 tk6 c fd fr a1 a2 a3 a4 a5 a6 a7 a8 a9 =>
      ⟨ds.length - (i + 1), Nat.sub_lt_sub_left a1 (Nat.lt_succ_self i), mk (i + 1) h6 tk6 c fd fr a1 a2 a3 a4 a5 a6 a7 a8 a9⟩
    generalize hP : compPost (model C.prog C.w) A E use Q (.ref D) L = P
    refine codeAny_loop rfl Inv ?_ ds.length (mk 0 H3 tk2 c0 [] fs (Nat.zero_le _) ht2 S3 hDl (hR0 _ _) rfl hcL st3 sS)
    intro k s' hk
    refine el k s' _ hk fun i h tk c fd fr hk hs' hle htk Si hDi hvi hfd hcr' sti ki => ?_
    subst hk hs'
    rw [hund, hden, hturn]
    refine wpAny_noted ?_
    refine wpAny_bind (wpAny_standAt (wpAny_bind ?_))
    by_cases hlt : i < ds.length
    · refine it.item i _ _ _ Y ds[i] (List.getElem?_eq_getElem hlt) sti wrY Si.bd fun v s1 hgo => ?_
      refine wpAny_bind (hgo _ _ fun h' tk' hv st4 k4 hex ht => ?_)
      have S4 := Si.wrote (wr := wr) (h' := h') (tk := tk') (fun b hb => ⟨wrY b hb, (hwr b hb).1, hex b hb⟩) k4 ht (eL ▸ offW L nL) (fun p hp c hc => (offC p hp c (eC ▸ hc)).1) ownS
      have z4 : Fz Y h Y h' := fun b o hb e => ⟨hb, k4 b o (fun q => hb (wrY b q)) e⟩
      rw [List.drop_eq_getElem_cons hlt] at hcr'
      have sK : ∀ b o, b ∉ C.tP → s.heap.get? b = some o → h'.get? b = some o := fun b o hb e => k4 b o (nWr b ⟨o, e⟩) (ki b o hb e)
      have D4 : Cont h' D c := hCk hDi fun o e => k4 D o (offW D nD) e
      have tests : ∀ ρ1 (b : Bool) (Q' : Bool → Shared → Prop) (E' : Value → Shared → Prop), Asg target ds[i] ρc ρ1 → EvTs C n cenv ρ1 own ifs b →
          (∀ (h6 : Heap) (tk6 : Nat), tk' ≤ tk6 → StR C Y cenv ρ1 own { s with heap := h6, toks := tk6 } → Fz Y h' Y h6 → Cont h6 D c → (∀ b o, b ∉ C.tP → s.heap.get? b = some o → h6.get? b = some o) → (∀ b ∈ fp, ∀ o, h'.get? b = some o → h6.get? b = some o) → Q' b { s with heap := h6, toks := tk6 }) →
          wpAny (model C.prog C.w) A (assign target cenv v) (fun _ s5 => wpAny (model C.prog C.w) A (forIn ifs true fun c r => if r = true then do let ok ← isTrue c cenv (eval c cenv); pure (ForInStep.yield ok) else pure (ForInStep.yield r)) Q' E' s5) E' { s with heap := h', toks := tk' } := fun ρ1 b Q' E' ha hts hQ' => by
        refine ha.sound (sto { s with heap := h', toks := tk' }) A _ v _ _ R.h ⟨rfl, S4, ⟨_, _, rfl, Nat.le_refl _⟩, fun b o _ _ e => e⟩ hv fun s5 w3q z5 => e0a4 (w3q :) fun _ S5 w12q k5 => e2a2 w12q fun h5 tk5 hs5 ht5 => ?_
        subst hs5
        refine hts.sound R S5 fun s6 t6 => ?_
        have S6 := S5.step t6
        revert S6
        apply Stp.elim t6; intro h6 tk6 ht6 k6 T6 t6 S6
        refine hQ' h6 tk6 (Nat.le_trans ht5 ht6) S6 (z5.trans (t6.fz S5.tx)) (hCk (hCk D4 fun o e => k5 D o hDL (fun p hp q => ncD p hp q.symm) e) fun o e => k6 D o nDtp e) (fun b o hb e => ?_) fun b hb o e => ?_
        · have w := neN b ⟨o, k2 b o hb e⟩
          exact k6 b o hb (k5 b o w.2.1 w.2.2 (sK b o hb e))
        · have w := neN b (hfp2 b hb)
          exact k6 b o (hfpt b hb) (k5 b o w.2.1 w.2.2 e)
      rcases hcr hcr' with q | q
      · refine e3a6 (q :) fun f fr' ρ1 hf0 ha hf hts hel hr => ?_
        subst hf0
        refine wpAny_bind (wpAny_mono (tests ρ1 true (fun b s6 => _) _ ha hts fun h6 tk6 ht6 S6 z6 D6 sK6 f6 => ?_) (fun _ _ q => wpAny_bind q) fun _ _ q => q)
        refine wpAny_bind (hEm cenv ρ1 Y D f c fd fr' _ _ _ hel S6 nDtp D6 (hRk (z4.trans z6) hvi) hfd fun h7 tk7 h8 tk8 c' t7 hs8 ht8 D8 r8 => wpAny_pure ⟨rfl, ?_⟩)
        have S7 := S6.step t7
        have z8 : Fz Y h7 Y h8 := fz_same DY hs8
        have S8 := (S7.forget hf).wrote (wr := [D]) (h' := h8) (tk := tk8) (fun b hb => by rw [List.mem_singleton.mp hb]; exact ⟨DY, nDtp, hCe D8⟩) (fun b o hb e => hs8.extBut b o (fun q => hb (q ▸ List.mem_singleton.mpr rfl)) e) ht8
          (fun q => hDL ((List.mem_singleton.mp q).symm.trans eL)) (fun p hp c hc q => (offC p hp c (eC ▸ hc)).2 (List.mem_singleton.mp q)) (fun p hp q => (neN _ (ownE p hp)).1 (List.mem_singleton.mp q))
        have z7 := t7.fz S6.tx
        have kk := t7.keep
        exact step i tk h8 tk8 c' (fd ++ [f]) fr' hlt (Nat.le_trans htk (Nat.le_trans ht (Nat.le_trans ht6 (Nat.le_trans t7.tk ht8)))) S8 D8 (r8 DY) (by rw [List.append_assoc]; exact hfd) hr (it.frame (i + 1) _ _ _ _ st4 (z6.trans (z7.trans z8)) fun b hb o e => hs8.extBut b o (neN b (hfp2 b hb)).1 (kk b o (hfpt b hb) (f6 b hb o e))) fun b o hb e => hs8.extBut b o (neN b ⟨o, k2 b o hb e⟩).1 (kk b o hb (sK6 b o hb e))
      · refine e1a4 (q :) fun ρ1 ha hf hts hr => ?_
        refine wpAny_bind (wpAny_mono (tests ρ1 false (fun b s6 => _) _ ha hts fun h6 tk6 ht6 S6 z6 D6 sK6 f6 => ?_) (fun _ _ q => wpAny_bind q) fun _ _ q => q)
        exact wpAny_pure ⟨rfl, step i tk h6 tk6 c fd fr hlt (Nat.le_trans htk (Nat.le_trans ht ht6)) (S6.forget hf) D6 (hRk (z4.trans z6) hvi) hfd hr (it.frame (i + 1) _ _ _ _ st4 z6 f6) sK6⟩
    · have hi : i = ds.length := Nat.le_antisymm hle (Nat.le_of_not_lt hlt)
      subst hi
      rw [List.drop_length] at hcr'
      have e0 := hcr0 hcr'
      subst e0
      rw [List.append_nil] at hfd
      subst hfd
      refine it.done _ _ _ Y sti fun h' tk' k4 ht => wpAny_pure ?_
      have z4 : Fz Y h Y h' := fun b o hb e => ⟨hb, k4 b o (fun q => hb (wrY b q)) e⟩
      refine e1a2 (Si.vars :) fun m hn _ => ?_
      have sub : ∀ b ∈ D :: L :: X, b ∈ Y := fun b hb => (memY b).mpr ((List.mem_cons.mp hb).imp id fun hb => (List.mem_cons.mp hb).imp id fun hb => .inr (.inr hb))
      have T4 : TabOk C h' Y := Si.tab.mono z4 fun P hP o e => k4 P o (fun q => (hwr P q).1 hP) e
      have noS : ∀ b, h2.get? b = none → s.heap.get? b = none := fun b hb => by
        cases e : s.heap.get? b with
        | none => rfl
        | some o => exact absurd (k2 b o (ntp b hb) e) (by rw [hb]; exact nofun)
      show P (.ok .next) _
      rw [← hP]
      exact hQ D L _ c m ⟨h', tk', rfl, Nat.le_trans htk ht, fun b o hb e => k4 b o (nWr b ⟨o, e⟩) (ki b o hb e), T4.less fun b hb => sub b (List.mem_cons_of_mem _ (List.mem_cons_of_mem _ hb))⟩ kD (noS D nD) (noS L nL) hDL nDtp (ntp L nL) (T4.less sub) (hCk hDi fun o e => k4 D o (offW D nD) e) (hRk (z4.trans (fz_less sub)) hvi) (eL ▸ hn.at' fun o e => k4 _ o (eL ▸ offW L nL) e)
  exact hstart _ _ _ _ _ loop (it.self 0 _ _ _ Y st3 loop)
theorem comp_core {elt target iter : Expr} {ifs : List Expr} {scope : Scope} {pos pos' : Pos} {ds fs : List D} {frozen : Bool} {use : Option (Value → Sem Unit)} {A : Around} {X : List Addr} {s : Shared} {E : Value → Shared → Prop} {Q : Value → Shared → Prop}
    (hi : EvI C n env ρ own iter ds frozen) (H : CompS C ρ ρc scope) (hc : ∀ L cells, CompR C n (compEnvC scope cells L env) ρc own target elt ifs ds fs) (hz : fs.length ≤ sizeLine) (hs : ∀ x, foldedSetIterable iter env x = pure x)
    (R : Room A n) (S : StR C X env ρ own s)
    (hQ : ∀ D L s' vs m, Stp C X s s' → s.heap.get? D = none → s.heap.get? L = none → D ≠ L → D ∉ C.tP → L ∉ C.tP → TabOk C s'.heap (D :: L :: X) → s'.heap.PlainList D vs → VRs C s'.heap (D :: L :: X) vs.toList fs → s'.heap.Ns L m →
      compPost (model C.prog C.w) A E use Q (.ref D) L (.ok .next) s') :
    wpAny (model C.prog C.w) A (comprehension (.ListComp elt [⟨target, iter, ifs, 0⟩] scope pos) scope env pos' (newList []) false (eval iter env) use) Q E s := by
  refine comp_gen (Cont := fun h a vs => h.PlainList a vs) (Rel := fun h Y vs fd => VRs C h Y vs.toList fd) (CR := fun cenv ds fs => CompR C n cenv ρc own target elt ifs ds fs) (El := fun cenv ρ1 f => Ev C n cenv ρ1 own elt f) (emit := fun D cenv => do let _ ← call (.builtin "list.append") [.ref D, ← eval elt cenv]) (o1 := { cls := .type "list", dict := none, data := .seq ([] : List Value).toArray }) (c0 := #[])
    rfl (fun _ _ _ => rfl) (fun _ _ _ => rfl) (fun I D cenv => compTurn_list ..) (fun _ _ _ _ _ h0 h => codeAny_compStart_list h0 h) (fun _ _ h => wpAny_newObj_type h) (fun h => ⟨_, Heap.get?_push_size _ rfl⟩) (fun _ _ => .nil) (fun a e => a.at e) (fun a => e1a1 a fun _ e => ⟨_, e⟩) (fun z r => r.mono z) ?_ hc ?_ (fun q => by cases q; rfl) ?_ H hs R S (fun D L s' vs m t _ => hQ D L s' vs m t)
  · intro cenv ρ1 Y D f vs fd fr s Q E hel S hD D6 hvi hfd hQ
    refine wpAny_bind (hel A Y _ _ _ R S fun v7 s7 t7 r7 => ?_)
    revert r7; apply Stp.elim t7; intro h7 tk7 ht7 k7 T7 t7 r7
    have hvl : vs.size ≤ sizeLine := by
      have e1 := hvi.length
      have e2 := congrArg List.length hfd
      simp only [Array.length_toList, List.length_append] at e1 e2
      lia
    refine wpAny_bind (wpAny_list_append_plain (hsz := hvl) (D6.at fun o e => k7 D o hD e) fun h8 hl8 hs8 => wpAny_pure (hQ h7 tk7 h8 tk7 _ t7 hs8 (Nat.le_refl _) hl8 fun DY => ?_))
    rw [Array.toList_push]
    have z8 := fz_same DY hs8
    exact (hvi.mono ((t7.fz S.tx).trans z8)).append (.cons (r7.mono z8) .nil)
  · intro cenv d ds fs q
    cases q with
    | keep hT hr => exact .inl (e1a4 hT fun ρ1 a b c d => ⟨_, _, ρ1, rfl, a, b, c, d, hr⟩)
    | skip hT hr => exact .inr (e1a3 hT fun ρ1 a b c => ⟨ρ1, a, b, c, hr⟩)
  · intro Q h
    exact hi A X s _ E R S fun I s2 fp wr SI t2 tab2 hwr hfp _ _ it st => h I s2 fp wr SI t2 tab2 hwr hfp ⟨it.frame, fun i s Q E Y d hd st hY _ hQ => it.item i s Q E Y d hd st hY fun v h' tk' hv st4 k4 hex ht => hQ v _ fun Q' E' k => it.go (i + 1) _ _ _ Y target v st4 (k h' tk' hv st4 k4 hex ht), it.done, it.self⟩ st
end
end
section
open PySem PySem.Calls
section
variable {C : Cx} {n : Nat} {env : Env} {ρ ρ' ρc : Rho} {own own' : Own} {K : Out → Prop}
noncomputable def EvN (C : Cx) (n : Nat) (env : Env) (ρ : Rho) (own : Own) (e : Expr) (ds : List D) : Prop :=
  ∀ (A : Around) (X : List Addr) (s : Shared) (Q : Value → Shared → Prop) (E : Value → Shared → Prop), Room A n → StR C X env ρ own s →
    (∀ a s' vs, Stp C X s s' → s.heap.get? a = none → a ∉ C.tP → TabOk C s'.heap (a :: X) → s'.heap.PlainList a vs → VRs C s'.heap (a :: X) vs.toList ds → Q (.ref a) s') → wpAny (model C.prog C.w) A (eval e env) Q E s
theorem new_off {X : List Addr} {s s' : Shared} {a : Addr} (B : Bs C X s) (h : s.heap.get? a = none) : a ∉ X := fun q => e1a1 (B.bd a q :) fun o e => by rw [h] at e; cases e
theorem Ev_new {e : Expr} {ds : List D} (h : EvN C n env ρ own e ds) : Ev C n env ρ own e (.list ds) := by
  intro A X s Q E R S hQ
  refine h A X s Q E R S fun a s' vs t na ta T P r => hQ _ _ t (.list (new_off (s' := s) S.toBs na) P.isList (r.mono (fz_less fun b hb => List.mem_cons_of_mem _ hb)))
theorem EvN_comp {elt target iter : Expr} {ifs : List Expr} {scope : Scope} {pos : Pos} {ds fs : List D} {frozen : Bool} (ρc : Rho) (hi : EvI C n env ρ own iter ds frozen) (H : CompS C ρ ρc scope)
    (hc : ∀ L cells, CompR C n (compEnvC scope cells L env) ρc own target elt ifs ds fs) (hz : fs.length ≤ sizeLine) (hs : ∀ x, foldedSetIterable iter env x = pure x := by intro _; rfl) :
    EvN C n env ρ own (.ListComp elt [⟨target, iter, ifs, 0⟩] scope pos) fs := by
  intro A X s Q E R S hQ
  rw [eval_ListComp]
  refine comp_core hi H hc hz hs R S fun D L s' vs m t nD nL hDL tD tL T P r hn => ⟨m, hn, fun h' hs' => ?_⟩
  have hk : ∀ b o, s.heap.get? b = some o → s'.heap.get? b = some o → h'.get? b = some o := fun b o e e' => hs'.extBut b o (fun q => by rw [q, nL] at e; cases e) e'
  have LT : ∀ P ∈ C.tP, P ≠ L := fun P hP q => tL (q ▸ hP)
  have z : Fz (D :: L :: X) s'.heap (D :: X) h' := fun b o hb e => ⟨fun q => hb (by
      rcases List.mem_cons.mp q with r | q
      · exact r ▸ List.mem_cons_self
      · exact List.mem_cons_of_mem _ (List.mem_cons_of_mem _ q)), hs'.extBut b o (fun q => hb (q ▸ List.mem_cons_of_mem _ List.mem_cons_self)) e⟩
  have T' : TabOk C h' (D :: X) := T.mono z fun P hP o e => hs'.extBut P o (LT P hP) e
  refine e2a4 (t :) fun h1 tk e1 z1 k1 T1 => ?_
  subst e1
  refine hQ D _ vs ⟨h', tk, rfl, z1, fun b o hb e => hk b o e (k1 b o hb e), T'.less fun b hb => List.mem_cons_of_mem _ hb⟩ nD tD T' ?_ (r.mono z)
  exact P.extBut hs'.extBut hDL
theorem push_new {X : List Addr} {s s1 : Shared} {vs : Array Value} {ds : List D} {Q : Value → Shared → Prop} (B : Bs C X s1) (t1 : Stp C X s s1) {l : List Value} (r1 : VRs C s1.heap X l ds) (he : vs.toList = l)
    (hQ : ∀ a s' vs, Stp C X s s' → s.heap.get? a = none → a ∉ C.tP → TabOk C s'.heap (a :: X) → s'.heap.PlainList a vs → VRs C s'.heap (a :: X) vs.toList ds → Q (.ref a) s') :
    Q (.ref s1.heap.objs.size) { s1 with heap := s1.heap.push { cls := .type "list", data := .seq vs } } := by
  have z : Fz X s1.heap (s1.heap.objs.size :: X) (s1.heap.push { cls := .type "list", data := .seq vs }) := fz_new B.new
  have na : s1.heap.objs.size ∉ C.tP := fun q => B.new (B.tx _ q)
  refine hQ _ _ vs (t1.trans (Stp.push B _)) (t1.fresh B) na (B.tab.mono z fun P _ o e => Heap.get?_push_of_some _ e) ⟨_, Heap.get?_push_size _ rfl⟩ (by rw [he]; exact r1.mono z)
theorem EvN_list {es : List Expr} {pos : Pos} {ds : List D} (h : Evs C n env ρ own es ds) (hz : es.length ≤ 1000 := by decide) : EvN C n env ρ own (.List es pos) ds := by
  intro A X s Q E R S hQ
  refine wpAny_List (h.sound pos A X s _ E R S fun vs s1 t1 r1 => ⟨?_, ?_⟩)
  · rw [r1.length, ← h.length]; exact Nat.le_trans hz (by decide)
  · exact push_new (S.step t1).toBs t1 r1 (by simp) hQ
theorem Pst.inner {X wr : List Addr} {o0 : Own} {s0 s s' : Shared} (p0 : Pst C X env o0 own s0 s) (hwr : ∀ b ∈ wr, s0.heap.get? b = none) (p : Pst C (wr ++ X) env own own' s s') : Pst C X env o0 own' s0 s' := by
  refine ⟨?_, fun b o hb e => ?_, fun b hb ht o e => p.hid b (hb.imp (List.mem_append_right _) id) ht o (p0.hid b hb ht o e)⟩
  · refine e2a2 (p0.same :) fun h tk r2q z => ?_; subst r2q
    refine e2a2 (p.same :) fun h' tk' r2q z' => ?_; subst r2q
    exact ⟨h', tk', rfl, Nat.le_trans z z'⟩
  · refine e0a2 (p0.fz b o hb e :) fun h1 h2 => ?_
    have hb' : b ∉ wr := fun q => by rw [hwr b q] at e; cases e
    refine e0a2 (p.fz b o (fun q => (mem_ins.mp q).elim hb' h1) h2 :) fun h3 h4 => ?_
    exact ⟨fun q => h3 (mem_ins.mpr (.inr q)), h4⟩
theorem Pst.wrote {X wr : List Addr} {o0 : Own} {s0 s : Shared} {h' : Heap} {tk : Nat} (p : Pst C X env o0 own s0 s) (hwr : ∀ b ∈ wr, s0.heap.get? b = none) (k : ∀ b o, b ∉ wr → s.heap.get? b = some o → h'.get? b = some o) (ht : s.toks ≤ tk) :
    Pst C X env o0 own s0 { s with heap := h', toks := tk } := by
  refine ⟨?_, fun b o hb e => ?_, fun b hb hbt o e => k b o (fun q => by rw [hwr b q] at e; cases e) (p.hid b hb hbt o e)⟩
  · refine e2a2 (p.same :) fun h tk r2q z => ?_; subst r2q
    exact ⟨h', _, rfl, Nat.le_trans z ht⟩
  · refine e0a2 (p.fz b o hb e :) fun h1 h2 => ?_
    exact ⟨h1, k b o (fun q => by rw [hwr b q] at e; cases e) h2⟩
theorem St.kf' {X : List Addr} {s : Shared} (S : St C X env ρ own s) : env.blockKind = .function := by
  simp only [Env.blockKind, S.kf, ScopeKind.isAnnotationScope, Bool.false_and, Bool.false_eq_true, if_false]
theorem Es_setComp {x : Str} {p spos : Pos} {elt target iter : Expr} {ifs : List Expr} {scope : Scope} {pos : Pos} {ds fs : List D} {frozen : Bool} (ρc : Rho) (hi : EvI C n env ρ own iter ds frozen) (H : CompS C ρ ρc scope)
    (hc : ∀ L cells, CompR C n (compEnvC scope cells L env) ρc own target elt ifs ds fs) (hz : fs.length ≤ sizeLine) (hu : Up ρ x (.list fs) ρ') (hloc : ∃ o, (x, Sl.loc, o) ∈ ρ) (h : K (.next ρ' own))
    (hst : (p.line == pos.line && !(scope.names.any fun (n, k) => n == x && (k == .local || k == .cell))) = true) (hs : ∀ x, foldedSetIterable iter env x = pure x := by intro _; rfl) :
    Es C n env ρ own (.Assign [.Name x p] (.ListComp elt [⟨target, iter, ifs, 0⟩] scope pos) spos) K := by
  intro A X s Q E R S hQ
  refine e1a1 (hloc :) fun o hm => ?_
  refine e1a2 (S.vars :) fun m0 hn0 hv0 => ?_
  have hk : env.kindOf x = some .local := (hv0 _ hm).elimL fun _ b _ => b
  have hsw : swapsWith (.ListComp elt [⟨target, iter, ifs, 0⟩] scope pos) (some (.Name x p)) spos.line env = pure true := by
    show (pure (env.blockKind == .function && env.kindOf x == some .local && p.line == pos.line && !(scope.names.any fun (n, k) => n == x && (k == .local || k == .cell))) : Sem Bool) = pure true
    rw [S.kf', hk, Bool.and_assoc, hst]
    rfl
  rw [exec_Assign_Name_used _ _ _ _ hsw]
  refine wpAny_bind (wpAny_standAt (wpAny_bind ?_))
  show wpAny _ A (do let _ ← comprehension (.ListComp elt [⟨target, iter, ifs, 0⟩] scope pos) scope env _ (newList []) false (eval iter env) (some (assign (.Name x p) env))) _ _ s
  refine wpAny_bind (wpAny_mono (comp_core (use := some (assign (.Name x p) env)) (Q := fun _ s' => Q .next s') hi H hc hz hs R S.toStR fun D L s' vs m t nD nL hDL tD tL T P r hn => ?_) (fun _ s' hq => wpAny_pure (wpAny_pure hq)) fun _ _ e => e)
  have F : Fresh C (Wx env own ++ X) s s' [L] (Wx env own ++ ([L] ++ X)) := ⟨fun b hb => by rw [List.mem_singleton.mp hb]; exact ⟨tL, nL, e3a2 (hn :) fun o _ _ e _ => ⟨o, e⟩⟩, fun b => mem_ins, T.less fun b hb => by
    rcases mem_ins.mp hb with q | q
    · exact List.mem_cons_of_mem _ (List.mem_append_left _ q)
    · exact List.mem_cons_of_mem _ (List.mem_cons_of_mem _ q)⟩
  have S1 := S.hide t F
  have p1 : Pst C X env own own s s' := (S.stp t).2
  have hDoff : D ∉ Wx env own ++ ([L] ++ X) := fun q => (mem_ins.mp q).elim (fun r => hDL (List.mem_singleton.mp r)) (new_off (s' := s) S.toBs nD)
  show wpAny _ A (assign (.Name x p) env (.ref D)) _ _ _
  refine PyProof.Rows.assign_Name (S1.store (.list hDoff P.isList (r.mono (fz_less fun b hb => ?_))) hu fun s2 p2 S2 => ?_)
  · rcases mem_ins.mp hb with q | q
    · exact List.mem_cons_of_mem _ (List.mem_append_left _ q)
    · exact List.mem_cons_of_mem _ (List.mem_cons_of_mem _ q)
  have hn2 : s2.heap.Ns L m := hn.at' fun o e => p2.hid L (.inl (List.mem_append_left _ (List.mem_singleton.mpr rfl))) tL o e
  refine ⟨m, hn2, fun h' hs' => ?_⟩
  have kL : ∀ b o, b ∉ [L] → s2.heap.get? b = some o → h'.get? b = some o := fun b o hb e => hs'.extBut b o (fun q => hb (q ▸ List.mem_singleton.mpr rfl)) e
  have hwr : ∀ b ∈ [L], s.heap.get? b = none := fun b hb => by rw [List.mem_singleton.mp hb]; exact nL
  have LX : L ∉ X := fun q => new_off (s' := s) S.toBs nL (List.mem_append_right _ q)
  exact hQ _ _ _ h (.next ((p1.inner hwr p2).wrote hwr kL (Nat.le_refl s2.toks)) (S2.dropped S.txx (fun b hb q => LX (List.mem_singleton.mp q ▸ hb)) kL (Nat.le_refl s2.toks)))
end
end
section
open PySem PySem.Calls
section
variable {C : Cx} {n : Nat} {env : Env} {ρ ρ' ρc : Rho} {own own' : Own} {K : Out → Prop}
open PyProof.Rows in
theorem EvN_add {l r : Expr} {pos : Pos} {xs ys : List D} (hl : Ev C n env ρ own l (.list xs)) (hr : Ev C n env ρ own r (.list ys)) (hs : xs.length + ys.length ≤ sizeLine) : EvN C n env ρ own (.BinOp l .Add r pos) (xs ++ ys) := by
  intro A X s Q E R S hQ
  refine wpAny_BinOp (hl A X s _ E R S fun v1 s1 t1 r1 => hr A X s1 _ E R (S.step t1) fun v2 s2 t2 r2 => ?_)
  have S2 := (S.step t1).step t2
  have r1 := r1.mono (t2.fz (S.step t1).tx)
  apply VR.elimL r1
  · intro _ _ h1 hl1 hv1
    apply VR.elimL r2
    · intro _ _ h2 hl2 hv2
      rename_i a1 vs1 a2 vs2
      obtain ⟨⟨c1, dd1, da1, sl1⟩, ho1, e1, n1, e1'⟩ := id hl1
      obtain ⟨⟨c2, dd2, da2, sl2⟩, ho2, e2, n2, e2'⟩ := id hl2
      dsimp only at e1 e1' e2 e2'
      subst e1 e1' e2 e2'
      have z1 := hv1.length
      have z2 := hv2.length
      simp only [Array.length_toList] at z1 z2
      refine concat_meets ⟨_, ho1, rfl⟩ ⟨_, ho2, rfl⟩ noFill_list_add seq_list_add PySem.F.slot_list_add PySem.F.entry_list_add (PySem.F.args_list_add_2 _ _) (list_addW _ _ vs1 vs2 n1 n2 dd1 dd2 sl1 sl2 (by lia)) ⟨ho1, ho2, ?_⟩
      exact push_new S2.toBs (t1.trans t2) (hv1.append hv2) (by simp) hQ
theorem VRs.repl {X : List Addr} {h : Heap} {vs : List Value} {ds : List D} (r : VRs C h X vs ds) : ∀ k, VRs C h X (List.replicate k vs).flatten (List.replicate k ds).flatten
  | 0 => .nil
  | k + 1 => by simp only [List.replicate_succ, List.flatten_cons]; exact r.append (VRs.repl r k)
theorem EvN_mul {l r : Expr} {pos : Pos} {xs : List D} {k : Int} (hl : EvN C n env ρ own l xs) (hr : ∀ own, Ev C n env ρ own r (.int k)) (h0 : -(2 ^ 63 : Int) ≤ k) (h1 : k < 2 ^ 63) (hs : xs.length * k.toNat ≤ 2 ^ 24) : EvN C n env ρ own (.BinOp l .Mult r pos) (List.replicate k.toNat xs).flatten := by
  intro A X s Q E R S hQ
  refine wpAny_BinOp (hl A X s _ E R S fun a s1 vs1 t1 na ta T1 P1 r1 => hr own A X s1 _ E R (S.step t1) fun v2 s2 t2 r2 => ?_)
  have S2 := (S.step t1).step t2
  apply VR.elimI r2; intro _
  refine e1a1 (P1 :) fun n1 e1 => ?_
  have e2 := t2.keep _ _ ta e1
  have r2 := (r1.mono (fz_less fun b hb => List.mem_cons_of_mem _ hb)).mono (t2.fz (S.step t1).tx)
  have z1 := r1.length
  simp only [Array.length_toList] at z1
  have hsz : vs1.size * k.toNat ≤ 2 ^ 24 := by rw [z1]; exact hs
  refine wpAny_binaryOp_repeat_ref (T := "list") (U := "int") (by decide) ⟨_, e2, rfl⟩ (fun s' => typeIs_int s' k _) noFill_list_mul F.fills_int_mul F.slot_int_rmul repeat_list F.slot_int_index.lookup
    (call_meets F.slot_int_rmul (typeIs_int s2 k _) F.entry_int_rmul (F.args_int_rmul_2 _ _) (int___rmul___int_list k _ a vs1 n1)
      ⟨e2, rfl, ⟨_, e2, rfl⟩, call_meets F.slot_list_mul ⟨_, e2, rfl⟩ F.entry_list_mul (F.args_list_mul_2 _ _)
        (AutoListH.list___mul___list_int_3 a vs1 n1 k _ (by simp [Builtin.List.listFitsIndex]; lia) (by lia) (by simp [Builtin.List.listTooLong, sizeLine]; exact hsz))
        ⟨e2, ?_⟩⟩)
  exact push_new S2.toBs (t1.trans t2) (r2.repl k.toNat) (by rw [PyProof.Rows.listMul_foldl_if]) hQ
theorem EvN_listOf {x : Str} {p pos : Pos} {e : Expr} {ds : List D} (hx : At ρ x (.val (.type "list"))) (he : Ev C n env ρ own e (.list ds)) (hst : starEach [e] env = (false, eval e env) :: starEach [] env) (hz : ds.length ≤ sizeLine) : EvN C n env ρ own (.Call (.Name x p) [e] [] pos) ds := by
  intro A X s Q E R S hQ
  have hs : Evs C n env ρ own [e] [.list ds] := .cons he .nil hst
  refine PyProof.Rows.Call_Name rfl (Ev_name hx A X s _ E R S fun v1 s1 t1 r1 => ?_)
  apply VR.elimV r1
  refine PyProof.Rows.callWith_type1 (hs.sound pos A X s1 _ E R (S.step t1) fun vs s2 t2 r2 => ?_) hs.tail1.2 (hs.tail1.1.plain pos)
  have S2 := (S.step t1).step t2
  apply VRs.elimC r2
  intro _ _ r0 rs
  apply VRs.elimN rs
  apply VR.elimL r0
  · intro _ _ hx hl hv
    rename_i a us
    refine e1a3 (id hl :) fun o ho hc w1q => e1a1 w1q fun m hd => ?_
    have z := hv.length
    simp only [Array.length_toList] at z
    refine call_list_seq (hsz := by lia) a (.inl rfl) ho hc hd fun h' c' hk hD => ?_
    have z2 : Fz X s2.heap (s2.heap.objs.size :: X) h' := fun b o hb e => ⟨fun q => (List.mem_cons.mp q).elim (fun r => Nat.ne_of_lt (Heap.lt_size e) r) hb, hk b o e⟩
    have t3 : Stp C X s2 { s2 with heap := h' } := Stp.of_keeps (tk := s2.toks) S2.toBs hk
    exact hQ _ _ us ((t1.trans t2).trans t3) ((t1.trans t2).fresh S2.toBs) (fun q => S2.toBs.new (S2.tx _ q)) (S2.tab.mono z2 fun P _ o e => hk P o e) ⟨c', hD⟩ (hv.mono z2)
noncomputable def EvW (C : Cx) (n : Nat) (env : Env) (ρ : Rho) (own : Own) (e : Expr) (K : D → Own → Prop) : Prop :=
  ∀ (A : Around) (X : List Addr) (s : Shared) (Q : Value → Shared → Prop) (E : Value → Shared → Prop), Room A n → St C X env ρ own s →
    (∀ d own' v s', K d own' → Pst C X env own own' s s' → St C X env ρ own' s' → VR C s'.heap (Wx env own' ++ X) v d → Q v s') → wpAny (model C.prog C.w) A (eval e env) Q E s
theorem EvW_pure {e : Expr} {d : D} {K : D → Own → Prop} (he : Ev C n env ρ own e d) (h : K d own) : EvW C n env ρ own e K := by
  intro A X s Q E R S hQ
  exact he A _ s _ E R S.toStR fun v s' t r => hQ _ _ _ _ h (S.stp t).2 (S.stp t).1 r
theorem wx_new {X : List Addr} {a : Addr} {ds : List D} {b : Addr} : b ∈ Wx env ((a, ds) :: own) ++ X ↔ b ∈ a :: (Wx env own ++ X) := by
  simp only [Wx, List.map_cons, List.mem_append, List.mem_cons]
  constructor
  · rintro ((h | h | h | h) | h)
    · exact .inr (.inl (.inl h))
    · exact .inr (.inl (.inr (.inl h)))
    · exact .inl h
    · exact .inr (.inl (.inr (.inr h)))
    · exact .inr (.inr h)
  · rintro (h | (h | h | h) | h)
    · exact .inl (.inr (.inr (.inl h)))
    · exact .inl (.inl h)
    · exact .inl (.inr (.inl h))
    · exact .inl (.inr (.inr (.inr h)))
    · exact .inr h
theorem St.own_new {X : List Addr} {s s' : Shared} {a : Addr} {vs : Array Value} {ds : List D} (S : St C X env ρ own s) (t : Stp C (Wx env own ++ X) s s') (na : s.heap.get? a = none) (ta : a ∉ C.tP) (T : TabOk C s'.heap (a :: (Wx env own ++ X))) (P : s'.heap.PlainList a vs)
    (r : VRs C s'.heap (a :: (Wx env own ++ X)) vs.toList ds) : St C X env ρ ((a, ds) :: own) s' ∧ Pst C X env own ((a, ds) :: own) s s' := by
  have hoff : a ∉ Wx env own ++ X := new_off (s' := s) S.toBs na
  have F : Fresh C (Wx env own ++ X) s s' [a] (Wx env ((a, ds) :: own) ++ X) := ⟨fun b hb => by rw [List.mem_singleton.mp hb]; exact ⟨ta, na, e1a1 (P :) fun _ e => ⟨_, e⟩⟩, fun b => by rw [wx_new, List.mem_cons, List.mem_singleton], T.less fun b hb => wx_new.mp hb⟩
  have H := S.toStR.hide t F
  refine ⟨⟨⟨H.toBs, H.kf, H.gl, H.bl, H.lt, H.vars, fun p hp => ?_⟩, ?_, fun b hb => ?_, S.txx, S.nr⟩, ⟨?_, ?_, fun b hb ht o e => t.keep b o ht e⟩⟩
  · rcases List.mem_cons.mp hp with rfl | hp
    · exact ⟨ta, vs, P, r.mono (fz_less fun b hb => wx_new.mp hb)⟩
    · exact H.owned p hp
  · have nd := S.nd
    have hW : a ∉ Wx env own := fun q => hoff (List.mem_append_left _ q)
    simp only [Wx, List.mem_cons, List.mem_append, not_or] at hW
    simp only [Wx, List.nodup_cons, List.nodup_append, List.map_cons, List.mem_append, List.mem_cons, not_or] at nd ⊢
    refine ⟨⟨nd.1.1, fun q => hW.1 q.symm, nd.1.2⟩, nd.2.1, ⟨hW.2.2, nd.2.2.1⟩, fun b hb c hc => ?_⟩
    rcases hc with rfl | hc
    · exact fun q => hW.2.1 (q ▸ hb)
    · exact nd.2.2.2 b hb c hc
  · have : b ∈ a :: (Wx env own ++ X) := wx_new.mp (List.mem_append_left _ hb)
    rcases List.mem_cons.mp this with rfl | q
    · exact fun r => hoff (List.mem_append_right _ r)
    · rcases List.mem_append.mp q with q | q
      · exact S.off b q
      · exact fun r => by
          have hb' : b ∈ Wx env ((a, ds) :: own) := hb
          simp only [Wx, List.map_cons, List.mem_append, List.mem_cons] at hb'
          rcases hb' with h | h | h | h
          · exact S.off b (by rw [h]; exact List.mem_cons_self) r
          · exact S.off b (List.mem_cons_of_mem _ (List.mem_append_left _ h)) r
          · exact hoff (List.mem_append_right _ (h ▸ r))
          · exact S.off b (List.mem_cons_of_mem _ (List.mem_append_right _ h)) r
  · refine e2a3 (t :) fun h tk e z _ => ?_; exact ⟨h, tk, e, z⟩
  · exact F.fz (t.fz S.tx)
theorem EvW_new {e : Expr} {ds : List D} {K : D → Own → Prop} (he : EvN C n env ρ own e ds) (h : ∀ a, K (.ref a) ((a, ds) :: own)) : EvW C n env ρ own e K := by
  intro A X s Q E R S hQ
  refine he A _ s _ E R S.toStR fun a s' vs t na ta T P r => ?_
  refine e0a2 (S.own_new t na ta T P r :) fun S' p' => ?_
  exact hQ _ _ _ _ (h a) p' S' (.ref a)
end
end
section
open PySem PySem.Calls
inductive UpL : Rho → Str → D → Rho → Prop
  | head {x o r d} : UpL ((x, .loc, o) :: r) x d ((x, .loc, some d) :: r)
  | tail {p r x d r'} : UpL r x d r' → UpL (p :: r) x d (p :: r')
theorem UpL.up {ρ x d ρ'} (h : UpL ρ x d ρ') : Up ρ x d ρ' := by
  induction h with
  | head => exact .headL
  | tail _ ih => exact .tail ih
theorem UpL.loc {ρ x d ρ'} (h : UpL ρ x d ρ') : ∃ o, (x, Sl.loc, o) ∈ ρ := by
  induction h with
  | head => exact ⟨_, List.mem_cons_self⟩
  | tail _ ih => exact e1a1 ih fun o m => ⟨o, List.mem_cons_of_mem _ m⟩
theorem UpL.keep {ρ x d ρ'} {y : Str} (h : UpL ρ x d ρ') : (∃ o, (y, Sl.loc, o) ∈ ρ') → ∃ o, (y, Sl.loc, o) ∈ ρ := by
  induction h with
  | head => exact fun q => e1a1 q fun o m => (List.mem_cons.mp m).elim (fun e => by cases e; exact ⟨_, List.mem_cons_self⟩) fun m => ⟨o, List.mem_cons_of_mem _ m⟩
  | tail _ ih => exact fun q => e1a1 q fun o m => (List.mem_cons.mp m).elim (fun e => ⟨o, e ▸ List.mem_cons_self⟩) fun m => e1a1 (ih ⟨o, m⟩) fun o m => ⟨o, List.mem_cons_of_mem _ m⟩
inductive OUp : Own → Addr → List D → List D → Own → Prop
  | head {a ds ds' r} : OUp ((a, ds) :: r) a ds ds' ((a, ds') :: r)
  | tail {p r a ds ds' r'} : OUp r a ds ds' r' → OUp (p :: r) a ds ds' (p :: r')
theorem OUp.names {o a ds ds' o'} (h : OUp o a ds ds' o') : o'.map (·.1) = o.map (·.1) := by
  induction h with
  | head => rfl
  | tail _ ih => exact congrArg (List.cons _) ih
theorem OUp.mem0 {o a ds ds' o'} (h : OUp o a ds ds' o') : (a, ds) ∈ o := by
  induction h with
  | head => exact List.mem_cons_self
  | tail _ ih => exact List.mem_cons_of_mem _ ih
theorem OUp.mem {o a ds ds' o'} (h : OUp o a ds ds' o') : (o.map (·.1)).Nodup → ∀ p ∈ o', p = (a, ds') ∨ (p ∈ o ∧ p.1 ≠ a) := by
  induction h with
  | head =>
    intro nd p hp
    refine (List.mem_cons.mp hp).imp id fun hp => ⟨List.mem_cons_of_mem _ hp, fun q => ?_⟩
    have hh := List.mem_map_of_mem (f := fun p : Addr × List D => p.1) hp
    rw [q] at hh
    exact (List.nodup_cons.mp nd).1 hh
  | tail h ih =>
    intro nd p hp
    refine (List.mem_cons.mp hp).elim (fun e => .inr ⟨e ▸ List.mem_cons_self, fun q => ?_⟩) fun hp => (ih (List.nodup_cons.mp nd).2 p hp).imp id fun r => ⟨List.mem_cons_of_mem _ r.1, r.2⟩
    have hh := List.mem_map_of_mem (f := fun p : Addr × List D => p.1) h.mem0
    rw [← q, e] at hh
    exact (List.nodup_cons.mp nd).1 hh
inductive Sts : List Str → List D → Rho → Rho → Prop
  | nil {r} : Sts [] [] r r
  | cons {x d xs ds r r1 r2} : Up r x d r1 → Sts xs ds r1 r2 → Sts (x :: xs) (d :: ds) r r2
section
variable {C : Cx} {n : Nat} {env : Env} {ρ ρ' ρc : Rho} {own own' : Own} {K : Out → Prop}
theorem St.kind {X : List Addr} {s : Shared} (S : St C X env ρ own s) {x : Str} (h : ∃ o, (x, Sl.loc, o) ∈ ρ) : env.kindOf x = some .local := by
  refine e1a1 (h :) fun o hm => ?_
  refine e1a2 (S.vars :) fun m0 hn0 hv0 => ?_
  exact (hv0 _ hm).elimL fun _ b _ => b
theorem St.kindC {X : List Addr} {s : Shared} (S : St C X env ρ own s) {x : Str} (h : ∃ o, (x, Sl.cel, o) ∈ ρ) : env.kindOf x = some .cell := by
  refine e1a1 (h :) fun o hm => ?_
  refine e1a2 (S.vars :) fun m0 hn0 hv0 => ?_
  exact (hv0 _ hm).elimC fun _ b _ => b
theorem St.inter {X : List Addr} {s : Shared} (S : St C X env ρ own s) : interactive env = false := by
  unfold interactive; rw [S.kf]; rfl
theorem St.own_upd {X : List Addr} {s : Shared} {a : Addr} {ds ds' : List D} {vs : Array Value} {h' : Heap} (S : St C X env ρ own s) (u : OUp own a ds ds' own') (P : h'.PlainList a vs) (hs : Heap.SameBut a s.heap h')
    (r : VRs C h' (Wx env own ++ X) vs.toList ds') : St C X env ρ own' { s with heap := h' } ∧ Pst C X env own own' s { s with heap := h' } := by
  have hW : Wx env own' = Wx env own := by simp only [Wx, u.names]
  have haW : a ∈ Wx env own := List.mem_cons_of_mem _ (List.mem_append_right _ (List.mem_map_of_mem (f := fun p : Addr × List D => p.1) u.mem0))
  have hat : a ∉ C.tP := S.ntp haW
  have z : Fz (Wx env own ++ X) s.heap (Wx env own ++ X) h' := fz_same (List.mem_append_left _ haW) hs
  have nd1 := List.nodup_cons.mp S.nd
  have nd2 := List.nodup_append.mp nd1.2
  have haL : env.locals ≠ a := fun q => nd1.1 (q ▸ List.mem_append_right _ (List.mem_map_of_mem (f := fun p : Addr × List D => p.1) u.mem0))
  have hac : ∀ y c, env.cells.lookup y = some c → c ≠ a := fun y c hc q => nd2.2.2 c (List.mem_map_of_mem (f := fun p : Str × Addr => p.2) (mem_of_lookup hc)) a (List.mem_map_of_mem (f := fun p : Addr × List D => p.1) u.mem0) q
  refine ⟨⟨⟨⟨fun b o e => ?_, ?_, ?_, fun b hb => ?_, S.tk⟩, S.kf, S.gl, S.bl, S.lt, ?_, fun p hp => ?_⟩, by rw [hW]; exact S.nd, by rw [hW]; exact S.off, S.txx, S.nr⟩, ⟨⟨_, _, rfl, Nat.le_refl _⟩, by rw [hW]; exact z, fun b hb ht o e => hs.extBut b o (fun q => hb.elim (fun hb => S.off a haW (q ▸ hb)) fun w1q => e1a2 (w1q :) fun y hy _ => hac y b hy q) e⟩⟩
  · rw [hW]; refine e0a2 (S.base b o e :) fun p q => ?_; exact z b o p q
  · rw [hW]; exact S.tab.mono z fun Q hQ o e => hs.extBut Q o (fun q => hat (q ▸ hQ)) e
  · rw [hW]; exact S.tx
  · rw [hW] at hb
    by_cases q : b = a
    · rw [q]; exact e1a1 (P :) fun _ e => ⟨_, e⟩
    · refine e1a1 (S.bd b hb :) fun o e => ?_; exact ⟨o, hs.extBut b o q e⟩
  · refine e1a2 (S.vars :) fun m hn hv => ?_
    rw [hW]
    exact ⟨m, hn.at' fun o e => hs.extBut _ o haL e, fun p hp => (hv p hp).mono z (fun c hc _ o e => hs.extBut c o (hac _ c hc) e) rfl⟩
  · rw [hW]
    rcases u.mem nd2.2.1 p hp with rfl | ⟨hp, hne⟩
    · exact ⟨hat, vs, P, r⟩
    · refine e0a2 (S.owned p hp :) fun ht w8q => e1a2 w8q fun vs' a' b' => ?_
      exact ⟨ht, vs', a'.extBut hs.extBut hne, b'.mono z⟩
theorem Es_setW {x : Str} {p pos : Pos} {e : Expr} (he : EvW C n env ρ own e fun d own' => ∃ ρ', Up ρ x d ρ' ∧ K (.next ρ' own'))
    (hs : swapsWith e (some (.Name x p)) pos.line env = pure false := by rfl) : Es C n env ρ own (.Assign [.Name x p] e pos) K := by
  intro A X s Q E R S hQ
  refine wpAny_Assign_Name (he A X s _ E R S fun d own' v s1 w2q p1 S1 r => e1a2 (w2q :) fun ρ' hu hK => ?_) hs
  exact S1.store r hu fun s2 p2 S2 => hQ _ _ _ hK (.next (p1.trans p2) S2)
theorem Es_tup {elts : List Expr} {k : Nat} {tpos pos : Pos} {e : Expr} (he : EvW C n env ρ own e fun d own' => ∃ ρ', Asg (.Tuple elts k tpos) d ρ ρ' ∧ K (.next ρ' own'))
    (hs : swapsWithSole [.Tuple elts k tpos] e pos.line env = pure false := by rfl) (hw : (∃ o, env.scope.kind = o) → swappedStores [.Tuple elts k tpos] e env = pure none := by intro _; rfl) : Es C n env ρ own (.Assign [.Tuple elts k tpos] e pos) K := by
  intro A X s Q E R S hQ
  refine PyProof.Rows.Assign_Tuple (he A X s _ E R S fun d own' v s1 w3q p1 S1 r => e1a2 (w3q :) fun ρ' ha hK => ?_) hs (hw ⟨_, rfl⟩)
  exact ha.sound (St.sto (o0 := own') s1) A s1 v _ E R.h ⟨S1, .refl⟩ r fun s2 w4q _ => e0a2 (w4q :) fun S2 p2 => hQ _ _ _ hK (.next (p1.trans p2) S2)
theorem Es_tupC {elts : List Expr} {k : Nat} {tpos pos : Pos} {e : Expr} {x : Str} (hx : ∃ o, (x, Sl.cel, o) ∈ ρ) (he : EvW C n env ρ own e fun d own' => ∃ ρ', Asg (.Tuple elts k tpos) d ρ ρ' ∧ K (.next ρ' own'))
    (hw : env.blockKind = .function → env.kindOf x = some .cell → swappedStores [.Tuple elts k tpos] e env = pure none) (hs : swapsWithSole [.Tuple elts k tpos] e pos.line env = pure false := by rfl) : Es C n env ρ own (.Assign [.Tuple elts k tpos] e pos) K := by
  intro A X s Q E R S hQ
  refine PyProof.Rows.Assign_Tuple (he A X s _ E R S fun d own' v s1 w5q p1 S1 r => e1a2 (w5q :) fun ρ' ha hK => ?_) hs (hw S.kf' (S.kindC hx))
  exact ha.sound (St.sto (o0 := own') s1) A s1 v _ E R.h ⟨S1, .refl⟩ r fun s2 w6q _ => e0a2 (w6q :) fun S2 p2 => hQ _ _ _ hK (.next (p1.trans p2) S2)
theorem Sts.sound {X : List Addr} {o0 : Own} {s0 : Shared} {xs : List Str} {ds : List D} (h : Sts xs ds ρ ρ') : ∀ (A : Around) (s : Shared) (vs : List Value) (Q : Unit → Shared → Prop) (E : Value → Shared → Prop), St C X env ρ own s → Pst C X env o0 own s0 s → VRs C s.heap (Wx env own ++ X) vs ds →
    (∀ s', St C X env ρ' own s' → Pst C X env o0 own s0 s' → Q () s') → wpAny (model C.prog C.w) A (assignInOrder (xs.map fun x => bindName env x) vs) Q E s := by
  induction h with
  | nil =>
    intro A s vs Q E S p r hQ
    apply VRs.elimN r
    exact wpAny_pure (hQ s S p)
  | cons hu _ ih =>
    intro A s vs Q E S p r hQ
    apply VRs.elimC r
    intro _ _ r0 rs
    refine wpAny_bind (wpAny_holding (PyProof.Rows.bindName_ (S.store r0 hu fun s1 p1 S1 => ?_)))
    exact ih A s1 _ Q E S1 (p.trans p1) (rs.mono p1.fz) hQ
theorem Es_swap {elts : List Expr} {k : Nat} {tpos pos : Pos} {e : Expr} {names : List Str} (hn : ∀ x ∈ names, ∃ o, (x, Sl.loc, o) ∈ ρ) (he : EvW C n env ρ own e fun d own' => ∃ ds ρ', d = .tuple ds ∧ ds.length = names.length ∧ Sts names.reverse ds.reverse ρ ρ' ∧ K (.next ρ' own'))
    (hw : env.blockKind = .function → (∀ x ∈ names, env.kindOf x = some .local) → swappedStores [.Tuple elts k tpos] e env = pure (some names))
    (hs : swapsWithSole [.Tuple elts k tpos] e pos.line env = pure false := by rfl) : Es C n env ρ own (.Assign [.Tuple elts k tpos] e pos) K := by
  intro A X s Q E R S hQ
  refine PyProof.Rows.Assign_Tuple_swapped (he A X s _ E R S fun d own' v s1 w7q p1 S1 r => e2a4 (w7q :) fun ds ρ' hd hl ha hK => ?_) hs (hw S.kf' fun x hx => S.kind (hn x hx))
  subst hd
  apply VR.elimT r
  · intro _ _ hx hl2 hv
    rename_i a us
    have hz := hv.length
    simp only [Array.length_toList] at hz
    rw [← hl, ← hz]
    refine wpAny_unpackItems_tuple R.h hl2 fun h' he' => ?_
    have kp : ∀ b o, s1.heap.get? b = some o → h'.get? b = some o := fun b o e => he' b o (Nat.ne_of_lt (Heap.lt_size e)) e
    have t2 : Stp C (Wx env own' ++ X) s1 { s1 with heap := h' } := Stp.of_keeps (tk := s1.toks) S1.toBs kp
    refine e0a2 (S1.stp t2 :) fun S2 p2 => ?_
    exact ha.sound A _ _ _ E S2 (p1.trans p2) ((hv.mono (t2.fz S1.tx)).reverse) fun s' S' p' => hQ _ _ _ hK (.next p' S')
end
end
section
open PySem PySem.Calls
theorem setItem_plain {prog : Program} {w : World} {A : Around} {E : Value → Shared → Prop} {s : Shared} {l : Addr} {items : Array Value} {k : Int} {t : Tok} {v : Value} {Q : Unit → Shared → Prop} (hl : s.heap.PlainList l items)
    (h0 : 0 ≤ k) (hfit : k < 2 ^ 63) (hn : k < items.size)
    (hQ : ∀ h', h'.PlainList l (items.setIfInBounds k.toNat v) → Heap.SameBut l s.heap h' → Q () { s with heap := h' }) :
    wpAny (model prog w) A (setItem (.ref l) (.int k t) v) Q E s := by
  refine e1a1 (id hl :) fun ne ho => ?_
  have hd : ({ cls := .type "list", data := .seq items ne } : Obj).data = .seq items ne := rfl
  unfold setItem
  try with_reducible refine wpAny_holding ?_
  first | refine wpAny_bind (wpAny_pure ?_) | skip
  refine wpAny_bind (wpAny_sequenceKey hl.isList.typeIs (by decide) ?_)
  refine wpAny_bind (wpAny_callSpecial?_slot (name := Str.ofString "__setitem__") hl.isList.typeIs slot_list_setitem
    (wpAny_call_entry slot_list_setitem hl.isList.typeIs entry_list_setitem ?_ (args_list_setitem _ _ _)))
  show wpAny _ _ (Builtin.List.listSubscript? (.int k t) >>= _) _ _ s
  refine wpAny_bind (wpAny_listSubscript_int (fitsIndex_of h0 hfit) ?_)
  refine e1a1 (Int.eq_ofNat_of_zero_le h0 :) fun j r1q => ?_; subst r1q
  have hj : j < items.size := by lia
  have hx' : items[j]? = some items[j] := Array.getElem?_eq_getElem hj
  show wpAny _ _ ((seqItemAt l j >>= fun r => pure (r.map (j, ·))) >>= _) _ _ s
  refine wpAny_bind (wpAny_bind (wpAny_seqItemAt ho hd (wpAny_pure ?_)))
  rw [hx']
  show wpAny _ _ (setSeqItemAt l j v >>= _) _ _ s
  have hm : Obj.mapSeq (·.setIfInBounds j v) { cls := .type "list", data := .seq items ne } = { cls := .type "list", data := .seq (items.setIfInBounds j v) ne } := by simp [Obj.mapSeq]
  have hfin : (s.heap.update l (Obj.mapSeq (·.setIfInBounds j v))).PlainList l (items.setIfInBounds j v) :=
    ⟨ne, by rw [Heap.get?_update_self _ ho (by rw [hm]; rfl), hm]⟩
  refine wpAny_bind (wpAny_setSeqItemAt ho hd ?_)
  first
    | exact wpAny_bind (wpAny_pure (wpAny_pure ⟨.none, rfl, wpAny_pure (hQ _ hfin (Heap.SameBut.update ..))⟩))
    | exact wpAny_pure ⟨.none, rfl, wpAny_pure (hQ _ hfin (Heap.SameBut.update ..))⟩
section
variable {C : Cx} {n : Nat} {env : Env} {ρ ρ' ρc : Rho} {own own' : Own} {K : Out → Prop}
theorem Evs1.few {e : Expr} {pos : Pos} (hst : starEach [e] env = (false, eval e env) :: starEach [] env) : (backTo pos (starEach [e] env)).any (·.1) = false := by rw [hst]; rfl
theorem Es_append {o e : Expr} {apos pos spos : Pos} {a : Addr} {ds0 : List D} (ho : Ev C n env ρ own o (.ref a)) (ha : OAt own a ds0) (hst : starEach [e] env = (false, eval e env) :: starEach [] env)
    (he : EvW C n env ρ own e fun d own1 => ∃ ds own2, OUp own1 a ds (ds ++ [d]) own2 ∧ ds.length ≤ 1000000 ∧ K (.next ρ own2))
    (hbase : attributeBase o "append" env (eval o env) = eval o env) (hline : (apos.endLine == pos.line) = true) : Es C n env ρ own (.Expr (.Call (.Attribute o "append" apos) [e] [] pos) spos) K := by
  intro A X s Q E R S hQ
  refine wpAny_Expr ?_ S.inter rfl
  have hfew : ((backTo pos (starEach [e] env)).all (fun x => !x.1) && (backToKw pos (keywordEach [] env)).all (fun x => x.1.isSome)
      && decide ([e].length + ([] : List Keyword).length + (if ([] : List Keyword).isEmpty then 0 else 1) < 30)) = true := by rw [hst]; rfl
  refine wpAny_Call_method hbase hfew hline F.plainAttrs_list F.slot_list_append F.type_list_append (ho A _ s _ E R S.toStR fun v0 s1 t1 r1 => ?_)
  apply VR.elimR r1
  refine e0a2 (S.stp t1 :) fun S1 p1 => ?_
  refine e0a2 (S1.owned _ ha.mem :) fun _ w4q => e1a2 w4q fun vs0 w5q _ => e1a1 w5q fun n0 e0 => ?_
  refine ⟨⟨_, e0, rfl⟩, fun b e => ?_, ?_⟩
  · cases e; exact ⟨_, e0, rfl⟩
  refine callWith_builtin (Evs1.few hst) ?_
  rw [hst]
  have key : wpAny (model C.prog C.w) A (spliced (backTo pos (starEach [e] env))) (fun vs s' => wpAny (model C.prog C.w) A (call (.builtin "list.append") (.ref a :: vs)) (fun v s' => match v with | .ref _ => False | _ => Q .next s') E s') E s1 := by
    refine wpAny_items_cons (he A X s1 _ E R S1 fun d own1 v s2 w1q p2 S2 r2 => e2a3 (w1q :) fun ds own2 u hz hK => ?_) hst
    refine wpAny_items_nil ?_
    refine e0a2 (S2.owned _ u.mem0 :) fun _ w6q => e1a2 w6q fun vs P r => ?_
    have hl := r.length
    simp only [Array.length_toList] at hl
    refine wpAny_list_append_plain (hsz := by rw [hl]; exact Nat.le_trans hz (by decide)) P fun h' P' hs' => ?_
    have haW : a ∈ Wx env own1 := List.mem_cons_of_mem _ (List.mem_append_right _ (List.mem_map_of_mem (f := fun p : Addr × List D => p.1) u.mem0))
    have z := fz_same (List.mem_append_left X haW) hs'
    refine e0a2 (S2.own_upd u P' hs' (by rw [Array.toList_push]; exact (r.mono z).append (.cons (r2.mono z) .nil)) :) fun S3 p3 => ?_
    exact hQ _ _ _ hK (.next ((p1.trans p2).trans p3) S3)
  rw [hst] at key
  exact evalArgs_plain key
theorem Es_reverse {o : Expr} {apos pos spos : Pos} {a : Addr} {ds0 : List D} {own2 : Own} (ho : Ev C n env ρ own o (.ref a)) (u : OUp own a ds0 ds0.reverse own2) (hz : ds0.length ≤ 1000000) (hK : K (.next ρ own2))
    (hbase : attributeBase o "reverse" env (eval o env) = eval o env) (hline : (apos.endLine == pos.line) = true) : Es C n env ρ own (.Expr (.Call (.Attribute o "reverse" apos) [] [] pos) spos) K := by
  intro A X s Q E R S hQ
  refine wpAny_Expr ?_ S.inter rfl
  refine wpAny_Call_method hbase rfl hline F.plainAttrs_list F.slot_list_reverse F.type_list_reverse (ho A _ s _ E R S.toStR fun v0 s1 t1 r1 => ?_)
  apply VR.elimR r1
  refine e0a2 (S.stp t1 :) fun S1 p1 => ?_
  refine e0a2 (S1.owned _ u.mem0 :) fun _ w7q => e1a2 w7q fun vs w8q r => e1a1 w8q fun n0 e0 => ?_
  refine ⟨⟨_, e0, rfl⟩, fun b e => ?_, ?_⟩
  · cases e; exact ⟨_, e0, rfl⟩
  refine callWith_builtin rfl ?_
  refine PyProof.Rows.evalArgs_nil3 ?_
  have hl := r.length
  simp only [Array.length_toList] at hl
  refine call_meets PySem.F.slot_list_reverse ⟨_, e0, rfl⟩ PySem.F.entry_list_reverse (PySem.F.args_list_reverse_1 _) (PySem.AutoSeq1.list_reverse_list_0 a vs n0 (by rw [hl]; exact Nat.le_trans hz (by decide))) ⟨e0, ?_⟩
  have hm : Obj.mapSeq (fun x => x.reverse) { cls := .type "list", data := .seq vs n0 } = { cls := .type "list", data := .seq vs.reverse n0 } := by simp [Obj.mapSeq]
  have P' : (s1.heap.update a (Obj.mapSeq fun x => x.reverse)).PlainList a vs.reverse := ⟨n0, by rw [Heap.get?_update_self _ e0 (by rw [hm]; rfl), hm]⟩
  have hs' : Heap.SameBut a s1.heap (s1.heap.update a (Obj.mapSeq fun x => x.reverse)) := Heap.SameBut.update ..
  have haW : a ∈ Wx env own := List.mem_cons_of_mem _ (List.mem_append_right _ (List.mem_map_of_mem (f := fun p : Addr × List D => p.1) u.mem0))
  have z := fz_same (List.mem_append_left X haW) hs'
  refine e0a2 (S1.own_upd u P' hs' (by rw [Array.toList_reverse]; exact (r.mono z).reverse) :) fun S3 p3 => ?_
  exact hQ _ _ _ hK (.next (p1.trans p3) S3)
theorem Es_setitem {o i e : Expr} {tpos pos : Pos} (he : EvW C n env ρ own e fun d own1 => ∃ a k ds own2, Ev C n env ρ own1 o (.ref a) ∧ Ev C n env ρ own1 i (.int k) ∧ 0 ≤ k ∧ k < ds.length ∧ k < 2 ^ 63 ∧ OUp own1 a ds (ds.set k.toNat d) own2 ∧ K (.next ρ own2))
    (hs : swapsWith e (some (.Subscript o i tpos)) pos.line env = pure false := by rfl) : Es C n env ρ own (.Assign [.Subscript o i tpos] e pos) K := by
  intro A X s Q E R S hQ
  refine wpAny_Assign_Subscript (he A X s _ E R S fun d own1 v s1 w2q p1 S1 r1 => e4a7 (w2q :) fun a k ds own2 ho hi h0 hn hk u hK => ?_) hs
  refine ho A _ s1 _ E R S1.toStR fun v2 s2 t2 r2 => ?_
  apply VR.elimR r2
  refine e0a2 (S1.stp t2 :) fun S2 p2 => ?_
  refine hi A _ s2 _ E R S2.toStR fun v3 s3 t3 r3 => ?_
  apply VR.elimI r3; intro _
  refine e0a2 (S2.stp t3 :) fun S3 p3 => ?_
  refine e0a2 (S3.owned _ u.mem0 :) fun _ w9q => e1a2 w9q fun vs P r => ?_
  have hl := r.length
  simp only [Array.length_toList] at hl
  refine setItem_plain P h0 hk (by rw [hl]; exact hn) fun h' P' hs' => ?_
  have haW : a ∈ Wx env own1 := List.mem_cons_of_mem _ (List.mem_append_right _ (List.mem_map_of_mem (f := fun p : Addr × List D => p.1) u.mem0))
  have z := fz_same (List.mem_append_left X haW) hs'
  refine e0a2 (S3.own_upd u P' hs' (by rw [Array.toList_setIfInBounds]; exact VRs.set ((r1.mono (t2.fz S1.tx)).mono ((t3.fz S2.tx).trans z)) _ (r.mono z)) :) fun S4 p4 => ?_
  exact hQ _ _ _ hK (.next (((p1.trans p2).trans p3).trans p4) S4)
inductive Take : Own → Addr → List D → Own → Prop
  | head {a ds r} : Take ((a, ds) :: r) a ds r
  | tail {p r a ds r'} : Take r a ds r' → Take (p :: r) a ds (p :: r')
theorem Take.sub {o a ds o'} (h : Take o a ds o') : List.Sublist o' o := by
  induction h with
  | head => exact List.sublist_cons_self _ _
  | tail _ ih => exact ih.cons_cons _
theorem Take.mem {o a ds o'} (h : Take o a ds o') : (a, ds) ∈ o := by
  induction h with
  | head => exact List.mem_cons_self
  | tail _ ih => exact List.mem_cons_of_mem _ ih
theorem Take.ne {o a ds o'} (h : Take o a ds o') : (o.map (·.1)).Nodup → ∀ p ∈ o', p.1 ≠ a := by
  induction h with
  | head =>
    intro nd p hp q
    have hh := List.mem_map_of_mem (f := fun p : Addr × List D => p.1) hp
    rw [q] at hh
    exact (List.nodup_cons.mp nd).1 hh
  | tail h ih =>
    intro nd p hp
    refine (List.mem_cons.mp hp).elim (fun e q => ?_) fun hp => ih (List.nodup_cons.mp nd).2 p hp
    have hh := List.mem_map_of_mem (f := fun p : Addr × List D => p.1) h.mem
    rw [← q, e] at hh
    exact (List.nodup_cons.mp nd).1 hh
inductive FD (a : Addr) (ds : List D) : D → D → Prop
  | same {d} : FD a ds d d
  | here : FD a ds (.ref a) (.list ds)
inductive FDs (a : Addr) (ds : List D) : List D → List D → Prop
  | nil : FDs a ds [] []
  | same {l} : FDs a ds l l
  | cons {d d' l l'} : FD a ds d d' → FDs a ds l l' → FDs a ds (d :: l) (d' :: l')
theorem FDs.snoc {a : Addr} {ds l : List D} {d d' : D} (h : FD a ds d d') : FDs a ds (l ++ [d]) (l ++ [d']) := by
  induction l with
  | nil => exact .cons h .nil
  | cons x r ih => exact .cons .same ih
inductive FR (a : Addr) (ds : List D) : Rho → Rho → Prop
  | nil : FR a ds [] []
  | same {r} : FR a ds r r
  | cons {x sl d d' r r'} : FD a ds d d' → FR a ds r r' → sl ≠ .glo → FR a ds ((x, sl, some d) :: r) ((x, sl, some d') :: r')
  | skip {p r r'} : FR a ds r r' → FR a ds (p :: r) (p :: r')
inductive FO (a : Addr) (ds : List D) : Own → Own → Prop
  | nil : FO a ds [] []
  | same {r} : FO a ds r r
  | cons {b l l' r r'} : FDs a ds l l' → FO a ds r r' → FO a ds ((b, l) :: r) ((b, l') :: r')
theorem FD.vr {a : Addr} {ds : List D} {d d' : D} {h : Heap} {Y : List Addr} (f : FD a ds d d') (ha : VR C h Y (.ref a) (.list ds)) {v : Value} (r : VR C h Y v d) : VR C h Y v d' := by
  cases f with
  | same => exact r
  | here => apply VR.elimR r; exact ha
theorem FDs.vr {a : Addr} {ds l l' : List D} {h : Heap} {Y : List Addr} (f : FDs a ds l l') (ha : VR C h Y (.ref a) (.list ds)) : ∀ {vs : List Value}, VRs C h Y vs l → VRs C h Y vs l' := by
  induction f with
  | nil => exact id
  | same => exact id
  | cons f _ ih => intro vs r; apply VRs.elimC r; intro _ _ r0 rs; exact .cons (f.vr ha r0) (ih rs)
theorem FR.has {a : Addr} {ds : List D} {h : Heap} {Y : List Addr} {m : Str → Option Value} (f : FR a ds ρ ρ') (ha : VR C h Y (.ref a) (.list ds)) : (∀ p ∈ ρ, HasV C Y env h m p) → ∀ p ∈ ρ', HasV C Y env h m p := by
  induction f with
  | nil => exact id
  | same => exact id
  | skip _ ih =>
    intro hh p hp
    rcases List.mem_cons.mp hp with rfl | hp
    · exact hh _ List.mem_cons_self
    · exact ih (fun p hp => hh p (List.mem_cons_of_mem _ hp)) p hp
  | cons f _ hg ih =>
    intro hh p hp
    rcases List.mem_cons.mp hp with rfl | hp
    · have := hh _ List.mem_cons_self
      have ic : ∀ {x d d'}, FD a ds d d' → InCell C Y env h x (some d) → InCell C Y env h x (some d') := fun f w3q => e2a4 (w3q :) fun c ov e1 e2 e3 e4 => ⟨c, ov, e1, e2, e3, fun d0 hd => by cases hd; refine e1a2 (e4 _ rfl :) fun v q r => ?_; exact ⟨v, q, f.vr ha r⟩⟩
      cases this with
      | loc a b c => exact .loc a b fun d0 hd => by cases hd; refine e1a2 (c _ rfl :) fun v q r => ?_; exact ⟨v, q, f.vr ha r⟩
      | cell a b c => exact .cell a b (ic f c)
      | free a b c => exact .free a b (ic f c)
      | cap a b c => exact .cap a b (ic f c)
      | glob a b c => exact absurd rfl hg
    · exact ih (fun p hp => hh p (List.mem_cons_of_mem _ hp)) p hp
theorem FR.names {a : Addr} {ds : List D} (f : FR a ds ρ ρ') : ρ'.map (·.1) = ρ.map (·.1) := by
  induction f with
  | nil => rfl
  | same => rfl
  | skip _ ih => simp [ih]
  | cons _ _ _ ih => simp [ih]
theorem FO.names {a : Addr} {ds : List D} (f : FO a ds own own') : own'.map (·.1) = own.map (·.1) := by
  induction f with
  | nil => rfl
  | same => rfl
  | cons _ _ ih => simp [ih]
theorem FO.mem {a : Addr} {ds : List D} (f : FO a ds own own') : ∀ p ∈ own', ∃ l, (p.1, l) ∈ own ∧ FDs a ds l p.2 := by
  induction f with
  | nil => intro p hp; cases hp
  | same => intro p hp; exact ⟨p.2, hp, .same⟩
  | cons f _ ih =>
    intro p hp
    rcases List.mem_cons.mp hp with rfl | hp
    · exact ⟨_, List.mem_cons_self, f⟩
    · refine e1a2 (ih p hp :) fun l h1 h2 => ?_; exact ⟨l, List.mem_cons_of_mem _ h1, h2⟩
theorem St.freeze {X : List Addr} {s : Shared} {b : Addr} {ds : List D} {o1 : Own} (T : Take own b ds o1) (fr : FR b ds ρ ρ') (fo : FO b ds o1 own') (S : St C X env ρ own s) : St C X env ρ' own' s ∧ Pst C X env own own' s s := by
  have hW : Wx env own' = Wx env o1 := by simp only [Wx, fo.names]
  have sub : ∀ c ∈ Wx env o1 ++ X, c ∈ Wx env own ++ X := fun c hc => by
    simp only [Wx, List.mem_append, List.mem_cons] at hc ⊢
    rcases hc with (h | h | h) | h
    · exact .inl (.inl h)
    · exact .inl (.inr (.inl h))
    · exact .inl (.inr (.inr ((T.sub.map _).subset h)))
    · exact .inr h
  have nd1 := List.nodup_cons.mp S.nd
  have nd2 := List.nodup_append.mp nd1.2
  have hbm : b ∈ own.map (·.1) := List.mem_map_of_mem (f := fun p : Addr × List D => p.1) T.mem
  have hbW : b ∈ Wx env own := List.mem_cons_of_mem _ (List.mem_append_right _ hbm)
  have hoff : b ∉ Wx env o1 ++ X := fun hc => by
    rcases List.mem_append.mp hc with hc | hc
    · rcases List.mem_cons.mp hc with h | hc
      · exact nd1.1 (h ▸ List.mem_append_right _ hbm)
      rcases List.mem_append.mp hc with h | h
      · exact nd2.2.2 b h b hbm rfl
      · refine e1a2 (List.mem_map.mp h :) fun p hp e => ?_
        exact T.ne nd2.2.1 p hp e
    · exact S.off b hbW hc
  have z : Fz (Wx env own ++ X) s.heap (Wx env o1 ++ X) s.heap := fz_less sub
  refine e0a2 (S.owned _ T.mem :) fun _ w10q => e1a2 w10q fun vs P r => ?_
  have ha : VR C s.heap (Wx env o1 ++ X) (.ref b) (.list ds) := .list hoff P.isList (r.mono z)
  have SS := S.toStR.unhide sub fun P hP => List.mem_append_right _ (S.txx P hP)
  refine ⟨⟨⟨⟨by rw [hW]; exact SS.base, by rw [hW]; exact SS.tab, by rw [hW]; exact SS.tx, by rw [hW]; exact SS.bd, S.tk⟩, S.kf, S.gl, S.bl, S.lt, ?_, fun p hp => ?_⟩, ?_, ?_, S.txx, by rw [fr.names]; exact S.nr⟩, ⟨⟨_, _, rfl, Nat.le_refl _⟩, by rw [hW]; exact z, fun b hb ht o e => e⟩⟩
  · refine e1a2 (SS.vars :) fun m hn hv => ?_
    rw [hW]
    exact ⟨m, hn, fr.has ha hv⟩
  · refine e1a2 (fo.mem p hp :) fun l hm hf => ?_
    refine e0a2 (SS.owned _ (T.sub.subset hm) :) fun ht w11q => e1a2 w11q fun vs' a' b' => ?_
    rw [hW]
    exact ⟨ht, vs', a', hf.vr ha b'⟩
  · rw [hW]
    exact List.Nodup.sublist (List.Sublist.cons_cons _ (List.Sublist.append (List.Sublist.refl _) (T.sub.map _))) S.nd
  · rw [hW]
    intro c hc hX
    simp only [Wx, List.mem_append, List.mem_cons] at hc
    rcases hc with h | h | h
    · exact S.off c (h ▸ List.mem_cons_self) hX
    · exact S.off c (List.mem_cons_of_mem _ (List.mem_append_left _ h)) hX
    · exact S.off c (List.mem_cons_of_mem _ (List.mem_append_right _ ((T.sub.map _).subset h))) hX
theorem Ex_freeze {ss : List Stmt} {b : Addr} {ds : List D} {o1 : Own} (T : Take own b ds o1) (fr : FR b ds ρ ρ') (fo : FO b ds o1 own') (h : Ex C n env ρ' own' ss K) : Ex C n env ρ own ss K := by
  intro A X s Q E R S hQ
  refine e0a2 (S.freeze T fr fo :) fun S' p' => ?_
  exact h A X s Q E R S' fun out f s' k o => hQ out f s' k (o.after p')
end
end
section
open PySem PySem.Calls
inductive FnR (C : Cx) (X : List Addr) (h : Heap) (scope : Scope) (cl : List (Str × Addr)) : Rho → Prop
  | nil : FnR C X h scope cl []
  | loc {x r} : nameOk x → scope.names.lookup x = some .local → FnR C X h scope cl r → FnR C X h scope cl ((x, .loc, none) :: r)
  | cel {x r} : nameOk x → scope.names.lookup x = some .cell → FnR C X h scope cl r → FnR C X h scope cl ((x, .cel, none) :: r)
  | fre {x d r} : nameOk x → scope.names.lookup x = some .free → (∃ c v, cl.lookup x = some c ∧ h.IsCell c (some v) ∧ VR C h X v d) → FnR C X h scope cl r → FnR C X h scope cl ((x, .fre, some d) :: r)
  | glo {g d r} : nameOk g → GlobD C g d → scope.names.lookup g = some .globalImplicit → FnR C X h scope cl r → FnR C X h scope cl ((g, .glo, some d) :: r)
structure Hid (C : Cx) (s : Shared) (X X' : List Addr) (cl : List (Str × Addr)) (own0 : Own) : Prop where
  iff : ∀ b, b ∈ X ↔ b ∈ cl.map (·.2) ∨ b ∈ own0.map (·.1) ∨ b ∈ X'
  nd : (cl.map (·.2) ++ own0.map (·.1)).Nodup
  off : ∀ b, (b ∈ cl.map (·.2) ∨ b ∈ own0.map (·.1)) → b ∉ X'
  tx : ∀ P ∈ C.tP, P ∈ X'
  own : ∀ p ∈ own0, p.1 ∉ C.tP ∧ ∃ vs, s.heap.PlainList p.1 vs ∧ VRs C s.heap X vs.toList p.2
theorem Hid.none {C : Cx} {s : Shared} {X : List Addr} (tx : ∀ P ∈ C.tP, P ∈ X) : Hid C s X X [] [] :=
  ⟨fun b => by simp, by simp, fun b hb => by simp at hb, tx, nofun⟩
noncomputable def fnEnv (fd : FuncData) (f L : Addr) : Env := { scope := fd.scope, locals := L, globals := fd.globals, cells := cellsFrom (L + 1) fd.scope.names [] ++ fd.closure, qual := fd.qualname ++ ".<locals>.", func := some f, code := fd.code, frame := some L, builtins := fd.builtins }
section
variable {C : Cx} {n : Nat} {ρ0 ρ1 : Rho} {own0 : Own}
theorem fn_frame {X X' : List Addr} {s : Shared} {fd : FuncData} {f : Addr} (B : Bs C X s) (kind : fd.scope.kind = .function) (hgl : fd.globals = mainGlobals) (hbl : fd.builtins = builtinsNs) (names : ∀ x ∈ fd.scope.names, fd.scope.names.lookup x.1 = some x.2)
    (H : Hid C s X X' fd.closure own0) (hF : FnR C X s.heap fd.scope fd.closure ρ0) (nr : (ρ0.map (·.1)).Nodup) :
    St C X' (fnEnv fd f s.heap.objs.size) ρ0 own0 { s with heap := pushCells (s.heap.push { cls := .type "frame", data := .dict #[] }) fd.scope.names } ∧
      (∀ b o, s.heap.get? b = some o → (pushCells (s.heap.push { cls := .type "frame", data := .dict #[] }) fd.scope.names).get? b = some o) ∧ (∀ p ∈ cellsFrom (s.heap.objs.size + 1) fd.scope.names [], s.heap.get? p.2 = none) := by
  generalize hH1 : s.heap.push { cls := .type "frame", data := .dict #[] } = H1
  generalize hH3 : pushCells H1 fd.scope.names = H3
  generalize hL : s.heap.objs.size = L
  have z1 : H1.objs.size = L + 1 := by rw [← hH1, Heap.size_push, hL]
  have old : ∀ b o, s.heap.get? b = some o → H3.get? b = some o := fun b o e => hH3 ▸ pushCells_keeps _ _ b o (hH1 ▸ Heap.get?_push_of_some _ e)
  have ok : CellsOk H3 (L + 1) (cellsFrom (L + 1) fd.scope.names []) := by
    have := cellsFrom_ok fd.scope.names H1 (L + 1) [] ⟨fun _ _ hm => (nomatch hm), List.Pairwise.nil⟩ (by rw [z1]; exact Nat.le_refl _)
    rw [hH3, z1] at this
    exact this
  have fresh : ∀ a, L ≤ a → s.heap.get? a = none := fun a ha => by
    cases e : s.heap.get? a with
    | none => rfl
    | some o' => exact absurd (Heap.lt_size e) (Nat.not_lt.mpr (hL ▸ ha))
  have hLn : H3.Ns L (fun _ => none) := by
    have := (Heap.Ns.new s.heap (.type "frame"))
    rw [hH1, hL] at this
    exact this.keeps fun b o e => hH3 ▸ pushCells_keeps _ _ b o e
  generalize hnc : cellsFrom (L + 1) fd.scope.names [] = nc at ok ⊢
  have hcells : (fnEnv fd f L).cells = nc ++ fd.closure := by unfold fnEnv; rw [hnc]
  have nL : s.heap.get? L = none := fresh L (Nat.le_refl _)
  have nn : ∀ p ∈ nc, s.heap.get? p.2 = none := fun p hp => fresh _ (Nat.le_of_lt (ok.empty p.1 p.2 hp).2)
  have ex : ∀ b ∈ X, ∃ o, s.heap.get? b = some o := B.bd
  have hW : Wx (fnEnv fd f L) own0 = L :: (nc.map (·.2) ++ fd.closure.map (·.2) ++ own0.map (·.1)) := by
    unfold Wx; rw [hcells, List.map_append]; rfl
  have mem : ∀ b, b ∈ Wx (fnEnv fd f L) own0 ++ X' ↔ b = L ∨ b ∈ nc.map (·.2) ∨ b ∈ X := fun b => by
    rw [hW, H.iff]; simp only [List.mem_cons, List.mem_append]
    constructor
    · rintro ((h | (h | h) | h) | h)
      · exact .inl h
      · exact .inr (.inl h)
      · exact .inr (.inr (.inl h))
      · exact .inr (.inr (.inr (.inl h)))
      · exact .inr (.inr (.inr (.inr h)))
    · rintro (h | h | h | h | h)
      · exact .inl (.inl h)
      · exact .inl (.inr (.inl (.inl h)))
      · exact .inl (.inr (.inl (.inr h)))
      · exact .inl (.inr (.inr h))
      · exact .inr h
  have T := B.tab.there
  have ntp : ∀ b, s.heap.get? b = none → b ∉ C.tP := fun b hb q => e1a1 (T b q :) fun o e => by rw [hb] at e; cases e
  have z : Fz X s.heap (Wx (fnEnv fd f L) own0 ++ X') H3 := fun b o hb e => ⟨fun q => by
    rcases (mem b).mp q with r | r | r
    · rw [r, nL] at e; cases e
    · refine e1a2 (List.mem_map.mp r :) fun p hp r2q => ?_; subst r2q
      rw [nn p hp] at e; cases e
    · exact hb r, old b o e⟩
  have inX : ∀ b, (b ∈ fd.closure.map (·.2) ∨ b ∈ own0.map (·.1)) → b ∈ X := fun b hb => (H.iff b).mpr (hb.imp id .inl)
  refine ⟨⟨⟨⟨fun b o e => e0a2 (B.base b o e :) fun p q => z b o p q, B.tab.mono z fun _ _ o e => old _ o e, fun P hP => List.mem_append_right _ (H.tx P hP), fun b hb => ?_, B.tk⟩, kind, hgl, hbl, ntp L nL, ⟨_, hLn, ?_⟩, fun p hp => e0a2 (H.own p hp :) fun ht w1q => e1a2 w1q fun vs a b => ⟨ht, vs, a.at fun o e => old _ o e, b.mono z⟩⟩, ?_, fun b hb hX => ?_, H.tx, nr⟩, old, nn⟩
  · rcases (mem b).mp hb with rfl | r | r
    · refine e3a2 (hLn :) fun o _ _ e _ => ?_; exact ⟨o, e⟩
    · refine e1a2 (List.mem_map.mp r :) fun p hp r2q => ?_; subst r2q
      refine e1a2 ((ok.empty p.1 p.2 hp).1 :) fun o e _ => ?_
      exact ⟨o, e⟩
    · refine e1a1 (ex b r :) fun o e => ?_; exact ⟨o, old b o e⟩
  · clear nr
    have kindOf : ∀ x, (fnEnv fd f L).kindOf x = fd.scope.names.lookup x := fun _ => rfl
    induction hF with
    | nil => intro p hp; cases hp
    | loc h0 hl _ ih =>
      intro p hp
      rcases List.mem_cons.mp hp with rfl | hp
      · exact .loc h0 (by rw [kindOf, hl]) nofun
      · exact ih p hp
    | cel h0 hl _ ih =>
      intro p hp
      rcases List.mem_cons.mp hp with rfl | hp
      · refine .cell h0 (by rw [kindOf, hl]) ?_
        refine e1a1 (cellsFrom_has fd.scope.names (L + 1) _ (mem_of_lookup hl) :) fun c hc => ?_
        rw [hnc] at hc
        refine e1a1 (lookup_of_mem hc :) fun c' hc' => ?_
        have hm := mem_of_lookup hc'
        exact ⟨c', none, by rw [hcells]; exact lookup_app_some hc', ntp _ (nn _ hm), (ok.empty _ _ hm).1, nofun⟩
      · exact ih p hp
    | fre h0 hl hc _ ih =>
      rename_i y d r _
      intro p hp
      rcases List.mem_cons.mp hp with rfl | hp
      · refine e2a3 (hc :) fun c v hc w3q hv => ?_; refine e1a2 (w3q :) fun o e1 e2 => ?_
        have cX : c ∈ fd.closure.map (·.2) := List.mem_map_of_mem (f := fun p : Str × Addr => p.2) (mem_of_lookup hc)
        refine .free h0 (by rw [kindOf, hl]) ⟨c, some v, ?_, fun q => H.off c (.inl cX) (H.tx c q), ⟨o, old c o e1, e2⟩, fun d' hd => by cases hd; exact ⟨v, rfl, hv.mono z⟩⟩
        have : nc.lookup y = none := by
          cases q : nc.lookup y with
          | none => rfl
          | some c0 =>
            have h1 := cellsFrom_names fd.scope.names (L + 1) y c0 (hnc ▸ mem_of_lookup q)
            have h2 := names _ h1
            rw [hl] at h2; cases h2
        rw [hcells, lookup_app_none this, hc]
      · exact ih p hp
    | glo h0 hg hl _ ih =>
      intro p hp
      rcases List.mem_cons.mp hp with rfl | hp
      · exact .glob h0 (by rw [kindOf, hl]) fun d' hd => by cases hd; exact hg
      · exact ih p hp
  · rw [hW]
    have exC : ∀ b ∈ fd.closure.map (·.2) ++ own0.map (·.1), ∃ o, s.heap.get? b = some o := fun b hb => ex b (inX b (List.mem_append.mp hb))
    rw [List.append_assoc, List.nodup_cons]
    refine ⟨fun q => ?_, List.nodup_append.mpr ⟨?_, H.nd, fun b hb c hc q => ?_⟩⟩
    · rcases List.mem_append.mp q with q | q
      · refine e1a2 (List.mem_map.mp q :) fun p hp e => ?_
        exact Nat.lt_irrefl _ (Nat.lt_of_lt_of_le (ok.empty p.1 p.2 hp).2 (Nat.le_of_eq e))
      · refine e1a1 (exC L q :) fun o e => ?_; rw [nL] at e; cases e
    · rw [List.nodup_iff_pairwise_ne, List.pairwise_map]
      exact ok.apart
    · subst q
      refine e1a2 (List.mem_map.mp hb :) fun p hp e => ?_
      refine e1a1 (exC b hc :) fun o e' => ?_
      rw [← e, nn p hp] at e'; cases e'
  · refine e1a1 (ex b ((H.iff b).mpr (.inr (.inr hX))) :) fun o e => ?_
    rw [hW] at hb
    rcases List.mem_cons.mp hb with h | hb
    · rw [h, nL] at e; cases e
    rcases List.mem_append.mp hb with hb | hb
    · rcases List.mem_append.mp hb with hb | hb
      · refine e1a2 (List.mem_map.mp hb :) fun p hp e' => ?_
        rw [← e', nn p hp] at e; cases e
      · exact H.off b (.inl hb) hX
    · exact H.off b (.inr hb) hX
end
end
section
open PySem PySem.Calls
section
variable {C : Cx} {n : Nat} {ρ0 ρ1 : Rho} {own0 : Own}
theorem Sts.binds {env : Env} {own : Own} {X : List Addr} {o0 : Own} {s0 : Shared} {xs : List Str} {ds : List D} {ρ ρ' : Rho} (h : Sts xs ds ρ ρ') {f : Str × Value → PUnit → Sem (ForInStep PUnit)} (hf : ∀ x v u, f (x, v) u = (do storeName env x v; pure (.yield ⟨⟩))) :
    ∀ (A : Around) (s : Shared) (vs : List Value) (Q : PUnit → Shared → Prop) (E : Value → Shared → Prop), St C X env ρ own s → Pst C X env o0 own s0 s → VRs C s.heap (Wx env own ++ X) vs ds →
    (∀ s', St C X env ρ' own s' → Pst C X env o0 own s0 s' → Q ⟨⟩ s') → wpAny (model C.prog C.w) A (forIn (xs.zip vs) ⟨⟩ f) Q E s := by
  induction h with
  | nil =>
    intro A s vs Q E S p r hQ
    apply VRs.elimN r
    rw [List.zip_nil_left, List.forIn_nil]
    exact wpAny_pure (hQ s S p)
  | cons hu _ ih =>
    intro A s vs Q E S p r hQ
    apply VRs.elimC r
    intro _ _ r0 rs
    rw [List.zip_cons_cons, List.forIn_cons, hf]
    refine wpAny_bind (wpAny_bind (S.store r0 hu fun s1 p1 S1 => wpAny_pure ?_))
    exact ih A s1 _ Q E S1 (p.trans p1) (rs.mono p1.fz) hQ
structure FnIs (h : Heap) (f : Addr) (fd : FuncData) (body : List Stmt) : Prop where
  obj : ∃ o, h.get? f = some o ∧ o.data = .func fd
  co : fd.scope.isCoroutine = false
  gen : fd.scope.isGenerator = false
  kind : fd.scope.kind = .function
  body : fd.body = .stmts body
  code : h.CodeRec fd.code fd.qualname
  gl : fd.globals = mainGlobals
  bl : fd.builtins = builtinsNs
  names : ∀ x ∈ fd.scope.names, fd.scope.names.lookup x.1 = some x.2
theorem Around.deeper_room {A : Around} {env : Env} (R : Room A (n + 1)) : Room (A.deeper env) n := by
  refine ⟨R.h, ?_, ?_⟩
  · have := R.d
    show A.depth + 1 + n < recursionLimit
    lia
  · have := R.u
    show A.units + 3 + 8 * n + 200 < cLine
    lia
theorem enter {X X' : List Addr} {s : Shared} {f : Addr} {fd : FuncData} {body : List Stmt} {params : List Str} {vs : List Value} {ds : List D} {K : Out → Prop} {A : Around} {Q E : Value → Shared → Prop}
    (R : Room A (n + 1)) (B : Bs C X s) (F : FnIs s.heap f fd body) (hlim : C.G.NoLimit) (hbind : bindArgs fd ⟨vs, []⟩ = pure (params.zip vs))
    (H : Hid C s X X' fd.closure own0) (hcl : ∀ p ∈ fd.closure, fd.closure.lookup p.1 = some p.2 ∧ fd.scope.names.lookup p.1 = some .free) (hF : FnR C X s.heap fd.scope fd.closure ρ0) (nr : (ρ0.map (·.1)).Nodup) (hsts : Sts params ds ρ0 ρ1) (hv : VRs C s.heap X vs ds)
    (hE : ∀ L, Ex C n (fnEnv fd f L) ρ1 own0 body K)
    (hQ : ∀ d own' v s', (K (.ret d own') ∨ d = .none ∧ ∃ ρ', K (.next ρ' own')) → (∃ h tk, s' = { s with heap := h, toks := tk } ∧ s.toks ≤ tk) → (∀ b o, b ∉ C.tP → b ∉ own0.map (·.1) → s.heap.get? b = some o → s'.heap.get? b = some o) →
      (∀ W, (∀ b ∈ W, b ∈ own'.map (·.1) ∨ b ∈ X ∧ b ∉ own0.map (·.1)) → (∀ P ∈ C.tP, P ∈ W) → TabOk C s'.heap W ∧ VR C s'.heap W v d ∧ ∀ p ∈ own', p.1 ∉ C.tP ∧ ∃ vs, s'.heap.PlainList p.1 vs ∧ VRs C s'.heap W vs.toList p.2) → Q v s') :
    wpAny (model C.prog C.w) A (call (.ref f) vs) Q E s := by
  refine e1a2 (F.obj :) fun o ho hd => ?_
  refine wpAny_call ?_
  refine codeAny_call_function (by have := R.d; lia) ho hd F.co F.gen F.body F.code ?_
  rw [hbind]
  refine wpAny_pure ?_
  refine e0a3 (fn_frame (f := f) B F.kind F.gl F.bl F.names H hF nr :) fun S1 k1 nn => ?_
  simp only [newFunctionEnv, Option.isSome_none, Bool.false_eq_true, if_false]
  refine wpAny_bind (wpAny_alloc ?_)
  refine wpAny_bind (wpAny_layCells _ (fun name kind cells => by cases hkc : kind == NameKind.cell <;> simp) _ _ _ _ ?_)
  rw [show ({ s with heap := s.heap.push { cls := .type "frame", data := .dict #[] } } : Shared).heap.objs.size = s.heap.objs.size + 1 from Heap.size_push ..]
  rw [cellsFrom_acc]
  have henv : ({ scope := fd.scope, locals := s.heap.objs.size, globals := fd.globals, cells := cellsFrom (s.heap.objs.size + 1) fd.scope.names [] ++ fd.closure, qual := fd.qualname ++ ".<locals>.", func := some f, code := fd.code, frame := some s.heap.objs.size, builtins := fd.builtins } : Env) = fnEnv fd f s.heap.objs.size := rfl
  rw [henv]
  generalize hev : fnEnv fd f s.heap.objs.size = env at S1 ⊢
  generalize hH3 : pushCells (s.heap.push { cls := .type "frame", data := .dict #[] }) fd.scope.names = H3 at S1 k1 ⊢
  have hloc : env.locals = s.heap.objs.size := by rw [← hev]; rfl
  have hcel : env.cells = cellsFrom (s.heap.objs.size + 1) fd.scope.names [] ++ fd.closure := by rw [← hev]; rfl
  have hkind : ∀ x, env.kindOf x = fd.scope.names.lookup x := fun x => by rw [← hev]; rfl
  have nL : s.heap.get? env.locals = none := by
    rw [hloc]
    cases e : s.heap.get? s.heap.objs.size with
    | none => rfl
    | some o' => exact absurd (Heap.lt_size e) (Nat.lt_irrefl _)
  have p1 : Pst C X' env own0 own0 s { s with heap := H3 } := ⟨⟨H3, s.toks, rfl, Nat.le_refl _⟩, fun b o hb e => ⟨hb, k1 b o e⟩, fun b _ _ o e => k1 b o e⟩
  have memX : ∀ b, b ∈ X → b ∉ own0.map (·.1) → b ∈ X' ∨ FreeCell env b := fun b hb hn => by
    rcases (H.iff b).mp hb with q | q | q
    · right
      refine e1a2 (List.mem_map.mp q :) fun p hp r2q => ?_; subst r2q
      refine e0a2 (hcl p hp :) fun c1 c2 => ?_
      refine ⟨p.1, ?_, by rw [hkind, c2]⟩
      have : (cellsFrom (s.heap.objs.size + 1) fd.scope.names []).lookup p.1 = none := by
        cases q : (cellsFrom (s.heap.objs.size + 1) fd.scope.names []).lookup p.1 with
        | none => rfl
        | some c0 =>
          have h1 := cellsFrom_names fd.scope.names _ p.1 c0 (mem_of_lookup q)
          have h2 := F.names _ h1
          rw [c2] at h2; cases h2
      rw [hcel, lookup_app_none this, c1]
    · exact absurd q hn
    · exact .inl q
  have wxo : ∀ own' b, b ∈ Wx env own' ↔ b = env.locals ∨ b ∈ (cellsFrom (s.heap.objs.size + 1) fd.scope.names []).map (·.2) ∨ b ∈ fd.closure.map (·.2) ∨ b ∈ own'.map (·.1) := fun own' b => by
    unfold Wx; rw [hcel, List.map_append]; simp only [List.mem_cons, List.mem_append]
    constructor
    · rintro (h | (h | h) | h)
      · exact .inl h
      · exact .inr (.inl h)
      · exact .inr (.inr (.inl h))
      · exact .inr (.inr (.inr h))
    · rintro (h | h | h | h)
      · exact .inl h
      · exact .inr (.inl (.inl h))
      · exact .inr (.inl (.inr h))
      · exact .inr (.inr h)
  have hv1 : VRs C H3 (Wx env own0 ++ X') vs ds := hv.mono fun b o hb e => ⟨fun q => by
    rcases List.mem_append.mp q with q | q
    · rcases (wxo own0 b).mp q with r | r | r | r
      · rw [r, nL] at e; cases e
      · refine e1a2 (List.mem_map.mp r :) fun p hp r2q => ?_; subst r2q
        rw [nn p hp] at e; cases e
      · exact hb ((H.iff b).mpr (.inl r))
      · exact hb ((H.iff b).mpr (.inr (.inl r)))
    · exact hb ((H.iff b).mpr (.inr (.inr q))), k1 b o e⟩
  refine wpAny_bind (Sts.binds (env := env) hsts (fun _ _ _ => rfl) _ _ vs _ _ S1 p1 hv1 fun s2 S2 p2 => wpAny_pure ⟨?_, codeAny_func ?_⟩)
  · refine e1a2 (hlim :) fun mc a b => ?_
    exact ⟨mc, a.keeps fun b o e => (S2.base b o e).2, b⟩
  refine (hev ▸ hE s.heap.objs.size) (A.deeper env) X' s2 _ _ (Around.deeper_room R) S2 fun out fl s3 hK ho => ?_
  have fin : ∀ own' ρ' d v, (K (.ret d own') ∨ d = .none ∧ ∃ ρ', K (.next ρ' own')) → Pst C X' env own0 own' s2 s3 → St C X' env ρ' own' s3 → VR C s3.heap (Wx env own' ++ X') v d → Q v s3 := fun own' ρ' d v hK p3 S3 r3 => by
    have p := p2.trans p3
    refine hQ d own' v s3 hK p.same (fun b o ht hn e => ?_) fun W hW hWt => ?_
    · by_cases hb : b ∈ X
      · exact p.hid b (memX b hb hn) ht o e
      · refine (p.fz b o (fun q => ?_) e).2
        rcases List.mem_append.mp q with q | q
        · rcases (wxo own0 b).mp q with r | r | r | r
          · rw [r, nL] at e; cases e
          · refine e1a2 (List.mem_map.mp r :) fun p hp r2q => ?_; subst r2q
            rw [nn p hp] at e; cases e
          · exact hb ((H.iff b).mpr (.inl r))
          · exact hn r
        · exact hb ((H.iff b).mpr (.inr (.inr q)))
    · have sub : ∀ b ∈ W, b ∈ Wx env own' ++ X' := fun b hb => by
        rcases hW b hb with q | ⟨q, q2⟩
        · exact List.mem_append_left _ ((wxo own' b).mpr (.inr (.inr (.inr q))))
        · rcases (H.iff b).mp q with q | q | q
          · exact List.mem_append_left _ ((wxo own' b).mpr (.inr (.inr (.inl q))))
          · exact absurd q q2
          · exact List.mem_append_right _ q
      exact ⟨S3.tab.less sub, r3.mono (fz_less sub), fun p hp => e0a2 (S3.owned p hp :) fun ht w1q => e1a2 w1q fun vs a b => ⟨ht, vs, a, b.mono (fz_less sub)⟩⟩
  cases ho with
  | next p S => exact fin _ _ .none _ (.inr ⟨rfl, _, hK⟩) p S .none
  | ret p S r => exact fin _ _ _ _ (.inl hK) p S r
theorem Cal_of {f : Addr} {fd : FuncData} {body : List Stmt} {params : List Str} {ds : List D} {d : D} (F : FnIs C.G f fd body) (hlim : C.G.NoLimit) (hcl : fd.closure = []) (hbind : ∀ vs : List Value, vs.length = params.length → bindArgs fd ⟨vs, []⟩ = pure (params.zip vs))
    (hF : ∀ X h, FnR C X h fd.scope [] ρ0) (nr : (ρ0.map (·.1)).Nodup) (hsts : Sts params ds ρ0 ρ1) (hlen : ds.length = params.length)
    (hE : ∀ L, Ex C n (fnEnv fd f L) ρ1 [] body fun o => match o with | .ret d' _ => d' = d | .next _ _ => d = .none) : Cal C (n + 1) (.ref f) ds d := by
  intro A X s vs Q E R B r hQ
  have F' : FnIs s.heap f fd body := ⟨e1a2 (F.obj :) fun o a b => ⟨o, (B.base f o a).2, b⟩, F.co, F.gen, F.kind, F.body, F.code.keeps fun b o e => (B.base b o e).2, F.gl, F.bl, F.names⟩
  refine enter (own0 := []) R B F' hlim (hbind vs (by rw [r.length, hlen])) (by rw [hcl]; exact Hid.none B.tx) (by rw [hcl]; exact nofun) (by rw [hcl]; exact hF X s.heap) nr hsts r (fun L => hE L) fun d' own' v s' hK same k hW => ?_
  refine e0a3 (hW X (fun b hb => .inr ⟨hb, by simp⟩) B.tx :) fun T r' _ => ?_
  refine e2a2 (same :) fun h tk e z => ?_
  have hd : d' = d := by
    rcases hK with h | ⟨rfl, ρ', h⟩
    · exact h
    · exact h.symm
  subst hd
  exact hQ v s' ⟨h, tk, e, z, fun b o hb eb => by subst e; exact k b o hb (by simp) eb, by subst e; exact T⟩ r'
end
end
section
open PySem PySem.Calls
section
variable {C : Cx} {n : Nat} {env : Env} {ρ : Rho} {own : Own}
theorem EvT_of {e : Expr} {d : D} {b : Bool} (he : Ev C n env ρ own e d)
    (ht : ∀ (A : Around) (X : List Addr) (s : Shared) (v : Value) (Q : Bool → Shared → Prop) (E : Value → Shared → Prop), Bs C X s → VR C s.heap X v d → (∀ s', Stp C X s s' → Q b s') → wpAny (model C.prog C.w) A (truthy v) Q E s)
    (hi : ∀ whole, isTrue e env whole = (do let v ← whole; standAt e.pos; holding [v] (truthy v))) : EvT C n env ρ own e b := by
  intro A X s Q E R S hQ
  exact wpAny_isTrue_value (he A X s _ E R S fun v s1 t1 r1 => ht A X s1 v Q E (S.step t1).toBs r1 fun s' t => hQ s' (t1.trans t)) (hi _)
theorem EvT_int {e : Expr} {i : Int} (he : Ev C n env ρ own e (.int i)) (hi : ∀ whole, isTrue e env whole = (do let v ← whole; standAt e.pos; holding [v] (truthy v)) := by intro _; rfl) : EvT C n env ρ own e (i != 0) :=
  EvT_of he (fun A X s v Q E B r hQ => by apply VR.elimI r; intro _; exact PyProof.Rows.truthy_int (hQ s (Stp.refl B.tab))) hi
theorem EvT_boolv {e : Expr} {b : Bool} (he : Ev C n env ρ own e (.bool b)) (hi : ∀ whole, isTrue e env whole = (do let v ← whole; standAt e.pos; holding [v] (truthy v)) := by intro _; rfl) : EvT C n env ρ own e b :=
  EvT_of he (fun A X s v Q E B r hQ => by apply VR.elimB r; exact wpAny_truthy_bool (hQ s (Stp.refl B.tab))) hi
theorem EvT_list {e : Expr} {ds : List D} (he : Ev C n env ρ own e (.list ds)) (hz : ds.length < 2 ^ 60) (hi : ∀ whole, isTrue e env whole = (do let v ← whole; standAt e.pos; holding [v] (truthy v)) := by intro _; rfl) : EvT C n env ρ own e (!ds.isEmpty) :=
  EvT_of he (fun A X s v Q E B r hQ => by
    apply VR.elimL r
    · intro _ _ hx hl hv
      have z := hv.length
      simp only [Array.length_toList] at z
      refine wpAny_truthy_list hl (by lia) ?_
      rename_i a us
      have e : us.isEmpty = ds.isEmpty := by
        cases ds with
        | nil => have : us = #[] := Array.size_eq_zero_iff.mp z; rw [this]; rfl
        | cons d r => simp [Array.isEmpty, z]
      rw [e]
      exact hQ _ (Stp.tok B _)) hi
theorem cal_isbool {b : Bool} : Cal C n (.builtin "isinstance") [.bool b, .val (.type "bool")] (.bool true) := by
  intro A X s vs Q E R B r hQ
  apply VRs.elimC r
  intro _ _ r0 rs
  apply VRs.elimC rs
  intro _ _ r1 rs
  apply VRs.elimN rs; apply VR.elimB r0; apply VR.elimV r1
  exact IsiPair.bool_bool (hQ _ _ (Stp.refl B.tab) (.bool _))
theorem VRs.ints {h : Heap} {X : List Addr} : ∀ {ns : List Int} {vs : List Value}, VRs C h X vs (ns.map .int) → PyProof.Rows.IntsAre vs ns
  | [], _, r => by apply VRs.elimN r; exact .nil
  | n :: ns, _, r => by
    apply VRs.elimC r
    intro _ _ r0 rs; apply VR.elimI r0; intro _; exact .cons _ _ (VRs.ints rs)
theorem op_inT {ns : List Int} {x : Int} : Op2 C n (compareOp .In) (.int x) (.tuple (ns.map .int)) (.bool (ns.any (· == x))) := by
  intro A X s Q E v1 v2 R B r1 r2 hQ
  apply VR.elimI r1; intro _
  apply VR.elimT r2
  · intro _ _ hx hl hv
    exact PyProof.Rows.in_tuple_ints hl (VRs.ints hv) (hQ _ _ (Stp.refl B.tab) (.bool _))
mutual
noncomputable def toPy : D → PyData
  | .none => .none
  | .bool b => .bool b
  | .int i => .int i
  | .str x => .str x
  | .list l => .list (toPys l)
  | .tuple l => .tuple (toPys l)
  | .ref _ => .dict []
  | .val _ => .dict []
  | .smap _ => .dict []
  | .imap _ => .dict []
  | .fn _ => .dict []
noncomputable def toPys : List D → List PyData
  | [] => []
  | d :: r => toPy d :: toPys r
end
mutual
noncomputable def plainD : D → Bool
  | .none => true
  | .bool _ => true
  | .int _ => true
  | .str _ => true
  | .list l => plainDs l
  | .tuple l => plainDs l
  | .ref _ => false
  | .val _ => false
  | .smap _ => false
  | .imap _ => false
  | .fn _ => false
noncomputable def plainDs : List D → Bool
  | [] => true
  | d :: r => plainD d && plainDs r
end
theorem VR.reads {C : Cx} {h : Heap} {X : List Addr} {v : Value} {d : D} (r : VR C h X v d) : plainD d = true → ∃ as, Reads h v (toPy d) as :=
  VR.rec (motive_1 := fun v d _ => plainD d = true → ∃ as, Reads h v (toPy d) as) (motive_2 := fun vs ds _ => plainDs ds = true → ∃ as, ReadsAll h vs (toPys ds) as)
    (fun _ => ⟨_, .none⟩) (fun b _ => ⟨_, .bool b⟩) (fun i t _ => ⟨_, .int i t⟩) (fun x t _ => ⟨_, .str x t⟩) (fun _ p => by cases p) (fun _ p => by cases p)
    (fun _ hl _ ih p => e1a3 hl fun o ho hc q => e1a1 q fun m hd => e1a1 (ih p) fun as r => ⟨_, .list ho hc hd r⟩)
    (fun _ hl _ ih p => e1a3 hl fun o ho hc q => e1a1 q fun m hd => e1a1 (ih p) fun as r => ⟨_, .tuple ho hc hd r⟩)
    (fun _ _ _ _ _ p => by cases p) (fun _ _ _ _ _ p => by cases p) (fun _ _ _ _ _ _ _ _ p => by cases p)
    (fun _ => ⟨_, .nil⟩)
    (fun _ _ ia ib p => e0a2 (Bool.and_eq_true_iff.mp p) fun p1 p2 => e1a1 (ia p1) fun as r => e1a1 (ib p2) fun bs r' => ⟨_, .cons r r'⟩) r
theorem op_eqD {a b : D} (pa : plainD a = true) (pb : plainD b = true) (ha : SeqAt.shaped (toPy a) = true) (hb : SeqAt.shaped (toPy b) = true) : Op2 C n (compareOp .Eq) a b (.bool (PyData.eqv (toPy a) (toPy b))) := by
  intro A X s Q E v1 v2 R B r1 r2 hQ
  refine e1a1 (r1.reads pa :) fun as ra => ?_
  refine e1a1 (r2.reads pb :) fun bs rb => ?_
  exact PyProof.Rows.eq_dataH ra rb ha hb (by have := R.u; lia) (hQ _ _ (Stp.refl B.tab) (.bool _))
theorem op_neD {a b : D} (pa : plainD a = true) (pb : plainD b = true) (ha : SeqAt.shaped (toPy a) = true) (hb : SeqAt.shaped (toPy b) = true) : Op2 C n (compareOp .NotEq) a b (.bool (!PyData.eqv (toPy a) (toPy b))) := by
  intro A X s Q E v1 v2 R B r1 r2 hQ
  refine e1a1 (r1.reads pa :) fun as ra => ?_
  refine e1a1 (r2.reads pb :) fun bs rb => ?_
  exact PyProof.Rows.ne_dataH ra rb ha hb (by have := R.u; lia) (hQ _ _ (Stp.refl B.tab) (.bool _))
theorem ints_list {ns : List Int} {l : List Value} (h : PyProof.Rows.IntsAre l ns) : (∀ v ∈ l, ∃ a t, v = .int a t) ∧ numsOf l = ns := by
  induction h with
  | nil => exact ⟨nofun, rfl⟩
  | cons n t _ ih => exact e0a2 ih fun a b => ⟨fun v hv => (List.mem_cons.mp hv).elim (fun e => ⟨_, _, e⟩) (a v), by rw [numsOf, b]⟩
theorem ints_items {vs : Array Value} {ns : List Int} (h : PyProof.Rows.IntsAre vs.toList ns) : AllInts vs ∧ numsOf vs.toList = ns := by
  refine e0a2 (ints_list h :) fun a b => ?_
  exact ⟨fun v hv => a v (Array.mem_toList_iff.mpr hv), b⟩
theorem cal_sum {ns : List Int} : Cal C n (.builtin "sum") [.list (ns.map .int)] (.int ns.sum) := by
  intro A X s vs Q E R B r hQ
  apply VRs.elimC r
  intro _ _ r0 rs
  apply VRs.elimN rs
  apply VR.elimL r0
  · intro _ _ hx hl hv
    rename_i a us
    refine e0a2 (ints_items (VRs.ints hv) :) fun h1 h2 => ?_
    refine e1a1 (h1.items :) fun xs r1q => ?_; subst r1q
    refine wpAny_with_toks (Nat.le_refl s.toks) (sum_intListG R.h hl fun h' tk t' hk ht => ?_)
    have e : preSum (numAt xs) xs.size = ns.sum := by
      rw [preSum_eq, List.take_of_length_le (by simp), ← h2, nums_intItems]
    rw [e]
    exact hQ _ _ (Stp.of_keeps B hk ht) (.int _ _)
end
end
section
open PySem PySem.Calls PySem.Builtin PySem.Builtin.Str
section
variable {C : Cx} {n : Nat} {env : Env} {ρ : Rho} {own : Own} {K : Out → Prop}
theorem strs_values {h : Heap} {X : List Addr} : ∀ {ts : List Str} {vs : List Value}, VRs C h X vs (ts.map .str) → ∃ l : List (Str × Tok), vs = strValues l ∧ l.map (·.1) = ts
  | [], _, r => by apply VRs.elimN r; exact ⟨[], rfl, rfl⟩
  | t :: ts, _, r => by
    apply VRs.elimC r
    · intro _ _ r0 rs
      apply VR.elimS r0; intro tk
      refine e1a2 (strs_values rs :) fun l e1 e2 => ?_
      exact ⟨(t, tk) :: l, by rw [e1]; rfl, by simp [e2]⟩
theorem values_strs {h : Heap} {X : List Addr} : ∀ (l : List (Str × Tok)), VRs C h X (strValues l) ((l.map (·.1)).map .str)
  | [] => .nil
  | p :: r => .cons (.str _ _) (values_strs r)
theorem strT {x : Str} (X : List Addr) (s : Shared) (v : Value) (r : VR C s.heap X v (.str x)) : s.TypeIs v "str" ∧ (∀ a, v ≠ .ref a) := by
  apply VR.elimS r; intro _; exact ⟨typeIs_str _ _ _, nofun⟩
theorem Ev_join {o e : Expr} {apos pos : Pos} {x : Str} {ts : List Str} (ho : Ev C n env ρ own o (.str x)) (hs : Evs C n env ρ own [e] [.list (ts.map .str)]) (hok : JoinOk x ts = true)
    (hbase : attributeBase o "join" env (eval o env) = eval o env) (hline : (apos.endLine == pos.line) = true) : Ev C n env ρ own (.Call (.Attribute o "join" apos) [e] [] pos) (.str (Txt.join x ts)) :=
  Ev_meth ⟨F.plainAttrs_str, F.slot_str_join, F.type_str_join⟩ ho hs strT (fun A X s v0 vs Q E R B r0 rs hQ => by
    apply VR.elimS r0; intro _
    apply VRs.elimC rs
    intro _ _ r1 rs
    apply VRs.elimN rs
    apply VR.elimL r1
    · intro _ _ hx hl hv
      rename_i a us
      refine e1a2 (strs_values hv :) fun l e1 e2 => ?_
      have e3 : us = (strValues l).toArray := by rw [← e1]
      rw [e3] at hl
      exact wpAny_with_toks (Nat.le_refl s.toks) (SC.join hl e2 hok fun t' k ht => hQ _ _ (Stp.tok B _ ht) (.str _ _))) hbase hline (by simp)
theorem split_meets {prog : Program} {w : World} {A : Around} {E : Value → Shared → Prop} {s : Shared} {x y : Str} {t u : Tok} {Q : Value → Shared → Prop} (hy : (y.length == 0) = false)
    (h : ∀ l k, l.map (·.1) = Txt.split x y → Q (.ref s.heap.objs.size) { s with heap := s.heap.push { cls := .type "list", data := .seq (strValues l).toArray }, toks := k })
    (hsz : x.length + 2 ≤ sizeLine) : wpAny (model prog w) A (call (.builtin "str.split") [.str x t, .str y u]) Q E s := by
  have hn : (partsBetween x (occurrences x y 0 x.length (x.length + 1)) y.length).length ≤ sizeLine := by
    have e1 := StrLaws.occ_length_le x y 0 x.length (x.length + 1)
    rw [PySem.length_partsBetween]; lia
  cases h1 : (decide (x.length < y.length) || decide (strKind x < strKind y))
  · cases hf : (occurrences x y 0 x.length (x.length + 1)).isEmpty
    · refine call_meets F.slot_str_split (typeIs_str _ _ _) F.entry_str_split (F.args_str_split_2 _ _) (meets_str_split_sep x y t u h1 hy hf (by lia) hn) ?_
      show wants Q E _ { s with toks := _, heap := s.heap.push { cls := .type "list", data := .seq (strsFrom s.toks (partsBetween x (occurrences x y 0 x.length (x.length + 1)) y.length)).toArray } }
      rw [strsFrom_eq]
      exact h (numbered s.toks _) _ ((numbered_texts _ _).trans ((if_neg (ne_true_of_eq_false h1)).trans (if_neg (ne_true_of_eq_false hf))).symm)
    · exact call_meets F.slot_str_split (typeIs_str _ _ _) F.entry_str_split (F.args_str_split_2 _ _) (meets_str_split_not_found x y t u h1 hy hf)
        (h [(x, t)] s.toks ((if_neg (ne_true_of_eq_false h1)).trans (if_pos hf)).symm)
  · exact call_meets F.slot_str_split (typeIs_str _ _ _) F.entry_str_split (F.args_str_split_2 _ _) (meets_str_split_cannot_occur x y t u h1)
      (h [(x, t)] s.toks (if_pos h1).symm)
theorem Ev_split {o e : Expr} {apos pos : Pos} {x y : Str} (ho : Ev C n env ρ own o (.str x)) (hs : Evs C n env ρ own [e] [.str y]) (hy : (y.length == 0) = false) (hsz : x.length + 2 ≤ sizeLine)
    (hbase : attributeBase o "split" env (eval o env) = eval o env) (hline : (apos.endLine == pos.line) = true) : Ev C n env ρ own (.Call (.Attribute o "split" apos) [e] [] pos) (.list ((Txt.split x y).map .str)) :=
  Ev_meth ⟨F.plainAttrs_str, F.slot_str_split, F.type_str_split⟩ ho hs strT (fun A X s v0 vs Q E R B r0 rs hQ => by
    apply VR.elimS r0; intro _
    apply VRs.elimC rs
    intro _ _ r1 rs
    apply VRs.elimN rs
    apply VR.elimS r1; intro _
    refine wpAny_with_toks (Nat.le_refl s.toks) (split_meets hy (fun l k e ht => ?_) hsz)
    refine hQ _ _ (Stp.of_keeps B (fun _ _ e => Heap.get?_push_of_some _ e) ht) ?_
    exact .list B.new ⟨_, Heap.get?_push_size _ rfl, rfl, _, rfl⟩ (by rw [← e]; simpa using values_strs (C := C) l)) hbase hline (by simp)
theorem Ev_index {o e : Expr} {apos pos : Pos} {x y : Str} (ho : Ev C n env ρ own o (.str x)) (hs : Evs C n env ρ own [e] [.str y]) (hc : Txt.contains x y = true)
    (hbase : attributeBase o "index" env (eval o env) = eval o env) (hline : (apos.endLine == pos.line) = true) : Ev C n env ρ own (.Call (.Attribute o "index" apos) [e] [] pos) (.int (Txt.find x y)) :=
  Ev_meth ⟨F.plainAttrs_str, F.slot_str_index, F.type_str_index⟩ ho hs strT (fun A X s v0 vs Q E R B r0 rs hQ => by
    apply VR.elimS r0; intro _
    apply VRs.elimC rs
    intro _ _ r1 rs
    apply VRs.elimN rs
    apply VR.elimS r1; intro _
    unfold Txt.contains at hc
    unfold Txt.find at hQ
    cases ho : occurrences x y 0 x.length 1 with
    | nil => rw [ho] at hc; exact absurd hc (by decide)
    | cons i rest =>
      rw [ho] at hQ
      exact call_gives F.slot_str_index (typeIs_str _ _ _) F.entry_str_index (F.args_str_index_2 _ _) (gives_str_index x y _ _ i rest ho) (hQ _ _ (Stp.tok B _) (.int _ _))) hbase hline (by simp)
theorem Ev_replace {o : Expr} {apos pos p1 p2 : Pos} {x y z : Str} {k1 k2 : Nat} (ho : Ev C n env ρ own o (.str x)) (hyz : (y == z) = false) (hx : x.length ≤ 1048576) (hz : z.length ≤ 14)
    (hbase : attributeBase o "replace" env (eval o env) = eval o env) (hline : (apos.endLine == pos.line) = true) :
    Ev C n env ρ own (.Call (.Attribute o "replace" apos) [.Constant (.str y) k1 p1, .Constant (.str z) k2 p2] [] pos) (.str (Txt.replace x y z)) := by
  intro A X s Q E R S hQ
  refine wpAny_Call_method hbase rfl hline F.plainAttrs_str F.slot_str_replace F.type_str_replace (ho A X s _ E R S fun v0 s1 t1 r1 => ⟨(strT X s1 v0 r1).1, fun a e => absurd e ((strT X s1 v0 r1).2 a), ?_⟩)
  apply VR.elimS r1; intro _
  have S1 := S.step t1
  refine callWith_builtin rfl ?_
  refine evalArgs_plain ?_
  refine wpAny_items_cons (wpAny_Constant_str ?_) rfl
  refine wpAny_items_cons (wpAny_Constant_str ?_) rfl
  refine wpAny_items_nil ?_
  have h1 : 1 ≤ s1.toks := S1.tk
  refine wpAny_with_toks (n := s1.toks) (by show s1.toks ≤ s1.toks + 1 + 1; exact Nat.le_of_lt (Nat.le_succ s1.toks.succ)) (SC.replaceW ?_ ?_ ?_ hyz hx hz fun t' k ht => hQ _ _ (t1.trans (Stp.tok S1.toBs k ht)) (.str _ _))
  · exact Nat.ne_of_gt h1
  · exact Nat.succ_ne_zero _
  · exact Nat.ne_of_lt (Nat.lt_succ_self _)
theorem Es_try {body : List Stmt} {h0 : ExceptHandler} {hs : List ExceptHandler} {pos : Pos} (h : Ex C n env ρ own body fun o => match o with | .next ρ' own' => K (.next ρ' own') | .ret d o => K (.ret d o)) : Es C n env ρ own (.Try body (h0 :: hs) [] [] pos) K := by
  intro A X s Q E R S hQ
  refine wpAny_Try_except (h A X s _ _ R S fun out f s' ko o => ?_)
  cases o with
  | next p S' => exact wpAny_execs_nil (hQ _ _ _ ko (.next p S'))
  | ret p S' r => exact hQ _ _ _ ko (.ret p S' r)
end
end
section
open PySem PySem.Calls PySem.W
theorem triples_app : ∀ {l m : List Value}, TriplesOk l → TriplesOk m → TriplesOk (l ++ m) := by
  intro l m h hm
  fun_induction TriplesOk l with
  | case1 => exact hm
  | case2 a t b u x rest ih => exact ih h
  | case3 l h1 h2 => exact h.elim
theorem codeAmong_app {q : Pos} {a b : Value} {i j : Int} {ti tj : Tok} {c cv : Value} (l : List Value) (h : TriplesOk l) (hc : codeAmong q (l ++ [.int i ti, .int j tj, c]) = some cv) : codeAmong q l = some cv ∨ cv = c := by
  fun_induction TriplesOk l with
  | case1 =>
    simp only [List.nil_append, codeAmong] at hc
    split at hc
    · cases hc; exact .inr rfl
    · cases hc
  | case2 a t b u x rest ih =>
    simp only [List.cons_append, codeAmong] at hc ⊢
    split at hc
    · rename_i hh; rw [if_pos hh]; exact .inl hc
    · rename_i hh; rw [if_neg hh]; exact ih h hc
  | case3 l h1 h2 => exact h.elim
structure Mk (C : Cx) (c P : Addr) (qual : Str) : Prop where
  tab : (c, P, qual) ∈ C.tabs
  one : ∀ t ∈ C.tabs, t.2.1 = P → t.2.2 = qual
  hd : CodeHd C.G c P
  mg : ∃ mg, C.G.Ns mainGlobals mg ∧ ∃ bm o, mg "__builtins__" = some (.ref bm) ∧ bm ≠ builtinsNs ∧ bm ≠ mainGlobals ∧ C.G.get? bm = some o ∧ o.cls = .type "module" ∧ o.dict = some builtinsNs ∧ o.data = .plain
structure FdOk (fd : FuncData) (name qual : Str) (params : Arguments) (body : List Stmt) (scope : Scope) (cl : List (Str × Addr)) : Prop where
  qual : fd.qualname = qual
  params : fd.params = params
  body : fd.body = .stmts body
  scope : fd.scope = scope
  cl : fd.closure = cl
  gl : fd.globals = mainGlobals
  bl : fd.builtins = builtinsNs
  df : fd.defaults = .none
  kd : fd.kwdefaults = .none
section
variable {C : Cx} {n : Nat} {env : Env} {ρ : Rho} {own : Own} {K : Out → Prop}
theorem Es_def {name qual : Str} {params : Arguments} {body : List Stmt} {scope : Scope} {pos : Pos} {c P : Addr} (M : Mk C c P qual) (hcode : env.code = .ref c) (hq : qualnameIn env name name = qual) (hfree : FreeIn ρ scope.names)
    (hd0 : params.defaults = []) (hk0 : params.kw_defaults = []) (ha : annTrees params none env = [])
    (h : ∀ fd, FdOk fd name qual params body scope (clOf env scope.names []) → ∃ ρ', Up ρ name (.fn fd) ρ' ∧ K (.next ρ' own)) :
    Es C n env ρ own (.FunctionDef name params body [] none [] scope none name pos) K := by
  intro A X s Q E R S hQ
  refine nestDef_K hd0 hk0 ha ?_
  rw [hq]
  refine e1a3 (S.tab _ M.tab :) fun ps hP ht hall => ?_
  dsimp only at hP hall
  have hPt : P ∈ C.tP := List.mem_map_of_mem (f := fun t : Addr × Addr × Str => t.2.1) M.tab
  have hPX : P ∈ Wx env own ++ X := S.tx P hPt
  have old : ∀ b o, C.G.get? b = some o → s.heap.get? b = some o := fun b o e => (S.base b o e).2
  have neP : ∀ b o, C.G.get? b = some o → b ≠ P := fun b o e q => (S.base b o e).1 (q ▸ hPX)
  refine e1a2 (M.mg :) fun mg hmg w1q => e2a5 w1q fun bm ob b1 b2 b3 b4 b5 => ?_
  have hgs := hmg.keeps old
  have hgP : mainGlobals ≠ P := by refine e3a2 (hmg :) fun o _ _ e _ => ?_; exact neP _ o e
  have hb : s.heap.BuiltinsAt mg P := ⟨bm, ob, b1, b2, b3, neP _ _ b4, old _ _ b4, b5⟩
  have hcl := closureFor_ok (scope := scope) (hfree.has S.toStR)
  have CH := M.hd.keeps old
  cases hf : codeAmong pos ps.toList with
  | none =>
    refine wpAny_with_toks (Nat.le_refl s.toks) (makeFunction_K hcl S.gl hgs hcode CH hP ht hf hgP hb fun c' ctv doc h' tk hx hge hlt hrec htb htk => ?_)
    refine e4a4 (hrec :) fun c2 oc vs t e2 hoc hdc hv => ?_
    cases e2
    generalize hH : h'.push (fnMade name qual params body scope (clOf env scope.names []) doc ((mg "__name__").getD .none) c' ctv) = H
    have hk : ∀ b o, b ≠ P → s.heap.get? b = some o → H.get? b = some o := fun b o hb e => hH ▸ Heap.get?_push_of_some _ (hx b o hb e)
    have c'Y : c' ∉ Wx env own ++ X := S.toBs.newLe hge
    have fY : h'.objs.size ∉ Wx env own ++ X := S.toBs.newLe (Nat.le_of_lt (Nat.lt_of_le_of_lt hge hlt))
    have hoc' : H.get? c' = some oc := hH ▸ Heap.get?_push_of_some _ hoc
    have T : TabOk C H (Wx env own ++ X) := by
      intro t' ht'
      by_cases hp : t'.2.1 = P
      · refine ⟨_, by rw [hp]; exact hH ▸ Heap.get?_push_of_some _ htb, ?_, fun q cv hc => ?_⟩
        · rw [Array.toList_append]; exact triples_app ht trivial
        · rw [Array.toList_append] at hc
          have hq := M.one t' ht' hp
          rcases codeAmong_app (a := .none) (b := .none) _ ht hc with h1 | h1
          · refine e4a5 (hall q cv h1 :) fun c1 o1 vs1 tk1 g1 g2 g3 g4 g5 => ?_
            exact ⟨c1, o1, vs1, tk1, g1, g2, hk _ _ (fun r => g2 (r ▸ hPX)) g3, g4, by rw [hq]; exact g5⟩
          · exact ⟨c', oc, vs, t, h1, c'Y, hoc', hdc, by rw [hq]; exact hv⟩
      · refine e1a3 (S.tab t' ht' :) fun ps' e1 a1 b1 => ?_
        refine ⟨ps', hk _ _ hp e1, a1, fun q cv hc => ?_⟩
        refine e4a4 (b1 q cv hc :) fun c1 o1 vs1 tk1 g1 g2 g3 g4 => ?_
        exact ⟨c1, o1, vs1, tk1, g1, g2, hk _ _ (fun r => g2 (r ▸ hPX)) g3, g4⟩
    have t1 : Stp C (Wx env own ++ X) s { s with heap := H, toks := tk } := ⟨H, tk, rfl, htk, fun b o hb e => hk b o (fun r => hb (r ▸ hPt)) e, T⟩
    refine e0a2 (S.stp t1 :) fun S1 p1 => ?_
    refine e1a2 (h (fnX name qual params body scope (clOf env scope.names []) .none .none doc ((mg "__name__").getD .none) none (.ref c') ctv) ⟨rfl, rfl, rfl, rfl, rfl, rfl, rfl, rfl, rfl⟩ :) fun ρ' hu hK => ?_
    refine S1.store (.fn fY (hH ▸ Heap.get?_push_size _ rfl) rfl rfl c'Y hoc' hdc hv) hu fun s2 p2 S2 => ?_
    exact hQ _ _ _ hK (.next (p1.trans p2) S2)
  | some cv =>
    refine e4a5 (hall pos cv hf :) fun c' oc vs tk' e1 c'Y hoc hdc hv => ?_
    subst e1
    refine wpAny_with_toks (Nat.le_refl s.toks) (makeFunction_hit hcl S.gl hgs hcode CH hP ht hf hb fun ctv doc h' tk hx hge htk => ?_)
    generalize hH : h'.push { cls := .type "function", data := .func (fnX name qual params body scope (clOf env scope.names []) .none .none doc ((mg "__name__").getD .none) none (.ref c') ctv) } = H
    have hk : ∀ b o, s.heap.get? b = some o → H.get? b = some o := fun b o e => hH ▸ Heap.get?_push_of_some _ (hx b o e)
    have fY : h'.objs.size ∉ Wx env own ++ X := S.toBs.newLe hge
    have t1 : Stp C (Wx env own ++ X) s { s with heap := H, toks := tk } := Stp.of_keeps S.toBs hk htk
    refine e0a2 (S.stp t1 :) fun S1 p1 => ?_
    refine e1a2 (h (fnX name qual params body scope (clOf env scope.names []) .none .none doc ((mg "__name__").getD .none) none (.ref c') ctv) ⟨rfl, rfl, rfl, rfl, rfl, rfl, rfl, rfl, rfl⟩ :) fun ρ' hu hK => ?_
    refine S1.store (.fn fY (hH ▸ Heap.get?_push_size _ rfl) rfl rfl c'Y (hk _ _ hoc) hdc hv) hu fun s2 p2 S2 => ?_
    exact hQ _ _ _ hK (.next (p1.trans p2) S2)
end
end
section
open PySem PySem.Calls
variable {C : Cx}
theorem Es_ifB {n : Nat} {env : Env} {ρ : Rho} {own : Own} {K : Out → Prop} {test : Expr} {body orelse : List Stmt} {pos : Pos} {b : Bool} (P : Prop) (ht : EvT C n env ρ own test b) (he : b = true ↔ P) (h1 : P → Ex C n env ρ own body K) (h2 : ¬ P → Ex C n env ρ own orelse K) : Es C n env ρ own (.If test body orelse pos) K :=
  Es_if ht (fun h => h1 (he.mp h)) fun h => h2 fun p => by rw [he.mpr p] at h; cases h
noncomputable def nmF (env : Env) (line : Nat) (e : Expr) : Option Str := match e with
  | .Name id pos => if env.kindOf id == some .local && pos.line == line then some id else none
  | _ => none
theorem swapsG {ts vs : List Expr} {tpos vpos : Pos} {k k2 : Nat} {env : Env} {names : List Str} (h1 : (!(ts.length == 2 || ts.length == 3) || vs.length != ts.length || env.blockKind != .function) = false) (hst : (vs.any fun | .Starred .. => true | _ => false) = false)
    (hnm : ts.filterMap (nmF env ((ts.head?.map (·.pos.line)).getD 0)) = names) (hn : (names.length != ts.length || names.eraseDups.length != names.length) = false) (hff : vs.all (foldedForSure 8) = false) (hca : vs.all (constantsAlone 8) = false) :
    swappedStores [.Tuple ts k tpos] (.Tuple vs k2 vpos) env = pure (some names) := by
  subst hnm
  exact (if_neg (ne_true_of_eq_false h1)).trans ((if_neg (ne_true_of_eq_false hst)).trans ((if_neg (ne_true_of_eq_false hn)).trans ((if_neg (ne_true_of_eq_false hff)).trans (if_neg (ne_true_of_eq_false hca)))))
theorem swapsN {ts vs : List Expr} {tpos vpos : Pos} {k k2 : Nat} {env : Env} {names : List Str} (h1 : (!(ts.length == 2 || ts.length == 3) || vs.length != ts.length || env.blockKind != .function) = false) (hst : (vs.any fun | .Starred .. => true | _ => false) = false)
    (hnm : ts.filterMap (nmF env ((ts.head?.map (·.pos.line)).getD 0)) = names) (hn : (names.length != ts.length || names.eraseDups.length != names.length) = true) :
    swappedStores [.Tuple ts k tpos] (.Tuple vs k2 vpos) env = pure none := by
  subst hnm
  exact (if_neg (ne_true_of_eq_false h1)).trans ((if_neg (ne_true_of_eq_false hst)).trans (if_pos hn))
theorem nmF_some {env : Env} {line : Nat} {x : Str} {p : Pos} (h : env.kindOf x = some .local) (hp : (p.line == line) = true) : nmF env line (.Name x p) = some x :=
  if_pos (by rw [h, hp]; rfl)
theorem ne_sym {a b : Str} (h : (a == b) = false) : (b == a) = false := Bool.eq_false_iff.mpr fun q => Bool.eq_false_iff.mp h (beq_iff_eq.mpr (beq_iff_eq.mp q).symm)
theorem swap2 {x1 x2 : Str} {p1 p2 tpos : Pos} {k k2 : Nat} {v1 v2 : Expr} {vpos : Pos} {env : Env} (hb : env.blockKind = .function) (hk : ∀ x ∈ [x1, x2], env.kindOf x = some .local) (hl : (p2.line == p1.line) = true) (hne : (x1 == x2) = false)
    (hst : ([v1, v2].any fun | .Starred .. => true | _ => false) = false) (hff : [v1, v2].all (foldedForSure 8) = false) (hca : [v1, v2].all (constantsAlone 8) = false) :
    swappedStores [.Tuple [.Name x1 p1, .Name x2 p2] k tpos] (.Tuple [v1, v2] k2 vpos) env = pure (some [x1, x2]) := by
  have hd : ([x1, x2] : List Str).eraseDups = [x1, x2] := by
    simp [List.eraseDups, List.eraseDupsBy, List.eraseDupsBy.loop, ne_sym hne]
  exact swapsG (by rw [hb]; rfl) hst ((List.filterMap_cons_some (nmF_some (hk x1 List.mem_cons_self) (beq_self_eq_true _))).trans (congrArg (List.cons x1) (List.filterMap_cons_some (nmF_some (hk x2 (List.mem_cons_of_mem _ List.mem_cons_self)) hl)))) (by rw [hd]; rfl) hff hca
theorem swap3 {x1 x2 x3 : Str} {p1 p2 p3 tpos : Pos} {k k2 : Nat} {v1 v2 v3 : Expr} {vpos : Pos} {env : Env} (hb : env.blockKind = .function) (hk : ∀ x ∈ [x1, x2, x3], env.kindOf x = some .local) (hl : (p2.line == p1.line && p3.line == p1.line) = true) (hne : (x1 == x2 || x1 == x3 || x2 == x3) = false)
    (hst : ([v1, v2, v3].any fun | .Starred .. => true | _ => false) = false) (hff : [v1, v2, v3].all (foldedForSure 8) = false) (hca : [v1, v2, v3].all (constantsAlone 8) = false) :
    swappedStores [.Tuple [.Name x1 p1, .Name x2 p2, .Name x3 p3] k tpos] (.Tuple [v1, v2, v3] k2 vpos) env = pure (some [x1, x2, x3]) := by
  have hd : ([x1, x2, x3] : List Str).eraseDups = [x1, x2, x3] := by
    simp only [Bool.or_eq_false_iff] at hne
    simp [List.eraseDups, List.eraseDupsBy, List.eraseDupsBy.loop, ne_sym hne.1.1, ne_sym hne.1.2, ne_sym hne.2]
  have hl' := Bool.and_eq_true_iff.mp hl
  exact swapsG (by rw [hb]; rfl) hst ((List.filterMap_cons_some (nmF_some (hk x1 List.mem_cons_self) (beq_self_eq_true _))).trans (congrArg (List.cons x1) ((List.filterMap_cons_some (nmF_some (hk x2 (List.mem_cons_of_mem _ List.mem_cons_self)) hl'.1)).trans (congrArg (List.cons x2) (List.filterMap_cons_some (nmF_some (hk x3 (List.mem_cons_of_mem _ (List.mem_cons_of_mem _ List.mem_cons_self))) hl'.2)))))) (by rw [hd]; rfl) hff hca
section
variable {n : Nat} {env : Env} {ρ ρ' ρ1 ρ2 : Rho} {own : Own} {K : Out → Prop}
theorem Es_swap2 {x1 x2 : Str} {p1 p2 tpos vpos pos : Pos} {k k2 : Nat} {v1 v2 : Expr} {d1 d2 : D} (he : Ev C n env ρ own (.Tuple [v1, v2] k2 vpos) (.tuple [d1, d2])) (hu2 : UpL ρ x2 d2 ρ1) (hu1 : UpL ρ1 x1 d1 ρ') (hK : K (.next ρ' own))
    (hl : (p2.line == p1.line) = true) (hne : (x1 == x2) = false) (hst : ([v1, v2].any fun | .Starred .. => true | _ => false) = false) (hff : [v1, v2].all (foldedForSure 8) = false) (hca : [v1, v2].all (constantsAlone 8) = false)
    (hs : swapsWithSole [.Tuple [.Name x1 p1, .Name x2 p2] k tpos] (.Tuple [v1, v2] k2 vpos) pos.line env = pure false) :
    Es C n env ρ own (.Assign [.Tuple [.Name x1 p1, .Name x2 p2] k tpos] (.Tuple [v1, v2] k2 vpos) pos) K := by
  refine Es_swap (names := [x1, x2]) (fun x hx => ?_) (EvW_pure he ⟨[d1, d2], ρ', rfl, rfl, .cons hu2.up (.cons hu1.up .nil), hK⟩) (fun hb hk => swap2 hb hk hl hne hst hff hca) hs
  simp only [List.mem_cons, List.not_mem_nil, or_false] at hx
  rcases hx with rfl | rfl
  · exact hu2.keep hu1.loc
  · exact hu2.loc
theorem Es_swap3 {x1 x2 x3 : Str} {p1 p2 p3 tpos vpos pos : Pos} {k k2 : Nat} {v1 v2 v3 : Expr} (hlc : (∃ o, (x1, Sl.loc, o) ∈ ρ) ∧ (∃ o, (x2, Sl.loc, o) ∈ ρ) ∧ (∃ o, (x3, Sl.loc, o) ∈ ρ)) (he : EvW C n env ρ own (.Tuple [v1, v2, v3] k2 vpos) fun d own' => ∃ d1 d2 d3 ρ1 ρ2 ρ', d = .tuple [d1, d2, d3] ∧ UpL ρ x3 d3 ρ1 ∧ UpL ρ1 x2 d2 ρ2 ∧ UpL ρ2 x1 d1 ρ' ∧ K (.next ρ' own'))
    (hl : (p2.line == p1.line && p3.line == p1.line) = true) (hne : (x1 == x2 || x1 == x3 || x2 == x3) = false) (hst : ([v1, v2, v3].any fun | .Starred .. => true | _ => false) = false) (hff : [v1, v2, v3].all (foldedForSure 8) = false) (hca : [v1, v2, v3].all (constantsAlone 8) = false)
    (hs : swapsWithSole [.Tuple [.Name x1 p1, .Name x2 p2, .Name x3 p3] k tpos] (.Tuple [v1, v2, v3] k2 vpos) pos.line env = pure false) :
    Es C n env ρ own (.Assign [.Tuple [.Name x1 p1, .Name x2 p2, .Name x3 p3] k tpos] (.Tuple [v1, v2, v3] k2 vpos) pos) K := by
  refine Es_swap (names := [x1, x2, x3]) (fun x hx => ?_) (fun A X s Q E R S hQ => he A X s Q E R S fun d own' v s' w1q => e6a5 (w1q :) fun d1 d2 d3 ρ1 ρ2 ρ' h0 h1 h2 h3 hK => hQ d own' v s' ⟨[d1, d2, d3], ρ', h0, rfl, .cons h1.up (.cons h2.up (.cons h3.up .nil)), hK⟩) (fun hb hk => swap3 hb hk hl hne hst hff hca) hs
  simp only [List.mem_cons, List.not_mem_nil, or_false] at hx
  rcases hx with rfl | rfl | rfl
  · exact hlc.1
  · exact hlc.2.1
  · exact hlc.2.2
theorem Es_tupP {elts : List Expr} {k : Nat} {tpos pos : Pos} {e : Expr} {ds : List D} (he : Ev C n env ρ own e (.tuple ds)) (ha : AsgN elts ds ρ ρ') (hK : K (.next ρ' own))
    (hs : swapsWithSole [.Tuple elts k tpos] e pos.line env = pure false) (hw : swappedStores [.Tuple elts k tpos] e env = pure none) : Es C n env ρ own (.Assign [.Tuple elts k tpos] e pos) K :=
  Es_tup (EvW_pure he ⟨ρ', .tuple ha, hK⟩) hs fun _ => hw
theorem Es_setN {x : Str} {p pos : Pos} {e : Expr} {ds : List D} {ρ' : Addr → Rho} (he : EvN C n env ρ own e ds) (hu : ∀ a, Up ρ x (.ref a) (ρ' a)) (hK : ∀ a, K (.next (ρ' a) ((a, ds) :: own))) (hs : swapsWith e (some (.Name x p)) pos.line env = pure false) : Es C n env ρ own (.Assign [.Name x p] e pos) K :=
  Es_setW (EvW_new he fun a => ⟨ρ' a, hu a, hK a⟩) hs
noncomputable def EvWs (C : Cx) (n : Nat) (env : Env) (ρ : Rho) : Own → List Expr → (List D → Own → Prop) → Prop
  | own, [], K => K [] own
  | own, e :: es, K => starEach (e :: es) env = (false, eval e env) :: starEach es env ∧ EvW C n env ρ own e (fun d own1 => EvWs C n env ρ own1 es (fun ds own2 => K (d :: ds) own2))
theorem EvWs.sound {pos : Pos} : ∀ {es : List Expr} {own : Own} {K : List D → Own → Prop}, EvWs C n env ρ own es K → ∀ (A : Around) (X : List Addr) (s : Shared) (Q : List Value → Shared → Prop) (E : Value → Shared → Prop), Room A n → St C X env ρ own s →
    (∀ ds own' vs s', K ds own' → ds.length = es.length → Pst C X env own own' s s' → St C X env ρ own' s' → VRs C s'.heap (Wx env own' ++ X) vs ds → Q vs s') → wpAny (model C.prog C.w) A (spliced (backTo pos (starEach es env))) Q E s
  | [], own, K, h, A, X, s, Q, E, R, S, hQ => wpAny_items_nil (hQ [] own [] s h rfl .refl S .nil)
  | e :: es, own, K, h, A, X, s, Q, E, R, S, hQ => by
    refine wpAny_items_cons (h.2 A X s _ E R S fun d own1 v s1 hK1 p1 S1 r1 => ?_) h.1
    refine EvWs.sound hK1 A X s1 _ E R S1 fun ds own2 vs s2 hK2 hl p2 S2 r2 => ?_
    exact hQ (d :: ds) own2 (v :: vs) s2 hK2 (by simp [hl]) (p1.trans p2) S2 (.cons (r1.mono p2.fz) r2)
theorem EvW_tuple {es : List Expr} {k : Nat} {pos : Pos} {K : D → Own → Prop} (h : EvWs C n env ρ own es fun ds own' => K (.tuple ds) own') (hz : es.length ≤ 1000 := by decide) : EvW C n env ρ own (.Tuple es k pos) K := by
  intro A X s Q E R S hQ
  refine wpAny_Tuple (EvWs.sound h A X s _ E R S fun ds own' vs s1 hK hl p1 S1 r1 => ⟨?_, ?_⟩)
  · rw [r1.length, hl]; exact Nat.le_trans hz (by decide)
  · have t := Stp.push S1.toBs { cls := .type "tuple", data := .seq vs.toArray }
    refine e0a2 (S1.stp t :) fun S2 p2 => ?_
    exact hQ _ _ _ _ hK (p1.trans p2) S2 (push_tuple S1.toBs r1)
end
end
section
open PySem PySem.Calls
noncomputable def FnC (C : Cx) (X : List Addr) (h : Heap) (fd : FuncData) (vals : List (Str × D)) : Prop := ∀ p ∈ vals, ∃ c v, fd.closure.lookup p.1 = some c ∧ h.IsCell c (some v) ∧ VR C h X v p.2
noncomputable def CalC (C : Cx) (n : Nat) (fd : FuncData) (vals : List (Str × D)) (ds : List D) (d : D) : Prop :=
  ∀ (A : Around) (X X' : List Addr) (s : Shared) (f : Addr) (vs : List Value) (Q E : Value → Shared → Prop), Room A n → Bs C X s → VR C s.heap X (.ref f) (.fn fd) → Hid C s X X' fd.closure [] → FnC C X s.heap fd vals → VRs C s.heap X vs ds →
    (∀ v s', Stp C X s s' → VR C s'.heap X v d → Q v s') → wpAny (model C.prog C.w) A (call (.ref f) vs) Q E s
noncomputable def CalM (C : Cx) (n : Nat) (fd : FuncData) (vals : List (Str × D)) (a : Addr) (xs : List D) (ds : List D) (xs' : List D) : Prop :=
  ∀ (A : Around) (X X' : List Addr) (s : Shared) (f : Addr) (vs : List Value) (Q E : Value → Shared → Prop), Room A n → Bs C X s → VR C s.heap X (.ref f) (.fn fd) → Hid C s X X' fd.closure [(a, xs)] → FnC C X s.heap fd vals → VRs C s.heap X vs ds →
    (∀ s' ws, (∃ h tk, s' = { s with heap := h, toks := tk } ∧ s.toks ≤ tk) → (∀ b o, b ∉ C.tP → b ≠ a → s.heap.get? b = some o → s'.heap.get? b = some o) → TabOk C s'.heap X → s'.heap.PlainList a ws → VRs C s'.heap X ws.toList xs' → Q .none s') → wpAny (model C.prog C.w) A (call (.ref f) vs) Q E s
structure FnShape (fd : FuncData) (body : List Stmt) : Prop where
  co : fd.scope.isCoroutine = false
  gen : fd.scope.isGenerator = false
  kind : fd.scope.kind = .function
  body : fd.body = .stmts body
  gl : fd.globals = mainGlobals
  bl : fd.builtins = builtinsNs
  names : ∀ x ∈ fd.scope.names, fd.scope.names.lookup x.1 = some x.2
  cl : ∀ p ∈ fd.closure, fd.closure.lookup p.1 = some p.2 ∧ fd.scope.names.lookup p.1 = some .free
theorem VR.fnIs {C : Cx} {X : List Addr} {h : Heap} {f : Addr} {fd : FuncData} {body : List Stmt} (r : VR C h X (.ref f) (.fn fd)) (F : FnShape fd body) : FnIs h f fd body := by
  refine e6a9 r.out fun a o c oc vs tk e hx ho hd hc hy hoc hv ht => ?_
  have e' := Value.ref.inj e
  exact ⟨⟨o, e' ▸ ho, hd⟩, F.co, F.gen, F.kind, F.body, ⟨_, _, _, _, hc, hoc, hv, ht⟩, F.gl, F.bl, F.names⟩
section
variable {C : Cx} {n : Nat}
theorem CalC_of {fd : FuncData} {body : List Stmt} {params : List Str} {vals : List (Str × D)} {ds : List D} {d : D} {ρ0 ρ1 : Rho} (F : FnShape fd body) (hlim : C.G.NoLimit) (hbind : ∀ vs : List Value, vs.length = params.length → bindArgs fd ⟨vs, []⟩ = pure (params.zip vs))
    (hF : ∀ X h, FnC C X h fd vals → FnR C X h fd.scope fd.closure ρ0) (nr : (ρ0.map (·.1)).Nodup) (hsts : Sts params ds ρ0 ρ1) (hlen : ds.length = params.length)
    (hE : ∀ f L, Ex C n (fnEnv fd f L) ρ1 [] body fun o => match o with | .ret d' _ => d' = d | .next _ _ => d = .none) : CalC C (n + 1) fd vals ds d := by
  intro A X X' s f vs Q E R B rf H hC r hQ
  refine enter (own0 := []) R B (rf.fnIs F) hlim (hbind vs (by rw [r.length, hlen])) H F.cl (hF X s.heap hC) nr hsts r (fun L => hE f L) fun d' own' v s' hK same k hW => ?_
  refine e0a3 (hW X (fun b hb => .inr ⟨hb, by simp⟩) B.tx :) fun T r' _ => ?_
  refine e2a2 (same :) fun h tk e z => ?_
  have hd : d' = d := by
    rcases hK with h | ⟨rfl, ρ', h⟩
    · exact h
    · exact h.symm
  subst hd
  exact hQ v s' ⟨h, tk, e, z, fun b o hb eb => by subst e; exact k b o hb (by simp) eb, by subst e; exact T⟩ r'
theorem CalM_of {fd : FuncData} {body : List Stmt} {params : List Str} {vals : List (Str × D)} {ds : List D} {a : Addr} {xs xs' : List D} {ρ0 ρ1 : Rho} (F : FnShape fd body) (hlim : C.G.NoLimit) (hbind : ∀ vs : List Value, vs.length = params.length → bindArgs fd ⟨vs, []⟩ = pure (params.zip vs))
    (hF : ∀ X h, FnC C X h fd vals → FnR C X h fd.scope fd.closure ρ0) (nr : (ρ0.map (·.1)).Nodup) (hsts : Sts params ds ρ0 ρ1) (hlen : ds.length = params.length)
    (hE : ∀ f L, Ex C n (fnEnv fd f L) ρ1 [(a, xs)] body fun o => match o with | .ret d' own' => d' = .none ∧ own' = [(a, xs')] | .next _ own' => own' = [(a, xs')]) : CalM C (n + 1) fd vals a xs ds xs' := by
  intro A X X' s f vs Q E R B rf H hC r hQ
  refine enter (own0 := [(a, xs)]) R B (rf.fnIs F) hlim (hbind vs (by rw [r.length, hlen])) H F.cl (hF X s.heap hC) nr hsts r (fun L => hE f L) fun d' own' v s' hK same k hW => ?_
  have hd : d' = .none ∧ own' = [(a, xs')] := by
    rcases hK with h | ⟨h1, ρ', h⟩
    · exact h
    · exact ⟨h1, h⟩
  refine e0a2 (hd :) fun r0q r1q => ?_; subst r0q; subst r1q
  refine e0a3 (hW X (fun b hb => by
    by_cases q : b = a
    · exact .inl (by simp [q])
    · exact .inr ⟨hb, by simpa using q⟩) B.tx :) fun T r' ho => ?_
  apply VR.elimN r'
  refine e0a2 (ho (a, xs') List.mem_cons_self :) fun _ w2q => e1a2 w2q fun ws P rw => ?_
  exact hQ s' ws same (fun b o hb hn e => k b o hb (by simpa using hn) e) T P rw
noncomputable def EvS (C : Cx) (n : Nat) (env : Env) (ρ : Rho) (own : Own) (e : Expr) (d : D) : Prop :=
  ∀ (A : Around) (X : List Addr) (s : Shared) (Q : Value → Shared → Prop) (E : Value → Shared → Prop), Room A n → St C X env ρ own s →
    (∀ v s', Stp C (Wx env own ++ X) s s' → VR C s'.heap (Wx env own ++ X) v d → Q v s') → wpAny (model C.prog C.w) A (eval e env) Q E s
variable {env : Env} {ρ : Rho} {own : Own} {K : Out → Prop}
theorem EvS_of {e : Expr} {d : D} (h : Ev C n env ρ own e d) : EvS C n env ρ own e d := fun A X s Q E R S hQ => h A _ s Q E R S.toStR hQ
theorem EvS_bin {op : Operator} {l r : Expr} {pos : Pos} {d1 d2 d : D} (hl : EvS C n env ρ own l d1) (hr : EvS C n env ρ own r d2) (ho : Op2 C n (binaryOp op) d1 d2 d) : EvS C n env ρ own (.BinOp l op r pos) d := by
  intro A X s Q E R S hQ
  refine wpAny_BinOp (hl A X s _ E R S fun v1 s1 t1 r1 => hr A X s1 _ E R (S.stp t1).1 fun v2 s2 t2 r2 => ?_)
  exact ho A _ s2 Q E v1 v2 R (((S.stp t1).1).stp t2).1.toBs (r1.mono (t2.fz S.tx)) r2 fun v s' t r => hQ v s' ((t1.trans t2).trans t) r
theorem EvS_ifexp {test body orelse : Expr} {pos : Pos} {b : Bool} {d : D} (ht : EvT C n env ρ own test b) (h1 : b = true → EvS C n env ρ own body d) (h2 : b = false → EvS C n env ρ own orelse d) : EvS C n env ρ own (.IfExp test body orelse pos) d := by
  intro A X s Q E R S hQ
  refine wpAny_IfExp (ht A _ s _ E R S.toStR fun s1 t1 => ?_)
  cases b with
  | true => exact h1 rfl A X s1 Q E R (S.stp t1).1 fun v s' t r => hQ v s' (t1.trans t) r
  | false => exact h2 rfl A X s1 Q E R (S.stp t1).1 fun v s' t r => hQ v s' (t1.trans t) r
theorem Es_retS {e : Expr} {pos : Pos} {d : D} (he : EvS C n env ρ own e d) (h : K (.ret d own)) : Es C n env ρ own (.Return (some e) pos) K := by
  intro A X s Q E R S hQ
  exact wpAny_Return_some (he A X s _ E R S fun v s' t r => hQ _ _ _ h (.ret (S.stp t).2 (S.stp t).1 r))
theorem Hid.of {X : List Addr} {s : Shared} {cl : List (Str × Addr)} {own0 : Own} (hcl : ∀ b ∈ cl.map (·.2), b ∈ X ∧ b ∉ C.tP) (ho : ∀ b ∈ own0.map (·.1), b ∈ X ∧ b ∉ C.tP) (nd : (cl.map (·.2) ++ own0.map (·.1)).Nodup) (tx : ∀ P ∈ C.tP, P ∈ X)
    (hown : ∀ p ∈ own0, p.1 ∉ C.tP ∧ ∃ vs, s.heap.PlainList p.1 vs ∧ VRs C s.heap X vs.toList p.2) : Hid C s X (X.filter fun b => decide (b ∉ cl.map (·.2) ++ own0.map (·.1))) cl own0 := by
  refine ⟨fun b => ?_, nd, fun b hb => ?_, fun P hP => ?_, hown⟩
  · simp only [List.mem_filter, decide_eq_true_eq]
    constructor
    · intro h
      by_cases h1 : b ∈ cl.map (·.2)
      · exact .inl h1
      · by_cases h2 : b ∈ own0.map (·.1)
        · exact .inr (.inl h2)
        · exact .inr (.inr ⟨h, fun q => (List.mem_append.mp q).elim h1 h2⟩)
    · rintro (h | h | h)
      · exact (hcl b h).1
      · exact (ho b h).1
      · exact h.1
  · simp only [List.mem_filter, decide_eq_true_eq, not_and, Classical.not_not]
    intro _
    exact List.mem_append.mpr hb
  · simp only [List.mem_filter, decide_eq_true_eq]
    refine ⟨tx P hP, fun q => ?_⟩
    rcases List.mem_append.mp q with q | q
    · exact (hcl P q).2 hP
    · exact (ho P q).2 hP
structure InFrame (env : Env) (ρ : Rho) (fd : FuncData) (vals : List (Str × D)) : Prop where
  vals : ∀ p ∈ vals, ((p.1, Sl.cel, some p.2) ∈ ρ ∨ (p.1, Sl.fre, some p.2) ∈ ρ) ∧ fd.closure.lookup p.1 = env.cells.lookup p.1
  sub : ∀ b ∈ fd.closure.map (·.2), b ∈ env.cells.map (·.2)
  nd : (fd.closure.map (·.2)).Nodup
theorem InFrame.fnC {X : List Addr} {s : Shared} {fd : FuncData} {vals : List (Str × D)} (I : InFrame env ρ fd vals) (S : St C X env ρ own s) : FnC C (Wx env own ++ X) s.heap fd vals := by
  intro p hp
  refine e0a2 (I.vals p hp :) fun hm hl => ?_
  refine e1a2 (S.vars :) fun m hn hv => ?_
  have ic : InCell C (Wx env own ++ X) env s.heap p.1 (some p.2) := by
    exact hm.elim (fun q => (hv _ q).elimC fun _ _ c => c) fun q => (hv _ q).elimF fun _ _ c => c
  refine e2a4 (ic :) fun c ov e1 e2 e3 e4 => ?_
  refine e1a2 (e4 _ rfl :) fun v r1q r => ?_; subst r1q
  exact ⟨c, v, by rw [hl, e1], e3, r⟩
theorem EvS_callC {x : Str} {p pos : Pos} {e : Expr} {rest : List Expr} {fd : FuncData} {body : List Stmt} {vals : List (Str × D)} {ds : List D} {d : D} (hx : At ρ x (.fn fd)) (hs : Evs C n env ρ own (e :: rest) ds) (F : FnShape fd body) (I : InFrame env ρ fd vals) (hc : CalC C n fd vals ds d) :
    EvS C n env ρ own (.Call (.Name x p) (e :: rest) [] pos) d := by
  intro A X s Q E R S hQ
  refine PyProof.Rows.Call_Name rfl (Ev_name hx A _ s _ E R S.toStR fun v1 s1 t1 r1 => ?_)
  have r1' := r1
  revert r1'; apply VR.elimF r1
  · intro f o c oc vs tk hx ho hd hcc hy hoc hv ht r1'
    refine PyProof.Rows.callWith_def hd (hs.sound pos A _ s1 _ E R (S.toStR.step t1) fun vs s2 t2 r2 => ?_) hs.tail1.2
    have S2 := ((S.stp t1).1.stp t2).1
    refine ⟨(t2.fz S.tx f o hx ho).2, ?_⟩
    have hcl : ∀ b ∈ fd.closure.map (·.2), b ∈ Wx env own := fun b hb => List.mem_cons_of_mem _ (List.mem_append_left _ (I.sub b hb))
    have H : Hid C s2 (Wx env own ++ X) _ fd.closure [] := Hid.of (fun b hb => ⟨List.mem_append_left _ (hcl b hb), S2.ntp (hcl b hb)⟩) nofun (by simpa using I.nd) S2.tx nofun
    exact hc A _ _ s2 f vs Q E R S2.toBs (r1'.mono (t2.fz S.tx)) H (I.fnC S2) r2 fun v s' t r => hQ v s' ((t1.trans t2).trans t) r
theorem Es_callM {x : Str} {p pos spos : Pos} {e : Expr} {rest : List Expr} {fd : FuncData} {vals : List (Str × D)} {ds : List D} {a : Addr} {xs xs' : List D} {own' : Own} (hx : At ρ x (.fn fd)) (hs : Evs C n env ρ own (e :: rest) ds) (I : InFrame env ρ fd vals) (hu : OUp own a xs xs' own') (hc : CalM C n fd vals a xs ds xs')
    (hK : K (.next ρ own')) : Es C n env ρ own (.Expr (.Call (.Name x p) (e :: rest) [] pos) spos) K := by
  intro A X s Q E R S hQ
  refine wpAny_Expr ?_ S.inter rfl
  refine PyProof.Rows.Call_Name rfl (Ev_name hx A _ s _ E R S.toStR fun v1 s1 t1 r1 => ?_)
  have r1' := r1
  revert r1'; apply VR.elimF r1
  · intro f o c oc vs tk hx ho hd hcc hy hoc hv ht r1'
    refine PyProof.Rows.callWith_def hd (hs.sound pos A _ s1 _ E R (S.toStR.step t1) fun vs s2 t2 r2 => ?_) hs.tail1.2
    refine e0a2 (S.stp t1 :) fun S1 p1 => ?_
    refine e0a2 (S1.stp t2 :) fun S2 p2 => ?_
    refine ⟨(t2.fz S.tx f o hx ho).2, ?_⟩
    have hcl : ∀ b ∈ fd.closure.map (·.2), b ∈ Wx env own := fun b hb => List.mem_cons_of_mem _ (List.mem_append_left _ (I.sub b hb))
    have haW : a ∈ Wx env own := List.mem_cons_of_mem _ (List.mem_append_right _ (List.mem_map_of_mem (f := fun p : Addr × List D => p.1) hu.mem0))
    have nd1 := List.nodup_cons.mp S.nd
    have nd2 := List.nodup_append.mp nd1.2
    have hna : a ∉ fd.closure.map (·.2) := fun q => nd2.2.2 a (I.sub a q) a (List.mem_map_of_mem (f := fun p : Addr × List D => p.1) hu.mem0) rfl
    have H : Hid C s2 (Wx env own ++ X) _ fd.closure [(a, xs)] := Hid.of (fun b hb => ⟨List.mem_append_left _ (hcl b hb), S2.ntp (hcl b hb)⟩) (fun b hb => by
        rw [List.map_cons, List.map_nil, List.mem_singleton] at hb
        subst hb; exact ⟨List.mem_append_left _ haW, S2.ntp haW⟩) (by
        rw [List.nodup_append]
        exact ⟨I.nd, by simp, fun b hb c hc q => by
          rw [List.map_cons, List.map_nil, List.mem_singleton] at hc
          rw [q, hc] at hb
          exact hna hb⟩) S2.tx (fun p hp => by rw [List.mem_singleton.mp hp]; exact S2.owned _ hu.mem0)
    refine hc A _ _ s2 f vs _ E R S2.toBs (r1'.mono (t2.fz S.tx)) H (I.fnC S2) r2 fun s3 ws same k T P rw => ?_
    refine e2a2 (same :) fun h3 tk3 r2q z3 => ?_; subst r2q
    have hW : Wx env own' = Wx env own := by simp only [Wx, hu.names]
    have z : Fz (Wx env own ++ X) s2.heap (Wx env own ++ X) h3 := fun b o hb e => ⟨hb, k b o (fun q => hb (S2.tx b q)) (fun q => hb (q ▸ List.mem_append_left _ haW)) e⟩
    have haL : env.locals ≠ a := fun q => nd1.1 (q ▸ List.mem_append_right _ (List.mem_map_of_mem (f := fun p : Addr × List D => p.1) hu.mem0))
    have hac : ∀ y c, env.cells.lookup y = some c → c ≠ a := fun y c hc q => nd2.2.2 c (List.mem_map_of_mem (f := fun p : Str × Addr => p.2) (mem_of_lookup hc)) a (List.mem_map_of_mem (f := fun p : Addr × List D => p.1) hu.mem0) q
    have S3 : St C X env ρ own' { s2 with heap := h3, toks := tk3 } := by
      refine ⟨⟨⟨fun b o e => ?_, by rw [hW]; exact T, by rw [hW]; exact S2.tx, fun b hb => ?_, Nat.le_trans S2.tk z3⟩, S2.kf, S2.gl, S2.bl, S2.lt, ?_, fun p hp => ?_⟩, by rw [hW]; exact S2.nd, by rw [hW]; exact S2.off, S2.txx, S2.nr⟩
      · rw [hW]; refine e0a2 (S2.base b o e :) fun p q => ?_; exact z b o p q
      · rw [hW] at hb
        by_cases q : b = a
        · rw [q]; exact e1a1 (P :) fun _ e => ⟨_, e⟩
        · by_cases qt : b ∈ C.tP
          · exact T.there b qt
          · refine e1a1 (S2.bd b hb :) fun o e => ?_; exact ⟨o, k b o qt q e⟩
      · refine e1a2 (S2.vars :) fun m hn hv => ?_
        rw [hW]
        exact ⟨m, hn.at' fun o e => k _ o S2.lt haL e, fun p hp => (hv p hp).mono z (fun c hc ht o e => k c o ht (hac _ c hc) e) rfl⟩
      · rw [hW]
        rcases hu.mem nd2.2.1 p hp with rfl | ⟨hp, hne⟩
        · exact ⟨S2.ntp haW, ws, P, rw⟩
        · refine e0a2 (S2.owned p hp :) fun ht w3q => e1a2 w3q fun vs' a' b' => ?_
          exact ⟨ht, vs', a'.at fun o e => k _ o ht hne e, b'.mono z⟩
    have p3 : Pst C X env own own' s2 { s2 with heap := h3, toks := tk3 } := ⟨⟨h3, tk3, rfl, z3⟩, by rw [hW]; exact z, fun b hb ht o e => k b o ht (fun q => hb.elim (fun hb => S2.off a haW (q ▸ hb)) fun w1q => e1a2 (w1q :) fun y hy _ => hac y b hy q) e⟩
    exact hQ _ _ _ hK (.next ((p1.trans p2).trans p3) S3)
end
end
section
open PySem PySem.Calls
noncomputable def bodyAt (i : Nat) : List Stmt := match (PySem.Challenge.pw_wb0077_01.main.body[i]? : Option Stmt) with
  | some (.FunctionDef _ _ body _ _ _ _ _ _ _) => body
  | _ => []
noncomputable def scopeAt (i : Nat) : Scope := match (PySem.Challenge.pw_wb0077_01.main.body[i]? : Option Stmt) with
  | some (.FunctionDef _ _ _ _ _ _ scope _ _ _) => scope
  | _ => default
end
open PySem PySem.Calls
noncomputable def okNames (s : Scope) : Bool := s.names.all fun x => s.names.lookup x.1 == some x.2
theorem okNames.of {s : Scope} (h : okNames s = true) : ∀ x ∈ s.names, s.names.lookup x.1 = some x.2 := fun x hx => by
  have := List.all_eq_true.mp h x hx
  simpa using this
set_option compiler.extract_closed false
local macro_rules | `(tactic| walk_at "at") => `(tactic| with_reducible first | exact At.head | exact At.h1 | exact At.h2 | exact At.h3 | (apply At.tail4; walk_at "at"))
local macro_rules | `(tactic| walk_at "up") => `(tactic| with_reducible first | exact Up.headL | exact Up.headC | (apply Up.tail; walk_at "up"))
local macro_rules | `(tactic| walk_at "upl") => `(tactic| with_reducible first | exact UpL.head | (apply UpL.tail; walk_at "upl"))
local macro_rules | `(tactic| walk_at "r") => `(tactic| with_unfolding_all exact rfl)
local macro_rules | `(tactic| walk_at "v") => `(tactic| with_reducible first
  | (apply Ev_name; walk_at "at")
  | (refine (?_ : Up _ _ _ _); walk_at "up")
  | (refine (?_ : UpL _ _ _ _); walk_at "upl")
  | (refine (?_ : At _ _ _); walk_at "at")
  | ((first | apply Ev_int | apply Ev_str | apply Ev_bool | apply Es_set | apply Es_aug | apply Es_swap2 | apply Es_tupP | apply AsgN.nil | apply Sts.nil | apply Sts.cons | apply AsgN.cons | apply Ev_bitlen | apply Es_ret | apply Ev_bin | apply Ev_neg | apply Ev_inv | apply Ev_cmp | apply EvT_cmp | apply EvT_not | apply EvT_int | apply Ev_tuple | apply Ev_list | apply Evs.nil | apply Evs.cons) <;> walk_at "v")
  | ((first | refine (?_ : swapsWith _ _ _ _ = pure false) | refine (?_ : swapsWithSole _ _ _ _ = pure false) | refine (?_ : swappedStores _ _ _ = pure none) | refine (?_ : attributeBase _ _ _ _ = _) | refine (?_ : ((_ : Nat) == _) = true) | refine (?_ : ((_ : Int) == _) = true) | refine (?_ : ((_ : Str) == _) = false) | refine (?_ : List.any _ _ = false) | refine (?_ : List.all _ _ = false) | refine (?_ : behindInMarks _ _ = false) | refine (?_ : starEach _ _ = _)); walk_at "r")
  | (refine (?_ : ∀ whole, isTrue _ _ whole = _); with_unfolding_all (intro _; rfl))
  | (refine (?_ : List.length _ ≤ _); with_unfolding_all decide)
  | apply op_add | apply op_sub | apply op_and | apply op_or | apply op_xor | apply op_mul | apply op_mod | apply op_div | apply op_shl | apply op_shr | apply op_pow | apply op_eq | apply op_ne | apply op_lt | apply op_le | apply op_gt | apply op_ge | apply iop_add | apply iop_sub | apply iop_shl | apply iop_shr
  | skip)
local macro_rules | `(tactic| walk_at "nm") => `(tactic| with_unfolding_all exact ⟨by decide +kernel, by decide +kernel⟩)
local macro_rules | `(tactic| walk_at "fnr") => `(tactic| first
  | with_reducible exact FnR.nil
  | (with_reducible refine FnR.loc ?_ ?_ ?_; (walk_at "nm"); (with_unfolding_all decide +kernel); (walk_at "fnr"))
  | (with_reducible refine FnR.cel ?_ ?_ ?_; (walk_at "nm"); (with_unfolding_all decide +kernel); (walk_at "fnr"))
  | (with_reducible refine FnR.glo ?_ ?_ ?_ ?_; (walk_at "nm"); (assumption); (with_unfolding_all decide +kernel); (walk_at "fnr"))
  | (with_reducible refine FnR.fre ?_ ?_ ?_ ?_; (walk_at "nm"); (with_unfolding_all decide +kernel); (assumption); (walk_at "fnr")))
local macro_rules | `(tactic| walk_at "nd") => `(tactic| first | ((try dsimp only [List.map_cons, List.map_nil]); with_unfolding_all decide +kernel) | ((try simp only [List.map_cons, List.map_nil]); with_unfolding_all decide +kernel))
local macro_rules | `(tactic| walk_at "atc") => `(tactic| first | with_reducible exact AtC.head | with_reducible exact AtC.headP | (with_reducible apply AtC.tail; walk_at "atc"))
local macro_rules | `(tactic| walk_at "ate") => `(tactic| first | with_reducible exact AtE.head | with_reducible exact AtE.headP | (with_reducible apply AtE.tail; walk_at "ate"))
local macro_rules | `(tactic| walk_at "freein") => `(tactic| first
  | with_reducible exact FreeIn.nil
  | (with_reducible refine FreeIn.free ?_ ?_; (walk_at "ate"); (walk_at "freein"))
  | (with_reducible refine FreeIn.skip ?_ ?_; (with_unfolding_all exact rfl); (walk_at "freein")))
local macro_rules | `(tactic| walk_at "inn") => `(tactic| first
  | with_reducible exact Inn.nil
  | (with_reducible refine Inn.loc ?_ ?_ ?_; (walk_at "nm"); (with_unfolding_all decide +kernel); (walk_at "inn"))
  | (with_reducible refine Inn.cel ?_ ?_ ?_; (walk_at "nm"); (with_unfolding_all decide +kernel); (walk_at "inn"))
  | (with_reducible refine Inn.cap ?_ ?_ ?_; (walk_at "atc"); (with_unfolding_all decide +kernel); (walk_at "inn"))
  | (with_reducible refine Inn.glo ?_ ?_ ?_ ?_; (walk_at "nm"); (assumption); (with_unfolding_all decide +kernel); (walk_at "inn")))
local macro_rules | `(tactic| walk_at "comps") => `(tactic| exact ⟨by walk_at "freein", by walk_at "inn", by with_unfolding_all rfl, okNames.of (by with_unfolding_all decide +kernel), by walk_at "nd"⟩)
section
open PySem PySem.Calls
variable {C : Cx}
end
section
open PySem
theorem two_pos (n : Nat) : (0 : Int) < 2 ^ n := Int.pow_pos (by decide)
theorem nat_two (n : Nat) : ((2 ^ n : Nat) : Int) = 2 ^ n := by simp
theorem and_mask (x : Int) (n : Nat) : Builtin.bitAnd x (2 ^ n - 1) = x % 2 ^ n := by
  have hp := two_pos n
  have hN : (2 ^ n - 1 : Int).toNat = 2 ^ n - 1 := by
    have := nat_two n
    have h1 : 1 ≤ 2 ^ n := Nat.one_le_two_pow
    lia
  have hn := nat_two n
  have h1 : 1 ≤ 2 ^ n := Nat.one_le_two_pow
  by_cases hx : 0 ≤ x
  · rw [PyProof.Rows.bitAnd_pp hx (by lia), hN, Nat.and_two_pow_sub_one_eq_mod]
    rw [Int.natCast_emod, Int.toNat_of_nonneg hx, hn]
  · rw [PyProof.Rows.bitAnd_np hx (by lia), hN, Nat.and_comm, Nat.and_two_pow_sub_one_eq_mod]
    rw [Int.natCast_emod, Int.toNat_of_nonneg (PyProof.Rows.bitNot_nonneg.mpr hx), hn]
    unfold Builtin.bitNot
    have e := Int.emod_add_mul_ediv x (2 ^ n)
    have e' := Int.emod_add_mul_ediv (-x - 1) (2 ^ n)
    have l1 := Int.emod_nonneg x (Int.ne_of_gt hp)
    have l2 := Int.emod_lt_of_pos x hp
    have k1 := Int.emod_nonneg (-x - 1) (Int.ne_of_gt hp)
    have k2 := Int.emod_lt_of_pos (-x - 1) hp
    have hd : (-x - 1) / 2 ^ n = - (x / 2 ^ n) - 1 := by
      have e2 : (-x - 1) = (2 ^ n - 1 - x % 2 ^ n) + 2 ^ n * (-(x / 2 ^ n) - 1) := by
        have : 2 ^ n * (-(x / 2 ^ n) - 1) = - (2 ^ n * (x / 2 ^ n)) - 2 ^ n := by rw [Int.mul_sub, Int.mul_neg, Int.mul_one]
        lia
      rw [e2, Int.add_mul_ediv_left _ _ (Int.ne_of_gt hp), Int.ediv_eq_zero_of_lt (by lia) (by lia)]
      exact Int.zero_add (-(x / 2 ^ n) - 1)
    rw [hd] at e'
    have : 2 ^ n * (-(x / 2 ^ n) - 1) = - (2 ^ n * (x / 2 ^ n)) - 2 ^ n := by rw [Int.mul_sub, Int.mul_neg, Int.mul_one]
    lia
theorem and_high {x y : Int} {n : Nat} (hx : 0 ≤ x) (hy : 0 ≤ y) (hlt : y < 2 ^ n) : Builtin.bitAnd (x * 2 ^ n) y = 0 := by
  have hp := two_pos n
  rw [PyProof.Rows.bitAnd_pp (Int.mul_nonneg hx (Int.le_of_lt hp)) hy]
  have hn := nat_two n
  have e : (x * 2 ^ n).toNat = x.toNat * 2 ^ n := by
    rw [Int.toNat_mul hx (Int.le_of_lt hp)]
    congr 1
  have hl : y.toNat < 2 ^ n := by lia
  rw [e]
  have : (x.toNat * 2 ^ n &&& y.toNat) = 0 := by
    apply Nat.eq_of_testBit_eq
    intro i
    rw [Nat.testBit_and, Nat.zero_testBit]
    by_cases hi : i < n
    · rw [Nat.testBit_mul_two_pow]; simp; intro h; lia
    · rw [Nat.testBit_lt_two_pow (Nat.lt_of_lt_of_le hl (Nat.pow_le_pow_right (by decide) (by lia)))]; simp
  rw [this]; rfl
theorem or_high {x y : Int} {n : Nat} (hx : 0 ≤ x) (hy : 0 ≤ y) (hlt : y < 2 ^ n) : Builtin.bitOr (x * 2 ^ n) y = x * 2 ^ n + y := by
  rw [PyProof.Rows.bitOr_and, and_high hx hy hlt]; exact Int.add_zero (x * 2 ^ n + y)
theorem xor_high {a : Int} {n : Nat} (ha : 0 ≤ a) : Builtin.bitXor a (a / 2 ^ n * 2 ^ n) = a % 2 ^ n := by
  have hp := two_pos n
  rw [PyProof.Rows.bitXor_and]
  have hq : 0 ≤ a / 2 ^ n := Int.ediv_nonneg ha (Int.le_of_lt hp)
  have hn := nat_two n
  have e : Builtin.bitAnd a (a / 2 ^ n * 2 ^ n) = a / 2 ^ n * 2 ^ n := by
    rw [PyProof.Rows.bitAnd_pp ha (Int.mul_nonneg hq (Int.le_of_lt hp))]
    have e1 : (a / 2 ^ n * 2 ^ n).toNat = a.toNat / 2 ^ n * 2 ^ n := by
      refine e1a1 (Int.eq_ofNat_of_zero_le ha :) fun b r1q => ?_; subst r1q
      rw [← hn, ← Int.natCast_ediv, ← Int.natCast_mul]
      rfl
    rw [e1]
    have : a.toNat &&& (a.toNat / 2 ^ n * 2 ^ n) = a.toNat / 2 ^ n * 2 ^ n := by
      apply Nat.eq_of_testBit_eq
      intro i
      rw [Nat.testBit_and, Nat.testBit_mul_two_pow, Nat.testBit_div_two_pow]
      by_cases hi : n ≤ i
      · have : i - n + n = i := by lia
        simp [hi, this]
      · simp [hi]
    rw [this]
    have := Int.natCast_ediv a.toNat (2 ^ n)
    rw [Int.natCast_mul, this, Int.toNat_of_nonneg ha, hn]
  rw [e]
  have := Int.emod_add_mul_ediv a (2 ^ n)
  rw [Int.mul_comm] at this
  lia
theorem fdiv_pos (a : Int) {b : Int} (hb : 0 < b) : a.fdiv b = a / b := Int.fdiv_eq_ediv_of_nonneg a (Int.le_of_lt hb)
theorem fmod_pos (a : Int) {b : Int} (hb : 0 < b) : a.fmod b = a % b := Int.fmod_eq_emod_of_nonneg a (Int.le_of_lt hb)
theorem div_unique {a b q r : Int} (h : a = q * b + r) (h0 : 0 ≤ r) (h1 : r < b) : a / b = q ∧ a % b = r := by
  have hb : 0 < b := by lia
  subst h
  constructor
  · rw [Int.add_comm, Int.add_mul_ediv_right _ _ (Int.ne_of_gt hb), Int.ediv_eq_zero_of_lt h0 h1]; exact Int.zero_add q
  · rw [Int.add_comm, Int.add_mul_emod_self_right, Int.emod_eq_of_lt h0 h1]
open Builtin.Int in
theorem bits_lt {a : Int} {n : Nat} (h0 : 0 ≤ a) (h : a < 2 ^ n) : Builtin.Int.intBits a ≤ n := by
  rw [intBits_le_iff]
  have := nat_two n
  lia
theorem lt_bits {a : Int} (h0 : 0 ≤ a) : a < 2 ^ (Builtin.Int.intBits a) := by
  have := intBits_le_iff.mp (Nat.le_refl (Builtin.Int.intBits a))
  have h := nat_two (Builtin.Int.intBits a)
  lia
theorem bits_ge {a : Int} {n : Nat} (h : (2 : Int) ^ n ≤ a) : n < Builtin.Int.intBits a := by
  rcases Nat.lt_or_ge n (Builtin.Int.intBits a) with h' | h'
  · exact h'
  · have := intBits_le_iff.mp h'
    have := nat_two n
    lia
theorem bits_top {a : Int} (h : 0 < a) : 0 < Builtin.Int.intBits a ∧ (2 : Int) ^ (Builtin.Int.intBits a - 1) ≤ a := by
  have h1 : 0 < Builtin.Int.intBits a := bits_ge (n := 0) (by rw [Int.pow_zero]; exact h)
  refine ⟨h1, ?_⟩
  by_cases hc : (2 : Int) ^ (Builtin.Int.intBits a - 1) ≤ a
  · exact hc
  · have := bits_lt (Int.le_of_lt h) (Int.not_le.mp hc)
    lia
end
section
open PySem PySem.Calls
variable {C : Cx}
noncomputable abbrev rho3 (a12 a3 b b1 b2 n : Int) (f2 : Addr) (q r : Option D) : Rho := [("a12", .loc, some (.int a12)), ("a3", .loc, some (.int a3)), ("b", .loc, some (.int b)), ("b1", .loc, some (.int b1)), ("b2", .loc, some (.int b2)), ("n", .loc, some (.int n)), ("q", .loc, q), ("r", .loc, r), ("_div2n1n", .glo, some (.ref f2))]
theorem pow_mono {a b : Nat} (h : a ≤ b) : (2 : Int) ^ a ≤ 2 ^ b := by
  have := Nat.pow_le_pow_right (n := 2) (by decide) h
  have h1 := nat_two a
  have h2 := nat_two b
  lia
set_option maxHeartbeats 4000000 in
theorem vc_div3n2n {n : Nat} {env : Env} {a12 a3 b b1 b2 : Int} {m : Nat} {f2 : Addr} (hb : b = b1 * 2 ^ m + b2) (hb1 : 0 < b1) (h20 : 0 ≤ b2) (h2 : b2 < 2 ^ m) (h120 : 0 ≤ a12) (h12 : a12 < b) (h30 : 0 ≤ a3) (h3 : a3 < 2 ^ m) (hbb : Builtin.Int.intBits b ≤ 9000) (hm : m ≤ 9000)
    (hf : FnObj C f2) (hc : a12 / 2 ^ m ≠ b1 → Cal C n (.ref f2) [.int a12, .int b1, .int m] (.tuple [.int (a12 / b1), .int (a12 % b1)])) :
    Ex C n env (rho3 a12 a3 b b1 b2 m f2 none none) [] (bodyAt 3) fun o => match o with | .ret d _ => d = .tuple [.int ((a12 * 2 ^ m + a3) / b), .int ((a12 * 2 ^ m + a3) % b)] | .next _ _ => False := by
  have hp := two_pos m
  have hb0 : 0 < b := by have := Int.mul_pos hb1 hp; lia
  have htn : ((m : Int)).toNat = m := by exact rfl
  have b1le : b1 * 2 ^ m ≤ b := by lia
  have b1b : b1 ≤ b := by have : b1 * 1 ≤ b1 * 2 ^ m := Int.mul_le_mul_of_nonneg_left (by exact hp) (by exact Int.le_of_lt hb1); lia
  have b2b : b2 ≤ b := by have := Int.mul_pos hb1 hp; lia
  have sm : ∀ x : Int, 0 ≤ x → x ≤ b → Builtin.Int.intBits x ≤ 9000 := fun x h0 h1 => intBits_le_of_natAbs (by lia) hbb
  have hq : a12.fdiv (2 ^ m) = a12 / 2 ^ m := fdiv_pos a12 hp
  have tail : ∀ q0 r0 : Int, 0 ≤ q0 → q0 < 2 ^ 20000 → 0 ≤ r0 → r0 ≤ 2 * b → (a12 * 2 ^ m + a3 = q0 * b + (r0 * 2 ^ m + a3 - q0 * b2)) → r0 * 2 ^ m + a3 - q0 * b2 < b →
      Ex C n env (rho3 a12 a3 b b1 b2 m f2 (some (.int q0)) (some (.int r0))) [] ((bodyAt 3).drop 1)
        fun o => match o with | .ret d _ => d = .tuple [.int ((a12 * 2 ^ m + a3) / b), .int ((a12 * 2 ^ m + a3) % b)] | .next _ _ => False := by
    intro q0 r0 hq0 hqs hr0 hrb hN hlt
    refine Ex_cons ?_
    walk_at "v"
    · exact Int.natCast_nonneg m
    · have := intBits_le_of_natAbs (x := r0) (y := 2 * b) (m := 9002) (by lia) (by have := intBits_mul_le (x := 2) (y := b) (m := 2) (n := 9000) (by decide) hbb; exact this)
      lia
    · have h1 : Builtin.Int.intBits q0 ≤ 20000 := bits_lt hq0 hqs
      have h2 := sm b2 h20 b2b
      exact IntMulOk.of_le h1 h2 (by decide)
    rw [htn, or_high hr0 h30 h3]
    generalize hr : r0 * 2 ^ m + a3 - q0 * b2 = r1 at *
    refine Ex_cons ?_
    refine Es_while (fun k ρ own => own = [] ∧ ∃ q r : Int, k = (-r).toNat ∧ a12 * 2 ^ m + a3 = q * b + r ∧ r < b ∧ ρ = rho3 a12 a3 b b1 b2 m f2 (some (.int q)) (some (.int r))) (-r1).toNat ⟨rfl, q0, r1, rfl, hN, hlt, rfl⟩ ?_
    rintro k ρ own ⟨rfl, q, r, rfl, hN', hlt', rfl⟩
    refine ⟨decide (r < 0), ?_, ?_, ?_⟩
    · walk_at "v"
    · intro hd
      have hd' : r < 0 := by simpa using hd
      refine Ex_cons ?_
      walk_at "v"
      refine Ex_cons ?_
      walk_at "v"
      refine Ex_nil ⟨_, ?_, rfl, q - 1, r + b, rfl, ?_, by lia, rfl⟩
      · lia
      · rw [Int.sub_mul]; lia
    · intro hd
      have hd' : 0 ≤ r := by simpa using hd
      refine Ex_cons ?_
      walk_at "v"
      refine e0a2 (div_unique hN' hd' hlt' :) fun e1 e2 => ?_
      rw [e1, e2]
      exact rfl
  refine Ex_cons ?_
  apply Es_ifB (P := a12 / 2 ^ m = b1)
  · walk_at "v"
    exact Int.natCast_nonneg m
  · rw [htn, hq, beq_iff_eq]
  · intro heq
    have hd := Int.emod_add_mul_ediv a12 (2 ^ m)
    have hm0 := Int.emod_nonneg a12 (Int.ne_of_gt hp)
    have hm1 := Int.emod_lt_of_pos a12 hp
    rw [heq, Int.mul_comm] at hd
    refine Ex_cons ?_
    walk_at "v"
    · exact Int.natCast_nonneg m
    · have := intBits_le_of_natAbs (x := 1) (y := 1) (m := 1) (by decide) (by decide)
      lia
    · exact Int.natCast_nonneg m
    · have := sm b1 (by lia) b1b; lia
    rw [htn, Int.one_mul]
    refine Ex_nil ?_
    show Ex C n env _ _ _ _
    refine tail (2 ^ m - 1) (a12 - b1 * 2 ^ m + b1) (by lia) ?_ (by lia) ?_ ?_ ?_
    · have : (2 : Int) ^ m ≤ 2 ^ 20000 := pow_mono (by lia)
      lia
    · lia
    · subst hb
      have h1 : (2 ^ m - 1) * (b1 * 2 ^ m + b2) = 2 ^ m * (b1 * 2 ^ m) + 2 ^ m * b2 - b1 * 2 ^ m - b2 := by rw [Int.sub_mul, Int.mul_add, Int.one_mul]; lia
      have h2' : (2 ^ m - 1) * b2 = 2 ^ m * b2 - b2 := by rw [Int.sub_mul, Int.one_mul]
      have h3' : (a12 - b1 * 2 ^ m + b1) * 2 ^ m = a12 * 2 ^ m - 2 ^ m * (b1 * 2 ^ m) + b1 * 2 ^ m := by rw [Int.add_mul, Int.sub_mul, Int.mul_comm (b1 * 2 ^ m) (2 ^ m)]
      rw [h1, h2', h3']
      lia
    · subst hb
      have h2' : (2 ^ m - 1) * b2 = 2 ^ m * b2 - b2 := by rw [Int.sub_mul, Int.one_mul]
      have h3' : (a12 - b1 * 2 ^ m + b1) * 2 ^ m = (a12 + 1 - b1 * 2 ^ m - b2) * 2 ^ m + 2 ^ m * b2 - 2 ^ m + b1 * 2 ^ m := by
        rw [Int.add_mul, Int.sub_mul, Int.sub_mul, Int.sub_mul, Int.add_mul, Int.one_mul, Int.mul_comm b2]; lia
      have h4 : (a12 + 1 - b1 * 2 ^ m - b2) * 2 ^ m ≤ 0 := Int.mul_nonpos_of_nonpos_of_nonneg (by lia) (by exact Int.natCast_nonneg (2 ^ m))
      rw [h2', h3']
      lia
  · intro hne
    have hd := Int.emod_add_mul_ediv a12 b1
    have hm0 := Int.emod_nonneg a12 (Int.ne_of_gt hb1)
    have hm1 := Int.emod_lt_of_pos a12 hb1
    have hq0 : 0 ≤ a12 / b1 := Int.ediv_nonneg h120 (by lia)
    have hqa : a12 / b1 ≤ a12 := Int.ediv_le_self _ h120
    refine Ex_cons ?_
    apply Es_tupP (ds := [.int (a12 / b1), .int (a12 % b1)])
    · refine Ev_callF (f := f2) (ds := [.int a12, .int b1, .int m]) ?_ hf ?_ (hc hne)
      · walk_at "v"
      · walk_at "v"
    · walk_at "v"
    rotate_left
    · rfl
    · rfl
    refine Ex_nil ?_
    show Ex C n env _ _ _ _
    have hb9 : b < 2 ^ 9000 := by have := intBits_le_iff.mp hbb; have := nat_two 9000; lia
    refine tail (a12 / b1) (a12 % b1) hq0 ?_ hm0 (by lia) ?_ ?_
    · have : (2 : Int) ^ 9000 ≤ 2 ^ 20000 := pow_mono (by decide)
      lia
    · subst hb
      have e1 : a12 * 2 ^ m = a12 / b1 * (b1 * 2 ^ m) + a12 % b1 * 2 ^ m := by
        have : a12 = a12 / b1 * b1 + a12 % b1 := by rw [Int.mul_comm]; lia
        conv => lhs; rw [this]
        rw [Int.add_mul, Int.mul_assoc]
      rw [Int.mul_add, e1]; lia
    · have h5 : (a12 % b1 + 1) * 2 ^ m ≤ b1 * 2 ^ m := Int.mul_le_mul_of_nonneg_right (by exact hm1) (by exact Int.natCast_nonneg (2 ^ m))
      rw [Int.add_mul, Int.one_mul] at h5
      have h6 : 0 ≤ a12 / b1 * b2 := Int.mul_nonneg hq0 h20
      lia
end
section
open PySem PySem.Calls
variable {C : Cx}
noncomputable abbrev rho2g (a b n : Int) (f3 : Addr) (pad half mask b1 b2 q1 r q2 : Option D) : Rho := [("a", .loc, some (.int a)), ("b", .loc, some (.int b)), ("n", .loc, some (.int n)), ("pad", .loc, pad), ("half_n", .loc, half), ("mask", .loc, mask), ("b1", .loc, b1), ("b2", .loc, b2), ("q1", .loc, q1), ("r", .loc, r), ("q2", .loc, q2),
  ("_DIV_LIMIT", .glo, some (.int 4000)), ("divmod", .glo, some (.val (.builtin "divmod"))), ("_div3n2n", .glo, some (.ref f3))]
theorem pylong_small {a b : Int} (hb : Builtin.Int.intBits b ≤ 9000) : Builtin.divisionGoesByPylong a b = false := by
  unfold Builtin.divisionGoesByPylong
  have : (if (b == 0) = true then 0 else b.natAbs.log2 / 30 + 1) ≤ 300 := by
    split
    · decide
    · unfold Builtin.Int.intBits at hb
      rename_i h
      rw [if_neg h] at hb
      lia
  simp only [Bool.and_eq_false_iff, decide_eq_false_iff_not]
  left
  lia
noncomputable def Cal3 (C : Cx) (n : Nat) (f3 : Addr) : Prop := ∀ (a12 a3 b b1 b2 : Int) (m : Nat), b = b1 * 2 ^ m + b2 → 0 < b1 → 0 ≤ b2 → b2 < 2 ^ m → 0 ≤ a12 → a12 < b → 0 ≤ a3 → a3 < 2 ^ m → b < 2 ^ (2 * m) → m ≤ 4000 →
  Cal C n (.ref f3) [.int a12, .int a3, .int b, .int b1, .int b2, .int m] (.tuple [.int ((a12 * 2 ^ m + a3) / b), .int ((a12 * 2 ^ m + a3) % b)])
set_option maxHeartbeats 4000000 in
theorem vc_div2n1n {n : Nat} {env : Env} {a b : Int} {m : Nat} {f3 : Addr} (ha0 : 0 ≤ a) (ha : a < b * 2 ^ m) (hb0 : 0 < b) (hb : b < 2 ^ m) (hm : m ≤ 7998) (hf : FnObj C f3) (hc : 4000 < (Builtin.Int.intBits a : Int) - m → Cal3 C n f3) :
    Ex C n env (rho2g a b m f3 none none none none none none none none) [] (bodyAt 2) fun o => match o with | .ret d _ => d = .tuple [.int (a / b), .int (a % b)] | .next _ _ => False := by
  have hbb : Builtin.Int.intBits b ≤ 7998 := Nat.le_trans (bits_lt (Int.le_of_lt hb0) hb) hm
  have h2m := two_pos m
  have tail : ∀ (a b : Int) (h : Nat) (p : Int), (p = 0 ∨ p = 1) → h ≤ 4000 → 0 ≤ a → a < b * 2 ^ (2 * h) → 2 ^ h ≤ b → b < 2 ^ (2 * h) → Cal3 C n f3 →
      Ex C n env (rho2g a b (2 * h : Nat) f3 (some (.int p)) none none none none none none none) [] ((bodyAt 2).drop 3) fun o => match o with | .ret d _ => d = .tuple [.int (a / b), .int (a % b / 2 ^ p.toNat)] | .next _ _ => False := by
    intro a b h p hp hh ha0 ha hbl hbu hc
    have hph := two_pos h
    have hp2 := two_pos (2 * h)
    have e2 : ((2 * h : Nat) : Int).toNat = 2 * h := by exact rfl
    have e1 : ((h : Int)).toNat = h := by exact rfl
    have eh : (((2 * h : Nat) : Int)).fdiv (2 ^ (1 : Int).toNat) = h := by
      rw [fdiv_pos _ (by decide)]
      show ((2 * h : Nat) : Int) / 2 = h
      lia
    refine Ex_cons ?_
    walk_at "v"
    · decide
    rw [eh]
    refine Ex_cons ?_
    walk_at "v"
    · exact Int.natCast_nonneg h
    · have := intBits_le_of_natAbs (x := 1) (y := 1) (m := 1) (by decide) (by decide)
      lia
    rw [e1, Int.one_mul]
    refine Ex_cons ?_
    walk_at "v"
    · exact Int.natCast_nonneg h
    rw [e1, and_mask, fdiv_pos _ hph]
    have hd := Int.emod_add_mul_ediv b (2 ^ h)
    have hm0 := Int.emod_nonneg b (Int.ne_of_gt hph)
    have hm1 := Int.emod_lt_of_pos b hph
    generalize hb1 : b / 2 ^ h = b1 at *
    generalize hb2 : b % 2 ^ h = b2 at *
    have hbe : b = b1 * 2 ^ h + b2 := by rw [Int.mul_comm]; lia
    have b1p : 0 < b1 := by
      rcases Int.lt_or_le 0 b1 with q | q
      · exact q
      · have : b1 * 2 ^ h ≤ 0 := Int.mul_nonpos_of_nonpos_of_nonneg q (by exact Int.natCast_nonneg (2 ^ h))
        lia
    have p22 : (2 : Int) ^ (2 * h) = 2 ^ h * 2 ^ h := by rw [Nat.two_mul, Int.pow_add]
    have dA := Int.emod_add_mul_ediv a (2 ^ (2 * h))
    have dB := Int.emod_add_mul_ediv (a / 2 ^ h) (2 ^ h)
    have dC := Int.emod_add_mul_ediv a (2 ^ h)
    have dD : a / 2 ^ h / 2 ^ h = a / 2 ^ (2 * h) := by rw [p22, Int.ediv_ediv_of_nonneg (by exact Int.natCast_nonneg (2 ^ h))]
    have a12n : 0 ≤ a / 2 ^ (2 * h) := Int.ediv_nonneg ha0 (by exact Int.natCast_nonneg (2 ^ (2 * h)))
    have a12b : a / 2 ^ (2 * h) < b := Int.ediv_lt_of_lt_mul hp2 ha
    have a3n := Int.emod_nonneg (a / 2 ^ h) (Int.ne_of_gt hph)
    have a3l := Int.emod_lt_of_pos (a / 2 ^ h) hph
    have a4n := Int.emod_nonneg a (Int.ne_of_gt hph)
    have a4l := Int.emod_lt_of_pos a hph
    refine Ex_cons ?_
    apply Es_tupP (ds := [.int ((a / 2 ^ (2 * h) * 2 ^ h + a / 2 ^ h % 2 ^ h) / b), .int ((a / 2 ^ (2 * h) * 2 ^ h + a / 2 ^ h % 2 ^ h) % b)])
    · apply Ev_callF (f := f3)
      case hx => walk_at "v"
      case hf => exact hf
      case hs => walk_at "v" <;> lia
      case hc =>
        rw [e1, e2, and_mask, fdiv_pos _ hph, fdiv_pos _ hp2]
        exact hc _ _ b b1 b2 h hbe b1p hm0 hm1 a12n a12b a3n a3l hbu hh
    · walk_at "v"
    rotate_left
    · rfl
    · rfl
    generalize hN1 : a / 2 ^ (2 * h) * 2 ^ h + a / 2 ^ h % 2 ^ h = N1 at *
    have eN1 : N1 = a / 2 ^ h := by rw [← hN1, ← dD, Int.mul_comm]; lia
    have r1n := Int.emod_nonneg N1 (b := b) (by lia)
    have r1l := Int.emod_lt_of_pos N1 (b := b) (by lia)
    have dN1 := Int.emod_add_mul_ediv N1 b
    refine Ex_cons ?_
    apply Es_tupP (ds := [.int ((N1 % b * 2 ^ h + a % 2 ^ h) / b), .int ((N1 % b * 2 ^ h + a % 2 ^ h) % b)])
    · apply Ev_callF (f := f3)
      case hx => walk_at "v"
      case hf => exact hf
      case hs => walk_at "v"
      case hc =>
        rw [and_mask]
        exact hc _ _ b b1 b2 h hbe b1p hm0 hm1 r1n r1l a4n a4l hbu hh
    · walk_at "v"
    rotate_left
    · rfl
    · rfl
    generalize hN2 : N1 % b * 2 ^ h + a % 2 ^ h = N2 at *
    have N2n : 0 ≤ N2 := by have := Int.mul_nonneg r1n (by exact Int.natCast_nonneg (2 ^ h) : (0 : Int) ≤ 2 ^ h); lia
    have N2l : N2 < b * 2 ^ h := by
      have h5 : (N1 % b + 1) * 2 ^ h ≤ b * 2 ^ h := Int.mul_le_mul_of_nonneg_right (by exact r1l) (by exact Int.natCast_nonneg (2 ^ h))
      rw [Int.add_mul, Int.one_mul] at h5
      lia
    have q2n : 0 ≤ N2 / b := Int.ediv_nonneg N2n (by lia)
    have q2l : N2 / b < 2 ^ h := Int.ediv_lt_of_lt_mul (by lia) (by rw [Int.mul_comm]; exact N2l)
    have q1n : 0 ≤ N1 / b := Int.ediv_nonneg (by rw [eN1]; exact Int.ediv_nonneg ha0 (by exact Int.natCast_nonneg (2 ^ h))) (by lia)
    have dN2 := Int.emod_add_mul_ediv N2 b
    have r2n := Int.emod_nonneg N2 (b := b) (by lia)
    have r2l := Int.emod_lt_of_pos N2 (b := b) (by lia)
    have eA : a = (N1 / b * 2 ^ h + N2 / b) * b + N2 % b := by
      have z1 : a = N1 * 2 ^ h + a % 2 ^ h := by rw [eN1, Int.mul_comm]; lia
      have z2 : N1 * 2 ^ h = N1 / b * 2 ^ h * b + N1 % b * 2 ^ h := by
        have : N1 = N1 / b * b + N1 % b := by rw [Int.mul_comm]; lia
        conv => lhs; rw [this]
        rw [Int.add_mul, Int.mul_assoc, Int.mul_comm b, ← Int.mul_assoc]
      rw [Int.add_mul, Int.mul_comm (N2 / b) b]
      lia
    obtain ⟨f1, f2⟩ := div_unique eA r2n r2l
    have bits1 : Builtin.Int.intBits (N1 / b) ≤ 4000 := by
      refine Nat.le_trans (bits_lt q1n (Int.ediv_lt_of_lt_mul (by lia) ?_)) hh
      rw [eN1]
      refine Int.ediv_lt_of_lt_mul hph ?_
      rw [p22, ← Int.mul_assoc] at ha
      rw [Int.mul_comm (2 ^ h) b]
      exact ha
    have fin : ∀ r : Int, r = a % b / 2 ^ p.toNat → Ex C n env (rho2g a b (2 * h : Nat) f3 (some (.int p)) (some (.int h)) (some (.int (2 ^ h - 1))) (some (.int b1)) (some (.int b2)) (some (.int (N1 / b))) (some (.int r)) (some (.int (N2 / b)))) [] ((bodyAt 2).drop 9) fun o => match o with | .ret d _ => d = .tuple [.int (a / b), .int (a % b / 2 ^ p.toNat)] | .next _ _ => False := by
      intro r hr
      refine Ex_cons ?_
      walk_at "v"
      · exact Int.natCast_nonneg h
      · lia
      show D.tuple _ = _
      rw [e1, or_high q1n q2n q2l, ← f1, hr]
    refine Ex_cons ?_
    apply Es_ifB (P := p ≠ 0)
    · walk_at "v"
    · simp
    · intro hp0
      have hp1 : p = 1 := by lia
      refine Ex_cons ?_
      walk_at "v"
      · decide
      refine Ex_nil ?_
      show Ex C n env _ _ _ _
      refine fin _ ?_
      subst hp1
      rw [f2, fdiv_pos _ (by decide)]
    · intro hp0
      have hp1 : p = 0 := by lia
      refine Ex_nil ?_
      show Ex C n env _ _ _ _
      refine fin _ ?_
      subst hp1
      rw [f2]
      simp
  refine Ex_cons ?_
  apply Es_ifB (P := (Builtin.Int.intBits a : Int) - m ≤ 4000)
  · walk_at "v"
  · simp
  · intro hs
    refine Ex_cons ?_
    refine Es_ret (d := .tuple [.int (a.fdiv b), .int (a.fmod b)]) ?_ (by show D.tuple _ = _; rw [fdiv_pos _ hb0, fmod_pos _ hb0])
    refine Ev_callB (id := "divmod") (ds := [.int a, .int b]) ?_ ?_ (cal_divmod (by lia) (pylong_small (by lia)))
    · walk_at "v"
    · walk_at "v"
  · intro hbig
    have hbig' : 4000 < (Builtin.Int.intBits a : Int) - m := by lia
    have C3 := hc hbig'
    have hb4 : (2 : Int) ^ 4000 ≤ b := by
      rcases Int.lt_or_le b (2 ^ 4000) with q | q
      · have : a < 2 ^ (4000 + m) := by
          rw [Int.pow_add]
          have := Int.mul_le_mul_of_nonneg_right (Int.le_of_lt q) (Int.le_of_lt h2m)
          lia
        have := bits_lt ha0 this
        lia
      · exact q
    refine Ex_nil ?_
    refine Ex_cons ?_
    walk_at "v"
    have e1m : Builtin.bitAnd (m : Int) 1 = ((m % 2 : Nat) : Int) := by
      have := and_mask (m : Int) 1
      rw [show (2 : Int) ^ 1 - 1 = 1 by decide] at this
      rw [this]; exact rfl
    rw [e1m]
    refine Ex_cons ?_
    apply Es_ifB (P := m % 2 = 1)
    · walk_at "v"
    · simp; lia
    · intro hodd
      have hh : m + 1 = 2 * ((m + 1) / 2) := by lia
      refine Ex_cons ?_
      walk_at "v"
      · decide
      · have : Builtin.Int.intBits a ≤ 16000 := bits_lt ha0 (by
          have z1 : b * 2 ^ m ≤ 2 ^ m * 2 ^ m := Int.mul_le_mul_of_nonneg_right (by exact Int.le_of_lt hb) (by exact Int.natCast_nonneg (2 ^ m))
          have z2 : (2 : Int) ^ m * 2 ^ m = 2 ^ (m + m) := by rw [Int.pow_add]
          have z3 : (2 : Int) ^ (m + m) ≤ 2 ^ 16000 := pow_mono (by lia)
          lia)
        lia
      refine Ex_cons ?_
      walk_at "v"
      · decide
      · lia
      refine Ex_cons ?_
      walk_at "v"
      refine Ex_nil ?_
      show Ex C n env _ _ _ _
      have e2 : (2 : Int) ^ (1 : Int).toNat = 2 := by decide
      have hp1 : (((m % 2 : Nat) : Int)) = 1 := by exact congrArg Nat.cast hodd
      have T := tail (a * 2) (b * 2) ((m + 1) / 2) 1 (.inr rfl) (by lia) (by lia) (by
        rw [← hh, Int.pow_succ]
        have : b * 2 * (2 ^ m * 2) = b * 2 ^ m * 2 * 2 := by rw [Int.mul_comm b 2, Int.mul_comm (2 ^ m) 2, Int.mul_assoc, ← Int.mul_assoc b, Int.mul_comm b 2, Int.mul_assoc]; lia
        lia) (by have := pow_mono (a := (m + 1) / 2) (b := 4000) (by lia); lia) (by rw [← hh, Int.pow_succ]; lia) C3
      have q1 : a * 2 / (b * 2) = a / b := Int.mul_ediv_mul_of_pos_left _ _ (by decide)
      have q2 : a * 2 % (b * 2) = a % b * 2 := by rw [Int.mul_comm a 2, Int.mul_comm b 2, Int.mul_emod_mul_of_pos _ _ (by decide), Int.mul_comm]
      rw [q1, q2] at T
      rw [e2, hp1]
      have q3 : a % b * 2 / 2 ^ (1 : Int).toNat = a % b := by rw [e2]; lia
      rw [q3] at T
      have q4 : ((m : Int)) + 1 = ((2 * ((m + 1) / 2) : Nat) : Int) := by lia
      rw [q4]
      exact T
    · intro heven
      have hh : m = 2 * (m / 2) := by lia
      refine Ex_nil ?_
      show Ex C n env _ _ _ _
      have hp1 : (((m % 2 : Nat) : Int)) = 0 := by lia
      have T := tail a b (m / 2) 0 (.inl rfl) (by lia) ha0 (by rw [← hh]; exact ha) (by have := pow_mono (a := m / 2) (b := 4000) (by lia); lia) (by rw [← hh]; exact hb) C3
      have q3 : a % b / 2 ^ (0 : Int).toNat = a % b := by simp
      rw [q3] at T
      rw [hp1]
      have q4 : ((m : Int)) = ((2 * (m / 2) : Nat) : Int) := by lia
      rw [q4]
      exact T
end
section
open PySem PySem.Calls
variable {C : Cx}
theorem Room.mono {A : Around} {m n : Nat} (R : Room A m) (h : n ≤ m) : Room A n := ⟨R.h, by have := R.d; lia, by have := R.u; lia⟩
theorem Cal.mono {m n : Nat} {f : Value} {ds : List D} {d : D} (h : Cal C n f ds d) (hn : n ≤ m) : Cal C m f ds d := fun A X s vs Q E R => h A X s vs Q E (R.mono hn)
theorem CalC.mono {m n : Nat} {fd : FuncData} {vals : List (Str × D)} {ds : List D} {d : D} (h : CalC C n fd vals ds d) (hn : n ≤ m) : CalC C m fd vals ds d := fun A X X' s f vs Q E R => h A X X' s f vs Q E (R.mono hn)
theorem CalM.mono {m n : Nat} {fd : FuncData} {vals : List (Str × D)} {a : Addr} {xs ds xs' : List D} (h : CalM C n fd vals a xs ds xs') (hn : n ≤ m) : CalM C m fd vals a xs ds xs' := fun A X X' s f vs Q E R => h A X X' s f vs Q E (R.mono hn)
noncomputable def valL (w : Nat) : List Int → Int
  | [] => 0
  | d :: r => d + valL w r * 2 ^ w
theorem valL_append (w : Nat) : ∀ l1 l2 : List Int, valL w (l1 ++ l2) = valL w l1 + valL w l2 * 2 ^ (w * l1.length)
  | [], l2 => by simp [valL]
  | d :: r, l2 => by
    show d + valL w (r ++ l2) * 2 ^ w = d + valL w r * 2 ^ w + valL w l2 * 2 ^ (w * (r.length + 1))
    rw [valL_append w r l2, Nat.mul_succ, Int.pow_add, Int.add_mul, Int.mul_assoc, Int.add_assoc]
theorem valL_bits (w B : Nat) : ∀ l : List Int, (∀ d ∈ l, d.natAbs < 2 ^ B) → (valL w l).natAbs < 2 ^ (B + (w + 1) * l.length)
  | [], _ => by simp [valL]; exact Nat.two_pow_pos _
  | d :: r, h => by
    have ih := valL_bits w B r fun x hx => h x (List.mem_cons_of_mem _ hx)
    have hd := h d List.mem_cons_self
    show (d + valL w r * 2 ^ w).natAbs < _
    have e1 : (valL w r * 2 ^ w).natAbs = (valL w r).natAbs * 2 ^ w := by rw [Int.natAbs_mul, Int.natAbs_pow]; rfl
    have h1 := Int.natAbs_add_le d (valL w r * 2 ^ w)
    have e2 : 2 ^ (B + (w + 1) * (r.length + 1)) = 2 ^ (B + (w + 1) * r.length) * 2 ^ w * 2 := by
      rw [Nat.mul_succ, ← Nat.add_assoc, Nat.pow_add 2 _ (w + 1), Nat.pow_succ, Nat.mul_assoc]
    have h2 : ((valL w r).natAbs + 1) * 2 ^ w ≤ 2 ^ (B + (w + 1) * r.length) * 2 ^ w := Nat.mul_le_mul_right _ ih
    have h3 : 2 ^ B ≤ 2 ^ (B + (w + 1) * r.length) := Nat.pow_le_pow_right (by decide) (by exact Nat.le_add_right B ((w + 1) * r.length))
    have h4 : 2 ^ (B + (w + 1) * r.length) * 1 ≤ 2 ^ (B + (w + 1) * r.length) * 2 ^ w := Nat.mul_le_mul_left _ (Nat.two_pow_pos w)
    rw [Nat.add_mul, Nat.one_mul] at h2
    have h5 : 1 ≤ 2 ^ w := Nat.two_pow_pos w
    show _ < 2 ^ (B + (w + 1) * (r.length + 1))
    rw [e2]
    lia
noncomputable def innerAt (i : Nat) : List Stmt := match bodyAt i with
  | .FunctionDef _ _ body _ _ _ _ _ _ _ :: _ => body
  | _ => []
noncomputable def innerScope (i : Nat) : Scope := match bodyAt i with
  | .FunctionDef _ _ _ _ _ _ scope _ _ _ :: _ => scope
  | _ => default
noncomputable def innerPars (i : Nat) : Arguments := match bodyAt i with
  | .FunctionDef _ ps _ _ _ _ _ _ _ _ :: _ => ps
  | _ => default
noncomputable abbrev rhoD2 (L R : Int) (mid shift : Option D) (ds : List Int) (w : Nat) (fd : FuncData) : Rho :=
  [("L", .loc, some (.int L)), ("R", .loc, some (.int R)), ("mid", .loc, mid), ("shift", .loc, shift), ("digits", .fre, some (.list (ds.map .int))), ("inner", .fre, some (.fn fd)), ("n", .fre, some (.int w))]
noncomputable def valsD2 (ds : List Int) (w : Nat) (fd : FuncData) : List (Str × D) := [("digits", .list (ds.map .int)), ("inner", .fn fd), ("n", .int w)]
set_option maxHeartbeats 4000000 in
theorem vc_innerD2 {n : Nat} {fd : FuncData} {f L0 : Addr} {ds : List Int} {w L R B : Nat} (hLR : L < R) (hR : R ≤ ds.length) (hw : (w + 1) * ds.length + B ≤ 1000000) (hz : ds.length ≤ 10000) (hds : ∀ d ∈ ds, d.natAbs < 2 ^ B) (F : FnShape fd (innerAt 5)) (hs : fd.scope = innerScope 5)
    (hlk : ∀ y : Str, y = "digits" ∨ y = "inner" ∨ y = "n" → (fd.closure.lookup y).isSome = true) (hnd : (fd.closure.map (·.2)).Nodup)
    (ih : ∀ L' R', L' < R' → R' ≤ ds.length → R' - L' < R - L → CalC C n fd (valsD2 ds w fd) [.int (L' : Nat), .int (R' : Nat)] (.int (valL w ((ds.drop L').take (R' - L'))))) :
    Ex C n (fnEnv fd f L0) (rhoD2 L R none none ds w fd) [] (innerAt 5) fun o => match o with | .ret d _ => d = .int (valL w ((ds.drop L).take (R - L))) | .next _ _ => False := by
  have hcells : (fnEnv fd f L0).cells = fd.closure := by
    show cellsFrom (L0 + 1) fd.scope.names [] ++ fd.closure = _
    rw [hs]; rfl
  refine Ex_cons ?_
  apply Es_ifB (P := L + 1 = R)
  · walk_at "v"
  · simp; lia
  · intro he
    have hL : L < ds.length := by lia
    have e1 : (ds.drop L).take (R - L) = [ds[L]] := by
      rw [show R - L = 1 by lia, List.drop_eq_getElem_cons hL]; rfl
    refine Ex_cons ?_
    refine Es_ret (d := .int ds[L]) ?_ (by show D.int _ = _; rw [e1]; simp [valL])
    refine Ev_sub (d1 := .list (ds.map .int)) (d2 := .int L) ?_ ?_ (it_list (by exact Int.natCast_nonneg L) (by lia) (by simp [hL])) (fun _ _ => rfl)
    · walk_at "v"
    · walk_at "v"
  · intro hne
    refine Ex_nil ?_
    refine Ex_cons ?_
    walk_at "v"
    · decide
    have emid : ((L : Int) + R).fdiv (2 ^ (1 : Int).toNat) = ((L + R) / 2 : Nat) := by
      rw [fdiv_pos _ (by decide)]
      show ((L : Int) + R) / 2 = _
      exact rfl
    rw [emid]
    generalize hm : (L + R) / 2 = mid
    have hm1 : L < mid := by lia
    have hm2 : mid < R := by lia
    refine Ex_cons ?_
    walk_at "v"
    · refine IntMulOk.of_left (Nat.le_trans (bits_lt (n := 60) (by lia) ?_) (by decide))
      have : (10000 : Int) < 2 ^ 60 := by decide
      lia
    have esh : ((mid : Int) - L) * w = ((w * (mid - L) : Nat) : Int) := by rw [Int.natCast_mul, Int.mul_comm]; exact congrArg _ (Int.ofNat_sub (Nat.le_of_lt hm1)).symm
    rw [esh]
    have I : InFrame (fnEnv fd f L0) [("L", .loc, some (.int L)), ("R", .loc, some (.int R)), ("mid", .loc, some (.int mid)), ("shift", .loc, some (.int ((w * (mid - L) : Nat) : Int))), ("digits", .fre, some (.list (ds.map .int))), ("inner", .fre, some (.fn fd)), ("n", .fre, some (.int w))] fd (valsD2 ds w fd) := by
      refine ⟨fun p hp => ⟨.inr ?_, by rw [hcells]⟩, by rw [hcells]; exact fun b hb => hb, hnd⟩
      unfold valsD2 at hp
      simp only [List.mem_cons, List.not_mem_nil, or_false] at hp
      rcases hp with rfl | rfl | rfl <;> simp
    have hmul : (w + 1) * (R - mid) ≤ (w + 1) * ds.length := Nat.mul_le_mul_left _ (Nat.le_trans (Nat.sub_le _ _) hR)
    have hmul2 : w * (mid - L) ≤ (w + 1) * ds.length := Nat.mul_le_mul (by exact Nat.le_succ w) (Nat.le_trans (Nat.sub_le _ _) (Nat.le_trans (Nat.le_of_lt hm2) hR))
    have hb : Builtin.Int.intBits (valL w ((ds.drop mid).take (R - mid))) ≤ 1000000 := by
      rw [intBits_le_iff]
      have := valL_bits w B ((ds.drop mid).take (R - mid)) fun d hd => hds d (List.mem_of_mem_drop (List.mem_of_mem_take hd))
      have hl : ((ds.drop mid).take (R - mid)).length = R - mid := by rw [List.length_take, List.length_drop]; exact Nat.min_eq_left (Nat.sub_le_sub_right hR _)
      rw [hl] at this
      exact Nat.lt_of_lt_of_le this (Nat.pow_le_pow_right (by decide) (by lia))
    refine Ex_cons ?_
    refine Es_retS (d := .int (valL w ((ds.drop L).take (R - L)))) ?_ rfl
    have key : valL w ((ds.drop L).take (R - L)) = valL w ((ds.drop mid).take (R - mid)) * 2 ^ (((w * (mid - L) : Nat) : Int)).toNat + valL w ((ds.drop L).take (mid - L)) := by
      have e : (ds.drop L).take (R - L) = (ds.drop L).take (mid - L) ++ (ds.drop mid).take (R - mid) := by
        rw [sub3 (Nat.le_of_lt hm1) (Nat.le_of_lt hm2), List.take_add, List.drop_drop, Nat.add_sub_cancel' (Nat.le_of_lt hm1)]
      rw [e, valL_append]
      have hl : ((ds.drop L).take (mid - L)).length = mid - L := by rw [List.length_take, List.length_drop]; exact Nat.min_eq_left (Nat.sub_le_sub_right (Nat.le_trans (Nat.le_of_lt hm2) hR) _)
      have e3 : (((w * (mid - L) : Nat) : Int)).toNat = w * (mid - L) := by exact rfl
      rw [hl, e3, Int.add_comm]
    rw [key]
    refine EvS_bin (d1 := .int (valL w ((ds.drop mid).take (R - mid)) * 2 ^ (((w * (mid - L) : Nat) : Int)).toNat)) (d2 := .int (valL w ((ds.drop L).take (mid - L)))) ?_ ?_ op_add
    · refine EvS_bin (d1 := .int (valL w ((ds.drop mid).take (R - mid)))) (d2 := .int ((w * (mid - L) : Nat) : Int)) ?_ ?_ (op_shl (by exact Int.natCast_nonneg (w * (mid - L))) (by lia))
      · refine EvS_callC (ds := [.int mid, .int R]) (d := .int (valL w ((ds.drop mid).take (R - mid)))) (fd := fd) (vals := valsD2 ds w fd) ?_ ?_ F I (ih mid R hm2 hR (Nat.sub_lt_sub_left (Nat.lt_trans hm1 hm2) hm1))
        · walk_at "v"
        · walk_at "v"
      · refine EvS_of ?_
        walk_at "v"
    · refine EvS_callC (ds := [.int L, .int mid]) (d := .int (valL w ((ds.drop L).take (mid - L)))) (fd := fd) (vals := valsD2 ds w fd) ?_ ?_ F I (ih L mid hm1 (Nat.le_trans (Nat.le_of_lt hm2) hR) (Nat.sub_lt_sub_right (Nat.le_of_lt hm1) hm2))
      · walk_at "v"
      · walk_at "v"
end
section
open PySem PySem.Calls PySem.W
variable {C : Cx}
noncomputable def parsAt (i : Nat) : Arguments := match (PySem.Challenge.pw_wb0077_01.main.body[i]? : Option Stmt) with
  | some (.FunctionDef _ ps _ _ _ _ _ _ _ _) => ps
  | _ => default
structure FnI (C : Cx) (i : Nat) (f : Addr) (fd : FuncData) : Prop where
  obj : ∃ o, C.G.get? f = some o ∧ o.data = .func fd
  code : C.G.CodeRec fd.code fd.qualname
  body : fd.body = .stmts (bodyAt i)
  scope : fd.scope = scopeAt i
  pars : fd.params = parsAt i
  cl : fd.closure = []
  gl : fd.globals = mainGlobals
  bl : fd.builtins = builtinsNs
  df : fd.defaults = .none
  kd : fd.kwdefaults = .none
theorem FnI.fnIs {i : Nat} {f : Addr} {fd : FuncData} (F : FnI C i f fd) (h1 : (scopeAt i).isCoroutine = false) (h2 : (scopeAt i).isGenerator = false) (h3 : (scopeAt i).kind = .function) (h4 : okNames (scopeAt i) = true) : FnIs C.G f fd (bodyAt i) :=
  ⟨F.obj, by rw [F.scope, h1], by rw [F.scope, h2], by rw [F.scope, h3], F.body, F.code, F.gl, F.bl, by rw [F.scope]; exact okNames.of h4⟩
theorem FnI.fnObj {i : Nat} {f : Addr} {fd : FuncData} (F : FnI C i f fd) : FnObj C f := e1a2 (F.obj :) fun o a b => ⟨o, fd, a, b⟩
theorem Cal_fn {n : Nat} {ρ0 ρ1 : Rho} {i : Nat} {f : Addr} {fd : FuncData} {params : List Str} {ds : List D} {d : D} (F : FnI C i f fd) (hlim : C.G.NoLimit)
    (hbind : ∀ fd : FuncData, fd.params = parsAt i → fd.defaults = .none → fd.kwdefaults = .none → ∀ vs : List Value, vs.length = params.length → bindArgs fd ⟨vs, []⟩ = pure (params.zip vs))
    (hF : ∀ X h, FnR C X h (scopeAt i) [] ρ0) (hsts : Sts params ds ρ0 ρ1) (hlen : ds.length = params.length)
    (hE : ∀ L, Ex C n (fnEnv fd f L) ρ1 [] (bodyAt i) fun o => match o with | .ret d' _ => d' = d | .next _ _ => d = .none)
    (nr : (ρ0.map (·.1)).Nodup) (h1 : (scopeAt i).isCoroutine = false) (h2 : (scopeAt i).isGenerator = false) (h3 : (scopeAt i).kind = .function) (h4 : okNames (scopeAt i) = true) : Cal C (n + 1) (.ref f) ds d :=
  Cal_of (F.fnIs h1 h2 h3 h4) hlim F.cl (hbind fd F.pars F.df F.kd) (by rw [F.scope]; exact hF) nr hsts hlen hE
theorem bind_innerD2 (fd : FuncData) (h1 : fd.params = innerPars 5) (h2 : fd.defaults = .none) (h3 : fd.kwdefaults = .none) (vs : List Value) (h : vs.length = (["L", "R"] : List Str).length) : bindArgs fd ⟨vs, []⟩ = pure ((["L", "R"] : List Str).zip vs) := by
  refine e2a1 (len2 h :) fun v1 v2 rq => ?_
  subst rq
  exact (bind_of h1 h2 h3 _).trans rfl
theorem cal_innerD2 {fd : FuncData} {ds : List Int} {w B : Nat} (hlim : C.G.NoLimit) (F : FnShape fd (innerAt 5)) (hs : fd.scope = innerScope 5) (hp : fd.params = innerPars 5) (hd : fd.defaults = .none) (hk : fd.kwdefaults = .none) (hw : (w + 1) * ds.length + B ≤ 1000000) (hz : ds.length ≤ 10000) (hds : ∀ d ∈ ds, d.natAbs < 2 ^ B) (hnd : (fd.closure.map (·.2)).Nodup)
    (hlk : ∀ y : Str, y = "digits" ∨ y = "inner" ∨ y = "n" → (fd.closure.lookup y).isSome = true) :
    ∀ k L R, L < R → R ≤ ds.length → R - L ≤ k → CalC C k fd (valsD2 ds w fd) [.int (L : Nat), .int (R : Nat)] (.int (valL w ((ds.drop L).take (R - L))))
  | 0, L, R, h1, _, h3 => by lia
  | k + 1, L, R, h1, h2, h3 => by
    refine CalC_of (params := ["L", "R"]) (ρ0 := [("L", .loc, none), ("R", .loc, none), ("mid", .loc, none), ("shift", .loc, none), ("digits", .fre, some (.list (ds.map .int))), ("inner", .fre, some (.fn fd)), ("n", .fre, some (.int w))]) (ρ1 := rhoD2 L R none none ds w fd) F hlim (bind_innerD2 fd hp hd hk) (fun X h hC => ?_) (by simp only [List.map_cons, List.map_nil]; decide +kernel) ?_ rfl fun f L0 => ?_
    · rw [hs]
      have g1 := hC _ List.mem_cons_self
      have g2 := hC _ (List.mem_cons_of_mem _ List.mem_cons_self)
      have g3 := hC _ (List.mem_cons_of_mem _ (List.mem_cons_of_mem _ List.mem_cons_self))
      walk_at "fnr"
    · walk_at "v"
    · refine Ex_mono (vc_innerD2 h1 h2 hw hz hds F hs hlk hnd fun L' R' a b c => cal_innerD2 hlim F hs hp hd hk hw hz hds hnd hlk k L' R' a b (by lia)) fun o ho => ?_
      cases o with
      | ret d o => exact ho
      | next => exact ho.elim
end
section
open PySem PySem.Calls PySem.W
variable {C : Cx}
theorem bind_digits2int (fd : FuncData) (h1 : fd.params = parsAt 5) (h2 : fd.defaults = .none) (h3 : fd.kwdefaults = .none) (vs : List Value) (h : vs.length = (["digits", "n"] : List Str).length) : bindArgs fd ⟨vs, []⟩ = pure ((["digits", "n"] : List Str).zip vs) := by
  refine e2a1 (len2 h :) fun v1 v2 rq => ?_
  subst rq
  exact (bind_of h1 h2 h3 _).trans rfl
set_option maxHeartbeats 4000000 in
theorem clOf_cells {E : Env} {cs : List (Str × Addr)} {nm : List (Str × NameKind)} {acc r : List (Str × Addr)} (h : E.cells = cs) (e : clOf { E with cells := cs } nm acc = r) : clOf E nm acc = r := by subst h; exact e
theorem cal_digits2int {f5 : Addr} {fd5 : FuncData} {c P : Addr} {qual : Str} {ds : List Int} {w B : Nat} (F5 : FnI C 5 f5 fd5) (hlim : C.G.NoLimit) (M : Mk C c P qual) (hcode : fd5.code = .ref c) (hq : fd5.qualname ++ ".<locals>." ++ "inner" = qual) (hlen : GlobD C "len" (.val (.builtin "len")))
    (hw : (w + 1) * ds.length + B ≤ 1000000) (hz : ds.length ≤ 10000) (hds : ∀ d ∈ ds, d.natAbs < 2 ^ B) : Cal C (ds.length + 2) (.ref f5) [.list (ds.map .int), .int w] (.int (valL w ds)) := by
  refine Cal_fn (n := ds.length + 1) (params := ["digits", "n"]) (ρ0 := [("digits", .cel, none), ("n", .cel, none), ("inner", .cel, none), ("len", .glo, some (.val (.builtin "len")))])
    (ρ1 := [("digits", .cel, some (.list (ds.map .int))), ("n", .cel, some (.int w)), ("inner", .cel, none), ("len", .glo, some (.val (.builtin "len")))]) F5 hlim bind_digits2int (fun X h => ?_) ?_ rfl (fun L => ?_) (by walk_at "nd") (by decide +kernel) (by decide +kernel) (by decide +kernel) (by decide +kernel)
  · walk_at "fnr"
  · walk_at "v"
  have hcells : (fnEnv fd5 f5 L).cells = ([("inner", L + 3), ("n", L + 2), ("digits", L + 1)] : List (Str × Addr)) := by
    show cellsFrom (L + 1) fd5.scope.names [] ++ fd5.closure = _
    rw [F5.scope, F5.cl]; rfl
  refine Ex_cons ?_
  refine Es_def M hcode ?_ ?_ rfl rfl rfl fun fd ok => ?_
  · show qualnameIn (fnEnv fd5 f5 L) "inner" "inner" = qual
    unfold qualnameIn
    have : (fnEnv fd5 f5 L).kindOf "inner" = some .cell := by
      show fd5.scope.names.lookup (Str.ofString "inner") = _
      rw [F5.scope]; decide +kernel
    rw [this]
    exact hq
  · refine .skip rfl (.skip rfl (.skip rfl (.skip rfl (.free .head (.free (.tail (.tail .head)) (.free (.tail .head) .nil))))))
  refine ⟨[("digits", .cel, some (.list (ds.map .int))), ("n", .cel, some (.int w)), ("inner", .cel, some (.fn fd)), ("len", .glo, some (.val (.builtin "len")))], by walk_at "up", ?_⟩
  have hcl : fd.closure = ([("n", L + 2), ("inner", L + 3), ("digits", L + 1)] : List (Str × Addr)) := by
    rw [ok.cl]
    show clOf (fnEnv fd5 f5 L) (innerScope 5).names [] = _
    show clOf (fnEnv fd5 f5 L) [("L", .local), ("R", .local), ("mid", .local), ("shift", .local), ("digits", .free), ("inner", .free), ("n", .free)] [] = _
    exact clOf_cells hcells (by with_unfolding_all rfl)
  have Fs : FnShape fd (innerAt 5) := by
    have hsc : fd.scope = innerScope 5 := ok.scope
    refine ⟨by rw [hsc]; decide +kernel, by rw [hsc]; decide +kernel, by rw [hsc]; decide +kernel, ok.body, ok.gl, ok.bl, by rw [hsc]; exact okNames.of (by decide +kernel), fun p hp => ?_⟩
    rw [hcl] at hp ⊢
    rw [hsc]
    simp only [List.mem_cons, List.not_mem_nil, or_false] at hp
    rcases hp with rfl | rfl | rfl
    · exact ⟨rfl, by show (innerScope 5).names.lookup (Str.ofString "n") = some .free; decide +kernel⟩
    · exact ⟨rfl, by show (innerScope 5).names.lookup (Str.ofString "inner") = some .free; decide +kernel⟩
    · exact ⟨rfl, by show (innerScope 5).names.lookup (Str.ofString "digits") = some .free; decide +kernel⟩
  have hnd : (fd.closure.map (·.2)).Nodup := by rw [hcl]; simp
  have hlk : ∀ y : Str, y = "digits" ∨ y = "inner" ∨ y = "n" → (fd.closure.lookup y).isSome = true := fun y hy => by
    rw [hcl]; rcases hy with rfl | rfl | rfl <;> rfl
  have I : InFrame (fnEnv fd5 f5 L) [("digits", .cel, some (.list (ds.map .int))), ("n", .cel, some (.int w)), ("inner", .cel, some (.fn fd)), ("len", .glo, some (.val (.builtin "len")))] fd (valsD2 ds w fd) := by
    refine ⟨fun p hp => ⟨.inl ?_, ?_⟩, fun b hb => ?_, hnd⟩
    · unfold valsD2 at hp
      simp only [List.mem_cons, List.not_mem_nil, or_false] at hp
      rcases hp with rfl | rfl | rfl <;> simp
    · rw [hcl, hcells]
      unfold valsD2 at hp
      simp only [List.mem_cons, List.not_mem_nil, or_false] at hp
      rcases hp with rfl | rfl | rfl <;> rfl
    · rw [hcl] at hb
      rw [hcells]
      simp only [List.map_cons, List.map_nil, List.mem_cons, List.not_mem_nil, or_false] at hb ⊢
      rcases hb with rfl | rfl | rfl
      · exact .inr (.inl rfl)
      · exact .inl rfl
      · exact .inr (.inr rfl)
  refine Ex_cons ?_
  refine Es_retS (d := .int (valL w ds)) ?_ rfl
  refine EvS_ifexp (b := !(ds.map D.int).isEmpty) ?_ ?_ ?_
  · exact EvT_list (Ev_name (by walk_at "at")) (by simp; lia)
  · intro hne
    have hpos : 0 < ds.length := by
      cases ds with
      | nil => cases hne
      | cons => simp
    have e : valL w ds = valL w ((ds.drop 0).take (ds.length - 0)) := by simp
    rw [e]
    refine EvS_callC (ds := [.int (0 : Nat), .int ds.length]) (fd := fd) (vals := valsD2 ds w fd) ?_ ?_ Fs I ((cal_innerD2 hlim Fs ok.scope ok.params ok.df ok.kd hw hz hds hnd hlk ds.length 0 ds.length hpos (Nat.le_refl _) (by exact Nat.le_refl (ds.length - 0))).mono (by exact Nat.le_succ ds.length))
    · walk_at "v"
    · refine .cons ?_ (.cons ?_ .nil rfl) rfl
      · exact Ev_int
      · have : (ds.map D.int).length = ds.length := by simp
        rw [← this]
        refine Ev_callB (id := "len") (ds := [.list (ds.map .int)]) ?_ ?_ (cal_len_list (by simp; lia))
        · walk_at "v"
        · walk_at "v"
  · intro he
    have : ds = [] := by
      cases ds with
      | nil => rfl
      | cons => cases he
    subst this
    exact EvS_of Ev_int
end
section
open PySem PySem.Calls PySem.W
variable {C : Cx}
noncomputable def digs (w : Nat) : Nat → Int → List Int
  | 0, _ => []
  | k + 1, x => x % 2 ^ w :: digs w k (x / 2 ^ w)
theorem digs_len (w : Nat) : ∀ k x, (digs w k x).length = k
  | 0, _ => rfl
  | k + 1, x => by simp [digs, digs_len w k]
theorem digs_add (w : Nat) : ∀ k m x, digs w (k + m) x = digs w k x ++ digs w m (x / 2 ^ (w * k))
  | 0, m, x => by simp [digs]
  | k + 1, m, x => by
    rw [show k + 1 + m = (k + m) + 1 by lia]
    show x % 2 ^ w :: digs w (k + m) (x / 2 ^ w) = x % 2 ^ w :: (digs w k (x / 2 ^ w) ++ _)
    rw [digs_add w k m, Int.ediv_ediv_of_nonneg (Int.le_of_lt (two_pos w)), Nat.mul_succ, Nat.add_comm (w * k) w, Int.pow_add]
theorem digs_mod (w : Nat) : ∀ k x, digs w k (x % 2 ^ (w * k)) = digs w k x
  | 0, _ => rfl
  | k + 1, x => by
    show x % 2 ^ (w * (k + 1)) % 2 ^ w :: digs w k (x % 2 ^ (w * (k + 1)) / 2 ^ w) = x % 2 ^ w :: digs w k (x / 2 ^ w)
    have e : (2 : Int) ^ (w * (k + 1)) = 2 ^ w * 2 ^ (w * k) := by rw [Nat.mul_succ, Nat.add_comm, Int.pow_add]
    have h1 : x % 2 ^ (w * (k + 1)) % 2 ^ w = x % 2 ^ w := by rw [e]; exact Int.emod_emod_of_dvd x ⟨_, rfl⟩
    have h2 : x % 2 ^ (w * (k + 1)) / 2 ^ w = x / 2 ^ w % 2 ^ (w * k) := by
      have hp := two_pos w
      have hq := two_pos (w * k)
      have d1 := Int.emod_add_mul_ediv x (2 ^ w)
      have d2 := Int.emod_add_mul_ediv (x / 2 ^ w) (2 ^ (w * k))
      have n1 := Int.emod_nonneg x (Int.ne_of_gt hp)
      have l1 := Int.emod_lt_of_pos x hp
      have n2 := Int.emod_nonneg (x / 2 ^ w) (Int.ne_of_gt hq)
      have l2 := Int.emod_lt_of_pos (x / 2 ^ w) hq
      generalize x / 2 ^ w % 2 ^ (w * k) = r2 at *
      generalize x / 2 ^ w / 2 ^ (w * k) = q2 at *
      generalize x % 2 ^ w = r1 at *
      generalize x / 2 ^ w = y at *
      have hx : x = q2 * (2 ^ w * 2 ^ (w * k)) + (r2 * 2 ^ w + r1) := by
        rw [← d1, ← d2, Int.mul_add, Int.mul_comm q2, Int.mul_assoc, Int.mul_comm r2]; lia
      have hlt : r2 * 2 ^ w + r1 < 2 ^ w * 2 ^ (w * k) := by
        have : (r2 + 1) * 2 ^ w ≤ 2 ^ (w * k) * 2 ^ w := Int.mul_le_mul_of_nonneg_right (by exact l2) (by exact Int.natCast_nonneg (2 ^ w))
        rw [Int.add_mul, Int.one_mul, Int.mul_comm (2 ^ (w * k))] at this
        lia
      have hge : 0 ≤ r2 * 2 ^ w + r1 := by have := Int.mul_nonneg n2 (Int.le_of_lt hp); lia
      rw [e, (div_unique hx hge hlt).2]
      exact (div_unique rfl n1 l1).1
    rw [h1, h2, digs_mod w k]
theorem digs_nonneg (w : Nat) : ∀ k x, ∀ d ∈ digs w k x, 0 ≤ d ∧ d < 2 ^ w
  | 0, _, d, h => nomatch h
  | k + 1, x, d, h => by
    rcases List.mem_cons.mp h with rfl | h
    · exact ⟨Int.emod_nonneg _ (Int.ne_of_gt (two_pos w)), Int.emod_lt_of_pos _ (two_pos w)⟩
    · exact digs_nonneg w k _ d h
theorem val_digs (w : Nat) : ∀ k x, 0 ≤ x → x < 2 ^ (w * k) → valL w (digs w k x) = x
  | 0, x, h0, h1 => by
    have : x = 0 := by simp at h1; lia
    rw [this]; rfl
  | k + 1, x, h0, h1 => by
    show x % 2 ^ w + valL w (digs w k (x / 2 ^ w)) * 2 ^ w = x
    rw [val_digs w k _ (Int.ediv_nonneg h0 (Int.le_of_lt (two_pos w))) (Int.ediv_lt_of_lt_mul (two_pos w) (by rw [← Int.pow_add]; rw [Nat.mul_succ] at h1; exact h1))]
    have := Int.emod_add_mul_ediv x (2 ^ w)
    rw [Int.mul_comm]; exact this
noncomputable def put (xs : List Int) (L : Nat) (l : List Int) : List Int := xs.take L ++ l ++ xs.drop (L + l.length)
theorem put_len {xs : List Int} {L : Nat} {l : List Int} (h : L + l.length ≤ xs.length) : (put xs L l).length = xs.length := by
  simp [put]; lia
theorem put_one {xs : List Int} {L : Nat} {x : Int} (h : L < xs.length) : put xs L [x] = xs.set L x := by
  unfold put
  rw [List.set_eq_take_append_cons_drop, if_pos h]
  simp
theorem put_two {xs : List Int} {L : Nat} {l m : List Int} (h : L + l.length + m.length ≤ xs.length) : put (put xs L l) (L + l.length) m = put xs L (l ++ m) := by
  unfold put
  have h1 : (xs.take L).length = L := by simp; lia
  have e1 : (xs.take L ++ l ++ xs.drop (L + l.length)).take (L + l.length) = xs.take L ++ l := by
    rw [List.take_append_of_le_length (by simp; lia)]
    rw [List.take_of_length_le (by simp; exact Nat.min_le_left L xs.length)]
  have e2 : (xs.take L ++ l ++ xs.drop (L + l.length)).drop (L + l.length + m.length) = xs.drop (L + (l ++ m).length) := by
    rw [List.drop_append]
    have : (xs.take L ++ l).length = L + l.length := by simp; lia
    rw [List.drop_of_length_le (by rw [this]; exact Nat.le_add_right (L + l.length) m.length), this, List.nil_append, List.drop_drop]
    congr 1
    simp; exact Nat.add_assoc L l.length m.length
  rw [e1, e2]
  simp
noncomputable abbrev rhoI2 (x L R : Int) (mid shift upper lower : Option D) (a : Addr) (w : Nat) (fd : FuncData) : Rho :=
  [("x", .loc, some (.int x)), ("L", .loc, some (.int L)), ("R", .loc, some (.int R)), ("mid", .loc, mid), ("shift", .loc, shift), ("upper", .loc, upper), ("lower", .loc, lower), ("a_digits", .fre, some (.ref a)), ("inner", .fre, some (.fn fd)), ("n", .fre, some (.int w))]
noncomputable def innerAt4 : List Stmt := match bodyAt 4 with
  | _ :: .FunctionDef _ _ body _ _ _ _ _ _ _ :: _ => body
  | _ => []
noncomputable def innerScope4 : Scope := match bodyAt 4 with
  | _ :: .FunctionDef _ _ _ _ _ _ scope _ _ _ :: _ => scope
  | _ => default
noncomputable def innerPars4 : Arguments := match bodyAt 4 with
  | _ :: .FunctionDef _ ps _ _ _ _ _ _ _ _ :: _ => ps
  | _ => default
noncomputable def valsI2 (a : Addr) (w : Nat) (fd : FuncData) : List (Str × D) := [("a_digits", .ref a), ("inner", .fn fd), ("n", .int w)]
set_option maxHeartbeats 4000000 in
theorem vc_innerI2 {n : Nat} {fd : FuncData} {f L0 a : Addr} {xs : List Int} {w L R : Nat} {x : Int} (hLR : L < R) (hR : R ≤ xs.length) (hx0 : 0 ≤ x) (hx : x < 2 ^ (w * (R - L))) (hw : w * xs.length ≤ 1000000) (hz : xs.length ≤ 10000) (hs : fd.scope = innerScope4) (hnd : (fd.closure.map (·.2)).Nodup)
    (ih : ∀ xs' L' R' x', xs'.length = xs.length → L' < R' → R' ≤ xs.length → R' - L' < R - L → 0 ≤ x' → x' < 2 ^ (w * (R' - L')) → CalM C n fd (valsI2 a w fd) a (xs'.map .int) [.int x', .int (L' : Nat), .int (R' : Nat)] ((put xs' L' (digs w (R' - L') x')).map .int)) :
    Ex C n (fnEnv fd f L0) (rhoI2 x L R none none none none a w fd) [(a, xs.map .int)] innerAt4 fun o => match o with | .ret d' own' => d' = .none ∧ own' = [(a, (put xs L (digs w (R - L) x)).map .int)] | .next _ own' => own' = [(a, (put xs L (digs w (R - L) x)).map .int)] := by
  have hcells : (fnEnv fd f L0).cells = fd.closure := by
    show cellsFrom (L0 + 1) fd.scope.names [] ++ fd.closure = _
    rw [hs]; rfl
  refine Ex_cons ?_
  apply Es_ifB (P := L + 1 = R)
  · walk_at "v"
  · simp; lia
  · intro he
    have hL : L < xs.length := by lia
    have e1 : put xs L (digs w (R - L) x) = xs.set L x := by
      have h1 : R - L = 1 := by lia
      rw [h1] at hx ⊢
      rw [Nat.mul_one] at hx
      show put xs L [x % 2 ^ w] = _
      rw [Int.emod_eq_of_lt hx0 hx, put_one hL]
    rw [e1]
    refine Ex_cons ?_
    refine Es_setitem (EvW_pure (d := .int x) ?_ ⟨a, L, xs.map .int, [(a, (xs.set L x).map .int)], ?_, ?_, by exact Int.natCast_nonneg L, by simp; exact hL, by lia, ?_, ?_⟩)
    · walk_at "v"
    · walk_at "v"
    · walk_at "v"
    · have : (xs.set L x).map D.int = (xs.map D.int).set ((L : Int)).toNat (.int x) := by rw [List.map_set]; rfl
      rw [this]
      exact .head
    refine Ex_cons ?_
    exact Es_ret0 ⟨rfl, rfl⟩
  · intro hne
    refine Ex_nil ?_
    refine Ex_cons ?_
    walk_at "v"
    · decide
    have emid : ((L : Int) + R).fdiv (2 ^ (1 : Int).toNat) = ((L + R) / 2 : Nat) := by
      rw [fdiv_pos _ (by decide)]
      show ((L : Int) + R) / 2 = _
      exact rfl
    rw [emid]
    generalize hm : (L + R) / 2 = mid
    have hm1 : L < mid := by lia
    have hm2 : mid < R := by lia
    refine Ex_cons ?_
    walk_at "v"
    · refine IntMulOk.of_left (Nat.le_trans (bits_lt (n := 60) (by lia) ?_) (by decide))
      have : (10000 : Int) < 2 ^ 60 := by decide
      lia
    have esh : ((mid : Int) - L) * w = ((w * (mid - L) : Nat) : Int) := by rw [Int.natCast_mul, Int.mul_comm]; exact congrArg _ (Int.ofNat_sub (Nat.le_of_lt hm1)).symm
    rw [esh]
    have etn : (((w * (mid - L) : Nat) : Int)).toNat = w * (mid - L) := by exact rfl
    have hpS := two_pos (w * (mid - L))
    have hmul2 : w * (mid - L) ≤ w * xs.length := Nat.mul_le_mul_left _ (Nat.le_trans (Nat.sub_le _ _) (Nat.le_trans (Nat.le_of_lt hm2) hR))
    have hmulR : w * (R - L) ≤ w * xs.length := Nat.mul_le_mul_left _ (by lia)
    have hsum : w * (R - L) = w * (R - mid) + w * (mid - L) := by rw [← Nat.mul_add]; exact congrArg _ (sub3' (Nat.le_of_lt hm1) (Nat.le_of_lt hm2))
    refine Ex_cons ?_
    walk_at "v"
    · exact Int.natCast_nonneg (w * (mid - L))
    rw [etn, fdiv_pos _ hpS]
    have hu0 : 0 ≤ x / 2 ^ (w * (mid - L)) := Int.ediv_nonneg hx0 (by exact Int.natCast_nonneg (2 ^ (w * (mid - L))))
    have hul : x / 2 ^ (w * (mid - L)) < 2 ^ (w * (R - mid)) := Int.ediv_lt_of_lt_mul hpS (by rw [← Int.pow_add, ← hsum]; exact hx)
    refine Ex_cons ?_
    walk_at "v"
    · exact Int.natCast_nonneg (w * (mid - L))
    · have : Builtin.Int.intBits (x / 2 ^ (w * (mid - L))) ≤ w * (R - mid) := bits_lt hu0 hul
      lia
    rw [etn, xor_high hx0]
    have hl0 := Int.emod_nonneg x (Int.ne_of_gt hpS)
    have hll := Int.emod_lt_of_pos x hpS
    have hd : digs w (R - L) x = digs w (mid - L) (x % 2 ^ (w * (mid - L))) ++ digs w (R - mid) (x / 2 ^ (w * (mid - L))) := by
      rw [sub3 (Nat.le_of_lt hm1) (Nat.le_of_lt hm2), digs_add, digs_mod]
    have I : ∀ own : Own, InFrame (fnEnv fd f L0) [("x", .loc, some (.int x)), ("L", .loc, some (.int L)), ("R", .loc, some (.int R)), ("mid", .loc, some (.int mid)), ("shift", .loc, some (.int ((w * (mid - L) : Nat) : Int))), ("upper", .loc, some (.int (x / 2 ^ (w * (mid - L))))), ("lower", .loc, some (.int (x % 2 ^ (w * (mid - L))))), ("a_digits", .fre, some (.ref a)), ("inner", .fre, some (.fn fd)), ("n", .fre, some (.int w))] fd (valsI2 a w fd) := by
      intro _
      refine ⟨fun p hp => ⟨.inr ?_, by rw [hcells]⟩, by rw [hcells]; exact fun b hb => hb, hnd⟩
      unfold valsI2 at hp
      simp only [List.mem_cons, List.not_mem_nil, or_false] at hp
      rcases hp with rfl | rfl | rfl <;> simp
    refine Ex_cons ?_
    refine Es_callM (fd := fd) (vals := valsI2 a w fd) (ds := [.int (x % 2 ^ (w * (mid - L))), .int L, .int mid]) (xs := xs.map .int) (xs' := (put xs L (digs w (mid - L) (x % 2 ^ (w * (mid - L))))).map .int) ?_ ?_ (I []) .head (ih xs L mid _ rfl hm1 (Nat.le_trans (Nat.le_of_lt hm2) hR) (Nat.sub_lt_sub_right (Nat.le_of_lt hm1) hm2) hl0 hll) ?_
    · walk_at "v"
    · walk_at "v"
    have lenp : (put xs L (digs w (mid - L) (x % 2 ^ (w * (mid - L))))).length = xs.length := put_len (by rw [digs_len, Nat.add_sub_cancel' (Nat.le_of_lt hm1)]; exact Nat.le_trans (Nat.le_of_lt hm2) hR)
    refine Ex_cons ?_
    refine Es_callM (fd := fd) (vals := valsI2 a w fd) (ds := [.int (x / 2 ^ (w * (mid - L))), .int mid, .int R]) (xs := (put xs L (digs w (mid - L) (x % 2 ^ (w * (mid - L))))).map .int) (xs' := (put xs L (digs w (R - L) x)).map .int) ?_ ?_ (I []) .head ?_ ?_
    · walk_at "v"
    · walk_at "v"
    · have h1 := ih (put xs L (digs w (mid - L) (x % 2 ^ (w * (mid - L))))) mid R _ lenp hm2 hR (Nat.sub_lt_sub_left (Nat.lt_trans hm1 hm2) hm1) hu0 hul
      have h2 : put (put xs L (digs w (mid - L) (x % 2 ^ (w * (mid - L))))) mid (digs w (R - mid) (x / 2 ^ (w * (mid - L)))) = put xs L (digs w (R - L) x) := by
        rw [hd]
        have := put_two (xs := xs) (L := L) (l := digs w (mid - L) (x % 2 ^ (w * (mid - L)))) (m := digs w (R - mid) (x / 2 ^ (w * (mid - L)))) (by rw [digs_len, digs_len]; exact add3 (Nat.le_of_lt hm1) (Nat.le_of_lt hm2) hR)
        rw [digs_len, Nat.add_sub_cancel' (Nat.le_of_lt hm1)] at this
        exact this
      rw [h2] at h1
      exact h1
    exact Ex_nil rfl
end
section
open PySem PySem.Calls PySem.W
variable {C : Cx}
theorem Ev_lenO {n : Nat} {env : Env} {ρ : Rho} {own : Own} {x : Str} {p pos : Pos} {e : Expr} {a : Addr} {ds : List D} (hx : At ρ x (.val (.builtin "len"))) (he : Ev C n env ρ own e (.ref a)) (ha : OAt own a ds) (hz : ds.length < 2 ^ 60) (hst : starEach [e] env = (false, eval e env) :: starEach [] env) : Ev C n env ρ own (.Call (.Name x p) [e] [] pos) (.int ds.length) := by
  intro A X s Q E R S hQ
  have hs : Evs C n env ρ own [e] [.ref a] := .cons he .nil hst
  refine PyProof.Rows.Call_Name rfl (Ev_name hx A X s _ E R S fun v1 s1 t1 r1 => ?_)
  apply VR.elimV r1
  refine PyProof.Rows.callWith_builtin1 (hs.sound pos A X s1 _ E R (S.step t1) fun vs s2 t2 r2 => ?_) hs.tail1.2 (hs.tail1.1.plain pos)
  apply VRs.elimC r2
  intro _ _ r0 rs
  apply VRs.elimN rs; apply VR.elimR r0
  have S2 := (S.step t1).step t2
  refine e0a2 (S2.owned _ ha.mem :) fun _ w1q => e1a2 w1q fun us P r => ?_
  have z := r.length
  simp only [Array.length_toList] at z
  rw [← z] at hQ
  exact PyProof.Rows.len_list P.isList (by lia) (hQ _ _ ((t1.trans t2).trans (Stp.tok S2.toBs _)) (.int _ _))
theorem bind_innerI2 (fd : FuncData) (h1 : fd.params = innerPars4) (h2 : fd.defaults = .none) (h3 : fd.kwdefaults = .none) (vs : List Value) (h : vs.length = (["x", "L", "R"] : List Str).length) : bindArgs fd ⟨vs, []⟩ = pure ((["x", "L", "R"] : List Str).zip vs) := by
  refine e3a1 (len3 h :) fun v1 v2 v3 rq => ?_
  subst rq
  exact (bind_of h1 h2 h3 _).trans rfl
theorem bind_int2digits (fd : FuncData) (h1 : fd.params = parsAt 4) (h2 : fd.defaults = .none) (h3 : fd.kwdefaults = .none) (vs : List Value) (h : vs.length = (["a", "n"] : List Str).length) : bindArgs fd ⟨vs, []⟩ = pure ((["a", "n"] : List Str).zip vs) := by
  refine e2a1 (len2 h :) fun v1 v2 rq => ?_
  subst rq
  exact (bind_of h1 h2 h3 _).trans rfl
theorem cal_innerI2 {fd : FuncData} {w : Nat} {a : Addr} (hlim : C.G.NoLimit) (F : FnShape fd innerAt4) (hs : fd.scope = innerScope4) (hp : fd.params = innerPars4) (hd : fd.defaults = .none) (hk : fd.kwdefaults = .none) (hnd : (fd.closure.map (·.2)).Nodup) :
    ∀ k (xs : List Int) L R (x : Int), w * xs.length ≤ 1000000 → xs.length ≤ 10000 → L < R → R ≤ xs.length → R - L ≤ k → 0 ≤ x → x < 2 ^ (w * (R - L)) → CalM C k fd (valsI2 a w fd) a (xs.map .int) [.int x, .int (L : Nat), .int (R : Nat)] ((put xs L (digs w (R - L) x)).map .int)
  | 0, xs, L, R, x, _, _, h1, _, h3, _, _ => by lia
  | k + 1, xs, L, R, x, hw, hz, h1, h2, h3, h4, h5 => by
    refine CalM_of (params := ["x", "L", "R"]) (ρ0 := [("x", .loc, none), ("L", .loc, none), ("R", .loc, none), ("mid", .loc, none), ("shift", .loc, none), ("upper", .loc, none), ("lower", .loc, none), ("a_digits", .fre, some (.ref a)), ("inner", .fre, some (.fn fd)), ("n", .fre, some (.int w))]) (ρ1 := rhoI2 x L R none none none none a w fd) F hlim (bind_innerI2 fd hp hd hk) (fun X h hC => ?_) (by walk_at "nd") ?_ rfl fun f L0 => ?_
    · rw [hs]
      have g1 := hC _ List.mem_cons_self
      have g2 := hC _ (List.mem_cons_of_mem _ List.mem_cons_self)
      have g3 := hC _ (List.mem_cons_of_mem _ (List.mem_cons_of_mem _ List.mem_cons_self))
      walk_at "fnr"
    · walk_at "v"
    · exact vc_innerI2 h1 h2 h4 h5 hw hz hs hnd fun xs' L' R' x' e a b c d g => cal_innerI2 hlim F hs hp hd hk hnd k xs' L' R' x' (by rw [e]; exact hw) (by rw [e]; exact hz) a (by rw [e]; exact b) (by lia) d g
set_option maxHeartbeats 4000000 in
theorem cal_int2digits {f4 : Addr} {fd4 : FuncData} {c P : Addr} {qual : Str} {a : Int} {w k : Nat} (F4 : FnI C 4 f4 fd4) (hlim : C.G.NoLimit) (M : Mk C c P qual) (hcode : fd4.code = .ref c) (hq : fd4.qualname ++ ".<locals>." ++ "inner" = qual) (hlen : GlobD C "len" (.val (.builtin "len")))
    (ha : 0 ≤ a) (hw0 : 0 < w) (hk : k = (Builtin.Int.intBits a + w - 1) / w) (hw : w * k ≤ 1000000) (hz : k ≤ 10000) (hwl : w ≤ 100000) : Cal C (k + 2) (.ref f4) [.int a, .int w] (.list ((digs w k a).map .int)) := by
  have hpw := two_pos w
  refine Cal_fn (n := k + 1) (params := ["a", "n"]) (ρ0 := [("a", .loc, none), ("n", .cel, none), ("a_digits", .cel, none), ("inner", .cel, none), ("len", .glo, some (.val (.builtin "len")))])
    (ρ1 := [("a", .loc, some (.int a)), ("n", .cel, some (.int w)), ("a_digits", .cel, none), ("inner", .cel, none), ("len", .glo, some (.val (.builtin "len")))]) F4 hlim bind_int2digits (fun X h => ?_) ?_ rfl (fun L => ?_) (by walk_at "nd") (by decide +kernel) (by decide +kernel) (by decide +kernel) (by decide +kernel)
  · walk_at "fnr"
  · walk_at "v"
  have hcells : (fnEnv fd4 f4 L).cells = ([("inner", L + 3), ("a_digits", L + 2), ("n", L + 1)] : List (Str × Addr)) := by
    show cellsFrom (L + 1) fd4.scope.names [] ++ fd4.closure = _
    rw [F4.scope, F4.cl]; rfl
  have ek : (((Builtin.Int.intBits a : Int) + w - 1).fdiv w) = k := by
    rw [fdiv_pos _ (by lia), hk]
    have : ((Builtin.Int.intBits a : Int) + w - 1) = ((Builtin.Int.intBits a + w - 1 : Nat) : Int) := by lia
    rw [this]; rfl
  have hwb : Builtin.Int.intBits (w : Int) ≤ 9000 := by
    have e : (2 : Int) ^ 20 = 1048576 := by decide
    exact Nat.le_trans (bits_lt (n := 20) (by exact Int.natCast_nonneg w) (by lia)) (by decide)
  have hbits : Builtin.Int.intBits a ≤ w * k := by
    have h1 := Nat.div_add_mod (Builtin.Int.intBits a + w - 1) w
    have h2 := Nat.mod_lt (Builtin.Int.intBits a + w - 1) hw0
    rw [← hk] at h1
    lia
  have halt : a < 2 ^ (w * k) := Int.lt_of_lt_of_le (lt_bits ha) (pow_mono hbits)
  refine Ex_cons ?_
  apply Es_setN
  · refine EvN_mul (k := ((Builtin.Int.intBits a : Int) + w - 1).fdiv w) (xs := [.int 0]) ?_ ?_ ?_ ?_ ?_
    · exact EvN_list (.cons Ev_int .nil rfl)
    · intro own
      refine Ev_bin (d1 := .int ((Builtin.Int.intBits a : Int) + w - 1)) (d2 := .int w) ?_ ?_ (op_div (by lia) ?_)
      · walk_at "v"
      · walk_at "v"
      · exact pylong_small hwb
    · rw [ek]; exact Int.natCast_nonneg (k + 9223372036854775808)
    · rw [ek]; lia
    · rw [ek]; simp; lia
  · intro b
    walk_at "up"
  rotate_left
  · rfl
  intro b
  rw [ek]
  have erep : (List.replicate ((k : Int)).toNat [D.int 0]).flatten = (List.replicate k (0 : Int)).map D.int := by
    have : ((k : Int)).toNat = k := by exact rfl
    rw [this, List.map_replicate]
    show (List.replicate k [D.int 0]).flatten = List.replicate k (D.int 0)
    clear ek hk hw hz halt hbits this
    induction k with
    | zero => rfl
    | succ k ih => rw [List.replicate_succ, List.flatten_cons, List.replicate_succ, ih]; rfl
  rw [erep]
  refine Ex_cons ?_
  refine Es_def M hcode ?_ ?_ rfl rfl rfl fun fd ok => ?_
  · show qualnameIn (fnEnv fd4 f4 L) "inner" "inner" = qual
    unfold qualnameIn
    have : (fnEnv fd4 f4 L).kindOf "inner" = some .cell := by
      show fd4.scope.names.lookup (Str.ofString "inner") = _
      rw [F4.scope]; decide +kernel
    rw [this]
    exact hq
  · refine .skip rfl (.skip rfl (.skip rfl (.skip rfl (.skip rfl (.skip rfl (.skip rfl (.free (.tail (.tail .head)) (.free (.tail (.tail (.tail .head))) (.free (.tail .head) .nil)))))))))
  refine ⟨[("a", .loc, some (.int a)), ("n", .cel, some (.int w)), ("a_digits", .cel, some (.ref b)), ("inner", .cel, some (.fn fd)), ("len", .glo, some (.val (.builtin "len")))], by walk_at "up", ?_⟩
  have hcl : fd.closure = ([("n", L + 1), ("inner", L + 3), ("a_digits", L + 2)] : List (Str × Addr)) := by
    rw [ok.cl]
    show clOf (fnEnv fd4 f4 L) [("x", .local), ("L", .local), ("R", .local), ("mid", .local), ("shift", .local), ("upper", .local), ("lower", .local), ("a_digits", .free), ("inner", .free), ("n", .free)] [] = _
    exact clOf_cells hcells (by with_unfolding_all rfl)
  have Fs : FnShape fd innerAt4 := by
    have hsc : fd.scope = innerScope4 := ok.scope
    refine ⟨by rw [hsc]; decide +kernel, by rw [hsc]; decide +kernel, by rw [hsc]; decide +kernel, ok.body, ok.gl, ok.bl, by rw [hsc]; exact okNames.of (by decide +kernel), fun p hp => ?_⟩
    rw [hcl] at hp ⊢
    rw [hsc]
    simp only [List.mem_cons, List.not_mem_nil, or_false] at hp
    rcases hp with rfl | rfl | rfl
    · exact ⟨rfl, by show innerScope4.names.lookup (Str.ofString "n") = some .free; decide +kernel⟩
    · exact ⟨rfl, by show innerScope4.names.lookup (Str.ofString "inner") = some .free; decide +kernel⟩
    · exact ⟨rfl, by show innerScope4.names.lookup (Str.ofString "a_digits") = some .free; decide +kernel⟩
  have hnd : (fd.closure.map (·.2)).Nodup := by rw [hcl]; simp
  have I : InFrame (fnEnv fd4 f4 L) [("a", .loc, some (.int a)), ("n", .cel, some (.int w)), ("a_digits", .cel, some (.ref b)), ("inner", .cel, some (.fn fd)), ("len", .glo, some (.val (.builtin "len")))] fd (valsI2 b w fd) := by
    refine ⟨fun p hp => ⟨.inl ?_, ?_⟩, fun c hc => ?_, hnd⟩
    · unfold valsI2 at hp
      simp only [List.mem_cons, List.not_mem_nil, or_false] at hp
      rcases hp with rfl | rfl | rfl <;> simp
    · rw [hcl, hcells]
      unfold valsI2 at hp
      simp only [List.mem_cons, List.not_mem_nil, or_false] at hp
      rcases hp with rfl | rfl | rfl <;> rfl
    · rw [hcl] at hc
      rw [hcells]
      simp only [List.map_cons, List.map_nil, List.mem_cons, List.not_mem_nil, or_false] at hc ⊢
      rcases hc with rfl | rfl | rfl
      · exact .inr (.inr rfl)
      · exact .inl rfl
      · exact .inr (.inl rfl)
  have fin : Ex C (k + 1) (fnEnv fd4 f4 L) [("a", .loc, some (.int a)), ("n", .cel, some (.int w)), ("a_digits", .cel, some (.ref b)), ("inner", .cel, some (.fn fd)), ("len", .glo, some (.val (.builtin "len")))] [(b, (digs w k a).map .int)] ((bodyAt 4).drop 3) fun o => match o with | .ret d' _ => d' = .list ((digs w k a).map .int) | .next _ _ => D.list ((digs w k a).map .int) = .none := by
    refine Ex_freeze (.head) (.skip (.skip (.cons .here .same nofun))) .nil ?_
    refine Ex_cons ?_
    refine Es_ret (d := .list ((digs w k a).map .int)) ?_ rfl
    walk_at "v"
  refine Ex_cons ?_
  apply Es_ifB (P := a ≠ 0)
  · walk_at "v"
  · simp
  · intro hne
    have hbpos : 0 < Builtin.Int.intBits a := (bits_top (by lia)).1
    have hkpos : 0 < k := by
      rcases Nat.eq_zero_or_pos k with q | q
      · rw [q, Nat.mul_zero] at hbits; lia
      · exact q
    refine Ex_cons ?_
    refine Es_callM (fd := fd) (vals := valsI2 b w fd) (ds := [.int a, .int (0 : Nat), .int k]) (xs := (List.replicate k (0 : Int)).map .int) (xs' := (digs w k a).map .int) ?_ ?_ I .head ?_ ?_
    · walk_at "v"
    · refine .cons ?_ (.cons ?_ (.cons ?_ .nil rfl) rfl) rfl
      · walk_at "v"
      · exact Ev_int
      · have : ((List.replicate k (0 : Int)).map D.int).length = k := by simp
        conv => arg 7; rw [← this]
        refine Ev_lenO (a := b) ?_ ?_ .head (by simp; lia) rfl
        · walk_at "v"
        · walk_at "v"
    · have h1 := cal_innerI2 (w := w) (a := b) hlim Fs ok.scope ok.params ok.df ok.kd hnd k (List.replicate k 0) 0 k a (by simpa using hw) (by simpa using hz) hkpos (by simp) (by exact Nat.le_refl (k - 0)) ha (by simpa using halt)
      have h2 : put (List.replicate k 0) 0 (digs w (k - 0) a) = digs w k a := by
        unfold put
        rw [digs_len]
        simp
      rw [h2] at h1
      exact h1.mono (by exact Nat.le_succ k)
    exact Ex_nil fin
  · intro he
    have ha0 : a = 0 := by lia
    have hk0 : k = 0 := by
      rw [hk, ha0]
      have : Builtin.Int.intBits 0 = 0 := by decide
      rw [this]
      exact Nat.div_eq_of_lt (by lia)
    refine Ex_nil ?_
    have : (List.replicate k (0 : Int)).map D.int = (digs w k a).map .int := by rw [hk0]; rfl
    rw [this]
    exact fin
end
section
open PySem PySem.Calls PySem.W
variable {C : Cx}
theorem bind_div2n1n (fd : FuncData) (h1 : fd.params = parsAt 2) (h2 : fd.defaults = .none) (h3 : fd.kwdefaults = .none) (vs : List Value) (hl : vs.length = (["a", "b", "n"] : List Str).length) : bindArgs fd ⟨vs, []⟩ = pure ((["a", "b", "n"] : List Str).zip vs) := by
  refine e3a1 (len3 hl :) fun v1 v2 v3 rq => ?_
  subst rq
  exact (bind_of h1 h2 h3 _).trans rfl
theorem bind_div3n2n (fd : FuncData) (h1 : fd.params = parsAt 3) (h2 : fd.defaults = .none) (h3 : fd.kwdefaults = .none) (vs : List Value) (hl : vs.length = (["a12", "a3", "b", "b1", "b2", "n"] : List Str).length) : bindArgs fd ⟨vs, []⟩ = pure ((["a12", "a3", "b", "b1", "b2", "n"] : List Str).zip vs) := by
  refine e6a1 (len6 hl :) fun v1 v2 v3 v4 v5 v6 rq => ?_
  subst rq
  exact (bind_of h1 h2 h3 _).trans rfl
noncomputable def Cal2 (C : Cx) (n : Nat) (f2 : Addr) : Prop := ∀ (a b : Int) (m : Nat), 0 ≤ a → a < b * 2 ^ m → 0 < b → b < 2 ^ m → m ≤ 7998 → Cal C n (.ref f2) [.int a, .int b, .int m] (.tuple [.int (a / b), .int (a % b)])
theorem cal2_of {n : Nat} {f2 f3 : Addr} {fd2 fd3 : FuncData} (F2 : FnI C 2 f2 fd2) (F3 : FnI C 3 f3 fd3) (hlim : C.G.NoLimit) (g1 : GlobD C "_DIV_LIMIT" (.int 4000)) (g2 : GlobD C "divmod" (.val (.builtin "divmod"))) (g3 : GlobD C "_div3n2n" (.ref f3))
    {a b : Int} {m : Nat} (ha0 : 0 ≤ a) (ha : a < b * 2 ^ m) (hb0 : 0 < b) (hb : b < 2 ^ m) (hm : m ≤ 7998) (hc : 4000 < (Builtin.Int.intBits a : Int) - m → Cal3 C n f3) : Cal C (n + 1) (.ref f2) [.int a, .int b, .int m] (.tuple [.int (a / b), .int (a % b)]) := by
  refine Cal_fn (params := ["a", "b", "n"]) (ρ0 := [("a", .loc, none), ("b", .loc, none), ("n", .loc, none), ("pad", .loc, none), ("half_n", .loc, none), ("mask", .loc, none), ("b1", .loc, none), ("b2", .loc, none), ("q1", .loc, none), ("r", .loc, none), ("q2", .loc, none),
      ("_DIV_LIMIT", .glo, some (.int 4000)), ("divmod", .glo, some (.val (.builtin "divmod"))), ("_div3n2n", .glo, some (.ref f3))])
    (ρ1 := rho2g a b m f3 none none none none none none none none) F2 hlim bind_div2n1n (fun X h => ?_) ?_ rfl (fun L => ?_) (by walk_at "nd") (by decide +kernel) (by decide +kernel) (by decide +kernel) (by decide +kernel)
  · walk_at "fnr"
  · walk_at "v"
  · refine Ex_mono (vc_div2n1n ha0 ha hb0 hb hm F3.fnObj hc) fun o ho => ?_
    cases o with
    | ret d o => exact ho
    | next => exact ho.elim
theorem cal3_of {n : Nat} {f2 f3 : Addr} {fd2 fd3 : FuncData} (F2 : FnI C 2 f2 fd2) (F3 : FnI C 3 f3 fd3) (hlim : C.G.NoLimit) (g1 : GlobD C "_DIV_LIMIT" (.int 4000)) (g2 : GlobD C "divmod" (.val (.builtin "divmod"))) (g3 : GlobD C "_div3n2n" (.ref f3)) (g4 : GlobD C "_div2n1n" (.ref f2)) : Cal3 C (n + 2) f3 := by
  intro a12 a3 b b1 b2 m hb hb1 h20 h2 h120 h12 h30 h3 hbl hm
  have hp := two_pos m
  have hb0 : 0 < b := by have := Int.mul_pos hb1 hp; lia
  refine Cal_fn (params := ["a12", "a3", "b", "b1", "b2", "n"]) (ρ0 := [("a12", .loc, none), ("a3", .loc, none), ("b", .loc, none), ("b1", .loc, none), ("b2", .loc, none), ("n", .loc, none), ("q", .loc, none), ("r", .loc, none), ("_div2n1n", .glo, some (.ref f2))])
    (ρ1 := rho3 a12 a3 b b1 b2 m f2 none none) F3 hlim bind_div3n2n (fun X h => ?_) ?_ rfl (fun L => ?_) (by walk_at "nd") (by decide +kernel) (by decide +kernel) (by decide +kernel) (by decide +kernel)
  · walk_at "fnr"
  · walk_at "v"
  · refine Ex_mono (vc_div3n2n hb hb1 h20 h2 h120 h12 h30 h3 (Nat.le_trans (bits_lt (Int.le_of_lt hb0) hbl) (by lia)) (by lia) F2.fnObj fun hne => ?_) fun o ho => ?_
    · have p22 : (2 : Int) ^ (2 * m) = 2 ^ m * 2 ^ m := by rw [Nat.two_mul, Int.pow_add]
      have e1 : a12 / 2 ^ m < b1 := by
        have h4 : a12 / 2 ^ m ≤ b1 := by
          have : a12 / 2 ^ m < b1 + 1 := Int.ediv_lt_of_lt_mul hp (by rw [Int.add_mul, Int.one_mul]; lia)
          lia
        lia
      have e2 : a12 < b1 * 2 ^ m := (Int.ediv_lt_iff_lt_mul hp).mp e1
      have e3 : b1 < 2 ^ m := by
        rcases Int.lt_or_le b1 (2 ^ m) with q | q
        · exact q
        · have := Int.mul_le_mul_of_nonneg_right q (Int.le_of_lt hp)
          lia
      refine cal2_of F2 F3 hlim g1 g2 g3 h120 e2 hb1 e3 (by lia) fun hbig => ?_
      have := bits_lt h120 (Int.lt_trans h12 hbl)
      lia
    · cases o with
      | ret d o => exact ho
      | next => exact ho.elim
theorem cal2_all {f2 f3 : Addr} {fd2 fd3 : FuncData} (F2 : FnI C 2 f2 fd2) (F3 : FnI C 3 f3 fd3) (hlim : C.G.NoLimit) (g1 : GlobD C "_DIV_LIMIT" (.int 4000)) (g2 : GlobD C "divmod" (.val (.builtin "divmod"))) (g3 : GlobD C "_div3n2n" (.ref f3)) (g4 : GlobD C "_div2n1n" (.ref f2)) : Cal2 C 3 f2 :=
  fun a b m h1 h2 h3 h4 h5 => cal2_of (n := 2) F2 F3 hlim g1 g2 g3 h1 h2 h3 h4 h5 fun _ => cal3_of F2 F3 hlim g1 g2 g3 g4
end
section
open PySem PySem.Calls PySem.W
variable {C : Cx}
noncomputable abbrev rho6 (a b : Int) (f2 f4 f5 : Addr) (n ad r qd adg qdg q : Option D) : Rho := [("a", .loc, some (.int a)), ("b", .loc, some (.int b)), ("n", .loc, n), ("a_digits", .loc, ad), ("r", .loc, r), ("q_digits", .loc, qd), ("a_digit", .loc, adg), ("q_digit", .loc, qdg), ("q", .loc, q),
  ("_int2digits", .glo, some (.ref f4)), ("reversed", .glo, some (.val (.type "reversed"))), ("_div2n1n", .glo, some (.ref f2)), ("_digits2int", .glo, some (.ref f5))]
set_option maxHeartbeats 4000000 in
theorem vc_divmod_pos {n : Nat} {env : Env} {a b : Int} {w k : Nat} {f2 f4 f5 : Addr} (ha : 0 ≤ a) (hb : 0 < b) (hw : w = Builtin.Int.intBits b) (hk : k = (Builtin.Int.intBits a + w - 1) / w) (hkz : k ≤ 30) (hwz : w ≤ 7998)
    (h2 : FnObj C f2) (h4 : FnObj C f4) (h5 : FnObj C f5) (c2 : Cal2 C n f2) (c4 : Cal C n (.ref f4) [.int a, .int w] (.list ((digs w k a).map .int))) (c5 : ∀ qs : List Int, qs.length = k → (∀ d ∈ qs, 0 ≤ d ∧ d < 2 ^ w) → Cal C n (.ref f5) [.list (qs.map .int), .int w] (.int (valL w qs))) :
    Ex C n env (rho6 a b f2 f4 f5 none none none none none none none) [] (bodyAt 6) fun o => match o with | .ret d _ => d = .tuple [.int (a / b), .int (a % b)] | .next _ _ => False := by
  refine e0a2 (bits_top hb :) fun hw0 hbt => ?_
  rw [← hw] at hw0 hbt
  have hbl : b < 2 ^ w := by rw [hw]; exact lt_bits (Int.le_of_lt hb)
  have hp := two_pos w
  have hbits : Builtin.Int.intBits a ≤ w * k := by
    have h1 := Nat.div_add_mod (Builtin.Int.intBits a + w - 1) w
    have h2 := Nat.mod_lt (Builtin.Int.intBits a + w - 1) hw0
    rw [← hk] at h1
    lia
  have halt : a < 2 ^ (w * k) := Int.lt_of_lt_of_le (lt_bits ha) (pow_mono hbits)
  have hlen : (digs w k a).length = k := digs_len w k a
  have hdig := digs_nonneg w k a
  have hval := val_digs w k a ha halt
  generalize hls : digs w k a = ls at *
  refine Ex_cons ?_
  apply Es_set
  case he => exact Ev_bitlen (by walk_at "v") rfl rfl
  case hu => walk_at "up"
  rw [← hw]
  refine Ex_cons ?_
  apply Es_set (d := .list (ls.map .int))
  case he => exact Ev_callF (ds := [.int a, .int w]) (by walk_at "at") h4 (by walk_at "v") c4
  case hu => walk_at "up"
  refine Ex_cons ?_
  walk_at "v"
  refine Ex_cons ?_
  apply Es_setN
  case he => exact EvN_list .nil
  case hu => intro q; walk_at "up"
  case hs => rfl
  case hs => rfl
  intro q
  refine Ex_cons ?_
  refine Es_for (EvI_rev (by walk_at "at") (Ev_name (d := .list (ls.map .int)) (by walk_at "at")) rfl) (fun i ρ own => ∃ (qs : List Int) (x1 x2 : Option D), valL w qs = valL w (ls.drop (k - i)) / b ∧ (∀ d ∈ qs, 0 ≤ d ∧ d < 2 ^ w) ∧ qs.length = i ∧ own = [(q, qs.reverse.map .int)] ∧
      ρ = rho6 a b f2 f4 f5 (some (.int w)) (some (.list (ls.map .int))) (some (.int (valL w (ls.drop (k - i)) % b))) (some (.ref q)) x1 x2 none) ?_ ?_ ?_
  · refine ⟨[], none, none, ?_, nofun, rfl, rfl, ?_⟩
    · rw [Nat.sub_zero, ← hlen, List.drop_length]; simp [valL]
    · rw [Nat.sub_zero, ← hlen, List.drop_length]; simp [valL, rho6]
  · intro i ρ own d hd w1q; refine e3a5 (w1q :) fun qs x1 x2 hq1 hq2 hq3 r3q r4q => ?_; clear w1q; subst r3q; subst r4q
    have hi : i < k := by
      have := (List.getElem?_eq_some_iff.mp hd).1
      simp at this; lia
    have hj : k - 1 - i < ls.length := by lia
    have hd' : d = .int ls[k - 1 - i] := by
      rw [List.getElem?_reverse (by simp; lia)] at hd
      simp only [List.length_map, List.getElem?_map, hlen] at hd
      rw [List.getElem?_eq_getElem hj] at hd
      simpa using hd.symm
    subst hd'
    have hdg := hdig _ (List.getElem_mem hj)
    have hdrop : ls.drop (k - (i + 1)) = ls[k - 1 - i] :: ls.drop (k - i) := by
      rw [show k - (i + 1) = k - 1 - i by lia, List.drop_eq_getElem_cons hj, show k - 1 - i + 1 = k - i by lia]
    generalize hdv : ls[k - 1 - i] = dg at *
    have hH : valL w (ls.drop (k - (i + 1))) = dg + valL w (ls.drop (k - i)) * 2 ^ w := by rw [hdrop]; rfl
    generalize hHi : valL w (ls.drop (k - i)) = H at *
    have r0 := Int.emod_nonneg H (Int.ne_of_gt hb)
    have rl := Int.emod_lt_of_pos H hb
    have dH := Int.emod_add_mul_ediv H b
    generalize hN : H % b * 2 ^ w + dg = N at *
    have hN0 : 0 ≤ N := by have := Int.mul_nonneg r0 (Int.le_of_lt hp); lia
    have hNl : N < b * 2 ^ w := by
      have h5 : (H % b + 1) * 2 ^ w ≤ b * 2 ^ w := Int.mul_le_mul_of_nonneg_right (by exact rl) (by exact Int.natCast_nonneg (2 ^ w))
      rw [Int.add_mul, Int.one_mul] at h5
      lia
    have dN := Int.emod_add_mul_ediv N b
    have N0 := Int.emod_nonneg N (Int.ne_of_gt hb)
    have Nl := Int.emod_lt_of_pos N hb
    have hnew : dg + H * 2 ^ w = (H / b * 2 ^ w + N / b) * b + N % b := by
      have e1 : H * 2 ^ w = H / b * 2 ^ w * b + H % b * 2 ^ w := by
        have : H = H / b * b + H % b := by rw [Int.mul_comm]; lia
        conv => lhs; rw [this]
        rw [Int.add_mul, Int.mul_assoc, Int.mul_comm b, ← Int.mul_assoc]
      rw [Int.add_mul, Int.mul_comm (N / b) b]
      lia
    refine e0a2 (div_unique hnew N0 Nl :) fun u1 u2 => ?_
    have q0 : 0 ≤ N / b := Int.ediv_nonneg hN0 (by exact Int.le_of_lt hb)
    have ql : N / b < 2 ^ w := Int.ediv_lt_of_lt_mul hb (by rw [Int.mul_comm]; exact hNl)
    refine ⟨_, .name (by walk_at "up"), ?_⟩
    refine Ex_cons ?_
    apply Es_tupP (ds := [.int (N / b), .int (N % b)])
    · apply Ev_callF (f := f2)
      case hx => walk_at "at"
      case hf => exact h2
      case hs =>
        walk_at "v"
        · exact Int.natCast_nonneg w
        · have : Builtin.Int.intBits (H % b) ≤ w := bits_lt r0 (Int.lt_trans rl hbl)
          lia
      case hc =>
        have etn : ((w : Int)).toNat = w := by exact rfl
        rw [etn, hN]
        exact c2 N b w hN0 hNl hb hbl hwz
    · walk_at "v"
    rotate_left
    · rfl
    · rfl
    refine Ex_cons ?_
    refine Es_append (a := q) (ds0 := qs.reverse.map .int) (by walk_at "v") .head rfl (EvW_pure (d := .int (N / b)) (by walk_at "v") ⟨qs.reverse.map .int, [(q, (N / b :: qs).reverse.map .int)], ?_, by simp; lia, ?_⟩) rfl rfl
    · have : (N / b :: qs).reverse.map D.int = qs.reverse.map D.int ++ [.int (N / b)] := by simp
      rw [this]
      exact .head
    · refine Ex_nil ⟨N / b :: qs, some (.int dg), some (.int (N / b)), ?_, ?_, by simp [hq3], rfl, ?_⟩
      · show N / b + valL w qs * 2 ^ w = _
        rw [hq1, hH, u1]
        exact Int.add_comm _ _
      · intro d hd
        rcases List.mem_cons.mp hd with rfl | hd
        · exact ⟨q0, ql⟩
        · exact hq2 d hd
      · rw [hH, u2]
        try rfl
  · intro ρ own w2q; refine e3a5 (w2q :) fun qs x1 x2 hq1 hq2 hq3 r5q r6q => ?_; clear w2q; subst r5q; subst r6q
    have hl : (ls.map D.int).reverse.length = k := by simp [hlen]
    rw [hl] at hq1 hq3 ⊢
    rw [Nat.sub_self, List.drop_zero, hval] at hq1 ⊢
    refine Ex_cons ?_
    refine Es_reverse (a := q) (ds0 := qs.reverse.map .int) (own2 := [(q, qs.map .int)]) (by walk_at "v") ?_ (by simp; lia) ?_ rfl rfl
    · have : qs.map D.int = (qs.reverse.map D.int).reverse := by simp
      rw [this]
      exact .head
    refine Ex_freeze .head (.skip (.skip (.skip (.skip (.skip (.cons .here .same nofun)))))) .nil ?_
    refine Ex_cons ?_
    apply Es_set (d := .int (valL w qs))
    case he => exact Ev_callF (ds := [.list (qs.map .int), .int w]) (by walk_at "at") h5 (by walk_at "v") (c5 qs hq3 hq2)
    case hu => walk_at "up"
    refine Ex_cons ?_
    refine Es_ret (d := .tuple [.int (a / b), .int (a % b)]) ?_ rfl
    rw [hq1]
    walk_at "v"
end
section
open PySem PySem.Calls PySem.W
variable {C : Cx}
theorem bind_divmod_pos (fd : FuncData) (h1 : fd.params = parsAt 6) (h2 : fd.defaults = .none) (h3 : fd.kwdefaults = .none) (vs : List Value) (h : vs.length = (["a", "b"] : List Str).length) : bindArgs fd ⟨vs, []⟩ = pure ((["a", "b"] : List Str).zip vs) := by
  refine e2a1 (len2 h :) fun v1 v2 rq => ?_
  subst rq
  exact (bind_of h1 h2 h3 _).trans rfl
theorem bind_int_divmod (fd : FuncData) (h1 : fd.params = parsAt 7) (h2 : fd.defaults = .none) (h3 : fd.kwdefaults = .none) (vs : List Value) (h : vs.length = (["a", "b"] : List Str).length) : bindArgs fd ⟨vs, []⟩ = pure ((["a", "b"] : List Str).zip vs) := by
  refine e2a1 (len2 h :) fun v1 v2 rq => ?_
  subst rq
  exact (bind_of h1 h2 h3 _).trans rfl
set_option genSizeOf false in
set_option genInjectivity false in
structure Pyl (C : Cx) where
  f2 : Addr
  f3 : Addr
  f4 : Addr
  f5 : Addr
  f6 : Addr
  f7 : Addr
  fd2 : FuncData
  fd3 : FuncData
  fd4 : FuncData
  fd5 : FuncData
  fd6 : FuncData
  fd7 : FuncData
  c4 : Addr
  P4 : Addr
  q4 : Str
  c5 : Addr
  P5 : Addr
  q5 : Str
  F2 : FnI C 2 f2 fd2
  F3 : FnI C 3 f3 fd3
  F4 : FnI C 4 f4 fd4
  F5 : FnI C 5 f5 fd5
  F6 : FnI C 6 f6 fd6
  F7 : FnI C 7 f7 fd7
  lim : C.G.NoLimit
  gD : GlobD C "_DIV_LIMIT" (.int 4000)
  gdm : GlobD C "divmod" (.val (.builtin "divmod"))
  glen : GlobD C "len" (.val (.builtin "len"))
  grev : GlobD C "reversed" (.val (.type "reversed"))
  g2 : GlobD C "_div2n1n" (.ref f2)
  g3 : GlobD C "_div3n2n" (.ref f3)
  g4 : GlobD C "_int2digits" (.ref f4)
  g5 : GlobD C "_digits2int" (.ref f5)
  g6 : GlobD C "_divmod_pos" (.ref f6)
  g7 : GlobD C "int_divmod" (.ref f7)
  M4 : Mk C c4 P4 q4
  M5 : Mk C c5 P5 q5
  h4 : fd4.code = .ref c4
  h5 : fd5.code = .ref c5
  n4 : fd4.qualname ++ ".<locals>." ++ "inner" = q4
  n5 : fd5.qualname ++ ".<locals>." ++ "inner" = q5
variable (P : Pyl C)
theorem cal_divmod_pos {a b : Int} (ha : 0 ≤ a) (hb : 0 < b) (hkz : (Builtin.Int.intBits a + Builtin.Int.intBits b - 1) / Builtin.Int.intBits b ≤ 30) (hwz : Builtin.Int.intBits b ≤ 7998) : Cal C 33 (.ref P.f6) [.int a, .int b] (.tuple [.int (a / b), .int (a % b)]) := by
  refine e0a2 (bits_top hb :) fun hw0 hbt => ?_
  generalize hw : Builtin.Int.intBits b = w at *
  generalize hk : (Builtin.Int.intBits a + w - 1) / w = k at *
  have hwk : w * k ≤ 7998 * 30 := Nat.mul_le_mul hwz hkz
  refine Cal_fn (n := 32) (params := ["a", "b"]) (ρ0 := [("a", .loc, none), ("b", .loc, none), ("n", .loc, none), ("a_digits", .loc, none), ("r", .loc, none), ("q_digits", .loc, none), ("a_digit", .loc, none), ("q_digit", .loc, none), ("q", .loc, none),
      ("_int2digits", .glo, some (.ref P.f4)), ("reversed", .glo, some (.val (.type "reversed"))), ("_div2n1n", .glo, some (.ref P.f2)), ("_digits2int", .glo, some (.ref P.f5))])
    (ρ1 := rho6 a b P.f2 P.f4 P.f5 none none none none none none none) P.F6 P.lim bind_divmod_pos (fun X h => ?_) ?_ rfl (fun L => ?_) (by walk_at "nd") (by decide +kernel) (by decide +kernel) (by decide +kernel) (by decide +kernel)
  · have g1 := P.g4
    have g2 := P.grev
    have g3 := P.g2
    have g4 := P.g5
    walk_at "fnr"
  · unfold rho6
    walk_at "v"
  · refine Ex_mono (vc_divmod_pos (w := w) (k := k) ha hb hw.symm hk.symm hkz hwz P.F2.fnObj P.F4.fnObj P.F5.fnObj ?_ ?_ ?_) fun o ho => ?_
    · exact fun a b m h1 h2 h3 h4 h5 => (cal2_all P.F2 P.F3 P.lim P.gD P.gdm P.g3 P.g2 a b m h1 h2 h3 h4 h5).mono (by decide)
    · exact (cal_int2digits (w := w) (k := k) P.F4 P.lim P.M4 P.h4 P.n4 P.glen ha hw0 hk.symm (by lia) (by lia) (by lia)).mono (by lia)
    · intro qs hl hq
      refine (cal_digits2int (w := w) (B := w) P.F5 P.lim P.M5 P.h5 P.n5 P.glen ?_ (by lia) ?_).mono (by lia)
      · rw [hl]
        have : (w + 1) * k ≤ 7999 * 30 := Nat.mul_le_mul (by lia) hkz
        lia
      · intro d hd
        have := hq d hd
        have := nat_two w
        lia
    · cases o with
      | ret d o => exact ho
      | next => exact ho.elim
noncomputable abbrev rho7 (a b : Int) (f6 f7 : Addr) (q r : Option D) : Rho := [("a", .loc, some (.int a)), ("b", .loc, some (.int b)), ("q", .loc, q), ("r", .loc, r), ("int_divmod", .glo, some (.ref f7)), ("_divmod_pos", .glo, some (.ref f6))]
set_option maxHeartbeats 4000000 in
theorem vc_int_divmod {n : Nat} {env : Env} {a b : Int} {f6 f7 : Addr} (hb : b ≠ 0) (h6 : FnObj C f6) (h7 : FnObj C f7)
    (c1 : b < 0 → Cal C n (.ref f7) [.int (-a), .int (-b)] (.tuple [.int ((-a).fdiv (-b)), .int ((-a).fmod (-b))]))
    (c2 : 0 < b → a < 0 → Cal C n (.ref f7) [.int (Builtin.bitNot a), .int b] (.tuple [.int ((Builtin.bitNot a).fdiv b), .int ((Builtin.bitNot a).fmod b)]))
    (c3 : 0 < b → 0 ≤ a → Cal C n (.ref f6) [.int a, .int b] (.tuple [.int (a / b), .int (a % b)])) :
    Ex C n env (rho7 a b f6 f7 none none) [] (bodyAt 7) fun o => match o with | .ret d _ => d = .tuple [.int (a.fdiv b), .int (a.fmod b)] | .next _ _ => False := by
  unfold rho7
  refine Ex_cons ?_
  apply Es_ifB (P := False)
  · walk_at "v"
  · simp; exact hb
  · exact False.elim
  · intro _
    refine Ex_cons ?_
    apply Es_ifB (P := b < 0)
    · walk_at "v"
    · simp
    · intro hneg
      refine Ex_cons ?_
      apply Es_tupP (ds := [.int ((-a).fdiv (-b)), .int ((-a).fmod (-b))])
      · exact Ev_callF (f := f7) (ds := [.int (-a), .int (-b)]) (by walk_at "at") h7 (by walk_at "v") (c1 hneg)
      · walk_at "v"
      rotate_left
      · rfl
      · rfl
      refine Ex_cons ?_
      refine Es_ret (d := .tuple [.int ((-a).fdiv (-b)), .int (-((-a).fmod (-b)))]) (by walk_at "v") ?_
      show D.tuple _ = _
      rw [Int.neg_fdiv_neg, Int.neg_fmod_neg, Int.neg_neg]
    · intro hnn
      have hpos : 0 < b := by lia
      refine Ex_cons ?_
      apply Es_ifB (P := a < 0)
      · walk_at "v"
      · simp
      · intro han
        refine Ex_cons ?_
        apply Es_tupP (ds := [.int ((Builtin.bitNot a).fdiv b), .int ((Builtin.bitNot a).fmod b)])
        · exact Ev_callF (f := f7) (ds := [.int (Builtin.bitNot a), .int b]) (by walk_at "at") h7 (by walk_at "v") (c2 hpos han)
        · walk_at "v"
        rotate_left
        · rfl
        · rfl
        refine Ex_cons ?_
        refine Es_ret (d := .tuple [.int (Builtin.bitNot ((Builtin.bitNot a).fdiv b)), .int (b + Builtin.bitNot ((Builtin.bitNot a).fmod b))]) (by walk_at "v") ?_
        show D.tuple _ = _
        unfold Builtin.bitNot
        rw [fdiv_pos _ hpos, fmod_pos _ hpos, fdiv_pos _ hpos, fmod_pos _ hpos]
        have d1 := Int.emod_add_mul_ediv (-a - 1) b
        have n1 := Int.emod_nonneg (-a - 1) (Int.ne_of_gt hpos)
        have l1 := Int.emod_lt_of_pos (-a - 1) hpos
        have e : a = (-((-a - 1) / b) - 1) * b + (b + (-((-a - 1) % b) - 1)) := by
          rw [Int.sub_mul, Int.neg_mul, Int.one_mul, Int.mul_comm]; lia
        refine e0a2 (div_unique e (by lia) (by lia) :) fun u1 u2 => ?_
        rw [u1, u2]
      · intro hna
        refine Ex_cons ?_
        refine Es_ret (d := .tuple [.int (a / b), .int (a % b)]) (Ev_callF (f := f6) (ds := [.int a, .int b]) (by walk_at "at") h6 (by walk_at "v") (c3 hpos (by lia))) ?_
        show D.tuple _ = _
        rw [fdiv_pos _ hpos, fmod_pos _ hpos]
theorem cal_dm_step {n : Nat} {a b : Int} (hb : b ≠ 0)
    (c1 : b < 0 → Cal C n (.ref P.f7) [.int (-a), .int (-b)] (.tuple [.int ((-a).fdiv (-b)), .int ((-a).fmod (-b))]))
    (c2 : 0 < b → a < 0 → Cal C n (.ref P.f7) [.int (Builtin.bitNot a), .int b] (.tuple [.int ((Builtin.bitNot a).fdiv b), .int ((Builtin.bitNot a).fmod b)]))
    (c3 : 0 < b → 0 ≤ a → Cal C n (.ref P.f6) [.int a, .int b] (.tuple [.int (a / b), .int (a % b)])) : Cal C (n + 1) (.ref P.f7) [.int a, .int b] (.tuple [.int (a.fdiv b), .int (a.fmod b)]) := by
  refine Cal_fn (params := ["a", "b"]) (ρ0 := [("a", .loc, none), ("b", .loc, none), ("q", .loc, none), ("r", .loc, none), ("int_divmod", .glo, some (.ref P.f7)), ("_divmod_pos", .glo, some (.ref P.f6))])
    (ρ1 := rho7 a b P.f6 P.f7 none none) P.F7 P.lim bind_int_divmod (fun X h => ?_) ?_ rfl (fun L => ?_) (by walk_at "nd") (by decide +kernel) (by decide +kernel) (by decide +kernel) (by decide +kernel)
  · have g1 := P.g7
    have g2 := P.g6
    walk_at "fnr"
  · unfold rho7
    walk_at "v"
  · refine Ex_mono (vc_int_divmod hb P.F6.fnObj P.F7.fnObj c1 c2 c3) fun o ho => ?_
    cases o with
    | ret d o => exact ho
    | next => exact ho.elim
theorem cal_int_divmod {a b : Int} (hb : b ≠ 0) (hkz : (Builtin.Int.intBits a + Builtin.Int.intBits b - 1) / Builtin.Int.intBits b ≤ 30) (hwz : Builtin.Int.intBits b ≤ 7998) : Cal C 36 (.ref P.f7) [.int a, .int b] (.tuple [.int (a.fdiv b), .int (a.fmod b)]) := by
  have mono : ∀ x y : Int, Builtin.Int.intBits x ≤ Builtin.Int.intBits a → Builtin.Int.intBits y = Builtin.Int.intBits b → (Builtin.Int.intBits x + Builtin.Int.intBits y - 1) / Builtin.Int.intBits y ≤ 30 := fun x y hx hy => by
    rw [hy]; exact Nat.le_trans (Nat.div_le_div_right (by lia)) hkz
  have s1 : ∀ x y : Int, 0 < y → 0 ≤ x → Builtin.Int.intBits x ≤ Builtin.Int.intBits a → Builtin.Int.intBits y = Builtin.Int.intBits b → Cal C 34 (.ref P.f7) [.int x, .int y] (.tuple [.int (x.fdiv y), .int (x.fmod y)]) := fun x y hy hx h1 h2 =>
    cal_dm_step P (n := 33) (by lia) (fun q => by lia) (fun _ q => by lia) fun _ _ => cal_divmod_pos P hx hy (mono x y h1 h2) (by lia)
  have s2 : ∀ x y : Int, 0 < y → Builtin.Int.intBits x ≤ Builtin.Int.intBits a → Builtin.Int.intBits y = Builtin.Int.intBits b → Cal C 35 (.ref P.f7) [.int x, .int y] (.tuple [.int (x.fdiv y), .int (x.fmod y)]) := fun x y hy h1 h2 =>
    cal_dm_step P (n := 34) (by lia) (fun q => by lia) (fun _ q => s1 _ _ hy (by unfold Builtin.bitNot; lia) (Nat.le_trans (intBits_le_of_natAbs (y := x) (by unfold Builtin.bitNot; lia) (Nat.le_refl _)) h1) h2) fun _ q => (cal_divmod_pos P q hy (mono x y h1 h2) (by lia)).mono (by decide)
  refine cal_dm_step P (n := 35) hb (fun q => ?_) (fun q1 q2 => ?_) fun q1 q2 => ?_
  · exact s2 _ _ (by lia) (intBits_neg_le (Nat.le_refl _)) (Nat.le_antisymm (intBits_neg_le (Nat.le_refl _)) (by have := intBits_neg_le (x := -b) (Nat.le_refl _); rwa [Int.neg_neg] at this))
  · exact (s1 _ _ q1 (by unfold Builtin.bitNot; lia) (intBits_le_of_natAbs (y := a) (by unfold Builtin.bitNot; lia) (Nat.le_refl _)) rfl).mono (by decide)
  · exact (cal_divmod_pos P q2 q1 hkz hwz).mono (by decide)
end
section
open PySem PySem.Calls PySem.W
variable {C : Cx}
theorem bind1 {x : Str} {vs : List Value} (h : vs.length = ([x] : List Str).length) : ∃ v, vs = [v] := by
  exact len1 h
theorem bind2 {x y : Str} {vs : List Value} (h : vs.length = ([x, y] : List Str).length) : ∃ v1 v2, vs = [v1, v2] := by
  exact len2 h
theorem bind_60 (fd : FuncData) (h1 : fd.params = parsAt 60) (h2 : fd.defaults = .none) (h3 : fd.kwdefaults = .none) (vs : List Value) (h : vs.length = (["x"] : List Str).length) : bindArgs fd ⟨vs, []⟩ = pure ((["x"] : List Str).zip vs) := by
  refine e1a1 (bind1 h :) fun v1 r1q => ?_; subst r1q
  exact (bind_of h1 h2 h3 _).trans rfl
theorem bind_61 (fd : FuncData) (h1 : fd.params = parsAt 61) (h2 : fd.defaults = .none) (h3 : fd.kwdefaults = .none) (vs : List Value) (h : vs.length = (["x"] : List Str).length) : bindArgs fd ⟨vs, []⟩ = pure ((["x"] : List Str).zip vs) := by
  refine e1a1 (bind1 h :) fun v1 r1q => ?_; subst r1q
  exact (bind_of h1 h2 h3 _).trans rfl
theorem bind_62 (fd : FuncData) (h1 : fd.params = parsAt 62) (h2 : fd.defaults = .none) (h3 : fd.kwdefaults = .none) (vs : List Value) (h : vs.length = (["x"] : List Str).length) : bindArgs fd ⟨vs, []⟩ = pure ((["x"] : List Str).zip vs) := by
  refine e1a1 (bind1 h :) fun v1 r1q => ?_; subst r1q
  exact (bind_of h1 h2 h3 _).trans rfl
theorem cal_term {f : Addr} {fd : FuncData} (F : FnI C 60 f fd) (hlim : C.G.NoLimit) (g : GlobD C "NT_OFFSET" (.int 256)) {x : Int} : Cal C 1 (.ref f) [.int x] (.bool (decide (x < 256))) := by
  refine Cal_fn (n := 0) (params := ["x"]) (ρ0 := [("x", .loc, none), ("NT_OFFSET", .glo, some (.int 256))]) (ρ1 := [("x", .loc, some (.int x)), ("NT_OFFSET", .glo, some (.int 256))]) F hlim bind_60 (fun X h => ?_) ?_ rfl (fun L => ?_) (by walk_at "nd") (by decide +kernel) (by decide +kernel) (by decide +kernel) (by decide +kernel)
  · walk_at "fnr"
  · walk_at "v"
  · refine Ex_cons ?_
    refine Es_ret (d := .bool (decide (x < 256))) (by walk_at "v") rfl
theorem cal_nonterm {f : Addr} {fd : FuncData} (F : FnI C 61 f fd) (hlim : C.G.NoLimit) (g : GlobD C "NT_OFFSET" (.int 256)) {x : Int} : Cal C 1 (.ref f) [.int x] (.bool (decide (256 ≤ x))) := by
  refine Cal_fn (n := 0) (params := ["x"]) (ρ0 := [("x", .loc, none), ("NT_OFFSET", .glo, some (.int 256))]) (ρ1 := [("x", .loc, some (.int x)), ("NT_OFFSET", .glo, some (.int 256))]) F hlim bind_61 (fun X h => ?_) ?_ rfl (fun L => ?_) (by walk_at "nd") (by decide +kernel) (by decide +kernel) (by decide +kernel) (by decide +kernel)
  · walk_at "fnr"
  · walk_at "v"
  · refine Ex_cons ?_
    refine Es_ret (d := .bool (decide (256 ≤ x))) (by walk_at "v") rfl
theorem cal_eof {f : Addr} {fd : FuncData} (F : FnI C 62 f fd) (hlim : C.G.NoLimit) (g : GlobD C "ENDMARKER" (.int 0)) {x : Int} : Cal C 1 (.ref f) [.int x] (.bool (x == 0)) := by
  refine Cal_fn (n := 0) (params := ["x"]) (ρ0 := [("x", .loc, none), ("ENDMARKER", .glo, some (.int 0))]) (ρ1 := [("x", .loc, some (.int x)), ("ENDMARKER", .glo, some (.int 0))]) F hlim bind_62 (fun X h => ?_) ?_ rfl (fun L => ?_) (by walk_at "nd") (by decide +kernel) (by decide +kernel) (by decide +kernel) (by decide +kernel)
  · walk_at "fnr"
  · walk_at "v"
  · refine Ex_cons ?_
    refine Es_ret (d := .bool (x == 0)) (by walk_at "v") rfl
end
section
open PySem PySem.Builtin PySem.Builtin.Str
noncomputable def txt (l : List Nat) : Str := ⟨l.toArray⟩
theorem txt_list (l : List Nat) : (txt l).cps.toList = l := by simp [txt]
theorem txt_of (x : Str) : txt x.cps.toList = x := by simp [txt]
theorem txt_len (l : List Nat) : (txt l).length = l.length := by simp [txt, Str.length]
theorem txt_app (a b : List Nat) : txt a ++ txt b = txt (a ++ b) := Str.ext' (by simp [txt, Str.cps_append])
theorem txt_inj {a b : List Nat} (h : txt a = txt b) : a = b := by
  have := congrArg (fun x : Str => x.cps.toList) h
  simpa [txt] using this
noncomputable def splitL (c : Nat) : List Nat → List (List Nat)
  | [] => [[]]
  | a :: r => if a = c then [] :: splitL c r else
    match splitL c r with
    | [] => [[a]]
    | p :: ps => (a :: p) :: ps
noncomputable def joinL (z : List Nat) : List (List Nat) → List Nat
  | [] => []
  | [p] => p
  | p :: q :: r => p ++ z ++ joinL z (q :: r)
theorem splitL_cons (c a : Nat) (r : List Nat) : splitL c (a :: r) = if a = c then [] :: splitL c r else (match splitL c r with | [] => [[a]] | p :: ps => (a :: p) :: ps) := rfl
theorem splitL_ne (c : Nat) : ∀ l, splitL c l ≠ []
  | [] => nofun
  | a :: r => by
    rw [splitL_cons]
    split
    · nofun
    · split <;> nofun
theorem splitL_free (c : Nat) : ∀ l : List Nat, c ∉ l → splitL c l = [l]
  | [], _ => rfl
  | a :: r, h => by
    have h1 : a ≠ c := fun q => h (q ▸ List.mem_cons_self)
    rw [splitL_cons, if_neg h1, splitL_free c r fun q => h (List.mem_cons_of_mem _ q)]
theorem splitL_app (c : Nat) : ∀ (l m : List Nat), c ∉ l → splitL c (l ++ c :: m) = l :: splitL c m
  | [], m, _ => by rw [List.nil_append, splitL_cons, if_pos rfl]
  | a :: r, m, h => by
    have h1 : a ≠ c := fun q => h (q ▸ List.mem_cons_self)
    rw [List.cons_append, splitL_cons, if_neg h1, splitL_app c r m fun q => h (List.mem_cons_of_mem _ q)]
theorem split_join (c : Nat) : ∀ ps : List (List Nat), ps ≠ [] → (∀ p ∈ ps, c ∉ p) → splitL c (joinL [c] ps) = ps
  | [], h, _ => absurd rfl h
  | [p], _, h => splitL_free c p (h p List.mem_cons_self)
  | p :: q :: r, _, h => by
    show splitL c (p ++ [c] ++ joinL [c] (q :: r)) = _
    rw [List.append_assoc]
    show splitL c (p ++ c :: joinL [c] (q :: r)) = _
    rw [splitL_app c _ _ (h p List.mem_cons_self), split_join c (q :: r) nofun fun x hx => h x (List.mem_cons_of_mem _ hx)]
theorem join_txt (z : List Nat) : ∀ ps : List Str, (Str.join (txt z) ps).cps.toList = joinL z (ps.map fun p => p.cps.toList)
  | [] => by simp [Str.join, joinL, Str.empty]
  | [p] => by simp [Str.join, joinL]
  | p :: q :: r => by
    show (p ++ txt z ++ Str.join (txt z) (q :: r)).cps.toList = p.cps.toList ++ z ++ joinL z (List.map (fun p => p.cps.toList) (q :: r))
    rw [← join_txt z (q :: r)]
    simp [Str.cps_append, txt]
theorem split_txt (l : List Nat) (c : Nat) : (Txt.split (txt l) (txt [c])).map (fun p => p.cps.toList) = splitL c l := by
  have h1 := StrLaws.split_free (txt l) c
  have h2 : Str.join (txt [c]) (Txt.split (txt l) (txt [c])) = txt l := by
    unfold Txt.split
    split
    · rfl
    · split
      · rfl
      · rw [← StrLaws.glued_eq_join]; exact StrLaws.glued_between_self _ _ _
  have h3 := join_txt [c] (Txt.split (txt l) (txt [c]))
  rw [h2, txt_list] at h3
  have hne : (Txt.split (txt l) (txt [c])).map (fun p => p.cps.toList) ≠ [] := by
    unfold Txt.split
    split
    · nofun
    · split
      · nofun
      · intro h
        have := congrArg List.length h
        rw [List.length_map, length_partsBetween] at this
        simp at this
  conv => rhs; rw [h3]
  rw [split_join c _ hne]
  intro p hp
  refine e1a2 (List.mem_map.mp hp :) fun q hq r2q => ?_; subst r2q
  exact h1 q hq
noncomputable def rep (c : Nat) (z : List Nat) (a : Nat) : List Nat := if a = c then z else [a]
theorem rep_join (c : Nat) (z : List Nat) : ∀ l : List Nat, l.flatMap (rep c z) = joinL z (splitL c l)
  | [] => rfl
  | a :: r => by
    rw [List.flatMap_cons, rep_join c z r, splitL_cons]
    unfold rep
    by_cases h : a = c
    · rw [if_pos h, if_pos h]
      cases hs : splitL c r with
      | nil => exact absurd hs (splitL_ne c r)
      | cons p ps => rfl
    · rw [if_neg h, if_neg h]
      cases hs : splitL c r with
      | nil => exact absurd hs (splitL_ne c r)
      | cons p ps => cases ps <;> rfl
theorem replace_txt (l z : List Nat) (c : Nat) : Txt.replace (txt l) (txt [c]) (txt z) = txt (l.flatMap (rep c z)) := by
  have h := StrLaws.replace_one (txt l) (txt z) c
  have h2 : Txt.replace (txt l) (txt [c]) (txt z) = Str.join (txt z) (Txt.split (txt l) (txt [c])) := h
  rw [h2, ← txt_of (Str.join _ _), join_txt, split_txt, rep_join]
theorem contains_txt (l : List Nat) (c : Nat) : Txt.contains (txt l) (txt [c]) = decide (c ∈ l) := by
  have := StrLaws.found_one (txt l) c
  rw [txt_list] at this
  exact this
theorem rep_free {c : Nat} {z : List Nat} : ∀ {l : List Nat}, c ∉ l → l.flatMap (rep c z) = l
  | [], _ => rfl
  | a :: r, h => by
    have h1 : a ≠ c := fun q => h (q ▸ List.mem_cons_self)
    rw [List.flatMap_cons, rep_free fun q => h (List.mem_cons_of_mem _ q)]
    unfold rep
    rw [if_neg h1]; rfl
noncomputable def esc (ps : List (Nat × List Nat)) (a : Nat) : List Nat := (ps.lookup a).getD [a]
theorem esc_nil : esc [] = fun a => [a] := rfl
theorem esc_snoc {ps : List (Nat × List Nat)} {c : Nat} {z : List Nat} (hz : ∀ p ∈ ps, c ∉ p.2) (l : List Nat) : (l.flatMap (esc ps)).flatMap (rep c z) = l.flatMap (esc (ps ++ [(c, z)])) := by
  rw [List.flatMap_assoc]
  congr 1
  funext a
  unfold esc
  have key : ∀ ps : List (Nat × List Nat), (∀ p ∈ ps, c ∉ p.2) → ((ps.lookup a).getD [a]).flatMap (rep c z) = ((ps ++ [(c, z)]).lookup a).getD [a] := by
    intro ps
    induction ps with
    | nil =>
      intro _
      show rep c z a ++ [] = _
      rw [List.append_nil, List.nil_append, List.lookup_cons]
      unfold rep
      by_cases h : a = c
      · subst h; simp
      · have : (a == c) = false := by simpa using h
        rw [if_neg h, this]; rfl
    | cons p r ih =>
      intro h
      rw [List.cons_append, List.lookup_cons, List.lookup_cons]
      cases hb : a == p.1 with
      | true => exact rep_free (h p List.mem_cons_self)
      | false => exact ih fun q hq => h q (List.mem_cons_of_mem _ hq)
  exact key ps hz
theorem esc_len {ps : List (Nat × List Nat)} (h : ∀ p ∈ ps, p.2.length ≤ 6) (l : List Nat) : (l.flatMap (esc ps)).length ≤ 6 * l.length := by
  induction l with
  | nil => simp
  | cons a r ih =>
    rw [List.flatMap_cons, List.length_append, List.length_cons]
    have : (esc ps a).length ≤ 6 := by
      unfold esc
      cases hl : ps.lookup a with
      | none => show 1 ≤ 6; decide
      | some z =>
        have key : ∀ ps : List (Nat × List Nat), ps.lookup a = some z → ∃ p ∈ ps, p.2 = z := by
          intro ps
          induction ps with
          | nil => intro h; cases h
          | cons p r ih =>
            intro h
            rw [List.lookup_cons] at h
            cases hb : a == p.1 with
            | true => rw [hb] at h; cases h; exact ⟨p, List.mem_cons_self, rfl⟩
            | false => rw [hb] at h; refine e1a2 (ih h :) fun q hq e => ?_; exact ⟨q, List.mem_cons_of_mem _ hq, e⟩
        refine e1a2 (key ps hl :) fun p hp r2q => ?_; subst r2q
        exact h p hp
    lia
end
section
open PySem PySem.Calls PySem.W
variable {C : Cx}
theorem Es_esc {n : Nat} {env : Env} {own : Own} {K : Out → Prop} {ρf : D → Rho} {x y1 y2 z : Str} {k1 k2 k3 : Nat} {p1 p2 p3 p4 p5 p6 p7 p8 p9 p10 p11 : Pos} {c : Nat} {zl t t' : List Nat} (h1 : ∀ d, At (ρf d) x d) (h2 : ∀ d d', Up (ρf d) x d' (ρf d')) (hy1 : y1 = txt [c]) (hy2 : y2 = txt [c]) (hz : z = txt zl)
    (ht : t.flatMap (rep c zl) = t') (hl : t.length ≤ 1048576) (hzl : zl.length ≤ 14) (hne : ([c] == zl) = false) (hK : K (.next (ρf (.str (txt t'))) own)) (hline : (p5.endLine == p8.line) = true) :
    Es C n env (ρf (.str (txt t))) own (.If (.Compare (.Constant (.str y1) k1 p1) [.In] [.Name x p2] p3) [.Assign [.Name x p4] (.Call (.Attribute (.Name x p10) "replace" p5) [.Constant (.str y2) k2 p6, .Constant (.str z) k3 p7] [] p8) p9] [] p11) K := by
  subst hy1 hy2 hz
  refine Es_if (b := Txt.contains (txt t) (txt [c])) (EvT_cmp Ev_str (Ev_name (h1 _)) op_inS rfl) (fun _ => ?_) fun hf => ?_
  · refine Ex_cons ?_
    refine Es_set (d := .str (txt t')) ?_ (h2 _ _) (Ex_nil hK)
    rw [← ht, ← replace_txt]
    have hcz : (txt [c] == txt zl) = false := by
      rw [Bool.eq_false_iff] at hne ⊢
      intro h
      rw [beq_iff_eq] at h
      exact hne (by rw [beq_iff_eq]; exact txt_inj h)
    exact Ev_replace (Ev_name (h1 _)) hcz (by rw [txt_len]; exact hl) (by rw [txt_len]; exact hzl) rfl hline
  · rw [contains_txt, decide_eq_false_iff_not] at hf
    rw [rep_free hf] at ht
    subst ht
    exact Ex_nil hK
noncomputable def eAmp : Nat × List Nat := (38, [38, 97, 109, 112, 59])
noncomputable def eLt : Nat × List Nat := (60, [38, 108, 116, 59])
noncomputable def eGt : Nat × List Nat := (62, [38, 103, 116, 59])
noncomputable def eQuot : Nat × List Nat := (34, [38, 113, 117, 111, 116, 59])
noncomputable def eR13 : Nat × List Nat := (13, [38, 35, 49, 51, 59])
noncomputable def eN10 : Nat × List Nat := (10, [38, 35, 49, 48, 59])
noncomputable def eT09 : Nat × List Nat := (9, [38, 35, 48, 57, 59])
noncomputable def eRD : Nat × List Nat := (13, [38, 35, 120, 68, 59])
noncomputable def eNA : Nat × List Nat := (10, [38, 35, 120, 65, 59])
noncomputable def eT9 : Nat × List Nat := (9, [38, 35, 120, 57, 59])
noncomputable def esc0 : List (Nat × List Nat) := [eAmp, eLt, eGt]
noncomputable def esc1 : List (Nat × List Nat) := [eAmp, eLt, eGt, eQuot, eR13, eN10, eT09]
noncomputable def esc2 : List (Nat × List Nat) := [eAmp, eGt, eQuot]
noncomputable def esc3 : List (Nat × List Nat) := [eAmp, eLt, eGt, eRD]
noncomputable def esc4 : List (Nat × List Nat) := [eAmp, eLt, eQuot, eT9, eNA, eRD]
theorem bind_esc0 (fd : FuncData) (h1 : fd.params = parsAt 65) (h2 : fd.defaults = .none) (h3 : fd.kwdefaults = .none) (vs : List Value) (hl : vs.length = (["text"] : List Str).length) : bindArgs fd ⟨vs, []⟩ = pure ((["text"] : List Str).zip vs) := by
  refine e1a1 (bind1 hl :) fun v1 r1q => ?_; subst r1q
  exact (bind_of h1 h2 h3 _).trans rfl
theorem bind_esc1 (fd : FuncData) (h1 : fd.params = parsAt 66) (h2 : fd.defaults = .none) (h3 : fd.kwdefaults = .none) (vs : List Value) (hl : vs.length = (["text"] : List Str).length) : bindArgs fd ⟨vs, []⟩ = pure ((["text"] : List Str).zip vs) := by
  refine e1a1 (bind1 hl :) fun v1 r1q => ?_; subst r1q
  exact (bind_of h1 h2 h3 _).trans rfl
theorem bind_esc2 (fd : FuncData) (h1 : fd.params = parsAt 67) (h2 : fd.defaults = .none) (h3 : fd.kwdefaults = .none) (vs : List Value) (hl : vs.length = (["text"] : List Str).length) : bindArgs fd ⟨vs, []⟩ = pure ((["text"] : List Str).zip vs) := by
  refine e1a1 (bind1 hl :) fun v1 r1q => ?_; subst r1q
  exact (bind_of h1 h2 h3 _).trans rfl
theorem bind_esc3 (fd : FuncData) (h1 : fd.params = parsAt 68) (h2 : fd.defaults = .none) (h3 : fd.kwdefaults = .none) (vs : List Value) (hl : vs.length = (["text"] : List Str).length) : bindArgs fd ⟨vs, []⟩ = pure ((["text"] : List Str).zip vs) := by
  refine e1a1 (bind1 hl :) fun v1 r1q => ?_; subst r1q
  exact (bind_of h1 h2 h3 _).trans rfl
theorem bind_esc4 (fd : FuncData) (h1 : fd.params = parsAt 69) (h2 : fd.defaults = .none) (h3 : fd.kwdefaults = .none) (vs : List Value) (hl : vs.length = (["text"] : List Str).length) : bindArgs fd ⟨vs, []⟩ = pure ((["text"] : List Str).zip vs) := by
  refine e1a1 (bind1 hl :) fun v1 r1q => ?_; subst r1q
  exact (bind_of h1 h2 h3 _).trans rfl
noncomputable abbrev rhoE (d : D) : Rho := [("text", .loc, some d)]
theorem esc_first (c : Nat) (z l : List Nat) : l.flatMap (rep c z) = l.flatMap (esc [(c, z)]) := by
  have := esc_snoc (ps := []) (c := c) (z := z) nofun l
  simpa [esc_nil] using this
theorem vc_esc0 {n : Nat} {env : Env} {l : List Nat} (hl : l.length ≤ 100000) : Ex C n env (rhoE (.str (txt l))) [] (bodyAt 65) fun o => match o with | .ret d' _ => d' = .str (txt (l.flatMap (esc esc0))) | .next _ _ => D.str (txt (l.flatMap (esc esc0))) = .none := by
  have hA : ∀ d, At (rhoE d) "text" d := fun d => .head
  have hU : ∀ d d', Up (rhoE d) "text" d' (rhoE d') := fun d d' => .headL
  have len : ∀ ps, (∀ p ∈ ps, p.2.length ≤ 6) → (l.flatMap (esc ps)).length ≤ 1048576 := fun ps h => Nat.le_trans (esc_len h l) (by lia)
  refine Ex_cons ?_
  refine Es_try ?_
  refine Ex_cons ?_
  refine Es_esc (ρf := rhoE) (c := 38) (zl := eAmp.2) (t' := l.flatMap (esc [eAmp])) hA hU rfl rfl rfl (esc_first _ _ _) (by lia) (by decide) (by decide) ?_ rfl
  refine Ex_cons ?_
  refine Es_esc (ρf := rhoE) (c := 60) (zl := eLt.2) (t' := l.flatMap (esc [eAmp, eLt])) hA hU rfl rfl rfl (esc_snoc (by decide) _) (len _ (by decide)) (by decide) (by decide) ?_ rfl
  refine Ex_cons ?_
  refine Es_esc (ρf := rhoE) (c := 62) (zl := eGt.2) (t' := l.flatMap (esc [eAmp, eLt, eGt])) hA hU rfl rfl rfl (esc_snoc (by decide) _) (len _ (by decide)) (by decide) (by decide) ?_ rfl
  refine Ex_cons ?_
  exact Es_ret (Ev_name (hA _)) rfl
theorem cal_esc0 {f : Addr} {fd : FuncData} (F : FnI C 65 f fd) (hlim : C.G.NoLimit) {l : List Nat} (hl : l.length ≤ 100000) : Cal C 1 (.ref f) [.str (txt l)] (.str (txt (l.flatMap (esc esc0)))) := by
  refine Cal_fn (n := 0) (params := ["text"]) (ρ0 := [("text", .loc, none)]) (ρ1 := rhoE (.str (txt l))) F hlim bind_esc0 (fun X h => ?_) ?_ rfl (fun L => vc_esc0 hl) (by walk_at "nd") (by decide +kernel) (by decide +kernel) (by decide +kernel) (by decide +kernel)
  · walk_at "fnr"
  · exact .cons .headL .nil
theorem vc_esc1 {n : Nat} {env : Env} {l : List Nat} (hl : l.length ≤ 100000) : Ex C n env (rhoE (.str (txt l))) [] (bodyAt 66) fun o => match o with | .ret d' _ => d' = .str (txt (l.flatMap (esc esc1))) | .next _ _ => D.str (txt (l.flatMap (esc esc1))) = .none := by
  have hA : ∀ d, At (rhoE d) "text" d := fun d => .head
  have hU : ∀ d d', Up (rhoE d) "text" d' (rhoE d') := fun d d' => .headL
  have len : ∀ ps, (∀ p ∈ ps, p.2.length ≤ 6) → (l.flatMap (esc ps)).length ≤ 1048576 := fun ps h => Nat.le_trans (esc_len h l) (by lia)
  refine Ex_cons ?_
  refine Es_try ?_
  refine Ex_cons ?_
  refine Es_esc (ρf := rhoE) (c := 38) (zl := eAmp.2) (t' := l.flatMap (esc [eAmp])) hA hU rfl rfl rfl (esc_first _ _ _) (by lia) (by decide) (by decide) ?_ rfl
  refine Ex_cons ?_
  refine Es_esc (ρf := rhoE) (c := 60) (zl := eLt.2) (t' := l.flatMap (esc [eAmp, eLt])) hA hU rfl rfl rfl (esc_snoc (by decide) _) (len _ (by decide)) (by decide) (by decide) ?_ rfl
  refine Ex_cons ?_
  refine Es_esc (ρf := rhoE) (c := 62) (zl := eGt.2) (t' := l.flatMap (esc [eAmp, eLt, eGt])) hA hU rfl rfl rfl (esc_snoc (by decide) _) (len _ (by decide)) (by decide) (by decide) ?_ rfl
  refine Ex_cons ?_
  refine Es_esc (ρf := rhoE) (c := 34) (zl := eQuot.2) (t' := l.flatMap (esc [eAmp, eLt, eGt, eQuot])) hA hU rfl rfl rfl (esc_snoc (by decide) _) (len _ (by decide)) (by decide) (by decide) ?_ rfl
  refine Ex_cons ?_
  refine Es_esc (ρf := rhoE) (c := 13) (zl := eR13.2) (t' := l.flatMap (esc [eAmp, eLt, eGt, eQuot, eR13])) hA hU rfl rfl rfl (esc_snoc (by decide) _) (len _ (by decide)) (by decide) (by decide) ?_ rfl
  refine Ex_cons ?_
  refine Es_esc (ρf := rhoE) (c := 10) (zl := eN10.2) (t' := l.flatMap (esc [eAmp, eLt, eGt, eQuot, eR13, eN10])) hA hU rfl rfl rfl (esc_snoc (by decide) _) (len _ (by decide)) (by decide) (by decide) ?_ rfl
  refine Ex_cons ?_
  refine Es_esc (ρf := rhoE) (c := 9) (zl := eT09.2) (t' := l.flatMap (esc [eAmp, eLt, eGt, eQuot, eR13, eN10, eT09])) hA hU rfl rfl rfl (esc_snoc (by decide) _) (len _ (by decide)) (by decide) (by decide) ?_ rfl
  refine Ex_cons ?_
  exact Es_ret (Ev_name (hA _)) rfl
theorem cal_esc1 {f : Addr} {fd : FuncData} (F : FnI C 66 f fd) (hlim : C.G.NoLimit) {l : List Nat} (hl : l.length ≤ 100000) : Cal C 1 (.ref f) [.str (txt l)] (.str (txt (l.flatMap (esc esc1)))) := by
  refine Cal_fn (n := 0) (params := ["text"]) (ρ0 := [("text", .loc, none)]) (ρ1 := rhoE (.str (txt l))) F hlim bind_esc1 (fun X h => ?_) ?_ rfl (fun L => vc_esc1 hl) (by walk_at "nd") (by decide +kernel) (by decide +kernel) (by decide +kernel) (by decide +kernel)
  · walk_at "fnr"
  · exact .cons .headL .nil
theorem vc_esc2 {n : Nat} {env : Env} {l : List Nat} (hl : l.length ≤ 100000) : Ex C n env (rhoE (.str (txt l))) [] (bodyAt 67) fun o => match o with | .ret d' _ => d' = .str (txt (l.flatMap (esc esc2))) | .next _ _ => D.str (txt (l.flatMap (esc esc2))) = .none := by
  have hA : ∀ d, At (rhoE d) "text" d := fun d => .head
  have hU : ∀ d d', Up (rhoE d) "text" d' (rhoE d') := fun d d' => .headL
  have len : ∀ ps, (∀ p ∈ ps, p.2.length ≤ 6) → (l.flatMap (esc ps)).length ≤ 1048576 := fun ps h => Nat.le_trans (esc_len h l) (by lia)
  refine Ex_cons ?_
  refine Es_try ?_
  refine Ex_cons ?_
  refine Es_esc (ρf := rhoE) (c := 38) (zl := eAmp.2) (t' := l.flatMap (esc [eAmp])) hA hU rfl rfl rfl (esc_first _ _ _) (by lia) (by decide) (by decide) ?_ rfl
  refine Ex_cons ?_
  refine Es_esc (ρf := rhoE) (c := 62) (zl := eGt.2) (t' := l.flatMap (esc [eAmp, eGt])) hA hU rfl rfl rfl (esc_snoc (by decide) _) (len _ (by decide)) (by decide) (by decide) ?_ rfl
  refine Ex_cons ?_
  refine Es_esc (ρf := rhoE) (c := 34) (zl := eQuot.2) (t' := l.flatMap (esc [eAmp, eGt, eQuot])) hA hU rfl rfl rfl (esc_snoc (by decide) _) (len _ (by decide)) (by decide) (by decide) ?_ rfl
  refine Ex_cons ?_
  exact Es_ret (Ev_name (hA _)) rfl
theorem cal_esc2 {f : Addr} {fd : FuncData} (F : FnI C 67 f fd) (hlim : C.G.NoLimit) {l : List Nat} (hl : l.length ≤ 100000) : Cal C 1 (.ref f) [.str (txt l)] (.str (txt (l.flatMap (esc esc2)))) := by
  refine Cal_fn (n := 0) (params := ["text"]) (ρ0 := [("text", .loc, none)]) (ρ1 := rhoE (.str (txt l))) F hlim bind_esc2 (fun X h => ?_) ?_ rfl (fun L => vc_esc2 hl) (by walk_at "nd") (by decide +kernel) (by decide +kernel) (by decide +kernel) (by decide +kernel)
  · walk_at "fnr"
  · exact .cons .headL .nil
theorem vc_esc3 {n : Nat} {env : Env} {l : List Nat} (hl : l.length ≤ 100000) : Ex C n env (rhoE (.str (txt l))) [] (bodyAt 68) fun o => match o with | .ret d' _ => d' = .str (txt (l.flatMap (esc esc3))) | .next _ _ => D.str (txt (l.flatMap (esc esc3))) = .none := by
  have hA : ∀ d, At (rhoE d) "text" d := fun d => .head
  have hU : ∀ d d', Up (rhoE d) "text" d' (rhoE d') := fun d d' => .headL
  have len : ∀ ps, (∀ p ∈ ps, p.2.length ≤ 6) → (l.flatMap (esc ps)).length ≤ 1048576 := fun ps h => Nat.le_trans (esc_len h l) (by lia)
  refine Ex_cons ?_
  refine Es_try ?_
  refine Ex_cons ?_
  refine Es_esc (ρf := rhoE) (c := 38) (zl := eAmp.2) (t' := l.flatMap (esc [eAmp])) hA hU rfl rfl rfl (esc_first _ _ _) (by lia) (by decide) (by decide) ?_ rfl
  refine Ex_cons ?_
  refine Es_esc (ρf := rhoE) (c := 60) (zl := eLt.2) (t' := l.flatMap (esc [eAmp, eLt])) hA hU rfl rfl rfl (esc_snoc (by decide) _) (len _ (by decide)) (by decide) (by decide) ?_ rfl
  refine Ex_cons ?_
  refine Es_esc (ρf := rhoE) (c := 62) (zl := eGt.2) (t' := l.flatMap (esc [eAmp, eLt, eGt])) hA hU rfl rfl rfl (esc_snoc (by decide) _) (len _ (by decide)) (by decide) (by decide) ?_ rfl
  refine Ex_cons ?_
  refine Es_esc (ρf := rhoE) (c := 13) (zl := eRD.2) (t' := l.flatMap (esc [eAmp, eLt, eGt, eRD])) hA hU rfl rfl rfl (esc_snoc (by decide) _) (len _ (by decide)) (by decide) (by decide) ?_ rfl
  refine Ex_cons ?_
  exact Es_ret (Ev_name (hA _)) rfl
theorem cal_esc3 {f : Addr} {fd : FuncData} (F : FnI C 68 f fd) (hlim : C.G.NoLimit) {l : List Nat} (hl : l.length ≤ 100000) : Cal C 1 (.ref f) [.str (txt l)] (.str (txt (l.flatMap (esc esc3)))) := by
  refine Cal_fn (n := 0) (params := ["text"]) (ρ0 := [("text", .loc, none)]) (ρ1 := rhoE (.str (txt l))) F hlim bind_esc3 (fun X h => ?_) ?_ rfl (fun L => vc_esc3 hl) (by walk_at "nd") (by decide +kernel) (by decide +kernel) (by decide +kernel) (by decide +kernel)
  · walk_at "fnr"
  · exact .cons .headL .nil
theorem vc_esc4 {n : Nat} {env : Env} {l : List Nat} (hl : l.length ≤ 100000) : Ex C n env (rhoE (.str (txt l))) [] (bodyAt 69) fun o => match o with | .ret d' _ => d' = .str (txt (l.flatMap (esc esc4))) | .next _ _ => D.str (txt (l.flatMap (esc esc4))) = .none := by
  have hA : ∀ d, At (rhoE d) "text" d := fun d => .head
  have hU : ∀ d d', Up (rhoE d) "text" d' (rhoE d') := fun d d' => .headL
  have len : ∀ ps, (∀ p ∈ ps, p.2.length ≤ 6) → (l.flatMap (esc ps)).length ≤ 1048576 := fun ps h => Nat.le_trans (esc_len h l) (by lia)
  refine Ex_cons ?_
  refine Es_try ?_
  refine Ex_cons ?_
  refine Es_esc (ρf := rhoE) (c := 38) (zl := eAmp.2) (t' := l.flatMap (esc [eAmp])) hA hU rfl rfl rfl (esc_first _ _ _) (by lia) (by decide) (by decide) ?_ rfl
  refine Ex_cons ?_
  refine Es_esc (ρf := rhoE) (c := 60) (zl := eLt.2) (t' := l.flatMap (esc [eAmp, eLt])) hA hU rfl rfl rfl (esc_snoc (by decide) _) (len _ (by decide)) (by decide) (by decide) ?_ rfl
  refine Ex_cons ?_
  refine Es_esc (ρf := rhoE) (c := 34) (zl := eQuot.2) (t' := l.flatMap (esc [eAmp, eLt, eQuot])) hA hU rfl rfl rfl (esc_snoc (by decide) _) (len _ (by decide)) (by decide) (by decide) ?_ rfl
  refine Ex_cons ?_
  refine Es_esc (ρf := rhoE) (c := 9) (zl := eT9.2) (t' := l.flatMap (esc [eAmp, eLt, eQuot, eT9])) hA hU rfl rfl rfl (esc_snoc (by decide) _) (len _ (by decide)) (by decide) (by decide) ?_ rfl
  refine Ex_cons ?_
  refine Es_esc (ρf := rhoE) (c := 10) (zl := eNA.2) (t' := l.flatMap (esc [eAmp, eLt, eQuot, eT9, eNA])) hA hU rfl rfl rfl (esc_snoc (by decide) _) (len _ (by decide)) (by decide) (by decide) ?_ rfl
  refine Ex_cons ?_
  refine Es_esc (ρf := rhoE) (c := 13) (zl := eRD.2) (t' := l.flatMap (esc [eAmp, eLt, eQuot, eT9, eNA, eRD])) hA hU rfl rfl rfl (esc_snoc (by decide) _) (len _ (by decide)) (by decide) (by decide) ?_ rfl
  refine Ex_cons ?_
  exact Es_ret (Ev_name (hA _)) rfl
theorem cal_esc4 {f : Addr} {fd : FuncData} (F : FnI C 69 f fd) (hlim : C.G.NoLimit) {l : List Nat} (hl : l.length ≤ 100000) : Cal C 1 (.ref f) [.str (txt l)] (.str (txt (l.flatMap (esc esc4)))) := by
  refine Cal_fn (n := 0) (params := ["text"]) (ρ0 := [("text", .loc, none)]) (ρ1 := rhoE (.str (txt l))) F hlim bind_esc4 (fun X h => ?_) ?_ rfl (fun L => vc_esc4 hl) (by walk_at "nd") (by decide +kernel) (by decide +kernel) (by decide +kernel) (by decide +kernel)
  · walk_at "fnr"
  · exact .cons .headL .nil
noncomputable def escs (hand : Int) : List (Nat × List Nat) := if hand = 0 then esc0 else if hand = 1 then esc1 else if hand = 2 then esc2 else if hand = 3 then esc3 else esc4
noncomputable def wr (hand : Int) (l : List Nat) : List Nat := l.flatMap (esc (escs hand))
theorem bind_write (fd : FuncData) (h1 : fd.params = parsAt 71) (h2 : fd.defaults = .none) (h3 : fd.kwdefaults = .none) (vs : List Value) (h : vs.length = (["hand", "text"] : List Str).length) : bindArgs fd ⟨vs, []⟩ = pure ((["hand", "text"] : List Str).zip vs) := by
  refine e2a1 (bind2 h :) fun v1 v2 r2q => ?_; subst r2q
  exact (bind_of h1 h2 h3 _).trans rfl
theorem cal_write {f a0 a1 a2 a3 a4 : Addr} {fd d0 d1 d2 d3 d4 : FuncData} (F : FnI C 71 f fd) (F0 : FnI C 65 a0 d0) (F1 : FnI C 66 a1 d1) (F2 : FnI C 67 a2 d2) (F3 : FnI C 68 a3 d3) (F4 : FnI C 69 a4 d4) (hlim : C.G.NoLimit)
    (g0 : GlobD C "_escape_cdata" (.ref a0)) (g1 : GlobD C "_escape_attrib" (.ref a1)) (g2 : GlobD C "_escape_attrib_html" (.ref a2)) (g3 : GlobD C "_escape_cdata_c14n" (.ref a3)) (g4 : GlobD C "_escape_attrib_c14n" (.ref a4)) {hand : Int} {l : List Nat} (hl : l.length ≤ 100000) :
    Cal C 2 (.ref f) [.int hand, .str (txt l)] (.str (txt (wr hand l))) := by
  refine Cal_fn (n := 1) (params := ["hand", "text"]) (ρ0 := [("hand", .loc, none), ("text", .loc, none), ("_escape_cdata", .glo, some (.ref a0)), ("_escape_attrib", .glo, some (.ref a1)), ("_escape_attrib_html", .glo, some (.ref a2)), ("_escape_cdata_c14n", .glo, some (.ref a3)), ("_escape_attrib_c14n", .glo, some (.ref a4))])
    (ρ1 := [("hand", .loc, some (.int hand)), ("text", .loc, some (.str (txt l))), ("_escape_cdata", .glo, some (.ref a0)), ("_escape_attrib", .glo, some (.ref a1)), ("_escape_attrib_html", .glo, some (.ref a2)), ("_escape_cdata_c14n", .glo, some (.ref a3)), ("_escape_attrib_c14n", .glo, some (.ref a4))]) F hlim bind_write (fun X h => ?_) ?_ rfl (fun L => ?_) (by walk_at "nd") (by decide +kernel) (by decide +kernel) (by decide +kernel) (by decide +kernel)
  · walk_at "fnr"
  · walk_at "v"
  refine Ex_cons ?_
  refine Es_ret (d := .str (txt (wr hand l))) ?_ rfl
  refine Ev_ifexp (b := hand == 0) (by walk_at "v") (fun q => ?_) fun q0 => ?_
  · have e : wr hand l = l.flatMap (esc esc0) := by unfold wr escs; rw [if_pos (by simpa using q)]
    rw [e]
    exact Ev_callF (ds := [.str (txt l)]) (by walk_at "at") F0.fnObj (by walk_at "v") (cal_esc0 F0 hlim hl)
  refine Ev_ifexp (b := hand == 1) (by walk_at "v") (fun q => ?_) fun q1 => ?_
  · have e : wr hand l = l.flatMap (esc esc1) := by unfold wr escs; rw [if_neg (by simpa using q0), if_pos (by simpa using q)]
    rw [e]
    exact Ev_callF (ds := [.str (txt l)]) (by walk_at "at") F1.fnObj (by walk_at "v") (cal_esc1 F1 hlim hl)
  refine Ev_ifexp (b := hand == 2) (by walk_at "v") (fun q => ?_) fun q2 => ?_
  · have e : wr hand l = l.flatMap (esc esc2) := by unfold wr escs; rw [if_neg (by simpa using q0), if_neg (by simpa using q1), if_pos (by simpa using q)]
    rw [e]
    exact Ev_callF (ds := [.str (txt l)]) (by walk_at "at") F2.fnObj (by walk_at "v") (cal_esc2 F2 hlim hl)
  refine Ev_ifexp (b := hand == 3) (by walk_at "v") (fun q => ?_) fun q3 => ?_
  · have e : wr hand l = l.flatMap (esc esc3) := by unfold wr escs; rw [if_neg (by simpa using q0), if_neg (by simpa using q1), if_neg (by simpa using q2), if_pos (by simpa using q)]
    rw [e]
    exact Ev_callF (ds := [.str (txt l)]) (by walk_at "at") F3.fnObj (by walk_at "v") (cal_esc3 F3 hlim hl)
  have e : wr hand l = l.flatMap (esc esc4) := by unfold wr escs; rw [if_neg (by simpa using q0), if_neg (by simpa using q1), if_neg (by simpa using q2), if_neg (by simpa using q3)]
  rw [e]
  exact Ev_callF (ds := [.str (txt l)]) (by walk_at "at") F4.fnObj (by walk_at "v") (cal_esc4 F4 hlim hl)
end
section
open PySem PySem.Calls PySem.W
variable {C : Cx}
noncomputable def rowD (r : List Int) : D := .list (r.map .int)
noncomputable def progL : List (List Int) → List Int → Option (List (List Int))
  | _, [] => some []
  | acc, s :: r =>
    if s = 0 then some acc
    else if 256 ≤ s then (match acc.getLast? with
      | some l => progL (acc.dropLast ++ [l ++ [s - 256]]) r
      | none => none)
    else if s = 20 ∨ s = 21 then progL (acc ++ [[s - 20]]) r
    else if s = 36 ∨ s = 37 then (match acc.getLast? with
      | some l => progL (acc.dropLast ++ [l ++ [s - 36]]) r
      | none => none)
    else progL acc r
noncomputable def Sh (p : Addr) (acc : List (List Int)) (own : Own) : Prop :=
  (acc = [] ∧ own = [(p, [])]) ∨ ∃ init last b, acc = init ++ [last] ∧ own = [(b, last.map .int), (p, init.map rowD ++ [.ref b])]
noncomputable def b20 : List Stmt → List Stmt
  | [_, .For _ _ [_, .If _ _ [.If _ b _ _] _] _ _, _] => b
  | _ => []
noncomputable abbrev rhoP (syms : List Int) (pr sy : Option D) (t1 t2 t3 : Addr) : Rho := [("symbols", .loc, some (.list (syms.map .int))), ("program", .loc, pr), ("symbol", .loc, sy), ("ISEOF", .glo, some (.ref t3)), ("ISNONTERMINAL", .glo, some (.ref t2)), ("ISTERMINAL", .glo, some (.ref t1))]
theorem Ex_freezeSh {n : Nat} {env : Env} {p : Addr} {acc : List (List Int)} {own : Own} {syms : List Int} {sy : Option D} {t1 t2 t3 : Addr} {ss : List Stmt} {K : Out → Prop} (hS : Sh p acc own)
    (h : Ex C n env (rhoP syms (some (.list (acc.map rowD))) sy t1 t2 t3) [] ss K) : Ex C n env (rhoP syms (some (.ref p)) sy t1 t2 t3) own ss K := by
  rcases hS with ⟨rfl, rfl⟩ | ⟨init, last, b, rfl, rfl⟩
  · exact Ex_freeze .head (.skip (.cons .here .same nofun)) .nil h
  · refine Ex_freeze .head .same (.cons (FDs.snoc .here) .nil) ?_
    refine Ex_freeze .head (.skip (.cons .here .same nofun)) .nil ?_
    rw [List.map_append] at h
    exact h
theorem EvA_last {n : Nat} {env : Env} {ρ : Rho} {own : Own} {x : Expr} {b : Bool} (h : EvT C n env ρ own x b) : EvA C n env ρ own .And [x] b := by
  cases b with
  | true => exact .andT h .andNil
  | false => exact .andF h
theorem EvT_termin {n : Nat} {env : Env} {ρ : Rho} {own : Own} {s a b : Int} {t1 : Addr} {p1 p2 p3 p4 p5 p6 p7 p8 p9 : Pos} {k1 k2 k3 : Nat} (a1 : At ρ "ISTERMINAL" (.ref t1)) (a2 : At ρ "symbol" (.int s)) (h1 : FnObj C t1) (c1 : Cal C n (.ref t1) [.int s] (.bool (decide (s < 256)))) (hT : s < 256) :
    EvT C n env ρ own (.BoolOp .And [.Call (.Name "ISTERMINAL" p1) [.Name "symbol" p2] [] p3, .Compare (.Name "symbol" p4) [.In] [.Tuple [.Constant (.int a) k1 p5, .Constant (.int b) k2 p6] k3 p7] p8] p9) ([a, b].any (· == s)) := by
  have h := EvT_boolv (Ev_callF (pos := p3) (p := p1) (ds := [.int s]) a1 h1 (.cons (Ev_name (pos := p2) (own := own) a2) .nil rfl) c1) (env := env)
  have e : decide (s < 256) = true := by simpa using hT
  rw [e] at h
  have h2 : Ev C n env ρ own (.Tuple [.Constant (.int a) k1 p5, .Constant (.int b) k2 p6] k3 p7) (.tuple ([a, b].map .int)) := Ev_tuple (.cons Ev_int (.cons Ev_int .nil rfl) rfl) (by simp)
  exact EvT_bool (.andT h (EvA_last (EvT_cmp (Ev_name a2) h2 op_inT rfl)))
set_option maxHeartbeats 1000000 in
theorem vc_program {n : Nat} {env : Env} {syms : List Int} {res : List (List Int)} {t1 t2 t3 : Addr} (hr : progL [] syms = some res) (h1 : FnObj C t1) (h2 : FnObj C t2) (h3 : FnObj C t3) (hz : syms.length ≤ 100000)
    (c1 : ∀ x : Int, Cal C n (.ref t1) [.int x] (.bool (decide (x < 256)))) (c2 : ∀ x : Int, Cal C n (.ref t2) [.int x] (.bool (decide (256 ≤ x)))) (c3 : ∀ x : Int, Cal C n (.ref t3) [.int x] (.bool (x == 0))) :
    Ex C n env (rhoP syms none none t1 t2 t3) [] (bodyAt 74) fun o => match o with | .ret d' _ => d' = .list (res.map rowD) | .next _ _ => D.list (res.map rowD) = .none := by
  refine Ex_cons ?_
  apply Es_setN
  case he => exact EvN_list .nil
  case hu => intro p; walk_at "up"
  case hs => rfl
  intro p
  refine Ex_cons ?_
  refine Es_for (EvI_list (Ev_name (d := .list (syms.map .int)) (by walk_at "at"))) (fun i ρ own => ∃ acc sy, progL acc (syms.drop i) = some res ∧ Sh p acc own ∧ acc.length ≤ i ∧ (∀ r ∈ acc, r.length ≤ i) ∧ ρ = rhoP syms (some (.ref p)) sy t1 t2 t3) ?_ ?_ ?_
  · exact ⟨[], none, hr, .inl ⟨rfl, rfl⟩, Nat.zero_le _, nofun, rfl⟩
  · intro i ρ own d hd w1q; refine e2a5 (w1q :) fun acc sy hp hS hl hrl r3q => ?_; clear w1q; subst r3q
    rw [List.getElem?_map] at hd
    have hi : i < syms.length := by
      rcases Nat.lt_or_ge i syms.length with q | q
      · exact q
      · rw [List.getElem?_eq_none q] at hd; cases hd
    rw [List.getElem?_eq_getElem hi] at hd
    cases hd
    rw [List.drop_eq_getElem_cons hi] at hp
    generalize syms[i] = s at *
    refine ⟨_, .name (by walk_at "up"), ?_⟩
    unfold progL at hp
    have fin : ∀ acc', progL acc' (syms.drop (i + 1)) = some res → ∀ own', Sh p acc' own' → acc'.length ≤ i + 1 → (∀ r ∈ acc', r.length ≤ i + 1) → ∃ acc sy, progL acc (syms.drop (i + 1)) = some res ∧ Sh p acc own' ∧ acc.length ≤ i + 1 ∧ (∀ r ∈ acc, r.length ≤ i + 1) ∧ rhoP syms (some (.ref p)) (some (.int s)) t1 t2 t3 = rhoP syms (some (.ref p)) sy t1 t2 t3 :=
      fun acc' h1 own' h2 h3 h4 => ⟨acc', _, h1, h2, h3, h4, rfl⟩
    refine Ex_cons ?_
    apply Es_ifB (P := s = 0)
    · exact EvT_boolv (Ev_callF (ds := [.int s]) (by walk_at "at") h3 (by walk_at "v") (c3 s))
    · simp
    · intro hs0
      rw [if_pos hs0] at hp
      cases hp
      refine Ex_freezeSh (syms := syms) hS ?_
      refine Ex_cons ?_
      exact Es_ret (Ev_name (by walk_at "at")) rfl
    · intro hs0
      rw [if_neg hs0] at hp
      refine Ex_nil ?_
      refine Ex_cons ?_
      apply Es_ifB (P := 256 ≤ s)
      · exact EvT_boolv (Ev_callF (ds := [.int s]) (by walk_at "at") h2 (by walk_at "v") (c2 s))
      · simp
      · intro hge
        rw [if_pos hge] at hp
        rcases hS with ⟨rfl, rfl⟩ | ⟨init, last, b, rfl, rfl⟩
        · cases hp
        · rw [List.getLast?_concat] at hp
          simp only [List.dropLast_concat] at hp
          have hlen : (init.map rowD ++ [D.ref b]).length = init.length + 1 := by simp
          have hil : init.length + 1 ≤ i := by simpa using hl
          have hll : last.length ≤ i := hrl last (by simp)
          refine Ex_cons ?_
          refine Es_append (a := b) (ds0 := last.map .int) (Ev_subONeg (a := p) (ds := init.map rowD ++ [.ref b]) (k := -1) (by walk_at "v") (by walk_at "v") (.tail .head) (by decide) (by rw [hlen]; lia) (by decide) ?_ (fun _ _ => rfl)) .head rfl (EvW_pure (d := .int (s - 256)) (by walk_at "v") ⟨last.map .int, [(b, (last ++ [s - 256]).map .int), (p, init.map rowD ++ [.ref b])], ?_, by simp; lia, ?_⟩) rfl rfl
          · have : (-1 + ((init.map rowD ++ [D.ref b]).length : Int)).toNat = init.length := by rw [hlen]; lia
            rw [this]; simp
          · rw [List.map_append]; exact .head
          · refine Ex_nil (Ex_nil ?_)
            refine fin _ hp _ (.inr ⟨init, _, b, rfl, rfl⟩) (by simp; exact Nat.le_of_lt hil) fun r hr' => ?_
            rcases List.mem_append.mp hr' with q | q
            · exact Nat.le_succ_of_le (hrl r (List.mem_append_left _ q))
            · rw [List.mem_singleton.mp q]; simp; exact hll
      · intro hlt
        rw [if_neg hlt] at hp
        have hT : s < 256 := by lia
        refine Ex_cons ?_
        apply Es_ifB (P := s = 20 ∨ s = 21) (b := [20, 21].any (· == s))
        · exact EvT_termin (by walk_at "at") (by walk_at "at") h1 (c1 s) hT
        · simp; lia
        · intro h20
          rw [if_pos h20] at hp
          have app : ∀ own' : Own, own' = [(p, acc.map rowD)] → Ex C n env (rhoP syms (some (.ref p)) (some (.int s)) t1 t2 t3) own' (b20 (bodyAt 74)) (fun o => match o with | .next ρ' own' => (∃ acc sy, progL acc (syms.drop (i + 1)) = some res ∧ Sh p acc own' ∧ acc.length ≤ i + 1 ∧ (∀ r ∈ acc, r.length ≤ i + 1) ∧ ρ' = rhoP syms (some (.ref p)) sy t1 t2 t3) | .ret d o => d = .list (res.map rowD)) := by
            intro own' ho
            subst ho
            refine Ex_cons ?_
            refine Es_append (a := p) (ds0 := acc.map rowD) (by walk_at "v") .head rfl (EvW_new (ds := [.int (s - 20)]) (EvN_list (.cons (by walk_at "v") .nil rfl)) fun b => ⟨acc.map rowD, [(b, [s - 20].map .int), (p, acc.map rowD ++ [.ref b])], .tail .head, by simp; lia, ?_⟩) rfl rfl
            refine Ex_nil ?_
            refine fin _ hp _ (.inr ⟨acc, _, b, rfl, rfl⟩) (by simp; exact hl) fun r hr' => ?_
            rcases List.mem_append.mp hr' with q | q
            · exact Nat.le_succ_of_le (hrl r q)
            · rw [List.mem_singleton.mp q]; simp
          rcases hS with ⟨rfl, rfl⟩ | ⟨init, last, b, rfl, rfl⟩
          · refine Ex_mono (app _ rfl) fun o ho => ?_
            cases o with
            | next => exact Ex_nil (Ex_nil ho)
            | ret => exact ho
          · refine Ex_freeze .head .same (.cons (FDs.snoc .here) .nil) ?_
            refine Ex_mono (app _ (by rw [List.map_append]; rfl)) fun o ho => ?_
            cases o with
            | next => exact Ex_nil (Ex_nil ho)
            | ret => exact ho
        · intro h20
          rw [if_neg h20] at hp
          refine Ex_cons ?_
          apply Es_ifB (P := s = 36 ∨ s = 37) (b := [36, 37].any (· == s))
          · exact EvT_termin (by walk_at "at") (by walk_at "at") h1 (c1 s) hT
          · simp; lia
          · intro h36
            rw [if_pos h36] at hp
            rcases hS with ⟨rfl, rfl⟩ | ⟨init, last, b, rfl, rfl⟩
            · cases hp
            · rw [List.getLast?_concat] at hp
              simp only [List.dropLast_concat] at hp
              have hlen : (init.map rowD ++ [D.ref b]).length = init.length + 1 := by simp
              have hil : init.length + 1 ≤ i := by simpa using hl
              have hll : last.length ≤ i := hrl last (by simp)
              refine Ex_cons ?_
              refine Es_append (a := b) (ds0 := last.map .int) (Ev_subONeg (a := p) (ds := init.map rowD ++ [.ref b]) (k := -1) (by walk_at "v") (by walk_at "v") (.tail .head) (by decide) (by rw [hlen]; lia) (by decide) ?_ (fun _ _ => rfl)) .head rfl (EvW_pure (d := .int (s - 36)) (by walk_at "v") ⟨last.map .int, [(b, (last ++ [s - 36]).map .int), (p, init.map rowD ++ [.ref b])], ?_, by simp; lia, ?_⟩) rfl rfl
              · have : (-1 + ((init.map rowD ++ [D.ref b]).length : Int)).toNat = init.length := by rw [hlen]; lia
                rw [this]; simp
              · rw [List.map_append]; exact .head
              · refine Ex_nil (Ex_nil (Ex_nil (Ex_nil ?_)))
                refine fin _ hp _ (.inr ⟨init, _, b, rfl, rfl⟩) (by simp; exact Nat.le_of_lt hil) fun r hr' => ?_
                rcases List.mem_append.mp hr' with q | q
                · exact Nat.le_succ_of_le (hrl r (List.mem_append_left _ q))
                · rw [List.mem_singleton.mp q]; simp; exact hll
          · intro h36
            rw [if_neg h36] at hp
            refine Ex_nil (Ex_nil (Ex_nil (Ex_nil ?_)))
            exact fin _ hp _ hS (by exact Nat.le.step hl) fun r hr' => Nat.le_succ_of_le (hrl r hr')
  · intro ρ own w2q; refine e2a5 (w2q :) fun acc sy hp hS hl hrl r4q => ?_; clear w2q; subst r4q
    have hd : (syms.map D.int).length = syms.length := by simp
    rw [hd, List.drop_length] at hp
    unfold progL at hp
    cases hp
    refine Ex_cons ?_
    exact Es_ret (Ev_list .nil) rfl
end
section
open PySem PySem.Calls PySem.W
variable {C : Cx}
theorem CompR_map {n : Nat} {cenv : Env} {ρc : Rho} {own : Own} {target elt : Expr} {ifs : List Expr} {α : Type} (f g : α → D) : ∀ l : List α, (∀ a ∈ l, Trn C n cenv ρc own target elt ifs (f a) (some (g a))) → CompR C n cenv ρc own target elt ifs (l.map f) (l.map g)
  | [], _ => .nil
  | a :: r, h => .keep (h a List.mem_cons_self) (CompR_map f g r fun b hb => h b (List.mem_cons_of_mem _ hb))
theorem CompR_filter {n : Nat} {cenv : Env} {ρc : Rho} {own : Own} {target elt : Expr} {ifs : List Expr} {α : Type} (f g : α → D) (p : α → Bool) : ∀ l : List α, (∀ a ∈ l, p a = true → Trn C n cenv ρc own target elt ifs (f a) (some (g a))) → (∀ a ∈ l, p a = false → Trn C n cenv ρc own target elt ifs (f a) none) →
    CompR C n cenv ρc own target elt ifs (l.map f) ((l.filter p).map g)
  | [], _, _ => .nil
  | a :: r, h1, h2 => by
    have ih := CompR_filter f g p r (fun b hb => h1 b (List.mem_cons_of_mem _ hb)) fun b hb => h2 b (List.mem_cons_of_mem _ hb)
    rw [List.filter_cons]
    cases hp : p a with
    | true => exact .keep (h1 a List.mem_cons_self hp) ih
    | false => exact .skip (h2 a List.mem_cons_self hp) ih
noncomputable def at0 (r : List Int) (k : Nat) : Int := r.getD k 0
noncomputable def markD (rows : List (List Int)) (c : Int) : List Int := rows.map fun r => if at0 r 0 = c then 1 else 0
noncomputable def numbersL (w : Nat) (rows : List (List Int)) : List Int := (List.range 7).map (fun c : Nat => valL w (markD rows (c : Int))) ++ [1, 2].map fun k => valL w (rows.map fun r => at0 r k)
noncomputable abbrev rhoN (rows : List (List Int)) (w : Nat) (marks : Option D) : Rho := [("rows", .cel, some (.list (rows.map rowD))), ("width", .cel, some (.int w)), ("marks", .loc, marks), ("range", .glo, some (.val (.type "range")))]
set_option maxHeartbeats 400000 in
theorem vc_numbers {n : Nat} {env : Env} {rows : List (List Int)} {w : Nat} {f5 : Addr} (h5 : FnObj C f5) (g5 : GlobD C "_digits2int" (.ref f5)) (hr : ∀ r ∈ rows, 3 ≤ r.length ∧ r.length ≤ 1000) (hz : rows.length ≤ 1000)
    (c5 : ∀ ds : List Int, ds.length = rows.length → (∀ d ∈ ds, d = 0 ∨ d = 1 ∨ ∃ r ∈ rows, d = at0 r 1 ∨ d = at0 r 2) → Cal C n (.ref f5) [.list (ds.map .int), .int w] (.int (valL w ds))) :
    Ex C n env (rhoN rows w none) [] (bodyAt 76) fun o => match o with | .ret d' _ => d' = .list ((numbersL w rows).map .int) | .next _ _ => False := by
  have hrow : ∀ r ∈ rows, ∀ k : Nat, k < 3 → (r.map D.int)[k]? = some (.int (at0 r k)) := fun r hm k hk => by
    have : k < r.length := Nat.lt_of_lt_of_le hk (hr r hm).1
    simp [at0, this]
  refine Ex_cons ?_
  refine Es_setComp (ds := rngD 7) (fs := (List.range 7).map fun c : Nat => .int (valL w (markD rows (c : Int)))) [("code", .cel, none), ("_digits2int", .glo, some (.ref f5)), ("rows", .cap, some (.list (rows.map rowD))), ("width", .cap, some (.int w))]
    (EvI_range (k := 7) (by walk_at "at") (by walk_at "v") rfl (by decide) (by decide)) (by walk_at "comps") (fun L cells => ?_) (by simp; decide) (ρ' := rhoN rows w (some (.list ((List.range 7).map fun c : Nat => .int (valL w (markD rows (c : Int))))))) ?_ ?_ ?_ ?_
  · refine CompR_map (α := Nat) (fun c => D.int (c : Int)) (fun c => D.int (valL w (markD rows (c : Int)))) (List.range 7) fun c hc => ?_
    refine ⟨_, .name (by walk_at "up"), .lose (.same (.same (.same .nil))), .nil, ?_⟩
    refine Ev_callF (f := f5) (ds := [.list ((markD rows c).map .int), .int w]) (by walk_at "at") h5 (.cons ?_ (.cons (by walk_at "v") .nil rfl) rfl) (c5 _ (by simp [markD]) fun d hd => ?_)
    · refine Ev_new ?_
      have e : (markD rows c).map D.int = rows.map fun r => D.int (if at0 r 0 = (c : Int) then 1 else 0) := by simp [markD]
      rw [e]
      refine EvN_comp (frozen := true) (ds := rows.map rowD) [("row", .loc, none), ("code", .cap, some (.int c))] (EvI_list (Ev_name (by walk_at "at"))) (by walk_at "comps") (fun L2 cells2 => ?_) (by simp; exact Nat.le_trans hz (by decide))
      refine CompR_map rowD (fun r => D.int (if at0 r 0 = (c : Int) then 1 else 0)) rows fun r hm => ?_
      refine ⟨_, .name (by walk_at "up"), .lose (.same .nil), .nil, ?_⟩
      refine Ev_ifexp (b := at0 r 0 == (c : Int)) (EvT_cmp (d1 := .int (at0 r 0)) (d2 := .int c) ?_ (by walk_at "v") op_eq rfl) (fun q => ?_) fun q => ?_
      · exact Ev_sub (d1 := rowD r) (d2 := .int 0) (by walk_at "v") (by walk_at "v") (it_list (by decide) (by decide) (hrow r hm 0 (by decide))) (fun _ _ => rfl)
      · rw [if_pos (by simpa using q)]; exact Ev_int
      · rw [if_neg (by simpa using q)]; exact Ev_int
    · unfold markD at hd
      refine e1a2 (List.mem_map.mp hd :) fun r hm r2q => ?_; subst r2q
      split
      · exact .inr (.inl rfl)
      · exact .inl rfl
  · walk_at "up"
  · exact ⟨_, by simp; rfl⟩
  · refine Ex_cons ?_
    refine Es_ret (d := .list ((numbersL w rows).map .int)) ?_ rfl
    have e : (numbersL w rows).map D.int = ((List.range 7).map fun c : Nat => D.int (valL w (markD rows (c : Int)))) ++ ([1, 2].map fun k : Nat => D.int (valL w (rows.map fun r => at0 r k))) := by simp [numbersL]
    rw [e]
    refine Ev_bin (by walk_at "v") (Ev_new ?_) (op_addL (by simp; decide))
    refine EvN_comp (frozen := true) (ds := [1, 2].map fun k : Nat => D.int k) [("k", .cel, none), ("_digits2int", .glo, some (.ref f5)), ("rows", .cap, some (.list (rows.map rowD))), ("width", .cap, some (.int w))] (EvI_tuple ?_) (by walk_at "comps") (fun L cells => ?_) (by simp; decide)
    · show Ev C n env _ _ _ (.tuple [.int 1, .int 2])
      walk_at "v"
    refine CompR_map (α := Nat) (fun k => D.int (k : Int)) (fun k => D.int (valL w (rows.map fun r => at0 r k))) [1, 2] fun k hk => ?_
    have hk3 : k < 3 := by simp at hk; lia
    have hk0 : ((k : Int)).toNat = k := by exact rfl
    refine ⟨_, .name (by walk_at "up"), .lose (.same (.same (.same .nil))), .nil, ?_⟩
    refine Ev_callF (f := f5) (ds := [.list ((rows.map fun r => at0 r k).map .int), .int w]) (by walk_at "at") h5 (.cons ?_ (.cons (by walk_at "v") .nil rfl) rfl) (c5 _ (by simp) fun d hd => ?_)
    · refine Ev_new ?_
      rw [List.map_map]
      refine EvN_comp (frozen := true) (ds := rows.map rowD) [("row", .loc, none), ("k", .cap, some (.int k))] (EvI_list (Ev_name (by walk_at "at"))) (by walk_at "comps") (fun L2 cells2 => ?_) (by simp; exact Nat.le_trans hz (by decide))
      refine CompR_map rowD (fun r => D.int (at0 r k)) rows fun r hm => ?_
      refine ⟨_, .name (by walk_at "up"), .lose (.same .nil), .nil, ?_⟩
      exact Ev_sub (d1 := rowD r) (d2 := .int k) (by walk_at "v") (by walk_at "v") (it_list (by exact Int.natCast_nonneg k) (by lia) (by rw [hk0]; exact hrow r hm k hk3)) (fun _ _ => rfl)
    · refine e1a2 (List.mem_map.mp hd :) fun r hm r2q => ?_; subst r2q
      refine .inr (.inr ⟨r, hm, ?_⟩)
      simp at hk
      rcases hk with rfl | rfl
      · exact .inl rfl
      · exact .inr rfl
  · rfl
end
section
open PySem PySem.Builtin PySem.Builtin.Str
theorem slice_eq (x : Str) (l u : Option Int) : Txt.slice x l u = StrLaws.sliceText x l u := rfl
theorem clip_idx (a : Int) (b : Option Int) (n : Nat) (h0 : 0 ≤ a) (hb : ∀ j, b = some j → 0 ≤ j) : strSliceIndices (some a) b 1 n = strSliceIndices (some (min a n)) (some (match b with | some j => min j n | none => (n : Int))) 1 n := by
  unfold strSliceIndices
  have h1 : (1 : Int) > 0 := by decide
  have na : ¬ a < 0 := by lia
  have nm : ¬ (min a (n : Int)) < 0 := by lia
  cases b with
  | none =>
    simp only [h1, if_true, if_neg na, if_neg nm]
    have nn : ¬ ((n : Int) < 0) := by lia
    rw [if_neg nn]
    congr 1 <;> first | exact clipE _ _ | lia
  | some j =>
    have hj := hb j rfl
    have nj : ¬ j < 0 := by lia
    have nk : ¬ (min j (n : Int)) < 0 := by lia
    simp only [h1, if_true, if_neg na, if_neg nm, if_neg nj, if_neg nk]
    congr 1 <;> exact clipE _ _
theorem slice_txt (l : List Nat) (a b : Nat) (hab : a ≤ b) : Txt.slice (txt l) (some (a : Int)) (some (b : Int)) = txt ((l.drop a).take (b - a)) := by
  have hl : (txt l).length = l.length := txt_len l
  have e : Txt.slice (txt l) (some (a : Int)) (some (b : Int)) = StrLaws.sliceText (txt l) (some ((min a l.length : Nat) : Int)) (some ((min b l.length : Nat) : Int)) := by
    rw [slice_eq]
    unfold StrLaws.sliceText
    rw [clip_idx _ _ _ (by exact Int.natCast_nonneg a) (by intro j hj; cases hj; exact Int.natCast_nonneg b)]
    rw [hl]
    have e1 : min (a : Int) (l.length : Int) = ((min a l.length : Nat) : Int) := by lia
    have e2 : min (b : Int) (l.length : Int) = ((min b l.length : Nat) : Int) := by lia
    simp only [e1, e2]
  rw [e, StrLaws.sliceText_nat _ (Nat.le_min.mpr ⟨Nat.le_trans (Nat.min_le_left _ _) hab, Nat.min_le_right _ _⟩) (by rw [hl]; exact Nat.min_le_right b l.length), txt_list]
  show txt _ = txt _
  congr 1
  rcases Nat.le_total a l.length with h | h
  · rw [Nat.min_eq_left h]
    rcases Nat.le_total b l.length with h2 | h2
    · rw [Nat.min_eq_left h2]
    · rw [Nat.min_eq_right h2, List.take_of_length_le (by simp), List.take_of_length_le (by simp; lia)]
  · rw [Nat.min_eq_right h, List.drop_of_length_le (Nat.le_refl _), List.drop_of_length_le h]; simp
theorem slice_from (l : List Nat) (a : Nat) : Txt.slice (txt l) (some (a : Int)) none = txt (l.drop a) := by
  have hl : (txt l).length = l.length := txt_len l
  have e : Txt.slice (txt l) (some (a : Int)) none = StrLaws.sliceText (txt l) (some ((min a l.length : Nat) : Int)) (some ((l.length : Nat) : Int)) := by
    rw [slice_eq]
    unfold StrLaws.sliceText
    rw [clip_idx (a : Int) none _ (by exact Int.natCast_nonneg a) (by intro j hj; cases hj)]
    have e1 : min (a : Int) (l.length : Int) = ((min a l.length : Nat) : Int) := by lia
    simp only [hl, e1]
  rw [e, StrLaws.sliceText_nat _ (by exact Nat.min_le_right a l.length) (by rw [hl]; exact Nat.le_refl l.length), txt_list]
  show txt _ = txt _
  congr 1
  rcases Nat.le_total a l.length with h | h
  · rw [Nat.min_eq_left h]
    exact List.take_of_length_le (by simp)
  · rw [Nat.min_eq_right h, List.drop_of_length_le (Nat.le_refl _), List.drop_of_length_le h]; simp
theorem slice_to (l : List Nat) (b : Nat) : Txt.slice (txt l) none (some (b : Int)) = txt (l.take b) := by
  have e : Txt.slice (txt l) none (some (b : Int)) = Txt.slice (txt l) (some ((0 : Nat) : Int)) (some (b : Int)) := by
    rw [slice_eq, slice_eq]
    unfold StrLaws.sliceText
    rw [StrLaws.sliceIdx_none_lo]; rfl
  rw [e, slice_txt _ _ _ (by exact Nat.zero_le b)]
  simp
noncomputable def amps (k : Nat) : List Nat := (List.replicate k [97, 109, 112, 59]).flatten
noncomputable def tx (k : Nat) : List Nat := 38 :: amps k
theorem amps_succ (k : Nat) : amps (k + 1) = [97, 109, 112, 59] ++ amps k := by simp [amps, List.replicate_succ]
theorem amps_len (k : Nat) : (amps k).length = 4 * k := by
  induction k with
  | zero => rfl
  | succ k ih => rw [amps_succ, List.length_append, ih]; simp; exact Nat.add_comm 4 (4 * k)
theorem tx_len (k : Nat) : (tx k).length = 4 * k + 1 := by simp [tx, amps_len]
theorem tx_drop (k : Nat) : (tx (k + 1)).drop 5 = amps k := by rw [tx, amps_succ]; rfl
theorem mul_amp (k : Nat) : Txt.mul (txt [97, 109, 112, 59]) (k : Int) = txt (amps k) := by
  unfold Txt.mul
  by_cases h1 : (k : Int) < 1
  · have : k = 0 := by lia
    subst this
    rw [if_pos h1]; rfl
  · rw [if_neg h1]
    have hl : ((txt [97, 109, 112, 59]).length == 0) = false := rfl
    by_cases h2 : k = 1
    · subst h2
      rw [if_pos (by simp)]; rfl
    · have : ((k : Int) == 1 || (txt [97, 109, 112, 59]).length == 0) = false := by
        rw [hl, Bool.or_false]; simp; lia
      rw [if_neg (by rw [this]; exact Bool.false_ne_true)]
      have htn : ((k : Int)).toNat = k := by exact rfl
      rw [htn]
      have key : ∀ (k : Nat) (acc : Array Nat), ((List.replicate k (txt [97, 109, 112, 59]).cps).foldl (· ++ ·) acc) = acc ++ (amps k).toArray := by
        intro k
        induction k with
        | zero => intro acc; simp [amps]
        | succ k ih => intro acc; rw [List.replicate_succ, List.foldl_cons, ih, amps_succ]; simp [txt]
      rw [key]; simp [txt]
theorem amps_esc (ps : List (Nat × List Nat)) (h : [97, 109, 112, 59].flatMap (esc ps) = [97, 109, 112, 59]) : ∀ k, (amps k).flatMap (esc ps) = amps k
  | 0 => rfl
  | k + 1 => by rw [amps_succ, List.flatMap_append, h, amps_esc ps h k]
end
section
open PySem PySem.Calls PySem.W
variable {C : Cx}
set_option genSizeOf false in
set_option genInjectivity false in
structure Fg where
  when_ : Int
  kind : Int
  value : Int
noncomputable def prow (prog : List (List Int)) (line : Nat) : List Int := (prog ++ [[0, 1, 3]]).getD line []
noncomputable def forgeL (fg : Fg) (tick line : Nat) : Nat := if (tick : Int) = fg.when_ ∧ fg.kind = 0 then fg.value.toNat else line
noncomputable def forgeH (fg : Fg) (tick : Nat) (hs : List Nat) : List Nat := if (tick : Int) = fg.when_ ∧ fg.kind = 0 then hs else if (tick : Int) = fg.when_ ∧ fg.kind < 3 then hs.set (fg.kind - 1).toNat fg.value.toNat else hs
noncomputable def emptyOf (prog : List (List Int)) (line : Nat) (hs : List Nat) : Bool := hs.getD (at0 (prow prog line) 0).toNat 0 == 0
noncomputable def firstOf (prog : List (List Int)) (line : Nat) (hs : List Nat) : Int := if line = 3 then 6 else 2 * (line : Int) + (if emptyOf prog line hs then 1 else 0)
noncomputable def rowOf (prog : List (List Int)) (fg : Fg) (tick line : Nat) (hs : List Nat) : List Int :=
  (if (tick : Int) = fg.when_ ∧ fg.kind = 3 ∧ line < 3 then Builtin.bitXor (firstOf prog line hs) 1 else firstOf prog line hs) :: hs.map fun k : Nat => (k : Int)
noncomputable def nextL (prog : List (List Int)) (line : Nat) (hs : List Nat) : Nat := if emptyOf prog line hs then ((prow prog line).getLastD 0).toNat else (at0 (prow prog line) 2).toNat
noncomputable def nextH (prog : List (List Int)) (line : Nat) (hs : List Nat) : List Nat :=
  let r0 := (at0 (prow prog line) 0).toNat
  if line < 3 ∧ at0 (prow prog line) 1 = 0 then hs.set r0 (hs.getD r0 0 + 1) else if line < 3 ∧ emptyOf prog line hs = false then hs.set r0 (hs.getD r0 0 - 1) else hs
noncomputable def runL (prog : List (List Int)) (fg : Fg) : Nat → Nat → Nat → List Nat → List (List Int)
  | 0, _, _, _ => []
  | k + 1, tick, line, hs =>
    let l := forgeL fg tick line
    let h := forgeH fg tick hs
    rowOf prog fg tick l h :: runL prog fg k (tick + 1) (nextL prog l h) (nextH prog l h)
structure GoodRow (r : List Int) : Prop where
  len : r.length = 3 ∨ r.length = 4
  r0 : 0 ≤ at0 r 0 ∧ at0 r 0 ≤ 1
  goals : ∀ k, 2 ≤ k → k < r.length → 0 ≤ at0 r k ∧ at0 r k ≤ 3
structure GoodP (prog : List (List Int)) : Prop where
  len : prog.length = 3
  rows : ∀ r ∈ prog, GoodRow r
theorem GoodP.row {prog : List (List Int)} (G : GoodP prog) {line : Nat} (h : line ≤ 3) : GoodRow (prow prog line) ∧ (prog ++ [[0, 1, 3]])[line]? = some (prow prog line) := by
  have hl : line < (prog ++ [[0, 1, 3]]).length := by simp [G.len]; lia
  have e : (prog ++ [[0, 1, 3]])[line]? = some (prow prog line) := by
    unfold prow
    rw [List.getD_eq_getElem?_getD, List.getElem?_eq_getElem hl]; rfl
  refine ⟨?_, e⟩
  have hm := List.mem_of_getElem? e
  rcases List.mem_append.mp hm with q | q
  · exact G.rows _ q
  · rw [List.mem_singleton.mp q]
    refine ⟨.inl rfl, by decide, fun k h2 h3 => ?_⟩
    have : k = 2 := by simp at h3; lia
    subst this
    decide
structure GoodF (fg : Fg) : Prop where
  kind : 0 ≤ fg.kind ∧ fg.kind ≤ 3
  value : 0 ≤ fg.value ∧ fg.value ≤ 3
theorem forgeL_le {fg : Fg} (F : GoodF fg) {tick line : Nat} (h : line ≤ 3) : forgeL fg tick line ≤ 3 := by
  unfold forgeL; have := F.value; split <;> lia
theorem forgeH_len {fg : Fg} {tick : Nat} {hs : List Nat} : (forgeH fg tick hs).length = hs.length := by
  unfold forgeH; split; · rfl
  split <;> simp
theorem forgeH_le {fg : Fg} (F : GoodF fg) {tick B : Nat} {hs : List Nat} (hB : 3 ≤ B) (h : ∀ k ∈ hs, k ≤ B) : ∀ k ∈ forgeH fg tick hs, k ≤ B := by
  unfold forgeH
  have := F.value
  split
  · exact h
  split
  · intro k hk
    rcases List.mem_or_eq_of_mem_set hk with q | q
    · exact h k q
    · lia
  · exact h
theorem nextL_le {prog : List (List Int)} (G : GoodP prog) {line : Nat} {hs : List Nat} (h : line ≤ 3) : nextL prog line hs ≤ 3 := by
  refine e0a2 (G.row h :) fun R _ => ?_
  have h3 := R.goals 2 (by decide) (by rcases R.len with q | q <;> lia)
  unfold nextL
  split
  · have e : (prow prog line).getLastD 0 = at0 (prow prog line) ((prow prog line).length - 1) := by
      unfold at0
      rw [List.getLastD_eq_getLast?, List.getLast?_eq_getElem?, List.getD_eq_getElem?_getD]
    have := R.goals ((prow prog line).length - 1) (by rcases R.len with q | q <;> lia) (by rcases R.len with q | q <;> lia)
    rw [e]; lia
  · lia
theorem nextH_len {prog : List (List Int)} {line : Nat} {hs : List Nat} : (nextH prog line hs).length = hs.length := by
  unfold nextH
  dsimp only
  split
  · simp
  split <;> simp
theorem nextH_le {prog : List (List Int)} {line B : Nat} {hs : List Nat} (h : ∀ k ∈ hs, k ≤ B) : ∀ k ∈ nextH prog line hs, k ≤ B + 1 := by
  have hg : ∀ i, hs.getD i 0 ≤ B := fun i => by
    rw [List.getD_eq_getElem?_getD]
    cases e : hs[i]? with
    | none => exact Nat.zero_le _
    | some k => exact h k (List.mem_of_getElem? e)
  unfold nextH
  dsimp only
  split
  · intro k hk
    rcases List.mem_or_eq_of_mem_set hk with q | q
    · exact Nat.le_succ_of_le (h k q)
    · have := hg (at0 (prow prog line) 0).toNat; lia
  split
  · intro k hk
    rcases List.mem_or_eq_of_mem_set hk with q | q
    · exact Nat.le_succ_of_le (h k q)
    · have := hg (at0 (prow prog line) 0).toNat; lia
  · exact fun k hk => Nat.le_succ_of_le (h k hk)
structure TokT (ex : Str → Option Int) : Prop where
  amp : ex (txt [38]) ≠ some 13
  a : ex (txt [97]) = none
  m : ex (txt [109]) = none
  p : ex (txt [112]) = none
  semi : ex (txt [59]) = some 13
noncomputable def isSemi (ex : Str → Option Int) (c : Nat) : Bool := ex (txt [c]) == some 13
theorem semi_amps {ex : Str → Option Int} (T : TokT ex) : ∀ k, ((amps k).filter (isSemi ex)).length = k
  | 0 => rfl
  | k + 1 => by
    rw [amps_succ, List.filter_append, List.length_append, semi_amps T k]
    have h : [97, 109, 112, 59].filter (isSemi ex) = [59] := by simp [isSemi, List.filter, T.a, T.m, T.p, T.semi]
    rw [h]; simp; exact Nat.add_comm 1 k
theorem semi_tx {ex : Str → Option Int} (T : TokT ex) (k : Nat) : ((tx k).filter (isSemi ex)).length = k := by
  unfold tx
  have : isSemi ex 38 = false := by unfold isSemi; simpa using T.amp
  rw [List.filter_cons, this, if_neg Bool.false_ne_true, semi_amps T]
theorem wr_tx (hand : Int) (k : Nat) : wr hand (tx k) = tx (k + 1) := by
  unfold wr tx
  rw [List.flatMap_cons]
  have h : ∀ ps : List (Nat × List Nat), esc ps 38 = [38, 97, 109, 112, 59] → [97, 109, 112, 59].flatMap (esc ps) = [97, 109, 112, 59] → esc ps 38 ++ (amps k).flatMap (esc ps) = 38 :: amps (k + 1) := fun ps h1 h2 => by
    rw [h1, amps_esc ps h2, amps_succ]; rfl
  unfold escs
  split
  · exact h _ rfl rfl
  split
  · exact h _ rfl rfl
  split
  · exact h _ rfl rfl
  split
  · exact h _ rfl rfl
  · exact h _ rfl rfl
end
section
open PySem PySem.Calls PySem.W PySem.Builtin PySem.Builtin.Str
variable {C : Cx}
theorem EvT_and2 {n : Nat} {env : Env} {ρ : Rho} {own : Own} {x y : Expr} {pos : Pos} {b1 b2 : Bool} (h1 : EvT C n env ρ own x b1) (h2 : EvT C n env ρ own y b2) : EvT C n env ρ own (.BoolOp .And [x, y] pos) (b1 && b2) := by
  cases b1 with
  | true => exact EvT_bool (.andT h1 (EvA_last h2))
  | false => exact EvT_bool (.andF h1)
theorem EvT_and3 {n : Nat} {env : Env} {ρ : Rho} {own : Own} {x y z : Expr} {pos : Pos} {b1 b2 b3 : Bool} (h1 : EvT C n env ρ own x b1) (h2 : EvT C n env ρ own y b2) (h3 : EvT C n env ρ own z b3) : EvT C n env ρ own (.BoolOp .And [x, y, z] pos) (b1 && b2 && b3) := by
  cases b1 with
  | true =>
    cases b2 with
    | true => exact EvT_bool (.andT h1 (.andT h2 (EvA_last h3)))
    | false => exact EvT_bool (.andT h1 (.andF h2))
  | false => exact EvT_bool (.andF h1)
theorem mulOk_amp {k : Nat} (hk : k ≤ 1000) : MulOk (txt [97, 109, 112, 59]) (k : Int) := by
  have hl : (txt [97, 109, 112, 59]).length = 4 := rfl
  refine ⟨?_, fun h _ => ?_, fun _ _ => ?_⟩
  · simp; lia
  · rw [hl]
    have h1 : 1 ≤ (k : Int) := by lia
    have : (4 : Int) ≤ (2 ^ 63 - 1) / k := by
      rw [Int.le_ediv_iff_mul_le (by exact h1)]; lia
    lia
  · rw [hl]
    unfold tooLong sizeLine
    have : ((k : Int)).toNat = k := by exact rfl
    rw [this]
    exact decide_eq_false (by lia)
noncomputable def txD (k : Nat) : D := .str (txt (tx k))
noncomputable def fgD (fg : Fg) : D := .tuple [.int fg.when_, .int fg.kind, .int fg.value]
noncomputable abbrev rhoR (prog : List (List Int)) (starts : List Nat) (steps : Nat) (hand : Int) (fg : Fg) (f62 f71 : Addr) (wh ki va line texts rows tick held row empty : Option D) : Rho :=
  [("program", .loc, some (.list (prog.map rowD))), ("starts", .loc, some (.list (starts.map fun k : Nat => .int k))), ("steps", .loc, some (.int steps)), ("hand", .loc, some (.int hand)), ("forgery", .loc, some (fgD fg)), ("when", .loc, wh), ("kind", .loc, ki), ("value", .loc, va),
    ("line", .loc, line), ("texts", .loc, texts), ("rows", .loc, rows), ("tick", .loc, tick), ("held", .loc, held), ("row", .loc, row), ("empty", .loc, empty), ("range", .glo, some (.val (.type "range"))), ("ISEOF", .glo, some (.ref f62)), ("_law_write", .glo, some (.ref f71))]
noncomputable def runBody : List Stmt := match bodyAt 75 with
  | [_, _, .For _ _ b _ _, _] => b
  | _ => []
noncomputable abbrev rhoT (prog : List (List Int)) (starts : List Nat) (steps : Nat) (hand : Int) (fg : Fg) (f62 f71 : Addr) (tt rw : Addr) (line tick : Nat) (held row empty : Option D) : Rho :=
  rhoR prog starts steps hand fg f62 f71 (some (.int fg.when_)) (some (.int fg.kind)) (some (.int fg.value)) (some (.int line)) (some (.ref tt)) (some (.ref rw)) (some (.int tick)) held row empty
section
variable {n : Nat} {env : Env} {prog : List (List Int)} {starts : List Nat} {steps : Nat} {hand : Int} {fg : Fg} {f62 f71 tt rw : Addr}
set_option maxHeartbeats 400000 in
theorem vc_run1 {line tick : Nat} {hs : List Nat} {done : List D} {x1 x2 x3 : Option D} {K : Out → Prop} (F : GoodF fg) (hl : hs.length = 2)
    (h : Ex C n env (rhoT prog starts steps hand fg f62 f71 tt rw (forgeL fg tick line) tick x1 x2 x3) [(rw, done), (tt, (forgeH fg tick hs).map txD)] (runBody.drop 1) K) :
    Ex C n env (rhoT prog starts steps hand fg f62 f71 tt rw line tick x1 x2 x3) [(rw, done), (tt, hs.map txD)] runBody K := by
  unfold rhoT rhoR at h ⊢
  refine Ex_cons ?_
  apply Es_ifB (P := (tick : Int) = fg.when_ ∧ fg.kind = 0) (b := ((tick : Int) == fg.when_) && (fg.kind == 0))
  · exact EvT_and2 (by walk_at "v") (by walk_at "v")
  · simp
  · intro hp
    have e1 : forgeL fg tick line = fg.value.toNat := by unfold forgeL; rw [if_pos hp]
    have e2 : forgeH fg tick hs = hs := by unfold forgeH; rw [if_pos hp]
    have e3 : ((fg.value.toNat : Nat) : Int) = fg.value := by have := F.value; lia
    rw [e1, e2, e3] at h
    refine Ex_cons ?_
    walk_at "v"
    exact Ex_nil h
  · intro hp
    have e1 : forgeL fg tick line = line := by unfold forgeL; rw [if_neg hp]
    rw [e1] at h
    refine Ex_cons ?_
    apply Es_ifB (P := (tick : Int) = fg.when_ ∧ fg.kind < 3) (b := ((tick : Int) == fg.when_) && decide (fg.kind < 3))
    · exact EvT_and2 (by walk_at "v") (by walk_at "v")
    · simp
    · intro hq
      have e2 : forgeH fg tick hs = hs.set (fg.kind - 1).toNat fg.value.toNat := by unfold forgeH; rw [if_neg hp, if_pos hq]
      have hk1 : 1 ≤ fg.kind := by
        have := F.kind
        rcases Int.lt_or_le fg.kind 1 with q | q
        · exact absurd ⟨hq.1, by lia⟩ hp
        · exact q
      have e3 : fg.value = ((fg.value.toNat : Nat) : Int) := by have := F.value; lia
      have hv3 : fg.value.toNat ≤ 3 := by have := F.value; lia
      rw [e2] at h
      refine Ex_cons ?_
      refine Es_setitem (EvW_pure (d := txD fg.value.toNat) ?_ ⟨tt, fg.kind - 1, hs.map txD, [(rw, done), (tt, (hs.set (fg.kind - 1).toNat fg.value.toNat).map txD)], by walk_at "v", by walk_at "v", by lia, by simp; lia, by lia, ?_, ?_⟩)
      · have e4 : txD fg.value.toNat = .str (txt [38] ++ Txt.mul (txt [97, 109, 112, 59]) fg.value) := by
          rw [e3, mul_amp, txt_app]
          have : ((fg.value.toNat : Nat) : Int).toNat = fg.value.toNat := by exact rfl
          rw [this]; rfl
        rw [e4]
        refine Ev_bin (d1 := .str (txt [38])) (d2 := .str (Txt.mul (txt [97, 109, 112, 59]) fg.value)) Ev_str (Ev_bin (d1 := .str (txt [97, 109, 112, 59])) (d2 := .int fg.value) Ev_str (by walk_at "v") (op_mulS ?_)) (op_addS ?_)
        · rw [e3]; exact mulOk_amp (by lia)
        · rw [e3, mul_amp, txt_len, txt_len, amps_len]
          show 1 + 4 * _ ≤ sizeLine
          exact Nat.le_trans (Nat.add_le_add_left (Nat.mul_le_mul_left 4 hv3) 1) (by decide)
      · rw [List.map_set]; exact .tail .head
      · exact Ex_nil (Ex_nil h)
    · intro hq
      have e2 : forgeH fg tick hs = hs := by unfold forgeH; rw [if_neg hp, if_neg hq]
      rw [e2] at h
      exact Ex_nil (Ex_nil h)
end
end
section
open PySem PySem.Calls PySem.W PySem.Builtin PySem.Builtin.Str
variable {C : Cx}
section
variable {n : Nat} {env : Env} {prog : List (List Int)} {starts : List Nat} {steps : Nat} {hand : Int} {fg : Fg} {f62 f71 tt rw : Addr}
inductive LocIn : Rho → Str → Prop
  | head {x o r} : LocIn ((x, .loc, o) :: r) x
  | tail {p r x} : LocIn r x → LocIn (p :: r) x
theorem LocIn.ex {ρ : Rho} {x : Str} (h : LocIn ρ x) : ∃ o, (x, Sl.loc, o) ∈ ρ := by
  induction h with
  | head => exact ⟨_, List.mem_cons_self⟩
  | tail _ ih => exact e1a1 ih fun o m => ⟨o, List.mem_cons_of_mem _ m⟩
theorem op_inImapB {f : Str → Option Int} {k : Str} {b : Bool} (h : (f k).isSome = b) : Op2 C n (compareOp .In) (.str k) (.imap f) (.bool b) := h ▸ op_inImap
theorem op_eqB {x y : Int} {b : Bool} (h : (x == y) = b) : Op2 C n (compareOp .Eq) (.int x) (.int y) (.bool b) := h ▸ op_eq
theorem signsD_txt (l : List Nat) : signsD (txt l) = l.map fun c => D.str (txt [c]) := by unfold signsD; rw [txt_list]; rfl
set_option maxHeartbeats 400000 in
theorem vc_run2 {line tick : Nat} {hs : List Nat} {done : List D} {x1 x2 x3 : Option D} {K : Out → Prop} {ex : Str → Option Int} (G : GoodP prog) (T : TokT ex) (gE : GlobD C "EXACT_TOKEN_TYPES" (.imap ex)) (gl : GlobD C "len" (.val (.builtin "len"))) (h62 : FnObj C f62) (c62 : ∀ x : Int, Cal C n (.ref f62) [.int x] (.bool (x == 0)))
    (hl : hs.length = 2) (hb : ∀ k ∈ hs, k ≤ 1000) (hline : line ≤ 3)
    (h : Ex C n env (rhoT prog starts steps hand fg f62 f71 tt rw line tick (some (.list (hs.map fun k : Nat => .int k))) (some (rowD (prow prog line))) (some (.bool (emptyOf prog line hs)))) [(rw, done), (tt, hs.map txD)] (runBody.drop 4) K) :
    Ex C n env (rhoT prog starts steps hand fg f62 f71 tt rw line tick x1 x2 x3) [(rw, done), (tt, hs.map txD)] (runBody.drop 1) K := by
  refine e0a2 (G.row hline :) fun R hrow => ?_
  have hlen3 : 3 ≤ (prow prog line).length := by rcases R.len with q | q <;> lia
  refine Ex_cons ?_
  apply Es_setComp (ds := hs.map txD) (fs := hs.map fun k : Nat => .int k) [("text", .loc, none), ("len", .glo, some (.val (.builtin "len")))] (frozen := false)
  case hi => exact EvI_own (a := tt) (Ev_name (by walk_at "at")) (.tail .head)
  case H => walk_at "comps"
  case hc =>
    intro L cells
    refine CompR_map txD (fun k : Nat => D.int (k : Int)) hs fun k hk => ?_
    have hk1 := hb k hk
    refine ⟨_, .name (by walk_at "up"), .lose (.same .nil), .nil, ?_⟩
    have e : D.int (k : Int) = .int ((((tx k).filter (isSemi ex)).map fun c => D.str (txt [c])).length : Nat) := by rw [List.length_map, semi_tx T]
    rw [e]
    refine Ev_callB (id := "len") (ds := [.list (((tx k).filter (isSemi ex)).map fun c => D.str (txt [c]))]) (by walk_at "at") (.cons (Ev_new ?_) .nil rfl) (cal_len_list (by rw [List.length_map, semi_tx T]; lia))
    refine EvN_comp (frozen := true) (ds := (tx k).map fun c => D.str (txt [c])) [("sign", .loc, none), ("EXACT_TOKEN_TYPES", .glo, some (.imap ex))] ?_ (by walk_at "comps") (fun L2 cells2 => ?_) (by rw [List.length_map, semi_tx T]; exact Nat.le_trans hk1 (by decide))
    · rw [← signsD_txt]
      exact EvI_str (x := txt (tx k)) (Ev_name (d := txD k) (by walk_at "at"))
    · refine CompR_filter (fun c => D.str (txt [c])) (fun c => D.str (txt [c])) (isSemi ex) (tx k) (fun c _ hp => ?_) fun c _ hp => ?_
      · have hv : ex (txt [c]) = some 13 := by simpa [isSemi] using hp
        refine ⟨_, .name (by walk_at "up"), .lose (.same .nil), .one ?_, by walk_at "v"⟩
        exact EvT_bool (.andT (EvT_cmp (d1 := .str (txt [c])) (d2 := .imap ex) (by walk_at "v") (by walk_at "v") (op_inImapB (by rw [hv]; rfl)) rfl) (EvA_last (EvT_cmp (d1 := .int 13) (d2 := .int 13) (Ev_sub (d1 := .imap ex) (d2 := .str (txt [c])) (by walk_at "v") (by walk_at "v") (it_imap hv) (fun _ _ => rfl)) Ev_int (op_eqB rfl) rfl)))
      · refine ⟨_, .name (by walk_at "up"), .lose (.same .nil), .one ?_⟩
        cases hv : ex (txt [c]) with
        | none => exact EvT_bool (.andF (EvT_cmp (d1 := .str (txt [c])) (d2 := .imap ex) (by walk_at "v") (by walk_at "v") (op_inImapB (by rw [hv]; rfl)) rfl))
        | some v =>
          have hne : (v == 13) = false := by
            unfold isSemi at hp
            rw [hv] at hp
            simpa using hp
          exact EvT_bool (.andT (EvT_cmp (d1 := .str (txt [c])) (d2 := .imap ex) (by walk_at "v") (by walk_at "v") (op_inImapB (by rw [hv]; rfl)) rfl) (EvA_last (EvT_cmp (d1 := .int v) (d2 := .int 13) (Ev_sub (d1 := .imap ex) (d2 := .str (txt [c])) (by walk_at "v") (by walk_at "v") (it_imap hv) (fun _ _ => rfl)) Ev_int (op_eqB hne) rfl)))
  case hu => walk_at "up"
  case hloc => exact LocIn.ex (by repeat (first | exact .head | apply LocIn.tail))
  case hst => rfl
  case hz => rw [List.length_map, hl]; decide
  refine Ex_cons ?_
  apply Es_set (d := rowD (prow prog line))
  case he =>
    have e : (prog ++ [[0, 1, 3]]).map rowD = prog.map rowD ++ [.list [.int 0, .int 1, .int 3]] := by rw [List.map_append]; rfl
    refine Ev_sub (d1 := .list (prog.map rowD ++ [.list [.int 0, .int 1, .int 3]])) (d2 := .int line) (Ev_bin (d1 := .list (prog.map rowD)) (d2 := .list [.list [.int 0, .int 1, .int 3]]) (by walk_at "v") (by walk_at "v") (op_addL (by simp [G.len]; decide))) (by walk_at "v") (it_list (by exact Int.natCast_nonneg line) (by lia) ?_) (fun _ _ => rfl)
    have hn : ((line : Int)).toNat = line := by exact rfl
    rw [hn, ← e, List.getElem?_map, hrow]; rfl
  case hu => walk_at "up"
  have r0n : ((at0 (prow prog line) 0).toNat : Int) = at0 (prow prog line) 0 := by have := R.r0; lia
  have r0l : (at0 (prow prog line) 0).toNat < hs.length := by have := R.r0; lia
  have hrow0 : ((prow prog line).map D.int)[((0 : Int)).toNat]? = some (.int (at0 (prow prog line) 0)) := by
    have h0 : 0 < (prow prog line).length := by lia
    simp [at0, h0]
  refine Ex_cons ?_
  apply Es_set (d := .bool (emptyOf prog line hs))
  case he =>
    have e : emptyOf prog line hs = (((hs.getD (at0 (prow prog line) 0).toNat 0 : Nat) : Int) == 0) := by
      unfold emptyOf
      rw [Bool.eq_iff_iff, beq_iff_eq, beq_iff_eq]; lia
    rw [e]
    refine Ev_callF (f := f62) (ds := [.int (hs.getD (at0 (prow prog line) 0).toNat 0 : Nat)]) (by walk_at "at") h62 (.cons ?_ .nil rfl) (c62 _)
    refine Ev_sub (d1 := .list (hs.map fun k : Nat => .int k)) (d2 := .int (at0 (prow prog line) 0)) (by walk_at "v") (Ev_sub (d1 := rowD (prow prog line)) (d2 := .int 0) (by walk_at "v") (by walk_at "v") (it_list (by decide) (by decide) hrow0) (fun _ _ => rfl)) (it_list (by have := R.r0; lia) (by have := R.r0; lia) ?_) (fun _ _ => rfl)
    rw [List.getElem?_map, List.getD_eq_getElem?_getD, List.getElem?_eq_getElem r0l]; rfl
  case hu => walk_at "up"
  exact h
end
end
section
open PySem PySem.Calls PySem.W PySem.Builtin PySem.Builtin.Str
variable {C : Cx}
section
variable {n : Nat} {env : Env} {prog : List (List Int)} {starts : List Nat} {steps : Nat} {hand : Int} {fg : Fg} {f62 f71 tt rw : Addr}
set_option maxHeartbeats 400000 in
theorem vc_run3 {line tick : Nat} {hs : List Nat} {done : List (List Int)} {K : Out → Prop} (hdone : done.length = tick) (htick : tick ≤ 1000) (hl : hs.length = 2)
    (h : Ex C n env (rhoT prog starts steps hand fg f62 f71 tt rw line tick (some (.list (hs.map fun k : Nat => .int k))) (some (rowD (prow prog line))) (some (.bool (emptyOf prog line hs)))) [(rw, (done ++ [rowOf prog fg tick line hs]).map rowD), (tt, hs.map txD)] (runBody.drop 6) K) :
    Ex C n env (rhoT prog starts steps hand fg f62 f71 tt rw line tick (some (.list (hs.map fun k : Nat => .int k))) (some (rowD (prow prog line))) (some (.bool (emptyOf prog line hs)))) [(rw, done.map rowD), (tt, hs.map txD)] (runBody.drop 4) K := by
  refine Ex_cons ?_
  refine Es_append (a := rw) (ds0 := done.map rowD) (by walk_at "v") .head rfl (EvW_new (ds := .int (firstOf prog line hs) :: hs.map fun k : Nat => .int k) ?_ fun b => ⟨done.map rowD, [(b, .int (firstOf prog line hs) :: hs.map fun k : Nat => .int k), (rw, done.map rowD ++ [.ref b]), (tt, hs.map txD)], .tail .head, by simp; lia, ?_⟩) rfl rfl
  · have e : D.int (firstOf prog line hs) :: (hs.map fun k : Nat => D.int k) = [D.int (firstOf prog line hs)] ++ hs.map fun k : Nat => D.int k := rfl
    rw [e]
    refine EvN_add (Ev_list (.cons ?_ .nil rfl)) (by walk_at "v") (by simp [hl]; decide)
    refine Ev_ifexp (b := (line : Int) == 3) (by walk_at "v") (fun q => ?_) fun q => ?_
    · have hq : line = 3 := by have : (line : Int) = 3 := by simpa using q
                               lia
      unfold firstOf; rw [if_pos hq]; exact Ev_int
    · have hq : line ≠ 3 := by intro hh; subst hh; cases q
      unfold firstOf; rw [if_neg hq]
      refine Ev_bin (d1 := .int (2 * (line : Int))) (d2 := .int (if emptyOf prog line hs then 1 else 0)) (Ev_bin Ev_int (by walk_at "v") (op_mul (IntMulOk.of_left (by decide)))) ?_ op_add
      refine Ev_ifexp (b := emptyOf prog line hs) (EvT_boolv (by walk_at "v")) (fun q => ?_) fun q => ?_
      · rw [if_pos q]; exact Ev_int
      · rw [if_neg (by rw [q]; exact Bool.false_ne_true)]; exact Ev_int
  have hlenD : (done.map rowD).length = tick := by simp [hdone]
  have hget : (done.map rowD ++ [D.ref b])[((tick : Int)).toNat]? = some (.ref b) := by
    have : ((tick : Int)).toNat = (done.map rowD).length := by exact _root_.id (Eq.symm hlenD)
    rw [this]; simp
  have fin : ∀ v : Int, v = (if (tick : Int) = fg.when_ ∧ fg.kind = 3 ∧ line < 3 then Builtin.bitXor (firstOf prog line hs) 1 else firstOf prog line hs) →
      Ex C n env (rhoT prog starts steps hand fg f62 f71 tt rw line tick (some (.list (hs.map fun k : Nat => .int k))) (some (rowD (prow prog line))) (some (.bool (emptyOf prog line hs)))) [(b, .int v :: hs.map fun k : Nat => .int k), (rw, done.map rowD ++ [.ref b]), (tt, hs.map txD)] (runBody.drop 6) K := by
    intro v hv
    refine Ex_freeze .head .same (.cons (FDs.snoc .here) .same) ?_
    have e : D.list (.int v :: hs.map fun k : Nat => .int k) = rowD (rowOf prog fg tick line hs) := by
      unfold rowOf rowD
      rw [← hv]
      simp
    rw [e]
    rw [List.map_append] at h
    exact h
  refine Ex_cons ?_
  apply Es_ifB (P := (tick : Int) = fg.when_ ∧ fg.kind = 3 ∧ line < 3) (b := ((tick : Int) == fg.when_) && (fg.kind == 3) && decide ((line : Int) < 3))
  · exact EvT_and3 (by walk_at "v") (by walk_at "v") (by walk_at "v")
  · simp; constructor
    · rintro ⟨⟨a, b⟩, c⟩; exact ⟨a, b, by lia⟩
    · rintro ⟨a, b, c⟩; exact ⟨⟨a, b⟩, by lia⟩
  · intro hq
    refine Ex_cons ?_
    refine Es_setitem (EvW_pure (d := .int (Builtin.bitXor (firstOf prog line hs) 1)) ?_ ⟨b, 0, .int (firstOf prog line hs) :: hs.map fun k : Nat => .int k, [(b, .int (Builtin.bitXor (firstOf prog line hs) 1) :: hs.map fun k : Nat => .int k), (rw, done.map rowD ++ [.ref b]), (tt, hs.map txD)], ?_, by walk_at "v", by decide, by simp, by decide, .head, ?_⟩)
    · refine Ev_bin (d1 := .int (firstOf prog line hs)) (d2 := .int 1) (Ev_subO (a := b) (k := 0) (Ev_subO (a := rw) (k := tick) (by walk_at "v") (by walk_at "v") (.tail .head) (by exact Int.natCast_nonneg tick) (by lia) hget (fun _ _ => rfl)) (by walk_at "v") .head (by decide) (by decide) rfl (fun _ _ => rfl)) Ev_int op_xor
    · exact Ev_subO (a := rw) (k := tick) (by walk_at "v") (by walk_at "v") (.tail .head) (by exact Int.natCast_nonneg tick) (by lia) hget (fun _ _ => rfl)
    · exact Ex_nil (fin _ (by rw [if_pos hq]))
  · intro hq
    exact Ex_nil (fin _ (by rw [if_neg hq]))
end
end
section
open PySem PySem.Calls PySem.W PySem.Builtin PySem.Builtin.Str
variable {C : Cx}
section
variable {n : Nat} {env : Env} {prog : List (List Int)} {starts : List Nat} {steps : Nat} {hand : Int} {fg : Fg} {f62 f71 tt rw : Addr}
set_option maxHeartbeats 400000 in
theorem vc_run4 {line tick : Nat} {hs : List Nat} {done : List D} {K : Out → Prop} (G : GoodP prog) (h71 : FnObj C f71) (c71 : ∀ (hand : Int) (l : List Nat), l.length ≤ 100000 → Cal C n (.ref f71) [.int hand, .str (txt l)] (.str (txt (wr hand l))))
    (hl : hs.length = 2) (hb : ∀ k ∈ hs, k ≤ 1000) (hline : line ≤ 3)
    (h : K (.next (rhoT prog starts steps hand fg f62 f71 tt rw (nextL prog line hs) tick (some (.list (hs.map fun k : Nat => .int k))) (some (rowD (prow prog line))) (some (.bool (emptyOf prog line hs)))) [(rw, done), (tt, (nextH prog line hs).map txD)])) :
    Ex C n env (rhoT prog starts steps hand fg f62 f71 tt rw line tick (some (.list (hs.map fun k : Nat => .int k))) (some (rowD (prow prog line))) (some (.bool (emptyOf prog line hs)))) [(rw, done), (tt, hs.map txD)] (runBody.drop 6) K := by
  refine e0a2 (G.row hline :) fun R hrow => ?_
  have hlen3 : 3 ≤ (prow prog line).length := by rcases R.len with q | q <;> lia
  have r0n : ((at0 (prow prog line) 0).toNat : Int) = at0 (prow prog line) 0 := by have := R.r0; lia
  have r0l : (at0 (prow prog line) 0).toNat < hs.length := by have := R.r0; lia
  have hrk : ∀ k : Nat, k < 3 → ((prow prog line).map D.int)[((k : Int)).toNat]? = some (.int (at0 (prow prog line) k)) := fun k hk => by
    have h0 : k < (prow prog line).length := by lia
    have : ((k : Int)).toNat = k := by exact rfl
    rw [this]; simp [at0, h0]
  have hk0 : hs.getD (at0 (prow prog line) 0).toNat 0 ≤ 1000 := by
    rw [List.getD_eq_getElem?_getD, List.getElem?_eq_getElem r0l]
    exact hb _ (List.getElem_mem r0l)
  have htxt : (hs.map txD)[(at0 (prow prog line) 0).toNat]? = some (txD (hs.getD (at0 (prow prog line) 0).toNat 0)) := by
    rw [List.getElem?_map, List.getD_eq_getElem?_getD, List.getElem?_eq_getElem r0l]; rfl
  have fin : ∀ hs' : List Nat, hs' = nextH prog line hs → Ex C n env (rhoT prog starts steps hand fg f62 f71 tt rw line tick (some (.list (hs.map fun k : Nat => .int k))) (some (rowD (prow prog line))) (some (.bool (emptyOf prog line hs)))) [(rw, done), (tt, hs'.map txD)] (runBody.drop 7) K := by
    intro hs' hh
    subst hh
    refine Ex_cons ?_
    apply Es_set (d := .int (nextL prog line hs))
    case he =>
      have hN := nextL_le G (hs := hs) hline
      refine Ev_ifexp (b := emptyOf prog line hs) (EvT_boolv (by walk_at "v")) (fun q => ?_) fun q => ?_
      · have e : ((nextL prog line hs : Nat) : Int) = at0 (prow prog line) ((prow prog line).length - 1) := by
          have e2 : (prow prog line).getLastD 0 = at0 (prow prog line) ((prow prog line).length - 1) := by
            unfold at0
            rw [List.getLastD_eq_getLast?, List.getLast?_eq_getElem?, List.getD_eq_getElem?_getD]
          have := R.goals ((prow prog line).length - 1) (by lia) (by lia)
          unfold nextL
          rw [if_pos q, e2]; lia
        rw [e]
        refine Ev_sub (d1 := rowD (prow prog line)) (d2 := .int (-1)) (by walk_at "v") (by walk_at "v") (it_listNeg (by decide) (by simp; lia) (by decide) ?_) (fun _ _ => rfl)
        have h1 : (-1 + (((prow prog line).map D.int).length : Int)).toNat = (prow prog line).length - 1 := by simp; lia
        have h0 : (prow prog line).length - 1 < (prow prog line).length := by lia
        rw [h1]; simp [at0, h0]
      · have e : ((nextL prog line hs : Nat) : Int) = at0 (prow prog line) 2 := by
          have := R.goals 2 (by decide) (by exact hlen3)
          unfold nextL
          rw [if_neg (by rw [q]; exact Bool.false_ne_true)]; lia
        rw [e]
        exact Ev_sub (d1 := rowD (prow prog line)) (d2 := .int 2) (by walk_at "v") (by walk_at "v") (it_list (by decide) (by decide) (hrk 2 (by decide))) (fun _ _ => rfl)
    case hu => walk_at "up"
    exact Ex_nil h
  have ev0 : ∀ own : Own, Ev C n env [("program", .loc, some (.list (prog.map rowD))), ("starts", .loc, some (.list (starts.map fun k : Nat => .int k))), ("steps", .loc, some (.int steps)), ("hand", .loc, some (.int hand)), ("forgery", .loc, some (fgD fg)), ("when", .loc, some (.int fg.when_)), ("kind", .loc, some (.int fg.kind)), ("value", .loc, some (.int fg.value)),
      ("line", .loc, some (.int line)), ("texts", .loc, some (.ref tt)), ("rows", .loc, some (.ref rw)), ("tick", .loc, some (.int tick)), ("held", .loc, some (.list (hs.map fun k : Nat => .int k))), ("row", .loc, some (rowD (prow prog line))), ("empty", .loc, some (.bool (emptyOf prog line hs))), ("range", .glo, some (.val (.type "range"))), ("ISEOF", .glo, some (.ref f62)), ("_law_write", .glo, some (.ref f71))]
      own (.Subscript (.Name "row" ⟨0, 0, 0, 0⟩) (.Constant (.int 0) 0 ⟨0, 0, 0, 0⟩) ⟨0, 0, 0, 0⟩) (.int (at0 (prow prog line) 0)) := fun own => Ev_sub (d1 := rowD (prow prog line)) (d2 := .int 0) (by walk_at "v") (by walk_at "v") (it_list (by decide) (by decide) (hrk 0 (by decide))) (fun _ _ => rfl)
  refine Ex_cons ?_
  apply Es_ifB (P := line < 3 ∧ at0 (prow prog line) 1 = 0) (b := decide ((line : Int) < 3) && (at0 (prow prog line) 1 == 0))
  · exact EvT_and2 (by walk_at "v") (EvT_cmp (d1 := .int (at0 (prow prog line) 1)) (d2 := .int 0) (Ev_sub (d1 := rowD (prow prog line)) (d2 := .int 1) (by walk_at "v") (by walk_at "v") (it_list (by decide) (by decide) (hrk 1 (by decide))) (fun _ _ => rfl)) Ev_int op_eq rfl)
  · rw [Bool.and_eq_true, decide_eq_true_iff, beq_iff_eq]
    exact ⟨fun w1q => e0a2 (w1q :) fun a b => ⟨by lia, b⟩, fun w2q => e0a2 (w2q :) fun a b => ⟨by lia, b⟩⟩
  · intro hq
    have hN : nextH prog line hs = hs.set (at0 (prow prog line) 0).toNat (hs.getD (at0 (prow prog line) 0).toNat 0 + 1) := by unfold nextH; dsimp only; rw [if_pos hq]
    refine Ex_cons ?_
    refine Es_setitem (EvW_pure (d := txD (hs.getD (at0 (prow prog line) 0).toNat 0 + 1)) ?_ ⟨tt, at0 (prow prog line) 0, hs.map txD, [(rw, done), (tt, (nextH prog line hs).map txD)], by walk_at "v", ?_, R.r0.1, by have := R.r0; simp; lia, by have := R.r0; lia, ?_, ?_⟩)
    · have e : txD (hs.getD (at0 (prow prog line) 0).toNat 0 + 1) = .str (txt (wr ((hand + tick).fmod 5) (tx (hs.getD (at0 (prow prog line) 0).toNat 0)))) := by rw [wr_tx]; rfl
      rw [e]
      refine Ev_callF (f := f71) (ds := [.int ((hand + tick).fmod 5), txD (hs.getD (at0 (prow prog line) 0).toNat 0)]) (by walk_at "at") h71 (.cons ?_ (.cons ?_ .nil rfl) rfl) (c71 _ _ (by rw [tx_len]; lia))
      · refine Ev_bin (d1 := .int (hand + tick)) (d2 := .int 5) (by walk_at "v") Ev_int (op_mod (by decide))
      · refine Ev_subO (a := tt) (k := at0 (prow prog line) 0) (by walk_at "v") ?_ (.tail .head) R.r0.1 (by have := R.r0; lia) htxt (fun _ _ => rfl)
        exact Ev_sub (d1 := rowD (prow prog line)) (d2 := .int 0) (by walk_at "v") (by walk_at "v") (it_list (by decide) (by decide) (hrk 0 (by decide))) (fun _ _ => rfl)
    · exact Ev_sub (d1 := rowD (prow prog line)) (d2 := .int 0) (by walk_at "v") (by walk_at "v") (it_list (by decide) (by decide) (hrk 0 (by decide))) (fun _ _ => rfl)
    · rw [hN, List.map_set]; exact .tail .head
    · exact Ex_nil (fin _ rfl)
  · intro hq
    refine Ex_cons ?_
    apply Es_ifB (P := line < 3 ∧ emptyOf prog line hs = false) (b := decide ((line : Int) < 3) && !emptyOf prog line hs)
    · exact EvT_and2 (by walk_at "v") (EvT_not (EvT_boolv (by walk_at "v")))
    · rw [Bool.and_eq_true, decide_eq_true_iff, Bool.not_eq_true']
      exact ⟨fun w3q => e0a2 (w3q :) fun a b => ⟨by lia, b⟩, fun w4q => e0a2 (w4q :) fun a b => ⟨by lia, b⟩⟩
    · intro hq2
      have hN : nextH prog line hs = hs.set (at0 (prow prog line) 0).toNat (hs.getD (at0 (prow prog line) 0).toNat 0 - 1) := by unfold nextH; dsimp only; rw [if_neg hq, if_pos hq2]
      have hpos : 0 < hs.getD (at0 (prow prog line) 0).toNat 0 := by
        have := hq2.2
        unfold emptyOf at this
        rw [beq_eq_false_iff_ne] at this
        exact Nat.pos_of_ne_zero this
      refine Ex_cons ?_
      refine Es_setitem (EvW_pure (d := txD (hs.getD (at0 (prow prog line) 0).toNat 0 - 1)) ?_ ⟨tt, at0 (prow prog line) 0, hs.map txD, [(rw, done), (tt, (nextH prog line hs).map txD)], by walk_at "v", ?_, R.r0.1, by have := R.r0; simp; lia, by have := R.r0; lia, ?_, ?_⟩)
      · obtain ⟨k, hk⟩ : ∃ k, hs.getD (at0 (prow prog line) 0).toNat 0 = k + 1 := ⟨_, (Nat.succ_pred_eq_of_pos hpos).symm⟩
        rw [hk] at htxt hk0 ⊢
        have e : txD (k + 1 - 1) = .str (txt [38] ++ Txt.slice (txt (tx (k + 1))) (some ((5 : Nat) : Int)) none) := by
          rw [slice_from, tx_drop, txt_app]; rfl
        rw [e]
        refine Ev_bin (d1 := .str (txt [38])) (d2 := .str (Txt.slice (txt (tx (k + 1))) (some ((5 : Nat) : Int)) none)) Ev_str (Ev_sliceS (x := txt (tx (k + 1))) ?_ (.some Ev_int) .none ?_) (op_addS ?_)
        · refine Ev_subO (a := tt) (k := at0 (prow prog line) 0) (by walk_at "v") ?_ (.tail .head) R.r0.1 (by have := R.r0; lia) htxt (fun _ _ => rfl)
          exact Ev_sub (d1 := rowD (prow prog line)) (d2 := .int 0) (by walk_at "v") (by walk_at "v") (it_list (by decide) (by decide) (hrk 0 (by decide))) (fun _ _ => rfl)
        · rw [txt_len, tx_len]; unfold sizeLine; lia
        · rw [slice_from, tx_drop, txt_len, txt_len, amps_len]; unfold sizeLine; simp; lia
      · exact Ev_sub (d1 := rowD (prow prog line)) (d2 := .int 0) (by walk_at "v") (by walk_at "v") (it_list (by decide) (by decide) (hrk 0 (by decide))) (fun _ _ => rfl)
      · rw [hN, List.map_set]; exact .tail .head
      · exact Ex_nil (Ex_nil (fin _ rfl))
    · intro hq2
      have hN : nextH prog line hs = hs := by unfold nextH; dsimp only; rw [if_neg hq, if_neg hq2]
      refine Ex_nil (Ex_nil ?_)
      have := fin _ rfl
      rw [hN] at this
      exact this
end
end
section
open PySem PySem.Calls PySem.W PySem.Builtin PySem.Builtin.Str
variable {C : Cx}
section
variable {n : Nat} {env : Env} {prog : List (List Int)} {starts : List Nat} {steps : Nat} {hand : Int} {fg : Fg} {f62 f71 : Addr}
theorem runL_len (prog : List (List Int)) (fg : Fg) : ∀ k t l hs, (runL prog fg k t l hs).length = k
  | 0, _, _, _ => rfl
  | k + 1, t, l, hs => by simp [runL, runL_len prog fg k]
set_option maxHeartbeats 400000 in
theorem vc_run {ex : Str → Option Int} (G : GoodP prog) (F : GoodF fg) (T : TokT ex) (gE : GlobD C "EXACT_TOKEN_TYPES" (.imap ex)) (gl : GlobD C "len" (.val (.builtin "len"))) (h62 : FnObj C f62) (c62 : ∀ x : Int, Cal C n (.ref f62) [.int x] (.bool (x == 0)))
    (h71 : FnObj C f71) (c71 : ∀ (hand : Int) (l : List Nat), l.length ≤ 100000 → Cal C n (.ref f71) [.int hand, .str (txt l)] (.str (txt (wr hand l)))) (hl : starts.length = 2) (hb : ∀ k ∈ starts, k ≤ 3) (hs : steps ≤ 100) :
    Ex C n env (rhoR prog starts steps hand fg f62 f71 none none none none none none none none none none) [] (bodyAt 75) fun o => match o with | .ret d' _ => d' = .list ((runL prog fg (steps + 1) 0 0 starts).map rowD) | .next _ _ => False := by
  refine Ex_cons ?_
  apply Es_tupP (ds := [.int fg.when_, .int fg.kind, .int fg.value])
  case he => exact Ev_name (d := fgD fg) (by walk_at "at")
  case ha => walk_at "v"
  case hs => rfl
  case hw => rfl
  refine Ex_cons ?_
  refine Es_swap3 ⟨LocIn.ex (by repeat (first | exact .head | apply LocIn.tail)), LocIn.ex (by repeat (first | exact .head | apply LocIn.tail)), LocIn.ex (by repeat (first | exact .head | apply LocIn.tail))⟩ (EvW_tuple ⟨rfl, EvW_pure (d := .int 0) Ev_int ⟨rfl, EvW_new (ds := starts.map txD) ?_ fun tt => ⟨rfl, EvW_new (ds := []) (EvN_list .nil) fun rw => ?_⟩⟩⟩) rfl rfl rfl rfl rfl rfl
  · refine EvN_comp (frozen := true) (ds := starts.map fun k : Nat => D.int k) [("start", .loc, none)] (EvI_list (Ev_name (by walk_at "at"))) (by walk_at "comps") (fun L cells => ?_) (by rw [List.length_map, hl]; decide)
    refine CompR_map (fun k : Nat => D.int k) txD starts fun k hk => ?_
    refine ⟨_, .name (by walk_at "up"), .lose .nil, .nil, ?_⟩
    have hk3 := hb k hk
    have e4 : txD k = .str (txt [38] ++ Txt.mul (txt [97, 109, 112, 59]) (k : Int)) := by rw [mul_amp, txt_app]; rfl
    rw [e4]
    refine Ev_bin (d1 := .str (txt [38])) (d2 := .str (Txt.mul (txt [97, 109, 112, 59]) (k : Int))) Ev_str (Ev_bin (d1 := .str (txt [97, 109, 112, 59])) (d2 := .int k) Ev_str (by walk_at "v") (op_mulS (mulOk_amp (by lia)))) (op_addS ?_)
    rw [mul_amp, txt_len, txt_len, amps_len]
    unfold sizeLine
    show 1 + 4 * k ≤ _
    lia
  · refine ⟨.int 0, .ref tt, .ref rw, _, _, _, rfl, by walk_at "upl", by walk_at "upl", by walk_at "upl", ?_⟩
    refine Ex_cons ?_
    refine Es_for (EvI_range (k := (steps : Int) + 1) (by walk_at "at") (by walk_at "v") rfl (by exact Int.natCast_nonneg (steps + 1)) (by lia)) (fun i ρ own => ∃ (line : Nat) (hs : List Nat) (done : List (List Int)) (x0 x1 x2 x3 : Option D), done ++ runL prog fg (steps + 1 - i) i line hs = runL prog fg (steps + 1) 0 0 starts ∧ done.length = i ∧ i ≤ steps + 1 ∧ line ≤ 3 ∧ hs.length = 2 ∧ (∀ k ∈ hs, k ≤ 3 + i) ∧
      own = [(rw, done.map rowD), (tt, hs.map txD)] ∧ ρ = rhoR prog starts steps hand fg f62 f71 (some (.int fg.when_)) (some (.int fg.kind)) (some (.int fg.value)) (some (.int line)) (some (.ref tt)) (some (.ref rw)) x0 x1 x2 x3) ?_ ?_ ?_
    · exact ⟨0, starts, [], none, none, none, none, rfl, rfl, by exact Nat.zero_le (steps + 1), by decide, hl, hb, rfl, rfl⟩
    · intro i ρ own d hd w1q; refine e7a8 (w1q :) fun line hs' done x0 x1 x2 x3 hR hdl hi hline hhl hhb r3q r4q => ?_; clear w1q; subst r3q; subst r4q
      have hi' : i < steps + 1 := by
        have := (List.getElem?_eq_some_iff.mp hd).1
        unfold rngD at this
        simp at this; exact this
      have hd' : d = .int (i : Int) := by
        unfold rngD at hd
        rw [List.getElem?_map] at hd
        have h2 : i < ((steps : Int) + 1).toNat := by exact hi'
        rw [List.getElem?_range h2] at hd
        exact (Option.some.inj hd).symm
      subst hd'
      refine ⟨rhoT prog starts steps hand fg f62 f71 tt rw line i x1 x2 x3, .name (by walk_at "up"), ?_⟩
      have e : steps + 1 - i = (steps + 1 - (i + 1)) + 1 := by lia
      rw [e] at hR
      refine vc_run1 F hhl (vc_run2 G T gE gl h62 c62 (by rw [forgeH_len]; exact hhl) (forgeH_le F (by decide) fun k hk => Nat.le_trans (hhb k hk) (by lia : 3 + i ≤ 1000)) (forgeL_le F hline) (vc_run3 hdl (by lia) (by rw [forgeH_len]; exact hhl) (vc_run4 G h71 c71 (by rw [forgeH_len]; exact hhl) (forgeH_le F (by decide) fun k hk => Nat.le_trans (hhb k hk) (by lia : 3 + i ≤ 1000)) (forgeL_le F hline) ?_)))
      refine ⟨nextL prog (forgeL fg i line) (forgeH fg i hs'), nextH prog (forgeL fg i line) (forgeH fg i hs'), done ++ [rowOf prog fg i (forgeL fg i line) (forgeH fg i hs')], _, _, _, _, ?_, by simp [hdl], by exact hi', nextL_le G (forgeL_le F hline), by rw [nextH_len, forgeH_len]; exact hhl, ?_, rfl, rfl⟩
      · rw [List.append_assoc]; exact hR
      · intro k hk
        have := nextH_le (forgeH_le F (B := 3 + i) (by exact Nat.le_add_right 3 i) hhb) k hk
        exact this
    · intro ρ own w2q; refine e7a8 (w2q :) fun line hs' done x0 x1 x2 x3 hR hdl hi hline hhl hhb r5q r6q => ?_; clear w2q; subst r5q; subst r6q
      have hrl : (rngD ((steps : Int) + 1)).length = steps + 1 := by unfold rngD; simp
      rw [hrl, Nat.sub_self] at hR
      have hR' : done = runL prog fg (steps + 1) 0 0 starts := by rw [← hR]; simp [runL]
      refine Ex_freeze .head (.skip (.skip (.skip (.skip (.skip (.skip (.skip (.skip (.skip (.skip (.cons .here .same nofun))))))))))) .same ?_
      refine Ex_cons ?_
      exact Es_ret (Ev_name (by walk_at "at")) (by rw [← hR']; rfl)
end
end
section
open PySem
noncomputable def valN (w : Nat) : List Nat → Nat
  | [] => 0
  | d :: r => d + valN w r * 2 ^ w
noncomputable def Dg (w : Nat) (l : List Nat) : Prop := ∀ d ∈ l, d < 2 ^ w
theorem Dg.head {w d : Nat} {r : List Nat} (h : Dg w (d :: r)) : d < 2 ^ w := h d List.mem_cons_self
theorem Dg.tail {w d : Nat} {r : List Nat} (h : Dg w (d :: r)) : Dg w r := fun x hx => h x (List.mem_cons_of_mem _ hx)
theorem valL_nat (w : Nat) : ∀ l : List Nat, valL w (l.map fun d : Nat => (d : Int)) = (valN w l : Int)
  | [] => rfl
  | d :: r => by
    show (d : Int) + valL w (r.map fun d : Nat => (d : Int)) * 2 ^ w = ((d + valN w r * 2 ^ w : Nat) : Int)
    rw [valL_nat w r, Int.natCast_add, Int.natCast_mul, nat_two]
theorem valN_lt (w : Nat) : ∀ l : List Nat, Dg w l → valN w l < 2 ^ (w * l.length)
  | [], _ => by simp [valN]
  | d :: r, h => by
    have h1 := h.head
    have h2 := valN_lt w r h.tail
    have e : 2 ^ (w * (r.length + 1)) = 2 ^ (w * r.length) * 2 ^ w := by rw [Nat.mul_succ, Nat.pow_add]
    show d + valN w r * 2 ^ w < 2 ^ (w * (r.length + 1))
    rw [e]
    have h3 : (valN w r + 1) * 2 ^ w ≤ 2 ^ (w * r.length) * 2 ^ w := Nat.mul_le_mul_right _ h2
    rw [Nat.add_mul, Nat.one_mul] at h3
    lia
theorem valN_inj (w : Nat) : ∀ a b : List Nat, a.length = b.length → Dg w a → Dg w b → valN w a = valN w b → a = b
  | [], [], _, _, _, _ => rfl
  | [], _ :: _, h, _, _, _ => by simp at h
  | _ :: _, [], h, _, _, _ => by simp at h
  | d :: r, e :: s, h, ha, hb, hv => by
    have hp : 0 < 2 ^ w := Nat.two_pow_pos w
    have h1 : d + valN w r * 2 ^ w = e + valN w s * 2 ^ w := hv
    have h2 : d = e := by
      have := congrArg (· % 2 ^ w) h1
      simp only [Nat.add_mul_mod_self_right] at this
      rwa [Nat.mod_eq_of_lt ha.head, Nat.mod_eq_of_lt hb.head] at this
    subst h2
    have h3 : valN w r * 2 ^ w = valN w s * 2 ^ w := by lia
    rw [valN_inj w r s (by simpa using h) ha.tail hb.tail (Nat.eq_of_mul_eq_mul_right hp h3)]
theorem and_digit {w d e x y : Nat} (hd : d < 2 ^ w) (he : e < 2 ^ w) : (d + x * 2 ^ w) &&& (e + y * 2 ^ w) = (d &&& e) + (x &&& y) * 2 ^ w := by
  have hde : d &&& e < 2 ^ w := Nat.lt_of_le_of_lt Nat.and_le_left hd
  have sw : ∀ a b : Nat, a + b * 2 ^ w = 2 ^ w * b + a := fun a b => by rw [Nat.mul_comm, Nat.add_comm]
  rw [sw d x, sw e y, sw (d &&& e) (x &&& y)]
  apply Nat.eq_of_testBit_eq
  intro i
  rw [Nat.testBit_and, Nat.testBit_two_pow_mul_add _ hd, Nat.testBit_two_pow_mul_add _ he, Nat.testBit_two_pow_mul_add _ hde]
  split <;> simp [Nat.testBit_and]
theorem and_digits (w : Nat) : ∀ a b : List Nat, a.length = b.length → Dg w a → Dg w b → valN w a &&& valN w b = valN w (List.zipWith (· &&& ·) a b)
  | [], [], _, _, _ => by simp [valN]
  | [], _ :: _, h, _, _ => by simp at h
  | _ :: _, [], h, _, _ => by simp at h
  | d :: r, e :: s, h, ha, hb => by
    show (d + valN w r * 2 ^ w) &&& (e + valN w s * 2 ^ w) = (d &&& e) + valN w (List.zipWith (· &&& ·) r s) * 2 ^ w
    rw [and_digit ha.head hb.head, and_digits w r s (by simpa using h) ha.tail hb.tail]
theorem Dg.and {w : Nat} : ∀ {a b : List Nat}, Dg w a → Dg w (List.zipWith (· &&& ·) a b)
  | [], _, _ => by simp [Dg]
  | _ :: _, [], _ => by simp [Dg]
  | d :: r, e :: s, h => by
    intro x hx
    rcases List.mem_cons.mp hx with rfl | hx
    · exact Nat.lt_of_le_of_lt Nat.and_le_left h.head
    · exact Dg.and h.tail x hx
theorem sub_digits {w : Nat} {a b : List Nat} (h : a.length = b.length) (ha : Dg w a) (hb : Dg w b) : Builtin.bitAnd (valN w a : Int) (valN w b : Int) = (valN w a : Int) ↔ List.zipWith (· &&& ·) a b = a := by
  rw [PyProof.Rows.bitAnd_pp (by exact Int.natCast_nonneg (valN w a)) (by exact Int.natCast_nonneg (valN w b))]
  have e1 : ((valN w a : Int)).toNat = valN w a := by exact rfl
  have e2 : ((valN w b : Int)).toNat = valN w b := by exact rfl
  rw [e1, e2, and_digits w a b h ha hb]
  constructor
  · intro q
    have q' : valN w (List.zipWith (· &&& ·) a b) = valN w a := by lia
    exact valN_inj w _ _ (by simp [h]) ha.and ha q'
  · intro q; rw [q]
noncomputable def dgs (w : Nat) : Nat → Nat → List Nat
  | 0, _ => []
  | k + 1, x => x % 2 ^ w :: dgs w k (x / 2 ^ w)
theorem dgs_len (w : Nat) : ∀ k x, (dgs w k x).length = k
  | 0, _ => rfl
  | k + 1, x => by simp [dgs, dgs_len w k]
theorem dgs_dg (w : Nat) : ∀ k x, Dg w (dgs w k x)
  | 0, _ => nofun
  | k + 1, x => fun d h => by
    rcases List.mem_cons.mp h with rfl | h
    · exact Nat.mod_lt _ (Nat.two_pow_pos w)
    · exact dgs_dg w k _ d h
theorem valN_dgs (w : Nat) : ∀ k x, x < 2 ^ (w * k) → valN w (dgs w k x) = x
  | 0, x, h => by simp at h; subst h; rfl
  | k + 1, x, h => by
    show x % 2 ^ w + valN w (dgs w k (x / 2 ^ w)) * 2 ^ w = x
    rw [valN_dgs w k _ (Nat.div_lt_of_lt_mul (by rw [← Nat.pow_add]; rw [Nat.mul_succ, Nat.add_comm] at h; exact h))]
    have := Nat.mod_add_div x (2 ^ w)
    rw [Nat.mul_comm]; exact this
theorem sub_has {w m : Nat} {x : Int} {b : List Nat} (hb : Dg w b) (hm : b.length = m) (h : Builtin.bitAnd x (valN w b : Int) = x) : ∃ a : List Nat, a.length = m ∧ Dg w a ∧ x = (valN w a : Int) := by
  have r := PyProof.Rows.bitAnd_range x (y := (valN w b : Int)) (by exact Int.natCast_nonneg (valN w b))
  rw [h] at r
  have hlt := valN_lt w b hb
  rw [hm] at hlt
  refine ⟨dgs w m x.toNat, dgs_len w m _, dgs_dg w m _, ?_⟩
  rw [valN_dgs w m _ (by lia)]
  lia
end
section
open PySem PySem.Builtin PySem.Builtin.Str
theorem at_txt (l : List Nat) (c i : Nat) : StrLaws.At (txt l) (txt [c]) (txt l).length i ↔ l[i]? = some c := by
  have := StrLaws.subAt_one (txt l) c i
  rw [txt_list] at this
  exact this
theorem find_txt (l m : List Nat) (c : Nat) (h : c ∉ l) : Txt.find (txt (l ++ c :: m)) (txt [c]) = (l.length : Int) := by
  unfold Txt.find
  rcases StrLaws.occ_head (txt (l ++ c :: m)) (txt [c]) 1 (Nat.le_refl _) with ⟨_, hn⟩ | ⟨i, r, e, ha, hk⟩
  · exact absurd ((at_txt _ _ _).mpr (by simp)) (hn l.length)
  · rw [e]
    have h1 := (at_txt _ _ _).mp ha
    have h2 : ¬ i < l.length := fun q => by
      rw [List.getElem?_append_left q] at h1
      exact h (List.mem_of_getElem? h1)
    have h3 : ¬ l.length < i := fun q => hk l.length q ((at_txt _ _ _).mpr (by simp))
    have : i = l.length := by lia
    rw [this]
set_option genSizeOf false in
set_option genInjectivity false in
structure Pc where
  name : List Nat
  sign : Nat
  rest : List Nat
noncomputable def Pc.page (p : Pc) : List Nat := p.name ++ 59 :: p.rest
noncomputable def Pc.text (p : Pc) : List Nat := p.sign :: p.rest
noncomputable def manyL (ex : Str → Option Int) (t : List Nat) : Nat := if (ex (txt (t.take 3))).isSome then 3 else if (ex (txt (t.take 2))).isSome then 2 else 1
noncomputable def symL (ex : Str → Option Int) (p : List Nat) : List Int := match ex (txt p) with
  | some v => [v]
  | none => if Txt.contains (txt [97, 98, 99, 100]) (txt p) then [256 + Txt.find (txt [97, 98, 99, 100]) (txt p)] else []
noncomputable def tokL (ex : Str → Option Int) : Nat → List Nat → List Int
  | 0, _ => []
  | k + 1, t => if t = [] then [] else symL ex (t.take (manyL ex t)) ++ tokL ex k (t.drop (manyL ex t))
theorem manyL_pos (ex : Str → Option Int) (t : List Nat) : 1 ≤ manyL ex t := by
  unfold manyL
  split
  · decide
  · split <;> decide
theorem tokL_fuel (ex : Str → Option Int) : ∀ (n k : Nat) (t : List Nat), t.length ≤ n → t.length ≤ k → tokL ex k t = tokL ex n t
  | 0, k, t, h, _ => by
    have : t = [] := List.length_eq_zero_iff.mp (by lia)
    subst this
    cases k <;> rfl
  | n + 1, 0, t, _, h => by
    have : t = [] := List.length_eq_zero_iff.mp (by lia)
    subst this
    rfl
  | n + 1, k + 1, t, h1, h2 => by
    unfold tokL
    by_cases ht : t = []
    · rw [if_pos ht, if_pos ht]
    · rw [if_neg ht, if_neg ht]
      have hp : 0 < t.length := List.length_pos_iff.mpr ht
      have hm := manyL_pos ex t
      rw [tokL_fuel ex n k (t.drop (manyL ex t)) (by rw [List.length_drop]; lia) (by rw [List.length_drop]; lia)]
theorem tokL_step (ex : Str → Option Int) (t : List Nat) (ht : t ≠ []) : tokL ex t.length t = symL ex (t.take (manyL ex t)) ++ tokL ex (t.drop (manyL ex t)).length (t.drop (manyL ex t)) := by
  have hp : 0 < t.length := List.length_pos_iff.mpr ht
  obtain ⟨n, hn⟩ : ∃ n, t.length = n + 1 := ⟨t.length - 1, by lia⟩
  have hm := manyL_pos ex t
  have e : tokL ex t.length t = symL ex (t.take (manyL ex t)) ++ tokL ex n (t.drop (manyL ex t)) := by
    rw [hn]
    show (if t = [] then [] else _) = _
    rw [if_neg ht]
  rw [e, tokL_fuel ex (t.drop (manyL ex t)).length n (t.drop (manyL ex t)) (Nat.le_refl _) (by rw [List.length_drop]; lia)]
end
section
open PySem PySem.Calls
inductive DictOk : List (Option Expr) → List Expr → List (Str × Str) → Prop
  | nil : DictOk [] [] []
  | cons {k v : Str} {a b : Nat} {p q : Pos} {ks vs l} : DictOk ks vs l → DictOk (some (.Constant (.str k) a p) :: ks) (.Constant (.str v) b q :: vs) ((k, v) :: l)
noncomputable def KvR : List (Str × Value) → List (Str × Str) → Prop
  | [], [] => True
  | a :: r, b :: s => a.1 = b.1 ∧ (∃ t, a.2 = .str b.2 t) ∧ KvR r s
  | _, _ => False
section
variable {C : Cx} {n : Nat} {env : Env} {ρ : Rho} {own : Own}
theorem DictOk.pairs {ks : List (Option Expr)} {vs : List Expr} {l : List (Str × Str)} (h : DictOk ks vs l) (pos : Pos) : ∃ pairs : List (Sem Value × Sem Value), (evalEachOpt ks env).zip ((evalEach vs env).map fun v => do let x ← v; standAt pos; pure x) = pairs.map (fun p => (some p.1, p.2)) ∧ pairs.length = l.length ∧
    ∀ (A : Around) (s : Shared) (Q : List (Value × Value) → Shared → Prop) (E : Value → Shared → Prop), (∀ us kvs tk, s.toks ≤ tk → Carries (strKind C.prog C.w) us kvs → KvR kvs l → us.length = l.length → Q us { s with toks := tk }) → wpAny (model C.prog C.w) A (evalPairs pairs) Q E s := by
  induction h with
  | nil => exact ⟨[], rfl, rfl, fun A s Q E hQ => evalPairs_nil (hQ [] [] s.toks (Nat.le_refl _) (by constructor) trivial rfl)⟩
  | @cons k v a b p q ks vs l h ih =>
    refine e1a3 (ih :) fun pairs e hl hs => ?_
    refine ⟨(eval (.Constant (.str k) a p) env, do let x ← eval (.Constant (.str v) b q) env; standAt pos; pure x) :: pairs, ?_, by simp [hl], fun A s Q E hQ => ?_⟩
    · show (some (eval (.Constant (.str k) a p) env), _) :: (evalEachOpt ks env).zip ((evalEach vs env).map _) = _
      rw [e]; rfl
    · refine evalPairs_cons (wpAny_Constant_str (wpAny_bind (wpAny_Constant_str (wpAny_bind (wpAny_standAt (wpAny_pure ?_))))))
      refine hs A _ _ E fun us kvs tk ht hc hk hlen => ?_
      have ht' : s.toks ≤ tk := Nat.le_trans (Nat.le_add_right s.toks 2) ht
      exact hQ _ ((k, .str v (s.toks + 1)) :: kvs) tk ht' ⟨strKind_is C.prog C.w k _, rfl, hc⟩ ⟨rfl, ⟨_, rfl⟩, hk⟩ (by simp [hlen])
theorem KvR.names : ∀ {kvs : List (Str × Value)} {l : List (Str × Str)}, KvR kvs l → kvs.map (·.1) = l.map (·.1)
  | [], [], _ => rfl
  | a :: r, b :: s, h => by simp only [List.map_cons]; rw [h.1, KvR.names h.2.2]
  | [], _ :: _, h => h.elim
  | _ :: _, [], h => h.elim
theorem merged_new : ∀ (kvs acc : List (Str × Value)), ((acc ++ kvs).map (·.1)).Nodup → merged acc kvs = acc ++ kvs
  | [], acc, _ => by simp [merged]
  | kv :: r, acc, h => by
    have hn : (acc.any fun x => x.1 = kv.1) = false := by
      rw [Bool.eq_false_iff]
      intro hh
      refine e1a2 (List.any_eq_true.mp hh :) fun x hx e => ?_
      have e' : x.1 = kv.1 := by simpa using e
      rw [List.map_append, List.nodup_append] at h
      exact h.2.2 x.1 (List.mem_map_of_mem hx) kv.1 (by simp) e'
    show merged (stored acc kv.1 kv.2) r = _
    unfold stored
    rw [hn, if_neg Bool.false_ne_true]
    have := merged_new r (acc ++ [(kv.1, kv.2)]) (by simpa using h)
    rw [this]; simp
theorem KvR.value : ∀ {kvs : List (Str × Value)} {l : List (Str × Str)}, KvR kvs l → ∀ k, (l.lookup k = none → valueAt kvs k = none) ∧ (∀ x, l.lookup k = some x → ∃ t, valueAt kvs k = some (.str x t))
  | [], [], _, k => ⟨fun _ => rfl, nofun⟩
  | a :: r, b :: s, h, k => by
    refine e0a3 (h :) fun h1 w1q h3 => ?_; refine e1a1 (w1q :) fun t h2 => ?_
    have ih := KvR.value h3 k
    rw [List.lookup_cons]
    unfold valueAt at ih ⊢
    rw [List.find?_cons]
    cases hb : k == b.1 with
    | true =>
      have e : a.1 = k := by rw [h1]; exact (beq_iff_eq.mp hb).symm
      simp only [e, decide_true, Option.map_some, h2]
      exact ⟨nofun, fun x hx => by cases hx; exact ⟨t, rfl⟩⟩
    | false =>
      have e : ¬ a.1 = k := by rw [h1]; intro q; rw [q] at hb; simp at hb
      simp only [e, decide_false]
      exact ih
  | [], _ :: _, h, _ => h.elim
  | _ :: _, [], h, _ => h.elim
theorem Ev_dictS {ks : List (Option Expr)} {vs : List Expr} {l : List (Str × Str)} {pos : Pos} (h : DictOk ks vs l) (hl : l.length ≤ 15) (h0 : l ≠ []) (hn : (l.map (·.1)).Nodup) (hG : ∃ mg, C.G.Ns mainGlobals mg) : Ev C n env ρ own (.Dict ks vs pos) (.smap fun k => l.lookup k) := by
  intro A X s Q E R S hQ
  refine e1a3 (h.pairs (C := C) (env := env) pos :) fun pairs e hpl hs => ?_
  refine wpAny_Dict_pairs (knd := strKind C.prog C.w) e (fun q => h0 (by rw [q] at hpl; simpa using hpl.symm)) (by rw [hpl]; exact hl) ?_
  refine hs A _ _ E fun us kvs tk ht hc hk hlen => ?_
  refine ⟨kvs, hc, ?_, fun h' hd hs' => ?_⟩
  · exact Heap.DictOf.new s.heap
  · have hm : merged [] kvs = kvs := by
      have := merged_new kvs [] (by rw [List.nil_append, hk.names]; exact hn)
      simpa using this
    rw [hm] at hd
    have keep : ∀ b o, s.heap.get? b = some o → h'.get? b = some o := fun b o eb => hs'.extBut b o (Nat.ne_of_lt (Heap.lt_size eb)) (Heap.get?_push_of_some _ eb)
    refine hQ _ _ (Stp.of_keeps S.toBs keep (Nat.le_trans ht (Nat.le_add_right _ _))) (.smap S.toBs.new ?_ hd.mapOf (fun k hk' => (hk.value k).1 hk') fun k x hk' => (hk.value k).2 x hk')
    refine e4a2 (hG :) fun mg o _ _ e _ => ?_
    have h1 := Heap.lt_size (S.base _ _ e).2
    have h2 : sysModules < s.heap.objs.size := Nat.lt_of_le_of_lt (by decide : sysModules ≤ mainGlobals) h1
    rw [beq_eq_false_iff_ne]
    exact Nat.ne_of_gt h2
end
end
section
open PySem PySem.Calls PySem.W PySem.Builtin PySem.Builtin.Str
variable {C : Cx}
section
variable {n : Nat} {env : Env}
theorem Es_swap2W {ρ : Rho} {own : Own} {K : Out → Prop} {x1 x2 : Str} {p1 p2 tpos vpos pos : Pos} {k k2 : Nat} {v1 v2 : Expr} (hlc : (∃ o, (x1, Sl.loc, o) ∈ ρ) ∧ (∃ o, (x2, Sl.loc, o) ∈ ρ)) (he : EvW C n env ρ own (.Tuple [v1, v2] k2 vpos) fun d own' => ∃ d1 d2 ρ1 ρ', d = .tuple [d1, d2] ∧ UpL ρ x2 d2 ρ1 ∧ UpL ρ1 x1 d1 ρ' ∧ K (.next ρ' own'))
    (hl : (p2.line == p1.line) = true) (hne : (x1 == x2) = false) (hst : ([v1, v2].any fun | .Starred .. => true | _ => false) = false) (hff : [v1, v2].all (foldedForSure 8) = false) (hca : [v1, v2].all (constantsAlone 8) = false)
    (hs : swapsWithSole [.Tuple [.Name x1 p1, .Name x2 p2] k tpos] (.Tuple [v1, v2] k2 vpos) pos.line env = pure false) :
    Es C n env ρ own (.Assign [.Tuple [.Name x1 p1, .Name x2 p2] k tpos] (.Tuple [v1, v2] k2 vpos) pos) K := by
  refine Es_swap (names := [x1, x2]) (fun x hx => ?_) (fun A X s Q E R S hQ => he A X s Q E R S fun d own' v s' w1q => e4a4 (w1q :) fun d1 d2 ρ1 ρ' h0 h1 h2 hK => hQ d own' v s' ⟨[d1, d2], ρ', h0, rfl, .cons h1.up (.cons h2.up .nil), hK⟩) (fun hb hk => swap2 hb hk hl hne hst hff hca) hs
  simp only [List.mem_cons, List.not_mem_nil, or_false] at hx
  rcases hx with rfl | rfl
  · exact hlc.1
  · exact hlc.2
noncomputable def sgL : List (Str × Str) := [("amp", "&"), ("lt", "<"), ("gt", ">"), ("quot", "\""), ("#13", "\r"), ("#10", "\n"), ("#09", "\t"), ("#xD", "\r"), ("#xA", "\n"), ("#x9", "\t")]
noncomputable abbrev rhoS (ex : Str → Option Int) (page : Str) (signs pieces piece text symbols place many : Option D) : Rho :=
  [("page", .loc, some (.str page)), ("signs", .cel, signs), ("pieces", .loc, pieces), ("piece", .loc, piece), ("text", .loc, text), ("symbols", .loc, symbols), ("place", .loc, place), ("many", .loc, many), ("len", .glo, some (.val (.builtin "len"))), ("EXACT_TOKEN_TYPES", .glo, some (.imap ex))]
noncomputable def sgD : D := .smap fun k => sgL.lookup k
theorem symL_len (ex : Str → Option Int) (p : List Nat) : (symL ex p).length ≤ 1 := by
  unfold symL
  split
  · exact Nat.le_refl 1
  · split
    · exact Nat.le_refl 1
    · exact Nat.zero_le 1
set_option maxHeartbeats 400000 in
theorem vc_symLoop {ex : Str → Option Int} {page : Str} {pieces pc0 : Option D} {t : List Nat} {sy : Addr} {m0 : Option D} (hz : t.length ≤ 10000) :
    Ex C n env (rhoS ex page (some sgD) pieces pc0 (some (.str (txt t))) (some (.ref sy)) (some (.int 0)) m0) [(sy, [])] ((bodyAt 73).drop 4) fun o => match o with | .ret d' _ => d' = .list ((tokL ex t.length t ++ [0]).map .int) | .next _ _ => False := by
  refine Ex_cons ?_
  refine Es_while (fun k ρ own => ∃ (pl : Nat) (acc : List Int) (x1 x2 : Option D), k = t.length - pl ∧ acc ++ tokL ex (t.drop pl).length (t.drop pl) = tokL ex t.length t ∧ acc.length ≤ pl ∧ pl ≤ 20000 ∧ own = [(sy, acc.map .int)] ∧ ρ = rhoS ex page (some sgD) pieces x1 (some (.str (txt t))) (some (.ref sy)) (some (.int pl)) x2) t.length ⟨0, [], pc0, m0, rfl, rfl, Nat.le_refl _, by omega, rfl, rfl⟩ ?_
  intro k ρ own w1q; refine e4a6 (w1q :) fun pl acc x1 x2 r2q hR hal hpl r3q r4q => ?_; clear w1q; subst r2q; subst r3q; subst r4q
  refine ⟨decide ((pl : Int) < ((txt t).length : Int)), ?_, ?_, ?_⟩
  · exact EvT_cmp (d1 := .int pl) (d2 := .int (txt t).length) (by walk_at "v") (Ev_callB (id := "len") (ds := [.str (txt t)]) (by walk_at "at") (.cons (by walk_at "v") .nil rfl) (cal_len_str (by rw [txt_len]; exact Nat.lt_of_le_of_lt hz (by decide)))) op_lt rfl
  · intro hd
    have hlt : pl < t.length := by
      have : (pl : Int) < ((txt t).length : Int) := by simpa using hd
      rw [txt_len] at this; exact Int.ofNat_lt.mp this
    have hne : t.drop pl ≠ [] := fun q => absurd (List.drop_eq_nil_iff.mp q) (Nat.not_le.mpr hlt)
    have hm := manyL_pos ex (t.drop pl)
    have hm3 : manyL ex (t.drop pl) ≤ 3 := by unfold manyL; split; · decide
                                              · split <;> decide
    rw [tokL_step ex _ hne, ← List.append_assoc, List.drop_drop] at hR
    have sl : ∀ j : Nat, Txt.slice (txt t) (some (pl : Int)) (some ((pl : Int) + (j : Int))) = txt ((t.drop pl).take j) := fun j => by
      have e : (pl : Int) + (j : Int) = ((pl + j : Nat) : Int) := (Int.natCast_add pl j).symm
      rw [e, slice_txt _ _ _ (Nat.le_add_right _ _), Nat.add_sub_cancel_left]
    have sl3 : Txt.slice (txt t) (some (pl : Int)) (some ((pl : Int) + 3)) = txt ((t.drop pl).take 3) := sl 3
    have sl2 : Txt.slice (txt t) (some (pl : Int)) (some ((pl : Int) + 2)) = txt ((t.drop pl).take 2) := sl 2
    have szT : (txt t).length ≤ sizeLine := by rw [txt_len]; exact Nat.le_trans hz (by decide)
    generalize hmm : manyL ex (t.drop pl) = m at *
    generalize hpp : (t.drop pl).take m = p at *
    have hslen := symL_len ex p
    refine Ex_cons ?_
    apply Es_set (d := .int m)
    case he =>
      refine Ev_ifexp (b := (ex (txt ((t.drop pl).take 3))).isSome) ?_ (fun q => ?_) fun q => ?_
      · refine EvT_cmp (d1 := .str (txt ((t.drop pl).take 3))) (d2 := .imap ex) ?_ (by walk_at "v") op_inImap rfl
        rw [← sl3]
        exact Ev_sliceS (by walk_at "v") (.some (by walk_at "v")) (.some (by walk_at "v")) szT
      · have : m = 3 := by rw [← hmm]; unfold manyL; rw [if_pos q]
        rw [this]; exact Ev_int
      · refine Ev_ifexp (b := (ex (txt ((t.drop pl).take 2))).isSome) ?_ (fun q2 => ?_) fun q2 => ?_
        · refine EvT_cmp (d1 := .str (txt ((t.drop pl).take 2))) (d2 := .imap ex) ?_ (by walk_at "v") op_inImap rfl
          rw [← sl2]
          exact Ev_sliceS (by walk_at "v") (.some (by walk_at "v")) (.some (by walk_at "v")) szT
        · have : m = 2 := by rw [← hmm]; unfold manyL; rw [if_neg (by rw [q]; exact Bool.false_ne_true), if_pos q2]
          rw [this]; exact Ev_int
        · have : m = 1 := by rw [← hmm]; unfold manyL; rw [if_neg (by rw [q]; exact Bool.false_ne_true), if_neg (by rw [q2]; exact Bool.false_ne_true)]
          rw [this]; exact Ev_int
    case hu => walk_at "up"
    refine Ex_cons ?_
    apply Es_set (d := .str (txt p))
    case he =>
      rw [← hpp, ← sl m]
      exact Ev_sliceS (by walk_at "v") (.some (by walk_at "v")) (.some (by walk_at "v")) szT
    case hu => walk_at "up"
    refine Ex_cons ?_
    walk_at "v"
    have epl : (pl : Int) + (m : Int) = ((pl + m : Nat) : Int) := (Int.natCast_add pl m).symm
    rw [epl]
    have fin : ∀ acc' : List Int, acc' = acc ++ symL ex p → ∃ k', k' < t.length - pl ∧ ∃ (pl' : Nat) (acc : List Int) (x1 x2 : Option D), k' = t.length - pl' ∧ acc ++ tokL ex (t.drop pl').length (t.drop pl') = tokL ex t.length t ∧ acc.length ≤ pl' ∧ pl' ≤ 20000 ∧ [(sy, acc'.map D.int)] = [(sy, acc.map .int)] ∧
        rhoS ex page (some sgD) pieces (some (.str (txt p))) (some (.str (txt t))) (some (.ref sy)) (some (.int ((pl + m : Nat) : Int))) (some (.int m)) = rhoS ex page (some sgD) pieces x1 (some (.str (txt t))) (some (.ref sy)) (some (.int pl')) x2 := fun acc' ha =>
      ⟨t.length - (pl + m), Nat.sub_lt_sub_left hlt (Nat.lt_add_of_pos_right hm), pl + m, acc', _, _, rfl, by rw [ha]; exact hR, by rw [ha, List.length_append]; exact Nat.add_le_add hal (Nat.le_trans hslen hm), Nat.le_trans (Nat.add_le_add (Nat.le_trans (Nat.le_of_lt hlt) hz) hm3) (by decide), rfl, rfl⟩
    refine Ex_cons ?_
    cases hv : ex (txt p) with
    | some v =>
      refine Es_if (b := true) (EvT_cmp (d1 := .str (txt p)) (d2 := .imap ex) (by walk_at "v") (by walk_at "v") (op_inImapB (by rw [hv]; rfl)) rfl) (fun _ => ?_) nofun
      refine Ex_cons ?_
      refine Es_append (a := sy) (ds0 := acc.map .int) (by walk_at "v") .head rfl (EvW_pure (d := .int v) (Ev_sub (d1 := .imap ex) (d2 := .str (txt p)) (by walk_at "v") (by walk_at "v") (it_imap hv) (fun _ _ => rfl)) ⟨acc.map .int, [(sy, (acc ++ [v]).map .int)], by rw [List.map_append]; exact .head, by rw [List.length_map]; exact Nat.le_trans hal (Nat.le_trans hpl (by decide)), ?_⟩) rfl rfl
      exact Ex_nil (Ex_nil (fin _ (by unfold symL; rw [hv])))
    | none =>
      refine Es_if (b := false) (EvT_cmp (d1 := .str (txt p)) (d2 := .imap ex) (by walk_at "v") (by walk_at "v") (op_inImapB (by rw [hv]; rfl)) rfl) nofun fun _ => ?_
      refine Ex_cons ?_
      refine Es_if (b := Txt.contains (txt [97, 98, 99, 100]) (txt p)) (EvT_cmp (d1 := .str (txt p)) (d2 := .str (txt [97, 98, 99, 100])) (by walk_at "v") Ev_str op_inS rfl) (fun hc => ?_) fun hc => ?_
      · refine Ex_cons ?_
        refine Es_append (a := sy) (ds0 := acc.map .int) (by walk_at "v") .head rfl (EvW_pure (d := .int (256 + Txt.find (txt [97, 98, 99, 100]) (txt p))) (Ev_bin Ev_int (Ev_index (x := txt [97, 98, 99, 100]) Ev_str (.cons (by walk_at "v") .nil rfl) hc rfl rfl) op_add) ⟨acc.map .int, [(sy, (acc ++ [256 + Txt.find (txt [97, 98, 99, 100]) (txt p)]).map .int)], by rw [List.map_append]; exact .head, by rw [List.length_map]; exact Nat.le_trans hal (Nat.le_trans hpl (by decide)), ?_⟩) rfl rfl
        exact Ex_nil (Ex_nil (Ex_nil (fin _ (by unfold symL; rw [hv]; dsimp only; rw [if_pos hc]))))
      · exact Ex_nil (Ex_nil (Ex_nil (fin _ (by unfold symL; rw [hv]; dsimp only; rw [if_neg (by rw [hc]; exact Bool.false_ne_true), List.append_nil]))))
  · intro hd
    have hge : t.length ≤ pl := by
      have : ¬ (pl : Int) < ((txt t).length : Int) := by simpa using hd
      rw [txt_len] at this; exact Nat.le_of_not_lt fun q => this (Int.ofNat_lt.mpr q)
    rw [List.drop_of_length_le hge] at hR
    have hR' : acc = tokL ex t.length t := by rw [← hR]; simp [tokL]
    refine Ex_freeze .head (.skip (.skip (.skip (.skip (.skip (.cons .here .same nofun)))))) .nil ?_
    refine Ex_cons ?_
    refine Es_ret (d := .list (acc.map .int ++ [.int 0])) (Ev_bin (by walk_at "v") (by walk_at "v") (op_addL (by simp; unfold sizeLine; omega))) ?_
    show D.list _ = _
    rw [← hR', List.map_append]; rfl
end
end
section
open PySem PySem.Calls PySem.W PySem.Builtin PySem.Builtin.Str
variable {C : Cx}
theorem strs_txt : ∀ (xs : List Str) (ps : List (List Nat)), xs.map (fun p : Str => p.cps.toList) = ps → xs = ps.map txt
  | [], ps, h => by subst h; rfl
  | x :: r, ps, h => by
    subst h
    simp only [List.map_cons]
    rw [txt_of, ← strs_txt r _ rfl]
theorem split_is {l : List Nat} {c : Nat} {ps : List (List Nat)} (h : splitL c l = ps) : Txt.split (txt l) (txt [c]) = ps.map txt :=
  strs_txt _ _ ((split_txt l c).trans h)
structure GoodPc (p : Pc) : Prop where
  semi : 59 ∉ p.name
  sign : sgL.lookup (txt p.name) = some (txt [p.sign])
theorem join_nil : ∀ ps : List (List Nat), Txt.join (txt []) (ps.map txt) = txt ps.flatten := by
  intro ps
  show glued (txt []) _ = _
  rw [StrLaws.glued_eq_join, ← txt_of (Str.join _ _), join_txt]
  congr 1
  have e : ∀ ps : List (List Nat), (ps.map txt).map (fun p : Str => p.cps.toList) = ps := by
    intro ps
    induction ps with
    | nil => rfl
    | cons p r ih => simp only [List.map_cons]; rw [txt_list, ih]
  rw [e]
  induction ps with
  | nil => rfl
  | cons p r ih =>
    cases r with
    | nil => simp [joinL]
    | cons q r =>
      show p ++ [] ++ joinL [] (q :: r) = _
      rw [ih]; simp
end
section
open PySem PySem.Calls PySem.W PySem.Builtin PySem.Builtin.Str
variable {C : Cx}
theorem sgL_len : sgL.length ≤ 15 := by show 10 ≤ 15; decide
theorem sgL_ne : sgL ≠ [] := List.cons_ne_nil _ _
theorem sgL_nd : (sgL.map (·.1)).Nodup := by decide +kernel
noncomputable def dictAt : List (Option Expr) × List Expr × Pos := match bodyAt 73 with
  | .Assign _ (.Dict ks vs pos) _ :: _ => (ks, vs, pos)
  | _ => ([], [], ⟨0, 0, 0, 0⟩)
theorem dict_ok : DictOk dictAt.1 dictAt.2.1 sgL := by
  unfold sgL
  refine .cons (.cons (.cons (.cons (.cons (.cons (.cons (.cons (.cons (.cons .nil)))))))))
section
variable {n : Nat} {env : Env}
end
end
section
open PySem PySem.Calls PySem.W PySem.Builtin PySem.Builtin.Str
variable {C : Cx}
section
variable {n : Nat} {env : Env}
theorem take1 {α : Type} (f : List α) : (f.drop 1).take (f.length - 1) = f.tail := by
  cases f with
  | nil => rfl
  | cons a r => simp
theorem pc_text {p : Pc} (h : GoodPc p) : (p.page.drop (p.name.length + 1)) = p.rest := by
  unfold Pc.page
  rw [← List.drop_drop]; simp
theorem pc_name {p : Pc} : (p.page.take p.name.length) = p.name := by
  unfold Pc.page
  simp
theorem body73 : ∃ ks vs p2 p pos, bodyAt 73 = .Assign [.Name "signs" p] (.Dict ks vs p2) pos :: (bodyAt 73).drop 1 ∧ DictOk ks vs sgL := ⟨_, _, _, _, _, rfl, dict_ok⟩
theorem es_signs {ρ ρ' : Rho} {own : Own} {x : Str} {p pos p2 : Pos} {ks vs} {K : Out → Prop} (hd : DictOk ks vs sgL) (hG : ∃ mg, C.G.Ns mainGlobals mg) (hu : Up ρ x sgD ρ') (h : K (.next ρ' own)) : Es C n env ρ own (.Assign [.Name x p] (.Dict ks vs p2) pos) K := by
  have h1 := sgL_len
  have h2 := sgL_ne
  have h3 := sgL_nd
  unfold sgD at hu
  generalize sgL = l at hd hu h1 h2 h3 ⊢
  exact Es_set (Ev_dictS hd h1 h2 h3 hG) hu h rfl
set_option maxHeartbeats 400000 in
theorem vc_symbols {ex : Str → Option Int} {l head : List Nat} {pcs : List Pc} (hG : ∃ mg, C.G.Ns mainGlobals mg) (hl : splitL 38 l = head :: pcs.map Pc.page) (hp : ∀ p ∈ pcs, GoodPc p) (hz : l.length ≤ 5000) (hpn : pcs.length ≤ 5000) (hpz : ∀ p ∈ pcs, p.page.length ≤ 5000) (hT : (head ++ (pcs.map Pc.text).flatten).length ≤ 5000) (hok : JoinOk (txt []) ((pcs.map Pc.text).map txt) = true) :
    Ex C n env (rhoS ex (txt l) none none none none none none none) [] (bodyAt 73) fun o => match o with | .ret d' _ => d' = .list ((tokL ex (head ++ (pcs.map Pc.text).flatten).length (head ++ (pcs.map Pc.text).flatten) ++ [0]).map .int) | .next _ _ => False := by
  obtain ⟨ks, vs, p2, p, pos, eb, hd⟩ := body73
  rw [eb]
  refine Ex_cons ?_
  refine es_signs hd hG (by walk_at "up") ?_
  have hsp := split_is hl
  refine Ex_cons ?_
  apply Es_set (d := .list ((Txt.split (txt l) (txt [38])).map .str))
  case he => exact Ev_split (x := txt l) (y := txt [38]) (by walk_at "v") (.cons Ev_str .nil rfl) rfl (by rw [txt_len]; unfold sizeLine; lia) rfl rfl
  case hu => walk_at "up"
  rw [hsp]
  refine Ex_cons ?_
  apply Es_set (d := .str (txt (head ++ (pcs.map Pc.text).flatten)))
  case he =>
    have e : txt (head ++ (pcs.map Pc.text).flatten) = txt head ++ Txt.join (txt []) ((pcs.map Pc.text).map txt) := by rw [join_nil, txt_app]
    rw [e]
    refine Ev_bin (d1 := .str (txt head)) (d2 := .str (Txt.join (txt []) ((pcs.map Pc.text).map txt))) (Ev_sub (d1 := .list (((head :: pcs.map Pc.page).map txt).map .str)) (d2 := .int 0) (by walk_at "v") (by walk_at "v") (it_list (by decide) (by decide) rfl) (fun _ _ => rfl)) (Ev_join Ev_str (.cons ?_ .nil rfl) hok rfl rfl) (op_addS ?_)
    · have e1 : ((pcs.map Pc.text).map txt).map D.str = pcs.map fun p => D.str (txt p.text) := by simp [Function.comp_def]
      rw [e1]
      refine Ev_new (EvN_comp (frozen := true) (ds := pcs.map fun p => D.str (txt p.page)) [("piece", .loc, none), ("signs", .cap, some sgD)] ?_ (by walk_at "comps") (fun L2 cells2 => ?_) (by rw [List.length_map]; unfold sizeLine; lia))
      · have e2 : (pcs.map fun p => D.str (txt p.page)) = ((((head :: pcs.map Pc.page).map txt).map D.str).drop (W.kms_lo (some 1) (((head :: pcs.map Pc.page).map txt).map D.str).length)).take (W.kms_hi none (((head :: pcs.map Pc.page).map txt).map D.str).length - W.kms_lo (some 1) (((head :: pcs.map Pc.page).map txt).map D.str).length) := by
          have e3 : W.kms_lo (some 1) (((head :: pcs.map Pc.page).map txt).map D.str).length = 1 := by
            simp [W.kms_lo]
          rw [e3]
          show _ = List.take ((((head :: pcs.map Pc.page).map txt).map D.str).length - 1) _
          rw [take1]
          simp [Function.comp_def]
        rw [e2]
        exact EvI_list (Ev_sliceL (by walk_at "v") (.some Ev_int) .none (by rw [List.length_map, List.length_map, List.length_cons, List.length_map]; unfold sizeLine; lia))
      · refine CompR_map (fun p : Pc => D.str (txt p.page)) (fun p => D.str (txt p.text)) pcs fun p hpp => ?_
        have g := hp p hpp
        have hz2 := hpz p hpp
        have hl1 : p.name.length < p.page.length := by unfold Pc.page; simp
        have szP : (txt p.page).length ≤ sizeLine := by rw [txt_len]; unfold sizeLine; lia
        have hf : Txt.find (txt p.page) (txt [59]) = (p.name.length : Int) := find_txt _ _ _ g.semi
        have hc : Txt.contains (txt p.page) (txt [59]) = true := by rw [contains_txt]; simp [Pc.page]
        refine ⟨_, .name (by walk_at "up"), .lose (.same .nil), .nil, ?_⟩
        have et : txt p.text = txt [p.sign] ++ txt p.rest := by rw [txt_app]; rfl
        rw [et]
        refine Ev_bin (d1 := .str (txt [p.sign])) (d2 := .str (txt p.rest)) (Ev_sub (d1 := sgD) (d2 := .str (txt p.name)) (by walk_at "v") ?_ (it_smap g.sign) (fun _ _ => rfl)) ?_ (op_addS ?_)
        · have en : txt p.name = Txt.slice (txt p.page) none (some (p.name.length : Int)) := by rw [slice_to, pc_name]
          rw [en, ← hf]
          exact Ev_sliceS (by walk_at "v") .none (.some (Ev_index (x := txt p.page) (by walk_at "v") (.cons Ev_str .nil rfl) hc rfl rfl)) szP
        · have en : txt p.rest = Txt.slice (txt p.page) (some (Txt.find (txt p.page) (txt [59]) + 1)) none := by
            rw [hf]
            have : ((p.name.length : Int) + 1) = ((p.name.length + 1 : Nat) : Int) := by exact Int.natCast_add p.name.length 1
            rw [this, slice_from, pc_text g]
          rw [en]
          exact Ev_sliceS (by walk_at "v") (.some (Ev_bin (Ev_index (x := txt p.page) (by walk_at "v") (.cons Ev_str .nil rfl) hc rfl rfl) Ev_int op_add)) .none szP
        · rw [txt_len, txt_len]; unfold Pc.page at hz2; unfold sizeLine; simp at hz2 ⊢; lia
    · rw [join_nil, txt_len, txt_len, ← List.length_append]; unfold sizeLine; lia
  case hu => walk_at "up"
  refine Ex_cons ?_
  refine Es_swap2W ⟨LocIn.ex (by repeat (first | exact .head | apply LocIn.tail)), LocIn.ex (by repeat (first | exact .head | apply LocIn.tail))⟩ (EvW_tuple ⟨rfl, EvW_new (ds := []) (EvN_list .nil) fun sy => ⟨rfl, EvW_pure (d := .int 0) Ev_int ?_⟩⟩) rfl rfl rfl rfl rfl rfl
  refine ⟨.ref sy, .int 0, _, _, rfl, by walk_at "upl", by walk_at "upl", ?_⟩
  exact vc_symLoop (by lia)
end
end
section
open PySem PySem.Calls
open PySem.Sem (wp)
structure ZA (z TI TO i1 i2 l2 : Addr) : Prop where
  TIz : TI ≠ z
  TOz : TO ≠ z
  i1z : i1 ≠ z
  i2z : i2 ≠ z
  TITO : TI ≠ TO
  TIi1 : TI ≠ i1
  TIi2 : TI ≠ i2
  TOi1 : TO ≠ i1
  TOi2 : TO ≠ i2
  i12 : i1 ≠ i2
  l2z : l2 ≠ z
  l2TO : l2 ≠ TO
  l2i1 : l2 ≠ i1
  l2i2 : l2 ≠ i2
noncomputable abbrev ascT : String := "str_ascii_iterator"
section
variable {prog : Program} {w : World} {A : Around} {E : Value → Shared → Prop} {s : Shared}
theorem zipS_next_item {z TI TO i1 i2 l2 : Addr} {k1 k2 c : Nat} {xs : Str} {tx : Tok} {ys : Array Value} {y a b : Value} {Q : Value → Shared → Prop} (D : ZA z TI TO i1 i2 l2)
    (hz : IsZip s.heap z TI TO .none) (hTI : IsPair s.heap TI (.ref i1) (.ref i2)) (hTO : IsPair s.heap TO a b)
    (h1 : s.heap.IsStrIter i1 ascT xs tx k1) (h2 : s.heap.IsListIter i2 l2 k2) (hl2 : s.heap.IsList l2 ys) (hx : xs.cps[k1]? = some c) (hy : ys[k2]? = some y)
    (hQ : ∀ h', IsZip h' z TI TO (rawInt s.heap.objs.size) → IsPair h' TO (.str ⟨#[c]⟩ s.toks) y → h'.IsStrIter i1 ascT xs tx (k1 + 1) → h'.IsListIter i2 l2 (k2 + 1) → IsPair h' s.heap.objs.size (.str ⟨#[c]⟩ s.toks) y → h'.objs.size = s.heap.objs.size + 1 →
      (∀ c o, c ≠ z → c ≠ TO → c ≠ i1 → c ≠ i2 → s.heap.get? c = some o → h'.get? c = some o) → Q (.ref s.heap.objs.size) { s with heap := h', toks := s.toks + 1 }) :
    wpAny (model prog w) A (Builtin.«zip.__next__» ⟨[.ref z], []⟩) (fun fin s' => ∃ v, fin = .done (.ret v) ∧ Q v s') E s := by
  show wpAny _ _ (field (.ref z) 2 >>= _) _ _ _
  refine wpAny_bind (wpAny_field hz rfl (x := .bool false) rfl ?_)
  show wpAny _ _ (field (.ref z) 3 >>= _) _ _ _
  refine wpAny_bind (wpAny_field hz rfl (x := .ref TI) rfl ?_)
  refine wpAny_bind (wpAny_seqItems hTI rfl ?_)
  show wpAny _ _ (Builtin.SmallTypes.ownedTupleIsFree (.ref z) >>= _) _ _ _
  refine wpAny_bind ?_
  unfold Builtin.SmallTypes.ownedTupleIsFree
  refine wpAny_bind (wpAny_field hz rfl (x := .none) rfl (wpAny_pure ?_))
  simp only [if_true]
  refine wpAny_bind (wpAny_rule ?_)
  refine wpAny_bind (wpAny_field hz rfl (x := .ref TO) rfl ?_)
  refine wpAny_bind (wpAny_setField_rec hz (by simp) fun h₁ hz₁ hs₁ => ?_)
  replace hz₁ : IsZip h₁ z TI TO .ellipsis := hz₁
  refine wpAny_bind ?_
  simp only [List.zipIdx_cons, List.zipIdx_nil, List.forIn_cons, List.forIn_nil]
  refine wpAny_bind (wpAny_bind (wpAny_onRaise ?_))
  show wpAny _ _ (Builtin.SmallTypes.nextOf (.ref i1) >>= _) _ _ _
  refine wpAny_bind (wpAny_nextOf_ascii_item (h1.extBut hs₁.extBut D.i1z) hx fun h₂ h1₂ hs₂ => wpAny_pure ?_)
  have hTO₂ : IsPair h₂ TO a b := hs₂.extBut _ _ D.TOi1 (hs₁.extBut _ _ D.TOz hTO)
  refine wpAny_bind (wpAny_seqItems hTO₂ rfl ?_)
  refine wpAny_bind (wpAny_updateSeq_pair hTO₂ fun h₃ hTO₃ hs₃ => ?_)
  replace hTO₃ : IsPair h₃ TO (.str ⟨#[c]⟩ s.toks) b := hTO₃
  refine wpAny_bind (wpAny_letGo (wpAny_pure ?_))
  refine wpAny_bind (wpAny_bind (wpAny_onRaise ?_))
  show wpAny _ _ (Builtin.SmallTypes.nextOf (.ref i2) >>= _) _ _ _
  refine wpAny_bind (wpAny_nextOf_list_item (((h2.extBut hs₁.extBut D.i2z).extBut hs₂.extBut D.i12.symm).extBut hs₃.extBut D.TOi2.symm)
    (((hl2.extBut hs₁.extBut D.l2z).extBut hs₂.extBut D.l2i1).extBut hs₃.extBut D.l2TO) hy fun h₄ h2₄ hs₄ => wpAny_pure ?_)
  have hTO₄ : IsPair h₄ TO (.str ⟨#[c]⟩ s.toks) b := hs₄.extBut _ _ D.TOi2 hTO₃
  refine wpAny_bind (wpAny_seqItems hTO₄ rfl ?_)
  refine wpAny_bind (wpAny_updateSeq_pair hTO₄ fun h₅ hTO₅ hs₅ => ?_)
  replace hTO₅ : IsPair h₅ TO (.str ⟨#[c]⟩ s.toks) y := hTO₅
  refine wpAny_bind (wpAny_letGo (wpAny_pure (wpAny_pure ?_)))
  refine wpAny_bind (wpAny_seqItems hTO₅ rfl ?_)
  refine wpAny_bind (wpAny_newTuple ?_)
  have hsz : h₅.objs.size = s.heap.objs.size := by rw [hs₅.1, hs₄.1, hs₃.1, hs₂.1, hs₁.1]
  have hz₅ : IsZip h₅ z TI TO .ellipsis := hs₅.extBut _ _ D.TOz.symm (hs₄.extBut _ _ D.i2z.symm (hs₃.extBut _ _ D.TOz.symm (hs₂.extBut _ _ D.i1z.symm hz₁)))
  have hk₅ : ∀ c o, c ≠ z → c ≠ TO → c ≠ i1 → c ≠ i2 → s.heap.get? c = some o → h₅.get? c = some o := fun c o c1 c2 c3 c4 e =>
    hs₅.extBut _ _ c2 (hs₄.extBut _ _ c4 (hs₃.extBut _ _ c2 (hs₂.extBut _ _ c3 (hs₁.extBut _ _ c1 e))))
  have h1₅ : h₅.IsStrIter i1 ascT xs tx (k1 + 1) := ((h1₂.extBut hs₃.extBut D.TOi1.symm).extBut hs₄.extBut D.i12).extBut hs₅.extBut D.TOi1.symm
  have h2₅ : h₅.IsListIter i2 l2 (k2 + 1) := h2₄.extBut hs₅.extBut D.TOi2.symm
  have hzlt : z < h₅.objs.size := Heap.lt_size hz₅
  have hTOlt : TO < h₅.objs.size := Heap.lt_size hTO₅
  have hi1lt : i1 < h₅.objs.size := by refine e1a2 (h1₅ :) fun _ e _ => ?_; exact Heap.lt_size e
  have hi2lt : i2 < h₅.objs.size := by refine e1a2 (h2₅ :) fun _ e _ => ?_; exact Heap.lt_size e
  show wpAny _ _ (Builtin.SmallTypes.ownedTupleHandOut (.ref z) (.ref h₅.objs.size) >>= _) _ _ _
  refine wpAny_bind ?_
  unfold Builtin.SmallTypes.ownedTupleHandOut
  have hz₆ : IsZip (h₅.push { cls := .type "tuple", data := .seq #[.str ⟨#[c]⟩ s.toks, y] }) z TI TO .ellipsis := Heap.get?_push_of_some _ hz₅
  refine wpAny_bind (wpAny_setField_rec hz₆ (by simp) fun h₇ hz₇ hs₇ => ?_)
  replace hz₇ : IsZip h₇ z TI TO (rawInt h₅.objs.size) := hz₇
  refine wpAny_setField_rec hz₇ (by simp) fun h₈ hz₈ hs₈ => ?_
  replace hz₈ : IsZip h₈ z TI TO (rawInt h₅.objs.size) := hz₈
  have up : ∀ c o, c ≠ z → h₅.get? c = some o → h₈.get? c = some o := fun c o c1 e => hs₈.extBut _ _ c1 (hs₇.extBut _ _ c1 (Heap.get?_push_of_some _ e))
  have hT₈ : IsPair h₈ h₅.objs.size (.str ⟨#[c]⟩ s.toks) y := hs₈.extBut _ _ (Nat.ne_of_gt hzlt) (hs₇.extBut _ _ (Nat.ne_of_gt hzlt) (Heap.get?_push_size _ rfl))
  have hz8 : h₈.objs.size = h₅.objs.size + 1 := by rw [hs₈.1, hs₇.1, Heap.size_push]
  rw [hsz] at hz₈ hT₈ hz8
  refine wpAny_pure ⟨_, rfl, ?_⟩
  show Q (.ref h₅.objs.size) _
  rw [hsz]
  exact hQ h₈ hz₈ (up _ _ D.TOz hTO₅) (e1a2 (h1₅ :) fun o e r => ⟨o, up _ o D.i1z e, r⟩) (h2₅.at fun o e => up _ o D.i2z e) hT₈ hz8 fun c o c1 c2 c3 c4 e => up c o c1 (hk₅ c o c1 c2 c3 c4 e)
theorem zipS_next_end {z TI TO i1 i2 l2 : Addr} {k1 : Nat} {xs : Str} {tx : Tok} {a b : Value} {Q : Fin → Shared → Prop} (hh : A.handled = none) (D : ZA z TI TO i1 i2 l2)
    (hz : IsZip s.heap z TI TO .none) (hTI : IsPair s.heap TI (.ref i1) (.ref i2)) (hTO : IsPair s.heap TO a b)
    (h1 : s.heap.IsStrIter i1 ascT xs tx k1) (hx : xs.cps[k1]? = none)
    (hE : ∀ h' e, (∀ c o, c ≠ z → c ≠ TO → c ≠ i1 → c ≠ i2 → s.heap.get? c = some o → h'.get? c = some o) → (∃ o, h'.get? e = some o ∧ o.cls = .type "StopIteration") → E (.ref e) { s with heap := h' }) :
    wpAny (model prog w) A (Builtin.«zip.__next__» ⟨[.ref z], []⟩) Q E s := by
  show wpAny _ _ (field (.ref z) 2 >>= _) _ _ _
  refine wpAny_bind (wpAny_field hz rfl (x := .bool false) rfl ?_)
  show wpAny _ _ (field (.ref z) 3 >>= _) _ _ _
  refine wpAny_bind (wpAny_field hz rfl (x := .ref TI) rfl ?_)
  refine wpAny_bind (wpAny_seqItems hTI rfl ?_)
  show wpAny _ _ (Builtin.SmallTypes.ownedTupleIsFree (.ref z) >>= _) _ _ _
  refine wpAny_bind ?_
  unfold Builtin.SmallTypes.ownedTupleIsFree
  refine wpAny_bind (wpAny_field hz rfl (x := .none) rfl (wpAny_pure ?_))
  simp only [if_true]
  refine wpAny_bind (wpAny_rule ?_)
  refine wpAny_bind (wpAny_field hz rfl (x := .ref TO) rfl ?_)
  refine wpAny_bind (wpAny_setField_rec hz (by simp) fun h₁ hz₁ hs₁ => ?_)
  replace hz₁ : IsZip h₁ z TI TO .ellipsis := hz₁
  refine wpAny_bind ?_
  simp only [List.zipIdx_cons, List.zipIdx_nil, List.forIn_cons, List.forIn_nil]
  refine wpAny_bind (wpAny_bind (wpAny_onRaise ?_))
  show wpAny _ _ (Builtin.SmallTypes.nextOf (.ref i1) >>= _) _ _ _
  refine wpAny_bind (wpAny_nextOf_ascii_end hh (h1.extBut hs₁.extBut D.i1z) hx fun h₂ e hs₂ he => ?_)
  refine e1a2 (he :) fun oe hoe hce => ?_
  have hz₂ : IsZip h₂ z TI TO .ellipsis := hs₂ _ _ D.i1z.symm hz₁
  have hez : e ≠ z := fun x => by subst x; rw [hz₂] at hoe; cases hoe; simp at hce
  refine wpAny_setField_rec hz₂ (by simp) fun h₃ _ hs₃ => hE h₃ e (fun c o c1 _ c3 _ x => hs₃.extBut _ _ c1 (hs₂ _ _ c3 (hs₁.extBut _ _ c1 x))) ⟨oe, hs₃.extBut _ _ hez hoe, hce⟩
theorem pyNext_zipS_item {z TI TO i1 i2 l2 : Addr} {k1 k2 c : Nat} {xs : Str} {tx : Tok} {ys : Array Value} {y a b : Value} {Q : Option Value → Shared → Prop} (D : ZA z TI TO i1 i2 l2)
    (hz : IsZip s.heap z TI TO .none) (hTI : IsPair s.heap TI (.ref i1) (.ref i2)) (hTO : IsPair s.heap TO a b)
    (h1 : s.heap.IsStrIter i1 ascT xs tx k1) (h2 : s.heap.IsListIter i2 l2 k2) (hl2 : s.heap.IsList l2 ys) (hx : xs.cps[k1]? = some c) (hy : ys[k2]? = some y)
    (hQ : ∀ h', IsZip h' z TI TO (rawInt s.heap.objs.size) → IsPair h' TO (.str ⟨#[c]⟩ s.toks) y → h'.IsStrIter i1 ascT xs tx (k1 + 1) → h'.IsListIter i2 l2 (k2 + 1) → IsPair h' s.heap.objs.size (.str ⟨#[c]⟩ s.toks) y → h'.objs.size = s.heap.objs.size + 1 →
      (∀ c o, c ≠ z → c ≠ TO → c ≠ i1 → c ≠ i2 → s.heap.get? c = some o → h'.get? c = some o) → Q (some (.ref s.heap.objs.size)) { s with heap := h', toks := s.toks + 1 }) :
    wpAny (model prog w) A (pyNext (.ref z)) Q E s := by
  have hT : s.TypeIs (.ref z) "zip" := ⟨_, hz, rfl⟩
  unfold pyNext
  exact wpAny_bind (wpAny_attempt (wpAny_callSpecial?_slot (name := Str.ofString "__next__") hT F.slot_zip_next
    (wpAny_call_entry F.slot_zip_next hT F.entry_zip_next
      (zipS_next_item D hz hTI hTO h1 h2 hl2 hx hy fun h' a1 a2 a3 a4 a5 a6 a7 => wpAny_pure (hQ h' a1 a2 a3 a4 a5 a6 a7)) (F.args_zip_next_1 _))))
theorem pyNext_zipS_end {z TI TO i1 i2 l2 : Addr} {k1 : Nat} {xs : Str} {tx : Tok} {a b : Value} {Q : Option Value → Shared → Prop} (hh : A.handled = none) (D : ZA z TI TO i1 i2 l2)
    (hz : IsZip s.heap z TI TO .none) (hTI : IsPair s.heap TI (.ref i1) (.ref i2)) (hTO : IsPair s.heap TO a b)
    (h1 : s.heap.IsStrIter i1 ascT xs tx k1) (hx : xs.cps[k1]? = none)
    (hQ : ∀ h', (∀ c o, c ≠ z → c ≠ TO → c ≠ i1 → c ≠ i2 → s.heap.get? c = some o → h'.get? c = some o) → Q none { s with heap := h' }) : wpAny (model prog w) A (pyNext (.ref z)) Q E s := by
  have hT : s.TypeIs (.ref z) "zip" := ⟨_, hz, rfl⟩
  unfold pyNext
  refine wpAny_bind (wpAny_attempt (wpAny_callSpecial?_slot (name := Str.ofString "__next__") hT F.slot_zip_next
    (wpAny_call_entry F.slot_zip_next hT F.entry_zip_next (zipS_next_end hh D hz hTI hTO h1 hx fun h' e hk he => ?_) (F.args_zip_next_1 _))))
  refine e1a2 (he :) fun o ho hc => ?_
  refine wpAny_bind (wpAny_isInstance (T := "StopIteration") (b := true) ⟨o, ho, hc⟩ isSubtype_stop ?_)
  exact wpAny_pure (hQ _ hk)
end
noncomputable abbrev zipS1 (h : Heap) (x : Str) (t : Tok) : Heap := h.push { cls := .type "str_ascii_iterator", data := .fields #[.str x t, .int 0 0] }
noncomputable abbrev zipS2 (h : Heap) (x : Str) (t : Tok) (l2 : Addr) : Heap := (zipS1 h x t).push { cls := .type "list_iterator", data := .fields #[.ref l2, .int 0 0] }
noncomputable abbrev zipS3 (h : Heap) (x : Str) (t : Tok) (l2 : Addr) : Heap := (zipS2 h x t l2).push { cls := .type "tuple", data := .seq #[.ref h.objs.size, .ref (zipS1 h x t).objs.size] }
noncomputable abbrev zipS4 (h : Heap) (x : Str) (t : Tok) (l2 : Addr) : Heap := (zipS3 h x t l2).push { cls := .type "tuple", data := .seq #[.none, .none] }
noncomputable abbrev zipS5 (h : Heap) (x : Str) (t : Tok) (l2 : Addr) : Heap := (zipS4 h x t l2).push { cls := .type "zip", data := .fields #[.none, .bool false, .bool false, .ref (zipS2 h x t l2).objs.size, .ref (zipS3 h x t l2).objs.size] }
set_option maxHeartbeats 1000000 in
theorem meets_zipS_new (x : Str) (t : Tok) (ha : x.cps.all (· < 128) = true) (l2 : Addr) (ys : Array Value) :
    Meets (Builtin.«zip.__new__» ⟨[.type "zip", .str x t, .ref l2], []⟩) (fun _ R s => s.heap.IsList l2 ys ∧
      R (.ok (.ret (.ref (zipS4 s.heap x t l2).objs.size))) { s with heap := zipS5 s.heap x t l2 }) :=
  .of_wp fun prog w A R s h => by
    obtain ⟨hp, g, d, tk, os⟩ := s; refine e0a2 (h :) fun hl2 h => ?_
    have hsub := sub_zip
    have hL2 : Heap.IsList (Shared.heap ⟨hp.push { cls := .type "str_ascii_iterator", data := .fields #[.str x t, .int 0 0] }, g, d, tk, os⟩) l2 ys := Heap.IsList.push hl2 _
    wp_walk using wpAny_pyIter_ascii ha, wpAny_pyIter_list hL2
    exact ⟨_, rfl, h⟩
end
section
open PySem PySem.Calls
structure ItrZ (C : Cx) (A : Around) (wr : List Addr) (I : Addr) (ds : List D) (S : Nat → Heap → List Addr → Prop) : Prop where
  frame : ∀ i h h' Y Y', S i h Y → Fz Y h Y' h' → (∀ b ∈ wr, ∀ o, h.get? b = some o → h'.get? b = some o) → S i h' Y'
  item : ∀ i (s : Shared) (Q : Option Value → Shared → Prop) (E : Value → Shared → Prop) (Y : List Addr) d, ds[i]? = some d → S i s.heap Y → (∀ b ∈ wr, b ∈ Y) → (∀ b ∈ Y, ∃ o, s.heap.get? b = some o) →
    (∀ v s1, (∀ elts k pos (Q' : Unit → Shared → Prop) (E' : Value → Shared → Prop), (∀ h' tk, VR C h' Y v d → S (i + 1) h' Y → (∀ b o, b ∉ wr → s.heap.get? b = some o → h'.get? b = some o) → (∀ b ∈ wr, ∃ o, h'.get? b = some o) → s.toks ≤ tk → Q' () { s with heap := h', toks := tk }) →
      wpAny (model C.prog C.w) A (letOwnedTupleGo (.Tuple elts k pos) (.ref I) v) Q' E' s1) → Q (some v) s1) → wpAny (model C.prog C.w) A (pyNext (.ref I)) Q E s
  done : ∀ (s : Shared) (Q : Option Value → Shared → Prop) (E : Value → Shared → Prop) (Y : List Addr), S ds.length s.heap Y →
    (∀ h' tk, (∀ b o, b ∉ wr → s.heap.get? b = some o → h'.get? b = some o) → s.toks ≤ tk → Q none { s with heap := h', toks := tk }) → wpAny (model C.prog C.w) A (pyNext (.ref I)) Q E s
  self : ∀ i (s : Shared) (Q : Value → Shared → Prop) (E : Value → Shared → Prop) (Y : List Addr), S i s.heap Y → Q (.ref I) s → wpAny (model C.prog C.w) A (pyIter (.ref I)) Q E s
noncomputable def EvZ (C : Cx) (n : Nat) (env : Env) (ρ : Rho) (own : Own) (e : Expr) (ds : List D) : Prop :=
  ∀ (A : Around) (X : List Addr) (s : Shared) (Q : Value → Shared → Prop) (E : Value → Shared → Prop), Room A n → StR C X env ρ own s →
    (∀ I s' wr S, Stp C X s s' → TabOk C s'.heap (wr ++ X) → (∀ b ∈ wr, b ∉ C.tP ∧ b ∉ X ∧ s.heap.get? b = none ∧ ∃ o, s'.heap.get? b = some o) → ItrZ C A wr I ds S → S 0 s'.heap (wr ++ X) → Q (.ref I) s') →
    wpAny (model C.prog C.w) A (eval e env) (fun x s₁ => wpAny (model C.prog C.w) A (pyIter x) Q E s₁) E s
noncomputable def TrnD (C : Cx) (n : Nat) (cenv : Env) (ρc : Rho) (own : Own) (target kx vx : Expr) (ifs : List Expr) (d : D) : Option (Str × Str) → Prop
  | some f => ∃ ρ1, Asg target d ρc ρ1 ∧ Fgt ρ1 ρc ∧ EvTs C n cenv ρ1 own ifs true ∧ Ev C n cenv ρ1 own kx (.str f.1) ∧ Ev C n cenv ρ1 own vx (.str f.2)
  | none => ∃ ρ1, Asg target d ρc ρ1 ∧ Fgt ρ1 ρc ∧ EvTs C n cenv ρ1 own ifs false
inductive CompRD (C : Cx) (n : Nat) (cenv : Env) (ρc : Rho) (own : Own) (target kx vx : Expr) (ifs : List Expr) : List D → List (Str × Str) → Prop
  | nil : CompRD C n cenv ρc own target kx vx ifs [] []
  | keep {d f ds fs} : TrnD C n cenv ρc own target kx vx ifs d (some f) → CompRD C n cenv ρc own target kx vx ifs ds fs → CompRD C n cenv ρc own target kx vx ifs (d :: ds) (f :: fs)
  | skip {d ds fs} : TrnD C n cenv ρc own target kx vx ifs d none → CompRD C n cenv ρc own target kx vx ifs ds fs → CompRD C n cenv ρc own target kx vx ifs (d :: ds) fs
theorem KvR.snoc : ∀ {kvs : List (Str × Value)} {l : List (Str × Str)} {f : Str × Str} {t : Tok}, KvR kvs l → KvR (kvs ++ [(f.1, .str f.2 t)]) (l ++ [f])
  | [], [], f, t, _ => ⟨rfl, ⟨t, rfl⟩, trivial⟩
  | a :: r, b :: s, f, t, h => ⟨h.1, h.2.1, KvR.snoc h.2.2⟩
  | [], _ :: _, _, _, h => h.elim
  | _ :: _, [], _, _, h => h.elim
section
variable {C : Cx} {n : Nat} {env : Env} {ρ ρc : Rho} {own : Own}
theorem compD_core {kx vx iter : Expr} {elts : List Expr} {ek : Nat} {epos : Pos} {ifs : List Expr} {scope : Scope} {pos pos' : Pos} {ds : List D} {fs : List (Str × Str)} {use : Option (Value → Sem Unit)} {A : Around} {X : List Addr} {s : Shared} {E : Value → Shared → Prop} {Q : Value → Shared → Prop}
    (hi : EvZ C n env ρ own iter ds) (H : CompS C ρ ρc scope) (hc : ∀ L cells, CompRD C n (compEnvC scope cells L env) ρc own (.Tuple elts ek epos) kx vx ifs ds fs) (hz : fs.length ≤ sizeLine) (hnd : (fs.map (·.1)).Nodup) (hs : ∀ x, foldedSetIterable iter env x = pure x)
    (R : Room A n) (S : StR C X env ρ own s)
    (hQ : ∀ D L s' kvs m, Stp C X s s' → (∀ b o, b ∉ C.tP → s.heap.get? b = some o → b < D) → s.heap.get? D = none → s.heap.get? L = none → D ≠ L → D ∉ C.tP → L ∉ C.tP → TabOk C s'.heap (D :: L :: X) → s'.heap.DictOf (strKind C.prog C.w) D kvs → KvR kvs fs → s'.heap.Ns L m →
      compPost (model C.prog C.w) A E use Q (.ref D) L (.ok .next) s') :
    wpAny (model C.prog C.w) A (comprehension (.DictComp kx vx [⟨.Tuple elts ek epos, iter, ifs, 0⟩] scope pos) scope env pos' newDict false (eval iter env) use) Q E s := by
  refine comp_gen (Cont := fun h a kvs => h.DictOf (strKind C.prog C.w) a kvs) (Rel := fun _ _ kvs fd => KvR kvs fd) (CR := fun cenv ds fs => CompRD C n cenv ρc own (.Tuple elts ek epos) kx vx ifs ds fs) (El := fun cenv ρ1 f => Ev C n cenv ρ1 own kx (.str f.1) ∧ Ev C n cenv ρ1 own vx (.str f.2)) (emit := fun D cenv => do
            let kv ← eval kx cenv
            let vv ← holding [kv] (eval vx cenv)
            standAt { kx.pos with endLine := vx.pos.endLine, endCol := vx.pos.endCol }
            holding [kv, vv] (dictSet D kv vv)) (o1 := { cls := .type "dict", dict := none, data := .dict #[] }) (c0 := [])
    rfl (fun _ _ _ => rfl) (fun _ _ _ => rfl) (fun I D cenv => compTurn_dict ..) (fun _ _ _ _ _ h0 h => codeAny_compStart_dict h0 h) (fun _ _ h => wpAny_newObj_type h) (fun h => Heap.DictOf.new h) (fun _ _ => trivial) (fun a e => Heap.DictOf.at a e) (fun a => e3a2 a fun _ _ _ e _ => ⟨_, e⟩) (fun _ r => r) ?_ hc ?_ (fun q => by cases q; rfl) ?_ H hs R S (fun D L s' vs m t => hQ D L s' vs m t)
  · intro cenv ρ1 Y D f kvs fd fr s Q E hel S hD D6 hvi hfd hQ
    refine wpAny_bind (hel.1 A Y _ _ _ R S fun v7 s7 t7 r7 => ?_)
    apply VR.elimS r7; intro tk0
    have S7 := S.step t7
    refine wpAny_bind (wpAny_holding (hel.2 A Y _ _ _ R S7 fun v9 s9 t9 r9 => ?_))
    apply VR.elimS r9; intro tk1
    have t79 := t7.trans t9
    have D9 := Heap.DictOf.at D6 fun o e => t79.keep _ o hD e
    revert D9; apply Stp.elim t79; intro h9 tk9 ht9 k9 T9 t9 D9
    have hnm := hvi.names
    have hvl : kvs.length ≤ sizeLine := by
      have e1 := congrArg List.length hnm
      have e2 := congrArg List.length hfd
      simp only [List.length_map, List.length_append] at e1 e2
      lia
    have hst : stored kvs f.1 (.str f.2 tk1) = kvs ++ [(f.1, .str f.2 tk1)] := by
      have hn : (kvs.any fun x => x.1 = f.1) = false := by
        rw [Bool.eq_false_iff]
        intro hh
        refine e1a2 (List.any_eq_true.mp hh :) fun x hx e => ?_
        have e' : x.1 = f.1 := of_decide_eq_true e
        have : x.1 ∈ kvs.map (·.1) := List.mem_map_of_mem hx
        rw [hnm] at this
        rw [← hfd, List.map_append, List.nodup_append] at hnd
        exact hnd.2.2 x.1 this f.1 List.mem_cons_self e'
      unfold stored
      rw [hn, if_neg Bool.false_ne_true]
    exact wpAny_bind (wpAny_standAt (wpAny_holding (wpAny_dictSet_pairs (hsz := hvl) (strKind_is C.prog C.w f.1 tk0) D9 fun h8 hl8 hs8 => hQ h9 tk9 h8 (tk9 + 1) _ t9 hs8 (Nat.le_succ _) (hst ▸ hl8) fun _ => hvi.snoc)))
  · intro cenv d ds fs q
    cases q with
    | keep hT hr => exact .inl (e1a5 hT fun ρ1 a b c d1 d2 => ⟨_, _, ρ1, rfl, a, b, c, ⟨d1, d2⟩, hr⟩)
    | skip hT hr => exact .inr (e1a3 hT fun ρ1 a b c => ⟨ρ1, a, b, c, hr⟩)
  · intro Q h
    exact hi A X s _ E R S fun I s2 wr SI t2 tab2 hwr it st => h I s2 wr wr SI t2 tab2 hwr (fun _ => .inl) ⟨it.frame, fun i s Q E Y d hd st hY hb hQ => it.item i s Q E Y d hd st hY hb fun v s1 k => hQ v s1 (k elts ek epos), it.done, it.self⟩ st
end
end
section
open PySem PySem.Calls
theorem call_zipS {prog : Program} {w : World} {A : Around} {E : Value → Shared → Prop} {s : Shared} {x : Str} {t : Tok} {l2 : Addr} {ys : Array Value} {Q : Value → Shared → Prop} (ha : x.cps.all (· < 128) = true) (hl2 : s.heap.IsList l2 ys)
    (h : ∀ h', IsZip h' (s.heap.objs.size + 4) (s.heap.objs.size + 2) (s.heap.objs.size + 3) .none → IsPair h' (s.heap.objs.size + 2) (.ref s.heap.objs.size) (.ref (s.heap.objs.size + 1)) →
      IsPair h' (s.heap.objs.size + 3) .none .none → h'.IsStrIter s.heap.objs.size ascT x t 0 → h'.IsListIter (s.heap.objs.size + 1) l2 0 → h'.objs.size = s.heap.objs.size + 5 →
      (∀ c o, s.heap.get? c = some o → h'.get? c = some o) → Q (.ref (s.heap.objs.size + 4)) { s with heap := h' }) :
    wpAny (model prog w) A (call (.type "zip") [.str x t, .ref l2]) Q E s := by
  refine callType_new F.called_zip (by decide) (F.typeCall_zip_2 _ _) (F.newCall_zip_2 _ _) (fun obj => F.args_object_init_3 obj _ _) F.entry_zip_new
    (meets_zipS_new x t ha l2 ys) ⟨hl2, ?_⟩
  have z1 : (zipS1 s.heap x t).objs.size = s.heap.objs.size + 1 := Heap.size_push ..
  have z2 : (zipS2 s.heap x t l2).objs.size = s.heap.objs.size + 2 := by rw [Heap.size_push, z1]
  have z3 : (zipS3 s.heap x t l2).objs.size = s.heap.objs.size + 3 := by rw [Heap.size_push, z2]
  have z4 : (zipS4 s.heap x t l2).objs.size = s.heap.objs.size + 4 := by rw [Heap.size_push, z3]
  have z5 : (zipS5 s.heap x t l2).objs.size = s.heap.objs.size + 5 := by rw [Heap.size_push, z4]
  have g5 : (zipS5 s.heap x t l2).get? (zipS4 s.heap x t l2).objs.size = some _ := Heap.get?_push_size _ rfl
  have g4 : (zipS5 s.heap x t l2).get? (zipS3 s.heap x t l2).objs.size = some _ := Heap.get?_push_of_some _ (Heap.get?_push_size _ rfl)
  have g3 : (zipS5 s.heap x t l2).get? (zipS2 s.heap x t l2).objs.size = some _ := Heap.get?_push_of_some _ (Heap.get?_push_of_some _ (Heap.get?_push_size _ rfl))
  have g2 : (zipS5 s.heap x t l2).get? (zipS1 s.heap x t).objs.size = some _ := Heap.get?_push_of_some _ (Heap.get?_push_of_some _ (Heap.get?_push_of_some _ (Heap.get?_push_size _ rfl)))
  have g1 : (zipS5 s.heap x t l2).get? s.heap.objs.size = some _ := Heap.get?_push_of_some _ (Heap.get?_push_of_some _ (Heap.get?_push_of_some _ (Heap.get?_push_of_some _ (Heap.get?_push_size _ rfl))))
  show _ ∧ _
  rw [z2, z3, z4] at g5
  rw [z1, z2] at g3
  rw [z3] at g4
  rw [z1] at g2
  rw [z4]
  exact ⟨⟨_, g5, rfl⟩, h _ g5 g3 g4 ⟨_, g1, rfl, rfl⟩ ⟨_, g2, rfl, rfl⟩ z5 fun c o x =>
    Heap.get?_push_of_some _ (Heap.get?_push_of_some _ (Heap.get?_push_of_some _ (Heap.get?_push_of_some _ (Heap.get?_push_of_some _ x))))⟩
theorem zaN (N l2 : Nat) (h : l2 < N) : ZA (N + 4) (N + 2) (N + 3) N (N + 1) l2 := by
  constructor <;> (show (_ : Nat) ≠ _; lia)
structure ZSt (C : Cx) (z TI TO i1 i2 l2 : Addr) (xs : Str) (tx : Tok) (ds : List D) (i : Nat) (h : Heap) (Y : List Addr) : Prop where
  z : IsZip h z TI TO .none
  ti : IsPair h TI (.ref i1) (.ref i2)
  to : ∃ a b, IsPair h TO a b
  i1 : h.IsStrIter i1 ascT xs tx i
  i2 : h.IsListIter i2 l2 i
  off : l2 ∉ Y
  l : ∃ ys, h.IsList l2 ys ∧ VRs C h Y ys.toList ds
noncomputable def zipD (xs : Str) (ds : List D) : List D := (xs.cps.toList.zip ds).map fun p => .tuple [.str ⟨#[p.1]⟩, p.2]
theorem zipD_get {xs : Str} {ds : List D} {i : Nat} {d : D} (h : (zipD xs ds)[i]? = some d) : ∃ c y, xs.cps[i]? = some c ∧ ds[i]? = some y ∧ d = .tuple [.str ⟨#[c]⟩, y] := by
  unfold zipD at h
  rw [List.getElem?_map] at h
  refine e1a2 (Option.map_eq_some_iff.mp h :) fun p hp r2q => ?_; subst r2q
  rw [List.getElem?_zip_eq_some] at hp
  exact ⟨p.1, p.2, by simpa using hp.1, hp.2, rfl⟩
section
variable {C : Cx} {n : Nat} {env : Env} {ρ ρc : Rho} {own : Own}
theorem zs_itr {A : Around} (hh : A.handled = none) {z TI TO i1 i2 l2 : Addr} {xs : Str} {tx : Tok} {ds : List D} (hlen : xs.cps.size = ds.length) (Z : ZA z TI TO i1 i2 l2) :
    ItrZ C A [z, TI, TO, i1, i2] z (zipD xs ds) (ZSt C z TI TO i1 i2 l2 xs tx ds) where
  frame i h h' Y Y' S k w := by
    have g : ∀ {b o}, b ∈ [z, TI, TO, i1, i2] → h.get? b = some o → h'.get? b = some o := fun hb e => w _ hb _ e
    refine e1a2 (S.l :) fun ys hl hv => ?_
    have hk := isList_lt hl
    refine e1a1 (hk :) fun o ho => ?_
    refine e2a1 (S.to :) fun a b hto => ?_
    refine ⟨g (by simp) S.z, g (by simp) S.ti, ⟨a, b, g (by simp) hto⟩, ?_, S.i2.at fun o e => g (by simp) e, (k _ _ S.off ho).1, ys, hl.at fun o e => (k _ _ S.off e).2, hv.mono k⟩
    refine e1a2 (S.i1 :) fun o1 e1 r1 => ?_
    exact ⟨o1, g (by simp) e1, r1⟩
  item i s Q E Y d hd S hY hbd hQ := by
    refine e2a3 (zipD_get hd :) fun c y hc hy r4q => ?_; subst r4q
    refine e1a2 (S.l :) fun ys hl hv => ?_
    refine e2a1 (S.to :) fun a b hto => ?_
    refine e1a2 (hv.get hy :) fun v hyv rv => ?_
    refine pyNext_zipS_item Z S.z S.ti hto S.i1 S.i2 hl hc (by simpa using hyv) fun h' a1 a2 a3 a4 a5 a6 a7 => hQ _ _ fun elts k pos Q' E' hQ' => ?_
    refine wpAny_letOwnedTupleGo_zip (s := { s with heap := h', toks := s.toks + 1 }) a1 fun h2 hz2 hs2 => ?_
    have fresh : s.heap.objs.size ∉ Y := fun q => e1a1 (hbd _ q :) fun o e => Nat.lt_irrefl _ (Heap.lt_size e)
    have up : ∀ c o, c ∉ [z, TI, TO, i1, i2] → s.heap.get? c = some o → h2.get? c = some o := fun c o hc e => by
      simp only [List.mem_cons, List.not_mem_nil, or_false, not_or] at hc
      exact hs2.extBut _ _ hc.1 (a7 c o hc.1 hc.2.2.1 hc.2.2.2.1 hc.2.2.2.2 e)
    have zf : Fz Y s.heap Y h2 := fun b o hb e => ⟨hb, up b o (fun q => hb (hY b q)) e⟩
    have zlt : z < s.heap.objs.size := Heap.lt_size S.z
    have hTI' : IsPair h2 TI (.ref i1) (.ref i2) := hs2.extBut _ _ Z.TIz (a7 _ _ Z.TIz Z.TITO Z.TIi1 Z.TIi2 S.ti)
    refine e1a1 (isList_lt hl :) fun o0 e0 => ?_
    have hl2 : h2.IsList l2 ys := hl.at fun o e => up l2 o (fun q => S.off (hY _ q)) e
    have hT2 : h2.IsTuple s.heap.objs.size #[.str ⟨#[c]⟩ s.toks, v] := ⟨_, hs2.extBut _ _ (Nat.ne_of_gt zlt) a5, rfl, _, rfl⟩
    refine hQ' h2 _ (.tuple fresh hT2 (.cons (.str _ _) (.cons (rv.mono zf) .nil))) ⟨hz2, hTI', ⟨_, _, hs2.extBut _ _ Z.TOz a2⟩, a3.extBut hs2.extBut Z.i1z, a4.extBut hs2.extBut Z.i2z, S.off, ys, hl2, hv.mono zf⟩ up ?_ (Nat.le_succ _)
    · intro b hb
      simp only [List.mem_cons, List.not_mem_nil, or_false] at hb
      rcases hb with rfl | rfl | rfl | rfl | rfl
      · exact ⟨_, hz2⟩
      · exact ⟨_, hTI'⟩
      · exact ⟨_, hs2.extBut _ _ Z.TOz a2⟩
      · refine e1a2 (a3.extBut hs2.extBut Z.i1z :) fun o e _ => ?_; exact ⟨o, e⟩
      · refine e1a2 (a4.extBut hs2.extBut Z.i2z :) fun o e _ => ?_; exact ⟨o, e⟩
  done s Q E Y S hQ := by
    refine e2a1 (S.to :) fun a b hto => ?_
    have hx : xs.cps[(zipD xs ds).length]? = none := by
      have : (zipD xs ds).length = xs.cps.size := by unfold zipD; simp [hlen]
      rw [this]; simp
    refine pyNext_zipS_end hh Z S.z S.ti hto S.i1 hx fun h' k => hQ h' s.toks (fun b o hb e => ?_) (Nat.le_refl _)
    simp only [List.mem_cons, List.not_mem_nil, or_false, not_or] at hb
    exact k b o hb.1 hb.2.2.1 hb.2.2.2.1 hb.2.2.2.2 e
  self i s Q E Y S hQ := wpAny_pyIter_zip S.z hQ
theorem EvZ_zip {x : Str} {p pos : Pos} {e1 e2 : Expr} {xs : Str} {ds : List D} (hx : At ρ x (.val (.type "zip"))) (hs : Evs C n env ρ own [e1, e2] [.str xs, .list ds]) (ha : xs.cps.all (· < 128) = true) (hlen : xs.cps.size = ds.length) :
    EvZ C n env ρ own (.Call (.Name x p) [e1, e2] [] pos) (zipD xs ds) := by
  intro A X s Q E R S hQ
  refine PyProof.Rows.Call_Name rfl (Ev_name hx A X s _ E R S fun v1 s1 t1 r1 => ?_)
  apply VR.elimV r1
  refine PyProof.Rows.callWith_type1 (hs.sound pos A X s1 _ E R (S.step t1) fun vs s2 t2 r2 => ?_) hs.tail1.2 (hs.tail1.1.plain pos)
  apply VRs.elimC r2
  intro _ _ ra rb
  apply VRs.elimC rb
  intro _ _ rb rc
  apply VRs.elimN rc
  apply VR.elimS ra
  intro tk
  apply VR.elimL rb; intro l2 us hoff hl hv
  have S2 := (S.step t1).step t2
  have t12 := t1.trans t2
  refine call_zipS ha hl fun h' a1 a2 a3 a4 a5 a6 a7 => ?_
  refine wpAny_pyIter_zip (s := { s2 with heap := h' }) a1 ?_
  refine e1a1 ((show ∃ N : Nat, N = s2.heap.objs.size from ⟨_, rfl⟩) :) fun N hN => ?_
  rw [← hN] at a1 a2 a3 a4 a5 a6 ⊢
  have fr : ∀ a, N ≤ a → s2.heap.get? a = none := fun a ha => by
    cases e : s2.heap.get? a with
    | none => rfl
    | some o' => exact absurd (Heap.lt_size e) (by rw [← hN]; exact Nat.not_lt.mpr ha)
  have wN : ∀ b ∈ [N + 4, N + 2, N + 3, N, N + 1], N ≤ b := fun b hb => by
    simp only [List.mem_cons, List.not_mem_nil, or_false] at hb
    lia
  have t3 : Stp C X s2 { s2 with heap := h', toks := s2.toks } := Stp.of_keeps S2.toBs a7
  have hsT : ∀ b, s2.heap.get? b = none → b ∉ C.tP := fun b hb q => e1a1 (S2.tab.there b q :) fun o e => by rw [hb] at e; cases e
  have lLt : l2 < N := by refine e1a1 (isList_lt hl :) fun o e => ?_; rw [hN]; exact Heap.lt_size e
  have hZA : ZA (N + 4) (N + 2) (N + 3) N (N + 1) l2 := zaN N l2 lLt
  have zf : Fz X s2.heap ([N + 4, N + 2, N + 3, N, N + 1] ++ X) h' := fun b o hb e => ⟨fun q => by
    rcases List.mem_append.mp q with q | q
    · rw [fr b (wN b q)] at e; cases e
    · exact hb q, a7 b o e⟩
  refine hQ (N + 4) _ [N + 4, N + 2, N + 3, N, N + 1] _ (t12.trans t3) (S2.tab.mono zf fun P _ o e => a7 P o e) (fun b hb => ?_)
    (zs_itr R.h hlen hZA)
    (ZSt.mk a1 a2 ⟨_, _, a3⟩ a4 a5 (fun q => by
      rcases List.mem_append.mp q with q | q
      · exact absurd (wN _ q) (Nat.not_le.mpr lLt)
      · exact hoff q) ⟨_, hl.at fun o e => a7 _ _ e, hv.mono zf⟩)
  have hb' := fr b (wN b hb)
  refine ⟨hsT b hb', fun q => ?_, ?_, ?_⟩
  · refine e1a1 (S2.bd b q :) fun o e => ?_; rw [hb'] at e; cases e
  · cases e : s.heap.get? b with
    | none => rfl
    | some o => exact absurd (t12.keep b o (hsT b hb') e) (by rw [hb']; exact nofun)
  · simp only [List.mem_cons, List.not_mem_nil, or_false] at hb
    rcases hb with rfl | rfl | rfl | rfl | rfl
    · exact ⟨_, a1⟩
    · exact ⟨_, a2⟩
    · exact ⟨_, a3⟩
    · refine e1a2 (a4 :) fun o e _ => ?_; exact ⟨o, e⟩
    · refine e1a2 (a5 :) fun o e _ => ?_; exact ⟨o, e⟩
theorem Ev_dictComp {kx vx iter : Expr} {elts : List Expr} {ek : Nat} {epos : Pos} {ifs : List Expr} {scope : Scope} {pos : Pos} {ds : List D} {fs : List (Str × Str)} (ρc : Rho) (hi : EvZ C n env ρ own iter ds) (H : CompS C ρ ρc scope)
    (hc : ∀ L cells, CompRD C n (compEnvC scope cells L env) ρc own (.Tuple elts ek epos) kx vx ifs ds fs) (hz : fs.length ≤ sizeLine) (hnd : (fs.map (·.1)).Nodup) (hG : ∃ mg, C.G.Ns mainGlobals mg) (hs : ∀ x, foldedSetIterable iter env x = pure x := by intro _; rfl) :
    Ev C n env ρ own (.DictComp kx vx [⟨.Tuple elts ek epos, iter, ifs, 0⟩] scope pos) (.smap fun k => fs.lookup k) := by
  intro A X s Q E R S hQ
  rw [arm_eval_DictComp]
  refine compD_core hi H hc hz hnd hs R S fun D L s' kvs m t kD nD nL hDL tD tL T P r hn => ⟨m, hn, fun h' hs' => ?_⟩
  have hk : ∀ b o, s.heap.get? b = some o → s'.heap.get? b = some o → h'.get? b = some o := fun b o e e' => hs'.extBut b o (fun q => by rw [q, nL] at e; cases e) e'
  have LT : ∀ P ∈ C.tP, P ≠ L := fun P hP q => tL (q ▸ hP)
  have z : Fz (D :: L :: X) s'.heap (D :: X) h' := fun b o hb e => ⟨fun q => hb (by
      rcases List.mem_cons.mp q with r | q
      · exact r ▸ List.mem_cons_self
      · exact List.mem_cons_of_mem _ (List.mem_cons_of_mem _ q)), hs'.extBut b o (fun q => hb (q ▸ List.mem_cons_of_mem _ List.mem_cons_self)) e⟩
  have T' : TabOk C h' (D :: X) := T.mono z fun P hP o e => hs'.extBut P o (LT P hP) e
  refine e2a4 (t :) fun h1 tk e1 z1 k1 T1 => ?_
  subst e1
  have hd : h'.DictOf (strKind C.prog C.w) D kvs := Heap.DictOf.at P fun o e => hs'.extBut D o hDL e
  refine hQ (.ref D) _ ⟨h', tk, rfl, z1, fun b o hb e => hk b o e (k1 b o hb e), T'.less fun b hb => List.mem_cons_of_mem _ hb⟩ (.smap (new_off (s' := s) S.toBs nD) ?_ hd.mapOf (fun k hk' => (r.value k).1 hk') fun k x hk' => (r.value k).2 x hk')
  refine e4a2 (hG :) fun mg o _ _ e _ => ?_
  refine e0a2 (S.base _ _ e :) fun e0 e1 => ?_
  have h2 := kD _ _ (fun q => e0 (S.tx _ q)) e1
  rw [beq_eq_false_iff_ne]
  exact Nat.ne_of_gt (Nat.lt_of_le_of_lt (by decide : sysModules ≤ mainGlobals) h2)
theorem op_neS {a b : Str} : Op2 C n (compareOp .NotEq) (.str a) (.str b) (.bool (a != b)) := by
  intro A X s Q E v1 v2 R B r1 r2 hQ
  apply VR.elimS r1; intro _; apply VR.elimS r2; intro _
  exact PyProof.Rows.ne_str (hQ _ _ (Stp.refl B.tab) (.bool _))
theorem Es_setCell {ρ' : Rho} {K : Out → Prop} {x : Str} {p pos : Pos} {e : Expr} {d : D} (he : Ev C n env ρ own e d) (hu : Up ρ x d ρ') (h : K (.next ρ' own)) (hm : ∃ o, (x, Sl.cel, o) ∈ ρ)
    (hs : env.kindOf x = some .cell → swapsWith e (some (.Name x p)) pos.line env = pure false) : Es C n env ρ own (.Assign [.Name x p] e pos) K := by
  intro A X s Q E R S hQ
  refine e1a1 (hm :) fun o hm => ?_
  refine e1a2 (S.vars :) fun m0 hn0 hv0 => ?_
  have hk : env.kindOf x = some .cell := (hv0 _ hm).elimC fun _ b _ => b
  exact Es_set he hu h (hs hk) A X s Q E R S hQ
theorem swaps_dictComp {x : Str} {p spos : Pos} {kx vx : Expr} {g : List Comprehension} {scope : Scope} {pos : Pos} (hk : env.kindOf x = some .cell) : swapsWith (.DictComp kx vx g scope pos) (some (.Name x p)) spos.line env = pure false := by
  show (pure (env.blockKind == .function && env.kindOf x == some .local && p.line == pos.line && !(scope.names.any fun (n, k) => n == x && (k == .local || k == .cell))) : Sem Bool) = pure false
  have e : (some NameKind.cell == some NameKind.local) = false := rfl
  rw [hk, e]
  simp
theorem CompRD_fm {α : Type} {cenv : Env} {target kx vx : Expr} {ifs : List Expr} (f : α → D) (g : α → Option (Str × Str)) : ∀ l : List α, (∀ a ∈ l, TrnD C n cenv ρc own target kx vx ifs (f a) (g a)) → CompRD C n cenv ρc own target kx vx ifs (l.map f) (l.filterMap g)
  | [], _ => .nil
  | a :: r, h => by
    have ih := CompRD_fm f g r fun b hb => h b (List.mem_cons_of_mem _ hb)
    have h0 := h a List.mem_cons_self
    rw [List.filterMap_cons]
    cases e : g a with
    | none => rw [e] at h0; exact .skip h0 ih
    | some q => rw [e] at h0; exact .keep h0 ih
end
end
section
open PySem PySem.Calls PySem.W PySem.Builtin PySem.Builtin.Str
variable {C : Cx}
noncomputable def nA : List Nat := [97, 109, 112]
noncomputable def nL : List Nat := [108, 116]
noncomputable def nG : List Nat := [103, 116]
noncomputable def nQ : List Nat := [113, 117, 111, 116]
noncomputable def nms (hand : Int) : List (List Nat) :=
  if hand = 0 then [nA, nL, nG, [45], [45], [45], [45]] else if hand = 1 then [nA, nL, nG, nQ, [35, 49, 51], [35, 49, 48], [35, 48, 57]] else if hand = 2 then [nA, [45], nG, nQ, [45], [45], [45]]
  else if hand = 3 then [nA, nL, nG, [45], [35, 120, 68], [45], [45]] else [nA, nL, [45], nQ, [35, 120, 68], [35, 120, 65], [35, 120, 57]]
noncomputable def sgn : List Nat := [38, 60, 62, 34, 13, 10, 9]
noncomputable def spG (p : Nat × List Nat) : Option (Nat × List Nat) := if p.2 = [45] then none else some (p.1, 38 :: (p.2 ++ [59]))
noncomputable def sp (hand : Int) : List (Nat × List Nat) := (sgn.zip (nms hand)).filterMap spG
noncomputable def tg (p : Nat × List Nat) : Str × Str := (txt [p.1], txt p.2)
theorem five {hand : Int} (h0 : 0 ≤ hand) (h4 : hand ≤ 4) : hand = 0 ∨ hand = 1 ∨ hand = 2 ∨ hand = 3 ∨ hand = 4 := by lia
theorem sp_esc {hand : Int} (h0 : 0 ≤ hand) (h4 : hand ≤ 4) (c : Nat) : (sp hand).lookup c = (escs hand).lookup c := by
  rcases five h0 h4 with rfl | rfl | rfl | rfl | rfl
  · rfl
  · rfl
  · rfl
  · rfl
  · have e1 : sp 4 = [(38, [38, 97, 109, 112, 59]), (60, [38, 108, 116, 59]), (34, [38, 113, 117, 111, 116, 59]), (13, [38, 35, 120, 68, 59]), (10, [38, 35, 120, 65, 59]), (9, [38, 35, 120, 57, 59])] := by decide +kernel
    have e2 : escs 4 = [(38, [38, 97, 109, 112, 59]), (60, [38, 108, 116, 59]), (34, [38, 113, 117, 111, 116, 59]), (9, [38, 35, 120, 57, 59]), (10, [38, 35, 120, 65, 59]), (13, [38, 35, 120, 68, 59])] := by decide +kernel
    rw [e1, e2]
    simp only [List.lookup_cons, List.lookup_nil]
    by_cases h9 : c = 9
    · subst h9; rfl
    by_cases h10 : c = 10
    · subst h10; rfl
    by_cases h13 : c = 13
    · subst h13; rfl
    have q9 : (c == 9) = false := by simpa using h9
    have q10 : (c == 10) = false := by simpa using h10
    have q13 : (c == 13) = false := by simpa using h13
    rw [q9, q10, q13]
theorem tg_lookup : ∀ (l : List (Nat × List Nat)) (c : Nat), (l.map tg).lookup (txt [c]) = (l.lookup c).map txt
  | [], _ => rfl
  | p :: r, c => by
    rw [List.map_cons, List.lookup_cons, List.lookup_cons]
    show (match txt [c] == txt [p.1] with | true => some (txt p.2) | false => (r.map tg).lookup (txt [c])) = _
    by_cases h : c = p.1
    · have e1 : (txt [c] == txt [p.1]) = true := by rw [h]; simp
      have e2 : (c == p.1) = true := by simpa using h
      rw [e1, e2]; rfl
    · have e1 : (txt [c] == txt [p.1]) = false := by
        rw [beq_eq_false_iff_ne]
        intro q
        have := txt_inj q
        simp at this
        exact h this
      have e2 : (c == p.1) = false := by simpa using h
      rw [e1, e2]
      exact tg_lookup r c
theorem sp_nd {hand : Int} (h0 : 0 ≤ hand) (h4 : hand ≤ 4) : (((sp hand).map tg).map (·.1)).Nodup := by
  rcases five h0 h4 with rfl | rfl | rfl | rfl | rfl <;> decide +kernel
theorem sp_len {hand : Int} (h0 : 0 ≤ hand) (h4 : hand ≤ 4) : ((sp hand).map tg).length ≤ 15 := by
  rcases five h0 h4 with rfl | rfl | rfl | rfl | rfl <;> decide +kernel
theorem sp_wr {hand : Int} (h0 : 0 ≤ hand) (h4 : hand ≤ 4) (l : List Nat) : wr hand l = (l.map fun c => ((sp hand).lookup c).getD [c]).flatten := by
  unfold wr
  rw [List.flatMap_def]
  congr 2
  funext c
  unfold esc
  rw [sp_esc h0 h4]
inductive StrsOk : List Expr → List Str → Prop
  | nil : StrsOk [] []
  | cons {v : Str} {b : Nat} {q : Pos} {es l} : StrsOk es l → StrsOk (.Constant (.str v) b q :: es) (v :: l)
theorem StrsOk.evs {n : Nat} {env : Env} {ρ : Rho} {own : Own} {es : List Expr} {l : List Str} (h : StrsOk es l) : Evs C n env ρ own es (l.map .str) := by
  induction h with
  | nil => exact .nil
  | cons _ ih => exact .cons Ev_str ih rfl
theorem StrsOk.len {es : List Expr} {l : List Str} (h : StrsOk es l) : es.length = l.length := by
  induction h with
  | nil => rfl
  | cons _ ih => simp [ih]
noncomputable def nmS : List Str := ["amp lt gt - - - -", "amp lt gt quot #13 #10 #09", "amp - gt quot - - -", "amp lt gt - #xD - -", "amp lt - quot #xD #xA #x9"]
theorem body72 : ∃ es p1 p2 p3 ap k p4 cp p pos, bodyAt 72 = .Assign [.Name "names" p] (.Call (.Attribute (.Subscript (.List es p1) (.Name "hand" p2) p3) "split" ap) [.Constant (.str " ") k p4] [] cp) pos :: (bodyAt 72).drop 1 ∧ StrsOk es nmS ∧ (ap.endLine == cp.line) = true :=
  ⟨_, _, _, _, _, _, _, _, _, _, rfl, .cons (.cons (.cons (.cons (.cons .nil)))), rfl⟩
theorem nms_at {hand : Int} (h0 : 0 ≤ hand) (h4 : hand ≤ 4) : nmS[hand.toNat]? = some (txt (joinL [32] (nms hand))) := by
  rcases five h0 h4 with rfl | rfl | rfl | rfl | rfl <;> decide +kernel
theorem nms_len {hand : Int} : (nms hand).length = 7 := by
  unfold nms
  split
  · rfl
  split
  · rfl
  split
  · rfl
  split <;> rfl
theorem nms_sp {hand : Int} (h0 : 0 ≤ hand) (h4 : hand ≤ 4) : splitL 32 (joinL [32] (nms hand)) = nms hand := by
  rcases five h0 h4 with rfl | rfl | rfl | rfl | rfl <;> decide +kernel
theorem nms_small {hand : Int} (h0 : 0 ≤ hand) (h4 : hand ≤ 4) : (joinL [32] (nms hand)).length ≤ 100 ∧ ∀ p ∈ nms hand, p.length ≤ 10 := by
  rcases five h0 h4 with rfl | rfl | rfl | rfl | rfl <;> decide +kernel
end
section
open PySem PySem.Calls PySem.W PySem.Builtin PySem.Builtin.Str
variable {C : Cx}
noncomputable abbrev rhoSp (hand : Int) (x : Str) (nm tb : Option D) : Rho := [("hand", .loc, some (.int hand)), ("text", .loc, some (.str x)), ("names", .loc, nm), ("table", .cel, tb), ("zip", .glo, some (.val (.type "zip")))]
noncomputable def spF (hand : Int) : Str → Option Str := fun k => ((sp hand).map tg).lookup k
noncomputable def spT (hand : Int) (c : Nat) : List Nat := ((sp hand).lookup c).getD [c]
theorem spT_len {hand : Int} (h0 : 0 ≤ hand) (h4 : hand ≤ 4) (c : Nat) : (spT hand c).length ≤ 12 := by
  unfold spT
  have key : ∀ l : List (Nat × List Nat), (∀ p ∈ l, p.2.length ≤ 12) → ((l.lookup c).getD [c]).length ≤ 12 := by
    intro l
    induction l with
    | nil => intro _; show 1 ≤ 12; decide
    | cons p r ih =>
      intro h
      rw [List.lookup_cons]
      cases c == p.1 with
      | true => exact h p List.mem_cons_self
      | false => exact ih fun q hq => h q (List.mem_cons_of_mem _ hq)
  exact key _ (by rcases five h0 h4 with rfl | rfl | rfl | rfl | rfl <;> decide +kernel)
theorem sum_le_mul : ∀ (xs : List (List Nat)) (m : Nat), (∀ x ∈ xs, x.length ≤ m) → (xs.map List.length).sum ≤ m * xs.length
  | [], _, _ => by simp
  | x :: r, m, h => by
    have := sum_le_mul r m fun y hy => h y (List.mem_cons_of_mem _ hy)
    have h0 := h x List.mem_cons_self
    simp only [List.map_cons, List.sum_cons, List.length_cons, Nat.mul_add, Nat.mul_one]
    lia
theorem joinOk_of : ∀ (ps : List (List Nat)), (ps.map List.length).sum ≤ 1000000 → JoinOk (txt []) (ps.map txt) = true := by
  intro ps h
  unfold JoinOk
  have key : ∀ (ps : List (List Nat)) (k : Nat), ((ps.map txt).toArray.foldl (fun a b => a + b.length + (txt []).length) k) = k + (ps.map List.length).sum := by
    intro ps
    induction ps with
    | nil => intro k; simp
    | cons p r ih =>
      intro k
      have := ih (k + p.length)
      simp only [List.map_cons, List.sum_cons, List.foldl_toArray', List.foldl_cons, txt_len, List.length_nil, Nat.add_zero] at this ⊢
      try simp only [List.size_toArray, List.foldl_toArray, List.length_map, List.length_cons] at this ⊢
      lia
  have := key ps 0
  rw [Nat.zero_add] at this
  rw [this]
  unfold tooLong
  simp only [Bool.not_eq_true', decide_eq_false_iff_not]
  unfold sizeLine
  lia
set_option maxHeartbeats 400000 in
theorem vc_spelled {n : Nat} {env : Env} {hand : Int} {l : List Nat} (hG : ∃ mg, C.G.Ns mainGlobals mg) (h0 : 0 ≤ hand) (h4 : hand ≤ 4) (hz : l.length ≤ 5000) :
    Ex C n env (rhoSp hand (txt l) none none) [] (bodyAt 72) fun o => match o with | .ret d' _ => d' = .str (txt (wr hand l)) | .next _ _ => D.str (txt (wr hand l)) = .none := by
  obtain ⟨es, p1, p2, p3, ap, k, p4, cp, p, pos, eb, hd, hl⟩ := body72
  rw [eb]
  have hsm := nms_small h0 h4
  refine Ex_cons ?_
  apply Es_set (d := .list ((nms hand).map fun l => D.str (txt l)))
  case he =>
    have e : ((nms hand).map fun l => D.str (txt l)) = (Txt.split (txt (joinL [32] (nms hand))) (txt [32])).map .str := by
      rw [split_is (nms_sp h0 h4), List.map_map]; rfl
    rw [e]
    exact Ev_split (x := txt (joinL [32] (nms hand))) (y := txt [32]) (Ev_sub (d1 := .list (nmS.map .str)) (d2 := .int hand) (Ev_list hd.evs (by rw [hd.len]; decide)) (by walk_at "v") (it_list h0 (by lia) (by rw [List.getElem?_map, nms_at h0 h4]; rfl)) (fun _ _ => rfl)) (.cons Ev_str .nil rfl) rfl (by rw [txt_len]; unfold sizeLine; lia) rfl hl
  case hu => walk_at "up"
  refine Ex_cons ?_
  apply Es_setCell (d := .smap (spF hand))
  case he =>
    have e : (sp hand).map tg = (sgn.zip (nms hand)).filterMap fun p => (spG p).map tg := by unfold sp; rw [List.map_filterMap]
    have hln := sp_len h0 h4
    have hnd := sp_nd h0 h4
    unfold spF
    rw [e] at hln hnd ⊢
    refine Ev_dictComp (ds := (sgn.zip (nms hand)).map fun p => .tuple [.str (txt [p.1]), .str (txt p.2)]) [("sign", .loc, none), ("name", .loc, none)] ?_ (by walk_at "comps") (fun L2 cells2 => ?_) (by unfold sizeLine; lia) hnd hG
    · have ez : ((sgn.zip (nms hand)).map fun p => D.tuple [.str (txt [p.1]), .str (txt p.2)]) = zipD (txt sgn) ((nms hand).map fun l => D.str (txt l)) := by
        unfold zipD
        rw [txt_list, List.zip_map_right, List.map_map]
        rfl
      rw [ez]
      exact EvZ_zip (by walk_at "at") (.cons Ev_str (.cons (by walk_at "v") .nil rfl) rfl) (by decide +kernel) (by rw [List.length_map, nms_len]; rfl)
    · refine CompRD_fm _ _ _ fun p hp => ?_
      have hp2 := hsm.2 p.2 (List.of_mem_zip hp).2
      by_cases hq : p.2 = [45]
      · have e1 : (spG p).map tg = none := by unfold spG; rw [if_pos hq]; rfl
        rw [e1]
        have e2 : (txt p.2 != ("-" : Str)) = false := by rw [hq]; decide +kernel
        refine ⟨_, .tuple (.cons (by walk_at "up") (.cons (by walk_at "up") .nil)), .lose (.lose .nil), .one ?_⟩
        rw [← e2]
        exact EvT_cmp (Ev_name (by walk_at "at")) Ev_str op_neS rfl
      · have e1 : (spG p).map tg = some (txt [p.1], txt (38 :: (p.2 ++ [59]))) := by unfold spG; rw [if_neg hq]; rfl
        rw [e1]
        have e2 : (txt p.2 != ("-" : Str)) = true := by
          rw [bne_iff_ne]
          intro q
          exact hq (txt_inj (b := [45]) q)
        have ev : txt (38 :: (p.2 ++ [59])) = txt [38] ++ txt p.2 ++ txt [59] := by rw [txt_app, txt_app]; rfl
        refine ⟨_, .tuple (.cons (by walk_at "up") (.cons (by walk_at "up") .nil)), .lose (.lose .nil), .one ?_, Ev_name (by walk_at "at"), ?_⟩
        · rw [← e2]
          exact EvT_cmp (Ev_name (by walk_at "at")) Ev_str op_neS rfl
        · show Ev C n _ _ [] _ (.str (txt (38 :: (p.2 ++ [59]))))
          rw [ev]
          refine Ev_bin (d1 := .str (txt [38] ++ txt p.2)) (d2 := .str (txt [59])) (Ev_bin (d1 := .str (txt [38])) (d2 := .str (txt p.2)) Ev_str (Ev_name (by walk_at "at")) (op_addS ?_)) Ev_str (op_addS ?_)
          · rw [txt_len, txt_len]; simp only [List.length_cons, List.length_nil]; unfold sizeLine; lia
          · rw [txt_app, txt_len, txt_len]; simp only [List.length_cons, List.length_nil, List.length_append]; unfold sizeLine; lia
  case hu => walk_at "up"
  case hm => exact ⟨_, .tail _ (.tail _ (.tail _ (.head _)))⟩
  case hs => exact fun hk => swaps_dictComp hk
  refine Ex_cons ?_
  refine Es_ret (d := .str (txt (wr hand l))) ?_ rfl
  rw [sp_wr h0 h4, ← join_nil]
  have hsum := sum_le_mul (l.map (spT hand)) 12 fun x hx => by refine e1a2 (List.mem_map.mp hx :) fun c _ r2q => ?_; subst r2q; exact spT_len h0 h4 c
  rw [List.length_map] at hsum
  refine Ev_join Ev_str (.cons ?_ .nil rfl) (joinOk_of _ (Nat.le_trans hsum (by lia))) rfl rfl
  have e1 : ((l.map (spT hand)).map txt).map D.str = l.map fun c => D.str (txt (spT hand c)) := by simp [Function.comp_def]
  show Ev C n env _ _ _ (.list (((l.map (spT hand)).map txt).map D.str))
  rw [e1]
  refine Ev_new (EvN_comp (frozen := true) (ds := l.map fun c => D.str (txt [c])) [("sign", .loc, none), ("table", .cap, some (.smap (spF hand)))] ?_ (by walk_at "comps") (fun L2 cells2 => ?_) (by rw [List.length_map]; unfold sizeLine; lia))
  · rw [← signsD_txt]
    exact EvI_str (by walk_at "v")
  · refine CompR_map (fun c : Nat => D.str (txt [c])) (fun c => D.str (txt (spT hand c))) l fun c hc => ?_
    refine ⟨_, .name (by walk_at "up"), .lose (.same .nil), .nil, ?_⟩
    have hlk : spF hand (txt [c]) = ((sp hand).lookup c).map txt := tg_lookup _ _
    refine Ev_ifexp (b := (spF hand (txt [c])).isSome) (EvT_cmp (Ev_name (by walk_at "at")) (Ev_name (by walk_at "at")) op_inSmap rfl) (fun hb => ?_) (fun hb => ?_)
    · refine Ev_sub (d1 := .smap (spF hand)) (d2 := .str (txt [c])) (by walk_at "v") (by walk_at "v") (it_smap ?_) (fun _ _ => rfl)
      rw [hlk] at hb ⊢
      unfold spT
      cases hh : (sp hand).lookup c with
      | none => rw [hh] at hb; cases hb
      | some z => rfl
    · rw [hlk] at hb
      have : spT hand c = [c] := by
        unfold spT
        cases hh : (sp hand).lookup c with
        | none => rfl
        | some z => rw [hh] at hb; cases hb
      rw [this]
      walk_at "v"
end
section
open PySem PySem.Calls PySem.W PySem.Builtin PySem.Builtin.Str
variable {C : Cx}
theorem Ex_fin {n : Nat} {env : Env} {ρ : Rho} {own : Own} {ss : List Stmt} {d : D} (h : Ex C n env ρ own ss fun o => match o with | .ret d' _ => d' = d | .next _ _ => False) : Ex C n env ρ own ss fun o => match o with | .ret d' _ => d' = d | .next _ _ => d = .none :=
  Ex_mono h fun o => by cases o <;> simp
theorem bind_72 (fd : FuncData) (h1 : fd.params = parsAt 72) (h2 : fd.defaults = .none) (h3 : fd.kwdefaults = .none) (vs : List Value) (h : vs.length = (["hand", "text"] : List Str).length) : bindArgs fd ⟨vs, []⟩ = pure ((["hand", "text"] : List Str).zip vs) := by
  refine e2a1 (len2 h :) fun v1 v2 rq => ?_
  subst rq
  exact (bind_of h1 h2 h3 _).trans rfl
theorem bind_73 (fd : FuncData) (h1 : fd.params = parsAt 73) (h2 : fd.defaults = .none) (h3 : fd.kwdefaults = .none) (vs : List Value) (h : vs.length = (["page"] : List Str).length) : bindArgs fd ⟨vs, []⟩ = pure ((["page"] : List Str).zip vs) := by
  refine e1a1 (len1 h :) fun v1 rq => ?_
  subst rq
  exact (bind_of h1 h2 h3 _).trans rfl
theorem bind_74 (fd : FuncData) (h1 : fd.params = parsAt 74) (h2 : fd.defaults = .none) (h3 : fd.kwdefaults = .none) (vs : List Value) (h : vs.length = (["symbols"] : List Str).length) : bindArgs fd ⟨vs, []⟩ = pure ((["symbols"] : List Str).zip vs) := by
  refine e1a1 (len1 h :) fun v1 rq => ?_
  subst rq
  exact (bind_of h1 h2 h3 _).trans rfl
theorem bind_75 (fd : FuncData) (h1 : fd.params = parsAt 75) (h2 : fd.defaults = .none) (h3 : fd.kwdefaults = .none) (vs : List Value) (h : vs.length = (["program", "starts", "steps", "hand", "forgery"] : List Str).length) : bindArgs fd ⟨vs, []⟩ = pure ((["program", "starts", "steps", "hand", "forgery"] : List Str).zip vs) := by
  refine e5a1 (len5 h :) fun v1 v2 v3 v4 v5 rq => ?_
  subst rq
  exact (bind_of h1 h2 h3 _).trans rfl
theorem bind_76 (fd : FuncData) (h1 : fd.params = parsAt 76) (h2 : fd.defaults = .none) (h3 : fd.kwdefaults = .none) (vs : List Value) (h : vs.length = (["rows", "width"] : List Str).length) : bindArgs fd ⟨vs, []⟩ = pure ((["rows", "width"] : List Str).zip vs) := by
  refine e2a1 (len2 h :) fun v1 v2 rq => ?_
  subst rq
  exact (bind_of h1 h2 h3 _).trans rfl
theorem cal_spelled {f : Addr} {fd : FuncData} {hand : Int} {l : List Nat} (F : FnI C 72 f fd) (hlim : C.G.NoLimit) (gz : GlobD C "zip" (.val (.type "zip"))) (hG : ∃ mg, C.G.Ns mainGlobals mg) (h0 : 0 ≤ hand) (h4 : hand ≤ 4) (hz : l.length ≤ 5000) :
    Cal C 3 (.ref f) [.int hand, .str (txt l)] (.str (txt (wr hand l))) := by
  refine Cal_fn (n := 2) (params := ["hand", "text"]) (ρ0 := [("hand", .loc, none), ("text", .loc, none), ("names", .loc, none), ("table", .cel, none), ("zip", .glo, some (.val (.type "zip")))])
    (ρ1 := rhoSp hand (txt l) none none) F hlim bind_72 (fun X h => ?_) ?_ rfl (fun L => vc_spelled hG h0 h4 hz) (by walk_at "nd") (by decide +kernel) (by decide +kernel) (by decide +kernel) (by decide +kernel)
  · walk_at "fnr"
  · walk_at "v"
theorem cal_sym_of {f : Addr} {fd : FuncData} {ex : Str → Option Int} {x : Str} {d : D} {b : List Stmt} (F : FnI C 73 f fd) (hlim : C.G.NoLimit) (gl : GlobD C "len" (.val (.builtin "len"))) (gE : GlobD C "EXACT_TOKEN_TYPES" (.imap ex))
    (hE : ∀ L, Ex C 2 (fnEnv fd f L) (rhoS ex x none none none none none none none) [] b fun o => match o with | .ret d' _ => d' = d | .next _ _ => False) (hb : bodyAt 73 = b) : Cal C 3 (.ref f) [.str x] d := by
  refine Cal_fn (n := 2) (params := ["page"]) (ρ0 := [("page", .loc, none), ("signs", .cel, none), ("pieces", .loc, none), ("piece", .loc, none), ("text", .loc, none), ("symbols", .loc, none), ("place", .loc, none), ("many", .loc, none), ("len", .glo, some (.val (.builtin "len"))), ("EXACT_TOKEN_TYPES", .glo, some (.imap ex))])
    (ρ1 := rhoS ex x none none none none none none none) F hlim bind_73 (fun X h => ?_) ?_ rfl (fun L => by rw [hb]; exact Ex_fin (hE L)) (by walk_at "nd") (by decide +kernel) (by decide +kernel) (by decide +kernel) (by decide +kernel)
  · walk_at "fnr"
  · walk_at "v"
theorem cal_symbols {f : Addr} {fd : FuncData} {ex : Str → Option Int} {l head : List Nat} {pcs : List Pc} (F : FnI C 73 f fd) (hlim : C.G.NoLimit) (gl : GlobD C "len" (.val (.builtin "len"))) (gE : GlobD C "EXACT_TOKEN_TYPES" (.imap ex)) (hG : ∃ mg, C.G.Ns mainGlobals mg)
    (hl : splitL 38 l = head :: pcs.map Pc.page) (hp : ∀ p ∈ pcs, GoodPc p) (hz : l.length ≤ 5000) (hpn : pcs.length ≤ 5000) (hpz : ∀ p ∈ pcs, p.page.length ≤ 5000) (hT : (head ++ (pcs.map Pc.text).flatten).length ≤ 5000) (hok : JoinOk (txt []) ((pcs.map Pc.text).map txt) = true) :
    Cal C 3 (.ref f) [.str (txt l)] (.list ((tokL ex (head ++ (pcs.map Pc.text).flatten).length (head ++ (pcs.map Pc.text).flatten) ++ [0]).map .int)) := by
  refine cal_sym_of F hlim gl gE (fun L => ?_) rfl
  exact @vc_symbols C 2 _ ex l head pcs hG hl hp hz hpn hpz hT hok
theorem cal_program {f t1 t2 t3 : Addr} {fd : FuncData} {syms : List Int} {res : List (List Int)} (F : FnI C 74 f fd) (hlim : C.G.NoLimit) (g1 : GlobD C "ISTERMINAL" (.ref t1)) (g2 : GlobD C "ISNONTERMINAL" (.ref t2)) (g3 : GlobD C "ISEOF" (.ref t3))
    (hr : progL [] syms = some res) (h1 : FnObj C t1) (h2 : FnObj C t2) (h3 : FnObj C t3) (hz : syms.length ≤ 100000)
    (c1 : ∀ x : Int, Cal C 2 (.ref t1) [.int x] (.bool (decide (x < 256)))) (c2 : ∀ x : Int, Cal C 2 (.ref t2) [.int x] (.bool (decide (256 ≤ x)))) (c3 : ∀ x : Int, Cal C 2 (.ref t3) [.int x] (.bool (x == 0))) :
    Cal C 3 (.ref f) [.list (syms.map .int)] (.list (res.map rowD)) := by
  refine Cal_fn (n := 2) (params := ["symbols"]) (ρ0 := [("symbols", .loc, none), ("program", .loc, none), ("symbol", .loc, none), ("ISEOF", .glo, some (.ref t3)), ("ISNONTERMINAL", .glo, some (.ref t2)), ("ISTERMINAL", .glo, some (.ref t1))])
    (ρ1 := rhoP syms none none t1 t2 t3) F hlim bind_74 (fun X h => ?_) ?_ rfl (fun L => vc_program hr h1 h2 h3 hz c1 c2 c3) (by walk_at "nd") (by decide +kernel) (by decide +kernel) (by decide +kernel) (by decide +kernel)
  · walk_at "fnr"
  · walk_at "v"
theorem cal_run {f f62 f71 : Addr} {fd : FuncData} {ex : Str → Option Int} {prog : List (List Int)} {starts : List Nat} {steps : Nat} {hand : Int} {fg : Fg} (Fn : FnI C 75 f fd) (hlim : C.G.NoLimit) (gr : GlobD C "range" (.val (.type "range"))) (ge : GlobD C "ISEOF" (.ref f62)) (gw : GlobD C "_law_write" (.ref f71))
    (G : GoodP prog) (F : GoodF fg) (T : TokT ex) (gE : GlobD C "EXACT_TOKEN_TYPES" (.imap ex)) (gl : GlobD C "len" (.val (.builtin "len"))) (h62 : FnObj C f62) (c62 : ∀ x : Int, Cal C 2 (.ref f62) [.int x] (.bool (x == 0)))
    (h71 : FnObj C f71) (c71 : ∀ (hand : Int) (l : List Nat), l.length ≤ 100000 → Cal C 2 (.ref f71) [.int hand, .str (txt l)] (.str (txt (wr hand l)))) (hl : starts.length = 2) (hb : ∀ k ∈ starts, k ≤ 3) (hs : steps ≤ 100) :
    Cal C 3 (.ref f) [.list (prog.map rowD), .list (starts.map fun k : Nat => .int k), .int steps, .int hand, fgD fg] (.list ((runL prog fg (steps + 1) 0 0 starts).map rowD)) := by
  refine Cal_fn (n := 2) (params := ["program", "starts", "steps", "hand", "forgery"]) (ρ0 := [("program", .loc, none), ("starts", .loc, none), ("steps", .loc, none), ("hand", .loc, none), ("forgery", .loc, none), ("when", .loc, none), ("kind", .loc, none), ("value", .loc, none),
    ("line", .loc, none), ("texts", .loc, none), ("rows", .loc, none), ("tick", .loc, none), ("held", .loc, none), ("row", .loc, none), ("empty", .loc, none), ("range", .glo, some (.val (.type "range"))), ("ISEOF", .glo, some (.ref f62)), ("_law_write", .glo, some (.ref f71))])
    (ρ1 := rhoR prog starts steps hand fg f62 f71 none none none none none none none none none none) Fn hlim bind_75 (fun X h => ?_) ?_ rfl (fun L => Ex_fin (vc_run G F T gE gl h62 c62 h71 c71 hl hb hs)) (by walk_at "nd") (by decide +kernel) (by decide +kernel) (by decide +kernel) (by decide +kernel)
  · walk_at "fnr"
  · walk_at "v"
theorem cal_numbers {m : Nat} {f f5 : Addr} {fd : FuncData} {rows : List (List Int)} {w : Nat} (F : FnI C 76 f fd) (hlim : C.G.NoLimit) (gr : GlobD C "range" (.val (.type "range"))) (h5 : FnObj C f5) (g5 : GlobD C "_digits2int" (.ref f5)) (hr : ∀ r ∈ rows, 3 ≤ r.length ∧ r.length ≤ 1000) (hz : rows.length ≤ 1000)
    (c5 : ∀ ds : List Int, ds.length = rows.length → (∀ d ∈ ds, d = 0 ∨ d = 1 ∨ ∃ r ∈ rows, d = at0 r 1 ∨ d = at0 r 2) → Cal C m (.ref f5) [.list (ds.map .int), .int w] (.int (valL w ds))) :
    Cal C (m + 1) (.ref f) [.list (rows.map rowD), .int w] (.list ((numbersL w rows).map .int)) := by
  refine Cal_fn (n := m) (params := ["rows", "width"]) (ρ0 := [("rows", .cel, none), ("width", .cel, none), ("marks", .loc, none), ("range", .glo, some (.val (.type "range")))])
    (ρ1 := rhoN rows w none) F hlim bind_76 (fun X h => ?_) ?_ rfl (fun L => Ex_fin (vc_numbers h5 g5 hr hz c5)) (by walk_at "nd") (by decide +kernel) (by decide +kernel) (by decide +kernel) (by decide +kernel)
  · walk_at "fnr"
  · walk_at "v"
end
section
open PySem PySem.Calls PySem.W PySem.Builtin PySem.Builtin.Int
variable {C : Cx}
noncomputable def intoL (nb : List Int) : List Int := [at0 nb 0 + at0 nb 1, at0 nb 2 + at0 nb 3, at0 nb 4 + at0 nb 5, at0 nb 6]
noncomputable def goalOf (prog : List (List Int)) (c : Nat) : Int := if c % 2 = 1 then at0 (prow prog (c / 2)) ((prow prog (c / 2)).length - 1) else at0 (prow prog (c / 2)) 2
noncomputable def stOf (nb : List Int) (B sh : Int) (c : Nat) : Int := (at0 nb c).fmod sh * B
noncomputable def hpOf (prog : List (List Int)) (c : Nat) : Nat := (at0 (prow prog (c / 2)) 0).toNat
noncomputable def amOf (nb : List Int) (prog : List (List Int)) (c : Nat) : Int := at0 nb (7 + hpOf prog c)
noncomputable def ok1 (nb : List Int) (prog : List (List Int)) (B O sh : Int) (c : Nat) : Bool := (bitAnd (at0 nb c) O != at0 nb c) || (bitAnd (stOf nb B sh c) (at0 (intoL nb) (goalOf prog c).toNat) != stOf nb B sh c)
noncomputable def ok2 (nb : List Int) (prog : List (List Int)) (B O : Int) (c : Nat) : Bool := ((c : Int).fmod 2 == 1) && (bitAnd (amOf nb prog c) ((B.fdiv 2 - 1) * (O - at0 nb c)) != amOf nb prog c)
noncomputable def ok3 (nb : List Int) (prog : List (List Int)) (B O : Int) (c : Nat) : Bool := ([(0 : Int), 2, 4].any (· == (c : Int))) && (bitAnd (B.fdiv 2 * at0 nb c) (amOf nb prog c + (B.fdiv 2 - 1) * O) != B.fdiv 2 * at0 nb c)
noncomputable def badT (nb : List Int) (prog : List (List Int)) (B O sh : Int) (c : Nat) : Bool := ok1 nb prog B O sh c || ok2 nb prog B O c || ok3 nb prog B O c
noncomputable def updT (nb : List Int) (prog : List (List Int)) (B sh : Int) (c : Nat) (t : List Int) : List Int :=
  if c < 6 ∧ at0 (prow prog (c / 2)) 1 = 0 then t.set (hpOf prog c) (at0 t (hpOf prog c) + stOf nb B sh c)
  else if c = 0 ∨ c = 2 ∨ c = 4 then t.set (hpOf prog c) (at0 t (hpOf prog c) - stOf nb B sh c) else t
noncomputable def turnsL (nb : List Int) (prog : List (List Int)) (B sh : Int) : Nat → List Int → List Int
  | 0, t => t
  | c + 1, t => updT nb prog B sh c (turnsL nb prog B sh c t)
noncomputable def badP (nb : List Int) (B O sh unit : Int) (t : List Int) (k : Nat) : Bool :=
  (bitAnd (at0 nb (7 + k)) ((B.fdiv 2 - 1) * O) != at0 nb (7 + k)) ||
    !([(unit, 0), (-unit, (-unit).fdiv 3)].all fun p : Int × Int => ((at0 t k * p.1 + p.2).fdiv ((B - 1) * p.1) == (at0 nb (7 + k)).fdiv sh * O - at0 nb (7 + k)) && ((at0 t k * p.1 + p.2).fmod ((B - 1) * p.1) == (at0 nb (7 + k)).fdiv sh * p.1 + p.2))
noncomputable def holdsB (nb : List Int) (prog : List (List Int)) (starts : List Nat) (B O L sh unit : Int) : Bool :=
  !((L != 0) || ((nb.take 7).sum != O) || ((at0 (intoL nb) 0).fmod 2 == 0)) && (List.range 7).all (fun c => !badT nb prog B O sh c) && [0, 1].all (fun k => !badP nb B O sh unit (turnsL nb prog B sh 7 (starts.map fun k : Nat => (k : Int))) k)
structure HH (nb : List Int) (prog : List (List Int)) (s w : Nat) (B O sh : Int) : Prop where
  nl : nb.length = 9
  nbits : ∀ x ∈ nb, intBits x ≤ 20000
  G : GoodP prog
  hs : s ≤ 20
  hw : w ≤ 1000
  hB : B = 2 ^ w
  hO : intBits O ≤ 30000
  hsh : sh = 2 ^ (w * s)
noncomputable abbrev rhoH (nb : List Int) (prog : List (List Int)) (starts : List Nat) (s w : Nat) (unit : Int) (f7 : Addr) (base marks held turns ones left into code mark row step amount k en parts : Option D) : Rho :=
  [("numbers", .loc, some (.list (nb.map .int))), ("program", .loc, some (.list (prog.map rowD))), ("starts", .loc, some (.list (starts.map fun k : Nat => .int k))), ("steps", .loc, some (.int s)), ("width", .loc, some (.int w)), ("unit", .loc, some (.int unit)),
    ("base", .cel, base), ("marks", .loc, marks), ("held", .cel, held), ("turns", .cel, turns), ("ones", .cel, ones), ("left", .loc, left), ("into", .loc, into), ("code", .loc, code), ("mark", .loc, mark), ("row", .loc, row), ("step", .loc, step), ("amount", .loc, amount), ("k", .cel, k), ("end", .cel, en), ("parts", .loc, parts),
    ("list", .glo, some (.val (.type "list"))), ("int_divmod", .glo, some (.ref f7)), ("sum", .glo, some (.val (.builtin "sum"))), ("range", .glo, some (.val (.type "range")))]
noncomputable def marksD (nb : List Int) : D := .list ((nb.take 7).map .int)
noncomputable def heldD (nb : List Int) : D := .list ((nb.drop 7).map .int)
noncomputable abbrev rhoI (nb : List Int) (prog : List (List Int)) (starts : List Nat) (s w : Nat) (unit : Int) (f7 : Addr) (B O L : Int) (tt : D) (c : Nat) (mark row step amount : Option D) : Rho :=
  rhoH nb prog starts s w unit f7 (some (.int B)) (some (marksD nb)) (some (heldD nb)) (some tt) (some (.int O)) (some (.int L)) (some (.list ((intoL nb).map .int))) (some (.int c)) mark row step amount none none none
noncomputable def holdBody : List Stmt := match bodyAt 77 with
  | [_, _, _, _, .For _ _ b _ _, _, _] => b
  | _ => []
noncomputable def partBody : List Stmt := match bodyAt 77 with
  | [_, _, _, _, _, .For _ _ b _ _, _] => b
  | _ => []
theorem at0_mem {nb : List Int} {k : Nat} (h : k < nb.length) : at0 nb k ∈ nb := by
  unfold at0
  rw [List.getD_eq_getElem?_getD, List.getElem?_eq_getElem h]
  exact List.getElem_mem h
theorem at0_get {nb : List Int} {k : Nat} (h : k < nb.length) : nb[k]? = some (at0 nb k) := by
  unfold at0
  rw [List.getD_eq_getElem?_getD, List.getElem?_eq_getElem h]; rfl
section
variable {n : Nat} {env : Env} {nb : List Int} {prog : List (List Int)} {starts : List Nat} {s w : Nat} {unit : Int} {f7 tt : Addr} {B O L sh : Int}
theorem HH.bit (H : HH nb prog s w B O sh) {k : Nat} (h : k < 9) : intBits (at0 nb k) ≤ 20000 := H.nbits _ (at0_mem (by rw [H.nl]; exact h))
theorem bits_pow (k : Nat) : intBits ((2 : Int) ^ k) ≤ k + 1 := by
  refine intBits_le_iff.mpr ?_
  have e : ((2 : Int) ^ k).natAbs = 2 ^ k := by simp [Int.natAbs_pow]
  rw [e]
  exact Nat.pow_lt_pow_right (by decide) (by exact Nat.le_refl k.succ)
theorem HH.bitB (H : HH nb prog s w B O sh) : intBits B ≤ 1001 := by
  rw [H.hB]
  exact Nat.le_trans (bits_pow w) (by have := H.hw; lia)
theorem HH.wsle (H : HH nb prog s w B O sh) : w * s ≤ 20000 := Nat.le_trans (Nat.mul_le_mul H.hw H.hs) (by decide)
theorem ev_shl {ρ : Rho} {own : Own} {e1 e2 : Expr} {k1 : Nat} {p1 p2 p3 : Pos} {a b : Nat} (h1 : Ev C n env ρ own e1 (.int a)) (h2 : Ev C n env ρ own e2 (.int b)) (ha : a ≤ 1000) (hb : b ≤ 1000) :
    Ev C n env ρ own (.BinOp (.Constant (.int 1) k1 p1) .LShift (.BinOp e1 .Mult e2 p2) p3) (.int (2 ^ (a * b))) := by
  have hab : a * b ≤ 1000000 := Nat.le_trans (Nat.mul_le_mul ha hb) (by decide)
  have e : (2 : Int) ^ (a * b) = 1 * 2 ^ ((a : Int) * (b : Int)).toNat := by
    rw [Int.one_mul]
    congr 1
  have h3 : ((a * b : Nat) : Int) = (a : Int) * b := by simp
  rw [e]
  refine Ev_bin (d1 := .int 1) (d2 := .int ((a : Int) * (b : Int))) Ev_int (Ev_bin (d1 := .int a) (d2 := .int b) h1 h2 (op_mul (IntMulOk.of_left (Nat.le_trans (bits_lt (n := 60) (by exact Int.natCast_nonneg a) (by lia)) (by decide))))) (op_shl (by exact Int.natCast_nonneg (a * b)) ?_)
  have h4 : intBits 1 = 1 := by decide
  rw [h4]; lia
theorem HH.marks (H : HH nb prog s w B O sh) {c : Nat} (h : c < 7) : (List.map D.int (nb.take 7))[((c : Int)).toNat]? = some (.int (at0 nb c)) := by
  have e : ((c : Int)).toNat = c := by exact rfl
  rw [e, List.getElem?_map, List.getElem?_take_of_lt h, at0_get (by rw [H.nl]; lia)]; rfl
theorem HH.held (H : HH nb prog s w B O sh) {k : Nat} (h : k < 2) : (List.map D.int (nb.drop 7))[k]? = some (.int (at0 nb (7 + k))) := by
  rw [List.getElem?_map, List.getElem?_drop, at0_get (by rw [H.nl]; lia)]; rfl
theorem HH.row (H : HH nb prog s w B O sh) {c : Nat} (h : c < 7) : GoodRow (prow prog (c / 2)) ∧ (prog ++ [[0, 1, 3]])[c / 2]? = some (prow prog (c / 2)) := H.G.row (by lia)
theorem HH.hp (H : HH nb prog s w B O sh) {c : Nat} (h : c < 7) : ((hpOf prog c : Nat) : Int) = at0 (prow prog (c / 2)) 0 ∧ hpOf prog c < 2 := by
  have := (H.row h).1.r0
  unfold hpOf
  lia
theorem HH.rowk (H : HH nb prog s w B O sh) {c : Nat} (h : c < 7) : ∀ k : Nat, k < 3 → ((prow prog (c / 2)).map D.int)[((k : Int)).toNat]? = some (.int (at0 (prow prog (c / 2)) k)) := fun k hk => by
  have hlen3 : 3 ≤ (prow prog (c / 2)).length := by rcases (H.row h).1.len with q | q <;> lia
  have e : ((k : Int)).toNat = k := by exact rfl
  rw [e, List.getElem?_map, at0_get (by lia)]; rfl
set_option maxHeartbeats 400000 in
theorem vc_hold1 (H : HH nb prog s w B O sh) {own : Own} {c : Nat} (hc : c < 7) {d : D} {x1 x2 x3 x4 : Option D} {K : Out → Prop}
    (h : Ex C n env (rhoI nb prog starts s w unit f7 B O L d c (some (.int (at0 nb c))) (some (rowD (prow prog (c / 2)))) (some (.int (stOf nb B sh c))) (some (.int (amOf nb prog c)))) own (holdBody.drop 2) K) :
    Ex C n env (rhoI nb prog starts s w unit f7 B O L d c x1 x2 x3 x4) own holdBody K := by
  refine e0a2 (H.row hc :) fun R hrow => ?_
  have hw := H.hw
  have hs := H.hs
  unfold rhoI rhoH at h ⊢
  unfold marksD heldD at h ⊢
  refine Ex_cons ?_
  apply Es_swap2 (d1 := .int (at0 nb c)) (d2 := rowD (prow prog (c / 2)))
  case he =>
    refine Ev_tuple (.cons (Ev_sub (d1 := .list ((nb.take 7).map .int)) (d2 := .int c) (by walk_at "v") (by walk_at "v") (it_list (by exact Int.natCast_nonneg c) (by lia) (H.marks hc)) (fun _ _ => rfl)) (.cons ?_ .nil rfl) rfl)
    have e : (prog ++ [[0, 1, 3]]).map rowD = prog.map rowD ++ [.list [.int 0, .int 1, .int 3]] := by rw [List.map_append]; rfl
    have e2 : ((c : Int).fdiv 2) = ((c / 2 : Nat) : Int) := by rw [fdiv_pos _ (by decide)]; exact rfl
    refine Ev_sub (d1 := .list (prog.map rowD ++ [.list [.int 0, .int 1, .int 3]])) (d2 := .int ((c : Int).fdiv 2)) (Ev_bin (d1 := .list (prog.map rowD)) (d2 := .list [.list [.int 0, .int 1, .int 3]]) (by walk_at "v") (by walk_at "v") (op_addL (by simp [H.G.len]; decide))) (Ev_bin (d1 := .int c) (d2 := .int 2) (by walk_at "v") Ev_int (op_div (by decide) (pylong_small (by decide)))) (it_list (by rw [e2]; exact Int.natCast_nonneg (c / 2)) (by rw [e2]; lia) ?_) (fun _ _ => rfl)
    have hn : (((c / 2 : Nat) : Int)).toNat = c / 2 := by exact rfl
    rw [e2, hn, ← e, List.getElem?_map, hrow]; rfl
  case hu2 => walk_at "upl"
  case hu1 => walk_at "upl"
  case hl => rfl
  case hne => rfl
  case hst => rfl
  case hff => rfl
  case hca => rfl
  case hs => rfl
  refine Ex_cons ?_
  apply Es_swap2 (d1 := .int (stOf nb B sh c)) (d2 := .int (amOf nb prog c))
  case he =>
    refine Ev_tuple (.cons ?_ (.cons ?_ .nil rfl) rfl)
    · have hws := H.wsle
      have hne : sh ≠ 0 := by rw [H.hsh]; exact Int.ne_of_gt (two_pos _)
      have hbs : intBits sh ≤ 20001 := by rw [H.hsh]; exact Nat.le_trans (bits_pow _) (by lia)
      unfold stOf
      refine Ev_bin (d1 := .int ((at0 nb c).fmod sh)) (d2 := .int B) (Ev_bin (d1 := .int (at0 nb c)) (d2 := .int sh) (by walk_at "v") ?_ (op_mod hne)) (by walk_at "v") (op_mul (IntMulOk.of_le (intBits_fmod_le (H.bit (by lia)) hbs) H.bitB (by decide)))
      rw [H.hsh]
      exact ev_shl (by walk_at "v") (by walk_at "v") hw (by lia)
    · refine e0a2 (H.hp hc :) fun hp1 hp2 => ?_
      unfold amOf
      refine Ev_sub (d1 := .list ((nb.drop 7).map .int)) (d2 := .int (at0 (prow prog (c / 2)) 0)) (by walk_at "v") (Ev_sub (d1 := rowD (prow prog (c / 2))) (d2 := .int 0) (by walk_at "v") Ev_int (it_list (by decide) (by decide) (H.rowk hc 0 (by decide))) (fun _ _ => rfl)) (it_list (by have := R.r0; lia) (by have := R.r0; lia) ?_) (fun _ _ => rfl)
      exact H.held hp2
  case hu2 => walk_at "upl"
  case hu1 => walk_at "upl"
  case hl => rfl
  case hne => rfl
  case hst => rfl
  case hff => rfl
  case hca => rfl
  case hs => rfl
  exact h
end
end
section
open PySem PySem.Calls PySem.W PySem.Builtin PySem.Builtin.Int
variable {C : Cx}
section
variable {n : Nat} {env : Env} {nb : List Int} {prog : List (List Int)} {starts : List Nat} {s w : Nat} {unit : Int} {f7 tt : Addr} {B O L sh : Int}
theorem EvA_lastO {ρ : Rho} {own : Own} {x : Expr} {b : Bool} (h : EvT C n env ρ own x b) : EvA C n env ρ own .Or [x] b := by
  cases b with
  | true => exact .orT h
  | false => exact .orF h .orNil
theorem EvT_or2 {ρ : Rho} {own : Own} {x y : Expr} {pos : Pos} {b1 b2 : Bool} (h1 : EvT C n env ρ own x b1) (h2 : EvT C n env ρ own y b2) : EvT C n env ρ own (.BoolOp .Or [x, y] pos) (b1 || b2) := by
  cases b1 with
  | true => exact EvT_bool (.orT h1)
  | false => exact EvT_bool (.orF h1 (EvA_lastO h2))
theorem EvT_or3 {ρ : Rho} {own : Own} {x y z : Expr} {pos : Pos} {b1 b2 b3 : Bool} (h1 : EvT C n env ρ own x b1) (h2 : EvT C n env ρ own y b2) (h3 : EvT C n env ρ own z b3) : EvT C n env ρ own (.BoolOp .Or [x, y, z] pos) (b1 || b2 || b3) := by
  cases b1 with
  | true => exact EvT_bool (.orT h1)
  | false =>
    cases b2 with
    | true => exact EvT_bool (.orF h1 (.orT h2))
    | false => exact EvT_bool (.orF h1 (.orF h2 (EvA_lastO h3)))
theorem goal_le (H : HH nb prog s w B O sh) {c : Nat} (hc : c < 7) : 0 ≤ goalOf prog c ∧ goalOf prog c ≤ 3 := by
  refine e0a2 (H.row hc :) fun R _ => ?_
  have hlen3 : 3 ≤ (prow prog (c / 2)).length := by rcases R.len with q | q <;> lia
  unfold goalOf
  split
  · exact R.goals _ (by lia) (by lia)
  · exact R.goals _ (by decide) (by exact hlen3)
theorem ev_half {ρ : Rho} {own : Own} {e : Expr} {k : Nat} {p1 p2 : Pos} (h : Ev C n env ρ own e (.int B)) : Ev C n env ρ own (.BinOp e .FloorDiv (.Constant (.int 2) k p1) p2) (.int (B.fdiv 2)) :=
  Ev_bin h Ev_int (op_div (by decide) (pylong_small (by decide)))
theorem ev_half1 {ρ : Rho} {own : Own} {e : Expr} {k k2 : Nat} {p1 p2 p3 p4 : Pos} (h : Ev C n env ρ own e (.int B)) : Ev C n env ρ own (.BinOp (.BinOp e .FloorDiv (.Constant (.int 2) k p1) p2) .Sub (.Constant (.int 1) k2 p3) p4) (.int (B.fdiv 2 - 1)) :=
  Ev_bin (ev_half h) Ev_int op_sub
theorem HH.bitH (H : HH nb prog s w B O sh) : intBits (B.fdiv 2) ≤ 1001 ∧ intBits (B.fdiv 2 - 1) ≤ 1002 := by
  have h := intBits_fdiv_le (y := 2) H.bitB
  exact ⟨h, Nat.le_trans (intBits_sub_le h (by decide : intBits 1 ≤ 1)) (by decide)⟩
set_option maxHeartbeats 400000 in
theorem vc_hold2 (H : HH nb prog s w B O sh) {own : Own} {c : Nat} (hc : c < 7) {d : D} {K : Out → Prop}
    (hbad : badT nb prog B O sh c = true → K (.ret (.bool false) own))
    (h : badT nb prog B O sh c = false → Ex C n env (rhoI nb prog starts s w unit f7 B O L d c (some (.int (at0 nb c))) (some (rowD (prow prog (c / 2)))) (some (.int (stOf nb B sh c))) (some (.int (amOf nb prog c)))) own (holdBody.drop 5) K) :
    Ex C n env (rhoI nb prog starts s w unit f7 B O L d c (some (.int (at0 nb c))) (some (rowD (prow prog (c / 2)))) (some (.int (stOf nb B sh c))) (some (.int (amOf nb prog c)))) own (holdBody.drop 2) K := by
  refine e0a2 (H.row hc :) fun R hrow => ?_
  have hlen3 : 3 ≤ (prow prog (c / 2)).length := by rcases R.len with q | q <;> lia
  refine e0a2 (H.bitH :) fun bh bh1 => ?_
  have bm := H.bit (show c < 9 by lia)
  refine Ex_cons ?_
  apply Es_if (b := ok1 nb prog B O sh c)
  · refine EvT_or2 (EvT_cmp (d1 := .int (bitAnd (at0 nb c) O)) (d2 := .int (at0 nb c)) (by walk_at "v") (by walk_at "v") op_ne rfl) ?_
    refine EvT_cmp (d1 := .int (bitAnd (stOf nb B sh c) (at0 (intoL nb) (goalOf prog c).toNat))) (d2 := .int (stOf nb B sh c)) (Ev_bin (by walk_at "v") ?_ op_and) (by walk_at "v") op_ne rfl
    have hg := goal_le H hc
    refine Ev_sub (d1 := .list ((intoL nb).map .int)) (d2 := .int (goalOf prog c)) (by walk_at "v") ?_ (it_list hg.1 (by lia) (by rw [List.getElem?_map, at0_get (by show _ < 4; lia)]; rfl)) (fun _ _ => rfl)
    have e2 : ((c : Int).fmod 2) = ((c % 2 : Nat) : Int) := by rw [fmod_pos _ (by decide)]; exact rfl
    refine Ev_ifexp (b := (c : Int).fmod 2 == 1) (EvT_cmp (d1 := .int ((c : Int).fmod 2)) (d2 := .int 1) (Ev_bin (d1 := .int c) (d2 := .int 2) (by walk_at "v") Ev_int (op_mod (by decide))) Ev_int op_eq rfl) (fun q => ?_) (fun q => ?_)
    · have hq : c % 2 = 1 := by rw [e2] at q; have := beq_iff_eq.mp q; lia
      have eg : goalOf prog c = at0 (prow prog (c / 2)) ((prow prog (c / 2)).length - 1) := by unfold goalOf; rw [if_pos hq]
      rw [eg]
      refine Ev_sub (d1 := rowD (prow prog (c / 2))) (d2 := .int (-1)) (by walk_at "v") (by walk_at "v") (it_listNeg (by decide) (by simp; lia) (by decide) ?_) (fun _ _ => rfl)
      have h1 : (-1 + (((prow prog (c / 2)).map D.int).length : Int)).toNat = (prow prog (c / 2)).length - 1 := by simp; lia
      rw [h1, List.getElem?_map, at0_get (by lia)]; rfl
    · have hq : ¬ c % 2 = 1 := by
        rw [e2] at q
        intro hh
        rw [hh] at q
        exact absurd q (by decide)
      have eg : goalOf prog c = at0 (prow prog (c / 2)) 2 := by unfold goalOf; rw [if_neg hq]
      rw [eg]
      exact Ev_sub (d1 := rowD (prow prog (c / 2))) (d2 := .int 2) (by walk_at "v") Ev_int (it_list (by decide) (by decide) (H.rowk hc 2 (by decide))) (fun _ _ => rfl)
  · intro q
    refine Ex_cons (Es_ret Ev_bool ?_)
    exact hbad (by unfold badT; rw [q]; rfl)
  intro q1
  refine Ex_nil ?_
  refine Ex_cons ?_
  apply Es_if (b := ok2 nb prog B O c)
  · refine EvT_and2 (EvT_cmp (d1 := .int ((c : Int).fmod 2)) (d2 := .int 1) (Ev_bin (d1 := .int c) (d2 := .int 2) (by walk_at "v") Ev_int (op_mod (by decide))) Ev_int op_eq rfl) ?_
    refine EvT_cmp (d1 := .int (bitAnd (amOf nb prog c) ((B.fdiv 2 - 1) * (O - at0 nb c)))) (d2 := .int (amOf nb prog c)) (Ev_bin (d1 := .int (amOf nb prog c)) (d2 := .int ((B.fdiv 2 - 1) * (O - at0 nb c))) (by walk_at "v") ?_ op_and) (by walk_at "v") op_ne rfl
    exact Ev_bin (d1 := .int (B.fdiv 2 - 1)) (d2 := .int (O - at0 nb c)) (ev_half1 (by walk_at "v")) (by walk_at "v") (op_mul (IntMulOk.of_le bh1 (intBits_sub_le H.hO bm) (by decide)))
  · intro q
    refine Ex_cons (Es_ret Ev_bool ?_)
    exact hbad (by unfold badT; rw [q]; simp)
  intro q2
  refine Ex_nil ?_
  refine Ex_cons ?_
  apply Es_if (b := ok3 nb prog B O c)
  · refine EvT_and2 (EvT_cmp (d1 := .int c) (d2 := .tuple ([(0 : Int), 2, 4].map .int)) (by walk_at "v") (Ev_tuple (.cons Ev_int (.cons Ev_int (.cons Ev_int .nil rfl) rfl) rfl)) op_inT rfl) ?_
    have bhm : IntMulOk (B.fdiv 2) (at0 nb c) := IntMulOk.of_le bh bm (by decide)
    refine EvT_cmp (d1 := .int (bitAnd (B.fdiv 2 * at0 nb c) (amOf nb prog c + (B.fdiv 2 - 1) * O))) (d2 := .int (B.fdiv 2 * at0 nb c)) (Ev_bin (d1 := .int (B.fdiv 2 * at0 nb c)) (d2 := .int (amOf nb prog c + (B.fdiv 2 - 1) * O)) (Ev_bin (ev_half (by walk_at "v")) (by walk_at "v") (op_mul bhm)) ?_ op_and) (Ev_bin (ev_half (by walk_at "v")) (by walk_at "v") (op_mul bhm)) op_ne rfl
    exact Ev_bin (d1 := .int (amOf nb prog c)) (d2 := .int ((B.fdiv 2 - 1) * O)) (by walk_at "v") (Ev_bin (d1 := .int (B.fdiv 2 - 1)) (d2 := .int O) (ev_half1 (by walk_at "v")) (by walk_at "v") (op_mul (IntMulOk.of_le bh1 H.hO (by decide)))) op_add
  · intro q
    refine Ex_cons (Es_ret Ev_bool ?_)
    exact hbad (by unfold badT; rw [q]; simp)
  intro q3
  refine Ex_nil ?_
  exact h (by unfold badT; rw [q1, q2, q3]; rfl)
end
end
section
open PySem PySem.Calls PySem.W PySem.Builtin PySem.Builtin.Int
variable {C : Cx}
section
variable {n : Nat} {env : Env} {nb : List Int} {prog : List (List Int)} {starts : List Nat} {s w : Nat} {unit : Int} {f7 tt : Addr} {B O L sh : Int}
theorem updT_len {c : Nat} {t : List Int} : (updT nb prog B sh c t).length = t.length := by
  unfold updT
  split
  · simp
  split <;> simp
theorem turnsL_len {t : List Int} : ∀ c, (turnsL nb prog B sh c t).length = t.length
  | 0 => rfl
  | c + 1 => by show (updT _ _ _ _ _ _).length = _; rw [updT_len, turnsL_len c]
set_option maxHeartbeats 400000 in
theorem vc_hold3 (H : HH nb prog s w B O sh) {c : Nat} (hc : c < 7) {t : List Int} (ht : t.length = 2) {K : Out → Prop}
    (h : K (.next (rhoI nb prog starts s w unit f7 B O L (.ref tt) c (some (.int (at0 nb c))) (some (rowD (prow prog (c / 2)))) (some (.int (stOf nb B sh c))) (some (.int (amOf nb prog c)))) [(tt, (updT nb prog B sh c t).map .int)])) :
    Ex C n env (rhoI nb prog starts s w unit f7 B O L (.ref tt) c (some (.int (at0 nb c))) (some (rowD (prow prog (c / 2)))) (some (.int (stOf nb B sh c))) (some (.int (amOf nb prog c)))) [(tt, t.map .int)] (holdBody.drop 5) K := by
  refine e0a2 (H.row hc :) fun R hrow => ?_
  refine e0a2 (H.hp hc :) fun hp1 hp2 => ?_
  have hk0 : (0 : Int) ≤ at0 (prow prog (c / 2)) 0 := R.r0.1
  have hk1 : at0 (prow prog (c / 2)) 0 < 2 ^ 63 := by have := R.r0; lia
  have hget : (t.map D.int)[(at0 (prow prog (c / 2)) 0).toNat]? = some (.int (at0 t (hpOf prog c))) := by
    show (t.map D.int)[hpOf prog c]? = _
    rw [List.getElem?_map, at0_get (by lia)]; rfl
  have hlt : at0 (prow prog (c / 2)) 0 < ((t.map D.int).length : Int) := by rw [List.length_map, ht]; lia
  refine Ex_cons ?_
  apply Es_ifB (P := c < 6 ∧ at0 (prow prog (c / 2)) 1 = 0) (b := decide ((c : Int) < 6) && (at0 (prow prog (c / 2)) 1 == 0))
  · exact EvT_and2 (by walk_at "v") (EvT_cmp (d1 := .int (at0 (prow prog (c / 2)) 1)) (d2 := .int 0) (Ev_sub (d1 := rowD (prow prog (c / 2))) (d2 := .int 1) (by walk_at "v") Ev_int (it_list (by decide) (by decide) (H.rowk hc 1 (by decide))) (fun _ _ => rfl)) Ev_int op_eq rfl)
  · rw [Bool.and_eq_true, decide_eq_true_iff, beq_iff_eq]
    exact ⟨fun w1q => e0a2 (w1q :) fun a b => ⟨by lia, b⟩, fun w2q => e0a2 (w2q :) fun a b => ⟨by lia, b⟩⟩
  · intro hq
    have hN : updT nb prog B sh c t = t.set (hpOf prog c) (at0 t (hpOf prog c) + stOf nb B sh c) := by unfold updT; rw [if_pos hq]
    refine Ex_cons ?_
    refine Es_setitem (EvW_pure (d := .int (at0 t (hpOf prog c) + stOf nb B sh c)) ?_ ⟨tt, at0 (prow prog (c / 2)) 0, t.map .int, [(tt, (updT nb prog B sh c t).map .int)], by walk_at "v", ?_, hk0, hlt, hk1, ?_, ?_⟩)
    · refine Ev_bin (d1 := .int (at0 t (hpOf prog c))) (d2 := .int (stOf nb B sh c)) (Ev_subO (a := tt) (k := at0 (prow prog (c / 2)) 0) (by walk_at "v") ?_ .head hk0 hk1 hget (fun _ _ => rfl)) (by walk_at "v") op_add
      exact Ev_sub (d1 := rowD (prow prog (c / 2))) (d2 := .int 0) (by walk_at "v") Ev_int (it_list (by decide) (by decide) (H.rowk hc 0 (by decide))) (fun _ _ => rfl)
    · exact Ev_sub (d1 := rowD (prow prog (c / 2))) (d2 := .int 0) (by walk_at "v") Ev_int (it_list (by decide) (by decide) (H.rowk hc 0 (by decide))) (fun _ _ => rfl)
    · rw [hN, List.map_set]; exact .head
    · exact Ex_nil (Ex_nil h)
  · intro hq
    refine Ex_cons ?_
    apply Es_ifB (P := c = 0 ∨ c = 2 ∨ c = 4) (b := [(0 : Int), 2, 4].any (· == (c : Int)))
    · exact EvT_cmp (d1 := .int c) (d2 := .tuple ([(0 : Int), 2, 4].map .int)) (by walk_at "v") (Ev_tuple (.cons Ev_int (.cons Ev_int (.cons Ev_int .nil rfl) rfl) rfl)) op_inT rfl
    · simp only [List.any_cons, List.any_nil, Bool.or_false, Bool.or_eq_true, beq_iff_eq]
      lia
    · intro hq2
      have hN : updT nb prog B sh c t = t.set (hpOf prog c) (at0 t (hpOf prog c) - stOf nb B sh c) := by unfold updT; rw [if_neg hq, if_pos hq2]
      refine Ex_cons ?_
      refine Es_setitem (EvW_pure (d := .int (at0 t (hpOf prog c) - stOf nb B sh c)) ?_ ⟨tt, at0 (prow prog (c / 2)) 0, t.map .int, [(tt, (updT nb prog B sh c t).map .int)], by walk_at "v", ?_, hk0, hlt, hk1, ?_, ?_⟩)
      · refine Ev_bin (d1 := .int (at0 t (hpOf prog c))) (d2 := .int (stOf nb B sh c)) (Ev_subO (a := tt) (k := at0 (prow prog (c / 2)) 0) (by walk_at "v") ?_ .head hk0 hk1 hget (fun _ _ => rfl)) (by walk_at "v") op_sub
        exact Ev_sub (d1 := rowD (prow prog (c / 2))) (d2 := .int 0) (by walk_at "v") Ev_int (it_list (by decide) (by decide) (H.rowk hc 0 (by decide))) (fun _ _ => rfl)
      · exact Ev_sub (d1 := rowD (prow prog (c / 2))) (d2 := .int 0) (by walk_at "v") Ev_int (it_list (by decide) (by decide) (H.rowk hc 0 (by decide))) (fun _ _ => rfl)
      · rw [hN, List.map_set]; exact .head
      · exact Ex_nil (Ex_nil (Ex_nil h))
    · intro hq2
      have hN : updT nb prog B sh c t = t := by unfold updT; rw [if_neg hq, if_neg hq2]
      rw [hN] at h
      exact Ex_nil (Ex_nil (Ex_nil h))
theorem vc_holdT (H : HH nb prog s w B O sh) {c : Nat} (hc : c < 7) {t : List Int} (ht : t.length = 2) {x1 x2 x3 x4 : Option D} {K : Out → Prop}
    (hbad : badT nb prog B O sh c = true → K (.ret (.bool false) [(tt, t.map .int)]))
    (h : badT nb prog B O sh c = false → K (.next (rhoI nb prog starts s w unit f7 B O L (.ref tt) c (some (.int (at0 nb c))) (some (rowD (prow prog (c / 2)))) (some (.int (stOf nb B sh c))) (some (.int (amOf nb prog c)))) [(tt, (updT nb prog B sh c t).map .int)])) :
    Ex C n env (rhoI nb prog starts s w unit f7 B O L (.ref tt) c x1 x2 x3 x4) [(tt, t.map .int)] holdBody K :=
  vc_hold1 H hc (vc_hold2 H hc hbad fun q => vc_hold3 H hc ht (h q))
end
end
section
open PySem PySem.Calls PySem.W PySem.Builtin PySem.Builtin.Int
variable {C : Cx}
inductive CelIn : Rho → Str → Prop
  | head {x o r} : CelIn ((x, .cel, o) :: r) x
  | tail {p r x} : CelIn r x → CelIn (p :: r) x
theorem CelIn.ex {ρ : Rho} {x : Str} (h : CelIn ρ x) : ∃ o, (x, Sl.cel, o) ∈ ρ := by
  induction h with
  | head => exact ⟨_, List.mem_cons_self⟩
  | tail _ ih => exact e1a1 ih fun o m => ⟨o, List.mem_cons_of_mem _ m⟩
theorem swapNone {x1 x2 : Str} {p1 p2 tpos : Pos} {k k2 : Nat} {v1 v2 : Expr} {vpos : Pos} {env : Env} (hb : env.blockKind = .function) (hk : env.kindOf x1 = some .cell) (hst : ([v1, v2].any fun | .Starred .. => true | _ => false) = false) :
    swappedStores [.Tuple [.Name x1 p1, .Name x2 p2] k tpos] (.Tuple [v1, v2] k2 vpos) env = pure none := by
  have e1 : nmF env p1.line (.Name x1 p1) = none := if_neg (by rw [hk]; exact Bool.false_ne_true)
  have e2 : ([.Name x1 p1, .Name x2 p2] : List Expr).filterMap (nmF env p1.line) = ([.Name x2 p2] : List Expr).filterMap (nmF env p1.line) := List.filterMap_cons_none e1
  have e3 : (([.Name x2 p2] : List Expr).filterMap (nmF env p1.line)).length ≤ 1 := List.length_filterMap_le _ _
  refine swapsN (by rw [hb]; rfl) hst e2 ?_
  have e4 : ((([.Name x2 p2] : List Expr).filterMap (nmF env p1.line)).length != 2) = true := bne_iff_ne.mpr (Nat.ne_of_lt (Nat.lt_succ_of_le e3))
  exact Bool.or_eq_true_iff.mpr (.inl e4)
theorem toPy_pairs (a b c d : Int) : toPy (.list [.tuple [.int a, .int b], .tuple [.int c, .int d]]) = .list [.tuple [.int a, .int b], .tuple [.int c, .int d]] := rfl
theorem shaped_pairs (a b c d : Int) : SeqAt.shaped (toPy (.list [.tuple [.int a, .int b], .tuple [.int c, .int d]])) = true := rfl
theorem eqv_pairs (a b c d a' b' c' d' : Int) : PyData.eqv (toPy (.list [.tuple [.int a, .int b], .tuple [.int c, .int d]])) (toPy (.list [.tuple [.int a', .int b'], .tuple [.int c', .int d']])) = ((a == a') && (b == b') && ((c == c') && (d == d'))) := by
  rw [toPy_pairs, toPy_pairs]
  simp [PyData.eqv, PyData.eqvAll]
section
variable {n : Nat} {env : Env} {nb : List Int} {prog : List (List Int)} {starts : List Nat} {s w : Nat} {unit : Int} {f7 tt : Addr} {B O L sh : Int}
theorem ev_shr {ρ : Rho} {own : Own} {e0 e1 e2 : Expr} {p2 p3 : Pos} {v : Int} {a b : Nat} (h0 : Ev C n env ρ own e0 (.int v)) (h1 : Ev C n env ρ own e1 (.int a)) (h2 : Ev C n env ρ own e2 (.int b)) (ha : a ≤ 1000) (hb : b ≤ 1000) :
    Ev C n env ρ own (.BinOp e0 .RShift (.BinOp e1 .Mult e2 p2) p3) (.int (v.fdiv (2 ^ (a * b)))) := by
  have hab : a * b ≤ 1000000 := Nat.le_trans (Nat.mul_le_mul ha hb) (by decide)
  have e : (2 : Int) ^ (a * b) = 2 ^ ((a : Int) * (b : Int)).toNat := by congr 1
  have h3 : ((a * b : Nat) : Int) = (a : Int) * b := by simp
  rw [e]
  exact Ev_bin (d1 := .int v) (d2 := .int ((a : Int) * (b : Int))) h0 (Ev_bin (d1 := .int a) (d2 := .int b) h1 h2 (op_mul (IntMulOk.of_left (Nat.le_trans (bits_lt (n := 60) (by exact Int.natCast_nonneg a) (by lia)) (by decide))))) (op_shr (by exact Int.natCast_nonneg (a * b)))
noncomputable abbrev rhoK (nb : List Int) (prog : List (List Int)) (starts : List Nat) (s w : Nat) (unit : Int) (f7 : Addr) (B O L : Int) (tl : List Int) (code mark row step amount k en parts : Option D) : Rho :=
  rhoH nb prog starts s w unit f7 (some (.int B)) (some (marksD nb)) (some (heldD nb)) (some (.list (tl.map .int))) (some (.int O)) (some (.int L)) (some (.list ((intoL nb).map .int))) code mark row step amount k en parts
noncomputable def prs (unit : Int) : List (Int × Int) := [(unit, 0), (-unit, (-unit).fdiv 3)]
noncomputable def pD (p : Int × Int) : D := .tuple [.int p.1, .int p.2]
set_option maxHeartbeats 400000 in
theorem vc_part (H : HH nb prog s w B O sh) {tl : List Int} (ht : tl.length = 2) (hT : ∀ k < 2, intBits (at0 tl k) ≤ 30000) (hu : intBits unit ≤ 5000) (h7 : FnObj C f7) (g7 : GlobD C "int_divmod" (.ref f7)) {k : Nat} (hk : k < 2) {x1 x2 x3 x4 x5 x6 x7 : Option D} {K : Out → Prop}
    (c7 : ∀ p ∈ prs unit, Cal C n (.ref f7) [.int (at0 tl k * p.1 + p.2), .int ((B - 1) * p.1)] (.tuple [.int ((at0 tl k * p.1 + p.2).fdiv ((B - 1) * p.1)), .int ((at0 tl k * p.1 + p.2).fmod ((B - 1) * p.1))]))
    (hbad : badP nb B O sh unit tl k = true → K (.ret (.bool false) []))
    (h : badP nb B O sh unit tl k = false → K (.next (rhoK nb prog starts s w unit f7 B O L tl x1 x2 x3 x4 x5 (some (.int k)) (some (.int ((at0 nb (7 + k)).fdiv sh))) (some (.tuple ((prs unit).map pD)))) [])) :
    Ex C n env (rhoK nb prog starts s w unit f7 B O L tl x1 x2 x3 x4 x5 (some (.int k)) x6 x7) [] partBody K := by
  refine e0a2 (H.bitH :) fun bh bh1 => ?_
  have bm := H.bit (show 7 + k < 9 by lia)
  have bE : intBits ((at0 nb (7 + k)).fdiv sh) ≤ 20000 := intBits_fdiv_le bm
  have hkn : ((k : Int)).toNat = k := by exact rfl
  have bB1 : intBits (B - 1) ≤ 1002 := Nat.le_trans (intBits_sub_le H.bitB (by decide : intBits 1 ≤ 1)) (by decide)
  have bp : ∀ p ∈ prs unit, intBits p.1 ≤ 5000 := fun p hp => by
    simp only [prs, List.mem_cons, List.not_mem_nil, or_false] at hp
    rcases hp with rfl | rfl
    · exact hu
    · exact intBits_neg_le hu
  unfold rhoK rhoH at h ⊢
  unfold marksD heldD at h ⊢
  refine Ex_cons ?_
  refine Es_tupC (x := "end") (CelIn.ex (by repeat (first | exact .head | apply CelIn.tail))) (EvW_pure (d := .tuple [.int ((at0 nb (7 + k)).fdiv sh), .tuple ((prs unit).map pD)]) ?_ ⟨_, .tuple (.cons (by walk_at "up") (.cons (by walk_at "up") .nil)), ?_⟩) (fun hb hk => swapNone hb hk rfl) rfl
  · refine Ev_tuple (.cons ?_ (.cons ?_ .nil rfl) rfl)
    · rw [H.hsh]
      exact ev_shr (Ev_sub (d1 := .list ((nb.drop 7).map .int)) (d2 := .int k) (by walk_at "v") (by walk_at "v") (it_list (by exact Int.natCast_nonneg k) (by lia) (by rw [hkn]; exact H.held hk)) (fun _ _ => rfl)) (by walk_at "v") (by walk_at "v") H.hw (by have := H.hs; lia)
    · refine Ev_tuple (.cons (Ev_tuple (.cons (by walk_at "v") (.cons Ev_int .nil rfl) rfl)) (.cons (Ev_tuple (.cons (by walk_at "v") (.cons ?_ .nil rfl) rfl)) .nil rfl) rfl)
      exact Ev_bin (d1 := .int (-unit)) (d2 := .int 3) (by walk_at "v") Ev_int (op_div (by decide) (pylong_small (by decide)))
  refine Ex_cons ?_
  apply Es_if (b := badP nb B O sh unit tl k)
  · unfold badP
    refine EvT_or2 (EvT_cmp (d1 := .int (bitAnd (at0 nb (7 + k)) ((B.fdiv 2 - 1) * O))) (d2 := .int (at0 nb (7 + k))) (Ev_bin (d1 := .int (at0 nb (7 + k))) (d2 := .int ((B.fdiv 2 - 1) * O)) ?_ ?_ op_and) ?_ op_ne rfl) ?_
    · exact Ev_sub (d1 := .list ((nb.drop 7).map .int)) (d2 := .int k) (by walk_at "v") (by walk_at "v") (it_list (by exact Int.natCast_nonneg k) (by lia) (by rw [hkn]; exact H.held hk)) (fun _ _ => rfl)
    · exact Ev_bin (d1 := .int (B.fdiv 2 - 1)) (d2 := .int O) (ev_half1 (by walk_at "v")) (by walk_at "v") (op_mul (IntMulOk.of_le bh1 H.hO (by decide)))
    · exact Ev_sub (d1 := .list ((nb.drop 7).map .int)) (d2 := .int k) (by walk_at "v") (by walk_at "v") (it_list (by exact Int.natCast_nonneg k) (by lia) (by rw [hkn]; exact H.held hk)) (fun _ _ => rfl)
    · have ee : (!([(unit, 0), (-unit, (-unit).fdiv 3)].all fun p : Int × Int => ((at0 tl k * p.1 + p.2).fdiv ((B - 1) * p.1) == (at0 nb (7 + k)).fdiv sh * O - at0 nb (7 + k)) && ((at0 tl k * p.1 + p.2).fmod ((B - 1) * p.1) == (at0 nb (7 + k)).fdiv sh * p.1 + p.2)))
          = !PyData.eqv (toPy (.list ((prs unit).map fun p => D.tuple [.int ((at0 tl k * p.1 + p.2).fdiv ((B - 1) * p.1)), .int ((at0 tl k * p.1 + p.2).fmod ((B - 1) * p.1))]))) (toPy (.list ((prs unit).map fun p => D.tuple [.int ((at0 nb (7 + k)).fdiv sh * O - at0 nb (7 + k)), .int ((at0 nb (7 + k)).fdiv sh * p.1 + p.2)]))) := by
        unfold prs
        simp only [List.map_cons, List.map_nil]
        rw [eqv_pairs]
        simp
      rw [ee]
      refine EvT_cmp (d1 := .list ((prs unit).map fun p => D.tuple [.int ((at0 tl k * p.1 + p.2).fdiv ((B - 1) * p.1)), .int ((at0 tl k * p.1 + p.2).fmod ((B - 1) * p.1))])) (d2 := .list ((prs unit).map fun p => D.tuple [.int ((at0 nb (7 + k)).fdiv sh * O - at0 nb (7 + k)), .int ((at0 nb (7 + k)).fdiv sh * p.1 + p.2)])) (Ev_new ?_) (Ev_new ?_) (op_neD rfl rfl (by unfold prs; exact shaped_pairs _ _ _ _) (by unfold prs; exact shaped_pairs _ _ _ _)) rfl
      · refine EvN_comp (frozen := true) (ds := (prs unit).map pD) [("part", .loc, none), ("rest", .loc, none), ("int_divmod", .glo, some (.ref f7)), ("base", .cap, some (.int B)), ("k", .cap, some (.int k)), ("turns", .cap, some (.list (tl.map .int)))] (EvI_tuple (by walk_at "v")) (by walk_at "comps") (fun L2 cells2 => ?_) (by rw [List.length_map]; show 2 ≤ sizeLine; decide)
        refine CompR_map pD _ (prs unit) fun p hp => ?_
        have bp1 := bp p hp
        refine ⟨_, .tuple (.cons (by walk_at "up") (.cons (by walk_at "up") .nil)), .lose (.lose (.same (.same (.same (.same .nil))))), .nil, ?_⟩
        refine Ev_callF (f := f7) (ds := [.int (at0 tl k * p.1 + p.2), .int ((B - 1) * p.1)]) (by walk_at "at") h7 (.cons ?_ (.cons ?_ .nil rfl) rfl) (c7 p hp)
        · refine Ev_bin (d1 := .int (at0 tl k * p.1)) (d2 := .int p.2) (Ev_bin (d1 := .int (at0 tl k)) (d2 := .int p.1) ?_ (by walk_at "v") (op_mul (IntMulOk.of_le (hT k hk) bp1 (by decide)))) (by walk_at "v") op_add
          exact Ev_sub (d1 := .list (tl.map .int)) (d2 := .int k) (by walk_at "v") (by walk_at "v") (it_list (by lia) (by lia) (by rw [hkn, List.getElem?_map, at0_get (by lia)]; rfl)) (fun _ _ => rfl)
        · exact Ev_bin (d1 := .int (B - 1)) (d2 := .int p.1) (by walk_at "v") (by walk_at "v") (op_mul (IntMulOk.of_le bB1 bp1 (by decide)))
      · refine EvN_comp (frozen := true) (ds := (prs unit).map pD) [("part", .loc, none), ("rest", .loc, none), ("end", .cap, some (.int ((at0 nb (7 + k)).fdiv sh))), ("held", .cap, some (.list ((nb.drop 7).map .int))), ("k", .cap, some (.int k)), ("ones", .cap, some (.int O))] (EvI_tuple (by walk_at "v")) (by walk_at "comps") (fun L2 cells2 => ?_) (by rw [List.length_map]; show 2 ≤ sizeLine; decide)
        refine CompR_map pD _ (prs unit) fun p hp => ?_
        have bp1 := bp p hp
        refine ⟨_, .tuple (.cons (by walk_at "up") (.cons (by walk_at "up") .nil)), .lose (.lose (.same (.same (.same (.same .nil))))), .nil, ?_⟩
        refine Ev_tuple (.cons ?_ (.cons ?_ .nil rfl) rfl)
        · refine Ev_bin (d1 := .int ((at0 nb (7 + k)).fdiv sh * O)) (d2 := .int (at0 nb (7 + k))) (Ev_bin (d1 := .int ((at0 nb (7 + k)).fdiv sh)) (d2 := .int O) (by walk_at "v") (by walk_at "v") (op_mul (IntMulOk.of_le bE H.hO (by decide)))) ?_ op_sub
          exact Ev_sub (d1 := .list ((nb.drop 7).map .int)) (d2 := .int k) (by walk_at "v") (by walk_at "v") (it_list (by lia) (by lia) (by rw [hkn]; exact H.held hk)) (fun _ _ => rfl)
        · exact Ev_bin (d1 := .int ((at0 nb (7 + k)).fdiv sh * p.1)) (d2 := .int p.2) (Ev_bin (d1 := .int ((at0 nb (7 + k)).fdiv sh)) (d2 := .int p.1) (by walk_at "v") (by walk_at "v") (op_mul (IntMulOk.of_le bE bp1 (by decide)))) (by walk_at "v") op_add
  · intro q
    exact Ex_cons (Es_ret Ev_bool (hbad q))
  · intro q
    exact Ex_nil (Ex_nil (h q))
end
end
section
open PySem PySem.Calls PySem.W PySem.Builtin PySem.Builtin.Int
variable {C : Cx}
section
variable {n : Nat} {env : Env} {nb : List Int} {prog : List (List Int)} {starts : List Nat} {s w : Nat} {unit : Int} {f7 tt : Addr} {B O L sh : Int}
noncomputable def t0 (starts : List Nat) : List Int := starts.map fun k : Nat => (k : Int)
theorem holds_badT {c : Nat} (hc : c < 7) (h : badT nb prog B O sh c = true) : holdsB nb prog starts B O L sh unit = false := by
  unfold holdsB
  have : (List.range 7).all (fun c => !badT nb prog B O sh c) = false := by
    rw [List.all_eq_false]
    exact ⟨c, List.mem_range.mpr hc, by rw [h]; decide⟩
  rw [this]; simp
theorem holds_badP {k : Nat} (hk : k < 2) (h : badP nb B O sh unit (turnsL nb prog B sh 7 (t0 starts)) k = true) : holdsB nb prog starts B O L sh unit = false := by
  unfold holdsB
  have : ([0, 1].all fun k => !badP nb B O sh unit (turnsL nb prog B sh 7 (t0 starts)) k) = false := by
    rw [List.all_eq_false]
    refine ⟨k, by simp; lia, by rw [h]; decide⟩
  unfold t0 at this
  rw [this]; simp
theorem holds_bad0 (h : ((L != 0) || ((nb.take 7).sum != O) || ((at0 (intoL nb) 0).fmod 2 == 0)) = true) : holdsB nb prog starts B O L sh unit = false := by
  unfold holdsB; rw [h]; rfl
theorem holds_good (h0 : ((L != 0) || ((nb.take 7).sum != O) || ((at0 (intoL nb) 0).fmod 2 == 0)) = false) (hT : ∀ c < 7, badT nb prog B O sh c = false) (hP : ∀ k < 2, badP nb B O sh unit (turnsL nb prog B sh 7 (t0 starts)) k = false) : holdsB nb prog starts B O L sh unit = true := by
  unfold holdsB
  rw [h0]
  have h1 : (List.range 7).all (fun c => !badT nb prog B O sh c) = true := by
    rw [List.all_eq_true]
    intro c hc
    rw [hT c (List.mem_range.mp hc)]; rfl
  have h2 : ([0, 1].all fun k => !badP nb B O sh unit (turnsL nb prog B sh 7 (t0 starts)) k) = true := by
    rw [List.all_eq_true]
    intro k hk
    rw [hP k (by simp at hk; lia)]; rfl
  unfold t0 at h2
  rw [h1, h2]; rfl
set_option maxHeartbeats 400000 in
theorem vc_holdLoops (H : HH nb prog s w B O sh) (hl : starts.length = 2) (hT : ∀ k < 2, intBits (at0 (turnsL nb prog B sh 7 (t0 starts)) k) ≤ 30000) (hu : intBits unit ≤ 5000) (h7 : FnObj C f7) (g7 : GlobD C "int_divmod" (.ref f7))
    (c7 : ∀ k < 2, ∀ p ∈ prs unit, Cal C n (.ref f7) [.int (at0 (turnsL nb prog B sh 7 (t0 starts)) k * p.1 + p.2), .int ((B - 1) * p.1)] (.tuple [.int ((at0 (turnsL nb prog B sh 7 (t0 starts)) k * p.1 + p.2).fdiv ((B - 1) * p.1)), .int ((at0 (turnsL nb prog B sh 7 (t0 starts)) k * p.1 + p.2).fmod ((B - 1) * p.1))]))
    (h0 : ((L != 0) || ((nb.take 7).sum != O) || ((at0 (intoL nb) 0).fmod 2 == 0)) = false) :
    Ex C n env (rhoH nb prog starts s w unit f7 (some (.int B)) (some (marksD nb)) (some (heldD nb)) (some (.ref tt)) (some (.int O)) (some (.int L)) (some (.list ((intoL nb).map .int))) none none none none none none none none) [(tt, (t0 starts).map .int)] ((bodyAt 77).drop 4)
      fun o => match o with | .ret d' _ => d' = .bool (holdsB nb prog starts B O L sh unit) | .next _ _ => False := by
  refine Ex_cons ?_
  refine Es_for (EvI_range (k := 7) (by walk_at "at") Ev_int rfl (by decide) (by decide)) (fun i ρ own => ∃ xc x1 x2 x3 x4, (∀ c < i, badT nb prog B O sh c = false) ∧ i ≤ 7 ∧
      own = [(tt, (turnsL nb prog B sh i (t0 starts)).map .int)] ∧ ρ = rhoH nb prog starts s w unit f7 (some (.int B)) (some (marksD nb)) (some (heldD nb)) (some (.ref tt)) (some (.int O)) (some (.int L)) (some (.list ((intoL nb).map .int))) xc x1 x2 x3 x4 none none none) ?_ ?_ ?_
  · exact ⟨none, none, none, none, none, fun c hc => absurd hc (Nat.not_lt_zero c), by decide, rfl, rfl⟩
  · intro i ρ own d hd w1q; refine e5a4 (w1q :) fun xc x1 x2 x3 x4 hok hi r5q r6q => ?_; clear w1q; subst r5q; subst r6q
    have hi' : i < 7 := by
      have := (List.getElem?_eq_some_iff.mp hd).1
      unfold rngD at this
      simpa using this
    have hd' : d = .int (i : Int) := by
      unfold rngD at hd
      rw [List.getElem?_map] at hd
      have h2 : i < ((7 : Int)).toNat := by exact hi'
      rw [List.getElem?_range h2] at hd
      exact (Option.some.inj hd).symm
    subst hd'
    refine ⟨rhoI nb prog starts s w unit f7 B O L (.ref tt) i x1 x2 x3 x4, .name (by walk_at "up"), ?_⟩
    refine vc_holdT H hi' (by rw [turnsL_len]; unfold t0; rw [List.length_map, hl]) (fun q => ?_) fun q => ?_
    · show D.bool false = _
      rw [holds_badT hi' q]
    · refine ⟨_, _, _, _, _, fun c hc => ?_, by exact hi', rfl, rfl⟩
      by_cases he : c = i
      · rw [he]; exact q
      · exact hok c (by lia)
  · intro ρ own w2q; refine e5a4 (w2q :) fun xc x1 x2 x3 x4 hok hi r7q r8q => ?_; clear w2q; subst r7q; subst r8q
    have hrl : (rngD 7).length = 7 := by decide
    rw [hrl] at hok ⊢
    refine Ex_freeze .head (.skip (.skip (.skip (.skip (.skip (.skip (.skip (.skip (.skip (.cons .here .same nofun)))))))))) .same ?_
    refine Ex_cons ?_
    refine Es_for (EvI_tuple (ds := [.int 0, .int 1]) (by walk_at "v")) (fun i ρ own => ∃ xk x6 x7, (∀ k < i, badP nb B O sh unit (turnsL nb prog B sh 7 (t0 starts)) k = false) ∧ i ≤ 2 ∧ own = [] ∧ ρ = rhoK nb prog starts s w unit f7 B O L (turnsL nb prog B sh 7 (t0 starts)) xc x1 x2 x3 x4 xk x6 x7) ?_ ?_ ?_
    · exact ⟨none, none, none, fun k hk => absurd hk (Nat.not_lt_zero k), by decide, rfl, rfl⟩
    · intro i ρ own d hd w3q; refine e3a4 (w3q :) fun xk x6 x7 hokP hi2 r9q r10q => ?_; clear w3q; subst r9q; subst r10q
      have hi' : i < 2 := (List.getElem?_eq_some_iff.mp hd).1
      have hd' : d = .int (i : Int) := by
        rcases (by lia : i = 0 ∨ i = 1) with rfl | rfl
        · exact (Option.some.inj hd).symm
        · exact (Option.some.inj hd).symm
      subst hd'
      refine ⟨rhoK nb prog starts s w unit f7 B O L (turnsL nb prog B sh 7 (t0 starts)) xc x1 x2 x3 x4 (some (.int i)) x6 x7, .name (by walk_at "up"), ?_⟩
      refine vc_part H (by rw [turnsL_len]; unfold t0; rw [List.length_map, hl]) hT hu h7 g7 hi' (c7 i hi') (fun q => ?_) fun q => ?_
      · show D.bool false = _
        rw [holds_badP hi' q]
      · refine ⟨_, _, _, fun k hk => ?_, by exact hi', rfl, rfl⟩
        by_cases he : k = i
        · rw [he]; exact q
        · exact hokP k (by lia)
    · intro ρ own w4q; refine e3a4 (w4q :) fun xk x6 x7 hokP hi2 r11q r12q => ?_; clear w4q; subst r11q; subst r12q
      refine Ex_cons (Es_ret Ev_bool ?_)
      show D.bool true = _
      rw [holds_good h0 (fun c hc => hok c hc) (fun k hk => hokP k hk)]
end
end
section
open PySem PySem.Calls PySem.W PySem.Builtin PySem.Builtin.Int
variable {C : Cx}
section
variable {n : Nat} {env : Env} {nb : List Int} {prog : List (List Int)} {starts : List Nat} {s w : Nat} {unit : Int} {f7 tt : Addr} {B O L sh : Int}
noncomputable def topI (w s : Nat) : Int := 2 ^ (w * (s + 1)) - 1
noncomputable def onesI (w s : Nat) : Int := (topI w s).fdiv (2 ^ w - 1)
noncomputable def leftI (w s : Nat) : Int := (topI w s).fmod (2 ^ w - 1)
theorem topI_bits (w s : Nat) : intBits (topI w s) ≤ w * (s + 1) := by
  unfold topI
  exact bits_lt (by have := two_pos (w * (s + 1)); lia) (by lia)
theorem q1_bits {w : Nat} (hw : 1 ≤ w) : w ≤ intBits ((2 : Int) ^ w - 1) := by
  have h : (2 : Int) ^ (w - 1) ≤ 2 ^ w - 1 := by
    refine e1a1 ((show ∃ k, w = k + 1 from ⟨w - 1, by lia⟩) :) fun k r1q => ?_; subst r1q
    have e : k + 1 - 1 = k := by exact Nat.add_sub_cancel k 1
    rw [e, Int.pow_succ]
    have := two_pos k
    lia
  have := bits_ge h
  lia
theorem q1_le {w : Nat} : intBits ((2 : Int) ^ w - 1) ≤ w := bits_lt (by have := two_pos w; lia) (by lia)
theorem q1_ne {w : Nat} (hw : 1 ≤ w) : (2 : Int) ^ w - 1 ≠ 0 := by
  intro h
  have := q1_bits hw
  rw [h] at this
  have : intBits 0 = 0 := by decide
  lia
set_option maxHeartbeats 400000 in
theorem vc_holds (H : HH nb prog s w (2 ^ w) (onesI w s) (2 ^ (w * s))) (hw1 : 1 ≤ w) (hl : starts.length = 2) (hT : ∀ k < 2, intBits (at0 (turnsL nb prog (2 ^ w) (2 ^ (w * s)) 7 (t0 starts)) k) ≤ 30000) (hu : intBits unit ≤ 5000) (h7 : FnObj C f7) (g7 : GlobD C "int_divmod" (.ref f7))
    (c0 : Cal C n (.ref f7) [.int (topI w s), .int (2 ^ w - 1)] (.tuple [.int (onesI w s), .int (leftI w s)]))
    (c7 : ∀ k < 2, ∀ p ∈ prs unit, Cal C n (.ref f7) [.int (at0 (turnsL nb prog (2 ^ w) (2 ^ (w * s)) 7 (t0 starts)) k * p.1 + p.2), .int ((2 ^ w - 1) * p.1)] (.tuple [.int ((at0 (turnsL nb prog (2 ^ w) (2 ^ (w * s)) 7 (t0 starts)) k * p.1 + p.2).fdiv ((2 ^ w - 1) * p.1)), .int ((at0 (turnsL nb prog (2 ^ w) (2 ^ (w * s)) 7 (t0 starts)) k * p.1 + p.2).fmod ((2 ^ w - 1) * p.1))])) :
    Ex C n env (rhoH nb prog starts s w unit f7 none none none none none none none none none none none none none none none) [] (bodyAt 77)
      fun o => match o with | .ret d' _ => d' = .bool (holdsB nb prog starts (2 ^ w) (onesI w s) (leftI w s) (2 ^ (w * s)) unit) | .next _ _ => False := by
  have hm : ∀ k : Nat, k < 7 → (List.map D.int (nb.take 7))[((k : Int)).toNat]? = some (.int (at0 nb k)) := fun k hk => H.marks hk
  have hnl : (nb.map D.int).length = 9 := by rw [List.length_map, H.nl]
  have hw2 := H.hw
  have hs2 := H.hs
  refine Ex_cons ?_
  refine Es_tup (EvW_tuple ⟨rfl, EvW_pure (d := .int (2 ^ w)) ?_ ⟨rfl, EvW_pure (d := marksD nb) ?_ ⟨rfl, EvW_pure (d := heldD nb) ?_ ⟨rfl, EvW_new (ds := (t0 starts).map .int) ?_ fun tt => ⟨_, .tuple (.cons (by walk_at "up") (.cons (by walk_at "up") (.cons (by walk_at "up") (.cons (by walk_at "up") .nil)))), ?_⟩⟩⟩⟩⟩) rfl (fun _ => rfl)
  · have e : (2 : Int) ^ w = 1 * 2 ^ ((w : Int)).toNat := by rw [Int.one_mul]; congr 1
    rw [e]
    have h4 : intBits 1 = 1 := by decide
    exact Ev_bin (d1 := .int 1) (d2 := .int w) Ev_int (by walk_at "v") (op_shl (by exact Int.natCast_nonneg w) (by rw [h4]; lia))
  · have e : marksD nb = .list (((nb.map D.int).drop (W.kms_lo none (nb.map D.int).length)).take (W.kms_hi (some 7) (nb.map D.int).length - W.kms_lo none (nb.map D.int).length)) := by
      rw [hnl]
      have e1 : W.kms_lo none 9 = 0 := rfl
      have e2 : W.kms_hi (some 7) 9 = 7 := rfl
      rw [e1, e2]
      unfold marksD
      simp
    rw [e]
    exact Ev_sliceL (by walk_at "v") .none (.some Ev_int) (by rw [hnl]; decide)
  · have e : heldD nb = .list (((nb.map D.int).drop (W.kms_lo (some 7) (nb.map D.int).length)).take (W.kms_hi none (nb.map D.int).length - W.kms_lo (some 7) (nb.map D.int).length)) := by
      rw [hnl]
      have e1 : W.kms_lo (some 7) 9 = 7 := rfl
      have e2 : W.kms_hi none 9 = 9 := rfl
      rw [e1, e2]
      unfold heldD
      rw [← List.map_drop]
      congr 1
      rw [List.take_of_length_le]
      rw [List.length_map, List.length_drop, H.nl]
      decide
    rw [e]
    exact Ev_sliceL (by walk_at "v") (.some Ev_int) .none (by rw [hnl]; decide)
  · have e : (t0 starts).map D.int = starts.map fun k : Nat => D.int k := by unfold t0; rw [List.map_map]; rfl
    rw [e]
    exact EvN_listOf (by walk_at "at") (by walk_at "v") rfl (by rw [List.length_map, hl]; decide)
  refine Ex_cons ?_
  apply Es_tupP (ds := [.int (onesI w s), .int (leftI w s)])
  case he =>
    refine Ev_callF (f := f7) (ds := [.int (topI w s), .int (2 ^ w - 1)]) (by walk_at "at") h7 (.cons ?_ (.cons ?_ .nil rfl) rfl) c0
    · unfold topI
      refine Ev_bin (d1 := .int (2 ^ (w * (s + 1)))) (d2 := .int 1) (ev_shl (by walk_at "v") ?_ (by exact hw2) (by lia)) Ev_int op_sub
      have e : ((s + 1 : Nat) : Int) = (s : Int) + 1 := by exact Int.natCast_add s 1
      rw [e]
      walk_at "v"
    · walk_at "v"
  case ha => walk_at "v"
  case hs => rfl
  case hw => rfl
  have ev_m : ∀ (own : Own) (ρ : Rho) (k : Nat) (kk : Nat) (p1 p2 p3 : Pos), k < 7 → At ρ "marks" (marksD nb) → Ev C n env ρ own (.Subscript (.Name "marks" p1) (.Constant (.int k) kk p2) p3) (.int (at0 nb k)) := fun own ρ k kk p1 p2 p3 hk ha =>
    Ev_sub (d1 := marksD nb) (d2 := .int k) (Ev_name ha) Ev_int (it_list (by exact Int.natCast_nonneg k) (by lia) (hm k hk)) (fun _ _ => rfl)
  refine Ex_cons ?_
  apply Es_set (d := .list ((intoL nb).map .int))
  case he =>
    have e : (intoL nb).map D.int = [.int (at0 nb 0 + at0 nb 1), .int (at0 nb 2 + at0 nb 3), .int (at0 nb 4 + at0 nb 5), .int (at0 nb 6)] := rfl
    rw [e]
    refine Ev_list (.cons ?_ (.cons ?_ (.cons ?_ (.cons ?_ .nil rfl) rfl) rfl) rfl)
    · exact Ev_bin (ev_m _ _ 0 _ _ _ _ (by decide) (by walk_at "at")) (ev_m _ _ 1 _ _ _ _ (by decide) (by walk_at "at")) op_add
    · exact Ev_bin (ev_m _ _ 2 _ _ _ _ (by decide) (by walk_at "at")) (ev_m _ _ 3 _ _ _ _ (by decide) (by walk_at "at")) op_add
    · exact Ev_bin (ev_m _ _ 4 _ _ _ _ (by decide) (by walk_at "at")) (ev_m _ _ 5 _ _ _ _ (by decide) (by walk_at "at")) op_add
    · exact ev_m _ _ 6 _ _ _ _ (by decide) (by walk_at "at")
  case hu => walk_at "up"
  refine Ex_cons ?_
  apply Es_if (b := ((leftI w s != 0) || ((nb.take 7).sum != onesI w s) || ((at0 (intoL nb) 0).fmod 2 == 0)))
  · refine EvT_or3 (by walk_at "v") (EvT_cmp (d1 := .int (nb.take 7).sum) (d2 := .int (onesI w s)) (Ev_callB (id := "sum") (ds := [marksD nb]) (by walk_at "at") (.cons (by walk_at "v") .nil rfl) cal_sum) (by walk_at "v") op_ne rfl) ?_
    exact EvT_cmp (d1 := .int ((at0 (intoL nb) 0).fmod 2)) (d2 := .int 0) (Ev_bin (d1 := .int (at0 (intoL nb) 0)) (d2 := .int 2) (Ev_sub (d1 := .list ((intoL nb).map .int)) (d2 := .int 0) (by walk_at "v") Ev_int (it_list (by decide) (by decide) rfl) (fun _ _ => rfl)) Ev_int (op_mod (by decide))) Ev_int op_eq rfl
  · intro q
    refine Ex_cons (Es_ret Ev_bool ?_)
    show D.bool false = _
    rw [holds_bad0 q]
  · intro q
    refine Ex_nil ?_
    exact vc_holdLoops H hl hT hu h7 g7 c7 q
end
end
section
open PySem PySem.Calls PySem.W PySem.Builtin PySem.Builtin.Int
variable {C : Cx}
section
variable {nb : List Int} {prog : List (List Int)} {starts : List Nat} {s w : Nat} {unit : Int}
theorem at0_set {t : List Int} {i k : Nat} {v : Int} (hi : i < t.length) : at0 (t.set i v) k = if i = k then v else at0 t k := by
  unfold at0
  rw [List.getD_eq_getElem?_getD, List.getD_eq_getElem?_getD, List.getElem?_set]
  by_cases h : i = k
  · subst h; simp [hi]
  · simp [h]
theorem st_bound (c : Nat) : 0 ≤ stOf nb (2 ^ w) (2 ^ (w * s)) c ∧ stOf nb (2 ^ w) (2 ^ (w * s)) c ≤ 2 ^ (w * s + w) := by
  unfold stOf
  have h1 := two_pos (w * s)
  have h2 := two_pos w
  rw [fmod_pos _ h1]
  have h3 := Int.emod_nonneg (at0 nb c) (Int.ne_of_gt h1)
  have h4 := Int.emod_lt_of_pos (at0 nb c) h1
  refine ⟨Int.mul_nonneg h3 (Int.le_of_lt h2), ?_⟩
  rw [Int.pow_add]
  exact Int.mul_le_mul_of_nonneg_right (Int.le_of_lt h4) (Int.le_of_lt h2)
theorem turns_bound (G : GoodP prog) (hl : starts.length = 2) (hb : ∀ k ∈ starts, k ≤ 3) : ∀ c ≤ 7, ∀ k < 2, -(3 + c * 2 ^ (w * s + w)) ≤ at0 (turnsL nb prog (2 ^ w) (2 ^ (w * s)) c (t0 starts)) k ∧ at0 (turnsL nb prog (2 ^ w) (2 ^ (w * s)) c (t0 starts)) k ≤ 3 + c * 2 ^ (w * s + w)
  | 0, _, k, hk => by
    have hk' : k < (t0 starts).length := by unfold t0; rw [List.length_map, hl]; exact hk
    have hm := at0_mem hk'
    unfold t0 at hm
    obtain ⟨x, hx, e⟩ := List.mem_map.mp hm
    have := hb x hx
    have e' : at0 (t0 starts) k = (x : Int) := e.symm
    show _ ≤ at0 (t0 starts) k ∧ at0 (t0 starts) k ≤ _
    rw [e']
    simp
    lia
  | c + 1, hc, k, hk => by
    have ih := turns_bound G hl hb c (by exact Nat.le_of_lt hc)
    have hs := st_bound (nb := nb) (w := w) (s := s) c
    have hlen : (turnsL nb prog (2 ^ w) (2 ^ (w * s)) c (t0 starts)).length = 2 := by rw [turnsL_len]; unfold t0; rw [List.length_map, hl]
    have hp : hpOf prog c < 2 := by
      have := (G.row (show c / 2 ≤ 3 by lia)).1.r0
      unfold hpOf; lia
    have hM := two_pos (w * s + w)
    have e : ((c + 1 : Nat) : Int) * 2 ^ (w * s + w) = (c : Int) * 2 ^ (w * s + w) + 2 ^ (w * s + w) := by rw [Int.natCast_add, Int.add_mul]; simp
    rw [e]
    have i1 := ih k hk
    have i2 := ih _ hp
    show _ ≤ at0 (updT nb prog (2 ^ w) (2 ^ (w * s)) c (turnsL nb prog (2 ^ w) (2 ^ (w * s)) c (t0 starts))) k ∧ at0 (updT nb prog (2 ^ w) (2 ^ (w * s)) c (turnsL nb prog (2 ^ w) (2 ^ (w * s)) c (t0 starts))) k ≤ _
    generalize turnsL nb prog (2 ^ w) (2 ^ (w * s)) c (t0 starts) = t at *
    generalize (2 : Int) ^ (w * s + w) = M at *
    unfold updT
    split
    · rw [at0_set (by lia)]
      split <;> lia
    split
    · rw [at0_set (by lia)]
      split <;> lia
    · lia
theorem turns_bits (G : GoodP prog) (hl : starts.length = 2) (hb : ∀ k ∈ starts, k ≤ 3) {k : Nat} (hk : k < 2) : intBits (at0 (turnsL nb prog (2 ^ w) (2 ^ (w * s)) 7 (t0 starts)) k) ≤ w * s + w + 4 := by
  have h := turns_bound (nb := nb) (w := w) (s := s) G hl hb 7 (Nat.le_refl _) k hk
  have hM := two_pos (w * s + w)
  refine intBits_le_iff.mpr ?_
  have e : (2 : Int) ^ (w * s + w + 4) = 16 * 2 ^ (w * s + w) := by rw [Int.pow_add, Int.mul_comm]; rfl
  have e2 : ((2 ^ (w * s + w + 4) : Nat) : Int) = 2 ^ (w * s + w + 4) := nat_two _
  have h7 : ((7 : Nat) : Int) = 7 := rfl
  rw [h7] at h
  lia
theorem bits_low {x : Int} (h : x ≠ 0) : 1 ≤ intBits x ∧ 2 ^ (intBits x - 1) ≤ x.natAbs := by
  have h1 : 1 ≤ intBits x := by
    rcases Nat.eq_zero_or_pos (intBits x) with q | q
    · have := intBits_le_iff.mp (Nat.le_of_eq q)
      lia
    · exact q
  refine ⟨h1, ?_⟩
  rcases Nat.lt_or_ge x.natAbs (2 ^ (intBits x - 1)) with q | q
  · have := intBits_le_iff.mpr q
    lia
  · exact q
theorem bits_mul_ge {x y : Int} (hx : x ≠ 0) (hy : y ≠ 0) : intBits x + intBits y - 1 ≤ intBits (x * y) := by
  obtain ⟨a1, a2⟩ := bits_low hx
  obtain ⟨b1, b2⟩ := bits_low hy
  rcases Nat.lt_or_ge (intBits (x * y)) (intBits x + intBits y - 1) with q | q
  · have h := intBits_le_iff.mp (predB a1 b1 q)
    rw [Nat.pow_add, Int.natAbs_mul] at h
    exact absurd h (Nat.not_lt.mpr (Nat.mul_le_mul a2 b2))
  · exact q
theorem ratio_ok {a b : Nat} (h : a ≤ b * 29) (hb : 1 ≤ b) : (a + b - 1) / b ≤ 30 := by
  have : (a + b - 1) / b < 31 := Nat.div_lt_of_lt_mul (by lia)
  lia
theorem bind_77 (fd : FuncData) (h1 : fd.params = parsAt 77) (h2 : fd.defaults = .none) (h3 : fd.kwdefaults = .none) (vs : List Value) (h : vs.length = (["numbers", "program", "starts", "steps", "width", "unit"] : List Str).length) : bindArgs fd ⟨vs, []⟩ = pure ((["numbers", "program", "starts", "steps", "width", "unit"] : List Str).zip vs) := by
  refine e6a1 (len6 h :) fun v1 v2 v3 v4 v5 v6 rq => ?_
  subst rq
  exact (bind_of h1 h2 h3 _).trans rfl
theorem cal_holds {f : Addr} {fd : FuncData} (F : FnI C 77 f fd) (P : Pyl C) (gl : GlobD C "list" (.val (.type "list"))) (g7 : GlobD C "int_divmod" (.ref P.f7)) (gs : GlobD C "sum" (.val (.builtin "sum"))) (gr : GlobD C "range" (.val (.type "range")))
    (hn : nb.length = 9) (hnb : ∀ x ∈ nb, intBits x ≤ 20000) (G : GoodP prog) (hw : 5 ≤ w) (hw2 : w ≤ 1000) (hs : s ≤ 20) (hl : starts.length = 2) (hb : ∀ k ∈ starts, k ≤ 3) (hu : intBits unit ≤ 5000) (hu0 : unit ≠ 0) :
    Cal C 37 (.ref f) [.list (nb.map .int), .list (prog.map rowD), .list (starts.map fun k : Nat => .int k), .int s, .int w, .int unit] (.bool (holdsB nb prog starts (2 ^ w) (onesI w s) (leftI w s) (2 ^ (w * s)) unit)) := by
  have hws : w * s ≤ w * 20 := Nat.mul_le_mul_left w hs
  have hws2 : w * (s + 1) = w * s + w := Nat.mul_succ w s
  have ht1 := topI_bits w s
  have hq1 := q1_bits (show 1 ≤ w by lia)
  have hq2 := q1_le (w := w)
  have hqn := q1_ne (show 1 ≤ w by lia)
  have H : HH nb prog s w (2 ^ w) (onesI w s) (2 ^ (w * s)) := ⟨hn, hnb, G, hs, hw2, rfl, Nat.le_trans (intBits_fdiv_le ht1) (by lia), rfl⟩
  refine Cal_fn (n := 36) (params := ["numbers", "program", "starts", "steps", "width", "unit"]) (ρ0 := [("numbers", .loc, none), ("program", .loc, none), ("starts", .loc, none), ("steps", .loc, none), ("width", .loc, none), ("unit", .loc, none), ("base", .cel, none), ("marks", .loc, none), ("held", .cel, none), ("turns", .cel, none), ("ones", .cel, none), ("left", .loc, none), ("into", .loc, none), ("code", .loc, none), ("mark", .loc, none), ("row", .loc, none), ("step", .loc, none), ("amount", .loc, none), ("k", .cel, none), ("end", .cel, none), ("parts", .loc, none), ("list", .glo, some (.val (.type "list"))), ("int_divmod", .glo, some (.ref P.f7)), ("sum", .glo, some (.val (.builtin "sum"))), ("range", .glo, some (.val (.type "range")))])
    (ρ1 := rhoH nb prog starts s w unit P.f7 none none none none none none none none none none none none none none none) F P.lim bind_77 (fun X h => ?_) ?_ rfl (fun L => Ex_fin (vc_holds H (by lia) hl (fun k hk => Nat.le_trans (turns_bits G hl hb hk) (by lia)) hu P.F7.fnObj g7 ?_ ?_)) (by walk_at "nd") (by decide +kernel) (by decide +kernel) (by decide +kernel) (by decide +kernel)
  · walk_at "fnr"
  · walk_at "v"
  · exact cal_int_divmod P hqn (ratio_ok (by lia) (by lia)) (by lia)
  · intro k hk p hp
    have hT := turns_bits (nb := nb) (w := w) (s := s) G hl hb hk
    generalize at0 (turnsL nb prog (2 ^ w) (2 ^ (w * s)) 7 (t0 starts)) k = T at *
    have hp0 : p.1 ≠ 0 ∧ intBits p.1 ≤ intBits unit ∧ intBits unit ≤ intBits p.1 ∧ intBits p.2 ≤ intBits unit := by
      simp only [prs, List.mem_cons, List.not_mem_nil, or_false] at hp
      rcases hp with rfl | rfl
      · have e0 : intBits 0 ≤ intBits unit := Nat.le_trans (by decide : intBits 0 ≤ 0) (Nat.zero_le _)
        exact ⟨hu0, Nat.le_refl _, Nat.le_refl _, e0⟩
      · have e1 := intBits_neg_le (Nat.le_refl (intBits unit))
        have e2 := intBits_neg_le (Nat.le_refl (intBits (-unit)))
        rw [Int.neg_neg] at e2
        exact ⟨by lia, e1, e2, intBits_fdiv_le e1⟩
    obtain ⟨p0, p1, p2, p3⟩ := hp0
    have hbne : (2 ^ w - 1) * p.1 ≠ 0 := Int.mul_ne_zero hqn p0
    have hge := bits_mul_ge hqn p0
    have hle := intBits_mul_le hq2 p1
    have hpl := (bits_low p0).1
    have ha := intBits_add_le (intBits_mul_le hT p1) p3
    refine cal_int_divmod P hbne (ratio_ok ?_ (by lia)) (by lia)
    refine Nat.le_trans ha ?_
    lia
end
end
section
open PySem PySem.Builtin PySem.Builtin.Int
noncomputable def V (w : Nat) (f : Nat → Int) : Nat → Int
  | 0 => 0
  | m + 1 => V w f m + f m * 2 ^ (w * m)
section
variable {w : Nat}
theorem V_congr {f g : Nat → Int} : ∀ {m : Nat}, (∀ t < m, f t = g t) → V w f m = V w g m
  | 0, _ => rfl
  | m + 1, h => by
    show V w f m + f m * _ = V w g m + g m * _
    rw [V_congr fun t ht => h t (by exact Nat.le.step ht), h m (by exact Nat.le_refl m.succ)]
theorem V_add (f g : Nat → Int) : ∀ m, V w (fun t => f t + g t) m = V w f m + V w g m
  | 0 => rfl
  | m + 1 => by
    show V w (fun t => f t + g t) m + (f m + g m) * _ = (V w f m + f m * _) + (V w g m + g m * _)
    rw [V_add f g m, Int.add_mul]; lia
theorem V_sub (f g : Nat → Int) : ∀ m, V w (fun t => f t - g t) m = V w f m - V w g m
  | 0 => rfl
  | m + 1 => by
    show V w (fun t => f t - g t) m + (f m - g m) * _ = (V w f m + f m * _) - (V w g m + g m * _)
    rw [V_sub f g m, Int.sub_mul]; lia
theorem V_smul (c : Int) (f : Nat → Int) : ∀ m, V w (fun t => c * f t) m = c * V w f m
  | 0 => by simp [V]
  | m + 1 => by
    show V w (fun t => c * f t) m + (c * f m) * _ = c * (V w f m + f m * _)
    rw [V_smul c f m, Int.mul_add, Int.mul_assoc]
theorem V_low (f : Nat → Int) : ∀ m, V w f (m + 1) = f 0 + V w (fun t => f (t + 1)) m * 2 ^ w
  | 0 => by simp [V]
  | m + 1 => by
    show V w f (m + 1) + f (m + 1) * 2 ^ (w * (m + 1)) = f 0 + (V w (fun t => f (t + 1)) m + f (m + 1) * 2 ^ (w * m)) * 2 ^ w
    rw [V_low f m, Nat.mul_succ, Int.pow_add, Int.add_mul, Int.mul_assoc]; lia
theorem V_uniq {d : Nat → Int} : ∀ {m : Nat} {d : Nat → Int}, (∀ t < m, -(2 ^ w) < d t ∧ d t < 2 ^ w) → V w d m = 0 → ∀ t < m, d t = 0
  | 0, _, _, _, t, h => absurd h (Nat.not_lt_zero t)
  | m + 1, d, hd, h0, t, ht => by
    rw [V_low] at h0
    have h1 := hd 0 (by exact Nat.le_add_left (Nat.succ 0) m)
    have hp := two_pos w
    have h2 : V w (fun t => d (t + 1)) m = 0 := by
      generalize V w (fun t => d (t + 1)) m = x at h0
      generalize (2 : Int) ^ w = q at *
      rcases Int.lt_trichotomy x 0 with g | g | g
      · have : x * q ≤ (-1) * q := Int.mul_le_mul_of_nonneg_right (by lia) (Int.le_of_lt hp)
        lia
      · exact g
      · have : 1 * q ≤ x * q := Int.mul_le_mul_of_nonneg_right (by exact g) (Int.le_of_lt hp)
        lia
    have h3 : d 0 = 0 := by rw [h2] at h0; lia
    cases t with
    | zero => exact h3
    | succ t => exact V_uniq (d := fun t => d (t + 1)) (fun t ht => hd (t + 1) (by lia)) h2 t (by lia)
theorem V_inj {f g : Nat → Int} {m : Nat} (hd : ∀ t < m, -(2 ^ w) < f t - g t ∧ f t - g t < 2 ^ w) : V w f m = V w g m ↔ ∀ t < m, f t = g t := by
  constructor
  · intro h t ht
    have h0 : V w (fun t => f t - g t) m = 0 := by rw [V_sub]; lia
    have := V_uniq (d := fun t => f t - g t) hd h0 t ht
    lia
  · exact V_congr
theorem V_bound {f : Nat → Int} : ∀ {m : Nat}, (∀ t < m, 0 ≤ f t ∧ f t < 2 ^ w) → 0 ≤ V w f m ∧ V w f m < 2 ^ (w * m)
  | 0, _ => by simp [V]
  | m + 1, h => by
    have ih := V_bound (m := m) fun t ht => h t (by exact Nat.le.step ht)
    have hm := h m (by exact Nat.le_refl m.succ)
    have e : (2 : Int) ^ (w * (m + 1)) = 2 ^ w * 2 ^ (w * m) := by rw [Nat.mul_succ, Int.pow_add, Int.mul_comm]
    show 0 ≤ V w f m + f m * 2 ^ (w * m) ∧ V w f m + f m * 2 ^ (w * m) < 2 ^ (w * (m + 1))
    have hp := two_pos (w * m)
    rw [e]
    have h1 : 0 ≤ f m * 2 ^ (w * m) := Int.mul_nonneg hm.1 (Int.le_of_lt hp)
    have h2 : (f m + 1) * 2 ^ (w * m) ≤ 2 ^ w * 2 ^ (w * m) := Int.mul_le_mul_of_nonneg_right (by lia) (Int.le_of_lt hp)
    rw [Int.add_mul, Int.one_mul] at h2
    lia
theorem V_divmod {f : Nat → Int} {s : Nat} (h : ∀ t < s + 1, 0 ≤ f t ∧ f t < 2 ^ w) : V w f (s + 1) / 2 ^ (w * s) = f s ∧ V w f (s + 1) % 2 ^ (w * s) = V w f s := by
  have hb := V_bound (f := f) (m := s) fun t ht => h t (by exact Nat.le.step ht)
  exact div_unique (show V w f (s + 1) = f s * 2 ^ (w * s) + V w f s by show V w f s + _ = _; exact Int.add_comm (V w f s) (f s * 2 ^ (w * s))) hb.1 hb.2
noncomputable def up1 (c : Int) (f : Nat → Int) (t : Nat) : Int := if t = 0 then c else f (t - 1)
theorem V_up (c : Int) (f : Nat → Int) (m : Nat) : V w (up1 c f) (m + 1) = c + V w f m * 2 ^ w := by
  rw [V_low]
  have : V w (fun t => up1 c f (t + 1)) m = V w f m := V_congr fun t _ => by simp [up1]
  rw [this]; rfl
theorem V_list : ∀ (l : List Nat), V w (fun t => ((l.getD t 0 : Nat) : Int)) l.length = (valN w l : Int)
  | [] => rfl
  | d :: r => by
    show V w _ (r.length + 1) = ((d + valN w r * 2 ^ w : Nat) : Int)
    rw [V_low]
    have : V w (fun t => (((d :: r).getD (t + 1) 0 : Nat) : Int)) r.length = (valN w r : Int) := by
      rw [← V_list r]
      exact V_congr fun t _ => by simp
    rw [this, Int.natCast_add, Int.natCast_mul, nat_two]; rfl
theorem V_listI : ∀ (l : List Int), V w (fun t => l.getD t 0) l.length = valL w l
  | [] => rfl
  | d :: r => by
    show V w _ (r.length + 1) = d + valL w r * 2 ^ w
    rw [V_low]
    have : V w (fun t => (d :: r).getD (t + 1) 0) r.length = valL w r := by
      rw [← V_listI r]
      exact V_congr fun t _ => by simp
    rw [this]; rfl
theorem range_getD {f : Nat → Nat} {m t : Nat} (h : t < m) : ((List.range m).map f).getD t 0 = f t := by
  rw [List.getD_eq_getElem?_getD, List.getElem?_map, List.getElem?_range h]; rfl
theorem V_range (f : Nat → Nat) (m : Nat) : V w (fun t => (f t : Int)) m = (valN w ((List.range m).map f) : Int) := by
  rw [← V_list, List.length_map, List.length_range]
  exact V_congr fun t ht => by rw [range_getD ht]
theorem Dg_range {f : Nat → Nat} {m : Nat} (h : ∀ t < m, f t < 2 ^ w) : Dg w ((List.range m).map f) := by
  intro d hd
  refine e1a2 (List.mem_map.mp hd :) fun t ht r2q => ?_; subst r2q
  exact h t (List.mem_range.mp ht)
theorem V_sub_iff {f g : Nat → Nat} {m : Nat} (hf : ∀ t < m, f t < 2 ^ w) (hg : ∀ t < m, g t < 2 ^ w) :
    bitAnd (V w (fun t => (f t : Int)) m) (V w (fun t => (g t : Int)) m) = V w (fun t => (f t : Int)) m ↔ ∀ t < m, f t &&& g t = f t := by
  rw [V_range, V_range, sub_digits (by simp) (Dg_range hf) (Dg_range hg)]
  constructor
  · intro h t ht
    have := congrArg (fun l => l.getD t 0) h
    simp only [List.getD_eq_getElem?_getD, List.getElem?_zipWith, List.getElem?_map, List.getElem?_range ht, Option.map_some, Option.getD_some] at this
    exact this
  · intro h
    apply List.ext_getElem?
    intro t
    rcases Nat.lt_or_ge t m with ht | ht
    · simp only [List.getElem?_zipWith, List.getElem?_map, List.getElem?_range ht, Option.map_some]
      rw [h t ht]
    · have : (List.range m)[t]? = none := by simp [ht]
      simp only [List.getElem?_zipWith, List.getElem?_map, this, Option.map_none]
theorem V_sub_has {g : Nat → Nat} {m : Nat} {x : Int} (hg : ∀ t < m, g t < 2 ^ w) (h : bitAnd x (V w (fun t => (g t : Int)) m) = x) : ∃ f : Nat → Nat, (∀ t < m, f t < 2 ^ w ∧ f t &&& g t = f t) ∧ x = V w (fun t => (f t : Int)) m := by
  rw [V_range] at h
  refine e1a3 (sub_has (m := m) (Dg_range hg) (by simp) h :) fun a ha hd e => ?_
  have e2 : x = V w (fun t => ((a.getD t 0 : Nat) : Int)) m := by rw [e, ← V_list a, ha]
  have hdd : ∀ t < m, a.getD t 0 < 2 ^ w := fun t ht => by
    rw [List.getD_eq_getElem?_getD, List.getElem?_eq_getElem (by lia)]
    exact hd _ (List.getElem_mem _)
  refine ⟨fun t => a.getD t 0, fun t ht => ⟨hdd t ht, ?_⟩, e2⟩
  rw [← V_range, e2] at h
  exact (V_sub_iff hdd hg).mp h t ht
theorem V_mod2 (f : Nat → Int) (hw : 1 ≤ w) (m : Nat) : V w f (m + 1) % 2 = f 0 % 2 := by
  rw [V_low]
  refine e1a1 ((show ∃ k, w = k + 1 from ⟨w - 1, by lia⟩) :) fun k r1q => ?_; subst r1q
  rw [Int.pow_succ, ← Int.mul_assoc]
  lia
theorem V_one (m : Nat) (hw : 1 ≤ w) : (2 ^ w - 1) * V w (fun _ => 1) m = 2 ^ (w * m) - 1 := by
  induction m with
  | zero => simp [V]
  | succ m ih =>
    show (2 ^ w - 1) * (V w (fun _ => 1) m + 1 * 2 ^ (w * m)) = _
    rw [Int.mul_add, ih, Nat.mul_succ, Int.pow_add, Int.one_mul, Int.sub_mul, Int.one_mul, Int.mul_comm (2 ^ w)]; lia
end
end
section
open PySem PySem.Builtin PySem.Builtin.Int
structure Digs (nb : List Int) (w m : Nat) (M H : Nat → Nat → Nat) : Prop where
  mkE : ∀ c < 7, at0 nb c = V w (fun t => (M c t : Int)) m
  hdE : ∀ k < 2, at0 nb (7 + k) = V w (fun t => (H k t : Int)) m
  m1 : ∀ c < 7, ∀ t < m, M c t ≤ 1
  hh : ∀ k < 2, ∀ t < m, H k t < 2 ^ (w - 1)
section
variable {w s : Nat} {nb : List Int} {prog : List (List Int)} {M H : Nat → Nat → Nat}
theorem half_eq (hw : 1 ≤ w) : ((2 : Int) ^ w).fdiv 2 = ((2 ^ (w - 1) : Nat) : Int) := by
  rw [fdiv_pos _ (by decide), nat_two]
  refine e1a1 ((show ∃ k, w = k + 1 from ⟨w - 1, by lia⟩) :) fun k r1q => ?_; subst r1q
  rw [Int.pow_succ]
  have : k + 1 - 1 = k := by exact Nat.add_sub_cancel k 1
  rw [this]; lia
theorem half_two (hw : 1 ≤ w) : 2 ^ w = 2 * 2 ^ (w - 1) := by
  refine e1a1 ((show ∃ k, w = k + 1 from ⟨w - 1, by lia⟩) :) fun k r2q => ?_; subst r2q
  have : k + 1 - 1 = k := by exact Nat.add_sub_cancel k 1
  rw [this, Nat.pow_succ]; lia
theorem half_16 (hw : 5 ≤ w) : 16 ≤ 2 ^ (w - 1) := by
  have : 2 ^ 4 ≤ 2 ^ (w - 1) := Nat.pow_le_pow_right (by decide) (by lia)
  exact this
theorem ones_eq (hw : 1 ≤ w) : onesI w s = V w (fun _ => 1) (s + 1) ∧ leftI w s = 0 := by
  have h := V_one (w := w) (s + 1) hw
  have hp : (0 : Int) < 2 ^ w - 1 := by
    have h1 : (2 : Int) ^ 1 ≤ 2 ^ w := pow_mono hw
    have : (2 : Int) ^ 1 = 2 := rfl
    lia
  unfold onesI leftI topI
  rw [← h, fdiv_pos _ hp, fmod_pos _ hp, Int.mul_ediv_cancel_left _ (Int.ne_of_gt hp), Int.mul_emod_right]
  exact ⟨rfl, rfl⟩
theorem nb9 (h : nb.length = 9) : (nb.take 7).sum = at0 nb 0 + at0 nb 1 + at0 nb 2 + at0 nb 3 + at0 nb 4 + at0 nb 5 + at0 nb 6 := by
  refine e9a1 (len9 h) fun a b c d e f g h i q => ?_
  rw [q]
  show a + (b + (c + (d + (e + (f + (g + 0)))))) = a + b + c + d + e + f + g
  lia
theorem and_half {x k : Nat} : x &&& (2 ^ k - 1) = x ↔ x < 2 ^ k := by
  rw [Nat.and_two_pow_sub_one_eq_mod]
  constructor
  · intro h
    have := Nat.mod_lt x (Nat.two_pow_pos k)
    lia
  · exact Nat.mod_eq_of_lt
theorem and_one {x : Nat} : x &&& 1 = x ↔ x ≤ 1 := by
  have := and_half (x := x) (k := 1)
  have e : 2 ^ 1 - 1 = 1 := rfl
  have e2 : 2 ^ 1 = 2 := rfl
  rw [e, e2] at this
  lia
theorem half_and {h k : Nat} (hh : h < 2 ^ k) : 2 ^ k &&& (h + (2 ^ k - 1)) = 2 ^ k ↔ 1 ≤ h := by
  have hp := Nat.two_pow_pos k
  rcases Nat.eq_zero_or_pos h with rfl | hpos
  · have := and_digit (w := k) (d := 0) (e := 2 ^ k - 1) (x := 1) (y := 0) hp (by lia)
    simp only [Nat.zero_add, Nat.one_mul, Nat.zero_mul, Nat.add_zero, Nat.zero_and, Nat.and_zero] at this ⊢
    rw [this]; lia
  · have := and_digit (w := k) (d := 0) (e := h - 1) (x := 1) (y := 1) hp (by lia)
    simp only [Nat.zero_add, Nat.one_mul, Nat.zero_and, Nat.and_self] at this
    have e : h + (2 ^ k - 1) = h - 1 + 2 ^ k := by lia
    rw [e, this]; lia
theorem sum_iff (D : Digs nb w (s + 1) M H) (hw : 5 ≤ w) (hn : nb.length = 9) : (nb.take 7).sum = onesI w s ↔ ∀ t < s + 1, M 0 t + M 1 t + M 2 t + M 3 t + M 4 t + M 5 t + M 6 t = 1 := by
  have h16 := half_16 hw
  have h2 : (2 : Int) ^ w = ((2 * 2 ^ (w - 1) : Nat) : Int) := by rw [← half_two (by lia), nat_two]
  have e : (nb.take 7).sum = V w (fun t => (M 0 t : Int) + M 1 t + M 2 t + M 3 t + M 4 t + M 5 t + M 6 t) (s + 1) := by
    rw [nb9 hn, D.mkE 0 (by decide), D.mkE 1 (by decide), D.mkE 2 (by decide), D.mkE 3 (by decide), D.mkE 4 (by decide), D.mkE 5 (by decide), D.mkE 6 (by decide)]
    simp only [V_add]
  rw [e, (ones_eq (by lia)).1, V_inj]
  · constructor
    · intro h t ht; have := h t ht; lia
    · intro h t ht; have := h t ht; lia
  · intro t ht
    have := D.m1 0 (by decide) t ht
    have := D.m1 1 (by decide) t ht
    have := D.m1 2 (by decide) t ht
    have := D.m1 3 (by decide) t ht
    have := D.m1 4 (by decide) t ht
    have := D.m1 5 (by decide) t ht
    have := D.m1 6 (by decide) t ht
    rw [h2]; lia
noncomputable def IN (M : Nat → Nat → Nat) (g t : Nat) : Nat := if g = 0 then M 0 t + M 1 t else if g = 1 then M 2 t + M 3 t else if g = 2 then M 4 t + M 5 t else M 6 t
theorem into_V (D : Digs nb w (s + 1) M H) {g : Nat} (hg : g ≤ 3) : at0 (intoL nb) g = V w (fun t => (IN M g t : Int)) (s + 1) := by
  have e : ∀ a b : Nat, a < 7 → b < 7 → at0 nb a + at0 nb b = V w (fun t => ((M a t + M b t : Nat) : Int)) (s + 1) := fun a b ha hb => by
    rw [D.mkE a ha, D.mkE b hb, ← V_add]
    exact V_congr fun t _ => by simp
  rcases (by lia : g = 0 ∨ g = 1 ∨ g = 2 ∨ g = 3) with rfl | rfl | rfl | rfl
  · exact e 0 1 (by decide) (by decide)
  · exact e 2 3 (by decide) (by decide)
  · exact e 4 5 (by decide) (by decide)
  · exact D.mkE 6 (by decide)
theorem IN_le (D : Digs nb w (s + 1) M H) (hw : 5 ≤ w) (g : Nat) {t : Nat} (ht : t < s + 1) : IN M g t < 2 ^ w := by
  have h16 := half_16 hw
  have h2 := half_two (w := w) (by lia)
  have := D.m1 0 (by decide) t ht
  have := D.m1 1 (by decide) t ht
  have := D.m1 2 (by decide) t ht
  have := D.m1 3 (by decide) t ht
  have := D.m1 4 (by decide) t ht
  have := D.m1 5 (by decide) t ht
  have := D.m1 6 (by decide) t ht
  unfold IN
  split
  · lia
  split
  · lia
  split <;> lia
theorem first_iff (D : Digs nb w (s + 1) M H) (hw : 5 ≤ w) : ((at0 (intoL nb) 0).fmod 2 == 0) = false ↔ (M 0 0 + M 1 0) % 2 = 1 := by
  rw [into_V D (by decide), fmod_pos _ (by decide), V_mod2 _ (by lia)]
  show (((M 0 0 + M 1 0 : Nat) : Int) % 2 == 0) = false ↔ _
  rw [beq_eq_false_iff_ne]
  lia
theorem mark_ok (D : Digs nb w (s + 1) M H) (hw : 5 ≤ w) {c : Nat} (hc : c < 7) : bitAnd (at0 nb c) (onesI w s) = at0 nb c := by
  have h16 := half_16 hw
  have h2 := half_two (w := w) (by lia)
  have e : onesI w s = V w (fun t => (((fun _ => 1 : Nat → Nat) t : Nat) : Int)) (s + 1) := (ones_eq (by lia)).1
  rw [e, D.mkE c hc, V_sub_iff (fun t ht => by have := D.m1 c hc t ht; lia) (fun t ht => by show 1 < 2 ^ w; lia)]
  intro t ht
  exact and_one.mpr (D.m1 c hc t ht)
theorem st_V (D : Digs nb w (s + 1) M H) (hw : 5 ≤ w) {c : Nat} (hc : c < 7) : stOf nb (2 ^ w) (2 ^ (w * s)) c = V w (up1 0 fun t => (M c t : Int)) (s + 1) := by
  have h16 := half_16 hw
  have h2 := half_two (w := w) (by lia)
  unfold stOf
  rw [D.mkE c hc, fmod_pos _ (two_pos _), (V_divmod (fun t ht => by have := D.m1 c hc t ht; rw [← nat_two]; lia)).2, V_up]
  lia
theorem step_iff (D : Digs nb w (s + 1) M H) (hw : 5 ≤ w) {c g : Nat} (hc : c < 7) (hg : g ≤ 3) :
    bitAnd (stOf nb (2 ^ w) (2 ^ (w * s)) c) (at0 (intoL nb) g) = stOf nb (2 ^ w) (2 ^ (w * s)) c ↔ ∀ t, t + 1 < s + 1 → M c t = 1 → IN M g (t + 1) % 2 = 1 := by
  have h16 := half_16 hw
  have h2 := half_two (w := w) (by lia)
  have e : V w (up1 0 fun t => (M c t : Int)) (s + 1) = V w (fun t => (((if t = 0 then 0 else M c (t - 1) : Nat)) : Int)) (s + 1) := V_congr fun t _ => by
    unfold up1; split <;> simp
  rw [st_V D hw hc, into_V D hg, e, V_sub_iff (fun t ht => ?_) (fun t ht => IN_le D hw g ht)]
  · constructor
    · intro h t ht h1
      have := h (t + 1) ht
      simp only [Nat.succ_ne_zero, if_false, Nat.add_sub_cancel, h1] at this
      rw [Nat.and_comm, Nat.and_one_is_mod] at this
      exact this
    · intro h t ht
      cases t with
      | zero => simp
      | succ t =>
        simp only [Nat.succ_ne_zero, if_false, Nat.add_sub_cancel]
        rcases (by have := D.m1 c hc t (by exact Nat.le_of_lt ht); lia : M c t = 0 ∨ M c t = 1) with q | q
        · rw [q]; simp
        · rw [q, Nat.and_comm, Nat.and_one_is_mod]
          exact h t ht q
  · split
    · exact Nat.two_pow_pos w
    · have := D.m1 c hc (t - 1) (by lia); lia
theorem empty_iff (D : Digs nb w (s + 1) M H) (hw : 5 ≤ w) {c r : Nat} (hc : c < 7) (hr : r < 2) :
    bitAnd (at0 nb (7 + r)) ((((2 : Int) ^ w).fdiv 2 - 1) * (onesI w s - at0 nb c)) = at0 nb (7 + r) ↔ ∀ t < s + 1, M c t = 1 → H r t = 0 := by
  have h16 := half_16 hw
  have h2 := half_two (w := w) (by lia)
  have e : (((2 : Int) ^ w).fdiv 2 - 1) * (onesI w s - at0 nb c) = V w (fun t => (((2 ^ (w - 1) - 1) * (1 - M c t) : Nat) : Int)) (s + 1) := by
    rw [half_eq (by lia), (ones_eq (by lia)).1, D.mkE c hc, ← V_sub, ← V_smul]
    refine V_congr fun t ht => ?_
    have h1 := D.m1 c hc t ht
    rw [Int.natCast_mul, Int.natCast_sub h1, Int.natCast_sub (by exact Nat.two_pow_pos (w - 1))]
    rfl
  rw [e, D.hdE r hr, V_sub_iff (fun t ht => by have := D.hh r hr t ht; lia) (fun t ht => ?_)]
  · constructor
    · intro h t ht h1
      have := h t ht
      rw [h1] at this
      simpa using this.symm
    · intro h t ht
      rcases (by have := D.m1 c hc t ht; lia : M c t = 0 ∨ M c t = 1) with q | q
      · rw [q, Nat.sub_zero, Nat.mul_one, and_half]
        exact D.hh r hr t ht
      · rw [h t ht q]; simp
  · have := D.m1 c hc t ht
    rcases (by lia : M c t = 0 ∨ M c t = 1) with q | q
    · rw [q]; lia
    · rw [q]; exact Nat.two_pow_pos w
theorem full_iff (D : Digs nb w (s + 1) M H) (hw : 5 ≤ w) {c r : Nat} (hc : c < 7) (hr : r < 2) :
    bitAnd (((2 : Int) ^ w).fdiv 2 * at0 nb c) (at0 nb (7 + r) + (((2 : Int) ^ w).fdiv 2 - 1) * onesI w s) = ((2 : Int) ^ w).fdiv 2 * at0 nb c ↔ ∀ t < s + 1, M c t = 1 → 1 ≤ H r t := by
  have h16 := half_16 hw
  have h2 := half_two (w := w) (by lia)
  have e1 : ((2 : Int) ^ w).fdiv 2 * at0 nb c = V w (fun t => ((2 ^ (w - 1) * M c t : Nat) : Int)) (s + 1) := by
    rw [half_eq (by lia), D.mkE c hc, ← V_smul]
    exact V_congr fun t _ => by rw [Int.natCast_mul]
  have e2 : at0 nb (7 + r) + (((2 : Int) ^ w).fdiv 2 - 1) * onesI w s = V w (fun t => ((H r t + (2 ^ (w - 1) - 1) : Nat) : Int)) (s + 1) := by
    rw [half_eq (by lia), D.hdE r hr, (ones_eq (by lia)).1, ← V_smul, ← V_add]
    refine V_congr fun t _ => ?_
    rw [Int.natCast_add, Int.natCast_sub (by exact Nat.two_pow_pos (w - 1))]
    lia
  rw [e1, e2, V_sub_iff (fun t ht => ?_) (fun t ht => by have := D.hh r hr t ht; lia)]
  · constructor
    · intro h t ht h1
      have := h t ht
      rw [h1, Nat.mul_one] at this
      exact (half_and (D.hh r hr t ht)).mp this
    · intro h t ht
      rcases (by have := D.m1 c hc t ht; lia : M c t = 0 ∨ M c t = 1) with q | q
      · rw [q]; simp
      · rw [q, Nat.mul_one]
        exact (half_and (D.hh r hr t ht)).mpr (h t ht q)
  · rcases (by have := D.m1 c hc t ht; lia : M c t = 0 ∨ M c t = 1) with q | q
    · rw [q]; exact Nat.two_pow_pos w
    · rw [q]; lia
theorem held_ok (D : Digs nb w (s + 1) M H) (hw : 5 ≤ w) {r : Nat} (hr : r < 2) : bitAnd (at0 nb (7 + r)) ((((2 : Int) ^ w).fdiv 2 - 1) * onesI w s) = at0 nb (7 + r) := by
  have h16 := half_16 hw
  have h2 := half_two (w := w) (by lia)
  have e : (((2 : Int) ^ w).fdiv 2 - 1) * onesI w s = V w (fun t => (((fun _ => 2 ^ (w - 1) - 1 : Nat → Nat) t : Nat) : Int)) (s + 1) := by
    rw [half_eq (by lia), (ones_eq (by lia)).1, ← V_smul]
    refine V_congr fun t _ => ?_
    show _ = ((2 ^ (w - 1) - 1 : Nat) : Int)
    rw [Int.natCast_sub (by exact Nat.two_pow_pos (w - 1))]
    lia
  rw [e, D.hdE r hr, V_sub_iff (fun t ht => by have := D.hh r hr t ht; lia) (fun t ht => by show 2 ^ (w - 1) - 1 < 2 ^ w; lia)]
  intro t ht
  exact and_half.mpr (D.hh r hr t ht)
theorem digs_of (hw : 5 ≤ w) (h1 : ∀ c < 7, bitAnd (at0 nb c) (onesI w s) = at0 nb c) (h2 : ∀ r < 2, bitAnd (at0 nb (7 + r)) ((((2 : Int) ^ w).fdiv 2 - 1) * onesI w s) = at0 nb (7 + r)) : ∃ M H, Digs nb w (s + 1) M H := by
  have h16 := half_16 hw
  have h22 := half_two (w := w) (by lia)
  have e1 : onesI w s = V w (fun t => (((fun _ => 1 : Nat → Nat) t : Nat) : Int)) (s + 1) := (ones_eq (by lia)).1
  have e2 : (((2 : Int) ^ w).fdiv 2 - 1) * onesI w s = V w (fun t => (((fun _ => 2 ^ (w - 1) - 1 : Nat → Nat) t : Nat) : Int)) (s + 1) := by
    rw [half_eq (by lia), (ones_eq (by lia)).1, ← V_smul]
    refine V_congr fun t _ => ?_
    show _ = ((2 ^ (w - 1) - 1 : Nat) : Int)
    rw [Int.natCast_sub (by exact Nat.two_pow_pos (w - 1))]
    lia
  have k1 : ∀ c, ∃ f : Nat → Nat, c < 7 → (∀ t < s + 1, f t ≤ 1) ∧ at0 nb c = V w (fun t => (f t : Int)) (s + 1) := fun c => by
    by_cases hc : c < 7
    · have := h1 c hc
      rw [e1] at this
      refine e1a2 (V_sub_has (fun t ht => by show 1 < 2 ^ w; lia) this :) fun f hf e => ?_
      exact ⟨f, fun _ => ⟨fun t ht => and_one.mp (hf t ht).2, e⟩⟩
    · exact ⟨fun _ => 0, fun q => absurd q hc⟩
  have k2 : ∀ r, ∃ f : Nat → Nat, r < 2 → (∀ t < s + 1, f t < 2 ^ (w - 1)) ∧ at0 nb (7 + r) = V w (fun t => (f t : Int)) (s + 1) := fun r => by
    by_cases hr : r < 2
    · have := h2 r hr
      rw [e2] at this
      refine e1a2 (V_sub_has (fun t ht => by show 2 ^ (w - 1) - 1 < 2 ^ w; lia) this :) fun f hf e => ?_
      exact ⟨f, fun _ => ⟨fun t ht => and_half.mp (hf t ht).2, e⟩⟩
    · exact ⟨fun _ => 0, fun q => absurd q hr⟩
  refine ⟨fun c => Classical.choose (k1 c), fun r => Classical.choose (k2 r), ⟨fun c hc => ?_, fun r hr => ?_, fun c hc => ?_, fun r hr => ?_⟩⟩
  · exact (Classical.choose_spec (k1 c) hc).2
  · exact (Classical.choose_spec (k2 r) hr).2
  · exact (Classical.choose_spec (k1 c) hc).1
  · exact (Classical.choose_spec (k2 r) hr).1
end
end
section
open PySem PySem.Builtin PySem.Builtin.Int
section
variable {w s : Nat} {nb : List Int} {prog : List (List Int)} {M H : Nat → Nat → Nat} {starts : List Nat}
theorem fdivmod_neg {a b q r : Int} (h : a = b * q + r) (h0 : r ≤ 0) (h1 : b < r) : a.fdiv b = q ∧ a.fmod b = r := by
  have e : a.fdiv b = q := by
    rw [← Int.neg_fdiv_neg, fdiv_pos _ (by lia)]
    refine (div_unique (q := q) (r := -r) (b := -b) ?_ (by lia) (by lia)).1
    rw [h, Int.mul_neg, Int.mul_comm q b]; lia
  refine ⟨e, ?_⟩
  rw [Int.fmod_def, e, h]; lia
theorem parts_iff {u T q e b : Int} (hu : 0 < u) (he : 0 ≤ e) (heb : e + 1 < b) :
    ([(u, 0), (-u, (-u).fdiv 3)].all fun p : Int × Int => ((T * p.1 + p.2).fdiv (b * p.1) == q) && ((T * p.1 + p.2).fmod (b * p.1) == e * p.1 + p.2)) = true ↔ T = b * q + e := by
  simp only [List.all_cons, List.all_nil, Bool.and_true, Bool.and_eq_true, beq_iff_eq, Int.add_zero]
  have hbu : 0 < b * u := Int.mul_pos (by lia) hu
  constructor
  · intro w1q; refine e0a2 (w1q :) fun w2q _ => e0a2 w2q fun h1 h2 => ?_; clear w1q
    have h := Int.fmod_def (T * u) (b * u)
    rw [h1, h2] at h
    have : T * u = (b * q + e) * u := by
      rw [Int.add_mul, Int.mul_right_comm]; lia
    exact Int.eq_of_mul_eq_mul_right (Int.ne_of_gt hu) this
  · intro h
    have eu : (e + 1) * u < b * u := Int.mul_lt_mul_of_pos_right heb hu
    have e0 : 0 ≤ e * u := Int.mul_nonneg he (Int.le_of_lt hu)
    rw [Int.add_mul, Int.one_mul] at eu
    refine ⟨?_, ?_⟩
    · rw [fdiv_pos _ hbu, fmod_pos _ hbu]
      refine div_unique ?_ e0 (by lia)
      rw [h, Int.add_mul, Int.mul_right_comm, Int.mul_comm (b * u) q]
    · have hr := fdiv_pos (-u) (b := 3) (by decide)
      have hr1 : -u ≤ (-u).fdiv 3 ∧ (-u).fdiv 3 ≤ 0 := by rw [hr]; lia
      generalize (-u).fdiv 3 = r at *
      refine fdivmod_neg ?_ ?_ ?_
      · rw [h, Int.mul_neg, Int.mul_neg, Int.mul_neg, Int.add_mul, Int.mul_right_comm b q u, Int.neg_mul]; lia
      · rw [Int.mul_neg]; lia
      · rw [Int.mul_neg, Int.mul_neg]; lia
noncomputable def coef (prog : List (List Int)) (c k : Nat) : Int := if hpOf prog c = k then (if c < 6 ∧ at0 (prow prog (c / 2)) 1 = 0 then 1 else if c = 0 ∨ c = 2 ∨ c = 4 then -1 else 0) else 0
noncomputable def Dl (prog : List (List Int)) (M : Nat → Nat → Nat) (k : Nat) : Nat → Nat → Int
  | 0, _ => 0
  | n + 1, t => Dl prog M k n t + coef prog n k * M n t
theorem coef_le (c k : Nat) : -1 ≤ coef prog c k ∧ coef prog c k ≤ 1 := by
  unfold coef
  split
  · split
    · decide
    split <;> decide
  · decide
theorem Dl_le (D : Digs nb w (s + 1) M H) (k : Nat) {t : Nat} (ht : t < s + 1) : ∀ n : Nat, n ≤ 7 → -(n : Int) ≤ Dl prog M k n t ∧ Dl prog M k n t ≤ n
  | 0, _ => by simp [Dl]
  | n + 1, hn => by
    have ih := Dl_le D k ht n (by exact Nat.le_of_lt hn)
    have hc := coef_le (prog := prog) n k
    have h1 := D.m1 n (by exact hn) t ht
    show _ ≤ Dl prog M k n t + coef prog n k * M n t ∧ Dl prog M k n t + coef prog n k * M n t ≤ _
    rcases (by lia : M n t = 0 ∨ M n t = 1) with q | q
    · rw [q]
      have : coef prog n k * ((0 : Nat) : Int) = 0 := Int.mul_zero _
      rw [this]
      lia
    · rw [q]
      have : coef prog n k * ((1 : Nat) : Int) = coef prog n k := Int.mul_one _
      rw [this]
      lia
theorem upd_at {B sh : Int} {c k : Nat} {t : List Int} (ht : t.length = 2) (hp : hpOf prog c < 2) : at0 (updT nb prog B sh c t) k = at0 t k + coef prog c k * stOf nb B sh c := by
  unfold updT coef
  by_cases h1 : c < 6 ∧ at0 (prow prog (c / 2)) 1 = 0
  · rw [if_pos h1, if_pos h1, at0_set (by lia)]
    by_cases hk : hpOf prog c = k
    · rw [if_pos hk, if_pos hk, hk]; lia
    · rw [if_neg hk, if_neg hk]; lia
  · rw [if_neg h1, if_neg h1]
    by_cases h2 : c = 0 ∨ c = 2 ∨ c = 4
    · rw [if_pos h2, if_pos h2, at0_set (by lia)]
      by_cases hk : hpOf prog c = k
      · rw [if_pos hk, if_pos hk, hk]; lia
      · rw [if_neg hk, if_neg hk]; lia
    · rw [if_neg h2, if_neg h2]
      split <;> lia
theorem turns_V (D : Digs nb w (s + 1) M H) (G : GoodP prog) (hw : 5 ≤ w) (hl : starts.length = 2) {k : Nat} : ∀ n ≤ 7,
    at0 (turnsL nb prog (2 ^ w) (2 ^ (w * s)) n (t0 starts)) k = at0 (t0 starts) k + V w (up1 0 (Dl prog M k n)) (s + 1)
  | 0, _ => by
    have : V w (up1 0 (Dl prog M k 0)) (s + 1) = 0 := by
      rw [V_up]
      have : V w (Dl prog M k 0) s = 0 := by
        have h : V w (Dl prog M k 0) s = V w (fun t => 0 * (fun _ => (0 : Int)) t) s := V_congr fun t _ => by simp [Dl]
        rw [h, V_smul]; simp
      rw [this]; simp
    rw [this]; show at0 (t0 starts) k = _; lia
  | n + 1, hn => by
    have ih := turns_V (k := k) D G hw hl n (by exact Nat.le_of_lt hn)
    have hp : hpOf prog n < 2 := by
      have := (G.row (show n / 2 ≤ 3 by lia)).1.r0
      unfold hpOf; lia
    show at0 (updT nb prog (2 ^ w) (2 ^ (w * s)) n (turnsL nb prog (2 ^ w) (2 ^ (w * s)) n (t0 starts))) k = _
    rw [upd_at (by rw [turnsL_len]; unfold t0; rw [List.length_map, hl]) hp, ih, st_V D hw (by exact hn), ← V_smul]
    have e : V w (up1 0 (Dl prog M k (n + 1))) (s + 1) = V w (fun t => up1 0 (Dl prog M k n) t + coef prog n k * up1 0 (fun t => (M n t : Int)) t) (s + 1) := V_congr fun t _ => by
      unfold up1
      split
      · simp
      · rfl
    rw [e, V_add]; lia
theorem heap_iff (D : Digs nb w (s + 1) M H) (G : GoodP prog) (hw : 5 ≤ w) (hl : starts.length = 2) (hb : ∀ k ∈ starts, k ≤ 3) {k : Nat} (hk : k < 2) {u : Int} (hu : 0 < u) :
    badP nb (2 ^ w) (onesI w s) (2 ^ (w * s)) u (turnsL nb prog (2 ^ w) (2 ^ (w * s)) 7 (t0 starts)) k = false ↔ (H k 0 : Int) = at0 (t0 starts) k ∧ ∀ t, t + 1 < s + 1 → (H k (t + 1) : Int) = H k t + Dl prog M k 7 t := by
  have h16 := half_16 hw
  have h2 := half_two (w := w) (by lia)
  have h2i : (2 : Int) ^ w = ((2 * 2 ^ (w - 1) : Nat) : Int) := by rw [← h2, nat_two]
  unfold badP
  rw [held_ok D hw hk, bne_self_eq_false, Bool.false_or, Bool.not_eq_false']
  have hhd : ∀ t < s + 1, (0 : Int) ≤ (H k t : Int) ∧ (H k t : Int) < 2 ^ w := fun t ht => by have := D.hh k hk t ht; rw [h2i]; lia
  have he : (at0 nb (7 + k)).fdiv (2 ^ (w * s)) = H k s := by
    rw [D.hdE k hk, fdiv_pos _ (two_pos _), (V_divmod hhd).1]
  have hs2 := D.hh k hk s (by exact Nat.le_refl s.succ)
  rw [he, parts_iff hu (by exact Int.natCast_nonneg (H k s)) (by rw [h2i]; lia), turns_V D G hw hl 7 (Nat.le_refl _)]
  have hone := V_one (w := w) (s + 1) (by lia)
  rw [← (ones_eq (s := s) (by lia)).1] at hone
  have hup := V_up (w := w) 0 (fun t => (H k t : Int)) (s + 1)
  have hup2 : V w (up1 0 fun t => (H k t : Int)) (s + 1 + 1) = V w (up1 0 fun t => (H k t : Int)) (s + 1) + (H k s : Int) * 2 ^ (w * (s + 1)) := rfl
  rw [hup2, ← D.hdE k hk] at hup
  have key : at0 (t0 starts) k + V w (up1 0 (Dl prog M k 7)) (s + 1) = (2 ^ w - 1) * ((H k s : Int) * onesI w s - at0 nb (7 + k)) + H k s ↔ V w (fun t => up1 (at0 (t0 starts) k) (Dl prog M k 7) t + up1 0 (fun t => (H k t : Int)) t) (s + 1) = V w (fun t => (H k t : Int)) (s + 1) := by
    have e1 : V w (up1 (at0 (t0 starts) k) (Dl prog M k 7)) (s + 1) = at0 (t0 starts) k + V w (up1 0 (Dl prog M k 7)) (s + 1) := by rw [V_up, V_up]; lia
    have e2 : (2 ^ w - 1) * ((H k s : Int) * onesI w s - at0 nb (7 + k)) = (H k s : Int) * (2 ^ (w * (s + 1)) - 1) - at0 nb (7 + k) * 2 ^ w + at0 nb (7 + k) := by
      rw [Int.mul_sub, ← Int.mul_assoc, Int.mul_comm (2 ^ w - 1) (H k s : Int), Int.mul_assoc, hone, Int.sub_mul (2 ^ w) 1, Int.mul_comm (2 ^ w)]; lia
    rw [V_add, e1, e2, ← D.hdE k hk, Int.mul_sub, Int.mul_one]
    lia
  rw [key, V_inj]
  · constructor
    · intro h
      refine ⟨?_, fun t ht => ?_⟩
      · have := h 0 (by exact Nat.le_add_left (Nat.succ 0) s)
        simp only [up1, if_pos] at this
        lia
      · have := h (t + 1) ht
        simp only [up1, Nat.succ_ne_zero, if_false, Nat.add_sub_cancel] at this
        lia
    · rintro ⟨h0, h1⟩ t ht
      cases t with
      | zero =>
        simp only [up1, if_pos]
        lia
      | succ t =>
        have := h1 t ht
        simp only [up1, Nat.succ_ne_zero, if_false, Nat.add_sub_cancel]
        lia
  · intro t ht
    have ht2 := D.hh k hk t ht
    have hst : 0 ≤ at0 (t0 starts) k ∧ at0 (t0 starts) k ≤ 3 := by
      have hk' : k < (t0 starts).length := by unfold t0; rw [List.length_map, hl]; exact hk
      have hm := at0_mem hk'
      unfold t0 at hm
      refine e1a2 (List.mem_map.mp hm :) fun x hx e => ?_
      have := hb x hx
      have e' : at0 (t0 starts) k = (x : Int) := e.symm
      rw [e']; lia
    rw [h2i]
    cases t with
    | zero =>
      simp only [up1, if_pos]
      lia
    | succ t =>
      have hd := Dl_le (prog := prog) D k (t := t) (by exact Nat.le_of_lt ht) 7 (Nat.le_refl _)
      have ht3 := D.hh k hk t (by exact Nat.le_of_lt ht)
      simp only [up1, Nat.succ_ne_zero, if_false, Nat.add_sub_cancel]
      lia
end
end
section
open PySem PySem.Builtin PySem.Builtin.Int
section
variable {w s : Nat} {nb : List Int} {prog : List (List Int)} {M H : Nat → Nat → Nat} {starts : List Nat}
noncomputable def kap (prog : List (List Int)) (l : Nat) (hs : List Nat) : Nat := if l = 3 then 6 else 2 * l + (if emptyOf prog l hs then 1 else 0)
theorem kap_first (l : Nat) (hs : List Nat) : firstOf prog l hs = (kap prog l hs : Int) := by
  unfold firstOf kap
  split
  · rfl
  · split <;> lia
theorem kap_lt {l : Nat} (hl : l ≤ 3) (hs : List Nat) : kap prog l hs < 7 ∧ kap prog l hs / 2 = l := by
  unfold kap
  split
  · rename_i h; exact ⟨by decide, h.symm⟩
  · rename_i h
    have h3 := Nat.lt_of_le_of_ne hl h
    split
    · exact (by decide : ∀ l < 3, 2 * l + 1 < 7 ∧ (2 * l + 1) / 2 = l) l h3
    · exact (by decide : ∀ l < 3, 2 * l + 0 < 7 ∧ (2 * l + 0) / 2 = l) l h3
theorem kap_odd {l : Nat} (hl : l ≤ 3) (hs : List Nat) : kap prog l hs % 2 = 1 ↔ l < 3 ∧ emptyOf prog l hs = true := by
  unfold kap
  split
  · lia
  · split
    · rename_i h; rw [h]; simp; lia
    · rename_i h; simp [h]
theorem kap_even {l : Nat} (hl : l ≤ 3) (hs : List Nat) : (kap prog l hs = 0 ∨ kap prog l hs = 2 ∨ kap prog l hs = 4) ↔ l < 3 ∧ emptyOf prog l hs = false := by
  unfold kap
  split
  · lia
  · split
    · rename_i h; rw [h]; simp; lia
    · rename_i h0 h; simp [h]; exact (by decide : ∀ l < 3, (2 * l = 0 ∨ 2 * l = 2 ∨ 2 * l = 4 ↔ l < 3)) l (Nat.lt_of_le_of_ne hl h0)
structure Cd (prog : List (List Int)) (starts : List Nat) (s : Nat) (M H : Nat → Nat → Nat) : Prop where
  c1 : ∀ t < s + 1, M 0 t + M 1 t + M 2 t + M 3 t + M 4 t + M 5 t + M 6 t = 1
  c2 : (M 0 0 + M 1 0) % 2 = 1
  c3 : ∀ c < 7, ∀ t, t + 1 < s + 1 → M c t = 1 → IN M (goalOf prog c).toNat (t + 1) % 2 = 1
  c4 : ∀ c < 7, c % 2 = 1 → ∀ t < s + 1, M c t = 1 → H (hpOf prog c) t = 0
  c5 : ∀ c < 7, (c = 0 ∨ c = 2 ∨ c = 4) → ∀ t < s + 1, M c t = 1 → 1 ≤ H (hpOf prog c) t
  c6 : ∀ k < 2, (H k 0 : Int) = at0 (t0 starts) k ∧ ∀ t, t + 1 < s + 1 → (H k (t + 1) : Int) = H k t + Dl prog M k 7 t
theorem goal_ok (G : GoodP prog) {c : Nat} (hc : c < 7) : 0 ≤ goalOf prog c ∧ goalOf prog c ≤ 3 := by
  refine e0a2 (G.row (show c / 2 ≤ 3 by lia) :) fun R _ => ?_
  have hlen3 : 3 ≤ (prow prog (c / 2)).length := by rcases R.len with q | q <;> lia
  unfold goalOf
  split
  · exact R.goals _ (by lia) (by lia)
  · exact R.goals _ (by decide) (by exact hlen3)
theorem hp_ok (G : GoodP prog) {c : Nat} (hc : c < 7) : hpOf prog c < 2 := by
  have := (G.row (show c / 2 ≤ 3 by lia)).1.r0
  unfold hpOf; lia
theorem bad_iff (D : Digs nb w (s + 1) M H) (G : GoodP prog) (hw : 5 ≤ w) {c : Nat} (hc : c < 7) : badT nb prog (2 ^ w) (onesI w s) (2 ^ (w * s)) c = false ↔
    (∀ t, t + 1 < s + 1 → M c t = 1 → IN M (goalOf prog c).toNat (t + 1) % 2 = 1) ∧ (c % 2 = 1 → ∀ t < s + 1, M c t = 1 → H (hpOf prog c) t = 0) ∧ ((c = 0 ∨ c = 2 ∨ c = 4) → ∀ t < s + 1, M c t = 1 → 1 ≤ H (hpOf prog c) t) := by
  have hg := goal_ok G hc
  have hp := hp_ok G hc
  have e1 : ok1 nb prog (2 ^ w) (onesI w s) (2 ^ (w * s)) c = false ↔ (∀ t, t + 1 < s + 1 → M c t = 1 → IN M (goalOf prog c).toNat (t + 1) % 2 = 1) := by
    unfold ok1
    rw [mark_ok D hw hc, bne_self_eq_false, Bool.false_or, bne_eq_false_iff_eq]
    exact step_iff D hw hc (by lia)
  have e2 : ok2 nb prog (2 ^ w) (onesI w s) c = false ↔ (c % 2 = 1 → ∀ t < s + 1, M c t = 1 → H (hpOf prog c) t = 0) := by
    unfold ok2 amOf
    rw [Bool.and_eq_false_iff, bne_eq_false_iff_eq, empty_iff D hw hc hp, beq_eq_false_iff_ne, fmod_pos _ (by decide)]
    constructor
    · rintro (h | h) hq
      · lia
      · exact h
    · intro h
      by_cases hq : c % 2 = 1
      · exact .inr (h hq)
      · left; lia
  have e3 : ok3 nb prog (2 ^ w) (onesI w s) c = false ↔ ((c = 0 ∨ c = 2 ∨ c = 4) → ∀ t < s + 1, M c t = 1 → 1 ≤ H (hpOf prog c) t) := by
    unfold ok3 amOf
    rw [Bool.and_eq_false_iff, bne_eq_false_iff_eq, full_iff D hw hc hp]
    have ea : ([(0 : Int), 2, 4].any fun x => x == (c : Int)) = true ↔ (c = 0 ∨ c = 2 ∨ c = 4) := by
      simp only [List.any_cons, List.any_nil, Bool.or_false, Bool.or_eq_true, beq_iff_eq]
      exact evc
    constructor
    · rintro (h | h) hq
      · rw [ea.mpr hq] at h; cases h
      · exact h
    · intro h
      by_cases hq : c = 0 ∨ c = 2 ∨ c = 4
      · exact .inr (h hq)
      · left
        rw [Bool.eq_false_iff]
        exact fun hh => hq (ea.mp hh)
  unfold badT
  rw [Bool.or_eq_false_iff, Bool.or_eq_false_iff, e1, e2, e3, and_assoc]
theorem holds_iffC (D : Digs nb w (s + 1) M H) (G : GoodP prog) (hn : nb.length = 9) (hw : 5 ≤ w) (hl : starts.length = 2) (hb : ∀ k ∈ starts, k ≤ 3) {u : Int} (hu : 0 < u) :
    holdsB nb prog starts (2 ^ w) (onesI w s) (leftI w s) (2 ^ (w * s)) u = true ↔ Cd prog starts s M H := by
  unfold holdsB
  rw [Bool.and_eq_true, Bool.and_eq_true, Bool.not_eq_true', Bool.or_eq_false_iff, Bool.or_eq_false_iff, first_iff D hw, (ones_eq (s := s) (show 1 ≤ w by lia)).2, bne_eq_false_iff_eq, bne_eq_false_iff_eq, sum_iff D hw hn, List.all_eq_true, List.all_eq_true]
  constructor
  · intro w1q; refine e0a2 (w1q :) fun w2q h4 => e0a2 w2q fun w3q h3 => e0a2 w3q fun w4q h2 => e0a2 w4q fun _ h1 => ?_; clear w1q
    have hT := fun c (hc : c < 7) => (bad_iff D G hw hc).mp (by simpa using h3 c (List.mem_range.mpr hc))
    refine ⟨h1, h2, fun c hc => (hT c hc).1, fun c hc => (hT c hc).2.1, fun c hc => (hT c hc).2.2, fun k hk => ?_⟩
    have := h4 k (by simp; lia)
    exact (heap_iff D G hw hl hb hk hu).mp (by unfold t0; simpa using this)
  · intro h
    refine ⟨⟨⟨⟨rfl, h.c1⟩, h.c2⟩, fun c hc => ?_⟩, fun k hk => ?_⟩
    · have hc' := List.mem_range.mp hc
      rw [(bad_iff D G hw hc').mpr ⟨h.c3 c hc', h.c4 c hc', h.c5 c hc'⟩]; rfl
    · have hk' : k < 2 := by simp at hk; lia
      have := (heap_iff D G hw hl hb hk' hu).mpr (h.c6 k hk')
      unfold t0 at this
      rw [this]; rfl
end
end
section
open PySem PySem.Builtin PySem.Builtin.Int
section
variable {w s : Nat} {nb : List Int} {prog : List (List Int)} {M H : Nat → Nat → Nat} {starts : List Nat}
noncomputable def traj (prog : List (List Int)) : Nat → Nat → List Nat → Nat × List Nat
  | 0, l, hs => (l, hs)
  | t + 1, l, hs => let p := traj prog t l hs; (nextL prog p.1 p.2, nextH prog p.1 p.2)
theorem traj_next (prog : List (List Int)) : ∀ t l hs, traj prog (t + 1) l hs = traj prog t (nextL prog l hs) (nextH prog l hs)
  | 0, _, _ => rfl
  | t + 1, l, hs => by
    show (nextL prog (traj prog (t + 1) l hs).1 (traj prog (t + 1) l hs).2, nextH prog (traj prog (t + 1) l hs).1 (traj prog (t + 1) l hs).2) = _
    rw [traj_next prog t l hs]; rfl
theorem traj_ok (G : GoodP prog) : ∀ t l hs (B : Nat), l ≤ 3 → hs.length = 2 → (∀ k ∈ hs, k ≤ B) → (traj prog t l hs).1 ≤ 3 ∧ (traj prog t l hs).2.length = 2 ∧ ∀ k ∈ (traj prog t l hs).2, k ≤ B + t
  | 0, l, hs, B, h1, h2, h3 => ⟨h1, h2, h3⟩
  | t + 1, l, hs, B, h1, h2, h3 => by
    refine e0a3 (traj_ok G t l hs B h1 h2 h3 :) fun a b c => ?_
    exact ⟨nextL_le G a, by show (nextH _ _ _).length = 2; rw [nextH_len, b], nextH_le c⟩
theorem run_get (prog : List (List Int)) (fg : Fg) : ∀ (k tick l : Nat) (hs : List Nat), (∀ i : Nat, i < k → (tick : Int) + i ≠ fg.when_) → ∀ i : Nat, i < k → (runL prog fg k tick l hs).getD i [] = ((kap prog (traj prog i l hs).1 (traj prog i l hs).2 : Nat) : Int) :: (traj prog i l hs).2.map fun k : Nat => (k : Int)
  | 0, _, _, _, _, i, h => absurd h (Nat.not_lt_zero i)
  | k + 1, tick, l, hs, hne, i, hi => by
    have h0 : ¬ (tick : Int) = fg.when_ := by have := hne 0 (by exact Nat.le_add_left (Nat.succ 0) k); simpa using this
    have e1 : forgeL fg tick l = l := by unfold forgeL; rw [if_neg fun q => h0 q.1]
    have e2 : forgeH fg tick hs = hs := by unfold forgeH; rw [if_neg fun q => h0 q.1, if_neg fun q => h0 q.1]
    have e3 : rowOf prog fg tick l hs = ((kap prog l hs : Nat) : Int) :: hs.map fun k : Nat => (k : Int) := by
      unfold rowOf
      rw [if_neg fun q => h0 q.1, kap_first]
    show (rowOf prog fg tick (forgeL fg tick l) (forgeH fg tick hs) :: runL prog fg k (tick + 1) (nextL prog (forgeL fg tick l) (forgeH fg tick hs)) (nextH prog (forgeL fg tick l) (forgeH fg tick hs))).getD i [] = _
    rw [e1, e2, e3]
    cases i with
    | zero => rfl
    | succ i =>
      rw [List.getD_cons_succ, run_get prog fg k (tick + 1) _ _ (fun j hj => ?_) i (by lia), ← traj_next]
      have := hne (j + 1) (by lia)
      intro q
      apply this
      rw [← q]
      simp
      lia
theorem next_goal (G : GoodP prog) {l : Nat} (hl : l ≤ 3) (hs : List Nat) : (goalOf prog (kap prog l hs)).toNat = nextL prog l hs := by
  have hlast : (prow prog l).getLastD 0 = at0 (prow prog l) ((prow prog l).length - 1) := by
    unfold at0
    rw [List.getLastD_eq_getLast?, List.getLast?_eq_getElem?, List.getD_eq_getElem?_getD]
  unfold goalOf nextL
  rw [(kap_lt hl hs).2, hlast]
  by_cases h3 : l = 3
  · have e : kap prog l hs = 6 := by unfold kap; rw [if_pos h3]
    rw [e, if_neg (by decide)]
    have ep : prow prog l = [0, 1, 3] := by
      subst h3
      unfold prow
      rw [List.getD_eq_getElem?_getD, List.getElem?_append_right (by rw [G.len]; exact hl), G.len]; rfl
    rw [ep]
    split <;> rfl
  · cases he : emptyOf prog l hs with
    | true => rw [if_pos ((kap_odd hl hs).mpr ⟨by lia, he⟩), if_pos rfl]
    | false =>
      have : ¬ kap prog l hs % 2 = 1 := fun q => by have := (kap_odd hl hs).mp q; rw [he] at this; cases this.2
      rw [if_neg this, if_neg Bool.false_ne_true]
theorem next_heap (G : GoodP prog) {l : Nat} (hl : l ≤ 3) {hs : List Nat} (h2 : hs.length = 2) (k : Nat) : (((nextH prog l hs).getD k 0 : Nat) : Int) = (hs.getD k 0 : Nat) + coef prog (kap prog l hs) k := by
  refine e0a2 (kap_lt (prog := prog) hl hs :) fun kl kd => ?_
  have hp : hpOf prog (kap prog l hs) < 2 := hp_ok G kl
  have hpe : hpOf prog (kap prog l hs) = (at0 (prow prog l) 0).toNat := by unfold hpOf; rw [kd]
  have hset : ∀ (v : Nat), (hs.set (hpOf prog (kap prog l hs)) v).getD k 0 = if hpOf prog (kap prog l hs) = k then v else hs.getD k 0 := fun v => by
    rw [List.getD_eq_getElem?_getD, List.getD_eq_getElem?_getD, List.getElem?_set]
    by_cases h : hpOf prog (kap prog l hs) = k
    · rw [if_pos h, if_pos h, if_pos (by lia)]; rfl
    · rw [if_neg h, if_neg h]
  have hev : ¬ (kap prog l hs = 0 ∨ kap prog l hs = 2 ∨ kap prog l hs = 4) ↔ ¬ (l < 3 ∧ emptyOf prog l hs = false) := not_congr (kap_even hl hs)
  have h6 : kap prog l hs < 6 ↔ l < 3 := ((by decide : ∀ c < 7, (c < 6 ↔ c / 2 < 3)) _ kl).trans (Iff.of_eq (congrArg (· < 3) kd))
  unfold nextH
  dsimp only
  rw [← hpe]
  unfold coef
  rw [kd]
  by_cases q1 : l < 3 ∧ at0 (prow prog l) 1 = 0
  · rw [if_pos q1, hset, if_pos (show kap prog l hs < 6 ∧ at0 (prow prog l) 1 = 0 from ⟨h6.mpr q1.1, q1.2⟩)]
    by_cases hk : hpOf prog (kap prog l hs) = k
    · rw [if_pos hk, if_pos hk, hk]; exact Int.natCast_add (hs.getD k 0) 1
    · rw [if_neg hk, if_neg hk]; exact rfl
  · rw [if_neg q1, if_neg (show ¬ (kap prog l hs < 6 ∧ at0 (prow prog l) 1 = 0) from fun q => q1 ⟨h6.mp q.1, q.2⟩)]
    by_cases q2 : l < 3 ∧ emptyOf prog l hs = false
    · rw [if_pos q2, hset, if_pos ((kap_even hl hs).mpr q2)]
      by_cases hk : hpOf prog (kap prog l hs) = k
      · rw [if_pos hk, if_pos hk]
        have hpos : hs.getD (hpOf prog (kap prog l hs)) 0 ≠ 0 := by
          have := q2.2
          unfold emptyOf at this
          rw [← hpe, beq_eq_false_iff_ne] at this
          exact this
        rw [hk] at hpos ⊢
        exact Int.ofNat_sub (Nat.pos_of_ne_zero hpos)
      · rw [if_neg hk, if_neg hk]; exact rfl
    · rw [if_neg q2, if_neg (hev.mpr q2)]
      split <;> exact rfl
noncomputable def IsRun (prog : List (List Int)) (starts : List Nat) (M H : Nat → Nat → Nat) (t : Nat) : Prop :=
  (∀ c < 7, M c t = if c = kap prog (traj prog t 0 starts).1 (traj prog t 0 starts).2 then 1 else 0) ∧ ∀ k < 2, H k t = (traj prog t 0 starts).2.getD k 0
theorem Dl_run {k t κ : Nat} (hκ : κ < 7) (h : ∀ c < 7, M c t = if c = κ then 1 else 0) : Dl prog M k 7 t = coef prog κ k := by
  have key : ∀ n ≤ 7, Dl prog M k n t = if κ < n then coef prog κ k else 0 := by
    intro n
    induction n with
    | zero => intro _; simp [Dl]
    | succ n ih =>
      intro hn
      show Dl prog M k n t + coef prog n k * M n t = _
      rw [ih (by exact Nat.le_of_lt hn), h n (by exact hn)]
      by_cases h1 : n = κ
      · subst h1
        rw [if_neg (by lia), if_pos rfl, if_pos (by exact Nat.le_refl n.succ)]; simp
      · rw [if_neg h1]
        by_cases h2 : κ < n
        · rw [if_pos h2, if_pos (by exact Nat.le.step h2)]; simp
        · rw [if_neg h2, if_neg (by lia)]; simp
  rw [key 7 (Nat.le_refl _), if_pos hκ]
theorem emptyOf_hp {l c : Nat} (hc : c / 2 = l) (hs : List Nat) : emptyOf prog l hs = (hs.getD (hpOf prog c) 0 == 0) := by
  unfold emptyOf hpOf; rw [hc]
theorem pick (D : Digs nb w (s + 1) M H) (G : GoodP prog) (C : Cd prog starts s M H) {t l : Nat} {hs : List Nat} (ht : t < s + 1) (hl : l ≤ 3) (hI : IN M l t % 2 = 1) (hH : ∀ k < 2, H k t = hs.getD k 0) : ∀ c < 7, M c t = if c = kap prog l hs then 1 else 0 := by
  have h0 := D.m1 0 (by decide) t ht
  have h1 := D.m1 1 (by decide) t ht
  have h2 := D.m1 2 (by decide) t ht
  have h3 := D.m1 3 (by decide) t ht
  have h4 := D.m1 4 (by decide) t ht
  have h5 := D.m1 5 (by decide) t ht
  have h6 := D.m1 6 (by decide) t ht
  have hsum := C.c1 t ht
  obtain ⟨κ, hκ, hκl, hM⟩ : ∃ κ, κ < 7 ∧ κ / 2 = l ∧ M κ t = 1 := by
    unfold IN at hI
    rcases (by lia : l = 0 ∨ l = 1 ∨ l = 2 ∨ l = 3) with rfl | rfl | rfl | rfl
    · simp only [if_pos] at hI
      rcases (by lia : M 0 t = 1 ∨ M 1 t = 1) with q | q
      · exact ⟨0, by decide, by rfl, q⟩
      · exact ⟨1, by decide, by rfl, q⟩
    · simp at hI
      rcases (by lia : M 2 t = 1 ∨ M 3 t = 1) with q | q
      · exact ⟨2, by decide, by rfl, q⟩
      · exact ⟨3, by decide, by rfl, q⟩
    · simp at hI
      rcases (by lia : M 4 t = 1 ∨ M 5 t = 1) with q | q
      · exact ⟨4, by decide, by rfl, q⟩
      · exact ⟨5, by decide, by rfl, q⟩
    · simp at hI
      exact ⟨6, by decide, by rfl, by lia⟩
  have hk : κ = kap prog l hs := by
    have hp := hp_ok G hκ
    have he := emptyOf_hp (prog := prog) hκl hs
    rw [← hH _ hp] at he
    unfold kap
    by_cases h3 : l = 3
    · rw [if_pos h3]; lia
    · rw [if_neg h3]
      rcases (by lia : κ % 2 = 1 ∨ κ % 2 = 0) with q | q
      · have := C.c4 κ hκ q t ht hM
        rw [he, this, if_pos (beq_self_eq_true _)]; lia
      · have := C.c5 κ hκ (by lia) t ht hM
        rw [he, if_neg (by simp; lia)]; lia
  rw [← hk]
  intro c hc
  rcases (by lia : κ = 0 ∨ κ = 1 ∨ κ = 2 ∨ κ = 3 ∨ κ = 4 ∨ κ = 5 ∨ κ = 6) with rfl | rfl | rfl | rfl | rfl | rfl | rfl <;> rcases (by lia : c = 0 ∨ c = 1 ∨ c = 2 ∨ c = 3 ∨ c = 4 ∨ c = 5 ∨ c = 6) with rfl | rfl | rfl | rfl | rfl | rfl | rfl <;> simp <;> lia
theorem Cd.run (D : Digs nb w (s + 1) M H) (G : GoodP prog) (C : Cd prog starts s M H) (hl : starts.length = 2) (hb : ∀ k ∈ starts, k ≤ 3) : ∀ t < s + 1, IsRun prog starts M H t := by
  have key : ∀ t < s + 1, IN M (traj prog t 0 starts).1 t % 2 = 1 ∧ ∀ k < 2, H k t = (traj prog t 0 starts).2.getD k 0 := by
    intro t
    induction t with
    | zero =>
      intro _
      refine ⟨C.c2, fun k hk => ?_⟩
      have := (C.c6 k hk).1
      have e : at0 (t0 starts) k = ((starts.getD k 0 : Nat) : Int) := by
        unfold at0 t0
        rw [List.getD_eq_getElem?_getD, List.getElem?_map, List.getD_eq_getElem?_getD, List.getElem?_eq_getElem (by lia)]; rfl
      rw [e] at this
      show H k 0 = starts.getD k 0
      lia
    | succ t ih =>
      intro ht
      refine e0a2 (ih (by exact Nat.le_of_lt ht) :) fun i1 i2 => ?_
      refine e0a3 (traj_ok G t 0 starts 3 (by decide) hl hb :) fun a b _ => ?_
      have hM := pick D G C (by exact Nat.le_of_lt ht) a i1 i2
      refine e0a2 (kap_lt (prog := prog) a (traj prog t 0 starts).2 :) fun kl kd => ?_
      refine ⟨?_, fun k hk => ?_⟩
      · have := C.c3 _ kl t ht (by rw [hM _ kl, if_pos rfl])
        rw [next_goal G a] at this
        exact this
      · have h6 := (C.c6 k hk).2 t ht
        rw [Dl_run kl hM, i2 k hk, ← next_heap G a b k] at h6
        show H k (t + 1) = (nextH prog _ _).getD k 0
        lia
  intro t ht
  refine e0a2 (key t ht :) fun i1 i2 => ?_
  refine e0a3 (traj_ok G t 0 starts 3 (by decide) hl hb :) fun a b _ => ?_
  exact ⟨pick D G C ht a i1 i2, i2⟩
theorem Cd.of_run (G : GoodP prog) (hl : starts.length = 2) (hb : ∀ k ∈ starts, k ≤ 3) (R : ∀ t < s + 1, IsRun prog starts M H t) : Cd prog starts s M H := by
  have tk := fun t => traj_ok G t 0 starts 3 (by decide) hl hb
  have inl : ∀ t < s + 1, IN M (traj prog t 0 starts).1 t = 1 := by
    intro t ht
    refine e0a2 (R t ht :) fun r1 _ => ?_
    refine e0a3 (tk t :) fun a b _ => ?_
    refine e0a2 (kap_lt (prog := prog) a (traj prog t 0 starts).2 :) fun kl kd => ?_
    generalize kap prog (traj prog t 0 starts).1 (traj prog t 0 starts).2 = κ at *
    generalize (traj prog t 0 starts).1 = l at *
    unfold IN
    rw [r1 0 (by decide), r1 1 (by decide), r1 2 (by decide), r1 3 (by decide), r1 4 (by decide), r1 5 (by decide), r1 6 (by decide)]
    rcases (by lia : κ = 0 ∨ κ = 1 ∨ κ = 2 ∨ κ = 3 ∨ κ = 4 ∨ κ = 5 ∨ κ = 6) with rfl | rfl | rfl | rfl | rfl | rfl | rfl <;> subst kd <;> rfl
  have one : ∀ c < 7, ∀ t < s + 1, M c t = 1 → c = kap prog (traj prog t 0 starts).1 (traj prog t 0 starts).2 := by
    intro c hc t ht h
    rw [(R t ht).1 c hc] at h
    by_cases q : c = kap prog (traj prog t 0 starts).1 (traj prog t 0 starts).2
    · exact q
    · rw [if_neg q] at h; cases h
  refine ⟨?_, ?_, ?_, ?_, ?_, ?_⟩
  · intro t ht
    refine e0a2 (R t ht :) fun r1 _ => ?_
    refine e0a3 (tk t :) fun a b _ => ?_
    refine e0a2 (kap_lt (prog := prog) a (traj prog t 0 starts).2 :) fun kl _ => ?_
    generalize kap prog (traj prog t 0 starts).1 (traj prog t 0 starts).2 = κ at *
    rw [r1 0 (by decide), r1 1 (by decide), r1 2 (by decide), r1 3 (by decide), r1 4 (by decide), r1 5 (by decide), r1 6 (by decide)]
    rcases (by lia : κ = 0 ∨ κ = 1 ∨ κ = 2 ∨ κ = 3 ∨ κ = 4 ∨ κ = 5 ∨ κ = 6) with rfl | rfl | rfl | rfl | rfl | rfl | rfl <;> rfl
  · have := inl 0 (by exact Nat.le_add_left (Nat.succ 0) s)
    have e : M 0 0 + M 1 0 = 1 := this
    rw [e]
  · intro c hc t ht h
    have e := one c hc t (by exact Nat.le_of_lt ht) h
    rw [e, next_goal G (tk t).1]
    have := inl (t + 1) ht
    have e2 : IN M (nextL prog (traj prog t 0 starts).1 (traj prog t 0 starts).2) (t + 1) = 1 := this
    rw [e2]
  · intro c hc hq t ht h
    have e := one c hc t ht h
    refine e0a3 (tk t :) fun a b _ => ?_
    have ho := (kap_odd (prog := prog) a (traj prog t 0 starts).2).mp (by rw [← e]; exact hq)
    have he := emptyOf_hp (prog := prog) (c := c) (l := (traj prog t 0 starts).1) (by rw [e]; exact (kap_lt a _).2) (traj prog t 0 starts).2
    rw [ho.2] at he
    rw [(R t ht).2 _ (hp_ok G hc)]
    simpa using he.symm
  · intro c hc hq t ht h
    have e := one c hc t ht h
    refine e0a3 (tk t :) fun a b _ => ?_
    have ho := (kap_even (prog := prog) a (traj prog t 0 starts).2).mp (by rw [← e]; exact hq)
    have he := emptyOf_hp (prog := prog) (c := c) (l := (traj prog t 0 starts).1) (by rw [e]; exact (kap_lt a _).2) (traj prog t 0 starts).2
    rw [ho.2] at he
    rw [(R t ht).2 _ (hp_ok G hc)]
    have := beq_eq_false_iff_ne.mp he.symm
    lia
  · intro k hk
    refine ⟨?_, fun t ht => ?_⟩
    · rw [(R 0 (by exact Nat.le_add_left (Nat.succ 0) s)).2 k hk]
      unfold at0 t0
      rw [List.getD_eq_getElem?_getD (l := starts.map _), List.getElem?_map]
      show ((starts.getD k 0 : Nat) : Int) = _
      rw [List.getD_eq_getElem?_getD, List.getElem?_eq_getElem (by lia)]; rfl
    · refine e0a3 (tk t :) fun a b _ => ?_
      refine e0a2 (kap_lt (prog := prog) a (traj prog t 0 starts).2 :) fun kl _ => ?_
      rw [(R (t + 1) ht).2 k hk, (R t (by exact Nat.le_of_lt ht)).2 k hk, Dl_run kl (R t (by exact Nat.le_of_lt ht)).1, ← next_heap G a b k]; rfl
end
end
section
open PySem PySem.Builtin PySem.Builtin.Int
section
variable {w s : Nat} {nb : List Int} {prog : List (List Int)} {M H : Nat → Nat → Nat} {starts : List Nat}
theorem numbersL_len (w : Nat) (rows : List (List Int)) : (numbersL w rows).length = 9 := rfl
theorem numbersL_mk (w : Nat) (rows : List (List Int)) {c : Nat} (hc : c < 7) : at0 (numbersL w rows) c = V w (fun t => if at0 (rows.getD t []) 0 = (c : Int) then 1 else 0) rows.length := by
  have e : at0 (numbersL w rows) c = valL w (markD rows (c : Int)) := by
    rcases (by lia : c = 0 ∨ c = 1 ∨ c = 2 ∨ c = 3 ∨ c = 4 ∨ c = 5 ∨ c = 6) with rfl | rfl | rfl | rfl | rfl | rfl | rfl <;> rfl
  have hl : (markD rows (c : Int)).length = rows.length := by unfold markD; rw [List.length_map]
  rw [e, ← V_listI, hl]
  refine V_congr fun t ht => ?_
  unfold markD
  rw [List.getD_eq_getElem?_getD, List.getElem?_map, List.getD_eq_getElem?_getD, List.getElem?_eq_getElem ht]; rfl
theorem numbersL_hd (w : Nat) (rows : List (List Int)) {k : Nat} (hk : k < 2) : at0 (numbersL w rows) (7 + k) = V w (fun t => at0 (rows.getD t []) (k + 1)) rows.length := by
  have e : at0 (numbersL w rows) (7 + k) = valL w (rows.map fun r => at0 r (k + 1)) := by
    rcases (by lia : k = 0 ∨ k = 1) with rfl | rfl <;> rfl
  have hl : (rows.map fun r => at0 r (k + 1)).length = rows.length := by rw [List.length_map]
  rw [e, ← V_listI, hl]
  refine V_congr fun t ht => ?_
  rw [List.getD_eq_getElem?_getD, List.getElem?_map, List.getD_eq_getElem?_getD, List.getElem?_eq_getElem ht]; rfl
theorem nine_ext {a b : List Int} (ha : a.length = 9) (hb : b.length = 9) (h1 : ∀ c < 7, at0 a c = at0 b c) (h2 : ∀ k < 2, at0 a (7 + k) = at0 b (7 + k)) : a = b := by
  apply List.ext_getElem?
  intro i
  rcases Nat.lt_or_ge i 9 with hi | hi
  · rw [at0_get (by lia), at0_get (by lia)]
    rcases Nat.lt_or_ge i 7 with q | q
    · rw [h1 i q]
    · have := h2 (i - 7) (by lia)
      have e : 7 + (i - 7) = i := by lia
      rw [e] at this
      rw [this]
  · rw [List.getElem?_eq_none (by lia), List.getElem?_eq_none (by lia)]
noncomputable def runOf (prog : List (List Int)) (s : Nat) (starts : List Nat) : List (List Int) := runL prog ⟨9, 0, 0⟩ (s + 1) 0 0 starts
theorem run_digs (G : GoodP prog) (hw : 5 ≤ w) (hs : s ≤ 8) (hl : starts.length = 2) (hb : ∀ k ∈ starts, k ≤ 3) :
    Digs (numbersL w (runOf prog s starts)) w (s + 1) (fun c t => if c = kap prog (traj prog t 0 starts).1 (traj prog t 0 starts).2 then 1 else 0) (fun k t => (traj prog t 0 starts).2.getD k 0) := by
  have h16 := half_16 hw
  have hlen : (runOf prog s starts).length = s + 1 := runL_len _ _ _ _ _ _
  have hg : ∀ t < s + 1, (runOf prog s starts).getD t [] = ((kap prog (traj prog t 0 starts).1 (traj prog t 0 starts).2 : Nat) : Int) :: (traj prog t 0 starts).2.map fun k : Nat => (k : Int) :=
    run_get prog ⟨9, 0, 0⟩ (s + 1) 0 0 starts (fun i hi => by show ((0 : Nat) : Int) + i ≠ 9; lia)
  refine ⟨fun c hc => ?_, fun k hk => ?_, fun c hc t ht => ?_, fun k hk t ht => ?_⟩
  · rw [numbersL_mk w _ hc, hlen]
    refine V_congr fun t ht => ?_
    rw [hg t ht]
    show (if ((kap prog (traj prog t 0 starts).1 (traj prog t 0 starts).2 : Nat) : Int) = (c : Int) then (1 : Int) else 0) = _
    by_cases q : c = kap prog (traj prog t 0 starts).1 (traj prog t 0 starts).2
    · rw [if_pos q, if_pos (by rw [← q])]; rfl
    · rw [if_neg q, if_neg (by lia)]; rfl
  · rw [numbersL_hd w _ hk, hlen]
    refine V_congr fun t ht => ?_
    rw [hg t ht]
    refine e0a3 (traj_ok G t 0 starts 3 (by decide) hl hb :) fun a b c => ?_
    show ((traj prog t 0 starts).2.map fun k : Nat => (k : Int)).getD k 0 = _
    rw [List.getD_eq_getElem?_getD, List.getElem?_map, List.getD_eq_getElem?_getD, List.getElem?_eq_getElem (by lia)]; rfl
  · show (if _ then _ else _) ≤ 1
    split <;> decide
  · refine e0a3 (traj_ok G t 0 starts 3 (by decide) hl hb :) fun a b c => ?_
    show (traj prog t 0 starts).2.getD k 0 < _
    rw [List.getD_eq_getElem?_getD, List.getElem?_eq_getElem (by lia)]
    have := c _ (List.getElem_mem (by lia : k < (traj prog t 0 starts).2.length))
    show (traj prog t 0 starts).2[k] < _
    lia
theorem holds_iff (G : GoodP prog) (hn : nb.length = 9) (hw : 5 ≤ w) (hs : s ≤ 8) (hl : starts.length = 2) (hb : ∀ k ∈ starts, k ≤ 3) {u : Int} (hu : 0 < u) :
    holdsB nb prog starts (2 ^ w) (onesI w s) (leftI w s) (2 ^ (w * s)) u = true ↔ nb = numbersL w (runOf prog s starts) := by
  have DR := run_digs (w := w) G hw hs hl hb
  constructor
  · intro h
    have h0 := h
    unfold holdsB at h0
    rw [Bool.and_eq_true, Bool.and_eq_true, List.all_eq_true, List.all_eq_true] at h0
    refine e0a2 (h0 :) fun w0q hP => ?_; refine e0a2 (w0q :) fun _ hT => ?_
    refine e2a1 (digs_of (w := w) (s := s) (nb := nb) hw (fun c hc => by
      have := hT c (List.mem_range.mpr hc)
      rw [Bool.not_eq_true'] at this
      unfold badT ok1 at this
      rw [Bool.or_eq_false_iff, Bool.or_eq_false_iff, Bool.or_eq_false_iff, bne_eq_false_iff_eq] at this
      exact this.1.1.1) (fun r hr => by
      have := hP r (by simp; lia)
      rw [Bool.not_eq_true'] at this
      unfold badP at this
      rw [Bool.or_eq_false_iff, bne_eq_false_iff_eq] at this
      exact this.1) :) fun M H D => ?_
    have R := Cd.run D G ((holds_iffC D G hn hw hl hb hu).mp h) hl hb
    refine nine_ext hn (numbersL_len _ _) (fun c hc => ?_) (fun k hk => ?_)
    · rw [D.mkE c hc, DR.mkE c hc]
      exact V_congr fun t ht => by rw [(R t ht).1 c hc]
    · rw [D.hdE k hk, DR.hdE k hk]
      exact V_congr fun t ht => by rw [(R t ht).2 k hk]
  · rintro rfl
    refine (holds_iffC DR G hn hw hl hb hu).mpr (Cd.of_run G hl hb fun t ht => ⟨fun c hc => rfl, fun k hk => rfl⟩)
noncomputable def RowOk (B : Nat) (r : List Int) : Prop := r.length = 3 ∧ (0 ≤ at0 r 0 ∧ at0 r 0 < 7) ∧ (0 ≤ at0 r 1 ∧ at0 r 1 ≤ B) ∧ (0 ≤ at0 r 2 ∧ at0 r 2 ≤ B)
theorem runL_rows (G : GoodP prog) {fg : Fg} (F : GoodF fg) : ∀ (k tick l : Nat) (hs : List Nat) (B : Nat), l ≤ 3 → hs.length = 2 → 3 ≤ B → (∀ x ∈ hs, x ≤ B) → ∀ r ∈ runL prog fg k tick l hs, RowOk (B + k) r
  | 0, _, _, _, _, _, _, _, _, r, hr => nomatch hr
  | k + 1, tick, l, hs, B, hl, h2, hB, hx, r, hr => by
    have f1 := forgeL_le F (tick := tick) hl
    have f2 : (forgeH fg tick hs).length = 2 := by rw [forgeH_len, h2]
    have f3 := forgeH_le F (tick := tick) hB hx
    rcases List.mem_cons.mp hr with rfl | hr
    · refine e0a2 (kap_lt (prog := prog) f1 (forgeH fg tick hs) :) fun kl _ => ?_
      have hf := kap_first (prog := prog) (forgeL fg tick l) (forgeH fg tick hs)
      refine e2a1 (len2 f2) fun x y exy => ?_
      have hx1 := f3 x (by rw [exy]; simp)
      have hy1 := f3 y (by rw [exy]; simp)
      generalize kap prog (forgeL fg tick l) (forgeH fg tick hs) = κ at *
      refine ⟨by unfold rowOf; rw [exy]; rfl, ?_, ?_, ?_⟩
      · unfold rowOf
        rw [hf]
        show 0 ≤ (if (tick : Int) = fg.when_ ∧ fg.kind = 3 ∧ forgeL fg tick l < 3 then bitXor (κ : Int) 1 else (κ : Int)) ∧ (if (tick : Int) = fg.when_ ∧ fg.kind = 3 ∧ forgeL fg tick l < 3 then bitXor (κ : Int) 1 else (κ : Int)) < 7
        split
        · rename_i hq
          rcases lt7 kl with rfl | rfl | rfl | rfl | rfl | rfl | rfl
          · decide
          · decide
          · decide
          · decide
          · decide
          · decide
          · lia
        · exact ⟨Int.natCast_nonneg _, Int.ofNat_lt.mpr kl⟩
      · unfold rowOf
        rw [exy]
        show 0 ≤ (x : Int) ∧ (x : Int) ≤ _
        lia
      · unfold rowOf
        rw [exy]
        show 0 ≤ (y : Int) ∧ (y : Int) ≤ _
        lia
    · have := runL_rows G F k (tick + 1) _ _ (B + 1) (nextL_le G f1) (by rw [nextH_len, f2]) (by exact Nat.le.step hB) (nextH_le f3) r hr
      have e : B + 1 + k = B + (k + 1) := by lia
      rw [e] at this
      exact this
theorem numbers_inj {rows rows' : List (List Int)} {B : Nat} (hw : 5 ≤ w) (hB : B < 16) (hl : rows.length = rows'.length) (h1 : ∀ r ∈ rows, RowOk B r) (h2 : ∀ r ∈ rows', RowOk B r) : numbersL w rows = numbersL w rows' ↔ rows = rows' := by
  constructor
  · intro h
    have h16 := half_16 hw
    have h22 := half_two (w := w) (by lia)
    have h2i : (2 : Int) ^ w = ((2 * 2 ^ (w - 1) : Nat) : Int) := by rw [← h22, nat_two]
    have ok1 : ∀ t < rows.length, RowOk B (rows.getD t []) := fun t ht => by
      rw [List.getD_eq_getElem?_getD, List.getElem?_eq_getElem ht]; exact h1 _ (List.getElem_mem _)
    have ok2 : ∀ t < rows.length, RowOk B (rows'.getD t []) := fun t ht => by
      rw [List.getD_eq_getElem?_getD, List.getElem?_eq_getElem (by lia)]; exact h2 _ (List.getElem_mem _)
    have em : ∀ c : Nat, c < 7 → ∀ t < rows.length, (at0 (rows.getD t []) 0 = (c : Int) ↔ at0 (rows'.getD t []) 0 = (c : Int)) := fun c hc t ht => by
      have e := congrArg (fun l => at0 l c) h
      simp only [numbersL_mk w _ hc] at e
      rw [← hl] at e
      have := (V_inj (fun t _ => by
        have p : (1 : Int) < 2 ^ w := by rw [h2i]; lia
        constructor
        · split <;> split <;> lia
        · split <;> split <;> lia)).mp e t ht
      by_cases q1 : at0 (rows.getD t []) 0 = (c : Int) <;> by_cases q2 : at0 (rows'.getD t []) 0 = (c : Int) <;> simp only [q1, q2, if_true, if_false, iff_self] at this ⊢
      · cases this
      · cases this
    have eh : ∀ k < 2, ∀ t < rows.length, at0 (rows.getD t []) (k + 1) = at0 (rows'.getD t []) (k + 1) := fun k hk t ht => by
      have e := congrArg (fun l => at0 l (7 + k)) h
      simp only [numbersL_hd w _ hk] at e
      rw [← hl] at e
      refine (V_inj (fun t ht => ?_)).mp e t ht
      refine e0a4 (ok1 t ht :) fun _ _ a1 a2 => ?_
      refine e0a4 (ok2 t ht :) fun _ _ b1 b2 => ?_
      rw [h2i]
      rcases (by lia : k = 0 ∨ k = 1) with rfl | rfl
      · simp only [Nat.zero_add]; lia
      · simp only [Nat.reduceAdd]; lia
    apply List.ext_getElem?
    intro t
    rcases Nat.lt_or_ge t rows.length with ht | ht
    · have g1 : rows[t]? = some (rows.getD t []) := by rw [List.getD_eq_getElem?_getD, List.getElem?_eq_getElem ht]; rfl
      have g2 : rows'[t]? = some (rows'.getD t []) := by rw [List.getD_eq_getElem?_getD, List.getElem?_eq_getElem (by lia)]; rfl
      rw [g1, g2]
      congr 1
      refine e0a4 (ok1 t ht :) fun l1 z1 _ _ => ?_
      refine e0a4 (ok2 t ht :) fun l2 z2 _ _ => ?_
      have e0 : at0 (rows.getD t []) 0 = at0 (rows'.getD t []) 0 := by
        have := (em (at0 (rows.getD t []) 0).toNat (by lia) t ht).mp (by lia)
        lia
      have e1 := eh 0 (by decide) t ht
      have e2 := eh 1 (by decide) t ht
      generalize rows.getD t [] = r at *
      generalize rows'.getD t [] = r' at *
      refine e3a1 (len3 l1) fun a b c q => e3a1 (len3 l2) fun a' b' c' q' => ?_
      rw [q, q'] at e0 e1 e2
      rw [q, q', show a = a' from e0, show b = b' from e1, show c = c' from e2]
    · rw [List.getElem?_eq_none (by exact ht), List.getElem?_eq_none (by lia)]
  · intro h; rw [h]
end
end
section
open PySem PySem.Builtin PySem.Builtin.Str
noncomputable def DR (r : List Int) : Prop := ∃ a g g' : Nat, a ≤ 1 ∧ g ≤ 3 ∧ g' ≤ 3 ∧ (r = [(a : Int), 0, (g : Int)] ∨ r = [(a : Int), 1, (g : Int), (g' : Int)])
noncomputable def wordL (r : List Int) : List Nat := [60 + 2 * (at0 r 0).toNat, 43 + 2 * (at0 r 1).toNat, 61] ++ (r.drop 2).map fun g => 97 + g.toNat
noncomputable def pageT (rs : List (List Int)) : List Nat := [34, 9, 10, 13] ++ joinL [38] (rs.map wordL)
theorem DR.good {r : List Int} (h : DR r) : GoodRow r := by
  refine e3a4 (h :) fun a g g' ha hg hg' w6q => ?_; rcases w6q with rfl | rfl
  · refine ⟨.inl rfl, ⟨by show (0 : Int) ≤ (a : Int); exact Int.natCast_nonneg a, by show (a : Int) ≤ 1; lia⟩, fun k h2 h3 => ?_⟩
    have : k = 2 := by simp at h3; lia
    subst this
    show 0 ≤ (g : Int) ∧ (g : Int) ≤ 3
    lia
  · refine ⟨.inr rfl, ⟨by show (0 : Int) ≤ (a : Int); exact Int.natCast_nonneg a, by show (a : Int) ≤ 1; lia⟩, fun k h2 h3 => ?_⟩
    rcases (by simp at h3; lia : k = 2 ∨ k = 3) with rfl | rfl
    · show 0 ≤ (g : Int) ∧ (g : Int) ≤ 3
      lia
    · show 0 ≤ (g' : Int) ∧ (g' : Int) ≤ 3
      lia
structure TokX (ex : Str → Option Int) : Prop where
  bad : ∀ l : List Nat, (∃ c ∈ l, c ∈ [97, 98, 99, 100, 34, 9, 10, 13]) → ex (txt l) = none
  n1 : ∀ a ∈ [60, 62], ∀ b ∈ [43, 45], ex (txt [a, b, 61]) = none ∧ ex (txt [a, b]) = none ∧ ex (txt [38, a, b]) = none
  n2 : ∀ a ∈ [60, 62], ex (txt [38, a]) = none
  lt : ex (txt [60]) = some 20
  gt : ex (txt [62]) = some 21
  pe : ex (txt [43, 61]) = some 36
  me : ex (txt [45, 61]) = some 37
  am : ex (txt [38]) = some 19
section
variable {ex : Str → Option Int}
noncomputable def tokA (ex : Str → Option Int) (t : List Nat) : List Int := tokL ex t.length t
theorem tokA_step (t : List Nat) (ht : t ≠ []) : tokA ex t = symL ex (t.take (manyL ex t)) ++ tokA ex (t.drop (manyL ex t)) := tokL_step ex t ht
theorem many1 {c : Nat} {r : List Nat} (h3 : ex (txt ((c :: r).take 3)) = none) (h2 : ex (txt ((c :: r).take 2)) = none) : manyL ex (c :: r) = 1 := by
  unfold manyL
  rw [h3, h2]; rfl
theorem many2 {t : List Nat} {v : Int} (h3 : ex (txt (t.take 3)) = none) (h2 : ex (txt (t.take 2)) = some v) : manyL ex t = 2 := by
  unfold manyL
  rw [h3, h2]; rfl
theorem tok_bad (X : TokX ex) {c : Nat} (hc : c ∈ [97, 98, 99, 100, 34, 9, 10, 13]) (r : List Nat) : tokA ex (c :: r) = symL ex [c] ++ tokA ex r := by
  rw [tokA_step _ (List.cons_ne_nil _ _), many1 (X.bad _ ⟨c, by simp, hc⟩) (X.bad _ ⟨c, by simp, hc⟩)]; rfl
theorem sym_none (X : TokX ex) {c : Nat} (hc : c ∈ [34, 9, 10, 13]) : symL ex [c] = [] := by
  unfold symL
  rw [X.bad [c] ⟨c, by simp, by simp at hc ⊢; lia⟩, contains_txt]
  have : decide (c ∈ [97, 98, 99, 100]) = false := by
    exact (by decide : ∀ c ∈ [34, 9, 10, 13], decide (c ∈ [97, 98, 99, 100]) = false) c hc
  rw [this]; rfl
theorem sym_letter (X : TokX ex) {g : Nat} (hg : g ≤ 3) : symL ex [97 + g] = [256 + (g : Int)] := by
  unfold symL
  rw [X.bad [97 + g] ⟨97 + g, by simp, by simp; lia⟩]
  rcases le3 hg with rfl | rfl | rfl | rfl
  · have h := find_txt [] [98, 99, 100] 97 (by simp)
    have hc : Txt.contains (txt [97, 98, 99, 100]) (txt [97]) = true := by rw [contains_txt]; rfl
    simp only [Nat.add_zero]
    rw [hc, if_pos rfl]
    have h' : Txt.find (txt [97, 98, 99, 100]) (txt [97]) = 0 := h
    rw [h']; rfl
  · have h := find_txt [97] [99, 100] 98 (by simp)
    have hc : Txt.contains (txt [97, 98, 99, 100]) (txt [98]) = true := by rw [contains_txt]; rfl
    simp only [Nat.reduceAdd]
    rw [hc, if_pos rfl]
    have h' : Txt.find (txt [97, 98, 99, 100]) (txt [98]) = 1 := h
    rw [h']; rfl
  · have h := find_txt [97, 98] [100] 99 (by simp)
    have hc : Txt.contains (txt [97, 98, 99, 100]) (txt [99]) = true := by rw [contains_txt]; rfl
    simp only [Nat.reduceAdd]
    rw [hc, if_pos rfl]
    have h' : Txt.find (txt [97, 98, 99, 100]) (txt [99]) = 2 := h
    rw [h']; rfl
  · have h := find_txt [97, 98, 99] [] 100 (by simp)
    have hc : Txt.contains (txt [97, 98, 99, 100]) (txt [100]) = true := by rw [contains_txt]; rfl
    simp only [Nat.reduceAdd]
    rw [hc, if_pos rfl]
    have h' : Txt.find (txt [97, 98, 99, 100]) (txt [100]) = 3 := h
    rw [h']; rfl
theorem tok_letter (X : TokX ex) {g : Nat} (hg : g ≤ 3) (r : List Nat) : tokA ex ((97 + g) :: r) = (256 + (g : Int)) :: tokA ex r := by
  rw [tok_bad X (by simp; lia), sym_letter X hg]; rfl
theorem sym_some {l : List Nat} {v : Int} (h : ex (txt l) = some v) : symL ex l = [v] := by
  unfold symL; rw [h]
theorem tok_word (X : TokX ex) {r : List Int} (h : DR r) (z : List Nat) : tokA ex (wordL r ++ z) = (20 + at0 r 0) :: (36 + at0 r 1) :: (r.drop 2).map (fun g => 256 + g) ++ tokA ex z := by
  have head : ∀ (a b g : Nat) (y : List Nat), a ≤ 1 → b ≤ 1 → g ≤ 3 → tokA ex ([60 + 2 * a, 43 + 2 * b, 61] ++ (97 + g) :: y) = (20 + (a : Int)) :: (36 + (b : Int)) :: (256 + (g : Int)) :: tokA ex y := by
    intro a b g y ha hb hg
    have ma : 60 + 2 * a ∈ [60, 62] := by simp; lia
    have mb : 43 + 2 * b ∈ [43, 45] := by simp; lia
    refine e0a3 (X.n1 _ ma _ mb :) fun x1 x2 _ => ?_
    have s1 : ex (txt [60 + 2 * a]) = some (20 + (a : Int)) := by
      rcases (by lia : a = 0 ∨ a = 1) with rfl | rfl
      · exact X.lt
      · exact X.gt
    have s2 : ex (txt [43 + 2 * b, 61]) = some (36 + (b : Int)) := by
      rcases (by lia : b = 0 ∨ b = 1) with rfl | rfl
      · exact X.pe
      · exact X.me
    rw [tokA_step ([60 + 2 * a, 43 + 2 * b, 61] ++ (97 + g) :: y) (by simp)]
    have m1 : manyL ex ([60 + 2 * a, 43 + 2 * b, 61] ++ (97 + g) :: y) = 1 := many1 x1 x2
    rw [m1]
    show symL ex [60 + 2 * a] ++ tokA ex ((43 + 2 * b) :: 61 :: (97 + g) :: y) = _
    rw [sym_some s1, tokA_step _ (List.cons_ne_nil _ _)]
    have m2 : manyL ex ((43 + 2 * b) :: 61 :: (97 + g) :: y) = 2 := many2 (X.bad [43 + 2 * b, 61, 97 + g] ⟨97 + g, by simp, by simp; lia⟩) s2
    rw [m2]
    show [20 + (a : Int)] ++ (symL ex [43 + 2 * b, 61] ++ tokA ex ((97 + g) :: y)) = _
    rw [sym_some s2, tok_letter X hg]; rfl
  refine e3a4 (h :) fun a g g' ha hg hg' w6q => ?_; rcases w6q with rfl | rfl
  · have := head a 0 g z ha (by decide) hg
    have e : wordL [(a : Int), 0, (g : Int)] ++ z = [60 + 2 * a, 43 + 2 * 0, 61] ++ (97 + g) :: z := rfl
    rw [e, this]; rfl
  · have := head a 1 g ((97 + g') :: z) ha (by decide) hg
    have e : wordL [(a : Int), 1, (g : Int), (g' : Int)] ++ z = [60 + 2 * a, 43 + 2 * 1, 61] ++ (97 + g) :: (97 + g') :: z := rfl
    rw [e, this, tok_letter X hg']; rfl
theorem tok_amp (X : TokX ex) {r : List Int} (h : DR r) (z : List Nat) : tokA ex (38 :: (wordL r ++ z)) = 19 :: tokA ex (wordL r ++ z) := by
  obtain ⟨y, e, hy⟩ : ∃ y, wordL r = (60 + 2 * (at0 r 0).toNat) :: (43 + 2 * (at0 r 1).toNat) :: y ∧ (at0 r 0).toNat ≤ 1 ∧ (at0 r 1).toNat ≤ 1 := by
    refine ⟨_, rfl, ?_⟩
    refine e3a4 (h :) fun a g g' ha hg hg' w6q => ?_; rcases w6q with rfl | rfl
    · exact ⟨ha, Nat.zero_le _⟩
    · exact ⟨ha, Nat.le_refl 1⟩
  have ma : 60 + 2 * (at0 r 0).toNat ∈ [60, 62] := by simp; lia
  have mb : 43 + 2 * (at0 r 1).toNat ∈ [43, 45] := by simp; lia
  refine e0a3 (X.n1 _ ma _ mb :) fun _ _ x3 => ?_
  rw [tokA_step _ (List.cons_ne_nil _ _), e]
  have m1 : manyL ex (38 :: ((60 + 2 * (at0 r 0).toNat) :: (43 + 2 * (at0 r 1).toNat) :: y ++ z)) = 1 := many1 x3 (X.n2 _ ma)
  rw [m1]
  show symL ex [38] ++ _ = _
  rw [sym_some X.am]; rfl
theorem prog_word {r : List Int} (h : DR r) (acc : List (List Int)) (z : List Int) : progL acc ((20 + at0 r 0) :: (36 + at0 r 1) :: (r.drop 2).map (fun g => 256 + g) ++ z) = progL (acc ++ [r]) z := by
  have let1 : ∀ (acc : List (List Int)) (l : List Int) (g : Nat) (z : List Int), g ≤ 3 → progL (acc ++ [l]) ((256 + (g : Int)) :: z) = progL (acc ++ [l ++ [(g : Int)]]) z := by
    intro acc l g z hg
    have e : (256 + (g : Int)) - 256 = (g : Int) := by lia
    rw [progL, if_neg (by lia), if_pos (by lia)]
    simp only [List.getLast?_append, List.getLast?_singleton, Option.some_or, List.dropLast_concat, e]
  have head : ∀ (a b g : Nat) (z : List Int), a ≤ 1 → b ≤ 1 → g ≤ 3 → progL acc ((20 + (a : Int)) :: (36 + (b : Int)) :: (256 + (g : Int)) :: z) = progL (acc ++ [[(a : Int), (b : Int), (g : Int)]]) z := by
    intro a b g z ha hb hg
    have e1 : (20 + (a : Int)) - 20 = (a : Int) := by lia
    have e2 : (36 + (b : Int)) - 36 = (b : Int) := by lia
    rw [progL, if_neg (by lia), if_neg (by lia), if_pos (by lia), progL, if_neg (by lia), if_neg (by lia), if_neg (by lia), if_pos (by lia)]
    simp only [List.getLast?_append, List.getLast?_singleton, Option.some_or, List.dropLast_concat, e1, e2]
    rw [let1 _ _ _ _ hg]; rfl
  refine e3a4 (h :) fun a g g' ha hg hg' w6q => ?_; rcases w6q with rfl | rfl
  · exact head a 0 g z ha (by decide) hg
  · have := head a 1 g ((256 + (g' : Int)) :: z) ha (by decide) hg
    refine this.trans ?_
    rw [let1 _ _ _ _ hg']; rfl
theorem read_drawn (X : TokX ex) {r1 r2 r3 : List Int} (h1 : DR r1) (h2 : DR r2) (h3 : DR r3) : progL [] (tokA ex (pageT [r1, r2, r3]) ++ [0]) = some [r1, r2, r3] := by
  have e : pageT [r1, r2, r3] = 34 :: 9 :: 10 :: 13 :: (wordL r1 ++ 38 :: (wordL r2 ++ 38 :: (wordL r3 ++ []))) := by
    unfold pageT
    simp [joinL]
  rw [e, tok_bad X (by decide), sym_none X (by decide), tok_bad X (by decide), sym_none X (by decide), tok_bad X (by decide), sym_none X (by decide), tok_bad X (by decide), sym_none X (by decide),
    tok_word X h1, tok_amp X h2, tok_word X h2, tok_amp X h3, tok_word X h3]
  have amp : ∀ acc z, progL acc (19 :: z) = progL acc z := by
    intro acc z
    rw [progL, if_neg (by decide), if_neg (by decide), if_neg (by decide), if_neg (by decide)]
  have e0 : tokA ex [] = [] := rfl
  rw [e0]
  simp only [List.nil_append, List.append_nil, List.append_assoc, List.cons_append]
  have p1 := prog_word h1 [] (19 :: ((20 + at0 r2 0) :: (36 + at0 r2 1) :: ((r2.drop 2).map (fun g => 256 + g) ++ (19 :: (20 + at0 r3 0) :: (36 + at0 r3 1) :: ((r3.drop 2).map (fun g => 256 + g) ++ [0])))))
  simp only [List.cons_append] at p1
  rw [p1, amp]
  have p2 := prog_word h2 ([] ++ [r1]) (19 :: (20 + at0 r3 0) :: (36 + at0 r3 1) :: ((r3.drop 2).map (fun g => 256 + g) ++ [0]))
  simp only [List.cons_append] at p2
  rw [p2, amp]
  have p3 := prog_word h3 ([] ++ [r1] ++ [r2]) [0]
  simp only [List.cons_append] at p3
  rw [p3, progL, if_pos rfl]; rfl
end
end
section
open PySem PySem.Builtin PySem.Builtin.Str
noncomputable def nmOf (z : List Nat) : List Nat := (z.drop 1).dropLast
noncomputable abbrev GoodEsc (p : Nat × List Nat) : Prop := p.2 = 38 :: (nmOf p.2 ++ [59]) ∧ 38 ∉ nmOf p.2 ∧ 59 ∉ nmOf p.2 ∧ sgL.lookup (txt (nmOf p.2)) = some (txt [p.1])
theorem escs_good (hand : Int) : (∀ p ∈ escs hand, GoodEsc p) ∧ ((escs hand).lookup 38).isSome = true := by
  unfold escs
  split
  · decide +kernel
  split
  · decide +kernel
  split
  · decide +kernel
  split
  · decide +kernel
  · decide +kernel
theorem lookup_mem {ps : List (Nat × List Nat)} {a : Nat} {z : List Nat} (h : ps.lookup a = some z) : (a, z) ∈ ps := by
  induction ps with
  | nil => cases h
  | cons p r ih =>
    rw [List.lookup_cons] at h
    cases hb : a == p.1 with
    | true =>
      rw [hb] at h
      cases h
      have : a = p.1 := by simpa using hb
      rw [this]; exact List.mem_cons_self
    | false => rw [hb] at h; exact List.mem_cons_of_mem _ (ih h)
theorem split_pre (a x h : List Nat) (ps : List (List Nat)) (ha : 38 ∉ a) (hx : splitL 38 x = h :: ps) : splitL 38 (a ++ x) = (a ++ h) :: ps := by
  induction a with
  | nil => exact hx
  | cons c r ih =>
    have hc : c ≠ 38 := fun q => ha (q ▸ List.mem_cons_self)
    have := ih fun q => ha (List.mem_cons_of_mem _ q)
    rw [List.cons_append, splitL_cons, if_neg hc, this]; rfl
theorem pieces (hand : Int) : ∀ l : List Nat, ∃ (head : List Nat) (pcs : List Pc), splitL 38 (wr hand l) = head :: pcs.map Pc.page ∧ (∀ p ∈ pcs, GoodPc p) ∧ l = head ++ (pcs.map Pc.text).flatten ∧ pcs.length ≤ l.length ∧ (∀ p ∈ pcs, p.page.length ≤ (wr hand l).length) ∧ ((pcs.map Pc.text).map List.length).sum ≤ l.length ∧ head.length ≤ (wr hand l).length
  | [] => ⟨[], [], rfl, nofun, rfl, Nat.le_refl _, nofun, Nat.le_refl _, Nat.le_refl _⟩
  | c :: r => by
    refine e2a7 (pieces hand r :) fun head pcs h1 h2 h3 h4 h5 h6 h7 => ?_
    refine e0a2 (escs_good hand :) fun hg h38 => ?_
    have e : wr hand (c :: r) = esc (escs hand) c ++ wr hand r := by unfold wr; rw [List.flatMap_cons]
    cases hc : (escs hand).lookup c with
    | none =>
      have hne : c ≠ 38 := fun q => by rw [q] at hc; rw [hc] at h38; cases h38
      have ee : esc (escs hand) c = [c] := by unfold esc; rw [hc]; rfl
      rw [ee] at e
      have ew : (wr hand (c :: r)).length = (wr hand r).length + 1 := by rw [e]; simp
      refine ⟨c :: head, pcs, ?_, h2, ?_, ?_, ?_, ?_, ?_⟩
      · rw [e]
        exact split_pre [c] _ _ _ (by simp; exact _root_.id (Ne.symm hne)) h1
      · rw [List.cons_append, ← h3]
      · simp; exact Nat.le.step h4
      · intro p hp
        have := h5 p hp
        lia
      · simp only [List.length_cons]; exact Nat.le.step h6
      · simp only [List.length_cons]; lia
    | some z =>
      have g := hg _ (lookup_mem hc)
      refine e0a4 (g :) fun g1 g2 g3 g4 => ?_
      have ee : esc (escs hand) c = z := by unfold esc; rw [hc]; rfl
      have g1' : z = 38 :: (nmOf z ++ [59]) := g1
      rw [ee, g1'] at e
      have ew : (wr hand (c :: r)).length = (nmOf z).length + 2 + (wr hand r).length := by rw [e]; simp; lia
      refine ⟨[], ⟨nmOf z, c, head⟩ :: pcs, ?_, ?_, ?_, ?_, ?_, ?_, ?_⟩
      · rw [e]
        have := split_pre (nmOf z ++ [59]) (wr hand r) head (pcs.map Pc.page) (by simp; exact g2) h1
        show splitL 38 (38 :: ((nmOf z ++ [59]) ++ wr hand r)) = _
        rw [splitL_cons, if_pos rfl, this]
        show [] :: ((nmOf z ++ [59]) ++ head) :: _ = [] :: (nmOf z ++ 59 :: head) :: _
        simp
      · intro p hp
        rcases List.mem_cons.mp hp with rfl | hp
        · exact ⟨g3, g4⟩
        · exact h2 p hp
      · show c :: r = [] ++ ((c :: head) ++ (pcs.map Pc.text).flatten)
        rw [List.nil_append, List.cons_append, ← h3]
      · simp only [List.length_cons]; lia
      · intro p hp
        rcases List.mem_cons.mp hp with rfl | hp
        · show (nmOf z ++ 59 :: head).length ≤ _
          rw [ew, List.length_append, List.length_cons]; lia
        · have := h5 p hp
          lia
      · have hl : r.length = head.length + ((pcs.map Pc.text).map List.length).sum := by
          conv => lhs; rw [h3]
          rw [List.length_append, List.length_flatten]
        rw [List.map_cons, List.map_cons, List.sum_cons]
        have : (Pc.text ⟨nmOf z, c, head⟩).length = head.length + 1 := rfl
        simp only [List.length_cons]
        lia
      · exact Nat.zero_le _
theorem wr_len (hand : Int) (l : List Nat) : (wr hand l).length ≤ 6 * l.length := by
  unfold wr escs
  split
  · exact esc_len (by decide) l
  split
  · exact esc_len (by decide) l
  split
  · exact esc_len (by decide) l
  split
  · exact esc_len (by decide) l
  · exact esc_len (by decide) l
theorem word_len {r : List Int} (h : DR r) : (wordL r).length ≤ 5 := by
  refine e3a4 (h :) fun a g g' ha hg hg' w6q => ?_; rcases w6q with rfl | rfl
  · show 4 ≤ 5; decide
  · show 5 ≤ 5; decide
theorem page_len {r1 r2 r3 : List Int} (h1 : DR r1) (h2 : DR r2) (h3 : DR r3) : (pageT [r1, r2, r3]).length ≤ 30 := by
  have := word_len h1
  have := word_len h2
  have := word_len h3
  unfold pageT
  simp [joinL]
  lia
end
section
open PySem PySem.Builtin PySem.Builtin.Int
section
variable {w s : Nat} {prog : List (List Int)} {starts : List Nat}
theorem digs_dgs (w : Nat) : ∀ (k x : Nat), digs w k (x : Int) = (dgs w k x).map fun d : Nat => (d : Int)
  | 0, _ => rfl
  | k + 1, x => by
    have h1 : (x : Int) % 2 ^ w = ((x % 2 ^ w : Nat) : Int) := by rw [Int.natCast_emod, nat_two]
    have h2 : (x : Int) / 2 ^ w = ((x / 2 ^ w : Nat) : Int) := by rw [Int.natCast_ediv, nat_two]
    show (x : Int) % 2 ^ w :: digs w k ((x : Int) / 2 ^ w) = ((x % 2 ^ w : Nat) : Int) :: (dgs w k (x / 2 ^ w)).map _
    rw [h1, h2, digs_dgs w k]
theorem valN_zeros (w : Nat) : ∀ n, valN w (List.replicate n 0) = 0
  | 0 => rfl
  | n + 1 => by
    show 0 + valN w (List.replicate n 0) * 2 ^ w = 0
    rw [valN_zeros w n]; simp
theorem valN_app (w : Nat) : ∀ a b : List Nat, valN w (a ++ b) = valN w a + valN w b * 2 ^ (w * a.length)
  | [], b => by simp [valN]
  | d :: r, b => by
    show d + valN w (r ++ b) * 2 ^ w = d + valN w r * 2 ^ w + valN w b * 2 ^ (w * (r.length + 1))
    rw [valN_app w r b, Nat.mul_succ, Nat.pow_add, Nat.add_mul, Nat.mul_assoc, Nat.add_assoc]
noncomputable def many (w : Nat) (x : Int) : Nat := (intBits x + w - 1) / w
theorem digits_back (hw : 1 ≤ w) {l : List Nat} (hd : Dg w l) : many w (valN w l : Int) ≤ l.length ∧ digs w (many w (valN w l : Int)) (valN w l : Int) ++ List.replicate (l.length - many w (valN w l : Int)) 0 = l.map (fun d : Nat => (d : Int)) ∧
    (digs w (many w (valN w l : Int)) (valN w l : Int)).getLast? ≠ some 0 := by
  have hlt := valN_lt w l hd
  generalize hx : valN w l = x at *
  have hb : intBits (x : Int) ≤ w * l.length := bits_lt (by exact Int.natCast_nonneg x) (by rw [← nat_two]; lia)
  have hxb : x < 2 ^ (intBits (x : Int)) := by
    have := lt_bits (a := (x : Int)) (by exact Int.natCast_nonneg x)
    rw [← nat_two] at this
    lia
  have hdm := Nat.div_add_mod (intBits (x : Int) + w - 1) w
  have hml := Nat.mod_lt (intBits (x : Int) + w - 1) (show 0 < w by exact hw)
  have hk : many w (x : Int) ≤ l.length := by
    unfold many
    have : (intBits (x : Int) + w - 1) / w < l.length + 1 := Nat.div_lt_of_lt_mul (by rw [Nat.mul_succ]; lia)
    lia
  have hkb : intBits (x : Int) ≤ w * many w (x : Int) := by unfold many; lia
  have hk2 : w * many w (x : Int) < intBits (x : Int) + w := by unfold many; lia
  generalize many w (x : Int) = k at *
  have hx2 : x < 2 ^ (w * k) := Nat.lt_of_lt_of_le hxb (Nat.pow_le_pow_right (by decide) hkb)
  refine ⟨hk, ?_, ?_⟩
  · rw [digs_dgs]
    have e : dgs w k x ++ List.replicate (l.length - k) 0 = l := by
      refine valN_inj w _ _ (by simp [dgs_len]; lia) ?_ hd ?_
      · intro d hdm
        rcases List.mem_append.mp hdm with q | q
        · exact dgs_dg w k x d q
        · rw [(List.mem_replicate.mp q).2]; exact Nat.two_pow_pos w
      · rw [valN_app, valN_dgs w k x hx2, valN_zeros, hx]; simp
    have e2 : List.replicate (l.length - k) (0 : Int) = (List.replicate (l.length - k) (0 : Nat)).map fun d : Nat => (d : Int) := by simp
    rw [e2, ← List.map_append, e]
  · cases k with
    | zero => simp [digs]
    | succ k =>
      rw [digs_add w k 1]
      show (digs w k (x : Int) ++ [(x : Int) / 2 ^ (w * k) % 2 ^ w]).getLast? ≠ some 0
      rw [List.getLast?_append, List.getLast?_singleton, Option.some_or]
      intro q
      have q' : (x : Int) / 2 ^ (w * k) % 2 ^ w = 0 := Option.some.inj q
      rw [Nat.mul_succ] at hk2 hx2
      have hlow : 2 ^ (w * k) ≤ x := by
        rcases Nat.lt_or_ge x (2 ^ (w * k)) with g | g
        · have : intBits (x : Int) ≤ w * k := bits_lt (by exact Int.natCast_nonneg x) (by rw [← nat_two]; lia)
          lia
        · exact g
      have e1 : (x : Int) / 2 ^ (w * k) = ((x / 2 ^ (w * k) : Nat) : Int) := by rw [Int.natCast_ediv, nat_two]
      have h1 : 1 ≤ x / 2 ^ (w * k) := (Nat.one_le_div_iff (Nat.two_pow_pos _)).mpr hlow
      have h2 : x / 2 ^ (w * k) < 2 ^ w := Nat.div_lt_of_lt_mul (by rw [← Nat.pow_add]; exact hx2)
      have e2 : ((x / 2 ^ (w * k) : Nat) : Int) % 2 ^ w = ((x / 2 ^ (w * k) : Nat) : Int) := Int.emod_eq_of_lt (by exact Int.natCast_nonneg (x / 2 ^ (w * k))) (by rw [← nat_two]; lia)
      rw [e1, e2] at q'
      lia
theorem digits_backI (hw : 1 ≤ w) {l : List Int} (hd : ∀ d ∈ l, 0 ≤ d ∧ d < 2 ^ w) : 0 ≤ valL w l ∧ valL w l < 2 ^ (w * l.length) ∧ many w (valL w l) ≤ l.length ∧ digs w (many w (valL w l)) (valL w l) ++ List.replicate (l.length - many w (valL w l)) 0 = l ∧ (digs w (many w (valL w l)) (valL w l)).getLast? ≠ some 0 := by
  have e : l = (l.map Int.toNat).map fun d : Nat => (d : Int) := by
    rw [List.map_map]
    conv => lhs; rw [← List.map_id l]
    refine List.map_congr_left fun d hdm => ?_
    have := hd d hdm
    show d = ((d.toNat : Nat) : Int)
    lia
  have hn : Dg w (l.map Int.toNat) := by
    intro d hdm
    refine e1a2 (List.mem_map.mp hdm :) fun x hx r2q => ?_; subst r2q
    have := hd x hx
    rw [← nat_two] at this
    lia
  have h := digits_back hw hn
  have hlt := valN_lt w _ hn
  have ev : valL w l = (valN w (l.map Int.toNat) : Int) := by
    conv => lhs; rw [e]
    exact valL_nat w _
  rw [List.length_map, ← ev, ← e] at h
  rw [List.length_map] at hlt
  refine ⟨by rw [ev]; exact Int.natCast_nonneg (valN w (List.map Int.toNat l)), by rw [ev, ← nat_two]; lia, h⟩
noncomputable def codeSum (nb : List Int) : Int := ((List.range 7).map fun c : Nat => (c : Int) * at0 nb c).sum
theorem code_sum {rows : List (List Int)} (h : ∀ r ∈ rows, 0 ≤ at0 r 0 ∧ at0 r 0 < 7) : codeSum (numbersL w rows) = valL w (rows.map fun r => at0 r 0) := by
  have e : codeSum (numbersL w rows) = V w (fun t => at0 (rows.getD t []) 0) rows.length := by
    have e1 : codeSum (numbersL w rows) = (0 : Int) * at0 (numbersL w rows) 0 + ((1 : Int) * at0 (numbersL w rows) 1 + ((2 : Int) * at0 (numbersL w rows) 2 + ((3 : Int) * at0 (numbersL w rows) 3 + ((4 : Int) * at0 (numbersL w rows) 4 + ((5 : Int) * at0 (numbersL w rows) 5 + ((6 : Int) * at0 (numbersL w rows) 6 + 0)))))) := rfl
    rw [e1, numbersL_mk w rows (show 0 < 7 by decide), numbersL_mk w rows (show 1 < 7 by decide), numbersL_mk w rows (show 2 < 7 by decide), numbersL_mk w rows (show 3 < 7 by decide), numbersL_mk w rows (show 4 < 7 by decide), numbersL_mk w rows (show 5 < 7 by decide), numbersL_mk w rows (show 6 < 7 by decide)]
    rw [← V_smul, ← V_smul, ← V_smul, ← V_smul, ← V_smul, ← V_smul, ← V_smul, Int.add_zero, ← V_add, ← V_add, ← V_add, ← V_add, ← V_add, ← V_add]
    refine V_congr fun t ht => ?_
    have hr : 0 ≤ at0 (rows.getD t []) 0 ∧ at0 (rows.getD t []) 0 < 7 := by
      rw [List.getD_eq_getElem?_getD, List.getElem?_eq_getElem ht]; exact h _ (List.getElem_mem _)
    generalize at0 (rows.getD t []) 0 = x at *
    rcases (by lia : x = 0 ∨ x = 1 ∨ x = 2 ∨ x = 3 ∨ x = 4 ∨ x = 5 ∨ x = 6) with rfl | rfl | rfl | rfl | rfl | rfl | rfl <;> decide
  have hl : (rows.map fun r => at0 r 0).length = rows.length := by rw [List.length_map]
  rw [e, ← V_listI, hl]
  refine V_congr fun t ht => ?_
  rw [List.getD_eq_getElem?_getD, List.getD_eq_getElem?_getD, List.getElem?_map, List.getElem?_eq_getElem ht]; rfl
theorem ones_val (w m : Nat) : valL w (List.replicate m ((2 : Int) ^ w - 1)) = 2 ^ (w * m) - 1 := by
  induction m with
  | zero => simp [valL]
  | succ m ih =>
    show (2 : Int) ^ w - 1 + valL w (List.replicate m ((2 : Int) ^ w - 1)) * 2 ^ w = _
    rw [ih, Nat.mul_succ, Int.pow_add, Int.sub_mul]; lia
noncomputable def gains (rows : List (List Int)) (start : Int) (k s : Nat) : List Int := start :: (List.range s).map fun t => at0 (rows.getD (t + 1) []) (k + 1) - at0 (rows.getD t []) (k + 1)
theorem gains_eq {rows : List (List Int)} {start : Int} {k : Nat} (hlen : rows.length = s + 1) (hk : k < 2) (h0 : at0 (rows.getD 0 []) (k + 1) = start) (hd : ∀ t < s + 1, 0 ≤ at0 (rows.getD t []) (k + 1) ∧ at0 (rows.getD t []) (k + 1) < 2 ^ w) :
    valL w (gains rows start k s) = at0 (numbersL w rows) (7 + k) - (at0 (numbersL w rows) (7 + k)).fmod (2 ^ (w * s)) * 2 ^ w := by
  have hg : (gains rows start k s).length = s + 1 := by unfold gains; simp
  have hup := V_up (w := w) 0 (fun t => at0 (rows.getD t []) (k + 1)) s
  rw [numbersL_hd w rows hk, hlen, fmod_pos _ (two_pos _), (V_divmod hd).2, ← V_listI, hg]
  have e : V w (fun t => at0 (rows.getD t []) (k + 1)) (s + 1) - V w (fun t => at0 (rows.getD t []) (k + 1)) s * 2 ^ w = V w (fun t => at0 (rows.getD t []) (k + 1) - up1 0 (fun t => at0 (rows.getD t []) (k + 1)) t) (s + 1) := by
    rw [V_sub, hup]; lia
  rw [e]
  refine V_congr fun t ht => ?_
  unfold gains
  cases t with
  | zero =>
    show start = at0 (rows.getD 0 []) (k + 1) - 0
    rw [h0]; lia
  | succ t =>
    rw [List.getD_cons_succ, List.getD_eq_getElem?_getD, List.getElem?_map, List.getElem?_range (by lia)]
    simp [up1]
end
end
section
open PySem PySem.Calls PySem.W PySem.Builtin PySem.Builtin.Int
set_option genSizeOf false in
set_option genInjectivity false in
structure LG (C : Cx) where
  P : Pyl C
  f60 : Addr
  f61 : Addr
  f62 : Addr
  f65 : Addr
  f66 : Addr
  f67 : Addr
  f68 : Addr
  f69 : Addr
  f71 : Addr
  f72 : Addr
  f73 : Addr
  f74 : Addr
  f75 : Addr
  f76 : Addr
  f77 : Addr
  d60 : FuncData
  d61 : FuncData
  d62 : FuncData
  d65 : FuncData
  d66 : FuncData
  d67 : FuncData
  d68 : FuncData
  d69 : FuncData
  d71 : FuncData
  d72 : FuncData
  d73 : FuncData
  d74 : FuncData
  d75 : FuncData
  d76 : FuncData
  d77 : FuncData
  ex : Str → Option Int
  F60 : FnI C 60 f60 d60
  F61 : FnI C 61 f61 d61
  F62 : FnI C 62 f62 d62
  F65 : FnI C 65 f65 d65
  F66 : FnI C 66 f66 d66
  F67 : FnI C 67 f67 d67
  F68 : FnI C 68 f68 d68
  F69 : FnI C 69 f69 d69
  F71 : FnI C 71 f71 d71
  F72 : FnI C 72 f72 d72
  F73 : FnI C 73 f73 d73
  F74 : FnI C 74 f74 d74
  F75 : FnI C 75 f75 d75
  F76 : FnI C 76 f76 d76
  F77 : FnI C 77 f77 d77
  T : TokT ex
  X : TokX ex
  hG : ∃ mg, C.G.Ns mainGlobals mg
  gNT : GlobD C "NT_OFFSET" (.int 256)
  gEM : GlobD C "ENDMARKER" (.int 0)
  gEX : GlobD C "EXACT_TOKEN_TYPES" (.imap ex)
  g60 : GlobD C "ISTERMINAL" (.ref f60)
  g61 : GlobD C "ISNONTERMINAL" (.ref f61)
  g62 : GlobD C "ISEOF" (.ref f62)
  g65 : GlobD C "_escape_cdata" (.ref f65)
  g66 : GlobD C "_escape_attrib" (.ref f66)
  g67 : GlobD C "_escape_attrib_html" (.ref f67)
  g68 : GlobD C "_escape_cdata_c14n" (.ref f68)
  g69 : GlobD C "_escape_attrib_c14n" (.ref f69)
  g71 : GlobD C "_law_write" (.ref f71)
  g72 : GlobD C "_law_spelled" (.ref f72)
  g73 : GlobD C "_law_symbols" (.ref f73)
  g74 : GlobD C "_law_program" (.ref f74)
  g75 : GlobD C "_law_run" (.ref f75)
  g76 : GlobD C "_law_numbers" (.ref f76)
  g77 : GlobD C "_law_holds" (.ref f77)
  grange : GlobD C "range" (.val (.type "range"))
  gmin : GlobD C "min" (.val (.builtin "min"))
  gsum : GlobD C "sum" (.val (.builtin "sum"))
  glist : GlobD C "list" (.val (.type "list"))
  gzip : GlobD C "zip" (.val (.type "zip"))
  gisi : GlobD C "isinstance" (.val (.builtin "isinstance"))
  gbool : GlobD C "bool" (.val (.type "bool"))
section
variable {C : Cx} (G : LG C)
theorem LG.c60 (x : Int) : Cal C 40 (.ref G.f60) [.int x] (.bool (decide (x < 256))) := (cal_term G.F60 G.P.lim G.gNT).mono (by decide)
theorem LG.c61 (x : Int) : Cal C 40 (.ref G.f61) [.int x] (.bool (decide (256 ≤ x))) := (cal_nonterm G.F61 G.P.lim G.gNT).mono (by decide)
theorem LG.c62 (x : Int) : Cal C 40 (.ref G.f62) [.int x] (.bool (x == 0)) := (cal_eof G.F62 G.P.lim G.gEM).mono (by decide)
theorem LG.write2 (hand : Int) {l : List Nat} (hl : l.length ≤ 100000) : Cal C 2 (.ref G.f71) [.int hand, .str (txt l)] (.str (txt (wr hand l))) :=
  cal_write G.F71 G.F65 G.F66 G.F67 G.F68 G.F69 G.P.lim G.g65 G.g66 G.g67 G.g68 G.g69 hl
theorem LG.write (hand : Int) {l : List Nat} (hl : l.length ≤ 100000) : Cal C 40 (.ref G.f71) [.int hand, .str (txt l)] (.str (txt (wr hand l))) := (G.write2 hand hl).mono (by decide)
theorem LG.spelled {hand : Int} {l : List Nat} (h0 : 0 ≤ hand) (h4 : hand ≤ 4) (hz : l.length ≤ 5000) : Cal C 40 (.ref G.f72) [.int hand, .str (txt l)] (.str (txt (wr hand l))) := (cal_spelled G.F72 G.P.lim G.gzip G.hG h0 h4 hz).mono (by decide)
theorem LG.symbols (hand : Int) {l : List Nat} (hz : l.length ≤ 800) : Cal C 40 (.ref G.f73) [.str (txt (wr hand l))] (.list ((tokA G.ex l ++ [0]).map .int)) := by
  refine e2a7 (pieces hand l :) fun head pcs h1 h2 h3 h4 h5 h6 h7 => ?_
  have hw := wr_len hand l
  have h := cal_symbols G.F73 G.P.lim G.P.glen G.gEX G.hG h1 h2 (by lia) (by lia) (fun p hp => by have := h5 p hp; lia) (by rw [← h3]; lia) (joinOk_of _ (by lia))
  rw [← h3] at h
  exact h.mono (by decide)
theorem LG.program {syms : List Int} {res : List (List Int)} (hr : progL [] syms = some res) (hz : syms.length ≤ 100000) : Cal C 40 (.ref G.f74) [.list (syms.map .int)] (.list (res.map rowD)) :=
  (cal_program G.F74 G.P.lim G.g60 G.g61 G.g62 hr G.F60.fnObj G.F61.fnObj G.F62.fnObj hz (fun x => (cal_term G.F60 G.P.lim G.gNT).mono (by decide)) (fun x => (cal_nonterm G.F61 G.P.lim G.gNT).mono (by decide)) (fun x => (cal_eof G.F62 G.P.lim G.gEM).mono (by decide))).mono (by decide)
theorem LG.run {prog : List (List Int)} {starts : List Nat} {steps : Nat} {fg : Fg} (hand : Int) (GP : GoodP prog) (F : GoodF fg) (hl : starts.length = 2) (hb : ∀ k ∈ starts, k ≤ 3) (hs : steps ≤ 100) :
    Cal C 40 (.ref G.f75) [.list (prog.map rowD), .list (starts.map fun k : Nat => .int k), .int steps, .int hand, fgD fg] (.list ((runL prog fg (steps + 1) 0 0 starts).map rowD)) :=
  (cal_run G.F75 G.P.lim G.grange G.g62 G.g71 GP F G.T G.gEX G.P.glen G.F62.fnObj (fun x => (cal_eof G.F62 G.P.lim G.gEM).mono (by decide)) G.F71.fnObj (fun hand l hl => G.write2 hand hl) hl hb hs).mono (by decide)
theorem LG.digits {ds : List Int} {w : Nat} (hw : w ≤ 1000) (hl : ds.length ≤ 20) (hd : ∀ d ∈ ds, d.natAbs < 2 ^ 10) : Cal C 36 (.ref G.P.f5) [.list (ds.map .int), .int w] (.int (valL w ds)) :=
  (cal_digits2int G.P.F5 G.P.lim G.P.M5 G.P.h5 G.P.n5 G.P.glen (B := 10) (by have h := Nat.mul_le_mul (show w + 1 ≤ 1001 by lia) hl; lia) (by lia) hd).mono (by lia)
theorem LG.numbers {rows : List (List Int)} {w B : Nat} (hw : w ≤ 1000) (hB : B < 1000) (hr : ∀ r ∈ rows, RowOk B r) (hz : rows.length ≤ 20) : Cal C 40 (.ref G.f76) [.list (rows.map rowD), .int w] (.list ((numbersL w rows).map .int)) := by
  refine (cal_numbers (m := 36) G.F76 G.P.lim G.grange G.P.F5.fnObj G.P.g5 (fun r hm => ?_) (by lia) (fun ds hl hd => G.digits hw (by lia) fun d hdm => ?_)).mono (by decide)
  · have := (hr r hm).1
    lia
  · rcases hd d hdm with rfl | rfl | ⟨r, hm, h⟩
    · decide
    · decide
    · refine e0a4 (hr r hm :) fun _ _ h1 h2 => ?_
      have e : (2 : Nat) ^ 10 = 1024 := rfl
      rw [e]
      rcases h with rfl | rfl
      · lia
      · lia
theorem LG.back {x : Int} {w : Nat} (hx : 0 ≤ x) (hw : 1 ≤ w) (hw2 : w ≤ 1000) (hk : many w x ≤ 20) : Cal C 40 (.ref G.P.f4) [.int x, .int w] (.list ((digs w (many w x) x).map .int)) :=
  (cal_int2digits (k := many w x) G.P.F4 G.P.lim G.P.M4 G.P.h4 G.P.n4 G.P.glen hx (by exact hw) rfl (by have h := Nat.mul_le_mul hw2 hk; lia) (by lia) (by lia)).mono (by lia)
end
end
section
open PySem PySem.Calls PySem.W PySem.Builtin PySem.Builtin.Int
section
variable {C : Cx} (G : LG C) {n : Nat} {env : Env}
noncomputable abbrev rhoW (ns : List Int) (cells place drawn row text hand heavy starts steps page program symbol told width unit rows forged numbers number moved changed : Option D) : Rho :=
  ("script", .loc, some (.list (ns.map .int))) :: ("cells", .loc, cells) :: ("place", .loc, place) :: ("drawn", .loc, drawn) :: ("row", .loc, row) :: ("text", .loc, text) :: ("hand", .loc, hand) :: ("heavy", .loc, heavy) :: ("starts", .cel, starts) :: ("steps", .cel, steps) :: ("page", .loc, page) :: ("program", .loc, program) :: ("symbol", .loc, symbol) :: ("told", .loc, told) :: ("width", .cel, width) :: ("unit", .loc, unit) :: ("rows", .cel, rows) :: ("forged", .loc, forged) :: ("numbers", .cel, numbers) :: ("number", .loc, number) :: ("moved", .loc, moved) :: ("changed", .loc, changed) ::
    [("range", .glo, some (.val (.type "range"))), ("min", .glo, some (.val (.builtin "min"))), ("len", .glo, some (.val (.builtin "len"))), ("_law_write", .glo, some (.ref G.f71)), ("_law_spelled", .glo, some (.ref G.f72)), ("_law_program", .glo, some (.ref G.f74)), ("_law_symbols", .glo, some (.ref G.f73)), ("ISTERMINAL", .glo, some (.ref G.f60)), ("ISNONTERMINAL", .glo, some (.ref G.f61)), ("ISEOF", .glo, some (.ref G.f62)), ("_law_run", .glo, some (.ref G.f75)), ("_law_numbers", .glo, some (.ref G.f76)), ("sum", .glo, some (.val (.builtin "sum"))), ("_int2digits", .glo, some (.ref G.P.f4)), ("list", .glo, some (.val (.type "list"))), ("_law_holds", .glo, some (.ref G.f77))]
noncomputable def CellsOk8 (cs : List Int) : Prop := cs.length = 8 ∧ ∀ x ∈ cs, 0 ≤ x ∧ x ≤ 100000000
theorem CellsOk8.get {cs : List Int} (h : CellsOk8 cs) {k : Nat} (hk : k < 8) : 0 ≤ at0 cs k ∧ at0 cs k ≤ 100000000 := h.2 _ (at0_mem (by rw [h.1]; exact hk))
set_option maxHeartbeats 400000 in
theorem vc_cells {ns : List Int} (hns : ns.length ≤ 63) (cc : Addr) {K : Out → Prop} (h : ∀ cs x, CellsOk8 cs → Ex C n env (rhoW G ns (some (.list (cs.map .int))) x none none none none none none none none none none none none none none none none none none none) [] ((bodyAt 78).drop 2) K) :
    Ex C n env (rhoW G ns (some (.ref cc)) none none none none none none none none none none none none none none none none none none none none) [(cc, [54, 1, 12, 6, 4, 3, 74, 2520].map D.int)] ((bodyAt 78).drop 1) K := by
  refine Ex_cons ?_
  have hk : ∀ k : Int, k = (if (ns.length : Int) < 60 then (ns.length : Int) else 60) → 0 ≤ k ∧ k ≤ 60 ∧ k ≤ ns.length := fun k hk => by rw [hk]; split <;> lia
  refine e1a1 ((show ∃ k : Int, k = (if (ns.length : Int) < 60 then (ns.length : Int) else 60) from ⟨_, rfl⟩) :) fun k hke => ?_
  refine e0a3 (hk k hke :) fun k0 k60 kl => ?_
  refine Es_for (EvI_range (k := k) (by walk_at "at") ?_ rfl k0 (by lia)) (fun i ρ own => ∃ (cs : List Int) (x : Option D), cs.length = 8 ∧ (∀ x ∈ cs, 0 ≤ x ∧ x ≤ 2520 + 1000000 * (i : Int)) ∧ own = [(cc, cs.map D.int)] ∧
      ρ = rhoW G ns (some (.ref cc)) x none none none none none none none none none none none none none none none none none none none) ?_ ?_ ?_
  · rw [hke]
    refine Ev_callB (id := "min") (ds := [.int 60, .int ns.length]) (by walk_at "at") (.cons Ev_int (.cons ?_ .nil rfl) rfl) cal_min
    have e : D.int (ns.length : Int) = .int ((ns.map D.int).length : Nat) := by rw [List.length_map]
    rw [e]
    exact Ev_callB (id := "len") (ds := [.list (ns.map .int)]) (by walk_at "at") (.cons (by walk_at "v") .nil rfl) (cal_len_list (by rw [List.length_map]; lia))
  · exact ⟨[54, 1, 12, 6, 4, 3, 74, 2520], none, rfl, by decide, rfl, rfl⟩
  · intro i ρ own d hd w1q; refine e2a4 (w1q :) fun cs x hl hb r3q r4q => ?_; clear w1q; subst r3q; subst r4q
    have hi : i < k.toNat := by
      have := (List.getElem?_eq_some_iff.mp hd).1
      unfold rngD at this
      simpa using this
    have hd' : d = .int (i : Int) := by
      unfold rngD at hd
      rw [List.getElem?_map, List.getElem?_range hi] at hd
      exact (Option.some.inj hd).symm
    subst hd'
    refine ⟨rhoW G ns (some (.ref cc)) (some (.int i)) none none none none none none none none none none none none none none none none none none none, .name (by walk_at "up"), ?_⟩
    have hj : (i : Int).fmod 8 = ((i % 8 : Nat) : Int) := by rw [fmod_pos _ (by decide)]; exact rfl
    have hj8 : i % 8 < 8 := Nat.mod_lt _ (by decide)
    have hin : i < ns.length := by lia
    have hjn : ((i : Int).fmod 8).toNat = i % 8 := by rw [hj]; exact rfl
    have hget : (cs.map D.int)[((i : Int).fmod 8).toNat]? = some (.int (at0 cs (i % 8))) := by rw [hjn, List.getElem?_map, at0_get (by rw [hl]; exact hj8)]; rfl
    have hv : ∀ v : Int, v = at0 cs (i % 8) + (at0 ns i).fmod (10 ^ (6 : Int).toNat) → 0 ≤ v ∧ v ≤ 2520 + 1000000 * ((i + 1 : Nat) : Int) := fun v hv => by
      have hc := hb _ (at0_mem (nb := cs) (k := i % 8) (by rw [hl]; exact hj8))
      have e6 : (10 : Int) ^ (6 : Int).toNat = 1000000 := rfl
      have h0 := Int.emod_nonneg (at0 ns i) (show (1000000 : Int) ≠ 0 by decide)
      have h1 := Int.emod_lt_of_pos (at0 ns i) (show (0 : Int) < 1000000 by decide)
      rw [e6, fmod_pos _ (by decide)] at hv
      lia
    refine Ex_cons ?_
    refine Es_setitem (EvW_pure (d := .int (at0 cs (i % 8) + (at0 ns i).fmod (10 ^ (6 : Int).toNat))) ?_ ⟨cc, (i : Int).fmod 8, cs.map .int, [(cc, (cs.set (i % 8) (at0 cs (i % 8) + (at0 ns i).fmod (10 ^ (6 : Int).toNat))).map .int)], by walk_at "v", ?_, by rw [hj]; exact Int.natCast_nonneg (i % 8), by rw [hj, List.length_map, hl]; exact Int.ofNat_lt.mpr hj8, by rw [hj]; exact Int.lt_trans (Int.ofNat_lt.mpr hj8) (by decide), ?_, ?_⟩)
    · refine Ev_bin (d1 := .int (at0 cs (i % 8))) (d2 := .int ((at0 ns i).fmod (10 ^ (6 : Int).toNat))) (Ev_subO (a := cc) (k := (i : Int).fmod 8) (by walk_at "v") ?_ .head (by rw [hj]; exact Int.natCast_nonneg (i % 8)) (by rw [hj]; exact Int.lt_trans (Int.ofNat_lt.mpr hj8) (by decide)) hget (fun _ _ => rfl)) ?_ op_add
      · exact Ev_bin (d1 := .int i) (d2 := .int 8) (by walk_at "v") Ev_int (op_mod (by decide))
      · refine Ev_bin (d1 := .int (at0 ns i)) (d2 := .int (10 ^ (6 : Int).toNat)) (Ev_sub (d1 := .list (ns.map .int)) (d2 := .int i) (by walk_at "v") (by walk_at "v") (it_list (by exact Int.natCast_nonneg i) (Int.lt_of_lt_of_le (Int.ofNat_lt.mpr hin) (Int.le_trans (Int.ofNat_le.mpr hns) (by decide))) ?_) (fun _ _ => rfl)) (Ev_bin (d1 := .int 10) (d2 := .int 6) Ev_int Ev_int (op_pow (by decide) (by decide) (by decide))) (op_mod (by decide))
        have e : ((i : Int)).toNat = i := by exact rfl
        rw [e, List.getElem?_map, at0_get hin]; rfl
    · exact Ev_bin (d1 := .int i) (d2 := .int 8) (by walk_at "v") Ev_int (op_mod (by decide))
    · rw [hjn, List.map_set]; exact .head
    · refine Ex_nil ⟨_, _, by rw [List.length_set, hl], fun y hy => ?_, rfl, rfl⟩
      rcases List.mem_or_eq_of_mem_set hy with q | q
      · have := hb y q
        lia
      · exact hv y q
  · intro ρ own w2q; refine e2a4 (w2q :) fun cs x hl hb r5q r6q => ?_; clear w2q; subst r5q; subst r6q
    have hrl : (rngD k).length = k.toNat := by unfold rngD; simp
    rw [hrl] at hb
    have hb' : ∀ y ∈ cs, 0 ≤ y ∧ y ≤ 100000000 := fun y hy => by have := hb y hy; lia
    have := h cs x ⟨hl, hb'⟩
    refine Ex_freeze .head (.skip (.cons .here .same nofun)) .same ?_
    exact this
end
end
section
open PySem PySem.Calls PySem.W PySem.Builtin PySem.Builtin.Int PySem.Builtin.Str
noncomputable def drawRow (x : Int) : List Int := if (x.fdiv 2).fmod 2 = 0 then [x.fmod 2, 0, (x.fdiv 4).fmod 4] else [x.fmod 2, 1, (x.fdiv 4).fmod 4, (x.fdiv 16).fmod 4]
theorem fm_lt (x : Int) {k : Int} (hk : 0 < k) : 0 ≤ x.fmod k ∧ x.fmod k < k := by
  rw [fmod_pos _ hk]
  exact ⟨Int.emod_nonneg _ (Int.ne_of_gt hk), Int.emod_lt_of_pos _ hk⟩
theorem drawRow_ok (x : Int) : DR (drawRow x) := by
  have h1 := fm_lt x (show (0 : Int) < 2 by decide)
  have h2 := fm_lt (x.fdiv 4) (show (0 : Int) < 4 by decide)
  have h3 := fm_lt (x.fdiv 16) (show (0 : Int) < 4 by decide)
  refine ⟨(x.fmod 2).toNat, ((x.fdiv 4).fmod 4).toNat, ((x.fdiv 16).fmod 4).toNat, Nat.le_of_lt_succ (lt_toNat h1), Nat.le_of_lt_succ (lt_toNat h2), Nat.le_of_lt_succ (lt_toNat h3), ?_⟩
  unfold drawRow
  have e1 : (((x.fmod 2).toNat : Nat) : Int) = x.fmod 2 := nn_toNat h1
  have e2 : ((((x.fdiv 4).fmod 4).toNat : Nat) : Int) = (x.fdiv 4).fmod 4 := nn_toNat h2
  have e3 : ((((x.fdiv 16).fmod 4).toNat : Nat) : Int) = (x.fdiv 16).fmod 4 := nn_toNat h3
  rw [e1, e2, e3]
  split
  · exact .inl rfl
  · exact .inr rfl
theorem join_is (z : List Nat) (ps : List (List Nat)) : Txt.join (txt z) (ps.map txt) = txt (joinL z ps) := by
  show glued (txt z) _ = _
  rw [StrLaws.glued_eq_join, ← txt_of (Str.join _ _), join_txt]
  congr 1
  have e : ∀ ps : List (List Nat), (ps.map txt).map (fun p : Str => p.cps.toList) = ps := by
    intro ps
    induction ps with
    | nil => rfl
    | cons p r ih => simp only [List.map_cons]; rw [txt_list, ih]
  rw [e]
theorem joinOk_sep (z : List Nat) : ∀ (ps : List (List Nat)), (ps.map List.length).sum + ps.length * z.length ≤ 1000000 → JoinOk (txt z) (ps.map txt) = true := by
  intro ps h
  unfold JoinOk
  have key : ∀ (ps : List (List Nat)) (k : Nat), ((ps.map txt).toArray.foldl (fun a b => a + b.length + (txt z).length) k) = k + (ps.map List.length).sum + ps.length * z.length := by
    intro ps
    induction ps with
    | nil => intro k; simp
    | cons p r ih =>
      intro k
      have := ih (k + p.length + z.length)
      simp only [List.map_cons, List.sum_cons, List.foldl_toArray', List.foldl_cons, txt_len, List.length_cons, Nat.add_mul, Nat.one_mul] at this ⊢
      lia
  have := key ps 0
  rw [Nat.zero_add] at this
  rw [this]
  unfold tooLong
  simp only [Bool.not_eq_true', decide_eq_false_iff_not]
  unfold sizeLine
  lia
theorem flat_single {α : Type} (f : α → Nat) : ∀ l : List α, (l.map fun a => [f a]).flatten = l.map f
  | [] => rfl
  | a :: r => by simp [flat_single f r]
section
variable {C : Cx} (G : LG C) {n : Nat} {env : Env}
theorem drop_rows (cs : List Int) (h : cs.length = 8) : cs.take 3 = [at0 cs 0, at0 cs 1, at0 cs 2] := by
  exact e8a1 (len8 h) fun a b c d e f g h q => by rw [q]; rfl
noncomputable def rowsOf (cs : List Int) : List (List Int) := [drawRow (at0 cs 0), drawRow (at0 cs 1), drawRow (at0 cs 2)]
set_option maxHeartbeats 400000 in
theorem vc_drawn {ns cs : List Int} {x : Option D} (hc : CellsOk8 cs) {K : Out → Prop} (h : Ex C n env (rhoW G ns (some (.list (cs.map .int))) x (some (.list ((rowsOf cs).map rowD))) none none none none none none none none none none none none none none none none none none) [] ((bodyAt 78).drop 3) K) :
    Ex C n env (rhoW G ns (some (.list (cs.map .int))) x none none none none none none none none none none none none none none none none none none none) [] ((bodyAt 78).drop 2) K := by
  refine Ex_cons ?_
  apply Es_setComp (ds := (cs.take 3).map D.int) (fs := (rowsOf cs).map rowD) [("cell", .loc, none)] (frozen := true)
  case hi =>
    have hl8 : (cs.map D.int).length = 8 := by rw [List.length_map, hc.1]
    have e : (cs.take 3).map D.int = ((cs.map D.int).drop (W.kms_lo none (cs.map D.int).length)).take (W.kms_hi (some 3) (cs.map D.int).length - W.kms_lo none (cs.map D.int).length) := by
      rw [hl8]
      have e1 : W.kms_lo none 8 = 0 := rfl
      have e2 : W.kms_hi (some 3) 8 = 3 := rfl
      rw [e1, e2]
      simp
    rw [e]
    exact EvI_list (Ev_sliceL (by walk_at "v") .none (.some Ev_int) (by rw [hl8]; decide))
  case H => walk_at "comps"
  case hc =>
    intro L cells
    have e : (rowsOf cs).map rowD = (cs.take 3).map fun x => rowD (drawRow x) := by rw [drop_rows cs hc.1]; rfl
    rw [e]
    refine CompR_map D.int (fun x => rowD (drawRow x)) (cs.take 3) fun x hx => ?_
    refine ⟨_, .name (by walk_at "up"), .lose .nil, .nil, ?_⟩
    have hb := fm_lt (x.fdiv 2) (show (0 : Int) < 2 by decide)
    have e2 : rowD (drawRow x) = .list ((([.int (x.fmod 2), .int ((x.fdiv 2).fmod 2), .int ((x.fdiv 4).fmod 4), .int ((x.fdiv 16).fmod 4)] : List D).drop (W.kms_lo none 4)).take (W.kms_hi (some (3 + (x.fdiv 2).fmod 2)) 4 - W.kms_lo none 4)) := by
      unfold drawRow
      rcases (by lia : (x.fdiv 2).fmod 2 = 0 ∨ (x.fdiv 2).fmod 2 = 1) with q | q
      · rw [if_pos q, q]; rfl
      · rw [if_neg (by lia), q]; rfl
    rw [e2]
    have dv : ∀ k : Int, k = 2 ∨ k = 4 ∨ k = 16 → k ≠ 0 ∧ divisionGoesByPylong x k = false := fun k hk => ⟨by lia, pylong_small (by rcases hk with rfl | rfl | rfl <;> decide)⟩
    refine Ev_sliceL (ds := [.int (x.fmod 2), .int ((x.fdiv 2).fmod 2), .int ((x.fdiv 4).fmod 4), .int ((x.fdiv 16).fmod 4)]) (Ev_list (.cons ?_ (.cons ?_ (.cons ?_ (.cons ?_ .nil rfl) rfl) rfl) rfl)) .none (.some ?_) (by show 4 ≤ sizeLine; decide)
    · exact Ev_bin (d1 := .int x) (d2 := .int 2) (by walk_at "v") Ev_int (op_mod (by decide))
    · exact Ev_bin (d1 := .int (x.fdiv 2)) (d2 := .int 2) (Ev_bin (d1 := .int x) (d2 := .int 2) (by walk_at "v") Ev_int (op_div (dv 2 (.inl rfl)).1 (dv 2 (.inl rfl)).2)) Ev_int (op_mod (by decide))
    · exact Ev_bin (d1 := .int (x.fdiv 4)) (d2 := .int 4) (Ev_bin (d1 := .int x) (d2 := .int 4) (by walk_at "v") Ev_int (op_div (dv 4 (.inr (.inl rfl))).1 (dv 4 (.inr (.inl rfl))).2)) Ev_int (op_mod (by decide))
    · exact Ev_bin (d1 := .int (x.fdiv 16)) (d2 := .int 4) (Ev_bin (d1 := .int x) (d2 := .int 16) (by walk_at "v") Ev_int (op_div (dv 16 (.inr (.inr rfl))).1 (dv 16 (.inr (.inr rfl))).2)) Ev_int (op_mod (by decide))
    · exact Ev_bin (d1 := .int 3) (d2 := .int ((x.fdiv 2).fmod 2)) Ev_int (Ev_bin (d1 := .int (x.fdiv 2)) (d2 := .int 2) (Ev_bin (d1 := .int x) (d2 := .int 2) (by walk_at "v") Ev_int (op_div (dv 2 (.inl rfl)).1 (dv 2 (.inl rfl)).2)) Ev_int (op_mod (by decide))) op_add
  case hu => walk_at "up"
  case hloc => exact LocIn.ex (by repeat (first | exact .head | apply LocIn.tail))
  case hst => rfl
  case hz => rw [List.length_map]; show 3 ≤ sizeLine; decide
  exact h
set_option maxHeartbeats 400000 in
theorem vc_text {ns cs : List Int} {x : Option D} (hc : CellsOk8 cs) {K : Out → Prop} (h : Ex C n env (rhoW G ns (some (.list (cs.map .int))) x (some (.list ((rowsOf cs).map rowD))) none (some (.str (txt (pageT (rowsOf cs))))) none none none none none none none none none none none none none none none none) [] ((bodyAt 78).drop 4) K) :
    Ex C n env (rhoW G ns (some (.list (cs.map .int))) x (some (.list ((rowsOf cs).map rowD))) none none none none none none none none none none none none none none none none none none) [] ((bodyAt 78).drop 3) K := by
  have dr : ∀ r ∈ rowsOf cs, DR r := fun r hr => by
    simp only [rowsOf, List.mem_cons, List.not_mem_nil, or_false] at hr
    rcases hr with rfl | rfl | rfl <;> exact drawRow_ok _
  have hlen := page_len (drawRow_ok (at0 cs 0)) (drawRow_ok (at0 cs 1)) (drawRow_ok (at0 cs 2))
  refine Ex_cons ?_
  apply Es_set (d := .str (txt (pageT (rowsOf cs))))
  case he =>
    have e : txt (pageT (rowsOf cs)) = txt [34, 9, 10, 13] ++ Txt.join (txt [38]) (((rowsOf cs).map wordL).map txt) := by rw [join_is, txt_app]; rfl
    have hj : (joinL [38] ((rowsOf cs).map wordL)).length ≤ 30 := by
      have e2 : (pageT (rowsOf cs)).length = 4 + (joinL [38] ((rowsOf cs).map wordL)).length := by unfold pageT; rw [List.length_append]; rfl
      have : (pageT (rowsOf cs)).length ≤ 30 := hlen
      lia
    rw [e]
    refine Ev_bin (d1 := .str (txt [34, 9, 10, 13])) (d2 := .str (Txt.join (txt [38]) (((rowsOf cs).map wordL).map txt))) Ev_str (Ev_join (x := txt [38]) Ev_str (.cons ?_ .nil rfl) (joinOk_sep _ _ ?_) rfl rfl) (op_addS ?_)
    · have e1 : (((rowsOf cs).map wordL).map txt).map D.str = (rowsOf cs).map fun r => D.str (txt (wordL r)) := by simp [Function.comp_def]
      rw [e1]
      refine Ev_new (EvN_comp (frozen := true) (ds := (rowsOf cs).map rowD) [("row", .loc, none)] (EvI_list (by walk_at "v")) (by walk_at "comps") (fun L2 cells2 => ?_) (by rw [List.length_map]; show 3 ≤ sizeLine; decide))
      refine CompR_map rowD (fun r => D.str (txt (wordL r))) (rowsOf cs) fun r hr => ?_
      refine ⟨_, .name (by walk_at "up"), .lose .nil, .nil, ?_⟩
      have hd := dr r hr
      have gr := hd.good
      have hl3 : 3 ≤ r.length ∧ r.length ≤ 4 := by rcases gr.len with q | q <;> lia
      have hr0 : 0 ≤ at0 r 0 ∧ at0 r 0 ≤ 1 := gr.r0
      have hr1 : at0 r 1 = 0 ∨ at0 r 1 = 1 := by
        refine e3a4 (hd :) fun a g g' ha hg hg' w6q => ?_; rcases w6q with rfl | rfl
        · exact .inl rfl
        · exact .inr rfl
      have hg : ∀ g ∈ r.drop 2, 0 ≤ g ∧ g ≤ 3 := fun g hgm => by
        obtain ⟨i, hi, rfl⟩ := List.getElem_of_mem hgm
        have := gr.goals (2 + i) (by lia) (by rw [List.length_drop] at hi; lia)
        rw [List.getElem_drop]
        unfold at0 at this
        rw [List.getD_eq_getElem?_getD, List.getElem?_eq_getElem (by rw [List.length_drop] at hi; lia)] at this
        exact this
      have hget : ∀ k : Nat, k < 3 → (r.map D.int)[((k : Int)).toNat]? = some (.int (at0 r k)) := fun k hk => by
        have e : ((k : Int)).toNat = k := by exact rfl
        rw [e, List.getElem?_map, at0_get (by lia)]; rfl
      have ew : txt (wordL r) = txt [60 + 2 * (at0 r 0).toNat] ++ txt [43 + 2 * (at0 r 1).toNat, 61] ++ Txt.join (txt []) (((r.drop 2).map fun g => [97 + g.toNat]).map txt) := by
        rw [join_nil, flat_single, txt_app, txt_app]; rfl
      rw [ew]
      have hjl : (Txt.join (txt []) (((r.drop 2).map fun g => [97 + g.toNat]).map txt)).length ≤ 2 := by
        rw [join_nil, flat_single, txt_len, List.length_map, List.length_drop]; lia
      refine Ev_bin (d1 := .str (txt [60 + 2 * (at0 r 0).toNat] ++ txt [43 + 2 * (at0 r 1).toNat, 61])) (d2 := .str (Txt.join (txt []) (((r.drop 2).map fun g => [97 + g.toNat]).map txt))) (Ev_bin (d1 := .str (txt [60 + 2 * (at0 r 0).toNat])) (d2 := .str (txt [43 + 2 * (at0 r 1).toNat, 61])) ?_ ?_ (op_addS ?_)) (Ev_join (x := txt []) Ev_str (.cons ?_ .nil rfl) (joinOk_of _ ?_) rfl rfl) (op_addS ?_)
      · refine Ev_sub (d1 := .str (txt [60, 62])) (d2 := .int (at0 r 0)) Ev_str (Ev_sub (d1 := rowD r) (d2 := .int 0) (by walk_at "v") Ev_int (it_list (by decide) (by decide) (hget 0 (by decide))) (fun _ _ => rfl)) (it_str (by lia) (by lia) ?_) (fun _ _ => rfl)
        rcases (by lia : at0 r 0 = 0 ∨ at0 r 0 = 1) with q | q <;> rw [q] <;> rfl
      · refine Ev_sub (d1 := .list [.str (txt [43, 61]), .str (txt [45, 61])]) (d2 := .int (at0 r 1)) (Ev_list (.cons Ev_str (.cons Ev_str .nil rfl) rfl)) (Ev_sub (d1 := rowD r) (d2 := .int 1) (by walk_at "v") Ev_int (it_list (by decide) (by decide) (hget 1 (by decide))) (fun _ _ => rfl)) (it_list (by lia) (by lia) ?_) (fun _ _ => rfl)
        rcases hr1 with q | q <;> rw [q] <;> rfl
      · rw [txt_len, txt_len]; show 1 + 2 ≤ sizeLine; decide
      · have e1 : (((r.drop 2).map fun g => [97 + g.toNat]).map txt).map D.str = (r.drop 2).map fun g => D.str (txt [97 + g.toNat]) := by simp [Function.comp_def]
        rw [e1]
        refine Ev_new (EvN_comp (frozen := true) (ds := (r.drop 2).map D.int) [("goal", .loc, none)] ?_ (by walk_at "comps") (fun L3 cells3 => ?_) (by rw [List.length_map, List.length_drop]; unfold sizeLine; lia))
        · have e2 : (r.drop 2).map D.int = ((r.map D.int).drop (W.kms_lo (some 2) (r.map D.int).length)).take (W.kms_hi none (r.map D.int).length - W.kms_lo (some 2) (r.map D.int).length) := by
            rw [List.length_map]
            rcases (by lia : r.length = 3 ∨ r.length = 4) with q | q
            · rw [q]
              have e1 : W.kms_lo (some 2) 3 = 2 := rfl
              have e2 : W.kms_hi none 3 = 3 := rfl
              rw [e1, e2, ← List.map_drop, List.take_of_length_le (by rw [List.length_map, List.length_drop]; lia)]
            · rw [q]
              have e1 : W.kms_lo (some 2) 4 = 2 := rfl
              have e2 : W.kms_hi none 4 = 4 := rfl
              rw [e1, e2, ← List.map_drop, List.take_of_length_le (by rw [List.length_map, List.length_drop]; lia)]
          rw [e2]
          exact EvI_list (Ev_sliceL (Ev_name (d := rowD r) (by walk_at "at")) (.some Ev_int) .none (by rw [List.length_map]; unfold sizeLine; lia))
        · refine CompR_map D.int (fun g => D.str (txt [97 + g.toNat])) (r.drop 2) fun g hgm => ?_
          have hg3 := hg g hgm
          refine ⟨_, .name (by walk_at "up"), .lose .nil, .nil, ?_⟩
          refine Ev_sub (d1 := .str (txt [97, 98, 99, 100])) (d2 := .int g) Ev_str (by walk_at "v") (it_str (by lia) (by lia) ?_) (fun _ _ => rfl)
          rcases (by lia : g = 0 ∨ g = 1 ∨ g = 2 ∨ g = 3) with rfl | rfl | rfl | rfl <;> rfl
      · rw [List.map_map]
        have := sum_le_mul ((r.drop 2).map fun g => [97 + g.toNat]) 1 (fun x hx => by refine e1a2 (List.mem_map.mp hx :) fun g _ r2q => ?_; subst r2q; exact Nat.le_refl 1)
        rw [List.map_map, List.length_map, List.length_drop] at this
        lia
      · rw [txt_app, txt_len]
        show 3 + _ ≤ sizeLine
        unfold sizeLine; lia
    · have w1 := word_len (drawRow_ok (at0 cs 0))
      have w2 := word_len (drawRow_ok (at0 cs 1))
      have w3 := word_len (drawRow_ok (at0 cs 2))
      show (wordL (drawRow (at0 cs 0))).length + ((wordL (drawRow (at0 cs 1))).length + ((wordL (drawRow (at0 cs 2))).length + 0)) + 3 * 1 ≤ 1000000
      lia
    · rw [join_is, txt_len, txt_len]
      show 4 + _ ≤ sizeLine
      unfold sizeLine; lia
  case hu => walk_at "up"
  exact h
end
end
section
open PySem PySem.Calls PySem.W PySem.Builtin PySem.Builtin.Int PySem.Builtin.Str
theorem toPys_ints : ∀ l : List Int, toPys (l.map D.int) = l.map PyData.int
  | [] => rfl
  | a :: r => by show PyData.int a :: toPys (r.map D.int) = _; rw [toPys_ints r]; rfl
theorem toPy_row (r : List Int) : toPy (rowD r) = .list (r.map PyData.int) := by show PyData.list (toPys (r.map D.int)) = _; rw [toPys_ints]
theorem toPys_rows : ∀ l : List (List Int), toPys (l.map rowD) = l.map fun r => PyData.list (r.map PyData.int)
  | [] => rfl
  | a :: r => by show toPy (rowD a) :: toPys (r.map rowD) = _; rw [toPys_rows r, toPy_row]; rfl
theorem eqv_ints : ∀ a b : List Int, PyData.eqvAll (a.map PyData.int) (b.map PyData.int) = decide (a = b)
  | [], [] => by simp [PyData.eqvAll]
  | [], _ :: _ => by simp [PyData.eqvAll]
  | _ :: _, [] => by simp [PyData.eqvAll]
  | x :: a, y :: b => by
    have := eqv_ints a b
    simp only [List.map_cons, PyData.eqvAll, PyData.eqv, this]
    by_cases h : x = y <;> by_cases g : a = b <;> simp [h, g]
theorem eqv_rows : ∀ a b : List (List Int), PyData.eqvAll (a.map fun r => PyData.list (r.map PyData.int)) (b.map fun r => PyData.list (r.map PyData.int)) = decide (a = b)
  | [], [] => by simp [PyData.eqvAll]
  | [], _ :: _ => by simp [PyData.eqvAll]
  | _ :: _, [] => by simp [PyData.eqvAll]
  | x :: a, y :: b => by
    have := eqv_rows a b
    simp only [List.map_cons, PyData.eqvAll, PyData.eqv, this, eqv_ints]
    by_cases h : x = y <;> by_cases g : a = b <;> simp [h, g]
theorem plain_ints : ∀ l : List Int, plainDs (l.map D.int) = true
  | [] => rfl
  | a :: r => by show (true && plainDs (r.map D.int)) = true; rw [plain_ints r]; rfl
theorem plain_row (r : List Int) : plainD (rowD r) = true := plain_ints r
theorem plain_rows : ∀ l : List (List Int), plainDs (l.map rowD) = true
  | [] => rfl
  | a :: r => by show (plainD (rowD a) && plainDs (r.map rowD)) = true; rw [plain_rows r, plain_row]; rfl
theorem lay_ints : ∀ l : List Int, PyData.canLayAll0 (l.map PyData.int) = true ∧ PyData.depthAll (l.map PyData.int) = 0
  | [] => ⟨rfl, rfl⟩
  | a :: r => by
    refine e0a2 (lay_ints r :) fun h1 h2 => ?_
    constructor
    · simp only [List.map_cons, PyData.canLayAll0, PyData.canLay0, h1]; rfl
    · simp only [List.map_cons, PyData.depthAll, PyData.depth, h2]; rfl
theorem lay_rows : ∀ l : List (List Int), PyData.canLayAll0 (l.map fun r => PyData.list (r.map PyData.int)) = true ∧ PyData.depthAll (l.map fun r => PyData.list (r.map PyData.int)) ≤ 1
  | [] => ⟨rfl, by simp [PyData.depthAll]⟩
  | a :: r => by
    refine e0a2 (lay_rows r :) fun h1 h2 => ?_
    refine e0a2 (lay_ints a :) fun g1 g2 => ?_
    constructor
    · simp only [List.map_cons, PyData.canLayAll0, PyData.canLay0, h1, g1]; rfl
    · simp only [List.map_cons, PyData.depthAll, PyData.depth, g2]; lia
theorem shaped_row (r : List Int) : SeqAt.shaped (toPy (rowD r)) = true := by
  refine e0a2 (lay_ints r :) fun g1 g2 => ?_
  rw [toPy_row]
  unfold SeqAt.shaped
  simp only [PyData.canLay0, PyData.depth, g1, g2]; rfl
theorem shaped_rows (l : List (List Int)) : SeqAt.shaped (toPy (.list (l.map rowD))) = true := by
  refine e0a2 (lay_rows l :) fun g1 g2 => ?_
  show SeqAt.shaped (.list (toPys (l.map rowD))) = true
  rw [toPys_rows]
  unfold SeqAt.shaped
  simp only [PyData.canLay0, PyData.depth, g1, Bool.true_and]
  exact decide_eq_true (by lia)
section
variable {C : Cx} {n : Nat}
theorem op_neRows {a b : List (List Int)} : Op2 C n (compareOp .NotEq) (.list (a.map rowD)) (.list (b.map rowD)) (.bool (!decide (a = b))) := by
  have := op_neD (C := C) (n := n) (a := .list (a.map rowD)) (b := .list (b.map rowD)) (plain_rows a) (plain_rows b) (shaped_rows a) (shaped_rows b)
  have e : PyData.eqv (toPy (.list (a.map rowD))) (toPy (.list (b.map rowD))) = decide (a = b) := by
    show PyData.eqv (.list (toPys (a.map rowD))) (.list (toPys (b.map rowD))) = _
    rw [toPys_rows, toPys_rows]
    simp only [PyData.eqv, eqv_rows]
  rw [e] at this
  exact this
theorem op_eqRows {a b : List (List Int)} : Op2 C n (compareOp .Eq) (.list (a.map rowD)) (.list (b.map rowD)) (.bool (decide (a = b))) := by
  have := op_eqD (C := C) (n := n) (a := .list (a.map rowD)) (b := .list (b.map rowD)) (plain_rows a) (plain_rows b) (shaped_rows a) (shaped_rows b)
  have e : PyData.eqv (toPy (.list (a.map rowD))) (toPy (.list (b.map rowD))) = decide (a = b) := by
    show PyData.eqv (.list (toPys (a.map rowD))) (.list (toPys (b.map rowD))) = _
    rw [toPys_rows, toPys_rows]
    simp only [PyData.eqv, eqv_rows]
  rw [e] at this
  exact this
theorem eqv_row (a b : List Int) : PyData.eqv (toPy (rowD a)) (toPy (rowD b)) = decide (a = b) := by
  rw [toPy_row, toPy_row]
  simp only [PyData.eqv, eqv_ints]
theorem op_neRow {a b : List Int} : Op2 C n (compareOp .NotEq) (.list (a.map D.int)) (.list (b.map D.int)) (.bool (!decide (a = b))) := by
  have := op_neD (C := C) (n := n) (a := rowD a) (b := rowD b) (plain_row a) (plain_row b) (shaped_row a) (shaped_row b)
  rw [eqv_row] at this
  exact this
theorem op_eqRow {a b : List Int} : Op2 C n (compareOp .Eq) (.list (a.map D.int)) (.list (b.map D.int)) (.bool (decide (a = b))) := by
  have := op_eqD (C := C) (n := n) (a := rowD a) (b := rowD b) (plain_row a) (plain_row b) (shaped_row a) (shaped_row b)
  rw [eqv_row] at this
  exact this
end
noncomputable def handV (cs : List Int) : Int := (at0 cs 4).fmod 5
noncomputable def heavyV (cs : List Int) : Int := (((at0 cs 5).fdiv 8).fmod 16).fdiv 15
noncomputable def startsV (cs : List Int) : List Nat := [((at0 cs 3).fmod 4).toNat, (((at0 cs 3).fdiv 4).fmod 4).toNat]
noncomputable def stepsV (cs : List Int) : Nat := 5 + (((at0 cs 3).fdiv 16).fmod 4).toNat
noncomputable def startsD (cs : List Int) : D := .list ((startsV cs).map fun k : Nat => .int k)
section
variable {C : Cx} (G : LG C) {env : Env}
noncomputable abbrev rhoX (ns cs : List Int) (x : Option D) (row page program symbol told width unit rows forged numbers number moved changed : Option D) : Rho :=
  rhoW G ns (some (.list (cs.map .int))) x (some (.list ((rowsOf cs).map rowD))) row (some (.str (txt (pageT (rowsOf cs))))) (some (.int (handV cs))) (some (.int (heavyV cs))) (some (startsD cs)) (some (.int (stepsV cs))) page program symbol told width unit rows forged numbers number moved changed
theorem ev_cell {n : Nat} {ρ : Rho} {own : Own} {cs : List Int} {i : Nat} {k : Nat} {p1 p2 p3 : Pos} (hc : CellsOk8 cs) (hi : i < 8) (ha : At ρ "cells" (.list (cs.map .int))) : Ev C n env ρ own (.Subscript (.Name "cells" p1) (.Constant (.int (i : Int)) k p2) p3) (.int (at0 cs i)) := by
  have e : ((i : Int)).toNat = i := by exact rfl
  exact Ev_sub (d1 := .list (cs.map .int)) (d2 := .int i) (Ev_name ha) Ev_int (it_list (by exact Int.natCast_nonneg i) (by lia) (by rw [e, List.getElem?_map, at0_get (by rw [hc.1]; exact hi)]; rfl)) (fun _ _ => rfl)
theorem ev_div {n : Nat} {ρ : Rho} {own : Own} {e : Expr} {x k : Int} {j : Nat} {p1 p2 : Pos} (h : Ev C n env ρ own e (.int x)) (hk : 0 < k) (hk2 : k < 2 ^ 60) : Ev C n env ρ own (.BinOp e .FloorDiv (.Constant (.int k) j p1) p2) (.int (x.fdiv k)) :=
  Ev_bin h Ev_int (op_div (Int.ne_of_gt hk) (pylong_small (Nat.le_trans (bits_lt (Int.le_of_lt hk) hk2) (by decide))))
theorem ev_mod {n : Nat} {ρ : Rho} {own : Own} {e : Expr} {x k : Int} {j : Nat} {p1 p2 : Pos} (h : Ev C n env ρ own e (.int x)) (hk : 0 < k) : Ev C n env ρ own (.BinOp e .Mod (.Constant (.int k) j p1) p2) (.int (x.fmod k)) :=
  Ev_bin h Ev_int (op_mod (Int.ne_of_gt hk))
set_option maxHeartbeats 400000 in
theorem vc_four {n : Nat} {ns cs : List Int} {x : Option D} (hc : CellsOk8 cs) {K : Out → Prop} (h : Ex C n env (rhoX G ns cs x none none none none none none none none none none none none none) [] ((bodyAt 78).drop 5) K) :
    Ex C n env (rhoW G ns (some (.list (cs.map .int))) x (some (.list ((rowsOf cs).map rowD))) none (some (.str (txt (pageT (rowsOf cs))))) none none none none none none none none none none none none none none none none) [] ((bodyAt 78).drop 4) K := by
  refine Ex_cons ?_
  apply Es_tupP (ds := [.int (handV cs), .int (heavyV cs), startsD cs, .int (stepsV cs)])
  case he =>
    refine Ev_tuple (.cons ?_ (.cons ?_ (.cons ?_ (.cons ?_ .nil rfl) rfl) rfl) rfl)
    · exact ev_mod (ev_cell (i := 4) hc (by decide) (by walk_at "at")) (by decide)
    · exact ev_div (ev_mod (ev_div (ev_cell (i := 5) hc (by decide) (by walk_at "at")) (by decide) (by decide)) (by decide)) (by decide) (by decide)
    · have h1 := fm_lt (at0 cs 3) (show (0 : Int) < 4 by decide)
      have h2 := fm_lt ((at0 cs 3).fdiv 4) (show (0 : Int) < 4 by decide)
      have e : startsD cs = .list [.int ((at0 cs 3).fmod 4), .int (((at0 cs 3).fdiv 4).fmod 4)] := by
        have e1 : ((((at0 cs 3).fmod 4).toNat : Nat) : Int) = (at0 cs 3).fmod 4 := by lia
        have e2 : (((((at0 cs 3).fdiv 4).fmod 4).toNat : Nat) : Int) = ((at0 cs 3).fdiv 4).fmod 4 := by lia
        show D.list [.int ((((at0 cs 3).fmod 4).toNat : Nat) : Int), .int (((((at0 cs 3).fdiv 4).fmod 4).toNat : Nat) : Int)] = _
        rw [e1, e2]
      rw [e]
      refine Ev_list (.cons ?_ (.cons ?_ .nil rfl) rfl)
      · exact ev_mod (ev_cell (i := 3) hc (by decide) (by walk_at "at")) (by decide)
      · exact ev_mod (ev_div (ev_cell (i := 3) hc (by decide) (by walk_at "at")) (by decide) (by decide)) (by decide)
    · have h3 := fm_lt ((at0 cs 3).fdiv 16) (show (0 : Int) < 4 by decide)
      have e : ((stepsV cs : Nat) : Int) = 5 + ((at0 cs 3).fdiv 16).fmod 4 := by unfold stepsV; lia
      rw [e]
      exact Ev_bin (d1 := .int 5) (d2 := .int (((at0 cs 3).fdiv 16).fmod 4)) Ev_int (ev_mod (ev_div (ev_cell (i := 3) hc (by decide) (by walk_at "at")) (by decide) (by decide)) (by decide)) op_add
  case ha => walk_at "v"
  case hs => rfl
  case hw => rfl
  exact h
theorem hand_ok (cs : List Int) : 0 ≤ handV cs ∧ handV cs ≤ 4 := by
  have := fm_lt (at0 cs 4) (show (0 : Int) < 5 by decide)
  unfold handV; lia
set_option maxHeartbeats 400000 in
theorem vc_page {ns cs : List Int} {x : Option D} (hc : CellsOk8 cs) {K : Out → Prop} (h : Ex C 40 env (rhoX G ns cs x none (some (.str (txt (wr (handV cs) (pageT (rowsOf cs)))))) (some (.list ((rowsOf cs).map rowD))) none none none none none none none none none none) [] ((bodyAt 78).drop 8) K) :
    Ex C 40 env (rhoX G ns cs x none none none none none none none none none none none none none) [] ((bodyAt 78).drop 5) K := by
  have dr := fun i => drawRow_ok (at0 cs i)
  have hlen : (pageT (rowsOf cs)).length ≤ 30 := page_len (dr 0) (dr 1) (dr 2)
  have hread : progL [] (tokA G.ex (pageT (rowsOf cs)) ++ [0]) = some (rowsOf cs) := read_drawn G.X (dr 0) (dr 1) (dr 2)
  have hh := hand_ok cs
  refine Ex_cons ?_
  apply Es_set (d := .str (txt (wr (handV cs) (pageT (rowsOf cs)))))
  case he => exact Ev_callF (f := G.f71) (ds := [.int (handV cs), .str (txt (pageT (rowsOf cs)))]) (by walk_at "at") G.F71.fnObj (by walk_at "v") (G.write (handV cs) (by lia))
  case hu => walk_at "up"
  refine Ex_cons ?_
  apply Es_set (d := .list ((rowsOf cs).map rowD))
  case he =>
    refine Ev_ifexp (b := txt (wr (handV cs) (pageT (rowsOf cs))) == txt (wr (handV cs) (pageT (rowsOf cs)))) (EvT_cmp (d1 := .str (txt (wr (handV cs) (pageT (rowsOf cs))))) (d2 := .str (txt (wr (handV cs) (pageT (rowsOf cs))))) (by walk_at "v") ?_ op_eqS rfl) (fun _ => ?_) fun q => ?_
    · exact Ev_callF (f := G.f72) (ds := [.int (handV cs), .str (txt (pageT (rowsOf cs)))]) (by walk_at "at") G.F72.fnObj (by walk_at "v") (G.spelled hh.1 hh.2 (by lia))
    · refine Ev_callF (f := G.f74) (ds := [.list ((tokA G.ex (pageT (rowsOf cs)) ++ [0]).map .int)]) (by walk_at "at") G.F74.fnObj (.cons ?_ .nil rfl) (G.program hread ?_)
      · exact Ev_callF (f := G.f73) (ds := [.str (txt (wr (handV cs) (pageT (rowsOf cs))))]) (by walk_at "at") G.F73.fnObj (by walk_at "v") (G.symbols (handV cs) (by lia))
      · have hs : ∀ (k : Nat) (t : List Nat), (tokL G.ex k t).length ≤ k := by
          intro k
          induction k with
          | zero => intro t; exact Nat.le_refl _
          | succ k ih =>
            intro t
            unfold tokL
            split
            · exact Nat.zero_le _
            · rw [List.length_append]
              have := ih (t.drop (manyL G.ex t))
              have := symL_len G.ex (t.take (manyL G.ex t))
              lia
        have := hs (pageT (rowsOf cs)).length (pageT (rowsOf cs))
        unfold tokA
        rw [List.length_append]
        simp only [List.length_cons, List.length_nil]
        lia
    · rw [beq_self_eq_true] at q; cases q
  case hu => walk_at "up"
  refine Ex_cons ?_
  apply Es_if (b := !decide (rowsOf cs = rowsOf cs))
  · exact EvT_cmp (d1 := .list ((rowsOf cs).map rowD)) (d2 := .list ((rowsOf cs).map rowD)) (by walk_at "v") (by walk_at "v") op_neRows rfl
  · intro q; simp at q
  · intro _
    exact Ex_nil h
end
end
section
open PySem PySem.Calls PySem.W PySem.Builtin PySem.Builtin.Int PySem.Builtin.Str
section
variable {C : Cx} (G : LG C) {env : Env}
theorem toPy_bools (a b c : Bool) : toPy (.list [.bool a, .bool b, .bool c]) = .list [.bool a, .bool b, .bool c] := rfl
theorem eqv_bools (a b c : Bool) : PyData.eqv (toPy (.list [.bool a, .bool b, .bool c])) (toPy (.list [.bool a, .bool b, .bool c])) = true := by
  rw [toPy_bools]
  simp [PyData.eqv, PyData.eqvAll]
set_option maxHeartbeats 400000 in
theorem vc_told {ns cs : List Int} {x pg pr : Option D} (hc : CellsOk8 cs) {K : Out → Prop} (h : ∀ y z, Ex C 40 env (rhoX G ns cs x none pg pr y z none none none none none none none none) [] ((bodyAt 78).drop 9) K) :
    Ex C 40 env (rhoX G ns cs x none pg pr none none none none none none none none none none) [] ((bodyAt 78).drop 8) K := by
  have gi := G.gisi
  have gb := G.gbool
  refine Ex_cons ?_
  refine Es_for (ds := [0, 13, 255, 256, 259, -1, (at0 cs 7).fmod 512].map D.int) (EvI_list ?_) (fun i ρ own => ∃ y z, own = [] ∧ ρ = rhoX G ns cs x none pg pr y z none none none none none none none none) ?_ ?_ ?_
  · show Ev C 40 env _ _ _ (.list [.int 0, .int 13, .int 255, .int 256, .int 259, .int (-1), .int ((at0 cs 7).fmod 512)])
    refine Ev_list (.cons Ev_int (.cons Ev_int (.cons Ev_int (.cons Ev_int (.cons Ev_int (.cons ?_ (.cons ?_ .nil rfl) rfl) rfl) rfl) rfl) rfl) rfl)
    · walk_at "v"
    · exact ev_mod (ev_cell (i := 7) hc (by decide) (by walk_at "at")) (by decide)
  · exact ⟨none, none, rfl, rfl⟩
  · intro i ρ own d hd w1q; refine e2a2 (w1q :) fun y z r3q r4q => ?_; clear w1q; subst r3q; subst r4q
    obtain ⟨v, rfl⟩ : ∃ v : Int, d = .int v := by
      rw [List.getElem?_map] at hd
      refine e1a2 (Option.map_eq_some_iff.mp hd :) fun v _ r2q => ?_; subst r2q
      exact ⟨v, rfl⟩
    refine ⟨rhoX G ns cs x none pg pr (some (.int v)) z none none none none none none none none, .name (by walk_at "up"), ?_⟩
    refine Ex_cons ?_
    apply Es_set (d := .list [.bool (decide (v < 256)), .bool (decide (256 ≤ v)), .bool (v == 0)])
    case he =>
      refine Ev_list (.cons ?_ (.cons ?_ (.cons ?_ .nil rfl) rfl) rfl)
      · exact Ev_callF (f := G.f60) (ds := [.int v]) (by walk_at "at") G.F60.fnObj (by walk_at "v") (G.c60 v)
      · exact Ev_callF (f := G.f61) (ds := [.int v]) (by walk_at "at") G.F61.fnObj (by walk_at "v") (G.c61 v)
      · exact Ev_callF (f := G.f62) (ds := [.int v]) (by walk_at "at") G.F62.fnObj (by walk_at "v") (G.c62 v)
    case hu => walk_at "up"
    refine Ex_cons ?_
    have e255 : decide (256 ≤ v) = decide (255 < v) := by
      by_cases q : 256 ≤ v
      · rw [decide_eq_true q, decide_eq_true (by exact q)]
      · rw [decide_eq_false q, decide_eq_false (by exact q)]
    apply Es_if (b := (!PyData.eqv (toPy (.list [.bool (decide (v < 256)), .bool (decide (256 ≤ v)), .bool (v == 0)])) (toPy (.list [.bool (decide (v < 256)), .bool (decide (256 ≤ v)), .bool (v == 0)]))) || (!PyData.eqv (toPy (.list [])) (toPy (.list []))))
    · refine EvT_or2 (EvT_cmp (d1 := .list [.bool (decide (v < 256)), .bool (decide (256 ≤ v)), .bool (v == 0)]) (d2 := .list [.bool (decide (v < 256)), .bool (decide (256 ≤ v)), .bool (v == 0)]) (by walk_at "v") (Ev_list (.cons ?_ (.cons ?_ (.cons ?_ .nil rfl) rfl) rfl)) (op_neD rfl rfl rfl rfl) rfl) (EvT_cmp (d1 := .list []) (d2 := .list []) (Ev_new ?_) (Ev_list .nil) (op_neD rfl rfl rfl rfl) rfl)
      · exact Ev_cmp (d1 := .int v) (d2 := .int 256) (by walk_at "v") Ev_int op_lt rfl
      · rw [e255]
        exact Ev_cmp (d1 := .int v) (d2 := .int 255) (by walk_at "v") Ev_int op_gt rfl
      · exact Ev_cmp (d1 := .int v) (d2 := .int 0) (by walk_at "v") Ev_int op_eq rfl
      · refine EvN_comp (frozen := true) (ds := [decide (v < 256), decide (256 ≤ v), v == 0].map D.bool) (fs := []) [("one", .loc, none), ("isinstance", .glo, some (.val (.builtin "isinstance"))), ("bool", .glo, some (.val (.type "bool")))] (EvI_list (Ev_name (d := .list [.bool (decide (v < 256)), .bool (decide (256 ≤ v)), .bool (v == 0)]) (by walk_at "at"))) (by walk_at "comps") (fun L2 cells2 => ?_) (Nat.zero_le _)
        have e0 : ([] : List D) = ([decide (v < 256), decide (256 ≤ v), v == 0].filter (fun _ => false)).map D.bool := by simp
        rw [e0]
        refine CompR_filter D.bool D.bool (fun _ => false) _ (fun b _ hp => by cases hp) fun b _ _ => ?_
        refine ⟨_, .name (by walk_at "up"), .lose (.same (.same .nil)), .one ?_⟩
        exact EvT_not (b := true) (EvT_boolv (Ev_callB (id := "isinstance") (ds := [.bool b, .val (.type "bool")]) (by walk_at "at") (.cons (by walk_at "v") (.cons (by walk_at "v") .nil rfl) rfl) cal_isbool))
    · intro q
      rw [eqv_bools] at q
      exact absurd q (by decide)
    · intro _
      exact Ex_nil (Ex_nil ⟨_, _, rfl, rfl⟩)
  · intro ρ own w2q; refine e2a2 (w2q :) fun y z r5q r6q => ?_; clear w2q; subst r5q; subst r6q
    exact h y z
end
end
section
open PySem PySem.Calls PySem.W PySem.Builtin PySem.Builtin.Int PySem.Builtin.Str
noncomputable def bigN : Int := 1 * 2 ^ (4200 : Int).toNat
noncomputable def widthV (cs : List Int) : Nat := 5 + ((at0 cs 5).fmod 8).toNat + 600 * (heavyV cs).toNat
noncomputable def unitV (cs : List Int) : Int := 7 - ((at0 cs 5).fdiv 128).fmod 7 + heavyV cs * (bigN + at0 cs 5)
noncomputable def runW (cs : List Int) : List (List Int) := runOf (rowsOf cs) (stepsV cs) (startsV cs)
noncomputable def fgV (cs : List Int) : Fg := ⟨(at0 cs 6).fmod 9, ((at0 cs 6).fdiv 9).fmod 4, ((at0 cs 6).fdiv 36).fmod 4⟩
noncomputable def forgW (cs : List Int) : List (List Int) := runL (rowsOf cs) (fgV cs) (stepsV cs + 1) 0 0 (startsV cs)
noncomputable def numW (cs : List Int) : List Int := numbersL (widthV cs) (runW cs)
theorem heavy_ok (cs : List Int) : heavyV cs = 0 ∨ heavyV cs = 1 := by
  have h := fm_lt ((at0 cs 5).fdiv 8) (show (0 : Int) < 16 by decide)
  unfold heavyV
  rw [fdiv_pos _ (by decide), ← nn_toNat h]
  exact (by decide : ∀ n < 16, ((n : Nat) : Int) / 15 = 0 ∨ ((n : Nat) : Int) / 15 = 1) _ (lt_toNat h)
theorem width_ok (cs : List Int) : 5 ≤ widthV cs ∧ widthV cs ≤ 612 := by
  have h := fm_lt (at0 cs 5) (show (0 : Int) < 8 by decide)
  have hh : (heavyV cs).toNat ≤ 1 := by rcases heavy_ok cs with q | q <;> rw [q] <;> decide
  exact ⟨Nat.le_trans (Nat.le_add_right 5 _) (Nat.le_add_right _ _), Nat.add_le_add (Nat.add_le_add_left (Nat.le_of_lt_succ (lt_toNat h)) 5) (Nat.mul_le_mul_left 600 hh)⟩
theorem width_int (cs : List Int) : ((widthV cs : Nat) : Int) = 5 + (at0 cs 5).fmod 8 + 600 * heavyV cs := by
  have h := fm_lt (at0 cs 5) (show (0 : Int) < 8 by decide)
  have hh : 0 ≤ heavyV cs := by rcases heavy_ok cs with q | q <;> rw [q] <;> decide
  unfold widthV
  rw [Int.natCast_add, Int.natCast_add, Int.natCast_mul, Int.toNat_of_nonneg h.1, Int.toNat_of_nonneg hh]; rfl
theorem big_bits : intBits bigN ≤ 4201 := by
  unfold bigN
  rw [Int.one_mul]
  exact bits_pow _
theorem big_pos : 0 < bigN := by
  unfold bigN
  rw [Int.one_mul]
  exact two_pos _
theorem unit_ok {cs : List Int} (hc : CellsOk8 cs) : 0 < unitV cs ∧ intBits (unitV cs) ≤ 4300 := by
  have h := fm_lt ((at0 cs 5).fdiv 128) (show (0 : Int) < 7 by decide)
  have h5 := hc.get (show 5 < 8 by decide)
  have hb := big_pos
  have b5 : intBits (at0 cs 5) ≤ 60 := bits_lt h5.1 (by omega)
  have b7 : intBits (7 - ((at0 cs 5).fdiv 128).fmod 7) ≤ 60 := bits_lt (by omega) (by omega)
  have bs : intBits (bigN + at0 cs 5) ≤ 4202 := Nat.le_trans (intBits_add_le big_bits b5) (by decide)
  have bh : intBits (heavyV cs) ≤ 1 := by rcases heavy_ok cs with q | q <;> rw [q] <;> decide
  unfold unitV
  refine ⟨?_, Nat.le_trans (intBits_add_le b7 (intBits_mul_le bh bs)) (by decide)⟩
  rcases heavy_ok cs with q | q
  · rw [q]; omega
  · rw [q]; omega
theorem starts_ok (cs : List Int) : (startsV cs).length = 2 ∧ ∀ k ∈ startsV cs, k ≤ 3 := by
  have h1 := fm_lt (at0 cs 3) (show (0 : Int) < 4 by decide)
  have h2 := fm_lt ((at0 cs 3).fdiv 4) (show (0 : Int) < 4 by decide)
  refine ⟨rfl, fun k hk => ?_⟩
  simp only [startsV, List.mem_cons, List.not_mem_nil, or_false] at hk
  rcases hk with rfl | rfl
  · exact Nat.le_of_lt_succ (lt_toNat h1)
  · exact Nat.le_of_lt_succ (lt_toNat h2)
theorem steps_ok (cs : List Int) : 5 ≤ stepsV cs ∧ stepsV cs ≤ 8 := by
  have h1 := fm_lt ((at0 cs 3).fdiv 16) (show (0 : Int) < 4 by decide)
  exact ⟨Nat.le_add_right _ _, Nat.add_le_add_left (Nat.le_of_lt_succ (lt_toNat h1)) 5⟩
theorem st12 (cs : List Int) : 3 + (stepsV cs + 1) ≤ 12 := Nat.add_le_add_left (Nat.succ_le_succ (steps_ok cs).2) 3
theorem rows_good (cs : List Int) : GoodP (rowsOf cs) := ⟨rfl, fun r hr => by
  simp only [rowsOf, List.mem_cons, List.not_mem_nil, or_false] at hr
  rcases hr with rfl | rfl | rfl <;> exact (drawRow_ok _).good⟩
theorem fg_ok (cs : List Int) : GoodF (fgV cs) := by
  have h1 := fm_lt ((at0 cs 6).fdiv 9) (show (0 : Int) < 4 by decide)
  have h2 := fm_lt ((at0 cs 6).fdiv 36) (show (0 : Int) < 4 by decide)
  have e1 : (fgV cs).kind = ((at0 cs 6).fdiv 9).fmod 4 := rfl
  have e2 : (fgV cs).value = ((at0 cs 6).fdiv 36).fmod 4 := rfl
  exact ⟨by omega, by omega⟩
theorem fg0_ok : GoodF ⟨9, 0, 0⟩ := ⟨by decide, by decide⟩
theorem runW_len (cs : List Int) : (runW cs).length = stepsV cs + 1 := runL_len _ _ _ _ _ _
theorem forgW_len (cs : List Int) : (forgW cs).length = stepsV cs + 1 := runL_len _ _ _ _ _ _
theorem runW_rows (cs : List Int) : ∀ r ∈ runW cs, RowOk 12 r := fun r hr => by
  have h := runL_rows (rows_good cs) fg0_ok (stepsV cs + 1) 0 0 (startsV cs) 3 (by decide) (starts_ok cs).1 (by decide) (starts_ok cs).2 r hr
  refine e0a4 (h :) fun a b c d => ?_
  exact ⟨a, b, ⟨c.1, Int.le_trans c.2 (Int.ofNat_le.mpr (st12 cs))⟩, ⟨d.1, Int.le_trans d.2 (Int.ofNat_le.mpr (st12 cs))⟩⟩
theorem forgW_rows (cs : List Int) : ∀ r ∈ forgW cs, RowOk 12 r := fun r hr => by
  have h := runL_rows (rows_good cs) (fg_ok cs) (stepsV cs + 1) 0 0 (startsV cs) 3 (by decide) (starts_ok cs).1 (by decide) (starts_ok cs).2 r hr
  refine e0a4 (h :) fun a b c d => ?_
  exact ⟨a, b, ⟨c.1, Int.le_trans c.2 (Int.ofNat_le.mpr (st12 cs))⟩, ⟨d.1, Int.le_trans d.2 (Int.ofNat_le.mpr (st12 cs))⟩⟩
section
variable {C : Cx} (G : LG C) {env : Env}
noncomputable abbrev rhoY (ns cs : List Int) (x : Option D) (row pg pr y z number moved changed : Option D) : Rho :=
  rhoX G ns cs x row pg pr y z (some (.int (widthV cs))) (some (.int (unitV cs))) (some (.list ((runW cs).map rowD))) (some (.list ((forgW cs).map rowD))) (some (.list ((numW cs).map .int))) number moved changed
set_option maxHeartbeats 400000 in
theorem vc_runs {ns cs : List Int} {x pg y z : Option D} (hc : CellsOk8 cs) {K : Out → Prop} (h : Ex C 40 env (rhoY G ns cs x none pg (some (.list ((rowsOf cs).map rowD))) y z none none none) [] ((bodyAt 78).drop 13) K) :
    Ex C 40 env (rhoX G ns cs x none pg (some (.list ((rowsOf cs).map rowD))) y z none none none none none none none none) [] ((bodyAt 78).drop 9) K := by
  have hwd := width_ok cs
  have hst := starts_ok cs
  have hsp := steps_ok cs
  have hh := heavy_ok cs
  refine Ex_cons ?_
  refine Es_tupC (x := "width") (CelIn.ex (by repeat (first | exact .head | apply CelIn.tail))) (EvW_pure (d := .tuple [.int (widthV cs), .int (unitV cs)]) ?_ ⟨_, .tuple (.cons (by walk_at "up") (.cons (by walk_at "up") .nil)), ?_⟩) (fun hb hk => swapNone hb hk rfl) rfl
  · refine Ev_tuple (.cons ?_ (.cons ?_ .nil rfl) rfl)
    · rw [width_int]
      refine Ev_bin (d1 := .int (5 + (at0 cs 5).fmod 8)) (d2 := .int (600 * heavyV cs)) (Ev_bin (d1 := .int 5) (d2 := .int ((at0 cs 5).fmod 8)) Ev_int (ev_mod (ev_cell (i := 5) hc (by decide) (by walk_at "at")) (by decide)) op_add) (Ev_bin (d1 := .int 600) (d2 := .int (heavyV cs)) Ev_int (by walk_at "v") (op_mul (IntMulOk.of_left (by decide)))) op_add
    · unfold unitV
      refine Ev_bin (d1 := .int (7 - ((at0 cs 5).fdiv 128).fmod 7)) (d2 := .int (heavyV cs * (bigN + at0 cs 5))) (Ev_bin (d1 := .int 7) (d2 := .int (((at0 cs 5).fdiv 128).fmod 7)) Ev_int (ev_mod (ev_div (ev_cell (i := 5) hc (by decide) (by walk_at "at")) (by decide) (by decide)) (by decide)) op_sub) ?_ op_add
      refine Ev_bin (d1 := .int (heavyV cs)) (d2 := .int (bigN + at0 cs 5)) (by walk_at "v") ?_ (op_mul (IntMulOk.of_left (by rcases hh with q | q <;> rw [q] <;> decide)))
      refine Ev_bin (d1 := .int bigN) (d2 := .int (at0 cs 5)) ?_ (ev_cell (i := 5) hc (by decide) (by walk_at "at")) op_add
      unfold bigN
      exact Ev_bin (d1 := .int 1) (d2 := .int 4200) Ev_int Ev_int (op_shl (by decide) (by decide))
  refine Ex_cons ?_
  apply Es_set (d := .list ((runW cs).map rowD))
  case he =>
    refine Ev_callF (f := G.f75) (ds := [.list ((rowsOf cs).map rowD), startsD cs, .int (stepsV cs), .int ((at0 cs 4).fdiv 5), fgD ⟨9, 0, 0⟩]) (by walk_at "at") G.F75.fnObj (.cons (by walk_at "v") (.cons (by walk_at "v") (.cons (by walk_at "v") (.cons ?_ (.cons ?_ .nil rfl) rfl) rfl) rfl) rfl) (G.run ((at0 cs 4).fdiv 5) (rows_good cs) fg0_ok hst.1 hst.2 (by omega))
    · exact ev_div (ev_cell (i := 4) hc (by decide) (by walk_at "at")) (by decide) (by decide)
    · exact Ev_tuple (.cons Ev_int (.cons Ev_int (.cons Ev_int .nil rfl) rfl) rfl)
  case hu => walk_at "up"
  refine Ex_cons ?_
  apply Es_set (d := .list ((forgW cs).map rowD))
  case he =>
    refine Ev_callF (f := G.f75) (ds := [.list ((rowsOf cs).map rowD), startsD cs, .int (stepsV cs), .int (handV cs), fgD (fgV cs)]) (by walk_at "at") G.F75.fnObj (.cons (by walk_at "v") (.cons (by walk_at "v") (.cons (by walk_at "v") (.cons (by walk_at "v") (.cons ?_ .nil rfl) rfl) rfl) rfl) rfl) (G.run (handV cs) (rows_good cs) (fg_ok cs) hst.1 hst.2 (by omega))
    refine Ev_tuple (.cons ?_ (.cons ?_ (.cons ?_ .nil rfl) rfl) rfl)
    · exact ev_mod (ev_cell (i := 6) hc (by decide) (by walk_at "at")) (by decide)
    · exact ev_mod (ev_div (ev_cell (i := 6) hc (by decide) (by walk_at "at")) (by decide) (by decide)) (by decide)
    · exact ev_mod (ev_div (ev_cell (i := 6) hc (by decide) (by walk_at "at")) (by decide) (by decide)) (by decide)
  case hu => walk_at "up"
  refine Ex_cons ?_
  apply Es_set (d := .list ((numW cs).map .int))
  case he =>
    exact Ev_callF (f := G.f76) (ds := [.list ((runW cs).map rowD), .int (widthV cs)]) (by walk_at "at") G.F76.fnObj (by walk_at "v") (G.numbers (B := 12) (by omega) (by decide) (runW_rows cs) (by rw [runW_len]; omega))
  case hu => walk_at "up"
  exact h
end
end
section
open PySem PySem.Calls PySem.W PySem.Builtin PySem.Builtin.Int PySem.Builtin.Str
noncomputable def prsW (cs : List Int) : List (Int × List Int) :=
  [(codeSum (numW cs), (runW cs).map fun r => at0 r 0), (at0 (numW cs) 7, (runW cs).map fun r => at0 r 1), (at0 (numW cs) 8, (runW cs).map fun r => at0 r 2), (0, []),
    (2 ^ (widthV cs * (stepsV cs + 1)) - 1, List.replicate (stepsV cs + 1) (2 ^ widthV cs - 1))]
structure PairOk (w : Nat) (p : Int × List Int) : Prop where
  val : p.1 = valL w p.2
  dig : ∀ d ∈ p.2, 0 ≤ d ∧ d < 2 ^ w
  len : p.2.length ≤ 9
theorem pow5 {w : Nat} (hw : 5 ≤ w) : (32 : Int) ≤ 2 ^ w := by
  have : (2 : Int) ^ 5 ≤ 2 ^ w := pow_mono hw
  have e : (2 : Int) ^ 5 = 32 := rfl
  exact this
theorem prsW_ok (cs : List Int) : ∀ p ∈ prsW cs, PairOk (widthV cs) p := by
  have hw := width_ok cs
  have hs := steps_ok cs
  have hl := runW_len cs
  have hr := runW_rows cs
  have h32 := pow5 hw.1
  have dg : ∀ k < 3, ∀ d ∈ (runW cs).map (fun r => at0 r k), 0 ≤ d ∧ d < 2 ^ widthV cs := fun k hk d hd => by
    refine e1a2 (List.mem_map.mp hd :) fun r hrm r2q => ?_; subst r2q
    refine e0a4 (hr r hrm :) fun _ a b c => ?_
    rcases (by lia : k = 0 ∨ k = 1 ∨ k = 2) with rfl | rfl | rfl <;> lia
  intro p hp
  simp only [prsW, List.mem_cons, List.not_mem_nil, or_false] at hp
  rcases hp with rfl | rfl | rfl | rfl | rfl
  · exact ⟨code_sum fun r hrm => (hr r hrm).2.1, dg 0 (by decide), by rw [List.length_map, hl]; lia⟩
  · exact ⟨rfl, dg 1 (by decide), by rw [List.length_map, hl]; lia⟩
  · exact ⟨rfl, dg 2 (by decide), by rw [List.length_map, hl]; lia⟩
  · exact ⟨rfl, nofun, Nat.zero_le _⟩
  · refine ⟨(ones_val _ _).symm, fun d hd => ?_, by rw [List.length_replicate]; lia⟩
    rw [(List.mem_replicate.mp hd).2]
    lia
noncomputable def lastS (l : List Int) : List Int := (l.drop (W.kms_lo (some (-1)) l.length)).take (W.kms_hi none l.length - W.kms_lo (some (-1)) l.length)
theorem lastS_ne {l : List Int} (h : l.getLast? ≠ some 0) : lastS l ≠ [0] := by
  intro q
  unfold lastS at q
  have e1 : W.kms_lo (some (-1)) l.length = l.length - 1 := rfl
  have e2 : W.kms_hi none l.length = l.length := rfl
  rw [e1, e2] at q
  rcases Nat.eq_zero_or_pos l.length with z | z
  · rw [List.length_eq_zero_iff] at z
    subst z
    cases q
  · have hl : l = l.take (l.length - 1) ++ l.drop (l.length - 1) := (List.take_append_drop _ _).symm
    have hd : (l.drop (l.length - 1)).length = 1 := by rw [List.length_drop]; lia
    rw [List.take_of_length_le (by rw [hd]; lia)] at q
    rw [q] at hl
    apply h
    rw [hl, List.getLast?_append]; rfl
theorem rep_flat (k : Nat) (d : D) : (List.replicate k [d]).flatten = List.replicate k d := by
  induction k with
  | zero => rfl
  | succ k ih => rw [List.replicate_succ, List.flatten_cons, ih, List.replicate_succ]; rfl
section
variable {C : Cx} (G : LG C) {env : Env}
noncomputable def prD (p : Int × List Int) : D := .tuple [.int p.1, .list (p.2.map .int)]
set_option maxHeartbeats 400000 in
theorem vc_backT {ns cs : List Int} {x pg pr y z : Option D} {p : Int × List Int} (hp : PairOk (widthV cs) p) {K : Out → Prop} {body : List Stmt} (hbody : body = (match bodyAt 78 with | _ :: _ :: _ :: _ :: _ :: _ :: _ :: _ :: _ :: _ :: _ :: _ :: _ :: .For _ _ b _ _ :: _ => b | _ => []))
    (h : K (.next (rhoY G ns cs x (some (.list (p.2.map .int))) pg pr y (some (.list ((digs (widthV cs) (many (widthV cs) p.1) p.1).map .int))) (some (.int p.1)) none none) [])) :
    Ex C 40 env (rhoY G ns cs x (some (.list (p.2.map .int))) pg pr y z (some (.int p.1)) none none) [] body K := by
  have hw := width_ok cs
  subst hbody
  refine e0a5 (digits_backI (w := widthV cs) (l := p.2) (by lia) hp.dig :) fun d1 d2 d3 d4 d5 => ?_
  rw [← hp.val] at d1 d2 d3 d4 d5
  have hpl := hp.len
  refine Ex_cons ?_
  apply Es_set (d := .list ((digs (widthV cs) (many (widthV cs) p.1) p.1).map .int))
  case he => exact Ev_callF (f := G.P.f4) (ds := [.int p.1, .int (widthV cs)]) (by walk_at "at") G.P.F4.fnObj (by walk_at "v") (G.back d1 (by lia) (by lia) (by lia))
  case hu => walk_at "up"
  have hdl := digs_len (widthV cs) (many (widthV cs) p.1) p.1
  generalize digs (widthV cs) (many (widthV cs) p.1) p.1 = dg at *
  generalize many (widthV cs) p.1 = m at *
  refine Ex_cons ?_
  apply Es_if (b := decide (lastS dg = [0]) || !decide (dg ++ List.replicate (p.2.length - m) 0 = p.2))
  · refine EvT_or2 (EvT_cmp (d1 := .list ((lastS dg).map .int)) (d2 := .list (([0] : List Int).map .int)) ?_ (Ev_list (.cons Ev_int .nil rfl)) op_eqRow rfl) (EvT_cmp (d1 := .list ((dg ++ List.replicate (p.2.length - m) 0).map .int)) (d2 := .list (p.2.map .int)) ?_ (by walk_at "v") op_neRow rfl)
    · have e : (lastS dg).map D.int = ((dg.map D.int).drop (W.kms_lo (some (-1)) (dg.map D.int).length)).take (W.kms_hi none (dg.map D.int).length - W.kms_lo (some (-1)) (dg.map D.int).length) := by
        unfold lastS
        rw [List.map_take, List.map_drop, List.length_map]
      rw [e]
      exact Ev_sliceL (by walk_at "v") (.some (Ev_neg Ev_int)) .none (by rw [List.length_map]; unfold sizeLine; lia)
    · have hk : ((p.2.length : Int) - (dg.length : Int)).toNat = p.2.length - m := by lia
      have e : (dg ++ List.replicate (p.2.length - m) 0).map D.int = dg.map D.int ++ (List.replicate ((p.2.length : Int) - (dg.length : Int)).toNat [D.int 0]).flatten := by
        rw [hk, rep_flat, List.map_append, List.map_replicate]
      rw [e]
      refine Ev_bin (d1 := .list (dg.map D.int)) (d2 := .list (List.replicate ((p.2.length : Int) - (dg.length : Int)).toNat [D.int 0]).flatten) (by walk_at "v") (Ev_new (EvN_mul (xs := [.int 0]) (EvN_list (.cons Ev_int .nil rfl)) (fun own => ?_) (by lia) (by lia) (by rw [hk]; simp; lia))) (op_addL ?_)
      · have e1 : D.int (p.2.length : Int) = .int ((p.2.map D.int).length : Nat) := by rw [List.length_map]
        have e2 : D.int (dg.length : Int) = .int ((dg.map D.int).length : Nat) := by rw [List.length_map]
        refine Ev_bin (d1 := .int (p.2.length : Int)) (d2 := .int (dg.length : Int)) ?_ ?_ op_sub
        · rw [e1]
          exact Ev_callB (id := "len") (ds := [.list (p.2.map .int)]) (by walk_at "at") (.cons (by walk_at "v") .nil rfl) (cal_len_list (by rw [List.length_map]; lia))
        · rw [e2]
          exact Ev_callB (id := "len") (ds := [.list (dg.map .int)]) (by walk_at "at") (.cons (by walk_at "v") .nil rfl) (cal_len_list (by rw [List.length_map]; lia))
      · rw [hk, rep_flat, List.length_map, List.length_replicate]; unfold sizeLine; lia
  · intro q
    have h1 : decide (lastS dg = [0]) = false := decide_eq_false (lastS_ne d5)
    have h2 : decide (dg ++ List.replicate (p.2.length - m) 0 = p.2) = true := decide_eq_true d4
    rw [h1, h2] at q
    cases q
  · intro _
    exact Ex_nil (Ex_nil h)
set_option maxHeartbeats 400000 in
theorem vc_back {ns cs : List Int} {x pg pr y z : Option D} {K : Out → Prop} (h : ∀ r z nu, Ex C 40 env (rhoY G ns cs x r pg pr y z nu none none) [] ((bodyAt 78).drop 14) K) :
    Ex C 40 env (rhoY G ns cs x none pg pr y z none none none) [] ((bodyAt 78).drop 13) K := by
  have hw := width_ok cs
  have hs := steps_ok cs
  have hl := runW_len cs
  have hr := runW_rows cs
  refine Ex_cons ?_
  refine Es_for (ds := (prsW cs).map prD) (EvI_list ?_) (fun i ρ own => ∃ r z nu, own = [] ∧ ρ = rhoY G ns cs x r pg pr y z nu none none) ?_ ?_ ?_
  · have hrow : ∀ k : Nat, k < 3 → ∀ r ∈ runW cs, (r.map D.int)[((k : Int)).toNat]? = some (.int (at0 r k)) := fun k hk r hm => by
      have e : ((k : Int)).toNat = k := by lia
      rw [e, List.getElem?_map, at0_get (by rw [(hr r hm).1]; exact hk)]; rfl
    have hn9 : (numW cs).length = 9 := rfl
    have hnum : ∀ k : Nat, k < 9 → ((numW cs).map D.int)[((k : Int)).toNat]? = some (.int (at0 (numW cs) k)) := fun k hk => by
      have e : ((k : Int)).toNat = k := by lia
      rw [e, List.getElem?_map, at0_get (by rw [hn9]; exact hk)]; rfl
    show Ev C 40 env _ _ _ (.list [prD _, prD _, prD _, prD _, prD _])
    unfold prD
    refine Ev_list (.cons (Ev_tuple (.cons ?_ (.cons ?_ .nil rfl) rfl)) (.cons (Ev_tuple (.cons ?_ (.cons ?_ .nil rfl) rfl)) (.cons (Ev_tuple (.cons ?_ (.cons ?_ .nil rfl) rfl)) (.cons (Ev_tuple (.cons Ev_int (.cons (Ev_list .nil) .nil rfl) rfl)) (.cons (Ev_tuple (.cons ?_ (.cons ?_ .nil rfl) rfl)) .nil rfl) rfl) rfl) rfl) rfl)
    · refine Ev_callB (id := "sum") (ds := [.list (((List.range 7).map fun c : Nat => (c : Int) * at0 (numW cs) c).map .int)]) (by walk_at "at") (.cons (Ev_new ?_) .nil rfl) cal_sum
      rw [List.map_map]
      refine EvN_comp (frozen := true) (ds := rngD 7) [("code", .loc, none), ("numbers", .cap, some (.list ((numW cs).map .int)))] (EvI_range (k := 7) (by walk_at "at") Ev_int rfl (by decide) (by decide)) (by walk_at "comps") (fun L2 cells2 => ?_) (by rw [List.length_map]; show 7 ≤ sizeLine; decide)
      refine CompR_map (fun c : Nat => D.int (c : Int)) (D.int ∘ fun c : Nat => (c : Int) * at0 (numW cs) c) (List.range 7) fun c hc => ?_
      have hc7 := List.mem_range.mp hc
      refine ⟨_, .name (by walk_at "up"), .lose (.same .nil), .nil, ?_⟩
      refine Ev_bin (d1 := .int (c : Int)) (d2 := .int (at0 (numW cs) c)) (by walk_at "v") (Ev_sub (d1 := .list ((numW cs).map .int)) (d2 := .int (c : Int)) (by walk_at "v") (by walk_at "v") (it_list (by lia) (by lia) (hnum c (by lia))) (fun _ _ => rfl)) (op_mul (IntMulOk.of_left (Nat.le_trans (bits_lt (n := 60) (by lia) (by lia)) (by decide))))
    · rw [List.map_map]
      refine Ev_new (EvN_comp (frozen := true) (ds := (runW cs).map rowD) [("one", .loc, none)] (EvI_list (by walk_at "v")) (by walk_at "comps") (fun L2 cells2 => ?_) (by rw [List.length_map, hl]; unfold sizeLine; lia))
      refine CompR_map rowD (D.int ∘ fun r => at0 r 0) (runW cs) fun r hm => ?_
      exact ⟨_, .name (by walk_at "up"), .lose .nil, .nil, Ev_sub (d1 := rowD r) (d2 := .int 0) (by walk_at "v") Ev_int (it_list (by decide) (by decide) (hrow 0 (by decide) r hm)) (fun _ _ => rfl)⟩
    · exact Ev_sub (d1 := .list ((numW cs).map .int)) (d2 := .int 7) (by walk_at "v") Ev_int (it_list (by decide) (by decide) (hnum 7 (by decide))) (fun _ _ => rfl)
    · rw [List.map_map]
      refine Ev_new (EvN_comp (frozen := true) (ds := (runW cs).map rowD) [("one", .loc, none)] (EvI_list (by walk_at "v")) (by walk_at "comps") (fun L2 cells2 => ?_) (by rw [List.length_map, hl]; unfold sizeLine; lia))
      refine CompR_map rowD (D.int ∘ fun r => at0 r 1) (runW cs) fun r hm => ?_
      exact ⟨_, .name (by walk_at "up"), .lose .nil, .nil, Ev_sub (d1 := rowD r) (d2 := .int 1) (by walk_at "v") Ev_int (it_list (by decide) (by decide) (hrow 1 (by decide) r hm)) (fun _ _ => rfl)⟩
    · exact Ev_sub (d1 := .list ((numW cs).map .int)) (d2 := .int 8) (by walk_at "v") Ev_int (it_list (by decide) (by decide) (hnum 8 (by decide))) (fun _ _ => rfl)
    · rw [List.map_map]
      refine Ev_new (EvN_comp (frozen := true) (ds := (runW cs).map rowD) [("one", .loc, none)] (EvI_list (by walk_at "v")) (by walk_at "comps") (fun L2 cells2 => ?_) (by rw [List.length_map, hl]; unfold sizeLine; lia))
      refine CompR_map rowD (D.int ∘ fun r => at0 r 2) (runW cs) fun r hm => ?_
      exact ⟨_, .name (by walk_at "up"), .lose .nil, .nil, Ev_sub (d1 := rowD r) (d2 := .int 2) (by walk_at "v") Ev_int (it_list (by decide) (by decide) (hrow 2 (by decide) r hm)) (fun _ _ => rfl)⟩
    · refine Ev_bin (d1 := .int (2 ^ (widthV cs * (stepsV cs + 1)))) (d2 := .int 1) (ev_shl (by walk_at "v") ?_ (by lia) (by lia)) Ev_int op_sub
      have e : ((stepsV cs + 1 : Nat) : Int) = (stepsV cs : Int) + 1 := by exact Int.natCast_add (stepsV cs) 1
      rw [e]
      walk_at "v"
    · have e : (List.replicate (stepsV cs + 1) ((2 : Int) ^ widthV cs - 1)).map D.int = (List.replicate ((stepsV cs : Int) + 1).toNat [D.int (2 ^ widthV cs - 1)]).flatten := by
        have : ((stepsV cs : Int) + 1).toNat = stepsV cs + 1 := by lia
        rw [this, rep_flat, List.map_replicate]
      rw [e]
      refine Ev_new (EvN_mul (xs := [.int (2 ^ widthV cs - 1)]) (EvN_list (.cons ?_ .nil rfl)) (fun own => by walk_at "v") (by lia) (by lia) (by simp; lia))
      refine Ev_bin (d1 := .int (2 ^ widthV cs)) (d2 := .int 1) ?_ Ev_int op_sub
      have e2 : (2 : Int) ^ widthV cs = 1 * 2 ^ ((widthV cs : Int)).toNat := by rw [Int.one_mul]; congr 1
      rw [e2]
      have h4 : intBits 1 = 1 := by decide
      exact Ev_bin (d1 := .int 1) (d2 := .int (widthV cs)) Ev_int (by walk_at "v") (op_shl (by lia) (by rw [h4]; lia))
  · exact ⟨none, z, none, rfl, rfl⟩
  · intro i ρ own d hd w1q; refine e3a2 (w1q :) fun r z nu r3q r4q => ?_; clear w1q; subst r3q; subst r4q
    obtain ⟨p, hp, rfl⟩ : ∃ p ∈ prsW cs, d = prD p := by
      rw [List.getElem?_map] at hd
      refine e1a2 (Option.map_eq_some_iff.mp hd :) fun p hp r2q => ?_; subst r2q
      exact ⟨p, List.mem_of_getElem? hp, rfl⟩
    refine ⟨rhoY G ns cs x (some (.list (p.2.map .int))) pg pr y z (some (.int p.1)) none none, .tuple (.cons (by walk_at "up") (.cons (by walk_at "up") .nil)), ?_⟩
    exact vc_backT G (prsW_ok cs p hp) rfl ⟨_, _, _, rfl, rfl⟩
  · intro ρ own w2q; refine e3a2 (w2q :) fun r z nu r5q r6q => ?_; clear w2q; subst r5q; subst r6q
    exact h r z nu
end
end
section
open PySem PySem.Calls PySem.W PySem.Builtin PySem.Builtin.Int PySem.Builtin.Str
theorem numbers_bound {w B : Nat} {rows : List (List Int)} (hw : 5 ≤ w) (hB : B < 16) (hr : ∀ r ∈ rows, RowOk B r) {i : Nat} (hi : i < 9) : 0 ≤ at0 (numbersL w rows) i ∧ at0 (numbersL w rows) i < 2 ^ (w * rows.length) := by
  have h32 := pow5 hw
  have hg : ∀ t < rows.length, RowOk B (rows.getD t []) := fun t ht => by
    rw [List.getD_eq_getElem?_getD, List.getElem?_eq_getElem ht]; exact hr _ (List.getElem_mem _)
  rcases Nat.lt_or_ge i 7 with q | q
  · rw [numbersL_mk w rows q]
    exact V_bound fun t ht => by split <;> lia
  · refine e1a1 ((show ∃ k, i = 7 + k from ⟨i - 7, by lia⟩) :) fun k r1q => ?_; subst r1q
    rw [numbersL_hd w rows (show k < 2 by lia)]
    refine V_bound fun t ht => ?_
    refine e0a4 (hg t ht :) fun _ _ a b => ?_
    rcases (by lia : k = 0 ∨ k = 1) with rfl | rfl
    · simp only [Nat.zero_add]; lia
    · simp only [Nat.reduceAdd]; lia
theorem numbers_bits {w B : Nat} {rows : List (List Int)} (hw : 5 ≤ w) (hB : B < 16) (hr : ∀ r ∈ rows, RowOk B r) {i : Nat} (hi : i < 9) : intBits (at0 (numbersL w rows) i) ≤ w * rows.length := by
  refine e0a2 (numbers_bound hw hB hr hi :) fun a b => ?_
  exact bits_lt a b
theorem wlen {cs : List Int} : widthV cs * (stepsV cs + 1) ≤ 5508 := by
  have h1 := (width_ok cs).2
  have h2 : stepsV cs + 1 ≤ 9 := by have := (steps_ok cs).2; lia
  exact Nat.le_trans (Nat.mul_le_mul h1 h2) (by decide)
theorem numW_bits {cs : List Int} {i : Nat} (hi : i < 9) : intBits (at0 (numW cs) i) ≤ 5508 := by
  have := numbers_bits (B := 12) (width_ok cs).1 (by decide) (runW_rows cs) hi
  rw [runW_len] at this
  exact Nat.le_trans this wlen
theorem start_row (cs : List Int) {k : Nat} (hk : k < 2) : at0 ((runW cs).getD 0 []) (k + 1) = ((startsV cs).getD k 0 : Nat) := by
  have h := run_get (rowsOf cs) ⟨9, 0, 0⟩ (stepsV cs + 1) 0 0 (startsV cs) (fun i hi => by show ((0 : Nat) : Int) + i ≠ 9; have := (steps_ok cs).2; lia) 0 (by exact Nat.le_add_left (Nat.succ 0) (stepsV cs))
  have e : (runW cs).getD 0 [] = ((kap (rowsOf cs) 0 (startsV cs) : Nat) : Int) :: (startsV cs).map fun k : Nat => (k : Int) := h
  rw [e]
  rcases (by lia : k = 0 ∨ k = 1) with rfl | rfl <;> rfl
section
variable {C : Cx} (G : LG C) {env : Env}
noncomputable def gainV (cs : List Int) (k : Nat) : Int := valL (widthV cs) (gains (runW cs) ((startsV cs).getD k 0 : Nat) k (stepsV cs))
noncomputable def lossV (cs : List Int) (x : Int) : Int := x - x.fmod (2 ^ (widthV cs * stepsV cs)) * 2 ^ widthV cs
theorem gain_loss (cs : List Int) : [gainV cs 0, gainV cs 1] = [lossV cs (at0 (numW cs) 7), lossV cs (at0 (numW cs) 8)] := by
  have h32 := pow5 (width_ok cs).1
  have hd : ∀ k < 2, ∀ t < stepsV cs + 1, 0 ≤ at0 ((runW cs).getD t []) (k + 1) ∧ at0 ((runW cs).getD t []) (k + 1) < 2 ^ widthV cs := fun k hk t ht => by
    have hr : RowOk 12 ((runW cs).getD t []) := by
      rw [List.getD_eq_getElem?_getD, List.getElem?_eq_getElem (by rw [runW_len]; exact ht)]; exact runW_rows cs _ (List.getElem_mem _)
    refine e0a4 (hr :) fun _ _ a b => ?_
    rcases (by lia : k = 0 ∨ k = 1) with rfl | rfl
    · simp only [Nat.zero_add]; lia
    · simp only [Nat.reduceAdd]; lia
  have e0 := gains_eq (w := widthV cs) (runW_len cs) (show 0 < 2 by decide) (start_row cs (by decide)) (hd 0 (by decide))
  have e1 := gains_eq (w := widthV cs) (runW_len cs) (show 1 < 2 by decide) (start_row cs (by decide)) (hd 1 (by decide))
  unfold gainV lossV
  rw [e0, e1]; rfl
set_option maxHeartbeats 400000 in
theorem vc_gain {ns cs : List Int} {x r pg pr y z nu : Option D} {K : Out → Prop} (h : Ex C 40 env (rhoY G ns cs x r pg pr y z nu none none) [] ((bodyAt 78).drop 15) K) :
    Ex C 40 env (rhoY G ns cs x r pg pr y z nu none none) [] ((bodyAt 78).drop 14) K := by
  have hw := width_ok cs
  have hs := steps_ok cs
  have hst := starts_ok cs
  have hl := runW_len cs
  have g5 := G.P.g5
  have gr := G.grange
  have hws : widthV cs * stepsV cs ≤ 5508 := Nat.le_trans (Nat.mul_le_mul_left _ (Nat.le_succ _)) wlen
  refine Ex_cons ?_
  apply Es_if (b := !decide ([gainV cs 0, gainV cs 1] = [lossV cs (at0 (numW cs) 7), lossV cs (at0 (numW cs) 8)]))
  · refine EvT_cmp (d1 := .list ([gainV cs 0, gainV cs 1].map .int)) (d2 := .list ([lossV cs (at0 (numW cs) 7), lossV cs (at0 (numW cs) 8)].map .int)) (Ev_new ?_) (Ev_new ?_) op_neRow rfl
    · have e : [gainV cs 0, gainV cs 1].map D.int = [0, 1].map fun k : Nat => D.int (gainV cs k) := rfl
      rw [e]
      refine EvN_comp (frozen := true) (ds := [0, 1].map fun k : Nat => D.int k) [("k", .cel, none), ("_digits2int", .glo, some (.ref G.P.f5)), ("range", .glo, some (.val (.type "range"))), ("rows", .cap, some (.list ((runW cs).map rowD))), ("starts", .cap, some (startsD cs)), ("steps", .cap, some (.int (stepsV cs))), ("width", .cap, some (.int (widthV cs)))] (EvI_tuple ?_) (by walk_at "comps") (fun L2 cells2 => ?_) (by show 2 ≤ sizeLine; decide)
      · show Ev C 40 env _ _ _ (.tuple [.int 0, .int 1])
        walk_at "v"
      refine CompR_map (fun k : Nat => D.int (k : Int)) (fun k : Nat => D.int (gainV cs k)) [0, 1] fun k hk => ?_
      have hk2 : k < 2 := by simp at hk; lia
      have hkn : ((k : Int)).toNat = k := by exact rfl
      refine ⟨_, .name (by walk_at "up"), .lose (.same (.same (.same (.same (.same (.same .nil)))))), .nil, ?_⟩
      unfold gainV
      have hsk : ((startsV cs).map fun k : Nat => D.int k)[k]? = some (.int ((startsV cs).getD k 0 : Nat)) := by
        rw [List.getElem?_map, List.getD_eq_getElem?_getD, List.getElem?_eq_getElem (by rw [hst.1]; exact hk2)]; rfl
      have hrg : ∀ t, t < stepsV cs + 1 → ((runW cs).map rowD)[t]? = some (rowD ((runW cs).getD t [])) ∧ RowOk 12 ((runW cs).getD t []) := fun t ht => by
        have hlt : t < (runW cs).length := by rw [hl]; exact ht
        refine ⟨?_, ?_⟩
        · rw [List.getElem?_map, List.getD_eq_getElem?_getD, List.getElem?_eq_getElem hlt]; rfl
        · rw [List.getD_eq_getElem?_getD, List.getElem?_eq_getElem hlt]; exact runW_rows cs _ (List.getElem_mem _)
      have hcell : ∀ t, t < stepsV cs + 1 → (((runW cs).getD t []).map D.int)[k + 1]? = some (.int (at0 ((runW cs).getD t []) (k + 1))) := fun t ht => by
        rw [List.getElem?_map, at0_get (by rw [(hrg t ht).2.1]; lia)]; rfl
      have hbd : ∀ t, t < stepsV cs + 1 → 0 ≤ at0 ((runW cs).getD t []) (k + 1) ∧ at0 ((runW cs).getD t []) (k + 1) ≤ 12 := fun t ht => by
        refine e0a4 ((hrg t ht).2 :) fun _ _ a b => ?_
        rcases (by lia : k = 0 ∨ k = 1) with rfl | rfl
        · simp only [Nat.zero_add]; exact a
        · simp only [Nat.reduceAdd]; exact b
      refine Ev_callF (f := G.P.f5) (ds := [.list ((gains (runW cs) ((startsV cs).getD k 0 : Nat) k (stepsV cs)).map .int), .int (widthV cs)]) (by walk_at "at") G.P.F5.fnObj (.cons ?_ (.cons (by walk_at "v") .nil rfl) rfl) ((G.digits (by lia) (by unfold gains; simp; lia) fun d hd => ?_).mono (by decide))
      · have eg : (gains (runW cs) ((startsV cs).getD k 0 : Nat) k (stepsV cs)).map D.int = [D.int ((startsV cs).getD k 0 : Nat)] ++ (List.range (stepsV cs)).map fun t : Nat => D.int (at0 ((runW cs).getD (t + 1) []) (k + 1) - at0 ((runW cs).getD t []) (k + 1)) := by
          unfold gains
          rw [List.map_cons, List.map_map]; rfl
        rw [eg]
        refine Ev_bin (d1 := .list [D.int ((startsV cs).getD k 0 : Nat)]) (d2 := .list ((List.range (stepsV cs)).map fun t : Nat => D.int (at0 ((runW cs).getD (t + 1) []) (k + 1) - at0 ((runW cs).getD t []) (k + 1)))) (Ev_list (.cons ?_ .nil rfl)) (Ev_new ?_) (op_addL ?_)
        · exact Ev_sub (d1 := .list ((startsV cs).map fun k : Nat => .int k)) (d2 := .int k) (Ev_name (d := startsD cs) (by walk_at "at")) (by walk_at "v") (it_list (by lia) (by lia) (by rw [hkn]; exact hsk)) (fun _ _ => rfl)
        · refine EvN_comp (frozen := true) (ds := rngD (stepsV cs)) [("tick", .loc, none), ("k", .cap, some (.int k)), ("rows", .cap, some (.list ((runW cs).map rowD)))] (EvI_range (k := (stepsV cs : Int)) (by walk_at "at") (by walk_at "v") rfl (by lia) (by lia)) (by walk_at "comps") (fun L3 cells3 => ?_) (by rw [List.length_map, List.length_range]; unfold sizeLine; lia)
          have er : rngD (stepsV cs : Int) = (List.range (stepsV cs)).map fun t : Nat => D.int (t : Int) := by
            unfold rngD
            have : ((stepsV cs : Int)).toNat = stepsV cs := by exact rfl
            rw [this]
          rw [er]
          refine CompR_map (fun t : Nat => D.int (t : Int)) _ (List.range (stepsV cs)) fun t ht => ?_
          have ht' := List.mem_range.mp ht
          refine ⟨_, .name (by walk_at "up"), .lose (.same (.same .nil)), .nil, ?_⟩
          have t1 : ((t : Int) + 1).toNat = t + 1 := by exact rfl
          have t0 : ((t : Int)).toNat = t := by exact rfl
          have k1 : ((k : Int) + 1).toNat = k + 1 := by exact rfl
          refine Ev_bin (d1 := .int (at0 ((runW cs).getD (t + 1) []) (k + 1))) (d2 := .int (at0 ((runW cs).getD t []) (k + 1))) ?_ ?_ op_sub
          · refine Ev_sub (d1 := rowD ((runW cs).getD (t + 1) [])) (d2 := .int ((k : Int) + 1)) (Ev_sub (d1 := .list ((runW cs).map rowD)) (d2 := .int ((t : Int) + 1)) (by walk_at "v") (by walk_at "v") (it_list (by lia) (by lia) (by rw [t1]; exact (hrg (t + 1) (by lia)).1)) (fun _ _ => rfl)) (by walk_at "v") (it_list (by lia) (by lia) (by rw [k1]; exact hcell (t + 1) (by lia))) (fun _ _ => rfl)
          · refine Ev_sub (d1 := rowD ((runW cs).getD t [])) (d2 := .int ((k : Int) + 1)) (Ev_sub (d1 := .list ((runW cs).map rowD)) (d2 := .int (t : Int)) (by walk_at "v") (by walk_at "v") (it_list (by lia) (by lia) (by rw [t0]; exact (hrg t (by lia)).1)) (fun _ _ => rfl)) (by walk_at "v") (it_list (by lia) (by lia) (by rw [k1]; exact hcell t (by lia))) (fun _ _ => rfl)
        · simp; unfold sizeLine; lia
      · have e10 : (2 : Nat) ^ 10 = 1024 := rfl
        rw [e10]
        unfold gains at hd
        rcases List.mem_cons.mp hd with rfl | hd
        · have hm : (startsV cs).getD k 0 ∈ startsV cs := by
            rw [List.getD_eq_getElem?_getD, List.getElem?_eq_getElem (by rw [hst.1]; exact hk2)]
            exact List.getElem_mem _
          have := hst.2 _ hm
          lia
        · refine e1a2 (List.mem_map.mp hd :) fun t ht r2q => ?_; subst r2q
          have ht' := List.mem_range.mp ht
          have h1 := hbd (t + 1) (by lia)
          have h2 := hbd t (by lia)
          lia
    · have e : [lossV cs (at0 (numW cs) 7), lossV cs (at0 (numW cs) 8)].map D.int = [at0 (numW cs) 7, at0 (numW cs) 8].map fun v => D.int (lossV cs v) := rfl
      rw [e]
      refine EvN_comp (frozen := true) (ds := [at0 (numW cs) 7, at0 (numW cs) 8].map D.int) [("number", .loc, none), ("steps", .cap, some (.int (stepsV cs))), ("width", .cap, some (.int (widthV cs)))] ?_ (by walk_at "comps") (fun L2 cells2 => ?_) (by show 2 ≤ sizeLine; decide)
      · have e2 : [at0 (numW cs) 7, at0 (numW cs) 8].map D.int = (((numW cs).map D.int).drop (W.kms_lo (some 7) ((numW cs).map D.int).length)).take (W.kms_hi none ((numW cs).map D.int).length - W.kms_lo (some 7) ((numW cs).map D.int).length) := rfl
        rw [e2]
        exact EvI_list (Ev_sliceL (by walk_at "v") (.some Ev_int) .none (by rw [List.length_map]; show 9 ≤ sizeLine; decide))
      · refine CompR_map D.int (fun v => D.int (lossV cs v)) [at0 (numW cs) 7, at0 (numW cs) 8] fun v hv => ?_
        have hvb : intBits v ≤ 5508 := by
          simp only [List.mem_cons, List.not_mem_nil, or_false] at hv
          rcases hv with rfl | rfl
          · exact numW_bits (by decide)
          · exact numW_bits (by decide)
        refine ⟨_, .name (by walk_at "up"), .lose (.same (.same .nil)), .nil, ?_⟩
        unfold lossV
        have e2 : v.fmod (2 ^ (widthV cs * stepsV cs)) * 2 ^ widthV cs = v.fmod (2 ^ (widthV cs * stepsV cs)) * 2 ^ ((widthV cs : Int)).toNat := by congr 1
        have hb2 : intBits (v.fmod (2 ^ (widthV cs * stepsV cs))) ≤ 5600 := Nat.le_trans (intBits_fmod_le hvb (bits_pow _)) (by lia)
        rw [e2]
        refine Ev_bin (d1 := .int v) (d2 := .int (v.fmod (2 ^ (widthV cs * stepsV cs)) * 2 ^ ((widthV cs : Int)).toNat)) (by walk_at "v") (Ev_bin (d1 := .int (v.fmod (2 ^ (widthV cs * stepsV cs)))) (d2 := .int (widthV cs)) (Ev_bin (d1 := .int v) (d2 := .int (2 ^ (widthV cs * stepsV cs))) (by walk_at "v") (ev_shl (by walk_at "v") (by walk_at "v") (by lia) (by lia)) (op_mod (Int.ne_of_gt (two_pos _)))) (by walk_at "v") (op_shl (by lia) (by lia))) op_sub
  · intro q
    rw [decide_eq_true (gain_loss cs)] at q
    cases q
  · intro _
    exact Ex_nil h
end
end
section
open PySem PySem.Calls PySem.W PySem.Builtin PySem.Builtin.Int PySem.Builtin.Str
noncomputable def movedA (cs : List Int) : Int := ((at0 cs 7).fdiv 729).fmod 5 - 2
noncomputable def movedB (cs : List Int) : Nat := (((at0 cs 7).fdiv 81).fmod 9).toNat
noncomputable def movedV (cs : List Int) : Int := movedA cs * 2 ^ ((widthV cs : Int) * (movedB cs : Int)).toNat
noncomputable def idxI (cs : List Int) : Nat := ((at0 cs 7).fmod 9).toNat
noncomputable def idxJ (cs : List Int) : Nat := (((at0 cs 7).fdiv 9).fmod 9).toNat
noncomputable def ch1 (cs : List Int) : List Int := (numW cs).set (idxI cs) (at0 (numW cs) (idxI cs) + movedV cs)
noncomputable def chW (cs : List Int) : List Int := (ch1 cs).set (idxJ cs) (at0 (ch1 cs) (idxJ cs) - movedV cs)
theorem idxI_ok (cs : List Int) : idxI cs < 9 ∧ ((idxI cs : Nat) : Int) = (at0 cs 7).fmod 9 := by
  have := fm_lt (at0 cs 7) (show (0 : Int) < 9 by decide)
  exact ⟨lt_toNat this, nn_toNat this⟩
theorem idxJ_ok (cs : List Int) : idxJ cs < 9 ∧ ((idxJ cs : Nat) : Int) = ((at0 cs 7).fdiv 9).fmod 9 := by
  have := fm_lt ((at0 cs 7).fdiv 9) (show (0 : Int) < 9 by decide)
  exact ⟨lt_toNat this, nn_toNat this⟩
theorem movedB_ok (cs : List Int) : movedB cs < 9 ∧ ((movedB cs : Nat) : Int) = ((at0 cs 7).fdiv 81).fmod 9 := by
  have := fm_lt ((at0 cs 7).fdiv 81) (show (0 : Int) < 9 by decide)
  exact ⟨lt_toNat this, nn_toNat this⟩
theorem movedA_bits (cs : List Int) : intBits (movedA cs) ≤ 2 := by
  have := fm_lt ((at0 cs 7).fdiv 729) (show (0 : Int) < 5 by decide)
  unfold movedA
  generalize ((at0 cs 7).fdiv 729).fmod 5 = a at *
  rcases (by lia : a = 0 ∨ a = 1 ∨ a = 2 ∨ a = 3 ∨ a = 4) with rfl | rfl | rfl | rfl | rfl <;> decide
theorem moved_exp (cs : List Int) : ((widthV cs : Int) * (movedB cs : Int)).toNat ≤ 5508 := by
  have h1 := (width_ok cs).2
  have h2 : movedB cs ≤ 9 := Nat.le_of_lt (movedB_ok cs).1
  have h3 : widthV cs * movedB cs ≤ 612 * 9 := Nat.mul_le_mul h1 h2
  have e : (widthV cs : Int) * (movedB cs : Int) = ((widthV cs * movedB cs : Nat) : Int) := by simp
  rw [e]
  exact h3
theorem moved_bits (cs : List Int) : intBits (movedV cs) ≤ 5511 := by
  unfold movedV
  refine Nat.le_trans (intBits_mul_le (movedA_bits cs) (bits_pow _)) ?_
  have := moved_exp cs
  lia
theorem ch1_len (cs : List Int) : (ch1 cs).length = 9 := by unfold ch1; rw [List.length_set]; rfl
theorem chW_len (cs : List Int) : (chW cs).length = 9 := by unfold chW; rw [List.length_set, ch1_len]
theorem ch1_bits {cs : List Int} {i : Nat} (hi : i < 9) : intBits (at0 (ch1 cs) i) ≤ 6000 := by
  unfold ch1
  rw [at0_set (by show idxI cs < 9; exact (idxI_ok cs).1)]
  split
  · exact Nat.le_trans (intBits_add_le (numW_bits (idxI_ok cs).1) (moved_bits cs)) (by decide)
  · exact Nat.le_trans (numW_bits hi) (by decide)
theorem chW_bits {cs : List Int} {i : Nat} (hi : i < 9) : intBits (at0 (chW cs) i) ≤ 7000 := by
  unfold chW
  rw [at0_set (by rw [ch1_len]; exact (idxJ_ok cs).1)]
  split
  · exact Nat.le_trans (intBits_sub_le (ch1_bits (idxJ_ok cs).1) (moved_bits cs)) (by decide)
  · exact Nat.le_trans (ch1_bits hi) (by decide)
theorem all_bits {l : List Int} {m : Nat} (hl : l.length = 9) (h : ∀ i < 9, intBits (at0 l i) ≤ m) : ∀ x ∈ l, intBits x ≤ m := by
  intro x hx
  obtain ⟨i, hi, rfl⟩ := List.getElem_of_mem hx
  have := h i (by lia)
  unfold at0 at this
  rw [List.getD_eq_getElem?_getD, List.getElem?_eq_getElem hi] at this
  exact this
noncomputable def forgN (cs : List Int) : List Int := numbersL (widthV cs) (forgW cs)
noncomputable def holdsV (cs nb : List Int) (u : Int) : Bool := holdsB nb (rowsOf cs) (startsV cs) (2 ^ widthV cs) (onesI (widthV cs) (stepsV cs)) (leftI (widthV cs) (stepsV cs)) (2 ^ (widthV cs * stepsV cs)) u
theorem holdsV_iff (cs : List Int) {nb : List Int} (hn : nb.length = 9) {u : Int} (hu : 0 < u) : holdsV cs nb u = decide (nb = numW cs) := by
  have h := holds_iff (w := widthV cs) (s := stepsV cs) (nb := nb) (prog := rowsOf cs) (starts := startsV cs) (rows_good cs) hn (width_ok cs).1 (steps_ok cs).2 (starts_ok cs).1 (starts_ok cs).2 hu
  have e : (holdsV cs nb u = true) ↔ nb = numW cs := h
  by_cases q : nb = numW cs
  · rw [e.mpr q, decide_eq_true q]
  · rw [decide_eq_false q, Bool.eq_false_iff]
    exact fun hh => q (e.mp hh)
theorem forg_iff (cs : List Int) : decide (forgN cs = numW cs) = decide (forgW cs = runW cs) := by
  have h := numbers_inj (w := widthV cs) (B := 12) (rows := forgW cs) (rows' := runW cs) (width_ok cs).1 (by decide) (by rw [forgW_len, runW_len]) (forgW_rows cs) (runW_rows cs)
  have e : forgN cs = numW cs ↔ forgW cs = runW cs := h
  by_cases q : forgW cs = runW cs
  · rw [decide_eq_true q, decide_eq_true (e.mpr q)]
  · rw [decide_eq_false q, decide_eq_false (fun hh => q (e.mp hh))]
section
variable {C : Cx} (G : LG C) {env : Env}
theorem LG.holds {cs nb : List Int} {u : Int} (hn : nb.length = 9) (hnb : ∀ x ∈ nb, intBits x ≤ 20000) (hu : 0 < u) (hub : intBits u ≤ 5000) :
    Cal C 40 (.ref G.f77) [.list (nb.map .int), .list ((rowsOf cs).map rowD), startsD cs, .int (stepsV cs), .int (widthV cs), .int u] (.bool (decide (nb = numW cs))) := by
  rw [← holdsV_iff cs hn hu]
  exact (cal_holds G.F77 G.P G.glist G.P.g7 G.gsum G.grange hn hnb (rows_good cs) (width_ok cs).1 (by have := (width_ok cs).2; lia) (by have := (steps_ok cs).2; lia) (starts_ok cs).1 (starts_ok cs).2 hub (Int.ne_of_gt hu)).mono (by decide)
theorem op_neBools {n : Nat} {a b : Bool} : Op2 C n (compareOp .NotEq) (.bool a) (.bool b) (.bool (!(a == b))) := op_neD (C := C) (n := n) (a := .bool a) (b := .bool b) rfl rfl rfl rfl
theorem op_eqBools {n : Nat} {a b : Bool} : Op2 C n (compareOp .Eq) (.bool a) (.bool b) (.bool (a == b)) := op_eqD (C := C) (n := n) (a := .bool a) (b := .bool b) rfl rfl rfl rfl
set_option maxHeartbeats 400000 in
theorem vc_moved {ns cs : List Int} {x r pg y z nu : Option D} (hc : CellsOk8 cs) {K : Out → Prop} (h : Ex C 40 env (rhoY G ns cs x r pg (some (.list ((rowsOf cs).map rowD))) y z nu (some (.int (movedV cs))) (some (.list ((chW cs).map .int)))) [] ((bodyAt 78).drop 19) K) :
    Ex C 40 env (rhoY G ns cs x r pg (some (.list ((rowsOf cs).map rowD))) y z nu none none) [] ((bodyAt 78).drop 15) K := by
  refine e0a2 (idxI_ok cs :) fun i9 iI => ?_
  refine e0a2 (idxJ_ok cs :) fun j9 jI => ?_
  refine e0a2 (movedB_ok cs :) fun b9 bI => ?_
  have hexp := moved_exp cs
  have hab := movedA_bits cs
  have hw := width_ok cs
  have ewb : ((widthV cs : Int) * (movedB cs : Int)) = ((widthV cs * movedB cs : Nat) : Int) := by simp
  refine Ex_cons ?_
  apply Es_set (d := .int (movedV cs))
  case he =>
    unfold movedV movedA
    refine Ev_bin (d1 := .int (((at0 cs 7).fdiv 729).fmod 5 - 2)) (d2 := .int ((widthV cs : Int) * (movedB cs : Int))) (Ev_bin (d1 := .int (((at0 cs 7).fdiv 729).fmod 5)) (d2 := .int 2) (ev_mod (ev_div (ev_cell (i := 7) hc (by decide) (by walk_at "at")) (by decide) (by decide)) (by decide)) Ev_int op_sub) (Ev_bin (d1 := .int (widthV cs)) (d2 := .int (movedB cs)) (by walk_at "v") ?_ (op_mul (IntMulOk.of_left (Nat.le_trans (bits_lt (n := 60) (by exact Int.natCast_nonneg (widthV cs)) (by lia)) (by decide))))) (op_shl (by rw [ewb]; exact Int.natCast_nonneg (widthV cs * movedB cs)) ?_)
    · rw [bI]
      exact ev_mod (ev_div (ev_cell (i := 7) hc (by decide) (by walk_at "at")) (by decide) (by decide)) (by decide)
    · unfold movedA at hab
      rw [ewb] at hexp ⊢
      lia
  case hu => walk_at "up"
  refine Ex_cons ?_
  apply Es_setN
  case he => exact EvN_listOf (ds := (numW cs).map D.int) (by walk_at "at") (by walk_at "v") rfl (by rw [List.length_map]; show 9 ≤ sizeLine; decide)
  case hu => intro a; walk_at "up"
  case hs => rfl
  intro ch
  have gI : ∀ l : List Int, l.length = 9 → (l.map D.int)[((at0 cs 7).fmod 9).toNat]? = some (.int (at0 l (idxI cs))) := fun l hl => by
    show (l.map D.int)[idxI cs]? = _
    rw [List.getElem?_map, at0_get (by rw [hl]; exact i9)]; rfl
  have gJ : ∀ l : List Int, l.length = 9 → (l.map D.int)[(((at0 cs 7).fdiv 9).fmod 9).toNat]? = some (.int (at0 l (idxJ cs))) := fun l hl => by
    show (l.map D.int)[idxJ cs]? = _
    rw [List.getElem?_map, at0_get (by rw [hl]; exact j9)]; rfl
  refine Ex_cons ?_
  refine Es_setitem (EvW_pure (d := .int (at0 (numW cs) (idxI cs) + movedV cs)) ?_ ⟨ch, (at0 cs 7).fmod 9, (numW cs).map .int, [(ch, (ch1 cs).map .int)], by walk_at "v", ?_, by rw [← iI]; exact Int.natCast_nonneg (idxI cs), by rw [← iI, List.length_map]; show (idxI cs : Int) < ((9 : Nat) : Int); lia, by rw [← iI]; lia, ?_, ?_⟩)
  · refine Ev_bin (d1 := .int (at0 (numW cs) (idxI cs))) (d2 := .int (movedV cs)) (Ev_subO (a := ch) (k := (at0 cs 7).fmod 9) (by walk_at "v") ?_ .head (by rw [← iI]; exact Int.natCast_nonneg (idxI cs)) (by rw [← iI]; lia) (gI _ rfl) (fun _ _ => rfl)) (by walk_at "v") op_add
    exact ev_mod (ev_cell (i := 7) hc (by decide) (by walk_at "at")) (by decide)
  · exact ev_mod (ev_cell (i := 7) hc (by decide) (by walk_at "at")) (by decide)
  · have e : (ch1 cs).map D.int = ((numW cs).map D.int).set ((at0 cs 7).fmod 9).toNat (.int (at0 (numW cs) (idxI cs) + movedV cs)) := by
      unfold ch1
      rw [List.map_set]; rfl
    rw [e]; exact .head
  refine Ex_cons ?_
  refine Es_setitem (EvW_pure (d := .int (at0 (ch1 cs) (idxJ cs) - movedV cs)) ?_ ⟨ch, ((at0 cs 7).fdiv 9).fmod 9, (ch1 cs).map .int, [(ch, (chW cs).map .int)], by walk_at "v", ?_, by rw [← jI]; exact Int.natCast_nonneg (idxJ cs), by rw [← jI, List.length_map, ch1_len]; lia, by rw [← jI]; lia, ?_, ?_⟩)
  · refine Ev_bin (d1 := .int (at0 (ch1 cs) (idxJ cs))) (d2 := .int (movedV cs)) (Ev_subO (a := ch) (k := ((at0 cs 7).fdiv 9).fmod 9) (by walk_at "v") ?_ .head (by rw [← jI]; exact Int.natCast_nonneg (idxJ cs)) (by rw [← jI]; lia) (gJ _ (ch1_len cs)) (fun _ _ => rfl)) (by walk_at "v") op_sub
    exact ev_mod (ev_div (ev_cell (i := 7) hc (by decide) (by walk_at "at")) (by decide) (by decide)) (by decide)
  · exact ev_mod (ev_div (ev_cell (i := 7) hc (by decide) (by walk_at "at")) (by decide) (by decide)) (by decide)
  · have e : (chW cs).map D.int = ((ch1 cs).map D.int).set (((at0 cs 7).fdiv 9).fmod 9).toNat (.int (at0 (ch1 cs) (idxJ cs) - movedV cs)) := by
      unfold chW
      rw [List.map_set]; rfl
    rw [e]; exact .head
  refine Ex_freeze .head ?_ .same h
  exact .skip (.skip (.skip (.skip (.skip (.skip (.skip (.skip (.skip (.skip (.skip (.skip (.skip (.skip (.skip (.skip (.skip (.skip (.skip (.skip (.skip (.cons .here .same nofun)))))))))))))))))))))
set_option maxHeartbeats 400000 in
theorem vc_last {ns cs : List Int} {x r pg y z nu mv : Option D} (hc : CellsOk8 cs) {K : Out → Prop} (h : ∀ own, K (.ret (.bool true) own)) :
    Ex C 40 env (rhoY G ns cs x r pg (some (.list ((rowsOf cs).map rowD))) y z nu mv (some (.list ((chW cs).map .int)))) [] ((bodyAt 78).drop 19) K := by
  refine e0a2 (unit_ok hc :) fun u0 ub => ?_
  have hnum : ∀ i < 9, intBits (at0 (numW cs) i) ≤ 20000 := fun i hi => Nat.le_trans (numW_bits hi) (by decide)
  have hch : ∀ i < 9, intBits (at0 (chW cs) i) ≤ 20000 := fun i hi => Nat.le_trans (chW_bits hi) (by decide)
  have hfg : ∀ i < 9, intBits (at0 (forgN cs) i) ≤ 20000 := fun i hi => by
    have := numbers_bits (w := widthV cs) (B := 12) (width_ok cs).1 (by decide) (forgW_rows cs) hi
    rw [forgW_len] at this
    have hl := wlen (cs := cs)
    exact Nat.le_trans this (by lia)
  have ub1 : intBits (unitV cs + 1) ≤ 5000 := Nat.le_trans (intBits_add_le ub (by decide : intBits 1 ≤ 1)) (by decide)
  have ub2 : intBits (unitV cs + 2) ≤ 5000 := Nat.le_trans (intBits_add_le ub (by decide : intBits 2 ≤ 2)) (by decide)
  refine Ex_cons ?_
  apply Es_if (b := (!decide (numW cs = numW cs)) || (!(decide (chW cs = numW cs) == decide (chW cs = numW cs))))
  · refine EvT_or2 (EvT_not (EvT_boolv (Ev_callF (f := G.f77) (ds := [.list ((numW cs).map .int), .list ((rowsOf cs).map rowD), startsD cs, .int (stepsV cs), .int (widthV cs), .int (unitV cs)]) (by walk_at "at") G.F77.fnObj (by walk_at "v") (G.holds rfl (all_bits rfl hnum) u0 (by lia))))) (EvT_cmp (d1 := .bool (decide (chW cs = numW cs))) (d2 := .bool (decide (chW cs = numW cs))) ?_ ?_ op_neBools rfl)
    · exact Ev_callF (f := G.f77) (ds := [.list ((chW cs).map .int), .list ((rowsOf cs).map rowD), startsD cs, .int (stepsV cs), .int (widthV cs), .int (unitV cs + 1)]) (by walk_at "at") G.F77.fnObj (by walk_at "v") (G.holds (chW_len cs) (all_bits (chW_len cs) hch) (by lia) ub1)
    · exact Ev_cmp (d1 := .list ((chW cs).map .int)) (d2 := .list ((numW cs).map .int)) (by walk_at "v") (by walk_at "v") op_eqRow rfl
  · intro q
    simp at q
  · intro _
    refine Ex_nil (Ex_cons ?_)
    refine Es_ret (d := .bool true) ?_ (h _)
    have e : D.bool true = .bool (decide (forgN cs = numW cs) == decide (forgW cs = runW cs)) := by rw [forg_iff, beq_self_eq_true]
    rw [e]
    refine Ev_cmp (d1 := .bool (decide (forgN cs = numW cs))) (d2 := .bool (decide (forgW cs = runW cs))) ?_ ?_ op_eqBools rfl
    · refine Ev_callF (f := G.f77) (ds := [.list ((forgN cs).map .int), .list ((rowsOf cs).map rowD), startsD cs, .int (stepsV cs), .int (widthV cs), .int (unitV cs + 2)]) (by walk_at "at") G.F77.fnObj (.cons ?_ (by walk_at "v") rfl) (G.holds rfl (all_bits rfl hfg) (by lia) ub2)
      exact Ev_callF (f := G.f76) (ds := [.list ((forgW cs).map rowD), .int (widthV cs)]) (by walk_at "at") G.F76.fnObj (by walk_at "v") (G.numbers (B := 12) (by have := (width_ok cs).2; lia) (by decide) (forgW_rows cs) (by rw [forgW_len]; have := (steps_ok cs).2; lia))
    · exact Ev_cmp (d1 := .list ((forgW cs).map rowD)) (d2 := .list ((runW cs).map rowD)) (by walk_at "v") (by walk_at "v") op_eqRows rfl
theorem vc_law {ns : List Int} (hns : ns.length ≤ 63) (cc : Addr) {K : Out → Prop} (h : ∀ own, K (.ret (.bool true) own)) :
    Ex C 40 env (rhoW G ns (some (.ref cc)) none none none none none none none none none none none none none none none none none none none none) [(cc, [54, 1, 12, 6, 4, 3, 74, 2520].map D.int)] ((bodyAt 78).drop 1) K := by
  exact @vc_cells C G 40 env ns hns cc K fun cs x hc => @vc_drawn C G 40 env ns cs x hc K (@vc_text C G 40 env ns cs x hc K (@vc_four C G env 40 ns cs x hc K (@vc_page C G env ns cs x hc K (@vc_told C G env ns cs x _ _ hc K fun y z => @vc_runs C G env ns cs x _ y z hc K (@vc_back C G env ns cs x _ _ y z K fun r z nu => @vc_gain C G env ns cs x r _ _ y z nu K (@vc_moved C G env ns cs x r _ y z nu hc K (@vc_last C G env ns cs x r _ y z nu _ hc K h)))))))
end
end
section
open PySem PySem.Calls PySem.W PySem.Builtin PyProof.Rows
noncomputable def fdOf (K : Frag) (a : Addr) : FuncData := match K.lookup a with
  | some ⟨_, _, .func fd, _⟩ => fd
  | _ => default
noncomputable def isFn (K : Frag) (a : Addr) : Bool := match K.lookup a with
  | some ⟨_, _, .func _, _⟩ => true
  | _ => false
noncomputable def codeOk (K : Frag) (cd : Value) (q : Str) : Bool := match cd with
  | .ref c => (match K.lookup c with
    | some ⟨_, _, .fields vs, _⟩ => (match (vs[1]? : Option Value) with
      | some (.str x _) => x == q
      | _ => false)
    | _ => false)
  | _ => false
theorem isFn_obj {K : Frag} {h : Heap} {a : Addr} (X : K.In h) (e : isFn K a = true) : ∃ o, h.get? a = some o ∧ o.data = .func (fdOf K a) := by
  unfold isFn at e
  split at e
  · rename_i c d fd sl q
    refine ⟨_, X _ _ q, ?_⟩
    unfold fdOf
    rw [q]
  · cases e
theorem codeOk_rec {K : Frag} {h : Heap} {cd : Value} {q : Str} (X : K.In h) (e : codeOk K cd q = true) : h.CodeRec cd q := by
  unfold codeOk at e
  split at e
  · rename_i c
    split at e
    · rename_i cl dd vs sl hl
      split at e
      · rename_i x t hv
        have : x = q := by simpa using e
        subst this
        exact ⟨c, _, vs, t, rfl, X _ _ hl, rfl, hv⟩
      · cases e
    · cases e
  · cases e
structure FK (K : Frag) (i : Nat) (a : Addr) : Prop where
  fn : isFn K a = true
  code : codeOk K (fdOf K a).code (fdOf K a).qualname = true
  body : (fdOf K a).body = .stmts (bodyAt i)
  scope : (fdOf K a).scope = scopeAt i
  pars : (fdOf K a).params = parsAt i
  cl : (fdOf K a).closure = []
  gl : (fdOf K a).globals = mainGlobals
  bl : (fdOf K a).builtins = builtinsNs
  df : (fdOf K a).defaults = .none
  kd : (fdOf K a).kwdefaults = .none
theorem FK.fnI {C : Cx} {K : Frag} {i : Nat} {a : Addr} (X : K.In C.G) (h : FK K i a) : FnI C i a (fdOf K a) :=
  ⟨isFn_obj X h.fn, codeOk_rec X h.code, h.body, h.scope, h.pars, h.cl, h.gl, h.bl, h.df, h.kd⟩
noncomputable def tokTab : List (Str × Int) := ("!", 54) :: ("!=", 28) :: ("%", 24) :: ("%=", 40) :: ("&", 19) :: ("&=", 41) :: ("(", 7) :: (")", 8) :: ("*", 16) :: ("**", 35) :: ("**=", 46) :: ("*=", 38) :: ("+", 14) :: ("+=", 36) :: (",", 12) :: ("-", 15) :: ("-=", 37) :: ("->", 51) :: (".", 23) :: ("...", 52) :: ("/", 17) :: ("//", 47) :: ("//=", 48) :: ("/=", 39) :: (":", 11) :: (":=", 53) :: (";", 13) :: ("<", 20) :: ("<<", 33) :: ("<<=", 44) :: ("<=", 29) :: ("=", 22) :: ("==", 27) :: (">", 21) :: (">=", 30) :: (">>", 34) :: (">>=", 45) :: ("@", 49) :: ("@=", 50) :: ("[", 9) :: ("]", 10) :: ("^", 32) :: ("^=", 43) :: ("{", 25) :: ("|", 18) :: ("|=", 42) :: ("}", 26) :: ("~", 31) :: []
noncomputable def exT (k : Str) : Option Int := tokTab.lookup k
inductive TokR : List DictEntry → List (Str × Int) → Prop
  | nil : TokR [] []
  | cons {h : Int} {x : Str} {t u : Tok} {v : Int} {es l} : TokR es l → TokR (⟨h, .str x t, .int v u⟩ :: es) ((x, v) :: l)
theorem TokR.find {es : List DictEntry} {l : List (Str × Int)} (h : TokR es l) (k : Str) : (l.lookup k = none → (es.find? fun e => Value.isStrOf k e.key).map (·.val) = none) ∧ ∀ v, l.lookup k = some v → ∃ t, (es.find? fun e => Value.isStrOf k e.key).map (·.val) = some (.int v t) := by
  induction h with
  | nil => exact ⟨fun _ => rfl, nofun⟩
  | @cons hh x t u v es l _ ih =>
    rw [List.lookup_cons, List.find?_cons]
    have e : Value.isStrOf k (.str x t) = (k == x) := by
      by_cases q : k = x
      · subst q; simp [Value.isStrOf]
      · have q' : ¬ x = k := fun r => q r.symm
        have e2 : (k == x) = false := by simpa using q
        rw [e2]
        simp [Value.isStrOf, q, q']
    show _ ∧ _
    simp only [e]
    cases hb : k == x with
    | true => exact ⟨nofun, fun v' hv => by cases hv; exact ⟨u, rfl⟩⟩
    | false => exact ih
theorem tok_mem {l : List (Str × Int)} {k : Str} {v : Int} (h : l.lookup k = some v) : (k, v) ∈ l := by
  induction l with
  | nil => cases h
  | cons p r ih =>
    rw [List.lookup_cons] at h
    cases hb : k == p.1 with
    | true =>
      rw [hb] at h
      cases h
      have : k = p.1 := by simpa using hb
      rw [this]; exact List.mem_cons_self
    | false => rw [hb] at h; exact List.mem_cons_of_mem _ (ih h)
theorem tab_bad : ∀ p ∈ tokTab, ∀ c ∈ p.1.cps.toList, c ∉ [97, 98, 99, 100, 34, 9, 10, 13] := by decide +kernel
theorem exT_bad {l : List Nat} (h : ∃ c ∈ l, c ∈ [97, 98, 99, 100, 34, 9, 10, 13]) : exT (txt l) = none := by
  cases e : exT (txt l) with
  | none => rfl
  | some v =>
    refine e1a2 (h :) fun c hc hb => ?_
    have := tab_bad _ (tok_mem e) c (by rw [txt_list]; exact hc)
    exact absurd hb this
theorem exT_X : TokX exT := by
  refine ⟨fun l h => exT_bad h, ?_, ?_, ?_, ?_, ?_, ?_, ?_⟩
  · intro a ha b hb
    simp only [List.mem_cons, List.not_mem_nil, or_false] at ha hb
    rcases ha with rfl | rfl <;> rcases hb with rfl | rfl <;> decide +kernel
  · intro a ha
    simp only [List.mem_cons, List.not_mem_nil, or_false] at ha
    rcases ha with rfl | rfl <;> decide +kernel
  · decide +kernel
  · decide +kernel
  · decide +kernel
  · decide +kernel
  · decide +kernel
theorem exT_no : exT (txt [109]) = none ∧ exT (txt [112]) = none ∧ exT (txt [59]) = some 13 := by decide +kernel
theorem exT_T : TokT exT := by
  refine ⟨by rw [exT_X.am]; decide, exT_bad ⟨97, by simp, by simp⟩, exT_no.1, exT_no.2.1, exT_no.2.2⟩
end
section
open PySem PySem.Calls PySem.W PySem.Builtin PyProof.Rows
structure HK (K : Frag) (P : Params) : Prop where
  f2 : FK K 2 21
  f3 : FK K 3 28
  f4 : FK K 4 35
  f5 : FK K 5 42
  f6 : FK K 6 49
  f7 : FK K 7 56
  f60 : FK K 60 66
  f61 : FK K 61 73
  f62 : FK K 62 80
  f65 : FK K 65 94
  f66 : FK K 66 101
  f67 : FK K 67 108
  f68 : FK K 68 115
  f69 : FK K 69 122
  f71 : FK K 71 129
  f72 : FK K 72 134
  f73 : FK K 73 139
  f74 : FK K 74 146
  f75 : FK K 75 151
  f76 : FK K 76 156
  f77 : FK K 77 161
  c4 : (fdOf K 35).code = .ref 34
  c5 : (fdOf K 42).code = .ref 41
  q4 : (fdOf K 35).qualname = "_int2digits"
  q5 : (fdOf K 42).qualname = "_digits2int"
  n0 : ∃ t, nsIn K mainGlobals "_DIV_LIMIT" = some (some (.int 4000 t))
  n1 : ∃ t, nsIn K mainGlobals "NT_OFFSET" = some (some (.int 256 t))
  n2 : ∃ t, nsIn K mainGlobals "ENDMARKER" = some (some (.int 0 t))
  n3 : nsIn K mainGlobals "_div2n1n" = some (some (.ref 21))
  n4 : nsIn K mainGlobals "_div3n2n" = some (some (.ref 28))
  n5 : nsIn K mainGlobals "_int2digits" = some (some (.ref 35))
  n6 : nsIn K mainGlobals "_digits2int" = some (some (.ref 42))
  n7 : nsIn K mainGlobals "_divmod_pos" = some (some (.ref 49))
  n8 : nsIn K mainGlobals "int_divmod" = some (some (.ref 56))
  n9 : nsIn K mainGlobals "EXACT_TOKEN_TYPES" = some (some (.ref 57))
  m60 : nsIn K mainGlobals "ISTERMINAL" = some (some (.ref 66))
  m61 : nsIn K mainGlobals "ISNONTERMINAL" = some (some (.ref 73))
  m62 : nsIn K mainGlobals "ISEOF" = some (some (.ref 80))
  m65 : nsIn K mainGlobals "_escape_cdata" = some (some (.ref 94))
  m66 : nsIn K mainGlobals "_escape_attrib" = some (some (.ref 101))
  m67 : nsIn K mainGlobals "_escape_attrib_html" = some (some (.ref 108))
  m68 : nsIn K mainGlobals "_escape_cdata_c14n" = some (some (.ref 115))
  m69 : nsIn K mainGlobals "_escape_attrib_c14n" = some (some (.ref 122))
  m71 : nsIn K mainGlobals "_law_write" = some (some (.ref 129))
  m72 : nsIn K mainGlobals "_law_spelled" = some (some (.ref 134))
  m73 : nsIn K mainGlobals "_law_symbols" = some (some (.ref 139))
  m74 : nsIn K mainGlobals "_law_program" = some (some (.ref 146))
  m75 : nsIn K mainGlobals "_law_run" = some (some (.ref 151))
  m76 : nsIn K mainGlobals "_law_numbers" = some (some (.ref 156))
  m77 : nsIn K mainGlobals "_law_holds" = some (some (.ref 161))
  b0 : nsIn K mainGlobals "divmod" = some none
  b1 : nsIn K mainGlobals "len" = some none
  b2 : nsIn K mainGlobals "reversed" = some none
  b3 : nsIn K mainGlobals "range" = some none
  b4 : nsIn K mainGlobals "min" = some none
  b5 : nsIn K mainGlobals "sum" = some none
  b6 : nsIn K mainGlobals "list" = some none
  b7 : nsIn K mainGlobals "zip" = some none
  b8 : nsIn K mainGlobals "isinstance" = some none
  b9 : nsIn K mainGlobals "bool" = some none
  bm : nsIn K mainGlobals "__builtins__" = some (some (.ref 4))
  tok : ∃ es n, K.lookup 57 = some ⟨.type "dict", none, .dict es n, #[]⟩ ∧ KeysLit P es.toList ∧ TokR es.toList tokTab
noncomputable def qual4 : Str := "_int2digits" ++ ".<locals>." ++ "inner"
noncomputable def qual5 : Str := "_digits2int" ++ ".<locals>." ++ "inner"
noncomputable def cxOf (w : World) (g : Heap) : Cx := { prog := PySem.Challenge.rw_wb0077_01.row.prog, w := w, G := g, tabs := [(41, 37, qual5), (34, 30, qual4)] }
structure HG (w : World) (K : Frag) (g : Heap) (mg mb : Str → Option Value) : Prop where
  X : K.In g
  gn : g.Ns mainGlobals mg
  bn : g.Ns builtinsNs mb
  bb : ∀ x : Str, x ≠ "__name__" → mb x = bootBuiltins x
  lim : g.NoLimit
  bmain : ∃ bm ob, mg "__builtins__" = some (.ref bm) ∧ bm ≠ builtinsNs ∧ g.get? bm = some ob ∧ ob.cls = .type "module" ∧ ob.dict = some builtinsNs ∧ ob.data = .plain
  h4 : CodeHd g 34 30
  h5 : CodeHd g 41 37
section
variable {w : World} {K : Frag} {g : Heap} {mg mb : Str → Option Value}
theorem HG.name (H : HG w K g mg mb) {x : Str} {v : Value} (e : nsIn K mainGlobals x = some (some v)) {d : D} (hv : VR (cxOf w g) g [] v d) : GlobD (cxOf w g) x d :=
  ⟨v, ⟨mg, H.gn, .inl (mg_of H.X H.gn e)⟩, hv⟩
theorem HG.built (H : HG w K g mg mb) {x : Str} {v : Value} (e : nsIn K mainGlobals x = some none) (hx : x ≠ "__name__") (hv : bootBuiltins x = some v) : GlobD (cxOf w g) x (.val v) :=
  ⟨v, ⟨mg, H.gn, .inr ⟨mg_none_of H.X H.gn e, mb, H.bn, by rw [H.bb x hx, hv]⟩⟩, .val _⟩
theorem HG.mkc (H : HG w K g mg mb) (hK : HK K w.params) {c P : Addr} {q : Str} (ht : (c, P, q) ∈ (cxOf w g).tabs) (h1 : ∀ t ∈ (cxOf w g).tabs, t.2.1 = P → t.2.2 = q) (hd : CodeHd g c P) : Mk (cxOf w g) c P q := by
  refine ⟨ht, h1, hd, mg, H.gn, ?_⟩
  refine e2a3 (H.bmain :) fun bm ob e1 e2 e3 => ?_
  have := mg_of H.X H.gn hK.bm
  rw [e1] at this
  have hb : bm = 4 := by cases this; rfl
  exact ⟨bm, ob, e1, e2, by rw [hb]; decide, e3⟩
theorem HG.imap (H : HG w K g mg mb) (hK : HK K w.params) : VR (cxOf w g) g [] (.ref 57) (.imap exT) := by
  refine e2a3 (hK.tok :) fun es n hl hk ht => ?_
  have hm := mapOf_K (prog := (cxOf w g).prog) (w := w) H.X hl hk
  have hf : ∀ k, findBy Value.isStrOf es k = (es.toList.find? fun e => Value.isStrOf k e.key).map (·.val) := fun k => by
    unfold findBy
    rw [← Array.find?_toList]
  refine .imap nofun (by decide) hm (fun k hk' => ?_) fun k x hk' => ?_
  · rw [hf]; exact (ht.find k).1 hk'
  · rw [hf]; exact (ht.find k).2 x hk'
noncomputable def HG.pyl (H : HG w K g mg mb) (hK : HK K w.params) : Pyl (cxOf w g) where
  f2 := 21
  f3 := 28
  f4 := 35
  f5 := 42
  f6 := 49
  f7 := 56
  fd2 := fdOf K 21
  fd3 := fdOf K 28
  fd4 := fdOf K 35
  fd5 := fdOf K 42
  fd6 := fdOf K 49
  fd7 := fdOf K 56
  c4 := 34
  P4 := 30
  q4 := qual4
  c5 := 41
  P5 := 37
  q5 := qual5
  F2 := hK.f2.fnI H.X
  F3 := hK.f3.fnI H.X
  F4 := hK.f4.fnI H.X
  F5 := hK.f5.fnI H.X
  F6 := hK.f6.fnI H.X
  F7 := hK.f7.fnI H.X
  lim := H.lim
  gD := e1a1 (hK.n0 :) fun t e => H.name e (.int _ _)
  gdm := H.built hK.b0 (by decide) rfl
  glen := H.built hK.b1 (by decide) rfl
  grev := H.built hK.b2 (by decide) rfl
  g2 := H.name hK.n3 (.ref _)
  g3 := H.name hK.n4 (.ref _)
  g4 := H.name hK.n5 (.ref _)
  g5 := H.name hK.n6 (.ref _)
  g6 := H.name hK.n7 (.ref _)
  g7 := H.name hK.n8 (.ref _)
  M4 := H.mkc hK (by unfold cxOf; simp) (by intro t ht; unfold cxOf at ht; simp at ht; rcases ht with rfl | rfl <;> simp) H.h4
  M5 := H.mkc hK (by unfold cxOf; simp) (by intro t ht; unfold cxOf at ht; simp at ht; rcases ht with rfl | rfl <;> simp) H.h5
  h4 := hK.c4
  h5 := hK.c5
  n4 := by rw [hK.q4]; rfl
  n5 := by rw [hK.q5]; rfl
noncomputable def HG.lg (H : HG w K g mg mb) (hK : HK K w.params) : LG (cxOf w g) where
  P := H.pyl hK
  f60 := 66
  f61 := 73
  f62 := 80
  f65 := 94
  f66 := 101
  f67 := 108
  f68 := 115
  f69 := 122
  f71 := 129
  f72 := 134
  f73 := 139
  f74 := 146
  f75 := 151
  f76 := 156
  f77 := 161
  d60 := fdOf K 66
  d61 := fdOf K 73
  d62 := fdOf K 80
  d65 := fdOf K 94
  d66 := fdOf K 101
  d67 := fdOf K 108
  d68 := fdOf K 115
  d69 := fdOf K 122
  d71 := fdOf K 129
  d72 := fdOf K 134
  d73 := fdOf K 139
  d74 := fdOf K 146
  d75 := fdOf K 151
  d76 := fdOf K 156
  d77 := fdOf K 161
  ex := exT
  F60 := hK.f60.fnI H.X
  F61 := hK.f61.fnI H.X
  F62 := hK.f62.fnI H.X
  F65 := hK.f65.fnI H.X
  F66 := hK.f66.fnI H.X
  F67 := hK.f67.fnI H.X
  F68 := hK.f68.fnI H.X
  F69 := hK.f69.fnI H.X
  F71 := hK.f71.fnI H.X
  F72 := hK.f72.fnI H.X
  F73 := hK.f73.fnI H.X
  F74 := hK.f74.fnI H.X
  F75 := hK.f75.fnI H.X
  F76 := hK.f76.fnI H.X
  F77 := hK.f77.fnI H.X
  T := exT_T
  X := exT_X
  hG := ⟨mg, H.gn⟩
  gNT := e1a1 (hK.n1 :) fun t e => H.name e (.int _ _)
  gEM := e1a1 (hK.n2 :) fun t e => H.name e (.int _ _)
  gEX := H.name hK.n9 (H.imap hK)
  g60 := H.name hK.m60 (.ref _)
  g61 := H.name hK.m61 (.ref _)
  g62 := H.name hK.m62 (.ref _)
  g65 := H.name hK.m65 (.ref _)
  g66 := H.name hK.m66 (.ref _)
  g67 := H.name hK.m67 (.ref _)
  g68 := H.name hK.m68 (.ref _)
  g69 := H.name hK.m69 (.ref _)
  g71 := H.name hK.m71 (.ref _)
  g72 := H.name hK.m72 (.ref _)
  g73 := H.name hK.m73 (.ref _)
  g74 := H.name hK.m74 (.ref _)
  g75 := H.name hK.m75 (.ref _)
  g76 := H.name hK.m76 (.ref _)
  g77 := H.name hK.m77 (.ref _)
  grange := H.built hK.b3 (by decide) rfl
  gmin := H.built hK.b4 (by decide) rfl
  gsum := H.built hK.b5 (by decide) rfl
  glist := H.built hK.b6 (by decide) rfl
  gzip := H.built hK.b7 (by decide) rfl
  gisi := H.built hK.b8 (by decide) rfl
  gbool := H.built hK.b9 (by decide) rfl
end
end
section
open PySem PySem.Calls PySem.W PySem.Builtin PyProof.Rows
theorem fnr_has {C : Cx} {X X' : List Addr} {h h' : Heap} {scope : Scope} {env : Env} {m : Str → Option Value} {ρ : Rho} (hF : FnR C X h scope [] ρ) (hk : ∀ x, env.kindOf x = scope.names.lookup x)
    (hc : ∀ x, scope.names.lookup x = some .cell → ∃ c, env.cells.lookup x = some c ∧ c ∉ C.tP ∧ h'.IsCell c none) : ∀ p ∈ ρ, HasV C X' env h' m p := by
  induction hF with
  | nil => intro p hp; cases hp
  | loc h0 hl _ ih =>
    intro p hp
    rcases List.mem_cons.mp hp with rfl | hp
    · exact .loc h0 (by rw [hk, hl]) nofun
    · exact ih p hp
  | cel h0 hl _ ih =>
    intro p hp
    rcases List.mem_cons.mp hp with rfl | hp
    · refine e1a3 (hc _ hl :) fun c e1 e2 e3 => ?_
      exact .cell h0 (by rw [hk, hl]) ⟨c, none, e1, e2, e3, nofun⟩
    · exact ih p hp
  | fre h0 hl hc' _ ih =>
    intro p hp
    rcases List.mem_cons.mp hp with rfl | hp
    · refine e2a2 (hc' :) fun c v hc' _ => ?_
      cases hc'
    · exact ih p hp
  | glo h0 hg hl _ ih =>
    intro p hp
    rcases List.mem_cons.mp hp with rfl | hp
    · exact .glob h0 (by rw [hk, hl]) fun d hd => by cases hd; exact hg
    · exact ih p hp
theorem ints_vrs {C : Cx} {h : Heap} {X : List Addr} {vs : List Value} {ns : List Int} (r : PyProof.Rows.IntsAre vs ns) : VRs C h X vs (ns.map D.int) := by
  induction r with
  | nil => exact .nil
  | cons n t _ ih => exact .cons (.int _ _) ih
noncomputable def envL (name : Str) (L fa : Addr) (cd : Value) : Env := envOfC name (scopeAt 78) L fa cd
theorem envL_cells (name : Str) (L fa : Addr) (cd : Value) : (envL name L fa cd).cells = ([("numbers", L + 5), ("rows", L + 4), ("width", L + 3), ("steps", L + 2), ("starts", L + 1)] : List (Str × Addr)) := rfl
theorem envL_kind (name : Str) (L fa : Addr) (cd : Value) (x : Str) : (envL name L fa cd).kindOf x = (scopeAt 78).names.lookup x := rfl
theorem kind78 : (scopeAt 78).kind = .function := rfl
theorem cell78 {x : Str} (h : (scopeAt 78).names.lookup x = some .cell) : x = "numbers" ∨ x = "rows" ∨ x = "width" ∨ x = "steps" ∨ x = "starts" := by
  have key : ∀ p ∈ (scopeAt 78).names, p.2 = .cell → p.1 = "numbers" ∨ p.1 = "rows" ∨ p.1 = "width" ∨ p.1 = "steps" ∨ p.1 = "starts" := by decide +kernel
  exact key _ (mem_of_lookup h) rfl
theorem offN (L cc b : Nat) (h1 : 37 < L) (h2 : L < cc) (hb : b = L ∨ b = L + 5 ∨ b = L + 4 ∨ b = L + 3 ∨ b = L + 2 ∨ b = L + 1 ∨ b = cc) (hq : b = 37 ∨ b = 30) : False := by lia
theorem room78 (env : Env) : Room (callerA.deeper env) 40 := ⟨rfl, by show (1 + 300) + 1 + 40 < 1000; decide, by show 4 + 3 + 8 * 40 + 200 < 9900; decide⟩
set_option maxHeartbeats 1000000 in
theorem law_ends {w : World} {K : Frag} {g : Heap} {mg mb m : Str → Option Value} {L fa lst : Addr} {vs : List Value} {ns : List Int} {cd : Value} {name : Str} {s : Shared} {o1 o2 o3 o4 o5 : Obj} {Q : Flow → Shared → Prop} {E : Value → Shared → Prop}
    (H : HG w K g mg mb) (hK : HK K w.params) (F : Fr g L s.heap m) (hm : m "script" = some (.ref lst)) (l0 : 37 < L ∧ 30 < L)
    (N : News g L s.heap [(L + 1 + 1 + 1 + 1 + 1, o5), (L + 1 + 1 + 1 + 1, o4), (L + 1 + 1 + 1, o3), (L + 1 + 1, o2), (L + 1, o1), (37, tabObj #[]), (30, tabObj #[])])
    (h1 : o1.data = .cell none) (h2 : o2.data = .cell none) (h3 : o3.data = .cell none) (h4 : o4.data = .cell none) (h5 : o5.data = .cell none)
    (hl : g.IsList lst vs.toArray) (hI : PyProof.Rows.IntsAre vs ns) (hn : ns.length ≤ 63)
    (fin : ∀ h' tk m', Fr g L h' m' → GrownAll [(41, 37), (34, 30)] h' → Q (.ret (.bool true)) { s with heap := h', toks := tk }) :
    wpAny (model PySem.Challenge.rw_wb0077_01.row.prog w) (callerA.deeper (envL name L fa cd)) (execs (bodyAt 78) (envL name L fa cd)) Q E s := by
  let C := cxOf w g
  let G : LG C := H.lg hK
  have tP : C.tP = [37, 30] := rfl
  have hkl : (envL name L fa cd).kindOf "cells" = some .local := by rw [envL_kind]; decide +kernel
  refine wpAny_execs_cons ?_
  refine wpAny_Assign_Name ?_ rfl
  refine wpAny_List ?_
  refine wpAny_items_cons (wpAny_Constant_int ?_) rfl
  refine wpAny_items_cons (wpAny_Constant_int ?_) rfl
  refine wpAny_items_cons (wpAny_Constant_int ?_) rfl
  refine wpAny_items_cons (wpAny_Constant_int ?_) rfl
  refine wpAny_items_cons (wpAny_Constant_int ?_) rfl
  refine wpAny_items_cons (wpAny_Constant_int ?_) rfl
  refine wpAny_items_cons (wpAny_Constant_int ?_) rfl
  refine wpAny_items_cons (wpAny_Constant_int ?_) rfl
  refine wpAny_items_nil ?_
  refine ⟨by show 8 ≤ sizeLine; decide, ?_⟩
  dsimp only
  generalize hH1 : s.heap.push _ = H1
  refine e1a1 ((show ∃ o, s.heap.get? L = some o from e3a2 (F.ns :) fun o _ _ e _ => ⟨o, e⟩) :) fun oL hLo => ?_
  have ltL : L < s.heap.objs.size := Heap.lt_size hLo
  generalize hcc : s.heap.objs.size = cc at *
  have k1 : ∀ b o, s.heap.get? b = some o → H1.get? b = some o := fun b o e => hH1 ▸ Heap.get?_push_of_some _ e
  have F1 : H1.Ns L m := F.ns.keeps k1
  refine wpAny_storeName_local hkl F1 (fun h' hns hs => ?_) (by show ((scopeAt 78).kind == .class || ((scopeAt 78).kind == .module && _)) = false; rw [kind78]; rfl)
  have k2 : ∀ b o, b ≠ L → s.heap.get? b = some o → h'.get? b = some o := fun b o hb e => hs.extBut b o hb (k1 b o e)
  have gL : ∀ b o, g.get? b = some o → b < L := fun b o e => Nat.lt_of_lt_of_le (Heap.lt_size e) F.above
  have keepG : ∀ b o, g.get? b = some o → h'.get? b = some o := fun b o e => k2 b o (Nat.ne_of_lt (gL b o e)) (F.keep b o e)
  have n5 := N _ (.head _)
  have n4 := N _ (.tail _ (.head _))
  have n3 := N _ (.tail _ (.tail _ (.head _)))
  have n2 := N _ (.tail _ (.tail _ (.tail _ (.head _))))
  have n1 := N _ (.tail _ (.tail _ (.tail _ (.tail _ (.head _)))))
  have na := N _ (.tail _ (.tail _ (.tail _ (.tail _ (.tail _ (.head _))))))
  have nb := N _ (.tail _ (.tail _ (.tail _ (.tail _ (.tail _ (.tail _ (.head _)))))))
  have lt5 : L + 5 < cc := hcc ▸ Heap.lt_size n5.1
  have c5 : h'.IsCell (L + 5) none := ⟨o5, k2 _ _ n5.2.1 n5.1, h5⟩
  have c4 : h'.IsCell (L + 4) none := ⟨o4, k2 _ _ n4.2.1 n4.1, h4⟩
  have c3 : h'.IsCell (L + 3) none := ⟨o3, k2 _ _ n3.2.1 n3.1, h3⟩
  have c2 : h'.IsCell (L + 2) none := ⟨o2, k2 _ _ n2.2.1 n2.1, h2⟩
  have c1 : h'.IsCell (L + 1) none := ⟨o1, k2 _ _ n1.2.1 n1.1, h1⟩
  have ta : h'.get? 37 = some (tabObj #[]) := k2 _ _ na.2.1 na.1
  have tb : h'.get? 30 = some (tabObj #[]) := k2 _ _ nb.2.1 nb.1
  have pl : h'.PlainList cc #[.int 54 s.toks, .int 1 (s.toks + 1), .int 12 (s.toks + 1 + 1), .int 6 (s.toks + 1 + 1 + 1), .int 4 (s.toks + 1 + 1 + 1 + 1), .int 3 (s.toks + 1 + 1 + 1 + 1 + 1), .int 74 (s.toks + 1 + 1 + 1 + 1 + 1 + 1), .int 2520 (s.toks + 1 + 1 + 1 + 1 + 1 + 1 + 1)] := by
    refine ⟨0, hs.extBut _ _ (Nat.ne_of_gt ltL) ?_⟩
    rw [← hH1, ← hcc]
    exact Heap.get?_push_size _ rfl
  have hW : Wx (envL name L fa cd) [(cc, [54, 1, 12, 6, 4, 3, 74, 2520].map D.int)] = [L, L + 5, L + 4, L + 3, L + 2, L + 1, cc] := rfl
  have memW : ∀ b, b ∈ Wx (envL name L fa cd) [(cc, [54, 1, 12, 6, 4, 3, 74, 2520].map D.int)] ↔ b = L ∨ b = L + 5 ∨ b = L + 4 ∨ b = L + 3 ∨ b = L + 2 ∨ b = L + 1 ∨ b = cc := fun b => by rw [hW]; simp only [List.mem_cons, List.not_mem_nil, or_false]
  have tabs : TabOk C h' (Wx (envL name L fa cd) [(cc, [54, 1, 12, 6, 4, 3, 74, 2520].map D.int)] ++ [37, 30]) := by
    intro t ht
    have ht' : t = (41, 37, qual5) ∨ t = (34, 30, qual4) := by
      have : t ∈ [((41 : Addr), (37 : Addr), qual5), (34, 30, qual4)] := ht
      simpa using this
    rcases ht' with rfl | rfl
    · exact ⟨#[], ta, trivial, fun pos cv hc => by cases hc⟩
    · exact ⟨#[], tb, trivial, fun pos cv hc => by cases hc⟩
  have toff : ∀ b, b ∈ Wx (envL name L fa cd) [(cc, [54, 1, 12, 6, 4, 3, 74, 2520].map D.int)] → b ∉ ([37, 30] : List Addr) := fun b hb q => by
    have hb' := (memW b).mp hb
    have q' : b = 37 ∨ b = 30 := by simpa using q
    exact offN L cc b l0.1 ltL hb' q'
  have base : ∀ b o, C.G.get? b = some o → b ∉ Wx (envL name L fa cd) [(cc, [54, 1, 12, 6, 4, 3, 74, 2520].map D.int)] ++ [37, 30] ∧ h'.get? b = some o := fun b o e => by
    have e' : g.get? b = some o := e
    refine ⟨fun q => ?_, keepG b o e'⟩
    rcases List.mem_append.mp q with q | q
    · have hbL := gL b o e'
      rcases (memW b).mp q with r | r | r | r | r | r | r
      · exact absurd r (Nat.ne_of_lt hbL)
      · exact absurd r (Nat.ne_of_lt (Nat.lt_of_lt_of_le hbL (Nat.le_add_right _ _)))
      · exact absurd r (Nat.ne_of_lt (Nat.lt_of_lt_of_le hbL (Nat.le_add_right _ _)))
      · exact absurd r (Nat.ne_of_lt (Nat.lt_of_lt_of_le hbL (Nat.le_add_right _ _)))
      · exact absurd r (Nat.ne_of_lt (Nat.lt_of_lt_of_le hbL (Nat.le_add_right _ _)))
      · exact absurd r (Nat.ne_of_lt (Nat.lt_of_lt_of_le hbL (Nat.le_add_right _ _)))
      · exact absurd r (Nat.ne_of_lt (Nat.lt_trans hbL ltL))
    · have q' : b = 37 ∨ b = 30 := by simpa using q
      rcases q' with r | r
      · rw [r, na.2.2] at e'; cases e'
      · rw [r, nb.2.2] at e'; cases e'
  have zG : Fz [] g (Wx (envL name L fa cd) [(cc, [54, 1, 12, 6, 4, 3, 74, 2520].map D.int)] ++ [37, 30]) h' := fun b o _ e => base b o e
  have cells : ∀ x, (scopeAt 78).names.lookup x = some .cell → ∃ c, (envL name L fa cd).cells.lookup x = some c ∧ c ∉ C.tP ∧ h'.IsCell c none := fun x hx => by
    have off : ∀ c, c ∈ Wx (envL name L fa cd) [(cc, [54, 1, 12, 6, 4, 3, 74, 2520].map D.int)] → c ∉ C.tP := fun c hc => toff c hc
    rw [envL_cells]
    rcases cell78 hx with rfl | rfl | rfl | rfl | rfl
    · exact ⟨L + 5, rfl, off _ ((memW _).mpr (.inr (.inl rfl))), c5⟩
    · exact ⟨L + 4, rfl, off _ ((memW _).mpr (.inr (.inr (.inl rfl)))), c4⟩
    · exact ⟨L + 3, rfl, off _ ((memW _).mpr (.inr (.inr (.inr (.inl rfl))))), c3⟩
    · exact ⟨L + 2, rfl, off _ ((memW _).mpr (.inr (.inr (.inr (.inr (.inl rfl)))))), c2⟩
    · exact ⟨L + 1, rfl, off _ ((memW _).mpr (.inr (.inr (.inr (.inr (.inr (.inl rfl))))))), c1⟩
  have S2 : St C [37, 30] (envL name L fa cd) (rhoW G ns (some (.ref cc)) none none none none none none none none none none none none none none none none none none none none) [(cc, [54, 1, 12, 6, 4, 3, 74, 2520].map D.int)] { s with heap := h', toks := s.toks + 1 + 1 + 1 + 1 + 1 + 1 + 1 + 1 + 1 } := by
    refine ⟨⟨⟨base, tabs, fun P hP => List.mem_append_right _ hP, fun b hb => ?_, by show 1 ≤ s.toks + 1 + 1 + 1 + 1 + 1 + 1 + 1 + 1 + 1; exact Nat.le_add_left 1 (s.toks + 8)⟩, kind78, rfl, rfl, toff L ((memW _).mpr (.inl rfl)), ⟨_, hns, ?_⟩, ?_⟩, ?_, toff, fun P hP => hP, ?_⟩
    · rcases List.mem_append.mp hb with q | q
      · rcases (memW b).mp q with r | r | r | r | r | r | r
        · rw [r]; refine e3a2 (hns :) fun o _ _ e _ => ?_; exact ⟨o, e⟩
        · rw [r]; exact ⟨_, c5.choose_spec.1⟩
        · rw [r]; exact ⟨_, c4.choose_spec.1⟩
        · rw [r]; exact ⟨_, c3.choose_spec.1⟩
        · rw [r]; exact ⟨_, c2.choose_spec.1⟩
        · rw [r]; exact ⟨_, c1.choose_spec.1⟩
        · rw [r]; refine e1a1 (pl :) fun nn e => ?_; exact ⟨_, e⟩
      · have q' : b = 37 ∨ b = 30 := by simpa using q
        rcases q' with r | r
        · rw [r]; exact ⟨_, ta⟩
        · rw [r]; exact ⟨_, tb⟩
    · intro p hp
      rcases List.mem_cons.mp hp with rfl | hp
      · refine .loc (by walk_at "nm") (by rw [envL_kind]; decide +kernel) fun d hd => ?_
        cases hd
        refine ⟨.ref lst, ?_, .list (base lst _ hl.choose_spec.1).1 (hl.at fun o e => keepG _ o e) (by simpa using ints_vrs hI)⟩
        show (if ("script" : Str) = "cells" then some (Value.ref cc) else m "script") = _
        rw [if_neg (by decide)]
        exact hm
      rcases List.mem_cons.mp hp with rfl | hp
      · refine .loc (by walk_at "nm") (by rw [envL_kind]; decide +kernel) fun d hd => ?_
        cases hd
        exact ⟨.ref cc, if_pos rfl, .ref _⟩
      · have g1 := G.grange
        have g2 := G.gmin
        have g3 := G.P.glen
        have g4 := G.g71
        have g5 := G.g72
        have g6 := G.g74
        have g7 := G.g73
        have g8 := G.g60
        have g9 := G.g61
        have g10 := G.g62
        have g11 := G.g75
        have g12 := G.g76
        have g13 := G.gsum
        have g14 := G.P.g4
        have g15 := G.glist
        have g16 := G.g77
        refine fnr_has (X := []) (h := h') (scope := scopeAt 78) ?_ (envL_kind name L fa cd) cells p hp
        walk_at "fnr"
    · intro p hp
      rcases List.mem_cons.mp hp with rfl | hp
      · exact ⟨toff cc ((memW _).mpr (.inr (.inr (.inr (.inr (.inr (.inr rfl))))))), _, pl, .cons (.int _ _) (.cons (.int _ _) (.cons (.int _ _) (.cons (.int _ _) (.cons (.int _ _) (.cons (.int _ _) (.cons (.int _ _) (.cons (.int _ _) .nil)))))))⟩
      · cases hp
    · rw [hW]
      have hcc5 : L + 5 < cc := lt5
      have nd : ∀ a b : Nat, a + 5 < b → ([a, a + 5, a + 4, a + 3, a + 2, a + 1, b] : List Nat).Nodup := fun a b h => by
        simp only [List.nodup_cons, List.mem_cons, List.not_mem_nil, or_false, not_or, List.nodup_nil, not_false_iff, and_true]
        lia
      exact nd L cc hcc5
    · walk_at "nd"
  refine vc_law G hn cc (K := fun o => match o with | .ret d _ => d = .bool true | .next _ _ => False) (fun own => rfl) (callerA.deeper (envL name L fa cd)) [37, 30] _ Q E (room78 _) S2 fun out f s' hk ho => ?_
  cases ho with
  | next p S => exact hk.elim
  | @ret ρ' own' d v s' p S r =>
    have hd : d = .bool true := hk
    subst hd
    apply VR.elimB r
    refine e2a2 (p.same :) fun h2 tk2 e2 _ => ?_
    subst e2
    refine e1a2 (S.vars :) fun m2 hns2 _ => ?_
    have t37 := S.tab (41, 37, qual5) (List.mem_cons_self)
    have t30 := S.tab (34, 30, qual4) (List.mem_cons_of_mem _ List.mem_cons_self)
    refine e1a2 (t37 :) fun p1 e1 _ => ?_
    refine e1a2 (t30 :) fun p3 e3 _ => ?_
    exact fin h2 tk2 m2 ⟨hns2, fun b o e => (S.base b o e).2, F.above⟩ ⟨⟨p1, e1⟩, ⟨p3, e3⟩, trivial⟩
end
theorem top.tw8146399340996573465 : True := trivial
theorem top.tw4213018616267185653 : True := trivial
theorem top.tw2464713573024523455 : True := trivial
theorem top.tw5667650583090716360 : True := trivial
theorem top.tw18034075008235765660 : True := trivial
theorem top.tw775762912060472103 : True := trivial
theorem top.tw427269002284569659 : True := trivial
theorem top.tw8598144960395782539 : True := trivial
theorem top.tw1869187583165140508 : True := trivial
theorem top.tw908825868028484722 : True := trivial
theorem top.tw13357618156326962766 : True := trivial
theorem top.tw453181688931711583 : True := trivial
theorem top.tw13369591340354186047 : True := trivial
theorem top.tw16439428074185983240 : True := trivial
theorem top.tw13035992608941671641 : True := trivial
theorem top.tw11858546649754279707 : True := trivial
theorem top.tw7092665756404751892 : True := trivial
theorem top.tw1195175773429642966 : True := trivial
theorem top.tw8645369167282567922 : True := trivial
theorem top.tw1284575025550258836 : True := trivial
theorem top.tw8689318265317240412 : True := trivial
theorem top.tw13272337422414781067 : True := trivial
theorem top.tw13359135706311490777 : True := trivial
theorem top.tw2985252069258134486 : True := trivial
theorem top.tw5088376156974544275 : True := trivial
theorem top.tw1149218181149386328 : True := trivial
theorem top.tw18064794426631996164 : True := trivial
theorem top.tw7847650389618582240 : True := trivial
theorem top.tw14901070454687303710 : True := trivial
theorem top.tw1275901062530889299 : True := trivial
theorem top.tw12342655685612074800 : True := trivial
theorem top.tw16759092144687519636 : True := trivial
theorem top.tw4551080515912023512 : True := trivial
theorem top.tw6431110157172167083 : True := trivial
theorem top.tw15976228082101565994 : True := trivial
theorem top.tw12819366960792805191 : True := trivial
theorem top.tw5476889619067714990 : True := trivial
theorem top.tw17810072253543177317 : True := trivial
theorem top.tw6906291655842520137 : True := trivial
theorem top.tw5058314954733539658 : True := trivial
theorem top.tw2731995056826638727 : True := trivial
theorem top.tw9063741608606530840 : True := trivial
theorem top.tw4671429814451907529 : True := trivial
theorem top.tw11459358961799972967 : True := trivial
theorem top.tw16352630495959832749 : True := trivial
theorem top.tw9059672392935016618 : True := trivial
theorem top.tw4655869559712951663 : True := trivial
theorem top.tw16155163154822807229 : True := trivial
theorem top.tw9601329371697537090 : True := trivial
theorem top.tw16782997733028217545 : True := trivial
theorem top.tw7990429038631628895 : True := trivial
theorem top.tw72247145696351765 : True := trivial
theorem top.tw5118827330378232414 : True := trivial
theorem top.tw16900427199656544559 : True := trivial
theorem top.tw14459580976405569124 : True := trivial
theorem top.tw6286779285267259847 : True := trivial
theorem top.tw3186775038225222150 : True := trivial
theorem top.tw10404823597219466188 : True := trivial
theorem top.tw5105846836358774362 : True := trivial
theorem top.tw9800703332001039478 : True := trivial
theorem top.tw14608685727046917156 : True := trivial
theorem top.tw14917401599646851644 : True := trivial
theorem top.tw5597187220613765494 : True := trivial
theorem top.tw10090393231696489298 : True := trivial
theorem top.tw11430207588045935325 : True := trivial
theorem top.tw2732273902793177162 : True := trivial
theorem top.tw10773188271377071773 : True := trivial
theorem top.tw4186445540838780016 : True := trivial
theorem top.tw18164388396756303480 : True := trivial
theorem top.tw2249405535684624136 : True := trivial
theorem top.tw2812155379371279736 : True := trivial
theorem top.tw6749217079512962374 : True := trivial
theorem top.tw1732150942055357024 : True := trivial
theorem top.tw6187478851450931391 : True := trivial
theorem top.tw15878805988109762761 : True := trivial
theorem top.tw18086089286151905521 : True := trivial
theorem top.tw13120753694373217308 : True := trivial
theorem top.tw5155950481276406077 : True := trivial
theorem top.tw16541100652227675460 : True := trivial
theorem top.tw11279390925490393535 : True := trivial
theorem top.tw8538268897159353584 : True := trivial
theorem top.tw2287823674025257028 : True := trivial
theorem top.tw11546936639936008217 : True := trivial
theorem top.tw6491118196486620199 : True := trivial
theorem top.tw1492452104121835379 : True := trivial
theorem top.tw9378254376102152143 : True := trivial
theorem top.tw1736530178072539846 : True := trivial
theorem top.tw17470836177267949868 : True := trivial
theorem top.tw4498253355057717688 : True := trivial
theorem top.tw13303987763403120937 : True := trivial
theorem top.tw4656485037274611717 : True := trivial
theorem top.tw16273406610938067001 : True := trivial
theorem top.tw9759319705405543751 : True := trivial
theorem top.tw1047907039808853306 : True := trivial
theorem top.tw15860264024139754761 : True := trivial
theorem top.tw12540527436937284434 : True := trivial
theorem top.tw8813761850579938390 : True := trivial
theorem top.tw14502225709538309166 : True := trivial
theorem top.tw10567129059001840431 : True := trivial
theorem top.tw16420938139371093754 : True := trivial
theorem top.tw10996937224433265937 : True := trivial
theorem top.tw14851680436948445374 : True := trivial
theorem top.tw788273225186049534 : True := trivial
theorem top.tw14987219478266130788 : True := trivial
theorem top.tw10005945817407372193 : True := trivial
theorem top.tw2867133514656366558 : True := trivial
theorem top.tw7297446738713254254 : True := trivial
theorem top.tw17492772389151264855 : True := trivial
theorem top.tw814325599930780420 : True := trivial
theorem top.tw14597223018079223185 : True := trivial
theorem top.tw342308947776675178 : True := trivial
theorem top.tw9637101446671542 : True := trivial
theorem top.tw956942650209027819 : True := trivial
theorem top.tw15240379268576122478 : True := trivial
theorem top.tw8363718466572441477 : True := trivial
theorem top.tw6756868429301003459 : True := trivial
theorem top.tw10617020205504526918 : True := trivial
theorem top.tw9305691244287143441 : True := trivial
theorem top.tw8810280945414196856 : True := trivial
theorem top.tw8507776931139520737 : True := trivial
theorem top.tw15646934709686841381 : True := trivial
theorem top.tw15522273865916264288 : True := trivial
theorem top.tw9229161468869434483 : True := trivial
theorem top.tw795583310449317561 : True := trivial
theorem top.tw8443935842833279946 : True := trivial
theorem top.tw2741389259953327712 : True := trivial
theorem top.tw4166218997396506358 : True := trivial
theorem top.tw7458633546980236471 : True := trivial
theorem top.tw3195968871104189447 : True := trivial
theorem top.tw14971737761117006504 : True := trivial
theorem top.tw14611434983143301774 : True := trivial
theorem top.tw2514443458684651071 : True := trivial
theorem top.tw5523086135645875356 : True := trivial
theorem top.tw12385144161495827662 : True := trivial
theorem top.tw517144808224063464 : True := trivial
theorem top.tw12012865196380796599 : True := trivial
theorem top.tw11334415319851112604 : True := trivial
theorem top.tw13160728816969591200 : True := trivial
theorem top.tw17273134470429262220 : True := trivial
theorem top.tw575894324575664597 : True := trivial
theorem top.tw15362295582089109014 : True := trivial
theorem top.tw5868845118606482295 : True := trivial
theorem top.tw14861896470697024400 : True := trivial
theorem top.tw15177526630643400193 : True := trivial
theorem top.tw7855079511596107753 : True := trivial
theorem top.tw3776753064480771068 : True := trivial
theorem top.tw864819663365544661 : True := trivial
theorem top.tw81815255157605957 : True := trivial
theorem top.tw4571971715460732019 : True := trivial
theorem top.tw11028086866134049853 : True := trivial
theorem top.tw13091174067606910046 : True := trivial
theorem top.tw8345894832289464959 : True := trivial
theorem top.tw17486766287000646611 : True := trivial
theorem top.tw4970835505579070582 : True := trivial
theorem top.tw15747283374172101067 : True := trivial
section
open PySem PySem.W PyProof.Rows
set_option Elab.async true in
set_option maxRecDepth 100000 in
set_option maxHeartbeats 8000000 in
theorem top : PySem.Challenge.rw_wb0077_01.Holds := by
  w_on
  o_law
  k_head
  case hw => w_witness2
  k_go0
  rename_i o5 o4 o3 o2 o1 e5 e4 e3 e2 e1 X0 XK TT KB FF c41 NN ll
  refine Mine.law_ends (Mine.HG.mk XK TT.g TT.b TT.builtins TT.nolimit TT.bmain codeHd c41) ?hk FF ?hm ll NN ?h1 ?h2 ?h3 ?h4 ?h5 lifted (by assumption) ?hn ?fin
  case h1 => exact e1
  case h2 => exact e2
  case h3 => exact e3
  case h4 => exact e4
  case h5 => exact e5
  case hm => rfl
  case hn => omega
  case fin =>
    intro h' tk m' F Gr
    exact ⟨goodW_bool F (by assumption) (raisesW_false (by wrow_none_raised)) (by wrow_post), Gr⟩
  case hk =>
    refine ⟨⟨rfl, rfl, rfl, rfl, rfl, rfl, rfl, rfl, rfl, rfl⟩, ⟨rfl, rfl, rfl, rfl, rfl, rfl, rfl, rfl, rfl, rfl⟩, ⟨rfl, rfl, rfl, rfl, rfl, rfl, rfl, rfl, rfl, rfl⟩, ⟨rfl, rfl, rfl, rfl, rfl, rfl, rfl, rfl, rfl, rfl⟩, ⟨rfl, rfl, rfl, rfl, rfl, rfl, rfl, rfl, rfl, rfl⟩, ⟨rfl, rfl, rfl, rfl, rfl, rfl, rfl, rfl, rfl, rfl⟩, ⟨rfl, rfl, rfl, rfl, rfl, rfl, rfl, rfl, rfl, rfl⟩, ⟨rfl, rfl, rfl, rfl, rfl, rfl, rfl, rfl, rfl, rfl⟩, ⟨rfl, rfl, rfl, rfl, rfl, rfl, rfl, rfl, rfl, rfl⟩, ⟨rfl, rfl, rfl, rfl, rfl, rfl, rfl, rfl, rfl, rfl⟩, ⟨rfl, rfl, rfl, rfl, rfl, rfl, rfl, rfl, rfl, rfl⟩, ⟨rfl, rfl, rfl, rfl, rfl, rfl, rfl, rfl, rfl, rfl⟩, ⟨rfl, rfl, rfl, rfl, rfl, rfl, rfl, rfl, rfl, rfl⟩, ⟨rfl, rfl, rfl, rfl, rfl, rfl, rfl, rfl, rfl, rfl⟩, ⟨rfl, rfl, rfl, rfl, rfl, rfl, rfl, rfl, rfl, rfl⟩, ⟨rfl, rfl, rfl, rfl, rfl, rfl, rfl, rfl, rfl, rfl⟩, ⟨rfl, rfl, rfl, rfl, rfl, rfl, rfl, rfl, rfl, rfl⟩, ⟨rfl, rfl, rfl, rfl, rfl, rfl, rfl, rfl, rfl, rfl⟩, ⟨rfl, rfl, rfl, rfl, rfl, rfl, rfl, rfl, rfl, rfl⟩, ⟨rfl, rfl, rfl, rfl, rfl, rfl, rfl, rfl, rfl, rfl⟩, ⟨rfl, rfl, rfl, rfl, rfl, rfl, rfl, rfl, rfl, rfl⟩, rfl, rfl, rfl, rfl, ⟨_, rfl⟩, ⟨_, rfl⟩, ⟨_, rfl⟩, rfl, rfl, rfl, rfl, rfl, rfl, rfl, rfl, rfl, rfl, rfl, rfl, rfl, rfl, rfl, rfl, rfl, rfl, rfl, rfl, rfl, rfl, rfl, rfl, rfl, rfl, rfl, rfl, rfl, rfl, rfl, rfl, rfl, _, _, rfl, ?_, ?_⟩
    · repeat (first | exact trivial | refine And.intro (Exists.intro _ (Exists.intro _ (And.intro rfl rfl))) ?_)
    · repeat (first | exact Mine.TokR.nil | refine Mine.TokR.cons ?_)

end
end Mine
theorem PySem.Challenge.cw_wb0077_01_holds : PySem.Challenge.rw_wb0077_01.Holds := by
  exact Mine.top
